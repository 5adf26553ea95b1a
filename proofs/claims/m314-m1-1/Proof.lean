import JvmDerived
import JvmDerived.Pilot.@@N@@Statement
import JvmDerived.Pilot.@@N@@Code
set_option linter.unusedVariables false
set_option linter.unusedSimpArgs false

namespace Jvm.RoadKit
open Sem ClassFile Op Lib Jvm.Stand Jvm.Free Jvm.LawKit
/-- the run from S comes to an end that K allows -/
def own_G (p : Program) (e : Env) (below : List Frame) (K : Outcome → State → Prop) (S : State) : Prop := ∃ s₂ o, Steps p.tables e below S s₂ ∧ s₂.status = .running ∧ Ended s₂ below o ∧ K o s₂
section Own
variable {p : Program} {l : Launch} {e : Env} {R : Room} {s : State} {m : MethodId} {args : Array Value} {below : List Frame} {meth : Method} {c : Code} {T : State} {locs : List Loc} {cells slots : Nat} {K : Outcome → State → Prop} {S S' : State}
theorem own_go (h : ∀ t, Steps p.tables e below S' t → Steps p.tables e below S t) (g : own_G p e below K S') : own_G p e below K S := by
  obtain ⟨s₂, o, h1, h2⟩ := g; exact ⟨s₂, o, h _ h1, h2⟩
theorem own_tr (h : Steps p.tables e below S S') (g : own_G p e below K S') : own_G p e below K S := by
  obtain ⟨s₂, o, h1, h2⟩ := g; exact ⟨s₂, o, h.trans h1, h2⟩
theorem own_cast {g g' : JFrame} (q : g = g') (k : own_G p e below K (T.setTop g')) : own_G p e below K (T.setTop g) := q ▸ k
theorem own_end {v : Option Value} (X : Stand p l e R s m args below meth c T locs cells slots) (hv : meth.sig.returnType = none → v = none) (hlocks : meth.locks = false)
    (hst : ∀ fs, (∀ (f : JFrame) (acts : List Action), f.method = m → f.locked = none → f.entered = [] → (doReturn e (T.setTop f) acts v).1 = T.setFrames fs) → Steps p.tables e below S (T.setFrames fs))
    (hk : ∀ U : State, U.heap = T.heap → U.vm = T.vm → FrameEnd s (.returned v) U locs cells slots → K (.returned v) U) : own_G p e below K S := by
  obtain ⟨fs, hr, hrun, hended, hW, hsame⟩ := X.leave (v := v) hv hlocks
  exact ⟨_, _, hst fs hr, hrun, hended, hk _ rfl rfl ⟨⟨_, rfl⟩, hW, hsame⟩⟩
theorem own_retN (X : Stand p l e R s m args below meth c T locs cells slots) (hx : p.tables.exec = Jvm.exec) (hlocks : meth.locks = false) {pc : Nat} {Ls : Array Slot} {z z' : Int32} {t : FieldType} {rest : List Value} (hret : meth.sig.returnType = some t) (ht : t = .boolean ∨ t = .byte ∨ t = .char ∨ t = .short)
    (hd : decode c.code pc = .ok (.ireturn, 1)) (hz : nar t z = z') (hk : ∀ U : State, U.heap = T.heap → U.vm = T.vm → FrameEnd s (.returned (some (.int z'))) U locs cells slots → K (.returned (some (.int z'))) U) :
    own_G p e below K (T.setTop (mkF m pc Ls (.int z :: rest))) := by
  subst hz
  exact own_end X (fun h => by rw [hret] at h; cases h) hlocks (fun fs hr => retN X hx hret ht hd hr) hk
theorem own_retI (X : Stand p l e R s m args below meth c T locs cells slots) (hx : p.tables.exec = Jvm.exec) (hlocks : meth.locks = false) {pc : Nat} {Ls : Array Slot} {z : Int32} {rest : List Value} (hret : meth.sig.returnType = some .int)
    (hd : decode c.code pc = .ok (.ireturn, 1)) (hk : ∀ U : State, U.heap = T.heap → U.vm = T.vm → FrameEnd s (.returned (some (.int z))) U locs cells slots → K (.returned (some (.int z))) U) :
    own_G p e below K (T.setTop (mkF m pc Ls (.int z :: rest))) :=
  own_end X (fun h => by rw [hret] at h; cases h) hlocks (fun fs hr => retOut X hx hret rfl (Or.inl ⟨rfl, Or.inl rfl, z, rfl⟩) hd hr) hk
theorem own_retJ (X : Stand p l e R s m args below meth c T locs cells slots) (hx : p.tables.exec = Jvm.exec) (hlocks : meth.locks = false) {pc : Nat} {Ls : Array Slot} {z : Int64} {rest : List Value} (hret : meth.sig.returnType = some .long)
    (hd : decode c.code pc = .ok (.lreturn, 1)) (hk : ∀ U : State, U.heap = T.heap → U.vm = T.vm → FrameEnd s (.returned (some (.long z))) U locs cells slots → K (.returned (some (.long z))) U) :
    own_G p e below K (T.setTop (mkF m pc Ls (.long z :: rest))) :=
  own_end X (fun h => by rw [hret] at h; cases h) hlocks (fun fs hr => retOut X hx hret rfl (Or.inr (Or.inl ⟨rfl, rfl, z, rfl⟩)) hd hr) hk
theorem own_retR (X : Stand p l e R s m args below meth c T locs cells slots) (hx : p.tables.exec = Jvm.exec) (hlocks : meth.locks = false) {pc : Nat} {Ls : Array Slot} {w : Value} {t : FieldType} {rest : List Value} (hret : meth.sig.returnType = some t) (ht : t.isReference = true) (hw : w.isRef = true)
    (hd : decode c.code pc = .ok (.areturn, 1)) (hk : ∀ U : State, U.heap = T.heap → U.vm = T.vm → FrameEnd s (.returned (some w)) U locs cells slots → K (.returned (some w)) U) :
    own_G p e below K (T.setTop (mkF m pc Ls (w :: rest))) :=
  own_end X (fun h => by rw [hret] at h; cases h) hlocks (fun fs hr => retOut X hx hret (by cases w <;> cases t <;> first | rfl | simp [Value.isRef, FieldType.isReference] at hw ht) (Or.inr (Or.inr (Or.inr (Or.inr ⟨rfl, ht, hw⟩)))) hd hr) hk
theorem own_retV (X : Stand p l e R s m args below meth c T locs cells slots) (hx : p.tables.exec = Jvm.exec) (hlocks : meth.locks = false) {pc : Nat} {Ls : Array Slot} (hret : meth.sig.returnType = none)
    (hd : decode c.code pc = .ok (.return_, 1)) (hk : ∀ U : State, U.heap = T.heap → U.vm = T.vm → FrameEnd s (.returned none) U locs cells slots → K (.returned none) U) :
    own_G p e below K (T.setTop (mkF m pc Ls [])) :=
  own_end X (fun _ => rfl) hlocks (fun fs hr => X.returnOut hx hret hd hr) hk
theorem own_endW {vm₁ : Vm} {v : Option Value} {n : Nat} (X : Stand p l e R (s.setVm vm₁) m args below meth c T locs cells slots) (hS : s.Since vm₁ n) (hn : n ≤ T.heap.size) (hv : meth.sig.returnType = none → v = none) (hlocks : meth.locks = false)
    (hst : ∀ fs, (∀ (f : JFrame) (acts : List Action), f.method = m → f.locked = none → f.entered = [] → (doReturn e (T.setTop f) acts v).1 = T.setFrames fs) → Steps p.tables e below S (T.setFrames fs))
    (hk : ∀ U : State, U.heap = T.heap → U.vm = T.vm → ReturnedEndW s (.returned v) U locs cells slots → K (.returned v) U) : own_G p e below K S := by
  obtain ⟨fs, hr, hrun, hended, hW⟩ := X.leaveW hS hn (v := v) hv hlocks
  exact ⟨_, _, hst fs hr, hrun, hended, hk _ rfl rfl hW⟩
theorem own_retNW {vm₁ : Vm} {n : Nat} (X : Stand p l e R (s.setVm vm₁) m args below meth c T locs cells slots) (hS : s.Since vm₁ n) (hn : n ≤ T.heap.size) (hx : p.tables.exec = Jvm.exec) (hlocks : meth.locks = false) {pc : Nat} {Ls : Array Slot} {z z' : Int32} {t : FieldType} {rest : List Value} (hret : meth.sig.returnType = some t) (ht : t = .boolean ∨ t = .byte ∨ t = .char ∨ t = .short)
    (hd : decode c.code pc = .ok (.ireturn, 1)) (hz : nar t z = z') (hk : ∀ U : State, U.heap = T.heap → U.vm = T.vm → ReturnedEndW s (.returned (some (.int z'))) U locs cells slots → K (.returned (some (.int z'))) U) :
    own_G p e below K (T.setTop (mkF m pc Ls (.int z :: rest))) := by
  subst hz
  exact own_endW X hS hn (fun h => by rw [hret] at h; cases h) hlocks (fun fs hr => retN X hx hret ht hd hr) hk
theorem own_retIW {vm₁ : Vm} {n : Nat} (X : Stand p l e R (s.setVm vm₁) m args below meth c T locs cells slots) (hS : s.Since vm₁ n) (hn : n ≤ T.heap.size) (hx : p.tables.exec = Jvm.exec) (hlocks : meth.locks = false) {pc : Nat} {Ls : Array Slot} {z : Int32} {rest : List Value} (hret : meth.sig.returnType = some .int)
    (hd : decode c.code pc = .ok (.ireturn, 1)) (hk : ∀ U : State, U.heap = T.heap → U.vm = T.vm → ReturnedEndW s (.returned (some (.int z))) U locs cells slots → K (.returned (some (.int z))) U) :
    own_G p e below K (T.setTop (mkF m pc Ls (.int z :: rest))) :=
  own_endW X hS hn (fun h => by rw [hret] at h; cases h) hlocks (fun fs hr => retOut X hx hret rfl (Or.inl ⟨rfl, Or.inl rfl, z, rfl⟩) hd hr) hk
theorem own_retRW {vm₁ : Vm} {n : Nat} (X : Stand p l e R (s.setVm vm₁) m args below meth c T locs cells slots) (hS : s.Since vm₁ n) (hn : n ≤ T.heap.size) (hx : p.tables.exec = Jvm.exec) (hlocks : meth.locks = false) {pc : Nat} {Ls : Array Slot} {w : Value} {t : FieldType} {rest : List Value} (hret : meth.sig.returnType = some t) (ht : t.isReference = true) (hw : w.isRef = true)
    (hd : decode c.code pc = .ok (.areturn, 1)) (hk : ∀ U : State, U.heap = T.heap → U.vm = T.vm → ReturnedEndW s (.returned (some w)) U locs cells slots → K (.returned (some w)) U) :
    own_G p e below K (T.setTop (mkF m pc Ls (w :: rest))) :=
  own_endW X hS hn (fun h => by rw [hret] at h; cases h) hlocks (fun fs hr => retOut X hx hret (by cases w <;> cases t <;> first | rfl | simp [Value.isRef, FieldType.isReference] at hw ht) (Or.inr (Or.inr (Or.inr (Or.inr ⟨rfl, ht, hw⟩)))) hd hr) hk
theorem own_retVW {vm₁ : Vm} {n : Nat} (X : Stand p l e R (s.setVm vm₁) m args below meth c T locs cells slots) (hS : s.Since vm₁ n) (hn : n ≤ T.heap.size) (hx : p.tables.exec = Jvm.exec) (hlocks : meth.locks = false) {pc : Nat} {Ls : Array Slot} (hret : meth.sig.returnType = none)
    (hd : decode c.code pc = .ok (.return_, 1)) (hk : ∀ U : State, U.heap = T.heap → U.vm = T.vm → ReturnedEndW s (.returned none) U locs cells slots → K (.returned none) U) :
    own_G p e below K (T.setTop (mkF m pc Ls [])) :=
  own_endW X hS hn (fun _ => rfl) hlocks (fun fs hr => X.returnOut hx hret hd hr) hk
end Own
end Jvm.RoadKit
/- laws to paste: Road.eqW (cut by pick.py; bodies as the Statement names them) -/
namespace Jvm.Pilot.@@N@@
namespace StrChars
open Jvm Sem ClassFile Op Lib Jvm.Stand Jvm.Free.XT Jvm.Free.ALB Jvm.Free.JM Jvm.Free
open Jvm.Lib.Cold (StaticIs)
/-- the byte that i2b leaves of a char -/
def lo8 (x : Int32) : Int32 := x.toInt8.toInt32
theorem fits_lo8 (y : Int32) : fits .byte (.int (lo8 y)) = true := by
  have h1 := y.toInt8.le_toInt
  have h2 := y.toInt8.toInt_lt
  simp only [lo8, fits, Bool.and_eq_true, decide_eq_true_eq, Int32.le_iff_toInt_le, Int8.toInt_toInt32, show (-128 : Int32).toInt = -128 from by decide, show (127 : Int32).toInt = 127 from by decide]
  omega
def U16 : String := "java/lang/StringUTF16"
/-- the byte, read back as charAt reads it, is the char -/
theorem lo8_mask {x : Int32} (h0 : ¬ x < 0) (h1 : ¬ 255 < x) : lo8 x &&& 255 = x := by
  have t : ∀ k : Fin 256, lo8 (Int32.ofNat k.val) &&& 255 = Int32.ofNat k.val := by decide +kernel
  rw [Int32.lt_iff_toInt_lt] at h0 h1
  have e0 : (0 : Int32).toInt = 0 := rfl
  have e1 : (255 : Int32).toInt = 255 := rfl
  obtain ⟨k, hk⟩ : ∃ k : Nat, x.toInt = k := ⟨x.toInt.toNat, by omega⟩
  have hx : x = Int32.ofNat k := Int32.toInt_inj.mp (by rw [hk, Int32.toInt_ofNat_small (by omega)])
  rw [hx]
  exact t ⟨k, by omega⟩
end StrChars
namespace StrChars.Road
open Jvm Sem ClassFile Op Lib Jvm.Stand Jvm.Free Jvm.Free.XT
open Jvm.Lib.Cold (StaticIs)
abbrev ST : String := "java/lang/String"

end StrChars.Road
namespace StrChars
open Jvm Sem ClassFile Op Lib Jvm.Stand Jvm.Free.XT Jvm.Free.ALB Jvm.Free.JM Jvm.Free
open Jvm.Lib.Cold (StaticIs)
def hi8 (x : Int32) : Int32 := lo8 (x >>> ((8 : Int32) &&& 31))
/-- what StringUTF16.getChar makes of two bytes -/
def pairCh (u v : Int32) : Int32 := (((u &&& 255) <<< ((0 : Int32) &&& 31)) ||| ((v &&& 255) <<< ((8 : Int32) &&& 31))).toUInt32.toUInt16.toUInt32.toInt32
theorem lo8_and (x : Int32) : (lo8 x &&& 255).toBitVec.toNat = x.toBitVec.toNat % 256 := by
  have h : (lo8 x).toBitVec = (x.toBitVec.signExtend 8).signExtend 32 := by rw [lo8, Int8.toBitVec_toInt32, Int32.toBitVec_toInt8]
  rw [Int32.toBitVec_and, BitVec.toNat_and, h]
  have e : ((x.toBitVec.signExtend 8).signExtend 32).toNat % 256 = x.toBitVec.toNat % 256 := by
    rw [BitVec.toNat_signExtend]
    have hlt := x.toBitVec.isLt
    simp only [BitVec.toNat_setWidth, BitVec.toNat_signExtend]
    split <;> split <;> omega
  rw [← e]
  exact Nat.and_two_pow_sub_one_eq_mod _ 8
theorem pair_says {c : Int32} (h0 : ¬ c < 0) (h1 : ¬ 65535 < c) : pairCh (lo8 c) (hi8 c) = c := by
  rw [Int32.lt_iff_toInt_lt] at h0 h1
  have e0 : (0 : Int32).toInt = 0 := rfl
  have e1 : (65535 : Int32).toInt = 65535 := rfl
  have hc : c.toInt = c.toBitVec.toNat := by
    have := c.toBitVec.isLt
    have e : c.toInt = c.toBitVec.toInt := rfl
    rw [e] at h0 h1
    rw [e]
    rw [BitVec.toInt_eq_toNat_cond] at h0 h1 ⊢
    split at h0 <;> split <;> omega
  have hn : c.toBitVec.toNat < 65536 := by omega
  have a1 := lo8_and c
  have a2 : (hi8 c &&& 255).toBitVec.toNat = c.toBitVec.toNat / 256 := by
    rw [hi8, lo8_and]
    have e : ((8 : Int32) &&& 31) = 8 := by decide
    rw [e, Int32.toBitVec_shiftRight]
    have e2 : ((8 : Int32).toBitVec.smod 32) = 8#32 := by decide
    rw [e2, BitVec.sshiftRight_eq', BitVec.toNat_sshiftRight_of_msb_false (by rw [BitVec.msb_eq_false_iff_two_mul_lt]; omega)]
    show c.toBitVec.toNat >>> 8 % 256 = _
    rw [Nat.shiftRight_eq_div_pow]
    omega
  unfold pairCh
  apply Int32.toBitVec_inj.mp
  apply BitVec.eq_of_toNat_eq
  have f0 : ((0 : Int32) &&& 31) = 0 := by decide
  have f8 : ((8 : Int32) &&& 31) = 8 := by decide
  rw [f0, f8]
  have g : (((lo8 c &&& 255) <<< (0 : Int32)) ||| ((hi8 c &&& 255) <<< (8 : Int32))).toBitVec.toNat = c.toBitVec.toNat := by
    rw [Int32.toBitVec_or, Int32.toBitVec_shiftLeft, Int32.toBitVec_shiftLeft]
    have s0 : ((0 : Int32).toBitVec.smod 32) = 0#32 := by decide
    have s8 : ((8 : Int32).toBitVec.smod 32) = 8#32 := by decide
    rw [s0, s8, BitVec.toNat_or]
    simp only [BitVec.shiftLeft_eq', BitVec.toNat_shiftLeft, a1, a2]
    show (c.toBitVec.toNat % 256) <<< 0 % 2 ^ 32 ||| (c.toBitVec.toNat / 256) <<< 8 % 2 ^ 32 = _
    rw [Nat.shiftLeft_zero, Nat.mod_eq_of_lt (show c.toBitVec.toNat % 256 < 2 ^ 32 by omega), Nat.mod_eq_of_lt (show (c.toBitVec.toNat / 256) <<< 8 < 2 ^ 32 by rw [Nat.shiftLeft_eq]; omega), Nat.or_comm, ← Nat.shiftLeft_add_eq_or_of_lt (by omega), Nat.shiftLeft_eq]
    omega
  show BitVec.toNat (((((lo8 c &&& 255) <<< (0 : Int32)) ||| ((hi8 c &&& 255) <<< (8 : Int32))).toBitVec.setWidth 16).setWidth 32) = _
  rw [BitVec.toNat_setWidth, BitVec.toNat_setWidth, g]
  omega
end StrChars
namespace StrChars
open Jvm Sem ClassFile Op Lib Jvm.Stand Jvm.Free.XT Jvm.Free.ALB Jvm.Free.JM Jvm.Free
open Jvm.Lib.Cold (StaticIs)
/-- the array's cell V codes the n chars f 0 .. f (n - 1) by the coder cd, as the JDK does: coder 1 just where some char is above 255 -/
def Cod (cd : Int32) (n : Nat) (f : Nat → Int32) (V : Cell) : Prop := (cd = 0 ∧ V.slots.size = n ∧ ∀ j, j < n → V.slots[j]? = some (.int (lo8 (f j))) ∧ ¬ 255 < f j) ∨ (cd = 1 ∧ V.slots.size = 2 * n ∧ (∀ j, j < n → V.slots[2 * j]? = some (.int (lo8 (f j))) ∧ V.slots[2 * j + 1]? = some (.int (hi8 (f j)))) ∧ ∃ j, j < n ∧ 255 < f j)
/-- **x is a String of the n chars f 0 .. f (n - 1)**, Latin-1 or UTF-16; its array at t has the cell V -/
def Txt (x t : Addr) (V : Cell) (cd : Int32) (n : Nat) (f : Nat → Int32) (U : State) : Prop := Exact "java/lang/String" x U ∧ Has x "java/lang/String" "value" "[B" (.ref t) U ∧ Has x "java/lang/String" "coder" "B" (.int cd) U ∧ XT.Arr .byte t V U ∧ Cod cd n f V ∧ ∀ j, j < n → ¬ f j < 0 ∧ ¬ 65535 < f j
theorem Txt.mv {x t : Addr} {V : Cell} {cd : Int32} {n : Nat} {f : Nat → Int32} {U U' : State} (h : Txt x t V cd n f U) (hal : U.vm.Alike U'.vm) (hh : U'.heap = U.heap) : Txt x t V cd n f U' := ⟨h.1.mv hal hh, h.2.1.mv hal hh, h.2.2.1.mv hal hh, h.2.2.2.1.mv hal hh, h.2.2.2.2⟩
end StrChars
namespace StrChars.Road
open Jvm Sem ClassFile Op Lib Jvm.Stand Jvm.Free Jvm.Free.XT
open Jvm.Lib.Cold (StaticIs)
theorem consq {a : Array Value} {s : State} {c : Jvm.Cond} {L : List Jvm.Cond} (h0 : c.before a s = true) (h : ∀ w ∈ L, w.before a s = true) : ∀ w ∈ c :: L, w.before a s = true := fun w hw => (List.mem_cons.mp hw).elim (fun e => e ▸ h0) (h w)
/-- the bytes of the chars cs, low before high -/
def wideBytes : List Int32 → List Value
  | [] => []
  | c :: cs => .int (lo8 c) :: .int (hi8 c) :: wideBytes cs
theorem wide_lo (d : Value) : ∀ (cs : List Int32) (j : Nat), j < cs.length → (wideBytes cs).getD (2 * j) d = .int (lo8 (cs.getD j 0))
  | [], j, h => absurd h (Nat.not_lt_zero j)
  | c :: cs, 0, _ => rfl
  | c :: cs, j + 1, h => by
    have q := wide_lo d cs j (by simpa using h)
    rw [show 2 * (j + 1) = 2 * j + 1 + 1 from by omega]
    simpa [wideBytes] using q
theorem wide_hi (d : Value) : ∀ (cs : List Int32) (j : Nat), j < cs.length → (wideBytes cs).getD (2 * j + 1) d = .int (hi8 (cs.getD j 0))
  | [], j, h => absurd h (Nat.not_lt_zero j)
  | c :: cs, 0, _ => rfl
  | c :: cs, j + 1, h => by
    have q := wide_hi d cs j (by simpa using h)
    rw [show 2 * (j + 1) + 1 = 2 * j + 1 + 1 + 1 from by omega]
    simpa [wideBytes] using q
theorem low_at (d : Value) (cs : List Int32) (j : Nat) (h : j < cs.length) : (cs.map fun c => Value.int (lo8 c)).getD j d = .int (lo8 (cs.getD j 0)) := by
  simp [List.getD_eq_getElem?_getD, h]
/-- an array of N2 bytes vs codes the chars cs by the coder cd -/
def CodA (cs : List Int32) (cd N2 : Int32) (vs : List Value) : Prop := (cd = 0 ∧ N2 = Int32.ofNat cs.length ∧ vs = (cs.map fun c => Value.int (lo8 c)) ∧ ∀ c ∈ cs, ¬ 255 < c) ∨ (cd = 1 ∧ N2 = Int32.ofNat (2 * cs.length) ∧ vs = wideBytes cs ∧ ∃ c ∈ cs, 255 < c)
theorem CodA.cod {cs : List Int32} {cd N2 : Int32} {vs : List Value} {V : Cell} (h : CodA cs cd N2 vs) (hn : 2 * cs.length < 2 ^ 31) (hs : V.slots.size = N2.toNatClampNeg) (hv : RoadKit.Has V vs (.int 0)) : Cod cd cs.length (fun j => cs.getD j 0) V := by
  rcases h with ⟨rfl, rfl, rfl, h⟩ | ⟨rfl, rfl, rfl, c, hc, hw⟩
  · rw [n32 (by omega)] at hs
    exact Or.inl ⟨rfl, hs, fun j hj => ⟨by rw [hv j (by omega), low_at _ _ _ hj], by
      have e : cs.getD j 0 = cs[j] := by simp [List.getD_eq_getElem?_getD, hj]
      show ¬ 255 < cs.getD j 0
      rw [e]; exact h _ (List.getElem_mem _)⟩⟩
  · rw [n32 (by omega)] at hs
    obtain ⟨j, hj, rfl⟩ := List.getElem_of_mem hc
    exact Or.inr ⟨rfl, hs, fun j hj => ⟨by rw [hv _ (by omega), wide_lo _ _ _ hj], by rw [hv _ (by omega), wide_hi _ _ _ hj]⟩, j, hj, by
      have e : cs.getD j 0 = cs[j] := by simp [List.getD_eq_getElem?_getD, hj]
      show 255 < cs.getD j 0
      rw [e]; exact hw⟩
/-- an object of exactly java/lang/String, its two fields found: as the laws ask it -/
theorem strObj {Z U : State} {a0 : Array Value} {kI : Nat} (wi : (Jvm.Cond.instantiable ST kI).before a0 Z = true) (al : Z.vm.Alike U.vm) {x : Addr} {v0 c0 : Value} (E : RoadKit.Exa Z U.heap x ST) (V : RoadKit.Fld Z U.heap x ST "value" "[B" v0) (C : RoadKit.Fld Z U.heap x ST "coder" "B" c0) :
    ∃ (D : Cell) (fV fC : Field), Blank ST x D U ∧ Found ST "value" "[B" fV U ∧ Found ST "coder" "B" fC U ∧ D.slots[fV.slot]? = some v0 ∧ D.slots[fC.slot]? = some c0 ∧ RoadKit.slotOf Z ST "value" "[B" = fV.slot ∧ RoadKit.slotOf Z ST "coder" "B" = fC.slot := by
  obtain ⟨D, cfV, kV, iV, fV, hD, gV, stV, knV, obV, asV, slV⟩ := V
  obtain ⟨D', cfC, kC, iC, fC, hD', gC, stC, -, -, asC, slC⟩ := C
  cases hD.symm.trans hD'
  obtain ⟨D2, kD, e1, e2, e3, e4, e5⟩ := E
  cases hD.symm.trans e1
  obtain ⟨c2, k2, i1, i2, i3, -⟩ := Cond.instantiable_spec wi
  cases e2.symm.trans i1
  cases e3.symm.trans i2
  obtain ⟨kU, u1, u2⟩ := al.2.2 _ _ e3
  exact ⟨D, fV, fC, ⟨hD, ⟨knV, fun q hq => by rw [hq] at obV; cases obV⟩, by rw [al.findClass]; exact e2, kU, u1, by rw [u2]; exact i3, by rw [u2]; exact e5 i3⟩, ⟨SBG.found_only al ⟨cfV, kV, iV, gV⟩, stV⟩, ⟨SBG.found_only al ⟨cfC, kC, iC, gC⟩, stC⟩, slV, slC, by simp [RoadKit.slotOf, gV], by simp [RoadKit.slotOf, gC]⟩
theorem sta_is {Z U : State} (al : Z.vm.Alike U.vm) {C n d : String} {v : Value} (S : RoadKit.Sta Z U.heap C n d v) : StaticIs U C n d v := by
  obtain ⟨cfS, iS, kS, fS, st, cS, t1, t2, t3, t4, t5, t6, t7⟩ := S
  exact StaticIs.there (s := { Z with heap := U.heap }) ⟨cfS, iS, kS, fS, st, cS, t1, t2, t3, t4, t5, (fun q => by rw [q] at t6; cases t6), t7⟩ al rfl
end StrChars.Road
namespace StrChars
open Jvm Sem ClassFile Op Lib Jvm.Stand Jvm.Free.XT Jvm.Free.ALB Jvm.Free.JM Jvm.Free
open Jvm.Lib.Cold (StaticIs)
/-- what place i of a byte[]'s cell holds -/
def yv (A : Cell) (i : Nat) : Int32 := match A.slots[i]? with | some (.int x) => x | _ => 0
theorem yv_get {a : Addr} {A : Cell} {U : State} (h : XT.Arr .byte a A U) (ht : Typed .byte A) {i : Nat} (hi : i < A.slots.size) : A.slots[i]? = some (.int (yv A i)) := by
  have e := Array.getElem?_eq_getElem hi
  have f := ht i _ e
  unfold yv; rw [e]
  generalize A.slots[i] = v at f
  cases v <;> simp [fits] at f ⊢
/-- the two arrays are equal, place for place -/
def EqC (A B : Cell) : Prop := A.slots.size = B.slots.size ∧ ∀ i, i < A.slots.size → yv A i = yv B i
/-- a boolean that says whether p -/
def Says01 (q : Prop) (r : Option Value) (s u : State) : Prop := ∃ v : Int32, r = some (.int v) ∧ u.heap = s.heap ∧ ((v = 1 ∧ q) ∨ (v = 0 ∧ ¬ q))
theorem Says01.mv {q : Prop} : ∀ r (U U' V V' : State), U'.heap = U.heap → V.vm.Alike V'.vm → V'.heap = V.heap → Says01 q r U V → Says01 q r U' V' :=
  fun r U U' V V' h1 _ h2 ⟨v, a, b, c⟩ => ⟨v, a, by rw [h1, h2]; exact b, c⟩
namespace LEq
def yN : MethodName := ⟨"java/lang/StringLatin1", "equals", "([B[B)Z"⟩
abbrev yB : ByteArray := jdk_43_method_13_code
theorem d0 : decode yB 0 = .ok (.aload_n 0, 1) := by decide +kernel
theorem d1 : decode yB 1 = .ok (.arraylength, 1) := by decide +kernel
theorem d2 : decode yB 2 = .ok (.aload_n 1, 1) := by decide +kernel
theorem d3 : decode yB 3 = .ok (.arraylength, 1) := by decide +kernel
theorem d4 : decode yB 4 = .ok (.if_icmp (.ne) 30, 3) := by decide +kernel
theorem d7 : decode yB 7 = .ok (.iconst 0, 1) := by decide +kernel
theorem d8 : decode yB 8 = .ok (.istore_n 2, 1) := by decide +kernel
theorem d9 : decode yB 9 = .ok (.iload_n 2, 1) := by decide +kernel
theorem d10 : decode yB 10 = .ok (.aload_n 0, 1) := by decide +kernel
theorem d11 : decode yB 11 = .ok (.arraylength, 1) := by decide +kernel
theorem d12 : decode yB 12 = .ok (.if_icmp (.ge) 20, 3) := by decide +kernel
theorem d15 : decode yB 15 = .ok (.aload_n 0, 1) := by decide +kernel
theorem d16 : decode yB 16 = .ok (.iload_n 2, 1) := by decide +kernel
theorem d17 : decode yB 17 = .ok (.baload, 1) := by decide +kernel
theorem d18 : decode yB 18 = .ok (.aload_n 1, 1) := by decide +kernel
theorem d19 : decode yB 19 = .ok (.iload_n 2, 1) := by decide +kernel
theorem d20 : decode yB 20 = .ok (.baload, 1) := by decide +kernel
theorem d21 : decode yB 21 = .ok (.if_icmp (.eq) 5, 3) := by decide +kernel
theorem d24 : decode yB 24 = .ok (.iconst 0, 1) := by decide +kernel
theorem d25 : decode yB 25 = .ok (.ireturn, 1) := by decide +kernel
theorem d26 : decode yB 26 = .ok (.iinc 2 1, 3) := by decide +kernel
theorem d29 : decode yB 29 = .ok (.goto (-20), 3) := by decide +kernel
theorem d32 : decode yB 32 = .ok (.iconst 1, 1) := by decide +kernel
theorem d33 : decode yB 33 = .ok (.ireturn, 1) := by decide +kernel
theorem d34 : decode yB 34 = .ok (.iconst 0, 1) := by decide +kernel
theorem d35 : decode yB 35 = .ok (.ireturn, 1) := by decide +kernel
def site : List Cond := []
def tab : Cond := tabOf yN yB 3 (some .boolean) site
def P (a : Addr) (A : Cell) (b : Addr) (B : Cell) (args : Array Value) (s : State) : Prop := args = #[.ref a, .ref b] ∧ XT.Arr .byte a A s ∧ Typed .byte A ∧ XT.Arr .byte b B s ∧ Typed .byte B
/-- whether two byte[] are equal, place for place -/
theorem law (l : Launch) (a : Addr) (A : Cell) (b : Addr) (B : Cell) : Law l yN 2 2 0 0 yB 3 (some .boolean) site (P a A b B) (Says01 (EqC A B)) [] 0 0 := by
  refine Law.of_walk (plainFor_of_name (by decide +kernel)) (by decide +kernel) (by decide +kernel) (by decide) (fun _ _ h => by rw [h.1]; rfl) (fun _ U U' hal hh h => ⟨h.1, h.2.1.mv hal hh, h.2.2.1, h.2.2.2.1.mv hal hh, h.2.2.2.2⟩) (fun r U U' V V' h1 hal h2 h => Says01.mv r U U' V V' h1 hal h2 h) ?_
  intro p e s m args below meth c s₁ X0 hexec hbytes hml hret hlk hnm hown hh0 W hP
  obtain ⟨rfl, hA, tA, hB, tB⟩ := hP
  have a31 := hA.2.2.2
  have b31 := hB.2.2.2
  have hA0 := hA.mv X0.warmed.alike hh0
  have hB0 := hB.mv X0.warmed.alike hh0
  have c1 : Steps p.tables e below (s₁.setTop (entryFrame m #[.ref a, .ref b] 3)) (s₁.setTop (mkF m 0 #[.val (.ref a), .val (.ref b), .unset] [])) := entry rfl
  have c2 : Steps p.tables e below (s₁.setTop (entryFrame m #[.ref a, .ref b] 3)) (s₁.setTop (mkF m 4 #[.val (.ref a), .val (.ref b), .unset] [.int (Int32.ofNat B.slots.size), .int (Int32.ofNat A.slots.size)])) := c1.trans (by
    refine XS.aloadN X0.here hexec rfl (hb hbytes d0) rfl rfl ?_
    refine X0.alen hexec hA0 rfl rfl (hb hbytes d1) ?_
    refine XS.aloadN X0.here hexec rfl (hb hbytes d2) rfl rfl ?_
    refine X0.alen hexec hB0 rfl rfl (hb hbytes d3) ?_
    exact Steps.refl _)
  by_cases hs : A.slots.size = B.slots.size
  · have c3 : Steps p.tables e below (s₁.setTop (entryFrame m #[.ref a, .ref b] 3)) (s₁.setTop (mkF m 9 #[.val (.ref a), .val (.ref b), .val (.int 0)] [])) := c2.trans (by
      refine XS.icmpNo X0.here hexec rfl (hb hbytes d4) rfl (ii_ne_f (by rw [hs])) ?_
      refine iconstV X0.here hexec rfl 0 (hb hbytes d7) (by decide) ?_
      refine XS.istoreN X0.here hexec rfl (hb hbytes d8) rfl rfl ?_
      exact Steps.refl _)
    have loop : ∀ (r i : Nat), i + r = A.slots.size → (∀ j, j < i → yv A j = yv B j) → Steps p.tables e below (s₁.setTop (entryFrame m #[.ref a, .ref b] 3)) (s₁.setTop (mkF m 9 #[.val (.ref a), .val (.ref b), .val (.int (Int32.ofNat i))] [])) → ∃ (pc : Nat) (Ls : Array Slot) (v : Int32), (pc = 25 ∨ pc = 33) ∧ ((v = 1 ∧ EqC A B) ∨ (v = 0 ∧ ¬ EqC A B)) ∧ Steps p.tables e below (s₁.setTop (entryFrame m #[.ref a, .ref b] 3)) (s₁.setTop (mkF m pc Ls [.int v])) := by
      intro r
      induction r with
      | zero =>
        intro i hi he cl
        exact ⟨33, _, 1, Or.inr rfl, Or.inl ⟨rfl, hs, fun j hj => he j (by omega)⟩, cl.trans (by
          refine XS.iloadN X0.here hexec rfl (hb hbytes d9) rfl ?_
          refine XS.aloadN X0.here hexec rfl (hb hbytes d10) rfl rfl ?_
          refine X0.alen hexec hA0 rfl rfl (hb hbytes d11) ?_
          refine XS.icmpYes X0.here hexec rfl (pc0 := 12) rfl (hb hbytes d12) rfl (ii_ge_t (nlt32 (by omega) (by omega))) (by decide) rfl ?_
          refine iconstV X0.here hexec rfl 1 (hb hbytes d32) (by decide) ?_
          exact Steps.refl _)⟩
      | succ r ih =>
        intro i hi he cl
        have c4 : Steps p.tables e below (s₁.setTop (entryFrame m #[.ref a, .ref b] 3)) (s₁.setTop (mkF m 21 #[.val (.ref a), .val (.ref b), .val (.int (Int32.ofNat i))] [.int (yv B i), .int (yv A i)])) := cl.trans (by
          refine XS.iloadN X0.here hexec rfl (hb hbytes d9) rfl ?_
          refine XS.aloadN X0.here hexec rfl (hb hbytes d10) rfl rfl ?_
          refine X0.alen hexec hA0 rfl rfl (hb hbytes d11) ?_
          refine XS.icmpNo X0.here hexec rfl (hb hbytes d12) rfl (ii_ge_f (lt32 (by omega) (by omega))) ?_
          refine XS.aloadN X0.here hexec rfl (hb hbytes d15) rfl rfl ?_
          refine XS.iloadN X0.here hexec rfl (hb hbytes d16) rfl ?_
          refine X0.aget hexec hA0 rfl (yv_get hA tA (i := i) (by omega)) rfl rfl (hb hbytes d17) ?_
          refine XS.aloadN X0.here hexec rfl (hb hbytes d18) rfl rfl ?_
          refine XS.iloadN X0.here hexec rfl (hb hbytes d19) rfl ?_
          refine X0.aget hexec hB0 rfl (yv_get hB tB (i := i) (by omega)) rfl rfl (hb hbytes d20) ?_
          exact Steps.refl _)
        by_cases hv : yv A i = yv B i
        · have c5 : Steps p.tables e below (s₁.setTop (entryFrame m #[.ref a, .ref b] 3)) (s₁.setTop (mkF m 9 #[.val (.ref a), .val (.ref b), .val (.int (Int32.ofNat i + 1))] [])) := c4.trans (by
            refine XS.icmpYes X0.here hexec rfl (pc0 := 21) rfl (hb hbytes d21) rfl (ii_eq_t hv) (by decide) rfl ?_
            refine iincV X0.here hexec rfl 1 (hb hbytes d26) (by decide) rfl rfl ?_
            refine XS.goto X0.here hexec rfl (pc0 := 29) rfl (hb hbytes d29) (by decide) rfl ?_
            exact Steps.refl _)
          rw [succ32] at c5
          exact ih (i + 1) (by omega) (fun j hj => by
            by_cases e : j = i
            · rw [e]; exact hv
            · exact he j (by omega)) c5
        · exact ⟨25, _, 0, Or.inl rfl, Or.inr ⟨rfl, fun q => hv (q.2 i (by omega))⟩, c4.trans (by
            refine XS.icmpNo X0.here hexec rfl (hb hbytes d21) rfl (ii_eq_f hv) ?_
            refine iconstV X0.here hexec rfl 0 (hb hbytes d24) (by decide) ?_
            exact Steps.refl _)⟩
    obtain ⟨pc, Ls, v, hpc, hv, cz⟩ := loop A.slots.size 0 (by omega) (fun j hj => absurd hj (Nat.not_lt_zero j)) c3
    have nv : narrow .boolean (.int v) = .int v := by rcases hv with ⟨rfl, -⟩ | ⟨rfl, -⟩ <;> rfl
    rcases hpc with rfl | rfl
    · exact ⟨s₁, some (.int v), _, _, _, X0, rfl, rfl, rfl, (fun h => by cases h), ⟨v, rfl, hh0, hv⟩, fun fs hl => cz.trans (X0.ireturnOut hexec hret nv (Or.inr (Or.inl rfl)) (hb hbytes d25) hl)⟩
    · exact ⟨s₁, some (.int v), _, _, _, X0, rfl, rfl, rfl, (fun h => by cases h), ⟨v, rfl, hh0, hv⟩, fun fs hl => cz.trans (X0.ireturnOut hexec hret nv (Or.inr (Or.inl rfl)) (hb hbytes d33) hl)⟩
  · have c3 : Steps p.tables e below (s₁.setTop (entryFrame m #[.ref a, .ref b] 3)) (s₁.setTop (mkF m 35 #[.val (.ref a), .val (.ref b), .unset] [.int 0])) := c2.trans (by
      refine XS.icmpYes X0.here hexec rfl (pc0 := 4) rfl (hb hbytes d4) rfl (ii_ne_t (ne32 a31 b31 hs)) (by decide) rfl ?_
      refine iconstV X0.here hexec rfl 0 (hb hbytes d34) (by decide) ?_
      exact Steps.refl _)
    exact ⟨s₁, some (.int 0), _, _, _, X0, rfl, rfl, rfl, (fun h => by cases h), ⟨0, rfl, hh0, Or.inr ⟨rfl, fun q => hs q.1⟩⟩, fun fs hl => c3.trans (X0.ireturnOut hexec hret rfl (Or.inr (Or.inl rfl)) (hb hbytes d35) hl)⟩
end LEq
theorem Cod.ty {cd : Int32} {n : Nat} {f : Nat → Int32} {V : Cell} (h : Cod cd n f V) : Typed .byte V := fun i v hv => by
  have hi : i < V.slots.size := (Array.getElem?_eq_some_iff.mp hv).1
  rcases h with ⟨-, k1, k2⟩ | ⟨-, k1, k2, -⟩
  · rw [(k2 i (by omega)).1] at hv; cases hv; exact fits_lo8 _
  · rcases Nat.mod_two_eq_zero_or_one i with e | e
    · obtain ⟨j, rfl⟩ : ∃ j, i = 2 * j := ⟨i / 2, by omega⟩
      rw [(k2 j (by omega)).1] at hv; cases hv; exact fits_lo8 _
    · obtain ⟨j, rfl⟩ : ∃ j, i = 2 * j + 1 := ⟨i / 2, by omega⟩
      rw [(k2 j (by omega)).2] at hv; cases hv; exact fits_lo8 _
/-- the same text -/
def SameT (n : Nat) (f : Nat → Int32) (k : Nat) (g : Nat → Int32) : Prop := n = k ∧ ∀ j, j < n → f j = g j
theorem lo8_inj {x y : Int32} (h0 : ¬ x < 0) (h1 : ¬ 255 < x) (k0 : ¬ y < 0) (k1 : ¬ 255 < y) (h : lo8 x = lo8 y) : x = y := by
  rw [← lo8_mask h0 h1, ← lo8_mask k0 k1, h]
/-- arrays coded by one coder are equal just where the texts are -/
theorem Cod.eqv {cd : Int32} {n k : Nat} {f g : Nat → Int32} {V V' : Cell} (h : Cod cd n f V) (h' : Cod cd k g V') (hf : ∀ j, j < n → ¬ f j < 0 ∧ ¬ 65535 < f j) (hg : ∀ j, j < k → ¬ g j < 0 ∧ ¬ 65535 < g j) : EqC V V' ↔ SameT n f k g := by
  have yvv : ∀ {W : Cell} {i : Nat} {x : Int32}, W.slots[i]? = some (.int x) → yv W i = x := fun q => by unfold yv; rw [q]
  rcases h with ⟨rfl, k1, k2⟩ | ⟨rfl, k1, k2, -⟩
  · rcases h' with ⟨-, m1, m2⟩ | ⟨e, -⟩
    · constructor
      · rintro ⟨e1, e2⟩
        refine ⟨by omega, fun j hj => ?_⟩
        have q := e2 j (by omega)
        rw [yvv (k2 j hj).1, yvv (m2 j (by omega)).1] at q
        exact lo8_inj (hf j hj).1 (k2 j hj).2 (hg j (by omega)).1 (m2 j (by omega)).2 q
      · rintro ⟨rfl, e2⟩
        refine ⟨by omega, fun j hj => ?_⟩
        rw [yvv (k2 j (by omega)).1, yvv (m2 j (by omega)).1, e2 j (by omega)]
    · exact absurd e (by decide)
  · rcases h' with ⟨e, -⟩ | ⟨-, m1, m2, -⟩
    · exact absurd e (by decide)
    · constructor
      · rintro ⟨e1, e2⟩
        refine ⟨by omega, fun j hj => ?_⟩
        have q1 := e2 (2 * j) (by omega)
        have q2 := e2 (2 * j + 1) (by omega)
        rw [yvv (k2 j hj).1, yvv (m2 j (by omega)).1] at q1
        rw [yvv (k2 j hj).2, yvv (m2 j (by omega)).2] at q2
        rw [← pair_says (hf j hj).1 (hf j hj).2, ← pair_says (hg j (by omega)).1 (hg j (by omega)).2, q1, q2]
      · rintro ⟨rfl, e2⟩
        refine ⟨by omega, fun i hi => ?_⟩
        rcases Nat.mod_two_eq_zero_or_one i with e | e
        · obtain ⟨j, rfl⟩ : ∃ j, i = 2 * j := ⟨i / 2, by omega⟩
          rw [yvv (k2 j (by omega)).1, yvv (m2 j (by omega)).1, e2 j (by omega)]
        · obtain ⟨j, rfl⟩ : ∃ j, i = 2 * j + 1 := ⟨i / 2, by omega⟩
          rw [yvv (k2 j (by omega)).2, yvv (m2 j (by omega)).2, e2 j (by omega)]
/-- two codings differ: so do the texts -/
theorem Cod.dif {cd cd' : Int32} {n k : Nat} {f g : Nat → Int32} {V V' : Cell} (h : Cod cd n f V) (h' : Cod cd' k g V') (hne : ¬ cd = cd') : ¬ SameT n f k g := by
  rintro ⟨rfl, e⟩
  rcases h with ⟨rfl, -, k2⟩ | ⟨rfl, -, -, j, hj, hw⟩
  · rcases h' with ⟨rfl, -⟩ | ⟨-, -, -, j, hj, hw⟩
    · exact hne rfl
    · exact (k2 j hj).2 (by rw [e j hj]; exact hw)
  · rcases h' with ⟨-, -, m2⟩ | ⟨rfl, -⟩
    · exact (m2 j hj).2 (by rw [← e j hj]; exact hw)
    · exact hne rfl
/-- an object of exactly C is an instance of C -/
theorem cinst {p : Program} {l : Launch} {e : Env} {R : Room} {s : State} {m : MethodId} {args : Array Value} {below : List Frame} {meth : Method} {c : Code} {T : State} {locs : List Loc} {cells slots : Nat} (X : Stand p l e R s m args below meth c T locs cells slots) (hexec : p.tables.exec = Jvm.exec) {own C : String} {index : Nat} (hown : s.vm.findClass own = some m.cls) (hlink : (Cond.classLink own index C).before args s = true) {a : Addr} (hE : Exact C a T)
    {g : JFrame} (hg : g.method = m) {rest : List Value} (hstack : g.stack = .ref a :: rest) (hdg : decode c.code g.pc = .ok (.instanceof index, 3)) :
    ∃ T', Stand p l e R s m args below meth c T' locs cells slots ∧ T'.heap = T.heap ∧ ∀ target, Steps p.tables e below (T'.setTop { g with pc := g.pc + 3, stack := .int 1 :: rest }) target → Steps p.tables e below (T.setTop g) target := by
  obtain ⟨cB, h1, D, h2, h3, h4⟩ := hE
  have h1' : s.vm.findClass C = some cB := by rw [← X.warmed.alike.findClass]; exact h1
  obtain ⟨vm', X', st⟩ := X.instanceofYes hexec hown hlink h2 h4 h1' (by rw [h3]; exact Jvm.Free.SB.assignable_self _ _) hg hstack hdg
  exact ⟨_, X', rfl, st⟩
theorem cself {p : Program} {l : Launch} {e : Env} {R : Room} {s : State} {m : MethodId} {args : Array Value} {below : List Frame} {meth : Method} {c : Code} {T : State} {locs : List Loc} {cells slots : Nat} (X : Stand p l e R s m args below meth c T locs cells slots) (hexec : p.tables.exec = Jvm.exec) {own C : String} {index : Nat} (hown : s.vm.findClass own = some m.cls) (hlink : (Cond.classLink own index C).before args s = true) {a : Addr} (hE : Exact C a T)
    {g : JFrame} (hg : g.method = m) {rest : List Value} (hstack : g.stack = .ref a :: rest) (hdg : decode c.code g.pc = .ok (.checkcast index, 3)) :
    ∃ T', Stand p l e R s m args below meth c T' locs cells slots ∧ T'.heap = T.heap ∧ ∀ target, Steps p.tables e below (T'.setTop { g with pc := g.pc + 3, stack := .ref a :: rest }) target → Steps p.tables e below (T.setTop g) target := by
  obtain ⟨cB, h1, D, h2, h3, h4⟩ := hE
  have h1' : s.vm.findClass C = some cB := by rw [← X.warmed.alike.findClass]; exact h1
  obtain ⟨vm', X', st⟩ := X.checkcastYes hexec hown hlink h2 h4 h1' (by rw [h3]; exact Jvm.Free.SB.assignable_self _ _) hg hstack hdg
  exact ⟨_, X', rfl, fun t h => st t (by rw [← hstack] at h; exact h)⟩
namespace SEq
def yN : MethodName := ⟨"java/lang/String", "equals", "(Ljava/lang/Object;)Z"⟩
abbrev yB : ByteArray := jdk_42_method_66_code
theorem d0 : decode yB 0 = .ok (.aload_n 0, 1) := by decide +kernel
theorem d1 : decode yB 1 = .ok (.aload_n 1, 1) := by decide +kernel
theorem d2 : decode yB 2 = .ok (.if_acmp (.ne) 5, 3) := by decide +kernel
theorem d5 : decode yB 5 = .ok (.iconst 1, 1) := by decide +kernel
theorem d6 : decode yB 6 = .ok (.ireturn, 1) := by decide +kernel
theorem d7 : decode yB 7 = .ok (.aload_n 1, 1) := by decide +kernel
theorem d8 : decode yB 8 = .ok (.instanceof 10, 3) := by decide +kernel
theorem d11 : decode yB 11 = .ok (.ifCond (.eq) 43, 3) := by decide +kernel
theorem d14 : decode yB 14 = .ok (.aload_n 1, 1) := by decide +kernel
theorem d15 : decode yB 15 = .ok (.checkcast 10, 3) := by decide +kernel
theorem d18 : decode yB 18 = .ok (.astore_n 2, 1) := by decide +kernel
theorem d19 : decode yB 19 = .ok (.getstatic 38, 3) := by decide +kernel
theorem d22 : decode yB 22 = .ok (.ifCond (.eq) 14, 3) := by decide +kernel
theorem d25 : decode yB 25 = .ok (.aload_n 0, 1) := by decide +kernel
theorem d26 : decode yB 26 = .ok (.getfield 15, 3) := by decide +kernel
theorem d29 : decode yB 29 = .ok (.aload_n 2, 1) := by decide +kernel
theorem d30 : decode yB 30 = .ok (.getfield 15, 3) := by decide +kernel
theorem d33 : decode yB 33 = .ok (.if_icmp (.ne) 21, 3) := by decide +kernel
theorem d36 : decode yB 36 = .ok (.aload_n 0, 1) := by decide +kernel
theorem d37 : decode yB 37 = .ok (.getfield 9, 3) := by decide +kernel
theorem d40 : decode yB 40 = .ok (.aload_n 2, 1) := by decide +kernel
theorem d41 : decode yB 41 = .ok (.getfield 9, 3) := by decide +kernel
theorem d44 : decode yB 44 = .ok (.invokestatic 541, 3) := by decide +kernel
theorem d47 : decode yB 47 = .ok (.ifCond (.eq) 7, 3) := by decide +kernel
theorem d50 : decode yB 50 = .ok (.iconst 1, 1) := by decide +kernel
theorem d51 : decode yB 51 = .ok (.goto 4, 3) := by decide +kernel
theorem d54 : decode yB 54 = .ok (.iconst 0, 1) := by decide +kernel
theorem d55 : decode yB 55 = .ok (.ireturn, 1) := by decide +kernel
def site : List Cond := [.classLink "java/lang/String" 10 "java/lang/String", .fieldLink "java/lang/String" 38 "java/lang/String" "COMPACT_STRINGS" "Z", .fieldLink "java/lang/String" 15 "java/lang/String" "coder" "B", .fieldLink "java/lang/String" 9 "java/lang/String" "value" "[B", LEq.tab] ++ staticW "java/lang/String" 541 LEq.yN
def tab : Cond := tabOf yN yB 3 (some .boolean) site
def P (x t : Addr) (V : Cell) (cd : Int32) (n : Nat) (f : Nat → Int32) (y t' : Addr) (V' : Cell) (cd' : Int32) (k : Nat) (g : Nat → Int32) (z : Int32) (args : Array Value) (s : State) : Prop := args = #[.ref x, .ref y] ∧ Txt x t V cd n f s ∧ Txt y t' V' cd' k g s ∧ StaticIs s "java/lang/String" "COMPACT_STRINGS" "Z" (.int z) ∧ ¬ z = 0
/-- equals(Object) of two Strings: whether the texts are the same -/
theorem law (l : Launch) (x t : Addr) (V : Cell) (cd : Int32) (n : Nat) (f : Nat → Int32) (y t' : Addr) (V' : Cell) (cd' : Int32) (k : Nat) (g : Nat → Int32) (z : Int32) : Law l yN 2 1 1 14 yB 3 (some .boolean) site (P x t V cd n f y t' V' cd' k g z) (Says01 (SameT n f k g)) [] 0 0 := by
  refine Law.of_walk (plainFor_of_name (by decide +kernel)) (by decide +kernel) (by decide +kernel) (by decide) (fun _ _ h => by rw [h.1]; rfl) (fun _ U U' hal hh h => ⟨h.1, h.2.1.mv hal hh, h.2.2.1.mv hal hh, h.2.2.2.1.there hal hh, h.2.2.2.2⟩) (fun r U U' V V' h1 hal h2 h => Says01.mv r U U' V V' h1 hal h2 h) ?_
  intro p e s m args below meth c s₁ X0 hexec hbytes hml hret hlk hnm hown hh0 W hP
  obtain ⟨rfl, hx, hy, s1, hz⟩ := hP
  have c1 : Steps p.tables e below (s₁.setTop (entryFrame m #[.ref x, .ref y] 3)) (s₁.setTop (mkF m 2 #[.val (.ref x), .val (.ref y), .unset] [.ref y, .ref x])) := Steps.trans (entry rfl) (by
    show Steps p.tables e below (s₁.setTop (mkF m 0 #[.val (.ref x), .val (.ref y), .unset] [])) _
    refine XS.aloadN X0.here hexec rfl (hb hbytes d0) rfl rfl ?_
    refine XS.aloadN X0.here hexec rfl (hb hbytes d1) rfl rfl ?_
    exact Steps.refl _)
  by_cases hxy : x = y
  · have c2 : Steps p.tables e below (s₁.setTop (entryFrame m #[.ref x, .ref y] 3)) (s₁.setTop (mkF m 6 #[.val (.ref x), .val (.ref y), .unset] [.int 1])) := c1.trans (by
      refine acmpNo X0.here hexec rfl (hb hbytes d2) rfl rfl rfl (by simp [acmp, hxy]) ?_
      refine iconstV X0.here hexec rfl 1 (hb hbytes d5) (by decide) ?_
      exact Steps.refl _)
    subst hxy
    have ec : cd = cd' := by
      obtain ⟨D, fd, a1, a2, a3⟩ := hx.2.2.1
      obtain ⟨D', fd', b1, b2, b3⟩ := hy.2.2.1
      cases a1.symm.trans b1
      obtain ⟨q1, q2, q3, q4⟩ := a2.1
      obtain ⟨r1, r2, r3, r4⟩ := b2.1
      cases q4.symm.trans r4
      cases a3.symm.trans b3; rfl
    have et : t = t' := by
      obtain ⟨D, fd, a1, a2, a3⟩ := hx.2.1
      obtain ⟨D', fd', b1, b2, b3⟩ := hy.2.1
      cases a1.symm.trans b1
      obtain ⟨q1, q2, q3, q4⟩ := a2.1
      obtain ⟨r1, r2, r3, r4⟩ := b2.1
      cases q4.symm.trans r4
      cases a3.symm.trans b3; rfl
    subst ec et
    have ev : V = V' := by cases hx.2.2.2.1.1.symm.trans hy.2.2.2.1.1; rfl
    subst ev
    have hs : SameT n f k g := (Cod.eqv hx.2.2.2.2.1 hy.2.2.2.2.1 hx.2.2.2.2.2 hy.2.2.2.2.2).mp ⟨rfl, fun _ _ => rfl⟩
    exact ⟨s₁, some (.int 1), _, _, _, X0, rfl, rfl, rfl, (fun h => by cases h), ⟨1, rfl, hh0, Or.inl ⟨rfl, hs⟩⟩, fun fs hl => c2.trans (X0.ireturnOut hexec hret rfl (Or.inr (Or.inl rfl)) (hb hbytes d6) hl)⟩
  · have c2 : Steps p.tables e below (s₁.setTop (entryFrame m #[.ref x, .ref y] 3)) (s₁.setTop (mkF m 8 #[.val (.ref x), .val (.ref y), .unset] [.ref y])) := c1.trans (by
      refine acmpYes X0.here hexec rfl (pc0 := 2) rfl (hb hbytes d2) rfl rfl rfl (by simp [acmp, hxy]) (by decide) rfl ?_
      refine XS.aloadN X0.here hexec rfl (hb hbytes d7) rfl rfl ?_
      exact Steps.refl _)
    obtain ⟨T3, X3, q3, st3⟩ := cinst X0 hexec hown (wk W (.classLink "java/lang/String" 10 "java/lang/String")) (hy.mv X0.warmed.alike hh0).1 (g := (mkF m 8 #[.val (.ref x), .val (.ref y), .unset] [.ref y])) rfl (rest := []) rfl (hb hbytes d8)
    have hh3 := q3.trans hh0
    have c4 : Steps p.tables e below (s₁.setTop (entryFrame m #[.ref x, .ref y] 3)) (T3.setTop (mkF m 15 #[.val (.ref x), .val (.ref y), .unset] [.ref y])) := (c2.trans (st3 _ (Steps.refl _))).trans (by
      refine XS.ifNo X3.here hexec rfl (hb hbytes d11) rfl (i0_eq_f (by decide)) ?_
      refine XS.aloadN X3.here hexec rfl (hb hbytes d14) rfl rfl ?_
      exact Steps.refl _)
    obtain ⟨T5, X5, q5, st5⟩ := cself X3 hexec hown (wk W (.classLink "java/lang/String" 10 "java/lang/String")) (hy.mv X3.warmed.alike hh3).1 (g := (mkF m 15 #[.val (.ref x), .val (.ref y), .unset] [.ref y])) rfl (rest := []) rfl (hb hbytes d15)
    have hh5 := q5.trans hh3
    have c6 : Steps p.tables e below (s₁.setTop (entryFrame m #[.ref x, .ref y] 3)) (T5.setTop (mkF m 19 #[.val (.ref x), .val (.ref y), .val (.ref y)] [])) := (c4.trans (st5 _ (Steps.refl _))).trans (by
      refine XS.astoreN X5.here hexec rfl (hb hbytes d18) rfl rfl rfl ?_
      exact Steps.refl _)
    obtain ⟨T7, X7, q7, st7⟩ := X5.sget hexec hown (wk W (.fieldLink "java/lang/String" 38 "java/lang/String" "COMPACT_STRINGS" "Z")) s1 (fun _ _ h => by rw [hh5]; exact h) (g := (mkF m 19 #[.val (.ref x), .val (.ref y), .val (.ref y)] [])) rfl (hb hbytes d19)
    have hh7 := q7.trans hh5
    have c8 : Steps p.tables e below (s₁.setTop (entryFrame m #[.ref x, .ref y] 3)) (T7.setTop (mkF m 26 #[.val (.ref x), .val (.ref y), .val (.ref y)] [.ref x])) := (c6.trans (st7 _ (Steps.refl _))).trans (by
      refine XS.ifNo X7.here hexec rfl (hb hbytes d22) rfl (i0_eq_f hz) ?_
      refine XS.aloadN X7.here hexec rfl (hb hbytes d25) rfl rfl ?_
      exact Steps.refl _)
    obtain ⟨T9, X9, q9, st9⟩ := X7.hget hexec hown (wk W (.fieldLink "java/lang/String" 15 "java/lang/String" "coder" "B")) (hx.mv X7.warmed.alike hh7).2.2.1 (g := (mkF m 26 #[.val (.ref x), .val (.ref y), .val (.ref y)] [.ref x])) rfl (rest := []) rfl (hb hbytes d26)
    have hh9 := q9.trans hh7
    have c10 : Steps p.tables e below (s₁.setTop (entryFrame m #[.ref x, .ref y] 3)) (T9.setTop (mkF m 30 #[.val (.ref x), .val (.ref y), .val (.ref y)] [.ref y, .int cd])) := (c8.trans (st9 _ (Steps.refl _))).trans (by
      refine XS.aloadN X9.here hexec rfl (hb hbytes d29) rfl rfl ?_
      exact Steps.refl _)
    obtain ⟨T11, X11, q11, st11⟩ := X9.hget hexec hown (wk W (.fieldLink "java/lang/String" 15 "java/lang/String" "coder" "B")) (hy.mv X9.warmed.alike hh9).2.2.1 (g := (mkF m 30 #[.val (.ref x), .val (.ref y), .val (.ref y)] [.ref y, .int cd])) rfl (rest := [.int cd]) rfl (hb hbytes d30)
    have hh11 := q11.trans hh9
    have c12 : Steps p.tables e below (s₁.setTop (entryFrame m #[.ref x, .ref y] 3)) (T11.setTop (mkF m 33 #[.val (.ref x), .val (.ref y), .val (.ref y)] [.int cd', .int cd])) := c10.trans (st11 _ (Steps.refl _))
    by_cases hcd : cd = cd'
    · subst hcd
      have c13 : Steps p.tables e below (s₁.setTop (entryFrame m #[.ref x, .ref y] 3)) (T11.setTop (mkF m 37 #[.val (.ref x), .val (.ref y), .val (.ref y)] [.ref x])) := c12.trans (by
        refine XS.icmpNo X11.here hexec rfl (hb hbytes d33) rfl (ii_ne_f rfl) ?_
        refine XS.aloadN X11.here hexec rfl (hb hbytes d36) rfl rfl ?_
        exact Steps.refl _)
      obtain ⟨T14, X14, q14, st14⟩ := X11.hget hexec hown (wk W (.fieldLink "java/lang/String" 9 "java/lang/String" "value" "[B")) (hx.mv X11.warmed.alike hh11).2.1 (g := (mkF m 37 #[.val (.ref x), .val (.ref y), .val (.ref y)] [.ref x])) rfl (rest := []) rfl (hb hbytes d37)
      have hh14 := q14.trans hh11
      have c15 : Steps p.tables e below (s₁.setTop (entryFrame m #[.ref x, .ref y] 3)) (T14.setTop (mkF m 41 #[.val (.ref x), .val (.ref y), .val (.ref y)] [.ref y, .ref t])) := (c13.trans (st14 _ (Steps.refl _))).trans (by
        refine XS.aloadN X14.here hexec rfl (hb hbytes d40) rfl rfl ?_
        exact Steps.refl _)
      obtain ⟨T16, X16, q16, st16⟩ := X14.hget hexec hown (wk W (.fieldLink "java/lang/String" 9 "java/lang/String" "value" "[B")) (hy.mv X14.warmed.alike hh14).2.1 (g := (mkF m 41 #[.val (.ref x), .val (.ref y), .val (.ref y)] [.ref y, .ref t])) rfl (rest := [.ref t]) rfl (hb hbytes d41)
      have hh16 := q16.trans hh14
      have c17 : Steps p.tables e below (s₁.setTop (entryFrame m #[.ref x, .ref y] 3)) (T16.setTop (mkF m 44 #[.val (.ref x), .val (.ref y), .val (.ref y)] [.ref t', .ref t])) := c15.trans (st16 _ (Steps.refl _))
      obtain ⟨v18, T18, X18, E18, g18⟩ := X16.callS hexec (LEq.law l t V t' V') hown (wks W (staticW "java/lang/String" 541 LEq.yN)) (wk W LEq.tab) (W := 0) (Nat.le_of_ble_eq_true rfl) (Nat.le_of_ble_eq_true rfl) (Nat.le_refl _) (Nat.le_refl _) (g := (mkF m 44 #[.val (.ref x), .val (.ref y), .val (.ref y)] [.ref t', .ref t])) rfl (by rw [hml]; rfl) c17 (argsL := [.ref t, .ref t']) (rest := []) rfl rfl (by show 2 * 0 + 0 ≤ _; decide) (hb hbytes d44) (⟨rfl, hx.2.2.2.1.mv X16.warmed.alike hh16, hx.2.2.2.2.1.ty, hy.2.2.2.1.mv X16.warmed.alike hh16, hy.2.2.2.2.1.ty⟩)
      obtain ⟨v, rfl, q18, hv⟩ := E18
      have iff := Cod.eqv hx.2.2.2.2.1 hy.2.2.2.2.1 hx.2.2.2.2.2 hy.2.2.2.2.2
      rcases hv with ⟨rfl, he⟩ | ⟨rfl, he⟩
      · have c19 : Steps p.tables e below (s₁.setTop (entryFrame m #[.ref x, .ref y] 3)) (T18.setTop (mkF m 55 #[.val (.ref x), .val (.ref y), .val (.ref y)] [.int 1])) := Steps.trans g18 (by
          refine XS.ifNo X18.here hexec rfl (hb hbytes d47) rfl (i0_eq_f (by decide)) ?_
          refine iconstV X18.here hexec rfl 1 (hb hbytes d50) (by decide) ?_
          refine XS.goto X18.here hexec rfl (pc0 := 51) rfl (hb hbytes d51) (by decide) rfl ?_
          exact Steps.refl _)
        exact ⟨T18, some (.int 1), _, _, _, X18, rfl, rfl, rfl, (fun h => by cases h), ⟨1, rfl, q18.trans hh16, Or.inl ⟨rfl, iff.mp he⟩⟩, fun fs hl => c19.trans (X18.ireturnOut hexec hret rfl (Or.inr (Or.inl rfl)) (hb hbytes d55) hl)⟩
      · have c19 : Steps p.tables e below (s₁.setTop (entryFrame m #[.ref x, .ref y] 3)) (T18.setTop (mkF m 55 #[.val (.ref x), .val (.ref y), .val (.ref y)] [.int 0])) := Steps.trans g18 (by
          refine XS.ifYes X18.here hexec rfl (pc0 := 47) rfl (hb hbytes d47) rfl (i0_eq_t rfl) (by decide) rfl ?_
          refine iconstV X18.here hexec rfl 0 (hb hbytes d54) (by decide) ?_
          exact Steps.refl _)
        exact ⟨T18, some (.int 0), _, _, _, X18, rfl, rfl, rfl, (fun h => by cases h), ⟨0, rfl, q18.trans hh16, Or.inr ⟨rfl, fun q => he (iff.mpr q)⟩⟩, fun fs hl => c19.trans (X18.ireturnOut hexec hret rfl (Or.inr (Or.inl rfl)) (hb hbytes d55) hl)⟩
    · have c13 : Steps p.tables e below (s₁.setTop (entryFrame m #[.ref x, .ref y] 3)) (T11.setTop (mkF m 55 #[.val (.ref x), .val (.ref y), .val (.ref y)] [.int 0])) := c12.trans (by
        refine XS.icmpYes X11.here hexec rfl (pc0 := 33) rfl (hb hbytes d33) rfl (ii_ne_t hcd) (by decide) rfl ?_
        refine iconstV X11.here hexec rfl 0 (hb hbytes d54) (by decide) ?_
        exact Steps.refl _)
      exact ⟨T11, some (.int 0), _, _, _, X11, rfl, rfl, rfl, (fun h => by cases h), ⟨0, rfl, hh11, Or.inr ⟨rfl, Cod.dif hx.2.2.2.2.1 hy.2.2.2.2.1 hcd⟩⟩, fun fs hl => c13.trans (X11.ireturnOut hexec hret rfl (Or.inr (Or.inl rfl)) (hb hbytes d55) hl)⟩
theorem pays {l : Launch} {R : Room} {p : Program} {e : Env} {below : List Frame} {s : State} {sargs : Array Value} {len W : Nat} (x t : Addr) (V : Cell) (cd : Int32) (n : Nat) (f : Nat → Int32) (y t' : Addr) (V' : Cell) (cd' : Int32) (k : Nat) (g : Nat → Int32) (z : Int32) (htab : tab.before sargs s = true) (hfr : 2 ≤ R.frames) (hlo : W + 28 ≤ R.locals) :
    Back l R p e below s sargs yN len W (fun A₁ a₁ => A₁.cells + 0 ≤ R.cells ∧ A₁.slots + 0 ≤ R.slots ∧ P x t V cd n f y t' V' cd' k g z a₁ A₁.U) (fun A₁ _ v₁ B₁ => Says01 (SameT n f k g) v₁ A₁.U B₁.U ∧ B₁.locs = A₁.locs ++ [] ∧ B₁.cells = A₁.cells + 0 ∧ B₁.slots = A₁.slots + 0) :=
  (law l x t V cd n f y t' V' cd' k g z).pays htab hfr (by omega)
end SEq
end StrChars
namespace StrChars.Road
open Jvm Sem ClassFile Op Lib Jvm.Stand Jvm.Free Jvm.Free.XT
open Jvm.Lib.Cold (StaticIs)
/-- the words of String.equals(Object) -/
abbrev wordsEq : List Jvm.Cond := [.code SEq.yN SEq.yB 3 (some .boolean), .initialized ST, .classLink ST 10 ST, .fieldLink ST 38 ST "COMPACT_STRINGS" "Z", .fieldLink ST 15 ST "coder" "B", .fieldLink ST 9 ST "value" "[B", .methodLink ST 541 LEq.yN, .static LEq.yN, .code LEq.yN LEq.yB 3 (some .boolean), .initialized "java/lang/StringLatin1"]
theorem tabEq_of {a : Array Value} {s : State} (h : ∀ w ∈ wordsEq, w.before a s = true) : SEq.tab.before a s = true := by
  have hl : LEq.tab.before a s = true := unparts (wk h (.code LEq.yN LEq.yB 3 (some .boolean))) (wks h (.initialized LEq.yN.cls :: LEq.site))
  have q := consq hl h
  exact unparts (wk q (.code SEq.yN SEq.yB 3 (some .boolean))) (wks q (.initialized SEq.yN.cls :: SEq.site))
theorem movedEq {Z s : State} {a0 args : Array Value} (hZ : Z.Warmed39 s.vm) (hw : ∀ d ∈ wordsEq, d.before a0 Z = true) : ∀ d ∈ wordsEq, d.before args s = true := fun d hd => by
  have t : ∀ d ∈ wordsEq, (d.onTables && d.keepsFace) = true := by decide +kernel
  exact RoadKit.mv hZ (hw d hd) (t d hd)
/-- the road's facts of a String, as the laws ask it -/
theorem txt_of {Z U : State} {a0 : Array Value} {kI : Nat} (wi : (Jvm.Cond.instantiable ST kI).before a0 Z = true) (al : Z.vm.Alike U.vm) {x t : Addr} {kb : ClassId} {cs : List Int32} {cd N2 : Int32} {vs : List Value} (E : RoadKit.Exa Z U.heap x ST) (V : RoadKit.Fld Z U.heap x ST "value" "[B" (.ref t)) (C : RoadKit.Fld Z U.heap x ST "coder" "B" (.int cd)) (K : RoadKit.Arv Z U.heap t kb .byte N2 vs (.int 0)) (hc : CodA cs cd N2 vs) (hb : ∀ c ∈ cs, ¬ c < 0 ∧ ¬ (65535 : Int32) < c) (l2 : cs.length ≤ 4000) :
    ∃ A, Txt x t A cd cs.length (fun j => cs.getD j 0) U := by
  obtain ⟨A, K1, K2, K3, K4, K5, K6⟩ := K
  have hcod := hc.cod (by omega) K3 K5
  obtain ⟨D, fV, fC, hB, F1, F2, g1, g2, -, -⟩ := strObj wi al E V C
  exact ⟨A, ⟨_, hB.2.2.1, D, hB.1, rfl, by cases q : D.vm <;> first | rfl | exact absurd q (hB.2.1.2 _)⟩, Has.of hB F1 g1, Has.of hB F2 g2, ⟨K1.1, State.isArrayOf_alike al K1.2.1, K1.2.2, by rcases hcod with ⟨-, q, -⟩ | ⟨-, q, -⟩ <;> omega⟩, hcod, fun j hj => by
    have e : cs.getD j 0 = cs[j] := by simp [List.getD_eq_getElem?_getD, hj]
    show ¬ cs.getD j 0 < 0 ∧ ¬ 65535 < cs.getD j 0
    rw [e]; exact hb _ (List.getElem_mem _)⟩
theorem same_list (cs ds : List Int32) : SameT cs.length (fun j => cs.getD j 0) ds.length (fun j => ds.getD j 0) ↔ cs = ds := by
  constructor
  · rintro ⟨e, q⟩
    refine List.ext_getElem e fun j h1 h2 => ?_
    have := q j h1
    simpa [List.getD_eq_getElem?_getD, h1, h2] using this
  · rintro rfl
    exact ⟨rfl, fun _ _ => rfl⟩
/-- **equals(Object) OF TWO SUCH STRINGS**: 1 just where the chars are the same -/
theorem eqW {p : Program} {l : Launch} {e : Env} {R : Room} {s : State} {args : Array Value} {below : List Frame} {len W : Nat} {Z : State} {a0 : Array Value} {h : Heap} (hZ : Z.Warmed39 s.vm) (hw : ∀ d ∈ wordsEq, d.before a0 Z = true) {kI : Nat} (wi : (Jvm.Cond.instantiable ST kI).before a0 Z = true)
    {x t : Addr} {kb : ClassId} {cs : List Int32} {cd N2 : Int32} {vs : List Value} (E : RoadKit.Exa Z h x ST) (V : RoadKit.Fld Z h x ST "value" "[B" (.ref t)) (C : RoadKit.Fld Z h x ST "coder" "B" (.int cd)) (K : RoadKit.Arv Z h t kb .byte N2 vs (.int 0)) (hc : CodA cs cd N2 vs) (hb : ∀ c ∈ cs, ¬ c < 0 ∧ ¬ (65535 : Int32) < c) (l2 : cs.length ≤ 4000)
    {y t' : Addr} {kb' : ClassId} {ds : List Int32} {cd' N2' : Int32} {vs' : List Value} (E' : RoadKit.Exa Z h y ST) (V' : RoadKit.Fld Z h y ST "value" "[B" (.ref t')) (C' : RoadKit.Fld Z h y ST "coder" "B" (.int cd')) (K' : RoadKit.Arv Z h t' kb' .byte N2' vs' (.int 0)) (hc' : CodA ds cd' N2' vs') (hb' : ∀ c ∈ ds, ¬ c < 0 ∧ ¬ (65535 : Int32) < c) (l2' : ds.length ≤ 4000)
    {z : Int32} (S : RoadKit.Sta Z h ST "COMPACT_STRINGS" "Z" (.int z)) (hz : ¬ z = 0) (hfr : 2 ≤ R.frames) (hlo : W + 28 ≤ R.locals) :
    Back l R p e below s args (⟨"java/lang/String", "equals", "(Ljava/lang/Object;)Z"⟩ : MethodName) len W (fun P a => a = #[.ref x, .ref y] ∧ P.U.heap = h ∧ P.cells + 0 ≤ R.cells ∧ P.slots + 0 ≤ R.slots)
      (fun P _ v B => ∃ L, (((v = some (.int 1) ∧ cs = ds) ∨ (v = some (.int 0) ∧ ¬ cs = ds)) ∧ L = [] ∧ B.U.heap = h) ∧ B.locs = P.locs ++ L ∧ B.cells = P.cells + 0 ∧ B.slots = P.slots + 0) := by
  intro m meth c P g ig mk a X hg hsize hdg hW hn hp'
  obtain ⟨rfl, rfl, r1, r2⟩ := hp'
  have al : Z.vm.Alike P.U.vm := hZ.alike.trans X.warmed.alike
  obtain ⟨A, hx⟩ := txt_of wi al E V C K hc hb l2
  obtain ⟨A', hy⟩ := txt_of wi al E' V' C' K' hc' hb' l2'
  obtain ⟨v, B, X', ⟨⟨w, hv, hh, hq⟩, hl, hk, hs⟩, st⟩ := SEq.pays x t A cd cs.length (fun j => cs.getD j 0) y t' A' cd' ds.length (fun j => ds.getD j 0) z (tabEq_of (movedEq hZ hw)) hfr hlo m meth c P g ig mk _ X hg hsize hdg hW hn ⟨r1, r2, rfl, hx, hy, sta_is al S, hz⟩
  refine ⟨v, B, X', ⟨[], ⟨?_, rfl, hh⟩, hl, hk, hs⟩, st⟩
  rcases hq with ⟨rfl, q⟩ | ⟨rfl, q⟩
  · exact Or.inl ⟨hv, (same_list cs ds).mp q⟩
  · exact Or.inr ⟨hv, fun e => q ((same_list cs ds).mpr e)⟩
end StrChars.Road
end Jvm.Pilot.@@N@@
namespace Jvm.Pilot.@@N@@
open Jvm Jvm.ClassFile Sem Op Lib Jvm.Free Jvm.Stand Jvm.LawKit Jvm.RoadKit Bundle Jvm.Pilot.@@N@@.Jvm.D
theorem own_b0 {z : Int32} {P : Prop} [Decidable P] (h : z = if P then 1 else 0) (q : ¬ P) : z = 0 := by rw [h, if_neg q]
theorem own_b1 {z : Int32} {P : Prop} [Decidable P] (h : z = if P then 1 else 0) (q : P) : ¬ z = 0 := by rw [h, if_pos q]; decide
theorem own_bn {z : Int32} {P : Prop} [Decidable P] (h : z = if P then 0 else 1) : z = if ¬ P then 1 else 0 := by by_cases q : P <;> simp [h, q]
theorem own_fldI {args : Array Value} {s : State} {t : Term} {C n d : String} {z : Int32} {a : Addr} (ht : t.eval args s none [] s = some (.ref a)) (h : (Jvm.Cond.eq (Term.field t C n d) (Term.int z)).value args s none s [] = some true) : Fld s s.heap a C n d (.int z) := by
  obtain ⟨x, y, h1, h2, k1, k2⟩ := cmp_v (Or.inl h)
  have h3 : (Term.int z).eval args s none [] s = some (.int z) := rfl
  obtain rfl : y = .int z := Option.some.inj (h2.symm.trans h3)
  obtain ⟨w, rfl⟩ := k2
  have e : w = z := by simp only [Cond.value, h1, h3] at h; simpa using h
  subst e
  exact Fld.start (by rw [← fld_at ht]; exact h1)
theorem own_stakeep {Z : State} {h h' : Heap} {C n d : String} {v : Value} {ws : List Addr} (F : Sta Z h C n d v) (K : Keep h h' ws) (q : ∀ a ∈ ws, ∀ cell : Cell, h[a]? = some cell → cell.vm.isStatics = false) : Sta Z h' C n d v := by
  obtain ⟨cf, i, k, f, st, cell, h1, h2, h3, h4, h5, h6, h7⟩ := F
  exact ⟨cf, i, k, f, st, cell, h1, h2, h3, h4, K.2.1 _ _ h5 (fun hm => by rw [q _ hm _ h5] at h6; cases h6), h6, h7⟩
theorem own_nb {z : Int32} {P : Prop} [Decidable P] (h : z = if P then 1 else 0) : nar .boolean z = z := by by_cases q : P <;> simp [h, q] <;> rfl
theorem own_since (s : State) : s.Since s.vm s.heap.size := ⟨State.Warmed39.refl s, (State.WarmedH.refl s).no_new_pair _⟩
theorem own_wSt {a0 : Array Value} {Z : State} (hw : ∀ d ∈ tables_1, d.before a0 Z = true) : ∀ a ∈ Bundle.stringAtoms, a.before a0 Z = true := fun d hd => hw d ((by decide +kernel : ∀ d ∈ Bundle.stringAtoms, d ∈ tables_1) d hd)
theorem own_EW {a0 : Array Value} {Z : State} (hw : ∀ d ∈ tables_1, d.before a0 Z = true) : EW Z a0 consts_1 := EW.cons (hw _ (List.mem_of_getElem? (i := 50) rfl)) (by decide +kernel) (EW.cons (hw _ (List.mem_of_getElem? (i := 51) rfl)) (by decide +kernel) (EW.cons (hw _ (List.mem_of_getElem? (i := 23) rfl)) (by decide +kernel) (EW.cons (hw _ (List.mem_of_getElem? (i := 48) rfl)) (by decide +kernel) (EW.cons (hw _ (List.mem_of_getElem? (i := 31) rfl)) (by decide +kernel) (EW.cons (hw _ (List.mem_of_getElem? (i := 46) rfl)) (by decide +kernel) (EW.cons (hw _ (List.mem_of_getElem? (i := 47) rfl)) (by decide +kernel) (EW.cons (hw _ (List.mem_of_getElem? (i := 49) rfl)) (by decide +kernel) (EW.nil))))))))
def own_ch (t : String) : List Int32 := t.toList.map fun c => Int32.ofNat c.toNat
def own_bs (t : String) : List Value := ((own_ch t).map (fun c => c.toInt8.toInt32)).map Value.int
theorem own_lit {t : String} (h : ∀ c ∈ t.toList, c.toNat < 128) : (∀ c ∈ t.toList, c.toNat < 256) ∧ t.toList.map (fun c => Value.int (Jvm.Lit.byteI c.toNat.toUInt16)) = own_bs t := by
  refine ⟨fun c hc => Nat.lt_trans (h c hc) (by decide), ?_⟩
  simp only [own_bs, own_ch, List.map_map]
  refine List.map_congr_left fun c hc => ?_
  have q := h c hc
  show Value.int _ = Value.int _
  congr 1
  have : ∀ n : Fin 128, Jvm.Lit.byteI n.1.toUInt16 = (Int32.ofNat n.1).toInt8.toInt32 := by decide +kernel
  exact this ⟨c.toNat, q⟩
theorem own_codA (t : String) {z : Int32} (hz : z = Int32.ofNat (own_ch t).length) (h : ∀ c ∈ own_ch t, ¬ 255 < c) : StrChars.Road.CodA (own_ch t) 0 z (own_bs t) := Or.inl ⟨rfl, hz, by simp [own_bs, List.map_map, Function.comp_def, StrChars.lo8], h⟩
theorem drec_0 : decode jdk_30_method_1_code 0 = .ok (.aload_n 0, 1) := by decide +kernel
theorem drec_1 : decode jdk_30_method_1_code 1 = .ok (.invokespecial 1, 3) := by decide +kernel
theorem drec_4 : decode jdk_30_method_1_code 4 = .ok (.return_, 1) := by decide +kernel
theorem own_pn0 : plainName "java/lang/Record" = true := by first | (simp [plainName, overriddenIn]; done) | decide +kernel
theorem efrec (m : MethodId) (a1 : Addr) : entryFrame m #[(.ref a1)] 1 = mkF m 0 #[.val (.ref a1)] [] := by first | (simp [entryFrame, mkF, argsToLocals, Value.category]; done) | rfl
def Q_rec (Z : State) (a1 : Addr) (h0 : Heap) (n0 : Nat) (v : Option Value) (h : Heap) (L : List Loc) : Prop := v = none ∧ Fr n0 L ∧ h = h0
def K_rec (Z : State) (a1 : Addr) (h0 : Heap) (n0 : Nat) (s : State) (o : Outcome) (U' : State) : Prop := ∃ v L, o = .returned v ∧ Q_rec Z a1 h0 n0 v U'.heap L ∧ FrameEnd s o U' L 0 0
set_option maxRecDepth 65536 in
set_option maxHeartbeats 40000000 in
theorem rm_rec (l : Launch) (Z : State) (a0 : Array Value) (hw : ∀ d ∈ tables_1, d.before a0 Z = true) (ws : List Jvm.Cond) (a1 : Addr) (h0 : Heap) (n0 : Nat) (Z0 : n0 ≤ h0.size) :
    MetFree l (⟨"java/lang/Record", "<init>", "()V"⟩ : MethodName) (head1 (Jvm.Cond.code (⟨"java/lang/Record", "<init>", "()V"⟩ : MethodName) jdk_30_method_1_code 1 none :: ws) ({ frames := 1, cells := 0, slots := 0, locals := 12 } : Room)) (fun a U => a = #[(.ref a1)] ∧ Z.Warmed39 U.vm ∧ U.heap = h0) (fun _ _ _ _ _ => True) (fun _ U o U' => ∃ v L, o = .returned v ∧ Q_rec Z a1 h0 n0 v U'.heap L ∧ FrameEnd U o U' L ({ frames := 1, cells := 0, slots := 0, locals := 12 } : Room).cells ({ frames := 1, cells := 0, slots := 0, locals := 12 } : Room).slots) := by
  refine MetFree.of_bodySF (plainFor_of_name own_pn0) hisR ?_
  intro p e s m args below meth c s₁ Bd hml0 hP hK
  obtain ⟨rfl, hZ, hh⟩ := hP
  have hx := Bd.exec
  have hby := Bd.bytes
  have hml : c.maxLocals = 1 := hml0
  have hown : s.vm.findClass "java/lang/Record" = some m.cls := findClass_of_methodNamed Bd.named
  have hnm := (name_of_methodNamed Bd.named Bd.method).1
  have X0 : Stand p l e ({ frames := 1, cells := 0, slots := 0, locals := 12 } : Room) s m #[(.ref a1)] below meth c s₁ [] 0 0 := Stand.of_body Bd
  have e0 : s₁.heap = h0 := by rw [← hh, Bd.state]; rfl
  have N0 := Fr.nil n0
  show own_G p e below (K_rec Z a1 h0 n0 s) (s₁.setTop (entryFrame m #[(.ref a1)] 1))
  refine own_cast (efrec m a1) ?_
  show own_G p e below (K_rec Z a1 h0 n0 s) (s₁.setTop (mkF m 0 #[.val (.ref a1)] []))
  refine own_go (fun t k => XS.aloadN X0.here hx rfl (hb hby drec_0) rfl rfl k) ?_
  show own_G p e below (K_rec Z a1 h0 n0 s) (s₁.setTop (mkF m 1 #[.val (.ref a1)] [(.ref a1)]))
  obtain ⟨T1, X1, e1, st1⟩ := initO X0 hx hZ hown (hw _ (List.mem_of_getElem? (i := 11) rfl)) (hw _ (List.mem_of_getElem? (i := 12) rfl)) (hw _ (List.mem_of_getElem? (i := 13) rfl)) e0 (g := (mkF m 1 #[.val (.ref a1)] [(.ref a1)])) rfl (by rw [hml]; rfl) rfl (hb hby drec_1) (by decide) (W := 0) (by show 2 * 0 + _ ≤ _; exact Nat.le_of_eq rfl) (by decide)
  refine own_go st1 ?_
  show own_G p e below (K_rec Z a1 h0 n0 s) (T1.setTop (mkF m 4 #[.val (.ref a1)] []))
  exact own_retV X1 hx Bd.notSynchronized Bd.returns (hb hby drec_4) (fun U hU hV hF => ⟨_, _, rfl, ⟨rfl, N0, hU.trans e1⟩, hF.1, hF.2.1, hF.2.2.mono (by decide) (by decide)⟩)
theorem dct_0 : decode prog_6_method_1_code 0 = .ok (.aload_n 0, 1) := by decide +kernel
theorem dct_1 : decode prog_6_method_1_code 1 = .ok (.invokespecial 1, 3) := by decide +kernel
theorem dct_4 : decode prog_6_method_1_code 4 = .ok (.aload_n 0, 1) := by decide +kernel
theorem dct_5 : decode prog_6_method_1_code 5 = .ok (.iload_n 1, 1) := by decide +kernel
theorem dct_6 : decode prog_6_method_1_code 6 = .ok (.putfield 7, 3) := by decide +kernel
theorem dct_9 : decode prog_6_method_1_code 9 = .ok (.aload_n 0, 1) := by decide +kernel
theorem dct_10 : decode prog_6_method_1_code 10 = .ok (.iload_n 2, 1) := by decide +kernel
theorem dct_11 : decode prog_6_method_1_code 11 = .ok (.putfield 13, 3) := by decide +kernel
theorem dct_14 : decode prog_6_method_1_code 14 = .ok (.return_, 1) := by decide +kernel
theorem own_pn1 : plainName "com/example/lodepath/lodepath/Serves" = true := by first | (simp [plainName, overriddenIn]; done) | decide +kernel
theorem own_pd0 : parseMethodDescriptor "()V" = some ⟨[], none⟩ := by decide +kernel
theorem efct (m : MethodId) (a1 : Addr) (p2 : Int32) (p3 : Int32) : entryFrame m #[(.ref a1), (.int p2), (.int p3)] 3 = mkF m 0 #[.val (.ref a1), .val (.int p2), .val (.int p3)] [] := by first | (simp [entryFrame, mkF, argsToLocals, Value.category]; done) | rfl
def Q_ct (Z : State) (a1 : Addr) (p2 : Int32) (p3 : Int32) (h0 : Heap) (n0 : Nat) (v : Option Value) (h : Heap) (L : List Loc) : Prop := v = none ∧ Fr n0 L ∧ Keep h0 h [a1] ∧ Exa Z h a1 "com/example/lodepath/lodepath/Serves" ∧ Fld Z h a1 "com/example/lodepath/lodepath/Serves" "releases" "Z" (.int (nar .boolean p2)) ∧ Fld Z h a1 "com/example/lodepath/lodepath/Serves" "snapshots" "Z" (.int (nar .boolean p3))
def K_ct (Z : State) (a1 : Addr) (p2 : Int32) (p3 : Int32) (h0 : Heap) (n0 : Nat) (s : State) (o : Outcome) (U' : State) : Prop := ∃ v L, o = .returned v ∧ Q_ct Z a1 p2 p3 h0 n0 v U'.heap L ∧ FrameEnd s o U' L 0 0
set_option maxRecDepth 65536 in
set_option maxHeartbeats 40000000 in
theorem rm_ct (l : Launch) (Z : State) (a0 : Array Value) (hw : ∀ d ∈ tables_1, d.before a0 Z = true) (ws : List Jvm.Cond) (a1 : Addr) (p2 : Int32) (p3 : Int32) (h0 : Heap) (n0 : Nat) (Z0 : n0 ≤ h0.size) (F0_ : Fld Z h0 a1 "com/example/lodepath/lodepath/Serves" "releases" "Z" (.int (0 : Int32))) (F1_ : Fld Z h0 a1 "com/example/lodepath/lodepath/Serves" "snapshots" "Z" (.int (0 : Int32))) (E_a1 : Exa Z h0 a1 "com/example/lodepath/lodepath/Serves") (g_a1 : n0 ≤ a1) :
    MetFree l (⟨"com/example/lodepath/lodepath/Serves", "<init>", "(ZZ)V"⟩ : MethodName) (head1 (Jvm.Cond.code (⟨"com/example/lodepath/lodepath/Serves", "<init>", "(ZZ)V"⟩ : MethodName) prog_6_method_1_code 3 none :: ws) ({ frames := 2, cells := 0, slots := 0, locals := 24 } : Room)) (fun a U => a = #[(.ref a1), (.int p2), (.int p3)] ∧ Z.Warmed39 U.vm ∧ U.heap = h0) (fun _ _ _ _ _ => True) (fun _ U o U' => ∃ v L, o = .returned v ∧ Q_ct Z a1 p2 p3 h0 n0 v U'.heap L ∧ FrameEnd U o U' L ({ frames := 2, cells := 0, slots := 0, locals := 24 } : Room).cells ({ frames := 2, cells := 0, slots := 0, locals := 24 } : Room).slots) := by
  refine MetFree.of_bodySF (plainFor_of_name own_pn1) hisR ?_
  intro p e s m args below meth c s₁ Bd hml0 hP hK
  obtain ⟨rfl, hZ, hh⟩ := hP
  have hx := Bd.exec
  have hby := Bd.bytes
  have hml : c.maxLocals = 3 := hml0
  have hown : s.vm.findClass "com/example/lodepath/lodepath/Serves" = some m.cls := findClass_of_methodNamed Bd.named
  have hnm := (name_of_methodNamed Bd.named Bd.method).1
  have X0 : Stand p l e ({ frames := 2, cells := 0, slots := 0, locals := 24 } : Room) s m #[(.ref a1), (.int p2), (.int p3)] below meth c s₁ [] 0 0 := Stand.of_body Bd
  have e0 : s₁.heap = h0 := by rw [← hh, Bd.state]; rfl
  have N0 := Fr.nil n0
  show own_G p e below (K_ct Z a1 p2 p3 h0 n0 s) (s₁.setTop (entryFrame m #[(.ref a1), (.int p2), (.int p3)] 3))
  refine own_cast (efct m a1 p2 p3) ?_
  show own_G p e below (K_ct Z a1 p2 p3 h0 n0 s) (s₁.setTop (mkF m 0 #[.val (.ref a1), .val (.int p2), .val (.int p3)] []))
  refine own_go (fun t k => XS.aloadN X0.here hx rfl (hb hby dct_0) rfl rfl k) ?_
  show own_G p e below (K_ct Z a1 p2 p3 h0 n0 s) (s₁.setTop (mkF m 1 #[.val (.ref a1), .val (.int p2), .val (.int p3)] [(.ref a1)]))
  obtain ⟨_, _, ⟨T1, L1, k1, n1⟩, -, X1, ⟨Lc1, hQ1, l1, y1, z1⟩, st1⟩ := X0.specialBack hx (y := (⟨"java/lang/Record", "<init>", "()V"⟩ : MethodName)) rfl hown (mvT hZ (hw _ (List.mem_of_getElem? (i := 6) rfl))) (mvT hZ (hw _ (List.mem_of_getElem? (i := 7) rfl))) (mvT hZ (hw _ (List.mem_of_getElem? (i := 10) rfl))) (by decide) (backOf (W := 0) (rm_rec l Z a0 hw [] a1 h0 n0 Z0 ) hZ (hw _ (List.mem_of_getElem? (i := 10) rfl)) (hw _ (List.mem_of_getElem? (i := 9) rfl)) (by decide) (by decide)) (g := (mkF m 1 #[.val (.ref a1), .val (.int p2), .val (.int p3)] [(.ref a1)])) rfl (by rw [hml]; rfl) (Steps.refl _) (a := a1) (argsL := []) (rest := []) (lenOf own_pd0 rfl) rfl (by show 2 * 0 + _ ≤ _; exact Nat.le_of_eq rfl) (hb hby dct_1) (fun _ _ => ⟨rfl, e0, (by decide : 0 + 0 ≤ _), (by decide : 0 + 0 ≤ _)⟩)
  dsimp only [Pt.U, Pt.locs, Pt.cells, Pt.slots] at X1 l1 y1 z1 st1 hQ1
  subst l1 y1 z1
  obtain ⟨rfl, N1q, e1⟩ := hQ1
  have N1 := Fr.app N0 N1q
  refine own_tr st1 ?_
  show own_G p e below (K_ct Z a1 p2 p3 h0 n0 s) (T1.setTop (mkF m 4 #[.val (.ref a1), .val (.int p2), .val (.int p3)] []))
  refine own_go (fun t k => XS.aloadN X1.here hx rfl (hb hby dct_4) rfl rfl k) ?_
  show own_G p e below (K_ct Z a1 p2 p3 h0 n0 s) (T1.setTop (mkF m 5 #[.val (.ref a1), .val (.int p2), .val (.int p3)] [(.ref a1)]))
  refine own_go (fun t k => XS.iloadN X1.here hx rfl (hb hby dct_5) rfl k) ?_
  show own_G p e below (K_ct Z a1 p2 p3 h0 n0 s) (T1.setTop (mkF m 6 #[.val (.ref a1), .val (.int p2), .val (.int p3)] [(.int p2), (.ref a1)]))
  obtain ⟨T2, h2, X2, e2, W2, st2⟩ := putFN X1 hx hZ hown (hw _ (List.mem_of_getElem? (i := 14) rfl)) Via.refl e1 F0_ E_a1 (Or.inr ⟨(hw _ (List.mem_of_getElem? (i := 15) rfl)), rfl, hnm⟩) (hw _ (List.mem_of_getElem? (i := 1) rfl)) (ty := .boolean) (v' := (.int (nar .boolean p2))) (by decide) rfl (fits_nar_bool _) (g := (mkF m 6 #[.val (.ref a1), .val (.int p2), .val (.int p3)] [(.int p2), (.ref a1)])) rfl rfl (hb hby dct_6)
  refine own_go st2 ?_
  have F2 := F0_.same W2
  have N2 := Fr.snoc X2 N1 g_a1
  have Z3 : n0 ≤ h2.size := Nat.le_trans Z0 (Keep.of_wr W2).1
  have K4 := Keep.wr (Keep.refl h0 [a1]) W2 (Or.inl (List.mem_of_getElem? (i := 0) rfl))
  show own_G p e below (K_ct Z a1 p2 p3 h0 n0 s) (T2.setTop (mkF m 9 #[.val (.ref a1), .val (.int p2), .val (.int p3)] []))
  refine own_go (fun t k => XS.aloadN X2.here hx rfl (hb hby dct_9) rfl rfl k) ?_
  show own_G p e below (K_ct Z a1 p2 p3 h0 n0 s) (T2.setTop (mkF m 10 #[.val (.ref a1), .val (.int p2), .val (.int p3)] [(.ref a1)]))
  refine own_go (fun t k => XS.iloadN X2.here hx rfl (hb hby dct_10) rfl k) ?_
  show own_G p e below (K_ct Z a1 p2 p3 h0 n0 s) (T2.setTop (mkF m 11 #[.val (.ref a1), .val (.int p2), .val (.int p3)] [(.int p3), (.ref a1)]))
  have Q5 := (F1_.other W2 (Or.inr (slot_ne (Or.inr (hw _ (List.mem_of_getElem? (i := 17) rfl))) (Or.inr (hw _ (List.mem_of_getElem? (i := 15) rfl))) (by decide) (t := .boolean) (t' := .boolean) (by decide) (by decide))))
  have Q6 := (E_a1.wr W2)
  obtain ⟨T7, h7, X7, e7, W7, st7⟩ := putFN X2 hx hZ hown (hw _ (List.mem_of_getElem? (i := 16) rfl)) Via.refl e2 Q5 Q6 (Or.inr ⟨(hw _ (List.mem_of_getElem? (i := 17) rfl)), rfl, hnm⟩) (hw _ (List.mem_of_getElem? (i := 1) rfl)) (ty := .boolean) (v' := (.int (nar .boolean p3))) (by decide) rfl (fits_nar_bool _) (g := (mkF m 11 #[.val (.ref a1), .val (.int p2), .val (.int p3)] [(.int p3), (.ref a1)])) rfl rfl (hb hby dct_11)
  refine own_go st7 ?_
  have F7 := Q5.same W7
  have N7 := Fr.snoc X7 N2 g_a1
  have Z8 : n0 ≤ h7.size := Nat.le_trans Z3 (Keep.of_wr W7).1
  have K9 := Keep.wr K4 W7 (Or.inl (List.mem_of_getElem? (i := 0) rfl))
  show own_G p e below (K_ct Z a1 p2 p3 h0 n0 s) (T7.setTop (mkF m 14 #[.val (.ref a1), .val (.int p2), .val (.int p3)] []))
  have Q10 := (Q6.wr W7)
  have Q11 := (F2.other W7 (Or.inr (slot_ne (Or.inr (hw _ (List.mem_of_getElem? (i := 15) rfl))) (Or.inr (hw _ (List.mem_of_getElem? (i := 17) rfl))) (by decide) (t := .boolean) (t' := .boolean) (by decide) (by decide))))
  exact own_retV X7 hx Bd.notSynchronized Bd.returns (hb hby dct_14) (fun U hU hV hF => ⟨_, _, rfl, (by rw [hU, e7]; exact ⟨rfl, N7, K9, Q10, Q11, F7⟩), hF.1, hF.2.1, hF.2.2.mono (by decide) (by decide)⟩)
theorem dts11_0 : decode prog_6_method_3_code 0 = .ok (.aload_n 0, 1) := by decide +kernel
theorem dts11_1 : decode prog_6_method_3_code 1 = .ok (.getfield 7, 3) := by decide +kernel
theorem dts11_4 : decode prog_6_method_3_code 4 = .ok (.ifCond .eq 16, 3) := by decide +kernel
theorem dts11_7 : decode prog_6_method_3_code 7 = .ok (.aload_n 0, 1) := by decide +kernel
theorem dts11_8 : decode prog_6_method_3_code 8 = .ok (.getfield 13, 3) := by decide +kernel
theorem dts11_11 : decode prog_6_method_3_code 11 = .ok (.ifCond .eq 9, 3) := by decide +kernel
theorem dts11_14 : decode prog_6_method_3_code 14 = .ok (.ldc 22, 2) := by decide +kernel
theorem dts11_16 : decode prog_6_method_3_code 16 = .ok (.astore_n 1, 1) := by decide +kernel
theorem dts11_17 : decode prog_6_method_3_code 17 = .ok (.goto 32, 3) := by decide +kernel
theorem dts11_49 : decode prog_6_method_3_code 49 = .ok (.aload_n 1, 1) := by decide +kernel
theorem dts11_50 : decode prog_6_method_3_code 50 = .ok (.areturn, 1) := by decide +kernel
theorem efts11 (m : MethodId) (a1 : Addr) : entryFrame m #[(.ref a1)] 2 = mkF m 0 #[.val (.ref a1), .unset] [] := by first | (simp [entryFrame, mkF, argsToLocals, Value.category]; done) | rfl
def Q_ts11 (Z : State) (a1 : Addr) (h0 : Heap) (n0 : Nat) (v : Option Value) (h : Heap) (L : List Loc) : Prop := ∃ (a b : Addr) (k : ClassId), v = some (.ref a) ∧ Fr n0 L ∧ Ext h0 h ∧ Exa Z h a "java/lang/String" ∧ Fld Z h a "java/lang/String" "coder" "B" (.int 0) ∧ Fld Z h a "java/lang/String" "value" "[B" (.ref b) ∧ Arv Z h b k .byte (18 : Int32) (own_bs "releases,snapshots") (.int 0)
def K_ts11 (Z : State) (a1 : Addr) (h0 : Heap) (n0 : Nat) (s : State) (o : Outcome) (U' : State) : Prop := ∃ v L, o = .returned v ∧ Q_ts11 Z a1 h0 n0 v U'.heap L ∧ CHr Z consts_1 s.vm s.heap U'.vm U'.heap ∧ ReturnedEndW s o U' L 2 76
set_option maxRecDepth 65536 in
set_option maxHeartbeats 40000000 in
theorem rm_ts11 (l : Launch) (Z : State) (a0 : Array Value) (hw : ∀ d ∈ tables_1, d.before a0 Z = true) (ws : List Jvm.Cond) (a1 : Addr) (h0 : Heap) (n0 : Nat) (Z0 : n0 ≤ h0.size) (F1 : Fld Z h0 a1 "com/example/lodepath/lodepath/Serves" "releases" "Z" (.int (1 : Int32))) (F2 : Fld Z h0 a1 "com/example/lodepath/lodepath/Serves" "snapshots" "Z" (.int (1 : Int32))) :
    MetFree l (⟨"com/example/lodepath/lodepath/Serves", "toString", "()Ljava/lang/String;"⟩ : MethodName) (head1 (Jvm.Cond.code (⟨"com/example/lodepath/lodepath/Serves", "toString", "()Ljava/lang/String;"⟩ : MethodName) prog_6_method_3_code 2 (some (.object "java/lang/String")) :: ws) ({ frames := 0, cells := 2, slots := 76, locals := 0 } : Room)) (fun a U => a = #[(.ref a1)] ∧ Z.Warmed39 U.vm ∧ U.heap = h0 ∧ CHv Z consts_1 U.vm h0) (fun _ _ _ _ _ => True) (fun _ U o U' => ∃ v L, o = .returned v ∧ Q_ts11 Z a1 h0 n0 v U'.heap L ∧ CHr Z consts_1 U.vm U.heap U'.vm U'.heap ∧ ReturnedEndW U o U' L ({ frames := 0, cells := 2, slots := 76, locals := 0 } : Room).cells ({ frames := 0, cells := 2, slots := 76, locals := 0 } : Room).slots) := by
  refine MetFree.of_bodySF (plainFor_of_name own_pn1) hisR ?_
  intro p e s m args below meth c s₁ Bd hml0 hP hK
  obtain ⟨rfl, hZ, hh, hC⟩ := hP
  have hx := Bd.exec
  have hby := Bd.bytes
  have hml : c.maxLocals = 2 := hml0
  have hown : s.vm.findClass "com/example/lodepath/lodepath/Serves" = some m.cls := findClass_of_methodNamed Bd.named
  have hnm := (name_of_methodNamed Bd.named Bd.method).1
  have X0 : Stand p l e ({ frames := 0, cells := 2, slots := 76, locals := 0 } : Room) (s.setVm s.vm) m #[(.ref a1)] below meth c s₁ [] 0 0 := Stand.of_body Bd
  have e0 : s₁.heap = h0 := by rw [← hh, Bd.state]; rfl
  have N0 := Fr.nil n0
  show own_G p e below (K_ts11 Z a1 h0 n0 s) (s₁.setTop (entryFrame m #[(.ref a1)] 2))
  refine own_cast (efts11 m a1) ?_
  have hZ : Z.Warmed39 (s.setVm s.vm).vm := hZ
  have hown : (s.setVm s.vm).vm.findClass "com/example/lodepath/lodepath/Serves" = some m.cls := hown
  have hS0 : s.Since s.vm s.heap.size := own_since s
  have hk0 : s.heap.size ≤ h0.size := Nat.le_of_eq (by rw [hh])
  have R0 := CHr.refl hC
  have hEL : EW Z a0 consts_1 := own_EW hw
  have wSt : ∀ a ∈ Bundle.stringAtoms, a.before a0 Z = true := own_wSt hw
  show own_G p e below (K_ts11 Z a1 h0 n0 s) (s₁.setTop (mkF m 0 #[.val (.ref a1), .unset] []))
  refine own_go (fun t k => XS.aloadN X0.here hx rfl (hb hby dts11_0) rfl rfl k) ?_
  show own_G p e below (K_ts11 Z a1 h0 n0 s) (s₁.setTop (mkF m 1 #[.val (.ref a1), .unset] [(.ref a1)]))
  obtain ⟨T1, X1, e1, st1⟩ := getF X0 hx hZ hown (host := "") (Or.inl (hw _ (List.mem_of_getElem? (i := 14) rfl))) Via.refl e0 F1 (g := (mkF m 1 #[.val (.ref a1), .unset] [(.ref a1)])) rfl rfl (hb hby dts11_1)
  refine own_go st1 ?_
  show own_G p e below (K_ts11 Z a1 h0 n0 s) (T1.setTop (mkF m 4 #[.val (.ref a1), .unset] [(.int (1 : Int32))]))
  refine own_go (fun t k => XS.ifNo X1.here hx rfl (hb hby dts11_4) rfl ((if0 _ _).trans (by decide)) k) ?_
  show own_G p e below (K_ts11 Z a1 h0 n0 s) (T1.setTop (mkF m 7 #[.val (.ref a1), .unset] []))
  refine own_go (fun t k => XS.aloadN X1.here hx rfl (hb hby dts11_7) rfl rfl k) ?_
  show own_G p e below (K_ts11 Z a1 h0 n0 s) (T1.setTop (mkF m 8 #[.val (.ref a1), .unset] [(.ref a1)]))
  obtain ⟨T2, X2, e2, st2⟩ := getF X1 hx hZ hown (host := "") (Or.inl (hw _ (List.mem_of_getElem? (i := 16) rfl))) Via.refl e1 F2 (g := (mkF m 8 #[.val (.ref a1), .unset] [(.ref a1)])) rfl rfl (hb hby dts11_8)
  refine own_go st2 ?_
  show own_G p e below (K_ts11 Z a1 h0 n0 s) (T2.setTop (mkF m 11 #[.val (.ref a1), .unset] [(.int (1 : Int32))]))
  refine own_go (fun t k => XS.ifNo X2.here hx rfl (hb hby dts11_11) rfl ((if0 _ _).trans (by decide)) k) ?_
  show own_G p e below (K_ts11 Z a1 h0 n0 s) (T2.setTop (mkF m 14 #[.val (.ref a1), .unset] []))
  obtain ⟨a3, T3, h3, k3, b3, kb3, X3, e3, E3, hS3, hk3, hZ3, hown3, A3, Fc3, Fv3, V3, la3, lb3, C3, -, Sf3, st3⟩ := ldcCH (EL := consts_1) X2 hx hZ hown (hw _ (List.mem_of_getElem? (i := 50) rfl)) wSt e2 hS0 hk0 hEL (List.mem_of_getElem? (i := 0) rfl) R0.1 (vs := (own_bs "releases,snapshots")) (z := (18 : Int32)) (own_lit (by decide +kernel)) (by decide) (by decide +kernel) (g := (mkF m 14 #[.val (.ref a1), .unset] [])) rfl (hb hby dts11_14) (n := 72) (by decide +kernel) (by decide) (by decide) (by decide)
  refine own_go st3 ?_
  have R3 := CHr.trans R0 C3
  have Z4 : n0 ≤ h3.size := Nat.le_trans Z0 E3.1
  show own_G p e below (K_ts11 Z a1 h0 n0 s) (T3.setTop (mkF m 16 #[.val (.ref a1), .unset] [(.ref a3)]))
  refine own_go (fun t k => XS.astoreN X3.here hx rfl (hb hby dts11_16) rfl rfl (l' := #[.val (.ref a1), .val (.ref a3)]) rfl k) ?_
  show own_G p e below (K_ts11 Z a1 h0 n0 s) (T3.setTop (mkF m 17 #[.val (.ref a1), .val (.ref a3)] []))
  refine own_go (fun t k => XS.goto X3.here hx rfl (pc0 := 17) (pc' := 49) rfl (hb hby dts11_17) (by decide) (by decide) k) ?_
  show own_G p e below (K_ts11 Z a1 h0 n0 s) (T3.setTop (mkF m 49 #[.val (.ref a1), .val (.ref a3)] []))
  refine own_go (fun t k => XS.aloadN X3.here hx rfl (hb hby dts11_49) rfl rfl k) ?_
  show own_G p e below (K_ts11 Z a1 h0 n0 s) (T3.setTop (mkF m 50 #[.val (.ref a1), .val (.ref a3)] [(.ref a3)]))
  exact own_retRW X3 hS3 (by rw [e3]; exact hk3) hx Bd.notSynchronized Bd.returns rfl rfl (hb hby dts11_50) (fun U hU hV hF => ⟨_, _, rfl, (by rw [hU, e3]; exact ⟨_, _, _, rfl, N0, E3, A3, Fc3, Fv3, V3⟩), (by rw [hU, e3, hV, hh]; exact CHr.trans R3 (CHv.at X3 hZ3 hEL R3.1)), hF.1, hF.2.1, hF.2.2.1, hF.2.2.2.mono (by decide) (by decide)⟩)
theorem dts10_0 : decode prog_6_method_3_code 0 = .ok (.aload_n 0, 1) := by decide +kernel
theorem dts10_1 : decode prog_6_method_3_code 1 = .ok (.getfield 7, 3) := by decide +kernel
theorem dts10_4 : decode prog_6_method_3_code 4 = .ok (.ifCond .eq 16, 3) := by decide +kernel
theorem dts10_7 : decode prog_6_method_3_code 7 = .ok (.aload_n 0, 1) := by decide +kernel
theorem dts10_8 : decode prog_6_method_3_code 8 = .ok (.getfield 13, 3) := by decide +kernel
theorem dts10_11 : decode prog_6_method_3_code 11 = .ok (.ifCond .eq 9, 3) := by decide +kernel
theorem dts10_20 : decode prog_6_method_3_code 20 = .ok (.aload_n 0, 1) := by decide +kernel
theorem dts10_21 : decode prog_6_method_3_code 21 = .ok (.getfield 7, 3) := by decide +kernel
theorem dts10_24 : decode prog_6_method_3_code 24 = .ok (.ifCond .eq 9, 3) := by decide +kernel
theorem dts10_27 : decode prog_6_method_3_code 27 = .ok (.ldc 24, 2) := by decide +kernel
theorem dts10_29 : decode prog_6_method_3_code 29 = .ok (.astore_n 1, 1) := by decide +kernel
theorem dts10_30 : decode prog_6_method_3_code 30 = .ok (.goto 19, 3) := by decide +kernel
theorem dts10_49 : decode prog_6_method_3_code 49 = .ok (.aload_n 1, 1) := by decide +kernel
theorem dts10_50 : decode prog_6_method_3_code 50 = .ok (.areturn, 1) := by decide +kernel
theorem efts10 (m : MethodId) (a1 : Addr) : entryFrame m #[(.ref a1)] 2 = mkF m 0 #[.val (.ref a1), .unset] [] := by first | (simp [entryFrame, mkF, argsToLocals, Value.category]; done) | rfl
def Q_ts10 (Z : State) (a1 : Addr) (h0 : Heap) (n0 : Nat) (v : Option Value) (h : Heap) (L : List Loc) : Prop := ∃ (a b : Addr) (k : ClassId), v = some (.ref a) ∧ Fr n0 L ∧ Ext h0 h ∧ Exa Z h a "java/lang/String" ∧ Fld Z h a "java/lang/String" "coder" "B" (.int 0) ∧ Fld Z h a "java/lang/String" "value" "[B" (.ref b) ∧ Arv Z h b k .byte (8 : Int32) (own_bs "releases") (.int 0)
def K_ts10 (Z : State) (a1 : Addr) (h0 : Heap) (n0 : Nat) (s : State) (o : Outcome) (U' : State) : Prop := ∃ v L, o = .returned v ∧ Q_ts10 Z a1 h0 n0 v U'.heap L ∧ CHr Z consts_1 s.vm s.heap U'.vm U'.heap ∧ ReturnedEndW s o U' L 2 76
set_option maxRecDepth 65536 in
set_option maxHeartbeats 40000000 in
theorem rm_ts10 (l : Launch) (Z : State) (a0 : Array Value) (hw : ∀ d ∈ tables_1, d.before a0 Z = true) (ws : List Jvm.Cond) (a1 : Addr) (h0 : Heap) (n0 : Nat) (Z0 : n0 ≤ h0.size) (F1 : Fld Z h0 a1 "com/example/lodepath/lodepath/Serves" "releases" "Z" (.int (1 : Int32))) (F2 : Fld Z h0 a1 "com/example/lodepath/lodepath/Serves" "snapshots" "Z" (.int (0 : Int32))) :
    MetFree l (⟨"com/example/lodepath/lodepath/Serves", "toString", "()Ljava/lang/String;"⟩ : MethodName) (head1 (Jvm.Cond.code (⟨"com/example/lodepath/lodepath/Serves", "toString", "()Ljava/lang/String;"⟩ : MethodName) prog_6_method_3_code 2 (some (.object "java/lang/String")) :: ws) ({ frames := 0, cells := 2, slots := 76, locals := 0 } : Room)) (fun a U => a = #[(.ref a1)] ∧ Z.Warmed39 U.vm ∧ U.heap = h0 ∧ CHv Z consts_1 U.vm h0) (fun _ _ _ _ _ => True) (fun _ U o U' => ∃ v L, o = .returned v ∧ Q_ts10 Z a1 h0 n0 v U'.heap L ∧ CHr Z consts_1 U.vm U.heap U'.vm U'.heap ∧ ReturnedEndW U o U' L ({ frames := 0, cells := 2, slots := 76, locals := 0 } : Room).cells ({ frames := 0, cells := 2, slots := 76, locals := 0 } : Room).slots) := by
  refine MetFree.of_bodySF (plainFor_of_name own_pn1) hisR ?_
  intro p e s m args below meth c s₁ Bd hml0 hP hK
  obtain ⟨rfl, hZ, hh, hC⟩ := hP
  have hx := Bd.exec
  have hby := Bd.bytes
  have hml : c.maxLocals = 2 := hml0
  have hown : s.vm.findClass "com/example/lodepath/lodepath/Serves" = some m.cls := findClass_of_methodNamed Bd.named
  have hnm := (name_of_methodNamed Bd.named Bd.method).1
  have X0 : Stand p l e ({ frames := 0, cells := 2, slots := 76, locals := 0 } : Room) (s.setVm s.vm) m #[(.ref a1)] below meth c s₁ [] 0 0 := Stand.of_body Bd
  have e0 : s₁.heap = h0 := by rw [← hh, Bd.state]; rfl
  have N0 := Fr.nil n0
  show own_G p e below (K_ts10 Z a1 h0 n0 s) (s₁.setTop (entryFrame m #[(.ref a1)] 2))
  refine own_cast (efts10 m a1) ?_
  have hZ : Z.Warmed39 (s.setVm s.vm).vm := hZ
  have hown : (s.setVm s.vm).vm.findClass "com/example/lodepath/lodepath/Serves" = some m.cls := hown
  have hS0 : s.Since s.vm s.heap.size := own_since s
  have hk0 : s.heap.size ≤ h0.size := Nat.le_of_eq (by rw [hh])
  have R0 := CHr.refl hC
  have hEL : EW Z a0 consts_1 := own_EW hw
  have wSt : ∀ a ∈ Bundle.stringAtoms, a.before a0 Z = true := own_wSt hw
  show own_G p e below (K_ts10 Z a1 h0 n0 s) (s₁.setTop (mkF m 0 #[.val (.ref a1), .unset] []))
  refine own_go (fun t k => XS.aloadN X0.here hx rfl (hb hby dts10_0) rfl rfl k) ?_
  show own_G p e below (K_ts10 Z a1 h0 n0 s) (s₁.setTop (mkF m 1 #[.val (.ref a1), .unset] [(.ref a1)]))
  obtain ⟨T1, X1, e1, st1⟩ := getF X0 hx hZ hown (host := "") (Or.inl (hw _ (List.mem_of_getElem? (i := 14) rfl))) Via.refl e0 F1 (g := (mkF m 1 #[.val (.ref a1), .unset] [(.ref a1)])) rfl rfl (hb hby dts10_1)
  refine own_go st1 ?_
  show own_G p e below (K_ts10 Z a1 h0 n0 s) (T1.setTop (mkF m 4 #[.val (.ref a1), .unset] [(.int (1 : Int32))]))
  refine own_go (fun t k => XS.ifNo X1.here hx rfl (hb hby dts10_4) rfl ((if0 _ _).trans (by decide)) k) ?_
  show own_G p e below (K_ts10 Z a1 h0 n0 s) (T1.setTop (mkF m 7 #[.val (.ref a1), .unset] []))
  refine own_go (fun t k => XS.aloadN X1.here hx rfl (hb hby dts10_7) rfl rfl k) ?_
  show own_G p e below (K_ts10 Z a1 h0 n0 s) (T1.setTop (mkF m 8 #[.val (.ref a1), .unset] [(.ref a1)]))
  obtain ⟨T2, X2, e2, st2⟩ := getF X1 hx hZ hown (host := "") (Or.inl (hw _ (List.mem_of_getElem? (i := 16) rfl))) Via.refl e1 F2 (g := (mkF m 8 #[.val (.ref a1), .unset] [(.ref a1)])) rfl rfl (hb hby dts10_8)
  refine own_go st2 ?_
  show own_G p e below (K_ts10 Z a1 h0 n0 s) (T2.setTop (mkF m 11 #[.val (.ref a1), .unset] [(.int (0 : Int32))]))
  refine own_go (fun t k => XS.ifYes X2.here hx rfl (pc0 := 11) (pc' := 20) rfl (hb hby dts10_11) rfl ((if0 _ _).trans (by decide)) (by decide) (by decide) k) ?_
  show own_G p e below (K_ts10 Z a1 h0 n0 s) (T2.setTop (mkF m 20 #[.val (.ref a1), .unset] []))
  refine own_go (fun t k => XS.aloadN X2.here hx rfl (hb hby dts10_20) rfl rfl k) ?_
  show own_G p e below (K_ts10 Z a1 h0 n0 s) (T2.setTop (mkF m 21 #[.val (.ref a1), .unset] [(.ref a1)]))
  obtain ⟨T3, X3, e3, st3⟩ := getF X2 hx hZ hown (host := "") (Or.inl (hw _ (List.mem_of_getElem? (i := 14) rfl))) Via.refl e2 F1 (g := (mkF m 21 #[.val (.ref a1), .unset] [(.ref a1)])) rfl rfl (hb hby dts10_21)
  refine own_go st3 ?_
  show own_G p e below (K_ts10 Z a1 h0 n0 s) (T3.setTop (mkF m 24 #[.val (.ref a1), .unset] [(.int (1 : Int32))]))
  refine own_go (fun t k => XS.ifNo X3.here hx rfl (hb hby dts10_24) rfl ((if0 _ _).trans (by decide)) k) ?_
  show own_G p e below (K_ts10 Z a1 h0 n0 s) (T3.setTop (mkF m 27 #[.val (.ref a1), .unset] []))
  obtain ⟨a4, T4, h4, k4, b4, kb4, X4, e4, E4, hS4, hk4, hZ4, hown4, A4, Fc4, Fv4, V4, la4, lb4, C4, -, Sf4, st4⟩ := ldcCH (EL := consts_1) X3 hx hZ hown (hw _ (List.mem_of_getElem? (i := 51) rfl)) wSt e3 hS0 hk0 hEL (List.mem_of_getElem? (i := 1) rfl) R0.1 (vs := (own_bs "releases")) (z := (8 : Int32)) (own_lit (by decide +kernel)) (by decide) (by decide +kernel) (g := (mkF m 27 #[.val (.ref a1), .unset] [])) rfl (hb hby dts10_27) (n := 32) (by decide +kernel) (by decide) (by decide) (by decide)
  refine own_go st4 ?_
  have R4 := CHr.trans R0 C4
  have Z5 : n0 ≤ h4.size := Nat.le_trans Z0 E4.1
  show own_G p e below (K_ts10 Z a1 h0 n0 s) (T4.setTop (mkF m 29 #[.val (.ref a1), .unset] [(.ref a4)]))
  refine own_go (fun t k => XS.astoreN X4.here hx rfl (hb hby dts10_29) rfl rfl (l' := #[.val (.ref a1), .val (.ref a4)]) rfl k) ?_
  show own_G p e below (K_ts10 Z a1 h0 n0 s) (T4.setTop (mkF m 30 #[.val (.ref a1), .val (.ref a4)] []))
  refine own_go (fun t k => XS.goto X4.here hx rfl (pc0 := 30) (pc' := 49) rfl (hb hby dts10_30) (by decide) (by decide) k) ?_
  show own_G p e below (K_ts10 Z a1 h0 n0 s) (T4.setTop (mkF m 49 #[.val (.ref a1), .val (.ref a4)] []))
  refine own_go (fun t k => XS.aloadN X4.here hx rfl (hb hby dts10_49) rfl rfl k) ?_
  show own_G p e below (K_ts10 Z a1 h0 n0 s) (T4.setTop (mkF m 50 #[.val (.ref a1), .val (.ref a4)] [(.ref a4)]))
  exact own_retRW X4 hS4 (by rw [e4]; exact hk4) hx Bd.notSynchronized Bd.returns rfl rfl (hb hby dts10_50) (fun U hU hV hF => ⟨_, _, rfl, (by rw [hU, e4]; exact ⟨_, _, _, rfl, N0, E4, A4, Fc4, Fv4, V4⟩), (by rw [hU, e4, hV, hh]; exact CHr.trans R4 (CHv.at X4 hZ4 hEL R4.1)), hF.1, hF.2.1, hF.2.2.1, hF.2.2.2.mono (by decide) (by decide)⟩)
theorem dts01_0 : decode prog_6_method_3_code 0 = .ok (.aload_n 0, 1) := by decide +kernel
theorem dts01_1 : decode prog_6_method_3_code 1 = .ok (.getfield 7, 3) := by decide +kernel
theorem dts01_4 : decode prog_6_method_3_code 4 = .ok (.ifCond .eq 16, 3) := by decide +kernel
theorem dts01_20 : decode prog_6_method_3_code 20 = .ok (.aload_n 0, 1) := by decide +kernel
theorem dts01_21 : decode prog_6_method_3_code 21 = .ok (.getfield 7, 3) := by decide +kernel
theorem dts01_24 : decode prog_6_method_3_code 24 = .ok (.ifCond .eq 9, 3) := by decide +kernel
theorem dts01_33 : decode prog_6_method_3_code 33 = .ok (.aload_n 0, 1) := by decide +kernel
theorem dts01_34 : decode prog_6_method_3_code 34 = .ok (.getfield 13, 3) := by decide +kernel
theorem dts01_37 : decode prog_6_method_3_code 37 = .ok (.ifCond .eq 9, 3) := by decide +kernel
theorem dts01_40 : decode prog_6_method_3_code 40 = .ok (.ldc 25, 2) := by decide +kernel
theorem dts01_42 : decode prog_6_method_3_code 42 = .ok (.astore_n 1, 1) := by decide +kernel
theorem dts01_43 : decode prog_6_method_3_code 43 = .ok (.goto 6, 3) := by decide +kernel
theorem dts01_49 : decode prog_6_method_3_code 49 = .ok (.aload_n 1, 1) := by decide +kernel
theorem dts01_50 : decode prog_6_method_3_code 50 = .ok (.areturn, 1) := by decide +kernel
theorem efts01 (m : MethodId) (a1 : Addr) : entryFrame m #[(.ref a1)] 2 = mkF m 0 #[.val (.ref a1), .unset] [] := by first | (simp [entryFrame, mkF, argsToLocals, Value.category]; done) | rfl
def Q_ts01 (Z : State) (a1 : Addr) (h0 : Heap) (n0 : Nat) (v : Option Value) (h : Heap) (L : List Loc) : Prop := ∃ (a b : Addr) (k : ClassId), v = some (.ref a) ∧ Fr n0 L ∧ Ext h0 h ∧ Exa Z h a "java/lang/String" ∧ Fld Z h a "java/lang/String" "coder" "B" (.int 0) ∧ Fld Z h a "java/lang/String" "value" "[B" (.ref b) ∧ Arv Z h b k .byte (9 : Int32) (own_bs "snapshots") (.int 0)
def K_ts01 (Z : State) (a1 : Addr) (h0 : Heap) (n0 : Nat) (s : State) (o : Outcome) (U' : State) : Prop := ∃ v L, o = .returned v ∧ Q_ts01 Z a1 h0 n0 v U'.heap L ∧ CHr Z consts_1 s.vm s.heap U'.vm U'.heap ∧ ReturnedEndW s o U' L 2 76
set_option maxRecDepth 65536 in
set_option maxHeartbeats 40000000 in
theorem rm_ts01 (l : Launch) (Z : State) (a0 : Array Value) (hw : ∀ d ∈ tables_1, d.before a0 Z = true) (ws : List Jvm.Cond) (a1 : Addr) (h0 : Heap) (n0 : Nat) (Z0 : n0 ≤ h0.size) (F1 : Fld Z h0 a1 "com/example/lodepath/lodepath/Serves" "releases" "Z" (.int (0 : Int32))) (F2 : Fld Z h0 a1 "com/example/lodepath/lodepath/Serves" "snapshots" "Z" (.int (1 : Int32))) :
    MetFree l (⟨"com/example/lodepath/lodepath/Serves", "toString", "()Ljava/lang/String;"⟩ : MethodName) (head1 (Jvm.Cond.code (⟨"com/example/lodepath/lodepath/Serves", "toString", "()Ljava/lang/String;"⟩ : MethodName) prog_6_method_3_code 2 (some (.object "java/lang/String")) :: ws) ({ frames := 0, cells := 2, slots := 76, locals := 0 } : Room)) (fun a U => a = #[(.ref a1)] ∧ Z.Warmed39 U.vm ∧ U.heap = h0 ∧ CHv Z consts_1 U.vm h0) (fun _ _ _ _ _ => True) (fun _ U o U' => ∃ v L, o = .returned v ∧ Q_ts01 Z a1 h0 n0 v U'.heap L ∧ CHr Z consts_1 U.vm U.heap U'.vm U'.heap ∧ ReturnedEndW U o U' L ({ frames := 0, cells := 2, slots := 76, locals := 0 } : Room).cells ({ frames := 0, cells := 2, slots := 76, locals := 0 } : Room).slots) := by
  refine MetFree.of_bodySF (plainFor_of_name own_pn1) hisR ?_
  intro p e s m args below meth c s₁ Bd hml0 hP hK
  obtain ⟨rfl, hZ, hh, hC⟩ := hP
  have hx := Bd.exec
  have hby := Bd.bytes
  have hml : c.maxLocals = 2 := hml0
  have hown : s.vm.findClass "com/example/lodepath/lodepath/Serves" = some m.cls := findClass_of_methodNamed Bd.named
  have hnm := (name_of_methodNamed Bd.named Bd.method).1
  have X0 : Stand p l e ({ frames := 0, cells := 2, slots := 76, locals := 0 } : Room) (s.setVm s.vm) m #[(.ref a1)] below meth c s₁ [] 0 0 := Stand.of_body Bd
  have e0 : s₁.heap = h0 := by rw [← hh, Bd.state]; rfl
  have N0 := Fr.nil n0
  show own_G p e below (K_ts01 Z a1 h0 n0 s) (s₁.setTop (entryFrame m #[(.ref a1)] 2))
  refine own_cast (efts01 m a1) ?_
  have hZ : Z.Warmed39 (s.setVm s.vm).vm := hZ
  have hown : (s.setVm s.vm).vm.findClass "com/example/lodepath/lodepath/Serves" = some m.cls := hown
  have hS0 : s.Since s.vm s.heap.size := own_since s
  have hk0 : s.heap.size ≤ h0.size := Nat.le_of_eq (by rw [hh])
  have R0 := CHr.refl hC
  have hEL : EW Z a0 consts_1 := own_EW hw
  have wSt : ∀ a ∈ Bundle.stringAtoms, a.before a0 Z = true := own_wSt hw
  show own_G p e below (K_ts01 Z a1 h0 n0 s) (s₁.setTop (mkF m 0 #[.val (.ref a1), .unset] []))
  refine own_go (fun t k => XS.aloadN X0.here hx rfl (hb hby dts01_0) rfl rfl k) ?_
  show own_G p e below (K_ts01 Z a1 h0 n0 s) (s₁.setTop (mkF m 1 #[.val (.ref a1), .unset] [(.ref a1)]))
  obtain ⟨T1, X1, e1, st1⟩ := getF X0 hx hZ hown (host := "") (Or.inl (hw _ (List.mem_of_getElem? (i := 14) rfl))) Via.refl e0 F1 (g := (mkF m 1 #[.val (.ref a1), .unset] [(.ref a1)])) rfl rfl (hb hby dts01_1)
  refine own_go st1 ?_
  show own_G p e below (K_ts01 Z a1 h0 n0 s) (T1.setTop (mkF m 4 #[.val (.ref a1), .unset] [(.int (0 : Int32))]))
  refine own_go (fun t k => XS.ifYes X1.here hx rfl (pc0 := 4) (pc' := 20) rfl (hb hby dts01_4) rfl ((if0 _ _).trans (by decide)) (by decide) (by decide) k) ?_
  show own_G p e below (K_ts01 Z a1 h0 n0 s) (T1.setTop (mkF m 20 #[.val (.ref a1), .unset] []))
  refine own_go (fun t k => XS.aloadN X1.here hx rfl (hb hby dts01_20) rfl rfl k) ?_
  show own_G p e below (K_ts01 Z a1 h0 n0 s) (T1.setTop (mkF m 21 #[.val (.ref a1), .unset] [(.ref a1)]))
  obtain ⟨T2, X2, e2, st2⟩ := getF X1 hx hZ hown (host := "") (Or.inl (hw _ (List.mem_of_getElem? (i := 14) rfl))) Via.refl e1 F1 (g := (mkF m 21 #[.val (.ref a1), .unset] [(.ref a1)])) rfl rfl (hb hby dts01_21)
  refine own_go st2 ?_
  show own_G p e below (K_ts01 Z a1 h0 n0 s) (T2.setTop (mkF m 24 #[.val (.ref a1), .unset] [(.int (0 : Int32))]))
  refine own_go (fun t k => XS.ifYes X2.here hx rfl (pc0 := 24) (pc' := 33) rfl (hb hby dts01_24) rfl ((if0 _ _).trans (by decide)) (by decide) (by decide) k) ?_
  show own_G p e below (K_ts01 Z a1 h0 n0 s) (T2.setTop (mkF m 33 #[.val (.ref a1), .unset] []))
  refine own_go (fun t k => XS.aloadN X2.here hx rfl (hb hby dts01_33) rfl rfl k) ?_
  show own_G p e below (K_ts01 Z a1 h0 n0 s) (T2.setTop (mkF m 34 #[.val (.ref a1), .unset] [(.ref a1)]))
  obtain ⟨T3, X3, e3, st3⟩ := getF X2 hx hZ hown (host := "") (Or.inl (hw _ (List.mem_of_getElem? (i := 16) rfl))) Via.refl e2 F2 (g := (mkF m 34 #[.val (.ref a1), .unset] [(.ref a1)])) rfl rfl (hb hby dts01_34)
  refine own_go st3 ?_
  show own_G p e below (K_ts01 Z a1 h0 n0 s) (T3.setTop (mkF m 37 #[.val (.ref a1), .unset] [(.int (1 : Int32))]))
  refine own_go (fun t k => XS.ifNo X3.here hx rfl (hb hby dts01_37) rfl ((if0 _ _).trans (by decide)) k) ?_
  show own_G p e below (K_ts01 Z a1 h0 n0 s) (T3.setTop (mkF m 40 #[.val (.ref a1), .unset] []))
  obtain ⟨a4, T4, h4, k4, b4, kb4, X4, e4, E4, hS4, hk4, hZ4, hown4, A4, Fc4, Fv4, V4, la4, lb4, C4, -, Sf4, st4⟩ := ldcCH (EL := consts_1) X3 hx hZ hown (hw _ (List.mem_of_getElem? (i := 23) rfl)) wSt e3 hS0 hk0 hEL (List.mem_of_getElem? (i := 2) rfl) R0.1 (vs := (own_bs "snapshots")) (z := (9 : Int32)) (own_lit (by decide +kernel)) (by decide) (by decide +kernel) (g := (mkF m 40 #[.val (.ref a1), .unset] [])) rfl (hb hby dts01_40) (n := 36) (by decide +kernel) (by decide) (by decide) (by decide)
  refine own_go st4 ?_
  have R4 := CHr.trans R0 C4
  have Z5 : n0 ≤ h4.size := Nat.le_trans Z0 E4.1
  show own_G p e below (K_ts01 Z a1 h0 n0 s) (T4.setTop (mkF m 42 #[.val (.ref a1), .unset] [(.ref a4)]))
  refine own_go (fun t k => XS.astoreN X4.here hx rfl (hb hby dts01_42) rfl rfl (l' := #[.val (.ref a1), .val (.ref a4)]) rfl k) ?_
  show own_G p e below (K_ts01 Z a1 h0 n0 s) (T4.setTop (mkF m 43 #[.val (.ref a1), .val (.ref a4)] []))
  refine own_go (fun t k => XS.goto X4.here hx rfl (pc0 := 43) (pc' := 49) rfl (hb hby dts01_43) (by decide) (by decide) k) ?_
  show own_G p e below (K_ts01 Z a1 h0 n0 s) (T4.setTop (mkF m 49 #[.val (.ref a1), .val (.ref a4)] []))
  refine own_go (fun t k => XS.aloadN X4.here hx rfl (hb hby dts01_49) rfl rfl k) ?_
  show own_G p e below (K_ts01 Z a1 h0 n0 s) (T4.setTop (mkF m 50 #[.val (.ref a1), .val (.ref a4)] [(.ref a4)]))
  exact own_retRW X4 hS4 (by rw [e4]; exact hk4) hx Bd.notSynchronized Bd.returns rfl rfl (hb hby dts01_50) (fun U hU hV hF => ⟨_, _, rfl, (by rw [hU, e4]; exact ⟨_, _, _, rfl, N0, E4, A4, Fc4, Fv4, V4⟩), (by rw [hU, e4, hV, hh]; exact CHr.trans R4 (CHv.at X4 hZ4 hEL R4.1)), hF.1, hF.2.1, hF.2.2.1, hF.2.2.2.mono (by decide) (by decide)⟩)
theorem dts00_0 : decode prog_6_method_3_code 0 = .ok (.aload_n 0, 1) := by decide +kernel
theorem dts00_1 : decode prog_6_method_3_code 1 = .ok (.getfield 7, 3) := by decide +kernel
theorem dts00_4 : decode prog_6_method_3_code 4 = .ok (.ifCond .eq 16, 3) := by decide +kernel
theorem dts00_20 : decode prog_6_method_3_code 20 = .ok (.aload_n 0, 1) := by decide +kernel
theorem dts00_21 : decode prog_6_method_3_code 21 = .ok (.getfield 7, 3) := by decide +kernel
theorem dts00_24 : decode prog_6_method_3_code 24 = .ok (.ifCond .eq 9, 3) := by decide +kernel
theorem dts00_33 : decode prog_6_method_3_code 33 = .ok (.aload_n 0, 1) := by decide +kernel
theorem dts00_34 : decode prog_6_method_3_code 34 = .ok (.getfield 13, 3) := by decide +kernel
theorem dts00_37 : decode prog_6_method_3_code 37 = .ok (.ifCond .eq 9, 3) := by decide +kernel
theorem dts00_46 : decode prog_6_method_3_code 46 = .ok (.ldc 26, 2) := by decide +kernel
theorem dts00_48 : decode prog_6_method_3_code 48 = .ok (.astore_n 1, 1) := by decide +kernel
theorem dts00_49 : decode prog_6_method_3_code 49 = .ok (.aload_n 1, 1) := by decide +kernel
theorem dts00_50 : decode prog_6_method_3_code 50 = .ok (.areturn, 1) := by decide +kernel
theorem efts00 (m : MethodId) (a1 : Addr) : entryFrame m #[(.ref a1)] 2 = mkF m 0 #[.val (.ref a1), .unset] [] := by first | (simp [entryFrame, mkF, argsToLocals, Value.category]; done) | rfl
def Q_ts00 (Z : State) (a1 : Addr) (h0 : Heap) (n0 : Nat) (v : Option Value) (h : Heap) (L : List Loc) : Prop := ∃ (a b : Addr) (k : ClassId), v = some (.ref a) ∧ Fr n0 L ∧ Ext h0 h ∧ Exa Z h a "java/lang/String" ∧ Fld Z h a "java/lang/String" "coder" "B" (.int 0) ∧ Fld Z h a "java/lang/String" "value" "[B" (.ref b) ∧ Arv Z h b k .byte (4 : Int32) (own_bs "none") (.int 0)
def K_ts00 (Z : State) (a1 : Addr) (h0 : Heap) (n0 : Nat) (s : State) (o : Outcome) (U' : State) : Prop := ∃ v L, o = .returned v ∧ Q_ts00 Z a1 h0 n0 v U'.heap L ∧ CHr Z consts_1 s.vm s.heap U'.vm U'.heap ∧ ReturnedEndW s o U' L 2 76
set_option maxRecDepth 65536 in
set_option maxHeartbeats 40000000 in
theorem rm_ts00 (l : Launch) (Z : State) (a0 : Array Value) (hw : ∀ d ∈ tables_1, d.before a0 Z = true) (ws : List Jvm.Cond) (a1 : Addr) (h0 : Heap) (n0 : Nat) (Z0 : n0 ≤ h0.size) (F1 : Fld Z h0 a1 "com/example/lodepath/lodepath/Serves" "releases" "Z" (.int (0 : Int32))) (F2 : Fld Z h0 a1 "com/example/lodepath/lodepath/Serves" "snapshots" "Z" (.int (0 : Int32))) :
    MetFree l (⟨"com/example/lodepath/lodepath/Serves", "toString", "()Ljava/lang/String;"⟩ : MethodName) (head1 (Jvm.Cond.code (⟨"com/example/lodepath/lodepath/Serves", "toString", "()Ljava/lang/String;"⟩ : MethodName) prog_6_method_3_code 2 (some (.object "java/lang/String")) :: ws) ({ frames := 0, cells := 2, slots := 76, locals := 0 } : Room)) (fun a U => a = #[(.ref a1)] ∧ Z.Warmed39 U.vm ∧ U.heap = h0 ∧ CHv Z consts_1 U.vm h0) (fun _ _ _ _ _ => True) (fun _ U o U' => ∃ v L, o = .returned v ∧ Q_ts00 Z a1 h0 n0 v U'.heap L ∧ CHr Z consts_1 U.vm U.heap U'.vm U'.heap ∧ ReturnedEndW U o U' L ({ frames := 0, cells := 2, slots := 76, locals := 0 } : Room).cells ({ frames := 0, cells := 2, slots := 76, locals := 0 } : Room).slots) := by
  refine MetFree.of_bodySF (plainFor_of_name own_pn1) hisR ?_
  intro p e s m args below meth c s₁ Bd hml0 hP hK
  obtain ⟨rfl, hZ, hh, hC⟩ := hP
  have hx := Bd.exec
  have hby := Bd.bytes
  have hml : c.maxLocals = 2 := hml0
  have hown : s.vm.findClass "com/example/lodepath/lodepath/Serves" = some m.cls := findClass_of_methodNamed Bd.named
  have hnm := (name_of_methodNamed Bd.named Bd.method).1
  have X0 : Stand p l e ({ frames := 0, cells := 2, slots := 76, locals := 0 } : Room) (s.setVm s.vm) m #[(.ref a1)] below meth c s₁ [] 0 0 := Stand.of_body Bd
  have e0 : s₁.heap = h0 := by rw [← hh, Bd.state]; rfl
  have N0 := Fr.nil n0
  show own_G p e below (K_ts00 Z a1 h0 n0 s) (s₁.setTop (entryFrame m #[(.ref a1)] 2))
  refine own_cast (efts00 m a1) ?_
  have hZ : Z.Warmed39 (s.setVm s.vm).vm := hZ
  have hown : (s.setVm s.vm).vm.findClass "com/example/lodepath/lodepath/Serves" = some m.cls := hown
  have hS0 : s.Since s.vm s.heap.size := own_since s
  have hk0 : s.heap.size ≤ h0.size := Nat.le_of_eq (by rw [hh])
  have R0 := CHr.refl hC
  have hEL : EW Z a0 consts_1 := own_EW hw
  have wSt : ∀ a ∈ Bundle.stringAtoms, a.before a0 Z = true := own_wSt hw
  show own_G p e below (K_ts00 Z a1 h0 n0 s) (s₁.setTop (mkF m 0 #[.val (.ref a1), .unset] []))
  refine own_go (fun t k => XS.aloadN X0.here hx rfl (hb hby dts00_0) rfl rfl k) ?_
  show own_G p e below (K_ts00 Z a1 h0 n0 s) (s₁.setTop (mkF m 1 #[.val (.ref a1), .unset] [(.ref a1)]))
  obtain ⟨T1, X1, e1, st1⟩ := getF X0 hx hZ hown (host := "") (Or.inl (hw _ (List.mem_of_getElem? (i := 14) rfl))) Via.refl e0 F1 (g := (mkF m 1 #[.val (.ref a1), .unset] [(.ref a1)])) rfl rfl (hb hby dts00_1)
  refine own_go st1 ?_
  show own_G p e below (K_ts00 Z a1 h0 n0 s) (T1.setTop (mkF m 4 #[.val (.ref a1), .unset] [(.int (0 : Int32))]))
  refine own_go (fun t k => XS.ifYes X1.here hx rfl (pc0 := 4) (pc' := 20) rfl (hb hby dts00_4) rfl ((if0 _ _).trans (by decide)) (by decide) (by decide) k) ?_
  show own_G p e below (K_ts00 Z a1 h0 n0 s) (T1.setTop (mkF m 20 #[.val (.ref a1), .unset] []))
  refine own_go (fun t k => XS.aloadN X1.here hx rfl (hb hby dts00_20) rfl rfl k) ?_
  show own_G p e below (K_ts00 Z a1 h0 n0 s) (T1.setTop (mkF m 21 #[.val (.ref a1), .unset] [(.ref a1)]))
  obtain ⟨T2, X2, e2, st2⟩ := getF X1 hx hZ hown (host := "") (Or.inl (hw _ (List.mem_of_getElem? (i := 14) rfl))) Via.refl e1 F1 (g := (mkF m 21 #[.val (.ref a1), .unset] [(.ref a1)])) rfl rfl (hb hby dts00_21)
  refine own_go st2 ?_
  show own_G p e below (K_ts00 Z a1 h0 n0 s) (T2.setTop (mkF m 24 #[.val (.ref a1), .unset] [(.int (0 : Int32))]))
  refine own_go (fun t k => XS.ifYes X2.here hx rfl (pc0 := 24) (pc' := 33) rfl (hb hby dts00_24) rfl ((if0 _ _).trans (by decide)) (by decide) (by decide) k) ?_
  show own_G p e below (K_ts00 Z a1 h0 n0 s) (T2.setTop (mkF m 33 #[.val (.ref a1), .unset] []))
  refine own_go (fun t k => XS.aloadN X2.here hx rfl (hb hby dts00_33) rfl rfl k) ?_
  show own_G p e below (K_ts00 Z a1 h0 n0 s) (T2.setTop (mkF m 34 #[.val (.ref a1), .unset] [(.ref a1)]))
  obtain ⟨T3, X3, e3, st3⟩ := getF X2 hx hZ hown (host := "") (Or.inl (hw _ (List.mem_of_getElem? (i := 16) rfl))) Via.refl e2 F2 (g := (mkF m 34 #[.val (.ref a1), .unset] [(.ref a1)])) rfl rfl (hb hby dts00_34)
  refine own_go st3 ?_
  show own_G p e below (K_ts00 Z a1 h0 n0 s) (T3.setTop (mkF m 37 #[.val (.ref a1), .unset] [(.int (0 : Int32))]))
  refine own_go (fun t k => XS.ifYes X3.here hx rfl (pc0 := 37) (pc' := 46) rfl (hb hby dts00_37) rfl ((if0 _ _).trans (by decide)) (by decide) (by decide) k) ?_
  show own_G p e below (K_ts00 Z a1 h0 n0 s) (T3.setTop (mkF m 46 #[.val (.ref a1), .unset] []))
  obtain ⟨a4, T4, h4, k4, b4, kb4, X4, e4, E4, hS4, hk4, hZ4, hown4, A4, Fc4, Fv4, V4, la4, lb4, C4, -, Sf4, st4⟩ := ldcCH (EL := consts_1) X3 hx hZ hown (hw _ (List.mem_of_getElem? (i := 48) rfl)) wSt e3 hS0 hk0 hEL (List.mem_of_getElem? (i := 3) rfl) R0.1 (vs := (own_bs "none")) (z := (4 : Int32)) (own_lit (by decide +kernel)) (by decide) (by decide +kernel) (g := (mkF m 46 #[.val (.ref a1), .unset] [])) rfl (hb hby dts00_46) (n := 16) (by decide +kernel) (by decide) (by decide) (by decide)
  refine own_go st4 ?_
  have R4 := CHr.trans R0 C4
  have Z5 : n0 ≤ h4.size := Nat.le_trans Z0 E4.1
  show own_G p e below (K_ts00 Z a1 h0 n0 s) (T4.setTop (mkF m 48 #[.val (.ref a1), .unset] [(.ref a4)]))
  refine own_go (fun t k => XS.astoreN X4.here hx rfl (hb hby dts00_48) rfl rfl (l' := #[.val (.ref a1), .val (.ref a4)]) rfl k) ?_
  show own_G p e below (K_ts00 Z a1 h0 n0 s) (T4.setTop (mkF m 49 #[.val (.ref a1), .val (.ref a4)] []))
  refine own_go (fun t k => XS.aloadN X4.here hx rfl (hb hby dts00_49) rfl rfl k) ?_
  show own_G p e below (K_ts00 Z a1 h0 n0 s) (T4.setTop (mkF m 50 #[.val (.ref a1), .val (.ref a4)] [(.ref a4)]))
  exact own_retRW X4 hS4 (by rw [e4]; exact hk4) hx Bd.notSynchronized Bd.returns rfl rfl (hb hby dts00_50) (fun U hU hV hF => ⟨_, _, rfl, (by rw [hU, e4]; exact ⟨_, _, _, rfl, N0, E4, A4, Fc4, Fv4, V4⟩), (by rw [hU, e4, hV, hh]; exact CHr.trans R4 (CHv.at X4 hZ4 hEL R4.1)), hF.1, hF.2.1, hF.2.2.1, hF.2.2.2.mono (by decide) (by decide)⟩)
theorem own_pn2 : plainName "com/example/lodepath/lodepath/ServesToStringPinLaw" = true := by first | (simp [plainName, overriddenIn]; done) | decide +kernel
theorem own_pd1 : parseMethodDescriptor "(ZZ)V" = some ⟨[.boolean, .boolean], none⟩ := by decide +kernel
theorem own_pd2 : parseMethodDescriptor "()Ljava/lang/String;" = some ⟨[], some (.object "java/lang/String")⟩ := by decide +kernel
theorem own_pd3 : parseMethodDescriptor "(Ljava/lang/Object;)Z" = some ⟨[(.object "java/lang/Object")], some .boolean⟩ := by decide +kernel
theorem ef0 (m : MethodId) (p0 : Int32) (p1 : Int32) : entryFrame m #[(.int p0), (.int p1)] maxLocals = mkF m 0 #[.val (.int p0), .val (.int p1), .unset, .unset, .unset, .unset, .unset, .unset, .unset] [] := by first | (simp [entryFrame, mkF, argsToLocals, Value.category, maxLocals]; done) | rfl
def Q_0 (Z : State) (p0 : Int32) (p1 : Int32) (zc : Int32) (h0 : Heap) (n0 : Nat) (v : Option Value) (h : Heap) (L : List Loc) : Prop := v = some (.int 1) ∧ Fr n0 L
def K_0 (Z : State) (p0 : Int32) (p1 : Int32) (zc : Int32) (h0 : Heap) (n0 : Nat) (s : State) (o : Outcome) (U' : State) : Prop := ∃ v L, o = .returned v ∧ Q_0 Z p0 p1 zc h0 n0 v U'.heap L ∧ CHr Z consts_1 s.vm s.heap U'.vm U'.heap ∧ ReturnedEndW s o U' L 32 8320
set_option maxRecDepth 65536 in
set_option maxHeartbeats 40000000 in
theorem rm_0 (l : Launch) (Z : State) (a0 : Array Value) (hw : ∀ d ∈ tables_1, d.before a0 Z = true) (ws : List Jvm.Cond) (p0 : Int32) (p1 : Int32) (zc : Int32) (h0 : Heap) (n0 : Nat) (Z0 : n0 ≤ h0.size) (S0_ : Sta Z h0 "java/lang/String" "COMPACT_STRINGS" "Z" (.int zc)) (hzc : ¬ zc = 0) :
    MetFree l x (head1 (Jvm.Cond.code x code maxLocals ret :: ws) room_1) (fun a U => a = #[(.int p0), (.int p1)] ∧ Z.Warmed39 U.vm ∧ U.heap = h0 ∧ CHv Z consts_1 U.vm h0) (fun _ _ _ _ _ => True) (fun _ U o U' => ∃ v L, o = .returned v ∧ Q_0 Z p0 p1 zc h0 n0 v U'.heap L ∧ CHr Z consts_1 U.vm U.heap U'.vm U'.heap ∧ ReturnedEndW U o U' L room_1.cells room_1.slots) := by
  refine MetFree.of_bodySF (plainFor_of_name own_pn2) hisR ?_
  intro p e s m args below meth c s₁ Bd hml0 hP hK
  obtain ⟨rfl, hZ, hh, hC⟩ := hP
  have hx := Bd.exec
  have hby := Bd.bytes
  have hml : c.maxLocals = 9 := hml0
  have hown : s.vm.findClass "com/example/lodepath/lodepath/ServesToStringPinLaw" = some m.cls := findClass_of_methodNamed Bd.named
  have hnm := (name_of_methodNamed Bd.named Bd.method).1
  have X0 : Stand p l e room_1 (s.setVm s.vm) m #[(.int p0), (.int p1)] below meth c s₁ [] 0 0 := Stand.of_body Bd
  have e0 : s₁.heap = h0 := by rw [← hh, Bd.state]; rfl
  have N0 := Fr.nil n0
  show own_G p e below (K_0 Z p0 p1 zc h0 n0 s) (s₁.setTop (entryFrame m #[(.int p0), (.int p1)] maxLocals))
  refine own_cast (ef0 m p0 p1) ?_
  have hZ : Z.Warmed39 (s.setVm s.vm).vm := hZ
  have hown : (s.setVm s.vm).vm.findClass "com/example/lodepath/lodepath/ServesToStringPinLaw" = some m.cls := hown
  have hS0 : s.Since s.vm s.heap.size := own_since s
  have hk0 : s.heap.size ≤ h0.size := Nat.le_of_eq (by rw [hh])
  have R0 := CHr.refl hC
  have hEL : EW Z a0 consts_1 := own_EW hw
  have wSt : ∀ a ∈ Bundle.stringAtoms, a.before a0 Z = true := own_wSt hw
  have heq : ∀ d ∈ StrChars.Road.wordsEq, d.before a0 Z = true := fun d hd => hw d ((by decide +kernel : ∀ d ∈ StrChars.Road.wordsEq, d ∈ tables_1) d hd)
  show own_G p e below (K_0 Z p0 p1 zc h0 n0 s) (s₁.setTop (mkF m 0 #[.val (.int p0), .val (.int p1), .unset, .unset, .unset, .unset, .unset, .unset, .unset] []))
  refine own_go (fun t k => XS.iloadN X0.here hx rfl (hb hby at_0) rfl k) ?_
  show own_G p e below (K_0 Z p0 p1 zc h0 n0 s) (s₁.setTop (mkF m 1 #[.val (.int p0), .val (.int p1), .unset, .unset, .unset, .unset, .unset, .unset, .unset] [(.int p0)]))
  refine own_go (fun t k => XS.iconst X0.here hx rfl (hb hby at_1) k) ?_
  show own_G p e below (K_0 Z p0 p1 zc h0 n0 s) (s₁.setTop (mkF m 2 #[.val (.int p0), .val (.int p1), .unset, .unset, .unset, .unset, .unset, .unset, .unset] [(.int (1 : Int32)), (.int p0)]))
  refine own_go (fun t k => XS.iand X0.here hx rfl (hb hby at_2) rfl k) ?_
  show own_G p e below (K_0 Z p0 p1 zc h0 n0 s) (s₁.setTop (mkF m 3 #[.val (.int p0), .val (.int p1), .unset, .unset, .unset, .unset, .unset, .unset, .unset] [(.int (p0 &&& (1 : Int32)))]))
  by_cases hc3_1 : (p0 &&& (1 : Int32)) = (0 : Int32)
  · skip
    refine own_go (fun t k => XS.ifYes X0.here hx rfl (pc0 := 3) (pc' := 10) rfl (hb hby at_3) rfl ((if0 _ _).trans (teq hc3_1).1) (by decide) (by decide) k) ?_
    show own_G p e below (K_0 Z p0 p1 zc h0 n0 s) (s₁.setTop (mkF m 10 #[.val (.int p0), .val (.int p1), .unset, .unset, .unset, .unset, .unset, .unset, .unset] []))
    refine own_go (fun t k => XS.iconst X0.here hx rfl (hb hby at_10) k) ?_
    show own_G p e below (K_0 Z p0 p1 zc h0 n0 s) (s₁.setTop (mkF m 11 #[.val (.int p0), .val (.int p1), .unset, .unset, .unset, .unset, .unset, .unset, .unset] [(.int (0 : Int32))]))
    refine own_go (fun t k => XS.istoreN X0.here hx rfl (hb hby at_11) rfl (l' := #[.val (.int p0), .val (.int p1), .val (.int (0 : Int32)), .unset, .unset, .unset, .unset, .unset, .unset]) rfl k) ?_
    show own_G p e below (K_0 Z p0 p1 zc h0 n0 s) (s₁.setTop (mkF m 12 #[.val (.int p0), .val (.int p1), .val (.int (0 : Int32)), .unset, .unset, .unset, .unset, .unset, .unset] []))
    refine own_go (fun t k => XS.iloadN X0.here hx rfl (hb hby at_12) rfl k) ?_
    show own_G p e below (K_0 Z p0 p1 zc h0 n0 s) (s₁.setTop (mkF m 13 #[.val (.int p0), .val (.int p1), .val (.int (0 : Int32)), .unset, .unset, .unset, .unset, .unset, .unset] [(.int p1)]))
    refine own_go (fun t k => XS.iconst X0.here hx rfl (hb hby at_13) k) ?_
    show own_G p e below (K_0 Z p0 p1 zc h0 n0 s) (s₁.setTop (mkF m 14 #[.val (.int p0), .val (.int p1), .val (.int (0 : Int32)), .unset, .unset, .unset, .unset, .unset, .unset] [(.int (1 : Int32)), (.int p1)]))
    refine own_go (fun t k => XS.iand X0.here hx rfl (hb hby at_14) rfl k) ?_
    show own_G p e below (K_0 Z p0 p1 zc h0 n0 s) (s₁.setTop (mkF m 15 #[.val (.int p0), .val (.int p1), .val (.int (0 : Int32)), .unset, .unset, .unset, .unset, .unset, .unset] [(.int (p1 &&& (1 : Int32)))]))
    by_cases hc15_2 : (p1 &&& (1 : Int32)) = (0 : Int32)
    · skip
      refine own_go (fun t k => XS.ifYes X0.here hx rfl (pc0 := 15) (pc' := 22) rfl (hb hby at_15) rfl ((if0 _ _).trans (teq hc15_2).1) (by decide) (by decide) k) ?_
      show own_G p e below (K_0 Z p0 p1 zc h0 n0 s) (s₁.setTop (mkF m 22 #[.val (.int p0), .val (.int p1), .val (.int (0 : Int32)), .unset, .unset, .unset, .unset, .unset, .unset] []))
      refine own_go (fun t k => XS.iconst X0.here hx rfl (hb hby at_22) k) ?_
      show own_G p e below (K_0 Z p0 p1 zc h0 n0 s) (s₁.setTop (mkF m 23 #[.val (.int p0), .val (.int p1), .val (.int (0 : Int32)), .unset, .unset, .unset, .unset, .unset, .unset] [(.int (0 : Int32))]))
      refine own_go (fun t k => XS.istoreN X0.here hx rfl (hb hby at_23) rfl (l' := #[.val (.int p0), .val (.int p1), .val (.int (0 : Int32)), .val (.int (0 : Int32)), .unset, .unset, .unset, .unset, .unset]) rfl k) ?_
      show own_G p e below (K_0 Z p0 p1 zc h0 n0 s) (s₁.setTop (mkF m 24 #[.val (.int p0), .val (.int p1), .val (.int (0 : Int32)), .val (.int (0 : Int32)), .unset, .unset, .unset, .unset, .unset] []))
      obtain ⟨T3, h3, X3, e3, E3, A3, D3, -, st3⟩ := newO X0 hx hZ hown (hw _ (List.mem_of_getElem? (i := 0) rfl)) (hw _ (List.mem_of_getElem? (i := 1) rfl)) (hw _ (List.mem_of_getElem? (i := 2) rfl)) e0 (g := (mkF m 24 #[.val (.int p0), .val (.int p1), .val (.int (0 : Int32)), .val (.int (0 : Int32)), .unset, .unset, .unset, .unset, .unset] [])) rfl (hb hby at_24) (by decide) (by decide)
      obtain ⟨b3, g3⟩ : ∃ z, z = h0.size := ⟨_, rfl⟩
      rw [← g3] at A3 D3 st3
      refine own_go st3 ?_
      have g_b3 : n0 ≤ b3 := Nat.le_trans Z0 (Nat.le_of_eq g3.symm)
      have R4 := CHr.trans R0 (CHr.ext E3 R0.1)
      have hk4 := Nat.le_trans hk0 E3.1
      have Z5 : n0 ≤ h3.size := Nat.le_trans Z0 E3.1
      have F3_releases : Fld Z h3 b3 "com/example/lodepath/lodepath/Serves" "releases" "Z" (.int (0 : Int32)) := D3 (Or.inr (hw _ (List.mem_of_getElem? (i := 15) rfl))) (ty := .boolean) (by decide)
      have F3_snapshots : Fld Z h3 b3 "com/example/lodepath/lodepath/Serves" "snapshots" "Z" (.int (0 : Int32)) := D3 (Or.inr (hw _ (List.mem_of_getElem? (i := 17) rfl))) (ty := .boolean) (by decide)
      show own_G p e below (K_0 Z p0 p1 zc h0 n0 s) (T3.setTop (mkF m 27 #[.val (.int p0), .val (.int p1), .val (.int (0 : Int32)), .val (.int (0 : Int32)), .unset, .unset, .unset, .unset, .unset] [(.ref b3)]))
      refine own_go (fun t k => XS.dup X3.here hx rfl (hb hby at_27) rfl rfl k) ?_
      show own_G p e below (K_0 Z p0 p1 zc h0 n0 s) (T3.setTop (mkF m 28 #[.val (.int p0), .val (.int p1), .val (.int (0 : Int32)), .val (.int (0 : Int32)), .unset, .unset, .unset, .unset, .unset] [(.ref b3), (.ref b3)]))
      refine own_go (fun t k => XS.iloadN X3.here hx rfl (hb hby at_28) rfl k) ?_
      show own_G p e below (K_0 Z p0 p1 zc h0 n0 s) (T3.setTop (mkF m 29 #[.val (.int p0), .val (.int p1), .val (.int (0 : Int32)), .val (.int (0 : Int32)), .unset, .unset, .unset, .unset, .unset] [(.int (0 : Int32)), (.ref b3), (.ref b3)]))
      refine own_go (fun t k => XS.iloadN X3.here hx rfl (hb hby at_29) rfl k) ?_
      show own_G p e below (K_0 Z p0 p1 zc h0 n0 s) (T3.setTop (mkF m 30 #[.val (.int p0), .val (.int p1), .val (.int (0 : Int32)), .val (.int (0 : Int32)), .unset, .unset, .unset, .unset, .unset] [(.int (0 : Int32)), (.int (0 : Int32)), (.ref b3), (.ref b3)]))
      obtain ⟨_, _, ⟨T6, L6, k6, n6⟩, -, X6, ⟨Lc6, hQ6, l6, y6, z6⟩, st6⟩ := X3.specialBack hx (y := (⟨"com/example/lodepath/lodepath/Serves", "<init>", "(ZZ)V"⟩ : MethodName)) rfl hown (mvT hZ (hw _ (List.mem_of_getElem? (i := 3) rfl))) (mvT hZ (hw _ (List.mem_of_getElem? (i := 4) rfl))) (mvT hZ (hw _ (List.mem_of_getElem? (i := 5) rfl))) (by decide) (backOf (W := 1) (rm_ct l Z a0 hw [] b3 (0 : Int32) (0 : Int32) h3 n0 Z5 F3_releases F3_snapshots A3 g_b3) hZ (hw _ (List.mem_of_getElem? (i := 5) rfl)) (hw _ (List.mem_of_getElem? (i := 2) rfl)) (by decide) (by decide)) (g := (mkF m 30 #[.val (.int p0), .val (.int p1), .val (.int (0 : Int32)), .val (.int (0 : Int32)), .unset, .unset, .unset, .unset, .unset] [(.int (0 : Int32)), (.int (0 : Int32)), (.ref b3), (.ref b3)])) rfl (by rw [hml]; rfl) (Steps.refl _) (a := b3) (argsL := [(.int (0 : Int32)), (.int (0 : Int32))]) (rest := [(.ref b3)]) (lenOf own_pd1 rfl) rfl (by show 2 * 0 + _ ≤ _; exact Nat.le_of_eq rfl) (hb hby at_30) (fun _ _ => ⟨rfl, e3, (by decide : 1 + 0 ≤ _), (by decide : 2 + 0 ≤ _)⟩)
      dsimp only [Pt.U, Pt.locs, Pt.cells, Pt.slots] at X6 l6 y6 z6 st6 hQ6
      subst l6 y6 z6
      obtain ⟨rfl, N6q, K6q, E6q, F6_0, F6_1⟩ := hQ6
      have N6 := Fr.app N0 N6q
      obtain ⟨h6, e6⟩ : ∃ z, T6.heap = z := ⟨_, rfl⟩
      rw [e6] at K6q E6q F6_0 F6_1
      have R7 := CHr.trans R4 (CHr.keep K6q (allS (Safe.exa hZ.alike A3 (by decide) (by decide)) all0) R4.1)
      have hk7 := Nat.le_trans hk4 K6q.1
      have Z8 : n0 ≤ h6.size := Nat.le_trans Z5 K6q.1
      have G6_releases : Fld Z h6 b3 "com/example/lodepath/lodepath/Serves" "releases" "Z" (.int (0 : Int32)) := F6_0
      have G6_snapshots : Fld Z h6 b3 "com/example/lodepath/lodepath/Serves" "snapshots" "Z" (.int (0 : Int32)) := F6_1
      refine own_tr st6 ?_
      show own_G p e below (K_0 Z p0 p1 zc h0 n0 s) (T6.setTop (mkF m 33 #[.val (.int p0), .val (.int p1), .val (.int (0 : Int32)), .val (.int (0 : Int32)), .unset, .unset, .unset, .unset, .unset] [(.ref b3)]))
      obtain ⟨cq9, kq9, q9a, q9b, q9c⟩ := isOf hZ e6 E6q
      obtain ⟨_, _, ⟨T9, L9, k9, n9⟩, -, Y9, hs9, hg9, ⟨Lc9, hQ9, l9, y9, z9, C9⟩, st9⟩ := X6.virtualBackS hx (y := (⟨"com/example/lodepath/lodepath/Serves", "toString", "()Ljava/lang/String;"⟩ : MethodName)) (z := (⟨"com/example/lodepath/lodepath/Serves", "toString", "()Ljava/lang/String;"⟩ : MethodName)) hown (mvT hZ (hw _ (List.mem_of_getElem? (i := 18) rfl))) (mvT hZ (hw _ (List.mem_of_getElem? (i := 19) rfl))) (notFace_of_selects (args := #[]) (mvT hZ (hw _ (List.mem_of_getElem? (i := 21) rfl)))) (mvT hZ (hw _ (List.mem_of_getElem? (i := 21) rfl))) (mvT hZ (hw _ (List.mem_of_getElem? (i := 20) rfl))) (by decide) (backOfSH (W := 0) (rm_ts00 l Z a0 hw [] b3 h6 n0 Z8 G6_releases G6_snapshots) hZ (hw _ (List.mem_of_getElem? (i := 22) rfl)) (hw _ (List.mem_of_getElem? (i := 2) rfl)) (by decide) (by decide) hEL R7.1) q9a q9c (g := (mkF m 33 #[.val (.int p0), .val (.int p1), .val (.int (0 : Int32)), .val (.int (0 : Int32)), .unset, .unset, .unset, .unset, .unset] [(.ref b3)])) rfl (by rw [hml]; rfl) (Steps.refl _) (argsL := []) (rest := []) (lenOf own_pd2 rfl) rfl (by show 2 * 0 + _ ≤ _; exact Nat.le_of_eq rfl) (hb hby at_33) (fun _ _ => ⟨rfl, e6, (by decide : 1 + 2 ≤ _), (by decide : 2 + 76 ≤ _)⟩)
      dsimp only [Pt.U, Pt.locs, Pt.cells, Pt.slots] at Y9 hs9 hg9 l9 y9 z9 C9 st9 hQ9
      subst l9 y9 z9
      obtain ⟨X9, hS9, hZ9, hown9⟩ := rebS hS0 (Nat.le_trans hk7 (Nat.le_of_eq (congrArg Array.size e6).symm)) Y9 hs9 hg9 hZ hown
      obtain ⟨h9, e9⟩ : ∃ z, T9.heap = z := ⟨_, rfl⟩
      rw [e9] at hQ9 hS9 C9
      have R9 := CHr.trans R7 C9
      have hk9 : h9.size ≤ h9.size := Nat.le_refl _
      obtain ⟨a9, b9, kb9, rfl, N9q, E9, A9, Fc9, Fv9, V9⟩ := hQ9
      have N9 := Fr.app N6 N9q
      have Z10 : n0 ≤ h9.size := Nat.le_trans Z8 E9.1
      refine own_tr st9 ?_
      show own_G p e below (K_0 Z p0 p1 zc h0 n0 s) (T9.setTop (mkF m 36 #[.val (.int p0), .val (.int p1), .val (.int (0 : Int32)), .val (.int (0 : Int32)), .unset, .unset, .unset, .unset, .unset] [(.ref a9)]))
      refine own_go (fun t k => XS.astore X9.here hx rfl (hb hby at_36) rfl rfl (l' := #[.val (.int p0), .val (.int p1), .val (.int (0 : Int32)), .val (.int (0 : Int32)), .val (.ref a9), .unset, .unset, .unset, .unset]) rfl k) ?_
      show own_G p e below (K_0 Z p0 p1 zc h0 n0 s) (T9.setTop (mkF m 38 #[.val (.int p0), .val (.int p1), .val (.int (0 : Int32)), .val (.int (0 : Int32)), .val (.ref a9), .unset, .unset, .unset, .unset] []))
      refine own_go (fun t k => XS.aload X9.here hx rfl (hb hby at_38) rfl rfl k) ?_
      show own_G p e below (K_0 Z p0 p1 zc h0 n0 s) (T9.setTop (mkF m 40 #[.val (.int p0), .val (.int p1), .val (.int (0 : Int32)), .val (.int (0 : Int32)), .val (.ref a9), .unset, .unset, .unset, .unset] [(.ref a9)]))
      refine own_go (fun t k => XS.ifnonnullYes X9.here hx rfl (pc0 := 40) (pc' := 45) rfl (hb hby at_40) rfl (by decide) (by decide) k) ?_
      show own_G p e below (K_0 Z p0 p1 zc h0 n0 s) (T9.setTop (mkF m 45 #[.val (.int p0), .val (.int p1), .val (.int (0 : Int32)), .val (.int (0 : Int32)), .val (.ref a9), .unset, .unset, .unset, .unset] []))
      refine own_go (fun t k => XS.aload X9.here hx rfl (hb hby at_45) rfl rfl k) ?_
      show own_G p e below (K_0 Z p0 p1 zc h0 n0 s) (T9.setTop (mkF m 47 #[.val (.int p0), .val (.int p1), .val (.int (0 : Int32)), .val (.int (0 : Int32)), .val (.ref a9), .unset, .unset, .unset, .unset] [(.ref a9)]))
      obtain ⟨a11, T11, h11, k11, b11, kb11, X11, e11, E11, hS11, hk11, hZ11, hown11, A11, Fc11, Fv11, V11, la11, lb11, C11, -, Sf11, st11⟩ := ldcCH (EL := consts_1) X9 hx hZ9 hown9 (hw _ (List.mem_of_getElem? (i := 31) rfl)) wSt e9 hS9 hk9 hEL (List.mem_of_getElem? (i := 4) rfl) R9.1 (vs := (own_bs "releases,snapshots")) (z := (18 : Int32)) (own_lit (by decide +kernel)) (by decide) (by decide +kernel) (g := (mkF m 47 #[.val (.int p0), .val (.int p1), .val (.int (0 : Int32)), .val (.int (0 : Int32)), .val (.ref a9), .unset, .unset, .unset, .unset] [(.ref a9)])) rfl (hb hby at_47) (n := 72) (by decide +kernel) (by decide) (by decide) (by decide)
      refine own_go st11 ?_
      have R11 := CHr.trans R9 C11
      have Z12 : n0 ≤ h11.size := Nat.le_trans Z10 E11.1
      show own_G p e below (K_0 Z p0 p1 zc h0 n0 s) (T11.setTop (mkF m 49 #[.val (.int p0), .val (.int p1), .val (.int (0 : Int32)), .val (.int (0 : Int32)), .val (.ref a9), .unset, .unset, .unset, .unset] [(.ref a11), (.ref a9)]))
      have Q14 := (A9.ext E11)
      have Q15 := (Fv9.ext E11)
      have Q16 := (Fc9.ext E11)
      have Q17 := (V9.ext E11)
      have Q18 := (((own_stakeep (S0_.ext E3) K6q (allS (fun cl hc => A3.nostat cl hc) all0)).ext E9).ext E11)
      obtain ⟨cq13, kq13, q13a, q13b, q13c⟩ := isOf hZ11 e11 Q14
      obtain ⟨_, _, ⟨T13, L13, k13, n13⟩, -, X13, ⟨Lc13, hQ13, l13, y13, z13⟩, st13⟩ := X11.virtualBack hx (y := (⟨"java/lang/String", "equals", "(Ljava/lang/Object;)Z"⟩ : MethodName)) (z := (⟨"java/lang/String", "equals", "(Ljava/lang/Object;)Z"⟩ : MethodName)) hown11 (mvT hZ11 (hw _ (List.mem_of_getElem? (i := 32) rfl))) (mvT hZ11 (hw _ (List.mem_of_getElem? (i := 33) rfl))) (notFace_of_selects (args := #[]) (mvT hZ11 (hw _ (List.mem_of_getElem? (i := 35) rfl)))) (mvT hZ11 (hw _ (List.mem_of_getElem? (i := 35) rfl))) (mvT hZ11 (hw _ (List.mem_of_getElem? (i := 34) rfl))) (by decide) (StrChars.Road.eqW (W := 0) (cs := own_ch "none") (ds := own_ch "releases,snapshots") hZ11 heq (kI := 4) (hw _ (List.mem_of_getElem? (i := 25) rfl)) Q14 Q15 Q16 Q17 (own_codA "none" (z := (4 : Int32)) (by decide +kernel) (by decide +kernel)) (by decide +kernel) (by decide +kernel) A11 Fv11 Fc11 V11 (own_codA "releases,snapshots" (z := (18 : Int32)) (by decide +kernel) (by decide +kernel)) (by decide +kernel) (by decide +kernel) Q18 hzc (by decide) (by decide)) q13a q13c (g := (mkF m 49 #[.val (.int p0), .val (.int p1), .val (.int (0 : Int32)), .val (.int (0 : Int32)), .val (.ref a9), .unset, .unset, .unset, .unset] [(.ref a11), (.ref a9)])) rfl (by rw [hml]; rfl) (Steps.refl _) (argsL := [(.ref a11)]) (rest := []) (lenOf own_pd3 rfl) rfl (by show 2 * 0 + _ ≤ _; exact Nat.le_of_eq rfl) (hb hby at_49) (fun _ _ => ⟨rfl, e11, (by decide : 5 + 0 ≤ _), (by decide : 154 + 0 ≤ _)⟩)
      dsimp only [Pt.U, Pt.locs, Pt.cells, Pt.slots] at X13 l13 y13 z13 st13 hQ13
      subst l13 y13 z13
      obtain ⟨hE13, rfl, e13⟩ := hQ13
      have N13 := Fr.app N9 (Fr.nil n0)
      obtain ⟨rfl, -⟩ := Or.resolve_left hE13 (fun h => absurd h.2 (by decide +kernel))
      refine own_tr st13 ?_
      show own_G p e below (K_0 Z p0 p1 zc h0 n0 s) (T13.setTop (mkF m 52 #[.val (.int p0), .val (.int p1), .val (.int (0 : Int32)), .val (.int (0 : Int32)), .val (.ref a9), .unset, .unset, .unset, .unset] [(.int (0 : Int32))]))
      refine own_go (fun t k => XS.istore X13.here hx rfl (hb hby at_52) rfl (l' := #[.val (.int p0), .val (.int p1), .val (.int (0 : Int32)), .val (.int (0 : Int32)), .val (.ref a9), .val (.int (0 : Int32)), .unset, .unset, .unset]) rfl k) ?_
      show own_G p e below (K_0 Z p0 p1 zc h0 n0 s) (T13.setTop (mkF m 54 #[.val (.int p0), .val (.int p1), .val (.int (0 : Int32)), .val (.int (0 : Int32)), .val (.ref a9), .val (.int (0 : Int32)), .unset, .unset, .unset] []))
      refine own_go (fun t k => XS.iload X13.here hx rfl (hb hby at_54) rfl k) ?_
      show own_G p e below (K_0 Z p0 p1 zc h0 n0 s) (T13.setTop (mkF m 56 #[.val (.int p0), .val (.int p1), .val (.int (0 : Int32)), .val (.int (0 : Int32)), .val (.ref a9), .val (.int (0 : Int32)), .unset, .unset, .unset] [(.int (0 : Int32))]))
      refine own_go (fun t k => XS.ifNo X13.here hx rfl (hb hby at_56) rfl ((if0 _ _).trans (by decide)) k) ?_
      show own_G p e below (K_0 Z p0 p1 zc h0 n0 s) (T13.setTop (mkF m 59 #[.val (.int p0), .val (.int p1), .val (.int (0 : Int32)), .val (.int (0 : Int32)), .val (.ref a9), .val (.int (0 : Int32)), .unset, .unset, .unset] []))
      refine own_go (fun t k => XS.aload X13.here hx rfl (hb hby at_59) rfl rfl k) ?_
      show own_G p e below (K_0 Z p0 p1 zc h0 n0 s) (T13.setTop (mkF m 61 #[.val (.int p0), .val (.int p1), .val (.int (0 : Int32)), .val (.int (0 : Int32)), .val (.ref a9), .val (.int (0 : Int32)), .unset, .unset, .unset] [(.ref a9)]))
      obtain ⟨a19, T19, h19, k19, b19, kb19, X19, e19, E19, hS19, hk19, hZ19, hown19, A19, Fc19, Fv19, V19, la19, lb19, C19, -, Sf19, st19⟩ := ldcCH (EL := consts_1) X13 hx hZ11 hown11 (hw _ (List.mem_of_getElem? (i := 46) rfl)) wSt e13 hS11 hk11 hEL (List.mem_of_getElem? (i := 5) rfl) R11.1 (vs := (own_bs "releases")) (z := (8 : Int32)) (own_lit (by decide +kernel)) (by decide) (by decide +kernel) (g := (mkF m 61 #[.val (.int p0), .val (.int p1), .val (.int (0 : Int32)), .val (.int (0 : Int32)), .val (.ref a9), .val (.int (0 : Int32)), .unset, .unset, .unset] [(.ref a9)])) rfl (hb hby at_61) (n := 32) (by decide +kernel) (by decide) (by decide) (by decide)
      refine own_go st19 ?_
      have R19 := CHr.trans R11 C19
      have Z20 : n0 ≤ h19.size := Nat.le_trans Z12 E19.1
      show own_G p e below (K_0 Z p0 p1 zc h0 n0 s) (T19.setTop (mkF m 63 #[.val (.int p0), .val (.int p1), .val (.int (0 : Int32)), .val (.int (0 : Int32)), .val (.ref a9), .val (.int (0 : Int32)), .unset, .unset, .unset] [(.ref a19), (.ref a9)]))
      have Q22 := (Q14.ext E19)
      have Q23 := (Q15.ext E19)
      have Q24 := (Q16.ext E19)
      have Q25 := (Q17.ext E19)
      have Q26 := (Q18.ext E19)
      obtain ⟨cq21, kq21, q21a, q21b, q21c⟩ := isOf hZ19 e19 Q22
      obtain ⟨_, _, ⟨T21, L21, k21, n21⟩, -, X21, ⟨Lc21, hQ21, l21, y21, z21⟩, st21⟩ := X19.virtualBack hx (y := (⟨"java/lang/String", "equals", "(Ljava/lang/Object;)Z"⟩ : MethodName)) (z := (⟨"java/lang/String", "equals", "(Ljava/lang/Object;)Z"⟩ : MethodName)) hown19 (mvT hZ19 (hw _ (List.mem_of_getElem? (i := 32) rfl))) (mvT hZ19 (hw _ (List.mem_of_getElem? (i := 33) rfl))) (notFace_of_selects (args := #[]) (mvT hZ19 (hw _ (List.mem_of_getElem? (i := 35) rfl)))) (mvT hZ19 (hw _ (List.mem_of_getElem? (i := 35) rfl))) (mvT hZ19 (hw _ (List.mem_of_getElem? (i := 34) rfl))) (by decide) (StrChars.Road.eqW (W := 0) (cs := own_ch "none") (ds := own_ch "releases") hZ19 heq (kI := 4) (hw _ (List.mem_of_getElem? (i := 25) rfl)) Q22 Q23 Q24 Q25 (own_codA "none" (z := (4 : Int32)) (by decide +kernel) (by decide +kernel)) (by decide +kernel) (by decide +kernel) A19 Fv19 Fc19 V19 (own_codA "releases" (z := (8 : Int32)) (by decide +kernel) (by decide +kernel)) (by decide +kernel) (by decide +kernel) Q26 hzc (by decide) (by decide)) q21a q21c (g := (mkF m 63 #[.val (.int p0), .val (.int p1), .val (.int (0 : Int32)), .val (.int (0 : Int32)), .val (.ref a9), .val (.int (0 : Int32)), .unset, .unset, .unset] [(.ref a19), (.ref a9)])) rfl (by rw [hml]; rfl) (Steps.refl _) (argsL := [(.ref a19)]) (rest := []) (lenOf own_pd3 rfl) rfl (by show 2 * 0 + _ ≤ _; exact Nat.le_of_eq rfl) (hb hby at_63) (fun _ _ => ⟨rfl, e19, (by decide : 7 + 0 ≤ _), (by decide : 190 + 0 ≤ _)⟩)
      dsimp only [Pt.U, Pt.locs, Pt.cells, Pt.slots] at X21 l21 y21 z21 st21 hQ21
      subst l21 y21 z21
      obtain ⟨hE21, rfl, e21⟩ := hQ21
      have N21 := Fr.app N13 (Fr.nil n0)
      obtain ⟨rfl, -⟩ := Or.resolve_left hE21 (fun h => absurd h.2 (by decide +kernel))
      refine own_tr st21 ?_
      show own_G p e below (K_0 Z p0 p1 zc h0 n0 s) (T21.setTop (mkF m 66 #[.val (.int p0), .val (.int p1), .val (.int (0 : Int32)), .val (.int (0 : Int32)), .val (.ref a9), .val (.int (0 : Int32)), .unset, .unset, .unset] [(.int (0 : Int32))]))
      refine own_go (fun t k => XS.ifYes X21.here hx rfl (pc0 := 66) (pc' := 73) rfl (hb hby at_66) rfl ((if0 _ _).trans (by decide)) (by decide) (by decide) k) ?_
      show own_G p e below (K_0 Z p0 p1 zc h0 n0 s) (T21.setTop (mkF m 73 #[.val (.int p0), .val (.int p1), .val (.int (0 : Int32)), .val (.int (0 : Int32)), .val (.ref a9), .val (.int (0 : Int32)), .unset, .unset, .unset] []))
      refine own_go (fun t k => XS.iconst X21.here hx rfl (hb hby at_73) k) ?_
      show own_G p e below (K_0 Z p0 p1 zc h0 n0 s) (T21.setTop (mkF m 74 #[.val (.int p0), .val (.int p1), .val (.int (0 : Int32)), .val (.int (0 : Int32)), .val (.ref a9), .val (.int (0 : Int32)), .unset, .unset, .unset] [(.int (0 : Int32))]))
      refine own_go (fun t k => XS.istore X21.here hx rfl (hb hby at_74) rfl (l' := #[.val (.int p0), .val (.int p1), .val (.int (0 : Int32)), .val (.int (0 : Int32)), .val (.ref a9), .val (.int (0 : Int32)), .val (.int (0 : Int32)), .unset, .unset]) rfl k) ?_
      show own_G p e below (K_0 Z p0 p1 zc h0 n0 s) (T21.setTop (mkF m 76 #[.val (.int p0), .val (.int p1), .val (.int (0 : Int32)), .val (.int (0 : Int32)), .val (.ref a9), .val (.int (0 : Int32)), .val (.int (0 : Int32)), .unset, .unset] []))
      refine own_go (fun t k => XS.iload X21.here hx rfl (hb hby at_76) rfl k) ?_
      show own_G p e below (K_0 Z p0 p1 zc h0 n0 s) (T21.setTop (mkF m 78 #[.val (.int p0), .val (.int p1), .val (.int (0 : Int32)), .val (.int (0 : Int32)), .val (.ref a9), .val (.int (0 : Int32)), .val (.int (0 : Int32)), .unset, .unset] [(.int (0 : Int32))]))
      refine own_go (fun t k => XS.ifNo X21.here hx rfl (hb hby at_78) rfl ((if0 _ _).trans (by decide)) k) ?_
      show own_G p e below (K_0 Z p0 p1 zc h0 n0 s) (T21.setTop (mkF m 81 #[.val (.int p0), .val (.int p1), .val (.int (0 : Int32)), .val (.int (0 : Int32)), .val (.ref a9), .val (.int (0 : Int32)), .val (.int (0 : Int32)), .unset, .unset] []))
      refine own_go (fun t k => XS.aload X21.here hx rfl (hb hby at_81) rfl rfl k) ?_
      show own_G p e below (K_0 Z p0 p1 zc h0 n0 s) (T21.setTop (mkF m 83 #[.val (.int p0), .val (.int p1), .val (.int (0 : Int32)), .val (.int (0 : Int32)), .val (.ref a9), .val (.int (0 : Int32)), .val (.int (0 : Int32)), .unset, .unset] [(.ref a9)]))
      obtain ⟨a27, T27, h27, k27, b27, kb27, X27, e27, E27, hS27, hk27, hZ27, hown27, A27, Fc27, Fv27, V27, la27, lb27, C27, -, Sf27, st27⟩ := ldcCH (EL := consts_1) X21 hx hZ19 hown19 (hw _ (List.mem_of_getElem? (i := 47) rfl)) wSt e21 hS19 hk19 hEL (List.mem_of_getElem? (i := 6) rfl) R19.1 (vs := (own_bs "snapshots")) (z := (9 : Int32)) (own_lit (by decide +kernel)) (by decide) (by decide +kernel) (g := (mkF m 83 #[.val (.int p0), .val (.int p1), .val (.int (0 : Int32)), .val (.int (0 : Int32)), .val (.ref a9), .val (.int (0 : Int32)), .val (.int (0 : Int32)), .unset, .unset] [(.ref a9)])) rfl (hb hby at_83) (n := 36) (by decide +kernel) (by decide) (by decide) (by decide)
      refine own_go st27 ?_
      have R27 := CHr.trans R19 C27
      have Z28 : n0 ≤ h27.size := Nat.le_trans Z20 E27.1
      show own_G p e below (K_0 Z p0 p1 zc h0 n0 s) (T27.setTop (mkF m 85 #[.val (.int p0), .val (.int p1), .val (.int (0 : Int32)), .val (.int (0 : Int32)), .val (.ref a9), .val (.int (0 : Int32)), .val (.int (0 : Int32)), .unset, .unset] [(.ref a27), (.ref a9)]))
      have Q30 := (Q22.ext E27)
      have Q31 := (Q23.ext E27)
      have Q32 := (Q24.ext E27)
      have Q33 := (Q25.ext E27)
      have Q34 := (Q26.ext E27)
      obtain ⟨cq29, kq29, q29a, q29b, q29c⟩ := isOf hZ27 e27 Q30
      obtain ⟨_, _, ⟨T29, L29, k29, n29⟩, -, X29, ⟨Lc29, hQ29, l29, y29, z29⟩, st29⟩ := X27.virtualBack hx (y := (⟨"java/lang/String", "equals", "(Ljava/lang/Object;)Z"⟩ : MethodName)) (z := (⟨"java/lang/String", "equals", "(Ljava/lang/Object;)Z"⟩ : MethodName)) hown27 (mvT hZ27 (hw _ (List.mem_of_getElem? (i := 32) rfl))) (mvT hZ27 (hw _ (List.mem_of_getElem? (i := 33) rfl))) (notFace_of_selects (args := #[]) (mvT hZ27 (hw _ (List.mem_of_getElem? (i := 35) rfl)))) (mvT hZ27 (hw _ (List.mem_of_getElem? (i := 35) rfl))) (mvT hZ27 (hw _ (List.mem_of_getElem? (i := 34) rfl))) (by decide) (StrChars.Road.eqW (W := 0) (cs := own_ch "none") (ds := own_ch "snapshots") hZ27 heq (kI := 4) (hw _ (List.mem_of_getElem? (i := 25) rfl)) Q30 Q31 Q32 Q33 (own_codA "none" (z := (4 : Int32)) (by decide +kernel) (by decide +kernel)) (by decide +kernel) (by decide +kernel) A27 Fv27 Fc27 V27 (own_codA "snapshots" (z := (9 : Int32)) (by decide +kernel) (by decide +kernel)) (by decide +kernel) (by decide +kernel) Q34 hzc (by decide) (by decide)) q29a q29c (g := (mkF m 85 #[.val (.int p0), .val (.int p1), .val (.int (0 : Int32)), .val (.int (0 : Int32)), .val (.ref a9), .val (.int (0 : Int32)), .val (.int (0 : Int32)), .unset, .unset] [(.ref a27), (.ref a9)])) rfl (by rw [hml]; rfl) (Steps.refl _) (argsL := [(.ref a27)]) (rest := []) (lenOf own_pd3 rfl) rfl (by show 2 * 0 + _ ≤ _; exact Nat.le_of_eq rfl) (hb hby at_85) (fun _ _ => ⟨rfl, e27, (by decide : 9 + 0 ≤ _), (by decide : 230 + 0 ≤ _)⟩)
      dsimp only [Pt.U, Pt.locs, Pt.cells, Pt.slots] at X29 l29 y29 z29 st29 hQ29
      subst l29 y29 z29
      obtain ⟨hE29, rfl, e29⟩ := hQ29
      have N29 := Fr.app N21 (Fr.nil n0)
      obtain ⟨rfl, -⟩ := Or.resolve_left hE29 (fun h => absurd h.2 (by decide +kernel))
      refine own_tr st29 ?_
      show own_G p e below (K_0 Z p0 p1 zc h0 n0 s) (T29.setTop (mkF m 88 #[.val (.int p0), .val (.int p1), .val (.int (0 : Int32)), .val (.int (0 : Int32)), .val (.ref a9), .val (.int (0 : Int32)), .val (.int (0 : Int32)), .unset, .unset] [(.int (0 : Int32))]))
      refine own_go (fun t k => XS.ifYes X29.here hx rfl (pc0 := 88) (pc' := 95) rfl (hb hby at_88) rfl ((if0 _ _).trans (by decide)) (by decide) (by decide) k) ?_
      show own_G p e below (K_0 Z p0 p1 zc h0 n0 s) (T29.setTop (mkF m 95 #[.val (.int p0), .val (.int p1), .val (.int (0 : Int32)), .val (.int (0 : Int32)), .val (.ref a9), .val (.int (0 : Int32)), .val (.int (0 : Int32)), .unset, .unset] []))
      refine own_go (fun t k => XS.iconst X29.here hx rfl (hb hby at_95) k) ?_
      show own_G p e below (K_0 Z p0 p1 zc h0 n0 s) (T29.setTop (mkF m 96 #[.val (.int p0), .val (.int p1), .val (.int (0 : Int32)), .val (.int (0 : Int32)), .val (.ref a9), .val (.int (0 : Int32)), .val (.int (0 : Int32)), .unset, .unset] [(.int (0 : Int32))]))
      refine own_go (fun t k => XS.istore X29.here hx rfl (hb hby at_96) rfl (l' := #[.val (.int p0), .val (.int p1), .val (.int (0 : Int32)), .val (.int (0 : Int32)), .val (.ref a9), .val (.int (0 : Int32)), .val (.int (0 : Int32)), .val (.int (0 : Int32)), .unset]) rfl k) ?_
      show own_G p e below (K_0 Z p0 p1 zc h0 n0 s) (T29.setTop (mkF m 98 #[.val (.int p0), .val (.int p1), .val (.int (0 : Int32)), .val (.int (0 : Int32)), .val (.ref a9), .val (.int (0 : Int32)), .val (.int (0 : Int32)), .val (.int (0 : Int32)), .unset] []))
      refine own_go (fun t k => XS.iload X29.here hx rfl (hb hby at_98) rfl k) ?_
      show own_G p e below (K_0 Z p0 p1 zc h0 n0 s) (T29.setTop (mkF m 100 #[.val (.int p0), .val (.int p1), .val (.int (0 : Int32)), .val (.int (0 : Int32)), .val (.ref a9), .val (.int (0 : Int32)), .val (.int (0 : Int32)), .val (.int (0 : Int32)), .unset] [(.int (0 : Int32))]))
      refine own_go (fun t k => XS.ifNo X29.here hx rfl (hb hby at_100) rfl ((if0 _ _).trans (by decide)) k) ?_
      show own_G p e below (K_0 Z p0 p1 zc h0 n0 s) (T29.setTop (mkF m 103 #[.val (.int p0), .val (.int p1), .val (.int (0 : Int32)), .val (.int (0 : Int32)), .val (.ref a9), .val (.int (0 : Int32)), .val (.int (0 : Int32)), .val (.int (0 : Int32)), .unset] []))
      refine own_go (fun t k => XS.iload X29.here hx rfl (hb hby at_103) rfl k) ?_
      show own_G p e below (K_0 Z p0 p1 zc h0 n0 s) (T29.setTop (mkF m 105 #[.val (.int p0), .val (.int p1), .val (.int (0 : Int32)), .val (.int (0 : Int32)), .val (.ref a9), .val (.int (0 : Int32)), .val (.int (0 : Int32)), .val (.int (0 : Int32)), .unset] [(.int (0 : Int32))]))
      refine own_go (fun t k => XS.ifNo X29.here hx rfl (hb hby at_105) rfl ((if0 _ _).trans (by decide)) k) ?_
      show own_G p e below (K_0 Z p0 p1 zc h0 n0 s) (T29.setTop (mkF m 108 #[.val (.int p0), .val (.int p1), .val (.int (0 : Int32)), .val (.int (0 : Int32)), .val (.ref a9), .val (.int (0 : Int32)), .val (.int (0 : Int32)), .val (.int (0 : Int32)), .unset] []))
      refine own_go (fun t k => XS.aload X29.here hx rfl (hb hby at_108) rfl rfl k) ?_
      show own_G p e below (K_0 Z p0 p1 zc h0 n0 s) (T29.setTop (mkF m 110 #[.val (.int p0), .val (.int p1), .val (.int (0 : Int32)), .val (.int (0 : Int32)), .val (.ref a9), .val (.int (0 : Int32)), .val (.int (0 : Int32)), .val (.int (0 : Int32)), .unset] [(.ref a9)]))
      obtain ⟨a35, T35, h35, k35, b35, kb35, X35, e35, E35, hS35, hk35, hZ35, hown35, A35, Fc35, Fv35, V35, la35, lb35, C35, -, Sf35, st35⟩ := ldcCH (EL := consts_1) X29 hx hZ27 hown27 (hw _ (List.mem_of_getElem? (i := 49) rfl)) wSt e29 hS27 hk27 hEL (List.mem_of_getElem? (i := 7) rfl) R27.1 (vs := (own_bs "none")) (z := (4 : Int32)) (own_lit (by decide +kernel)) (by decide) (by decide +kernel) (g := (mkF m 110 #[.val (.int p0), .val (.int p1), .val (.int (0 : Int32)), .val (.int (0 : Int32)), .val (.ref a9), .val (.int (0 : Int32)), .val (.int (0 : Int32)), .val (.int (0 : Int32)), .unset] [(.ref a9)])) rfl (hb hby at_110) (n := 16) (by decide +kernel) (by decide) (by decide) (by decide)
      refine own_go st35 ?_
      have R35 := CHr.trans R27 C35
      have Z36 : n0 ≤ h35.size := Nat.le_trans Z28 E35.1
      show own_G p e below (K_0 Z p0 p1 zc h0 n0 s) (T35.setTop (mkF m 112 #[.val (.int p0), .val (.int p1), .val (.int (0 : Int32)), .val (.int (0 : Int32)), .val (.ref a9), .val (.int (0 : Int32)), .val (.int (0 : Int32)), .val (.int (0 : Int32)), .unset] [(.ref a35), (.ref a9)]))
      have Q38 := (Q30.ext E35)
      have Q39 := (Q31.ext E35)
      have Q40 := (Q32.ext E35)
      have Q41 := (Q33.ext E35)
      have Q42 := (Q34.ext E35)
      obtain ⟨cq37, kq37, q37a, q37b, q37c⟩ := isOf hZ35 e35 Q38
      obtain ⟨_, _, ⟨T37, L37, k37, n37⟩, -, X37, ⟨Lc37, hQ37, l37, y37, z37⟩, st37⟩ := X35.virtualBack hx (y := (⟨"java/lang/String", "equals", "(Ljava/lang/Object;)Z"⟩ : MethodName)) (z := (⟨"java/lang/String", "equals", "(Ljava/lang/Object;)Z"⟩ : MethodName)) hown35 (mvT hZ35 (hw _ (List.mem_of_getElem? (i := 32) rfl))) (mvT hZ35 (hw _ (List.mem_of_getElem? (i := 33) rfl))) (notFace_of_selects (args := #[]) (mvT hZ35 (hw _ (List.mem_of_getElem? (i := 35) rfl)))) (mvT hZ35 (hw _ (List.mem_of_getElem? (i := 35) rfl))) (mvT hZ35 (hw _ (List.mem_of_getElem? (i := 34) rfl))) (by decide) (StrChars.Road.eqW (W := 0) (cs := own_ch "none") (ds := own_ch "none") hZ35 heq (kI := 4) (hw _ (List.mem_of_getElem? (i := 25) rfl)) Q38 Q39 Q40 Q41 (own_codA "none" (z := (4 : Int32)) (by decide +kernel) (by decide +kernel)) (by decide +kernel) (by decide +kernel) A35 Fv35 Fc35 V35 (own_codA "none" (z := (4 : Int32)) (by decide +kernel) (by decide +kernel)) (by decide +kernel) (by decide +kernel) Q42 hzc (by decide) (by decide)) q37a q37c (g := (mkF m 112 #[.val (.int p0), .val (.int p1), .val (.int (0 : Int32)), .val (.int (0 : Int32)), .val (.ref a9), .val (.int (0 : Int32)), .val (.int (0 : Int32)), .val (.int (0 : Int32)), .unset] [(.ref a35), (.ref a9)])) rfl (by rw [hml]; rfl) (Steps.refl _) (argsL := [(.ref a35)]) (rest := []) (lenOf own_pd3 rfl) rfl (by show 2 * 0 + _ ≤ _; exact Nat.le_of_eq rfl) (hb hby at_112) (fun _ _ => ⟨rfl, e35, (by decide : 11 + 0 ≤ _), (by decide : 250 + 0 ≤ _)⟩)
      dsimp only [Pt.U, Pt.locs, Pt.cells, Pt.slots] at X37 l37 y37 z37 st37 hQ37
      subst l37 y37 z37
      obtain ⟨hE37, rfl, e37⟩ := hQ37
      have N37 := Fr.app N29 (Fr.nil n0)
      obtain ⟨rfl, -⟩ := Or.resolve_right hE37 (fun h => h.2 rfl)
      refine own_tr st37 ?_
      show own_G p e below (K_0 Z p0 p1 zc h0 n0 s) (T37.setTop (mkF m 115 #[.val (.int p0), .val (.int p1), .val (.int (0 : Int32)), .val (.int (0 : Int32)), .val (.ref a9), .val (.int (0 : Int32)), .val (.int (0 : Int32)), .val (.int (0 : Int32)), .unset] [(.int (1 : Int32))]))
      refine own_go (fun t k => XS.ifNo X37.here hx rfl (hb hby at_115) rfl ((if0 _ _).trans (by decide)) k) ?_
      show own_G p e below (K_0 Z p0 p1 zc h0 n0 s) (T37.setTop (mkF m 118 #[.val (.int p0), .val (.int p1), .val (.int (0 : Int32)), .val (.int (0 : Int32)), .val (.ref a9), .val (.int (0 : Int32)), .val (.int (0 : Int32)), .val (.int (0 : Int32)), .unset] []))
      refine own_go (fun t k => XS.iconst X37.here hx rfl (hb hby at_118) k) ?_
      show own_G p e below (K_0 Z p0 p1 zc h0 n0 s) (T37.setTop (mkF m 119 #[.val (.int p0), .val (.int p1), .val (.int (0 : Int32)), .val (.int (0 : Int32)), .val (.ref a9), .val (.int (0 : Int32)), .val (.int (0 : Int32)), .val (.int (0 : Int32)), .unset] [(.int (1 : Int32))]))
      refine own_go (fun t k => XS.goto X37.here hx rfl (pc0 := 119) (pc' := 123) rfl (hb hby at_119) (by decide) (by decide) k) ?_
      show own_G p e below (K_0 Z p0 p1 zc h0 n0 s) (T37.setTop (mkF m 123 #[.val (.int p0), .val (.int p1), .val (.int (0 : Int32)), .val (.int (0 : Int32)), .val (.ref a9), .val (.int (0 : Int32)), .val (.int (0 : Int32)), .val (.int (0 : Int32)), .unset] [(.int (1 : Int32))]))
      refine own_go (fun t k => XS.istore X37.here hx rfl (hb hby at_123) rfl (l' := #[.val (.int p0), .val (.int p1), .val (.int (0 : Int32)), .val (.int (0 : Int32)), .val (.ref a9), .val (.int (0 : Int32)), .val (.int (0 : Int32)), .val (.int (0 : Int32)), .val (.int (1 : Int32))]) rfl k) ?_
      show own_G p e below (K_0 Z p0 p1 zc h0 n0 s) (T37.setTop (mkF m 125 #[.val (.int p0), .val (.int p1), .val (.int (0 : Int32)), .val (.int (0 : Int32)), .val (.ref a9), .val (.int (0 : Int32)), .val (.int (0 : Int32)), .val (.int (0 : Int32)), .val (.int (1 : Int32))] []))
      refine own_go (fun t k => XS.iload X37.here hx rfl (hb hby at_125) rfl k) ?_
      show own_G p e below (K_0 Z p0 p1 zc h0 n0 s) (T37.setTop (mkF m 127 #[.val (.int p0), .val (.int p1), .val (.int (0 : Int32)), .val (.int (0 : Int32)), .val (.ref a9), .val (.int (0 : Int32)), .val (.int (0 : Int32)), .val (.int (0 : Int32)), .val (.int (1 : Int32))] [(.int (1 : Int32))]))
      refine own_go (fun t k => XS.ifNo X37.here hx rfl (hb hby at_127) rfl ((if0 _ _).trans (by decide)) k) ?_
      show own_G p e below (K_0 Z p0 p1 zc h0 n0 s) (T37.setTop (mkF m 130 #[.val (.int p0), .val (.int p1), .val (.int (0 : Int32)), .val (.int (0 : Int32)), .val (.ref a9), .val (.int (0 : Int32)), .val (.int (0 : Int32)), .val (.int (0 : Int32)), .val (.int (1 : Int32))] []))
      refine own_go (fun t k => XS.iload X37.here hx rfl (hb hby at_130) rfl k) ?_
      show own_G p e below (K_0 Z p0 p1 zc h0 n0 s) (T37.setTop (mkF m 132 #[.val (.int p0), .val (.int p1), .val (.int (0 : Int32)), .val (.int (0 : Int32)), .val (.ref a9), .val (.int (0 : Int32)), .val (.int (0 : Int32)), .val (.int (0 : Int32)), .val (.int (1 : Int32))] [(.int (0 : Int32))]))
      refine own_go (fun t k => XS.iloadN X37.here hx rfl (hb hby at_132) rfl k) ?_
      show own_G p e below (K_0 Z p0 p1 zc h0 n0 s) (T37.setTop (mkF m 133 #[.val (.int p0), .val (.int p1), .val (.int (0 : Int32)), .val (.int (0 : Int32)), .val (.ref a9), .val (.int (0 : Int32)), .val (.int (0 : Int32)), .val (.int (0 : Int32)), .val (.int (1 : Int32))] [(.int (0 : Int32)), (.int (0 : Int32))]))
      refine own_go (fun t k => XS.icmpNo X37.here hx rfl (hb hby at_133) rfl (by decide) k) ?_
      show own_G p e below (K_0 Z p0 p1 zc h0 n0 s) (T37.setTop (mkF m 136 #[.val (.int p0), .val (.int p1), .val (.int (0 : Int32)), .val (.int (0 : Int32)), .val (.ref a9), .val (.int (0 : Int32)), .val (.int (0 : Int32)), .val (.int (0 : Int32)), .val (.int (1 : Int32))] []))
      refine own_go (fun t k => XS.iload X37.here hx rfl (hb hby at_136) rfl k) ?_
      show own_G p e below (K_0 Z p0 p1 zc h0 n0 s) (T37.setTop (mkF m 138 #[.val (.int p0), .val (.int p1), .val (.int (0 : Int32)), .val (.int (0 : Int32)), .val (.ref a9), .val (.int (0 : Int32)), .val (.int (0 : Int32)), .val (.int (0 : Int32)), .val (.int (1 : Int32))] [(.int (0 : Int32))]))
      refine own_go (fun t k => XS.iloadN X37.here hx rfl (hb hby at_138) rfl k) ?_
      show own_G p e below (K_0 Z p0 p1 zc h0 n0 s) (T37.setTop (mkF m 139 #[.val (.int p0), .val (.int p1), .val (.int (0 : Int32)), .val (.int (0 : Int32)), .val (.ref a9), .val (.int (0 : Int32)), .val (.int (0 : Int32)), .val (.int (0 : Int32)), .val (.int (1 : Int32))] [(.int (0 : Int32)), (.int (0 : Int32))]))
      refine own_go (fun t k => XS.icmpNo X37.here hx rfl (hb hby at_139) rfl (by decide) k) ?_
      show own_G p e below (K_0 Z p0 p1 zc h0 n0 s) (T37.setTop (mkF m 142 #[.val (.int p0), .val (.int p1), .val (.int (0 : Int32)), .val (.int (0 : Int32)), .val (.ref a9), .val (.int (0 : Int32)), .val (.int (0 : Int32)), .val (.int (0 : Int32)), .val (.int (1 : Int32))] []))
      refine own_go (fun t k => XS.iconst X37.here hx rfl (hb hby at_142) k) ?_
      show own_G p e below (K_0 Z p0 p1 zc h0 n0 s) (T37.setTop (mkF m 143 #[.val (.int p0), .val (.int p1), .val (.int (0 : Int32)), .val (.int (0 : Int32)), .val (.ref a9), .val (.int (0 : Int32)), .val (.int (0 : Int32)), .val (.int (0 : Int32)), .val (.int (1 : Int32))] [(.int (1 : Int32))]))
      refine own_go (fun t k => XS.goto X37.here hx rfl (pc0 := 143) (pc' := 147) rfl (hb hby at_143) (by decide) (by decide) k) ?_
      show own_G p e below (K_0 Z p0 p1 zc h0 n0 s) (T37.setTop (mkF m 147 #[.val (.int p0), .val (.int p1), .val (.int (0 : Int32)), .val (.int (0 : Int32)), .val (.ref a9), .val (.int (0 : Int32)), .val (.int (0 : Int32)), .val (.int (0 : Int32)), .val (.int (1 : Int32))] [(.int (1 : Int32))]))
      exact own_retNW X37 hS35 (by rw [e37]; exact hk35) hx Bd.notSynchronized (t := .boolean) (z' := (1 : Int32)) Bd.returns (by simp) (hb hby at_147) rfl (fun U hU hV hF => ⟨_, _, rfl, ⟨rfl, N37⟩, (by rw [hU, e37, hV, hh]; exact CHr.trans R35 (CHv.at X37 hZ35 hEL R35.1)), hF.1, hF.2.1, hF.2.2.1, hF.2.2.2.mono (by decide) (by decide)⟩)
    · skip
      refine own_go (fun t k => XS.ifNo X0.here hx rfl (hb hby at_15) rfl ((if0 _ _).trans (feq hc15_2).1) k) ?_
      show own_G p e below (K_0 Z p0 p1 zc h0 n0 s) (s₁.setTop (mkF m 18 #[.val (.int p0), .val (.int p1), .val (.int (0 : Int32)), .unset, .unset, .unset, .unset, .unset, .unset] []))
      refine own_go (fun t k => XS.iconst X0.here hx rfl (hb hby at_18) k) ?_
      show own_G p e below (K_0 Z p0 p1 zc h0 n0 s) (s₁.setTop (mkF m 19 #[.val (.int p0), .val (.int p1), .val (.int (0 : Int32)), .unset, .unset, .unset, .unset, .unset, .unset] [(.int (1 : Int32))]))
      refine own_go (fun t k => XS.goto X0.here hx rfl (pc0 := 19) (pc' := 23) rfl (hb hby at_19) (by decide) (by decide) k) ?_
      show own_G p e below (K_0 Z p0 p1 zc h0 n0 s) (s₁.setTop (mkF m 23 #[.val (.int p0), .val (.int p1), .val (.int (0 : Int32)), .unset, .unset, .unset, .unset, .unset, .unset] [(.int (1 : Int32))]))
      refine own_go (fun t k => XS.istoreN X0.here hx rfl (hb hby at_23) rfl (l' := #[.val (.int p0), .val (.int p1), .val (.int (0 : Int32)), .val (.int (1 : Int32)), .unset, .unset, .unset, .unset, .unset]) rfl k) ?_
      show own_G p e below (K_0 Z p0 p1 zc h0 n0 s) (s₁.setTop (mkF m 24 #[.val (.int p0), .val (.int p1), .val (.int (0 : Int32)), .val (.int (1 : Int32)), .unset, .unset, .unset, .unset, .unset] []))
      obtain ⟨T43, h43, X43, e43, E43, A43, D43, -, st43⟩ := newO X0 hx hZ hown (hw _ (List.mem_of_getElem? (i := 0) rfl)) (hw _ (List.mem_of_getElem? (i := 1) rfl)) (hw _ (List.mem_of_getElem? (i := 2) rfl)) e0 (g := (mkF m 24 #[.val (.int p0), .val (.int p1), .val (.int (0 : Int32)), .val (.int (1 : Int32)), .unset, .unset, .unset, .unset, .unset] [])) rfl (hb hby at_24) (by decide) (by decide)
      obtain ⟨b43, g43⟩ : ∃ z, z = h0.size := ⟨_, rfl⟩
      rw [← g43] at A43 D43 st43
      refine own_go st43 ?_
      have g_b43 : n0 ≤ b43 := Nat.le_trans Z0 (Nat.le_of_eq g43.symm)
      have R44 := CHr.trans R0 (CHr.ext E43 R0.1)
      have hk44 := Nat.le_trans hk0 E43.1
      have Z45 : n0 ≤ h43.size := Nat.le_trans Z0 E43.1
      have F43_releases : Fld Z h43 b43 "com/example/lodepath/lodepath/Serves" "releases" "Z" (.int (0 : Int32)) := D43 (Or.inr (hw _ (List.mem_of_getElem? (i := 15) rfl))) (ty := .boolean) (by decide)
      have F43_snapshots : Fld Z h43 b43 "com/example/lodepath/lodepath/Serves" "snapshots" "Z" (.int (0 : Int32)) := D43 (Or.inr (hw _ (List.mem_of_getElem? (i := 17) rfl))) (ty := .boolean) (by decide)
      show own_G p e below (K_0 Z p0 p1 zc h0 n0 s) (T43.setTop (mkF m 27 #[.val (.int p0), .val (.int p1), .val (.int (0 : Int32)), .val (.int (1 : Int32)), .unset, .unset, .unset, .unset, .unset] [(.ref b43)]))
      refine own_go (fun t k => XS.dup X43.here hx rfl (hb hby at_27) rfl rfl k) ?_
      show own_G p e below (K_0 Z p0 p1 zc h0 n0 s) (T43.setTop (mkF m 28 #[.val (.int p0), .val (.int p1), .val (.int (0 : Int32)), .val (.int (1 : Int32)), .unset, .unset, .unset, .unset, .unset] [(.ref b43), (.ref b43)]))
      refine own_go (fun t k => XS.iloadN X43.here hx rfl (hb hby at_28) rfl k) ?_
      show own_G p e below (K_0 Z p0 p1 zc h0 n0 s) (T43.setTop (mkF m 29 #[.val (.int p0), .val (.int p1), .val (.int (0 : Int32)), .val (.int (1 : Int32)), .unset, .unset, .unset, .unset, .unset] [(.int (0 : Int32)), (.ref b43), (.ref b43)]))
      refine own_go (fun t k => XS.iloadN X43.here hx rfl (hb hby at_29) rfl k) ?_
      show own_G p e below (K_0 Z p0 p1 zc h0 n0 s) (T43.setTop (mkF m 30 #[.val (.int p0), .val (.int p1), .val (.int (0 : Int32)), .val (.int (1 : Int32)), .unset, .unset, .unset, .unset, .unset] [(.int (1 : Int32)), (.int (0 : Int32)), (.ref b43), (.ref b43)]))
      obtain ⟨_, _, ⟨T46, L46, k46, n46⟩, -, X46, ⟨Lc46, hQ46, l46, y46, z46⟩, st46⟩ := X43.specialBack hx (y := (⟨"com/example/lodepath/lodepath/Serves", "<init>", "(ZZ)V"⟩ : MethodName)) rfl hown (mvT hZ (hw _ (List.mem_of_getElem? (i := 3) rfl))) (mvT hZ (hw _ (List.mem_of_getElem? (i := 4) rfl))) (mvT hZ (hw _ (List.mem_of_getElem? (i := 5) rfl))) (by decide) (backOf (W := 1) (rm_ct l Z a0 hw [] b43 (0 : Int32) (1 : Int32) h43 n0 Z45 F43_releases F43_snapshots A43 g_b43) hZ (hw _ (List.mem_of_getElem? (i := 5) rfl)) (hw _ (List.mem_of_getElem? (i := 2) rfl)) (by decide) (by decide)) (g := (mkF m 30 #[.val (.int p0), .val (.int p1), .val (.int (0 : Int32)), .val (.int (1 : Int32)), .unset, .unset, .unset, .unset, .unset] [(.int (1 : Int32)), (.int (0 : Int32)), (.ref b43), (.ref b43)])) rfl (by rw [hml]; rfl) (Steps.refl _) (a := b43) (argsL := [(.int (0 : Int32)), (.int (1 : Int32))]) (rest := [(.ref b43)]) (lenOf own_pd1 rfl) rfl (by show 2 * 0 + _ ≤ _; exact Nat.le_of_eq rfl) (hb hby at_30) (fun _ _ => ⟨rfl, e43, (by decide : 1 + 0 ≤ _), (by decide : 2 + 0 ≤ _)⟩)
      dsimp only [Pt.U, Pt.locs, Pt.cells, Pt.slots] at X46 l46 y46 z46 st46 hQ46
      subst l46 y46 z46
      obtain ⟨rfl, N46q, K46q, E46q, F46_0, F46_1⟩ := hQ46
      have N46 := Fr.app N0 N46q
      obtain ⟨h46, e46⟩ : ∃ z, T46.heap = z := ⟨_, rfl⟩
      rw [e46] at K46q E46q F46_0 F46_1
      have R47 := CHr.trans R44 (CHr.keep K46q (allS (Safe.exa hZ.alike A43 (by decide) (by decide)) all0) R44.1)
      have hk47 := Nat.le_trans hk44 K46q.1
      have Z48 : n0 ≤ h46.size := Nat.le_trans Z45 K46q.1
      have G46_releases : Fld Z h46 b43 "com/example/lodepath/lodepath/Serves" "releases" "Z" (.int (0 : Int32)) := F46_0
      have G46_snapshots : Fld Z h46 b43 "com/example/lodepath/lodepath/Serves" "snapshots" "Z" (.int (1 : Int32)) := F46_1
      refine own_tr st46 ?_
      show own_G p e below (K_0 Z p0 p1 zc h0 n0 s) (T46.setTop (mkF m 33 #[.val (.int p0), .val (.int p1), .val (.int (0 : Int32)), .val (.int (1 : Int32)), .unset, .unset, .unset, .unset, .unset] [(.ref b43)]))
      obtain ⟨cq49, kq49, q49a, q49b, q49c⟩ := isOf hZ e46 E46q
      obtain ⟨_, _, ⟨T49, L49, k49, n49⟩, -, Y49, hs49, hg49, ⟨Lc49, hQ49, l49, y49, z49, C49⟩, st49⟩ := X46.virtualBackS hx (y := (⟨"com/example/lodepath/lodepath/Serves", "toString", "()Ljava/lang/String;"⟩ : MethodName)) (z := (⟨"com/example/lodepath/lodepath/Serves", "toString", "()Ljava/lang/String;"⟩ : MethodName)) hown (mvT hZ (hw _ (List.mem_of_getElem? (i := 18) rfl))) (mvT hZ (hw _ (List.mem_of_getElem? (i := 19) rfl))) (notFace_of_selects (args := #[]) (mvT hZ (hw _ (List.mem_of_getElem? (i := 21) rfl)))) (mvT hZ (hw _ (List.mem_of_getElem? (i := 21) rfl))) (mvT hZ (hw _ (List.mem_of_getElem? (i := 20) rfl))) (by decide) (backOfSH (W := 0) (rm_ts01 l Z a0 hw [] b43 h46 n0 Z48 G46_releases G46_snapshots) hZ (hw _ (List.mem_of_getElem? (i := 22) rfl)) (hw _ (List.mem_of_getElem? (i := 2) rfl)) (by decide) (by decide) hEL R47.1) q49a q49c (g := (mkF m 33 #[.val (.int p0), .val (.int p1), .val (.int (0 : Int32)), .val (.int (1 : Int32)), .unset, .unset, .unset, .unset, .unset] [(.ref b43)])) rfl (by rw [hml]; rfl) (Steps.refl _) (argsL := []) (rest := []) (lenOf own_pd2 rfl) rfl (by show 2 * 0 + _ ≤ _; exact Nat.le_of_eq rfl) (hb hby at_33) (fun _ _ => ⟨rfl, e46, (by decide : 1 + 2 ≤ _), (by decide : 2 + 76 ≤ _)⟩)
      dsimp only [Pt.U, Pt.locs, Pt.cells, Pt.slots] at Y49 hs49 hg49 l49 y49 z49 C49 st49 hQ49
      subst l49 y49 z49
      obtain ⟨X49, hS49, hZ49, hown49⟩ := rebS hS0 (Nat.le_trans hk47 (Nat.le_of_eq (congrArg Array.size e46).symm)) Y49 hs49 hg49 hZ hown
      obtain ⟨h49, e49⟩ : ∃ z, T49.heap = z := ⟨_, rfl⟩
      rw [e49] at hQ49 hS49 C49
      have R49 := CHr.trans R47 C49
      have hk49 : h49.size ≤ h49.size := Nat.le_refl _
      obtain ⟨a49, b49, kb49, rfl, N49q, E49, A49, Fc49, Fv49, V49⟩ := hQ49
      have N49 := Fr.app N46 N49q
      have Z50 : n0 ≤ h49.size := Nat.le_trans Z48 E49.1
      refine own_tr st49 ?_
      show own_G p e below (K_0 Z p0 p1 zc h0 n0 s) (T49.setTop (mkF m 36 #[.val (.int p0), .val (.int p1), .val (.int (0 : Int32)), .val (.int (1 : Int32)), .unset, .unset, .unset, .unset, .unset] [(.ref a49)]))
      refine own_go (fun t k => XS.astore X49.here hx rfl (hb hby at_36) rfl rfl (l' := #[.val (.int p0), .val (.int p1), .val (.int (0 : Int32)), .val (.int (1 : Int32)), .val (.ref a49), .unset, .unset, .unset, .unset]) rfl k) ?_
      show own_G p e below (K_0 Z p0 p1 zc h0 n0 s) (T49.setTop (mkF m 38 #[.val (.int p0), .val (.int p1), .val (.int (0 : Int32)), .val (.int (1 : Int32)), .val (.ref a49), .unset, .unset, .unset, .unset] []))
      refine own_go (fun t k => XS.aload X49.here hx rfl (hb hby at_38) rfl rfl k) ?_
      show own_G p e below (K_0 Z p0 p1 zc h0 n0 s) (T49.setTop (mkF m 40 #[.val (.int p0), .val (.int p1), .val (.int (0 : Int32)), .val (.int (1 : Int32)), .val (.ref a49), .unset, .unset, .unset, .unset] [(.ref a49)]))
      refine own_go (fun t k => XS.ifnonnullYes X49.here hx rfl (pc0 := 40) (pc' := 45) rfl (hb hby at_40) rfl (by decide) (by decide) k) ?_
      show own_G p e below (K_0 Z p0 p1 zc h0 n0 s) (T49.setTop (mkF m 45 #[.val (.int p0), .val (.int p1), .val (.int (0 : Int32)), .val (.int (1 : Int32)), .val (.ref a49), .unset, .unset, .unset, .unset] []))
      refine own_go (fun t k => XS.aload X49.here hx rfl (hb hby at_45) rfl rfl k) ?_
      show own_G p e below (K_0 Z p0 p1 zc h0 n0 s) (T49.setTop (mkF m 47 #[.val (.int p0), .val (.int p1), .val (.int (0 : Int32)), .val (.int (1 : Int32)), .val (.ref a49), .unset, .unset, .unset, .unset] [(.ref a49)]))
      obtain ⟨a51, T51, h51, k51, b51, kb51, X51, e51, E51, hS51, hk51, hZ51, hown51, A51, Fc51, Fv51, V51, la51, lb51, C51, -, Sf51, st51⟩ := ldcCH (EL := consts_1) X49 hx hZ49 hown49 (hw _ (List.mem_of_getElem? (i := 31) rfl)) wSt e49 hS49 hk49 hEL (List.mem_of_getElem? (i := 4) rfl) R49.1 (vs := (own_bs "releases,snapshots")) (z := (18 : Int32)) (own_lit (by decide +kernel)) (by decide) (by decide +kernel) (g := (mkF m 47 #[.val (.int p0), .val (.int p1), .val (.int (0 : Int32)), .val (.int (1 : Int32)), .val (.ref a49), .unset, .unset, .unset, .unset] [(.ref a49)])) rfl (hb hby at_47) (n := 72) (by decide +kernel) (by decide) (by decide) (by decide)
      refine own_go st51 ?_
      have R51 := CHr.trans R49 C51
      have Z52 : n0 ≤ h51.size := Nat.le_trans Z50 E51.1
      show own_G p e below (K_0 Z p0 p1 zc h0 n0 s) (T51.setTop (mkF m 49 #[.val (.int p0), .val (.int p1), .val (.int (0 : Int32)), .val (.int (1 : Int32)), .val (.ref a49), .unset, .unset, .unset, .unset] [(.ref a51), (.ref a49)]))
      have Q54 := (A49.ext E51)
      have Q55 := (Fv49.ext E51)
      have Q56 := (Fc49.ext E51)
      have Q57 := (V49.ext E51)
      have Q58 := (((own_stakeep (S0_.ext E43) K46q (allS (fun cl hc => A43.nostat cl hc) all0)).ext E49).ext E51)
      obtain ⟨cq53, kq53, q53a, q53b, q53c⟩ := isOf hZ51 e51 Q54
      obtain ⟨_, _, ⟨T53, L53, k53, n53⟩, -, X53, ⟨Lc53, hQ53, l53, y53, z53⟩, st53⟩ := X51.virtualBack hx (y := (⟨"java/lang/String", "equals", "(Ljava/lang/Object;)Z"⟩ : MethodName)) (z := (⟨"java/lang/String", "equals", "(Ljava/lang/Object;)Z"⟩ : MethodName)) hown51 (mvT hZ51 (hw _ (List.mem_of_getElem? (i := 32) rfl))) (mvT hZ51 (hw _ (List.mem_of_getElem? (i := 33) rfl))) (notFace_of_selects (args := #[]) (mvT hZ51 (hw _ (List.mem_of_getElem? (i := 35) rfl)))) (mvT hZ51 (hw _ (List.mem_of_getElem? (i := 35) rfl))) (mvT hZ51 (hw _ (List.mem_of_getElem? (i := 34) rfl))) (by decide) (StrChars.Road.eqW (W := 0) (cs := own_ch "snapshots") (ds := own_ch "releases,snapshots") hZ51 heq (kI := 4) (hw _ (List.mem_of_getElem? (i := 25) rfl)) Q54 Q55 Q56 Q57 (own_codA "snapshots" (z := (9 : Int32)) (by decide +kernel) (by decide +kernel)) (by decide +kernel) (by decide +kernel) A51 Fv51 Fc51 V51 (own_codA "releases,snapshots" (z := (18 : Int32)) (by decide +kernel) (by decide +kernel)) (by decide +kernel) (by decide +kernel) Q58 hzc (by decide) (by decide)) q53a q53c (g := (mkF m 49 #[.val (.int p0), .val (.int p1), .val (.int (0 : Int32)), .val (.int (1 : Int32)), .val (.ref a49), .unset, .unset, .unset, .unset] [(.ref a51), (.ref a49)])) rfl (by rw [hml]; rfl) (Steps.refl _) (argsL := [(.ref a51)]) (rest := []) (lenOf own_pd3 rfl) rfl (by show 2 * 0 + _ ≤ _; exact Nat.le_of_eq rfl) (hb hby at_49) (fun _ _ => ⟨rfl, e51, (by decide : 5 + 0 ≤ _), (by decide : 154 + 0 ≤ _)⟩)
      dsimp only [Pt.U, Pt.locs, Pt.cells, Pt.slots] at X53 l53 y53 z53 st53 hQ53
      subst l53 y53 z53
      obtain ⟨hE53, rfl, e53⟩ := hQ53
      have N53 := Fr.app N49 (Fr.nil n0)
      obtain ⟨rfl, -⟩ := Or.resolve_left hE53 (fun h => absurd h.2 (by decide +kernel))
      refine own_tr st53 ?_
      show own_G p e below (K_0 Z p0 p1 zc h0 n0 s) (T53.setTop (mkF m 52 #[.val (.int p0), .val (.int p1), .val (.int (0 : Int32)), .val (.int (1 : Int32)), .val (.ref a49), .unset, .unset, .unset, .unset] [(.int (0 : Int32))]))
      refine own_go (fun t k => XS.istore X53.here hx rfl (hb hby at_52) rfl (l' := #[.val (.int p0), .val (.int p1), .val (.int (0 : Int32)), .val (.int (1 : Int32)), .val (.ref a49), .val (.int (0 : Int32)), .unset, .unset, .unset]) rfl k) ?_
      show own_G p e below (K_0 Z p0 p1 zc h0 n0 s) (T53.setTop (mkF m 54 #[.val (.int p0), .val (.int p1), .val (.int (0 : Int32)), .val (.int (1 : Int32)), .val (.ref a49), .val (.int (0 : Int32)), .unset, .unset, .unset] []))
      refine own_go (fun t k => XS.iload X53.here hx rfl (hb hby at_54) rfl k) ?_
      show own_G p e below (K_0 Z p0 p1 zc h0 n0 s) (T53.setTop (mkF m 56 #[.val (.int p0), .val (.int p1), .val (.int (0 : Int32)), .val (.int (1 : Int32)), .val (.ref a49), .val (.int (0 : Int32)), .unset, .unset, .unset] [(.int (0 : Int32))]))
      refine own_go (fun t k => XS.ifNo X53.here hx rfl (hb hby at_56) rfl ((if0 _ _).trans (by decide)) k) ?_
      show own_G p e below (K_0 Z p0 p1 zc h0 n0 s) (T53.setTop (mkF m 59 #[.val (.int p0), .val (.int p1), .val (.int (0 : Int32)), .val (.int (1 : Int32)), .val (.ref a49), .val (.int (0 : Int32)), .unset, .unset, .unset] []))
      refine own_go (fun t k => XS.aload X53.here hx rfl (hb hby at_59) rfl rfl k) ?_
      show own_G p e below (K_0 Z p0 p1 zc h0 n0 s) (T53.setTop (mkF m 61 #[.val (.int p0), .val (.int p1), .val (.int (0 : Int32)), .val (.int (1 : Int32)), .val (.ref a49), .val (.int (0 : Int32)), .unset, .unset, .unset] [(.ref a49)]))
      obtain ⟨a59, T59, h59, k59, b59, kb59, X59, e59, E59, hS59, hk59, hZ59, hown59, A59, Fc59, Fv59, V59, la59, lb59, C59, -, Sf59, st59⟩ := ldcCH (EL := consts_1) X53 hx hZ51 hown51 (hw _ (List.mem_of_getElem? (i := 46) rfl)) wSt e53 hS51 hk51 hEL (List.mem_of_getElem? (i := 5) rfl) R51.1 (vs := (own_bs "releases")) (z := (8 : Int32)) (own_lit (by decide +kernel)) (by decide) (by decide +kernel) (g := (mkF m 61 #[.val (.int p0), .val (.int p1), .val (.int (0 : Int32)), .val (.int (1 : Int32)), .val (.ref a49), .val (.int (0 : Int32)), .unset, .unset, .unset] [(.ref a49)])) rfl (hb hby at_61) (n := 32) (by decide +kernel) (by decide) (by decide) (by decide)
      refine own_go st59 ?_
      have R59 := CHr.trans R51 C59
      have Z60 : n0 ≤ h59.size := Nat.le_trans Z52 E59.1
      show own_G p e below (K_0 Z p0 p1 zc h0 n0 s) (T59.setTop (mkF m 63 #[.val (.int p0), .val (.int p1), .val (.int (0 : Int32)), .val (.int (1 : Int32)), .val (.ref a49), .val (.int (0 : Int32)), .unset, .unset, .unset] [(.ref a59), (.ref a49)]))
      have Q62 := (Q54.ext E59)
      have Q63 := (Q55.ext E59)
      have Q64 := (Q56.ext E59)
      have Q65 := (Q57.ext E59)
      have Q66 := (Q58.ext E59)
      obtain ⟨cq61, kq61, q61a, q61b, q61c⟩ := isOf hZ59 e59 Q62
      obtain ⟨_, _, ⟨T61, L61, k61, n61⟩, -, X61, ⟨Lc61, hQ61, l61, y61, z61⟩, st61⟩ := X59.virtualBack hx (y := (⟨"java/lang/String", "equals", "(Ljava/lang/Object;)Z"⟩ : MethodName)) (z := (⟨"java/lang/String", "equals", "(Ljava/lang/Object;)Z"⟩ : MethodName)) hown59 (mvT hZ59 (hw _ (List.mem_of_getElem? (i := 32) rfl))) (mvT hZ59 (hw _ (List.mem_of_getElem? (i := 33) rfl))) (notFace_of_selects (args := #[]) (mvT hZ59 (hw _ (List.mem_of_getElem? (i := 35) rfl)))) (mvT hZ59 (hw _ (List.mem_of_getElem? (i := 35) rfl))) (mvT hZ59 (hw _ (List.mem_of_getElem? (i := 34) rfl))) (by decide) (StrChars.Road.eqW (W := 0) (cs := own_ch "snapshots") (ds := own_ch "releases") hZ59 heq (kI := 4) (hw _ (List.mem_of_getElem? (i := 25) rfl)) Q62 Q63 Q64 Q65 (own_codA "snapshots" (z := (9 : Int32)) (by decide +kernel) (by decide +kernel)) (by decide +kernel) (by decide +kernel) A59 Fv59 Fc59 V59 (own_codA "releases" (z := (8 : Int32)) (by decide +kernel) (by decide +kernel)) (by decide +kernel) (by decide +kernel) Q66 hzc (by decide) (by decide)) q61a q61c (g := (mkF m 63 #[.val (.int p0), .val (.int p1), .val (.int (0 : Int32)), .val (.int (1 : Int32)), .val (.ref a49), .val (.int (0 : Int32)), .unset, .unset, .unset] [(.ref a59), (.ref a49)])) rfl (by rw [hml]; rfl) (Steps.refl _) (argsL := [(.ref a59)]) (rest := []) (lenOf own_pd3 rfl) rfl (by show 2 * 0 + _ ≤ _; exact Nat.le_of_eq rfl) (hb hby at_63) (fun _ _ => ⟨rfl, e59, (by decide : 7 + 0 ≤ _), (by decide : 190 + 0 ≤ _)⟩)
      dsimp only [Pt.U, Pt.locs, Pt.cells, Pt.slots] at X61 l61 y61 z61 st61 hQ61
      subst l61 y61 z61
      obtain ⟨hE61, rfl, e61⟩ := hQ61
      have N61 := Fr.app N53 (Fr.nil n0)
      obtain ⟨rfl, -⟩ := Or.resolve_left hE61 (fun h => absurd h.2 (by decide +kernel))
      refine own_tr st61 ?_
      show own_G p e below (K_0 Z p0 p1 zc h0 n0 s) (T61.setTop (mkF m 66 #[.val (.int p0), .val (.int p1), .val (.int (0 : Int32)), .val (.int (1 : Int32)), .val (.ref a49), .val (.int (0 : Int32)), .unset, .unset, .unset] [(.int (0 : Int32))]))
      refine own_go (fun t k => XS.ifYes X61.here hx rfl (pc0 := 66) (pc' := 73) rfl (hb hby at_66) rfl ((if0 _ _).trans (by decide)) (by decide) (by decide) k) ?_
      show own_G p e below (K_0 Z p0 p1 zc h0 n0 s) (T61.setTop (mkF m 73 #[.val (.int p0), .val (.int p1), .val (.int (0 : Int32)), .val (.int (1 : Int32)), .val (.ref a49), .val (.int (0 : Int32)), .unset, .unset, .unset] []))
      refine own_go (fun t k => XS.iconst X61.here hx rfl (hb hby at_73) k) ?_
      show own_G p e below (K_0 Z p0 p1 zc h0 n0 s) (T61.setTop (mkF m 74 #[.val (.int p0), .val (.int p1), .val (.int (0 : Int32)), .val (.int (1 : Int32)), .val (.ref a49), .val (.int (0 : Int32)), .unset, .unset, .unset] [(.int (0 : Int32))]))
      refine own_go (fun t k => XS.istore X61.here hx rfl (hb hby at_74) rfl (l' := #[.val (.int p0), .val (.int p1), .val (.int (0 : Int32)), .val (.int (1 : Int32)), .val (.ref a49), .val (.int (0 : Int32)), .val (.int (0 : Int32)), .unset, .unset]) rfl k) ?_
      show own_G p e below (K_0 Z p0 p1 zc h0 n0 s) (T61.setTop (mkF m 76 #[.val (.int p0), .val (.int p1), .val (.int (0 : Int32)), .val (.int (1 : Int32)), .val (.ref a49), .val (.int (0 : Int32)), .val (.int (0 : Int32)), .unset, .unset] []))
      refine own_go (fun t k => XS.iload X61.here hx rfl (hb hby at_76) rfl k) ?_
      show own_G p e below (K_0 Z p0 p1 zc h0 n0 s) (T61.setTop (mkF m 78 #[.val (.int p0), .val (.int p1), .val (.int (0 : Int32)), .val (.int (1 : Int32)), .val (.ref a49), .val (.int (0 : Int32)), .val (.int (0 : Int32)), .unset, .unset] [(.int (0 : Int32))]))
      refine own_go (fun t k => XS.ifNo X61.here hx rfl (hb hby at_78) rfl ((if0 _ _).trans (by decide)) k) ?_
      show own_G p e below (K_0 Z p0 p1 zc h0 n0 s) (T61.setTop (mkF m 81 #[.val (.int p0), .val (.int p1), .val (.int (0 : Int32)), .val (.int (1 : Int32)), .val (.ref a49), .val (.int (0 : Int32)), .val (.int (0 : Int32)), .unset, .unset] []))
      refine own_go (fun t k => XS.aload X61.here hx rfl (hb hby at_81) rfl rfl k) ?_
      show own_G p e below (K_0 Z p0 p1 zc h0 n0 s) (T61.setTop (mkF m 83 #[.val (.int p0), .val (.int p1), .val (.int (0 : Int32)), .val (.int (1 : Int32)), .val (.ref a49), .val (.int (0 : Int32)), .val (.int (0 : Int32)), .unset, .unset] [(.ref a49)]))
      obtain ⟨a67, T67, h67, k67, b67, kb67, X67, e67, E67, hS67, hk67, hZ67, hown67, A67, Fc67, Fv67, V67, la67, lb67, C67, -, Sf67, st67⟩ := ldcCH (EL := consts_1) X61 hx hZ59 hown59 (hw _ (List.mem_of_getElem? (i := 47) rfl)) wSt e61 hS59 hk59 hEL (List.mem_of_getElem? (i := 6) rfl) R59.1 (vs := (own_bs "snapshots")) (z := (9 : Int32)) (own_lit (by decide +kernel)) (by decide) (by decide +kernel) (g := (mkF m 83 #[.val (.int p0), .val (.int p1), .val (.int (0 : Int32)), .val (.int (1 : Int32)), .val (.ref a49), .val (.int (0 : Int32)), .val (.int (0 : Int32)), .unset, .unset] [(.ref a49)])) rfl (hb hby at_83) (n := 36) (by decide +kernel) (by decide) (by decide) (by decide)
      refine own_go st67 ?_
      have R67 := CHr.trans R59 C67
      have Z68 : n0 ≤ h67.size := Nat.le_trans Z60 E67.1
      show own_G p e below (K_0 Z p0 p1 zc h0 n0 s) (T67.setTop (mkF m 85 #[.val (.int p0), .val (.int p1), .val (.int (0 : Int32)), .val (.int (1 : Int32)), .val (.ref a49), .val (.int (0 : Int32)), .val (.int (0 : Int32)), .unset, .unset] [(.ref a67), (.ref a49)]))
      have Q70 := (Q62.ext E67)
      have Q71 := (Q63.ext E67)
      have Q72 := (Q64.ext E67)
      have Q73 := (Q65.ext E67)
      have Q74 := (Q66.ext E67)
      obtain ⟨cq69, kq69, q69a, q69b, q69c⟩ := isOf hZ67 e67 Q70
      obtain ⟨_, _, ⟨T69, L69, k69, n69⟩, -, X69, ⟨Lc69, hQ69, l69, y69, z69⟩, st69⟩ := X67.virtualBack hx (y := (⟨"java/lang/String", "equals", "(Ljava/lang/Object;)Z"⟩ : MethodName)) (z := (⟨"java/lang/String", "equals", "(Ljava/lang/Object;)Z"⟩ : MethodName)) hown67 (mvT hZ67 (hw _ (List.mem_of_getElem? (i := 32) rfl))) (mvT hZ67 (hw _ (List.mem_of_getElem? (i := 33) rfl))) (notFace_of_selects (args := #[]) (mvT hZ67 (hw _ (List.mem_of_getElem? (i := 35) rfl)))) (mvT hZ67 (hw _ (List.mem_of_getElem? (i := 35) rfl))) (mvT hZ67 (hw _ (List.mem_of_getElem? (i := 34) rfl))) (by decide) (StrChars.Road.eqW (W := 0) (cs := own_ch "snapshots") (ds := own_ch "snapshots") hZ67 heq (kI := 4) (hw _ (List.mem_of_getElem? (i := 25) rfl)) Q70 Q71 Q72 Q73 (own_codA "snapshots" (z := (9 : Int32)) (by decide +kernel) (by decide +kernel)) (by decide +kernel) (by decide +kernel) A67 Fv67 Fc67 V67 (own_codA "snapshots" (z := (9 : Int32)) (by decide +kernel) (by decide +kernel)) (by decide +kernel) (by decide +kernel) Q74 hzc (by decide) (by decide)) q69a q69c (g := (mkF m 85 #[.val (.int p0), .val (.int p1), .val (.int (0 : Int32)), .val (.int (1 : Int32)), .val (.ref a49), .val (.int (0 : Int32)), .val (.int (0 : Int32)), .unset, .unset] [(.ref a67), (.ref a49)])) rfl (by rw [hml]; rfl) (Steps.refl _) (argsL := [(.ref a67)]) (rest := []) (lenOf own_pd3 rfl) rfl (by show 2 * 0 + _ ≤ _; exact Nat.le_of_eq rfl) (hb hby at_85) (fun _ _ => ⟨rfl, e67, (by decide : 9 + 0 ≤ _), (by decide : 230 + 0 ≤ _)⟩)
      dsimp only [Pt.U, Pt.locs, Pt.cells, Pt.slots] at X69 l69 y69 z69 st69 hQ69
      subst l69 y69 z69
      obtain ⟨hE69, rfl, e69⟩ := hQ69
      have N69 := Fr.app N61 (Fr.nil n0)
      obtain ⟨rfl, -⟩ := Or.resolve_right hE69 (fun h => h.2 rfl)
      refine own_tr st69 ?_
      show own_G p e below (K_0 Z p0 p1 zc h0 n0 s) (T69.setTop (mkF m 88 #[.val (.int p0), .val (.int p1), .val (.int (0 : Int32)), .val (.int (1 : Int32)), .val (.ref a49), .val (.int (0 : Int32)), .val (.int (0 : Int32)), .unset, .unset] [(.int (1 : Int32))]))
      refine own_go (fun t k => XS.ifNo X69.here hx rfl (hb hby at_88) rfl ((if0 _ _).trans (by decide)) k) ?_
      show own_G p e below (K_0 Z p0 p1 zc h0 n0 s) (T69.setTop (mkF m 91 #[.val (.int p0), .val (.int p1), .val (.int (0 : Int32)), .val (.int (1 : Int32)), .val (.ref a49), .val (.int (0 : Int32)), .val (.int (0 : Int32)), .unset, .unset] []))
      refine own_go (fun t k => XS.iconst X69.here hx rfl (hb hby at_91) k) ?_
      show own_G p e below (K_0 Z p0 p1 zc h0 n0 s) (T69.setTop (mkF m 92 #[.val (.int p0), .val (.int p1), .val (.int (0 : Int32)), .val (.int (1 : Int32)), .val (.ref a49), .val (.int (0 : Int32)), .val (.int (0 : Int32)), .unset, .unset] [(.int (1 : Int32))]))
      refine own_go (fun t k => XS.goto X69.here hx rfl (pc0 := 92) (pc' := 96) rfl (hb hby at_92) (by decide) (by decide) k) ?_
      show own_G p e below (K_0 Z p0 p1 zc h0 n0 s) (T69.setTop (mkF m 96 #[.val (.int p0), .val (.int p1), .val (.int (0 : Int32)), .val (.int (1 : Int32)), .val (.ref a49), .val (.int (0 : Int32)), .val (.int (0 : Int32)), .unset, .unset] [(.int (1 : Int32))]))
      refine own_go (fun t k => XS.istore X69.here hx rfl (hb hby at_96) rfl (l' := #[.val (.int p0), .val (.int p1), .val (.int (0 : Int32)), .val (.int (1 : Int32)), .val (.ref a49), .val (.int (0 : Int32)), .val (.int (0 : Int32)), .val (.int (1 : Int32)), .unset]) rfl k) ?_
      show own_G p e below (K_0 Z p0 p1 zc h0 n0 s) (T69.setTop (mkF m 98 #[.val (.int p0), .val (.int p1), .val (.int (0 : Int32)), .val (.int (1 : Int32)), .val (.ref a49), .val (.int (0 : Int32)), .val (.int (0 : Int32)), .val (.int (1 : Int32)), .unset] []))
      refine own_go (fun t k => XS.iload X69.here hx rfl (hb hby at_98) rfl k) ?_
      show own_G p e below (K_0 Z p0 p1 zc h0 n0 s) (T69.setTop (mkF m 100 #[.val (.int p0), .val (.int p1), .val (.int (0 : Int32)), .val (.int (1 : Int32)), .val (.ref a49), .val (.int (0 : Int32)), .val (.int (0 : Int32)), .val (.int (1 : Int32)), .unset] [(.int (0 : Int32))]))
      refine own_go (fun t k => XS.ifNo X69.here hx rfl (hb hby at_100) rfl ((if0 _ _).trans (by decide)) k) ?_
      show own_G p e below (K_0 Z p0 p1 zc h0 n0 s) (T69.setTop (mkF m 103 #[.val (.int p0), .val (.int p1), .val (.int (0 : Int32)), .val (.int (1 : Int32)), .val (.ref a49), .val (.int (0 : Int32)), .val (.int (0 : Int32)), .val (.int (1 : Int32)), .unset] []))
      refine own_go (fun t k => XS.iload X69.here hx rfl (hb hby at_103) rfl k) ?_
      show own_G p e below (K_0 Z p0 p1 zc h0 n0 s) (T69.setTop (mkF m 105 #[.val (.int p0), .val (.int p1), .val (.int (0 : Int32)), .val (.int (1 : Int32)), .val (.ref a49), .val (.int (0 : Int32)), .val (.int (0 : Int32)), .val (.int (1 : Int32)), .unset] [(.int (1 : Int32))]))
      refine own_go (fun t k => XS.ifYes X69.here hx rfl (pc0 := 105) (pc' := 118) rfl (hb hby at_105) rfl ((if0 _ _).trans (by decide)) (by decide) (by decide) k) ?_
      show own_G p e below (K_0 Z p0 p1 zc h0 n0 s) (T69.setTop (mkF m 118 #[.val (.int p0), .val (.int p1), .val (.int (0 : Int32)), .val (.int (1 : Int32)), .val (.ref a49), .val (.int (0 : Int32)), .val (.int (0 : Int32)), .val (.int (1 : Int32)), .unset] []))
      refine own_go (fun t k => XS.iconst X69.here hx rfl (hb hby at_118) k) ?_
      show own_G p e below (K_0 Z p0 p1 zc h0 n0 s) (T69.setTop (mkF m 119 #[.val (.int p0), .val (.int p1), .val (.int (0 : Int32)), .val (.int (1 : Int32)), .val (.ref a49), .val (.int (0 : Int32)), .val (.int (0 : Int32)), .val (.int (1 : Int32)), .unset] [(.int (1 : Int32))]))
      refine own_go (fun t k => XS.goto X69.here hx rfl (pc0 := 119) (pc' := 123) rfl (hb hby at_119) (by decide) (by decide) k) ?_
      show own_G p e below (K_0 Z p0 p1 zc h0 n0 s) (T69.setTop (mkF m 123 #[.val (.int p0), .val (.int p1), .val (.int (0 : Int32)), .val (.int (1 : Int32)), .val (.ref a49), .val (.int (0 : Int32)), .val (.int (0 : Int32)), .val (.int (1 : Int32)), .unset] [(.int (1 : Int32))]))
      refine own_go (fun t k => XS.istore X69.here hx rfl (hb hby at_123) rfl (l' := #[.val (.int p0), .val (.int p1), .val (.int (0 : Int32)), .val (.int (1 : Int32)), .val (.ref a49), .val (.int (0 : Int32)), .val (.int (0 : Int32)), .val (.int (1 : Int32)), .val (.int (1 : Int32))]) rfl k) ?_
      show own_G p e below (K_0 Z p0 p1 zc h0 n0 s) (T69.setTop (mkF m 125 #[.val (.int p0), .val (.int p1), .val (.int (0 : Int32)), .val (.int (1 : Int32)), .val (.ref a49), .val (.int (0 : Int32)), .val (.int (0 : Int32)), .val (.int (1 : Int32)), .val (.int (1 : Int32))] []))
      refine own_go (fun t k => XS.iload X69.here hx rfl (hb hby at_125) rfl k) ?_
      show own_G p e below (K_0 Z p0 p1 zc h0 n0 s) (T69.setTop (mkF m 127 #[.val (.int p0), .val (.int p1), .val (.int (0 : Int32)), .val (.int (1 : Int32)), .val (.ref a49), .val (.int (0 : Int32)), .val (.int (0 : Int32)), .val (.int (1 : Int32)), .val (.int (1 : Int32))] [(.int (1 : Int32))]))
      refine own_go (fun t k => XS.ifNo X69.here hx rfl (hb hby at_127) rfl ((if0 _ _).trans (by decide)) k) ?_
      show own_G p e below (K_0 Z p0 p1 zc h0 n0 s) (T69.setTop (mkF m 130 #[.val (.int p0), .val (.int p1), .val (.int (0 : Int32)), .val (.int (1 : Int32)), .val (.ref a49), .val (.int (0 : Int32)), .val (.int (0 : Int32)), .val (.int (1 : Int32)), .val (.int (1 : Int32))] []))
      refine own_go (fun t k => XS.iload X69.here hx rfl (hb hby at_130) rfl k) ?_
      show own_G p e below (K_0 Z p0 p1 zc h0 n0 s) (T69.setTop (mkF m 132 #[.val (.int p0), .val (.int p1), .val (.int (0 : Int32)), .val (.int (1 : Int32)), .val (.ref a49), .val (.int (0 : Int32)), .val (.int (0 : Int32)), .val (.int (1 : Int32)), .val (.int (1 : Int32))] [(.int (0 : Int32))]))
      refine own_go (fun t k => XS.iloadN X69.here hx rfl (hb hby at_132) rfl k) ?_
      show own_G p e below (K_0 Z p0 p1 zc h0 n0 s) (T69.setTop (mkF m 133 #[.val (.int p0), .val (.int p1), .val (.int (0 : Int32)), .val (.int (1 : Int32)), .val (.ref a49), .val (.int (0 : Int32)), .val (.int (0 : Int32)), .val (.int (1 : Int32)), .val (.int (1 : Int32))] [(.int (0 : Int32)), (.int (0 : Int32))]))
      refine own_go (fun t k => XS.icmpNo X69.here hx rfl (hb hby at_133) rfl (by decide) k) ?_
      show own_G p e below (K_0 Z p0 p1 zc h0 n0 s) (T69.setTop (mkF m 136 #[.val (.int p0), .val (.int p1), .val (.int (0 : Int32)), .val (.int (1 : Int32)), .val (.ref a49), .val (.int (0 : Int32)), .val (.int (0 : Int32)), .val (.int (1 : Int32)), .val (.int (1 : Int32))] []))
      refine own_go (fun t k => XS.iload X69.here hx rfl (hb hby at_136) rfl k) ?_
      show own_G p e below (K_0 Z p0 p1 zc h0 n0 s) (T69.setTop (mkF m 138 #[.val (.int p0), .val (.int p1), .val (.int (0 : Int32)), .val (.int (1 : Int32)), .val (.ref a49), .val (.int (0 : Int32)), .val (.int (0 : Int32)), .val (.int (1 : Int32)), .val (.int (1 : Int32))] [(.int (1 : Int32))]))
      refine own_go (fun t k => XS.iloadN X69.here hx rfl (hb hby at_138) rfl k) ?_
      show own_G p e below (K_0 Z p0 p1 zc h0 n0 s) (T69.setTop (mkF m 139 #[.val (.int p0), .val (.int p1), .val (.int (0 : Int32)), .val (.int (1 : Int32)), .val (.ref a49), .val (.int (0 : Int32)), .val (.int (0 : Int32)), .val (.int (1 : Int32)), .val (.int (1 : Int32))] [(.int (1 : Int32)), (.int (1 : Int32))]))
      refine own_go (fun t k => XS.icmpNo X69.here hx rfl (hb hby at_139) rfl (by decide) k) ?_
      show own_G p e below (K_0 Z p0 p1 zc h0 n0 s) (T69.setTop (mkF m 142 #[.val (.int p0), .val (.int p1), .val (.int (0 : Int32)), .val (.int (1 : Int32)), .val (.ref a49), .val (.int (0 : Int32)), .val (.int (0 : Int32)), .val (.int (1 : Int32)), .val (.int (1 : Int32))] []))
      refine own_go (fun t k => XS.iconst X69.here hx rfl (hb hby at_142) k) ?_
      show own_G p e below (K_0 Z p0 p1 zc h0 n0 s) (T69.setTop (mkF m 143 #[.val (.int p0), .val (.int p1), .val (.int (0 : Int32)), .val (.int (1 : Int32)), .val (.ref a49), .val (.int (0 : Int32)), .val (.int (0 : Int32)), .val (.int (1 : Int32)), .val (.int (1 : Int32))] [(.int (1 : Int32))]))
      refine own_go (fun t k => XS.goto X69.here hx rfl (pc0 := 143) (pc' := 147) rfl (hb hby at_143) (by decide) (by decide) k) ?_
      show own_G p e below (K_0 Z p0 p1 zc h0 n0 s) (T69.setTop (mkF m 147 #[.val (.int p0), .val (.int p1), .val (.int (0 : Int32)), .val (.int (1 : Int32)), .val (.ref a49), .val (.int (0 : Int32)), .val (.int (0 : Int32)), .val (.int (1 : Int32)), .val (.int (1 : Int32))] [(.int (1 : Int32))]))
      exact own_retNW X69 hS67 (by rw [e69]; exact hk67) hx Bd.notSynchronized (t := .boolean) (z' := (1 : Int32)) Bd.returns (by simp) (hb hby at_147) rfl (fun U hU hV hF => ⟨_, _, rfl, ⟨rfl, N69⟩, (by rw [hU, e69, hV, hh]; exact CHr.trans R67 (CHv.at X69 hZ67 hEL R67.1)), hF.1, hF.2.1, hF.2.2.1, hF.2.2.2.mono (by decide) (by decide)⟩)
  · skip
    refine own_go (fun t k => XS.ifNo X0.here hx rfl (hb hby at_3) rfl ((if0 _ _).trans (feq hc3_1).1) k) ?_
    show own_G p e below (K_0 Z p0 p1 zc h0 n0 s) (s₁.setTop (mkF m 6 #[.val (.int p0), .val (.int p1), .unset, .unset, .unset, .unset, .unset, .unset, .unset] []))
    refine own_go (fun t k => XS.iconst X0.here hx rfl (hb hby at_6) k) ?_
    show own_G p e below (K_0 Z p0 p1 zc h0 n0 s) (s₁.setTop (mkF m 7 #[.val (.int p0), .val (.int p1), .unset, .unset, .unset, .unset, .unset, .unset, .unset] [(.int (1 : Int32))]))
    refine own_go (fun t k => XS.goto X0.here hx rfl (pc0 := 7) (pc' := 11) rfl (hb hby at_7) (by decide) (by decide) k) ?_
    show own_G p e below (K_0 Z p0 p1 zc h0 n0 s) (s₁.setTop (mkF m 11 #[.val (.int p0), .val (.int p1), .unset, .unset, .unset, .unset, .unset, .unset, .unset] [(.int (1 : Int32))]))
    refine own_go (fun t k => XS.istoreN X0.here hx rfl (hb hby at_11) rfl (l' := #[.val (.int p0), .val (.int p1), .val (.int (1 : Int32)), .unset, .unset, .unset, .unset, .unset, .unset]) rfl k) ?_
    show own_G p e below (K_0 Z p0 p1 zc h0 n0 s) (s₁.setTop (mkF m 12 #[.val (.int p0), .val (.int p1), .val (.int (1 : Int32)), .unset, .unset, .unset, .unset, .unset, .unset] []))
    refine own_go (fun t k => XS.iloadN X0.here hx rfl (hb hby at_12) rfl k) ?_
    show own_G p e below (K_0 Z p0 p1 zc h0 n0 s) (s₁.setTop (mkF m 13 #[.val (.int p0), .val (.int p1), .val (.int (1 : Int32)), .unset, .unset, .unset, .unset, .unset, .unset] [(.int p1)]))
    refine own_go (fun t k => XS.iconst X0.here hx rfl (hb hby at_13) k) ?_
    show own_G p e below (K_0 Z p0 p1 zc h0 n0 s) (s₁.setTop (mkF m 14 #[.val (.int p0), .val (.int p1), .val (.int (1 : Int32)), .unset, .unset, .unset, .unset, .unset, .unset] [(.int (1 : Int32)), (.int p1)]))
    refine own_go (fun t k => XS.iand X0.here hx rfl (hb hby at_14) rfl k) ?_
    show own_G p e below (K_0 Z p0 p1 zc h0 n0 s) (s₁.setTop (mkF m 15 #[.val (.int p0), .val (.int p1), .val (.int (1 : Int32)), .unset, .unset, .unset, .unset, .unset, .unset] [(.int (p1 &&& (1 : Int32)))]))
    by_cases hc15_75 : (p1 &&& (1 : Int32)) = (0 : Int32)
    · skip
      refine own_go (fun t k => XS.ifYes X0.here hx rfl (pc0 := 15) (pc' := 22) rfl (hb hby at_15) rfl ((if0 _ _).trans (teq hc15_75).1) (by decide) (by decide) k) ?_
      show own_G p e below (K_0 Z p0 p1 zc h0 n0 s) (s₁.setTop (mkF m 22 #[.val (.int p0), .val (.int p1), .val (.int (1 : Int32)), .unset, .unset, .unset, .unset, .unset, .unset] []))
      refine own_go (fun t k => XS.iconst X0.here hx rfl (hb hby at_22) k) ?_
      show own_G p e below (K_0 Z p0 p1 zc h0 n0 s) (s₁.setTop (mkF m 23 #[.val (.int p0), .val (.int p1), .val (.int (1 : Int32)), .unset, .unset, .unset, .unset, .unset, .unset] [(.int (0 : Int32))]))
      refine own_go (fun t k => XS.istoreN X0.here hx rfl (hb hby at_23) rfl (l' := #[.val (.int p0), .val (.int p1), .val (.int (1 : Int32)), .val (.int (0 : Int32)), .unset, .unset, .unset, .unset, .unset]) rfl k) ?_
      show own_G p e below (K_0 Z p0 p1 zc h0 n0 s) (s₁.setTop (mkF m 24 #[.val (.int p0), .val (.int p1), .val (.int (1 : Int32)), .val (.int (0 : Int32)), .unset, .unset, .unset, .unset, .unset] []))
      obtain ⟨T76, h76, X76, e76, E76, A76, D76, -, st76⟩ := newO X0 hx hZ hown (hw _ (List.mem_of_getElem? (i := 0) rfl)) (hw _ (List.mem_of_getElem? (i := 1) rfl)) (hw _ (List.mem_of_getElem? (i := 2) rfl)) e0 (g := (mkF m 24 #[.val (.int p0), .val (.int p1), .val (.int (1 : Int32)), .val (.int (0 : Int32)), .unset, .unset, .unset, .unset, .unset] [])) rfl (hb hby at_24) (by decide) (by decide)
      obtain ⟨b76, g76⟩ : ∃ z, z = h0.size := ⟨_, rfl⟩
      rw [← g76] at A76 D76 st76
      refine own_go st76 ?_
      have g_b76 : n0 ≤ b76 := Nat.le_trans Z0 (Nat.le_of_eq g76.symm)
      have R77 := CHr.trans R0 (CHr.ext E76 R0.1)
      have hk77 := Nat.le_trans hk0 E76.1
      have Z78 : n0 ≤ h76.size := Nat.le_trans Z0 E76.1
      have F76_releases : Fld Z h76 b76 "com/example/lodepath/lodepath/Serves" "releases" "Z" (.int (0 : Int32)) := D76 (Or.inr (hw _ (List.mem_of_getElem? (i := 15) rfl))) (ty := .boolean) (by decide)
      have F76_snapshots : Fld Z h76 b76 "com/example/lodepath/lodepath/Serves" "snapshots" "Z" (.int (0 : Int32)) := D76 (Or.inr (hw _ (List.mem_of_getElem? (i := 17) rfl))) (ty := .boolean) (by decide)
      show own_G p e below (K_0 Z p0 p1 zc h0 n0 s) (T76.setTop (mkF m 27 #[.val (.int p0), .val (.int p1), .val (.int (1 : Int32)), .val (.int (0 : Int32)), .unset, .unset, .unset, .unset, .unset] [(.ref b76)]))
      refine own_go (fun t k => XS.dup X76.here hx rfl (hb hby at_27) rfl rfl k) ?_
      show own_G p e below (K_0 Z p0 p1 zc h0 n0 s) (T76.setTop (mkF m 28 #[.val (.int p0), .val (.int p1), .val (.int (1 : Int32)), .val (.int (0 : Int32)), .unset, .unset, .unset, .unset, .unset] [(.ref b76), (.ref b76)]))
      refine own_go (fun t k => XS.iloadN X76.here hx rfl (hb hby at_28) rfl k) ?_
      show own_G p e below (K_0 Z p0 p1 zc h0 n0 s) (T76.setTop (mkF m 29 #[.val (.int p0), .val (.int p1), .val (.int (1 : Int32)), .val (.int (0 : Int32)), .unset, .unset, .unset, .unset, .unset] [(.int (1 : Int32)), (.ref b76), (.ref b76)]))
      refine own_go (fun t k => XS.iloadN X76.here hx rfl (hb hby at_29) rfl k) ?_
      show own_G p e below (K_0 Z p0 p1 zc h0 n0 s) (T76.setTop (mkF m 30 #[.val (.int p0), .val (.int p1), .val (.int (1 : Int32)), .val (.int (0 : Int32)), .unset, .unset, .unset, .unset, .unset] [(.int (0 : Int32)), (.int (1 : Int32)), (.ref b76), (.ref b76)]))
      obtain ⟨_, _, ⟨T79, L79, k79, n79⟩, -, X79, ⟨Lc79, hQ79, l79, y79, z79⟩, st79⟩ := X76.specialBack hx (y := (⟨"com/example/lodepath/lodepath/Serves", "<init>", "(ZZ)V"⟩ : MethodName)) rfl hown (mvT hZ (hw _ (List.mem_of_getElem? (i := 3) rfl))) (mvT hZ (hw _ (List.mem_of_getElem? (i := 4) rfl))) (mvT hZ (hw _ (List.mem_of_getElem? (i := 5) rfl))) (by decide) (backOf (W := 1) (rm_ct l Z a0 hw [] b76 (1 : Int32) (0 : Int32) h76 n0 Z78 F76_releases F76_snapshots A76 g_b76) hZ (hw _ (List.mem_of_getElem? (i := 5) rfl)) (hw _ (List.mem_of_getElem? (i := 2) rfl)) (by decide) (by decide)) (g := (mkF m 30 #[.val (.int p0), .val (.int p1), .val (.int (1 : Int32)), .val (.int (0 : Int32)), .unset, .unset, .unset, .unset, .unset] [(.int (0 : Int32)), (.int (1 : Int32)), (.ref b76), (.ref b76)])) rfl (by rw [hml]; rfl) (Steps.refl _) (a := b76) (argsL := [(.int (1 : Int32)), (.int (0 : Int32))]) (rest := [(.ref b76)]) (lenOf own_pd1 rfl) rfl (by show 2 * 0 + _ ≤ _; exact Nat.le_of_eq rfl) (hb hby at_30) (fun _ _ => ⟨rfl, e76, (by decide : 1 + 0 ≤ _), (by decide : 2 + 0 ≤ _)⟩)
      dsimp only [Pt.U, Pt.locs, Pt.cells, Pt.slots] at X79 l79 y79 z79 st79 hQ79
      subst l79 y79 z79
      obtain ⟨rfl, N79q, K79q, E79q, F79_0, F79_1⟩ := hQ79
      have N79 := Fr.app N0 N79q
      obtain ⟨h79, e79⟩ : ∃ z, T79.heap = z := ⟨_, rfl⟩
      rw [e79] at K79q E79q F79_0 F79_1
      have R80 := CHr.trans R77 (CHr.keep K79q (allS (Safe.exa hZ.alike A76 (by decide) (by decide)) all0) R77.1)
      have hk80 := Nat.le_trans hk77 K79q.1
      have Z81 : n0 ≤ h79.size := Nat.le_trans Z78 K79q.1
      have G79_releases : Fld Z h79 b76 "com/example/lodepath/lodepath/Serves" "releases" "Z" (.int (1 : Int32)) := F79_0
      have G79_snapshots : Fld Z h79 b76 "com/example/lodepath/lodepath/Serves" "snapshots" "Z" (.int (0 : Int32)) := F79_1
      refine own_tr st79 ?_
      show own_G p e below (K_0 Z p0 p1 zc h0 n0 s) (T79.setTop (mkF m 33 #[.val (.int p0), .val (.int p1), .val (.int (1 : Int32)), .val (.int (0 : Int32)), .unset, .unset, .unset, .unset, .unset] [(.ref b76)]))
      obtain ⟨cq82, kq82, q82a, q82b, q82c⟩ := isOf hZ e79 E79q
      obtain ⟨_, _, ⟨T82, L82, k82, n82⟩, -, Y82, hs82, hg82, ⟨Lc82, hQ82, l82, y82, z82, C82⟩, st82⟩ := X79.virtualBackS hx (y := (⟨"com/example/lodepath/lodepath/Serves", "toString", "()Ljava/lang/String;"⟩ : MethodName)) (z := (⟨"com/example/lodepath/lodepath/Serves", "toString", "()Ljava/lang/String;"⟩ : MethodName)) hown (mvT hZ (hw _ (List.mem_of_getElem? (i := 18) rfl))) (mvT hZ (hw _ (List.mem_of_getElem? (i := 19) rfl))) (notFace_of_selects (args := #[]) (mvT hZ (hw _ (List.mem_of_getElem? (i := 21) rfl)))) (mvT hZ (hw _ (List.mem_of_getElem? (i := 21) rfl))) (mvT hZ (hw _ (List.mem_of_getElem? (i := 20) rfl))) (by decide) (backOfSH (W := 0) (rm_ts10 l Z a0 hw [] b76 h79 n0 Z81 G79_releases G79_snapshots) hZ (hw _ (List.mem_of_getElem? (i := 22) rfl)) (hw _ (List.mem_of_getElem? (i := 2) rfl)) (by decide) (by decide) hEL R80.1) q82a q82c (g := (mkF m 33 #[.val (.int p0), .val (.int p1), .val (.int (1 : Int32)), .val (.int (0 : Int32)), .unset, .unset, .unset, .unset, .unset] [(.ref b76)])) rfl (by rw [hml]; rfl) (Steps.refl _) (argsL := []) (rest := []) (lenOf own_pd2 rfl) rfl (by show 2 * 0 + _ ≤ _; exact Nat.le_of_eq rfl) (hb hby at_33) (fun _ _ => ⟨rfl, e79, (by decide : 1 + 2 ≤ _), (by decide : 2 + 76 ≤ _)⟩)
      dsimp only [Pt.U, Pt.locs, Pt.cells, Pt.slots] at Y82 hs82 hg82 l82 y82 z82 C82 st82 hQ82
      subst l82 y82 z82
      obtain ⟨X82, hS82, hZ82, hown82⟩ := rebS hS0 (Nat.le_trans hk80 (Nat.le_of_eq (congrArg Array.size e79).symm)) Y82 hs82 hg82 hZ hown
      obtain ⟨h82, e82⟩ : ∃ z, T82.heap = z := ⟨_, rfl⟩
      rw [e82] at hQ82 hS82 C82
      have R82 := CHr.trans R80 C82
      have hk82 : h82.size ≤ h82.size := Nat.le_refl _
      obtain ⟨a82, b82, kb82, rfl, N82q, E82, A82, Fc82, Fv82, V82⟩ := hQ82
      have N82 := Fr.app N79 N82q
      have Z83 : n0 ≤ h82.size := Nat.le_trans Z81 E82.1
      refine own_tr st82 ?_
      show own_G p e below (K_0 Z p0 p1 zc h0 n0 s) (T82.setTop (mkF m 36 #[.val (.int p0), .val (.int p1), .val (.int (1 : Int32)), .val (.int (0 : Int32)), .unset, .unset, .unset, .unset, .unset] [(.ref a82)]))
      refine own_go (fun t k => XS.astore X82.here hx rfl (hb hby at_36) rfl rfl (l' := #[.val (.int p0), .val (.int p1), .val (.int (1 : Int32)), .val (.int (0 : Int32)), .val (.ref a82), .unset, .unset, .unset, .unset]) rfl k) ?_
      show own_G p e below (K_0 Z p0 p1 zc h0 n0 s) (T82.setTop (mkF m 38 #[.val (.int p0), .val (.int p1), .val (.int (1 : Int32)), .val (.int (0 : Int32)), .val (.ref a82), .unset, .unset, .unset, .unset] []))
      refine own_go (fun t k => XS.aload X82.here hx rfl (hb hby at_38) rfl rfl k) ?_
      show own_G p e below (K_0 Z p0 p1 zc h0 n0 s) (T82.setTop (mkF m 40 #[.val (.int p0), .val (.int p1), .val (.int (1 : Int32)), .val (.int (0 : Int32)), .val (.ref a82), .unset, .unset, .unset, .unset] [(.ref a82)]))
      refine own_go (fun t k => XS.ifnonnullYes X82.here hx rfl (pc0 := 40) (pc' := 45) rfl (hb hby at_40) rfl (by decide) (by decide) k) ?_
      show own_G p e below (K_0 Z p0 p1 zc h0 n0 s) (T82.setTop (mkF m 45 #[.val (.int p0), .val (.int p1), .val (.int (1 : Int32)), .val (.int (0 : Int32)), .val (.ref a82), .unset, .unset, .unset, .unset] []))
      refine own_go (fun t k => XS.aload X82.here hx rfl (hb hby at_45) rfl rfl k) ?_
      show own_G p e below (K_0 Z p0 p1 zc h0 n0 s) (T82.setTop (mkF m 47 #[.val (.int p0), .val (.int p1), .val (.int (1 : Int32)), .val (.int (0 : Int32)), .val (.ref a82), .unset, .unset, .unset, .unset] [(.ref a82)]))
      obtain ⟨a84, T84, h84, k84, b84, kb84, X84, e84, E84, hS84, hk84, hZ84, hown84, A84, Fc84, Fv84, V84, la84, lb84, C84, -, Sf84, st84⟩ := ldcCH (EL := consts_1) X82 hx hZ82 hown82 (hw _ (List.mem_of_getElem? (i := 31) rfl)) wSt e82 hS82 hk82 hEL (List.mem_of_getElem? (i := 4) rfl) R82.1 (vs := (own_bs "releases,snapshots")) (z := (18 : Int32)) (own_lit (by decide +kernel)) (by decide) (by decide +kernel) (g := (mkF m 47 #[.val (.int p0), .val (.int p1), .val (.int (1 : Int32)), .val (.int (0 : Int32)), .val (.ref a82), .unset, .unset, .unset, .unset] [(.ref a82)])) rfl (hb hby at_47) (n := 72) (by decide +kernel) (by decide) (by decide) (by decide)
      refine own_go st84 ?_
      have R84 := CHr.trans R82 C84
      have Z85 : n0 ≤ h84.size := Nat.le_trans Z83 E84.1
      show own_G p e below (K_0 Z p0 p1 zc h0 n0 s) (T84.setTop (mkF m 49 #[.val (.int p0), .val (.int p1), .val (.int (1 : Int32)), .val (.int (0 : Int32)), .val (.ref a82), .unset, .unset, .unset, .unset] [(.ref a84), (.ref a82)]))
      have Q87 := (A82.ext E84)
      have Q88 := (Fv82.ext E84)
      have Q89 := (Fc82.ext E84)
      have Q90 := (V82.ext E84)
      have Q91 := (((own_stakeep (S0_.ext E76) K79q (allS (fun cl hc => A76.nostat cl hc) all0)).ext E82).ext E84)
      obtain ⟨cq86, kq86, q86a, q86b, q86c⟩ := isOf hZ84 e84 Q87
      obtain ⟨_, _, ⟨T86, L86, k86, n86⟩, -, X86, ⟨Lc86, hQ86, l86, y86, z86⟩, st86⟩ := X84.virtualBack hx (y := (⟨"java/lang/String", "equals", "(Ljava/lang/Object;)Z"⟩ : MethodName)) (z := (⟨"java/lang/String", "equals", "(Ljava/lang/Object;)Z"⟩ : MethodName)) hown84 (mvT hZ84 (hw _ (List.mem_of_getElem? (i := 32) rfl))) (mvT hZ84 (hw _ (List.mem_of_getElem? (i := 33) rfl))) (notFace_of_selects (args := #[]) (mvT hZ84 (hw _ (List.mem_of_getElem? (i := 35) rfl)))) (mvT hZ84 (hw _ (List.mem_of_getElem? (i := 35) rfl))) (mvT hZ84 (hw _ (List.mem_of_getElem? (i := 34) rfl))) (by decide) (StrChars.Road.eqW (W := 0) (cs := own_ch "releases") (ds := own_ch "releases,snapshots") hZ84 heq (kI := 4) (hw _ (List.mem_of_getElem? (i := 25) rfl)) Q87 Q88 Q89 Q90 (own_codA "releases" (z := (8 : Int32)) (by decide +kernel) (by decide +kernel)) (by decide +kernel) (by decide +kernel) A84 Fv84 Fc84 V84 (own_codA "releases,snapshots" (z := (18 : Int32)) (by decide +kernel) (by decide +kernel)) (by decide +kernel) (by decide +kernel) Q91 hzc (by decide) (by decide)) q86a q86c (g := (mkF m 49 #[.val (.int p0), .val (.int p1), .val (.int (1 : Int32)), .val (.int (0 : Int32)), .val (.ref a82), .unset, .unset, .unset, .unset] [(.ref a84), (.ref a82)])) rfl (by rw [hml]; rfl) (Steps.refl _) (argsL := [(.ref a84)]) (rest := []) (lenOf own_pd3 rfl) rfl (by show 2 * 0 + _ ≤ _; exact Nat.le_of_eq rfl) (hb hby at_49) (fun _ _ => ⟨rfl, e84, (by decide : 5 + 0 ≤ _), (by decide : 154 + 0 ≤ _)⟩)
      dsimp only [Pt.U, Pt.locs, Pt.cells, Pt.slots] at X86 l86 y86 z86 st86 hQ86
      subst l86 y86 z86
      obtain ⟨hE86, rfl, e86⟩ := hQ86
      have N86 := Fr.app N82 (Fr.nil n0)
      obtain ⟨rfl, -⟩ := Or.resolve_left hE86 (fun h => absurd h.2 (by decide +kernel))
      refine own_tr st86 ?_
      show own_G p e below (K_0 Z p0 p1 zc h0 n0 s) (T86.setTop (mkF m 52 #[.val (.int p0), .val (.int p1), .val (.int (1 : Int32)), .val (.int (0 : Int32)), .val (.ref a82), .unset, .unset, .unset, .unset] [(.int (0 : Int32))]))
      refine own_go (fun t k => XS.istore X86.here hx rfl (hb hby at_52) rfl (l' := #[.val (.int p0), .val (.int p1), .val (.int (1 : Int32)), .val (.int (0 : Int32)), .val (.ref a82), .val (.int (0 : Int32)), .unset, .unset, .unset]) rfl k) ?_
      show own_G p e below (K_0 Z p0 p1 zc h0 n0 s) (T86.setTop (mkF m 54 #[.val (.int p0), .val (.int p1), .val (.int (1 : Int32)), .val (.int (0 : Int32)), .val (.ref a82), .val (.int (0 : Int32)), .unset, .unset, .unset] []))
      refine own_go (fun t k => XS.iload X86.here hx rfl (hb hby at_54) rfl k) ?_
      show own_G p e below (K_0 Z p0 p1 zc h0 n0 s) (T86.setTop (mkF m 56 #[.val (.int p0), .val (.int p1), .val (.int (1 : Int32)), .val (.int (0 : Int32)), .val (.ref a82), .val (.int (0 : Int32)), .unset, .unset, .unset] [(.int (0 : Int32))]))
      refine own_go (fun t k => XS.ifNo X86.here hx rfl (hb hby at_56) rfl ((if0 _ _).trans (by decide)) k) ?_
      show own_G p e below (K_0 Z p0 p1 zc h0 n0 s) (T86.setTop (mkF m 59 #[.val (.int p0), .val (.int p1), .val (.int (1 : Int32)), .val (.int (0 : Int32)), .val (.ref a82), .val (.int (0 : Int32)), .unset, .unset, .unset] []))
      refine own_go (fun t k => XS.aload X86.here hx rfl (hb hby at_59) rfl rfl k) ?_
      show own_G p e below (K_0 Z p0 p1 zc h0 n0 s) (T86.setTop (mkF m 61 #[.val (.int p0), .val (.int p1), .val (.int (1 : Int32)), .val (.int (0 : Int32)), .val (.ref a82), .val (.int (0 : Int32)), .unset, .unset, .unset] [(.ref a82)]))
      obtain ⟨a92, T92, h92, k92, b92, kb92, X92, e92, E92, hS92, hk92, hZ92, hown92, A92, Fc92, Fv92, V92, la92, lb92, C92, -, Sf92, st92⟩ := ldcCH (EL := consts_1) X86 hx hZ84 hown84 (hw _ (List.mem_of_getElem? (i := 46) rfl)) wSt e86 hS84 hk84 hEL (List.mem_of_getElem? (i := 5) rfl) R84.1 (vs := (own_bs "releases")) (z := (8 : Int32)) (own_lit (by decide +kernel)) (by decide) (by decide +kernel) (g := (mkF m 61 #[.val (.int p0), .val (.int p1), .val (.int (1 : Int32)), .val (.int (0 : Int32)), .val (.ref a82), .val (.int (0 : Int32)), .unset, .unset, .unset] [(.ref a82)])) rfl (hb hby at_61) (n := 32) (by decide +kernel) (by decide) (by decide) (by decide)
      refine own_go st92 ?_
      have R92 := CHr.trans R84 C92
      have Z93 : n0 ≤ h92.size := Nat.le_trans Z85 E92.1
      show own_G p e below (K_0 Z p0 p1 zc h0 n0 s) (T92.setTop (mkF m 63 #[.val (.int p0), .val (.int p1), .val (.int (1 : Int32)), .val (.int (0 : Int32)), .val (.ref a82), .val (.int (0 : Int32)), .unset, .unset, .unset] [(.ref a92), (.ref a82)]))
      have Q95 := (Q87.ext E92)
      have Q96 := (Q88.ext E92)
      have Q97 := (Q89.ext E92)
      have Q98 := (Q90.ext E92)
      have Q99 := (Q91.ext E92)
      obtain ⟨cq94, kq94, q94a, q94b, q94c⟩ := isOf hZ92 e92 Q95
      obtain ⟨_, _, ⟨T94, L94, k94, n94⟩, -, X94, ⟨Lc94, hQ94, l94, y94, z94⟩, st94⟩ := X92.virtualBack hx (y := (⟨"java/lang/String", "equals", "(Ljava/lang/Object;)Z"⟩ : MethodName)) (z := (⟨"java/lang/String", "equals", "(Ljava/lang/Object;)Z"⟩ : MethodName)) hown92 (mvT hZ92 (hw _ (List.mem_of_getElem? (i := 32) rfl))) (mvT hZ92 (hw _ (List.mem_of_getElem? (i := 33) rfl))) (notFace_of_selects (args := #[]) (mvT hZ92 (hw _ (List.mem_of_getElem? (i := 35) rfl)))) (mvT hZ92 (hw _ (List.mem_of_getElem? (i := 35) rfl))) (mvT hZ92 (hw _ (List.mem_of_getElem? (i := 34) rfl))) (by decide) (StrChars.Road.eqW (W := 0) (cs := own_ch "releases") (ds := own_ch "releases") hZ92 heq (kI := 4) (hw _ (List.mem_of_getElem? (i := 25) rfl)) Q95 Q96 Q97 Q98 (own_codA "releases" (z := (8 : Int32)) (by decide +kernel) (by decide +kernel)) (by decide +kernel) (by decide +kernel) A92 Fv92 Fc92 V92 (own_codA "releases" (z := (8 : Int32)) (by decide +kernel) (by decide +kernel)) (by decide +kernel) (by decide +kernel) Q99 hzc (by decide) (by decide)) q94a q94c (g := (mkF m 63 #[.val (.int p0), .val (.int p1), .val (.int (1 : Int32)), .val (.int (0 : Int32)), .val (.ref a82), .val (.int (0 : Int32)), .unset, .unset, .unset] [(.ref a92), (.ref a82)])) rfl (by rw [hml]; rfl) (Steps.refl _) (argsL := [(.ref a92)]) (rest := []) (lenOf own_pd3 rfl) rfl (by show 2 * 0 + _ ≤ _; exact Nat.le_of_eq rfl) (hb hby at_63) (fun _ _ => ⟨rfl, e92, (by decide : 7 + 0 ≤ _), (by decide : 190 + 0 ≤ _)⟩)
      dsimp only [Pt.U, Pt.locs, Pt.cells, Pt.slots] at X94 l94 y94 z94 st94 hQ94
      subst l94 y94 z94
      obtain ⟨hE94, rfl, e94⟩ := hQ94
      have N94 := Fr.app N86 (Fr.nil n0)
      obtain ⟨rfl, -⟩ := Or.resolve_right hE94 (fun h => h.2 rfl)
      refine own_tr st94 ?_
      show own_G p e below (K_0 Z p0 p1 zc h0 n0 s) (T94.setTop (mkF m 66 #[.val (.int p0), .val (.int p1), .val (.int (1 : Int32)), .val (.int (0 : Int32)), .val (.ref a82), .val (.int (0 : Int32)), .unset, .unset, .unset] [(.int (1 : Int32))]))
      refine own_go (fun t k => XS.ifNo X94.here hx rfl (hb hby at_66) rfl ((if0 _ _).trans (by decide)) k) ?_
      show own_G p e below (K_0 Z p0 p1 zc h0 n0 s) (T94.setTop (mkF m 69 #[.val (.int p0), .val (.int p1), .val (.int (1 : Int32)), .val (.int (0 : Int32)), .val (.ref a82), .val (.int (0 : Int32)), .unset, .unset, .unset] []))
      refine own_go (fun t k => XS.iconst X94.here hx rfl (hb hby at_69) k) ?_
      show own_G p e below (K_0 Z p0 p1 zc h0 n0 s) (T94.setTop (mkF m 70 #[.val (.int p0), .val (.int p1), .val (.int (1 : Int32)), .val (.int (0 : Int32)), .val (.ref a82), .val (.int (0 : Int32)), .unset, .unset, .unset] [(.int (1 : Int32))]))
      refine own_go (fun t k => XS.goto X94.here hx rfl (pc0 := 70) (pc' := 74) rfl (hb hby at_70) (by decide) (by decide) k) ?_
      show own_G p e below (K_0 Z p0 p1 zc h0 n0 s) (T94.setTop (mkF m 74 #[.val (.int p0), .val (.int p1), .val (.int (1 : Int32)), .val (.int (0 : Int32)), .val (.ref a82), .val (.int (0 : Int32)), .unset, .unset, .unset] [(.int (1 : Int32))]))
      refine own_go (fun t k => XS.istore X94.here hx rfl (hb hby at_74) rfl (l' := #[.val (.int p0), .val (.int p1), .val (.int (1 : Int32)), .val (.int (0 : Int32)), .val (.ref a82), .val (.int (0 : Int32)), .val (.int (1 : Int32)), .unset, .unset]) rfl k) ?_
      show own_G p e below (K_0 Z p0 p1 zc h0 n0 s) (T94.setTop (mkF m 76 #[.val (.int p0), .val (.int p1), .val (.int (1 : Int32)), .val (.int (0 : Int32)), .val (.ref a82), .val (.int (0 : Int32)), .val (.int (1 : Int32)), .unset, .unset] []))
      refine own_go (fun t k => XS.iload X94.here hx rfl (hb hby at_76) rfl k) ?_
      show own_G p e below (K_0 Z p0 p1 zc h0 n0 s) (T94.setTop (mkF m 78 #[.val (.int p0), .val (.int p1), .val (.int (1 : Int32)), .val (.int (0 : Int32)), .val (.ref a82), .val (.int (0 : Int32)), .val (.int (1 : Int32)), .unset, .unset] [(.int (0 : Int32))]))
      refine own_go (fun t k => XS.ifNo X94.here hx rfl (hb hby at_78) rfl ((if0 _ _).trans (by decide)) k) ?_
      show own_G p e below (K_0 Z p0 p1 zc h0 n0 s) (T94.setTop (mkF m 81 #[.val (.int p0), .val (.int p1), .val (.int (1 : Int32)), .val (.int (0 : Int32)), .val (.ref a82), .val (.int (0 : Int32)), .val (.int (1 : Int32)), .unset, .unset] []))
      refine own_go (fun t k => XS.aload X94.here hx rfl (hb hby at_81) rfl rfl k) ?_
      show own_G p e below (K_0 Z p0 p1 zc h0 n0 s) (T94.setTop (mkF m 83 #[.val (.int p0), .val (.int p1), .val (.int (1 : Int32)), .val (.int (0 : Int32)), .val (.ref a82), .val (.int (0 : Int32)), .val (.int (1 : Int32)), .unset, .unset] [(.ref a82)]))
      obtain ⟨a100, T100, h100, k100, b100, kb100, X100, e100, E100, hS100, hk100, hZ100, hown100, A100, Fc100, Fv100, V100, la100, lb100, C100, -, Sf100, st100⟩ := ldcCH (EL := consts_1) X94 hx hZ92 hown92 (hw _ (List.mem_of_getElem? (i := 47) rfl)) wSt e94 hS92 hk92 hEL (List.mem_of_getElem? (i := 6) rfl) R92.1 (vs := (own_bs "snapshots")) (z := (9 : Int32)) (own_lit (by decide +kernel)) (by decide) (by decide +kernel) (g := (mkF m 83 #[.val (.int p0), .val (.int p1), .val (.int (1 : Int32)), .val (.int (0 : Int32)), .val (.ref a82), .val (.int (0 : Int32)), .val (.int (1 : Int32)), .unset, .unset] [(.ref a82)])) rfl (hb hby at_83) (n := 36) (by decide +kernel) (by decide) (by decide) (by decide)
      refine own_go st100 ?_
      have R100 := CHr.trans R92 C100
      have Z101 : n0 ≤ h100.size := Nat.le_trans Z93 E100.1
      show own_G p e below (K_0 Z p0 p1 zc h0 n0 s) (T100.setTop (mkF m 85 #[.val (.int p0), .val (.int p1), .val (.int (1 : Int32)), .val (.int (0 : Int32)), .val (.ref a82), .val (.int (0 : Int32)), .val (.int (1 : Int32)), .unset, .unset] [(.ref a100), (.ref a82)]))
      have Q103 := (Q95.ext E100)
      have Q104 := (Q96.ext E100)
      have Q105 := (Q97.ext E100)
      have Q106 := (Q98.ext E100)
      have Q107 := (Q99.ext E100)
      obtain ⟨cq102, kq102, q102a, q102b, q102c⟩ := isOf hZ100 e100 Q103
      obtain ⟨_, _, ⟨T102, L102, k102, n102⟩, -, X102, ⟨Lc102, hQ102, l102, y102, z102⟩, st102⟩ := X100.virtualBack hx (y := (⟨"java/lang/String", "equals", "(Ljava/lang/Object;)Z"⟩ : MethodName)) (z := (⟨"java/lang/String", "equals", "(Ljava/lang/Object;)Z"⟩ : MethodName)) hown100 (mvT hZ100 (hw _ (List.mem_of_getElem? (i := 32) rfl))) (mvT hZ100 (hw _ (List.mem_of_getElem? (i := 33) rfl))) (notFace_of_selects (args := #[]) (mvT hZ100 (hw _ (List.mem_of_getElem? (i := 35) rfl)))) (mvT hZ100 (hw _ (List.mem_of_getElem? (i := 35) rfl))) (mvT hZ100 (hw _ (List.mem_of_getElem? (i := 34) rfl))) (by decide) (StrChars.Road.eqW (W := 0) (cs := own_ch "releases") (ds := own_ch "snapshots") hZ100 heq (kI := 4) (hw _ (List.mem_of_getElem? (i := 25) rfl)) Q103 Q104 Q105 Q106 (own_codA "releases" (z := (8 : Int32)) (by decide +kernel) (by decide +kernel)) (by decide +kernel) (by decide +kernel) A100 Fv100 Fc100 V100 (own_codA "snapshots" (z := (9 : Int32)) (by decide +kernel) (by decide +kernel)) (by decide +kernel) (by decide +kernel) Q107 hzc (by decide) (by decide)) q102a q102c (g := (mkF m 85 #[.val (.int p0), .val (.int p1), .val (.int (1 : Int32)), .val (.int (0 : Int32)), .val (.ref a82), .val (.int (0 : Int32)), .val (.int (1 : Int32)), .unset, .unset] [(.ref a100), (.ref a82)])) rfl (by rw [hml]; rfl) (Steps.refl _) (argsL := [(.ref a100)]) (rest := []) (lenOf own_pd3 rfl) rfl (by show 2 * 0 + _ ≤ _; exact Nat.le_of_eq rfl) (hb hby at_85) (fun _ _ => ⟨rfl, e100, (by decide : 9 + 0 ≤ _), (by decide : 230 + 0 ≤ _)⟩)
      dsimp only [Pt.U, Pt.locs, Pt.cells, Pt.slots] at X102 l102 y102 z102 st102 hQ102
      subst l102 y102 z102
      obtain ⟨hE102, rfl, e102⟩ := hQ102
      have N102 := Fr.app N94 (Fr.nil n0)
      obtain ⟨rfl, -⟩ := Or.resolve_left hE102 (fun h => absurd h.2 (by decide +kernel))
      refine own_tr st102 ?_
      show own_G p e below (K_0 Z p0 p1 zc h0 n0 s) (T102.setTop (mkF m 88 #[.val (.int p0), .val (.int p1), .val (.int (1 : Int32)), .val (.int (0 : Int32)), .val (.ref a82), .val (.int (0 : Int32)), .val (.int (1 : Int32)), .unset, .unset] [(.int (0 : Int32))]))
      refine own_go (fun t k => XS.ifYes X102.here hx rfl (pc0 := 88) (pc' := 95) rfl (hb hby at_88) rfl ((if0 _ _).trans (by decide)) (by decide) (by decide) k) ?_
      show own_G p e below (K_0 Z p0 p1 zc h0 n0 s) (T102.setTop (mkF m 95 #[.val (.int p0), .val (.int p1), .val (.int (1 : Int32)), .val (.int (0 : Int32)), .val (.ref a82), .val (.int (0 : Int32)), .val (.int (1 : Int32)), .unset, .unset] []))
      refine own_go (fun t k => XS.iconst X102.here hx rfl (hb hby at_95) k) ?_
      show own_G p e below (K_0 Z p0 p1 zc h0 n0 s) (T102.setTop (mkF m 96 #[.val (.int p0), .val (.int p1), .val (.int (1 : Int32)), .val (.int (0 : Int32)), .val (.ref a82), .val (.int (0 : Int32)), .val (.int (1 : Int32)), .unset, .unset] [(.int (0 : Int32))]))
      refine own_go (fun t k => XS.istore X102.here hx rfl (hb hby at_96) rfl (l' := #[.val (.int p0), .val (.int p1), .val (.int (1 : Int32)), .val (.int (0 : Int32)), .val (.ref a82), .val (.int (0 : Int32)), .val (.int (1 : Int32)), .val (.int (0 : Int32)), .unset]) rfl k) ?_
      show own_G p e below (K_0 Z p0 p1 zc h0 n0 s) (T102.setTop (mkF m 98 #[.val (.int p0), .val (.int p1), .val (.int (1 : Int32)), .val (.int (0 : Int32)), .val (.ref a82), .val (.int (0 : Int32)), .val (.int (1 : Int32)), .val (.int (0 : Int32)), .unset] []))
      refine own_go (fun t k => XS.iload X102.here hx rfl (hb hby at_98) rfl k) ?_
      show own_G p e below (K_0 Z p0 p1 zc h0 n0 s) (T102.setTop (mkF m 100 #[.val (.int p0), .val (.int p1), .val (.int (1 : Int32)), .val (.int (0 : Int32)), .val (.ref a82), .val (.int (0 : Int32)), .val (.int (1 : Int32)), .val (.int (0 : Int32)), .unset] [(.int (1 : Int32))]))
      refine own_go (fun t k => XS.ifYes X102.here hx rfl (pc0 := 100) (pc' := 118) rfl (hb hby at_100) rfl ((if0 _ _).trans (by decide)) (by decide) (by decide) k) ?_
      show own_G p e below (K_0 Z p0 p1 zc h0 n0 s) (T102.setTop (mkF m 118 #[.val (.int p0), .val (.int p1), .val (.int (1 : Int32)), .val (.int (0 : Int32)), .val (.ref a82), .val (.int (0 : Int32)), .val (.int (1 : Int32)), .val (.int (0 : Int32)), .unset] []))
      refine own_go (fun t k => XS.iconst X102.here hx rfl (hb hby at_118) k) ?_
      show own_G p e below (K_0 Z p0 p1 zc h0 n0 s) (T102.setTop (mkF m 119 #[.val (.int p0), .val (.int p1), .val (.int (1 : Int32)), .val (.int (0 : Int32)), .val (.ref a82), .val (.int (0 : Int32)), .val (.int (1 : Int32)), .val (.int (0 : Int32)), .unset] [(.int (1 : Int32))]))
      refine own_go (fun t k => XS.goto X102.here hx rfl (pc0 := 119) (pc' := 123) rfl (hb hby at_119) (by decide) (by decide) k) ?_
      show own_G p e below (K_0 Z p0 p1 zc h0 n0 s) (T102.setTop (mkF m 123 #[.val (.int p0), .val (.int p1), .val (.int (1 : Int32)), .val (.int (0 : Int32)), .val (.ref a82), .val (.int (0 : Int32)), .val (.int (1 : Int32)), .val (.int (0 : Int32)), .unset] [(.int (1 : Int32))]))
      refine own_go (fun t k => XS.istore X102.here hx rfl (hb hby at_123) rfl (l' := #[.val (.int p0), .val (.int p1), .val (.int (1 : Int32)), .val (.int (0 : Int32)), .val (.ref a82), .val (.int (0 : Int32)), .val (.int (1 : Int32)), .val (.int (0 : Int32)), .val (.int (1 : Int32))]) rfl k) ?_
      show own_G p e below (K_0 Z p0 p1 zc h0 n0 s) (T102.setTop (mkF m 125 #[.val (.int p0), .val (.int p1), .val (.int (1 : Int32)), .val (.int (0 : Int32)), .val (.ref a82), .val (.int (0 : Int32)), .val (.int (1 : Int32)), .val (.int (0 : Int32)), .val (.int (1 : Int32))] []))
      refine own_go (fun t k => XS.iload X102.here hx rfl (hb hby at_125) rfl k) ?_
      show own_G p e below (K_0 Z p0 p1 zc h0 n0 s) (T102.setTop (mkF m 127 #[.val (.int p0), .val (.int p1), .val (.int (1 : Int32)), .val (.int (0 : Int32)), .val (.ref a82), .val (.int (0 : Int32)), .val (.int (1 : Int32)), .val (.int (0 : Int32)), .val (.int (1 : Int32))] [(.int (1 : Int32))]))
      refine own_go (fun t k => XS.ifNo X102.here hx rfl (hb hby at_127) rfl ((if0 _ _).trans (by decide)) k) ?_
      show own_G p e below (K_0 Z p0 p1 zc h0 n0 s) (T102.setTop (mkF m 130 #[.val (.int p0), .val (.int p1), .val (.int (1 : Int32)), .val (.int (0 : Int32)), .val (.ref a82), .val (.int (0 : Int32)), .val (.int (1 : Int32)), .val (.int (0 : Int32)), .val (.int (1 : Int32))] []))
      refine own_go (fun t k => XS.iload X102.here hx rfl (hb hby at_130) rfl k) ?_
      show own_G p e below (K_0 Z p0 p1 zc h0 n0 s) (T102.setTop (mkF m 132 #[.val (.int p0), .val (.int p1), .val (.int (1 : Int32)), .val (.int (0 : Int32)), .val (.ref a82), .val (.int (0 : Int32)), .val (.int (1 : Int32)), .val (.int (0 : Int32)), .val (.int (1 : Int32))] [(.int (1 : Int32))]))
      refine own_go (fun t k => XS.iloadN X102.here hx rfl (hb hby at_132) rfl k) ?_
      show own_G p e below (K_0 Z p0 p1 zc h0 n0 s) (T102.setTop (mkF m 133 #[.val (.int p0), .val (.int p1), .val (.int (1 : Int32)), .val (.int (0 : Int32)), .val (.ref a82), .val (.int (0 : Int32)), .val (.int (1 : Int32)), .val (.int (0 : Int32)), .val (.int (1 : Int32))] [(.int (1 : Int32)), (.int (1 : Int32))]))
      refine own_go (fun t k => XS.icmpNo X102.here hx rfl (hb hby at_133) rfl (by decide) k) ?_
      show own_G p e below (K_0 Z p0 p1 zc h0 n0 s) (T102.setTop (mkF m 136 #[.val (.int p0), .val (.int p1), .val (.int (1 : Int32)), .val (.int (0 : Int32)), .val (.ref a82), .val (.int (0 : Int32)), .val (.int (1 : Int32)), .val (.int (0 : Int32)), .val (.int (1 : Int32))] []))
      refine own_go (fun t k => XS.iload X102.here hx rfl (hb hby at_136) rfl k) ?_
      show own_G p e below (K_0 Z p0 p1 zc h0 n0 s) (T102.setTop (mkF m 138 #[.val (.int p0), .val (.int p1), .val (.int (1 : Int32)), .val (.int (0 : Int32)), .val (.ref a82), .val (.int (0 : Int32)), .val (.int (1 : Int32)), .val (.int (0 : Int32)), .val (.int (1 : Int32))] [(.int (0 : Int32))]))
      refine own_go (fun t k => XS.iloadN X102.here hx rfl (hb hby at_138) rfl k) ?_
      show own_G p e below (K_0 Z p0 p1 zc h0 n0 s) (T102.setTop (mkF m 139 #[.val (.int p0), .val (.int p1), .val (.int (1 : Int32)), .val (.int (0 : Int32)), .val (.ref a82), .val (.int (0 : Int32)), .val (.int (1 : Int32)), .val (.int (0 : Int32)), .val (.int (1 : Int32))] [(.int (0 : Int32)), (.int (0 : Int32))]))
      refine own_go (fun t k => XS.icmpNo X102.here hx rfl (hb hby at_139) rfl (by decide) k) ?_
      show own_G p e below (K_0 Z p0 p1 zc h0 n0 s) (T102.setTop (mkF m 142 #[.val (.int p0), .val (.int p1), .val (.int (1 : Int32)), .val (.int (0 : Int32)), .val (.ref a82), .val (.int (0 : Int32)), .val (.int (1 : Int32)), .val (.int (0 : Int32)), .val (.int (1 : Int32))] []))
      refine own_go (fun t k => XS.iconst X102.here hx rfl (hb hby at_142) k) ?_
      show own_G p e below (K_0 Z p0 p1 zc h0 n0 s) (T102.setTop (mkF m 143 #[.val (.int p0), .val (.int p1), .val (.int (1 : Int32)), .val (.int (0 : Int32)), .val (.ref a82), .val (.int (0 : Int32)), .val (.int (1 : Int32)), .val (.int (0 : Int32)), .val (.int (1 : Int32))] [(.int (1 : Int32))]))
      refine own_go (fun t k => XS.goto X102.here hx rfl (pc0 := 143) (pc' := 147) rfl (hb hby at_143) (by decide) (by decide) k) ?_
      show own_G p e below (K_0 Z p0 p1 zc h0 n0 s) (T102.setTop (mkF m 147 #[.val (.int p0), .val (.int p1), .val (.int (1 : Int32)), .val (.int (0 : Int32)), .val (.ref a82), .val (.int (0 : Int32)), .val (.int (1 : Int32)), .val (.int (0 : Int32)), .val (.int (1 : Int32))] [(.int (1 : Int32))]))
      exact own_retNW X102 hS100 (by rw [e102]; exact hk100) hx Bd.notSynchronized (t := .boolean) (z' := (1 : Int32)) Bd.returns (by simp) (hb hby at_147) rfl (fun U hU hV hF => ⟨_, _, rfl, ⟨rfl, N102⟩, (by rw [hU, e102, hV, hh]; exact CHr.trans R100 (CHv.at X102 hZ100 hEL R100.1)), hF.1, hF.2.1, hF.2.2.1, hF.2.2.2.mono (by decide) (by decide)⟩)
    · skip
      refine own_go (fun t k => XS.ifNo X0.here hx rfl (hb hby at_15) rfl ((if0 _ _).trans (feq hc15_75).1) k) ?_
      show own_G p e below (K_0 Z p0 p1 zc h0 n0 s) (s₁.setTop (mkF m 18 #[.val (.int p0), .val (.int p1), .val (.int (1 : Int32)), .unset, .unset, .unset, .unset, .unset, .unset] []))
      refine own_go (fun t k => XS.iconst X0.here hx rfl (hb hby at_18) k) ?_
      show own_G p e below (K_0 Z p0 p1 zc h0 n0 s) (s₁.setTop (mkF m 19 #[.val (.int p0), .val (.int p1), .val (.int (1 : Int32)), .unset, .unset, .unset, .unset, .unset, .unset] [(.int (1 : Int32))]))
      refine own_go (fun t k => XS.goto X0.here hx rfl (pc0 := 19) (pc' := 23) rfl (hb hby at_19) (by decide) (by decide) k) ?_
      show own_G p e below (K_0 Z p0 p1 zc h0 n0 s) (s₁.setTop (mkF m 23 #[.val (.int p0), .val (.int p1), .val (.int (1 : Int32)), .unset, .unset, .unset, .unset, .unset, .unset] [(.int (1 : Int32))]))
      refine own_go (fun t k => XS.istoreN X0.here hx rfl (hb hby at_23) rfl (l' := #[.val (.int p0), .val (.int p1), .val (.int (1 : Int32)), .val (.int (1 : Int32)), .unset, .unset, .unset, .unset, .unset]) rfl k) ?_
      show own_G p e below (K_0 Z p0 p1 zc h0 n0 s) (s₁.setTop (mkF m 24 #[.val (.int p0), .val (.int p1), .val (.int (1 : Int32)), .val (.int (1 : Int32)), .unset, .unset, .unset, .unset, .unset] []))
      obtain ⟨T108, h108, X108, e108, E108, A108, D108, -, st108⟩ := newO X0 hx hZ hown (hw _ (List.mem_of_getElem? (i := 0) rfl)) (hw _ (List.mem_of_getElem? (i := 1) rfl)) (hw _ (List.mem_of_getElem? (i := 2) rfl)) e0 (g := (mkF m 24 #[.val (.int p0), .val (.int p1), .val (.int (1 : Int32)), .val (.int (1 : Int32)), .unset, .unset, .unset, .unset, .unset] [])) rfl (hb hby at_24) (by decide) (by decide)
      obtain ⟨b108, g108⟩ : ∃ z, z = h0.size := ⟨_, rfl⟩
      rw [← g108] at A108 D108 st108
      refine own_go st108 ?_
      have g_b108 : n0 ≤ b108 := Nat.le_trans Z0 (Nat.le_of_eq g108.symm)
      have R109 := CHr.trans R0 (CHr.ext E108 R0.1)
      have hk109 := Nat.le_trans hk0 E108.1
      have Z110 : n0 ≤ h108.size := Nat.le_trans Z0 E108.1
      have F108_releases : Fld Z h108 b108 "com/example/lodepath/lodepath/Serves" "releases" "Z" (.int (0 : Int32)) := D108 (Or.inr (hw _ (List.mem_of_getElem? (i := 15) rfl))) (ty := .boolean) (by decide)
      have F108_snapshots : Fld Z h108 b108 "com/example/lodepath/lodepath/Serves" "snapshots" "Z" (.int (0 : Int32)) := D108 (Or.inr (hw _ (List.mem_of_getElem? (i := 17) rfl))) (ty := .boolean) (by decide)
      show own_G p e below (K_0 Z p0 p1 zc h0 n0 s) (T108.setTop (mkF m 27 #[.val (.int p0), .val (.int p1), .val (.int (1 : Int32)), .val (.int (1 : Int32)), .unset, .unset, .unset, .unset, .unset] [(.ref b108)]))
      refine own_go (fun t k => XS.dup X108.here hx rfl (hb hby at_27) rfl rfl k) ?_
      show own_G p e below (K_0 Z p0 p1 zc h0 n0 s) (T108.setTop (mkF m 28 #[.val (.int p0), .val (.int p1), .val (.int (1 : Int32)), .val (.int (1 : Int32)), .unset, .unset, .unset, .unset, .unset] [(.ref b108), (.ref b108)]))
      refine own_go (fun t k => XS.iloadN X108.here hx rfl (hb hby at_28) rfl k) ?_
      show own_G p e below (K_0 Z p0 p1 zc h0 n0 s) (T108.setTop (mkF m 29 #[.val (.int p0), .val (.int p1), .val (.int (1 : Int32)), .val (.int (1 : Int32)), .unset, .unset, .unset, .unset, .unset] [(.int (1 : Int32)), (.ref b108), (.ref b108)]))
      refine own_go (fun t k => XS.iloadN X108.here hx rfl (hb hby at_29) rfl k) ?_
      show own_G p e below (K_0 Z p0 p1 zc h0 n0 s) (T108.setTop (mkF m 30 #[.val (.int p0), .val (.int p1), .val (.int (1 : Int32)), .val (.int (1 : Int32)), .unset, .unset, .unset, .unset, .unset] [(.int (1 : Int32)), (.int (1 : Int32)), (.ref b108), (.ref b108)]))
      obtain ⟨_, _, ⟨T111, L111, k111, n111⟩, -, X111, ⟨Lc111, hQ111, l111, y111, z111⟩, st111⟩ := X108.specialBack hx (y := (⟨"com/example/lodepath/lodepath/Serves", "<init>", "(ZZ)V"⟩ : MethodName)) rfl hown (mvT hZ (hw _ (List.mem_of_getElem? (i := 3) rfl))) (mvT hZ (hw _ (List.mem_of_getElem? (i := 4) rfl))) (mvT hZ (hw _ (List.mem_of_getElem? (i := 5) rfl))) (by decide) (backOf (W := 1) (rm_ct l Z a0 hw [] b108 (1 : Int32) (1 : Int32) h108 n0 Z110 F108_releases F108_snapshots A108 g_b108) hZ (hw _ (List.mem_of_getElem? (i := 5) rfl)) (hw _ (List.mem_of_getElem? (i := 2) rfl)) (by decide) (by decide)) (g := (mkF m 30 #[.val (.int p0), .val (.int p1), .val (.int (1 : Int32)), .val (.int (1 : Int32)), .unset, .unset, .unset, .unset, .unset] [(.int (1 : Int32)), (.int (1 : Int32)), (.ref b108), (.ref b108)])) rfl (by rw [hml]; rfl) (Steps.refl _) (a := b108) (argsL := [(.int (1 : Int32)), (.int (1 : Int32))]) (rest := [(.ref b108)]) (lenOf own_pd1 rfl) rfl (by show 2 * 0 + _ ≤ _; exact Nat.le_of_eq rfl) (hb hby at_30) (fun _ _ => ⟨rfl, e108, (by decide : 1 + 0 ≤ _), (by decide : 2 + 0 ≤ _)⟩)
      dsimp only [Pt.U, Pt.locs, Pt.cells, Pt.slots] at X111 l111 y111 z111 st111 hQ111
      subst l111 y111 z111
      obtain ⟨rfl, N111q, K111q, E111q, F111_0, F111_1⟩ := hQ111
      have N111 := Fr.app N0 N111q
      obtain ⟨h111, e111⟩ : ∃ z, T111.heap = z := ⟨_, rfl⟩
      rw [e111] at K111q E111q F111_0 F111_1
      have R112 := CHr.trans R109 (CHr.keep K111q (allS (Safe.exa hZ.alike A108 (by decide) (by decide)) all0) R109.1)
      have hk112 := Nat.le_trans hk109 K111q.1
      have Z113 : n0 ≤ h111.size := Nat.le_trans Z110 K111q.1
      have G111_releases : Fld Z h111 b108 "com/example/lodepath/lodepath/Serves" "releases" "Z" (.int (1 : Int32)) := F111_0
      have G111_snapshots : Fld Z h111 b108 "com/example/lodepath/lodepath/Serves" "snapshots" "Z" (.int (1 : Int32)) := F111_1
      refine own_tr st111 ?_
      show own_G p e below (K_0 Z p0 p1 zc h0 n0 s) (T111.setTop (mkF m 33 #[.val (.int p0), .val (.int p1), .val (.int (1 : Int32)), .val (.int (1 : Int32)), .unset, .unset, .unset, .unset, .unset] [(.ref b108)]))
      obtain ⟨cq114, kq114, q114a, q114b, q114c⟩ := isOf hZ e111 E111q
      obtain ⟨_, _, ⟨T114, L114, k114, n114⟩, -, Y114, hs114, hg114, ⟨Lc114, hQ114, l114, y114, z114, C114⟩, st114⟩ := X111.virtualBackS hx (y := (⟨"com/example/lodepath/lodepath/Serves", "toString", "()Ljava/lang/String;"⟩ : MethodName)) (z := (⟨"com/example/lodepath/lodepath/Serves", "toString", "()Ljava/lang/String;"⟩ : MethodName)) hown (mvT hZ (hw _ (List.mem_of_getElem? (i := 18) rfl))) (mvT hZ (hw _ (List.mem_of_getElem? (i := 19) rfl))) (notFace_of_selects (args := #[]) (mvT hZ (hw _ (List.mem_of_getElem? (i := 21) rfl)))) (mvT hZ (hw _ (List.mem_of_getElem? (i := 21) rfl))) (mvT hZ (hw _ (List.mem_of_getElem? (i := 20) rfl))) (by decide) (backOfSH (W := 0) (rm_ts11 l Z a0 hw [] b108 h111 n0 Z113 G111_releases G111_snapshots) hZ (hw _ (List.mem_of_getElem? (i := 22) rfl)) (hw _ (List.mem_of_getElem? (i := 2) rfl)) (by decide) (by decide) hEL R112.1) q114a q114c (g := (mkF m 33 #[.val (.int p0), .val (.int p1), .val (.int (1 : Int32)), .val (.int (1 : Int32)), .unset, .unset, .unset, .unset, .unset] [(.ref b108)])) rfl (by rw [hml]; rfl) (Steps.refl _) (argsL := []) (rest := []) (lenOf own_pd2 rfl) rfl (by show 2 * 0 + _ ≤ _; exact Nat.le_of_eq rfl) (hb hby at_33) (fun _ _ => ⟨rfl, e111, (by decide : 1 + 2 ≤ _), (by decide : 2 + 76 ≤ _)⟩)
      dsimp only [Pt.U, Pt.locs, Pt.cells, Pt.slots] at Y114 hs114 hg114 l114 y114 z114 C114 st114 hQ114
      subst l114 y114 z114
      obtain ⟨X114, hS114, hZ114, hown114⟩ := rebS hS0 (Nat.le_trans hk112 (Nat.le_of_eq (congrArg Array.size e111).symm)) Y114 hs114 hg114 hZ hown
      obtain ⟨h114, e114⟩ : ∃ z, T114.heap = z := ⟨_, rfl⟩
      rw [e114] at hQ114 hS114 C114
      have R114 := CHr.trans R112 C114
      have hk114 : h114.size ≤ h114.size := Nat.le_refl _
      obtain ⟨a114, b114, kb114, rfl, N114q, E114, A114, Fc114, Fv114, V114⟩ := hQ114
      have N114 := Fr.app N111 N114q
      have Z115 : n0 ≤ h114.size := Nat.le_trans Z113 E114.1
      refine own_tr st114 ?_
      show own_G p e below (K_0 Z p0 p1 zc h0 n0 s) (T114.setTop (mkF m 36 #[.val (.int p0), .val (.int p1), .val (.int (1 : Int32)), .val (.int (1 : Int32)), .unset, .unset, .unset, .unset, .unset] [(.ref a114)]))
      refine own_go (fun t k => XS.astore X114.here hx rfl (hb hby at_36) rfl rfl (l' := #[.val (.int p0), .val (.int p1), .val (.int (1 : Int32)), .val (.int (1 : Int32)), .val (.ref a114), .unset, .unset, .unset, .unset]) rfl k) ?_
      show own_G p e below (K_0 Z p0 p1 zc h0 n0 s) (T114.setTop (mkF m 38 #[.val (.int p0), .val (.int p1), .val (.int (1 : Int32)), .val (.int (1 : Int32)), .val (.ref a114), .unset, .unset, .unset, .unset] []))
      refine own_go (fun t k => XS.aload X114.here hx rfl (hb hby at_38) rfl rfl k) ?_
      show own_G p e below (K_0 Z p0 p1 zc h0 n0 s) (T114.setTop (mkF m 40 #[.val (.int p0), .val (.int p1), .val (.int (1 : Int32)), .val (.int (1 : Int32)), .val (.ref a114), .unset, .unset, .unset, .unset] [(.ref a114)]))
      refine own_go (fun t k => XS.ifnonnullYes X114.here hx rfl (pc0 := 40) (pc' := 45) rfl (hb hby at_40) rfl (by decide) (by decide) k) ?_
      show own_G p e below (K_0 Z p0 p1 zc h0 n0 s) (T114.setTop (mkF m 45 #[.val (.int p0), .val (.int p1), .val (.int (1 : Int32)), .val (.int (1 : Int32)), .val (.ref a114), .unset, .unset, .unset, .unset] []))
      refine own_go (fun t k => XS.aload X114.here hx rfl (hb hby at_45) rfl rfl k) ?_
      show own_G p e below (K_0 Z p0 p1 zc h0 n0 s) (T114.setTop (mkF m 47 #[.val (.int p0), .val (.int p1), .val (.int (1 : Int32)), .val (.int (1 : Int32)), .val (.ref a114), .unset, .unset, .unset, .unset] [(.ref a114)]))
      obtain ⟨a116, T116, h116, k116, b116, kb116, X116, e116, E116, hS116, hk116, hZ116, hown116, A116, Fc116, Fv116, V116, la116, lb116, C116, -, Sf116, st116⟩ := ldcCH (EL := consts_1) X114 hx hZ114 hown114 (hw _ (List.mem_of_getElem? (i := 31) rfl)) wSt e114 hS114 hk114 hEL (List.mem_of_getElem? (i := 4) rfl) R114.1 (vs := (own_bs "releases,snapshots")) (z := (18 : Int32)) (own_lit (by decide +kernel)) (by decide) (by decide +kernel) (g := (mkF m 47 #[.val (.int p0), .val (.int p1), .val (.int (1 : Int32)), .val (.int (1 : Int32)), .val (.ref a114), .unset, .unset, .unset, .unset] [(.ref a114)])) rfl (hb hby at_47) (n := 72) (by decide +kernel) (by decide) (by decide) (by decide)
      refine own_go st116 ?_
      have R116 := CHr.trans R114 C116
      have Z117 : n0 ≤ h116.size := Nat.le_trans Z115 E116.1
      show own_G p e below (K_0 Z p0 p1 zc h0 n0 s) (T116.setTop (mkF m 49 #[.val (.int p0), .val (.int p1), .val (.int (1 : Int32)), .val (.int (1 : Int32)), .val (.ref a114), .unset, .unset, .unset, .unset] [(.ref a116), (.ref a114)]))
      have Q119 := (A114.ext E116)
      have Q120 := (Fv114.ext E116)
      have Q121 := (Fc114.ext E116)
      have Q122 := (V114.ext E116)
      have Q123 := (((own_stakeep (S0_.ext E108) K111q (allS (fun cl hc => A108.nostat cl hc) all0)).ext E114).ext E116)
      obtain ⟨cq118, kq118, q118a, q118b, q118c⟩ := isOf hZ116 e116 Q119
      obtain ⟨_, _, ⟨T118, L118, k118, n118⟩, -, X118, ⟨Lc118, hQ118, l118, y118, z118⟩, st118⟩ := X116.virtualBack hx (y := (⟨"java/lang/String", "equals", "(Ljava/lang/Object;)Z"⟩ : MethodName)) (z := (⟨"java/lang/String", "equals", "(Ljava/lang/Object;)Z"⟩ : MethodName)) hown116 (mvT hZ116 (hw _ (List.mem_of_getElem? (i := 32) rfl))) (mvT hZ116 (hw _ (List.mem_of_getElem? (i := 33) rfl))) (notFace_of_selects (args := #[]) (mvT hZ116 (hw _ (List.mem_of_getElem? (i := 35) rfl)))) (mvT hZ116 (hw _ (List.mem_of_getElem? (i := 35) rfl))) (mvT hZ116 (hw _ (List.mem_of_getElem? (i := 34) rfl))) (by decide) (StrChars.Road.eqW (W := 0) (cs := own_ch "releases,snapshots") (ds := own_ch "releases,snapshots") hZ116 heq (kI := 4) (hw _ (List.mem_of_getElem? (i := 25) rfl)) Q119 Q120 Q121 Q122 (own_codA "releases,snapshots" (z := (18 : Int32)) (by decide +kernel) (by decide +kernel)) (by decide +kernel) (by decide +kernel) A116 Fv116 Fc116 V116 (own_codA "releases,snapshots" (z := (18 : Int32)) (by decide +kernel) (by decide +kernel)) (by decide +kernel) (by decide +kernel) Q123 hzc (by decide) (by decide)) q118a q118c (g := (mkF m 49 #[.val (.int p0), .val (.int p1), .val (.int (1 : Int32)), .val (.int (1 : Int32)), .val (.ref a114), .unset, .unset, .unset, .unset] [(.ref a116), (.ref a114)])) rfl (by rw [hml]; rfl) (Steps.refl _) (argsL := [(.ref a116)]) (rest := []) (lenOf own_pd3 rfl) rfl (by show 2 * 0 + _ ≤ _; exact Nat.le_of_eq rfl) (hb hby at_49) (fun _ _ => ⟨rfl, e116, (by decide : 5 + 0 ≤ _), (by decide : 154 + 0 ≤ _)⟩)
      dsimp only [Pt.U, Pt.locs, Pt.cells, Pt.slots] at X118 l118 y118 z118 st118 hQ118
      subst l118 y118 z118
      obtain ⟨hE118, rfl, e118⟩ := hQ118
      have N118 := Fr.app N114 (Fr.nil n0)
      obtain ⟨rfl, -⟩ := Or.resolve_right hE118 (fun h => h.2 rfl)
      refine own_tr st118 ?_
      show own_G p e below (K_0 Z p0 p1 zc h0 n0 s) (T118.setTop (mkF m 52 #[.val (.int p0), .val (.int p1), .val (.int (1 : Int32)), .val (.int (1 : Int32)), .val (.ref a114), .unset, .unset, .unset, .unset] [(.int (1 : Int32))]))
      refine own_go (fun t k => XS.istore X118.here hx rfl (hb hby at_52) rfl (l' := #[.val (.int p0), .val (.int p1), .val (.int (1 : Int32)), .val (.int (1 : Int32)), .val (.ref a114), .val (.int (1 : Int32)), .unset, .unset, .unset]) rfl k) ?_
      show own_G p e below (K_0 Z p0 p1 zc h0 n0 s) (T118.setTop (mkF m 54 #[.val (.int p0), .val (.int p1), .val (.int (1 : Int32)), .val (.int (1 : Int32)), .val (.ref a114), .val (.int (1 : Int32)), .unset, .unset, .unset] []))
      refine own_go (fun t k => XS.iload X118.here hx rfl (hb hby at_54) rfl k) ?_
      show own_G p e below (K_0 Z p0 p1 zc h0 n0 s) (T118.setTop (mkF m 56 #[.val (.int p0), .val (.int p1), .val (.int (1 : Int32)), .val (.int (1 : Int32)), .val (.ref a114), .val (.int (1 : Int32)), .unset, .unset, .unset] [(.int (1 : Int32))]))
      refine own_go (fun t k => XS.ifYes X118.here hx rfl (pc0 := 56) (pc' := 69) rfl (hb hby at_56) rfl ((if0 _ _).trans (by decide)) (by decide) (by decide) k) ?_
      show own_G p e below (K_0 Z p0 p1 zc h0 n0 s) (T118.setTop (mkF m 69 #[.val (.int p0), .val (.int p1), .val (.int (1 : Int32)), .val (.int (1 : Int32)), .val (.ref a114), .val (.int (1 : Int32)), .unset, .unset, .unset] []))
      refine own_go (fun t k => XS.iconst X118.here hx rfl (hb hby at_69) k) ?_
      show own_G p e below (K_0 Z p0 p1 zc h0 n0 s) (T118.setTop (mkF m 70 #[.val (.int p0), .val (.int p1), .val (.int (1 : Int32)), .val (.int (1 : Int32)), .val (.ref a114), .val (.int (1 : Int32)), .unset, .unset, .unset] [(.int (1 : Int32))]))
      refine own_go (fun t k => XS.goto X118.here hx rfl (pc0 := 70) (pc' := 74) rfl (hb hby at_70) (by decide) (by decide) k) ?_
      show own_G p e below (K_0 Z p0 p1 zc h0 n0 s) (T118.setTop (mkF m 74 #[.val (.int p0), .val (.int p1), .val (.int (1 : Int32)), .val (.int (1 : Int32)), .val (.ref a114), .val (.int (1 : Int32)), .unset, .unset, .unset] [(.int (1 : Int32))]))
      refine own_go (fun t k => XS.istore X118.here hx rfl (hb hby at_74) rfl (l' := #[.val (.int p0), .val (.int p1), .val (.int (1 : Int32)), .val (.int (1 : Int32)), .val (.ref a114), .val (.int (1 : Int32)), .val (.int (1 : Int32)), .unset, .unset]) rfl k) ?_
      show own_G p e below (K_0 Z p0 p1 zc h0 n0 s) (T118.setTop (mkF m 76 #[.val (.int p0), .val (.int p1), .val (.int (1 : Int32)), .val (.int (1 : Int32)), .val (.ref a114), .val (.int (1 : Int32)), .val (.int (1 : Int32)), .unset, .unset] []))
      refine own_go (fun t k => XS.iload X118.here hx rfl (hb hby at_76) rfl k) ?_
      show own_G p e below (K_0 Z p0 p1 zc h0 n0 s) (T118.setTop (mkF m 78 #[.val (.int p0), .val (.int p1), .val (.int (1 : Int32)), .val (.int (1 : Int32)), .val (.ref a114), .val (.int (1 : Int32)), .val (.int (1 : Int32)), .unset, .unset] [(.int (1 : Int32))]))
      refine own_go (fun t k => XS.ifYes X118.here hx rfl (pc0 := 78) (pc' := 91) rfl (hb hby at_78) rfl ((if0 _ _).trans (by decide)) (by decide) (by decide) k) ?_
      show own_G p e below (K_0 Z p0 p1 zc h0 n0 s) (T118.setTop (mkF m 91 #[.val (.int p0), .val (.int p1), .val (.int (1 : Int32)), .val (.int (1 : Int32)), .val (.ref a114), .val (.int (1 : Int32)), .val (.int (1 : Int32)), .unset, .unset] []))
      refine own_go (fun t k => XS.iconst X118.here hx rfl (hb hby at_91) k) ?_
      show own_G p e below (K_0 Z p0 p1 zc h0 n0 s) (T118.setTop (mkF m 92 #[.val (.int p0), .val (.int p1), .val (.int (1 : Int32)), .val (.int (1 : Int32)), .val (.ref a114), .val (.int (1 : Int32)), .val (.int (1 : Int32)), .unset, .unset] [(.int (1 : Int32))]))
      refine own_go (fun t k => XS.goto X118.here hx rfl (pc0 := 92) (pc' := 96) rfl (hb hby at_92) (by decide) (by decide) k) ?_
      show own_G p e below (K_0 Z p0 p1 zc h0 n0 s) (T118.setTop (mkF m 96 #[.val (.int p0), .val (.int p1), .val (.int (1 : Int32)), .val (.int (1 : Int32)), .val (.ref a114), .val (.int (1 : Int32)), .val (.int (1 : Int32)), .unset, .unset] [(.int (1 : Int32))]))
      refine own_go (fun t k => XS.istore X118.here hx rfl (hb hby at_96) rfl (l' := #[.val (.int p0), .val (.int p1), .val (.int (1 : Int32)), .val (.int (1 : Int32)), .val (.ref a114), .val (.int (1 : Int32)), .val (.int (1 : Int32)), .val (.int (1 : Int32)), .unset]) rfl k) ?_
      show own_G p e below (K_0 Z p0 p1 zc h0 n0 s) (T118.setTop (mkF m 98 #[.val (.int p0), .val (.int p1), .val (.int (1 : Int32)), .val (.int (1 : Int32)), .val (.ref a114), .val (.int (1 : Int32)), .val (.int (1 : Int32)), .val (.int (1 : Int32)), .unset] []))
      refine own_go (fun t k => XS.iload X118.here hx rfl (hb hby at_98) rfl k) ?_
      show own_G p e below (K_0 Z p0 p1 zc h0 n0 s) (T118.setTop (mkF m 100 #[.val (.int p0), .val (.int p1), .val (.int (1 : Int32)), .val (.int (1 : Int32)), .val (.ref a114), .val (.int (1 : Int32)), .val (.int (1 : Int32)), .val (.int (1 : Int32)), .unset] [(.int (1 : Int32))]))
      refine own_go (fun t k => XS.ifYes X118.here hx rfl (pc0 := 100) (pc' := 118) rfl (hb hby at_100) rfl ((if0 _ _).trans (by decide)) (by decide) (by decide) k) ?_
      show own_G p e below (K_0 Z p0 p1 zc h0 n0 s) (T118.setTop (mkF m 118 #[.val (.int p0), .val (.int p1), .val (.int (1 : Int32)), .val (.int (1 : Int32)), .val (.ref a114), .val (.int (1 : Int32)), .val (.int (1 : Int32)), .val (.int (1 : Int32)), .unset] []))
      refine own_go (fun t k => XS.iconst X118.here hx rfl (hb hby at_118) k) ?_
      show own_G p e below (K_0 Z p0 p1 zc h0 n0 s) (T118.setTop (mkF m 119 #[.val (.int p0), .val (.int p1), .val (.int (1 : Int32)), .val (.int (1 : Int32)), .val (.ref a114), .val (.int (1 : Int32)), .val (.int (1 : Int32)), .val (.int (1 : Int32)), .unset] [(.int (1 : Int32))]))
      refine own_go (fun t k => XS.goto X118.here hx rfl (pc0 := 119) (pc' := 123) rfl (hb hby at_119) (by decide) (by decide) k) ?_
      show own_G p e below (K_0 Z p0 p1 zc h0 n0 s) (T118.setTop (mkF m 123 #[.val (.int p0), .val (.int p1), .val (.int (1 : Int32)), .val (.int (1 : Int32)), .val (.ref a114), .val (.int (1 : Int32)), .val (.int (1 : Int32)), .val (.int (1 : Int32)), .unset] [(.int (1 : Int32))]))
      refine own_go (fun t k => XS.istore X118.here hx rfl (hb hby at_123) rfl (l' := #[.val (.int p0), .val (.int p1), .val (.int (1 : Int32)), .val (.int (1 : Int32)), .val (.ref a114), .val (.int (1 : Int32)), .val (.int (1 : Int32)), .val (.int (1 : Int32)), .val (.int (1 : Int32))]) rfl k) ?_
      show own_G p e below (K_0 Z p0 p1 zc h0 n0 s) (T118.setTop (mkF m 125 #[.val (.int p0), .val (.int p1), .val (.int (1 : Int32)), .val (.int (1 : Int32)), .val (.ref a114), .val (.int (1 : Int32)), .val (.int (1 : Int32)), .val (.int (1 : Int32)), .val (.int (1 : Int32))] []))
      refine own_go (fun t k => XS.iload X118.here hx rfl (hb hby at_125) rfl k) ?_
      show own_G p e below (K_0 Z p0 p1 zc h0 n0 s) (T118.setTop (mkF m 127 #[.val (.int p0), .val (.int p1), .val (.int (1 : Int32)), .val (.int (1 : Int32)), .val (.ref a114), .val (.int (1 : Int32)), .val (.int (1 : Int32)), .val (.int (1 : Int32)), .val (.int (1 : Int32))] [(.int (1 : Int32))]))
      refine own_go (fun t k => XS.ifNo X118.here hx rfl (hb hby at_127) rfl ((if0 _ _).trans (by decide)) k) ?_
      show own_G p e below (K_0 Z p0 p1 zc h0 n0 s) (T118.setTop (mkF m 130 #[.val (.int p0), .val (.int p1), .val (.int (1 : Int32)), .val (.int (1 : Int32)), .val (.ref a114), .val (.int (1 : Int32)), .val (.int (1 : Int32)), .val (.int (1 : Int32)), .val (.int (1 : Int32))] []))
      refine own_go (fun t k => XS.iload X118.here hx rfl (hb hby at_130) rfl k) ?_
      show own_G p e below (K_0 Z p0 p1 zc h0 n0 s) (T118.setTop (mkF m 132 #[.val (.int p0), .val (.int p1), .val (.int (1 : Int32)), .val (.int (1 : Int32)), .val (.ref a114), .val (.int (1 : Int32)), .val (.int (1 : Int32)), .val (.int (1 : Int32)), .val (.int (1 : Int32))] [(.int (1 : Int32))]))
      refine own_go (fun t k => XS.iloadN X118.here hx rfl (hb hby at_132) rfl k) ?_
      show own_G p e below (K_0 Z p0 p1 zc h0 n0 s) (T118.setTop (mkF m 133 #[.val (.int p0), .val (.int p1), .val (.int (1 : Int32)), .val (.int (1 : Int32)), .val (.ref a114), .val (.int (1 : Int32)), .val (.int (1 : Int32)), .val (.int (1 : Int32)), .val (.int (1 : Int32))] [(.int (1 : Int32)), (.int (1 : Int32))]))
      refine own_go (fun t k => XS.icmpNo X118.here hx rfl (hb hby at_133) rfl (by decide) k) ?_
      show own_G p e below (K_0 Z p0 p1 zc h0 n0 s) (T118.setTop (mkF m 136 #[.val (.int p0), .val (.int p1), .val (.int (1 : Int32)), .val (.int (1 : Int32)), .val (.ref a114), .val (.int (1 : Int32)), .val (.int (1 : Int32)), .val (.int (1 : Int32)), .val (.int (1 : Int32))] []))
      refine own_go (fun t k => XS.iload X118.here hx rfl (hb hby at_136) rfl k) ?_
      show own_G p e below (K_0 Z p0 p1 zc h0 n0 s) (T118.setTop (mkF m 138 #[.val (.int p0), .val (.int p1), .val (.int (1 : Int32)), .val (.int (1 : Int32)), .val (.ref a114), .val (.int (1 : Int32)), .val (.int (1 : Int32)), .val (.int (1 : Int32)), .val (.int (1 : Int32))] [(.int (1 : Int32))]))
      refine own_go (fun t k => XS.iloadN X118.here hx rfl (hb hby at_138) rfl k) ?_
      show own_G p e below (K_0 Z p0 p1 zc h0 n0 s) (T118.setTop (mkF m 139 #[.val (.int p0), .val (.int p1), .val (.int (1 : Int32)), .val (.int (1 : Int32)), .val (.ref a114), .val (.int (1 : Int32)), .val (.int (1 : Int32)), .val (.int (1 : Int32)), .val (.int (1 : Int32))] [(.int (1 : Int32)), (.int (1 : Int32))]))
      refine own_go (fun t k => XS.icmpNo X118.here hx rfl (hb hby at_139) rfl (by decide) k) ?_
      show own_G p e below (K_0 Z p0 p1 zc h0 n0 s) (T118.setTop (mkF m 142 #[.val (.int p0), .val (.int p1), .val (.int (1 : Int32)), .val (.int (1 : Int32)), .val (.ref a114), .val (.int (1 : Int32)), .val (.int (1 : Int32)), .val (.int (1 : Int32)), .val (.int (1 : Int32))] []))
      refine own_go (fun t k => XS.iconst X118.here hx rfl (hb hby at_142) k) ?_
      show own_G p e below (K_0 Z p0 p1 zc h0 n0 s) (T118.setTop (mkF m 143 #[.val (.int p0), .val (.int p1), .val (.int (1 : Int32)), .val (.int (1 : Int32)), .val (.ref a114), .val (.int (1 : Int32)), .val (.int (1 : Int32)), .val (.int (1 : Int32)), .val (.int (1 : Int32))] [(.int (1 : Int32))]))
      refine own_go (fun t k => XS.goto X118.here hx rfl (pc0 := 143) (pc' := 147) rfl (hb hby at_143) (by decide) (by decide) k) ?_
      show own_G p e below (K_0 Z p0 p1 zc h0 n0 s) (T118.setTop (mkF m 147 #[.val (.int p0), .val (.int p1), .val (.int (1 : Int32)), .val (.int (1 : Int32)), .val (.ref a114), .val (.int (1 : Int32)), .val (.int (1 : Int32)), .val (.int (1 : Int32)), .val (.int (1 : Int32))] [(.int (1 : Int32))]))
      exact own_retNW X118 hS116 (by rw [e118]; exact hk116) hx Bd.notSynchronized (t := .boolean) (z' := (1 : Int32)) Bd.returns (by simp) (hb hby at_147) rfl (fun U hU hV hF => ⟨_, _, rfl, ⟨rfl, N118⟩, (by rw [hU, e118, hV, hh]; exact CHr.trans R116 (CHv.at X118 hZ116 hEL R116.1)), hF.1, hF.2.1, hF.2.2.1, hF.2.2.2.mono (by decide) (by decide)⟩)
set_option maxRecDepth 65536 in
set_option maxHeartbeats 40000000 in
theorem comes_1 {Post : Tables → Env → Array Value → State → Outcome → State → Prop} (hpost : ∀ tb e args s v u, (limb_1_1.after args s (.returned v) u = true ∧ limb_1_2.after args s (.returned v) u = true ∧ True) → ReturnedEndW s (.returned v) u (Jvm.fieldLocs frame_1_writes args s ++ Jvm.arrayLocs frame_1_arrays args s ++ Jvm.staticLocs frame_1_statics s) 32 8320 → Post tb e args s (.returned v) u) :
    ArmFor flags0 classFile x code maxLocals ret World_1 tables_1 room_1 Calls_1 rest_1 Pre_1 Post := by
  intro l hfl _ _ p e ha hc hk s m args below hf hA hF happ hP
  obtain ⟨hcalls, hrest, hpre⟩ := hP
  obtain ⟨-, -, -, hnamed, -, -, -, hat⟩ := (Spec.applies_iff hf).mp happ
  obtain ⟨hg, hn⟩ := and_e (Cond.before_iff.mp (show (Jvm.Cond.and given_1 narrow_1).before args s = true from hpre))
  obtain ⟨hcnt, hg0⟩ := and_e hg
  obtain ⟨hv0, hg1⟩ := and_e hg0
  obtain ⟨w0, w1, rfl⟩ : ∃ w0 w1 : Value, args = #[w0, w1] := by
    have hs : args.size = 2 := by simpa [Cond.value, given_1] using hcnt
    obtain ⟨L⟩ := args
    match L, hs with
    | [w0, w1], _ => exact ⟨w0, w1, rfl⟩
  have hw := fun d (hd : d ∈ tables_1) => atoms_spec (ws := Jvm.Cond.code x code maxLocals ret :: tables_1) hat d (List.mem_cons_of_mem _ hd)
  have hfit : Fit s := fun {y c} hc i hi => by
    obtain ⟨ha, rfl⟩ := Array.getElem?_eq_some_iff.mp hc
    have q := List.all_eq_true.mp ((Array.all_eq_true_iff_forall_mem.mp hF) _ (Array.getElem_mem ha)) i (List.mem_range.mpr hi)
    simpa [Array.getElem?_eq_getElem hi] using q
  obtain ⟨hsets, hown0⟩ := atoms_of _ (rest_1_c_eq ▸ (show rest_1_c.before _ s = true from hrest))
  obtain ⟨i0, ei0⟩ := is_v hv0
  obtain rfl : w0 = (.int i0) := Option.some.inj ei0
  obtain ⟨i1, ei1⟩ := is_v hg1
  obtain rfl : w1 = (.int i1) := Option.some.inj ei1
  obtain ⟨zc, t0⟩ := is_v (Cond.before_iff.mp (hsets _ (List.mem_of_getElem? (i := 1) rfl)))
  have S0 := Sta.start t0 (Or.inl (hsets _ (List.mem_of_getElem? (i := 0) rfl)))
  have hcw := hsets _ (List.mem_of_getElem? (i := 2) rfl)
  have hzc : ¬ zc = 0 := fun q => by
    have q1 := Cond.before_iff.mp hcw
    have q2 : (Term.int 0).eval #[.int i0, .int i1] s none [] s = some (.int 0) := rfl
    simp only [Cond.value, t0, q2] at q1
    simp [q] at q1
  have hC0 : CHv s consts_1 s.vm s.heap := CHv.start (own_EW hw) hcalls.1 hcw (own_wSt hw _ (by simp [Bundle.stringAtoms])) (own_wSt hw _ (by simp [Bundle.stringAtoms, Bundle.sN]))
  obtain ⟨n, o, h1, h2, h3, _, L, rfl, ⟨rfl, N⟩, -, hq⟩ := rm_0 l s _ hw tables_1 i0 i1 zc s.heap s.heap.size (Nat.le_refl _) S0 hzc p e ha hc hk s m _ below hf ((Spec.applies_iff_loose hf).mp happ).1 ⟨rfl, State.Warmed39.refl s, rfl, hC0⟩ trivial
  refine ⟨n, _, h1, h2, h3, hpost _ _ _ _ _ _ ⟨Cond.after_iff.mpr rfl, Cond.after_iff.mpr (eq_i res_at (Term.int_eval (1)) rfl), trivial⟩ ⟨hq.1, hq.2.1, hq.2.2.1, (hq.2.2.2.sift fun y hy => Or.inr (N y hy)).mono (by decide) (by decide)⟩⟩
theorem main_1_1 : Claimed_1_1 := comes_1 fun _ _ _ _ _ _ h hF => ⟨h.1, hF⟩
theorem main_1_2 : Claimed_1_2 := comes_1 fun _ _ _ _ _ _ h hF => ⟨h.2.1, hF⟩
end Jvm.Pilot.@@N@@
namespace Jvm.Pilot.@@N@@
open Jvm Jvm.ClassFile Sem Op Lib Jvm.Free Jvm.Stand Jvm.Pilot.@@N@@.Jvm.D
/-! MADE BY PROGRAM (witnessworld.py) out of the Statement's table words and the real class files: 18 classes; the members and pool entries that the words name. The judged class is class 1, her method 1. -/
namespace start1
open Jvm.ClassFile
def u (s : String) : CpInfo := .utf8 (stringToUtf16 s)
/-- a pool by its gaps: so many unusable entries, then the entry; so many at the end -/
def gap : Nat → List CpInfo → List CpInfo
  | 0, r => r
  | n + 1, r => .unusable :: gap n r
def poolList (es : List (Nat × CpInfo)) (last : Nat) : List CpInfo := es.foldr (fun e r => gap e.1 (e.2 :: r)) (gap last [])
def pool (es : List (Nat × CpInfo)) (last : Nat) : Array CpInfo := ⟨poolList es last⟩
def fileOf (pool : Array CpInfo) (this : Nat) (attrs : Array Attribute := #[]) (ms : Array MethodInfo := #[]) (fl : Nat := 33) (sup : Nat := 0) (ifs : Array Nat := #[]) (fds : Array FieldInfo := #[]) : ClassFile where
  minorVersion := 0
  majorVersion := 65
  constantPool := pool
  accessFlags := fl
  thisClass := this
  superClass := sup
  interfaces := ifs
  fields := fds
  methods := ms
  attributes := attrs
def plain (name : String) (sup : Option ClassId) : Class where
  name := name
  kind := .ordinary
  loader := none
  accessFlags := 33
  super := sup
  interfaces := #[]
  cf := none
  fields := #[]
  methods := #[]
  instanceTypes := #[]
  staticTypes := #[]
  resolved := #[]
  callSites := []
  init := .initialized
  statics := none
  mirror := none

def pool0 : Array CpInfo := pool [(5, u "<init>"), (0, u "()V"), (1, .class_ 10), (1, u "java/lang/Object")] 113

def k0c0 : Code := { maxStack := 0, maxLocals := 1, code := object_method_1_code, exceptionTable := #[], attributes := #[] }
def k0m0 : Method := { name := "<init>", desc := "()V", sig := { parameters := [], returnType := none }, accessFlags := 1, code := some k0c0 }
/-- java/lang/Object -/
def k0 : Class := { plain "java/lang/Object" none with
  accessFlags := 33
  interfaces := #[]
  cf := some (fileOf pool0 8 #[] #[{ accessFlags := 1, nameIndex := 5, descriptorIndex := 6, attributes := #[] }] 33 0 #[] #[])
  fields := #[]
  methods := #[k0m0]
  instanceTypes := #[]
  staticTypes := #[]
  resolved := Array.replicate 124 none
  statics := none }

def pool1 : Array CpInfo := pool [(2, .class_ 4), (1, u "java/lang/Object"), (0, u "<init>"), (0, u "()V"), (0, .class_ 8), (0, u "com/example/lodepath/lodepath/Serves"), (0, .methodref 7 10), (0, .nameAndType 5 11), (0, u "(ZZ)V"), (0, .methodref 7 13), (0, .nameAndType 14 15), (0, u "toString"), (0, u "()Ljava/lang/String;"), (0, .string 17), (0, u "releases,snapshots"), (0, .methodref 19 20), (0, .class_ 21), (0, .nameAndType 22 23), (0, u "java/lang/String"), (0, u "equals"), (0, u "(Ljava/lang/Object;)Z"), (0, .string 25), (0, u "releases"), (0, .string 27), (0, u "snapshots"), (0, .string 29), (0, u "none"), (0, .class_ 31), (0, u "com/example/lodepath/lodepath/ServesToStringPinLaw"), (2, u "law"), (0, u "(II)Z")] 3

def k1m0 : Method := { name := "<init>", desc := "()V", sig := { parameters := [], returnType := none }, accessFlags := 2, code := none }
def k1c1 : Code := { maxStack := 4, maxLocals := 9, code := code, exceptionTable := #[], attributes := #[] }
def k1m1 : Method := { name := "law", desc := "(II)Z", sig := { parameters := [.int, .int], returnType := some .boolean }, accessFlags := 9, code := some k1c1 }
/-- com/example/lodepath/lodepath/ServesToStringPinLaw -/
def k1 : Class := { plain "com/example/lodepath/lodepath/ServesToStringPinLaw" (some 0) with
  accessFlags := 49
  interfaces := #[]
  cf := some (fileOf pool1 30 #[] #[{ accessFlags := 2, nameIndex := 5, descriptorIndex := 6, attributes := #[] }, { accessFlags := 9, nameIndex := 34, descriptorIndex := 35, attributes := #[] }] 49 2 #[] #[])
  fields := #[]
  methods := #[k1m0, k1m1]
  instanceTypes := #[]
  staticTypes := #[]
  resolved := Array.replicate 39 none
  statics := none }

def pool2 : Array CpInfo := pool [(1, .methodref 2 3), (0, .class_ 4), (0, .nameAndType 5 6), (0, u "java/lang/Object"), (0, u "<init>"), (0, u "()V"), (0, .class_ 8), (0, u "java/lang/Record")] 13

def k2c0 : Code := { maxStack := 1, maxLocals := 1, code := jdk_30_method_1_code, exceptionTable := #[], attributes := #[] }
def k2m0 : Method := { name := "<init>", desc := "()V", sig := { parameters := [], returnType := none }, accessFlags := 4, code := some k2c0 }
/-- java/lang/Record -/
def k2 : Class := { plain "java/lang/Record" (some 0) with
  accessFlags := 1057
  interfaces := #[]
  cf := some (fileOf pool2 7 #[] #[{ accessFlags := 4, nameIndex := 5, descriptorIndex := 6, attributes := #[] }] 1057 2 #[] #[])
  fields := #[]
  methods := #[k2m0]
  instanceTypes := #[]
  staticTypes := #[]
  resolved := Array.replicate 22 none
  statics := none }

def pool3 : Array CpInfo := pool [(1, .methodref 2 3), (0, .class_ 4), (0, .nameAndType 5 6), (0, u "java/lang/Record"), (0, u "<init>"), (0, u "()V"), (0, .fieldref 8 9), (0, .class_ 10), (0, .nameAndType 11 12), (0, u "com/example/lodepath/lodepath/Serves"), (0, u "releases"), (0, u "Z"), (0, .fieldref 8 14), (0, .nameAndType 15 12), (0, u "snapshots"), (6, .string 23), (0, u "releases,snapshots"), (0, .string 11), (0, .string 15), (0, .string 27), (0, u "none"), (10, u "(ZZ)V"), (2, u "BOTH"), (0, u "Lcom/example/lodepath/lodepath/Serves;"), (2, u "RELEASES"), (6, u "toString"), (0, u "()Ljava/lang/String;")] 26

def k3c0 : Code := { maxStack := 2, maxLocals := 3, code := prog_6_method_1_code, exceptionTable := #[], attributes := #[] }
def k3m0 : Method := { name := "<init>", desc := "(ZZ)V", sig := { parameters := [.boolean, .boolean], returnType := none }, accessFlags := 0, code := some k3c0 }
def k3c1 : Code := { maxStack := 1, maxLocals := 2, code := prog_6_method_3_code, exceptionTable := #[], attributes := #[] }
def k3m1 : Method := { name := "toString", desc := "()Ljava/lang/String;", sig := { parameters := [], returnType := some (.object "java/lang/String") }, accessFlags := 1, code := some k3c1 }
/-- com/example/lodepath/lodepath/Serves -/
def k3 : Class := { plain "com/example/lodepath/lodepath/Serves" (some 2) with
  accessFlags := 48
  interfaces := #[]
  cf := some (fileOf pool3 8 #[] #[{ accessFlags := 0, nameIndex := 5, descriptorIndex := 38, attributes := #[] }, { accessFlags := 1, nameIndex := 52, descriptorIndex := 53, attributes := #[] }] 48 2 #[] #[{ accessFlags := 18, nameIndex := 11, descriptorIndex := 12, attributes := #[] }, { accessFlags := 18, nameIndex := 15, descriptorIndex := 12, attributes := #[] }, { accessFlags := 24, nameIndex := 41, descriptorIndex := 42, attributes := #[] }, { accessFlags := 24, nameIndex := 45, descriptorIndex := 42, attributes := #[] }])
  fields := #[{ name := "releases", type := .boolean, accessFlags := 18, slot := 0, constantValue := 0 }, { name := "snapshots", type := .boolean, accessFlags := 18, slot := 1, constantValue := 0 }, { name := "BOTH", type := (.object "com/example/lodepath/lodepath/Serves"), accessFlags := 24, slot := 0, constantValue := 0 }, { name := "RELEASES", type := (.object "com/example/lodepath/lodepath/Serves"), accessFlags := 24, slot := 1, constantValue := 0 }]
  methods := #[k3m0, k3m1]
  instanceTypes := #[.boolean, .boolean]
  staticTypes := #[(.object "com/example/lodepath/lodepath/Serves"), (.object "com/example/lodepath/lodepath/Serves")]
  resolved := Array.replicate 80 none
  statics := none }

def pool4 : Array CpInfo := pool [(1, .class_ 2), (0, u "java/io/Serializable"), (0, .class_ 4), (0, u "java/lang/Object")] 2

/-- java/io/Serializable -/
def k4 : Class := { plain "java/io/Serializable" (some 0) with
  accessFlags := 1537
  interfaces := #[]
  cf := some (fileOf pool4 1 #[] #[] 1537 3 #[] #[])
  fields := #[]
  methods := #[]
  instanceTypes := #[]
  staticTypes := #[]
  resolved := Array.replicate 7 none
  statics := none }

def pool5 : Array CpInfo := pool [(1, .class_ 2), (0, u "java/lang/Comparable"), (0, .class_ 4), (0, u "java/lang/Object")] 7

/-- java/lang/Comparable -/
def k5 : Class := { plain "java/lang/Comparable" (some 0) with
  accessFlags := 1537
  interfaces := #[]
  cf := some (fileOf pool5 1 #[] #[] 1537 3 #[] #[])
  fields := #[]
  methods := #[]
  instanceTypes := #[]
  staticTypes := #[]
  resolved := Array.replicate 12 none
  statics := none }

def pool6 : Array CpInfo := pool [(2, .class_ 4), (1, u "java/lang/CharSequence"), (42, .class_ 48), (0, u "java/lang/CharSequence$1CodePointIterator"), (10, .class_ 60), (0, u "java/lang/CharSequence$1CharIterator"), (5, .class_ 67), (0, u "java/lang/Object")] 63

/-- java/lang/CharSequence -/
def k6 : Class := { plain "java/lang/CharSequence" (some 0) with
  accessFlags := 1537
  interfaces := #[]
  cf := some (fileOf pool6 2 #[.nestMembers #[47, 59]] #[] 1537 66 #[] #[])
  fields := #[]
  methods := #[]
  instanceTypes := #[]
  staticTypes := #[]
  resolved := Array.replicate 131 none
  statics := none }

def pool7 : Array CpInfo := pool [(1, .class_ 2), (0, u "java/lang/constant/Constable"), (0, .class_ 4), (0, u "java/lang/Object")] 6

/-- java/lang/constant/Constable -/
def k7 : Class := { plain "java/lang/constant/Constable" (some 0) with
  accessFlags := 1537
  interfaces := #[]
  cf := some (fileOf pool7 1 #[] #[] 1537 3 #[] #[])
  fields := #[]
  methods := #[]
  instanceTypes := #[]
  staticTypes := #[]
  resolved := Array.replicate 11 none
  statics := none }

def pool8 : Array CpInfo := pool [(1, .class_ 2), (0, u "java/lang/constant/ConstantDesc"), (0, .class_ 4), (0, u "java/lang/Object")] 32

/-- java/lang/constant/ConstantDesc -/
def k8 : Class := { plain "java/lang/constant/ConstantDesc" (some 0) with
  accessFlags := 1537
  interfaces := #[]
  cf := some (fileOf pool8 1 #[] #[] 1537 3 #[] #[])
  fields := #[]
  methods := #[]
  instanceTypes := #[]
  staticTypes := #[]
  resolved := Array.replicate 37 none
  statics := none }

def pool9 : Array CpInfo := pool [(2, .class_ 4), (1, u "java/lang/Object"), (0, u "<init>"), (0, u "()V"), (2, .fieldref 10 11), (0, .class_ 12), (0, .nameAndType 13 14), (0, u "java/lang/String"), (0, u "value"), (0, u "[B"), (0, .fieldref 10 16), (0, .nameAndType 17 18), (0, u "coder"), (0, u "B"), (2, u "hash"), (0, u "I"), (2, u "hashIsZero"), (0, u "Z"), (11, .fieldref 10 39), (0, .nameAndType 40 26), (0, u "COMPACT_STRINGS"), (66, .class_ 109), (1, u "java/lang/StringLatin1"), (431, .methodref 107 542), (0, .nameAndType 543 544), (0, u "equals"), (0, u "([B[B)Z"), (28, u "(Ljava/lang/Object;)Z"), (1, .class_ 576), (0, u "java/lang/CharSequence"), (22, u "CASE_INSENSITIVE_ORDER"), (0, u "Ljava/util/Comparator;"), (500, u "serialPersistentFields"), (0, u "[Ljava/io/ObjectStreamField;"), (0, .class_ 1104), (0, u "java/lang/String$CaseInsensitiveComparator"), (1, .class_ 1107), (0, u "java/io/Serializable"), (0, .class_ 1109), (0, u "java/lang/Comparable"), (0, .class_ 1111), (0, u "java/lang/constant/Constable"), (0, .class_ 1113), (0, u "java/lang/constant/ConstantDesc"), (2, u "serialVersionUID"), (0, u "J"), (3, u "REPL"), (0, u "C"), (2, u "LATIN1"), (1, u "UTF16")] 323

def k9m0 : Method := { name := "<init>", desc := "()V", sig := { parameters := [], returnType := none }, accessFlags := 1, code := none }
def k9c1 : Code := { maxStack := 2, maxLocals := 3, code := jdk_42_method_66_code, exceptionTable := #[], attributes := #[] }
def k9m1 : Method := { name := "equals", desc := "(Ljava/lang/Object;)Z", sig := { parameters := [(.object "java/lang/Object")], returnType := some .boolean }, accessFlags := 1, code := some k9c1 }
/-- java/lang/String -/
def k9 : Class := { plain "java/lang/String" (some 0) with
  accessFlags := 49
  interfaces := #[4, 5, 6, 7, 8]
  cf := some (fileOf pool9 10 #[.nestMembers #[1103]] #[{ accessFlags := 1, nameIndex := 5, descriptorIndex := 6, attributes := #[] }, { accessFlags := 1, nameIndex := 543, descriptorIndex := 573, attributes := #[] }] 49 2 #[1106, 1108, 575, 1110, 1112] #[{ accessFlags := 18, nameIndex := 13, descriptorIndex := 14, attributes := #[] }, { accessFlags := 18, nameIndex := 17, descriptorIndex := 18, attributes := #[] }, { accessFlags := 2, nameIndex := 21, descriptorIndex := 22, attributes := #[] }, { accessFlags := 2, nameIndex := 25, descriptorIndex := 26, attributes := #[] }, { accessFlags := 26, nameIndex := 1116, descriptorIndex := 1117, attributes := #[] }, { accessFlags := 24, nameIndex := 40, descriptorIndex := 26, attributes := #[] }, { accessFlags := 26, nameIndex := 1101, descriptorIndex := 1102, attributes := #[] }, { accessFlags := 26, nameIndex := 1121, descriptorIndex := 1122, attributes := #[] }, { accessFlags := 25, nameIndex := 599, descriptorIndex := 600, attributes := #[] }, { accessFlags := 24, nameIndex := 1125, descriptorIndex := 18, attributes := #[] }, { accessFlags := 24, nameIndex := 1127, descriptorIndex := 18, attributes := #[] }])
  fields := #[{ name := "value", type := (.array .byte), accessFlags := 18, slot := 0, constantValue := 0 }, { name := "coder", type := .byte, accessFlags := 18, slot := 1, constantValue := 0 }, { name := "hash", type := .int, accessFlags := 2, slot := 2, constantValue := 0 }, { name := "hashIsZero", type := .boolean, accessFlags := 2, slot := 3, constantValue := 0 }, { name := "serialVersionUID", type := .long, accessFlags := 26, slot := 0, constantValue := 0 }, { name := "COMPACT_STRINGS", type := .boolean, accessFlags := 24, slot := 1, constantValue := 0 }, { name := "serialPersistentFields", type := (.array (.object "java/io/ObjectStreamField")), accessFlags := 26, slot := 2, constantValue := 0 }, { name := "REPL", type := .char, accessFlags := 26, slot := 3, constantValue := 0 }, { name := "CASE_INSENSITIVE_ORDER", type := (.object "java/util/Comparator"), accessFlags := 25, slot := 4, constantValue := 0 }, { name := "LATIN1", type := .byte, accessFlags := 24, slot := 5, constantValue := 0 }, { name := "UTF16", type := .byte, accessFlags := 24, slot := 6, constantValue := 0 }]
  methods := #[k9m0, k9m1]
  instanceTypes := #[(.array .byte), .byte, .int, .boolean]
  staticTypes := #[.long, .boolean, (.array (.object "java/io/ObjectStreamField")), .char, (.object "java/util/Comparator"), .byte, .byte]
  resolved := Array.replicate 1451 none
  statics := some 0 }

def pool10 : Array CpInfo := pool [(4, .class_ 6), (1, u "java/lang/Object"), (0, u "<init>"), (0, u "()V"), (5, .class_ 16), (1, u "java/lang/StringLatin1"), (104, u "$assertionsDisabled"), (0, u "Z"), (98, .class_ 223), (1, u "java/lang/StringLatin1$LinesSpliterator"), (57, u "equals"), (0, u "([B[B)Z"), (107, .class_ 391), (0, u "java/lang/StringLatin1$CharsSpliterator")] 3

def k10m0 : Method := { name := "<init>", desc := "()V", sig := { parameters := [], returnType := none }, accessFlags := 0, code := none }
def k10c1 : Code := { maxStack := 3, maxLocals := 3, code := jdk_43_method_13_code, exceptionTable := #[], attributes := #[] }
def k10m1 : Method := { name := "equals", desc := "([B[B)Z", sig := { parameters := [(.array .byte), (.array .byte)], returnType := some .boolean }, accessFlags := 9, code := some k10c1 }
/-- java/lang/StringLatin1 -/
def k10 : Class := { plain "java/lang/StringLatin1" (some 0) with
  accessFlags := 48
  interfaces := #[]
  cf := some (fileOf pool10 14 #[.nestMembers #[390, 221]] #[{ accessFlags := 0, nameIndex := 7, descriptorIndex := 8, attributes := #[] }, { accessFlags := 9, nameIndex := 281, descriptorIndex := 282, attributes := #[] }] 48 4 #[] #[{ accessFlags := 4120, nameIndex := 121, descriptorIndex := 122, attributes := #[] }])
  fields := #[{ name := "$assertionsDisabled", type := .boolean, accessFlags := 4120, slot := 0, constantValue := 0 }]
  methods := #[k10m0, k10m1]
  instanceTypes := #[]
  staticTypes := #[.boolean]
  resolved := Array.replicate 395 none
  statics := none }

def pool11 : Array CpInfo := pool [(2, .class_ 4), (1, u "java/lang/Object"), (0, u "<init>"), (0, u "()V"), (17, .class_ 26), (1, u "jdk/internal/util/Preconditions"), (28, .class_ 56), (0, u "jdk/internal/util/Preconditions$4"), (57, .class_ 115), (0, u "jdk/internal/util/Preconditions$1"), (7, u "SIOOBE_FORMATTER"), (0, u "Ljava/util/function/BiFunction;"), (0, .class_ 126), (0, u "jdk/internal/util/Preconditions$2"), (3, u "AIOOBE_FORMATTER"), (0, .class_ 132), (0, u "jdk/internal/util/Preconditions$3"), (3, u "IOOBE_FORMATTER")] 57

def k11m0 : Method := { name := "<init>", desc := "()V", sig := { parameters := [], returnType := none }, accessFlags := 1, code := none }
/-- jdk/internal/util/Preconditions -/
def k11 : Class := { plain "jdk/internal/util/Preconditions" (some 0) with
  accessFlags := 33
  interfaces := #[]
  cf := some (fileOf pool11 24 #[.nestMembers #[55, 131, 125, 114]] #[{ accessFlags := 1, nameIndex := 5, descriptorIndex := 6, attributes := #[] }] 33 2 #[] #[{ accessFlags := 25, nameIndex := 123, descriptorIndex := 124, attributes := #[] }, { accessFlags := 25, nameIndex := 130, descriptorIndex := 124, attributes := #[] }, { accessFlags := 25, nameIndex := 136, descriptorIndex := 124, attributes := #[] }])
  fields := #[{ name := "SIOOBE_FORMATTER", type := (.object "java/util/function/BiFunction"), accessFlags := 25, slot := 0, constantValue := 0 }, { name := "AIOOBE_FORMATTER", type := (.object "java/util/function/BiFunction"), accessFlags := 25, slot := 1, constantValue := 0 }, { name := "IOOBE_FORMATTER", type := (.object "java/util/function/BiFunction"), accessFlags := 25, slot := 2, constantValue := 0 }]
  methods := #[k11m0]
  instanceTypes := #[]
  staticTypes := #[(.object "java/util/function/BiFunction"), (.object "java/util/function/BiFunction"), (.object "java/util/function/BiFunction")]
  resolved := Array.replicate 194 none
  statics := some 1 }

def pool12 : Array CpInfo := pool [(9, u "<init>"), (6, .class_ 18), (1, u "java/lang/Object"), (0, u "()V"), (1, .class_ 23), (1, u "jdk/internal/util/ArraysSupport"), (0, u "LOG2_ARRAY_LONG_INDEX_SCALE"), (0, u "I"), (2, u "U"), (0, u "Ljdk/internal/misc/Unsafe;"), (8, u "BIG_ENDIAN"), (0, u "Z"), (8, u "LOG2_BYTE_BIT_SIZE"), (4, u "LOG2_ARRAY_INT_INDEX_SCALE"), (54, u "JLA"), (0, u "Ljdk/internal/access/JavaLangAccess;"), (11, u "LOG2_ARRAY_BOOLEAN_INDEX_SCALE"), (9, u "LOG2_ARRAY_BYTE_INDEX_SCALE"), (5, u "LOG2_ARRAY_CHAR_INDEX_SCALE"), (5, u "LOG2_ARRAY_SHORT_INDEX_SCALE"), (18, u "LOG2_ARRAY_FLOAT_INDEX_SCALE"), (24, u "LOG2_ARRAY_DOUBLE_INDEX_SCALE"), (89, u "T_BOOLEAN"), (2, u "T_CHAR"), (1, u "T_FLOAT"), (1, u "T_DOUBLE"), (1, u "T_BYTE"), (1, u "T_SHORT"), (1, u "T_INT"), (1, u "T_LONG"), (1, u "SOFT_MAX_ARRAY_LENGTH")] 83

def k12m0 : Method := { name := "<init>", desc := "()V", sig := { parameters := [], returnType := none }, accessFlags := 2, code := none }
/-- jdk/internal/util/ArraysSupport -/
def k12 : Class := { plain "jdk/internal/util/ArraysSupport" (some 0) with
  accessFlags := 33
  interfaces := #[]
  cf := some (fileOf pool12 21 #[] #[{ accessFlags := 2, nameIndex := 9, descriptorIndex := 19, attributes := #[] }] 33 16 #[] #[{ accessFlags := 24, nameIndex := 28, descriptorIndex := 29, attributes := #[] }, { accessFlags := 26, nameIndex := 38, descriptorIndex := 39, attributes := #[] }, { accessFlags := 25, nameIndex := 121, descriptorIndex := 25, attributes := #[] }, { accessFlags := 25, nameIndex := 131, descriptorIndex := 25, attributes := #[] }, { accessFlags := 25, nameIndex := 137, descriptorIndex := 25, attributes := #[] }, { accessFlags := 25, nameIndex := 143, descriptorIndex := 25, attributes := #[] }, { accessFlags := 25, nameIndex := 53, descriptorIndex := 25, attributes := #[] }, { accessFlags := 25, nameIndex := 24, descriptorIndex := 25, attributes := #[] }, { accessFlags := 25, nameIndex := 162, descriptorIndex := 25, attributes := #[] }, { accessFlags := 25, nameIndex := 187, descriptorIndex := 25, attributes := #[] }, { accessFlags := 26, nameIndex := 48, descriptorIndex := 25, attributes := #[] }, { accessFlags := 25, nameIndex := 277, descriptorIndex := 25, attributes := #[] }, { accessFlags := 25, nameIndex := 280, descriptorIndex := 25, attributes := #[] }, { accessFlags := 25, nameIndex := 282, descriptorIndex := 25, attributes := #[] }, { accessFlags := 25, nameIndex := 284, descriptorIndex := 25, attributes := #[] }, { accessFlags := 25, nameIndex := 286, descriptorIndex := 25, attributes := #[] }, { accessFlags := 25, nameIndex := 288, descriptorIndex := 25, attributes := #[] }, { accessFlags := 25, nameIndex := 290, descriptorIndex := 25, attributes := #[] }, { accessFlags := 25, nameIndex := 292, descriptorIndex := 25, attributes := #[] }, { accessFlags := 26, nameIndex := 108, descriptorIndex := 109, attributes := #[] }, { accessFlags := 25, nameIndex := 294, descriptorIndex := 25, attributes := #[] }])
  fields := #[{ name := "U", type := (.object "jdk/internal/misc/Unsafe"), accessFlags := 24, slot := 0, constantValue := 0 }, { name := "BIG_ENDIAN", type := .boolean, accessFlags := 26, slot := 1, constantValue := 0 }, { name := "LOG2_ARRAY_BOOLEAN_INDEX_SCALE", type := .int, accessFlags := 25, slot := 2, constantValue := 0 }, { name := "LOG2_ARRAY_BYTE_INDEX_SCALE", type := .int, accessFlags := 25, slot := 3, constantValue := 0 }, { name := "LOG2_ARRAY_CHAR_INDEX_SCALE", type := .int, accessFlags := 25, slot := 4, constantValue := 0 }, { name := "LOG2_ARRAY_SHORT_INDEX_SCALE", type := .int, accessFlags := 25, slot := 5, constantValue := 0 }, { name := "LOG2_ARRAY_INT_INDEX_SCALE", type := .int, accessFlags := 25, slot := 6, constantValue := 0 }, { name := "LOG2_ARRAY_LONG_INDEX_SCALE", type := .int, accessFlags := 25, slot := 7, constantValue := 0 }, { name := "LOG2_ARRAY_FLOAT_INDEX_SCALE", type := .int, accessFlags := 25, slot := 8, constantValue := 0 }, { name := "LOG2_ARRAY_DOUBLE_INDEX_SCALE", type := .int, accessFlags := 25, slot := 9, constantValue := 0 }, { name := "LOG2_BYTE_BIT_SIZE", type := .int, accessFlags := 26, slot := 10, constantValue := 0 }, { name := "T_BOOLEAN", type := .int, accessFlags := 25, slot := 11, constantValue := 0 }, { name := "T_CHAR", type := .int, accessFlags := 25, slot := 12, constantValue := 0 }, { name := "T_FLOAT", type := .int, accessFlags := 25, slot := 13, constantValue := 0 }, { name := "T_DOUBLE", type := .int, accessFlags := 25, slot := 14, constantValue := 0 }, { name := "T_BYTE", type := .int, accessFlags := 25, slot := 15, constantValue := 0 }, { name := "T_SHORT", type := .int, accessFlags := 25, slot := 16, constantValue := 0 }, { name := "T_INT", type := .int, accessFlags := 25, slot := 17, constantValue := 0 }, { name := "T_LONG", type := .int, accessFlags := 25, slot := 18, constantValue := 0 }, { name := "JLA", type := (.object "jdk/internal/access/JavaLangAccess"), accessFlags := 26, slot := 19, constantValue := 0 }, { name := "SOFT_MAX_ARRAY_LENGTH", type := .int, accessFlags := 25, slot := 20, constantValue := 0 }]
  methods := #[k12m0]
  instanceTypes := #[]
  staticTypes := #[(.object "jdk/internal/misc/Unsafe"), .boolean, .int, .int, .int, .int, .int, .int, .int, .int, .int, .int, .int, .int, .int, .int, .int, .int, .int, (.object "jdk/internal/access/JavaLangAccess"), .int]
  resolved := Array.replicate 378 none
  statics := none }

def pool13 : Array CpInfo := pool [(1, u "java/lang/Cloneable"), (0, .class_ 1), (0, u "java/lang/Object"), (0, .class_ 3)] 3

/-- java/lang/Cloneable -/
def k13 : Class := { plain "java/lang/Cloneable" (some 0) with
  accessFlags := 1537
  interfaces := #[]
  cf := some (fileOf pool13 2 #[] #[] 1537 4 #[] #[])
  fields := #[]
  methods := #[]
  instanceTypes := #[]
  staticTypes := #[]
  resolved := Array.replicate 8 none
  statics := none }

/-- the primitive byte -/
def k14 : Class := { plain "byte" none with kind := .primitive 'B', accessFlags := 0x411 }
/-- [B -/
def k15 : Class := { plain "[B" (some 0) with kind := .array 14 .byte, interfaces := #[13, 4], accessFlags := 1041 }

/-- the primitive int -/
def k16 : Class := { plain "int" none with kind := .primitive 'I', accessFlags := 0x411 }
/-- [I -/
def k17 : Class := { plain "[I" (some 0) with kind := .array 16 .int, interfaces := #[13, 4], accessFlags := 1041 }

def heap : Heap := #[{ cls := 9, slots := #[.long 0, .int 1, .null, .int 0, .null, .int 0, .int 0], vm := .statics 9 },
  { cls := 11, slots := #[.null, .null, .null], vm := .statics 11 }]
def classes : Array Class := #[k0, k1, k2, k3, k4, k5, k6, k7, k8, k9, k10, k11, k12, k13, k14, k15, k16, k17]
def interned : List (Array UInt16 × Addr) := []
def slotsUsed : Nat := 10
def theMethod : MethodId := ⟨1, 1⟩
def args0 : Array Value := #[.int 1, .int 9]
def aboutOver (below : List Frame) : State where
  vm := { classes := classes, interned := interned.toArray }
  heap := heap
  slotsUsed := slotsUsed
  threads := #[{ frames := .invoking theMethod args0 :: below }]
def below0 : List Frame := [.native { method := ⟨0, 0⟩, args := #[] }]
def about1 : State := aboutOver below0
def p0 : Program := .bare "" "" ""
def e0 : Env := launch0.env 0 0 0
theorem w_frames : about1.frames = Frame.invoking theMethod args0 :: below0 := rfl
set_option maxRecDepth 65536 in
theorem w_args : argsFit about1.vm theMethod args0 = true := by decide +kernel
set_option maxRecDepth 65536 in
theorem w_heap : heapFits about1 = true := by decide +kernel
set_option maxRecDepth 65536 in
theorem w_runnable : about1.curStatus? = some .runnable := by decide +kernel
set_option maxRecDepth 65536 in
theorem w_alone : about1.alone = true := by decide +kernel
set_option maxRecDepth 65536 in
theorem w_named : about1.methodNamed? x = some theMethod := by decide +kernel
set_option maxRecDepth 65536 in
theorem w_hears : about1.hears theMethod below0 = true := by decide +kernel
set_option maxRecDepth 65536 in
theorem w_ripe : about1.ripe theMethod args0 below0 = true := by decide +kernel
theorem w_running : about1.status = .running := rfl
set_option maxRecDepth 65536 in
theorem w_room : about1.hasRoom e0.platform room_1 = true :=
  launch0.hasRoom_least _ room_1 (by decide +kernel) (by decide +kernel) (by decide +kernel) (by decide +kernel) (by decide +kernel) (by decide +kernel)
theorem allAtoms_all (ts : List Jvm.Cond) (a : Array Jvm.Value) (st : Jvm.State) : (allAtoms ts).before a st = ts.all (fun c => c.before a st) := by
  induction ts with
  | nil => rfl
  | cons c t ih =>
    show (Jvm.Cond.and c (allAtoms t)).before a st = _
    rw [Jvm.Cond.before_and, ih, List.all_cons]
def words1 : List Jvm.Cond := Jvm.Cond.code x code maxLocals ret :: tables_1
/-- a 'code' word, met by the world's own term for the bytes: nothing is compared byte by byte -/
theorem code_word {y : MethodName} {bytes : ByteArray} {mx : Nat} {rt : Option FieldType} {a : Array Value} {s : State} {m : MethodId} {meth : Method} {c : Code} (h1 : s.methodNamed? y = some m) (h2 : s.vm.method? m = some meth) (h3 : meth.code = some c) (h4 : c.code = bytes)
    (h5 : (c.maxLocals == mx && c.exceptionTable.isEmpty && decide (c.maxStack ≤ mostOperands) && decide (meth.sig.returnType = rt) && !meth.locks && decide (parseMethodDescriptor y.desc = some meth.sig)) = true) : (Jvm.Cond.code y bytes mx rt).before a s = true := by
  simp only [Bool.and_eq_true, beq_iff_eq, Bool.not_eq_true', decide_eq_true_eq] at h5
  obtain ⟨⟨⟨⟨⟨g1, g2⟩, g3⟩, g4⟩, g5⟩, g6⟩ := h5
  simp [Cond.before, Cond.holds, Cond.value, h1, h2, h3, h4, g1, g2, g3, g4, g5, g6]
def isCode : Jvm.Cond → Bool
  | .code _ _ _ _ => true
  | _ => false
theorem all_split {L : List Jvm.Cond} {P : Jvm.Cond → Bool} (h1 : L.all (fun c => isCode c || P c) = true) (h2 : ∀ c ∈ L.filter isCode, P c = true) : L.all P = true := by
  refine List.all_eq_true.mpr fun c hc => ?_
  have h := List.all_eq_true.mp h1 c hc
  rcases Bool.eq_false_or_eq_true (isCode c) with hi | hi
  · exact h2 c (List.mem_filter.mpr ⟨hc, hi⟩)
  · simpa [hi] using h
set_option maxRecDepth 65536 in
theorem w_c0 : (Jvm.Cond.code x code maxLocals ret).before args0 about1 = true := code_word (m := ⟨1, 1⟩) (meth := k1m1) (c := k1c1) (by decide +kernel) rfl rfl rfl (by decide +kernel)
set_option maxRecDepth 65536 in
theorem w_c1 : (Jvm.Cond.code ({ cls := "com/example/lodepath/lodepath/Serves", name := "<init>", desc := "(ZZ)V" } : Jvm.MethodName) prog_6_method_1_code (3 : Nat) (Option.none : Option Jvm.ClassFile.FieldType)).before args0 about1 = true := code_word (m := ⟨3, 0⟩) (meth := k3m0) (c := k3c0) (by decide +kernel) rfl rfl rfl (by decide +kernel)
set_option maxRecDepth 65536 in
theorem w_c2 : (Jvm.Cond.code ({ cls := "java/lang/Record", name := "<init>", desc := "()V" } : Jvm.MethodName) jdk_30_method_1_code (1 : Nat) (Option.none : Option Jvm.ClassFile.FieldType)).before args0 about1 = true := code_word (m := ⟨2, 0⟩) (meth := k2m0) (c := k2c0) (by decide +kernel) rfl rfl rfl (by decide +kernel)
set_option maxRecDepth 65536 in
theorem w_c3 : (Jvm.Cond.code ({ cls := "java/lang/Object", name := "<init>", desc := "()V" } : Jvm.MethodName) object_method_1_code (1 : Nat) (Option.none : Option Jvm.ClassFile.FieldType)).before args0 about1 = true := code_word (m := ⟨0, 0⟩) (meth := k0m0) (c := k0c0) (by decide +kernel) rfl rfl rfl (by decide +kernel)
set_option maxRecDepth 65536 in
theorem w_c4 : (Jvm.Cond.code ({ cls := "com/example/lodepath/lodepath/Serves", name := "toString", desc := "()Ljava/lang/String;" } : Jvm.MethodName) prog_6_method_3_code (2 : Nat) (Option.some (Jvm.ClassFile.FieldType.object "java/lang/String"))).before args0 about1 = true := code_word (m := ⟨3, 1⟩) (meth := k3m1) (c := k3c1) (by decide +kernel) rfl rfl rfl (by decide +kernel)
set_option maxRecDepth 65536 in
theorem w_c5 : (Jvm.Cond.code ({ cls := "java/lang/String", name := "equals", desc := "(Ljava/lang/Object;)Z" } : Jvm.MethodName) jdk_42_method_66_code (3 : Nat) (Option.some Jvm.ClassFile.FieldType.boolean)).before args0 about1 = true := code_word (m := ⟨9, 1⟩) (meth := k9m1) (c := k9c1) (by decide +kernel) rfl rfl rfl (by decide +kernel)
set_option maxRecDepth 65536 in
theorem w_c6 : (Jvm.Cond.code ({ cls := "java/lang/StringLatin1", name := "equals", desc := "([B[B)Z" } : Jvm.MethodName) jdk_43_method_13_code (3 : Nat) (Option.some Jvm.ClassFile.FieldType.boolean)).before args0 about1 = true := code_word (m := ⟨10, 1⟩) (meth := k10m1) (c := k10c1) (by decide +kernel) rfl rfl rfl (by decide +kernel)
def codes1 : List Jvm.Cond := [Jvm.Cond.code x code maxLocals ret, Jvm.Cond.code ({ cls := "com/example/lodepath/lodepath/Serves", name := "<init>", desc := "(ZZ)V" } : Jvm.MethodName) prog_6_method_1_code (3 : Nat) (Option.none : Option Jvm.ClassFile.FieldType), Jvm.Cond.code ({ cls := "java/lang/Record", name := "<init>", desc := "()V" } : Jvm.MethodName) jdk_30_method_1_code (1 : Nat) (Option.none : Option Jvm.ClassFile.FieldType), Jvm.Cond.code ({ cls := "java/lang/Object", name := "<init>", desc := "()V" } : Jvm.MethodName) object_method_1_code (1 : Nat) (Option.none : Option Jvm.ClassFile.FieldType), Jvm.Cond.code ({ cls := "com/example/lodepath/lodepath/Serves", name := "toString", desc := "()Ljava/lang/String;" } : Jvm.MethodName) prog_6_method_3_code (2 : Nat) (Option.some (Jvm.ClassFile.FieldType.object "java/lang/String")), Jvm.Cond.code ({ cls := "java/lang/String", name := "equals", desc := "(Ljava/lang/Object;)Z" } : Jvm.MethodName) jdk_42_method_66_code (3 : Nat) (Option.some Jvm.ClassFile.FieldType.boolean), Jvm.Cond.code ({ cls := "java/lang/StringLatin1", name := "equals", desc := "([B[B)Z" } : Jvm.MethodName) jdk_43_method_13_code (3 : Nat) (Option.some Jvm.ClassFile.FieldType.boolean)]
set_option maxRecDepth 65536 in
theorem codes_eq : words1.filter isCode = codes1 := rfl
theorem w_codes : ∀ c ∈ words1.filter isCode, c.before args0 about1 = true := by
  rw [codes_eq]
  intro c hc
  simp only [codes1, List.mem_cons, List.not_mem_nil, or_false] at hc
  rcases hc with rfl | rfl | rfl | rfl | rfl | rfl | rfl
  · exact w_c0
  · exact w_c1
  · exact w_c2
  · exact w_c3
  · exact w_c4
  · exact w_c5
  · exact w_c6
set_option maxRecDepth 65536 in
theorem w_t1 : (words1.take 24).all (fun c => isCode c || c.before args0 about1) = true := by decide +kernel
set_option maxRecDepth 65536 in
theorem w_t2 : ((words1.drop 24).take 24).all (fun c => isCode c || c.before args0 about1) = true := by decide +kernel
set_option maxRecDepth 65536 in
theorem w_t3 : ((words1.drop 24).drop 24).all (fun c => isCode c || c.before args0 about1) = true := by decide +kernel
theorem w_tables : (allAtoms (Jvm.Cond.code x code maxLocals ret :: tables_1)).before args0 about1 = true := by
  rw [allAtoms_all]
  show words1.all (fun c => c.before args0 about1) = true
  refine all_split ?_ w_codes
  rw [← List.take_append_drop 24 words1, List.all_append, w_t1, ← List.take_append_drop 24 (words1.drop 24), List.all_append, w_t2, w_t3]
  rfl
set_option maxRecDepth 65536 in
theorem w_rest : rest_1_c.before args0 about1 = true := by decide +kernel
set_option maxRecDepth 65536 in
theorem w_case : (Jvm.Cond.and given_1 narrow_1).before args0 about1 = true := by decide +kernel
set_option maxRecDepth 65536 in
theorem w_consts : constsHeld consts_1 about1 := Jvm.Lit.constsHeldB_iff.mp (by decide +kernel)
theorem w_applies : (headSpec (Jvm.Cond.code x code maxLocals ret :: tables_1) room_1).applies x e0.platform about1 = true :=
  (Spec.applies_iff w_frames).mpr ⟨w_running, w_runnable, w_alone, w_named, w_hears, w_ripe, w_room, w_tables⟩
theorem atStart : AtStart classFile x code maxLocals ret World_1 tables_1 room_1 Calls_1 rest_1 Pre_1 launch0 p0 e0 about1 theMethod args0 below0 :=
  ⟨lists_1, trivial, launch0.admits_env _ _ _, launch0.least_env, fairChoices_fair.cas, fairChoices_fair.clock, w_frames, w_args, w_heap, w_applies, ⟨w_consts, trivial⟩, w_rest, w_case⟩
end start1
theorem witness_1 : WitnessClaimed_1 := ⟨start1.p0, start1.e0, start1.about1, start1.theMethod, start1.args0, start1.below0, start1.atStart⟩
end Jvm.Pilot.@@N@@
