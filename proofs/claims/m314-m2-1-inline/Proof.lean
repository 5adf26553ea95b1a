import JvmDerived
import JvmDerived.Pilot.@@N@@Statement
import JvmDerived.Pilot.@@N@@Code
set_option linter.unusedVariables false
set_option linter.unusedSimpArgs false

namespace Jvm.RoadKit
open Sem ClassFile Op Lib Jvm.Stand Jvm.Free Jvm.LawKit
/-- the run from S comes to an end that K allows -/
def own_G (p : Program) (e : Env) (below : List Frame) (K : Outcome → State → Prop) (S : State) : Prop := ∃ s₂ o, Steps p.tables e below S s₂ ∧ s₂.status = .running ∧ Ended s₂ below o ∧ K o s₂
section Own
variable {p : Program} {l : Launch} {e : Env} {R : Room} {s : State} {m : MethodId} {args : Array Value} {below : List Frame} {meth : Method} {c : Code} {T : State} {locs : List Loc} {cells slots : Nat} {K : Outcome → State → Prop} {S S' : State}
theorem own_go (h : ∀ t, Steps p.tables e below S' t → Steps p.tables e below S t) (g : own_G p e below K S') : own_G p e below K S := by
  obtain ⟨s₂, o, h1, h2⟩ := g; exact ⟨s₂, o, h _ h1, h2⟩
theorem own_tr (h : Steps p.tables e below S S') (g : own_G p e below K S') : own_G p e below K S := by
  obtain ⟨s₂, o, h1, h2⟩ := g; exact ⟨s₂, o, h.trans h1, h2⟩
theorem own_frl {k : Nat} {L L' Lc : List Loc} (q : L = L' ++ Lc) (N : Fr k L') (N' : Fr k Lc) : Fr k L := q ▸ N.app N'
theorem own_cast {g g' : JFrame} (q : g = g') (k : own_G p e below K (T.setTop g')) : own_G p e below K (T.setTop g) := q ▸ k
theorem own_end {v : Option Value} (X : Stand p l e R s m args below meth c T locs cells slots) (hv : meth.sig.returnType = none → v = none) (hlocks : meth.locks = false)
    (hst : ∀ fs, (∀ (f : JFrame) (acts : List Action), f.method = m → f.locked = none → f.entered = [] → (doReturn e (T.setTop f) acts v).1 = T.setFrames fs) → Steps p.tables e below S (T.setFrames fs))
    (hk : ∀ U : State, U.heap = T.heap → U.vm = T.vm → FrameEnd s (.returned v) U locs cells slots → K (.returned v) U) : own_G p e below K S := by
  obtain ⟨fs, hr, hrun, hended, hW, hsame⟩ := X.leave (v := v) hv hlocks
  exact ⟨_, _, hst fs hr, hrun, hended, hk _ rfl rfl ⟨⟨_, rfl⟩, hW, hsame⟩⟩
theorem own_retN (X : Stand p l e R s m args below meth c T locs cells slots) (hx : p.tables.exec = Jvm.exec) (hlocks : meth.locks = false) {pc : Nat} {Ls : Array Slot} {z z' : Int32} {t : FieldType} {rest : List Value} (hret : meth.sig.returnType = some t) (ht : t = .boolean ∨ t = .byte ∨ t = .char ∨ t = .short)
    (hd : decode c.code pc = .ok (.ireturn, 1)) (hz : nar t z = z') (hk : ∀ U : State, U.heap = T.heap → U.vm = T.vm → FrameEnd s (.returned (some (.int z'))) U locs cells slots → K (.returned (some (.int z'))) U) :
    own_G p e below K (T.setTop (mkF m pc Ls (.int z :: rest))) := by
  subst hz
  exact own_end X (fun h => by rw [hret] at h; cases h) hlocks (fun fs hr => retN X hx hret ht hd hr) hk
theorem own_retI (X : Stand p l e R s m args below meth c T locs cells slots) (hx : p.tables.exec = Jvm.exec) (hlocks : meth.locks = false) {pc : Nat} {Ls : Array Slot} {z : Int32} {rest : List Value} (hret : meth.sig.returnType = some .int)
    (hd : decode c.code pc = .ok (.ireturn, 1)) (hk : ∀ U : State, U.heap = T.heap → U.vm = T.vm → FrameEnd s (.returned (some (.int z))) U locs cells slots → K (.returned (some (.int z))) U) :
    own_G p e below K (T.setTop (mkF m pc Ls (.int z :: rest))) :=
  own_end X (fun h => by rw [hret] at h; cases h) hlocks (fun fs hr => retOut X hx hret rfl (Or.inl ⟨rfl, Or.inl rfl, z, rfl⟩) hd hr) hk
theorem own_retJ (X : Stand p l e R s m args below meth c T locs cells slots) (hx : p.tables.exec = Jvm.exec) (hlocks : meth.locks = false) {pc : Nat} {Ls : Array Slot} {z : Int64} {rest : List Value} (hret : meth.sig.returnType = some .long)
    (hd : decode c.code pc = .ok (.lreturn, 1)) (hk : ∀ U : State, U.heap = T.heap → U.vm = T.vm → FrameEnd s (.returned (some (.long z))) U locs cells slots → K (.returned (some (.long z))) U) :
    own_G p e below K (T.setTop (mkF m pc Ls (.long z :: rest))) :=
  own_end X (fun h => by rw [hret] at h; cases h) hlocks (fun fs hr => retOut X hx hret rfl (Or.inr (Or.inl ⟨rfl, rfl, z, rfl⟩)) hd hr) hk
theorem own_retR (X : Stand p l e R s m args below meth c T locs cells slots) (hx : p.tables.exec = Jvm.exec) (hlocks : meth.locks = false) {pc : Nat} {Ls : Array Slot} {w : Value} {t : FieldType} {rest : List Value} (hret : meth.sig.returnType = some t) (ht : t.isReference = true) (hw : w.isRef = true)
    (hd : decode c.code pc = .ok (.areturn, 1)) (hk : ∀ U : State, U.heap = T.heap → U.vm = T.vm → FrameEnd s (.returned (some w)) U locs cells slots → K (.returned (some w)) U) :
    own_G p e below K (T.setTop (mkF m pc Ls (w :: rest))) :=
  own_end X (fun h => by rw [hret] at h; cases h) hlocks (fun fs hr => retOut X hx hret (by cases w <;> cases t <;> first | rfl | simp [Value.isRef, FieldType.isReference] at hw ht) (Or.inr (Or.inr (Or.inr (Or.inr ⟨rfl, ht, hw⟩)))) hd hr) hk
theorem own_retV (X : Stand p l e R s m args below meth c T locs cells slots) (hx : p.tables.exec = Jvm.exec) (hlocks : meth.locks = false) {pc : Nat} {Ls : Array Slot} (hret : meth.sig.returnType = none)
    (hd : decode c.code pc = .ok (.return_, 1)) (hk : ∀ U : State, U.heap = T.heap → U.vm = T.vm → FrameEnd s (.returned none) U locs cells slots → K (.returned none) U) :
    own_G p e below K (T.setTop (mkF m pc Ls [])) :=
  own_end X (fun _ => rfl) hlocks (fun fs hr => X.returnOut hx hret hd hr) hk
theorem own_endW {vm₁ : Vm} {v : Option Value} {n : Nat} (X : Stand p l e R (s.setVm vm₁) m args below meth c T locs cells slots) (hS : s.Since vm₁ n) (hn : n ≤ T.heap.size) (hv : meth.sig.returnType = none → v = none) (hlocks : meth.locks = false)
    (hst : ∀ fs, (∀ (f : JFrame) (acts : List Action), f.method = m → f.locked = none → f.entered = [] → (doReturn e (T.setTop f) acts v).1 = T.setFrames fs) → Steps p.tables e below S (T.setFrames fs))
    (hk : ∀ U : State, U.heap = T.heap → U.vm = T.vm → ReturnedEndW s (.returned v) U locs cells slots → K (.returned v) U) : own_G p e below K S := by
  obtain ⟨fs, hr, hrun, hended, hW⟩ := X.leaveW hS hn (v := v) hv hlocks
  exact ⟨_, _, hst fs hr, hrun, hended, hk _ rfl rfl hW⟩
theorem own_retNW {vm₁ : Vm} {n : Nat} (X : Stand p l e R (s.setVm vm₁) m args below meth c T locs cells slots) (hS : s.Since vm₁ n) (hn : n ≤ T.heap.size) (hx : p.tables.exec = Jvm.exec) (hlocks : meth.locks = false) {pc : Nat} {Ls : Array Slot} {z z' : Int32} {t : FieldType} {rest : List Value} (hret : meth.sig.returnType = some t) (ht : t = .boolean ∨ t = .byte ∨ t = .char ∨ t = .short)
    (hd : decode c.code pc = .ok (.ireturn, 1)) (hz : nar t z = z') (hk : ∀ U : State, U.heap = T.heap → U.vm = T.vm → ReturnedEndW s (.returned (some (.int z'))) U locs cells slots → K (.returned (some (.int z'))) U) :
    own_G p e below K (T.setTop (mkF m pc Ls (.int z :: rest))) := by
  subst hz
  exact own_endW X hS hn (fun h => by rw [hret] at h; cases h) hlocks (fun fs hr => retN X hx hret ht hd hr) hk
theorem own_retIW {vm₁ : Vm} {n : Nat} (X : Stand p l e R (s.setVm vm₁) m args below meth c T locs cells slots) (hS : s.Since vm₁ n) (hn : n ≤ T.heap.size) (hx : p.tables.exec = Jvm.exec) (hlocks : meth.locks = false) {pc : Nat} {Ls : Array Slot} {z : Int32} {rest : List Value} (hret : meth.sig.returnType = some .int)
    (hd : decode c.code pc = .ok (.ireturn, 1)) (hk : ∀ U : State, U.heap = T.heap → U.vm = T.vm → ReturnedEndW s (.returned (some (.int z))) U locs cells slots → K (.returned (some (.int z))) U) :
    own_G p e below K (T.setTop (mkF m pc Ls (.int z :: rest))) :=
  own_endW X hS hn (fun h => by rw [hret] at h; cases h) hlocks (fun fs hr => retOut X hx hret rfl (Or.inl ⟨rfl, Or.inl rfl, z, rfl⟩) hd hr) hk
theorem own_retRW {vm₁ : Vm} {n : Nat} (X : Stand p l e R (s.setVm vm₁) m args below meth c T locs cells slots) (hS : s.Since vm₁ n) (hn : n ≤ T.heap.size) (hx : p.tables.exec = Jvm.exec) (hlocks : meth.locks = false) {pc : Nat} {Ls : Array Slot} {w : Value} {t : FieldType} {rest : List Value} (hret : meth.sig.returnType = some t) (ht : t.isReference = true) (hw : w.isRef = true)
    (hd : decode c.code pc = .ok (.areturn, 1)) (hk : ∀ U : State, U.heap = T.heap → U.vm = T.vm → ReturnedEndW s (.returned (some w)) U locs cells slots → K (.returned (some w)) U) :
    own_G p e below K (T.setTop (mkF m pc Ls (w :: rest))) :=
  own_endW X hS hn (fun h => by rw [hret] at h; cases h) hlocks (fun fs hr => retOut X hx hret (by cases w <;> cases t <;> first | rfl | simp [Value.isRef, FieldType.isReference] at hw ht) (Or.inr (Or.inr (Or.inr (Or.inr ⟨rfl, ht, hw⟩)))) hd hr) hk
theorem own_retVW {vm₁ : Vm} {n : Nat} (X : Stand p l e R (s.setVm vm₁) m args below meth c T locs cells slots) (hS : s.Since vm₁ n) (hn : n ≤ T.heap.size) (hx : p.tables.exec = Jvm.exec) (hlocks : meth.locks = false) {pc : Nat} {Ls : Array Slot} (hret : meth.sig.returnType = none)
    (hd : decode c.code pc = .ok (.return_, 1)) (hk : ∀ U : State, U.heap = T.heap → U.vm = T.vm → ReturnedEndW s (.returned none) U locs cells slots → K (.returned none) U) :
    own_G p e below K (T.setTop (mkF m pc Ls [])) :=
  own_endW X hS hn (fun _ => rfl) hlocks (fun fs hr => X.returnOut hx hret hd hr) hk
end Own
end Jvm.RoadKit
/- laws to paste: Road.eqW (cut by pick.py; bodies as the Statement names them) -/
namespace Jvm.Pilot.@@N@@
namespace StrChars
open Jvm Sem ClassFile Op Lib Jvm.Stand Jvm.Free.XT Jvm.Free.ALB Jvm.Free.JM Jvm.Free
open Jvm.Lib.Cold (StaticIs)
/-- the byte that i2b leaves of a char -/
def lo8 (x : Int32) : Int32 := x.toInt8.toInt32
theorem fits_lo8 (y : Int32) : fits .byte (.int (lo8 y)) = true := by
  have h1 := y.toInt8.le_toInt
  have h2 := y.toInt8.toInt_lt
  simp only [lo8, fits, Bool.and_eq_true, decide_eq_true_eq, Int32.le_iff_toInt_le, Int8.toInt_toInt32, show (-128 : Int32).toInt = -128 from by decide, show (127 : Int32).toInt = 127 from by decide]
  omega
def U16 : String := "java/lang/StringUTF16"
namespace Cmp5
def yN : MethodName := ⟨"java/lang/StringUTF16", "compress", "([CI[BII)I"⟩
abbrev yB : ByteArray := jdk_52_method_21_code
end Cmp5
namespace Cmp3
def yN : MethodName := ⟨"java/lang/StringUTF16", "compress", "([CII)[B"⟩
abbrev yB : ByteArray := jdk_52_method_16_code
end Cmp3
namespace CodL
def yN : MethodName := ⟨"java/lang/StringUTF16", "coderFromArrayLen", "([BI)B"⟩
abbrev yB : ByteArray := jdk_52_method_15_code
end CodL
namespace New4
def yN : MethodName := ⟨"java/lang/String", "<init>", "([CIILjava/lang/Void;)V"⟩
abbrev yB : ByteArray := jdk_42_method_149_code
end New4
namespace New1
def yN : MethodName := ⟨"java/lang/String", "<init>", "([C)V"⟩
abbrev yB : ByteArray := jdk_42_method_3_code
end New1
/-- the byte, read back as charAt reads it, is the char -/
theorem lo8_mask {x : Int32} (h0 : ¬ x < 0) (h1 : ¬ 255 < x) : lo8 x &&& 255 = x := by
  have t : ∀ k : Fin 256, lo8 (Int32.ofNat k.val) &&& 255 = Int32.ofNat k.val := by decide +kernel
  rw [Int32.lt_iff_toInt_lt] at h0 h1
  have e0 : (0 : Int32).toInt = 0 := rfl
  have e1 : (255 : Int32).toInt = 255 := rfl
  obtain ⟨k, hk⟩ : ∃ k : Nat, x.toInt = k := ⟨x.toInt.toNat, by omega⟩
  have hx : x = Int32.ofNat k := Int32.toInt_inj.mp (by rw [hk, Int32.toInt_ofNat_small (by omega)])
  rw [hx]
  exact t ⟨k, by omega⟩
end StrChars
namespace StrChars.Road
open Jvm Sem ClassFile Op Lib Jvm.Stand Jvm.Free Jvm.Free.XT
open Jvm.Lib.Cold (StaticIs)
abbrev ST : String := "java/lang/String"

end StrChars.Road
namespace StrChars
open Jvm Sem ClassFile Op Lib Jvm.Stand Jvm.Free.XT Jvm.Free.ALB Jvm.Free.JM Jvm.Free
open Jvm.Lib.Cold (StaticIs)
def hi8 (x : Int32) : Int32 := lo8 (x >>> ((8 : Int32) &&& 31))
/-- what StringUTF16.getChar makes of two bytes -/
def pairCh (u v : Int32) : Int32 := (((u &&& 255) <<< ((0 : Int32) &&& 31)) ||| ((v &&& 255) <<< ((8 : Int32) &&& 31))).toUInt32.toUInt16.toUInt32.toInt32
theorem lo8_and (x : Int32) : (lo8 x &&& 255).toBitVec.toNat = x.toBitVec.toNat % 256 := by
  have h : (lo8 x).toBitVec = (x.toBitVec.signExtend 8).signExtend 32 := by rw [lo8, Int8.toBitVec_toInt32, Int32.toBitVec_toInt8]
  rw [Int32.toBitVec_and, BitVec.toNat_and, h]
  have e : ((x.toBitVec.signExtend 8).signExtend 32).toNat % 256 = x.toBitVec.toNat % 256 := by
    rw [BitVec.toNat_signExtend]
    have hlt := x.toBitVec.isLt
    simp only [BitVec.toNat_setWidth, BitVec.toNat_signExtend]
    split <;> split <;> omega
  rw [← e]
  exact Nat.and_two_pow_sub_one_eq_mod _ 8
theorem pair_says {c : Int32} (h0 : ¬ c < 0) (h1 : ¬ 65535 < c) : pairCh (lo8 c) (hi8 c) = c := by
  rw [Int32.lt_iff_toInt_lt] at h0 h1
  have e0 : (0 : Int32).toInt = 0 := rfl
  have e1 : (65535 : Int32).toInt = 65535 := rfl
  have hc : c.toInt = c.toBitVec.toNat := by
    have := c.toBitVec.isLt
    have e : c.toInt = c.toBitVec.toInt := rfl
    rw [e] at h0 h1
    rw [e]
    rw [BitVec.toInt_eq_toNat_cond] at h0 h1 ⊢
    split at h0 <;> split <;> omega
  have hn : c.toBitVec.toNat < 65536 := by omega
  have a1 := lo8_and c
  have a2 : (hi8 c &&& 255).toBitVec.toNat = c.toBitVec.toNat / 256 := by
    rw [hi8, lo8_and]
    have e : ((8 : Int32) &&& 31) = 8 := by decide
    rw [e, Int32.toBitVec_shiftRight]
    have e2 : ((8 : Int32).toBitVec.smod 32) = 8#32 := by decide
    rw [e2, BitVec.sshiftRight_eq', BitVec.toNat_sshiftRight_of_msb_false (by rw [BitVec.msb_eq_false_iff_two_mul_lt]; omega)]
    show c.toBitVec.toNat >>> 8 % 256 = _
    rw [Nat.shiftRight_eq_div_pow]
    omega
  unfold pairCh
  apply Int32.toBitVec_inj.mp
  apply BitVec.eq_of_toNat_eq
  have f0 : ((0 : Int32) &&& 31) = 0 := by decide
  have f8 : ((8 : Int32) &&& 31) = 8 := by decide
  rw [f0, f8]
  have g : (((lo8 c &&& 255) <<< (0 : Int32)) ||| ((hi8 c &&& 255) <<< (8 : Int32))).toBitVec.toNat = c.toBitVec.toNat := by
    rw [Int32.toBitVec_or, Int32.toBitVec_shiftLeft, Int32.toBitVec_shiftLeft]
    have s0 : ((0 : Int32).toBitVec.smod 32) = 0#32 := by decide
    have s8 : ((8 : Int32).toBitVec.smod 32) = 8#32 := by decide
    rw [s0, s8, BitVec.toNat_or]
    simp only [BitVec.shiftLeft_eq', BitVec.toNat_shiftLeft, a1, a2]
    show (c.toBitVec.toNat % 256) <<< 0 % 2 ^ 32 ||| (c.toBitVec.toNat / 256) <<< 8 % 2 ^ 32 = _
    rw [Nat.shiftLeft_zero, Nat.mod_eq_of_lt (show c.toBitVec.toNat % 256 < 2 ^ 32 by omega), Nat.mod_eq_of_lt (show (c.toBitVec.toNat / 256) <<< 8 < 2 ^ 32 by rw [Nat.shiftLeft_eq]; omega), Nat.or_comm, ← Nat.shiftLeft_add_eq_or_of_lt (by omega), Nat.shiftLeft_eq]
    omega
  show BitVec.toNat (((((lo8 c &&& 255) <<< (0 : Int32)) ||| ((hi8 c &&& 255) <<< (8 : Int32))).toBitVec.setWidth 16).setWidth 32) = _
  rw [BitVec.toNat_setWidth, BitVec.toNat_setWidth, g]
  omega
end StrChars
namespace StrChars
open Jvm Sem ClassFile Op Lib Jvm.Stand Jvm.Free.XT Jvm.Free.ALB Jvm.Free.JM Jvm.Free
open Jvm.Lib.Cold (StaticIs)
/-- the array's cell V codes the n chars f 0 .. f (n - 1) by the coder cd, as the JDK does: coder 1 just where some char is above 255 -/
def Cod (cd : Int32) (n : Nat) (f : Nat → Int32) (V : Cell) : Prop := (cd = 0 ∧ V.slots.size = n ∧ ∀ j, j < n → V.slots[j]? = some (.int (lo8 (f j))) ∧ ¬ 255 < f j) ∨ (cd = 1 ∧ V.slots.size = 2 * n ∧ (∀ j, j < n → V.slots[2 * j]? = some (.int (lo8 (f j))) ∧ V.slots[2 * j + 1]? = some (.int (hi8 (f j)))) ∧ ∃ j, j < n ∧ 255 < f j)
/-- **x is a String of the n chars f 0 .. f (n - 1)**, Latin-1 or UTF-16; its array at t has the cell V -/
def Txt (x t : Addr) (V : Cell) (cd : Int32) (n : Nat) (f : Nat → Int32) (U : State) : Prop := Exact "java/lang/String" x U ∧ Has x "java/lang/String" "value" "[B" (.ref t) U ∧ Has x "java/lang/String" "coder" "B" (.int cd) U ∧ XT.Arr .byte t V U ∧ Cod cd n f V ∧ ∀ j, j < n → ¬ f j < 0 ∧ ¬ 65535 < f j
theorem Txt.mv {x t : Addr} {V : Cell} {cd : Int32} {n : Nat} {f : Nat → Int32} {U U' : State} (h : Txt x t V cd n f U) (hal : U.vm.Alike U'.vm) (hh : U'.heap = U.heap) : Txt x t V cd n f U' := ⟨h.1.mv hal hh, h.2.1.mv hal hh, h.2.2.1.mv hal hh, h.2.2.2.1.mv hal hh, h.2.2.2.2⟩
end StrChars
namespace StrChars.Road
open Jvm Sem ClassFile Op Lib Jvm.Stand Jvm.Free Jvm.Free.XT
open Jvm.Lib.Cold (StaticIs)
theorem consq {a : Array Value} {s : State} {c : Jvm.Cond} {L : List Jvm.Cond} (h0 : c.before a s = true) (h : ∀ w ∈ L, w.before a s = true) : ∀ w ∈ c :: L, w.before a s = true := fun w hw => (List.mem_cons.mp hw).elim (fun e => e ▸ h0) (h w)
/-- the bytes of the chars cs, low before high -/
def wideBytes : List Int32 → List Value
  | [] => []
  | c :: cs => .int (lo8 c) :: .int (hi8 c) :: wideBytes cs
theorem wide_lo (d : Value) : ∀ (cs : List Int32) (j : Nat), j < cs.length → (wideBytes cs).getD (2 * j) d = .int (lo8 (cs.getD j 0))
  | [], j, h => absurd h (Nat.not_lt_zero j)
  | c :: cs, 0, _ => rfl
  | c :: cs, j + 1, h => by
    have q := wide_lo d cs j (by simpa using h)
    rw [show 2 * (j + 1) = 2 * j + 1 + 1 from by omega]
    simpa [wideBytes] using q
theorem wide_hi (d : Value) : ∀ (cs : List Int32) (j : Nat), j < cs.length → (wideBytes cs).getD (2 * j + 1) d = .int (hi8 (cs.getD j 0))
  | [], j, h => absurd h (Nat.not_lt_zero j)
  | c :: cs, 0, _ => rfl
  | c :: cs, j + 1, h => by
    have q := wide_hi d cs j (by simpa using h)
    rw [show 2 * (j + 1) + 1 = 2 * j + 1 + 1 + 1 from by omega]
    simpa [wideBytes] using q
theorem low_at (d : Value) (cs : List Int32) (j : Nat) (h : j < cs.length) : (cs.map fun c => Value.int (lo8 c)).getD j d = .int (lo8 (cs.getD j 0)) := by
  simp [List.getD_eq_getElem?_getD, h]
/-- an array of N2 bytes vs codes the chars cs by the coder cd -/
def CodA (cs : List Int32) (cd N2 : Int32) (vs : List Value) : Prop := (cd = 0 ∧ N2 = Int32.ofNat cs.length ∧ vs = (cs.map fun c => Value.int (lo8 c)) ∧ ∀ c ∈ cs, ¬ 255 < c) ∨ (cd = 1 ∧ N2 = Int32.ofNat (2 * cs.length) ∧ vs = wideBytes cs ∧ ∃ c ∈ cs, 255 < c)
theorem CodA.cod {cs : List Int32} {cd N2 : Int32} {vs : List Value} {V : Cell} (h : CodA cs cd N2 vs) (hn : 2 * cs.length < 2 ^ 31) (hs : V.slots.size = N2.toNatClampNeg) (hv : RoadKit.Has V vs (.int 0)) : Cod cd cs.length (fun j => cs.getD j 0) V := by
  rcases h with ⟨rfl, rfl, rfl, h⟩ | ⟨rfl, rfl, rfl, c, hc, hw⟩
  · rw [n32 (by omega)] at hs
    exact Or.inl ⟨rfl, hs, fun j hj => ⟨by rw [hv j (by omega), low_at _ _ _ hj], by
      have e : cs.getD j 0 = cs[j] := by simp [List.getD_eq_getElem?_getD, hj]
      show ¬ 255 < cs.getD j 0
      rw [e]; exact h _ (List.getElem_mem _)⟩⟩
  · rw [n32 (by omega)] at hs
    obtain ⟨j, hj, rfl⟩ := List.getElem_of_mem hc
    exact Or.inr ⟨rfl, hs, fun j hj => ⟨by rw [hv _ (by omega), wide_lo _ _ _ hj], by rw [hv _ (by omega), wide_hi _ _ _ hj]⟩, j, hj, by
      have e : cs.getD j 0 = cs[j] := by simp [List.getD_eq_getElem?_getD, hj]
      show 255 < cs.getD j 0
      rw [e]; exact hw⟩
/-- an object of exactly java/lang/String, its two fields found: as the laws ask it -/
theorem strObj {Z U : State} {a0 : Array Value} {kI : Nat} (wi : (Jvm.Cond.instantiable ST kI).before a0 Z = true) (al : Z.vm.Alike U.vm) {x : Addr} {v0 c0 : Value} (E : RoadKit.Exa Z U.heap x ST) (V : RoadKit.Fld Z U.heap x ST "value" "[B" v0) (C : RoadKit.Fld Z U.heap x ST "coder" "B" c0) :
    ∃ (D : Cell) (fV fC : Field), Blank ST x D U ∧ Found ST "value" "[B" fV U ∧ Found ST "coder" "B" fC U ∧ D.slots[fV.slot]? = some v0 ∧ D.slots[fC.slot]? = some c0 ∧ RoadKit.slotOf Z ST "value" "[B" = fV.slot ∧ RoadKit.slotOf Z ST "coder" "B" = fC.slot := by
  obtain ⟨D, cfV, kV, iV, fV, hD, gV, stV, knV, obV, asV, slV⟩ := V
  obtain ⟨D', cfC, kC, iC, fC, hD', gC, stC, -, -, asC, slC⟩ := C
  cases hD.symm.trans hD'
  obtain ⟨D2, kD, e1, e2, e3, e4, e5⟩ := E
  cases hD.symm.trans e1
  obtain ⟨c2, k2, i1, i2, i3, -⟩ := Cond.instantiable_spec wi
  cases e2.symm.trans i1
  cases e3.symm.trans i2
  obtain ⟨kU, u1, u2⟩ := al.2.2 _ _ e3
  exact ⟨D, fV, fC, ⟨hD, ⟨knV, fun q hq => by rw [hq] at obV; cases obV⟩, by rw [al.findClass]; exact e2, kU, u1, by rw [u2]; exact i3, by rw [u2]; exact e5 i3⟩, ⟨SBG.found_only al ⟨cfV, kV, iV, gV⟩, stV⟩, ⟨SBG.found_only al ⟨cfC, kC, iC, gC⟩, stC⟩, slV, slC, by simp [RoadKit.slotOf, gV], by simp [RoadKit.slotOf, gC]⟩
theorem sta_is {Z U : State} (al : Z.vm.Alike U.vm) {C n d : String} {v : Value} (S : RoadKit.Sta Z U.heap C n d v) : StaticIs U C n d v := by
  obtain ⟨cfS, iS, kS, fS, st, cS, t1, t2, t3, t4, t5, t6, t7⟩ := S
  exact StaticIs.there (s := { Z with heap := U.heap }) ⟨cfS, iS, kS, fS, st, cS, t1, t2, t3, t4, t5, (fun q => by rw [q] at t6; cases t6), t7⟩ al rfl
end StrChars.Road
namespace StrChars
open Jvm Sem ClassFile Op Lib Jvm.Stand Jvm.Free.XT Jvm.Free.ALB Jvm.Free.JM Jvm.Free
open Jvm.Lib.Cold (StaticIs)
/-- what place i of a byte[]'s cell holds -/
def yv (A : Cell) (i : Nat) : Int32 := match A.slots[i]? with | some (.int x) => x | _ => 0
theorem yv_get {a : Addr} {A : Cell} {U : State} (h : XT.Arr .byte a A U) (ht : Typed .byte A) {i : Nat} (hi : i < A.slots.size) : A.slots[i]? = some (.int (yv A i)) := by
  have e := Array.getElem?_eq_getElem hi
  have f := ht i _ e
  unfold yv; rw [e]
  generalize A.slots[i] = v at f
  cases v <;> simp [fits] at f ⊢
/-- the two arrays are equal, place for place -/
def EqC (A B : Cell) : Prop := A.slots.size = B.slots.size ∧ ∀ i, i < A.slots.size → yv A i = yv B i
/-- a boolean that says whether p -/
def Says01 (q : Prop) (r : Option Value) (s u : State) : Prop := ∃ v : Int32, r = some (.int v) ∧ u.heap = s.heap ∧ ((v = 1 ∧ q) ∨ (v = 0 ∧ ¬ q))
theorem Says01.mv {q : Prop} : ∀ r (U U' V V' : State), U'.heap = U.heap → V.vm.Alike V'.vm → V'.heap = V.heap → Says01 q r U V → Says01 q r U' V' :=
  fun r U U' V V' h1 _ h2 ⟨v, a, b, c⟩ => ⟨v, a, by rw [h1, h2]; exact b, c⟩
namespace LEq
def yN : MethodName := ⟨"java/lang/StringLatin1", "equals", "([B[B)Z"⟩
abbrev yB : ByteArray := jdk_43_method_13_code
theorem d0 : decode yB 0 = .ok (.aload_n 0, 1) := by decide +kernel
theorem d1 : decode yB 1 = .ok (.arraylength, 1) := by decide +kernel
theorem d2 : decode yB 2 = .ok (.aload_n 1, 1) := by decide +kernel
theorem d3 : decode yB 3 = .ok (.arraylength, 1) := by decide +kernel
theorem d4 : decode yB 4 = .ok (.if_icmp (.ne) 30, 3) := by decide +kernel
theorem d7 : decode yB 7 = .ok (.iconst 0, 1) := by decide +kernel
theorem d8 : decode yB 8 = .ok (.istore_n 2, 1) := by decide +kernel
theorem d9 : decode yB 9 = .ok (.iload_n 2, 1) := by decide +kernel
theorem d10 : decode yB 10 = .ok (.aload_n 0, 1) := by decide +kernel
theorem d11 : decode yB 11 = .ok (.arraylength, 1) := by decide +kernel
theorem d12 : decode yB 12 = .ok (.if_icmp (.ge) 20, 3) := by decide +kernel
theorem d15 : decode yB 15 = .ok (.aload_n 0, 1) := by decide +kernel
theorem d16 : decode yB 16 = .ok (.iload_n 2, 1) := by decide +kernel
theorem d17 : decode yB 17 = .ok (.baload, 1) := by decide +kernel
theorem d18 : decode yB 18 = .ok (.aload_n 1, 1) := by decide +kernel
theorem d19 : decode yB 19 = .ok (.iload_n 2, 1) := by decide +kernel
theorem d20 : decode yB 20 = .ok (.baload, 1) := by decide +kernel
theorem d21 : decode yB 21 = .ok (.if_icmp (.eq) 5, 3) := by decide +kernel
theorem d24 : decode yB 24 = .ok (.iconst 0, 1) := by decide +kernel
theorem d25 : decode yB 25 = .ok (.ireturn, 1) := by decide +kernel
theorem d26 : decode yB 26 = .ok (.iinc 2 1, 3) := by decide +kernel
theorem d29 : decode yB 29 = .ok (.goto (-20), 3) := by decide +kernel
theorem d32 : decode yB 32 = .ok (.iconst 1, 1) := by decide +kernel
theorem d33 : decode yB 33 = .ok (.ireturn, 1) := by decide +kernel
theorem d34 : decode yB 34 = .ok (.iconst 0, 1) := by decide +kernel
theorem d35 : decode yB 35 = .ok (.ireturn, 1) := by decide +kernel
def site : List Cond := []
def tab : Cond := tabOf yN yB 3 (some .boolean) site
def P (a : Addr) (A : Cell) (b : Addr) (B : Cell) (args : Array Value) (s : State) : Prop := args = #[.ref a, .ref b] ∧ XT.Arr .byte a A s ∧ Typed .byte A ∧ XT.Arr .byte b B s ∧ Typed .byte B
/-- whether two byte[] are equal, place for place -/
theorem law (l : Launch) (a : Addr) (A : Cell) (b : Addr) (B : Cell) : Law l yN 2 2 0 0 yB 3 (some .boolean) site (P a A b B) (Says01 (EqC A B)) [] 0 0 := by
  refine Law.of_walk (plainFor_of_name (by decide +kernel)) (by decide +kernel) (by decide +kernel) (by decide) (fun _ _ h => by rw [h.1]; rfl) (fun _ U U' hal hh h => ⟨h.1, h.2.1.mv hal hh, h.2.2.1, h.2.2.2.1.mv hal hh, h.2.2.2.2⟩) (fun r U U' V V' h1 hal h2 h => Says01.mv r U U' V V' h1 hal h2 h) ?_
  intro p e s m args below meth c s₁ X0 hexec hbytes hml hret hlk hnm hown hh0 W hP
  obtain ⟨rfl, hA, tA, hB, tB⟩ := hP
  have a31 := hA.2.2.2
  have b31 := hB.2.2.2
  have hA0 := hA.mv X0.warmed.alike hh0
  have hB0 := hB.mv X0.warmed.alike hh0
  have c1 : Steps p.tables e below (s₁.setTop (entryFrame m #[.ref a, .ref b] 3)) (s₁.setTop (mkF m 0 #[.val (.ref a), .val (.ref b), .unset] [])) := entry rfl
  have c2 : Steps p.tables e below (s₁.setTop (entryFrame m #[.ref a, .ref b] 3)) (s₁.setTop (mkF m 4 #[.val (.ref a), .val (.ref b), .unset] [.int (Int32.ofNat B.slots.size), .int (Int32.ofNat A.slots.size)])) := c1.trans (by
    refine XS.aloadN X0.here hexec rfl (hb hbytes d0) rfl rfl ?_
    refine X0.alen hexec hA0 rfl rfl (hb hbytes d1) ?_
    refine XS.aloadN X0.here hexec rfl (hb hbytes d2) rfl rfl ?_
    refine X0.alen hexec hB0 rfl rfl (hb hbytes d3) ?_
    exact Steps.refl _)
  by_cases hs : A.slots.size = B.slots.size
  · have c3 : Steps p.tables e below (s₁.setTop (entryFrame m #[.ref a, .ref b] 3)) (s₁.setTop (mkF m 9 #[.val (.ref a), .val (.ref b), .val (.int 0)] [])) := c2.trans (by
      refine XS.icmpNo X0.here hexec rfl (hb hbytes d4) rfl (ii_ne_f (by rw [hs])) ?_
      refine iconstV X0.here hexec rfl 0 (hb hbytes d7) (by decide) ?_
      refine XS.istoreN X0.here hexec rfl (hb hbytes d8) rfl rfl ?_
      exact Steps.refl _)
    have loop : ∀ (r i : Nat), i + r = A.slots.size → (∀ j, j < i → yv A j = yv B j) → Steps p.tables e below (s₁.setTop (entryFrame m #[.ref a, .ref b] 3)) (s₁.setTop (mkF m 9 #[.val (.ref a), .val (.ref b), .val (.int (Int32.ofNat i))] [])) → ∃ (pc : Nat) (Ls : Array Slot) (v : Int32), (pc = 25 ∨ pc = 33) ∧ ((v = 1 ∧ EqC A B) ∨ (v = 0 ∧ ¬ EqC A B)) ∧ Steps p.tables e below (s₁.setTop (entryFrame m #[.ref a, .ref b] 3)) (s₁.setTop (mkF m pc Ls [.int v])) := by
      intro r
      induction r with
      | zero =>
        intro i hi he cl
        exact ⟨33, _, 1, Or.inr rfl, Or.inl ⟨rfl, hs, fun j hj => he j (by omega)⟩, cl.trans (by
          refine XS.iloadN X0.here hexec rfl (hb hbytes d9) rfl ?_
          refine XS.aloadN X0.here hexec rfl (hb hbytes d10) rfl rfl ?_
          refine X0.alen hexec hA0 rfl rfl (hb hbytes d11) ?_
          refine XS.icmpYes X0.here hexec rfl (pc0 := 12) rfl (hb hbytes d12) rfl (ii_ge_t (nlt32 (by omega) (by omega))) (by decide) rfl ?_
          refine iconstV X0.here hexec rfl 1 (hb hbytes d32) (by decide) ?_
          exact Steps.refl _)⟩
      | succ r ih =>
        intro i hi he cl
        have c4 : Steps p.tables e below (s₁.setTop (entryFrame m #[.ref a, .ref b] 3)) (s₁.setTop (mkF m 21 #[.val (.ref a), .val (.ref b), .val (.int (Int32.ofNat i))] [.int (yv B i), .int (yv A i)])) := cl.trans (by
          refine XS.iloadN X0.here hexec rfl (hb hbytes d9) rfl ?_
          refine XS.aloadN X0.here hexec rfl (hb hbytes d10) rfl rfl ?_
          refine X0.alen hexec hA0 rfl rfl (hb hbytes d11) ?_
          refine XS.icmpNo X0.here hexec rfl (hb hbytes d12) rfl (ii_ge_f (lt32 (by omega) (by omega))) ?_
          refine XS.aloadN X0.here hexec rfl (hb hbytes d15) rfl rfl ?_
          refine XS.iloadN X0.here hexec rfl (hb hbytes d16) rfl ?_
          refine X0.aget hexec hA0 rfl (yv_get hA tA (i := i) (by omega)) rfl rfl (hb hbytes d17) ?_
          refine XS.aloadN X0.here hexec rfl (hb hbytes d18) rfl rfl ?_
          refine XS.iloadN X0.here hexec rfl (hb hbytes d19) rfl ?_
          refine X0.aget hexec hB0 rfl (yv_get hB tB (i := i) (by omega)) rfl rfl (hb hbytes d20) ?_
          exact Steps.refl _)
        by_cases hv : yv A i = yv B i
        · have c5 : Steps p.tables e below (s₁.setTop (entryFrame m #[.ref a, .ref b] 3)) (s₁.setTop (mkF m 9 #[.val (.ref a), .val (.ref b), .val (.int (Int32.ofNat i + 1))] [])) := c4.trans (by
            refine XS.icmpYes X0.here hexec rfl (pc0 := 21) rfl (hb hbytes d21) rfl (ii_eq_t hv) (by decide) rfl ?_
            refine iincV X0.here hexec rfl 1 (hb hbytes d26) (by decide) rfl rfl ?_
            refine XS.goto X0.here hexec rfl (pc0 := 29) rfl (hb hbytes d29) (by decide) rfl ?_
            exact Steps.refl _)
          rw [succ32] at c5
          exact ih (i + 1) (by omega) (fun j hj => by
            by_cases e : j = i
            · rw [e]; exact hv
            · exact he j (by omega)) c5
        · exact ⟨25, _, 0, Or.inl rfl, Or.inr ⟨rfl, fun q => hv (q.2 i (by omega))⟩, c4.trans (by
            refine XS.icmpNo X0.here hexec rfl (hb hbytes d21) rfl (ii_eq_f hv) ?_
            refine iconstV X0.here hexec rfl 0 (hb hbytes d24) (by decide) ?_
            exact Steps.refl _)⟩
    obtain ⟨pc, Ls, v, hpc, hv, cz⟩ := loop A.slots.size 0 (by omega) (fun j hj => absurd hj (Nat.not_lt_zero j)) c3
    have nv : narrow .boolean (.int v) = .int v := by rcases hv with ⟨rfl, -⟩ | ⟨rfl, -⟩ <;> rfl
    rcases hpc with rfl | rfl
    · exact ⟨s₁, some (.int v), _, _, _, X0, rfl, rfl, rfl, (fun h => by cases h), ⟨v, rfl, hh0, hv⟩, fun fs hl => cz.trans (X0.ireturnOut hexec hret nv (Or.inr (Or.inl rfl)) (hb hbytes d25) hl)⟩
    · exact ⟨s₁, some (.int v), _, _, _, X0, rfl, rfl, rfl, (fun h => by cases h), ⟨v, rfl, hh0, hv⟩, fun fs hl => cz.trans (X0.ireturnOut hexec hret nv (Or.inr (Or.inl rfl)) (hb hbytes d33) hl)⟩
  · have c3 : Steps p.tables e below (s₁.setTop (entryFrame m #[.ref a, .ref b] 3)) (s₁.setTop (mkF m 35 #[.val (.ref a), .val (.ref b), .unset] [.int 0])) := c2.trans (by
      refine XS.icmpYes X0.here hexec rfl (pc0 := 4) rfl (hb hbytes d4) rfl (ii_ne_t (ne32 a31 b31 hs)) (by decide) rfl ?_
      refine iconstV X0.here hexec rfl 0 (hb hbytes d34) (by decide) ?_
      exact Steps.refl _)
    exact ⟨s₁, some (.int 0), _, _, _, X0, rfl, rfl, rfl, (fun h => by cases h), ⟨0, rfl, hh0, Or.inr ⟨rfl, fun q => hs q.1⟩⟩, fun fs hl => c3.trans (X0.ireturnOut hexec hret rfl (Or.inr (Or.inl rfl)) (hb hbytes d35) hl)⟩
end LEq
theorem Cod.ty {cd : Int32} {n : Nat} {f : Nat → Int32} {V : Cell} (h : Cod cd n f V) : Typed .byte V := fun i v hv => by
  have hi : i < V.slots.size := (Array.getElem?_eq_some_iff.mp hv).1
  rcases h with ⟨-, k1, k2⟩ | ⟨-, k1, k2, -⟩
  · rw [(k2 i (by omega)).1] at hv; cases hv; exact fits_lo8 _
  · rcases Nat.mod_two_eq_zero_or_one i with e | e
    · obtain ⟨j, rfl⟩ : ∃ j, i = 2 * j := ⟨i / 2, by omega⟩
      rw [(k2 j (by omega)).1] at hv; cases hv; exact fits_lo8 _
    · obtain ⟨j, rfl⟩ : ∃ j, i = 2 * j + 1 := ⟨i / 2, by omega⟩
      rw [(k2 j (by omega)).2] at hv; cases hv; exact fits_lo8 _
/-- the same text -/
def SameT (n : Nat) (f : Nat → Int32) (k : Nat) (g : Nat → Int32) : Prop := n = k ∧ ∀ j, j < n → f j = g j
theorem lo8_inj {x y : Int32} (h0 : ¬ x < 0) (h1 : ¬ 255 < x) (k0 : ¬ y < 0) (k1 : ¬ 255 < y) (h : lo8 x = lo8 y) : x = y := by
  rw [← lo8_mask h0 h1, ← lo8_mask k0 k1, h]
/-- arrays coded by one coder are equal just where the texts are -/
theorem Cod.eqv {cd : Int32} {n k : Nat} {f g : Nat → Int32} {V V' : Cell} (h : Cod cd n f V) (h' : Cod cd k g V') (hf : ∀ j, j < n → ¬ f j < 0 ∧ ¬ 65535 < f j) (hg : ∀ j, j < k → ¬ g j < 0 ∧ ¬ 65535 < g j) : EqC V V' ↔ SameT n f k g := by
  have yvv : ∀ {W : Cell} {i : Nat} {x : Int32}, W.slots[i]? = some (.int x) → yv W i = x := fun q => by unfold yv; rw [q]
  rcases h with ⟨rfl, k1, k2⟩ | ⟨rfl, k1, k2, -⟩
  · rcases h' with ⟨-, m1, m2⟩ | ⟨e, -⟩
    · constructor
      · rintro ⟨e1, e2⟩
        refine ⟨by omega, fun j hj => ?_⟩
        have q := e2 j (by omega)
        rw [yvv (k2 j hj).1, yvv (m2 j (by omega)).1] at q
        exact lo8_inj (hf j hj).1 (k2 j hj).2 (hg j (by omega)).1 (m2 j (by omega)).2 q
      · rintro ⟨rfl, e2⟩
        refine ⟨by omega, fun j hj => ?_⟩
        rw [yvv (k2 j (by omega)).1, yvv (m2 j (by omega)).1, e2 j (by omega)]
    · exact absurd e (by decide)
  · rcases h' with ⟨e, -⟩ | ⟨-, m1, m2, -⟩
    · exact absurd e (by decide)
    · constructor
      · rintro ⟨e1, e2⟩
        refine ⟨by omega, fun j hj => ?_⟩
        have q1 := e2 (2 * j) (by omega)
        have q2 := e2 (2 * j + 1) (by omega)
        rw [yvv (k2 j hj).1, yvv (m2 j (by omega)).1] at q1
        rw [yvv (k2 j hj).2, yvv (m2 j (by omega)).2] at q2
        rw [← pair_says (hf j hj).1 (hf j hj).2, ← pair_says (hg j (by omega)).1 (hg j (by omega)).2, q1, q2]
      · rintro ⟨rfl, e2⟩
        refine ⟨by omega, fun i hi => ?_⟩
        rcases Nat.mod_two_eq_zero_or_one i with e | e
        · obtain ⟨j, rfl⟩ : ∃ j, i = 2 * j := ⟨i / 2, by omega⟩
          rw [yvv (k2 j (by omega)).1, yvv (m2 j (by omega)).1, e2 j (by omega)]
        · obtain ⟨j, rfl⟩ : ∃ j, i = 2 * j + 1 := ⟨i / 2, by omega⟩
          rw [yvv (k2 j (by omega)).2, yvv (m2 j (by omega)).2, e2 j (by omega)]
/-- two codings differ: so do the texts -/
theorem Cod.dif {cd cd' : Int32} {n k : Nat} {f g : Nat → Int32} {V V' : Cell} (h : Cod cd n f V) (h' : Cod cd' k g V') (hne : ¬ cd = cd') : ¬ SameT n f k g := by
  rintro ⟨rfl, e⟩
  rcases h with ⟨rfl, -, k2⟩ | ⟨rfl, -, -, j, hj, hw⟩
  · rcases h' with ⟨rfl, -⟩ | ⟨-, -, -, j, hj, hw⟩
    · exact hne rfl
    · exact (k2 j hj).2 (by rw [e j hj]; exact hw)
  · rcases h' with ⟨-, -, m2⟩ | ⟨rfl, -⟩
    · exact (m2 j hj).2 (by rw [← e j hj]; exact hw)
    · exact hne rfl
/-- an object of exactly C is an instance of C -/
theorem cinst {p : Program} {l : Launch} {e : Env} {R : Room} {s : State} {m : MethodId} {args : Array Value} {below : List Frame} {meth : Method} {c : Code} {T : State} {locs : List Loc} {cells slots : Nat} (X : Stand p l e R s m args below meth c T locs cells slots) (hexec : p.tables.exec = Jvm.exec) {own C : String} {index : Nat} (hown : s.vm.findClass own = some m.cls) (hlink : (Cond.classLink own index C).before args s = true) {a : Addr} (hE : Exact C a T)
    {g : JFrame} (hg : g.method = m) {rest : List Value} (hstack : g.stack = .ref a :: rest) (hdg : decode c.code g.pc = .ok (.instanceof index, 3)) :
    ∃ T', Stand p l e R s m args below meth c T' locs cells slots ∧ T'.heap = T.heap ∧ ∀ target, Steps p.tables e below (T'.setTop { g with pc := g.pc + 3, stack := .int 1 :: rest }) target → Steps p.tables e below (T.setTop g) target := by
  obtain ⟨cB, h1, D, h2, h3, h4⟩ := hE
  have h1' : s.vm.findClass C = some cB := by rw [← X.warmed.alike.findClass]; exact h1
  obtain ⟨vm', X', st⟩ := X.instanceofYes hexec hown hlink h2 h4 h1' (by rw [h3]; exact Jvm.Free.SB.assignable_self _ _) hg hstack hdg
  exact ⟨_, X', rfl, st⟩
theorem cself {p : Program} {l : Launch} {e : Env} {R : Room} {s : State} {m : MethodId} {args : Array Value} {below : List Frame} {meth : Method} {c : Code} {T : State} {locs : List Loc} {cells slots : Nat} (X : Stand p l e R s m args below meth c T locs cells slots) (hexec : p.tables.exec = Jvm.exec) {own C : String} {index : Nat} (hown : s.vm.findClass own = some m.cls) (hlink : (Cond.classLink own index C).before args s = true) {a : Addr} (hE : Exact C a T)
    {g : JFrame} (hg : g.method = m) {rest : List Value} (hstack : g.stack = .ref a :: rest) (hdg : decode c.code g.pc = .ok (.checkcast index, 3)) :
    ∃ T', Stand p l e R s m args below meth c T' locs cells slots ∧ T'.heap = T.heap ∧ ∀ target, Steps p.tables e below (T'.setTop { g with pc := g.pc + 3, stack := .ref a :: rest }) target → Steps p.tables e below (T.setTop g) target := by
  obtain ⟨cB, h1, D, h2, h3, h4⟩ := hE
  have h1' : s.vm.findClass C = some cB := by rw [← X.warmed.alike.findClass]; exact h1
  obtain ⟨vm', X', st⟩ := X.checkcastYes hexec hown hlink h2 h4 h1' (by rw [h3]; exact Jvm.Free.SB.assignable_self _ _) hg hstack hdg
  exact ⟨_, X', rfl, fun t h => st t (by rw [← hstack] at h; exact h)⟩
namespace SEq
def yN : MethodName := ⟨"java/lang/String", "equals", "(Ljava/lang/Object;)Z"⟩
abbrev yB : ByteArray := jdk_42_method_66_code
theorem d0 : decode yB 0 = .ok (.aload_n 0, 1) := by decide +kernel
theorem d1 : decode yB 1 = .ok (.aload_n 1, 1) := by decide +kernel
theorem d2 : decode yB 2 = .ok (.if_acmp (.ne) 5, 3) := by decide +kernel
theorem d5 : decode yB 5 = .ok (.iconst 1, 1) := by decide +kernel
theorem d6 : decode yB 6 = .ok (.ireturn, 1) := by decide +kernel
theorem d7 : decode yB 7 = .ok (.aload_n 1, 1) := by decide +kernel
theorem d8 : decode yB 8 = .ok (.instanceof 10, 3) := by decide +kernel
theorem d11 : decode yB 11 = .ok (.ifCond (.eq) 43, 3) := by decide +kernel
theorem d14 : decode yB 14 = .ok (.aload_n 1, 1) := by decide +kernel
theorem d15 : decode yB 15 = .ok (.checkcast 10, 3) := by decide +kernel
theorem d18 : decode yB 18 = .ok (.astore_n 2, 1) := by decide +kernel
theorem d19 : decode yB 19 = .ok (.getstatic 38, 3) := by decide +kernel
theorem d22 : decode yB 22 = .ok (.ifCond (.eq) 14, 3) := by decide +kernel
theorem d25 : decode yB 25 = .ok (.aload_n 0, 1) := by decide +kernel
theorem d26 : decode yB 26 = .ok (.getfield 15, 3) := by decide +kernel
theorem d29 : decode yB 29 = .ok (.aload_n 2, 1) := by decide +kernel
theorem d30 : decode yB 30 = .ok (.getfield 15, 3) := by decide +kernel
theorem d33 : decode yB 33 = .ok (.if_icmp (.ne) 21, 3) := by decide +kernel
theorem d36 : decode yB 36 = .ok (.aload_n 0, 1) := by decide +kernel
theorem d37 : decode yB 37 = .ok (.getfield 9, 3) := by decide +kernel
theorem d40 : decode yB 40 = .ok (.aload_n 2, 1) := by decide +kernel
theorem d41 : decode yB 41 = .ok (.getfield 9, 3) := by decide +kernel
theorem d44 : decode yB 44 = .ok (.invokestatic 541, 3) := by decide +kernel
theorem d47 : decode yB 47 = .ok (.ifCond (.eq) 7, 3) := by decide +kernel
theorem d50 : decode yB 50 = .ok (.iconst 1, 1) := by decide +kernel
theorem d51 : decode yB 51 = .ok (.goto 4, 3) := by decide +kernel
theorem d54 : decode yB 54 = .ok (.iconst 0, 1) := by decide +kernel
theorem d55 : decode yB 55 = .ok (.ireturn, 1) := by decide +kernel
def site : List Cond := [.classLink "java/lang/String" 10 "java/lang/String", .fieldLink "java/lang/String" 38 "java/lang/String" "COMPACT_STRINGS" "Z", .fieldLink "java/lang/String" 15 "java/lang/String" "coder" "B", .fieldLink "java/lang/String" 9 "java/lang/String" "value" "[B", LEq.tab] ++ staticW "java/lang/String" 541 LEq.yN
def tab : Cond := tabOf yN yB 3 (some .boolean) site
def P (x t : Addr) (V : Cell) (cd : Int32) (n : Nat) (f : Nat → Int32) (y t' : Addr) (V' : Cell) (cd' : Int32) (k : Nat) (g : Nat → Int32) (z : Int32) (args : Array Value) (s : State) : Prop := args = #[.ref x, .ref y] ∧ Txt x t V cd n f s ∧ Txt y t' V' cd' k g s ∧ StaticIs s "java/lang/String" "COMPACT_STRINGS" "Z" (.int z) ∧ ¬ z = 0
/-- equals(Object) of two Strings: whether the texts are the same -/
theorem law (l : Launch) (x t : Addr) (V : Cell) (cd : Int32) (n : Nat) (f : Nat → Int32) (y t' : Addr) (V' : Cell) (cd' : Int32) (k : Nat) (g : Nat → Int32) (z : Int32) : Law l yN 2 1 1 14 yB 3 (some .boolean) site (P x t V cd n f y t' V' cd' k g z) (Says01 (SameT n f k g)) [] 0 0 := by
  refine Law.of_walk (plainFor_of_name (by decide +kernel)) (by decide +kernel) (by decide +kernel) (by decide) (fun _ _ h => by rw [h.1]; rfl) (fun _ U U' hal hh h => ⟨h.1, h.2.1.mv hal hh, h.2.2.1.mv hal hh, h.2.2.2.1.there hal hh, h.2.2.2.2⟩) (fun r U U' V V' h1 hal h2 h => Says01.mv r U U' V V' h1 hal h2 h) ?_
  intro p e s m args below meth c s₁ X0 hexec hbytes hml hret hlk hnm hown hh0 W hP
  obtain ⟨rfl, hx, hy, s1, hz⟩ := hP
  have c1 : Steps p.tables e below (s₁.setTop (entryFrame m #[.ref x, .ref y] 3)) (s₁.setTop (mkF m 2 #[.val (.ref x), .val (.ref y), .unset] [.ref y, .ref x])) := Steps.trans (entry rfl) (by
    show Steps p.tables e below (s₁.setTop (mkF m 0 #[.val (.ref x), .val (.ref y), .unset] [])) _
    refine XS.aloadN X0.here hexec rfl (hb hbytes d0) rfl rfl ?_
    refine XS.aloadN X0.here hexec rfl (hb hbytes d1) rfl rfl ?_
    exact Steps.refl _)
  by_cases hxy : x = y
  · have c2 : Steps p.tables e below (s₁.setTop (entryFrame m #[.ref x, .ref y] 3)) (s₁.setTop (mkF m 6 #[.val (.ref x), .val (.ref y), .unset] [.int 1])) := c1.trans (by
      refine acmpNo X0.here hexec rfl (hb hbytes d2) rfl rfl rfl (by simp [acmp, hxy]) ?_
      refine iconstV X0.here hexec rfl 1 (hb hbytes d5) (by decide) ?_
      exact Steps.refl _)
    subst hxy
    have ec : cd = cd' := by
      obtain ⟨D, fd, a1, a2, a3⟩ := hx.2.2.1
      obtain ⟨D', fd', b1, b2, b3⟩ := hy.2.2.1
      cases a1.symm.trans b1
      obtain ⟨q1, q2, q3, q4⟩ := a2.1
      obtain ⟨r1, r2, r3, r4⟩ := b2.1
      cases q4.symm.trans r4
      cases a3.symm.trans b3; rfl
    have et : t = t' := by
      obtain ⟨D, fd, a1, a2, a3⟩ := hx.2.1
      obtain ⟨D', fd', b1, b2, b3⟩ := hy.2.1
      cases a1.symm.trans b1
      obtain ⟨q1, q2, q3, q4⟩ := a2.1
      obtain ⟨r1, r2, r3, r4⟩ := b2.1
      cases q4.symm.trans r4
      cases a3.symm.trans b3; rfl
    subst ec et
    have ev : V = V' := by cases hx.2.2.2.1.1.symm.trans hy.2.2.2.1.1; rfl
    subst ev
    have hs : SameT n f k g := (Cod.eqv hx.2.2.2.2.1 hy.2.2.2.2.1 hx.2.2.2.2.2 hy.2.2.2.2.2).mp ⟨rfl, fun _ _ => rfl⟩
    exact ⟨s₁, some (.int 1), _, _, _, X0, rfl, rfl, rfl, (fun h => by cases h), ⟨1, rfl, hh0, Or.inl ⟨rfl, hs⟩⟩, fun fs hl => c2.trans (X0.ireturnOut hexec hret rfl (Or.inr (Or.inl rfl)) (hb hbytes d6) hl)⟩
  · have c2 : Steps p.tables e below (s₁.setTop (entryFrame m #[.ref x, .ref y] 3)) (s₁.setTop (mkF m 8 #[.val (.ref x), .val (.ref y), .unset] [.ref y])) := c1.trans (by
      refine acmpYes X0.here hexec rfl (pc0 := 2) rfl (hb hbytes d2) rfl rfl rfl (by simp [acmp, hxy]) (by decide) rfl ?_
      refine XS.aloadN X0.here hexec rfl (hb hbytes d7) rfl rfl ?_
      exact Steps.refl _)
    obtain ⟨T3, X3, q3, st3⟩ := cinst X0 hexec hown (wk W (.classLink "java/lang/String" 10 "java/lang/String")) (hy.mv X0.warmed.alike hh0).1 (g := (mkF m 8 #[.val (.ref x), .val (.ref y), .unset] [.ref y])) rfl (rest := []) rfl (hb hbytes d8)
    have hh3 := q3.trans hh0
    have c4 : Steps p.tables e below (s₁.setTop (entryFrame m #[.ref x, .ref y] 3)) (T3.setTop (mkF m 15 #[.val (.ref x), .val (.ref y), .unset] [.ref y])) := (c2.trans (st3 _ (Steps.refl _))).trans (by
      refine XS.ifNo X3.here hexec rfl (hb hbytes d11) rfl (i0_eq_f (by decide)) ?_
      refine XS.aloadN X3.here hexec rfl (hb hbytes d14) rfl rfl ?_
      exact Steps.refl _)
    obtain ⟨T5, X5, q5, st5⟩ := cself X3 hexec hown (wk W (.classLink "java/lang/String" 10 "java/lang/String")) (hy.mv X3.warmed.alike hh3).1 (g := (mkF m 15 #[.val (.ref x), .val (.ref y), .unset] [.ref y])) rfl (rest := []) rfl (hb hbytes d15)
    have hh5 := q5.trans hh3
    have c6 : Steps p.tables e below (s₁.setTop (entryFrame m #[.ref x, .ref y] 3)) (T5.setTop (mkF m 19 #[.val (.ref x), .val (.ref y), .val (.ref y)] [])) := (c4.trans (st5 _ (Steps.refl _))).trans (by
      refine XS.astoreN X5.here hexec rfl (hb hbytes d18) rfl rfl rfl ?_
      exact Steps.refl _)
    obtain ⟨T7, X7, q7, st7⟩ := X5.sget hexec hown (wk W (.fieldLink "java/lang/String" 38 "java/lang/String" "COMPACT_STRINGS" "Z")) s1 (fun _ _ h => by rw [hh5]; exact h) (g := (mkF m 19 #[.val (.ref x), .val (.ref y), .val (.ref y)] [])) rfl (hb hbytes d19)
    have hh7 := q7.trans hh5
    have c8 : Steps p.tables e below (s₁.setTop (entryFrame m #[.ref x, .ref y] 3)) (T7.setTop (mkF m 26 #[.val (.ref x), .val (.ref y), .val (.ref y)] [.ref x])) := (c6.trans (st7 _ (Steps.refl _))).trans (by
      refine XS.ifNo X7.here hexec rfl (hb hbytes d22) rfl (i0_eq_f hz) ?_
      refine XS.aloadN X7.here hexec rfl (hb hbytes d25) rfl rfl ?_
      exact Steps.refl _)
    obtain ⟨T9, X9, q9, st9⟩ := X7.hget hexec hown (wk W (.fieldLink "java/lang/String" 15 "java/lang/String" "coder" "B")) (hx.mv X7.warmed.alike hh7).2.2.1 (g := (mkF m 26 #[.val (.ref x), .val (.ref y), .val (.ref y)] [.ref x])) rfl (rest := []) rfl (hb hbytes d26)
    have hh9 := q9.trans hh7
    have c10 : Steps p.tables e below (s₁.setTop (entryFrame m #[.ref x, .ref y] 3)) (T9.setTop (mkF m 30 #[.val (.ref x), .val (.ref y), .val (.ref y)] [.ref y, .int cd])) := (c8.trans (st9 _ (Steps.refl _))).trans (by
      refine XS.aloadN X9.here hexec rfl (hb hbytes d29) rfl rfl ?_
      exact Steps.refl _)
    obtain ⟨T11, X11, q11, st11⟩ := X9.hget hexec hown (wk W (.fieldLink "java/lang/String" 15 "java/lang/String" "coder" "B")) (hy.mv X9.warmed.alike hh9).2.2.1 (g := (mkF m 30 #[.val (.ref x), .val (.ref y), .val (.ref y)] [.ref y, .int cd])) rfl (rest := [.int cd]) rfl (hb hbytes d30)
    have hh11 := q11.trans hh9
    have c12 : Steps p.tables e below (s₁.setTop (entryFrame m #[.ref x, .ref y] 3)) (T11.setTop (mkF m 33 #[.val (.ref x), .val (.ref y), .val (.ref y)] [.int cd', .int cd])) := c10.trans (st11 _ (Steps.refl _))
    by_cases hcd : cd = cd'
    · subst hcd
      have c13 : Steps p.tables e below (s₁.setTop (entryFrame m #[.ref x, .ref y] 3)) (T11.setTop (mkF m 37 #[.val (.ref x), .val (.ref y), .val (.ref y)] [.ref x])) := c12.trans (by
        refine XS.icmpNo X11.here hexec rfl (hb hbytes d33) rfl (ii_ne_f rfl) ?_
        refine XS.aloadN X11.here hexec rfl (hb hbytes d36) rfl rfl ?_
        exact Steps.refl _)
      obtain ⟨T14, X14, q14, st14⟩ := X11.hget hexec hown (wk W (.fieldLink "java/lang/String" 9 "java/lang/String" "value" "[B")) (hx.mv X11.warmed.alike hh11).2.1 (g := (mkF m 37 #[.val (.ref x), .val (.ref y), .val (.ref y)] [.ref x])) rfl (rest := []) rfl (hb hbytes d37)
      have hh14 := q14.trans hh11
      have c15 : Steps p.tables e below (s₁.setTop (entryFrame m #[.ref x, .ref y] 3)) (T14.setTop (mkF m 41 #[.val (.ref x), .val (.ref y), .val (.ref y)] [.ref y, .ref t])) := (c13.trans (st14 _ (Steps.refl _))).trans (by
        refine XS.aloadN X14.here hexec rfl (hb hbytes d40) rfl rfl ?_
        exact Steps.refl _)
      obtain ⟨T16, X16, q16, st16⟩ := X14.hget hexec hown (wk W (.fieldLink "java/lang/String" 9 "java/lang/String" "value" "[B")) (hy.mv X14.warmed.alike hh14).2.1 (g := (mkF m 41 #[.val (.ref x), .val (.ref y), .val (.ref y)] [.ref y, .ref t])) rfl (rest := [.ref t]) rfl (hb hbytes d41)
      have hh16 := q16.trans hh14
      have c17 : Steps p.tables e below (s₁.setTop (entryFrame m #[.ref x, .ref y] 3)) (T16.setTop (mkF m 44 #[.val (.ref x), .val (.ref y), .val (.ref y)] [.ref t', .ref t])) := c15.trans (st16 _ (Steps.refl _))
      obtain ⟨v18, T18, X18, E18, g18⟩ := X16.callS hexec (LEq.law l t V t' V') hown (wks W (staticW "java/lang/String" 541 LEq.yN)) (wk W LEq.tab) (W := 0) (Nat.le_of_ble_eq_true rfl) (Nat.le_of_ble_eq_true rfl) (Nat.le_refl _) (Nat.le_refl _) (g := (mkF m 44 #[.val (.ref x), .val (.ref y), .val (.ref y)] [.ref t', .ref t])) rfl (by rw [hml]; rfl) c17 (argsL := [.ref t, .ref t']) (rest := []) rfl rfl (by show 2 * 0 + 0 ≤ _; decide) (hb hbytes d44) (⟨rfl, hx.2.2.2.1.mv X16.warmed.alike hh16, hx.2.2.2.2.1.ty, hy.2.2.2.1.mv X16.warmed.alike hh16, hy.2.2.2.2.1.ty⟩)
      obtain ⟨v, rfl, q18, hv⟩ := E18
      have iff := Cod.eqv hx.2.2.2.2.1 hy.2.2.2.2.1 hx.2.2.2.2.2 hy.2.2.2.2.2
      rcases hv with ⟨rfl, he⟩ | ⟨rfl, he⟩
      · have c19 : Steps p.tables e below (s₁.setTop (entryFrame m #[.ref x, .ref y] 3)) (T18.setTop (mkF m 55 #[.val (.ref x), .val (.ref y), .val (.ref y)] [.int 1])) := Steps.trans g18 (by
          refine XS.ifNo X18.here hexec rfl (hb hbytes d47) rfl (i0_eq_f (by decide)) ?_
          refine iconstV X18.here hexec rfl 1 (hb hbytes d50) (by decide) ?_
          refine XS.goto X18.here hexec rfl (pc0 := 51) rfl (hb hbytes d51) (by decide) rfl ?_
          exact Steps.refl _)
        exact ⟨T18, some (.int 1), _, _, _, X18, rfl, rfl, rfl, (fun h => by cases h), ⟨1, rfl, q18.trans hh16, Or.inl ⟨rfl, iff.mp he⟩⟩, fun fs hl => c19.trans (X18.ireturnOut hexec hret rfl (Or.inr (Or.inl rfl)) (hb hbytes d55) hl)⟩
      · have c19 : Steps p.tables e below (s₁.setTop (entryFrame m #[.ref x, .ref y] 3)) (T18.setTop (mkF m 55 #[.val (.ref x), .val (.ref y), .val (.ref y)] [.int 0])) := Steps.trans g18 (by
          refine XS.ifYes X18.here hexec rfl (pc0 := 47) rfl (hb hbytes d47) rfl (i0_eq_t rfl) (by decide) rfl ?_
          refine iconstV X18.here hexec rfl 0 (hb hbytes d54) (by decide) ?_
          exact Steps.refl _)
        exact ⟨T18, some (.int 0), _, _, _, X18, rfl, rfl, rfl, (fun h => by cases h), ⟨0, rfl, q18.trans hh16, Or.inr ⟨rfl, fun q => he (iff.mpr q)⟩⟩, fun fs hl => c19.trans (X18.ireturnOut hexec hret rfl (Or.inr (Or.inl rfl)) (hb hbytes d55) hl)⟩
    · have c13 : Steps p.tables e below (s₁.setTop (entryFrame m #[.ref x, .ref y] 3)) (T11.setTop (mkF m 55 #[.val (.ref x), .val (.ref y), .val (.ref y)] [.int 0])) := c12.trans (by
        refine XS.icmpYes X11.here hexec rfl (pc0 := 33) rfl (hb hbytes d33) rfl (ii_ne_t hcd) (by decide) rfl ?_
        refine iconstV X11.here hexec rfl 0 (hb hbytes d54) (by decide) ?_
        exact Steps.refl _)
      exact ⟨T11, some (.int 0), _, _, _, X11, rfl, rfl, rfl, (fun h => by cases h), ⟨0, rfl, hh11, Or.inr ⟨rfl, Cod.dif hx.2.2.2.2.1 hy.2.2.2.2.1 hcd⟩⟩, fun fs hl => c13.trans (X11.ireturnOut hexec hret rfl (Or.inr (Or.inl rfl)) (hb hbytes d55) hl)⟩
theorem pays {l : Launch} {R : Room} {p : Program} {e : Env} {below : List Frame} {s : State} {sargs : Array Value} {len W : Nat} (x t : Addr) (V : Cell) (cd : Int32) (n : Nat) (f : Nat → Int32) (y t' : Addr) (V' : Cell) (cd' : Int32) (k : Nat) (g : Nat → Int32) (z : Int32) (htab : tab.before sargs s = true) (hfr : 2 ≤ R.frames) (hlo : W + 28 ≤ R.locals) :
    Back l R p e below s sargs yN len W (fun A₁ a₁ => A₁.cells + 0 ≤ R.cells ∧ A₁.slots + 0 ≤ R.slots ∧ P x t V cd n f y t' V' cd' k g z a₁ A₁.U) (fun A₁ _ v₁ B₁ => Says01 (SameT n f k g) v₁ A₁.U B₁.U ∧ B₁.locs = A₁.locs ++ [] ∧ B₁.cells = A₁.cells + 0 ∧ B₁.slots = A₁.slots + 0) :=
  (law l x t V cd n f y t' V' cd' k g z).pays htab hfr (by omega)
end SEq
end StrChars
namespace StrChars.Road
open Jvm Sem ClassFile Op Lib Jvm.Stand Jvm.Free Jvm.Free.XT
open Jvm.Lib.Cold (StaticIs)
/-- the words of String.equals(Object) -/
abbrev wordsEq : List Jvm.Cond := [.code SEq.yN SEq.yB 3 (some .boolean), .initialized ST, .classLink ST 10 ST, .fieldLink ST 38 ST "COMPACT_STRINGS" "Z", .fieldLink ST 15 ST "coder" "B", .fieldLink ST 9 ST "value" "[B", .methodLink ST 541 LEq.yN, .static LEq.yN, .code LEq.yN LEq.yB 3 (some .boolean), .initialized "java/lang/StringLatin1"]
theorem tabEq_of {a : Array Value} {s : State} (h : ∀ w ∈ wordsEq, w.before a s = true) : SEq.tab.before a s = true := by
  have hl : LEq.tab.before a s = true := unparts (wk h (.code LEq.yN LEq.yB 3 (some .boolean))) (wks h (.initialized LEq.yN.cls :: LEq.site))
  have q := consq hl h
  exact unparts (wk q (.code SEq.yN SEq.yB 3 (some .boolean))) (wks q (.initialized SEq.yN.cls :: SEq.site))
theorem movedEq {Z s : State} {a0 args : Array Value} (hZ : Z.Warmed39 s.vm) (hw : ∀ d ∈ wordsEq, d.before a0 Z = true) : ∀ d ∈ wordsEq, d.before args s = true := fun d hd => by
  have t : ∀ d ∈ wordsEq, (d.onTables && d.keepsFace) = true := by decide +kernel
  exact RoadKit.mv hZ (hw d hd) (t d hd)
/-- the road's facts of a String, as the laws ask it -/
theorem txt_of {Z U : State} {a0 : Array Value} {kI : Nat} (wi : (Jvm.Cond.instantiable ST kI).before a0 Z = true) (al : Z.vm.Alike U.vm) {x t : Addr} {kb : ClassId} {cs : List Int32} {cd N2 : Int32} {vs : List Value} (E : RoadKit.Exa Z U.heap x ST) (V : RoadKit.Fld Z U.heap x ST "value" "[B" (.ref t)) (C : RoadKit.Fld Z U.heap x ST "coder" "B" (.int cd)) (K : RoadKit.Arv Z U.heap t kb .byte N2 vs (.int 0)) (hc : CodA cs cd N2 vs) (hb : ∀ c ∈ cs, ¬ c < 0 ∧ ¬ (65535 : Int32) < c) (l2 : cs.length ≤ 4000) :
    ∃ A, Txt x t A cd cs.length (fun j => cs.getD j 0) U := by
  obtain ⟨A, K1, K2, K3, K4, K5, K6⟩ := K
  have hcod := hc.cod (by omega) K3 K5
  obtain ⟨D, fV, fC, hB, F1, F2, g1, g2, -, -⟩ := strObj wi al E V C
  exact ⟨A, ⟨_, hB.2.2.1, D, hB.1, rfl, by cases q : D.vm <;> first | rfl | exact absurd q (hB.2.1.2 _)⟩, Has.of hB F1 g1, Has.of hB F2 g2, ⟨K1.1, State.isArrayOf_alike al K1.2.1, K1.2.2, by rcases hcod with ⟨-, q, -⟩ | ⟨-, q, -⟩ <;> omega⟩, hcod, fun j hj => by
    have e : cs.getD j 0 = cs[j] := by simp [List.getD_eq_getElem?_getD, hj]
    show ¬ cs.getD j 0 < 0 ∧ ¬ 65535 < cs.getD j 0
    rw [e]; exact hb _ (List.getElem_mem _)⟩
theorem same_list (cs ds : List Int32) : SameT cs.length (fun j => cs.getD j 0) ds.length (fun j => ds.getD j 0) ↔ cs = ds := by
  constructor
  · rintro ⟨e, q⟩
    refine List.ext_getElem e fun j h1 h2 => ?_
    have := q j h1
    simpa [List.getD_eq_getElem?_getD, h1, h2] using this
  · rintro rfl
    exact ⟨rfl, fun _ _ => rfl⟩
/-- **equals(Object) OF TWO SUCH STRINGS**: 1 just where the chars are the same -/
theorem eqW {p : Program} {l : Launch} {e : Env} {R : Room} {s : State} {args : Array Value} {below : List Frame} {len W : Nat} {Z : State} {a0 : Array Value} {h : Heap} (hZ : Z.Warmed39 s.vm) (hw : ∀ d ∈ wordsEq, d.before a0 Z = true) {kI : Nat} (wi : (Jvm.Cond.instantiable ST kI).before a0 Z = true)
    {x t : Addr} {kb : ClassId} {cs : List Int32} {cd N2 : Int32} {vs : List Value} (E : RoadKit.Exa Z h x ST) (V : RoadKit.Fld Z h x ST "value" "[B" (.ref t)) (C : RoadKit.Fld Z h x ST "coder" "B" (.int cd)) (K : RoadKit.Arv Z h t kb .byte N2 vs (.int 0)) (hc : CodA cs cd N2 vs) (hb : ∀ c ∈ cs, ¬ c < 0 ∧ ¬ (65535 : Int32) < c) (l2 : cs.length ≤ 4000)
    {y t' : Addr} {kb' : ClassId} {ds : List Int32} {cd' N2' : Int32} {vs' : List Value} (E' : RoadKit.Exa Z h y ST) (V' : RoadKit.Fld Z h y ST "value" "[B" (.ref t')) (C' : RoadKit.Fld Z h y ST "coder" "B" (.int cd')) (K' : RoadKit.Arv Z h t' kb' .byte N2' vs' (.int 0)) (hc' : CodA ds cd' N2' vs') (hb' : ∀ c ∈ ds, ¬ c < 0 ∧ ¬ (65535 : Int32) < c) (l2' : ds.length ≤ 4000)
    {z : Int32} (S : RoadKit.Sta Z h ST "COMPACT_STRINGS" "Z" (.int z)) (hz : ¬ z = 0) (hfr : 2 ≤ R.frames) (hlo : W + 28 ≤ R.locals) :
    Back l R p e below s args (⟨"java/lang/String", "equals", "(Ljava/lang/Object;)Z"⟩ : MethodName) len W (fun P a => a = #[.ref x, .ref y] ∧ P.U.heap = h ∧ P.cells + 0 ≤ R.cells ∧ P.slots + 0 ≤ R.slots)
      (fun P _ v B => ∃ L, (((v = some (.int 1) ∧ cs = ds) ∨ (v = some (.int 0) ∧ ¬ cs = ds)) ∧ L = [] ∧ B.U.heap = h) ∧ B.locs = P.locs ++ L ∧ B.cells = P.cells + 0 ∧ B.slots = P.slots + 0) := by
  intro m meth c P g ig mk a X hg hsize hdg hW hn hp'
  obtain ⟨rfl, rfl, r1, r2⟩ := hp'
  have al : Z.vm.Alike P.U.vm := hZ.alike.trans X.warmed.alike
  obtain ⟨A, hx⟩ := txt_of wi al E V C K hc hb l2
  obtain ⟨A', hy⟩ := txt_of wi al E' V' C' K' hc' hb' l2'
  obtain ⟨v, B, X', ⟨⟨w, hv, hh, hq⟩, hl, hk, hs⟩, st⟩ := SEq.pays x t A cd cs.length (fun j => cs.getD j 0) y t' A' cd' ds.length (fun j => ds.getD j 0) z (tabEq_of (movedEq hZ hw)) hfr hlo m meth c P g ig mk _ X hg hsize hdg hW hn ⟨r1, r2, rfl, hx, hy, sta_is al S, hz⟩
  refine ⟨v, B, X', ⟨[], ⟨?_, rfl, hh⟩, hl, hk, hs⟩, st⟩
  rcases hq with ⟨rfl, q⟩ | ⟨rfl, q⟩
  · exact Or.inl ⟨hv, (same_list cs ds).mp q⟩
  · exact Or.inr ⟨hv, fun e => q ((same_list cs ds).mpr e)⟩
end StrChars.Road
end Jvm.Pilot.@@N@@
namespace Jvm.Pilot.@@N@@
open Jvm Jvm.ClassFile Sem Op Lib Jvm.Free Jvm.Stand Jvm.LawKit Jvm.RoadKit Bundle Jvm.Pilot.@@N@@.Jvm.D
theorem own_b0 {z : Int32} {P : Prop} [Decidable P] (h : z = if P then 1 else 0) (q : ¬ P) : z = 0 := by rw [h, if_neg q]
theorem own_b1 {z : Int32} {P : Prop} [Decidable P] (h : z = if P then 1 else 0) (q : P) : ¬ z = 0 := by rw [h, if_pos q]; decide
theorem own_bn {z : Int32} {P : Prop} [Decidable P] (h : z = if P then 0 else 1) : z = if ¬ P then 1 else 0 := by by_cases q : P <;> simp [h, q]
theorem own_fldI {args : Array Value} {s : State} {t : Term} {C n d : String} {z : Int32} {a : Addr} (ht : t.eval args s none [] s = some (.ref a)) (h : (Jvm.Cond.eq (Term.field t C n d) (Term.int z)).value args s none s [] = some true) : Fld s s.heap a C n d (.int z) := by
  obtain ⟨x, y, h1, h2, k1, k2⟩ := cmp_v (Or.inl h)
  have h3 : (Term.int z).eval args s none [] s = some (.int z) := rfl
  obtain rfl : y = .int z := Option.some.inj (h2.symm.trans h3)
  obtain ⟨w, rfl⟩ := k2
  have e : w = z := by simp only [Cond.value, h1, h3] at h; simpa using h
  subst e
  exact Fld.start (by rw [← fld_at ht]; exact h1)
theorem own_stakeep {Z : State} {h h' : Heap} {C n d : String} {v : Value} {ws : List Addr} (F : Sta Z h C n d v) (K : Keep h h' ws) (q : ∀ a ∈ ws, ∀ cell : Cell, h[a]? = some cell → cell.vm.isStatics = false) : Sta Z h' C n d v := by
  obtain ⟨cf, i, k, f, st, cell, h1, h2, h3, h4, h5, h6, h7⟩ := F
  exact ⟨cf, i, k, f, st, cell, h1, h2, h3, h4, K.2.1 _ _ h5 (fun hm => by rw [q _ hm _ h5] at h6; cases h6), h6, h7⟩
theorem own_nb {z : Int32} {P : Prop} [Decidable P] (h : z = if P then 1 else 0) : nar .boolean z = z := by by_cases q : P <;> simp [h, q] <;> rfl
set_option maxRecDepth 65536
set_option maxHeartbeats 40000000
variable {l : Launch} {Z : State} {a0 : Array Value}
abbrev vi (z : Int32) : Slot := .val (.int z)
abbrev vl (z : Int64) : Slot := .val (.long z)
abbrev vr (a : Addr) : Slot := .val (.ref a)
abbrev vu : Slot := .unset
abbrev v2 : Slot := .second
abbrev own_H (a0 : Array Value) (Z : State) : Prop := ∀ (i : Nat) {d : Jvm.Cond}, tables_1[i]? = some d → d.before a0 Z = true
theorem own_hm (hw : own_H a0 Z) : ∀ d ∈ tables_1, d.before a0 Z = true := fun d hd => by
  obtain ⟨i, h⟩ := List.getElem?_of_mem hd
  exact hw i h
theorem own_dt {c : Code} {b : ByteArray} (hby : c.code = b) {L : List (Nat × Instr × Nat)} (h : ∀ x ∈ L, decode b x.1 = .ok x.2) (i : Nat) {pc : Nat} {ins : Instr} {n : Nat} (q : L[i]? = some (pc, ins, n)) : decode c.code pc = .ok (ins, n) := by
  rw [hby]
  exact h (pc, ins, n) (List.mem_of_getElem? q)
theorem own_nc {x a : Addr} {l : List Addr} (h : x ≠ a) (q : x ∉ l) : x ∉ a :: l := fun z => by
  rcases List.mem_cons.mp z with r | r
  · exact h r
  · exact q r
theorem own_in {ws : List Addr} {a : Addr} {n : Nat} (i : Nat) (h : ws[i]? = some a) : a ∈ ws ∨ n ≤ a := Or.inl (List.mem_of_getElem? h)
theorem own_hp {Q : Option Value → Heap → List Loc → Prop} {v : Option Value} {T' : State} {Lc : List Loc} {G : Prop} (k : ∀ h', T'.heap = h' → Q v h' Lc → G) : Q v T'.heap Lc → G := k _ rfl
abbrev own_R (f k n o : Nat) : Room := { frames := f, cells := k, slots := n, locals := o }
def own_K (Q : Option Value → Heap → List Loc → Prop) (k n : Nat) (s : State) (o : Outcome) (U : State) : Prop := ∃ v L, o = .returned v ∧ Q v U.heap L ∧ FrameEnd s o U L k n
abbrev own_M (l : Launch) (y : MethodName) (b : ByteArray) (mx : Nat) (rt : Option FieldType) (R : Room) (A : Array Value) (Z : State) (h0 : Heap) (Q : Option Value → Heap → List Loc → Prop) : Prop :=
  MetFree l y (head1 [Jvm.Cond.code y b mx rt] R) (fun a U => a = A ∧ Z.Warmed39 U.vm ∧ U.heap = h0) (fun _ _ _ _ _ => True) (fun _ U o U' => ∃ v L, o = .returned v ∧ Q v U'.heap L ∧ FrameEnd U o U' L R.cells R.slots)
theorem own_body {l : Launch} {y : MethodName} {b : ByteArray} {mx : Nat} {rt : Option FieldType} {R : Room} {A : Array Value} {Z : State} {h0 : Heap} {Q : Option Value → Heap → List Loc → Prop} (hp : plainFor y = true)
    (k : ∀ (p : Program) (e : Env) (s : State) (m : MethodId) (below : List Frame) (meth : Method) (c : Code) (s₁ : State), BodyLoose p l y (head1 [Jvm.Cond.code y b mx rt] R) b mx rt e s m A below meth c s₁ → Z.Warmed39 s.vm → p.tables.exec = Jvm.exec → c.code = b → c.maxLocals = mx → s.vm.findClass y.cls = some m.cls → meth.name = y.name → Stand p l e R s m A below meth c s₁ [] 0 0 → s₁.heap = h0 → own_G p e below (own_K Q R.cells R.slots s) (s₁.setTop (entryFrame m A mx))) : own_M l y b mx rt R A Z h0 Q := by
  refine MetFree.of_bodySF hp hisR ?_
  intro p e s m args below meth c s₁ Bd hml0 hP hK
  obtain ⟨rfl, hZ, hh⟩ := hP
  exact k p e s m below meth c s₁ Bd hZ Bd.exec Bd.bytes hml0 (findClass_of_methodNamed Bd.named) (name_of_methodNamed Bd.named Bd.method).1 (Stand.of_body Bd) (by rw [← hh, Bd.state]; rfl)
section Own
variable {p : Program} {e : Env} {R : Room} {s : State} {m : MethodId} {args : Array Value} {below : List Frame} {meth : Method} {c : Code} {T : State} {locs : List Loc} {cells slots : Nat} {K : Outcome → State → Prop} {h : Heap} {Q : Option Value → Heap → List Loc → Prop} {k n pc : Nat} {Ls : Array Slot} {rest : List Value}
theorem own_cS (X : Stand p l e R s m args below meth c T locs cells slots) (hx : p.tables.exec = Jvm.exec) (hZ : Z.Warmed39 s.vm) {own : String} {index : Nat} {y : MethodName} {bytes : ByteArray} {maxL : Nat} {ret : Option FieldType} {f k n o : Nat} {argsL rest : List Value} {Q : Option Value → Heap → List Loc → Prop} (W : Nat) (hown : s.vm.findClass own = some m.cls) (w1 : (Jvm.Cond.methodLink own index y).before a0 Z = true) (w2 : (Jvm.Cond.static y).before a0 Z = true) (w3 : (Jvm.Cond.initialized y.cls).before a0 Z = true) (w4 : (Jvm.Cond.code y bytes maxL ret).before a0 Z = true) (hM : own_M l y bytes maxL ret (own_R f k n o) argsL.toArray Z h Q) (eT : T.heap = h) {ps : List FieldType} {r : Option FieldType} (hpd : parseMethodDescriptor y.desc = some ⟨ps, r⟩) {pc : Nat} {Ls : Array Slot} {st : List Value} (hst : st = argsL.reverse ++ rest) (hd : decode c.code pc = .ok (.invokestatic index, 3)) (hml : c.maxLocals = Ls.size) (kk : ∀ v T' Lc L, Stand p l e R s m args below meth c T' L (cells + k) (slots + n) → L = locs ++ Lc → Q v T'.heap Lc → own_G p e below K (T'.setTop (mkF m (pc + 3) Ls (v.toList ++ rest)))) (hl : argsL.length = ps.length := by rfl) (hy : y.cls ≠ "java/lang/invoke/MethodHandle" ∧ y.cls ≠ "java/lang/invoke/VarHandle" := by decide) (hW : (rest.map fun v => v.category).sum ≤ W := by exact Nat.le_of_eq rfl) (hr : f + 1 ≤ R.frames ∧ W + (maxL + 11) + o ≤ R.locals ∧ cells + k ≤ R.cells ∧ slots + n ≤ R.slots := by decide) : own_G p e below K (T.setTop (mkF m pc Ls st)) := by
  subst hst
  obtain ⟨v, _, ⟨T', L', k', n'⟩, -, X', ⟨Lc, hQ, l', y', z'⟩, st'⟩ := Jvm.LawKit.callS X hx hown (mvT hZ w1) (mvT hZ w2) (mvT hZ w3) (mvT hZ w4) hy (backOf (W := W) hM hZ w4 w3 hr.1 hr.2.1) (g := mkF m pc Ls (argsL.reverse ++ rest)) rfl hml.symm (argsL := argsL) (rest := rest) (lenOf hpd hl) rfl (by show 2 * 0 + _ ≤ _; omega) hd (fun _ _ => ⟨rfl, eT, hr.2.2.1, hr.2.2.2⟩)
  dsimp only [Pt.U, Pt.locs, Pt.cells, Pt.slots] at X' l' y' z' st' hQ
  subst y' z'
  exact own_go st' (kk v T' Lc L' X' l' hQ)
theorem own_cI (X : Stand p l e R s m args below meth c T locs cells slots) (hx : p.tables.exec = Jvm.exec) (hZ : Z.Warmed39 s.vm) {own : String} {index : Nat} {y : MethodName} {bytes : ByteArray} {maxL : Nat} {f k n o : Nat} {argsL rest : List Value} {Q : Option Value → Heap → List Loc → Prop} (W : Nat) (hown : s.vm.findClass own = some m.cls) (w1 : (Jvm.Cond.methodLink own index y).before a0 Z = true) {b : Addr} (w2 : (Jvm.Cond.instanceMethod y).before a0 Z = true) (w4 : (Jvm.Cond.code y bytes maxL none).before a0 Z = true) (w3 : (Jvm.Cond.initialized y.cls).before a0 Z = true) (hM : own_M l y bytes maxL none (own_R f k n o) (Value.ref b :: argsL).toArray Z h Q) (eT : T.heap = h) {ps : List FieldType} {r : Option FieldType} (hpd : parseMethodDescriptor y.desc = some ⟨ps, r⟩) {pc : Nat} {Ls : Array Slot} {st : List Value} (hst : st = argsL.reverse ++ .ref b :: rest) (hd : decode c.code pc = .ok (.invokespecial index, 3)) (hml : c.maxLocals = Ls.size) (kk : ∀ v T' Lc L, Stand p l e R s m args below meth c T' L (cells + k) (slots + n) → L = locs ++ Lc → Q v T'.heap Lc → own_G p e below K (T'.setTop (mkF m (pc + 3) Ls (v.toList ++ rest)))) (hy1 : y.name = "<init>" := by rfl) (hl : argsL.length = ps.length := by rfl) (hy : y.cls ≠ "java/lang/invoke/MethodHandle" ∧ y.cls ≠ "java/lang/invoke/VarHandle" := by decide) (hW : (rest.map fun v => v.category).sum ≤ W := by exact Nat.le_of_eq rfl) (hr : f + 1 ≤ R.frames ∧ W + (maxL + 11) + o ≤ R.locals ∧ cells + k ≤ R.cells ∧ slots + n ≤ R.slots := by decide) : own_G p e below K (T.setTop (mkF m pc Ls st)) := by
  subst hst
  obtain ⟨v, _, ⟨T', L', k', n'⟩, -, X', ⟨Lc, hQ, l', y', z'⟩, st'⟩ := X.specialBack hx hy1 hown (mvT hZ w1) (mvT hZ w2) (mvT hZ w4) hy (backOf (W := W) hM hZ w4 w3 hr.1 hr.2.1) (g := mkF m pc Ls (argsL.reverse ++ .ref b :: rest)) rfl hml.symm (Steps.refl _) (a := b) (argsL := argsL) (rest := rest) (lenOf hpd hl) rfl (by show 2 * 0 + _ ≤ _; omega) hd (fun _ _ => ⟨rfl, eT, hr.2.2.1, hr.2.2.2⟩)
  dsimp only [Pt.U, Pt.locs, Pt.cells, Pt.slots] at X' l' y' z' st' hQ
  subst y' z'
  exact own_tr st' (kk v T' Lc L' X' l' hQ)
theorem own_cVz (X : Stand p l e R s m args below meth c T locs cells slots) (hx : p.tables.exec = Jvm.exec) (hZ : Z.Warmed39 s.vm) {own : String} {index : Nat} {y : MethodName} {bytes : ByteArray} {maxL : Nat} {ret : Option FieldType} {f k n o : Nat} {argsL rest : List Value} {Q : Option Value → Heap → List Loc → Prop} (W : Nat) (hown : s.vm.findClass own = some m.cls) (w1 : (Jvm.Cond.methodLink own index y).before a0 Z = true) {z : MethodName} {b : Addr} {C : String} (w2 : (Jvm.Cond.declares y).before a0 Z = true) (w3 : (Jvm.Cond.selects C y z).before a0 Z = true) (w5 : (Jvm.Cond.instanceMethod z).before a0 Z = true) (w4 : (Jvm.Cond.code z bytes maxL ret).before a0 Z = true) (w6 : (Jvm.Cond.initialized z.cls).before a0 Z = true) (hM : own_M l z bytes maxL ret (own_R f k n o) (Value.ref b :: argsL).toArray Z h Q) (eT : T.heap = h) (E : Exa Z h b C) (hnf : NotFace s y) {ps : List FieldType} {r : Option FieldType} (hpd : parseMethodDescriptor y.desc = some ⟨ps, r⟩) {pc : Nat} {Ls : Array Slot} {st : List Value} (hst : st = argsL.reverse ++ .ref b :: rest) (hd : decode c.code pc = .ok (.invokevirtual index, 3)) (hml : c.maxLocals = Ls.size) (kk : ∀ v T' Lc L, Stand p l e R s m args below meth c T' L (cells + k) (slots + n) → L = locs ++ Lc → Q v T'.heap Lc → own_G p e below K (T'.setTop (mkF m (pc + 3) Ls (v.toList ++ rest)))) (hl : argsL.length = ps.length := by rfl) (hy : y.cls ≠ "java/lang/invoke/MethodHandle" ∧ y.cls ≠ "java/lang/invoke/VarHandle" := by decide) (hW : (rest.map fun v => v.category).sum ≤ W := by exact Nat.le_of_eq rfl) (hr : f + 1 ≤ R.frames ∧ W + (maxL + 11) + o ≤ R.locals ∧ cells + k ≤ R.cells ∧ slots + n ≤ R.slots := by decide) : own_G p e below K (T.setTop (mkF m pc Ls st)) := by
  subst hst
  obtain ⟨cB, kB, qa, qb, qc⟩ := isOf hZ eT E
  obtain ⟨v, _, ⟨T', L', k', n'⟩, -, X', ⟨Lc, hQ, l', y', z'⟩, st'⟩ := X.virtualBack hx hown (mvT hZ w1) (mvT hZ w2) hnf (mvT hZ w3) (mvT hZ w5) hy (backOf (W := W) hM hZ w4 w6 hr.1 hr.2.1) qa qc (g := mkF m pc Ls (argsL.reverse ++ .ref b :: rest)) rfl hml.symm (Steps.refl _) (argsL := argsL) (rest := rest) (lenOf hpd hl) rfl (by show 2 * 0 + _ ≤ _; omega) hd (fun _ _ => ⟨rfl, eT, hr.2.2.1, hr.2.2.2⟩)
  dsimp only [Pt.U, Pt.locs, Pt.cells, Pt.slots] at X' l' y' z' st' hQ
  subst y' z'
  exact own_tr st' (kk v T' Lc L' X' l' hQ)
theorem own_cV (X : Stand p l e R s m args below meth c T locs cells slots) (hx : p.tables.exec = Jvm.exec) (hZ : Z.Warmed39 s.vm) {own : String} {index : Nat} {y : MethodName} {bytes : ByteArray} {maxL : Nat} {ret : Option FieldType} {f k n o : Nat} {argsL rest : List Value} {Q : Option Value → Heap → List Loc → Prop} (W : Nat) (hown : s.vm.findClass own = some m.cls) (w1 : (Jvm.Cond.methodLink own index y).before a0 Z = true) {b : Addr} {C : String} (w2 : (Jvm.Cond.declares y).before a0 Z = true) (w3 : (Jvm.Cond.selects C y y).before a0 Z = true) (w5 : (Jvm.Cond.instanceMethod y).before a0 Z = true) (w4 : (Jvm.Cond.code y bytes maxL ret).before a0 Z = true) (w6 : (Jvm.Cond.initialized y.cls).before a0 Z = true) (hM : own_M l y bytes maxL ret (own_R f k n o) (Value.ref b :: argsL).toArray Z h Q) (eT : T.heap = h) (E : Exa Z h b C) {ps : List FieldType} {r : Option FieldType} (hpd : parseMethodDescriptor y.desc = some ⟨ps, r⟩) {pc : Nat} {Ls : Array Slot} {st : List Value} (hst : st = argsL.reverse ++ .ref b :: rest) (hd : decode c.code pc = .ok (.invokevirtual index, 3)) (hml : c.maxLocals = Ls.size) (kk : ∀ v T' Lc L, Stand p l e R s m args below meth c T' L (cells + k) (slots + n) → L = locs ++ Lc → Q v T'.heap Lc → own_G p e below K (T'.setTop (mkF m (pc + 3) Ls (v.toList ++ rest)))) (hl : argsL.length = ps.length := by rfl) (hy : y.cls ≠ "java/lang/invoke/MethodHandle" ∧ y.cls ≠ "java/lang/invoke/VarHandle" := by decide) (hW : (rest.map fun v => v.category).sum ≤ W := by exact Nat.le_of_eq rfl) (hr : f + 1 ≤ R.frames ∧ W + (maxL + 11) + o ≤ R.locals ∧ cells + k ≤ R.cells ∧ slots + n ≤ R.slots := by decide) : own_G p e below K (T.setTop (mkF m pc Ls st)) :=
  own_cVz X hx hZ W hown w1 w2 w3 w5 w4 w6 hM eT E (notFace_of_selects (args := #[]) (mvT hZ w3)) hpd hst hd hml kk hl hy hW hr
theorem own_cP (X : Stand p l e R s m args below meth c T locs cells slots) (hx : p.tables.exec = Jvm.exec) (hZ : Z.Warmed39 s.vm) {own : String} {index : Nat} {y : MethodName} {bytes : ByteArray} {maxL : Nat} {ret : Option FieldType} {f k n o : Nat} {argsL rest : List Value} {Q : Option Value → Heap → List Loc → Prop} (W : Nat) (hown : s.vm.findClass own = some m.cls) (w1 : (Jvm.Cond.methodLink own index y).before a0 Z = true) {b : Addr} {C : String} (w2 : (Jvm.Cond.instanceMethod y).before a0 Z = true) (w3 : (Jvm.Cond.selects y.cls y y).before args s = true) (w5 : (Jvm.Cond.privateMethod y).before a0 Z = true) (w4 : (Jvm.Cond.code y bytes maxL ret).before a0 Z = true) (w6 : (Jvm.Cond.initialized y.cls).before a0 Z = true) (hM : own_M l y bytes maxL ret (own_R f k n o) (Value.ref b :: argsL).toArray Z h Q) (eT : T.heap = h) (E : Exa Z h b C) {ps : List FieldType} {r : Option FieldType} (hpd : parseMethodDescriptor y.desc = some ⟨ps, r⟩) {pc : Nat} {Ls : Array Slot} {st : List Value} (hst : st = argsL.reverse ++ .ref b :: rest) (hd : decode c.code pc = .ok (.invokevirtual index, 3)) (hml : c.maxLocals = Ls.size) (kk : ∀ v T' Lc L, Stand p l e R s m args below meth c T' L (cells + k) (slots + n) → L = locs ++ Lc → Q v T'.heap Lc → own_G p e below K (T'.setTop (mkF m (pc + 3) Ls (v.toList ++ rest)))) (hl : argsL.length = ps.length := by rfl) (hy : y.cls ≠ "java/lang/invoke/MethodHandle" ∧ y.cls ≠ "java/lang/invoke/VarHandle" := by decide) (hW : (rest.map fun v => v.category).sum ≤ W := by exact Nat.le_of_eq rfl) (hr : f + 1 ≤ R.frames ∧ W + (maxL + 11) + o ≤ R.locals ∧ cells + k ≤ R.cells ∧ slots + n ≤ R.slots := by decide) : own_G p e below K (T.setTop (mkF m pc Ls st)) := by
  subst hst
  obtain ⟨cq, q, q'⟩ := E.cell
  obtain ⟨v, _, ⟨T', L', k', n'⟩, -, X', ⟨Lc, hQ, l', y', z'⟩, st'⟩ := X.privateBack hx hown (mvT hZ w1) (mvT hZ w2) w3 (Cond.privateMethod_at (mvP hZ w5 (args := #[]))) (mvT hZ w4) hy (backOf (W := W) hM hZ w4 w6 hr.1 hr.2.1) (g := mkF m pc Ls (argsL.reverse ++ .ref b :: rest)) rfl hml.symm (Steps.refl _) (a := b) (by rw [eT]; exact q) q' (argsL := argsL) (rest := rest) (lenOf hpd hl) rfl (by show 2 * 0 + _ ≤ _; omega) hd (fun _ _ => ⟨rfl, eT, hr.2.2.1, hr.2.2.2⟩)
  dsimp only [Pt.U, Pt.locs, Pt.cells, Pt.slots] at X' l' y' z' st' hQ
  subst y' z'
  exact own_tr st' (kk v T' Lc L' X' l' hQ)
theorem own_gF (X : Stand p l e R s m args below meth c T locs cells slots) (hx : p.tables.exec = Jvm.exec) (hZ : Z.Warmed39 s.vm) {own O nm d : String} {index : Nat} (hown : s.vm.findClass own = some m.cls) (w : (Jvm.Cond.fieldLink own index O nm d).before a0 Z = true) (eT : T.heap = h) {a : Addr} {v : Value} (F : Fld Z h a O nm d v) (hd : decode c.code pc = .ok (.getfield index, 3))
    (kk : ∀ T', Stand p l e R s m args below meth c T' locs cells slots → T'.heap = h → own_G p e below K (T'.setTop (mkF m (pc + 3) Ls (v :: rest)))) : own_G p e below K (T.setTop (mkF m pc Ls (.ref a :: rest))) := by
  obtain ⟨T', X', e', st'⟩ := getF X hx hZ hown (host := "") (Or.inl w) Via.refl eT F (g := mkF m pc Ls (.ref a :: rest)) rfl rfl hd
  exact own_go st' (kk _ X' e')
theorem own_gS (X : Stand p l e R s m args below meth c T locs cells slots) (hx : p.tables.exec = Jvm.exec) (hZ : Z.Warmed39 s.vm) {own O nm d : String} {index : Nat} (hown : s.vm.findClass own = some m.cls) (w : (Jvm.Cond.fieldLink own index O nm d).before a0 Z = true) (eT : T.heap = h) {v : Value} (F : Sta Z h O nm d v) (hd : decode c.code pc = .ok (.getstatic index, 3))
    (kk : ∀ T', Stand p l e R s m args below meth c T' locs cells slots → T'.heap = h → own_G p e below K (T'.setTop (mkF m (pc + 3) Ls (v :: rest)))) : own_G p e below K (T.setTop (mkF m pc Ls rest)) := by
  obtain ⟨T', X', e', st'⟩ := getS2 X hx hZ hown (host := "") (Or.inl w) Via.refl eT F (g := mkF m pc Ls rest) rfl hd
  exact own_go st' (kk _ X' e')
section
variable {y : MethodName} {H : Spec} {b : ByteArray} {mx : Nat} {rt : Option FieldType} {s₁ : State}
theorem own_rN {z z' : Int32} {t : FieldType} (X : Stand p l e R s m args below meth c T locs cells slots) (hx : p.tables.exec = Jvm.exec) (Bd : BodyLoose p l y H b mx (some t) e s m args below meth c s₁) (hd : decode c.code pc = .ok (.ireturn, 1)) (eT : T.heap = h) (hz : nar t z = z') (q : Q (some (.int z')) h locs) (hk : cells ≤ k ∧ slots ≤ n := by decide) (ht : t = .boolean ∨ t = .byte ∨ t = .char ∨ t = .short := by simp) :
    own_G p e below (own_K Q k n s) (T.setTop (mkF m pc Ls (.int z :: rest))) := own_retN X hx Bd.notSynchronized Bd.returns ht hd hz (fun U hU hV hF => ⟨_, _, rfl, by rw [hU, eT]; exact q, hF.1, hF.2.1, hF.2.2.mono hk.1 hk.2⟩)
theorem own_rI {z : Int32} (X : Stand p l e R s m args below meth c T locs cells slots) (hx : p.tables.exec = Jvm.exec) (Bd : BodyLoose p l y H b mx (some .int) e s m args below meth c s₁) (hd : decode c.code pc = .ok (.ireturn, 1)) (eT : T.heap = h) (q : Q (some (.int z)) h locs) (hk : cells ≤ k ∧ slots ≤ n := by decide) :
    own_G p e below (own_K Q k n s) (T.setTop (mkF m pc Ls (.int z :: rest))) := own_retI X hx Bd.notSynchronized Bd.returns hd (fun U hU hV hF => ⟨_, _, rfl, by rw [hU, eT]; exact q, hF.1, hF.2.1, hF.2.2.mono hk.1 hk.2⟩)
theorem own_rR {t : FieldType} {w : Value} (X : Stand p l e R s m args below meth c T locs cells slots) (hx : p.tables.exec = Jvm.exec) (Bd : BodyLoose p l y H b mx (some t) e s m args below meth c s₁) (hd : decode c.code pc = .ok (.areturn, 1)) (eT : T.heap = h) (q : Q (some w) h locs) (hk : cells ≤ k ∧ slots ≤ n := by decide) (ht : t.isReference = true := by rfl) (hw : w.isRef = true := by rfl) :
    own_G p e below (own_K Q k n s) (T.setTop (mkF m pc Ls (w :: rest))) := own_retR X hx Bd.notSynchronized Bd.returns ht hw hd (fun U hU hV hF => ⟨_, _, rfl, by rw [hU, eT]; exact q, hF.1, hF.2.1, hF.2.2.mono hk.1 hk.2⟩)
theorem own_rV (X : Stand p l e R s m args below meth c T locs cells slots) (hx : p.tables.exec = Jvm.exec) (Bd : BodyLoose p l y H b mx none e s m args below meth c s₁) (hd : decode c.code pc = .ok (.return_, 1)) (eT : T.heap = h) (q : Q none h locs) (hk : cells ≤ k ∧ slots ≤ n := by decide) :
    own_G p e below (own_K Q k n s) (T.setTop (mkF m pc Ls [])) := own_retV X hx Bd.notSynchronized Bd.returns hd (fun U hU hV hF => ⟨_, _, rfl, by rw [hU, eT]; exact q, hF.1, hF.2.1, hF.2.2.mono hk.1 hk.2⟩)
end
end Own
abbrev y1 : MethodName := ⟨"com/example/lodepath/lodepath/MavenVersionBaseVersionPinLaw", "dig", "(JI)C"⟩
abbrev j1 : ByteArray := method_2_code
abbrev y2 : MethodName := ⟨"java/lang/String", "<init>", "([C)V"⟩
abbrev j2 : ByteArray := jdk_42_method_3_code
abbrev y3 : MethodName := ⟨"java/lang/String", "<init>", "([CIILjava/lang/Void;)V"⟩
abbrev j3 : ByteArray := jdk_42_method_149_code
abbrev y4 : MethodName := ⟨"java/lang/Object", "<init>", "()V"⟩
abbrev j4 : ByteArray := object_method_1_code
abbrev y5 : MethodName := ⟨"java/lang/StringUTF16", "compress", "([CII)[B"⟩
abbrev j5 : ByteArray := jdk_52_method_16_code
abbrev y6 : MethodName := ⟨"java/lang/StringUTF16", "compress", "([CI[BII)I"⟩
abbrev j6 : ByteArray := jdk_52_method_21_code
abbrev y7 : MethodName := ⟨"java/lang/StringUTF16", "coderFromArrayLen", "([BI)B"⟩
abbrev j7 : ByteArray := jdk_52_method_15_code
abbrev y8 : MethodName := ⟨"com/example/lodepath/lodepath/MavenVersion", "baseVersion", "(Ljava/lang/String;)Ljava/lang/String;"⟩
abbrev j8 : ByteArray := prog_2_method_5_code
abbrev y9 : MethodName := ⟨"com/example/lodepath/lodepath/MavenVersion", "timestampAt", "(Ljava/lang/String;)I"⟩
abbrev j9 : ByteArray := prog_2_method_6_code
abbrev y10 : MethodName := ⟨"java/lang/String", "lastIndexOf", "(I)I"⟩
abbrev j10 : ByteArray := jdk_42_method_82_code
abbrev y11 : MethodName := ⟨"java/lang/String", "length", "()I"⟩
abbrev j11 : ByteArray := jdk_42_method_54_code
abbrev y12 : MethodName := ⟨"java/lang/String", "coder", "()B"⟩
abbrev j12 : ByteArray := jdk_42_method_152_code
abbrev y13 : MethodName := ⟨"java/lang/String", "lastIndexOf", "(II)I"⟩
abbrev j13 : ByteArray := jdk_42_method_83_code
abbrev y14 : MethodName := ⟨"java/lang/String", "isLatin1", "()Z"⟩
abbrev j14 : ByteArray := jdk_42_method_154_code
abbrev y15 : MethodName := ⟨"java/lang/StringLatin1", "lastIndexOf", "([BII)I"⟩
abbrev j15 : ByteArray := jdk_43_method_27_code
abbrev y16 : MethodName := ⟨"java/lang/StringLatin1", "canEncode", "(I)Z"⟩
abbrev j16 : ByteArray := jdk_43_method_4_code
abbrev y17 : MethodName := ⟨"java/lang/Math", "min", "(II)I"⟩
abbrev j17 : ByteArray := jdk_29_method_69_code
abbrev y18 : MethodName := ⟨"com/example/lodepath/lodepath/MavenVersion", "isAsciiDigits", "(Ljava/lang/String;II)Z"⟩
abbrev j18 : ByteArray := prog_2_method_7_code
abbrev y19 : MethodName := ⟨"java/lang/String", "charAt", "(I)C"⟩
abbrev j19 : ByteArray := jdk_42_method_56_code
abbrev y20 : MethodName := ⟨"java/lang/StringLatin1", "charAt", "([BI)C"⟩
abbrev j20 : ByteArray := jdk_43_method_2_code
abbrev y21 : MethodName := ⟨"java/lang/String", "checkIndex", "(II)V"⟩
abbrev j21 : ByteArray := jdk_42_method_155_code
abbrev y22 : MethodName := ⟨"jdk/internal/util/Preconditions", "checkIndex", "(IILjava/util/function/BiFunction;)I"⟩
abbrev j22 : ByteArray := jdk_41_method_11_code
abbrev y23 : MethodName := ⟨"java/lang/String", "equals", "(Ljava/lang/Object;)Z"⟩
abbrev j23 : ByteArray := jdk_42_method_66_code
abbrev y24 : MethodName := ⟨"java/lang/StringBuilder", "<init>", "()V"⟩
abbrev j24 : ByteArray := jdk_67_method_1_code
abbrev y25 : MethodName := ⟨"java/lang/AbstractStringBuilder", "<init>", "(I)V"⟩
abbrev j25 : ByteArray := jdk_68_method_2_code
abbrev y26 : MethodName := ⟨"java/lang/String", "substring", "(II)Ljava/lang/String;"⟩
abbrev j26 : ByteArray := jdk_42_method_92_code
abbrev y27 : MethodName := ⟨"java/lang/String", "checkBoundsBeginEnd", "(III)V"⟩
abbrev j27 : ByteArray := jdk_42_method_158_code
abbrev y28 : MethodName := ⟨"jdk/internal/util/Preconditions", "checkFromToIndex", "(IIILjava/util/function/BiFunction;)I"⟩
abbrev j28 : ByteArray := jdk_41_method_12_code
abbrev y29 : MethodName := ⟨"java/lang/StringLatin1", "newString", "([BII)Ljava/lang/String;"⟩
abbrev j29 : ByteArray := jdk_43_method_47_code
abbrev y30 : MethodName := ⟨"java/lang/StringBuilder", "append", "(Ljava/lang/String;)Ljava/lang/StringBuilder;"⟩
abbrev j30 : ByteArray := jdk_67_method_7_code
abbrev y31 : MethodName := ⟨"java/lang/AbstractStringBuilder", "append", "(Ljava/lang/String;)Ljava/lang/AbstractStringBuilder;"⟩
abbrev j31 : ByteArray := jdk_68_method_22_code
abbrev y32 : MethodName := ⟨"java/lang/AbstractStringBuilder", "ensureCapacityInternal", "(I)V"⟩
abbrev j32 : ByteArray := jdk_68_method_9_code
abbrev y33 : MethodName := ⟨"java/lang/AbstractStringBuilder", "putStringAt", "(ILjava/lang/String;)V"⟩
abbrev j33 : ByteArray := jdk_68_method_73_code
abbrev y34 : MethodName := ⟨"java/lang/AbstractStringBuilder", "inflateIfNeededFor", "(Ljava/lang/String;)V"⟩
abbrev j34 : ByteArray := jdk_68_method_71_code
abbrev y35 : MethodName := ⟨"java/lang/String", "getBytes", "([BIB)V"⟩
abbrev j35 : ByteArray := jdk_42_method_147_code
abbrev y36 : MethodName := ⟨"java/lang/StringBuilder", "toString", "()Ljava/lang/String;"⟩
abbrev j36 : ByteArray := jdk_67_method_42_code
abbrev y37 : MethodName := ⟨"java/lang/String", "<init>", "(Ljava/lang/StringBuilder;)V"⟩
abbrev j37 : ByteArray := jdk_42_method_53_code
abbrev y38 : MethodName := ⟨"java/lang/String", "<init>", "(Ljava/lang/AbstractStringBuilder;Ljava/lang/Void;)V"⟩
abbrev j38 : ByteArray := jdk_42_method_150_code
abbrev y39 : MethodName := ⟨"java/lang/AbstractStringBuilder", "getValue", "()[B"⟩
abbrev j39 : ByteArray := jdk_68_method_64_code
abbrev y40 : MethodName := ⟨"java/lang/StringBuilder", "length", "()I"⟩
abbrev j40 : ByteArray := jdk_67_method_93_code
abbrev y41 : MethodName := ⟨"java/lang/AbstractStringBuilder", "length", "()I"⟩
abbrev j41 : ByteArray := jdk_68_method_6_code
abbrev y42 : MethodName := ⟨"java/lang/AbstractStringBuilder", "isLatin1", "()Z"⟩
abbrev j42 : ByteArray := jdk_68_method_68_code
abbrev y43 : MethodName := ⟨"java/util/Arrays", "copyOfRange", "([BII)[B"⟩
abbrev j43 : ByteArray := jdk_65_method_132_code
abbrev y44 : MethodName := ⟨"java/util/Arrays", "copyOfRangeByte", "([BII)[B"⟩
abbrev j44 : ByteArray := jdk_65_method_133_code
abbrev y45 : MethodName := ⟨"java/util/Arrays", "checkLength", "(II)V"⟩
abbrev j45 : ByteArray := jdk_65_method_131_code
abbrev y46 : MethodName := ⟨"java/lang/StringLatin1", "equals", "([B[B)Z"⟩
abbrev j46 : ByteArray := jdk_43_method_13_code
abbrev y47 : MethodName := ⟨"java/lang/String", "<init>", "([BB)V"⟩
abbrev j47 : ByteArray := jdk_42_method_151_code
abbrev y48 : MethodName := ⟨"java/lang/StringUTF16", "toBytes", "([CII)[B"⟩
abbrev j48 : ByteArray := jdk_52_method_14_code
abbrev y49 : MethodName := ⟨"java/lang/StringUTF16", "newBytesFor", "(I)[B"⟩
abbrev j49 : ByteArray := jdk_52_method_2_code
abbrev y50 : MethodName := ⟨"java/lang/StringUTF16", "newBytesLength", "(I)I"⟩
abbrev j50 : ByteArray := jdk_52_method_3_code
abbrev y51 : MethodName := ⟨"java/lang/StringUTF16", "putChar", "([BII)V"⟩
abbrev j51 : ByteArray := jdk_52_method_4_code
abbrev y52 : MethodName := ⟨"java/lang/StringUTF16", "getChar", "([BI)C"⟩
abbrev j52 : ByteArray := jdk_52_method_5_code
abbrev y53 : MethodName := ⟨"java/lang/StringUTF16", "lastIndexOf", "([BII)I"⟩
abbrev j53 : ByteArray := jdk_52_method_51_code
abbrev y54 : MethodName := ⟨"java/lang/StringUTF16", "charAt", "([BI)C"⟩
abbrev j54 : ByteArray := jdk_52_method_83_code
abbrev y55 : MethodName := ⟨"java/lang/StringUTF16", "checkIndex", "(I[B)V"⟩
abbrev j55 : ByteArray := jdk_52_method_91_code
abbrev y56 : MethodName := ⟨"java/lang/StringUTF16", "length", "([B)I"⟩
abbrev j56 : ByteArray := jdk_52_method_6_code
abbrev y57 : MethodName := ⟨"com/example/lodepath/lodepath/MavenVersionBaseVersionPinLaw", "terminator", "(C)Z"⟩
abbrev j57 : ByteArray := method_3_code
abbrev y58 : MethodName := ⟨"java/lang/StringUTF16", "newString", "([BII)Ljava/lang/String;"⟩
abbrev j58 : ByteArray := jdk_52_method_69_code
abbrev y59 : MethodName := ⟨"java/lang/StringUTF16", "compress", "([BII)[B"⟩
abbrev j59 : ByteArray := jdk_52_method_17_code
abbrev y60 : MethodName := ⟨"java/lang/StringUTF16", "compress", "([BI[BII)I"⟩
abbrev j60 : ByteArray := jdk_52_method_22_code
abbrev y61 : MethodName := ⟨"java/lang/StringUTF16", "checkBoundsOffCount", "(II[B)V"⟩
abbrev j61 : ByteArray := jdk_52_method_94_code
abbrev y62 : MethodName := ⟨"java/lang/String", "checkBoundsOffCount", "(III)I"⟩
abbrev j62 : ByteArray := jdk_42_method_157_code
abbrev y63 : MethodName := ⟨"jdk/internal/util/Preconditions", "checkFromIndexSize", "(IIILjava/util/function/BiFunction;)I"⟩
abbrev j63 : ByteArray := jdk_41_method_13_code
abbrev y64 : MethodName := ⟨"java/lang/AbstractStringBuilder", "inflate", "()V"⟩
abbrev j64 : ByteArray := jdk_68_method_11_code
abbrev y65 : MethodName := ⟨"java/lang/StringLatin1", "inflate", "([BI[BII)V"⟩
abbrev j65 : ByteArray := jdk_43_method_50_code
abbrev y66 : MethodName := ⟨"java/lang/StringUTF16", "inflate", "([BI[BII)V"⟩
abbrev j66 : ByteArray := jdk_52_method_86_code
theorem own_since (s : State) : s.Since s.vm s.heap.size := ⟨State.Warmed39.refl s, (State.WarmedH.refl s).no_new_pair _⟩
theorem own_wSt {a0 : Array Value} {Z : State} (hw : ∀ d ∈ tables_1, d.before a0 Z = true) : ∀ a ∈ Bundle.stringAtoms, a.before a0 Z = true := fun d hd => hw d ((by decide +kernel : ∀ d ∈ Bundle.stringAtoms, d ∈ tables_1) d hd)
theorem own_EW {a0 : Array Value} {Z : State} (hw : own_H a0 Z) : EW Z a0 consts_1 := EW.cons (hw 180 rfl) (by decide +kernel) (EW.cons (hw 223 rfl) (by decide +kernel) (EW.cons (hw 139 rfl) (by decide +kernel) (EW.nil)))
def own_ch (t : String) : List Int32 := t.toList.map fun c => Int32.ofNat c.toNat
def own_bs (t : String) : List Value := ((own_ch t).map (fun c => c.toInt8.toInt32)).map Value.int
theorem own_lit {t : String} (h : ∀ c ∈ t.toList, c.toNat < 128) : (∀ c ∈ t.toList, c.toNat < 256) ∧ t.toList.map (fun c => Value.int (Jvm.Lit.byteI c.toNat.toUInt16)) = own_bs t := by
  refine ⟨fun c hc => Nat.lt_trans (h c hc) (by decide), ?_⟩
  simp only [own_bs, own_ch, List.map_map]
  refine List.map_congr_left fun c hc => ?_
  have q := h c hc
  show Value.int _ = Value.int _
  congr 1
  have : ∀ n : Fin 128, Jvm.Lit.byteI n.1.toUInt16 = (Int32.ofNat n.1).toInt8.toInt32 := by decide +kernel
  exact this ⟨c.toNat, q⟩
theorem own_codA (t : String) {z : Int32} (hz : z = Int32.ofNat (own_ch t).length) (h : ∀ c ∈ own_ch t, ¬ 255 < c) : StrChars.Road.CodA (own_ch t) 0 z (own_bs t) := Or.inl ⟨rfl, hz, by simp [own_bs, List.map_map, Function.comp_def, StrChars.lo8], h⟩

def own_Str (Z : State) (h : Heap) (x t : Addr) (cs : List Int32) : Prop := ∃ (kb : ClassId) (cd Nb : Int32) (vs : List Value), Exa Z h x "java/lang/String" ∧ Fld Z h x "java/lang/String" "value" "[B" (.ref t) ∧ Fld Z h x "java/lang/String" "coder" "B" (.int cd) ∧ Arv Z h t kb .byte Nb vs (.int 0) ∧ StrChars.Road.CodA cs cd Nb vs ∧ (∀ c ∈ cs, ¬ c < 0 ∧ ¬ (65535 : Int32) < c) ∧ cs.length ≤ 4000
theorem own_Str.ext {Z : State} {h h' : Heap} {x t : Addr} {cs : List Int32} (S : own_Str Z h x t cs) (E : Ext h h') : own_Str Z h' x t cs := by
  obtain ⟨kb, cd, Nb, vs, a, b, c, d, r⟩ := S; exact ⟨kb, cd, Nb, vs, a.ext E, b.ext E, c.ext E, d.ext E, r⟩
theorem own_Str.keep {Z : State} {h h' : Heap} {x t : Addr} {cs : List Int32} {ws : List Addr} (S : own_Str Z h x t cs) (K : Keep h h' ws) (q : x ∉ ws) (r : t ∉ ws) : own_Str Z h' x t cs := by
  obtain ⟨kb, cd, Nb, vs, a, b, c, d, z⟩ := S; exact ⟨kb, cd, Nb, vs, a.keep K, b.keep K q, c.keep K q, d.keep K r, z⟩
theorem own_Str.other {Z : State} {h h' : Heap} {x t a : Addr} {sl : Nat} {v : Value} {cs : List Int32} (S : own_Str Z h x t cs) (W : Wr h h' a sl v) (q : x ≠ a) (r : t ≠ a) : own_Str Z h' x t cs := S.keep (Keep.of_wr W) (by simpa using q) (by simpa using r)
theorem own_Str.lt {Z : State} {h : Heap} {x t : Addr} {cs : List Int32} (S : own_Str Z h x t cs) : x < h.size := by obtain ⟨kb, cd, Nb, vs, a, -⟩ := S; exact a.lt
theorem own_Str.ltt {Z : State} {h : Heap} {x t : Addr} {cs : List Int32} (S : own_Str Z h x t cs) : t < h.size := by obtain ⟨kb, cd, Nb, vs, a, b, c, d, -⟩ := S; exact d.lt
theorem own_on (n : Nat) (h : n ≤ 10000) : (Int32.ofNat n).toInt = n := by
  have := @Int32.toInt_ofNat_small n (by omega); simpa using this
theorem own_onn (n : Nat) (h : n ≤ 10000) : ¬ Int32.ofNat n < (0 : Int32) := by rw [Int32.lt_iff_toInt_lt, own_on n h]; show ¬ (n : Int) < 0; omega
theorem own_onl {i n : Nat} (h : n ≤ 10000) (q : i < n) : Int32.ofNat i < Int32.ofNat n := by rw [Int32.lt_iff_toInt_lt, own_on n h, own_on i (by omega)]; omega
theorem own_onc (n : Nat) (h : n ≤ 10000) : (Int32.ofNat n).toNatClampNeg = n := by simp only [Int32.toNatClampNeg, own_on n h]; omega
theorem own_shr0 (x : Int32) : x >>> ((0 : Int32) &&& 31) = x := by
  have h := c_ishr x 0 0 (by decide); apply Int32.toInt_inj.mp; rw [h]; simp
theorem own_shr1 (n : Nat) (h : n ≤ 4000) : Int32.ofNat (2 * n) >>> ((1 : Int32) &&& 31) = Int32.ofNat n := by
  have q := c_ishr (Int32.ofNat (2 * n)) 1 1 (by decide); apply Int32.toInt_inj.mp; rw [q, own_on _ (by omega), own_on _ (by omega)]; omega
theorem own_shl1 (n : Nat) (h : n ≤ 4000) : Int32.ofNat n <<< ((1 : Int32) &&& 31) = Int32.ofNat (2 * n) := by
  have q := c_ishl (Int32.ofNat n) 1 1 (by decide); have r1 := Int32.le_toInt (Int32.ofNat n <<< ((1 : Int32) &&& 31)); have r2 := Int32.toInt_lt (Int32.ofNat n <<< ((1 : Int32) &&& 31))
  apply Int32.toInt_inj.mp; rw [own_on _ (by omega)]; rw [own_on _ (by omega)] at q; omega
theorem own_add1 (n : Nat) (h : n ≤ 9000) : Int32.ofNat n + (1 : Int32) = Int32.ofNat (n + 1) := by
  have q := c_iadd (Int32.ofNat n) 1; have e : (1 : Int32).toInt = 1 := rfl; have r1 := Int32.le_toInt (Int32.ofNat n + 1); have r2 := Int32.toInt_lt (Int32.ofNat n + 1)
  apply Int32.toInt_inj.mp; rw [own_on _ (by omega)]; rw [own_on _ (by omega), e] at q; omega
theorem own_sub1 (n : Nat) (h : n ≤ 9000) : Int32.ofNat (n + 1) - (1 : Int32) = Int32.ofNat n := by
  have q := c_isub (Int32.ofNat (n + 1)) 1; have e : (1 : Int32).toInt = 1 := rfl; have r1 := Int32.le_toInt (Int32.ofNat (n + 1) - 1); have r2 := Int32.toInt_lt (Int32.ofNat (n + 1) - 1)
  apply Int32.toInt_inj.mp; rw [own_on _ (by omega)]; rw [own_on _ (by omega), e] at q; omega
theorem own_i2c {c : Int32} (h0 : ¬ c < 0) (h1 : ¬ (65535 : Int32) < c) : c.toUInt32.toUInt16.toUInt32.toInt32 = c := by
  have q := c_i2c c; rw [Int32.lt_iff_toInt_lt] at h0 h1; have e0 : (0 : Int32).toInt = 0 := rfl; have e1 : (65535 : Int32).toInt = 65535 := rfl
  apply Int32.toInt_inj.mp; omega
theorem own_narc {c : Int32} (h0 : ¬ c < 0) (h1 : ¬ (65535 : Int32) < c) : nar .char c = c := own_i2c h0 h1
theorem own_nbyte {c : Int32} (h : c = 0 ∨ c = 1) : nar .byte c = c := by rcases h with rfl | rfl <;> rfl
theorem own_mem {cs : List Int32} {i : Nat} (h : i < cs.length) : cs.getD i 0 ∈ cs := by
  rw [List.getD_eq_getElem?_getD, List.getElem?_eq_getElem h]; exact List.getElem_mem _
theorem own_low {cs : List Int32} {i : Nat} (h : i < cs.length) (d : Value) : (cs.map fun c => Value.int (StrChars.lo8 c)).getD i d = .int (StrChars.lo8 (cs.getD i 0)) := StrChars.Road.low_at d cs i h
theorem own_lt0 {n : Nat} (h : n ≤ 10000) {z : Int32} (e : z = Int32.ofNat n) : ¬ z < 0 := by subst e; exact own_onn n h
theorem own_same {Z : State} {a0 : Array Value} {C : String} {y y' : MethodName} (hd : (Jvm.Cond.declares y).before a0 Z = true) (hs : (Jvm.Cond.selects C y' y').before a0 Z = true) (e : y'.cls = y.cls) (hy : y.cls ≠ "java/lang/invoke/MethodHandle" ∧ y.cls ≠ "java/lang/invoke/VarHandle") : (Jvm.Cond.sameMethod y.cls y.cls y.name y.desc).before a0 Z = true := by
  obtain ⟨r0, r, hn, hrm, -, -⟩ := Cond.declares_spec hd
  obtain ⟨c2, r2, m2, q1, q2, q3, q4, kP, hkP, hkPi⟩ := Cond.selects_spec hs
  have f1 := findClass_of_methodNamed hn
  have f2 := findClass_of_methodNamed q3
  rw [e, f1] at f2
  have f3 : r0.cls = m2.cls := Option.some.inj f2
  have hf := State.methodFound?_of_named hn hy
  have hn' : Z.methodNamed? ⟨y.cls, y.name, y.desc⟩ = some r0 := hn
  simp [Cond.before, Cond.holds, Cond.value, f1, hf, hn', f3, hkP, hkPi]
theorem own_nf {s : State} {args : Array Value} {C : String} {y y' : MethodName} (hs : (Jvm.Cond.selects C y' y').before args s = true) (e : y'.cls = y.cls) : NotFace s y := fun r0 h0 => by
  obtain ⟨c2, r2, m2, q1, q2, q3, q4, kP, hkP, hkPi⟩ := Cond.selects_spec hs
  have f1 := findClass_of_methodNamed h0
  have f2 := findClass_of_methodNamed q3
  rw [e, f1] at f2
  have f3 : r0.cls = m2.cls := Option.some.inj f2
  exact ⟨kP, by rw [f3]; exact hkP, hkPi⟩
theorem own_arvpush {Z : State} {h h' : Heap} {a : Addr} {k : ClassId} {ty : FieldType} {z : Int32} {vs : List Value} {dv v : Value} {j : Int32} (V : Arv Z h a k ty z vs dv) (hv : fits ty v = true) (hj : j.toNatClampNeg = vs.length) (W : Wr h h' a j.toNatClampNeg v) : Arv Z h' a k ty z (vs ++ [v]) dv := by
  have V' : Arv Z h a k ty z (vs ++ [dv]) dv := V.pad (pad_rep vs dv 1)
  obtain ⟨c, A, q1, S, q3, H, G⟩ := V'
  have q := Arv.set A q1 S q3 H G hv W vs.length hj (by simp)
  simpa using q
end Jvm.Pilot.@@N@@
namespace Jvm.Pilot.@@N@@
open Jvm Jvm.ClassFile Sem Op Lib Jvm.Free Jvm.Stand Jvm.LawKit Jvm.RoadKit Bundle Jvm.Pilot.@@N@@.Jvm.D
set_option maxRecDepth 65536
set_option maxHeartbeats 40000000
variable {l : Launch} {Z : State} {a0 : Array Value}
def own_St (Z : State) (h : Heap) (zc : Int32) (fm : Value) : Prop := ¬ zc = (0 : Int32) ∧ fm.isRef = true ∧ Sta Z h "java/lang/String" "COMPACT_STRINGS" "Z" (.int zc) ∧ Sta Z h "jdk/internal/util/Preconditions" "SIOOBE_FORMATTER" "Ljava/util/function/BiFunction;" fm ∧ Sta Z h "java/lang/StringUTF16" "$assertionsDisabled" "Z" (.int (1 : Int32)) ∧ Sta Z h "java/lang/StringUTF16" "HI_BYTE_SHIFT" "I" (.int (0 : Int32)) ∧ Sta Z h "java/lang/StringUTF16" "LO_BYTE_SHIFT" "I" (.int (8 : Int32))
theorem own_St.ext {Z : State} {h h' : Heap} {zc : Int32} {fm : Value} (S : own_St Z h zc fm) (E : Ext h h') : own_St Z h' zc fm := ⟨S.1, S.2.1, S.2.2.1.ext E, S.2.2.2.1.ext E, S.2.2.2.2.1.ext E, S.2.2.2.2.2.1.ext E, S.2.2.2.2.2.2.ext E⟩
theorem own_St.wr {Z : State} {h h' : Heap} {zc : Int32} {fm : Value} {a : Addr} {sl : Nat} {v : Value} (S : own_St Z h zc fm) (W : Wr h h' a sl v) : own_St Z h' zc fm := ⟨S.1, S.2.1, S.2.2.1.wr W, S.2.2.2.1.wr W, S.2.2.2.2.1.wr W, S.2.2.2.2.2.1.wr W, S.2.2.2.2.2.2.wr W⟩
theorem own_St.keep {Z : State} {h h' : Heap} {zc : Int32} {fm : Value} {ws : List Addr} (S : own_St Z h zc fm) (K : Keep h h' ws) (q : ∀ a ∈ ws, ∀ cell : Cell, h[a]? = some cell → cell.vm.isStatics = false) : own_St Z h' zc fm := ⟨S.1, S.2.1, own_stakeep S.2.2.1 K q, own_stakeep S.2.2.2.1 K q, own_stakeep S.2.2.2.2.1 K q, own_stakeep S.2.2.2.2.2.1 K q, own_stakeep S.2.2.2.2.2.2 K q⟩
theorem d12 : ∀ x ∈ ([(0, .getstatic 38, 3), (3, .ifCond .eq 10, 3), (6, .aload_n 0, 1), (7, .getfield 15, 3), (10, .goto 4, 3), (14, .ireturn, 1)] : List (Nat × Instr × Nat)), decode j12 x.1 = .ok x.2 := by decide +kernel
theorem own_pn0 : plainName "java/lang/String" = true := by first | (simp [plainName, overriddenIn]; done) | decide +kernel
def Q_cod (Z : State) (a1 : Addr) (cd : Int32) (zc : Int32) (fm : Value) (h0 : Heap) (n0 : Nat) (v : Option Value) (h : Heap) (L : List Loc) : Prop := v = some (.int cd) ∧ Fr n0 L ∧ h = h0
theorem rm_cod (hw : own_H a0 Z) (a1 : Addr) (cd : Int32) (zc : Int32) (fm : Value) (h0 : Heap) (n0 : Nat) (Z0 : n0 ≤ h0.size) (F1 : Fld Z h0 a1 "java/lang/String" "coder" "B" (.int cd)) (hcd : cd = 0 ∨ cd = 1) (SS : own_St Z h0 zc fm) : own_M l y12 j12 1 (some .byte) (own_R 0 0 0 0) #[(.ref a1)] Z h0 (Q_cod Z a1 cd zc fm h0 n0) := by
 refine own_body (plainFor_of_name own_pn0) (fun p e s m below meth c s₁ Bd hZ hx hby hml hown hnm X0 e0 => ?_)
 have hown : s.vm.findClass "java/lang/String" = some m.cls := hown
 have N0 := Fr.nil n0
 have D := own_dt hby d12
 refine own_cast (g' := mkF m 0 #[vr a1] []) rfl ?_
 show own_G _ _ _ _ (s₁.setTop (mkF m 0 #[vr a1] []))
 refine own_gS X0 hx hZ hown (hw 23 rfl) e0 SS.2.2.1 (D 0 rfl) (fun T1 X1 e1 => ?_)
 refine own_go (fun _ Kk => XS.ifNo X1.here hx rfl (D 1 rfl) rfl ((if0 _ _).trans (feq SS.1).1) (XS.aloadN X1.here hx rfl (D 2 rfl) rfl rfl Kk)) ?_
 refine own_gF X1 hx hZ hown (hw 35 rfl) e1 F1 (D 3 rfl) (fun T2 X2 e2 => ?_)
 refine own_go (fun _ Kk => XS.goto X2.here hx rfl (pc0 := 10) (pc' := 14) rfl (D 4 rfl) (by decide) (by decide) Kk) ?_
 show own_G _ _ _ _ (T2.setTop (mkF m 14 #[vr a1] [.int cd]))
 exact own_rN X2 hx Bd (D 5 rfl) e2 (own_nbyte hcd) ⟨rfl, N0, rfl⟩
theorem d14 : ∀ x ∈ ([(0, .getstatic 38, 3), (3, .ifCond .eq 14, 3), (6, .aload_n 0, 1), (7, .getfield 15, 3), (10, .ifCond .ne 7, 3), (13, .iconst 1, 1), (14, .goto 4, 3), (18, .ireturn, 1), (17, .iconst 0, 1)] : List (Nat × Instr × Nat)), decode j14 x.1 = .ok x.2 := by decide +kernel
def Q_lat (Z : State) (a1 : Addr) (zc : Int32) (fm : Value) (h0 : Heap) (n0 : Nat) (v : Option Value) (h : Heap) (L : List Loc) : Prop := v = some (.int (1 : Int32)) ∧ Fr n0 L ∧ h = h0
theorem rm_lat (hw : own_H a0 Z) (a1 : Addr) (zc : Int32) (fm : Value) (h0 : Heap) (n0 : Nat) (Z0 : n0 ≤ h0.size) (F1 : Fld Z h0 a1 "java/lang/String" "coder" "B" (.int (0 : Int32))) (SS : own_St Z h0 zc fm) : own_M l y14 j14 1 (some .boolean) (own_R 0 0 0 0) #[(.ref a1)] Z h0 (Q_lat Z a1 zc fm h0 n0) := by
 refine own_body (plainFor_of_name own_pn0) (fun p e s m below meth c s₁ Bd hZ hx hby hml hown hnm X0 e0 => ?_)
 have hown : s.vm.findClass "java/lang/String" = some m.cls := hown
 have N0 := Fr.nil n0
 have D := own_dt hby d14
 refine own_cast (g' := mkF m 0 #[vr a1] []) rfl ?_
 show own_G _ _ _ _ (s₁.setTop (mkF m 0 #[vr a1] []))
 refine own_gS X0 hx hZ hown (hw 23 rfl) e0 SS.2.2.1 (D 0 rfl) (fun T1 X1 e1 => ?_)
 refine own_go (fun _ Kk => XS.ifNo X1.here hx rfl (D 1 rfl) rfl ((if0 _ _).trans (feq SS.1).1) (XS.aloadN X1.here hx rfl (D 2 rfl) rfl rfl Kk)) ?_
 refine own_gF X1 hx hZ hown (hw 35 rfl) e1 F1 (D 3 rfl) (fun T2 X2 e2 => ?_)
 refine own_go (fun _ Kk => XS.ifNo X2.here hx rfl (D 4 rfl) rfl ((if0 _ _).trans (by decide)) Kk) ?_
 show own_G _ _ _ _ (T2.setTop (mkF m 13 #[vr a1] []))
 refine own_go (fun _ Kk => XS.iconst X2.here hx rfl (D 5 rfl) (XS.goto X2.here hx rfl (pc0 := 14) (pc' := 18) rfl (D 6 rfl) (by decide) (by decide) Kk)) ?_
 exact own_rN (z' := (1 : Int32)) X2 hx Bd (D 7 rfl) e2 rfl ⟨rfl, N0, rfl⟩
def Q_utf (Z : State) (a1 : Addr) (zc : Int32) (fm : Value) (h0 : Heap) (n0 : Nat) (v : Option Value) (h : Heap) (L : List Loc) : Prop := v = some (.int (0 : Int32)) ∧ Fr n0 L ∧ h = h0
theorem rm_utf (hw : own_H a0 Z) (a1 : Addr) (zc : Int32) (fm : Value) (h0 : Heap) (n0 : Nat) (Z0 : n0 ≤ h0.size) (F1 : Fld Z h0 a1 "java/lang/String" "coder" "B" (.int (1 : Int32))) (SS : own_St Z h0 zc fm) : own_M l y14 j14 1 (some .boolean) (own_R 0 0 0 0) #[(.ref a1)] Z h0 (Q_utf Z a1 zc fm h0 n0) := by
 refine own_body (plainFor_of_name own_pn0) (fun p e s m below meth c s₁ Bd hZ hx hby hml hown hnm X0 e0 => ?_)
 have hown : s.vm.findClass "java/lang/String" = some m.cls := hown
 have N0 := Fr.nil n0
 have D := own_dt hby d14
 refine own_cast (g' := mkF m 0 #[vr a1] []) rfl ?_
 show own_G _ _ _ _ (s₁.setTop (mkF m 0 #[vr a1] []))
 refine own_gS X0 hx hZ hown (hw 23 rfl) e0 SS.2.2.1 (D 0 rfl) (fun T1 X1 e1 => ?_)
 refine own_go (fun _ Kk => XS.ifNo X1.here hx rfl (D 1 rfl) rfl ((if0 _ _).trans (feq SS.1).1) (XS.aloadN X1.here hx rfl (D 2 rfl) rfl rfl Kk)) ?_
 refine own_gF X1 hx hZ hown (hw 35 rfl) e1 F1 (D 3 rfl) (fun T2 X2 e2 => ?_)
 refine own_go (fun _ Kk => XS.ifYes X2.here hx rfl (pc0 := 10) (pc' := 17) rfl (D 4 rfl) rfl ((if0 _ _).trans (by decide)) (by decide) (by decide) Kk) ?_
 show own_G _ _ _ _ (T2.setTop (mkF m 17 #[vr a1] []))
 refine own_go (fun _ Kk => XS.iconst X2.here hx rfl (D 8 rfl) Kk) ?_
 exact own_rN (z' := (0 : Int32)) X2 hx Bd (D 7 rfl) e2 rfl ⟨rfl, N0, rfl⟩
theorem d22 : ∀ x ∈ ([(0, .iload_n 0, 1), (1, .ifCond .lt 8, 3), (4, .iload_n 0, 1), (5, .iload_n 1, 1), (6, .if_icmp .lt 10, 3), (16, .iload_n 0, 1), (17, .ireturn, 1)] : List (Nat × Instr × Nat)), decode j22 x.1 = .ok x.2 := by decide +kernel
theorem own_pn1 : plainName "jdk/internal/util/Preconditions" = true := by first | (simp [plainName, overriddenIn]; done) | decide +kernel
def Q_pci (Z : State) (p0 : Int32) (p1 : Int32) (fm : Value) (h0 : Heap) (n0 : Nat) (v : Option Value) (h : Heap) (L : List Loc) : Prop := v = some (.int p0) ∧ Fr n0 L ∧ h = h0
theorem rm_pci (hw : own_H a0 Z) (p0 : Int32) (p1 : Int32) (fm : Value) (h0 : Heap) (n0 : Nat) (Z0 : n0 ≤ h0.size) (hfm : fm.isRef = true) (hi0 : ¬ (p0 < (0 : Int32))) (hi1 : p0 < p1) : own_M l y22 j22 3 (some .int) (own_R 0 0 0 0) #[(.int p0), (.int p1), fm] Z h0 (Q_pci Z p0 p1 fm h0 n0) := by
 refine own_body (plainFor_of_name own_pn1) (fun p e s m below meth c s₁ Bd hZ hx hby hml hown hnm X0 e0 => ?_)
 have hown : s.vm.findClass "jdk/internal/util/Preconditions" = some m.cls := hown
 have N0 := Fr.nil n0
 have D := own_dt hby d22
 refine own_cast (g' := mkF m 0 #[vi p0, vi p1, .val fm] []) (by first | rfl | (cases fm <;> first | rfl | (simp [Value.isRef] at hfm; done))) ?_
 show own_G _ _ _ _ (s₁.setTop (mkF m 0 #[vi p0, vi p1, .val fm] []))
 refine own_go (fun _ Kk => XS.iloadN X0.here hx rfl (D 0 rfl) rfl (XS.ifNo X0.here hx rfl (D 1 rfl) rfl ((if0 _ _).trans (flt hi0).1) (XS.iloadN X0.here hx rfl (D 2 rfl) rfl (XS.iloadN X0.here hx rfl (D 3 rfl) rfl (XS.icmpYes X0.here hx rfl (pc0 := 6) (pc' := 16) rfl (D 4 rfl) rfl (tlt hi1).1 (by decide) (by decide) Kk))))) ?_
 show own_G _ _ _ _ (s₁.setTop (mkF m 16 #[vi p0, vi p1, .val fm] []))
 refine own_go (fun _ Kk => XS.iloadN X0.here hx rfl (D 5 rfl) rfl Kk) ?_
 exact own_rI X0 hx Bd (D 6 rfl) e0 ⟨rfl, N0, rfl⟩
theorem d21 : ∀ x ∈ ([(0, .iload_n 0, 1), (1, .iload_n 1, 1), (2, .getstatic 1053, 3), (5, .invokestatic 1059, 3), (8, .pop, 1), (9, .return_, 1)] : List (Nat × Instr × Nat)), decode j21 x.1 = .ok x.2 := by decide +kernel
theorem own_pd0 : parseMethodDescriptor "(IILjava/util/function/BiFunction;)I" = some ⟨[.int, .int, (.object "java/util/function/BiFunction")], some .int⟩ := by decide +kernel
def Q_sci (Z : State) (p0 : Int32) (p1 : Int32) (zc : Int32) (fm : Value) (h0 : Heap) (n0 : Nat) (v : Option Value) (h : Heap) (L : List Loc) : Prop := v = none ∧ Fr n0 L ∧ h = h0
theorem rm_sci (hw : own_H a0 Z) (p0 : Int32) (p1 : Int32) (zc : Int32) (fm : Value) (h0 : Heap) (n0 : Nat) (Z0 : n0 ≤ h0.size) (hi0 : ¬ (p0 < (0 : Int32))) (hi1 : p0 < p1) (SS : own_St Z h0 zc fm) : own_M l y21 j21 2 none (own_R 1 0 0 14) #[(.int p0), (.int p1)] Z h0 (Q_sci Z p0 p1 zc fm h0 n0) := by
 refine own_body (plainFor_of_name own_pn0) (fun p e s m below meth c s₁ Bd hZ hx hby hml hown hnm X0 e0 => ?_)
 have hown : s.vm.findClass "java/lang/String" = some m.cls := hown
 have N0 := Fr.nil n0
 have D := own_dt hby d21
 refine own_cast (g' := mkF m 0 #[vi p0, vi p1] []) rfl ?_
 show own_G _ _ _ _ (s₁.setTop (mkF m 0 #[vi p0, vi p1] []))
 refine own_go (fun _ Kk => XS.iloadN X0.here hx rfl (D 0 rfl) rfl (XS.iloadN X0.here hx rfl (D 1 rfl) rfl Kk)) ?_
 refine own_gS X0 hx hZ hown (hw 97 rfl) e0 SS.2.2.2.1 (D 2 rfl) (fun T1 X1 e1 => ?_)
 refine own_cS X1 hx hZ 0 hown (hw 99 rfl) (hw 100 rfl) (hw 98 rfl) (hw 101 rfl) (rm_pci hw p0 p1 fm h0 n0 Z0 SS.2.1 hi0 hi1) e1 own_pd0 rfl (D 3 rfl) hml ?_
 rintro _ T2 _ _ X2 l2 ⟨rfl, N2q, e2⟩
 have N2 := own_frl l2 N0 N2q
 refine own_go (fun _ Kk => XS.pop X2.here hx rfl (D 4 rfl) rfl rfl Kk) ?_
 show own_G _ _ _ _ (T2.setTop (mkF m 9 #[vi p0, vi p1] []))
 exact own_rV X2 hx Bd (D 5 rfl) e2 ⟨rfl, N2, rfl⟩
theorem d17 : ∀ x ∈ ([(0, .iload_n 0, 1), (1, .iload_n 1, 1), (2, .if_icmp .gt 7, 3), (9, .iload_n 1, 1), (10, .ireturn, 1), (5, .iload_n 0, 1), (6, .goto 4, 3)] : List (Nat × Instr × Nat)), decode j17 x.1 = .ok x.2 := by decide +kernel
def Q_mmin (Z : State) (p0 : Int32) (p1 : Int32) (h0 : Heap) (n0 : Nat) (v : Option Value) (h : Heap) (L : List Loc) : Prop := v = some (.int (if p1 < p0 then p1 else p0)) ∧ Fr n0 L ∧ h = h0
theorem rm_mmin (hw : own_H a0 Z) (p0 : Int32) (p1 : Int32) (h0 : Heap) (n0 : Nat) (Z0 : n0 ≤ h0.size) : own_M l y17 j17 2 (some .int) (own_R 0 0 0 0) #[(.int p0), (.int p1)] Z h0 (Q_mmin Z p0 p1 h0 n0) := by
 refine own_body (Jvm.Free.JP.mathPlain rfl (by decide +kernel)) (fun p e s m below meth c s₁ Bd hZ hx hby hml hown hnm X0 e0 => ?_)
 have hown : s.vm.findClass "java/lang/Math" = some m.cls := hown
 have N0 := Fr.nil n0
 have D := own_dt hby d17
 refine own_cast (g' := mkF m 0 #[vi p0, vi p1] []) rfl ?_
 show own_G _ _ _ _ (s₁.setTop (mkF m 0 #[vi p0, vi p1] []))
 refine own_go (fun _ Kk => XS.iloadN X0.here hx rfl (D 0 rfl) rfl (XS.iloadN X0.here hx rfl (D 1 rfl) rfl Kk)) ?_
 by_cases hc2_1 : p1 < p0
 ·
  refine own_go (fun _ Kk => XS.icmpYes X0.here hx rfl (pc0 := 2) (pc' := 9) rfl (D 2 rfl) rfl (tlt hc2_1).2.2.1 (by decide) (by decide) Kk) ?_
  show own_G _ _ _ _ (s₁.setTop (mkF m 9 #[vi p0, vi p1] []))
  refine own_go (fun _ Kk => XS.iloadN X0.here hx rfl (D 3 rfl) rfl Kk) ?_
  exact own_rI X0 hx Bd (D 4 rfl) e0 ⟨by rw [if_pos hc2_1], N0, rfl⟩
 ·
  refine own_go (fun _ Kk => XS.icmpNo X0.here hx rfl (D 2 rfl) rfl (flt hc2_1).2.2.1 Kk) ?_
  show own_G _ _ _ _ (s₁.setTop (mkF m 5 #[vi p0, vi p1] []))
  refine own_go (fun _ Kk => XS.iloadN X0.here hx rfl (D 5 rfl) rfl (XS.goto X0.here hx rfl (pc0 := 6) (pc' := 10) rfl (D 6 rfl) (by decide) (by decide) Kk)) ?_
  exact own_rI X0 hx Bd (D 4 rfl) e0 ⟨by rw [if_neg hc2_1], N0, rfl⟩
theorem d16 : ∀ x ∈ ([(0, .iload_n 0, 1), (1, .ifCond .lt 14, 3), (4, .iload_n 0, 1), (5, .sipush 255, 3), (8, .if_icmp .gt 7, 3), (11, .iconst 1, 1), (12, .goto 4, 3), (16, .ireturn, 1)] : List (Nat × Instr × Nat)), decode j16 x.1 = .ok x.2 := by decide +kernel
theorem own_pn3 : plainName "java/lang/StringLatin1" = true := by first | (simp [plainName, overriddenIn]; done) | decide +kernel
def Q_cenc (Z : State)  (h0 : Heap) (n0 : Nat) (v : Option Value) (h : Heap) (L : List Loc) : Prop := v = some (.int (1 : Int32)) ∧ Fr n0 L ∧ h = h0
theorem rm_cenc (hw : own_H a0 Z)  (h0 : Heap) (n0 : Nat) (Z0 : n0 ≤ h0.size) : own_M l y16 j16 1 (some .boolean) (own_R 0 0 0 0) #[(.int (45 : Int32))] Z h0 (Q_cenc Z h0 n0) := by
 refine own_body (plainFor_of_name own_pn3) (fun p e s m below meth c s₁ Bd hZ hx hby hml hown hnm X0 e0 => ?_)
 have hown : s.vm.findClass "java/lang/StringLatin1" = some m.cls := hown
 have N0 := Fr.nil n0
 have D := own_dt hby d16
 refine own_cast (g' := mkF m 0 #[vi 45] []) rfl ?_
 show own_G _ _ _ _ (s₁.setTop (mkF m 0 #[vi 45] []))
 refine own_go (fun _ Kk => XS.iloadN X0.here hx rfl (D 0 rfl) rfl (XS.ifNo X0.here hx rfl (D 1 rfl) rfl ((if0 _ _).trans (by decide)) (XS.iloadN X0.here hx rfl (D 2 rfl) rfl (XS.sipush X0.here hx rfl (D 3 rfl) (XS.icmpNo X0.here hx rfl (D 4 rfl) rfl (by decide) Kk))))) ?_
 show own_G _ _ _ _ (s₁.setTop (mkF m 11 #[vi 45] []))
 refine own_go (fun _ Kk => XS.iconst X0.here hx rfl (D 5 rfl) (XS.goto X0.here hx rfl (pc0 := 12) (pc' := 16) rfl (D 6 rfl) (by decide) (by decide) Kk)) ?_
 exact own_rN (z' := (1 : Int32)) X0 hx Bd (D 7 rfl) e0 rfl ⟨rfl, N0, rfl⟩
end Jvm.Pilot.@@N@@
namespace Jvm.Pilot.@@N@@
open Jvm Jvm.ClassFile Sem Op Lib Jvm.Free Jvm.Stand Jvm.LawKit Jvm.RoadKit Bundle Jvm.Pilot.@@N@@.Jvm.D
set_option maxRecDepth 65536
set_option maxHeartbeats 40000000
variable {l : Launch} {Z : State} {a0 : Array Value}

theorem own_cd01 {cs : List Int32} {cd Nb : Int32} {vs : List Value} (h : StrChars.Road.CodA cs cd Nb vs) : cd = 0 ∨ cd = 1 := by
  rcases h with h | h
  · exact Or.inl h.1
  · exact Or.inr h.1
theorem own_lenA {cs : List Int32} {cd Nb : Int32} {vs : List Value} (h : StrChars.Road.CodA cs cd Nb vs) (q : cs.length ≤ 4000) : Nb >>> (cd &&& 31) = Int32.ofNat cs.length := by
  rcases h with ⟨rfl, rfl, -⟩ | ⟨rfl, rfl, -⟩
  · exact own_shr0 _
  · exact own_shr1 _ q
theorem own_mask {x : Int32} (h0 : ¬ x < 0) (h1 : ¬ 255 < x) : StrChars.lo8 x &&& 255 = x := by
  apply Int32.toBitVec_inj.mp; apply BitVec.eq_of_toNat_eq
  have q := StrChars.lo8_and x
  rw [q]
  rw [Int32.lt_iff_toInt_lt] at h0 h1
  have e0 : (0 : Int32).toInt = 0 := rfl
  have e1 : (255 : Int32).toInt = 255 := rfl
  have e2 : x.toInt = x.toBitVec.toInt := rfl
  rw [e2, BitVec.toInt_eq_toNat_cond] at h0 h1
  have := x.toBitVec.isLt
  split at h0 <;> omega
theorem own_lch {x : Int32} (h0 : ¬ x < 0) (h1 : ¬ 255 < x) : (StrChars.lo8 x &&& 255).toUInt32.toUInt16.toUInt32.toInt32 = x := by
  rw [own_mask h0 h1]; exact own_i2c h0 (fun h => h1 (by rw [Int32.lt_iff_toInt_lt] at h ⊢; have e1 : (255 : Int32).toInt = 255 := rfl; have e2 : (65535 : Int32).toInt = 65535 := rfl; omega))
theorem d11 : ∀ x ∈ ([(0, .aload_n 0, 1), (1, .getfield 9, 3), (4, .arraylength, 1), (5, .aload_n 0, 1), (6, .invokevirtual 335, 3), (9, .ishr, 1), (10, .ireturn, 1)] : List (Nat × Instr × Nat)), decode j11 x.1 = .ok x.2 := by decide +kernel
theorem own_pd1 : parseMethodDescriptor "()B" = some ⟨[], some .byte⟩ := by decide +kernel
def Q_len (Z : State) (a1 : Addr) (t : Addr) (cs : List Int32) (zc : Int32) (fm : Value) (h0 : Heap) (n0 : Nat) (v : Option Value) (h : Heap) (L : List Loc) : Prop := v = some (.int (Int32.ofNat cs.length)) ∧ Fr n0 L ∧ h = h0
theorem rm_len (hw : own_H a0 Z) (a1 : Addr) (t : Addr) (cs : List Int32) (zc : Int32) (fm : Value) (h0 : Heap) (n0 : Nat) (Z0 : n0 ≤ h0.size) (P0_ : own_Str Z h0 a1 t cs) (SS : own_St Z h0 zc fm) : own_M l y11 j11 1 (some .int) (own_R 1 0 0 13) #[(.ref a1)] Z h0 (Q_len Z a1 t cs zc fm h0 n0) := by
 refine own_body (plainFor_of_name own_pn0) (fun p e s m below meth c s₁ Bd hZ hx hby hml hown hnm X0 e0 => ?_)
 have hown : s.vm.findClass "java/lang/String" = some m.cls := hown
 have N0 := Fr.nil n0
 have D := own_dt hby d11
 refine own_cast (g' := mkF m 0 #[vr a1] []) rfl ?_
 obtain ⟨kb, cd, Nb, vs, E_, Fv_, Fc_, V_, hco, hch, hlen⟩ := id P0_
 have hcd : cd = 0 ∨ cd = 1 := own_cd01 hco
 show own_G _ _ _ _ (s₁.setTop (mkF m 0 #[vr a1] []))
 refine own_go (fun _ Kk => XS.aloadN X0.here hx rfl (D 0 rfl) rfl rfl Kk) ?_
 refine own_gF X0 hx hZ hown (hw 37 rfl) e0 Fv_ (D 1 rfl) (fun T1 X1 e1 => ?_)
 obtain ⟨cl2, Ar2, -, Sz2, Nn2, -, -⟩ := id V_
 refine own_go (X1.arraylength hx (by rw [e1]; exact Ar2.1) (State.isArrayOf_alike hZ.alike Ar2.2.1) (g := (mkF m 4 #[vr a1] [.ref t])) rfl rfl (D 2 rfl)) ?_
 rw [len_of Sz2 Nn2]
 refine own_go (fun _ Kk => XS.aloadN X1.here hx rfl (D 3 rfl) rfl rfl Kk) ?_
 refine own_cV X1 hx hZ 1 hown (hw 56 rfl) (hw 57 rfl) (hw 59 rfl) (hw 58 rfl) (hw 60 rfl) (hw 12 rfl) (rm_cod hw a1 cd zc fm h0 n0 Z0 Fc_ hcd SS) e1 E_ own_pd1 rfl (D 4 rfl) hml ?_
 rintro _ T3 _ _ X3 l3 ⟨rfl, N3q, e3⟩
 have N3 := own_frl l3 N0 N3q
 show own_G _ _ _ _ (T3.setTop (mkF m 9 #[vr a1] [.int cd, .int Nb]))
 refine own_go (fun _ Kk => XS.ishr X3.here hx rfl (D 5 rfl) rfl Kk) ?_
 show own_G _ _ _ _ (T3.setTop (mkF m 10 #[vr a1] [.int (Nb >>> (cd &&& 31))]))
 rw [show (Nb >>> (cd &&& 31)) = (Int32.ofNat cs.length) from own_lenA hco hlen]
 exact own_rI X3 hx Bd (D 6 rfl) e3 ⟨rfl, N3, rfl⟩
theorem d20 : ∀ x ∈ ([(0, .iload_n 1, 1), (1, .aload_n 0, 1), (2, .arraylength, 1), (3, .invokestatic 9, 3), (6, .aload_n 0, 1), (7, .iload_n 1, 1), (8, .baload, 1), (9, .sipush 255, 3), (12, .iand, 1), (13, .i2c, 1), (14, .ireturn, 1)] : List (Nat × Instr × Nat)), decode j20 x.1 = .ok x.2 := by decide +kernel
theorem own_pd2 : parseMethodDescriptor "(II)V" = some ⟨[.int, .int], none⟩ := by decide +kernel
def Q_lca (Z : State) (t : Addr) (kb : ClassId) (cs : List Int32) (i : Nat) (zc : Int32) (fm : Value) (h0 : Heap) (n0 : Nat) (v : Option Value) (h : Heap) (L : List Loc) : Prop := v = some (.int (cs.getD i 0)) ∧ Fr n0 L ∧ h = h0
theorem rm_lca (hw : own_H a0 Z) (t : Addr) (kb : ClassId) (cs : List Int32) (i : Nat) (zc : Int32) (fm : Value) (h0 : Heap) (n0 : Nat) (Z0 : n0 ≤ h0.size) (P0_ : Arv Z h0 t kb .byte (Int32.ofNat cs.length) (cs.map fun c => Value.int (StrChars.lo8 c)) (.int 0)) (hi : i < cs.length) (hl : cs.length ≤ 4000) (hbd : ∀ c ∈ cs, ¬ c < 0 ∧ ¬ (65535 : Int32) < c) (hlo : ∀ c ∈ cs, ¬ (255 : Int32) < c) (SS : own_St Z h0 zc fm) : own_M l y20 j20 2 (some .char) (own_R 2 0 0 27) #[(.ref t), (.int (Int32.ofNat i))] Z h0 (Q_lca Z t kb cs i zc fm h0 n0) := by
 refine own_body (plainFor_of_name own_pn3) (fun p e s m below meth c s₁ Bd hZ hx hby hml hown hnm X0 e0 => ?_)
 have hown : s.vm.findClass "java/lang/StringLatin1" = some m.cls := hown
 have N0 := Fr.nil n0
 have D := own_dt hby d20
 refine own_cast (g' := mkF m 0 #[vr t, vi (Int32.ofNat i)] []) rfl ?_
 show own_G _ _ _ _ (s₁.setTop (mkF m 0 #[vr t, vi (Int32.ofNat i)] []))
 refine own_go (fun _ Kk => XS.iloadN X0.here hx rfl (D 0 rfl) rfl (XS.aloadN X0.here hx rfl (D 1 rfl) rfl rfl Kk)) ?_
 obtain ⟨cl1, Ar1, -, Sz1, Nn1, -, -⟩ := id P0_
 refine own_go (X0.arraylength hx (by rw [e0]; exact Ar1.1) (State.isArrayOf_alike hZ.alike Ar1.2.1) (g := (mkF m 2 #[vr t, vi (Int32.ofNat i)] [.ref t, .int (Int32.ofNat i)])) rfl rfl (D 2 rfl)) ?_
 rw [len_of Sz1 Nn1]
 refine own_cS X0 hx hZ 0 hown (hw 94 rfl) (hw 95 rfl) (hw 12 rfl) (hw 96 rfl) (rm_sci hw (Int32.ofNat i) (Int32.ofNat cs.length) zc fm h0 n0 Z0 (own_onn i (by omega)) (own_onl (by omega) hi) SS) e0 own_pd2 rfl (D 3 rfl) hml ?_
 rintro _ T2 _ _ X2 l2 ⟨rfl, N2q, e2⟩
 have N2 := own_frl l2 N0 N2q
 refine own_go (fun _ Kk => XS.aloadN X2.here hx rfl (D 4 rfl) rfl rfl Kk) ?_
 show own_G _ _ _ _ (T2.setTop (mkF m 7 #[vr t, vi (Int32.ofNat i)] [.ref t]))
 refine own_go (fun _ Kk => XS.iloadN X2.here hx rfl (D 5 rfl) rfl Kk) ?_
 obtain ⟨cl3, Ar3, -, Sz3, Nn3, Hh3, -⟩ := id P0_
 have hin3 : ¬ ((Int32.ofNat i) < 0 ∨ cl3.slots.size ≤ ((Int32.ofNat i)).toNatClampNeg) := inb_of Sz3 ⟨own_onn i (by omega), own_onl (by omega) hi⟩
 have hat3 : cl3.slots[((Int32.ofNat i)).toNatClampNeg]? = some (.int (StrChars.lo8 (cs.getD i 0))) := Has.at Hh3 hin3 (by rw [own_onc i (by omega)]; exact own_low hi _)
 refine own_go (X2.baloadBytes hx (j := (Int32.ofNat i)) (v := (.int (StrChars.lo8 (cs.getD i 0)))) (by rw [e2]; exact Ar3.1) (State.isArrayOf_alike hZ.alike Ar3.2.1) Ar3.2.2 hin3 hat3 (g := (mkF m 8 #[vr t, vi (Int32.ofNat i)] [.int (Int32.ofNat i), .ref t])) rfl rfl (D 6 rfl)) ?_
 refine own_go (fun _ Kk => XS.sipush X2.here hx rfl (D 7 rfl) (XS.iand X2.here hx rfl (D 8 rfl) rfl (XS.i2c X2.here hx rfl (D 9 rfl) rfl Kk))) ?_
 show own_G _ _ _ _ (T2.setTop (mkF m 14 #[vr t, vi (Int32.ofNat i)] [.int (((StrChars.lo8 (cs.getD i 0)) &&& (255 : Int32)).toUInt32.toUInt16.toUInt32.toInt32)]))
 rw [show (((StrChars.lo8 (cs.getD i 0)) &&& (255 : Int32)).toUInt32.toUInt16.toUInt32.toInt32) = (cs.getD i 0) from own_lch (hbd _ (own_mem hi)).1 (hlo _ (own_mem hi))]
 exact own_rN X2 hx Bd (D 10 rfl) e2 (own_narc (hbd _ (own_mem hi)).1 (hbd _ (own_mem hi)).2) ⟨rfl, N2, rfl⟩
theorem d56 : ∀ x ∈ ([(0, .aload_n 0, 1), (1, .arraylength, 1), (2, .iconst 1, 1), (3, .ishr, 1), (4, .ireturn, 1)] : List (Nat × Instr × Nat)), decode j56 x.1 = .ok x.2 := by decide +kernel
theorem own_pn4 : plainName "java/lang/StringUTF16" = true := by first | (simp [plainName, overriddenIn]; done) | decide +kernel
def Q_ulen (Z : State) (t : Addr) (kb : ClassId) (k : Nat) (vs : List Value) (h0 : Heap) (n0 : Nat) (v : Option Value) (h : Heap) (L : List Loc) : Prop := v = some (.int (Int32.ofNat k)) ∧ Fr n0 L ∧ h = h0
theorem rm_ulen (hw : own_H a0 Z) (t : Addr) (kb : ClassId) (k : Nat) (vs : List Value) (h0 : Heap) (n0 : Nat) (Z0 : n0 ≤ h0.size) (P0_ : Arv Z h0 t kb .byte (Int32.ofNat (2 * k)) vs (.int 0)) (hk : k ≤ 4000) : own_M l y56 j56 1 (some .int) (own_R 0 0 0 0) #[(.ref t)] Z h0 (Q_ulen Z t kb k vs h0 n0) := by
 refine own_body (plainFor_of_name own_pn4) (fun p e s m below meth c s₁ Bd hZ hx hby hml hown hnm X0 e0 => ?_)
 have hown : s.vm.findClass "java/lang/StringUTF16" = some m.cls := hown
 have N0 := Fr.nil n0
 have D := own_dt hby d56
 refine own_cast (g' := mkF m 0 #[vr t] []) rfl ?_
 show own_G _ _ _ _ (s₁.setTop (mkF m 0 #[vr t] []))
 refine own_go (fun _ Kk => XS.aloadN X0.here hx rfl (D 0 rfl) rfl rfl Kk) ?_
 obtain ⟨cl1, Ar1, -, Sz1, Nn1, -, -⟩ := id P0_
 refine own_go (X0.arraylength hx (by rw [e0]; exact Ar1.1) (State.isArrayOf_alike hZ.alike Ar1.2.1) (g := (mkF m 1 #[vr t] [.ref t])) rfl rfl (D 1 rfl)) ?_
 rw [len_of Sz1 Nn1]
 refine own_go (fun _ Kk => XS.iconst X0.here hx rfl (D 2 rfl) (XS.ishr X0.here hx rfl (D 3 rfl) rfl Kk)) ?_
 show own_G _ _ _ _ (s₁.setTop (mkF m 4 #[vr t] [.int ((Int32.ofNat (2 * k)) >>> ((1 : Int32) &&& 31))]))
 rw [show ((Int32.ofNat (2 * k)) >>> ((1 : Int32) &&& 31)) = (Int32.ofNat k) from own_shr1 k hk]
 exact own_rI X0 hx Bd (D 4 rfl) e0 ⟨rfl, N0, rfl⟩
theorem d55 : ∀ x ∈ ([(0, .iload_n 0, 1), (1, .aload_n 1, 1), (2, .invokestatic 48, 3), (5, .invokestatic 414, 3), (8, .return_, 1)] : List (Nat × Instr × Nat)), decode j55 x.1 = .ok x.2 := by decide +kernel
theorem own_pd3 : parseMethodDescriptor "([B)I" = some ⟨[(.array .byte)], some .int⟩ := by decide +kernel
def Q_uci (Z : State) (t : Addr) (kb : ClassId) (cs : List Int32) (i : Nat) (zc : Int32) (fm : Value) (h0 : Heap) (n0 : Nat) (v : Option Value) (h : Heap) (L : List Loc) : Prop := v = none ∧ Fr n0 L ∧ h = h0
theorem rm_uci (hw : own_H a0 Z) (t : Addr) (kb : ClassId) (cs : List Int32) (i : Nat) (zc : Int32) (fm : Value) (h0 : Heap) (n0 : Nat) (Z0 : n0 ≤ h0.size) (P0_ : Arv Z h0 t kb .byte (Int32.ofNat (2 * cs.length)) (StrChars.Road.wideBytes cs) (.int 0)) (hi : i < cs.length) (hl : cs.length ≤ 4000) (SS : own_St Z h0 zc fm) : own_M l y55 j55 2 none (own_R 2 0 0 27) #[(.int (Int32.ofNat i)), (.ref t)] Z h0 (Q_uci Z t kb cs i zc fm h0 n0) := by
 refine own_body (plainFor_of_name own_pn4) (fun p e s m below meth c s₁ Bd hZ hx hby hml hown hnm X0 e0 => ?_)
 have hown : s.vm.findClass "java/lang/StringUTF16" = some m.cls := hown
 have N0 := Fr.nil n0
 have D := own_dt hby d55
 refine own_cast (g' := mkF m 0 #[vi (Int32.ofNat i), vr t] []) rfl ?_
 show own_G _ _ _ _ (s₁.setTop (mkF m 0 #[vi (Int32.ofNat i), vr t] []))
 refine own_go (fun _ Kk => XS.iloadN X0.here hx rfl (D 0 rfl) rfl (XS.aloadN X0.here hx rfl (D 1 rfl) rfl rfl Kk)) ?_
 refine own_cS X0 hx hZ 1 hown (hw 263 rfl) (hw 264 rfl) (hw 26 rfl) (hw 265 rfl) (rm_ulen hw t kb cs.length (StrChars.Road.wideBytes cs) h0 n0 Z0 P0_ hl) e0 own_pd3 rfl (D 2 rfl) hml ?_
 rintro _ T1 _ _ X1 l1 ⟨rfl, N1q, e1⟩
 have N1 := own_frl l1 N0 N1q
 refine own_cS X1 hx hZ 0 hown (hw 266 rfl) (hw 95 rfl) (hw 12 rfl) (hw 96 rfl) (rm_sci hw (Int32.ofNat i) (Int32.ofNat cs.length) zc fm h0 n0 Z0 (own_onn i (by omega)) (own_onl (by omega) hi) SS) e1 own_pd2 rfl (D 3 rfl) hml ?_
 rintro _ T2 _ _ X2 l2 ⟨rfl, N2q, e2⟩
 have N2 := own_frl l2 N1 N2q
 exact own_rV X2 hx Bd (D 4 rfl) e2 ⟨rfl, N2, rfl⟩
theorem d52 : ∀ x ∈ ([(0, .getstatic 44, 3), (3, .ifCond .ne 25, 3), (28, .iload_n 1, 1), (29, .iconst 1, 1), (30, .ishl, 1), (31, .istore_n 1, 1), (32, .aload_n 0, 1), (33, .iload_n 1, 1), (34, .iinc 1 1, 3), (37, .baload, 1), (38, .sipush 255, 3), (41, .iand, 1), (42, .getstatic 59, 3), (45, .ishl, 1), (46, .aload_n 0, 1), (47, .iload_n 1, 1), (48, .baload, 1), (49, .sipush 255, 3), (52, .iand, 1), (53, .getstatic 63, 3), (56, .ishl, 1), (57, .ior, 1), (58, .i2c, 1), (59, .ireturn, 1)] : List (Nat × Instr × Nat)), decode j52 x.1 = .ok x.2 := by decide +kernel
def Q_gch (Z : State) (t : Addr) (kb : ClassId) (cs : List Int32) (i : Nat) (zc : Int32) (fm : Value) (h0 : Heap) (n0 : Nat) (v : Option Value) (h : Heap) (L : List Loc) : Prop := v = some (.int (cs.getD i 0)) ∧ Fr n0 L ∧ h = h0
theorem rm_gch (hw : own_H a0 Z) (t : Addr) (kb : ClassId) (cs : List Int32) (i : Nat) (zc : Int32) (fm : Value) (h0 : Heap) (n0 : Nat) (Z0 : n0 ≤ h0.size) (P0_ : Arv Z h0 t kb .byte (Int32.ofNat (2 * cs.length)) (StrChars.Road.wideBytes cs) (.int 0)) (hi : i < cs.length) (hl : cs.length ≤ 4000) (hbd : ∀ c ∈ cs, ¬ c < 0 ∧ ¬ (65535 : Int32) < c) (SS : own_St Z h0 zc fm) : own_M l y52 j52 2 (some .char) (own_R 0 0 0 0) #[(.ref t), (.int (Int32.ofNat i))] Z h0 (Q_gch Z t kb cs i zc fm h0 n0) := by
 refine own_body (plainFor_of_name own_pn4) (fun p e s m below meth c s₁ Bd hZ hx hby hml hown hnm X0 e0 => ?_)
 have hown : s.vm.findClass "java/lang/StringUTF16" = some m.cls := hown
 have N0 := Fr.nil n0
 have D := own_dt hby d52
 refine own_cast (g' := mkF m 0 #[vr t, vi (Int32.ofNat i)] []) rfl ?_
 show own_G _ _ _ _ (s₁.setTop (mkF m 0 #[vr t, vi (Int32.ofNat i)] []))
 refine own_gS X0 hx hZ hown (hw 246 rfl) e0 SS.2.2.2.2.1 (D 0 rfl) (fun T1 X1 e1 => ?_)
 refine own_go (fun _ Kk => XS.ifYes X1.here hx rfl (pc0 := 3) (pc' := 28) rfl (D 1 rfl) rfl ((if0 _ _).trans (by decide)) (by decide) (by decide) (XS.iloadN X1.here hx rfl (D 2 rfl) rfl (XS.iconst X1.here hx rfl (D 3 rfl) (XS.ishl X1.here hx rfl (D 4 rfl) rfl Kk)))) ?_
 show own_G _ _ _ _ (T1.setTop (mkF m 31 #[vr t, vi (Int32.ofNat i)] [.int ((Int32.ofNat i) <<< ((1 : Int32) &&& 31))]))
 rw [show ((Int32.ofNat i) <<< ((1 : Int32) &&& 31)) = (Int32.ofNat (2 * i)) from own_shl1 i (by omega)]
 refine own_go (fun _ Kk => XS.istoreN X1.here hx rfl (D 5 rfl) rfl (l' := #[vr t, vi (Int32.ofNat (2 * i))]) rfl (XS.aloadN X1.here hx rfl (D 6 rfl) rfl rfl (XS.iloadN X1.here hx rfl (D 7 rfl) rfl (XS.iinc X1.here hx rfl (D 8 rfl) rfl (l' := #[vr t, vi ((Int32.ofNat (2 * i)) + (1 : Int32))]) rfl Kk)))) ?_
 show own_G _ _ _ _ (T1.setTop (mkF m 37 #[vr t, vi ((Int32.ofNat (2 * i)) + (1 : Int32))] [.int (Int32.ofNat (2 * i)), .ref t]))
 rw [show ((Int32.ofNat (2 * i)) + (1 : Int32)) = (Int32.ofNat (2 * i + 1)) from own_add1 (2 * i) (by omega)]
 obtain ⟨cl2, Ar2, -, Sz2, Nn2, Hh2, -⟩ := id P0_
 have hin2 : ¬ ((Int32.ofNat (2 * i)) < 0 ∨ cl2.slots.size ≤ ((Int32.ofNat (2 * i))).toNatClampNeg) := inb_of Sz2 ⟨own_onn (2 * i) (by omega), own_onl (by omega) (by omega)⟩
 have hat2 : cl2.slots[((Int32.ofNat (2 * i))).toNatClampNeg]? = some (.int (StrChars.lo8 (cs.getD i 0))) := Has.at Hh2 hin2 (by rw [own_onc (2 * i) (by omega)]; exact StrChars.Road.wide_lo _ cs i hi)
 refine own_go (X1.baloadBytes hx (j := (Int32.ofNat (2 * i))) (v := (.int (StrChars.lo8 (cs.getD i 0)))) (by rw [e1]; exact Ar2.1) (State.isArrayOf_alike hZ.alike Ar2.2.1) Ar2.2.2 hin2 hat2 (g := (mkF m 37 #[vr t, vi (Int32.ofNat (2 * i + 1))] [.int (Int32.ofNat (2 * i)), .ref t])) rfl rfl (D 9 rfl)) ?_
 refine own_go (fun _ Kk => XS.sipush X1.here hx rfl (D 10 rfl) (XS.iand X1.here hx rfl (D 11 rfl) rfl Kk)) ?_
 refine own_gS X1 hx hZ hown (hw 247 rfl) e1 SS.2.2.2.2.2.1 (D 12 rfl) (fun T3 X3 e3 => ?_)
 show own_G _ _ _ _ (T3.setTop (mkF m 45 #[vr t, vi (Int32.ofNat (2 * i + 1))] [.int 0, .int ((StrChars.lo8 (cs.getD i 0)) &&& (255 : Int32))]))
 refine own_go (fun _ Kk => XS.ishl X3.here hx rfl (D 13 rfl) rfl (XS.aloadN X3.here hx rfl (D 14 rfl) rfl rfl (XS.iloadN X3.here hx rfl (D 15 rfl) rfl Kk))) ?_
 obtain ⟨cl4, Ar4, -, Sz4, Nn4, Hh4, -⟩ := id P0_
 have hin4 : ¬ ((Int32.ofNat (2 * i + 1)) < 0 ∨ cl4.slots.size ≤ ((Int32.ofNat (2 * i + 1))).toNatClampNeg) := inb_of Sz4 ⟨own_onn (2 * i + 1) (by omega), own_onl (by omega) (by omega)⟩
 have hat4 : cl4.slots[((Int32.ofNat (2 * i + 1))).toNatClampNeg]? = some (.int (StrChars.hi8 (cs.getD i 0))) := Has.at Hh4 hin4 (by rw [own_onc (2 * i + 1) (by omega)]; exact StrChars.Road.wide_hi _ cs i hi)
 refine own_go (X3.baloadBytes hx (j := (Int32.ofNat (2 * i + 1))) (v := (.int (StrChars.hi8 (cs.getD i 0)))) (by rw [e3]; exact Ar4.1) (State.isArrayOf_alike hZ.alike Ar4.2.1) Ar4.2.2 hin4 hat4 (g := (mkF m 48 #[vr t, vi (Int32.ofNat (2 * i + 1))] [.int (Int32.ofNat (2 * i + 1)), .ref t, .int (((StrChars.lo8 (cs.getD i 0)) &&& (255 : Int32)) <<< ((0 : Int32) &&& 31))])) rfl rfl (D 16 rfl)) ?_
 refine own_go (fun _ Kk => XS.sipush X3.here hx rfl (D 17 rfl) Kk) ?_
 show own_G _ _ _ _ (T3.setTop (mkF m 52 #[vr t, vi (Int32.ofNat (2 * i + 1))] [.int 255, .int (StrChars.hi8 (cs.getD i 0)), .int (((StrChars.lo8 (cs.getD i 0)) &&& (255 : Int32)) <<< ((0 : Int32) &&& 31))]))
 refine own_go (fun _ Kk => XS.iand X3.here hx rfl (D 18 rfl) rfl Kk) ?_
 refine own_gS X3 hx hZ hown (hw 248 rfl) e3 SS.2.2.2.2.2.2 (D 19 rfl) (fun T5 X5 e5 => ?_)
 refine own_go (fun _ Kk => XS.ishl X5.here hx rfl (D 20 rfl) rfl (XS.ior X5.here hx rfl (D 21 rfl) rfl (XS.i2c X5.here hx rfl (D 22 rfl) rfl Kk))) ?_
 show own_G _ _ _ _ (T5.setTop (mkF m 59 #[vr t, vi (Int32.ofNat (2 * i + 1))] [.int (((((StrChars.lo8 (cs.getD i 0)) &&& (255 : Int32)) <<< ((0 : Int32) &&& 31)) ||| (((StrChars.hi8 (cs.getD i 0)) &&& (255 : Int32)) <<< ((8 : Int32) &&& 31))).toUInt32.toUInt16.toUInt32.toInt32)]))
 rw [show (((((StrChars.lo8 (cs.getD i 0)) &&& (255 : Int32)) <<< ((0 : Int32) &&& 31)) ||| (((StrChars.hi8 (cs.getD i 0)) &&& (255 : Int32)) <<< ((8 : Int32) &&& 31))).toUInt32.toUInt16.toUInt32.toInt32) = (cs.getD i 0) from StrChars.pair_says (hbd _ (own_mem hi)).1 (hbd _ (own_mem hi)).2]
 exact own_rN X5 hx Bd (D 23 rfl) e5 (own_narc (hbd _ (own_mem hi)).1 (hbd _ (own_mem hi)).2) ⟨rfl, N0, rfl⟩
theorem d54 : ∀ x ∈ ([(0, .iload_n 1, 1), (1, .aload_n 0, 1), (2, .invokestatic 67, 3), (5, .aload_n 0, 1), (6, .iload_n 1, 1), (7, .invokestatic 71, 3), (10, .ireturn, 1)] : List (Nat × Instr × Nat)), decode j54 x.1 = .ok x.2 := by decide +kernel
theorem own_pd4 : parseMethodDescriptor "(I[B)V" = some ⟨[.int, (.array .byte)], none⟩ := by decide +kernel
theorem own_pd5 : parseMethodDescriptor "([BI)C" = some ⟨[(.array .byte), .int], some .char⟩ := by decide +kernel
def Q_uca (Z : State) (t : Addr) (kb : ClassId) (cs : List Int32) (i : Nat) (zc : Int32) (fm : Value) (h0 : Heap) (n0 : Nat) (v : Option Value) (h : Heap) (L : List Loc) : Prop := v = some (.int (cs.getD i 0)) ∧ Fr n0 L ∧ h = h0
theorem rm_uca (hw : own_H a0 Z) (t : Addr) (kb : ClassId) (cs : List Int32) (i : Nat) (zc : Int32) (fm : Value) (h0 : Heap) (n0 : Nat) (Z0 : n0 ≤ h0.size) (P0_ : Arv Z h0 t kb .byte (Int32.ofNat (2 * cs.length)) (StrChars.Road.wideBytes cs) (.int 0)) (hi : i < cs.length) (hl : cs.length ≤ 4000) (hbd : ∀ c ∈ cs, ¬ c < 0 ∧ ¬ (65535 : Int32) < c) (SS : own_St Z h0 zc fm) : own_M l y54 j54 2 (some .char) (own_R 3 0 0 40) #[(.ref t), (.int (Int32.ofNat i))] Z h0 (Q_uca Z t kb cs i zc fm h0 n0) := by
 refine own_body (plainFor_of_name own_pn4) (fun p e s m below meth c s₁ Bd hZ hx hby hml hown hnm X0 e0 => ?_)
 have hown : s.vm.findClass "java/lang/StringUTF16" = some m.cls := hown
 have N0 := Fr.nil n0
 have D := own_dt hby d54
 refine own_cast (g' := mkF m 0 #[vr t, vi (Int32.ofNat i)] []) rfl ?_
 show own_G _ _ _ _ (s₁.setTop (mkF m 0 #[vr t, vi (Int32.ofNat i)] []))
 refine own_go (fun _ Kk => XS.iloadN X0.here hx rfl (D 0 rfl) rfl (XS.aloadN X0.here hx rfl (D 1 rfl) rfl rfl Kk)) ?_
 refine own_cS X0 hx hZ 0 hown (hw 260 rfl) (hw 261 rfl) (hw 26 rfl) (hw 262 rfl) (rm_uci hw t kb cs i zc fm h0 n0 Z0 P0_ hi hl SS) e0 own_pd4 rfl (D 2 rfl) hml ?_
 rintro _ T1 _ _ X1 l1 ⟨rfl, N1q, e1⟩
 have N1 := own_frl l1 N0 N1q
 refine own_go (fun _ Kk => XS.aloadN X1.here hx rfl (D 3 rfl) rfl rfl (XS.iloadN X1.here hx rfl (D 4 rfl) rfl Kk)) ?_
 show own_G _ _ _ _ (T1.setTop (mkF m 7 #[vr t, vi (Int32.ofNat i)] [.int (Int32.ofNat i), .ref t]))
 refine own_cS X1 hx hZ 0 hown (hw 249 rfl) (hw 250 rfl) (hw 26 rfl) (hw 251 rfl) (rm_gch hw t kb cs i zc fm h0 n0 Z0 P0_ hi hl hbd SS) e1 own_pd5 rfl (D 5 rfl) hml ?_
 rintro _ T2 _ _ X2 l2 ⟨rfl, N2q, e2⟩
 have N2 := own_frl l2 N1 N2q
 exact own_rN X2 hx Bd (D 6 rfl) e2 (own_narc (hbd _ (own_mem hi)).1 (hbd _ (own_mem hi)).2) ⟨rfl, N2, rfl⟩
theorem d19 : ∀ x ∈ ([(0, .aload_n 0, 1), (1, .invokevirtual 492, 3), (4, .ifCond .eq 12, 3), (7, .aload_n 0, 1), (8, .getfield 9, 3), (11, .iload_n 1, 1), (12, .invokestatic 495, 3), (15, .ireturn, 1), (16, .aload_n 0, 1), (17, .getfield 9, 3), (20, .iload_n 1, 1), (21, .invokestatic 498, 3), (24, .ireturn, 1)] : List (Nat × Instr × Nat)), decode j19 x.1 = .ok x.2 := by decide +kernel
theorem own_pd6 : parseMethodDescriptor "()Z" = some ⟨[], some .boolean⟩ := by decide +kernel
def Q_cha (Z : State) (a1 : Addr) (t : Addr) (cs : List Int32) (i : Nat) (zc : Int32) (fm : Value) (h0 : Heap) (n0 : Nat) (v : Option Value) (h : Heap) (L : List Loc) : Prop := v = some (.int (cs.getD i 0)) ∧ Fr n0 L ∧ h = h0
theorem rm_cha (hw : own_H a0 Z) (a1 : Addr) (t : Addr) (cs : List Int32) (i : Nat) (zc : Int32) (fm : Value) (h0 : Heap) (n0 : Nat) (Z0 : n0 ≤ h0.size) (P0_ : own_Str Z h0 a1 t cs) (hi : i < cs.length) (SS : own_St Z h0 zc fm) : own_M l y19 j19 2 (some .char) (own_R 4 0 0 53) #[(.ref a1), (.int (Int32.ofNat i))] Z h0 (Q_cha Z a1 t cs i zc fm h0 n0) := by
 refine own_body (plainFor_of_name own_pn0) (fun p e s m below meth c s₁ Bd hZ hx hby hml hown hnm X0 e0 => ?_)
 have hown : s.vm.findClass "java/lang/String" = some m.cls := hown
 have N0 := Fr.nil n0
 have D := own_dt hby d19
 refine own_cast (g' := mkF m 0 #[vr a1, vi (Int32.ofNat i)] []) rfl ?_
 obtain ⟨kb, cd, Nb, vs, E_, Fv_, Fc_, V_, hco, hch, hlen⟩ := id P0_
 have hcd : cd = 0 ∨ cd = 1 := own_cd01 hco
 show own_G _ _ _ _ (s₁.setTop (mkF m 0 #[vr a1, vi (Int32.ofNat i)] []))
 rcases hco with ⟨rfl, rfl, rfl, hlo⟩ | ⟨rfl, rfl, rfl, hhi⟩
 ·
  show own_G _ _ _ _ (s₁.setTop (mkF m 0 #[vr a1, vi (Int32.ofNat i)] []))
  refine own_go (fun _ Kk => XS.aloadN X0.here hx rfl (D 0 rfl) rfl rfl Kk) ?_
  refine own_cV X0 hx hZ 0 hown (hw 66 rfl) (hw 67 rfl) (hw 69 rfl) (hw 68 rfl) (hw 70 rfl) (hw 12 rfl) (rm_lat hw a1 zc fm h0 n0 Z0 Fc_ SS) e0 E_ own_pd6 rfl (D 1 rfl) hml ?_
  rintro _ T1 _ _ X1 l1 ⟨rfl, N1q, e1⟩
  have N1 := own_frl l1 N0 N1q
  refine own_go (fun _ Kk => XS.ifNo X1.here hx rfl (D 2 rfl) rfl ((if0 _ _).trans (by decide)) (XS.aloadN X1.here hx rfl (D 3 rfl) rfl rfl Kk)) ?_
  refine own_gF X1 hx hZ hown (hw 37 rfl) e1 Fv_ (D 4 rfl) (fun T2 X2 e2 => ?_)
  show own_G _ _ _ _ (T2.setTop (mkF m 11 #[vr a1, vi (Int32.ofNat i)] [.ref t]))
  refine own_go (fun _ Kk => XS.iloadN X2.here hx rfl (D 5 rfl) rfl Kk) ?_
  refine own_cS X2 hx hZ 0 hown (hw 91 rfl) (hw 92 rfl) (hw 73 rfl) (hw 93 rfl) (rm_lca hw t kb cs i zc fm h0 n0 Z0 V_ hi hlen hch hlo SS) e2 own_pd5 rfl (D 6 rfl) hml ?_
  rintro _ T3 _ _ X3 l3 ⟨rfl, N3q, e3⟩
  have N3 := own_frl l3 N1 N3q
  exact own_rN X3 hx Bd (D 7 rfl) e3 (own_narc (hch _ (own_mem hi)).1 (hch _ (own_mem hi)).2) ⟨rfl, N3, rfl⟩
 ·
  show own_G _ _ _ _ (s₁.setTop (mkF m 0 #[vr a1, vi (Int32.ofNat i)] []))
  refine own_go (fun _ Kk => XS.aloadN X0.here hx rfl (D 0 rfl) rfl rfl Kk) ?_
  refine own_cV X0 hx hZ 0 hown (hw 66 rfl) (hw 67 rfl) (hw 69 rfl) (hw 68 rfl) (hw 70 rfl) (hw 12 rfl) (rm_utf hw a1 zc fm h0 n0 Z0 Fc_ SS) e0 E_ own_pd6 rfl (D 1 rfl) hml ?_
  rintro _ T4 _ _ X4 l4 ⟨rfl, N4q, e4⟩
  have N4 := own_frl l4 N0 N4q
  refine own_go (fun _ Kk => XS.ifYes X4.here hx rfl (pc0 := 4) (pc' := 16) rfl (D 2 rfl) rfl ((if0 _ _).trans (by decide)) (by decide) (by decide) (XS.aloadN X4.here hx rfl (D 8 rfl) rfl rfl Kk)) ?_
  refine own_gF X4 hx hZ hown (hw 37 rfl) e4 Fv_ (D 9 rfl) (fun T5 X5 e5 => ?_)
  show own_G _ _ _ _ (T5.setTop (mkF m 20 #[vr a1, vi (Int32.ofNat i)] [.ref t]))
  refine own_go (fun _ Kk => XS.iloadN X5.here hx rfl (D 10 rfl) rfl Kk) ?_
  refine own_cS X5 hx hZ 0 hown (hw 257 rfl) (hw 258 rfl) (hw 26 rfl) (hw 259 rfl) (rm_uca hw t kb cs i zc fm h0 n0 Z0 V_ hi hlen hch SS) e5 own_pd5 rfl (D 11 rfl) hml ?_
  rintro _ T6 _ _ X6 l6 ⟨rfl, N6q, e6⟩
  have N6 := own_frl l6 N4 N6q
  exact own_rN X6 hx Bd (D 12 rfl) e6 (own_narc (hch _ (own_mem hi)).1 (hch _ (own_mem hi)).2) ⟨rfl, N6, rfl⟩
end Jvm.Pilot.@@N@@
namespace Jvm.Pilot.@@N@@
open Jvm Jvm.ClassFile Sem Op Lib Jvm.Free Jvm.Stand Jvm.LawKit Jvm.RoadKit Bundle Jvm.Pilot.@@N@@.Jvm.D
set_option maxRecDepth 65536
set_option maxHeartbeats 40000000
variable {l : Launch} {Z : State} {a0 : Array Value}

def own_lst (cs : List Int32) : Nat → Int32
  | 0 => -1
  | k + 1 => if cs.getD k 0 = 45 then Int32.ofNat k else own_lst cs k
theorem own_lst_pos {cs : List Int32} {k : Nat} (h : cs.getD k 0 = 45) : own_lst cs (k + 1) = Int32.ofNat k := if_pos h
theorem own_lst_neg {cs : List Int32} {k : Nat} (h : ¬ cs.getD k 0 = 45) : own_lst cs (k + 1) = own_lst cs k := if_neg h
theorem own_lst_or (cs : List Int32) : ∀ n, own_lst cs n = -1 ∨ ∃ k, k < n ∧ own_lst cs n = Int32.ofNat k
  | 0 => Or.inl rfl
  | n + 1 => by
    by_cases h : cs.getD n 0 = 45
    · exact Or.inr ⟨n, by omega, own_lst_pos h⟩
    · rw [own_lst_neg h]
      rcases own_lst_or cs n with q | ⟨k, q, r⟩
      · exact Or.inl q
      · exact Or.inr ⟨k, by omega, r⟩
theorem own_lst_cases (cs : List Int32) (n : Nat) : own_lst cs n = -1 ∨ (∃ k, k < 15 ∧ k < n ∧ own_lst cs n = Int32.ofNat k) ∨ ∃ q, 15 + q < n ∧ own_lst cs n = Int32.ofNat (15 + q) := by
  rcases own_lst_or cs n with h | ⟨k, h, e⟩
  · exact Or.inl h
  · by_cases q : k < 15
    · exact Or.inr (Or.inl ⟨k, q, h, e⟩)
    · exact Or.inr (Or.inr ⟨k - 15, by omega, by rw [e]; congr 1; omega⟩)
theorem own_lo45 {x : Int32} (h0 : ¬ x < 0) (h1 : ¬ 255 < x) : StrChars.lo8 x = (45 : Int32).toInt8.toInt32 ↔ x = 45 := by
  constructor
  · intro h; have q := own_mask h0 h1; rw [h] at q; rw [← q]; rfl
  · rintro rfl; rfl
theorem own_dec (k : Nat) (h : k ≤ 9000) : Int32.ofNat k + (-1 : Int32) = Int32.ofNat k - (1 : Int32) := by
  have q := c_iadd (Int32.ofNat k) (-1); have r := c_isub (Int32.ofNat k) 1; have e1 : (1 : Int32).toInt = 1 := rfl; have e2 : (-1 : Int32).toInt = -1 := rfl
  have r1 := Int32.le_toInt (Int32.ofNat k + (-1 : Int32)); have r2 := Int32.toInt_lt (Int32.ofNat k + (-1 : Int32)); have s1 := Int32.le_toInt (Int32.ofNat k - (1 : Int32)); have s2 := Int32.toInt_lt (Int32.ofNat k - (1 : Int32))
  rw [own_on _ (by omega), e2] at q; rw [own_on _ (by omega), e1] at r; apply Int32.toInt_inj.mp; omega
theorem own_addn (n d : Nat) (h : n ≤ 5000) (q : d ≤ 4000) : Int32.ofNat n + Int32.ofNat d = Int32.ofNat (n + d) := by
  have q := c_iadd (Int32.ofNat n) (Int32.ofNat d); have r1 := Int32.le_toInt (Int32.ofNat n + Int32.ofNat d); have r2 := Int32.toInt_lt (Int32.ofNat n + Int32.ofNat d)
  apply Int32.toInt_inj.mp; rw [own_on _ (by omega)]; rw [own_on _ (by omega), own_on _ (by omega)] at q; omega
theorem own_subn (n d : Nat) (h : n ≤ 5000) (q : d ≤ n) : Int32.ofNat n - Int32.ofNat d = Int32.ofNat (n - d) := by
  have q := c_isub (Int32.ofNat n) (Int32.ofNat d); have r1 := Int32.le_toInt (Int32.ofNat n - Int32.ofNat d); have r2 := Int32.toInt_lt (Int32.ofNat n - Int32.ofNat d)
  apply Int32.toInt_inj.mp; rw [own_on _ (by omega)]; rw [own_on _ (by omega), own_on _ (by omega)] at q; omega
theorem own_sublt (n d : Nat) (h : n ≤ 5000) (hd : d ≤ 5000) (q : n < d) : Int32.ofNat n - Int32.ofNat d < 0 := by
  have q := c_isub (Int32.ofNat n) (Int32.ofNat d); have r1 := Int32.le_toInt (Int32.ofNat n - Int32.ofNat d); have r2 := Int32.toInt_lt (Int32.ofNat n - Int32.ofNat d)
  rw [Int32.lt_iff_toInt_lt]; have e : (0 : Int32).toInt = 0 := rfl; rw [own_on _ (by omega), own_on _ (by omega)] at q; omega
theorem own_ltn {a b : Nat} (ha : a ≤ 10000) (hb : b ≤ 10000) : Int32.ofNat a < Int32.ofNat b ↔ a < b := by rw [Int32.lt_iff_toInt_lt, own_on a ha, own_on b hb]; omega
theorem own_inj {a b : Nat} (ha : a ≤ 10000) (hb : b ≤ 10000) (h : Int32.ofNat a = Int32.ofNat b) : a = b := by have q := congrArg Int32.toInt h; rw [own_on a ha, own_on b hb] at q; omega
theorem own_m1 {a : Nat} (ha : a ≤ 10000) (h : (-1 : Int32) = Int32.ofNat a) : False := by have q := congrArg Int32.toInt h; rw [own_on a ha] at q; have e2 : (-1 : Int32).toInt = -1 := rfl; omega
def own_dig (cs : List Int32) (a b : Nat) : Prop := a < b ∧ ∀ j, a ≤ j → j < b → ¬ cs.getD j 0 < 48 ∧ ¬ 57 < cs.getD j 0
def own_term (c : Int32) : Prop := c = 10 ∨ c = 13 ∨ c = 133 ∨ c = 8232 ∨ c = 8233
def own_good (cs : List Int32) (q : Nat) : Prop := 15 + q < cs.length ∧ own_lst cs cs.length = Int32.ofNat (15 + q) ∧ own_dig cs (16 + q) cs.length ∧ own_dig cs q (q + 8) ∧ cs.getD (q + 8) 0 = 46 ∧ own_dig cs (q + 9) (15 + q) ∧ (0 < q → cs.getD (q - 1) 0 = 45) ∧ ∀ j, j < q → ¬ own_term (cs.getD j 0)
def own_TS (cs : List Int32) (z : Int32) : Prop := (z = -1 ∧ ∀ q, ¬ own_good cs q) ∨ ∃ q, z = Int32.ofNat q ∧ own_good cs q
theorem own_ng {cs : List Int32} {q : Nat} (hl : cs.length ≤ 4000) (hm : own_lst cs cs.length = Int32.ofNat (15 + q)) (hq : 15 + q < cs.length) (h : ¬ own_good cs q) : ∀ r, ¬ own_good cs r := fun r g => by
  have e := own_inj (by omega) (by have := g.1; omega) (hm.symm.trans g.2.1)
  obtain rfl : q = r := by omega
  exact h g
theorem d15 : ∀ x ∈ ([(0, .iload_n 1, 1), (1, .invokestatic 88, 3), (4, .ifCond .ne 5, 3), (9, .iload_n 2, 1), (10, .aload_n 0, 1), (11, .arraylength, 1), (12, .iconst 1, 1), (13, .isub, 1), (14, .invokestatic 38, 3), (17, .istore_n 3, 1), (18, .iload_n 3, 1), (19, .ifCond .lt 19, 3), (38, .iconst (-1), 1), (39, .ireturn, 1), (22, .aload_n 0, 1), (23, .iload_n 3, 1), (24, .baload, 1), (25, .iload_n 1, 1), (26, .i2b, 1), (27, .if_icmp .ne 5, 3), (30, .iload_n 3, 1), (31, .ireturn, 1), (32, .iinc 3 (-1), 3), (35, .goto (-17), 3)] : List (Nat × Instr × Nat)), decode j15 x.1 = .ok x.2 := by decide +kernel
theorem own_pd7 : parseMethodDescriptor "(I)Z" = some ⟨[.int], some .boolean⟩ := by decide +kernel
theorem own_pd8 : parseMethodDescriptor "(II)I" = some ⟨[.int, .int], some .int⟩ := by decide +kernel
def Q_llst (Z : State) (t : Addr) (kb : ClassId) (cs : List Int32) (h0 : Heap) (n0 : Nat) (v : Option Value) (h : Heap) (L : List Loc) : Prop := v = some (.int (own_lst cs cs.length)) ∧ Fr n0 L ∧ h = h0
theorem rm_llst (hw : own_H a0 Z) (t : Addr) (kb : ClassId) (cs : List Int32) (h0 : Heap) (n0 : Nat) (Z0 : n0 ≤ h0.size) (P0_ : Arv Z h0 t kb .byte (Int32.ofNat cs.length) (cs.map fun c => Value.int (StrChars.lo8 c)) (.int 0)) (hl : cs.length ≤ 4000) (hbd : ∀ c ∈ cs, ¬ c < 0 ∧ ¬ (65535 : Int32) < c) (hlo : ∀ c ∈ cs, ¬ (255 : Int32) < c) : own_M l y15 j15 4 (some .int) (own_R 1 0 0 13) #[(.ref t), (.int (45 : Int32)), (.int ((Int32.ofNat cs.length) - (1 : Int32)))] Z h0 (Q_llst Z t kb cs h0 n0) := by
 refine own_body (plainFor_of_name own_pn3) (fun p e s m below meth c s₁ Bd hZ hx hby hml hown hnm X0 e0 => ?_)
 have hown : s.vm.findClass "java/lang/StringLatin1" = some m.cls := hown
 have N0 := Fr.nil n0
 have D := own_dt hby d15
 refine own_cast (g' := mkF m 0 #[vr t, vi 45, vi ((Int32.ofNat cs.length) - (1 : Int32)), vu] []) rfl ?_
 show own_G _ _ _ _ (s₁.setTop (mkF m 0 #[vr t, vi 45, vi ((Int32.ofNat cs.length) - (1 : Int32)), vu] []))
 refine own_go (fun _ Kk => XS.iloadN X0.here hx rfl (D 0 rfl) rfl Kk) ?_
 refine own_cS X0 hx hZ 0 hown (hw 75 rfl) (hw 76 rfl) (hw 73 rfl) (hw 77 rfl) (rm_cenc hw  h0 n0 Z0 ) e0 own_pd7 rfl (D 1 rfl) hml ?_
 rintro _ T1 _ _ X1 l1 ⟨rfl, N1q, e1⟩
 have N1 := own_frl l1 N0 N1q
 refine own_go (fun _ Kk => XS.ifYes X1.here hx rfl (pc0 := 4) (pc' := 9) rfl (D 2 rfl) rfl ((if0 _ _).trans (by decide)) (by decide) (by decide) (XS.iloadN X1.here hx rfl (D 3 rfl) rfl (XS.aloadN X1.here hx rfl (D 4 rfl) rfl rfl Kk))) ?_
 show own_G _ _ _ _ (T1.setTop (mkF m 11 #[vr t, vi 45, vi ((Int32.ofNat cs.length) - (1 : Int32)), vu] [.ref t, .int ((Int32.ofNat cs.length) - (1 : Int32))]))
 obtain ⟨cl2, Ar2, -, Sz2, Nn2, -, -⟩ := id P0_
 refine own_go (X1.arraylength hx (by rw [e1]; exact Ar2.1) (State.isArrayOf_alike hZ.alike Ar2.2.1) (g := (mkF m 11 #[vr t, vi 45, vi ((Int32.ofNat cs.length) - (1 : Int32)), vu] [.ref t, .int ((Int32.ofNat cs.length) - (1 : Int32))])) rfl rfl (D 5 rfl)) ?_
 rw [len_of Sz2 Nn2]
 refine own_go (fun _ Kk => XS.iconst X1.here hx rfl (D 6 rfl) (XS.isub X1.here hx rfl (D 7 rfl) rfl Kk)) ?_
 refine own_cS X1 hx hZ 0 hown (hw 78 rfl) (hw 79 rfl) (hw 80 rfl) (hw 81 rfl) (rm_mmin hw ((Int32.ofNat cs.length) - (1 : Int32)) ((Int32.ofNat cs.length) - (1 : Int32)) h0 n0 Z0 ) e1 own_pd8 rfl (D 8 rfl) hml ?_
 rintro _ T3 _ _ X3 l3 ⟨rfl, N3q, e3⟩
 have N3 := own_frl l3 N1 N3q
 show own_G _ _ _ _ (T3.setTop (mkF m 17 #[vr t, vi 45, vi ((Int32.ofNat cs.length) - (1 : Int32)), vu] [.int (if ((Int32.ofNat cs.length) - (1 : Int32)) < ((Int32.ofNat cs.length) - (1 : Int32)) then ((Int32.ofNat cs.length) - (1 : Int32)) else ((Int32.ofNat cs.length) - (1 : Int32)))]))
 rw [show (if ((Int32.ofNat cs.length) - (1 : Int32)) < ((Int32.ofNat cs.length) - (1 : Int32)) then ((Int32.ofNat cs.length) - (1 : Int32)) else ((Int32.ofNat cs.length) - (1 : Int32))) = ((Int32.ofNat cs.length) - (1 : Int32)) from by simp]
 refine own_go (fun _ Kk => XS.istoreN X3.here hx rfl (D 9 rfl) rfl (l' := #[vr t, vi 45, vi ((Int32.ofNat cs.length) - (1 : Int32)), vi ((Int32.ofNat cs.length) - (1 : Int32))]) rfl Kk) ?_
 show own_G _ _ _ _ (T3.setTop (mkF m 18 #[vr t, vi 45, vi ((Int32.ofNat cs.length) - (1 : Int32)), vi ((Int32.ofNat cs.length) - (1 : Int32))] []))
 have lp4 : ∀ (k : Nat) (hk : k ≤ cs.length) (hinv : own_lst cs cs.length = own_lst cs k) (T9 : State) (L9 : List Loc), Stand p l e (own_R 1 0 0 13) s m #[(.ref t), (.int (45 : Int32)), (.int ((Int32.ofNat cs.length) - (1 : Int32)))] below meth c T9 L9 0 0 → T9.heap = h0 → Fr n0 L9 → own_G p e below (own_K (Q_llst Z t kb cs h0 n0) 0 0 s) (T9.setTop (mkF m 18 #[vr t, vi 45, vi ((Int32.ofNat cs.length) - (1 : Int32)), vi ((Int32.ofNat k) - (1 : Int32))] [])) := by
  intro k
  induction k with
  | zero =>
   intro hk hinv T9 L9 X9 e9 N9
   show own_G _ _ _ _ (T9.setTop (mkF m 18 #[vr t, vi 45, vi ((Int32.ofNat cs.length) - (1 : Int32)), vi ((Int32.ofNat 0) - (1 : Int32))] []))
   rw [show ((Int32.ofNat 0) - (1 : Int32)) = (-1 : Int32) from rfl]
   show own_G _ _ _ _ (T9.setTop (mkF m 18 #[vr t, vi 45, vi ((Int32.ofNat cs.length) - (1 : Int32)), vi (-1)] []))
   refine own_go (fun _ Kk => XS.iloadN X9.here hx rfl (D 10 rfl) rfl (XS.ifYes X9.here hx rfl (pc0 := 19) (pc' := 38) rfl (D 11 rfl) rfl ((if0 _ _).trans (by decide)) (by decide) (by decide) (XS.iconst X9.here hx rfl (D 12 rfl) Kk))) ?_
   exact own_rI X9 hx Bd (D 13 rfl) e9 ⟨(by rw [hinv]; rfl), N9, rfl⟩
  | succ k ih =>
   intro hk hinv T9 L9 X9 e9 N9
   show own_G _ _ _ _ (T9.setTop (mkF m 18 #[vr t, vi 45, vi ((Int32.ofNat cs.length) - (1 : Int32)), vi ((Int32.ofNat (k + 1)) - (1 : Int32))] []))
   rw [show ((Int32.ofNat (k + 1)) - (1 : Int32)) = Int32.ofNat k from own_sub1 k (by omega)]
   show own_G _ _ _ _ (T9.setTop (mkF m 18 #[vr t, vi 45, vi ((Int32.ofNat cs.length) - (1 : Int32)), vi (Int32.ofNat k)] []))
   refine own_go (fun _ Kk => XS.iloadN X9.here hx rfl (D 10 rfl) rfl (XS.ifNo X9.here hx rfl (D 11 rfl) rfl ((if0 _ _).trans (flt (own_onn k (by omega))).1) (XS.aloadN X9.here hx rfl (D 14 rfl) rfl rfl (XS.iloadN X9.here hx rfl (D 15 rfl) rfl Kk)))) ?_
   obtain ⟨cl5, Ar5, -, Sz5, Nn5, Hh5, -⟩ := id P0_
   have hin5 : ¬ ((Int32.ofNat k) < 0 ∨ cl5.slots.size ≤ ((Int32.ofNat k)).toNatClampNeg) := inb_of Sz5 ⟨own_onn k (by omega), own_onl (by omega) (by omega)⟩
   have hat5 : cl5.slots[((Int32.ofNat k)).toNatClampNeg]? = some (.int (StrChars.lo8 (cs.getD k 0))) := Has.at Hh5 hin5 (by rw [own_onc k (by omega)]; exact own_low (by omega) _)
   refine own_go (X9.baloadBytes hx (j := (Int32.ofNat k)) (v := (.int (StrChars.lo8 (cs.getD k 0)))) (by rw [e9]; exact Ar5.1) (State.isArrayOf_alike hZ.alike Ar5.2.1) Ar5.2.2 hin5 hat5 (g := (mkF m 24 #[vr t, vi 45, vi ((Int32.ofNat cs.length) - (1 : Int32)), vi (Int32.ofNat k)] [.int (Int32.ofNat k), .ref t])) rfl rfl (D 16 rfl)) ?_
   show own_G _ _ _ _ (T9.setTop (mkF m 25 #[vr t, vi 45, vi ((Int32.ofNat cs.length) - (1 : Int32)), vi (Int32.ofNat k)] [.int (StrChars.lo8 (cs.getD k 0))]))
   refine own_go (fun _ Kk => XS.iloadN X9.here hx rfl (D 17 rfl) rfl (XS.i2b X9.here hx rfl (D 18 rfl) rfl Kk)) ?_
   by_cases hc27_6 : (StrChars.lo8 (cs.getD k 0)) = ((45 : Int32).toInt8.toInt32)
   ·
    have hq : cs.getD k 0 = 45 := (own_lo45 (hbd _ (own_mem (by omega))).1 (hlo _ (own_mem (by omega)))).mp hc27_6
    refine own_go (fun _ Kk => XS.icmpNo X9.here hx rfl (D 19 rfl) rfl (teq hc27_6).2 Kk) ?_
    show own_G _ _ _ _ (T9.setTop (mkF m 30 #[vr t, vi 45, vi ((Int32.ofNat cs.length) - (1 : Int32)), vi (Int32.ofNat k)] []))
    refine own_go (fun _ Kk => XS.iloadN X9.here hx rfl (D 20 rfl) rfl Kk) ?_
    exact own_rI X9 hx Bd (D 21 rfl) e9 ⟨(by rw [hinv, own_lst_pos hq]), N9, rfl⟩
   ·
    have hq : ¬ cs.getD k 0 = 45 := mt (own_lo45 (hbd _ (own_mem (by omega))).1 (hlo _ (own_mem (by omega)))).mpr hc27_6
    refine own_go (fun _ Kk => XS.icmpYes X9.here hx rfl (pc0 := 27) (pc' := 32) rfl (D 19 rfl) rfl (feq hc27_6).2 (by decide) (by decide) Kk) ?_
    show own_G _ _ _ _ (T9.setTop (mkF m 32 #[vr t, vi 45, vi ((Int32.ofNat cs.length) - (1 : Int32)), vi (Int32.ofNat k)] []))
    refine own_go (fun _ Kk => XS.iinc X9.here hx rfl (D 22 rfl) rfl (l' := #[vr t, vi 45, vi ((Int32.ofNat cs.length) - (1 : Int32)), vi ((Int32.ofNat k) + (-1 : Int32))]) rfl Kk) ?_
    show own_G _ _ _ _ (T9.setTop (mkF m 35 #[vr t, vi 45, vi ((Int32.ofNat cs.length) - (1 : Int32)), vi ((Int32.ofNat k) + (-1 : Int32))] []))
    rw [show ((Int32.ofNat k) + (-1 : Int32)) = ((Int32.ofNat k) - (1 : Int32)) from own_dec k (by omega)]
    refine own_go (fun _ Kk => XS.goto X9.here hx rfl (pc0 := 35) (pc' := 18) rfl (D 23 rfl) (by decide) (by decide) Kk) ?_
    show own_G _ _ _ _ (T9.setTop (mkF m 18 #[vr t, vi 45, vi ((Int32.ofNat cs.length) - (1 : Int32)), vi ((Int32.ofNat k) - (1 : Int32))] []))
    exact ih (by omega) (hinv.trans (own_lst_neg hq)) _ _ X9 e9 N9
 exact lp4 cs.length (Nat.le_refl _) rfl _ _ X3 e3 N3
theorem d53 : ∀ x ∈ ([(0, .iload_n 1, 1), (1, .ldc 227, 2), (3, .if_icmp .ge 37, 3), (6, .iload_n 2, 1), (7, .aload_n 0, 1), (8, .arraylength, 1), (9, .iconst 1, 1), (10, .ishr, 1), (11, .iconst 1, 1), (12, .isub, 1), (13, .invokestatic 183, 3), (16, .istore_n 3, 1), (17, .iload_n 3, 1), (18, .ifCond .lt 20, 3), (38, .iconst (-1), 1), (39, .ireturn, 1), (21, .aload_n 0, 1), (22, .iload_n 3, 1), (23, .invokestatic 71, 3), (26, .iload_n 1, 1), (27, .if_icmp .ne 5, 3), (30, .iload_n 3, 1), (31, .ireturn, 1), (32, .iinc 3 (-1), 3), (35, .goto (-18), 3)] : List (Nat × Instr × Nat)), decode j53 x.1 = .ok x.2 := by decide +kernel
def Q_ulst (Z : State) (t : Addr) (kb : ClassId) (cs : List Int32) (zc : Int32) (fm : Value) (h0 : Heap) (n0 : Nat) (v : Option Value) (h : Heap) (L : List Loc) : Prop := v = some (.int (own_lst cs cs.length)) ∧ Fr n0 L ∧ h = h0
theorem rm_ulst (hw : own_H a0 Z) (t : Addr) (kb : ClassId) (cs : List Int32) (zc : Int32) (fm : Value) (h0 : Heap) (n0 : Nat) (Z0 : n0 ≤ h0.size) (P0_ : Arv Z h0 t kb .byte (Int32.ofNat (2 * cs.length)) (StrChars.Road.wideBytes cs) (.int 0)) (hl : cs.length ≤ 4000) (hbd : ∀ c ∈ cs, ¬ c < 0 ∧ ¬ (65535 : Int32) < c) (SS : own_St Z h0 zc fm) : own_M l y53 j53 4 (some .int) (own_R 1 0 0 13) #[(.ref t), (.int (45 : Int32)), (.int ((Int32.ofNat cs.length) - (1 : Int32)))] Z h0 (Q_ulst Z t kb cs zc fm h0 n0) := by
 refine own_body (plainFor_of_name own_pn4) (fun p e s m below meth c s₁ Bd hZ hx hby hml hown hnm X0 e0 => ?_)
 have hown : s.vm.findClass "java/lang/StringUTF16" = some m.cls := hown
 have N0 := Fr.nil n0
 have D := own_dt hby d53
 refine own_cast (g' := mkF m 0 #[vr t, vi 45, vi ((Int32.ofNat cs.length) - (1 : Int32)), vu] []) rfl ?_
 show own_G _ _ _ _ (s₁.setTop (mkF m 0 #[vr t, vi 45, vi ((Int32.ofNat cs.length) - (1 : Int32)), vu] []))
 refine own_go (fun _ Kk => XS.iloadN X0.here hx rfl (D 0 rfl) rfl Kk) ?_
 refine own_go (X0.ldcInt hx hown (mvT hZ (hw 255 rfl)) (g := (mkF m 1 #[vr t, vi 45, vi ((Int32.ofNat cs.length) - (1 : Int32)), vu] [.int 45])) rfl (D 1 rfl)) ?_
 refine own_go (fun _ Kk => XS.icmpNo X0.here hx rfl (D 2 rfl) rfl (by decide) (XS.iloadN X0.here hx rfl (D 3 rfl) rfl (XS.aloadN X0.here hx rfl (D 4 rfl) rfl rfl Kk))) ?_
 show own_G _ _ _ _ (s₁.setTop (mkF m 8 #[vr t, vi 45, vi ((Int32.ofNat cs.length) - (1 : Int32)), vu] [.ref t, .int ((Int32.ofNat cs.length) - (1 : Int32))]))
 obtain ⟨cl1, Ar1, -, Sz1, Nn1, -, -⟩ := id P0_
 refine own_go (X0.arraylength hx (by rw [e0]; exact Ar1.1) (State.isArrayOf_alike hZ.alike Ar1.2.1) (g := (mkF m 8 #[vr t, vi 45, vi ((Int32.ofNat cs.length) - (1 : Int32)), vu] [.ref t, .int ((Int32.ofNat cs.length) - (1 : Int32))])) rfl rfl (D 5 rfl)) ?_
 rw [len_of Sz1 Nn1]
 refine own_go (fun _ Kk => XS.iconst X0.here hx rfl (D 6 rfl) (XS.ishr X0.here hx rfl (D 7 rfl) rfl Kk)) ?_
 show own_G _ _ _ _ (s₁.setTop (mkF m 11 #[vr t, vi 45, vi ((Int32.ofNat cs.length) - (1 : Int32)), vu] [.int ((Int32.ofNat (2 * cs.length)) >>> ((1 : Int32) &&& 31)), .int ((Int32.ofNat cs.length) - (1 : Int32))]))
 rw [show ((Int32.ofNat (2 * cs.length)) >>> ((1 : Int32) &&& 31)) = (Int32.ofNat cs.length) from own_shr1 _ hl]
 refine own_go (fun _ Kk => XS.iconst X0.here hx rfl (D 8 rfl) (XS.isub X0.here hx rfl (D 9 rfl) rfl Kk)) ?_
 refine own_cS X0 hx hZ 0 hown (hw 256 rfl) (hw 79 rfl) (hw 80 rfl) (hw 81 rfl) (rm_mmin hw ((Int32.ofNat cs.length) - (1 : Int32)) ((Int32.ofNat cs.length) - (1 : Int32)) h0 n0 Z0 ) e0 own_pd8 rfl (D 10 rfl) hml ?_
 rintro _ T2 _ _ X2 l2 ⟨rfl, N2q, e2⟩
 have N2 := own_frl l2 N0 N2q
 show own_G _ _ _ _ (T2.setTop (mkF m 16 #[vr t, vi 45, vi ((Int32.ofNat cs.length) - (1 : Int32)), vu] [.int (if ((Int32.ofNat cs.length) - (1 : Int32)) < ((Int32.ofNat cs.length) - (1 : Int32)) then ((Int32.ofNat cs.length) - (1 : Int32)) else ((Int32.ofNat cs.length) - (1 : Int32)))]))
 rw [show (if ((Int32.ofNat cs.length) - (1 : Int32)) < ((Int32.ofNat cs.length) - (1 : Int32)) then ((Int32.ofNat cs.length) - (1 : Int32)) else ((Int32.ofNat cs.length) - (1 : Int32))) = ((Int32.ofNat cs.length) - (1 : Int32)) from by simp]
 refine own_go (fun _ Kk => XS.istoreN X2.here hx rfl (D 11 rfl) rfl (l' := #[vr t, vi 45, vi ((Int32.ofNat cs.length) - (1 : Int32)), vi ((Int32.ofNat cs.length) - (1 : Int32))]) rfl Kk) ?_
 show own_G _ _ _ _ (T2.setTop (mkF m 17 #[vr t, vi 45, vi ((Int32.ofNat cs.length) - (1 : Int32)), vi ((Int32.ofNat cs.length) - (1 : Int32))] []))
 have lp3 : ∀ (k : Nat) (hk : k ≤ cs.length) (hinv : own_lst cs cs.length = own_lst cs k) (T9 : State) (L9 : List Loc), Stand p l e (own_R 1 0 0 13) s m #[(.ref t), (.int (45 : Int32)), (.int ((Int32.ofNat cs.length) - (1 : Int32)))] below meth c T9 L9 0 0 → T9.heap = h0 → Fr n0 L9 → own_G p e below (own_K (Q_ulst Z t kb cs zc fm h0 n0) 0 0 s) (T9.setTop (mkF m 17 #[vr t, vi 45, vi ((Int32.ofNat cs.length) - (1 : Int32)), vi ((Int32.ofNat k) - (1 : Int32))] [])) := by
  intro k
  induction k with
  | zero =>
   intro hk hinv T9 L9 X9 e9 N9
   show own_G _ _ _ _ (T9.setTop (mkF m 17 #[vr t, vi 45, vi ((Int32.ofNat cs.length) - (1 : Int32)), vi ((Int32.ofNat 0) - (1 : Int32))] []))
   rw [show ((Int32.ofNat 0) - (1 : Int32)) = (-1 : Int32) from rfl]
   show own_G _ _ _ _ (T9.setTop (mkF m 17 #[vr t, vi 45, vi ((Int32.ofNat cs.length) - (1 : Int32)), vi (-1)] []))
   refine own_go (fun _ Kk => XS.iloadN X9.here hx rfl (D 12 rfl) rfl (XS.ifYes X9.here hx rfl (pc0 := 18) (pc' := 38) rfl (D 13 rfl) rfl ((if0 _ _).trans (by decide)) (by decide) (by decide) (XS.iconst X9.here hx rfl (D 14 rfl) Kk))) ?_
   exact own_rI X9 hx Bd (D 15 rfl) e9 ⟨(by rw [hinv]; rfl), N9, rfl⟩
  | succ k ih =>
   intro hk hinv T9 L9 X9 e9 N9
   show own_G _ _ _ _ (T9.setTop (mkF m 17 #[vr t, vi 45, vi ((Int32.ofNat cs.length) - (1 : Int32)), vi ((Int32.ofNat (k + 1)) - (1 : Int32))] []))
   rw [show ((Int32.ofNat (k + 1)) - (1 : Int32)) = Int32.ofNat k from own_sub1 k (by omega)]
   show own_G _ _ _ _ (T9.setTop (mkF m 17 #[vr t, vi 45, vi ((Int32.ofNat cs.length) - (1 : Int32)), vi (Int32.ofNat k)] []))
   refine own_go (fun _ Kk => XS.iloadN X9.here hx rfl (D 12 rfl) rfl (XS.ifNo X9.here hx rfl (D 13 rfl) rfl ((if0 _ _).trans (flt (own_onn k (by omega))).1) (XS.aloadN X9.here hx rfl (D 16 rfl) rfl rfl (XS.iloadN X9.here hx rfl (D 17 rfl) rfl Kk)))) ?_
   refine own_cS X9 hx hZ 0 hown (hw 249 rfl) (hw 250 rfl) (hw 26 rfl) (hw 251 rfl) (rm_gch hw t kb cs k zc fm h0 n0 Z0 P0_ (by omega) hl hbd SS) e9 own_pd5 rfl (D 18 rfl) hml ?_
   rintro _ T4 _ _ X4 l4 ⟨rfl, N4q, e4⟩
   have N4 := own_frl l4 N9 N4q
   show own_G _ _ _ _ (T4.setTop (mkF m 26 #[vr t, vi 45, vi ((Int32.ofNat cs.length) - (1 : Int32)), vi (Int32.ofNat k)] [.int (cs.getD k 0)]))
   refine own_go (fun _ Kk => XS.iloadN X4.here hx rfl (D 19 rfl) rfl Kk) ?_
   by_cases hc27_5 : (cs.getD k 0) = (45 : Int32)
   ·
    have hq := hc27_5
    refine own_go (fun _ Kk => XS.icmpNo X4.here hx rfl (D 20 rfl) rfl (teq hc27_5).2 Kk) ?_
    show own_G _ _ _ _ (T4.setTop (mkF m 30 #[vr t, vi 45, vi ((Int32.ofNat cs.length) - (1 : Int32)), vi (Int32.ofNat k)] []))
    refine own_go (fun _ Kk => XS.iloadN X4.here hx rfl (D 21 rfl) rfl Kk) ?_
    exact own_rI X4 hx Bd (D 22 rfl) e4 ⟨(by rw [hinv, own_lst_pos hq]), N4, rfl⟩
   ·
    have hq := hc27_5
    refine own_go (fun _ Kk => XS.icmpYes X4.here hx rfl (pc0 := 27) (pc' := 32) rfl (D 20 rfl) rfl (feq hc27_5).2 (by decide) (by decide) Kk) ?_
    show own_G _ _ _ _ (T4.setTop (mkF m 32 #[vr t, vi 45, vi ((Int32.ofNat cs.length) - (1 : Int32)), vi (Int32.ofNat k)] []))
    refine own_go (fun _ Kk => XS.iinc X4.here hx rfl (D 23 rfl) rfl (l' := #[vr t, vi 45, vi ((Int32.ofNat cs.length) - (1 : Int32)), vi ((Int32.ofNat k) + (-1 : Int32))]) rfl Kk) ?_
    show own_G _ _ _ _ (T4.setTop (mkF m 35 #[vr t, vi 45, vi ((Int32.ofNat cs.length) - (1 : Int32)), vi ((Int32.ofNat k) + (-1 : Int32))] []))
    rw [show ((Int32.ofNat k) + (-1 : Int32)) = ((Int32.ofNat k) - (1 : Int32)) from own_dec k (by omega)]
    refine own_go (fun _ Kk => XS.goto X4.here hx rfl (pc0 := 35) (pc' := 17) rfl (D 24 rfl) (by decide) (by decide) Kk) ?_
    show own_G _ _ _ _ (T4.setTop (mkF m 17 #[vr t, vi 45, vi ((Int32.ofNat cs.length) - (1 : Int32)), vi ((Int32.ofNat k) - (1 : Int32))] []))
    exact ih (by omega) (hinv.trans (own_lst_neg hq)) _ _ X4 e4 N4
 exact lp3 cs.length (Nat.le_refl _) rfl _ _ X2 e2 N2
theorem d13 : ∀ x ∈ ([(0, .aload_n 0, 1), (1, .invokevirtual 492, 3), (4, .ifCond .eq 15, 3), (7, .aload_n 0, 1), (8, .getfield 9, 3), (11, .iload_n 1, 1), (12, .iload_n 2, 1), (13, .invokestatic 644, 3), (16, .goto 12, 3), (28, .ireturn, 1), (19, .aload_n 0, 1), (20, .getfield 9, 3), (23, .iload_n 1, 1), (24, .iload_n 2, 1), (25, .invokestatic 646, 3)] : List (Nat × Instr × Nat)), decode j13 x.1 = .ok x.2 := by decide +kernel
theorem own_pd9 : parseMethodDescriptor "([BII)I" = some ⟨[(.array .byte), .int, .int], some .int⟩ := by decide +kernel
def Q_lst2 (Z : State) (a1 : Addr) (t : Addr) (cs : List Int32) (zc : Int32) (fm : Value) (h0 : Heap) (n0 : Nat) (v : Option Value) (h : Heap) (L : List Loc) : Prop := v = some (.int (own_lst cs cs.length)) ∧ Fr n0 L ∧ h = h0
theorem rm_lst2 (hw : own_H a0 Z) (a1 : Addr) (t : Addr) (cs : List Int32) (zc : Int32) (fm : Value) (h0 : Heap) (n0 : Nat) (Z0 : n0 ≤ h0.size) (P0_ : own_Str Z h0 a1 t cs) (SS : own_St Z h0 zc fm) : own_M l y13 j13 3 (some .int) (own_R 2 0 0 28) #[(.ref a1), (.int (45 : Int32)), (.int ((Int32.ofNat cs.length) - (1 : Int32)))] Z h0 (Q_lst2 Z a1 t cs zc fm h0 n0) := by
 refine own_body (plainFor_of_name own_pn0) (fun p e s m below meth c s₁ Bd hZ hx hby hml hown hnm X0 e0 => ?_)
 have hown : s.vm.findClass "java/lang/String" = some m.cls := hown
 have N0 := Fr.nil n0
 have D := own_dt hby d13
 refine own_cast (g' := mkF m 0 #[vr a1, vi 45, vi ((Int32.ofNat cs.length) - (1 : Int32))] []) rfl ?_
 obtain ⟨kb, cd, Nb, vs, E_, Fv_, Fc_, V_, hco, hch, hlen⟩ := id P0_
 have hcd : cd = 0 ∨ cd = 1 := own_cd01 hco
 show own_G _ _ _ _ (s₁.setTop (mkF m 0 #[vr a1, vi 45, vi ((Int32.ofNat cs.length) - (1 : Int32))] []))
 rcases hco with ⟨rfl, rfl, rfl, hlo⟩ | ⟨rfl, rfl, rfl, hhi⟩
 ·
  show own_G _ _ _ _ (s₁.setTop (mkF m 0 #[vr a1, vi 45, vi ((Int32.ofNat cs.length) - (1 : Int32))] []))
  refine own_go (fun _ Kk => XS.aloadN X0.here hx rfl (D 0 rfl) rfl rfl Kk) ?_
  refine own_cV X0 hx hZ 0 hown (hw 66 rfl) (hw 67 rfl) (hw 69 rfl) (hw 68 rfl) (hw 70 rfl) (hw 12 rfl) (rm_lat hw a1 zc fm h0 n0 Z0 Fc_ SS) e0 E_ own_pd6 rfl (D 1 rfl) hml ?_
  rintro _ T1 _ _ X1 l1 ⟨rfl, N1q, e1⟩
  have N1 := own_frl l1 N0 N1q
  refine own_go (fun _ Kk => XS.ifNo X1.here hx rfl (D 2 rfl) rfl ((if0 _ _).trans (by decide)) (XS.aloadN X1.here hx rfl (D 3 rfl) rfl rfl Kk)) ?_
  refine own_gF X1 hx hZ hown (hw 37 rfl) e1 Fv_ (D 4 rfl) (fun T2 X2 e2 => ?_)
  show own_G _ _ _ _ (T2.setTop (mkF m 11 #[vr a1, vi 45, vi ((Int32.ofNat cs.length) - (1 : Int32))] [.ref t]))
  refine own_go (fun _ Kk => XS.iloadN X2.here hx rfl (D 5 rfl) rfl (XS.iloadN X2.here hx rfl (D 6 rfl) rfl Kk)) ?_
  refine own_cS X2 hx hZ 0 hown (hw 71 rfl) (hw 72 rfl) (hw 73 rfl) (hw 74 rfl) (rm_llst hw t kb cs h0 n0 Z0 V_ hlen hch hlo) e2 own_pd9 rfl (D 7 rfl) hml ?_
  rintro _ T3 _ _ X3 l3 ⟨rfl, N3q, e3⟩
  have N3 := own_frl l3 N1 N3q
  refine own_go (fun _ Kk => XS.goto X3.here hx rfl (pc0 := 16) (pc' := 28) rfl (D 8 rfl) (by decide) (by decide) Kk) ?_
  exact own_rI X3 hx Bd (D 9 rfl) e3 ⟨rfl, N3, rfl⟩
 ·
  show own_G _ _ _ _ (s₁.setTop (mkF m 0 #[vr a1, vi 45, vi ((Int32.ofNat cs.length) - (1 : Int32))] []))
  refine own_go (fun _ Kk => XS.aloadN X0.here hx rfl (D 0 rfl) rfl rfl Kk) ?_
  refine own_cV X0 hx hZ 0 hown (hw 66 rfl) (hw 67 rfl) (hw 69 rfl) (hw 68 rfl) (hw 70 rfl) (hw 12 rfl) (rm_utf hw a1 zc fm h0 n0 Z0 Fc_ SS) e0 E_ own_pd6 rfl (D 1 rfl) hml ?_
  rintro _ T4 _ _ X4 l4 ⟨rfl, N4q, e4⟩
  have N4 := own_frl l4 N0 N4q
  refine own_go (fun _ Kk => XS.ifYes X4.here hx rfl (pc0 := 4) (pc' := 19) rfl (D 2 rfl) rfl ((if0 _ _).trans (by decide)) (by decide) (by decide) (XS.aloadN X4.here hx rfl (D 10 rfl) rfl rfl Kk)) ?_
  refine own_gF X4 hx hZ hown (hw 37 rfl) e4 Fv_ (D 11 rfl) (fun T5 X5 e5 => ?_)
  show own_G _ _ _ _ (T5.setTop (mkF m 23 #[vr a1, vi 45, vi ((Int32.ofNat cs.length) - (1 : Int32))] [.ref t]))
  refine own_go (fun _ Kk => XS.iloadN X5.here hx rfl (D 12 rfl) rfl (XS.iloadN X5.here hx rfl (D 13 rfl) rfl Kk)) ?_
  refine own_cS X5 hx hZ 0 hown (hw 252 rfl) (hw 253 rfl) (hw 26 rfl) (hw 254 rfl) (rm_ulst hw t kb cs zc fm h0 n0 Z0 V_ hlen hch SS) e5 own_pd9 rfl (D 14 rfl) hml ?_
  rintro _ T6 _ _ X6 l6 ⟨rfl, N6q, e6⟩
  have N6 := own_frl l6 N4 N6q
  exact own_rI X6 hx Bd (D 9 rfl) e6 ⟨rfl, N6, rfl⟩
theorem d10 : ∀ x ∈ ([(0, .aload_n 0, 1), (1, .iload_n 1, 1), (2, .aload_n 0, 1), (3, .invokevirtual 505, 3), (6, .iconst 1, 1), (7, .isub, 1), (8, .invokevirtual 641, 3), (11, .ireturn, 1)] : List (Nat × Instr × Nat)), decode j10 x.1 = .ok x.2 := by decide +kernel
theorem own_pd10 : parseMethodDescriptor "()I" = some ⟨[], some .int⟩ := by decide +kernel
def Q_lst1 (Z : State) (a1 : Addr) (t : Addr) (cs : List Int32) (zc : Int32) (fm : Value) (h0 : Heap) (n0 : Nat) (v : Option Value) (h : Heap) (L : List Loc) : Prop := v = some (.int (own_lst cs cs.length)) ∧ Fr n0 L ∧ h = h0
theorem rm_lst1 (hw : own_H a0 Z) (a1 : Addr) (t : Addr) (cs : List Int32) (zc : Int32) (fm : Value) (h0 : Heap) (n0 : Nat) (Z0 : n0 ≤ h0.size) (P0_ : own_Str Z h0 a1 t cs) (SS : own_St Z h0 zc fm) : own_M l y10 j10 2 (some .int) (own_R 3 0 0 42) #[(.ref a1), (.int (45 : Int32))] Z h0 (Q_lst1 Z a1 t cs zc fm h0 n0) := by
 refine own_body (plainFor_of_name own_pn0) (fun p e s m below meth c s₁ Bd hZ hx hby hml hown hnm X0 e0 => ?_)
 have hown : s.vm.findClass "java/lang/String" = some m.cls := hown
 have N0 := Fr.nil n0
 have D := own_dt hby d10
 refine own_cast (g' := mkF m 0 #[vr a1, vi 45] []) rfl ?_
 obtain ⟨kb, cd, Nb, vs, E_, Fv_, Fc_, V_, hco, hch, hlen⟩ := id P0_
 have hcd : cd = 0 ∨ cd = 1 := own_cd01 hco
 show own_G _ _ _ _ (s₁.setTop (mkF m 0 #[vr a1, vi 45] []))
 refine own_go (fun _ Kk => XS.aloadN X0.here hx rfl (D 0 rfl) rfl rfl (XS.iloadN X0.here hx rfl (D 1 rfl) rfl (XS.aloadN X0.here hx rfl (D 2 rfl) rfl rfl Kk))) ?_
 refine own_cV X0 hx hZ 2 hown (hw 51 rfl) (hw 52 rfl) (hw 54 rfl) (hw 53 rfl) (hw 55 rfl) (hw 12 rfl) (rm_len hw a1 t cs zc fm h0 n0 Z0 P0_ SS) e0 E_ own_pd10 rfl (D 3 rfl) hml ?_
 rintro _ T1 _ _ X1 l1 ⟨rfl, N1q, e1⟩
 have N1 := own_frl l1 N0 N1q
 refine own_go (fun _ Kk => XS.iconst X1.here hx rfl (D 4 rfl) Kk) ?_
 show own_G _ _ _ _ (T1.setTop (mkF m 7 #[vr a1, vi 45] [.int 1, .int (Int32.ofNat cs.length), .int 45, .ref a1]))
 refine own_go (fun _ Kk => XS.isub X1.here hx rfl (D 5 rfl) rfl Kk) ?_
 refine own_cV X1 hx hZ 0 hown (hw 61 rfl) (hw 62 rfl) (hw 64 rfl) (hw 63 rfl) (hw 65 rfl) (hw 12 rfl) (rm_lst2 hw a1 t cs zc fm h0 n0 Z0 P0_ SS) e1 E_ own_pd8 rfl (D 6 rfl) hml ?_
 rintro _ T2 _ _ X2 l2 ⟨rfl, N2q, e2⟩
 have N2 := own_frl l2 N1 N2q
 exact own_rI X2 hx Bd (D 7 rfl) e2 ⟨rfl, N2, rfl⟩
theorem own_snoc {P : Nat → Prop} {a i : Nat} (h : ∀ j, a ≤ j → j < i → P j) (q : P i) : ∀ j, a ≤ j → j < i + 1 → P j := fun j h1 h2 => by
  by_cases e : j = i
  · subst e; exact q
  · exact h j h1 (by omega)
theorem d18 : ∀ x ∈ ([(0, .iload_n 1, 1), (1, .iload_n 2, 1), (2, .if_icmp .lt 5, 3), (7, .iload_n 1, 1), (8, .istore_n 3, 1), (9, .iload_n 3, 1), (10, .iload_n 2, 1), (11, .if_icmp .ge 31, 3), (42, .iconst 1, 1), (43, .ireturn, 1), (14, .aload_n 0, 1), (15, .iload_n 3, 1), (16, .invokevirtual 115, 3), (19, .bipush 48, 2), (21, .if_icmp .lt 13, 3), (34, .iconst 0, 1), (35, .ireturn, 1), (24, .aload_n 0, 1), (25, .iload_n 3, 1), (26, .invokevirtual 115, 3), (29, .bipush 57, 2), (31, .if_icmp .le 5, 3), (36, .iinc 3 1, 3), (39, .goto (-30), 3), (5, .iconst 0, 1), (6, .ireturn, 1)] : List (Nat × Instr × Nat)), decode j18 x.1 = .ok x.2 := by decide +kernel
theorem own_pn5 : plainName "com/example/lodepath/lodepath/MavenVersion" = true := by first | (simp [plainName, overriddenIn]; done) | decide +kernel
theorem own_pd11 : parseMethodDescriptor "(I)C" = some ⟨[.int], some .char⟩ := by decide +kernel
def Q_adig (Z : State) (a1 : Addr) (t : Addr) (cs : List Int32) (ia : Nat) (ib : Nat) (zc : Int32) (fm : Value) (h0 : Heap) (n0 : Nat) (v : Option Value) (h : Heap) (L : List Loc) : Prop := ∃ (z : Int32), v = some (.int z) ∧ Fr n0 L ∧ h = h0 ∧ ((z = 1 ∧ own_dig cs ia ib) ∨ (z = 0 ∧ ¬ own_dig cs ia ib))
theorem rm_adig (hw : own_H a0 Z) (a1 : Addr) (t : Addr) (cs : List Int32) (ia : Nat) (ib : Nat) (zc : Int32) (fm : Value) (h0 : Heap) (n0 : Nat) (Z0 : n0 ≤ h0.size) (P0_ : own_Str Z h0 a1 t cs) (hbl : ib ≤ cs.length) (hal : ia ≤ 4500) (SS : own_St Z h0 zc fm) : own_M l y18 j18 4 (some .boolean) (own_R 5 0 0 66) #[(.ref a1), (.int (Int32.ofNat ia)), (.int (Int32.ofNat ib))] Z h0 (Q_adig Z a1 t cs ia ib zc fm h0 n0) := by
 refine own_body (plainFor_of_name own_pn5) (fun p e s m below meth c s₁ Bd hZ hx hby hml hown hnm X0 e0 => ?_)
 have hown : s.vm.findClass "com/example/lodepath/lodepath/MavenVersion" = some m.cls := hown
 have N0 := Fr.nil n0
 have D := own_dt hby d18
 refine own_cast (g' := mkF m 0 #[vr a1, vi (Int32.ofNat ia), vi (Int32.ofNat ib), vu] []) rfl ?_
 obtain ⟨kb, cd, Nb, vs, E_, Fv_, Fc_, V_, hco, hch, hlen⟩ := id P0_
 have hcd : cd = 0 ∨ cd = 1 := own_cd01 hco
 show own_G _ _ _ _ (s₁.setTop (mkF m 0 #[vr a1, vi (Int32.ofNat ia), vi (Int32.ofNat ib), vu] []))
 refine own_go (fun _ Kk => XS.iloadN X0.here hx rfl (D 0 rfl) rfl (XS.iloadN X0.here hx rfl (D 1 rfl) rfl Kk)) ?_
 by_cases hc2_1 : (Int32.ofNat ia) < (Int32.ofNat ib)
 ·
  have hab : ia < ib := (own_ltn (by omega) (by omega)).mp hc2_1
  refine own_go (fun _ Kk => XS.icmpYes X0.here hx rfl (pc0 := 2) (pc' := 7) rfl (D 2 rfl) rfl (tlt hc2_1).1 (by decide) (by decide) Kk) ?_
  show own_G _ _ _ _ (s₁.setTop (mkF m 7 #[vr a1, vi (Int32.ofNat ia), vi (Int32.ofNat ib), vu] []))
  refine own_go (fun _ Kk => XS.iloadN X0.here hx rfl (D 3 rfl) rfl (XS.istoreN X0.here hx rfl (D 4 rfl) rfl (l' := #[vr a1, vi (Int32.ofNat ia), vi (Int32.ofNat ib), vi (Int32.ofNat ia)]) rfl Kk)) ?_
  show own_G _ _ _ _ (s₁.setTop (mkF m 9 #[vr a1, vi (Int32.ofNat ia), vi (Int32.ofNat ib), vi (Int32.ofNat ia)] []))
  have lp2 : ∀ (k : Nat) (i : Nat) (hik : i + k = ib) (hai : ia ≤ i) (hinv : ∀ j, ia ≤ j → j < i → ¬ cs.getD j 0 < 48 ∧ ¬ 57 < cs.getD j 0) (T9 : State) (L9 : List Loc), Stand p l e (own_R 5 0 0 66) s m #[(.ref a1), (.int (Int32.ofNat ia)), (.int (Int32.ofNat ib))] below meth c T9 L9 0 0 → T9.heap = h0 → Fr n0 L9 → own_G p e below (own_K (Q_adig Z a1 t cs ia ib zc fm h0 n0) 0 0 s) (T9.setTop (mkF m 9 #[vr a1, vi (Int32.ofNat ia), vi (Int32.ofNat ib), vi (Int32.ofNat i)] [])) := by
   intro k
   induction k with
   | zero =>
    intro i hik hai hinv T9 L9 X9 e9 N9
    show own_G _ _ _ _ (T9.setTop (mkF m 9 #[vr a1, vi (Int32.ofNat ia), vi (Int32.ofNat ib), vi (Int32.ofNat i)] []))
    show own_G _ _ _ _ (T9.setTop (mkF m 9 #[vr a1, vi (Int32.ofNat ia), vi (Int32.ofNat ib), vi (Int32.ofNat i)] []))
    refine own_go (fun _ Kk => XS.iloadN X9.here hx rfl (D 5 rfl) rfl (XS.iloadN X9.here hx rfl (D 6 rfl) rfl (XS.icmpYes X9.here hx rfl (pc0 := 11) (pc' := 42) rfl (D 7 rfl) rfl (flt (fun q => absurd ((own_ltn (by omega) (by omega)).mp q) (by omega))).2.1 (by decide) (by decide) (XS.iconst X9.here hx rfl (D 8 rfl) Kk)))) ?_
    exact own_rN (z' := (1 : Int32)) X9 hx Bd (D 9 rfl) e9 rfl ⟨(1 : Int32), rfl, N9, rfl, (Or.inl ⟨rfl, hab, fun j h1 h2 => hinv j h1 (by omega)⟩)⟩
   | succ k ih =>
    intro i hik hai hinv T9 L9 X9 e9 N9
    show own_G _ _ _ _ (T9.setTop (mkF m 9 #[vr a1, vi (Int32.ofNat ia), vi (Int32.ofNat ib), vi (Int32.ofNat i)] []))
    show own_G _ _ _ _ (T9.setTop (mkF m 9 #[vr a1, vi (Int32.ofNat ia), vi (Int32.ofNat ib), vi (Int32.ofNat i)] []))
    refine own_go (fun _ Kk => XS.iloadN X9.here hx rfl (D 5 rfl) rfl (XS.iloadN X9.here hx rfl (D 6 rfl) rfl (XS.icmpNo X9.here hx rfl (D 7 rfl) rfl (tlt (own_onl (by omega) (by omega))).2.1 (XS.aloadN X9.here hx rfl (D 10 rfl) rfl rfl (XS.iloadN X9.here hx rfl (D 11 rfl) rfl Kk))))) ?_
    show own_G _ _ _ _ (T9.setTop (mkF m 16 #[vr a1, vi (Int32.ofNat ia), vi (Int32.ofNat ib), vi (Int32.ofNat i)] [.int (Int32.ofNat i), .ref a1]))
    refine own_cV X9 hx hZ 0 hown (hw 86 rfl) (hw 87 rfl) (hw 89 rfl) (hw 88 rfl) (hw 90 rfl) (hw 12 rfl) (rm_cha hw a1 t cs i zc fm h0 n0 Z0 P0_ (by omega) SS) e9 E_ own_pd11 rfl (D 12 rfl) hml ?_
    rintro _ T3 _ _ X3 l3 ⟨rfl, N3q, e3⟩
    have N3 := own_frl l3 N9 N3q
    refine own_go (fun _ Kk => XS.bipush X3.here hx rfl (D 13 rfl) Kk) ?_
    by_cases hc21_4 : (cs.getD i 0) < (48 : Int32)
    ·
     refine own_go (fun _ Kk => XS.icmpYes X3.here hx rfl (pc0 := 21) (pc' := 34) rfl (D 14 rfl) rfl (tlt hc21_4).1 (by decide) (by decide) Kk) ?_
     show own_G _ _ _ _ (T3.setTop (mkF m 34 #[vr a1, vi (Int32.ofNat ia), vi (Int32.ofNat ib), vi (Int32.ofNat i)] []))
     refine own_go (fun _ Kk => XS.iconst X3.here hx rfl (D 15 rfl) Kk) ?_
     exact own_rN (z' := (0 : Int32)) X3 hx Bd (D 16 rfl) e3 rfl ⟨(0 : Int32), rfl, N3, rfl, (Or.inr ⟨rfl, fun q => (q.2 i (by omega) (by omega)).1 hc21_4⟩)⟩
    ·
     refine own_go (fun _ Kk => XS.icmpNo X3.here hx rfl (D 14 rfl) rfl (flt hc21_4).1 Kk) ?_
     show own_G _ _ _ _ (T3.setTop (mkF m 24 #[vr a1, vi (Int32.ofNat ia), vi (Int32.ofNat ib), vi (Int32.ofNat i)] []))
     refine own_go (fun _ Kk => XS.aloadN X3.here hx rfl (D 17 rfl) rfl rfl (XS.iloadN X3.here hx rfl (D 18 rfl) rfl Kk)) ?_
     refine own_cV X3 hx hZ 0 hown (hw 86 rfl) (hw 87 rfl) (hw 89 rfl) (hw 88 rfl) (hw 90 rfl) (hw 12 rfl) (rm_cha hw a1 t cs i zc fm h0 n0 Z0 P0_ (by omega) SS) e3 E_ own_pd11 rfl (D 19 rfl) hml ?_
     rintro _ T5 _ _ X5 l5 ⟨rfl, N5q, e5⟩
     have N5 := own_frl l5 N3 N5q
     refine own_go (fun _ Kk => XS.bipush X5.here hx rfl (D 20 rfl) Kk) ?_
     by_cases hc31_6 : (57 : Int32) < (cs.getD i 0)
     ·
      refine own_go (fun _ Kk => XS.icmpNo X5.here hx rfl (D 21 rfl) rfl (tlt hc31_6).2.2.2 Kk) ?_
      show own_G _ _ _ _ (T5.setTop (mkF m 34 #[vr a1, vi (Int32.ofNat ia), vi (Int32.ofNat ib), vi (Int32.ofNat i)] []))
      refine own_go (fun _ Kk => XS.iconst X5.here hx rfl (D 15 rfl) Kk) ?_
      exact own_rN (z' := (0 : Int32)) X5 hx Bd (D 16 rfl) e5 rfl ⟨(0 : Int32), rfl, N5, rfl, (Or.inr ⟨rfl, fun q => (q.2 i (by omega) (by omega)).2 hc31_6⟩)⟩
     ·
      refine own_go (fun _ Kk => XS.icmpYes X5.here hx rfl (pc0 := 31) (pc' := 36) rfl (D 21 rfl) rfl (flt hc31_6).2.2.2 (by decide) (by decide) Kk) ?_
      show own_G _ _ _ _ (T5.setTop (mkF m 36 #[vr a1, vi (Int32.ofNat ia), vi (Int32.ofNat ib), vi (Int32.ofNat i)] []))
      refine own_go (fun _ Kk => XS.iinc X5.here hx rfl (D 22 rfl) rfl (l' := #[vr a1, vi (Int32.ofNat ia), vi (Int32.ofNat ib), vi ((Int32.ofNat i) + (1 : Int32))]) rfl Kk) ?_
      show own_G _ _ _ _ (T5.setTop (mkF m 39 #[vr a1, vi (Int32.ofNat ia), vi (Int32.ofNat ib), vi ((Int32.ofNat i) + (1 : Int32))] []))
      rw [show ((Int32.ofNat i) + (1 : Int32)) = (Int32.ofNat (i + 1)) from own_add1 i (by omega)]
      refine own_go (fun _ Kk => XS.goto X5.here hx rfl (pc0 := 39) (pc' := 9) rfl (D 23 rfl) (by decide) (by decide) Kk) ?_
      show own_G _ _ _ _ (T5.setTop (mkF m 9 #[vr a1, vi (Int32.ofNat ia), vi (Int32.ofNat ib), vi (Int32.ofNat (i + 1))] []))
      exact ih (i + 1) (by omega) (by omega) (own_snoc hinv ⟨hc21_4, hc31_6⟩) _ _ X5 e5 N5
  exact lp2 (ib - ia) ia (by omega) (Nat.le_refl _) (fun j h1 h2 => absurd h1 (by omega)) _ _ X0 e0 N0
 ·
  have hab : ¬ ia < ib := mt (own_ltn (by omega) (by omega)).mpr hc2_1
  refine own_go (fun _ Kk => XS.icmpNo X0.here hx rfl (D 2 rfl) rfl (flt hc2_1).1 Kk) ?_
  show own_G _ _ _ _ (s₁.setTop (mkF m 5 #[vr a1, vi (Int32.ofNat ia), vi (Int32.ofNat ib), vu] []))
  refine own_go (fun _ Kk => XS.iconst X0.here hx rfl (D 24 rfl) Kk) ?_
  exact own_rN (z' := (0 : Int32)) X0 hx Bd (D 25 rfl) e0 rfl ⟨(0 : Int32), rfl, N0, rfl, (Or.inr ⟨rfl, fun q => hab q.1⟩)⟩
theorem own_nt {c : Int32} (a : ¬ c = 10) (b : ¬ c = 13) (d : ¬ c = 133) (e : ¬ c = 8232) (f : ¬ c = 8233) : ¬ own_term c := fun h => h.elim a (fun h => h.elim b (fun h => h.elim d (fun h => h.elim e f)))
theorem d9 : ∀ x ∈ ([(0, .aload_n 0, 1), (1, .bipush 45, 2), (3, .invokevirtual 104, 3), (6, .istore_n 1, 1), (7, .iload_n 1, 1), (8, .bipush 15, 2), (10, .isub, 1), (11, .istore_n 2, 1), (12, .iload_n 2, 1), (13, .ifCond .lt 56, 3), (69, .iconst (-1), 1), (70, .ireturn, 1), (16, .aload_n 0, 1), (17, .iload_n 1, 1), (18, .iconst 1, 1), (19, .iadd, 1), (20, .aload_n 0, 1), (21, .invokevirtual 108, 3), (24, .invokestatic 111, 3), (27, .ifCond .eq 42, 3), (30, .aload_n 0, 1), (31, .iload_n 2, 1), (32, .iload_n 2, 1), (33, .bipush 8, 2), (35, .iadd, 1), (36, .invokestatic 111, 3), (39, .ifCond .eq 30, 3), (42, .aload_n 0, 1), (43, .iload_n 2, 1), (44, .bipush 8, 2), (46, .iadd, 1), (47, .invokevirtual 115, 3), (50, .bipush 46, 2), (52, .if_icmp .ne 17, 3), (55, .aload_n 0, 1), (56, .iload_n 2, 1), (57, .bipush 8, 2), (59, .iadd, 1), (60, .iconst 1, 1), (61, .iadd, 1), (62, .iload_n 1, 1), (63, .invokestatic 111, 3), (66, .ifCond .ne 5, 3), (71, .iload_n 2, 1), (72, .ifCond .le 17, 3), (75, .aload_n 0, 1), (76, .iload_n 2, 1), (77, .iconst 1, 1), (78, .isub, 1), (79, .invokevirtual 115, 3), (82, .bipush 45, 2), (84, .if_icmp .eq 5, 3), (89, .iconst 0, 1), (90, .istore_n 3, 1), (91, .iload_n 3, 1), (92, .iload_n 2, 1), (93, .if_icmp .ge 56, 3), (149, .iload_n 2, 1), (150, .ireturn, 1), (96, .aload_n 0, 1), (97, .iload_n 3, 1), (98, .invokevirtual 115, 3), (101, .istore 4, 2), (103, .iload 4, 2), (105, .bipush 10, 2), (107, .if_icmp .eq 34, 3), (141, .iconst (-1), 1), (142, .ireturn, 1), (110, .iload 4, 2), (112, .bipush 13, 2), (114, .if_icmp .eq 27, 3), (117, .iload 4, 2), (119, .sipush 133, 3), (122, .if_icmp .eq 19, 3), (125, .iload 4, 2), (127, .sipush 8232, 3), (130, .if_icmp .eq 11, 3), (133, .iload 4, 2), (135, .sipush 8233, 3), (138, .if_icmp .ne 5, 3), (143, .iinc 3 1, 3), (146, .goto (-55), 3), (87, .iconst (-1), 1), (88, .ireturn, 1)] : List (Nat × Instr × Nat)), decode j9 x.1 = .ok x.2 := by decide +kernel
theorem own_pd12 : parseMethodDescriptor "(I)I" = some ⟨[.int], some .int⟩ := by decide +kernel
theorem own_pd13 : parseMethodDescriptor "(Ljava/lang/String;II)Z" = some ⟨[(.object "java/lang/String"), .int, .int], some .boolean⟩ := by decide +kernel
def Q_tsat (Z : State) (a1 : Addr) (t : Addr) (cs : List Int32) (zc : Int32) (fm : Value) (h0 : Heap) (n0 : Nat) (v : Option Value) (h : Heap) (L : List Loc) : Prop := ∃ (z : Int32), v = some (.int z) ∧ Fr n0 L ∧ h = h0 ∧ (own_TS cs z)
theorem rm_tsat (hw : own_H a0 Z) (a1 : Addr) (t : Addr) (cs : List Int32) (zc : Int32) (fm : Value) (h0 : Heap) (n0 : Nat) (Z0 : n0 ≤ h0.size) (P0_ : own_Str Z h0 a1 t cs) (SS : own_St Z h0 zc fm) : own_M l y9 j9 5 (some .int) (own_R 6 0 0 81) #[(.ref a1)] Z h0 (Q_tsat Z a1 t cs zc fm h0 n0) := by
 refine own_body (plainFor_of_name own_pn5) (fun p e s m below meth c s₁ Bd hZ hx hby hml hown hnm X0 e0 => ?_)
 have hown : s.vm.findClass "com/example/lodepath/lodepath/MavenVersion" = some m.cls := hown
 have N0 := Fr.nil n0
 have D := own_dt hby d9
 refine own_cast (g' := mkF m 0 #[vr a1, vu, vu, vu, vu] []) rfl ?_
 obtain ⟨kb, cd, Nb, vs, E_, Fv_, Fc_, V_, hco, hch, hlen⟩ := id P0_
 have hcd : cd = 0 ∨ cd = 1 := own_cd01 hco
 show own_G _ _ _ _ (s₁.setTop (mkF m 0 #[vr a1, vu, vu, vu, vu] []))
 refine own_go (fun _ Kk => XS.aloadN X0.here hx rfl (D 0 rfl) rfl rfl (XS.bipush X0.here hx rfl (D 1 rfl) Kk)) ?_
 refine own_cV X0 hx hZ 0 hown (hw 46 rfl) (hw 47 rfl) (hw 49 rfl) (hw 48 rfl) (hw 50 rfl) (hw 12 rfl) (rm_lst1 hw a1 t cs zc fm h0 n0 Z0 P0_ SS) e0 E_ own_pd12 rfl (D 2 rfl) hml ?_
 rintro _ T1 _ _ X1 l1 ⟨rfl, N1q, e1⟩
 have N1 := own_frl l1 N0 N1q
 show own_G _ _ _ _ (T1.setTop (mkF m 6 #[vr a1, vu, vu, vu, vu] [.int (own_lst cs cs.length)]))
 rcases own_lst_cases cs cs.length with hm | ⟨mm, hm15, hmn, hm⟩ | ⟨q, hmn, hm⟩
 ·
  rw [hm]
  show own_G _ _ _ _ (T1.setTop (mkF m 6 #[vr a1, vu, vu, vu, vu] [.int (-1)]))
  refine own_go (fun _ Kk => XS.istoreN X1.here hx rfl (D 3 rfl) rfl (l' := #[vr a1, vi (-1), vu, vu, vu]) rfl (XS.iloadN X1.here hx rfl (D 4 rfl) rfl (XS.bipush X1.here hx rfl (D 5 rfl) (XS.isub X1.here hx rfl (D 6 rfl) rfl Kk)))) ?_
  show own_G _ _ _ _ (T1.setTop (mkF m 11 #[vr a1, vi (-1), vu, vu, vu] [.int ((-1 : Int32) - (15 : Int32))]))
  rw [show ((-1 : Int32) - (15 : Int32)) = (-16 : Int32) from rfl]
  refine own_go (fun _ Kk => XS.istoreN X1.here hx rfl (D 7 rfl) rfl (l' := #[vr a1, vi (-1), vi (-16), vu, vu]) rfl (XS.iloadN X1.here hx rfl (D 8 rfl) rfl (XS.ifYes X1.here hx rfl (pc0 := 13) (pc' := 69) rfl (D 9 rfl) rfl ((if0 _ _).trans (by decide)) (by decide) (by decide) (XS.iconst X1.here hx rfl (D 10 rfl) Kk)))) ?_
  show own_G _ _ _ _ (T1.setTop (mkF m 70 #[vr a1, vi (-1), vi (-16), vu, vu] [.int (-1)]))
  exact own_rI X1 hx Bd (D 11 rfl) e1 ⟨(-1 : Int32), rfl, N1, rfl, (Or.inl ⟨rfl, fun q g => own_m1 (by have := g.1; omega) (hm.symm.trans g.2.1)⟩)⟩
 ·
  rw [hm]
  show own_G _ _ _ _ (T1.setTop (mkF m 6 #[vr a1, vu, vu, vu, vu] [.int (Int32.ofNat mm)]))
  refine own_go (fun _ Kk => XS.istoreN X1.here hx rfl (D 3 rfl) rfl (l' := #[vr a1, vi (Int32.ofNat mm), vu, vu, vu]) rfl (XS.iloadN X1.here hx rfl (D 4 rfl) rfl (XS.bipush X1.here hx rfl (D 5 rfl) (XS.isub X1.here hx rfl (D 6 rfl) rfl (XS.istoreN X1.here hx rfl (D 7 rfl) rfl (l' := #[vr a1, vi (Int32.ofNat mm), vi ((Int32.ofNat mm) - (15 : Int32)), vu, vu]) rfl Kk))))) ?_
  show own_G _ _ _ _ (T1.setTop (mkF m 12 #[vr a1, vi (Int32.ofNat mm), vi ((Int32.ofNat mm) - (15 : Int32)), vu, vu] []))
  refine own_go (fun _ Kk => XS.iloadN X1.here hx rfl (D 8 rfl) rfl (XS.ifYes X1.here hx rfl (pc0 := 13) (pc' := 69) rfl (D 9 rfl) rfl ((if0 _ _).trans (tlt (own_sublt mm 15 (by omega) (by omega) hm15)).1) (by decide) (by decide) (XS.iconst X1.here hx rfl (D 10 rfl) Kk))) ?_
  exact own_rI X1 hx Bd (D 11 rfl) e1 ⟨(-1 : Int32), rfl, N1, rfl, (Or.inl ⟨rfl, fun q g => absurd (own_inj (by omega) (by have := g.1; omega) (hm.symm.trans g.2.1)) (by omega)⟩)⟩
 ·
  rw [hm]
  show own_G _ _ _ _ (T1.setTop (mkF m 6 #[vr a1, vu, vu, vu, vu] [.int (Int32.ofNat (15 + q))]))
  refine own_go (fun _ Kk => XS.istoreN X1.here hx rfl (D 3 rfl) rfl (l' := #[vr a1, vi (Int32.ofNat (15 + q)), vu, vu, vu]) rfl (XS.iloadN X1.here hx rfl (D 4 rfl) rfl (XS.bipush X1.here hx rfl (D 5 rfl) (XS.isub X1.here hx rfl (D 6 rfl) rfl Kk)))) ?_
  show own_G _ _ _ _ (T1.setTop (mkF m 11 #[vr a1, vi (Int32.ofNat (15 + q)), vu, vu, vu] [.int ((Int32.ofNat (15 + q)) - (15 : Int32))]))
  rw [show ((Int32.ofNat (15 + q)) - (15 : Int32)) = (Int32.ofNat q) from (own_subn (15 + q) 15 (by omega) (by omega)).trans (by rw [Nat.add_sub_cancel_left])]
  refine own_go (fun _ Kk => XS.istoreN X1.here hx rfl (D 7 rfl) rfl (l' := #[vr a1, vi (Int32.ofNat (15 + q)), vi (Int32.ofNat q), vu, vu]) rfl (XS.iloadN X1.here hx rfl (D 8 rfl) rfl (XS.ifNo X1.here hx rfl (D 9 rfl) rfl ((if0 _ _).trans (flt (own_onn q (by omega))).1) (XS.aloadN X1.here hx rfl (D 12 rfl) rfl rfl Kk)))) ?_
  show own_G _ _ _ _ (T1.setTop (mkF m 17 #[vr a1, vi (Int32.ofNat (15 + q)), vi (Int32.ofNat q), vu, vu] [.ref a1]))
  refine own_go (fun _ Kk => XS.iloadN X1.here hx rfl (D 13 rfl) rfl (XS.iconst X1.here hx rfl (D 14 rfl) (XS.iadd X1.here hx rfl (D 15 rfl) rfl Kk))) ?_
  show own_G _ _ _ _ (T1.setTop (mkF m 20 #[vr a1, vi (Int32.ofNat (15 + q)), vi (Int32.ofNat q), vu, vu] [.int ((Int32.ofNat (15 + q)) + (1 : Int32)), .ref a1]))
  rw [show ((Int32.ofNat (15 + q)) + (1 : Int32)) = (Int32.ofNat (16 + q)) from (own_addn (15 + q) 1 (by omega) (by omega)).trans (congrArg Int32.ofNat (by omega))]
  refine own_go (fun _ Kk => XS.aloadN X1.here hx rfl (D 16 rfl) rfl rfl Kk) ?_
  refine own_cV X1 hx hZ 2 hown (hw 82 rfl) (hw 52 rfl) (hw 54 rfl) (hw 53 rfl) (hw 55 rfl) (hw 12 rfl) (rm_len hw a1 t cs zc fm h0 n0 Z0 P0_ SS) e1 E_ own_pd10 rfl (D 17 rfl) hml ?_
  rintro _ T2 _ _ X2 l2 ⟨rfl, N2q, e2⟩
  have N2 := own_frl l2 N1 N2q
  refine own_cS X2 hx hZ 0 hown (hw 83 rfl) (hw 84 rfl) (hw 41 rfl) (hw 85 rfl) (rm_adig hw a1 t cs (16 + q) cs.length zc fm h0 n0 Z0 P0_ (by omega) (by omega) SS) e2 own_pd13 rfl (D 18 rfl) hml ?_
  rintro _ T3 _ _ X3 l3 ⟨z3, rfl, N3q, e3, x3_0⟩
  have N3 := own_frl l3 N2 N3q
  show own_G _ _ _ _ (T3.setTop (mkF m 27 #[vr a1, vi (Int32.ofNat (15 + q)), vi (Int32.ofNat q), vu, vu] [.int z3]))
  rcases x3_0 with ⟨rfl, hd1⟩ | ⟨rfl, hd1⟩
  ·
   show own_G _ _ _ _ (T3.setTop (mkF m 27 #[vr a1, vi (Int32.ofNat (15 + q)), vi (Int32.ofNat q), vu, vu] [.int 1]))
   refine own_go (fun _ Kk => XS.ifNo X3.here hx rfl (D 19 rfl) rfl ((if0 _ _).trans (by decide)) (XS.aloadN X3.here hx rfl (D 20 rfl) rfl rfl (XS.iloadN X3.here hx rfl (D 21 rfl) rfl (XS.iloadN X3.here hx rfl (D 22 rfl) rfl (XS.bipush X3.here hx rfl (D 23 rfl) Kk))))) ?_
   show own_G _ _ _ _ (T3.setTop (mkF m 35 #[vr a1, vi (Int32.ofNat (15 + q)), vi (Int32.ofNat q), vu, vu] [.int 8, .int (Int32.ofNat q), .int (Int32.ofNat q), .ref a1]))
   refine own_go (fun _ Kk => XS.iadd X3.here hx rfl (D 24 rfl) rfl Kk) ?_
   show own_G _ _ _ _ (T3.setTop (mkF m 36 #[vr a1, vi (Int32.ofNat (15 + q)), vi (Int32.ofNat q), vu, vu] [.int ((Int32.ofNat q) + (8 : Int32)), .int (Int32.ofNat q), .ref a1]))
   rw [show ((Int32.ofNat q) + (8 : Int32)) = (Int32.ofNat (q + 8)) from own_addn q 8 (by omega) (by omega)]
   refine own_cS X3 hx hZ 0 hown (hw 83 rfl) (hw 84 rfl) (hw 41 rfl) (hw 85 rfl) (rm_adig hw a1 t cs q (q + 8) zc fm h0 n0 Z0 P0_ (by omega) (by omega) SS) e3 own_pd13 rfl (D 25 rfl) hml ?_
   rintro _ T4 _ _ X4 l4 ⟨z4, rfl, N4q, e4, x4_0⟩
   have N4 := own_frl l4 N3 N4q
   show own_G _ _ _ _ (T4.setTop (mkF m 39 #[vr a1, vi (Int32.ofNat (15 + q)), vi (Int32.ofNat q), vu, vu] [.int z4]))
   rcases x4_0 with ⟨rfl, hd2⟩ | ⟨rfl, hd2⟩
   ·
    show own_G _ _ _ _ (T4.setTop (mkF m 39 #[vr a1, vi (Int32.ofNat (15 + q)), vi (Int32.ofNat q), vu, vu] [.int 1]))
    refine own_go (fun _ Kk => XS.ifNo X4.here hx rfl (D 26 rfl) rfl ((if0 _ _).trans (by decide)) (XS.aloadN X4.here hx rfl (D 27 rfl) rfl rfl (XS.iloadN X4.here hx rfl (D 28 rfl) rfl (XS.bipush X4.here hx rfl (D 29 rfl) (XS.iadd X4.here hx rfl (D 30 rfl) rfl Kk))))) ?_
    show own_G _ _ _ _ (T4.setTop (mkF m 47 #[vr a1, vi (Int32.ofNat (15 + q)), vi (Int32.ofNat q), vu, vu] [.int ((Int32.ofNat q) + (8 : Int32)), .ref a1]))
    rw [show ((Int32.ofNat q) + (8 : Int32)) = (Int32.ofNat (q + 8)) from own_addn q 8 (by omega) (by omega)]
    refine own_cV X4 hx hZ 0 hown (hw 86 rfl) (hw 87 rfl) (hw 89 rfl) (hw 88 rfl) (hw 90 rfl) (hw 12 rfl) (rm_cha hw a1 t cs (q + 8) zc fm h0 n0 Z0 P0_ (by omega) SS) e4 E_ own_pd11 rfl (D 31 rfl) hml ?_
    rintro _ T5 _ _ X5 l5 ⟨rfl, N5q, e5⟩
    have N5 := own_frl l5 N4 N5q
    refine own_go (fun _ Kk => XS.bipush X5.here hx rfl (D 32 rfl) Kk) ?_
    by_cases hc52_6 : (cs.getD (q + 8) 0) = (46 : Int32)
    ·
     have hdot := hc52_6
     refine own_go (fun _ Kk => XS.icmpNo X5.here hx rfl (D 33 rfl) rfl (teq hc52_6).2 Kk) ?_
     show own_G _ _ _ _ (T5.setTop (mkF m 55 #[vr a1, vi (Int32.ofNat (15 + q)), vi (Int32.ofNat q), vu, vu] []))
     refine own_go (fun _ Kk => XS.aloadN X5.here hx rfl (D 34 rfl) rfl rfl (XS.iloadN X5.here hx rfl (D 35 rfl) rfl (XS.bipush X5.here hx rfl (D 36 rfl) (XS.iadd X5.here hx rfl (D 37 rfl) rfl Kk)))) ?_
     show own_G _ _ _ _ (T5.setTop (mkF m 60 #[vr a1, vi (Int32.ofNat (15 + q)), vi (Int32.ofNat q), vu, vu] [.int ((Int32.ofNat q) + (8 : Int32)), .ref a1]))
     rw [show ((Int32.ofNat q) + (8 : Int32)) = (Int32.ofNat (q + 8)) from own_addn q 8 (by omega) (by omega)]
     refine own_go (fun _ Kk => XS.iconst X5.here hx rfl (D 38 rfl) (XS.iadd X5.here hx rfl (D 39 rfl) rfl Kk)) ?_
     show own_G _ _ _ _ (T5.setTop (mkF m 62 #[vr a1, vi (Int32.ofNat (15 + q)), vi (Int32.ofNat q), vu, vu] [.int ((Int32.ofNat (q + 8)) + (1 : Int32)), .ref a1]))
     rw [show ((Int32.ofNat (q + 8)) + (1 : Int32)) = (Int32.ofNat (q + 9)) from own_addn (q + 8) 1 (by omega) (by omega)]
     refine own_go (fun _ Kk => XS.iloadN X5.here hx rfl (D 40 rfl) rfl Kk) ?_
     refine own_cS X5 hx hZ 0 hown (hw 83 rfl) (hw 84 rfl) (hw 41 rfl) (hw 85 rfl) (rm_adig hw a1 t cs (q + 9) (15 + q) zc fm h0 n0 Z0 P0_ (by omega) (by omega) SS) e5 own_pd13 rfl (D 41 rfl) hml ?_
     rintro _ T7 _ _ X7 l7 ⟨z7, rfl, N7q, e7, x7_0⟩
     have N7 := own_frl l7 N5 N7q
     show own_G _ _ _ _ (T7.setTop (mkF m 66 #[vr a1, vi (Int32.ofNat (15 + q)), vi (Int32.ofNat q), vu, vu] [.int z7]))
     rcases x7_0 with ⟨rfl, hd3⟩ | ⟨rfl, hd3⟩
     ·
      show own_G _ _ _ _ (T7.setTop (mkF m 66 #[vr a1, vi (Int32.ofNat (15 + q)), vi (Int32.ofNat q), vu, vu] [.int 1]))
      refine own_go (fun _ Kk => XS.ifYes X7.here hx rfl (pc0 := 66) (pc' := 71) rfl (D 42 rfl) rfl ((if0 _ _).trans (by decide)) (by decide) (by decide) (XS.iloadN X7.here hx rfl (D 43 rfl) rfl Kk)) ?_
      by_cases hc72_8 : (0 : Int32) < (Int32.ofNat q)
      ·
       have hq0 : 0 < q := (own_ltn (a := 0) (by omega) (by omega)).mp hc72_8
       refine own_go (fun _ Kk => XS.ifNo X7.here hx rfl (D 44 rfl) rfl ((if0 _ _).trans (tlt hc72_8).2.2.2) Kk) ?_
       show own_G _ _ _ _ (T7.setTop (mkF m 75 #[vr a1, vi (Int32.ofNat (15 + q)), vi (Int32.ofNat q), vu, vu] []))
       refine own_go (fun _ Kk => XS.aloadN X7.here hx rfl (D 45 rfl) rfl rfl (XS.iloadN X7.here hx rfl (D 46 rfl) rfl (XS.iconst X7.here hx rfl (D 47 rfl) (XS.isub X7.here hx rfl (D 48 rfl) rfl Kk)))) ?_
       show own_G _ _ _ _ (T7.setTop (mkF m 79 #[vr a1, vi (Int32.ofNat (15 + q)), vi (Int32.ofNat q), vu, vu] [.int ((Int32.ofNat q) - (1 : Int32)), .ref a1]))
       rw [show ((Int32.ofNat q) - (1 : Int32)) = (Int32.ofNat (q - 1)) from own_subn q 1 (by omega) (by omega)]
       refine own_cV X7 hx hZ 0 hown (hw 86 rfl) (hw 87 rfl) (hw 89 rfl) (hw 88 rfl) (hw 90 rfl) (hw 12 rfl) (rm_cha hw a1 t cs (q - 1) zc fm h0 n0 Z0 P0_ (by omega) SS) e7 E_ own_pd11 rfl (D 49 rfl) hml ?_
       rintro _ T9 _ _ X9 l9 ⟨rfl, N9q, e9⟩
       have N9 := own_frl l9 N7 N9q
       refine own_go (fun _ Kk => XS.bipush X9.here hx rfl (D 50 rfl) Kk) ?_
       by_cases hc84_10 : (cs.getD (q - 1) 0) = (45 : Int32)
       ·
        have hpd := hc84_10
        have hpre : 0 < q → cs.getD (q - 1) 0 = 45 := fun _ => hpd
        refine own_go (fun _ Kk => XS.icmpYes X9.here hx rfl (pc0 := 84) (pc' := 89) rfl (D 51 rfl) rfl (teq hc84_10).1 (by decide) (by decide) Kk) ?_
        show own_G _ _ _ _ (T9.setTop (mkF m 89 #[vr a1, vi (Int32.ofNat (15 + q)), vi (Int32.ofNat q), vu, vu] []))
        refine own_go (fun _ Kk => XS.iconst X9.here hx rfl (D 52 rfl) (XS.istoreN X9.here hx rfl (D 53 rfl) rfl (l' := #[vr a1, vi (Int32.ofNat (15 + q)), vi (Int32.ofNat q), vi 0, vu]) rfl Kk)) ?_
        show own_G _ _ _ _ (T9.setTop (mkF m 91 #[vr a1, vi (Int32.ofNat (15 + q)), vi (Int32.ofNat q), vi 0, vu] []))
        have lp11 : ∀ (k : Nat) (i : Nat) (w9 : Slot) (hik : i + k = q) (hinv : ∀ j, j < i → ¬ own_term (cs.getD j 0)) (hw9 : w9 = .unset ∨ ∃ z : Int32, w9 = .val (.int z)) (T9 : State) (L9 : List Loc), Stand p l e (own_R 6 0 0 81) s m #[(.ref a1)] below meth c T9 L9 0 0 → T9.heap = h0 → Fr n0 L9 → own_G p e below (own_K (Q_tsat Z a1 t cs zc fm h0 n0) 0 0 s) (T9.setTop (mkF m 91 #[vr a1, vi (Int32.ofNat (15 + q)), vi (Int32.ofNat q), vi (Int32.ofNat i), w9] [])) := by
         intro k
         induction k with
         | zero =>
          intro i w9 hik hinv hw9 T9 L9 X9 e9 N9
          show own_G _ _ _ _ (T9.setTop (mkF m 91 #[vr a1, vi (Int32.ofNat (15 + q)), vi (Int32.ofNat q), vi (Int32.ofNat i), w9] []))
          show own_G _ _ _ _ (T9.setTop (mkF m 91 #[vr a1, vi (Int32.ofNat (15 + q)), vi (Int32.ofNat q), vi (Int32.ofNat i), w9] []))
          refine own_go (fun _ Kk => XS.iloadN X9.here hx rfl (D 54 rfl) rfl (XS.iloadN X9.here hx rfl (D 55 rfl) rfl (XS.icmpYes X9.here hx rfl (pc0 := 93) (pc' := 149) rfl (D 56 rfl) rfl (flt (fun q => absurd ((own_ltn (by omega) (by omega)).mp q) (by omega))).2.1 (by decide) (by decide) (XS.iloadN X9.here hx rfl (D 57 rfl) rfl Kk)))) ?_
          exact own_rI X9 hx Bd (D 58 rfl) e9 ⟨(Int32.ofNat q), rfl, N9, rfl, (Or.inr ⟨q, rfl, hmn, hm, hd1, hd2, hdot, hd3, hpre, fun j hj => hinv j (by omega)⟩)⟩
         | succ k ih =>
          intro i w9 hik hinv hw9 T9 L9 X9 e9 N9
          show own_G _ _ _ _ (T9.setTop (mkF m 91 #[vr a1, vi (Int32.ofNat (15 + q)), vi (Int32.ofNat q), vi (Int32.ofNat i), w9] []))
          rcases hw9 with rfl | ⟨z9, rfl⟩
          ·
           show own_G _ _ _ _ (T9.setTop (mkF m 91 #[vr a1, vi (Int32.ofNat (15 + q)), vi (Int32.ofNat q), vi (Int32.ofNat i), vu] []))
           refine own_go (fun _ Kk => XS.iloadN X9.here hx rfl (D 54 rfl) rfl (XS.iloadN X9.here hx rfl (D 55 rfl) rfl (XS.icmpNo X9.here hx rfl (D 56 rfl) rfl (tlt (own_onl (by omega) (by omega))).2.1 (XS.aloadN X9.here hx rfl (D 59 rfl) rfl rfl (XS.iloadN X9.here hx rfl (D 60 rfl) rfl Kk))))) ?_
           show own_G _ _ _ _ (T9.setTop (mkF m 98 #[vr a1, vi (Int32.ofNat (15 + q)), vi (Int32.ofNat q), vi (Int32.ofNat i), vu] [.int (Int32.ofNat i), .ref a1]))
           refine own_cV X9 hx hZ 0 hown (hw 86 rfl) (hw 87 rfl) (hw 89 rfl) (hw 88 rfl) (hw 90 rfl) (hw 12 rfl) (rm_cha hw a1 t cs i zc fm h0 n0 Z0 P0_ (by omega) SS) e9 E_ own_pd11 rfl (D 61 rfl) hml ?_
           rintro _ T12 _ _ X12 l12 ⟨rfl, N12q, e12⟩
           have N12 := own_frl l12 N9 N12q
           refine own_go (fun _ Kk => XS.istore X12.here hx rfl (D 62 rfl) rfl (l' := #[vr a1, vi (Int32.ofNat (15 + q)), vi (Int32.ofNat q), vi (Int32.ofNat i), vi (cs.getD i 0)]) rfl (XS.iload X12.here hx rfl (D 63 rfl) rfl (XS.bipush X12.here hx rfl (D 64 rfl) Kk))) ?_
           by_cases hc107_13 : (cs.getD i 0) = (10 : Int32)
           ·
            refine own_go (fun _ Kk => XS.icmpYes X12.here hx rfl (pc0 := 107) (pc' := 141) rfl (D 65 rfl) rfl (teq hc107_13).1 (by decide) (by decide) Kk) ?_
            show own_G _ _ _ _ (T12.setTop (mkF m 141 #[vr a1, vi (Int32.ofNat (15 + q)), vi (Int32.ofNat q), vi (Int32.ofNat i), vi (cs.getD i 0)] []))
            refine own_go (fun _ Kk => XS.iconst X12.here hx rfl (D 66 rfl) Kk) ?_
            exact own_rI X12 hx Bd (D 67 rfl) e12 ⟨(-1 : Int32), rfl, N12, rfl, (Or.inl ⟨rfl, own_ng hlen hm hmn (fun g => g.2.2.2.2.2.2.2 i (by omega) (Or.inl hc107_13))⟩)⟩
           ·
            refine own_go (fun _ Kk => XS.icmpNo X12.here hx rfl (D 65 rfl) rfl (feq hc107_13).1 Kk) ?_
            show own_G _ _ _ _ (T12.setTop (mkF m 110 #[vr a1, vi (Int32.ofNat (15 + q)), vi (Int32.ofNat q), vi (Int32.ofNat i), vi (cs.getD i 0)] []))
            refine own_go (fun _ Kk => XS.iload X12.here hx rfl (D 68 rfl) rfl (XS.bipush X12.here hx rfl (D 69 rfl) Kk)) ?_
            by_cases hc114_14 : (cs.getD i 0) = (13 : Int32)
            ·
             refine own_go (fun _ Kk => XS.icmpYes X12.here hx rfl (pc0 := 114) (pc' := 141) rfl (D 70 rfl) rfl (teq hc114_14).1 (by decide) (by decide) Kk) ?_
             show own_G _ _ _ _ (T12.setTop (mkF m 141 #[vr a1, vi (Int32.ofNat (15 + q)), vi (Int32.ofNat q), vi (Int32.ofNat i), vi (cs.getD i 0)] []))
             refine own_go (fun _ Kk => XS.iconst X12.here hx rfl (D 66 rfl) Kk) ?_
             exact own_rI X12 hx Bd (D 67 rfl) e12 ⟨(-1 : Int32), rfl, N12, rfl, (Or.inl ⟨rfl, own_ng hlen hm hmn (fun g => g.2.2.2.2.2.2.2 i (by omega) (Or.inr (Or.inl hc114_14)))⟩)⟩
            ·
             refine own_go (fun _ Kk => XS.icmpNo X12.here hx rfl (D 70 rfl) rfl (feq hc114_14).1 Kk) ?_
             show own_G _ _ _ _ (T12.setTop (mkF m 117 #[vr a1, vi (Int32.ofNat (15 + q)), vi (Int32.ofNat q), vi (Int32.ofNat i), vi (cs.getD i 0)] []))
             refine own_go (fun _ Kk => XS.iload X12.here hx rfl (D 71 rfl) rfl (XS.sipush X12.here hx rfl (D 72 rfl) Kk)) ?_
             by_cases hc122_15 : (cs.getD i 0) = (133 : Int32)
             ·
              refine own_go (fun _ Kk => XS.icmpYes X12.here hx rfl (pc0 := 122) (pc' := 141) rfl (D 73 rfl) rfl (teq hc122_15).1 (by decide) (by decide) Kk) ?_
              show own_G _ _ _ _ (T12.setTop (mkF m 141 #[vr a1, vi (Int32.ofNat (15 + q)), vi (Int32.ofNat q), vi (Int32.ofNat i), vi (cs.getD i 0)] []))
              refine own_go (fun _ Kk => XS.iconst X12.here hx rfl (D 66 rfl) Kk) ?_
              exact own_rI X12 hx Bd (D 67 rfl) e12 ⟨(-1 : Int32), rfl, N12, rfl, (Or.inl ⟨rfl, own_ng hlen hm hmn (fun g => g.2.2.2.2.2.2.2 i (by omega) (Or.inr (Or.inr (Or.inl hc122_15))))⟩)⟩
             ·
              refine own_go (fun _ Kk => XS.icmpNo X12.here hx rfl (D 73 rfl) rfl (feq hc122_15).1 Kk) ?_
              show own_G _ _ _ _ (T12.setTop (mkF m 125 #[vr a1, vi (Int32.ofNat (15 + q)), vi (Int32.ofNat q), vi (Int32.ofNat i), vi (cs.getD i 0)] []))
              refine own_go (fun _ Kk => XS.iload X12.here hx rfl (D 74 rfl) rfl (XS.sipush X12.here hx rfl (D 75 rfl) Kk)) ?_
              by_cases hc130_16 : (cs.getD i 0) = (8232 : Int32)
              ·
               refine own_go (fun _ Kk => XS.icmpYes X12.here hx rfl (pc0 := 130) (pc' := 141) rfl (D 76 rfl) rfl (teq hc130_16).1 (by decide) (by decide) Kk) ?_
               show own_G _ _ _ _ (T12.setTop (mkF m 141 #[vr a1, vi (Int32.ofNat (15 + q)), vi (Int32.ofNat q), vi (Int32.ofNat i), vi (cs.getD i 0)] []))
               refine own_go (fun _ Kk => XS.iconst X12.here hx rfl (D 66 rfl) Kk) ?_
               exact own_rI X12 hx Bd (D 67 rfl) e12 ⟨(-1 : Int32), rfl, N12, rfl, (Or.inl ⟨rfl, own_ng hlen hm hmn (fun g => g.2.2.2.2.2.2.2 i (by omega) (Or.inr (Or.inr (Or.inr (Or.inl hc130_16)))))⟩)⟩
              ·
               refine own_go (fun _ Kk => XS.icmpNo X12.here hx rfl (D 76 rfl) rfl (feq hc130_16).1 Kk) ?_
               show own_G _ _ _ _ (T12.setTop (mkF m 133 #[vr a1, vi (Int32.ofNat (15 + q)), vi (Int32.ofNat q), vi (Int32.ofNat i), vi (cs.getD i 0)] []))
               refine own_go (fun _ Kk => XS.iload X12.here hx rfl (D 77 rfl) rfl (XS.sipush X12.here hx rfl (D 78 rfl) Kk)) ?_
               by_cases hc138_17 : (cs.getD i 0) = (8233 : Int32)
               ·
                refine own_go (fun _ Kk => XS.icmpNo X12.here hx rfl (D 79 rfl) rfl (teq hc138_17).2 Kk) ?_
                show own_G _ _ _ _ (T12.setTop (mkF m 141 #[vr a1, vi (Int32.ofNat (15 + q)), vi (Int32.ofNat q), vi (Int32.ofNat i), vi (cs.getD i 0)] []))
                refine own_go (fun _ Kk => XS.iconst X12.here hx rfl (D 66 rfl) Kk) ?_
                exact own_rI X12 hx Bd (D 67 rfl) e12 ⟨(-1 : Int32), rfl, N12, rfl, (Or.inl ⟨rfl, own_ng hlen hm hmn (fun g => g.2.2.2.2.2.2.2 i (by omega) (Or.inr (Or.inr (Or.inr (Or.inr hc138_17)))))⟩)⟩
               ·
                refine own_go (fun _ Kk => XS.icmpYes X12.here hx rfl (pc0 := 138) (pc' := 143) rfl (D 79 rfl) rfl (feq hc138_17).2 (by decide) (by decide) Kk) ?_
                show own_G _ _ _ _ (T12.setTop (mkF m 143 #[vr a1, vi (Int32.ofNat (15 + q)), vi (Int32.ofNat q), vi (Int32.ofNat i), vi (cs.getD i 0)] []))
                refine own_go (fun _ Kk => XS.iinc X12.here hx rfl (D 80 rfl) rfl (l' := #[vr a1, vi (Int32.ofNat (15 + q)), vi (Int32.ofNat q), vi ((Int32.ofNat i) + (1 : Int32)), vi (cs.getD i 0)]) rfl Kk) ?_
                show own_G _ _ _ _ (T12.setTop (mkF m 146 #[vr a1, vi (Int32.ofNat (15 + q)), vi (Int32.ofNat q), vi ((Int32.ofNat i) + (1 : Int32)), vi (cs.getD i 0)] []))
                rw [show ((Int32.ofNat i) + (1 : Int32)) = (Int32.ofNat (i + 1)) from own_add1 i (by omega)]
                refine own_go (fun _ Kk => XS.goto X12.here hx rfl (pc0 := 146) (pc' := 91) rfl (D 81 rfl) (by decide) (by decide) Kk) ?_
                show own_G _ _ _ _ (T12.setTop (mkF m 91 #[vr a1, vi (Int32.ofNat (15 + q)), vi (Int32.ofNat q), vi (Int32.ofNat (i + 1)), vi (cs.getD i 0)] []))
                exact ih (i + 1) _ (by omega) (fun j hj => by by_cases e : j = i; (subst e; exact (own_nt hc107_13 hc114_14 hc122_15 hc130_16 hc138_17)); exact hinv j (by omega)) (Or.inr ⟨_, rfl⟩) _ _ X12 e12 N12
          ·
           show own_G _ _ _ _ (T9.setTop (mkF m 91 #[vr a1, vi (Int32.ofNat (15 + q)), vi (Int32.ofNat q), vi (Int32.ofNat i), vi z9] []))
           refine own_go (fun _ Kk => XS.iloadN X9.here hx rfl (D 54 rfl) rfl (XS.iloadN X9.here hx rfl (D 55 rfl) rfl (XS.icmpNo X9.here hx rfl (D 56 rfl) rfl (tlt (own_onl (by omega) (by omega))).2.1 (XS.aloadN X9.here hx rfl (D 59 rfl) rfl rfl (XS.iloadN X9.here hx rfl (D 60 rfl) rfl Kk))))) ?_
           show own_G _ _ _ _ (T9.setTop (mkF m 98 #[vr a1, vi (Int32.ofNat (15 + q)), vi (Int32.ofNat q), vi (Int32.ofNat i), vi z9] [.int (Int32.ofNat i), .ref a1]))
           refine own_cV X9 hx hZ 0 hown (hw 86 rfl) (hw 87 rfl) (hw 89 rfl) (hw 88 rfl) (hw 90 rfl) (hw 12 rfl) (rm_cha hw a1 t cs i zc fm h0 n0 Z0 P0_ (by omega) SS) e9 E_ own_pd11 rfl (D 61 rfl) hml ?_
           rintro _ T18 _ _ X18 l18 ⟨rfl, N18q, e18⟩
           have N18 := own_frl l18 N9 N18q
           refine own_go (fun _ Kk => XS.istore X18.here hx rfl (D 62 rfl) rfl (l' := #[vr a1, vi (Int32.ofNat (15 + q)), vi (Int32.ofNat q), vi (Int32.ofNat i), vi (cs.getD i 0)]) rfl (XS.iload X18.here hx rfl (D 63 rfl) rfl (XS.bipush X18.here hx rfl (D 64 rfl) Kk))) ?_
           by_cases hc107_19 : (cs.getD i 0) = (10 : Int32)
           ·
            refine own_go (fun _ Kk => XS.icmpYes X18.here hx rfl (pc0 := 107) (pc' := 141) rfl (D 65 rfl) rfl (teq hc107_19).1 (by decide) (by decide) Kk) ?_
            show own_G _ _ _ _ (T18.setTop (mkF m 141 #[vr a1, vi (Int32.ofNat (15 + q)), vi (Int32.ofNat q), vi (Int32.ofNat i), vi (cs.getD i 0)] []))
            refine own_go (fun _ Kk => XS.iconst X18.here hx rfl (D 66 rfl) Kk) ?_
            exact own_rI X18 hx Bd (D 67 rfl) e18 ⟨(-1 : Int32), rfl, N18, rfl, (Or.inl ⟨rfl, own_ng hlen hm hmn (fun g => g.2.2.2.2.2.2.2 i (by omega) (Or.inl hc107_19))⟩)⟩
           ·
            refine own_go (fun _ Kk => XS.icmpNo X18.here hx rfl (D 65 rfl) rfl (feq hc107_19).1 Kk) ?_
            show own_G _ _ _ _ (T18.setTop (mkF m 110 #[vr a1, vi (Int32.ofNat (15 + q)), vi (Int32.ofNat q), vi (Int32.ofNat i), vi (cs.getD i 0)] []))
            refine own_go (fun _ Kk => XS.iload X18.here hx rfl (D 68 rfl) rfl (XS.bipush X18.here hx rfl (D 69 rfl) Kk)) ?_
            by_cases hc114_20 : (cs.getD i 0) = (13 : Int32)
            ·
             refine own_go (fun _ Kk => XS.icmpYes X18.here hx rfl (pc0 := 114) (pc' := 141) rfl (D 70 rfl) rfl (teq hc114_20).1 (by decide) (by decide) Kk) ?_
             show own_G _ _ _ _ (T18.setTop (mkF m 141 #[vr a1, vi (Int32.ofNat (15 + q)), vi (Int32.ofNat q), vi (Int32.ofNat i), vi (cs.getD i 0)] []))
             refine own_go (fun _ Kk => XS.iconst X18.here hx rfl (D 66 rfl) Kk) ?_
             exact own_rI X18 hx Bd (D 67 rfl) e18 ⟨(-1 : Int32), rfl, N18, rfl, (Or.inl ⟨rfl, own_ng hlen hm hmn (fun g => g.2.2.2.2.2.2.2 i (by omega) (Or.inr (Or.inl hc114_20)))⟩)⟩
            ·
             refine own_go (fun _ Kk => XS.icmpNo X18.here hx rfl (D 70 rfl) rfl (feq hc114_20).1 Kk) ?_
             show own_G _ _ _ _ (T18.setTop (mkF m 117 #[vr a1, vi (Int32.ofNat (15 + q)), vi (Int32.ofNat q), vi (Int32.ofNat i), vi (cs.getD i 0)] []))
             refine own_go (fun _ Kk => XS.iload X18.here hx rfl (D 71 rfl) rfl (XS.sipush X18.here hx rfl (D 72 rfl) Kk)) ?_
             by_cases hc122_21 : (cs.getD i 0) = (133 : Int32)
             ·
              refine own_go (fun _ Kk => XS.icmpYes X18.here hx rfl (pc0 := 122) (pc' := 141) rfl (D 73 rfl) rfl (teq hc122_21).1 (by decide) (by decide) Kk) ?_
              show own_G _ _ _ _ (T18.setTop (mkF m 141 #[vr a1, vi (Int32.ofNat (15 + q)), vi (Int32.ofNat q), vi (Int32.ofNat i), vi (cs.getD i 0)] []))
              refine own_go (fun _ Kk => XS.iconst X18.here hx rfl (D 66 rfl) Kk) ?_
              exact own_rI X18 hx Bd (D 67 rfl) e18 ⟨(-1 : Int32), rfl, N18, rfl, (Or.inl ⟨rfl, own_ng hlen hm hmn (fun g => g.2.2.2.2.2.2.2 i (by omega) (Or.inr (Or.inr (Or.inl hc122_21))))⟩)⟩
             ·
              refine own_go (fun _ Kk => XS.icmpNo X18.here hx rfl (D 73 rfl) rfl (feq hc122_21).1 Kk) ?_
              show own_G _ _ _ _ (T18.setTop (mkF m 125 #[vr a1, vi (Int32.ofNat (15 + q)), vi (Int32.ofNat q), vi (Int32.ofNat i), vi (cs.getD i 0)] []))
              refine own_go (fun _ Kk => XS.iload X18.here hx rfl (D 74 rfl) rfl (XS.sipush X18.here hx rfl (D 75 rfl) Kk)) ?_
              by_cases hc130_22 : (cs.getD i 0) = (8232 : Int32)
              ·
               refine own_go (fun _ Kk => XS.icmpYes X18.here hx rfl (pc0 := 130) (pc' := 141) rfl (D 76 rfl) rfl (teq hc130_22).1 (by decide) (by decide) Kk) ?_
               show own_G _ _ _ _ (T18.setTop (mkF m 141 #[vr a1, vi (Int32.ofNat (15 + q)), vi (Int32.ofNat q), vi (Int32.ofNat i), vi (cs.getD i 0)] []))
               refine own_go (fun _ Kk => XS.iconst X18.here hx rfl (D 66 rfl) Kk) ?_
               exact own_rI X18 hx Bd (D 67 rfl) e18 ⟨(-1 : Int32), rfl, N18, rfl, (Or.inl ⟨rfl, own_ng hlen hm hmn (fun g => g.2.2.2.2.2.2.2 i (by omega) (Or.inr (Or.inr (Or.inr (Or.inl hc130_22)))))⟩)⟩
              ·
               refine own_go (fun _ Kk => XS.icmpNo X18.here hx rfl (D 76 rfl) rfl (feq hc130_22).1 Kk) ?_
               show own_G _ _ _ _ (T18.setTop (mkF m 133 #[vr a1, vi (Int32.ofNat (15 + q)), vi (Int32.ofNat q), vi (Int32.ofNat i), vi (cs.getD i 0)] []))
               refine own_go (fun _ Kk => XS.iload X18.here hx rfl (D 77 rfl) rfl (XS.sipush X18.here hx rfl (D 78 rfl) Kk)) ?_
               by_cases hc138_23 : (cs.getD i 0) = (8233 : Int32)
               ·
                refine own_go (fun _ Kk => XS.icmpNo X18.here hx rfl (D 79 rfl) rfl (teq hc138_23).2 Kk) ?_
                show own_G _ _ _ _ (T18.setTop (mkF m 141 #[vr a1, vi (Int32.ofNat (15 + q)), vi (Int32.ofNat q), vi (Int32.ofNat i), vi (cs.getD i 0)] []))
                refine own_go (fun _ Kk => XS.iconst X18.here hx rfl (D 66 rfl) Kk) ?_
                exact own_rI X18 hx Bd (D 67 rfl) e18 ⟨(-1 : Int32), rfl, N18, rfl, (Or.inl ⟨rfl, own_ng hlen hm hmn (fun g => g.2.2.2.2.2.2.2 i (by omega) (Or.inr (Or.inr (Or.inr (Or.inr hc138_23)))))⟩)⟩
               ·
                refine own_go (fun _ Kk => XS.icmpYes X18.here hx rfl (pc0 := 138) (pc' := 143) rfl (D 79 rfl) rfl (feq hc138_23).2 (by decide) (by decide) Kk) ?_
                show own_G _ _ _ _ (T18.setTop (mkF m 143 #[vr a1, vi (Int32.ofNat (15 + q)), vi (Int32.ofNat q), vi (Int32.ofNat i), vi (cs.getD i 0)] []))
                refine own_go (fun _ Kk => XS.iinc X18.here hx rfl (D 80 rfl) rfl (l' := #[vr a1, vi (Int32.ofNat (15 + q)), vi (Int32.ofNat q), vi ((Int32.ofNat i) + (1 : Int32)), vi (cs.getD i 0)]) rfl Kk) ?_
                show own_G _ _ _ _ (T18.setTop (mkF m 146 #[vr a1, vi (Int32.ofNat (15 + q)), vi (Int32.ofNat q), vi ((Int32.ofNat i) + (1 : Int32)), vi (cs.getD i 0)] []))
                rw [show ((Int32.ofNat i) + (1 : Int32)) = (Int32.ofNat (i + 1)) from own_add1 i (by omega)]
                refine own_go (fun _ Kk => XS.goto X18.here hx rfl (pc0 := 146) (pc' := 91) rfl (D 81 rfl) (by decide) (by decide) Kk) ?_
                show own_G _ _ _ _ (T18.setTop (mkF m 91 #[vr a1, vi (Int32.ofNat (15 + q)), vi (Int32.ofNat q), vi (Int32.ofNat (i + 1)), vi (cs.getD i 0)] []))
                exact ih (i + 1) _ (by omega) (fun j hj => by by_cases e : j = i; (subst e; exact (own_nt hc107_19 hc114_20 hc122_21 hc130_22 hc138_23)); exact hinv j (by omega)) (Or.inr ⟨_, rfl⟩) _ _ X18 e18 N18
        exact lp11 q 0 _ (by omega) (fun j h => absurd h (by omega)) (Or.inl rfl) _ _ X9 e9 N9
       ·
        have hpd := hc84_10
        refine own_go (fun _ Kk => XS.icmpNo X9.here hx rfl (D 51 rfl) rfl (feq hc84_10).1 Kk) ?_
        show own_G _ _ _ _ (T9.setTop (mkF m 87 #[vr a1, vi (Int32.ofNat (15 + q)), vi (Int32.ofNat q), vu, vu] []))
        refine own_go (fun _ Kk => XS.iconst X9.here hx rfl (D 82 rfl) Kk) ?_
        exact own_rI X9 hx Bd (D 83 rfl) e9 ⟨(-1 : Int32), rfl, N9, rfl, (Or.inl ⟨rfl, own_ng hlen hm hmn (fun g => hpd (g.2.2.2.2.2.2.1 hq0))⟩)⟩
      ·
       have hq0 : ¬ 0 < q := mt (own_ltn (a := 0) (by omega) (by omega)).mpr hc72_8
       have hpre : 0 < q → cs.getD (q - 1) 0 = 45 := fun h => absurd h hq0
       refine own_go (fun _ Kk => XS.ifYes X7.here hx rfl (pc0 := 72) (pc' := 89) rfl (D 44 rfl) rfl ((if0 _ _).trans (flt hc72_8).2.2.2) (by decide) (by decide) Kk) ?_
       show own_G _ _ _ _ (T7.setTop (mkF m 89 #[vr a1, vi (Int32.ofNat (15 + q)), vi (Int32.ofNat q), vu, vu] []))
       refine own_go (fun _ Kk => XS.iconst X7.here hx rfl (D 52 rfl) (XS.istoreN X7.here hx rfl (D 53 rfl) rfl (l' := #[vr a1, vi (Int32.ofNat (15 + q)), vi (Int32.ofNat q), vi 0, vu]) rfl Kk)) ?_
       show own_G _ _ _ _ (T7.setTop (mkF m 91 #[vr a1, vi (Int32.ofNat (15 + q)), vi (Int32.ofNat q), vi 0, vu] []))
       have lp24 : ∀ (k : Nat) (i : Nat) (w9 : Slot) (hik : i + k = q) (hinv : ∀ j, j < i → ¬ own_term (cs.getD j 0)) (hw9 : w9 = .unset ∨ ∃ z : Int32, w9 = .val (.int z)) (T9 : State) (L9 : List Loc), Stand p l e (own_R 6 0 0 81) s m #[(.ref a1)] below meth c T9 L9 0 0 → T9.heap = h0 → Fr n0 L9 → own_G p e below (own_K (Q_tsat Z a1 t cs zc fm h0 n0) 0 0 s) (T9.setTop (mkF m 91 #[vr a1, vi (Int32.ofNat (15 + q)), vi (Int32.ofNat q), vi (Int32.ofNat i), w9] [])) := by
        intro k
        induction k with
        | zero =>
         intro i w9 hik hinv hw9 T9 L9 X9 e9 N9
         show own_G _ _ _ _ (T9.setTop (mkF m 91 #[vr a1, vi (Int32.ofNat (15 + q)), vi (Int32.ofNat q), vi (Int32.ofNat i), w9] []))
         show own_G _ _ _ _ (T9.setTop (mkF m 91 #[vr a1, vi (Int32.ofNat (15 + q)), vi (Int32.ofNat q), vi (Int32.ofNat i), w9] []))
         refine own_go (fun _ Kk => XS.iloadN X9.here hx rfl (D 54 rfl) rfl (XS.iloadN X9.here hx rfl (D 55 rfl) rfl (XS.icmpYes X9.here hx rfl (pc0 := 93) (pc' := 149) rfl (D 56 rfl) rfl (flt (fun q => absurd ((own_ltn (by omega) (by omega)).mp q) (by omega))).2.1 (by decide) (by decide) (XS.iloadN X9.here hx rfl (D 57 rfl) rfl Kk)))) ?_
         exact own_rI X9 hx Bd (D 58 rfl) e9 ⟨(Int32.ofNat q), rfl, N9, rfl, (Or.inr ⟨q, rfl, hmn, hm, hd1, hd2, hdot, hd3, hpre, fun j hj => hinv j (by omega)⟩)⟩
        | succ k ih =>
         intro i w9 hik hinv hw9 T9 L9 X9 e9 N9
         show own_G _ _ _ _ (T9.setTop (mkF m 91 #[vr a1, vi (Int32.ofNat (15 + q)), vi (Int32.ofNat q), vi (Int32.ofNat i), w9] []))
         rcases hw9 with rfl | ⟨z9, rfl⟩
         ·
          show own_G _ _ _ _ (T9.setTop (mkF m 91 #[vr a1, vi (Int32.ofNat (15 + q)), vi (Int32.ofNat q), vi (Int32.ofNat i), vu] []))
          refine own_go (fun _ Kk => XS.iloadN X9.here hx rfl (D 54 rfl) rfl (XS.iloadN X9.here hx rfl (D 55 rfl) rfl (XS.icmpNo X9.here hx rfl (D 56 rfl) rfl (tlt (own_onl (by omega) (by omega))).2.1 (XS.aloadN X9.here hx rfl (D 59 rfl) rfl rfl (XS.iloadN X9.here hx rfl (D 60 rfl) rfl Kk))))) ?_
          show own_G _ _ _ _ (T9.setTop (mkF m 98 #[vr a1, vi (Int32.ofNat (15 + q)), vi (Int32.ofNat q), vi (Int32.ofNat i), vu] [.int (Int32.ofNat i), .ref a1]))
          refine own_cV X9 hx hZ 0 hown (hw 86 rfl) (hw 87 rfl) (hw 89 rfl) (hw 88 rfl) (hw 90 rfl) (hw 12 rfl) (rm_cha hw a1 t cs i zc fm h0 n0 Z0 P0_ (by omega) SS) e9 E_ own_pd11 rfl (D 61 rfl) hml ?_
          rintro _ T25 _ _ X25 l25 ⟨rfl, N25q, e25⟩
          have N25 := own_frl l25 N9 N25q
          refine own_go (fun _ Kk => XS.istore X25.here hx rfl (D 62 rfl) rfl (l' := #[vr a1, vi (Int32.ofNat (15 + q)), vi (Int32.ofNat q), vi (Int32.ofNat i), vi (cs.getD i 0)]) rfl (XS.iload X25.here hx rfl (D 63 rfl) rfl (XS.bipush X25.here hx rfl (D 64 rfl) Kk))) ?_
          by_cases hc107_26 : (cs.getD i 0) = (10 : Int32)
          ·
           refine own_go (fun _ Kk => XS.icmpYes X25.here hx rfl (pc0 := 107) (pc' := 141) rfl (D 65 rfl) rfl (teq hc107_26).1 (by decide) (by decide) Kk) ?_
           show own_G _ _ _ _ (T25.setTop (mkF m 141 #[vr a1, vi (Int32.ofNat (15 + q)), vi (Int32.ofNat q), vi (Int32.ofNat i), vi (cs.getD i 0)] []))
           refine own_go (fun _ Kk => XS.iconst X25.here hx rfl (D 66 rfl) Kk) ?_
           exact own_rI X25 hx Bd (D 67 rfl) e25 ⟨(-1 : Int32), rfl, N25, rfl, (Or.inl ⟨rfl, own_ng hlen hm hmn (fun g => g.2.2.2.2.2.2.2 i (by omega) (Or.inl hc107_26))⟩)⟩
          ·
           refine own_go (fun _ Kk => XS.icmpNo X25.here hx rfl (D 65 rfl) rfl (feq hc107_26).1 Kk) ?_
           show own_G _ _ _ _ (T25.setTop (mkF m 110 #[vr a1, vi (Int32.ofNat (15 + q)), vi (Int32.ofNat q), vi (Int32.ofNat i), vi (cs.getD i 0)] []))
           refine own_go (fun _ Kk => XS.iload X25.here hx rfl (D 68 rfl) rfl (XS.bipush X25.here hx rfl (D 69 rfl) Kk)) ?_
           by_cases hc114_27 : (cs.getD i 0) = (13 : Int32)
           ·
            refine own_go (fun _ Kk => XS.icmpYes X25.here hx rfl (pc0 := 114) (pc' := 141) rfl (D 70 rfl) rfl (teq hc114_27).1 (by decide) (by decide) Kk) ?_
            show own_G _ _ _ _ (T25.setTop (mkF m 141 #[vr a1, vi (Int32.ofNat (15 + q)), vi (Int32.ofNat q), vi (Int32.ofNat i), vi (cs.getD i 0)] []))
            refine own_go (fun _ Kk => XS.iconst X25.here hx rfl (D 66 rfl) Kk) ?_
            exact own_rI X25 hx Bd (D 67 rfl) e25 ⟨(-1 : Int32), rfl, N25, rfl, (Or.inl ⟨rfl, own_ng hlen hm hmn (fun g => g.2.2.2.2.2.2.2 i (by omega) (Or.inr (Or.inl hc114_27)))⟩)⟩
           ·
            refine own_go (fun _ Kk => XS.icmpNo X25.here hx rfl (D 70 rfl) rfl (feq hc114_27).1 Kk) ?_
            show own_G _ _ _ _ (T25.setTop (mkF m 117 #[vr a1, vi (Int32.ofNat (15 + q)), vi (Int32.ofNat q), vi (Int32.ofNat i), vi (cs.getD i 0)] []))
            refine own_go (fun _ Kk => XS.iload X25.here hx rfl (D 71 rfl) rfl (XS.sipush X25.here hx rfl (D 72 rfl) Kk)) ?_
            by_cases hc122_28 : (cs.getD i 0) = (133 : Int32)
            ·
             refine own_go (fun _ Kk => XS.icmpYes X25.here hx rfl (pc0 := 122) (pc' := 141) rfl (D 73 rfl) rfl (teq hc122_28).1 (by decide) (by decide) Kk) ?_
             show own_G _ _ _ _ (T25.setTop (mkF m 141 #[vr a1, vi (Int32.ofNat (15 + q)), vi (Int32.ofNat q), vi (Int32.ofNat i), vi (cs.getD i 0)] []))
             refine own_go (fun _ Kk => XS.iconst X25.here hx rfl (D 66 rfl) Kk) ?_
             exact own_rI X25 hx Bd (D 67 rfl) e25 ⟨(-1 : Int32), rfl, N25, rfl, (Or.inl ⟨rfl, own_ng hlen hm hmn (fun g => g.2.2.2.2.2.2.2 i (by omega) (Or.inr (Or.inr (Or.inl hc122_28))))⟩)⟩
            ·
             refine own_go (fun _ Kk => XS.icmpNo X25.here hx rfl (D 73 rfl) rfl (feq hc122_28).1 Kk) ?_
             show own_G _ _ _ _ (T25.setTop (mkF m 125 #[vr a1, vi (Int32.ofNat (15 + q)), vi (Int32.ofNat q), vi (Int32.ofNat i), vi (cs.getD i 0)] []))
             refine own_go (fun _ Kk => XS.iload X25.here hx rfl (D 74 rfl) rfl (XS.sipush X25.here hx rfl (D 75 rfl) Kk)) ?_
             by_cases hc130_29 : (cs.getD i 0) = (8232 : Int32)
             ·
              refine own_go (fun _ Kk => XS.icmpYes X25.here hx rfl (pc0 := 130) (pc' := 141) rfl (D 76 rfl) rfl (teq hc130_29).1 (by decide) (by decide) Kk) ?_
              show own_G _ _ _ _ (T25.setTop (mkF m 141 #[vr a1, vi (Int32.ofNat (15 + q)), vi (Int32.ofNat q), vi (Int32.ofNat i), vi (cs.getD i 0)] []))
              refine own_go (fun _ Kk => XS.iconst X25.here hx rfl (D 66 rfl) Kk) ?_
              exact own_rI X25 hx Bd (D 67 rfl) e25 ⟨(-1 : Int32), rfl, N25, rfl, (Or.inl ⟨rfl, own_ng hlen hm hmn (fun g => g.2.2.2.2.2.2.2 i (by omega) (Or.inr (Or.inr (Or.inr (Or.inl hc130_29)))))⟩)⟩
             ·
              refine own_go (fun _ Kk => XS.icmpNo X25.here hx rfl (D 76 rfl) rfl (feq hc130_29).1 Kk) ?_
              show own_G _ _ _ _ (T25.setTop (mkF m 133 #[vr a1, vi (Int32.ofNat (15 + q)), vi (Int32.ofNat q), vi (Int32.ofNat i), vi (cs.getD i 0)] []))
              refine own_go (fun _ Kk => XS.iload X25.here hx rfl (D 77 rfl) rfl (XS.sipush X25.here hx rfl (D 78 rfl) Kk)) ?_
              by_cases hc138_30 : (cs.getD i 0) = (8233 : Int32)
              ·
               refine own_go (fun _ Kk => XS.icmpNo X25.here hx rfl (D 79 rfl) rfl (teq hc138_30).2 Kk) ?_
               show own_G _ _ _ _ (T25.setTop (mkF m 141 #[vr a1, vi (Int32.ofNat (15 + q)), vi (Int32.ofNat q), vi (Int32.ofNat i), vi (cs.getD i 0)] []))
               refine own_go (fun _ Kk => XS.iconst X25.here hx rfl (D 66 rfl) Kk) ?_
               exact own_rI X25 hx Bd (D 67 rfl) e25 ⟨(-1 : Int32), rfl, N25, rfl, (Or.inl ⟨rfl, own_ng hlen hm hmn (fun g => g.2.2.2.2.2.2.2 i (by omega) (Or.inr (Or.inr (Or.inr (Or.inr hc138_30)))))⟩)⟩
              ·
               refine own_go (fun _ Kk => XS.icmpYes X25.here hx rfl (pc0 := 138) (pc' := 143) rfl (D 79 rfl) rfl (feq hc138_30).2 (by decide) (by decide) Kk) ?_
               show own_G _ _ _ _ (T25.setTop (mkF m 143 #[vr a1, vi (Int32.ofNat (15 + q)), vi (Int32.ofNat q), vi (Int32.ofNat i), vi (cs.getD i 0)] []))
               refine own_go (fun _ Kk => XS.iinc X25.here hx rfl (D 80 rfl) rfl (l' := #[vr a1, vi (Int32.ofNat (15 + q)), vi (Int32.ofNat q), vi ((Int32.ofNat i) + (1 : Int32)), vi (cs.getD i 0)]) rfl Kk) ?_
               show own_G _ _ _ _ (T25.setTop (mkF m 146 #[vr a1, vi (Int32.ofNat (15 + q)), vi (Int32.ofNat q), vi ((Int32.ofNat i) + (1 : Int32)), vi (cs.getD i 0)] []))
               rw [show ((Int32.ofNat i) + (1 : Int32)) = (Int32.ofNat (i + 1)) from own_add1 i (by omega)]
               refine own_go (fun _ Kk => XS.goto X25.here hx rfl (pc0 := 146) (pc' := 91) rfl (D 81 rfl) (by decide) (by decide) Kk) ?_
               show own_G _ _ _ _ (T25.setTop (mkF m 91 #[vr a1, vi (Int32.ofNat (15 + q)), vi (Int32.ofNat q), vi (Int32.ofNat (i + 1)), vi (cs.getD i 0)] []))
               exact ih (i + 1) _ (by omega) (fun j hj => by by_cases e : j = i; (subst e; exact (own_nt hc107_26 hc114_27 hc122_28 hc130_29 hc138_30)); exact hinv j (by omega)) (Or.inr ⟨_, rfl⟩) _ _ X25 e25 N25
         ·
          show own_G _ _ _ _ (T9.setTop (mkF m 91 #[vr a1, vi (Int32.ofNat (15 + q)), vi (Int32.ofNat q), vi (Int32.ofNat i), vi z9] []))
          refine own_go (fun _ Kk => XS.iloadN X9.here hx rfl (D 54 rfl) rfl (XS.iloadN X9.here hx rfl (D 55 rfl) rfl (XS.icmpNo X9.here hx rfl (D 56 rfl) rfl (tlt (own_onl (by omega) (by omega))).2.1 (XS.aloadN X9.here hx rfl (D 59 rfl) rfl rfl (XS.iloadN X9.here hx rfl (D 60 rfl) rfl Kk))))) ?_
          show own_G _ _ _ _ (T9.setTop (mkF m 98 #[vr a1, vi (Int32.ofNat (15 + q)), vi (Int32.ofNat q), vi (Int32.ofNat i), vi z9] [.int (Int32.ofNat i), .ref a1]))
          refine own_cV X9 hx hZ 0 hown (hw 86 rfl) (hw 87 rfl) (hw 89 rfl) (hw 88 rfl) (hw 90 rfl) (hw 12 rfl) (rm_cha hw a1 t cs i zc fm h0 n0 Z0 P0_ (by omega) SS) e9 E_ own_pd11 rfl (D 61 rfl) hml ?_
          rintro _ T31 _ _ X31 l31 ⟨rfl, N31q, e31⟩
          have N31 := own_frl l31 N9 N31q
          refine own_go (fun _ Kk => XS.istore X31.here hx rfl (D 62 rfl) rfl (l' := #[vr a1, vi (Int32.ofNat (15 + q)), vi (Int32.ofNat q), vi (Int32.ofNat i), vi (cs.getD i 0)]) rfl (XS.iload X31.here hx rfl (D 63 rfl) rfl (XS.bipush X31.here hx rfl (D 64 rfl) Kk))) ?_
          by_cases hc107_32 : (cs.getD i 0) = (10 : Int32)
          ·
           refine own_go (fun _ Kk => XS.icmpYes X31.here hx rfl (pc0 := 107) (pc' := 141) rfl (D 65 rfl) rfl (teq hc107_32).1 (by decide) (by decide) Kk) ?_
           show own_G _ _ _ _ (T31.setTop (mkF m 141 #[vr a1, vi (Int32.ofNat (15 + q)), vi (Int32.ofNat q), vi (Int32.ofNat i), vi (cs.getD i 0)] []))
           refine own_go (fun _ Kk => XS.iconst X31.here hx rfl (D 66 rfl) Kk) ?_
           exact own_rI X31 hx Bd (D 67 rfl) e31 ⟨(-1 : Int32), rfl, N31, rfl, (Or.inl ⟨rfl, own_ng hlen hm hmn (fun g => g.2.2.2.2.2.2.2 i (by omega) (Or.inl hc107_32))⟩)⟩
          ·
           refine own_go (fun _ Kk => XS.icmpNo X31.here hx rfl (D 65 rfl) rfl (feq hc107_32).1 Kk) ?_
           show own_G _ _ _ _ (T31.setTop (mkF m 110 #[vr a1, vi (Int32.ofNat (15 + q)), vi (Int32.ofNat q), vi (Int32.ofNat i), vi (cs.getD i 0)] []))
           refine own_go (fun _ Kk => XS.iload X31.here hx rfl (D 68 rfl) rfl (XS.bipush X31.here hx rfl (D 69 rfl) Kk)) ?_
           by_cases hc114_33 : (cs.getD i 0) = (13 : Int32)
           ·
            refine own_go (fun _ Kk => XS.icmpYes X31.here hx rfl (pc0 := 114) (pc' := 141) rfl (D 70 rfl) rfl (teq hc114_33).1 (by decide) (by decide) Kk) ?_
            show own_G _ _ _ _ (T31.setTop (mkF m 141 #[vr a1, vi (Int32.ofNat (15 + q)), vi (Int32.ofNat q), vi (Int32.ofNat i), vi (cs.getD i 0)] []))
            refine own_go (fun _ Kk => XS.iconst X31.here hx rfl (D 66 rfl) Kk) ?_
            exact own_rI X31 hx Bd (D 67 rfl) e31 ⟨(-1 : Int32), rfl, N31, rfl, (Or.inl ⟨rfl, own_ng hlen hm hmn (fun g => g.2.2.2.2.2.2.2 i (by omega) (Or.inr (Or.inl hc114_33)))⟩)⟩
           ·
            refine own_go (fun _ Kk => XS.icmpNo X31.here hx rfl (D 70 rfl) rfl (feq hc114_33).1 Kk) ?_
            show own_G _ _ _ _ (T31.setTop (mkF m 117 #[vr a1, vi (Int32.ofNat (15 + q)), vi (Int32.ofNat q), vi (Int32.ofNat i), vi (cs.getD i 0)] []))
            refine own_go (fun _ Kk => XS.iload X31.here hx rfl (D 71 rfl) rfl (XS.sipush X31.here hx rfl (D 72 rfl) Kk)) ?_
            by_cases hc122_34 : (cs.getD i 0) = (133 : Int32)
            ·
             refine own_go (fun _ Kk => XS.icmpYes X31.here hx rfl (pc0 := 122) (pc' := 141) rfl (D 73 rfl) rfl (teq hc122_34).1 (by decide) (by decide) Kk) ?_
             show own_G _ _ _ _ (T31.setTop (mkF m 141 #[vr a1, vi (Int32.ofNat (15 + q)), vi (Int32.ofNat q), vi (Int32.ofNat i), vi (cs.getD i 0)] []))
             refine own_go (fun _ Kk => XS.iconst X31.here hx rfl (D 66 rfl) Kk) ?_
             exact own_rI X31 hx Bd (D 67 rfl) e31 ⟨(-1 : Int32), rfl, N31, rfl, (Or.inl ⟨rfl, own_ng hlen hm hmn (fun g => g.2.2.2.2.2.2.2 i (by omega) (Or.inr (Or.inr (Or.inl hc122_34))))⟩)⟩
            ·
             refine own_go (fun _ Kk => XS.icmpNo X31.here hx rfl (D 73 rfl) rfl (feq hc122_34).1 Kk) ?_
             show own_G _ _ _ _ (T31.setTop (mkF m 125 #[vr a1, vi (Int32.ofNat (15 + q)), vi (Int32.ofNat q), vi (Int32.ofNat i), vi (cs.getD i 0)] []))
             refine own_go (fun _ Kk => XS.iload X31.here hx rfl (D 74 rfl) rfl (XS.sipush X31.here hx rfl (D 75 rfl) Kk)) ?_
             by_cases hc130_35 : (cs.getD i 0) = (8232 : Int32)
             ·
              refine own_go (fun _ Kk => XS.icmpYes X31.here hx rfl (pc0 := 130) (pc' := 141) rfl (D 76 rfl) rfl (teq hc130_35).1 (by decide) (by decide) Kk) ?_
              show own_G _ _ _ _ (T31.setTop (mkF m 141 #[vr a1, vi (Int32.ofNat (15 + q)), vi (Int32.ofNat q), vi (Int32.ofNat i), vi (cs.getD i 0)] []))
              refine own_go (fun _ Kk => XS.iconst X31.here hx rfl (D 66 rfl) Kk) ?_
              exact own_rI X31 hx Bd (D 67 rfl) e31 ⟨(-1 : Int32), rfl, N31, rfl, (Or.inl ⟨rfl, own_ng hlen hm hmn (fun g => g.2.2.2.2.2.2.2 i (by omega) (Or.inr (Or.inr (Or.inr (Or.inl hc130_35)))))⟩)⟩
             ·
              refine own_go (fun _ Kk => XS.icmpNo X31.here hx rfl (D 76 rfl) rfl (feq hc130_35).1 Kk) ?_
              show own_G _ _ _ _ (T31.setTop (mkF m 133 #[vr a1, vi (Int32.ofNat (15 + q)), vi (Int32.ofNat q), vi (Int32.ofNat i), vi (cs.getD i 0)] []))
              refine own_go (fun _ Kk => XS.iload X31.here hx rfl (D 77 rfl) rfl (XS.sipush X31.here hx rfl (D 78 rfl) Kk)) ?_
              by_cases hc138_36 : (cs.getD i 0) = (8233 : Int32)
              ·
               refine own_go (fun _ Kk => XS.icmpNo X31.here hx rfl (D 79 rfl) rfl (teq hc138_36).2 Kk) ?_
               show own_G _ _ _ _ (T31.setTop (mkF m 141 #[vr a1, vi (Int32.ofNat (15 + q)), vi (Int32.ofNat q), vi (Int32.ofNat i), vi (cs.getD i 0)] []))
               refine own_go (fun _ Kk => XS.iconst X31.here hx rfl (D 66 rfl) Kk) ?_
               exact own_rI X31 hx Bd (D 67 rfl) e31 ⟨(-1 : Int32), rfl, N31, rfl, (Or.inl ⟨rfl, own_ng hlen hm hmn (fun g => g.2.2.2.2.2.2.2 i (by omega) (Or.inr (Or.inr (Or.inr (Or.inr hc138_36)))))⟩)⟩
              ·
               refine own_go (fun _ Kk => XS.icmpYes X31.here hx rfl (pc0 := 138) (pc' := 143) rfl (D 79 rfl) rfl (feq hc138_36).2 (by decide) (by decide) Kk) ?_
               show own_G _ _ _ _ (T31.setTop (mkF m 143 #[vr a1, vi (Int32.ofNat (15 + q)), vi (Int32.ofNat q), vi (Int32.ofNat i), vi (cs.getD i 0)] []))
               refine own_go (fun _ Kk => XS.iinc X31.here hx rfl (D 80 rfl) rfl (l' := #[vr a1, vi (Int32.ofNat (15 + q)), vi (Int32.ofNat q), vi ((Int32.ofNat i) + (1 : Int32)), vi (cs.getD i 0)]) rfl Kk) ?_
               show own_G _ _ _ _ (T31.setTop (mkF m 146 #[vr a1, vi (Int32.ofNat (15 + q)), vi (Int32.ofNat q), vi ((Int32.ofNat i) + (1 : Int32)), vi (cs.getD i 0)] []))
               rw [show ((Int32.ofNat i) + (1 : Int32)) = (Int32.ofNat (i + 1)) from own_add1 i (by omega)]
               refine own_go (fun _ Kk => XS.goto X31.here hx rfl (pc0 := 146) (pc' := 91) rfl (D 81 rfl) (by decide) (by decide) Kk) ?_
               show own_G _ _ _ _ (T31.setTop (mkF m 91 #[vr a1, vi (Int32.ofNat (15 + q)), vi (Int32.ofNat q), vi (Int32.ofNat (i + 1)), vi (cs.getD i 0)] []))
               exact ih (i + 1) _ (by omega) (fun j hj => by by_cases e : j = i; (subst e; exact (own_nt hc107_32 hc114_33 hc122_34 hc130_35 hc138_36)); exact hinv j (by omega)) (Or.inr ⟨_, rfl⟩) _ _ X31 e31 N31
       exact lp24 q 0 _ (by omega) (fun j h => absurd h (by omega)) (Or.inl rfl) _ _ X7 e7 N7
     ·
      show own_G _ _ _ _ (T7.setTop (mkF m 66 #[vr a1, vi (Int32.ofNat (15 + q)), vi (Int32.ofNat q), vu, vu] [.int 0]))
      refine own_go (fun _ Kk => XS.ifNo X7.here hx rfl (D 42 rfl) rfl ((if0 _ _).trans (by decide)) (XS.iconst X7.here hx rfl (D 10 rfl) Kk)) ?_
      exact own_rI X7 hx Bd (D 11 rfl) e7 ⟨(-1 : Int32), rfl, N7, rfl, (Or.inl ⟨rfl, own_ng hlen hm hmn (fun g => hd3 (g.2.2.2.2.2.1))⟩)⟩
    ·
     have hdot := hc52_6
     refine own_go (fun _ Kk => XS.icmpYes X5.here hx rfl (pc0 := 52) (pc' := 69) rfl (D 33 rfl) rfl (feq hc52_6).2 (by decide) (by decide) Kk) ?_
     show own_G _ _ _ _ (T5.setTop (mkF m 69 #[vr a1, vi (Int32.ofNat (15 + q)), vi (Int32.ofNat q), vu, vu] []))
     refine own_go (fun _ Kk => XS.iconst X5.here hx rfl (D 10 rfl) Kk) ?_
     exact own_rI X5 hx Bd (D 11 rfl) e5 ⟨(-1 : Int32), rfl, N5, rfl, (Or.inl ⟨rfl, own_ng hlen hm hmn (fun g => hdot (g.2.2.2.2.1))⟩)⟩
   ·
    show own_G _ _ _ _ (T4.setTop (mkF m 39 #[vr a1, vi (Int32.ofNat (15 + q)), vi (Int32.ofNat q), vu, vu] [.int 0]))
    refine own_go (fun _ Kk => XS.ifYes X4.here hx rfl (pc0 := 39) (pc' := 69) rfl (D 26 rfl) rfl ((if0 _ _).trans (by decide)) (by decide) (by decide) (XS.iconst X4.here hx rfl (D 10 rfl) Kk)) ?_
    exact own_rI X4 hx Bd (D 11 rfl) e4 ⟨(-1 : Int32), rfl, N4, rfl, (Or.inl ⟨rfl, own_ng hlen hm hmn (fun g => hd2 (g.2.2.2.1))⟩)⟩
  ·
   show own_G _ _ _ _ (T3.setTop (mkF m 27 #[vr a1, vi (Int32.ofNat (15 + q)), vi (Int32.ofNat q), vu, vu] [.int 0]))
   refine own_go (fun _ Kk => XS.ifYes X3.here hx rfl (pc0 := 27) (pc' := 69) rfl (D 19 rfl) rfl ((if0 _ _).trans (by decide)) (by decide) (by decide) (XS.iconst X3.here hx rfl (D 10 rfl) Kk)) ?_
   exact own_rI X3 hx Bd (D 11 rfl) e3 ⟨(-1 : Int32), rfl, N3, rfl, (Or.inl ⟨rfl, own_ng hlen hm hmn (fun g => hd1 (g.2.2.1))⟩)⟩
end Jvm.Pilot.@@N@@
namespace Jvm.Pilot.@@N@@
open Jvm Jvm.ClassFile Sem Op Lib Jvm.Free Jvm.Stand Jvm.LawKit Jvm.RoadKit Bundle Jvm.Pilot.@@N@@.Jvm.D
set_option maxRecDepth 65536
set_option maxHeartbeats 40000000
variable {l : Launch} {Z : State} {a0 : Array Value}

def own_cmp (cs : List Int32) (z : Int32) (vs : List Value) : Prop := (z = Int32.ofNat cs.length ∧ (∀ c ∈ cs, ¬ (255 : Int32) < c) ∧ vs = cs.map fun c => Value.int (StrChars.lo8 c)) ∨ ∃ j, j < cs.length ∧ z = Int32.ofNat j ∧ 255 < cs.getD j 0
theorem own_cg {cs : List Int32} {i : Nat} (h : i < cs.length) (d : Value) : (cs.map Value.int).getD i d = .int (cs.getD i 0) := by simp [List.getD_eq_getElem?_getD, h]
theorem own_tk {cs : List Int32} {i : Nat} (h : i < cs.length) (f : Int32 → Value) : (cs.take (i + 1)).map f = (cs.take i).map f ++ [f (cs.getD i 0)] := by
  rw [List.take_add_one, List.map_append]; congr 1; simp [List.getD_eq_getElem?_getD, h]
theorem own_wtk {cs : List Int32} {i : Nat} (h : i < cs.length) : StrChars.Road.wideBytes (cs.take (i + 1)) = StrChars.Road.wideBytes (cs.take i) ++ [.int (StrChars.lo8 (cs.getD i 0)), .int (StrChars.hi8 (cs.getD i 0))] := by
  have ap : ∀ (a b : List Int32), StrChars.Road.wideBytes (a ++ b) = StrChars.Road.wideBytes a ++ StrChars.Road.wideBytes b := by
    intro a b; induction a with
    | nil => rfl
    | cons x a ih => simp [StrChars.Road.wideBytes, ih]
  rw [List.take_add_one, ap]; congr 1; simp [List.getD_eq_getElem?_getD, h, StrChars.Road.wideBytes]
theorem own_wlen (cs : List Int32) : (StrChars.Road.wideBytes cs).length = 2 * cs.length := by
  induction cs with
  | nil => rfl
  | cons c cs ih => simp [StrChars.Road.wideBytes, ih]; omega
theorem own_narb (c : Int32) : (c.toInt8.toInt32).toInt8.toInt32 = StrChars.lo8 c := by
  show (c.toInt8.toInt32).toInt8.toInt32 = c.toInt8.toInt32
  rw [Int8.toInt8_toInt32]
theorem own_clen {cs : List Int32} {i : Nat} (h : i ≤ cs.length) (q : cs.length ≤ 4000) (f : Int32 → Value) : (Int32.ofNat i).toNatClampNeg = ((cs.take i).map f).length := by rw [own_onc i (by omega)]; simp; omega
theorem own_all {cs : List Int32} (h : ∀ j, j < cs.length → ¬ (255 : Int32) < cs.getD j 0) : ∀ c ∈ cs, ¬ (255 : Int32) < c := fun c hc => by
  obtain ⟨j, hj, rfl⟩ := List.getElem_of_mem hc
  have q := h j hj; rwa [List.getD_eq_getElem?_getD, List.getElem?_eq_getElem hj] at q
theorem own_cfl {cs : List Int32} {cd Nb : Int32} {vs : List Value} (h : StrChars.Road.CodA cs cd Nb vs) (q : cs.length ≤ 4000) : ((Int32.ofNat cs.length - Nb).toUInt32 >>> ((31 : Int32) &&& 31).toUInt32).toInt32.toInt8.toInt32 = cd := by
  rcases h with ⟨rfl, rfl, -⟩ | ⟨rfl, rfl, -, c, hc, -⟩
  · rw [show Int32.ofNat cs.length - Int32.ofNat cs.length = 0 from by rw [own_subn _ _ (by omega) (by omega), Nat.sub_self]; rfl]; rfl
  · have hp : 0 < cs.length := List.length_pos_of_mem hc
    obtain ⟨x, hx⟩ : ∃ x : Int32, x = Int32.ofNat cs.length - Int32.ofNat (2 * cs.length) := ⟨_, rfl⟩
    rw [← hx]
    have q := c_isub (Int32.ofNat cs.length) (Int32.ofNat (2 * cs.length)); rw [← hx, own_on _ (by omega), own_on _ (by omega)] at q
    have hneg : x.toInt < 0 := by have r1 := Int32.le_toInt x; have r2 := Int32.toInt_lt x; omega
    have hb : x.toInt = x.toBitVec.toInt := rfl
    rw [hb, BitVec.toInt_eq_toNat_cond] at hneg
    have hlt := x.toBitVec.isLt
    have h31 : (x.toUInt32 >>> ((31 : Int32) &&& 31).toUInt32) = 1 := by
      apply UInt32.toBitVec_inj.mp; apply BitVec.eq_of_toNat_eq
      have e : ((31 : Int32) &&& 31).toUInt32 = 31 := rfl
      rw [e, UInt32.toBitVec_shiftRight]
      show (x.toBitVec >>> (31 : BitVec 32)).toNat = 1
      have e2 : (x.toBitVec >>> (31 : BitVec 32)).toNat = x.toBitVec.toNat >>> 31 := rfl
      rw [e2, Nat.shiftRight_eq_div_pow]
      split at hneg <;> omega
    rw [h31]; rfl
theorem d6 : ∀ x ∈ ([(0, .iconst 0, 1), (1, .istore 5, 2), (3, .iload 5, 2), (5, .iload 4, 2), (7, .if_icmp .ge 37, 3), (44, .iload 4, 2), (46, .ireturn, 1), (10, .aload_n 0, 1), (11, .iload_n 1, 1), (12, .caload, 1), (13, .istore 6, 2), (15, .iload 6, 2), (17, .sipush 255, 3), (20, .if_icmp .le 6, 3), (23, .iload 5, 2), (25, .ireturn, 1), (26, .aload_n 2, 1), (27, .iload_n 3, 1), (28, .iload 6, 2), (30, .i2b, 1), (31, .bastore, 1), (32, .iinc 1 1, 3), (35, .iinc 3 1, 3), (38, .iinc 5 1, 3), (41, .goto (-38), 3)] : List (Nat × Instr × Nat)), decode j6 x.1 = .ok x.2 := by decide +kernel
def Q_cp5 (Z : State) (a1 : Addr) (b : Addr) (cs : List Int32) (kc : ClassId) (kb : ClassId) (h0 : Heap) (n0 : Nat) (v : Option Value) (h : Heap) (L : List Loc) : Prop := ∃ (z : Int32) (vs1 : List Value), v = some (.int z) ∧ Fr n0 L ∧ Keep h0 h [b] ∧ Arv Z h b kb .byte (Int32.ofNat cs.length) vs1 (.int 0) ∧ (own_cmp cs z vs1)
theorem rm_cp5 (hw : own_H a0 Z) (a1 : Addr) (b : Addr) (cs : List Int32) (kc : ClassId) (kb : ClassId) (h0 : Heap) (n0 : Nat) (Z0 : n0 ≤ h0.size) (P0_ : Arv Z h0 a1 kc .char (Int32.ofNat cs.length) (cs.map Value.int) (.int 0)) (P1_ : Arv Z h0 b kb .byte (Int32.ofNat cs.length) [] (.int 0)) (g_b : n0 ≤ b) (hl : cs.length ≤ 20) (hne : a1 ≠ b) : own_M l y6 j6 7 (some .int) (own_R 0 0 0 0) #[(.ref a1), (.int (0 : Int32)), (.ref b), (.int (0 : Int32)), (.int (Int32.ofNat cs.length))] Z h0 (Q_cp5 Z a1 b cs kc kb h0 n0) := by
 refine own_body (plainFor_of_name own_pn4) (fun p e s m below meth c s₁ Bd hZ hx hby hml hown hnm X0 e0 => ?_)
 have hown : s.vm.findClass "java/lang/StringUTF16" = some m.cls := hown
 have N0 := Fr.nil n0
 have D := own_dt hby d6
 refine own_cast (g' := mkF m 0 #[vr a1, vi 0, vr b, vi 0, vi (Int32.ofNat cs.length), vu, vu] []) rfl ?_
 show own_G _ _ _ _ (s₁.setTop (mkF m 0 #[vr a1, vi 0, vr b, vi 0, vi (Int32.ofNat cs.length), vu, vu] []))
 refine own_go (fun _ Kk => XS.iconst X0.here hx rfl (D 0 rfl) (XS.istore X0.here hx rfl (D 1 rfl) rfl (l' := #[vr a1, vi 0, vr b, vi 0, vi (Int32.ofNat cs.length), vi 0, vu]) rfl Kk)) ?_
 show own_G _ _ _ _ (s₁.setTop (mkF m 3 #[vr a1, vi 0, vr b, vi 0, vi (Int32.ofNat cs.length), vi 0, vu] []))
 have lp1 : ∀ (k : Nat) (i : Nat) (w9 : Slot) (hik : i + k = cs.length) (hinv : ∀ j, j < i → ¬ (255 : Int32) < cs.getD j 0) (hw9 : w9 = .unset ∨ ∃ z : Int32, w9 = .val (.int z)) (T9 : State) (L9 : List Loc) (h9 : Heap), Stand p l e (own_R 0 0 0 0) s m #[(.ref a1), (.int (0 : Int32)), (.ref b), (.int (0 : Int32)), (.int (Int32.ofNat cs.length))] below meth c T9 L9 0 0 → T9.heap = h9 → Fr n0 L9 → Keep h0 h9 [b] → Arv Z h9 b kb .byte (Int32.ofNat cs.length) ((cs.take i).map fun c => Value.int (StrChars.lo8 c)) (.int 0) → own_G p e below (own_K (Q_cp5 Z a1 b cs kc kb h0 n0) 0 0 s) (T9.setTop (mkF m 3 #[vr a1, vi (Int32.ofNat i), vr b, vi (Int32.ofNat i), vi (Int32.ofNat cs.length), vi (Int32.ofNat i), w9] [])) := by
  intro k
  induction k with
  | zero =>
   intro i w9 hik hinv hw9 T9 L9 h9 X9 e9 N9 K9 iv0
   have Z9 : n0 ≤ h9.size := Nat.le_trans Z0 K9.1
   show own_G _ _ _ _ (T9.setTop (mkF m 3 #[vr a1, vi (Int32.ofNat i), vr b, vi (Int32.ofNat i), vi (Int32.ofNat cs.length), vi (Int32.ofNat i), w9] []))
   show own_G _ _ _ _ (T9.setTop (mkF m 3 #[vr a1, vi (Int32.ofNat i), vr b, vi (Int32.ofNat i), vi (Int32.ofNat cs.length), vi (Int32.ofNat i), w9] []))
   refine own_go (fun _ Kk => XS.iload X9.here hx rfl (D 2 rfl) rfl (XS.iload X9.here hx rfl (D 3 rfl) rfl (XS.icmpYes X9.here hx rfl (pc0 := 7) (pc' := 44) rfl (D 4 rfl) rfl (flt (fun q => absurd ((own_ltn (by omega) (by omega)).mp q) (by omega))).2.1 (by decide) (by decide) (XS.iload X9.here hx rfl (D 5 rfl) rfl Kk)))) ?_
   exact own_rI X9 hx Bd (D 6 rfl) e9 ⟨(Int32.ofNat cs.length), ((cs.take i).map fun c => Value.int (StrChars.lo8 c)), rfl, N9, K9, iv0, (Or.inl ⟨rfl, own_all (fun j hj => hinv j (by omega)), by rw [show i = cs.length from by omega, List.take_length]⟩)⟩
  | succ k ih =>
   intro i w9 hik hinv hw9 T9 L9 h9 X9 e9 N9 K9 iv0
   have Z9 : n0 ≤ h9.size := Nat.le_trans Z0 K9.1
   show own_G _ _ _ _ (T9.setTop (mkF m 3 #[vr a1, vi (Int32.ofNat i), vr b, vi (Int32.ofNat i), vi (Int32.ofNat cs.length), vi (Int32.ofNat i), w9] []))
   rcases hw9 with rfl | ⟨z9, rfl⟩
   ·
    show own_G _ _ _ _ (T9.setTop (mkF m 3 #[vr a1, vi (Int32.ofNat i), vr b, vi (Int32.ofNat i), vi (Int32.ofNat cs.length), vi (Int32.ofNat i), vu] []))
    refine own_go (fun _ Kk => XS.iload X9.here hx rfl (D 2 rfl) rfl (XS.iload X9.here hx rfl (D 3 rfl) rfl (XS.icmpNo X9.here hx rfl (D 4 rfl) rfl (tlt (own_onl (by omega) (by omega))).2.1 (XS.aloadN X9.here hx rfl (D 7 rfl) rfl rfl (XS.iloadN X9.here hx rfl (D 8 rfl) rfl Kk))))) ?_
    show own_G _ _ _ _ (T9.setTop (mkF m 12 #[vr a1, vi (Int32.ofNat i), vr b, vi (Int32.ofNat i), vi (Int32.ofNat cs.length), vi (Int32.ofNat i), vu] [.int (Int32.ofNat i), .ref a1]))
    have Q3 := (P0_.keep K9 (own_nc hne List.not_mem_nil))
    obtain ⟨cl2, Ar2, -, Sz2, Nn2, Hh2, -⟩ := id Q3
    have hin2 : ¬ ((Int32.ofNat i) < 0 ∨ cl2.slots.size ≤ ((Int32.ofNat i)).toNatClampNeg) := inb_of Sz2 ⟨own_onn i (by omega), own_onl (by omega) (by omega)⟩
    have hat2 : cl2.slots[((Int32.ofNat i)).toNatClampNeg]? = some (.int (cs.getD i 0)) := Has.at Hh2 hin2 (by rw [own_onc i (by omega)]; exact own_cg (by omega) _)
    refine own_go (X9.caload hx (j := (Int32.ofNat i)) (v := (.int (cs.getD i 0))) (by rw [e9]; exact Ar2.1) (State.isArrayOf_alike hZ.alike Ar2.2.1) Ar2.2.2 hin2 hat2 (g := (mkF m 12 #[vr a1, vi (Int32.ofNat i), vr b, vi (Int32.ofNat i), vi (Int32.ofNat cs.length), vi (Int32.ofNat i), vu] [.int (Int32.ofNat i), .ref a1])) rfl rfl (D 9 rfl)) ?_
    refine own_go (fun _ Kk => XS.istore X9.here hx rfl (D 10 rfl) rfl (l' := #[vr a1, vi (Int32.ofNat i), vr b, vi (Int32.ofNat i), vi (Int32.ofNat cs.length), vi (Int32.ofNat i), vi (cs.getD i 0)]) rfl (XS.iload X9.here hx rfl (D 11 rfl) rfl (XS.sipush X9.here hx rfl (D 12 rfl) Kk))) ?_
    by_cases hc20_4 : (255 : Int32) < (cs.getD i 0)
    ·
     refine own_go (fun _ Kk => XS.icmpNo X9.here hx rfl (D 13 rfl) rfl (tlt hc20_4).2.2.2 Kk) ?_
     show own_G _ _ _ _ (T9.setTop (mkF m 23 #[vr a1, vi (Int32.ofNat i), vr b, vi (Int32.ofNat i), vi (Int32.ofNat cs.length), vi (Int32.ofNat i), vi (cs.getD i 0)] []))
     refine own_go (fun _ Kk => XS.iload X9.here hx rfl (D 14 rfl) rfl Kk) ?_
     exact own_rI X9 hx Bd (D 15 rfl) e9 ⟨(Int32.ofNat i), ((cs.take i).map fun c => Value.int (StrChars.lo8 c)), rfl, N9, K9, iv0, (Or.inr ⟨i, by omega, rfl, hc20_4⟩)⟩
    ·
     refine own_go (fun _ Kk => XS.icmpYes X9.here hx rfl (pc0 := 20) (pc' := 26) rfl (D 13 rfl) rfl (flt hc20_4).2.2.2 (by decide) (by decide) Kk) ?_
     show own_G _ _ _ _ (T9.setTop (mkF m 26 #[vr a1, vi (Int32.ofNat i), vr b, vi (Int32.ofNat i), vi (Int32.ofNat cs.length), vi (Int32.ofNat i), vi (cs.getD i 0)] []))
     refine own_go (fun _ Kk => XS.aloadN X9.here hx rfl (D 16 rfl) rfl rfl (XS.iloadN X9.here hx rfl (D 17 rfl) rfl (XS.iload X9.here hx rfl (D 18 rfl) rfl (XS.i2b X9.here hx rfl (D 19 rfl) rfl Kk)))) ?_
     obtain ⟨cl5, Ar5, q5, Sz5, Nn5, Hh5, Gg5⟩ := id iv0
     have hin5 : ¬ ((Int32.ofNat i) < 0 ∨ cl5.slots.size ≤ ((Int32.ofNat i)).toNatClampNeg) := inb_of Sz5 ⟨own_onn i (by omega), own_onl (by omega) (by omega)⟩
     obtain ⟨T5, h5, X5, e5, W5, st5⟩ := stB X9 hx hZ e9 Ar5 (j := (Int32.ofNat i)) hin5 (g := (mkF m 31 #[vr a1, vi (Int32.ofNat i), vr b, vi (Int32.ofNat i), vi (Int32.ofNat cs.length), vi (Int32.ofNat i), vi (cs.getD i 0)] [.int ((cs.getD i 0).toInt8.toInt32), .int (Int32.ofNat i), .ref b])) rfl rfl (D 20 rfl)
     refine own_go st5 ?_
     have V5 : Arv Z h5 b kb .byte (Int32.ofNat cs.length) ((cs.take (i + 1)).map fun c => Value.int (StrChars.lo8 c)) (.int 0) := by have q := (own_arvpush iv0 (fits_nar_byte _) (own_clen (by omega) (by omega) _) W5); rw [own_narb] at q; rw [own_tk (by omega)]; exact q
     have N5 := Fr.snoc X5 N9 g_b
     have Z6 : n0 ≤ h5.size := Nat.le_trans Z9 (Keep.of_wr W5).1
     have K7 := Keep.wr K9 W5 (own_in 0 rfl)
     show own_G _ _ _ _ (T5.setTop (mkF m 32 #[vr a1, vi (Int32.ofNat i), vr b, vi (Int32.ofNat i), vi (Int32.ofNat cs.length), vi (Int32.ofNat i), vi (cs.getD i 0)] []))
     refine own_go (fun _ Kk => XS.iinc X5.here hx rfl (D 21 rfl) rfl (l' := #[vr a1, vi ((Int32.ofNat i) + (1 : Int32)), vr b, vi (Int32.ofNat i), vi (Int32.ofNat cs.length), vi (Int32.ofNat i), vi (cs.getD i 0)]) rfl Kk) ?_
     show own_G _ _ _ _ (T5.setTop (mkF m 35 #[vr a1, vi ((Int32.ofNat i) + (1 : Int32)), vr b, vi (Int32.ofNat i), vi (Int32.ofNat cs.length), vi (Int32.ofNat i), vi (cs.getD i 0)] []))
     rw [show ((Int32.ofNat i) + (1 : Int32)) = (Int32.ofNat (i + 1)) from own_add1 i (by omega)]
     refine own_go (fun _ Kk => XS.iinc X5.here hx rfl (D 22 rfl) rfl (l' := #[vr a1, vi (Int32.ofNat (i + 1)), vr b, vi ((Int32.ofNat i) + (1 : Int32)), vi (Int32.ofNat cs.length), vi (Int32.ofNat i), vi (cs.getD i 0)]) rfl Kk) ?_
     show own_G _ _ _ _ (T5.setTop (mkF m 38 #[vr a1, vi (Int32.ofNat (i + 1)), vr b, vi ((Int32.ofNat i) + (1 : Int32)), vi (Int32.ofNat cs.length), vi (Int32.ofNat i), vi (cs.getD i 0)] []))
     rw [show ((Int32.ofNat i) + (1 : Int32)) = (Int32.ofNat (i + 1)) from own_add1 i (by omega)]
     refine own_go (fun _ Kk => XS.iinc X5.here hx rfl (D 23 rfl) rfl (l' := #[vr a1, vi (Int32.ofNat (i + 1)), vr b, vi (Int32.ofNat (i + 1)), vi (Int32.ofNat cs.length), vi ((Int32.ofNat i) + (1 : Int32)), vi (cs.getD i 0)]) rfl Kk) ?_
     show own_G _ _ _ _ (T5.setTop (mkF m 41 #[vr a1, vi (Int32.ofNat (i + 1)), vr b, vi (Int32.ofNat (i + 1)), vi (Int32.ofNat cs.length), vi ((Int32.ofNat i) + (1 : Int32)), vi (cs.getD i 0)] []))
     rw [show ((Int32.ofNat i) + (1 : Int32)) = (Int32.ofNat (i + 1)) from own_add1 i (by omega)]
     refine own_go (fun _ Kk => XS.goto X5.here hx rfl (pc0 := 41) (pc' := 3) rfl (D 24 rfl) (by decide) (by decide) Kk) ?_
     show own_G _ _ _ _ (T5.setTop (mkF m 3 #[vr a1, vi (Int32.ofNat (i + 1)), vr b, vi (Int32.ofNat (i + 1)), vi (Int32.ofNat cs.length), vi (Int32.ofNat (i + 1)), vi (cs.getD i 0)] []))
     exact ih (i + 1) _ (by omega) (fun j hj => by by_cases e : j = i; (subst e; exact hc20_4); exact hinv j (by omega)) (Or.inr ⟨_, rfl⟩) _ _ _ X5 e5 N5 K7 V5
   ·
    show own_G _ _ _ _ (T9.setTop (mkF m 3 #[vr a1, vi (Int32.ofNat i), vr b, vi (Int32.ofNat i), vi (Int32.ofNat cs.length), vi (Int32.ofNat i), vi z9] []))
    refine own_go (fun _ Kk => XS.iload X9.here hx rfl (D 2 rfl) rfl (XS.iload X9.here hx rfl (D 3 rfl) rfl (XS.icmpNo X9.here hx rfl (D 4 rfl) rfl (tlt (own_onl (by omega) (by omega))).2.1 (XS.aloadN X9.here hx rfl (D 7 rfl) rfl rfl (XS.iloadN X9.here hx rfl (D 8 rfl) rfl Kk))))) ?_
    show own_G _ _ _ _ (T9.setTop (mkF m 12 #[vr a1, vi (Int32.ofNat i), vr b, vi (Int32.ofNat i), vi (Int32.ofNat cs.length), vi (Int32.ofNat i), vi z9] [.int (Int32.ofNat i), .ref a1]))
    have Q9 := (P0_.keep K9 (own_nc hne List.not_mem_nil))
    obtain ⟨cl8, Ar8, -, Sz8, Nn8, Hh8, -⟩ := id Q9
    have hin8 : ¬ ((Int32.ofNat i) < 0 ∨ cl8.slots.size ≤ ((Int32.ofNat i)).toNatClampNeg) := inb_of Sz8 ⟨own_onn i (by omega), own_onl (by omega) (by omega)⟩
    have hat8 : cl8.slots[((Int32.ofNat i)).toNatClampNeg]? = some (.int (cs.getD i 0)) := Has.at Hh8 hin8 (by rw [own_onc i (by omega)]; exact own_cg (by omega) _)
    refine own_go (X9.caload hx (j := (Int32.ofNat i)) (v := (.int (cs.getD i 0))) (by rw [e9]; exact Ar8.1) (State.isArrayOf_alike hZ.alike Ar8.2.1) Ar8.2.2 hin8 hat8 (g := (mkF m 12 #[vr a1, vi (Int32.ofNat i), vr b, vi (Int32.ofNat i), vi (Int32.ofNat cs.length), vi (Int32.ofNat i), vi z9] [.int (Int32.ofNat i), .ref a1])) rfl rfl (D 9 rfl)) ?_
    refine own_go (fun _ Kk => XS.istore X9.here hx rfl (D 10 rfl) rfl (l' := #[vr a1, vi (Int32.ofNat i), vr b, vi (Int32.ofNat i), vi (Int32.ofNat cs.length), vi (Int32.ofNat i), vi (cs.getD i 0)]) rfl (XS.iload X9.here hx rfl (D 11 rfl) rfl (XS.sipush X9.here hx rfl (D 12 rfl) Kk))) ?_
    by_cases hc20_10 : (255 : Int32) < (cs.getD i 0)
    ·
     refine own_go (fun _ Kk => XS.icmpNo X9.here hx rfl (D 13 rfl) rfl (tlt hc20_10).2.2.2 Kk) ?_
     show own_G _ _ _ _ (T9.setTop (mkF m 23 #[vr a1, vi (Int32.ofNat i), vr b, vi (Int32.ofNat i), vi (Int32.ofNat cs.length), vi (Int32.ofNat i), vi (cs.getD i 0)] []))
     refine own_go (fun _ Kk => XS.iload X9.here hx rfl (D 14 rfl) rfl Kk) ?_
     exact own_rI X9 hx Bd (D 15 rfl) e9 ⟨(Int32.ofNat i), ((cs.take i).map fun c => Value.int (StrChars.lo8 c)), rfl, N9, K9, iv0, (Or.inr ⟨i, by omega, rfl, hc20_10⟩)⟩
    ·
     refine own_go (fun _ Kk => XS.icmpYes X9.here hx rfl (pc0 := 20) (pc' := 26) rfl (D 13 rfl) rfl (flt hc20_10).2.2.2 (by decide) (by decide) Kk) ?_
     show own_G _ _ _ _ (T9.setTop (mkF m 26 #[vr a1, vi (Int32.ofNat i), vr b, vi (Int32.ofNat i), vi (Int32.ofNat cs.length), vi (Int32.ofNat i), vi (cs.getD i 0)] []))
     refine own_go (fun _ Kk => XS.aloadN X9.here hx rfl (D 16 rfl) rfl rfl (XS.iloadN X9.here hx rfl (D 17 rfl) rfl (XS.iload X9.here hx rfl (D 18 rfl) rfl (XS.i2b X9.here hx rfl (D 19 rfl) rfl Kk)))) ?_
     obtain ⟨cl11, Ar11, q11, Sz11, Nn11, Hh11, Gg11⟩ := id iv0
     have hin11 : ¬ ((Int32.ofNat i) < 0 ∨ cl11.slots.size ≤ ((Int32.ofNat i)).toNatClampNeg) := inb_of Sz11 ⟨own_onn i (by omega), own_onl (by omega) (by omega)⟩
     obtain ⟨T11, h11, X11, e11, W11, st11⟩ := stB X9 hx hZ e9 Ar11 (j := (Int32.ofNat i)) hin11 (g := (mkF m 31 #[vr a1, vi (Int32.ofNat i), vr b, vi (Int32.ofNat i), vi (Int32.ofNat cs.length), vi (Int32.ofNat i), vi (cs.getD i 0)] [.int ((cs.getD i 0).toInt8.toInt32), .int (Int32.ofNat i), .ref b])) rfl rfl (D 20 rfl)
     refine own_go st11 ?_
     have V11 : Arv Z h11 b kb .byte (Int32.ofNat cs.length) ((cs.take (i + 1)).map fun c => Value.int (StrChars.lo8 c)) (.int 0) := by have q := (own_arvpush iv0 (fits_nar_byte _) (own_clen (by omega) (by omega) _) W11); rw [own_narb] at q; rw [own_tk (by omega)]; exact q
     have N11 := Fr.snoc X11 N9 g_b
     have Z12 : n0 ≤ h11.size := Nat.le_trans Z9 (Keep.of_wr W11).1
     have K13 := Keep.wr K9 W11 (own_in 0 rfl)
     show own_G _ _ _ _ (T11.setTop (mkF m 32 #[vr a1, vi (Int32.ofNat i), vr b, vi (Int32.ofNat i), vi (Int32.ofNat cs.length), vi (Int32.ofNat i), vi (cs.getD i 0)] []))
     refine own_go (fun _ Kk => XS.iinc X11.here hx rfl (D 21 rfl) rfl (l' := #[vr a1, vi ((Int32.ofNat i) + (1 : Int32)), vr b, vi (Int32.ofNat i), vi (Int32.ofNat cs.length), vi (Int32.ofNat i), vi (cs.getD i 0)]) rfl Kk) ?_
     show own_G _ _ _ _ (T11.setTop (mkF m 35 #[vr a1, vi ((Int32.ofNat i) + (1 : Int32)), vr b, vi (Int32.ofNat i), vi (Int32.ofNat cs.length), vi (Int32.ofNat i), vi (cs.getD i 0)] []))
     rw [show ((Int32.ofNat i) + (1 : Int32)) = (Int32.ofNat (i + 1)) from own_add1 i (by omega)]
     refine own_go (fun _ Kk => XS.iinc X11.here hx rfl (D 22 rfl) rfl (l' := #[vr a1, vi (Int32.ofNat (i + 1)), vr b, vi ((Int32.ofNat i) + (1 : Int32)), vi (Int32.ofNat cs.length), vi (Int32.ofNat i), vi (cs.getD i 0)]) rfl Kk) ?_
     show own_G _ _ _ _ (T11.setTop (mkF m 38 #[vr a1, vi (Int32.ofNat (i + 1)), vr b, vi ((Int32.ofNat i) + (1 : Int32)), vi (Int32.ofNat cs.length), vi (Int32.ofNat i), vi (cs.getD i 0)] []))
     rw [show ((Int32.ofNat i) + (1 : Int32)) = (Int32.ofNat (i + 1)) from own_add1 i (by omega)]
     refine own_go (fun _ Kk => XS.iinc X11.here hx rfl (D 23 rfl) rfl (l' := #[vr a1, vi (Int32.ofNat (i + 1)), vr b, vi (Int32.ofNat (i + 1)), vi (Int32.ofNat cs.length), vi ((Int32.ofNat i) + (1 : Int32)), vi (cs.getD i 0)]) rfl Kk) ?_
     show own_G _ _ _ _ (T11.setTop (mkF m 41 #[vr a1, vi (Int32.ofNat (i + 1)), vr b, vi (Int32.ofNat (i + 1)), vi (Int32.ofNat cs.length), vi ((Int32.ofNat i) + (1 : Int32)), vi (cs.getD i 0)] []))
     rw [show ((Int32.ofNat i) + (1 : Int32)) = (Int32.ofNat (i + 1)) from own_add1 i (by omega)]
     refine own_go (fun _ Kk => XS.goto X11.here hx rfl (pc0 := 41) (pc' := 3) rfl (D 24 rfl) (by decide) (by decide) Kk) ?_
     show own_G _ _ _ _ (T11.setTop (mkF m 3 #[vr a1, vi (Int32.ofNat (i + 1)), vr b, vi (Int32.ofNat (i + 1)), vi (Int32.ofNat cs.length), vi (Int32.ofNat (i + 1)), vi (cs.getD i 0)] []))
     exact ih (i + 1) _ (by omega) (fun j hj => by by_cases e : j = i; (subst e; exact hc20_10); exact hinv j (by omega)) (Or.inr ⟨_, rfl⟩) _ _ _ X11 e11 N11 K13 V11
 exact lp1 cs.length 0 _ (by omega) (fun j h => absurd h (by omega)) (Or.inl rfl) _ _ _ X0 e0 N0 (Keep.refl h0 [b]) P1_
theorem d51 : ∀ x ∈ ([(0, .getstatic 44, 3), (3, .ifCond .ne 25, 3), (28, .iload_n 1, 1), (29, .iconst 1, 1), (30, .ishl, 1), (31, .istore_n 1, 1), (32, .aload_n 0, 1), (33, .iload_n 1, 1), (34, .iinc 1 1, 3), (37, .iload_n 2, 1), (38, .getstatic 59, 3), (41, .ishr, 1), (42, .i2b, 1), (43, .bastore, 1), (44, .aload_n 0, 1), (45, .iload_n 1, 1), (46, .iload_n 2, 1), (47, .getstatic 63, 3), (50, .ishr, 1), (51, .i2b, 1), (52, .bastore, 1), (53, .return_, 1)] : List (Nat × Instr × Nat)), decode j51 x.1 = .ok x.2 := by decide +kernel
def Q_putc (Z : State) (b : Addr) (cc : Int32) (kb : ClassId) (n2 : Nat) (i : Nat) (vs : List Value) (zc : Int32) (fm : Value) (h0 : Heap) (n0 : Nat) (v : Option Value) (h : Heap) (L : List Loc) : Prop := v = none ∧ Fr n0 L ∧ Keep h0 h [b] ∧ Arv Z h b kb .byte (Int32.ofNat (2 * n2)) (vs ++ [Value.int (StrChars.lo8 cc), Value.int (StrChars.hi8 cc)]) (.int 0)
theorem rm_putc (hw : own_H a0 Z) (b : Addr) (cc : Int32) (kb : ClassId) (n2 : Nat) (i : Nat) (vs : List Value) (zc : Int32) (fm : Value) (h0 : Heap) (n0 : Nat) (Z0 : n0 ≤ h0.size) (P0_ : Arv Z h0 b kb .byte (Int32.ofNat (2 * n2)) vs (.int 0)) (g_b : n0 ≤ b) (hik : i < n2) (hk : n2 ≤ 4000) (hvl : vs.length = 2 * i) (SS : own_St Z h0 zc fm) : own_M l y51 j51 3 none (own_R 0 0 0 0) #[(.ref b), (.int (Int32.ofNat i)), (.int cc)] Z h0 (Q_putc Z b cc kb n2 i vs zc fm h0 n0) := by
 refine own_body (plainFor_of_name own_pn4) (fun p e s m below meth c s₁ Bd hZ hx hby hml hown hnm X0 e0 => ?_)
 have hown : s.vm.findClass "java/lang/StringUTF16" = some m.cls := hown
 have N0 := Fr.nil n0
 have D := own_dt hby d51
 refine own_cast (g' := mkF m 0 #[vr b, vi (Int32.ofNat i), vi cc] []) rfl ?_
 show own_G _ _ _ _ (s₁.setTop (mkF m 0 #[vr b, vi (Int32.ofNat i), vi cc] []))
 refine own_gS X0 hx hZ hown (hw 246 rfl) e0 SS.2.2.2.2.1 (D 0 rfl) (fun T1 X1 e1 => ?_)
 refine own_go (fun _ Kk => XS.ifYes X1.here hx rfl (pc0 := 3) (pc' := 28) rfl (D 1 rfl) rfl ((if0 _ _).trans (by decide)) (by decide) (by decide) (XS.iloadN X1.here hx rfl (D 2 rfl) rfl (XS.iconst X1.here hx rfl (D 3 rfl) (XS.ishl X1.here hx rfl (D 4 rfl) rfl Kk)))) ?_
 show own_G _ _ _ _ (T1.setTop (mkF m 31 #[vr b, vi (Int32.ofNat i), vi cc] [.int ((Int32.ofNat i) <<< ((1 : Int32) &&& 31))]))
 rw [show ((Int32.ofNat i) <<< ((1 : Int32) &&& 31)) = (Int32.ofNat (2 * i)) from own_shl1 i (by omega)]
 refine own_go (fun _ Kk => XS.istoreN X1.here hx rfl (D 5 rfl) rfl (l' := #[vr b, vi (Int32.ofNat (2 * i)), vi cc]) rfl (XS.aloadN X1.here hx rfl (D 6 rfl) rfl rfl (XS.iloadN X1.here hx rfl (D 7 rfl) rfl (XS.iinc X1.here hx rfl (D 8 rfl) rfl (l' := #[vr b, vi ((Int32.ofNat (2 * i)) + (1 : Int32)), vi cc]) rfl Kk)))) ?_
 show own_G _ _ _ _ (T1.setTop (mkF m 37 #[vr b, vi ((Int32.ofNat (2 * i)) + (1 : Int32)), vi cc] [.int (Int32.ofNat (2 * i)), .ref b]))
 rw [show ((Int32.ofNat (2 * i)) + (1 : Int32)) = (Int32.ofNat (2 * i + 1)) from own_add1 (2 * i) (by omega)]
 refine own_go (fun _ Kk => XS.iloadN X1.here hx rfl (D 9 rfl) rfl Kk) ?_
 refine own_gS X1 hx hZ hown (hw 247 rfl) e1 SS.2.2.2.2.2.1 (D 10 rfl) (fun T2 X2 e2 => ?_)
 refine own_go (fun _ Kk => XS.ishr X2.here hx rfl (D 11 rfl) rfl (XS.i2b X2.here hx rfl (D 12 rfl) rfl Kk)) ?_
 show own_G _ _ _ _ (T2.setTop (mkF m 43 #[vr b, vi (Int32.ofNat (2 * i + 1)), vi cc] [.int ((cc >>> ((0 : Int32) &&& 31)).toInt8.toInt32), .int (Int32.ofNat (2 * i)), .ref b]))
 obtain ⟨cl3, Ar3, q3, Sz3, Nn3, Hh3, Gg3⟩ := id P0_
 have hin3 : ¬ ((Int32.ofNat (2 * i)) < 0 ∨ cl3.slots.size ≤ ((Int32.ofNat (2 * i))).toNatClampNeg) := inb_of Sz3 ⟨own_onn (2 * i) (by omega), own_onl (by omega) (by omega)⟩
 obtain ⟨T3, h3, X3, e3, W3, st3⟩ := stB X2 hx hZ e2 Ar3 (j := (Int32.ofNat (2 * i))) hin3 (g := (mkF m 43 #[vr b, vi (Int32.ofNat (2 * i + 1)), vi cc] [.int ((cc >>> ((0 : Int32) &&& 31)).toInt8.toInt32), .int (Int32.ofNat (2 * i)), .ref b])) rfl rfl (D 13 rfl)
 refine own_go st3 ?_
 have V3 : Arv Z h3 b kb .byte (Int32.ofNat (2 * n2)) (vs ++ [Value.int (StrChars.lo8 cc)]) (.int 0) := by have q := (own_arvpush P0_ (fits_nar_byte _) (by rw [own_onc _ (by omega), hvl]) W3); rw [own_narb, own_shr0] at q; exact q
 have N3 := Fr.snoc X3 N0 g_b
 have Z4 : n0 ≤ h3.size := Nat.le_trans Z0 (Keep.of_wr W3).1
 have K5 := Keep.wr (Keep.refl h0 [b]) W3 (own_in 0 rfl)
 refine own_go (fun _ Kk => XS.aloadN X3.here hx rfl (D 14 rfl) rfl rfl (XS.iloadN X3.here hx rfl (D 15 rfl) rfl (XS.iloadN X3.here hx rfl (D 16 rfl) rfl Kk))) ?_
 have Q6 := (SS.wr W3)
 refine own_gS X3 hx hZ hown (hw 248 rfl) e3 Q6.2.2.2.2.2.2 (D 17 rfl) (fun T7 X7 e7 => ?_)
 show own_G _ _ _ _ (T7.setTop (mkF m 50 #[vr b, vi (Int32.ofNat (2 * i + 1)), vi cc] [.int 8, .int cc, .int (Int32.ofNat (2 * i + 1)), .ref b]))
 refine own_go (fun _ Kk => XS.ishr X7.here hx rfl (D 18 rfl) rfl (XS.i2b X7.here hx rfl (D 19 rfl) rfl Kk)) ?_
 obtain ⟨cl8, Ar8, q8, Sz8, Nn8, Hh8, Gg8⟩ := id V3
 have hin8 : ¬ ((Int32.ofNat (2 * i + 1)) < 0 ∨ cl8.slots.size ≤ ((Int32.ofNat (2 * i + 1))).toNatClampNeg) := inb_of Sz8 ⟨own_onn (2 * i + 1) (by omega), own_onl (by omega) (by omega)⟩
 obtain ⟨T8, h8, X8, e8, W8, st8⟩ := stB X7 hx hZ e7 Ar8 (j := (Int32.ofNat (2 * i + 1))) hin8 (g := (mkF m 52 #[vr b, vi (Int32.ofNat (2 * i + 1)), vi cc] [.int ((cc >>> ((8 : Int32) &&& 31)).toInt8.toInt32), .int (Int32.ofNat (2 * i + 1)), .ref b])) rfl rfl (D 20 rfl)
 refine own_go st8 ?_
 have V8 : Arv Z h8 b kb .byte (Int32.ofNat (2 * n2)) (vs ++ [Value.int (StrChars.lo8 cc), Value.int (StrChars.hi8 cc)]) (.int 0) := by have q := (own_arvpush V3 (fits_nar_byte _) (by rw [own_onc _ (by omega), List.length_append, hvl]; rfl) W8); rw [own_narb, List.append_assoc] at q; exact q
 have N8 := Fr.snoc X8 N3 g_b
 have Z9 : n0 ≤ h8.size := Nat.le_trans Z4 (Keep.of_wr W8).1
 have K10 := Keep.wr K5 W8 (own_in 0 rfl)
 exact own_rV X8 hx Bd (D 21 rfl) e8 ⟨rfl, N8, K10, V8⟩
theorem d50 : ∀ x ∈ ([(0, .iload_n 0, 1), (1, .ifCond .ge 11, 3), (12, .iload_n 0, 1), (13, .ldc 20, 2), (15, .if_icmp .lt 40, 3), (55, .iload_n 0, 1), (56, .iconst 1, 1), (57, .ishl, 1), (58, .ireturn, 1)] : List (Nat × Instr × Nat)), decode j50 x.1 = .ok x.2 := by decide +kernel
def Q_nbl (Z : State) (i : Nat) (h0 : Heap) (n0 : Nat) (v : Option Value) (h : Heap) (L : List Loc) : Prop := v = some (.int (Int32.ofNat (2 * i))) ∧ Fr n0 L ∧ h = h0
theorem rm_nbl (hw : own_H a0 Z) (i : Nat) (h0 : Heap) (n0 : Nat) (Z0 : n0 ≤ h0.size) (hi20 : i ≤ 20) : own_M l y50 j50 1 (some .int) (own_R 0 0 0 0) #[(.int (Int32.ofNat i))] Z h0 (Q_nbl Z i h0 n0) := by
 refine own_body (plainFor_of_name own_pn4) (fun p e s m below meth c s₁ Bd hZ hx hby hml hown hnm X0 e0 => ?_)
 have hown : s.vm.findClass "java/lang/StringUTF16" = some m.cls := hown
 have N0 := Fr.nil n0
 have D := own_dt hby d50
 refine own_cast (g' := mkF m 0 #[vi (Int32.ofNat i)] []) rfl ?_
 show own_G _ _ _ _ (s₁.setTop (mkF m 0 #[vi (Int32.ofNat i)] []))
 refine own_go (fun _ Kk => XS.iloadN X0.here hx rfl (D 0 rfl) rfl (XS.ifYes X0.here hx rfl (pc0 := 1) (pc' := 12) rfl (D 1 rfl) rfl ((if0 _ _).trans (flt (own_onn i (by omega))).2.1) (by decide) (by decide) (XS.iloadN X0.here hx rfl (D 2 rfl) rfl Kk))) ?_
 refine own_go (X0.ldcInt hx hown (mvT hZ (hw 242 rfl)) (g := (mkF m 13 #[vi (Int32.ofNat i)] [.int (Int32.ofNat i)])) rfl (D 3 rfl)) ?_
 refine own_go (fun _ Kk => XS.icmpYes X0.here hx rfl (pc0 := 15) (pc' := 55) rfl (D 4 rfl) rfl (tlt (by rw [Int32.lt_iff_toInt_lt, own_on i (by omega)]; show (i : Int) < 1073741823; omega)).1 (by decide) (by decide) Kk) ?_
 show own_G _ _ _ _ (s₁.setTop (mkF m 55 #[vi (Int32.ofNat i)] []))
 refine own_go (fun _ Kk => XS.iloadN X0.here hx rfl (D 5 rfl) rfl (XS.iconst X0.here hx rfl (D 6 rfl) (XS.ishl X0.here hx rfl (D 7 rfl) rfl Kk))) ?_
 show own_G _ _ _ _ (s₁.setTop (mkF m 58 #[vi (Int32.ofNat i)] [.int ((Int32.ofNat i) <<< ((1 : Int32) &&& 31))]))
 rw [show ((Int32.ofNat i) <<< ((1 : Int32) &&& 31)) = (Int32.ofNat (2 * i)) from own_shl1 i (by omega)]
 exact own_rI X0 hx Bd (D 8 rfl) e0 ⟨rfl, N0, rfl⟩
theorem d49 : ∀ x ∈ ([(0, .iload_n 0, 1), (1, .invokestatic 11, 3), (4, .newarray .byte, 2), (6, .areturn, 1)] : List (Nat × Instr × Nat)), decode j49 x.1 = .ok x.2 := by decide +kernel
def Q_nbf (Z : State) (i : Nat) (h0 : Heap) (n0 : Nat) (v : Option Value) (h : Heap) (L : List Loc) : Prop := ∃ (b : Addr) (kb : ClassId), v = some (.ref b) ∧ Fr n0 L ∧ Keep h0 h [] ∧ h0.size ≤ b ∧ Arv Z h b kb .byte (Int32.ofNat (2 * i)) [] (.int 0) ∧ Exa Z h b "[B"
theorem rm_nbf (hw : own_H a0 Z) (i : Nat) (h0 : Heap) (n0 : Nat) (Z0 : n0 ≤ h0.size) (hi20 : i ≤ 20) : own_M l y49 j49 1 (some (.array .byte)) (own_R 1 1 40 12) #[(.int (Int32.ofNat i))] Z h0 (Q_nbf Z i h0 n0) := by
 refine own_body (plainFor_of_name own_pn4) (fun p e s m below meth c s₁ Bd hZ hx hby hml hown hnm X0 e0 => ?_)
 have hown : s.vm.findClass "java/lang/StringUTF16" = some m.cls := hown
 have N0 := Fr.nil n0
 have D := own_dt hby d49
 refine own_cast (g' := mkF m 0 #[vi (Int32.ofNat i)] []) rfl ?_
 show own_G _ _ _ _ (s₁.setTop (mkF m 0 #[vi (Int32.ofNat i)] []))
 refine own_go (fun _ Kk => XS.iloadN X0.here hx rfl (D 0 rfl) rfl Kk) ?_
 refine own_cS X0 hx hZ 0 hown (hw 239 rfl) (hw 240 rfl) (hw 26 rfl) (hw 241 rfl) (rm_nbl hw i h0 n0 Z0 (by omega)) e0 own_pd12 rfl (D 1 rfl) hml ?_
 rintro _ T1 _ _ X1 l1 ⟨rfl, N1q, e1⟩
 have N1 := own_frl l1 N0 N1q
 obtain ⟨T2, h2, k2, X2, e2, E2, A2, B2, st2⟩ := newPE X1 hx hZ (hw 28 rfl) e1 (g := (mkF m 4 #[vi (Int32.ofNat i)] [.int (Int32.ofNat (2 * i))])) rfl (D 2 rfl) rfl (own_onn _ (by omega)) (cap := 40) (by rw [own_onc _ (by omega)]; omega) (by decide) (by decide) (by decide) (ad := "[B") (by decide)
 obtain ⟨b2, g2⟩ : ∃ z, z = h0.size := ⟨_, rfl⟩
 rw [← g2] at A2 B2 st2
 refine own_go st2 ?_
 have g_b2 : n0 ≤ b2 := Nat.le_trans Z0 (Nat.le_of_eq g2.symm)
 have V2 : Arv Z h2 b2 k2 .byte (Int32.ofNat (2 * i)) [] (.int (0 : Int32)) := Arv.new A2 (own_onn _ (by omega))
 have Z3 : n0 ≤ h2.size := Nat.le_trans Z0 E2.1
 have sz_b2 : h0.size ≤ b2 := Nat.le_trans (Keep.refl h0 []).1 (Nat.le_of_eq g2.symm)
 have K4 := Keep.ext (Keep.refl h0 []) E2
 exact own_rR X2 hx Bd (D 3 rfl) e2 ⟨b2, k2, rfl, N1, K4, sz_b2, V2, B2⟩
theorem d48 : ∀ x ∈ ([(0, .iload_n 2, 1), (1, .invokestatic 107, 3), (4, .astore_n 3, 1), (5, .iconst 0, 1), (6, .istore 4, 2), (8, .iload 4, 2), (10, .iload_n 2, 1), (11, .if_icmp .ge 21, 3), (32, .aload_n 3, 1), (33, .areturn, 1), (14, .aload_n 3, 1), (15, .iload 4, 2), (17, .aload_n 0, 1), (18, .iload_n 1, 1), (19, .caload, 1), (20, .invokestatic 111, 3), (23, .iinc 1 1, 3), (26, .iinc 4 1, 3), (29, .goto (-21), 3)] : List (Nat × Instr × Nat)), decode j48 x.1 = .ok x.2 := by decide +kernel
theorem own_pd14 : parseMethodDescriptor "(I)[B" = some ⟨[.int], some (.array .byte)⟩ := by decide +kernel
theorem own_pd15 : parseMethodDescriptor "([BII)V" = some ⟨[(.array .byte), .int, .int], none⟩ := by decide +kernel
def Q_toby (Z : State) (a1 : Addr) (cs : List Int32) (kc : ClassId) (zc : Int32) (fm : Value) (h0 : Heap) (n0 : Nat) (v : Option Value) (h : Heap) (L : List Loc) : Prop := ∃ (b : Addr) (kb : ClassId), v = some (.ref b) ∧ Fr n0 L ∧ Keep h0 h [] ∧ h0.size ≤ b ∧ Arv Z h b kb .byte (Int32.ofNat (2 * cs.length)) (StrChars.Road.wideBytes cs) (.int 0) ∧ Exa Z h b "[B"
theorem rm_toby (hw : own_H a0 Z) (a1 : Addr) (cs : List Int32) (kc : ClassId) (zc : Int32) (fm : Value) (h0 : Heap) (n0 : Nat) (Z0 : n0 ≤ h0.size) (P0_ : Arv Z h0 a1 kc .char (Int32.ofNat cs.length) (cs.map Value.int) (.int 0)) (hl : cs.length ≤ 20) (SS : own_St Z h0 zc fm) : own_M l y48 j48 5 (some (.array .byte)) (own_R 2 1 40 24) #[(.ref a1), (.int (0 : Int32)), (.int (Int32.ofNat cs.length))] Z h0 (Q_toby Z a1 cs kc zc fm h0 n0) := by
 refine own_body (plainFor_of_name own_pn4) (fun p e s m below meth c s₁ Bd hZ hx hby hml hown hnm X0 e0 => ?_)
 have hown : s.vm.findClass "java/lang/StringUTF16" = some m.cls := hown
 have N0 := Fr.nil n0
 have D := own_dt hby d48
 refine own_cast (g' := mkF m 0 #[vr a1, vi 0, vi (Int32.ofNat cs.length), vu, vu] []) rfl ?_
 show own_G _ _ _ _ (s₁.setTop (mkF m 0 #[vr a1, vi 0, vi (Int32.ofNat cs.length), vu, vu] []))
 refine own_go (fun _ Kk => XS.iloadN X0.here hx rfl (D 0 rfl) rfl Kk) ?_
 refine own_cS X0 hx hZ 0 hown (hw 236 rfl) (hw 237 rfl) (hw 26 rfl) (hw 238 rfl) (rm_nbf hw cs.length h0 n0 Z0 (by omega)) e0 own_pd14 rfl (D 1 rfl) hml (fun _ T1 _ _ X1 l1 => own_hp ?_)
 rintro h1 e1 ⟨b1b, kb1, rfl, N1q, K1q, le_b1b, F1_0, F1_1⟩
 have N1 := own_frl l1 N0 N1q
 have Z2 : n0 ≤ h1.size := Nat.le_trans Z0 K1q.1
 have g_b1b : n0 ≤ b1b := Nat.le_trans Z0 le_b1b
 have sz_b1b : h0.size ≤ b1b := Nat.le_trans (Keep.refl h0 []).1 le_b1b
 have K1 := Keep.trans (Keep.refl h0 []) K1q all0
 refine own_go (fun _ Kk => XS.astoreN X1.here hx rfl (D 2 rfl) rfl rfl (l' := #[vr a1, vi 0, vi (Int32.ofNat cs.length), vr b1b, vu]) rfl (XS.iconst X1.here hx rfl (D 3 rfl) (XS.istore X1.here hx rfl (D 4 rfl) rfl (l' := #[vr a1, vi 0, vi (Int32.ofNat cs.length), vr b1b, vi 0]) rfl Kk))) ?_
 show own_G _ _ _ _ (T1.setTop (mkF m 8 #[vr a1, vi 0, vi (Int32.ofNat cs.length), vr b1b, vi 0] []))
 have nn_a1_b1b : a1 ≠ b1b := (Nat.ne_of_lt (Nat.lt_of_lt_of_le P0_.lt le_b1b))
 have lp3 : ∀ (k : Nat) (i : Nat) (hik : i + k = cs.length) (T9 : State) (L9 : List Loc) (h9 : Heap), Stand p l e (own_R 2 1 40 24) s m #[(.ref a1), (.int (0 : Int32)), (.int (Int32.ofNat cs.length))] below meth c T9 L9 1 40 → T9.heap = h9 → Fr n0 L9 → Keep h0 h9 [] → Arv Z h9 b1b kb1 .byte (Int32.ofNat (2 * cs.length)) (StrChars.Road.wideBytes (cs.take i)) (.int 0) → Exa Z h9 b1b "[B" → own_G p e below (own_K (Q_toby Z a1 cs kc zc fm h0 n0) 1 40 s) (T9.setTop (mkF m 8 #[vr a1, vi (Int32.ofNat i), vi (Int32.ofNat cs.length), vr b1b, vi (Int32.ofNat i)] [])) := by
  intro k
  induction k with
  | zero =>
   intro i hik T9 L9 h9 X9 e9 N9 K9 iv0 iv1
   have Z9 : n0 ≤ h9.size := Nat.le_trans Z0 K9.1
   show own_G _ _ _ _ (T9.setTop (mkF m 8 #[vr a1, vi (Int32.ofNat i), vi (Int32.ofNat cs.length), vr b1b, vi (Int32.ofNat i)] []))
   show own_G _ _ _ _ (T9.setTop (mkF m 8 #[vr a1, vi (Int32.ofNat i), vi (Int32.ofNat cs.length), vr b1b, vi (Int32.ofNat i)] []))
   refine own_go (fun _ Kk => XS.iload X9.here hx rfl (D 5 rfl) rfl (XS.iloadN X9.here hx rfl (D 6 rfl) rfl (XS.icmpYes X9.here hx rfl (pc0 := 11) (pc' := 32) rfl (D 7 rfl) rfl (flt (fun q => absurd ((own_ltn (by omega) (by omega)).mp q) (by omega))).2.1 (by decide) (by decide) (XS.aloadN X9.here hx rfl (D 8 rfl) rfl rfl Kk)))) ?_
   exact own_rR X9 hx Bd (D 9 rfl) e9 ⟨b1b, kb1, rfl, N9, K9, sz_b1b, (by have q := iv0; rw [show i = cs.length from by omega, List.take_length] at q; exact q), iv1⟩
  | succ k ih =>
   intro i hik T9 L9 h9 X9 e9 N9 K9 iv0 iv1
   have Z9 : n0 ≤ h9.size := Nat.le_trans Z0 K9.1
   show own_G _ _ _ _ (T9.setTop (mkF m 8 #[vr a1, vi (Int32.ofNat i), vi (Int32.ofNat cs.length), vr b1b, vi (Int32.ofNat i)] []))
   have hvl : (StrChars.Road.wideBytes (cs.take i)).length = 2 * i := by rw [own_wlen, List.length_take, Nat.min_eq_left (by omega)]
   show own_G _ _ _ _ (T9.setTop (mkF m 8 #[vr a1, vi (Int32.ofNat i), vi (Int32.ofNat cs.length), vr b1b, vi (Int32.ofNat i)] []))
   refine own_go (fun _ Kk => XS.iload X9.here hx rfl (D 5 rfl) rfl (XS.iloadN X9.here hx rfl (D 6 rfl) rfl (XS.icmpNo X9.here hx rfl (D 7 rfl) rfl (tlt (own_onl (by omega) (by omega))).2.1 (XS.aloadN X9.here hx rfl (D 10 rfl) rfl rfl (XS.iload X9.here hx rfl (D 11 rfl) rfl Kk))))) ?_
   show own_G _ _ _ _ (T9.setTop (mkF m 17 #[vr a1, vi (Int32.ofNat i), vi (Int32.ofNat cs.length), vr b1b, vi (Int32.ofNat i)] [.int (Int32.ofNat i), .ref b1b]))
   refine own_go (fun _ Kk => XS.aloadN X9.here hx rfl (D 12 rfl) rfl rfl (XS.iloadN X9.here hx rfl (D 13 rfl) rfl Kk)) ?_
   have Q5 := (P0_.keep K9 List.not_mem_nil)
   obtain ⟨cl4, Ar4, -, Sz4, Nn4, Hh4, -⟩ := id Q5
   have hin4 : ¬ ((Int32.ofNat i) < 0 ∨ cl4.slots.size ≤ ((Int32.ofNat i)).toNatClampNeg) := inb_of Sz4 ⟨own_onn i (by omega), own_onl (by omega) (by omega)⟩
   have hat4 : cl4.slots[((Int32.ofNat i)).toNatClampNeg]? = some (.int (cs.getD i 0)) := Has.at Hh4 hin4 (by rw [own_onc i (by omega)]; exact own_cg (by omega) _)
   refine own_go (X9.caload hx (j := (Int32.ofNat i)) (v := (.int (cs.getD i 0))) (by rw [e9]; exact Ar4.1) (State.isArrayOf_alike hZ.alike Ar4.2.1) Ar4.2.2 hin4 hat4 (g := (mkF m 19 #[vr a1, vi (Int32.ofNat i), vi (Int32.ofNat cs.length), vr b1b, vi (Int32.ofNat i)] [.int (Int32.ofNat i), .ref a1, .int (Int32.ofNat i), .ref b1b])) rfl rfl (D 14 rfl)) ?_
   have Q7 := (SS.keep K9 all0)
   refine own_cS X9 hx hZ 0 hown (hw 243 rfl) (hw 244 rfl) (hw 26 rfl) (hw 245 rfl) (rm_putc hw b1b (cs.getD i 0) kb1 cs.length i (StrChars.Road.wideBytes (cs.take i)) zc fm h9 n0 Z9 iv0 g_b1b (by omega) (by omega) hvl Q7) e9 own_pd15 rfl (D 15 rfl) hml (fun _ T6 _ _ X6 l6 => own_hp ?_)
   rintro h6 e6 ⟨rfl, N6q, K6q, F6_0⟩
   have N6 := own_frl l6 N9 N6q
   have Z8 : n0 ≤ h6.size := Nat.le_trans Z9 K6q.1
   have K6 := Keep.trans K9 K6q (allS (Or.inr sz_b1b) all0)
   have VV6 := F6_0
   rw [← own_wtk (by omega)] at VV6
   refine own_go (fun _ Kk => XS.iinc X6.here hx rfl (D 16 rfl) rfl (l' := #[vr a1, vi ((Int32.ofNat i) + (1 : Int32)), vi (Int32.ofNat cs.length), vr b1b, vi (Int32.ofNat i)]) rfl Kk) ?_
   show own_G _ _ _ _ (T6.setTop (mkF m 26 #[vr a1, vi ((Int32.ofNat i) + (1 : Int32)), vi (Int32.ofNat cs.length), vr b1b, vi (Int32.ofNat i)] []))
   rw [show ((Int32.ofNat i) + (1 : Int32)) = (Int32.ofNat (i + 1)) from own_add1 i (by omega)]
   refine own_go (fun _ Kk => XS.iinc X6.here hx rfl (D 17 rfl) rfl (l' := #[vr a1, vi (Int32.ofNat (i + 1)), vi (Int32.ofNat cs.length), vr b1b, vi ((Int32.ofNat i) + (1 : Int32))]) rfl Kk) ?_
   show own_G _ _ _ _ (T6.setTop (mkF m 29 #[vr a1, vi (Int32.ofNat (i + 1)), vi (Int32.ofNat cs.length), vr b1b, vi ((Int32.ofNat i) + (1 : Int32))] []))
   rw [show ((Int32.ofNat i) + (1 : Int32)) = (Int32.ofNat (i + 1)) from own_add1 i (by omega)]
   refine own_go (fun _ Kk => XS.goto X6.here hx rfl (pc0 := 29) (pc' := 8) rfl (D 18 rfl) (by decide) (by decide) Kk) ?_
   show own_G _ _ _ _ (T6.setTop (mkF m 8 #[vr a1, vi (Int32.ofNat (i + 1)), vi (Int32.ofNat cs.length), vr b1b, vi (Int32.ofNat (i + 1))] []))
   have Q9 := (iv1.keep K6q)
   exact ih (i + 1) (by omega) _ _ _ X6 e6 N6 K6 VV6 Q9
 exact lp3 cs.length 0 (by omega) _ _ _ X1 e1 N1 K1 F1_0 F1_1
end Jvm.Pilot.@@N@@
namespace Jvm.Pilot.@@N@@
open Jvm Jvm.ClassFile Sem Op Lib Jvm.Free Jvm.Stand Jvm.LawKit Jvm.RoadKit Bundle Jvm.Pilot.@@N@@.Jvm.D
set_option maxRecDepth 65536
set_option maxHeartbeats 40000000
variable {l : Launch} {Z : State} {a0 : Array Value}
theorem d5 : ∀ x ∈ ([(0, .iload_n 2, 1), (1, .newarray .byte, 2), (3, .astore_n 3, 1), (4, .aload_n 0, 1), (5, .iload_n 1, 1), (6, .aload_n 3, 1), (7, .iconst 0, 1), (8, .iload_n 2, 1), (9, .invokestatic 115, 3), (12, .istore 4, 2), (14, .iload 4, 2), (16, .iload_n 2, 1), (17, .if_icmp .eq 40, 3), (57, .aload_n 3, 1), (58, .areturn, 1), (20, .aload_n 0, 1), (21, .iload_n 1, 1), (22, .iload_n 2, 1), (23, .invokestatic 119, 3), (26, .astore 5, 2), (28, .aload 5, 2), (30, .iload 4, 2), (32, .invokestatic 71, 3), (35, .sipush 255, 3), (38, .if_icmp .gt 16, 3), (54, .aload 5, 2), (56, .areturn, 1)] : List (Nat × Instr × Nat)), decode j5 x.1 = .ok x.2 := by decide +kernel
theorem own_pd16 : parseMethodDescriptor "([CI[BII)I" = some ⟨[(.array .char), .int, (.array .byte), .int, .int], some .int⟩ := by decide +kernel
theorem own_pd17 : parseMethodDescriptor "([CII)[B" = some ⟨[(.array .char), .int, .int], some (.array .byte)⟩ := by decide +kernel
def Q_cp3 (Z : State) (a1 : Addr) (cs : List Int32) (kc : ClassId) (zc : Int32) (fm : Value) (h0 : Heap) (n0 : Nat) (v : Option Value) (h : Heap) (L : List Loc) : Prop := ∃ (d : Addr) (kd : ClassId) (cd : Int32) (Nb : Int32) (vs2 : List Value), v = some (.ref d) ∧ Fr n0 L ∧ Keep h0 h [] ∧ h0.size ≤ d ∧ Arv Z h d kd .byte Nb vs2 (.int 0) ∧ Exa Z h d "[B" ∧ (StrChars.Road.CodA cs cd Nb vs2)
theorem rm_cp3 (hw : own_H a0 Z) (a1 : Addr) (cs : List Int32) (kc : ClassId) (zc : Int32) (fm : Value) (h0 : Heap) (n0 : Nat) (Z0 : n0 ≤ h0.size) (P0_ : Arv Z h0 a1 kc .char (Int32.ofNat cs.length) (cs.map Value.int) (.int 0)) (hl : cs.length ≤ 20) (hbd : ∀ c ∈ cs, ¬ c < 0 ∧ ¬ (65535 : Int32) < c) (SS : own_St Z h0 zc fm) : own_M l y5 j5 6 (some (.array .byte)) (own_R 3 2 60 40) #[(.ref a1), (.int (0 : Int32)), (.int (Int32.ofNat cs.length))] Z h0 (Q_cp3 Z a1 cs kc zc fm h0 n0) := by
 refine own_body (plainFor_of_name own_pn4) (fun p e s m below meth c s₁ Bd hZ hx hby hml hown hnm X0 e0 => ?_)
 have hown : s.vm.findClass "java/lang/StringUTF16" = some m.cls := hown
 have N0 := Fr.nil n0
 have D := own_dt hby d5
 refine own_cast (g' := mkF m 0 #[vr a1, vi 0, vi (Int32.ofNat cs.length), vu, vu, vu] []) rfl ?_
 show own_G _ _ _ _ (s₁.setTop (mkF m 0 #[vr a1, vi 0, vi (Int32.ofNat cs.length), vu, vu, vu] []))
 refine own_go (fun _ Kk => XS.iloadN X0.here hx rfl (D 0 rfl) rfl Kk) ?_
 obtain ⟨T1, h1, k1, X1, e1, E1, A1, B1, st1⟩ := newPE X0 hx hZ (hw 28 rfl) e0 (g := (mkF m 1 #[vr a1, vi 0, vi (Int32.ofNat cs.length), vu, vu, vu] [.int (Int32.ofNat cs.length)])) rfl (D 1 rfl) rfl (own_onn _ (by omega)) (cap := 20) (by rw [own_onc _ (by omega)]; exact hl) (by decide) (by decide) (by decide) (ad := "[B") (by decide)
 obtain ⟨b1, g1⟩ : ∃ z, z = h0.size := ⟨_, rfl⟩
 rw [← g1] at A1 B1 st1
 refine own_go st1 ?_
 have g_b1 : n0 ≤ b1 := Nat.le_trans Z0 (Nat.le_of_eq g1.symm)
 have V1 : Arv Z h1 b1 k1 .byte (Int32.ofNat cs.length) [] (.int (0 : Int32)) := Arv.new A1 (own_onn _ (by omega))
 have Z2 : n0 ≤ h1.size := Nat.le_trans Z0 E1.1
 have sz_b1 : h0.size ≤ b1 := Nat.le_trans (Keep.refl h0 []).1 (Nat.le_of_eq g1.symm)
 have K3 := Keep.ext (Keep.refl h0 []) E1
 refine own_go (fun _ Kk => XS.astoreN X1.here hx rfl (D 2 rfl) rfl rfl (l' := #[vr a1, vi 0, vi (Int32.ofNat cs.length), vr b1, vu, vu]) rfl (XS.aloadN X1.here hx rfl (D 3 rfl) rfl rfl (XS.iloadN X1.here hx rfl (D 4 rfl) rfl Kk))) ?_
 show own_G _ _ _ _ (T1.setTop (mkF m 6 #[vr a1, vi 0, vi (Int32.ofNat cs.length), vr b1, vu, vu] [.int 0, .ref a1]))
 refine own_go (fun _ Kk => XS.aloadN X1.here hx rfl (D 5 rfl) rfl rfl (XS.iconst X1.here hx rfl (D 6 rfl) (XS.iloadN X1.here hx rfl (D 7 rfl) rfl Kk))) ?_
 have Q5 := (P0_.ext E1)
 refine own_cS X1 hx hZ 0 hown (hw 29 rfl) (hw 30 rfl) (hw 26 rfl) (hw 31 rfl) (rm_cp5 hw a1 b1 cs kc k1 h1 n0 Z2 Q5 V1 g_b1 hl (Nat.ne_of_lt (Nat.lt_of_lt_of_le P0_.lt (Nat.le_of_eq g1.symm)))) e1 own_pd16 rfl (D 8 rfl) hml (fun _ T4 _ _ X4 l4 => own_hp ?_)
 rintro h4 e4 ⟨z4, vs14, rfl, N4q, K4q, F4_0, x4_0⟩
 have N4 := own_frl l4 N0 N4q
 have Z6 : n0 ≤ h4.size := Nat.le_trans Z2 K4q.1
 have K4 := Keep.trans K3 K4q (allS (Or.inr sz_b1) all0)
 show own_G _ _ _ _ (T4.setTop (mkF m 12 #[vr a1, vi 0, vi (Int32.ofNat cs.length), vr b1, vu, vu] [.int z4]))
 rcases x4_0 with ⟨rfl, hall, rfl⟩ | ⟨j, hj, rfl, hgt⟩
 ·
  show own_G _ _ _ _ (T4.setTop (mkF m 12 #[vr a1, vi 0, vi (Int32.ofNat cs.length), vr b1, vu, vu] [.int (Int32.ofNat cs.length)]))
  refine own_go (fun _ Kk => XS.istore X4.here hx rfl (D 9 rfl) rfl (l' := #[vr a1, vi 0, vi (Int32.ofNat cs.length), vr b1, vi (Int32.ofNat cs.length), vu]) rfl (XS.iload X4.here hx rfl (D 10 rfl) rfl (XS.iloadN X4.here hx rfl (D 11 rfl) rfl (XS.icmpYes X4.here hx rfl (pc0 := 17) (pc' := 57) rfl (D 12 rfl) rfl (teq rfl).1 (by decide) (by decide) (XS.aloadN X4.here hx rfl (D 13 rfl) rfl rfl Kk))))) ?_
  show own_G _ _ _ _ (T4.setTop (mkF m 58 #[vr a1, vi 0, vi (Int32.ofNat cs.length), vr b1, vi (Int32.ofNat cs.length), vu] [.ref b1]))
  have Q7 := (B1.keep K4q)
  exact own_rR X4 hx Bd (D 14 rfl) e4 ⟨b1, k1, 0, (Int32.ofNat cs.length), (cs.map fun c => Value.int (StrChars.lo8 c)), rfl, N4, K4, sz_b1, F4_0, Q7, (Or.inl ⟨rfl, rfl, rfl, hall⟩)⟩
 ·
  show own_G _ _ _ _ (T4.setTop (mkF m 12 #[vr a1, vi 0, vi (Int32.ofNat cs.length), vr b1, vu, vu] [.int (Int32.ofNat j)]))
  refine own_go (fun _ Kk => XS.istore X4.here hx rfl (D 9 rfl) rfl (l' := #[vr a1, vi 0, vi (Int32.ofNat cs.length), vr b1, vi (Int32.ofNat j), vu]) rfl (XS.iload X4.here hx rfl (D 10 rfl) rfl (XS.iloadN X4.here hx rfl (D 11 rfl) rfl (XS.icmpNo X4.here hx rfl (D 12 rfl) rfl (feq (fun q => absurd (own_inj (by omega) (by omega) q) (by omega))).1 (XS.aloadN X4.here hx rfl (D 15 rfl) rfl rfl Kk))))) ?_
  show own_G _ _ _ _ (T4.setTop (mkF m 21 #[vr a1, vi 0, vi (Int32.ofNat cs.length), vr b1, vi (Int32.ofNat j), vu] [.ref a1]))
  refine own_go (fun _ Kk => XS.iloadN X4.here hx rfl (D 16 rfl) rfl (XS.iloadN X4.here hx rfl (D 17 rfl) rfl Kk)) ?_
  have Q9 := (Q5.keep K4q (own_nc (Nat.ne_of_lt (Nat.lt_of_lt_of_le P0_.lt (Nat.le_of_eq g1.symm))) List.not_mem_nil))
  have Q10 := ((SS.ext E1).keep K4q (allS (fun cl hc => B1.nostat cl hc) all0))
  refine own_cS X4 hx hZ 0 hown (hw 233 rfl) (hw 234 rfl) (hw 26 rfl) (hw 235 rfl) (rm_toby hw a1 cs kc zc fm h4 n0 Z6 Q9 hl Q10) e4 own_pd17 rfl (D 18 rfl) hml (fun _ T8 _ _ X8 l8 => own_hp ?_)
  rintro h8 e8 ⟨b8b, kb8, rfl, N8q, K8q, le_b8b, F8_0, F8_1⟩
  have N8 := own_frl l8 N4 N8q
  have Z11 : n0 ≤ h8.size := Nat.le_trans Z6 K8q.1
  have g_b8b : n0 ≤ b8b := Nat.le_trans Z6 le_b8b
  have sz_b8b : h0.size ≤ b8b := Nat.le_trans K4.1 le_b8b
  have K8 := Keep.trans K4 K8q all0
  refine own_go (fun _ Kk => XS.astore X8.here hx rfl (D 19 rfl) rfl rfl (l' := #[vr a1, vi 0, vi (Int32.ofNat cs.length), vr b1, vi (Int32.ofNat j), vr b8b]) rfl (XS.aload X8.here hx rfl (D 20 rfl) rfl rfl Kk)) ?_
  show own_G _ _ _ _ (T8.setTop (mkF m 30 #[vr a1, vi 0, vi (Int32.ofNat cs.length), vr b1, vi (Int32.ofNat j), vr b8b] [.ref b8b]))
  refine own_go (fun _ Kk => XS.iload X8.here hx rfl (D 21 rfl) rfl Kk) ?_
  have Q13 := (Q10.keep K8q all0)
  refine own_cS X8 hx hZ 0 hown (hw 249 rfl) (hw 250 rfl) (hw 26 rfl) (hw 251 rfl) (rm_gch hw b8b kb8 cs j zc fm h8 n0 Z11 F8_0 hj (by omega) hbd Q13) e8 own_pd5 rfl (D 22 rfl) hml ?_
  rintro _ T12 _ _ X12 l12 ⟨rfl, N12q, e12⟩
  have N12 := own_frl l12 N8 N12q
  refine own_go (fun _ Kk => XS.sipush X12.here hx rfl (D 23 rfl) (XS.icmpYes X12.here hx rfl (pc0 := 38) (pc' := 54) rfl (D 24 rfl) rfl (tlt hgt).2.2.1 (by decide) (by decide) (XS.aload X12.here hx rfl (D 25 rfl) rfl rfl Kk))) ?_
  show own_G _ _ _ _ (T12.setTop (mkF m 56 #[vr a1, vi 0, vi (Int32.ofNat cs.length), vr b1, vi (Int32.ofNat j), vr b8b] [.ref b8b]))
  exact own_rR X12 hx Bd (D 26 rfl) e12 ⟨b8b, kb8, 1, (Int32.ofNat (2 * cs.length)), (StrChars.Road.wideBytes cs), rfl, N12, K8, sz_b8b, F8_0, F8_1, (Or.inr ⟨rfl, rfl, rfl, _, own_mem hj, hgt⟩)⟩
theorem d7 : ∀ x ∈ ([(0, .iload_n 1, 1), (1, .aload_n 0, 1), (2, .arraylength, 1), (3, .isub, 1), (4, .bipush 31, 2), (6, .iushr, 1), (7, .i2b, 1), (8, .ireturn, 1)] : List (Nat × Instr × Nat)), decode j7 x.1 = .ok x.2 := by decide +kernel
def Q_cfl (Z : State) (d : Addr) (cs : List Int32) (cd : Int32) (kd : ClassId) (Nb : Int32) (vs2 : List Value) (h0 : Heap) (n0 : Nat) (v : Option Value) (h : Heap) (L : List Loc) : Prop := v = some (.int cd) ∧ Fr n0 L ∧ h = h0
theorem rm_cfl (hw : own_H a0 Z) (d : Addr) (cs : List Int32) (cd : Int32) (kd : ClassId) (Nb : Int32) (vs2 : List Value) (h0 : Heap) (n0 : Nat) (Z0 : n0 ≤ h0.size) (P0_ : Arv Z h0 d kd .byte Nb vs2 (.int 0)) (hl : cs.length ≤ 4000) (hco : StrChars.Road.CodA cs cd Nb vs2) : own_M l y7 j7 2 (some .byte) (own_R 0 0 0 0) #[(.ref d), (.int (Int32.ofNat cs.length))] Z h0 (Q_cfl Z d cs cd kd Nb vs2 h0 n0) := by
 refine own_body (plainFor_of_name own_pn4) (fun p e s m below meth c s₁ Bd hZ hx hby hml hown hnm X0 e0 => ?_)
 have hown : s.vm.findClass "java/lang/StringUTF16" = some m.cls := hown
 have N0 := Fr.nil n0
 have D := own_dt hby d7
 refine own_cast (g' := mkF m 0 #[vr d, vi (Int32.ofNat cs.length)] []) rfl ?_
 show own_G _ _ _ _ (s₁.setTop (mkF m 0 #[vr d, vi (Int32.ofNat cs.length)] []))
 refine own_go (fun _ Kk => XS.iloadN X0.here hx rfl (D 0 rfl) rfl (XS.aloadN X0.here hx rfl (D 1 rfl) rfl rfl Kk)) ?_
 obtain ⟨cl1, Ar1, -, Sz1, Nn1, -, -⟩ := id P0_
 refine own_go (X0.arraylength hx (by rw [e0]; exact Ar1.1) (State.isArrayOf_alike hZ.alike Ar1.2.1) (g := (mkF m 2 #[vr d, vi (Int32.ofNat cs.length)] [.ref d, .int (Int32.ofNat cs.length)])) rfl rfl (D 2 rfl)) ?_
 rw [len_of Sz1 Nn1]
 refine own_go (fun _ Kk => XS.isub X0.here hx rfl (D 3 rfl) rfl (XS.bipush X0.here hx rfl (D 4 rfl) Kk)) ?_
 show own_G _ _ _ _ (s₁.setTop (mkF m 6 #[vr d, vi (Int32.ofNat cs.length)] [.int 31, .int ((Int32.ofNat cs.length) - Nb)]))
 refine own_go (fun _ Kk => XS.iushr X0.here hx rfl (D 5 rfl) rfl (XS.i2b X0.here hx rfl (D 6 rfl) rfl Kk)) ?_
 show own_G _ _ _ _ (s₁.setTop (mkF m 8 #[vr d, vi (Int32.ofNat cs.length)] [.int (((((Int32.ofNat cs.length) - Nb).toUInt32 >>> ((31 : Int32) &&& 31).toUInt32).toInt32).toInt8.toInt32)]))
 rw [show (((((Int32.ofNat cs.length) - Nb).toUInt32 >>> ((31 : Int32) &&& 31).toUInt32).toInt32).toInt8.toInt32) = cd from own_cfl hco hl]
 exact own_rN X0 hx Bd (D 7 rfl) e0 (own_nbyte (own_cd01 hco)) ⟨rfl, N0, rfl⟩
theorem own_Str.exa {Z : State} {h : Heap} {x t : Addr} {cs : List Int32} (S : own_Str Z h x t cs) : Exa Z h x "java/lang/String" := by obtain ⟨kb, cd, Nb, vs, a, -⟩ := S; exact a
theorem own_fb {c : Int32} (h : c = 0 ∨ c = 1) : fits .byte (.int c) = true := by rcases h with rfl | rfl <;> rfl
theorem own_nw {c : Int32} (h : c = 0 ∨ c = 1) : narrow .byte (.int c) = .int c := by rcases h with rfl | rfl <;> rfl
theorem d3 : ∀ x ∈ ([(0, .aload_n 0, 1), (1, .invokespecial 1, 3), (4, .iload_n 3, 1), (5, .ifCond .ne 22, 3), (27, .getstatic 38, 3), (30, .ifCond .eq 28, 3), (33, .aload_n 1, 1), (34, .iload_n 2, 1), (35, .iload_n 3, 1), (36, .invokestatic 177, 3), (39, .astore 5, 2), (41, .aload_n 0, 1), (42, .aload 5, 2), (44, .iload_n 3, 1), (45, .invokestatic 47, 3), (48, .putfield 15, 3), (51, .aload_n 0, 1), (52, .aload 5, 2), (54, .putfield 9, 3), (57, .return_, 1)] : List (Nat × Instr × Nat)), decode j3 x.1 = .ok x.2 := by decide +kernel
theorem own_pd18 : parseMethodDescriptor "([BI)B" = some ⟨[(.array .byte), .int], some .byte⟩ := by decide +kernel
def Q_ini4 (Z : State) (a1 : Addr) (a2 : Addr) (cs : List Int32) (kc : ClassId) (zc : Int32) (fm : Value) (h0 : Heap) (n0 : Nat) (v : Option Value) (h : Heap) (L : List Loc) : Prop := ∃ (d : Addr), v = none ∧ Fr n0 L ∧ Keep h0 h [a1] ∧ h0.size ≤ d ∧ (own_Str Z h a1 d cs)
theorem rm_ini4 (hw : own_H a0 Z) (a1 : Addr) (a2 : Addr) (cs : List Int32) (kc : ClassId) (zc : Int32) (fm : Value) (h0 : Heap) (n0 : Nat) (Z0 : n0 ≤ h0.size) (P0_ : Fld Z h0 a1 "java/lang/String" "value" "[B" .null) (P1_ : Fld Z h0 a1 "java/lang/String" "coder" "B" (.int (0 : Int32))) (P2_ : Exa Z h0 a1 "java/lang/String") (P3_ : Arv Z h0 a2 kc .char (Int32.ofNat cs.length) (cs.map Value.int) (.int 0)) (g_a1 : n0 ≤ a1) (hl : cs.length ≤ 20) (hbd : ∀ c ∈ cs, ¬ c < 0 ∧ ¬ (65535 : Int32) < c) (hpos : 0 < cs.length) (hne : a2 ≠ a1) (SS : own_St Z h0 zc fm) : own_M l y3 j3 6 none (own_R 4 2 60 57) #[(.ref a1), (.ref a2), (.int (0 : Int32)), (.int (Int32.ofNat cs.length)), .null] Z h0 (Q_ini4 Z a1 a2 cs kc zc fm h0 n0) := by
 refine own_body (plainFor_of_name own_pn0) (fun p e s m below meth c s₁ Bd hZ hx hby hml hown hnm X0 e0 => ?_)
 have hown : s.vm.findClass "java/lang/String" = some m.cls := hown
 have N0 := Fr.nil n0
 have D := own_dt hby d3
 refine own_cast (g' := mkF m 0 #[vr a1, vr a2, vi 0, vi (Int32.ofNat cs.length), .val .null, vu] []) rfl ?_
 show own_G _ _ _ _ (s₁.setTop (mkF m 0 #[vr a1, vr a2, vi 0, vi (Int32.ofNat cs.length), .val .null, vu] []))
 refine own_go (fun _ Kk => XS.aloadN X0.here hx rfl (D 0 rfl) rfl rfl Kk) ?_
 obtain ⟨T1, X1, e1, st1⟩ := initO X0 hx hZ hown (hw 20 rfl) (hw 21 rfl) (hw 22 rfl) e0 (g := (mkF m 1 #[vr a1, vr a2, vi 0, vi (Int32.ofNat cs.length), .val .null, vu] [.ref a1])) rfl (by rw [hml]; rfl) rfl (D 1 rfl) (by decide) (W := 0) (by show 2 * 0 + _ ≤ _; exact Nat.le_of_eq rfl) (by decide)
 refine own_go st1 ?_
 refine own_go (fun _ Kk => XS.iloadN X1.here hx rfl (D 2 rfl) rfl (XS.ifYes X1.here hx rfl (pc0 := 5) (pc' := 27) rfl (D 3 rfl) rfl ((if0 _ _).trans (feq (fun q => absurd (own_inj (b := 0) (by omega) (by omega) q) (by omega))).2) (by decide) (by decide) Kk)) ?_
 refine own_gS X1 hx hZ hown (hw 23 rfl) e1 SS.2.2.1 (D 4 rfl) (fun T2 X2 e2 => ?_)
 show own_G _ _ _ _ (T2.setTop (mkF m 30 #[vr a1, vr a2, vi 0, vi (Int32.ofNat cs.length), .val .null, vu] [.int zc]))
 refine own_go (fun _ Kk => XS.ifNo X2.here hx rfl (D 5 rfl) rfl ((if0 _ _).trans (feq SS.1).1) (XS.aloadN X2.here hx rfl (D 6 rfl) rfl rfl (XS.iloadN X2.here hx rfl (D 7 rfl) rfl (XS.iloadN X2.here hx rfl (D 8 rfl) rfl Kk)))) ?_
 refine own_cS X2 hx hZ 0 hown (hw 24 rfl) (hw 25 rfl) (hw 26 rfl) (hw 27 rfl) (rm_cp3 hw a2 cs kc zc fm h0 n0 Z0 P3_ hl hbd SS) e2 own_pd17 rfl (D 9 rfl) hml (fun _ T3 _ _ X3 l3 => own_hp ?_)
 rintro h3 e3 ⟨b3d, kd3, cd3, Nb3, vs23, rfl, N3q, K3q, le_b3d, F3_0, F3_1, x3_0⟩
 have N3 := own_frl l3 N0 N3q
 have Z4 : n0 ≤ h3.size := Nat.le_trans Z0 K3q.1
 have g_b3d : n0 ≤ b3d := Nat.le_trans Z0 le_b3d
 have sz_b3d : h0.size ≤ b3d := Nat.le_trans (Keep.refl h0 [a1]).1 le_b3d
 have K3 := Keep.trans (Keep.refl h0 [a1]) K3q all0
 show own_G _ _ _ _ (T3.setTop (mkF m 39 #[vr a1, vr a2, vi 0, vi (Int32.ofNat cs.length), .val .null, vu] [.ref b3d]))
 refine own_go (fun _ Kk => XS.astore X3.here hx rfl (D 10 rfl) rfl rfl (l' := #[vr a1, vr a2, vi 0, vi (Int32.ofNat cs.length), .val .null, vr b3d]) rfl (XS.aloadN X3.here hx rfl (D 11 rfl) rfl rfl (XS.aload X3.here hx rfl (D 12 rfl) rfl rfl (XS.iloadN X3.here hx rfl (D 13 rfl) rfl Kk)))) ?_
 refine own_cS X3 hx hZ 1 hown (hw 32 rfl) (hw 33 rfl) (hw 26 rfl) (hw 34 rfl) (rm_cfl hw b3d cs cd3 kd3 Nb3 vs23 h3 n0 Z4 F3_0 (by omega) x3_0) e3 own_pd18 rfl (D 14 rfl) hml ?_
 rintro _ T5 _ _ X5 l5 ⟨rfl, N5q, e5⟩
 have N5 := own_frl l5 N3 N5q
 show own_G _ _ _ _ (T5.setTop (mkF m 48 #[vr a1, vr a2, vi 0, vi (Int32.ofNat cs.length), .val .null, vr b3d] [.int cd3, .ref a1]))
 have Q6 := (P1_.keep K3q List.not_mem_nil)
 have Q7 := (P2_.keep K3q)
 obtain ⟨T8, h8, X8, e8, W8, st8⟩ := putFN X5 hx hZ hown (hw 35 rfl) Via.refl e5 Q6 Q7 (Or.inr ⟨(hw 36 rfl), rfl, hnm⟩) (hw 11 rfl) (ty := .byte) (v' := (.int cd3)) (by decide) (own_nw (own_cd01 x3_0)) (own_fb (own_cd01 x3_0)) (g := (mkF m 48 #[vr a1, vr a2, vi 0, vi (Int32.ofNat cs.length), .val .null, vr b3d] [.int cd3, .ref a1])) rfl rfl (D 15 rfl)
 refine own_go st8 ?_
 have F8 := Q6.same W8
 have N8 := Fr.snoc X8 N5 g_a1
 have Z9 : n0 ≤ h8.size := Nat.le_trans Z4 (Keep.of_wr W8).1
 have K10 := Keep.wr K3 W8 (own_in 0 rfl)
 refine own_go (fun _ Kk => XS.aloadN X8.here hx rfl (D 16 rfl) rfl rfl (XS.aload X8.here hx rfl (D 17 rfl) rfl rfl Kk)) ?_
 have Q11 := ((P0_.keep K3q List.not_mem_nil).other W8 (Or.inr (slot_ne (Or.inr (hw 38 rfl)) (Or.inr (hw 36 rfl)) (by decide) (t := (.array .byte)) (t' := .byte) (by decide) (by decide))))
 have Q12 := (Q7.wr W8)
 obtain ⟨T13, h13, X13, e13, W13, st13⟩ := putF X8 hx hZ hown (host := "") (Or.inl (hw 37 rfl)) Via.refl e8 Q11 Q12 (Or.inr ⟨(hw 38 rfl), rfl, hnm⟩) (hw 11 rfl) (ty := (.array .byte)) (by decide) rfl rfl (g := (mkF m 54 #[vr a1, vr a2, vi 0, vi (Int32.ofNat cs.length), .val .null, vr b3d] [.ref b3d, .ref a1])) rfl rfl (D 18 rfl)
 refine own_go st13 ?_
 have F13 := Q11.same W13
 have N13 := Fr.snoc X13 N8 g_a1
 have Z14 : n0 ≤ h13.size := Nat.le_trans Z9 (Keep.of_wr W13).1
 have K15 := Keep.wr K10 W13 (own_in 0 rfl)
 have Q16 := (Q12.wr W13)
 have Q17 := (F8.other W13 (Or.inr (slot_ne (Or.inr (hw 36 rfl)) (Or.inr (hw 38 rfl)) (by decide) (t := .byte) (t' := (.array .byte)) (by decide) (by decide))))
 have Q18 := ((F3_0.other W8 (Ne.symm (Nat.ne_of_lt (Nat.lt_of_lt_of_le P2_.lt le_b3d)))).other W13 (Ne.symm (Nat.ne_of_lt (Nat.lt_of_lt_of_le P2_.lt le_b3d))))
 exact own_rV X13 hx Bd (D 19 rfl) e13 ⟨b3d, rfl, N13, K15, sz_b3d, ⟨_, _, _, _, Q16, F13, Q17, Q18, x3_0, hbd, (by omega)⟩⟩
theorem d2 : ∀ x ∈ ([(0, .aload_n 0, 1), (1, .aload_n 1, 1), (2, .iconst 0, 1), (3, .aload_n 1, 1), (4, .arraylength, 1), (5, .aconst_null, 1), (6, .invokespecial 27, 3), (9, .return_, 1)] : List (Nat × Instr × Nat)), decode j2 x.1 = .ok x.2 := by decide +kernel
theorem own_pd19 : parseMethodDescriptor "([CIILjava/lang/Void;)V" = some ⟨[(.array .char), .int, .int, (.object "java/lang/Void")], none⟩ := by decide +kernel
def Q_ini1 (Z : State) (a1 : Addr) (a2 : Addr) (cs : List Int32) (kc : ClassId) (zc : Int32) (fm : Value) (h0 : Heap) (n0 : Nat) (v : Option Value) (h : Heap) (L : List Loc) : Prop := ∃ (d : Addr), v = none ∧ Fr n0 L ∧ Keep h0 h [a1] ∧ h0.size ≤ d ∧ (own_Str Z h a1 d cs)
theorem rm_ini1 (hw : own_H a0 Z) (a1 : Addr) (a2 : Addr) (cs : List Int32) (kc : ClassId) (zc : Int32) (fm : Value) (h0 : Heap) (n0 : Nat) (Z0 : n0 ≤ h0.size) (P0_ : Fld Z h0 a1 "java/lang/String" "value" "[B" .null) (P1_ : Fld Z h0 a1 "java/lang/String" "coder" "B" (.int (0 : Int32))) (P2_ : Exa Z h0 a1 "java/lang/String") (P3_ : Arv Z h0 a2 kc .char (Int32.ofNat cs.length) (cs.map Value.int) (.int 0)) (g_a1 : n0 ≤ a1) (hl : cs.length ≤ 20) (hbd : ∀ c ∈ cs, ¬ c < 0 ∧ ¬ (65535 : Int32) < c) (hpos : 0 < cs.length) (hne : a2 ≠ a1) (SS : own_St Z h0 zc fm) : own_M l y2 j2 2 none (own_R 5 2 60 74) #[(.ref a1), (.ref a2)] Z h0 (Q_ini1 Z a1 a2 cs kc zc fm h0 n0) := by
 refine own_body (plainFor_of_name own_pn0) (fun p e s m below meth c s₁ Bd hZ hx hby hml hown hnm X0 e0 => ?_)
 have hown : s.vm.findClass "java/lang/String" = some m.cls := hown
 have N0 := Fr.nil n0
 have D := own_dt hby d2
 refine own_cast (g' := mkF m 0 #[vr a1, vr a2] []) rfl ?_
 show own_G _ _ _ _ (s₁.setTop (mkF m 0 #[vr a1, vr a2] []))
 refine own_go (fun _ Kk => XS.aloadN X0.here hx rfl (D 0 rfl) rfl rfl (XS.aloadN X0.here hx rfl (D 1 rfl) rfl rfl (XS.iconst X0.here hx rfl (D 2 rfl) (XS.aloadN X0.here hx rfl (D 3 rfl) rfl rfl Kk)))) ?_
 obtain ⟨cl1, Ar1, -, Sz1, Nn1, -, -⟩ := id P3_
 refine own_go (X0.arraylength hx (by rw [e0]; exact Ar1.1) (State.isArrayOf_alike hZ.alike Ar1.2.1) (g := (mkF m 4 #[vr a1, vr a2] [.ref a2, .int 0, .ref a2, .ref a1])) rfl rfl (D 4 rfl)) ?_
 rw [len_of Sz1 Nn1]
 show own_G _ _ _ _ (s₁.setTop (mkF m 5 #[vr a1, vr a2] [.int (Int32.ofNat cs.length), .int 0, .ref a2, .ref a1]))
 refine own_go (fun _ Kk => XS.aconstNull X0.here hx rfl (D 5 rfl) Kk) ?_
 refine own_cI X0 hx hZ 0 hown (hw 16 rfl) (hw 17 rfl) (hw 19 rfl) (hw 12 rfl) (rm_ini4 hw a1 a2 cs kc zc fm h0 n0 Z0 P0_ P1_ P2_ P3_ g_a1 hl hbd hpos hne SS) e0 own_pd19 rfl (D 6 rfl) hml (fun _ T2 _ _ X2 l2 => own_hp ?_)
 rintro h2 e2 ⟨b2d, rfl, N2q, K2q, le_b2d, x2_0⟩
 have N2 := own_frl l2 N0 N2q
 have Z3 : n0 ≤ h2.size := Nat.le_trans Z0 K2q.1
 have g_b2d : n0 ≤ b2d := Nat.le_trans Z0 le_b2d
 have sz_b2d : h0.size ≤ b2d := Nat.le_trans (Keep.refl h0 [a1]).1 le_b2d
 have K2 := Keep.trans (Keep.refl h0 [a1]) K2q (allS (own_in 0 rfl) all0)
 exact own_rV X2 hx Bd (D 7 rfl) e2 ⟨b2d, rfl, N2, K2, sz_b2d, x2_0⟩
end Jvm.Pilot.@@N@@
namespace Jvm.Pilot.@@N@@
open Jvm Jvm.ClassFile Sem Op Lib Jvm.Free Jvm.Stand Jvm.LawKit Jvm.RoadKit Bundle Jvm.Pilot.@@N@@.Jvm.D
set_option maxRecDepth 65536
set_option maxHeartbeats 40000000
variable {l : Launch} {Z : State} {a0 : Array Value}

theorem own_sub0 (n : Nat) (h : n ≤ 4000) : Int32.ofNat n - (0 : Int32) = Int32.ofNat n := own_subn n 0 (by omega) (by omega)
theorem own_subz (x : Int32) : x - (0 : Int32) = x := by
  have q := c_isub x 0; have e : (0 : Int32).toInt = 0 := rfl; have r1 := Int32.le_toInt (x - 0); have r2 := Int32.toInt_lt (x - 0); have s1 := Int32.le_toInt x; have s2 := Int32.toInt_lt x
  apply Int32.toInt_inj.mp; omega
theorem own_addz (x : Int32) : (0 : Int32) + x = x := by
  have q := c_iadd 0 x; have e : (0 : Int32).toInt = 0 := rfl; have r1 := Int32.le_toInt (0 + x); have r2 := Int32.toInt_lt (0 + x); have s1 := Int32.le_toInt x; have s2 := Int32.toInt_lt x
  apply Int32.toInt_inj.mp; omega
theorem own_shl0 (x : Int32) : x <<< ((0 : Int32) &&& 31) = x := by
  have q := c_ishl x 0 0 (by decide); have r1 := Int32.le_toInt (x <<< ((0 : Int32) &&& 31)); have r2 := Int32.toInt_lt (x <<< ((0 : Int32) &&& 31)); have s1 := Int32.le_toInt x; have s2 := Int32.toInt_lt x
  apply Int32.toInt_inj.mp; omega
theorem own_rngm (L : List Value) (n : Nat) (d : Value) : (List.range n).map (fun i => L.getD (0 + i) d) = L.take n ++ List.replicate (n - L.length) d := by
  apply List.ext_getElem?; intro i
  by_cases h : i < n
  · rw [List.getElem?_map, List.getElem?_range h]
    simp only [Option.map_some, Nat.zero_add, List.getD_eq_getElem?_getD]
    by_cases q : i < L.length
    · rw [List.getElem?_append_left (by rw [List.length_take]; omega), List.getElem?_take_of_lt h, List.getElem?_eq_getElem q]; rfl
    · rw [List.getElem?_append_right (by rw [List.length_take]; omega), List.getElem?_eq_none (Nat.le_of_not_lt q), List.getElem?_replicate, if_pos (by rw [List.length_take]; omega)]; rfl
  · rw [List.getElem?_eq_none (by simp; omega), List.getElem?_eq_none (by simp; omega)]
theorem own_rngt (L : List Value) (n : Nat) (d : Value) (h : n ≤ L.length) : (List.range n).map (fun i => L.getD (0 + i) d) = L.take n := by
  rw [own_rngm, Nat.sub_eq_zero_of_le h]; simp
theorem own_cpad {us ls : List Value} {nu len : Nat} (hu : us.length = nu) (hl : ls.length = len) (M : Nat) (h : len ≤ M) (d : Value) : ∀ i, (us ++ ls).getD i d = ((us ++ List.replicate M d).take nu ++ ls ++ (us ++ List.replicate M d).drop (nu + len)).getD i d := by
  intro i
  have e1 : (us ++ List.replicate M d).take nu = us := by rw [← hu]; simp
  have e2 : (us ++ List.replicate M d).drop (nu + len) = List.replicate (M - len) d := by rw [← hu, List.drop_append]; simp
  rw [e1, e2]; exact (pad_rep _ _ _ _).symm
theorem own_ltz {a : Nat} (h : 0 < a) (q : a ≤ 4000) : ¬ Int32.ofNat a = 0 := fun e => by have := own_inj (a := a) (b := 0) (by omega) (by omega) e; omega
theorem d45 : ∀ x ∈ ([(0, .iload_n 1, 1), (1, .iload_n 0, 1), (2, .if_icmp .ge 35, 3), (37, .return_, 1)] : List (Nat × Instr × Nat)), decode j45 x.1 = .ok x.2 := by decide +kernel
theorem own_pn6 : plainName "java/util/Arrays" = true := by first | (simp [plainName, overriddenIn]; done) | decide +kernel
def Q_ckl (Z : State) (i : Nat) (h0 : Heap) (n0 : Nat) (v : Option Value) (h : Heap) (L : List Loc) : Prop := v = none ∧ Fr n0 L ∧ h = h0
theorem rm_ckl (hw : own_H a0 Z) (i : Nat) (h0 : Heap) (n0 : Nat) (Z0 : n0 ≤ h0.size) (hi20 : i ≤ 40) : own_M l y45 j45 2 none (own_R 0 0 0 0) #[(.int (0 : Int32)), (.int (Int32.ofNat i))] Z h0 (Q_ckl Z i h0 n0) := by
 refine own_body (plainFor_of_name own_pn6) (fun p e s m below meth c s₁ Bd hZ hx hby hml hown hnm X0 e0 => ?_)
 have hown : s.vm.findClass "java/util/Arrays" = some m.cls := hown
 have N0 := Fr.nil n0
 have D := own_dt hby d45
 refine own_cast (g' := mkF m 0 #[vi 0, vi (Int32.ofNat i)] []) rfl ?_
 show own_G _ _ _ _ (s₁.setTop (mkF m 0 #[vi 0, vi (Int32.ofNat i)] []))
 refine own_go (fun _ Kk => XS.iloadN X0.here hx rfl (D 0 rfl) rfl (XS.iloadN X0.here hx rfl (D 1 rfl) rfl (XS.icmpYes X0.here hx rfl (pc0 := 2) (pc' := 37) rfl (D 2 rfl) rfl (flt (own_onn i (by omega))).2.1 (by decide) (by decide) Kk))) ?_
 exact own_rV X0 hx Bd (D 3 rfl) e0 ⟨rfl, N0, rfl⟩
theorem d44 : ∀ x ∈ ([(0, .iload_n 1, 1), (1, .iload_n 2, 1), (2, .invokestatic 343, 3), (5, .iload_n 2, 1), (6, .iload_n 1, 1), (7, .isub, 1), (8, .istore_n 3, 1), (9, .iload_n 3, 1), (10, .newarray .byte, 2), (12, .astore 4, 2), (14, .aload_n 0, 1), (15, .iload_n 1, 1), (16, .aload 4, 2), (18, .iconst 0, 1), (19, .aload_n 0, 1), (20, .arraylength, 1), (21, .iload_n 1, 1), (22, .isub, 1), (23, .iload_n 3, 1), (24, .invokestatic 304, 3), (27, .invokestatic 150, 3), (30, .aload 4, 2), (32, .areturn, 1)] : List (Nat × Instr × Nat)), decode j44 x.1 = .ok x.2 := by decide +kernel
def Q_corb (Z : State) (t : Addr) (kb : ClassId) (Nb : Int32) (us : List Value) (i : Nat) (h0 : Heap) (n0 : Nat) (v : Option Value) (h : Heap) (L : List Loc) : Prop := ∃ (b : Addr) (kx : ClassId), v = some (.ref b) ∧ Fr n0 L ∧ Keep h0 h [] ∧ h0.size ≤ b ∧ Arv Z h b kx .byte (Int32.ofNat i) (us.take i) (.int 0) ∧ Exa Z h b "[B"
theorem rm_corb (hw : own_H a0 Z) (t : Addr) (kb : ClassId) (Nb : Int32) (us : List Value) (i : Nat) (h0 : Heap) (n0 : Nat) (Z0 : n0 ≤ h0.size) (P0_ : Arv Z h0 t kb .byte Nb us (.int 0)) (hi40 : i ≤ 40) (hlt : Int32.ofNat i < Nb) (hul : i ≤ us.length) : own_M l y44 j44 5 (some (.array .byte)) (own_R 1 1 40 40) #[(.ref t), (.int (0 : Int32)), (.int (Int32.ofNat i))] Z h0 (Q_corb Z t kb Nb us i h0 n0) := by
 refine own_body (plainFor_of_name own_pn6) (fun p e s m below meth c s₁ Bd hZ hx hby hml hown hnm X0 e0 => ?_)
 have hown : s.vm.findClass "java/util/Arrays" = some m.cls := hown
 have N0 := Fr.nil n0
 have D := own_dt hby d44
 refine own_cast (g' := mkF m 0 #[vr t, vi 0, vi (Int32.ofNat i), vu, vu] []) rfl ?_
 have hle : i ≤ Nb.toNatClampNeg := by
   have q := hlt; rw [Int32.lt_iff_toInt_lt, own_on i (by omega)] at q; simp only [Int32.toNatClampNeg]; omega
 show own_G _ _ _ _ (s₁.setTop (mkF m 0 #[vr t, vi 0, vi (Int32.ofNat i), vu, vu] []))
 refine own_go (fun _ Kk => XS.iloadN X0.here hx rfl (D 0 rfl) rfl (XS.iloadN X0.here hx rfl (D 1 rfl) rfl Kk)) ?_
 refine own_cS X0 hx hZ 0 hown (hw 218 rfl) (hw 219 rfl) (hw 213 rfl) (hw 220 rfl) (rm_ckl hw i h0 n0 Z0 (by omega)) e0 own_pd2 rfl (D 2 rfl) hml ?_
 rintro _ T1 _ _ X1 l1 ⟨rfl, N1q, e1⟩
 have N1 := own_frl l1 N0 N1q
 refine own_go (fun _ Kk => XS.iloadN X1.here hx rfl (D 3 rfl) rfl (XS.iloadN X1.here hx rfl (D 4 rfl) rfl Kk)) ?_
 show own_G _ _ _ _ (T1.setTop (mkF m 7 #[vr t, vi 0, vi (Int32.ofNat i), vu, vu] [.int 0, .int (Int32.ofNat i)]))
 refine own_go (fun _ Kk => XS.isub X1.here hx rfl (D 5 rfl) rfl Kk) ?_
 show own_G _ _ _ _ (T1.setTop (mkF m 8 #[vr t, vi 0, vi (Int32.ofNat i), vu, vu] [.int ((Int32.ofNat i) - (0 : Int32))]))
 rw [show ((Int32.ofNat i) - (0 : Int32)) = (Int32.ofNat i) from own_sub0 i (by omega)]
 refine own_go (fun _ Kk => XS.istoreN X1.here hx rfl (D 6 rfl) rfl (l' := #[vr t, vi 0, vi (Int32.ofNat i), vi (Int32.ofNat i), vu]) rfl (XS.iloadN X1.here hx rfl (D 7 rfl) rfl Kk)) ?_
 obtain ⟨T2, h2, k2, X2, e2, E2, A2, B2, st2⟩ := newPE X1 hx hZ (hw 28 rfl) e1 (g := (mkF m 10 #[vr t, vi 0, vi (Int32.ofNat i), vi (Int32.ofNat i), vu] [.int (Int32.ofNat i)])) rfl (D 8 rfl) rfl (own_onn i (by omega)) (cap := 40) (by rw [own_onc i (by omega)]; omega) (by decide) (by decide) (by decide) (ad := "[B") (by decide)
 obtain ⟨b2, g2⟩ : ∃ z, z = h0.size := ⟨_, rfl⟩
 rw [← g2] at A2 B2 st2
 refine own_go st2 ?_
 have g_b2 : n0 ≤ b2 := Nat.le_trans Z0 (Nat.le_of_eq g2.symm)
 have V2 : Arv Z h2 b2 k2 .byte (Int32.ofNat i) [] (.int (0 : Int32)) := Arv.new A2 (own_onn i (by omega))
 have Z3 : n0 ≤ h2.size := Nat.le_trans Z0 E2.1
 have sz_b2 : h0.size ≤ b2 := Nat.le_trans (Keep.refl h0 []).1 (Nat.le_of_eq g2.symm)
 have K4 := Keep.ext (Keep.refl h0 []) E2
 refine own_go (fun _ Kk => XS.astore X2.here hx rfl (D 9 rfl) rfl rfl (l' := #[vr t, vi 0, vi (Int32.ofNat i), vi (Int32.ofNat i), vr b2]) rfl Kk) ?_
 show own_G _ _ _ _ (T2.setTop (mkF m 14 #[vr t, vi 0, vi (Int32.ofNat i), vi (Int32.ofNat i), vr b2] []))
 refine own_go (fun _ Kk => XS.aloadN X2.here hx rfl (D 10 rfl) rfl rfl (XS.iloadN X2.here hx rfl (D 11 rfl) rfl (XS.aload X2.here hx rfl (D 12 rfl) rfl rfl (XS.iconst X2.here hx rfl (D 13 rfl) (XS.aloadN X2.here hx rfl (D 14 rfl) rfl rfl Kk))))) ?_
 show own_G _ _ _ _ (T2.setTop (mkF m 20 #[vr t, vi 0, vi (Int32.ofNat i), vi (Int32.ofNat i), vr b2] [.ref t, .int 0, .ref b2, .int 0, .ref t]))
 have Q6 := (P0_.ext E2)
 obtain ⟨cl5, Ar5, -, Sz5, Nn5, -, -⟩ := id Q6
 refine own_go (X2.arraylength hx (by rw [e2]; exact Ar5.1) (State.isArrayOf_alike hZ.alike Ar5.2.1) (g := (mkF m 20 #[vr t, vi 0, vi (Int32.ofNat i), vi (Int32.ofNat i), vr b2] [.ref t, .int 0, .ref b2, .int 0, .ref t])) rfl rfl (D 15 rfl)) ?_
 rw [len_of Sz5 Nn5]
 refine own_go (fun _ Kk => XS.iloadN X2.here hx rfl (D 16 rfl) rfl (XS.isub X2.here hx rfl (D 17 rfl) rfl Kk)) ?_
 show own_G _ _ _ _ (T2.setTop (mkF m 23 #[vr t, vi 0, vi (Int32.ofNat i), vi (Int32.ofNat i), vr b2] [.int (Nb - (0 : Int32)), .int 0, .ref b2, .int 0, .ref t]))
 rw [show (Nb - (0 : Int32)) = Nb from own_subz Nb]
 refine own_go (fun _ Kk => XS.iloadN X2.here hx rfl (D 18 rfl) rfl Kk) ?_
 refine own_cS X2 hx hZ 4 hown (hw 221 rfl) (hw 79 rfl) (hw 80 rfl) (hw 81 rfl) (rm_mmin hw Nb (Int32.ofNat i) h2 n0 Z3 ) e2 own_pd8 rfl (D 19 rfl) hml ?_
 rintro _ T7 _ _ X7 l7 ⟨rfl, N7q, e7⟩
 have N7 := own_frl l7 N1 N7q
 show own_G _ _ _ _ (T7.setTop (mkF m 27 #[vr t, vi 0, vi (Int32.ofNat i), vi (Int32.ofNat i), vr b2] [.int (if (Int32.ofNat i) < Nb then (Int32.ofNat i) else Nb), .int 0, .ref b2, .int 0, .ref t]))
 rw [show (if (Int32.ofNat i) < Nb then (Int32.ofNat i) else Nb) = (Int32.ofNat i) from if_pos hlt]
 have VP9 : Arv Z h2 b2 k2 .byte (Int32.ofNat i) ([] ++ List.replicate i (.int 0)) (.int 0) := Arv.pad V2 (pad_rep _ _ _)
 obtain ⟨T8, h8, L8, X8, e8, N8, K8, V8, st8⟩ := cpA X7 hx hZ hown (hw 222 rfl) (hw 179 rfl) (hw 177 rfl) (hw 178 rfl) e7 Q6 VP9 (Or.inl ⟨rfl, rfl⟩) (sp := (0 : Int32)) (dp := (0 : Int32)) (nn := (Int32.ofNat i)) (by decide) (by decide) (own_onn i (by omega)) (by rw [own_onc i (by omega)]; show 0 + i ≤ _; omega) (by rw [own_onc i (by omega)]; exact Nat.le_of_eq (Nat.zero_add i)) (us := (us.take i)) (by rw [own_onc i (by omega)]; exact (own_rngt _ _ _ (by omega)).symm) (by rw [own_onc i (by omega)]; simp) N7 g_b2 (g := (mkF m 27 #[vr t, vi 0, vi (Int32.ofNat i), vi (Int32.ofNat i), vr b2] [.int (Int32.ofNat i), .int 0, .ref b2, .int 0, .ref t])) rfl (by rw [hml]; rfl) rfl (D 20 rfl) (by decide) (W := 0) (by show 2 * 0 + _ ≤ _; exact Nat.le_of_eq rfl) (by decide)
 refine own_go st8 ?_
 have V8r : Arv Z h8 b2 k2 .byte (Int32.ofNat i) (us.take i) (.int (0 : Int32)) := by have q := V8; rw [own_onc i (by omega)] at q; refine Arv.pad q (fun j => ?_); have z := own_cpad (us := []) (ls := us.take i) (nu := 0) (len := i) rfl (by rw [List.length_take]; omega) i (Nat.le_refl _) (.int 0) j; simpa using z
 have Z10 : n0 ≤ h8.size := Nat.le_trans Z3 K8.1
 have KK8 := Keep.trans K4 K8 (fun x hx => by cases List.mem_singleton.mp hx; exact (Or.inr sz_b2))
 refine own_go (fun _ Kk => XS.aload X8.here hx rfl (D 21 rfl) rfl rfl Kk) ?_
 have Q11 := (B2.keep K8)
 exact own_rR X8 hx Bd (D 22 rfl) e8 ⟨b2, k2, rfl, N8, KK8, sz_b2, V8r, Q11⟩
theorem d43 : ∀ x ∈ ([(0, .iload_n 1, 1), (1, .ifCond .ne 9, 3), (4, .iload_n 2, 1), (5, .aload_n 0, 1), (6, .arraylength, 1), (7, .if_icmp .eq 10, 3), (10, .aload_n 0, 1), (11, .iload_n 1, 1), (12, .iload_n 2, 1), (13, .invokestatic 339, 3), (16, .areturn, 1)] : List (Nat × Instr × Nat)), decode j43 x.1 = .ok x.2 := by decide +kernel
theorem own_pd20 : parseMethodDescriptor "([BII)[B" = some ⟨[(.array .byte), .int, .int], some (.array .byte)⟩ := by decide +kernel
def Q_cor (Z : State) (t : Addr) (kb : ClassId) (Nb : Int32) (us : List Value) (i : Nat) (h0 : Heap) (n0 : Nat) (v : Option Value) (h : Heap) (L : List Loc) : Prop := ∃ (b : Addr) (kx : ClassId), v = some (.ref b) ∧ Fr n0 L ∧ Keep h0 h [] ∧ h0.size ≤ b ∧ Arv Z h b kx .byte (Int32.ofNat i) (us.take i) (.int 0) ∧ Exa Z h b "[B"
theorem rm_cor (hw : own_H a0 Z) (t : Addr) (kb : ClassId) (Nb : Int32) (us : List Value) (i : Nat) (h0 : Heap) (n0 : Nat) (Z0 : n0 ≤ h0.size) (P0_ : Arv Z h0 t kb .byte Nb us (.int 0)) (hi40 : i ≤ 40) (hlt : Int32.ofNat i < Nb) (hul : i ≤ us.length) : own_M l y43 j43 3 (some (.array .byte)) (own_R 2 1 40 56) #[(.ref t), (.int (0 : Int32)), (.int (Int32.ofNat i))] Z h0 (Q_cor Z t kb Nb us i h0 n0) := by
 refine own_body (plainFor_of_name own_pn6) (fun p e s m below meth c s₁ Bd hZ hx hby hml hown hnm X0 e0 => ?_)
 have hown : s.vm.findClass "java/util/Arrays" = some m.cls := hown
 have N0 := Fr.nil n0
 have D := own_dt hby d43
 refine own_cast (g' := mkF m 0 #[vr t, vi 0, vi (Int32.ofNat i)] []) rfl ?_
 show own_G _ _ _ _ (s₁.setTop (mkF m 0 #[vr t, vi 0, vi (Int32.ofNat i)] []))
 refine own_go (fun _ Kk => XS.iloadN X0.here hx rfl (D 0 rfl) rfl (XS.ifNo X0.here hx rfl (D 1 rfl) rfl ((if0 _ _).trans (by decide)) (XS.iloadN X0.here hx rfl (D 2 rfl) rfl (XS.aloadN X0.here hx rfl (D 3 rfl) rfl rfl Kk)))) ?_
 obtain ⟨cl1, Ar1, -, Sz1, Nn1, -, -⟩ := id P0_
 refine own_go (X0.arraylength hx (by rw [e0]; exact Ar1.1) (State.isArrayOf_alike hZ.alike Ar1.2.1) (g := (mkF m 6 #[vr t, vi 0, vi (Int32.ofNat i)] [.ref t, .int (Int32.ofNat i)])) rfl rfl (D 4 rfl)) ?_
 rw [len_of Sz1 Nn1]
 show own_G _ _ _ _ (s₁.setTop (mkF m 7 #[vr t, vi 0, vi (Int32.ofNat i)] [.int Nb, .int (Int32.ofNat i)]))
 refine own_go (fun _ Kk => XS.icmpNo X0.here hx rfl (D 5 rfl) rfl (feq (fun q => by rw [q] at hlt; exact Int32.lt_irrefl hlt)).1 (XS.aloadN X0.here hx rfl (D 6 rfl) rfl rfl (XS.iloadN X0.here hx rfl (D 7 rfl) rfl (XS.iloadN X0.here hx rfl (D 8 rfl) rfl Kk)))) ?_
 refine own_cS X0 hx hZ 0 hown (hw 215 rfl) (hw 216 rfl) (hw 213 rfl) (hw 217 rfl) (rm_corb hw t kb Nb us i h0 n0 Z0 P0_ hi40 hlt hul) e0 own_pd20 rfl (D 9 rfl) hml (fun _ T2 _ _ X2 l2 => own_hp ?_)
 rintro h2 e2 ⟨b2b, kx2, rfl, N2q, K2q, le_b2b, F2_0, F2_1⟩
 have N2 := own_frl l2 N0 N2q
 have Z3 : n0 ≤ h2.size := Nat.le_trans Z0 K2q.1
 have g_b2b : n0 ≤ b2b := Nat.le_trans Z0 le_b2b
 have sz_b2b : h0.size ≤ b2b := Nat.le_trans (Keep.refl h0 []).1 le_b2b
 have K2 := Keep.trans (Keep.refl h0 []) K2q all0
 show own_G _ _ _ _ (T2.setTop (mkF m 16 #[vr t, vi 0, vi (Int32.ofNat i)] [.ref b2b]))
 exact own_rR X2 hx Bd (D 10 rfl) e2 ⟨b2b, kx2, rfl, N2, K2, sz_b2b, F2_0, F2_1⟩
theorem d47 : ∀ x ∈ ([(0, .aload_n 0, 1), (1, .invokespecial 1, 3), (4, .aload_n 0, 1), (5, .aload_n 1, 1), (6, .putfield 9, 3), (9, .aload_n 0, 1), (10, .iload_n 2, 1), (11, .putfield 15, 3), (14, .return_, 1)] : List (Nat × Instr × Nat)), decode j47 x.1 = .ok x.2 := by decide +kernel
def Q_inib (Z : State) (a1 : Addr) (t : Addr) (cd : Int32) (cs : List Int32) (kb : ClassId) (Nb : Int32) (vs : List Value) (h0 : Heap) (n0 : Nat) (v : Option Value) (h : Heap) (L : List Loc) : Prop := v = none ∧ Fr n0 L ∧ Keep h0 h [a1] ∧ (own_Str Z h a1 t cs)
theorem rm_inib (hw : own_H a0 Z) (a1 : Addr) (t : Addr) (cd : Int32) (cs : List Int32) (kb : ClassId) (Nb : Int32) (vs : List Value) (h0 : Heap) (n0 : Nat) (Z0 : n0 ≤ h0.size) (P0_ : Fld Z h0 a1 "java/lang/String" "value" "[B" .null) (P1_ : Fld Z h0 a1 "java/lang/String" "coder" "B" (.int (0 : Int32))) (P2_ : Exa Z h0 a1 "java/lang/String") (P3_ : Arv Z h0 t kb .byte Nb vs (.int 0)) (g_a1 : n0 ≤ a1) (hco : StrChars.Road.CodA cs cd Nb vs) (hbd : ∀ c ∈ cs, ¬ c < 0 ∧ ¬ (65535 : Int32) < c) (hl : cs.length ≤ 4000) (hne : t ≠ a1) : own_M l y47 j47 3 none (own_R 1 0 0 12) #[(.ref a1), (.ref t), (.int cd)] Z h0 (Q_inib Z a1 t cd cs kb Nb vs h0 n0) := by
 refine own_body (plainFor_of_name own_pn0) (fun p e s m below meth c s₁ Bd hZ hx hby hml hown hnm X0 e0 => ?_)
 have hown : s.vm.findClass "java/lang/String" = some m.cls := hown
 have N0 := Fr.nil n0
 have D := own_dt hby d47
 refine own_cast (g' := mkF m 0 #[vr a1, vr t, vi cd] []) rfl ?_
 show own_G _ _ _ _ (s₁.setTop (mkF m 0 #[vr a1, vr t, vi cd] []))
 refine own_go (fun _ Kk => XS.aloadN X0.here hx rfl (D 0 rfl) rfl rfl Kk) ?_
 obtain ⟨T1, X1, e1, st1⟩ := initO X0 hx hZ hown (hw 20 rfl) (hw 21 rfl) (hw 22 rfl) e0 (g := (mkF m 1 #[vr a1, vr t, vi cd] [.ref a1])) rfl (by rw [hml]; rfl) rfl (D 1 rfl) (by decide) (W := 0) (by show 2 * 0 + _ ≤ _; exact Nat.le_of_eq rfl) (by decide)
 refine own_go st1 ?_
 refine own_go (fun _ Kk => XS.aloadN X1.here hx rfl (D 2 rfl) rfl rfl (XS.aloadN X1.here hx rfl (D 3 rfl) rfl rfl Kk)) ?_
 obtain ⟨T2, h2, X2, e2, W2, st2⟩ := putF X1 hx hZ hown (host := "") (Or.inl (hw 37 rfl)) Via.refl e1 P0_ P2_ (Or.inr ⟨(hw 38 rfl), rfl, hnm⟩) (hw 11 rfl) (ty := (.array .byte)) (by decide) rfl rfl (g := (mkF m 6 #[vr a1, vr t, vi cd] [.ref t, .ref a1])) rfl rfl (D 4 rfl)
 refine own_go st2 ?_
 have F2 := P0_.same W2
 have N2 := Fr.snoc X2 N0 g_a1
 have Z3 : n0 ≤ h2.size := Nat.le_trans Z0 (Keep.of_wr W2).1
 have K4 := Keep.wr (Keep.refl h0 [a1]) W2 (own_in 0 rfl)
 show own_G _ _ _ _ (T2.setTop (mkF m 9 #[vr a1, vr t, vi cd] []))
 refine own_go (fun _ Kk => XS.aloadN X2.here hx rfl (D 5 rfl) rfl rfl (XS.iloadN X2.here hx rfl (D 6 rfl) rfl Kk)) ?_
 have Q5 := (P1_.other W2 (Or.inr (slot_ne (Or.inr (hw 36 rfl)) (Or.inr (hw 38 rfl)) (by decide) (t := .byte) (t' := (.array .byte)) (by decide) (by decide))))
 have Q6 := (P2_.wr W2)
 obtain ⟨T7, h7, X7, e7, W7, st7⟩ := putFN X2 hx hZ hown (hw 35 rfl) Via.refl e2 Q5 Q6 (Or.inr ⟨(hw 36 rfl), rfl, hnm⟩) (hw 11 rfl) (ty := .byte) (v' := (.int cd)) (by decide) (own_nw (own_cd01 hco)) (own_fb (own_cd01 hco)) (g := (mkF m 11 #[vr a1, vr t, vi cd] [.int cd, .ref a1])) rfl rfl (D 7 rfl)
 refine own_go st7 ?_
 have F7 := Q5.same W7
 have N7 := Fr.snoc X7 N2 g_a1
 have Z8 : n0 ≤ h7.size := Nat.le_trans Z3 (Keep.of_wr W7).1
 have K9 := Keep.wr K4 W7 (own_in 0 rfl)
 have Q10 := (Q6.wr W7)
 have Q11 := (F2.other W7 (Or.inr (slot_ne (Or.inr (hw 38 rfl)) (Or.inr (hw 36 rfl)) (by decide) (t := (.array .byte)) (t' := .byte) (by decide) (by decide))))
 have Q12 := ((P3_.other W2 hne).other W7 hne)
 exact own_rV X7 hx Bd (D 8 rfl) e7 ⟨rfl, N7, K9, ⟨_, _, _, _, Q10, Q11, F7, Q12, hco, hbd, (by omega)⟩⟩
theorem d28 : ∀ x ∈ ([(0, .iload_n 0, 1), (1, .ifCond .lt 13, 3), (4, .iload_n 0, 1), (5, .iload_n 1, 1), (6, .if_icmp .gt 8, 3), (9, .iload_n 1, 1), (10, .iload_n 2, 1), (11, .if_icmp .le 11, 3), (22, .iload_n 0, 1), (23, .ireturn, 1)] : List (Nat × Instr × Nat)), decode j28 x.1 = .ok x.2 := by decide +kernel
def Q_cft (Z : State) (p1 : Int32) (p2 : Int32) (fm : Value) (h0 : Heap) (n0 : Nat) (v : Option Value) (h : Heap) (L : List Loc) : Prop := v = some (.int (0 : Int32)) ∧ Fr n0 L ∧ h = h0
theorem rm_cft (hw : own_H a0 Z) (p1 : Int32) (p2 : Int32) (fm : Value) (h0 : Heap) (n0 : Nat) (Z0 : n0 ≤ h0.size) (hfm : fm.isRef = true) (h01 : ¬ p1 < (0 : Int32)) (h12 : ¬ p2 < p1) : own_M l y28 j28 4 (some .int) (own_R 0 0 0 0) #[(.int (0 : Int32)), (.int p1), (.int p2), fm] Z h0 (Q_cft Z p1 p2 fm h0 n0) := by
 refine own_body (plainFor_of_name own_pn1) (fun p e s m below meth c s₁ Bd hZ hx hby hml hown hnm X0 e0 => ?_)
 have hown : s.vm.findClass "jdk/internal/util/Preconditions" = some m.cls := hown
 have N0 := Fr.nil n0
 have D := own_dt hby d28
 refine own_cast (g' := mkF m 0 #[vi 0, vi p1, vi p2, .val fm] []) (by first | rfl | (cases fm <;> first | rfl | (simp [Value.isRef] at hfm; done))) ?_
 show own_G _ _ _ _ (s₁.setTop (mkF m 0 #[vi 0, vi p1, vi p2, .val fm] []))
 refine own_go (fun _ Kk => XS.iloadN X0.here hx rfl (D 0 rfl) rfl (XS.ifNo X0.here hx rfl (D 1 rfl) rfl ((if0 _ _).trans (by decide)) (XS.iloadN X0.here hx rfl (D 2 rfl) rfl (XS.iloadN X0.here hx rfl (D 3 rfl) rfl (XS.icmpNo X0.here hx rfl (D 4 rfl) rfl (flt h01).2.2.1 Kk))))) ?_
 show own_G _ _ _ _ (s₁.setTop (mkF m 9 #[vi 0, vi p1, vi p2, .val fm] []))
 refine own_go (fun _ Kk => XS.iloadN X0.here hx rfl (D 5 rfl) rfl (XS.iloadN X0.here hx rfl (D 6 rfl) rfl (XS.icmpYes X0.here hx rfl (pc0 := 11) (pc' := 22) rfl (D 7 rfl) rfl (flt h12).2.2.2 (by decide) (by decide) (XS.iloadN X0.here hx rfl (D 8 rfl) rfl Kk)))) ?_
 exact own_rI X0 hx Bd (D 9 rfl) e0 ⟨rfl, N0, rfl⟩
theorem d27 : ∀ x ∈ ([(0, .iload_n 0, 1), (1, .iload_n 1, 1), (2, .iload_n 2, 1), (3, .getstatic 1053, 3), (6, .invokestatic 1062, 3), (9, .pop, 1), (10, .return_, 1)] : List (Nat × Instr × Nat)), decode j27 x.1 = .ok x.2 := by decide +kernel
theorem own_pd21 : parseMethodDescriptor "(IIILjava/util/function/BiFunction;)I" = some ⟨[.int, .int, .int, (.object "java/util/function/BiFunction")], some .int⟩ := by decide +kernel
def Q_cbe (Z : State) (p1 : Int32) (p2 : Int32) (zc : Int32) (fm : Value) (h0 : Heap) (n0 : Nat) (v : Option Value) (h : Heap) (L : List Loc) : Prop := v = none ∧ Fr n0 L ∧ h = h0
theorem rm_cbe (hw : own_H a0 Z) (p1 : Int32) (p2 : Int32) (zc : Int32) (fm : Value) (h0 : Heap) (n0 : Nat) (Z0 : n0 ≤ h0.size) (h01 : ¬ p1 < (0 : Int32)) (h12 : ¬ p2 < p1) (SS : own_St Z h0 zc fm) : own_M l y27 j27 3 none (own_R 1 0 0 15) #[(.int (0 : Int32)), (.int p1), (.int p2)] Z h0 (Q_cbe Z p1 p2 zc fm h0 n0) := by
 refine own_body (plainFor_of_name own_pn0) (fun p e s m below meth c s₁ Bd hZ hx hby hml hown hnm X0 e0 => ?_)
 have hown : s.vm.findClass "java/lang/String" = some m.cls := hown
 have N0 := Fr.nil n0
 have D := own_dt hby d27
 refine own_cast (g' := mkF m 0 #[vi 0, vi p1, vi p2] []) rfl ?_
 show own_G _ _ _ _ (s₁.setTop (mkF m 0 #[vi 0, vi p1, vi p2] []))
 refine own_go (fun _ Kk => XS.iloadN X0.here hx rfl (D 0 rfl) rfl (XS.iloadN X0.here hx rfl (D 1 rfl) rfl (XS.iloadN X0.here hx rfl (D 2 rfl) rfl Kk))) ?_
 refine own_gS X0 hx hZ hown (hw 97 rfl) e0 SS.2.2.2.1 (D 3 rfl) (fun T1 X1 e1 => ?_)
 refine own_cS X1 hx hZ 0 hown (hw 133 rfl) (hw 134 rfl) (hw 98 rfl) (hw 135 rfl) (rm_cft hw p1 p2 fm h0 n0 Z0 SS.2.1 h01 h12) e1 own_pd21 rfl (D 4 rfl) hml ?_
 rintro _ T2 _ _ X2 l2 ⟨rfl, N2q, e2⟩
 have N2 := own_frl l2 N0 N2q
 show own_G _ _ _ _ (T2.setTop (mkF m 9 #[vi 0, vi p1, vi p2] [.int 0]))
 refine own_go (fun _ Kk => XS.pop X2.here hx rfl (D 5 rfl) rfl rfl Kk) ?_
 exact own_rV X2 hx Bd (D 6 rfl) e2 ⟨rfl, N2, rfl⟩
theorem d29 : ∀ x ∈ ([(0, .iload_n 2, 1), (1, .ifCond .ne 6, 3), (7, .new 1, 3), (10, .dup, 1), (11, .aload_n 0, 1), (12, .iload_n 1, 1), (13, .iload_n 1, 1), (14, .iload_n 2, 1), (15, .iadd, 1), (16, .invokestatic 232, 3), (19, .iconst 0, 1), (20, .invokespecial 112, 3), (23, .areturn, 1), (4, .ldc 151, 2), (6, .areturn, 1)] : List (Nat × Instr × Nat)), decode j29 x.1 = .ok x.2 := by decide +kernel
theorem own_pd22 : parseMethodDescriptor "([BB)V" = some ⟨[(.array .byte), .byte], none⟩ := by decide +kernel
def Q_lns (Z : State) (t : Addr) (kb : ClassId) (cs : List Int32) (i : Nat) (h0 : Heap) (n0 : Nat) (v : Option Value) (h : Heap) (L : List Loc) : Prop := ∃ (x : Addr) (d : Addr), v = some (.ref x) ∧ Fr n0 L ∧ Keep h0 h [] ∧ h0.size ≤ x ∧ h0.size ≤ d ∧ (own_Str Z h x d (cs.take i))
theorem rm_lns (hw : own_H a0 Z) (t : Addr) (kb : ClassId) (cs : List Int32) (i : Nat) (h0 : Heap) (n0 : Nat) (Z0 : n0 ≤ h0.size) (P0_ : Arv Z h0 t kb .byte (Int32.ofNat cs.length) (cs.map fun c => Value.int (StrChars.lo8 c)) (.int 0)) (hpos : 0 < i) (hi20 : i ≤ 20) (hil : i < cs.length) (hl : cs.length ≤ 4000) (hbd : ∀ c ∈ cs, ¬ c < 0 ∧ ¬ (65535 : Int32) < c) (hlo : ∀ c ∈ cs, ¬ (255 : Int32) < c) : own_M l y29 j29 3 (some (.object "java/lang/String")) (own_R 3 2 48 72) #[(.ref t), (.int (0 : Int32)), (.int (Int32.ofNat i))] Z h0 (Q_lns Z t kb cs i h0 n0) := by
 refine own_body (plainFor_of_name own_pn3) (fun p e s m below meth c s₁ Bd hZ hx hby hml hown hnm X0 e0 => ?_)
 have hown : s.vm.findClass "java/lang/StringLatin1" = some m.cls := hown
 have N0 := Fr.nil n0
 have D := own_dt hby d29
 refine own_cast (g' := mkF m 0 #[vr t, vi 0, vi (Int32.ofNat i)] []) rfl ?_
 show own_G _ _ _ _ (s₁.setTop (mkF m 0 #[vr t, vi 0, vi (Int32.ofNat i)] []))
 refine own_go (fun _ Kk => XS.iloadN X0.here hx rfl (D 0 rfl) rfl (XS.ifYes X0.here hx rfl (pc0 := 1) (pc' := 7) rfl (D 1 rfl) rfl ((if0 _ _).trans (feq (own_ltz hpos (by omega))).2) (by decide) (by decide) Kk)) ?_
 obtain ⟨T1, h1, X1, e1, E1, A1, D1, -, st1⟩ := newO X0 hx hZ hown (hw 228 rfl) (hw 11 rfl) (hw 12 rfl) e0 (g := (mkF m 7 #[vr t, vi 0, vi (Int32.ofNat i)] [])) rfl (D 2 rfl) (by decide) (by decide)
 obtain ⟨b1, g1⟩ : ∃ z, z = h0.size := ⟨_, rfl⟩
 rw [← g1] at A1 D1 st1
 refine own_go st1 ?_
 have g_b1 : n0 ≤ b1 := Nat.le_trans Z0 (Nat.le_of_eq g1.symm)
 have Z2 : n0 ≤ h1.size := Nat.le_trans Z0 E1.1
 have sz_b1 : h0.size ≤ b1 := Nat.le_trans (Keep.refl h0 []).1 (Nat.le_of_eq g1.symm)
 have K3 := Keep.ext (Keep.refl h0 []) E1
 have F1_coder : Fld Z h1 b1 "java/lang/String" "coder" "B" (.int (0 : Int32)) := D1 (Or.inr (hw 36 rfl)) (ty := .byte) (by decide)
 have F1_value : Fld Z h1 b1 "java/lang/String" "value" "[B" .null := D1 (Or.inr (hw 38 rfl)) (ty := (.array .byte)) (by decide)
 refine own_go (fun _ Kk => XS.dup X1.here hx rfl (D 3 rfl) rfl rfl (XS.aloadN X1.here hx rfl (D 4 rfl) rfl rfl Kk)) ?_
 show own_G _ _ _ _ (T1.setTop (mkF m 12 #[vr t, vi 0, vi (Int32.ofNat i)] [.ref t, .ref b1, .ref b1]))
 refine own_go (fun _ Kk => XS.iloadN X1.here hx rfl (D 5 rfl) rfl (XS.iloadN X1.here hx rfl (D 6 rfl) rfl (XS.iloadN X1.here hx rfl (D 7 rfl) rfl (XS.iadd X1.here hx rfl (D 8 rfl) rfl Kk)))) ?_
 show own_G _ _ _ _ (T1.setTop (mkF m 16 #[vr t, vi 0, vi (Int32.ofNat i)] [.int ((0 : Int32) + (Int32.ofNat i)), .int 0, .ref t, .ref b1, .ref b1]))
 rw [show ((0 : Int32) + (Int32.ofNat i)) = (Int32.ofNat i) from own_addz _]
 have Q5 := (P0_.ext E1)
 refine own_cS X1 hx hZ 2 hown (hw 229 rfl) (hw 212 rfl) (hw 213 rfl) (hw 214 rfl) (rm_cor hw t kb (Int32.ofNat cs.length) (cs.map fun c => Value.int (StrChars.lo8 c)) i h1 n0 Z2 Q5 (by omega) (own_onl (by omega) hil) (by simp; omega)) e1 own_pd20 rfl (D 9 rfl) hml (fun _ T4 _ _ X4 l4 => own_hp ?_)
 rintro h4 e4 ⟨b4b, kx4, rfl, N4q, K4q, le_b4b, F4_0, F4_1⟩
 have N4 := own_frl l4 N0 N4q
 have Z6 : n0 ≤ h4.size := Nat.le_trans Z2 K4q.1
 have g_b4b : n0 ≤ b4b := Nat.le_trans Z2 le_b4b
 have sz_b4b : h0.size ≤ b4b := Nat.le_trans K3.1 le_b4b
 have K4 := Keep.trans K3 K4q all0
 refine own_go (fun _ Kk => XS.iconst X4.here hx rfl (D 10 rfl) Kk) ?_
 have Q8 := (F1_value.keep K4q List.not_mem_nil)
 have Q9 := (F1_coder.keep K4q List.not_mem_nil)
 have Q10 := (A1.keep K4q)
 refine own_cI X4 hx hZ 1 hown (hw 230 rfl) (hw 231 rfl) (hw 232 rfl) (hw 12 rfl) (rm_inib hw b1 b4b (0 : Int32) (cs.take i) kx4 (Int32.ofNat i) ((cs.map fun c => Value.int (StrChars.lo8 c)).take i) h4 n0 Z6 Q8 Q9 Q10 F4_0 g_b1 (Or.inl ⟨rfl, by rw [List.length_take, Nat.min_eq_left (by omega)], by rw [List.map_take], fun c hc => hlo c (List.mem_of_mem_take hc)⟩) (fun c hc => hbd c (List.mem_of_mem_take hc)) (by rw [List.length_take]; omega) (Ne.symm (Nat.ne_of_lt (Nat.lt_of_lt_of_le A1.lt le_b4b)))) e4 own_pd22 rfl (D 11 rfl) hml (fun _ T7 _ _ X7 l7 => own_hp ?_)
 rintro h7 e7 ⟨rfl, N7q, K7q, x7_0⟩
 have N7 := own_frl l7 N4 N7q
 have Z11 : n0 ≤ h7.size := Nat.le_trans Z6 K7q.1
 have K7 := Keep.trans K4 K7q (allS (Or.inr sz_b1) all0)
 exact own_rR X7 hx Bd (D 12 rfl) e7 ⟨b1, b4b, rfl, N7, K7, sz_b1, sz_b4b, x7_0⟩
end Jvm.Pilot.@@N@@
namespace Jvm.Pilot.@@N@@
open Jvm Jvm.ClassFile Sem Op Lib Jvm.Free Jvm.Stand Jvm.LawKit Jvm.RoadKit Bundle Jvm.Pilot.@@N@@.Jvm.D
set_option maxRecDepth 65536
set_option maxHeartbeats 40000000
variable {l : Launch} {Z : State} {a0 : Array Value}

theorem own_or2 {x y : Int32} (hx : ¬ x < 0) (hy : ¬ y < 0) : ¬ (x ||| y) < 0 := by
  have key : ∀ z : Int32, ¬ z < 0 ↔ z.toBitVec.toNat < 2 ^ 31 := fun z => by
    rw [Int32.lt_iff_toInt_lt]; have e0 : (0 : Int32).toInt = 0 := rfl; have e : z.toInt = z.toBitVec.toInt := rfl
    rw [e0, e, BitVec.toInt_eq_toNat_cond]; have := z.toBitVec.isLt; split <;> omega
  rw [key] at hx hy ⊢
  have e : (x ||| y).toBitVec.toNat = x.toBitVec.toNat ||| y.toBitVec.toNat := by rw [Int32.toBitVec_or, BitVec.toNat_or]
  rw [e]; exact Nat.or_lt_two_pow hx hy
theorem own_isL {cs : List Int32} {cd Nb : Int32} {vs : List Value} (h : StrChars.Road.CodA cs cd Nb vs) (q : ∀ c ∈ cs, ¬ (255 : Int32) < c) : cd = 0 ∧ Nb = Int32.ofNat cs.length ∧ vs = cs.map fun c => Value.int (StrChars.lo8 c) := by
  rcases h with ⟨a, b, c, -⟩ | ⟨-, -, -, c, hc, hg⟩
  · exact ⟨a, b, c⟩
  · exact absurd hg (q c hc)
theorem own_isU {cs : List Int32} {cd Nb : Int32} {vs : List Value} (h : StrChars.Road.CodA cs cd Nb vs) (q : ∃ c ∈ cs, (255 : Int32) < c) : cd = 1 ∧ Nb = Int32.ofNat (2 * cs.length) ∧ vs = StrChars.Road.wideBytes cs := by
  rcases h with ⟨-, -, -, c⟩ | ⟨a, b, c, -⟩
  · obtain ⟨x, hx, hg⟩ := q; exact absurd hg (c x hx)
  · exact ⟨a, b, c⟩
theorem own_wtake (cs : List Int32) : ∀ i, (StrChars.Road.wideBytes cs).take (2 * i) = StrChars.Road.wideBytes (cs.take i) := by
  induction cs with
  | nil => intro i; simp [StrChars.Road.wideBytes]
  | cons c cs ih =>
    intro i
    cases i with
    | zero => rfl
    | succ i => rw [show 2 * (i + 1) = 2 * i + 1 + 1 from by omega]; simp [StrChars.Road.wideBytes, ih]
theorem own_take0 {cs : List Int32} {i : Nat} (h : 0 < i) : (cs.take i).getD 0 0 = cs.getD 0 0 := by
  cases cs with
  | nil => simp
  | cons c cs => cases i with
    | zero => omega
    | succ i => rfl
theorem own_tkl {cs : List Int32} {i : Nat} (h : i < cs.length) : (cs.take i).length = i := by rw [List.length_take, Nat.min_eq_left (by omega)]
theorem d63 : ∀ x ∈ ([(0, .iload_n 2, 1), (1, .iload_n 0, 1), (2, .ior, 1), (3, .iload_n 1, 1), (4, .ior, 1), (5, .ifCond .lt 10, 3), (8, .iload_n 1, 1), (9, .iload_n 2, 1), (10, .iload_n 0, 1), (11, .isub, 1), (12, .if_icmp .le 11, 3), (23, .iload_n 0, 1), (24, .ireturn, 1)] : List (Nat × Instr × Nat)), decode j63 x.1 = .ok x.2 := by decide +kernel
def Q_cfi (Z : State) (p0 : Int32) (p1 : Int32) (p2 : Int32) (fm : Value) (h0 : Heap) (n0 : Nat) (v : Option Value) (h : Heap) (L : List Loc) : Prop := v = some (.int p0) ∧ Fr n0 L ∧ h = h0
theorem rm_cfi (hw : own_H a0 Z) (p0 : Int32) (p1 : Int32) (p2 : Int32) (fm : Value) (h0 : Heap) (n0 : Nat) (Z0 : n0 ≤ h0.size) (hfm : fm.isRef = true) (hor : ¬ ((p2 ||| p0) ||| p1) < (0 : Int32)) (hsz : ¬ (p2 - p0) < p1) : own_M l y63 j63 4 (some .int) (own_R 0 0 0 0) #[(.int p0), (.int p1), (.int p2), fm] Z h0 (Q_cfi Z p0 p1 p2 fm h0 n0) := by
 refine own_body (plainFor_of_name own_pn1) (fun p e s m below meth c s₁ Bd hZ hx hby hml hown hnm X0 e0 => ?_)
 have hown : s.vm.findClass "jdk/internal/util/Preconditions" = some m.cls := hown
 have N0 := Fr.nil n0
 have D := own_dt hby d63
 refine own_cast (g' := mkF m 0 #[vi p0, vi p1, vi p2, .val fm] []) (by first | rfl | (cases fm <;> first | rfl | (simp [Value.isRef] at hfm; done))) ?_
 show own_G _ _ _ _ (s₁.setTop (mkF m 0 #[vi p0, vi p1, vi p2, .val fm] []))
 refine own_go (fun _ Kk => XS.iloadN X0.here hx rfl (D 0 rfl) rfl (XS.iloadN X0.here hx rfl (D 1 rfl) rfl (XS.ior X0.here hx rfl (D 2 rfl) rfl (XS.iloadN X0.here hx rfl (D 3 rfl) rfl (XS.ior X0.here hx rfl (D 4 rfl) rfl Kk))))) ?_
 show own_G _ _ _ _ (s₁.setTop (mkF m 5 #[vi p0, vi p1, vi p2, .val fm] [.int ((p2 ||| p0) ||| p1)]))
 refine own_go (fun _ Kk => XS.ifNo X0.here hx rfl (D 5 rfl) rfl ((if0 _ _).trans (flt hor).1) (XS.iloadN X0.here hx rfl (D 6 rfl) rfl (XS.iloadN X0.here hx rfl (D 7 rfl) rfl (XS.iloadN X0.here hx rfl (D 8 rfl) rfl (XS.isub X0.here hx rfl (D 9 rfl) rfl Kk))))) ?_
 show own_G _ _ _ _ (s₁.setTop (mkF m 12 #[vi p0, vi p1, vi p2, .val fm] [.int (p2 - p0), .int p1]))
 refine own_go (fun _ Kk => XS.icmpYes X0.here hx rfl (pc0 := 12) (pc' := 23) rfl (D 10 rfl) rfl (flt hsz).2.2.2 (by decide) (by decide) (XS.iloadN X0.here hx rfl (D 11 rfl) rfl Kk)) ?_
 exact own_rI X0 hx Bd (D 12 rfl) e0 ⟨rfl, N0, rfl⟩
theorem d62 : ∀ x ∈ ([(0, .iload_n 0, 1), (1, .iload_n 1, 1), (2, .iload_n 2, 1), (3, .getstatic 1053, 3), (6, .invokestatic 1065, 3), (9, .ireturn, 1)] : List (Nat × Instr × Nat)), decode j62 x.1 = .ok x.2 := by decide +kernel
def Q_sbo (Z : State) (p0 : Int32) (p1 : Int32) (p2 : Int32) (zc : Int32) (fm : Value) (h0 : Heap) (n0 : Nat) (v : Option Value) (h : Heap) (L : List Loc) : Prop := v = some (.int p0) ∧ Fr n0 L ∧ h = h0
theorem rm_sbo (hw : own_H a0 Z) (p0 : Int32) (p1 : Int32) (p2 : Int32) (zc : Int32) (fm : Value) (h0 : Heap) (n0 : Nat) (Z0 : n0 ≤ h0.size) (hor : ¬ ((p2 ||| p0) ||| p1) < (0 : Int32)) (hsz : ¬ (p2 - p0) < p1) (SS : own_St Z h0 zc fm) : own_M l y62 j62 3 (some .int) (own_R 1 0 0 15) #[(.int p0), (.int p1), (.int p2)] Z h0 (Q_sbo Z p0 p1 p2 zc fm h0 n0) := by
 refine own_body (plainFor_of_name own_pn0) (fun p e s m below meth c s₁ Bd hZ hx hby hml hown hnm X0 e0 => ?_)
 have hown : s.vm.findClass "java/lang/String" = some m.cls := hown
 have N0 := Fr.nil n0
 have D := own_dt hby d62
 refine own_cast (g' := mkF m 0 #[vi p0, vi p1, vi p2] []) rfl ?_
 show own_G _ _ _ _ (s₁.setTop (mkF m 0 #[vi p0, vi p1, vi p2] []))
 refine own_go (fun _ Kk => XS.iloadN X0.here hx rfl (D 0 rfl) rfl (XS.iloadN X0.here hx rfl (D 1 rfl) rfl (XS.iloadN X0.here hx rfl (D 2 rfl) rfl Kk))) ?_
 refine own_gS X0 hx hZ hown (hw 97 rfl) e0 SS.2.2.2.1 (D 3 rfl) (fun T1 X1 e1 => ?_)
 refine own_cS X1 hx hZ 0 hown (hw 286 rfl) (hw 287 rfl) (hw 98 rfl) (hw 288 rfl) (rm_cfi hw p0 p1 p2 fm h0 n0 Z0 SS.2.1 hor hsz) e1 own_pd21 rfl (D 4 rfl) hml ?_
 rintro _ T2 _ _ X2 l2 ⟨rfl, N2q, e2⟩
 have N2 := own_frl l2 N0 N2q
 show own_G _ _ _ _ (T2.setTop (mkF m 9 #[vi p0, vi p1, vi p2] [.int p0]))
 exact own_rI X2 hx Bd (D 5 rfl) e2 ⟨rfl, N2, rfl⟩
theorem d61 : ∀ x ∈ ([(0, .iload_n 0, 1), (1, .iload_n 1, 1), (2, .aload_n 2, 1), (3, .invokestatic 48, 3), (6, .invokestatic 419, 3), (9, .pop, 1), (10, .return_, 1)] : List (Nat × Instr × Nat)), decode j61 x.1 = .ok x.2 := by decide +kernel
theorem own_pd23 : parseMethodDescriptor "(III)I" = some ⟨[.int, .int, .int], some .int⟩ := by decide +kernel
def Q_ubo (Z : State) (t : Addr) (io : Nat) (ic : Nat) (kb : ClassId) (k : Nat) (vs : List Value) (zc : Int32) (fm : Value) (h0 : Heap) (n0 : Nat) (v : Option Value) (h : Heap) (L : List Loc) : Prop := v = none ∧ Fr n0 L ∧ h = h0
theorem rm_ubo (hw : own_H a0 Z) (t : Addr) (io : Nat) (ic : Nat) (kb : ClassId) (k : Nat) (vs : List Value) (zc : Int32) (fm : Value) (h0 : Heap) (n0 : Nat) (Z0 : n0 ≤ h0.size) (P0_ : Arv Z h0 t kb .byte (Int32.ofNat (2 * k)) vs (.int 0)) (hoc : io + ic ≤ k) (hk : k ≤ 4000) (SS : own_St Z h0 zc fm) : own_M l y61 j61 3 none (own_R 2 0 0 29) #[(.int (Int32.ofNat io)), (.int (Int32.ofNat ic)), (.ref t)] Z h0 (Q_ubo Z t io ic kb k vs zc fm h0 n0) := by
 refine own_body (plainFor_of_name own_pn4) (fun p e s m below meth c s₁ Bd hZ hx hby hml hown hnm X0 e0 => ?_)
 have hown : s.vm.findClass "java/lang/StringUTF16" = some m.cls := hown
 have N0 := Fr.nil n0
 have D := own_dt hby d61
 refine own_cast (g' := mkF m 0 #[vi (Int32.ofNat io), vi (Int32.ofNat ic), vr t] []) rfl ?_
 show own_G _ _ _ _ (s₁.setTop (mkF m 0 #[vi (Int32.ofNat io), vi (Int32.ofNat ic), vr t] []))
 refine own_go (fun _ Kk => XS.iloadN X0.here hx rfl (D 0 rfl) rfl (XS.iloadN X0.here hx rfl (D 1 rfl) rfl (XS.aloadN X0.here hx rfl (D 2 rfl) rfl rfl Kk))) ?_
 refine own_cS X0 hx hZ 2 hown (hw 263 rfl) (hw 264 rfl) (hw 26 rfl) (hw 265 rfl) (rm_ulen hw t kb k vs h0 n0 Z0 P0_ hk) e0 own_pd3 rfl (D 3 rfl) hml ?_
 rintro _ T1 _ _ X1 l1 ⟨rfl, N1q, e1⟩
 have N1 := own_frl l1 N0 N1q
 refine own_cS X1 hx hZ 0 hown (hw 283 rfl) (hw 284 rfl) (hw 12 rfl) (hw 285 rfl) (rm_sbo hw (Int32.ofNat io) (Int32.ofNat ic) (Int32.ofNat k) zc fm h0 n0 Z0 (own_or2 (own_or2 (own_onn _ (by omega)) (own_onn _ (by omega))) (own_onn _ (by omega))) (by rw [own_subn _ _ (by omega) (by omega), own_ltn (by omega) (by omega)]; omega) SS) e1 own_pd23 rfl (D 4 rfl) hml ?_
 rintro _ T2 _ _ X2 l2 ⟨rfl, N2q, e2⟩
 have N2 := own_frl l2 N1 N2q
 show own_G _ _ _ _ (T2.setTop (mkF m 9 #[vi (Int32.ofNat io), vi (Int32.ofNat ic), vr t] [.int (Int32.ofNat io)]))
 refine own_go (fun _ Kk => XS.pop X2.here hx rfl (D 5 rfl) rfl rfl Kk) ?_
 exact own_rV X2 hx Bd (D 6 rfl) e2 ⟨rfl, N2, rfl⟩
theorem d60 : ∀ x ∈ ([(0, .iload_n 1, 1), (1, .iload 4, 2), (3, .aload_n 0, 1), (4, .invokestatic 173, 3), (7, .iconst 0, 1), (8, .istore 5, 2), (10, .iload 5, 2), (12, .iload 4, 2), (14, .if_icmp .ge 39, 3), (17, .aload_n 0, 1), (18, .iload_n 1, 1), (19, .invokestatic 71, 3), (22, .istore 6, 2), (24, .iload 6, 2), (26, .sipush 255, 3), (29, .if_icmp .le 6, 3), (32, .iload 5, 2), (34, .ireturn, 1)] : List (Nat × Instr × Nat)), decode j60 x.1 = .ok x.2 := by decide +kernel
theorem own_pd24 : parseMethodDescriptor "(II[B)V" = some ⟨[.int, .int, (.array .byte)], none⟩ := by decide +kernel
def Q_c5b (Z : State) (t : Addr) (b : Addr) (kb : ClassId) (cs : List Int32) (i : Nat) (zc : Int32) (fm : Value) (h0 : Heap) (n0 : Nat) (v : Option Value) (h : Heap) (L : List Loc) : Prop := v = some (.int (0 : Int32)) ∧ Fr n0 L ∧ h = h0
theorem rm_c5b (hw : own_H a0 Z) (t : Addr) (b : Addr) (kb : ClassId) (cs : List Int32) (i : Nat) (zc : Int32) (fm : Value) (h0 : Heap) (n0 : Nat) (Z0 : n0 ≤ h0.size) (P0_ : Arv Z h0 t kb .byte (Int32.ofNat (2 * cs.length)) (StrChars.Road.wideBytes cs) (.int 0)) (hpos : 0 < i) (hi20 : i ≤ 20) (hil : i < cs.length) (hl : cs.length ≤ 4000) (hbd : ∀ c ∈ cs, ¬ c < 0 ∧ ¬ (65535 : Int32) < c) (hgt : (255 : Int32) < cs.getD 0 0) (SS : own_St Z h0 zc fm) : own_M l y60 j60 7 (some .int) (own_R 3 0 0 43) #[(.ref t), (.int (0 : Int32)), (.ref b), (.int (0 : Int32)), (.int (Int32.ofNat i))] Z h0 (Q_c5b Z t b kb cs i zc fm h0 n0) := by
 refine own_body (plainFor_of_name own_pn4) (fun p e s m below meth c s₁ Bd hZ hx hby hml hown hnm X0 e0 => ?_)
 have hown : s.vm.findClass "java/lang/StringUTF16" = some m.cls := hown
 have N0 := Fr.nil n0
 have D := own_dt hby d60
 refine own_cast (g' := mkF m 0 #[vr t, vi 0, vr b, vi 0, vi (Int32.ofNat i), vu, vu] []) rfl ?_
 show own_G _ _ _ _ (s₁.setTop (mkF m 0 #[vr t, vi 0, vr b, vi 0, vi (Int32.ofNat i), vu, vu] []))
 refine own_go (fun _ Kk => XS.iloadN X0.here hx rfl (D 0 rfl) rfl (XS.iload X0.here hx rfl (D 1 rfl) rfl (XS.aloadN X0.here hx rfl (D 2 rfl) rfl rfl Kk))) ?_
 refine own_cS X0 hx hZ 0 hown (hw 280 rfl) (hw 281 rfl) (hw 26 rfl) (hw 282 rfl) (rm_ubo hw t 0 i kb cs.length (StrChars.Road.wideBytes cs) zc fm h0 n0 Z0 P0_ (by omega) (by omega) SS) e0 own_pd24 rfl (D 3 rfl) hml ?_
 rintro _ T1 _ _ X1 l1 ⟨rfl, N1q, e1⟩
 have N1 := own_frl l1 N0 N1q
 refine own_go (fun _ Kk => XS.iconst X1.here hx rfl (D 4 rfl) Kk) ?_
 show own_G _ _ _ _ (T1.setTop (mkF m 8 #[vr t, vi 0, vr b, vi 0, vi (Int32.ofNat i), vu, vu] [.int 0]))
 refine own_go (fun _ Kk => XS.istore X1.here hx rfl (D 5 rfl) rfl (l' := #[vr t, vi 0, vr b, vi 0, vi (Int32.ofNat i), vi 0, vu]) rfl (XS.iload X1.here hx rfl (D 6 rfl) rfl (XS.iload X1.here hx rfl (D 7 rfl) rfl (XS.icmpNo X1.here hx rfl (D 8 rfl) rfl (tlt (own_onl (i := 0) (by omega) hpos)).2.1 (XS.aloadN X1.here hx rfl (D 9 rfl) rfl rfl Kk))))) ?_
 show own_G _ _ _ _ (T1.setTop (mkF m 18 #[vr t, vi 0, vr b, vi 0, vi (Int32.ofNat i), vi 0, vu] [.ref t]))
 refine own_go (fun _ Kk => XS.iloadN X1.here hx rfl (D 10 rfl) rfl Kk) ?_
 refine own_cS X1 hx hZ 0 hown (hw 249 rfl) (hw 250 rfl) (hw 26 rfl) (hw 251 rfl) (rm_gch hw t kb cs 0 zc fm h0 n0 Z0 P0_ (by omega) hl hbd SS) e1 own_pd5 rfl (D 11 rfl) hml ?_
 rintro _ T2 _ _ X2 l2 ⟨rfl, N2q, e2⟩
 have N2 := own_frl l2 N1 N2q
 refine own_go (fun _ Kk => XS.istore X2.here hx rfl (D 12 rfl) rfl (l' := #[vr t, vi 0, vr b, vi 0, vi (Int32.ofNat i), vi 0, vi (cs.getD 0 0)]) rfl (XS.iload X2.here hx rfl (D 13 rfl) rfl (XS.sipush X2.here hx rfl (D 14 rfl) Kk))) ?_
 show own_G _ _ _ _ (T2.setTop (mkF m 29 #[vr t, vi 0, vr b, vi 0, vi (Int32.ofNat i), vi 0, vi (cs.getD 0 0)] [.int 255, .int (cs.getD 0 0)]))
 refine own_go (fun _ Kk => XS.icmpNo X2.here hx rfl (D 15 rfl) rfl (tlt hgt).2.2.2 (XS.iload X2.here hx rfl (D 16 rfl) rfl Kk)) ?_
 exact own_rI X2 hx Bd (D 17 rfl) e2 ⟨rfl, N2, rfl⟩
theorem d59 : ∀ x ∈ ([(0, .iload_n 2, 1), (1, .newarray .byte, 2), (3, .astore_n 3, 1), (4, .aload_n 0, 1), (5, .iload_n 1, 1), (6, .aload_n 3, 1), (7, .iconst 0, 1), (8, .iload_n 2, 1), (9, .invokestatic 123, 3), (12, .istore 4, 2), (14, .iload 4, 2), (16, .iload_n 2, 1), (17, .if_icmp .eq 47, 3), (20, .aload_n 0, 1), (21, .iload_n 1, 1), (22, .iconst 1, 1), (23, .ishl, 1), (24, .iload_n 1, 1), (25, .iload_n 2, 1), (26, .iadd, 1), (27, .invokestatic 11, 3), (30, .invokestatic 126, 3), (33, .astore 5, 2), (35, .aload 5, 2), (37, .iload 4, 2), (39, .invokestatic 71, 3), (42, .sipush 255, 3), (45, .if_icmp .gt 16, 3), (61, .aload 5, 2), (63, .areturn, 1)] : List (Nat × Instr × Nat)), decode j59 x.1 = .ok x.2 := by decide +kernel
theorem own_pd25 : parseMethodDescriptor "([BI[BII)I" = some ⟨[(.array .byte), .int, (.array .byte), .int, .int], some .int⟩ := by decide +kernel
def Q_c3b (Z : State) (t : Addr) (kb : ClassId) (cs : List Int32) (i : Nat) (zc : Int32) (fm : Value) (h0 : Heap) (n0 : Nat) (v : Option Value) (h : Heap) (L : List Loc) : Prop := ∃ (d : Addr) (kd : ClassId), v = some (.ref d) ∧ Fr n0 L ∧ Keep h0 h [] ∧ h0.size ≤ d ∧ Arv Z h d kd .byte (Int32.ofNat (2 * (cs.take i).length)) (StrChars.Road.wideBytes (cs.take i)) (.int 0) ∧ Exa Z h d "[B"
theorem rm_c3b (hw : own_H a0 Z) (t : Addr) (kb : ClassId) (cs : List Int32) (i : Nat) (zc : Int32) (fm : Value) (h0 : Heap) (n0 : Nat) (Z0 : n0 ≤ h0.size) (P0_ : Arv Z h0 t kb .byte (Int32.ofNat (2 * cs.length)) (StrChars.Road.wideBytes cs) (.int 0)) (hpos : 0 < i) (hi20 : i ≤ 20) (hil : i < cs.length) (hl : cs.length ≤ 4000) (hbd : ∀ c ∈ cs, ¬ c < 0 ∧ ¬ (65535 : Int32) < c) (hgt : (255 : Int32) < cs.getD 0 0) (SS : own_St Z h0 zc fm) : own_M l y59 j59 6 (some (.array .byte)) (own_R 4 2 60 70) #[(.ref t), (.int (0 : Int32)), (.int (Int32.ofNat i))] Z h0 (Q_c3b Z t kb cs i zc fm h0 n0) := by
 refine own_body (plainFor_of_name own_pn4) (fun p e s m below meth c s₁ Bd hZ hx hby hml hown hnm X0 e0 => ?_)
 have hown : s.vm.findClass "java/lang/StringUTF16" = some m.cls := hown
 have N0 := Fr.nil n0
 have D := own_dt hby d59
 refine own_cast (g' := mkF m 0 #[vr t, vi 0, vi (Int32.ofNat i), vu, vu, vu] []) rfl ?_
 show own_G _ _ _ _ (s₁.setTop (mkF m 0 #[vr t, vi 0, vi (Int32.ofNat i), vu, vu, vu] []))
 refine own_go (fun _ Kk => XS.iloadN X0.here hx rfl (D 0 rfl) rfl Kk) ?_
 obtain ⟨T1, h1, k1, X1, e1, E1, A1, B1, st1⟩ := newPE X0 hx hZ (hw 28 rfl) e0 (g := (mkF m 1 #[vr t, vi 0, vi (Int32.ofNat i), vu, vu, vu] [.int (Int32.ofNat i)])) rfl (D 1 rfl) rfl (own_onn _ (by omega)) (cap := 20) (by rw [own_onc _ (by omega)]; omega) (by decide) (by decide) (by decide) (ad := "[B") (by decide)
 obtain ⟨b1, g1⟩ : ∃ z, z = h0.size := ⟨_, rfl⟩
 rw [← g1] at A1 B1 st1
 refine own_go st1 ?_
 have g_b1 : n0 ≤ b1 := Nat.le_trans Z0 (Nat.le_of_eq g1.symm)
 have V1 : Arv Z h1 b1 k1 .byte (Int32.ofNat i) [] (.int (0 : Int32)) := Arv.new A1 (own_onn _ (by omega))
 have Z2 : n0 ≤ h1.size := Nat.le_trans Z0 E1.1
 have sz_b1 : h0.size ≤ b1 := Nat.le_trans (Keep.refl h0 []).1 (Nat.le_of_eq g1.symm)
 have K3 := Keep.ext (Keep.refl h0 []) E1
 refine own_go (fun _ Kk => XS.astoreN X1.here hx rfl (D 2 rfl) rfl rfl (l' := #[vr t, vi 0, vi (Int32.ofNat i), vr b1, vu, vu]) rfl (XS.aloadN X1.here hx rfl (D 3 rfl) rfl rfl (XS.iloadN X1.here hx rfl (D 4 rfl) rfl Kk))) ?_
 show own_G _ _ _ _ (T1.setTop (mkF m 6 #[vr t, vi 0, vi (Int32.ofNat i), vr b1, vu, vu] [.int 0, .ref t]))
 refine own_go (fun _ Kk => XS.aloadN X1.here hx rfl (D 5 rfl) rfl rfl (XS.iconst X1.here hx rfl (D 6 rfl) (XS.iloadN X1.here hx rfl (D 7 rfl) rfl Kk))) ?_
 have Q5 := (P0_.ext E1)
 have Q6 := (SS.ext E1)
 refine own_cS X1 hx hZ 0 hown (hw 277 rfl) (hw 278 rfl) (hw 26 rfl) (hw 279 rfl) (rm_c5b hw t b1 kb cs i zc fm h1 n0 Z2 Q5 hpos (by omega) hil hl hbd hgt Q6) e1 own_pd25 rfl (D 8 rfl) hml ?_
 rintro _ T4 _ _ X4 l4 ⟨rfl, N4q, e4⟩
 have N4 := own_frl l4 N0 N4q
 refine own_go (fun _ Kk => XS.istore X4.here hx rfl (D 9 rfl) rfl (l' := #[vr t, vi 0, vi (Int32.ofNat i), vr b1, vi 0, vu]) rfl Kk) ?_
 show own_G _ _ _ _ (T4.setTop (mkF m 14 #[vr t, vi 0, vi (Int32.ofNat i), vr b1, vi 0, vu] []))
 refine own_go (fun _ Kk => XS.iload X4.here hx rfl (D 10 rfl) rfl (XS.iloadN X4.here hx rfl (D 11 rfl) rfl (XS.icmpNo X4.here hx rfl (D 12 rfl) rfl (feq (fun q => own_ltz hpos (by omega) q.symm)).1 (XS.aloadN X4.here hx rfl (D 13 rfl) rfl rfl (XS.iloadN X4.here hx rfl (D 14 rfl) rfl Kk))))) ?_
 show own_G _ _ _ _ (T4.setTop (mkF m 22 #[vr t, vi 0, vi (Int32.ofNat i), vr b1, vi 0, vu] [.int 0, .ref t]))
 refine own_go (fun _ Kk => XS.iconst X4.here hx rfl (D 15 rfl) (XS.ishl X4.here hx rfl (D 16 rfl) rfl Kk)) ?_
 show own_G _ _ _ _ (T4.setTop (mkF m 24 #[vr t, vi 0, vi (Int32.ofNat i), vr b1, vi 0, vu] [.int ((0 : Int32) <<< ((1 : Int32) &&& 31)), .ref t]))
 rw [show ((0 : Int32) <<< ((1 : Int32) &&& 31)) = (0 : Int32) from rfl]
 refine own_go (fun _ Kk => XS.iloadN X4.here hx rfl (D 17 rfl) rfl (XS.iloadN X4.here hx rfl (D 18 rfl) rfl (XS.iadd X4.here hx rfl (D 19 rfl) rfl Kk))) ?_
 show own_G _ _ _ _ (T4.setTop (mkF m 27 #[vr t, vi 0, vi (Int32.ofNat i), vr b1, vi 0, vu] [.int ((0 : Int32) + (Int32.ofNat i)), .int 0, .ref t]))
 rw [show ((0 : Int32) + (Int32.ofNat i)) = (Int32.ofNat i) from own_addz _]
 refine own_cS X4 hx hZ 2 hown (hw 239 rfl) (hw 240 rfl) (hw 26 rfl) (hw 241 rfl) (rm_nbl hw i h1 n0 Z2 (by omega)) e4 own_pd12 rfl (D 20 rfl) hml ?_
 rintro _ T7 _ _ X7 l7 ⟨rfl, N7q, e7⟩
 have N7 := own_frl l7 N4 N7q
 refine own_cS X7 hx hZ 0 hown (hw 289 rfl) (hw 212 rfl) (hw 213 rfl) (hw 214 rfl) (rm_cor hw t kb (Int32.ofNat (2 * cs.length)) (StrChars.Road.wideBytes cs) (2 * i) h1 n0 Z2 Q5 (by omega) (own_onl (by omega) (by omega)) (by rw [own_wlen]; omega)) e7 own_pd20 rfl (D 21 rfl) hml (fun _ T8 _ _ X8 l8 => own_hp ?_)
 rintro h8 e8 ⟨b8b, kx8, rfl, N8q, K8q, le_b8b, F8_0, F8_1⟩
 have N8 := own_frl l8 N7 N8q
 have Z9 : n0 ≤ h8.size := Nat.le_trans Z2 K8q.1
 have g_b8b : n0 ≤ b8b := Nat.le_trans Z2 le_b8b
 have sz_b8b : h0.size ≤ b8b := Nat.le_trans K3.1 le_b8b
 have K8 := Keep.trans K3 K8q all0
 have VV8 : Arv Z h8 b8b kx8 .byte (Int32.ofNat (2 * (cs.take i).length)) (StrChars.Road.wideBytes (cs.take i)) (.int 0) := by have q := F8_0; rw [own_wtake] at q; rw [own_tkl hil]; exact q
 refine own_go (fun _ Kk => XS.astore X8.here hx rfl (D 22 rfl) rfl rfl (l' := #[vr t, vi 0, vi (Int32.ofNat i), vr b1, vi 0, vr b8b]) rfl (XS.aload X8.here hx rfl (D 23 rfl) rfl rfl Kk)) ?_
 show own_G _ _ _ _ (T8.setTop (mkF m 37 #[vr t, vi 0, vi (Int32.ofNat i), vr b1, vi 0, vr b8b] [.ref b8b]))
 refine own_go (fun _ Kk => XS.iload X8.here hx rfl (D 24 rfl) rfl Kk) ?_
 have Q11 := (Q6.keep K8q all0)
 refine own_cS X8 hx hZ 0 hown (hw 249 rfl) (hw 250 rfl) (hw 26 rfl) (hw 251 rfl) (rm_gch hw b8b kx8 (cs.take i) 0 zc fm h8 n0 Z9 VV8 (by rw [own_tkl hil]; exact hpos) (by rw [own_tkl hil]; omega) (fun c hc => hbd c (List.mem_of_mem_take hc)) Q11) e8 own_pd5 rfl (D 25 rfl) hml ?_
 rintro _ T10 _ _ X10 l10 ⟨rfl, N10q, e10⟩
 have N10 := own_frl l10 N8 N10q
 show own_G _ _ _ _ (T10.setTop (mkF m 42 #[vr t, vi 0, vi (Int32.ofNat i), vr b1, vi 0, vr b8b] [.int ((cs.take i).getD 0 0)]))
 rw [show ((cs.take i).getD 0 0) = (cs.getD 0 0) from own_take0 hpos]
 refine own_go (fun _ Kk => XS.sipush X10.here hx rfl (D 26 rfl) (XS.icmpYes X10.here hx rfl (pc0 := 45) (pc' := 61) rfl (D 27 rfl) rfl (tlt hgt).2.2.1 (by decide) (by decide) (XS.aload X10.here hx rfl (D 28 rfl) rfl rfl Kk))) ?_
 exact own_rR X10 hx Bd (D 29 rfl) e10 ⟨b8b, kx8, rfl, N10, K8, sz_b8b, VV8, F8_1⟩
theorem d58 : ∀ x ∈ ([(0, .iload_n 2, 1), (1, .ifCond .ne 7, 3), (8, .getstatic 251, 3), (11, .ifCond .eq 28, 3), (14, .aload_n 0, 1), (15, .iload_n 1, 1), (16, .iload_n 2, 1), (17, .invokestatic 257, 3), (20, .astore_n 3, 1), (21, .aload_n 3, 1), (22, .iload_n 2, 1), (23, .invokestatic 259, 3), (26, .istore 4, 2), (28, .new 3, 3), (31, .dup, 1), (32, .aload_n 3, 1), (33, .iload 4, 2), (35, .invokespecial 263, 3), (38, .areturn, 1)] : List (Nat × Instr × Nat)), decode j58 x.1 = .ok x.2 := by decide +kernel
def Q_uns (Z : State) (t : Addr) (kb : ClassId) (cs : List Int32) (i : Nat) (zc : Int32) (fm : Value) (h0 : Heap) (n0 : Nat) (v : Option Value) (h : Heap) (L : List Loc) : Prop := ∃ (x : Addr) (d : Addr), v = some (.ref x) ∧ Fr n0 L ∧ Keep h0 h [] ∧ h0.size ≤ x ∧ h0.size ≤ d ∧ (own_Str Z h x d (cs.take i))
theorem rm_uns (hw : own_H a0 Z) (t : Addr) (kb : ClassId) (cs : List Int32) (i : Nat) (zc : Int32) (fm : Value) (h0 : Heap) (n0 : Nat) (Z0 : n0 ≤ h0.size) (P0_ : Arv Z h0 t kb .byte (Int32.ofNat (2 * cs.length)) (StrChars.Road.wideBytes cs) (.int 0)) (hpos : 0 < i) (hi20 : i ≤ 20) (hil : i < cs.length) (hl : cs.length ≤ 4000) (hbd : ∀ c ∈ cs, ¬ c < 0 ∧ ¬ (65535 : Int32) < c) (hgt : (255 : Int32) < cs.getD 0 0) (SS : own_St Z h0 zc fm) : own_M l y58 j58 5 (some (.object "java/lang/String")) (own_R 5 3 68 87) #[(.ref t), (.int (0 : Int32)), (.int (Int32.ofNat i))] Z h0 (Q_uns Z t kb cs i zc fm h0 n0) := by
 refine own_body (plainFor_of_name own_pn4) (fun p e s m below meth c s₁ Bd hZ hx hby hml hown hnm X0 e0 => ?_)
 have hown : s.vm.findClass "java/lang/StringUTF16" = some m.cls := hown
 have N0 := Fr.nil n0
 have D := own_dt hby d58
 refine own_cast (g' := mkF m 0 #[vr t, vi 0, vi (Int32.ofNat i), vu, vu] []) rfl ?_
 show own_G _ _ _ _ (s₁.setTop (mkF m 0 #[vr t, vi 0, vi (Int32.ofNat i), vu, vu] []))
 refine own_go (fun _ Kk => XS.iloadN X0.here hx rfl (D 0 rfl) rfl (XS.ifYes X0.here hx rfl (pc0 := 1) (pc' := 8) rfl (D 1 rfl) rfl ((if0 _ _).trans (feq (own_ltz hpos (by omega))).2) (by decide) (by decide) Kk)) ?_
 refine own_gS X0 hx hZ hown (hw 273 rfl) e0 SS.2.2.1 (D 2 rfl) (fun T1 X1 e1 => ?_)
 refine own_go (fun _ Kk => XS.ifNo X1.here hx rfl (D 3 rfl) rfl ((if0 _ _).trans (feq SS.1).1) (XS.aloadN X1.here hx rfl (D 4 rfl) rfl rfl Kk)) ?_
 show own_G _ _ _ _ (T1.setTop (mkF m 15 #[vr t, vi 0, vi (Int32.ofNat i), vu, vu] [.ref t]))
 refine own_go (fun _ Kk => XS.iloadN X1.here hx rfl (D 5 rfl) rfl (XS.iloadN X1.here hx rfl (D 6 rfl) rfl Kk)) ?_
 refine own_cS X1 hx hZ 0 hown (hw 274 rfl) (hw 275 rfl) (hw 26 rfl) (hw 276 rfl) (rm_c3b hw t kb cs i zc fm h0 n0 Z0 P0_ hpos (by omega) hil hl hbd hgt SS) e1 own_pd20 rfl (D 7 rfl) hml (fun _ T2 _ _ X2 l2 => own_hp ?_)
 rintro h2 e2 ⟨b2d, kd2, rfl, N2q, K2q, le_b2d, F2_0, F2_1⟩
 have N2 := own_frl l2 N0 N2q
 have Z3 : n0 ≤ h2.size := Nat.le_trans Z0 K2q.1
 have g_b2d : n0 ≤ b2d := Nat.le_trans Z0 le_b2d
 have sz_b2d : h0.size ≤ b2d := Nat.le_trans (Keep.refl h0 []).1 le_b2d
 have K2 := Keep.trans (Keep.refl h0 []) K2q all0
 refine own_go (fun _ Kk => XS.astoreN X2.here hx rfl (D 8 rfl) rfl rfl (l' := #[vr t, vi 0, vi (Int32.ofNat i), vr b2d, vu]) rfl (XS.aloadN X2.here hx rfl (D 9 rfl) rfl rfl Kk)) ?_
 show own_G _ _ _ _ (T2.setTop (mkF m 22 #[vr t, vi 0, vi (Int32.ofNat i), vr b2d, vu] [.ref b2d]))
 refine own_go (fun _ Kk => XS.iloadN X2.here hx rfl (D 10 rfl) rfl Kk) ?_
 show own_G _ _ _ _ (T2.setTop (mkF m 23 #[vr t, vi 0, vi (Int32.ofNat i), vr b2d, vu] [.int (Int32.ofNat i), .ref b2d]))
 rw [show (Int32.ofNat i) = (Int32.ofNat (cs.take i).length) from by rw [own_tkl hil]]
 refine own_cS X2 hx hZ 0 hown (hw 290 rfl) (hw 33 rfl) (hw 26 rfl) (hw 34 rfl) (rm_cfl hw b2d (cs.take i) (1 : Int32) kd2 (Int32.ofNat (2 * (cs.take i).length)) (StrChars.Road.wideBytes (cs.take i)) h2 n0 Z3 F2_0 (by rw [own_tkl hil]; omega) (Or.inr ⟨rfl, rfl, rfl, _, own_mem (i := 0) (by rw [own_tkl hil]; exact hpos), by rw [own_take0 hpos]; exact hgt⟩)) e2 own_pd18 rfl (D 11 rfl) hml ?_
 rintro _ T4 _ _ X4 l4 ⟨rfl, N4q, e4⟩
 have N4 := own_frl l4 N2 N4q
 refine own_go (fun _ Kk => XS.istore X4.here hx rfl (D 12 rfl) rfl (l' := #[vr t, vi 0, vi (Int32.ofNat (cs.take i).length), vr b2d, vi 1]) rfl Kk) ?_
 obtain ⟨T5, h5, X5, e5, E5, A5, D5, -, st5⟩ := newO X4 hx hZ hown (hw 291 rfl) (hw 11 rfl) (hw 12 rfl) e4 (g := (mkF m 28 #[vr t, vi 0, vi (Int32.ofNat (cs.take i).length), vr b2d, vi 1] [])) rfl (D 13 rfl) (by decide) (by decide)
 obtain ⟨b5, g5⟩ : ∃ z, z = h2.size := ⟨_, rfl⟩
 rw [← g5] at A5 D5 st5
 refine own_go st5 ?_
 have g_b5 : n0 ≤ b5 := Nat.le_trans Z3 (Nat.le_of_eq g5.symm)
 have Z6 : n0 ≤ h5.size := Nat.le_trans Z3 E5.1
 have sz_b5 : h0.size ≤ b5 := Nat.le_trans K2.1 (Nat.le_of_eq g5.symm)
 have K7 := Keep.ext K2 E5
 have F5_coder : Fld Z h5 b5 "java/lang/String" "coder" "B" (.int (0 : Int32)) := D5 (Or.inr (hw 36 rfl)) (ty := .byte) (by decide)
 have F5_value : Fld Z h5 b5 "java/lang/String" "value" "[B" .null := D5 (Or.inr (hw 38 rfl)) (ty := (.array .byte)) (by decide)
 refine own_go (fun _ Kk => XS.dup X5.here hx rfl (D 14 rfl) rfl rfl Kk) ?_
 show own_G _ _ _ _ (T5.setTop (mkF m 32 #[vr t, vi 0, vi (Int32.ofNat (cs.take i).length), vr b2d, vi 1] [.ref b5, .ref b5]))
 refine own_go (fun _ Kk => XS.aloadN X5.here hx rfl (D 15 rfl) rfl rfl (XS.iload X5.here hx rfl (D 16 rfl) rfl Kk)) ?_
 have Q9 := (F2_0.ext E5)
 refine own_cI X5 hx hZ 1 hown (hw 292 rfl) (hw 231 rfl) (hw 232 rfl) (hw 12 rfl) (rm_inib hw b5 b2d (1 : Int32) (cs.take i) kd2 (Int32.ofNat (2 * (cs.take i).length)) (StrChars.Road.wideBytes (cs.take i)) h5 n0 Z6 F5_value F5_coder A5 Q9 g_b5 (Or.inr ⟨rfl, rfl, rfl, _, own_mem (i := 0) (by rw [own_tkl hil]; exact hpos), by rw [own_take0 hpos]; exact hgt⟩) (fun c hc => hbd c (List.mem_of_mem_take hc)) (by rw [own_tkl hil]; omega) (Nat.ne_of_lt (Nat.lt_of_lt_of_le F2_1.lt (Nat.le_of_eq g5.symm)))) e5 own_pd22 rfl (D 17 rfl) hml (fun _ T8 _ _ X8 l8 => own_hp ?_)
 rintro h8 e8 ⟨rfl, N8q, K8q, x8_0⟩
 have N8 := own_frl l8 N4 N8q
 have Z10 : n0 ≤ h8.size := Nat.le_trans Z6 K8q.1
 have K8 := Keep.trans K7 K8q (allS (Or.inr sz_b5) all0)
 exact own_rR X8 hx Bd (D 18 rfl) e8 ⟨b5, b2d, rfl, N8, K8, sz_b5, sz_b2d, x8_0⟩
theorem d26 : ∀ x ∈ ([(0, .aload_n 0, 1), (1, .invokevirtual 505, 3), (4, .istore_n 3, 1), (5, .iload_n 1, 1), (6, .iload_n 2, 1), (7, .iload_n 3, 1), (8, .invokestatic 521, 3), (11, .iload_n 1, 1), (12, .ifCond .ne 10, 3), (15, .iload_n 2, 1), (16, .iload_n 3, 1), (17, .if_icmp .ne 5, 3), (22, .iload_n 2, 1), (23, .iload_n 1, 1), (24, .isub, 1), (25, .istore 4, 2), (27, .aload_n 0, 1), (28, .invokevirtual 492, 3), (31, .ifCond .eq 16, 3), (34, .aload_n 0, 1), (35, .getfield 9, 3), (38, .iload_n 1, 1), (39, .iload 4, 2), (41, .invokestatic 685, 3), (44, .goto 13, 3), (57, .areturn, 1), (47, .aload_n 0, 1), (48, .getfield 9, 3), (51, .iload_n 1, 1), (52, .iload 4, 2), (54, .invokestatic 689, 3)] : List (Nat × Instr × Nat)), decode j26 x.1 = .ok x.2 := by decide +kernel
theorem own_pd26 : parseMethodDescriptor "(III)V" = some ⟨[.int, .int, .int], none⟩ := by decide +kernel
theorem own_pd27 : parseMethodDescriptor "([BII)Ljava/lang/String;" = some ⟨[(.array .byte), .int, .int], some (.object "java/lang/String")⟩ := by decide +kernel
def Q_ssL (Z : State) (a1 : Addr) (t : Addr) (cs : List Int32) (i : Nat) (zc : Int32) (fm : Value) (h0 : Heap) (n0 : Nat) (v : Option Value) (h : Heap) (L : List Loc) : Prop := ∃ (x : Addr) (d : Addr), v = some (.ref x) ∧ Fr n0 L ∧ Keep h0 h [] ∧ h0.size ≤ x ∧ h0.size ≤ d ∧ (own_Str Z h x d (cs.take i))
theorem rm_ssL (hw : own_H a0 Z) (a1 : Addr) (t : Addr) (cs : List Int32) (i : Nat) (zc : Int32) (fm : Value) (h0 : Heap) (n0 : Nat) (Z0 : n0 ≤ h0.size) (P0_ : own_Str Z h0 a1 t cs) (hpos : 0 < i) (hi20 : i ≤ 20) (hil : i < cs.length) (hlo : ∀ c ∈ cs, ¬ (255 : Int32) < c) (SS : own_St Z h0 zc fm) : own_M l y26 j26 5 (some (.object "java/lang/String")) (own_R 4 2 48 86) #[(.ref a1), (.int (0 : Int32)), (.int (Int32.ofNat i))] Z h0 (Q_ssL Z a1 t cs i zc fm h0 n0) := by
 refine own_body (plainFor_of_name own_pn0) (fun p e s m below meth c s₁ Bd hZ hx hby hml hown hnm X0 e0 => ?_)
 have hown : s.vm.findClass "java/lang/String" = some m.cls := hown
 have N0 := Fr.nil n0
 have D := own_dt hby d26
 refine own_cast (g' := mkF m 0 #[vr a1, vi 0, vi (Int32.ofNat i), vu, vu] []) rfl ?_
 obtain ⟨kb, cd, Nb, vs, E_, Fv_, Fc_, V_, hco, hch, hlen⟩ := id P0_
 have hcd : cd = 0 ∨ cd = 1 := own_cd01 hco
 
 obtain ⟨rfl, rfl, rfl⟩ := own_isL hco hlo
 show own_G _ _ _ _ (s₁.setTop (mkF m 0 #[vr a1, vi 0, vi (Int32.ofNat i), vu, vu] []))
 refine own_go (fun _ Kk => XS.aloadN X0.here hx rfl (D 0 rfl) rfl rfl Kk) ?_
 refine own_cV X0 hx hZ 0 hown (hw 51 rfl) (hw 52 rfl) (hw 54 rfl) (hw 53 rfl) (hw 55 rfl) (hw 12 rfl) (rm_len hw a1 t cs zc fm h0 n0 Z0 P0_ SS) e0 E_ own_pd10 rfl (D 1 rfl) hml ?_
 rintro _ T1 _ _ X1 l1 ⟨rfl, N1q, e1⟩
 have N1 := own_frl l1 N0 N1q
 refine own_go (fun _ Kk => XS.istoreN X1.here hx rfl (D 2 rfl) rfl (l' := #[vr a1, vi 0, vi (Int32.ofNat i), vi (Int32.ofNat cs.length), vu]) rfl (XS.iloadN X1.here hx rfl (D 3 rfl) rfl (XS.iloadN X1.here hx rfl (D 4 rfl) rfl Kk))) ?_
 show own_G _ _ _ _ (T1.setTop (mkF m 7 #[vr a1, vi 0, vi (Int32.ofNat i), vi (Int32.ofNat cs.length), vu] [.int (Int32.ofNat i), .int 0]))
 refine own_go (fun _ Kk => XS.iloadN X1.here hx rfl (D 5 rfl) rfl Kk) ?_
 refine own_cS X1 hx hZ 0 hown (hw 130 rfl) (hw 131 rfl) (hw 12 rfl) (hw 132 rfl) (rm_cbe hw (Int32.ofNat i) (Int32.ofNat cs.length) zc fm h0 n0 Z0 (own_onn _ (by omega)) (by rw [own_ltn (by omega) (by omega)]; omega) SS) e1 own_pd26 rfl (D 6 rfl) hml ?_
 rintro _ T2 _ _ X2 l2 ⟨rfl, N2q, e2⟩
 have N2 := own_frl l2 N1 N2q
 refine own_go (fun _ Kk => XS.iloadN X2.here hx rfl (D 7 rfl) rfl (XS.ifNo X2.here hx rfl (D 8 rfl) rfl ((if0 _ _).trans (by decide)) (XS.iloadN X2.here hx rfl (D 9 rfl) rfl Kk))) ?_
 show own_G _ _ _ _ (T2.setTop (mkF m 16 #[vr a1, vi 0, vi (Int32.ofNat i), vi (Int32.ofNat cs.length), vu] [.int (Int32.ofNat i)]))
 refine own_go (fun _ Kk => XS.iloadN X2.here hx rfl (D 10 rfl) rfl (XS.icmpYes X2.here hx rfl (pc0 := 17) (pc' := 22) rfl (D 11 rfl) rfl (feq (fun q => absurd (own_inj (by omega) (by omega) q) (by omega))).2 (by decide) (by decide) (XS.iloadN X2.here hx rfl (D 12 rfl) rfl (XS.iloadN X2.here hx rfl (D 13 rfl) rfl (XS.isub X2.here hx rfl (D 14 rfl) rfl Kk))))) ?_
 show own_G _ _ _ _ (T2.setTop (mkF m 25 #[vr a1, vi 0, vi (Int32.ofNat i), vi (Int32.ofNat cs.length), vu] [.int ((Int32.ofNat i) - (0 : Int32))]))
 rw [show ((Int32.ofNat i) - (0 : Int32)) = (Int32.ofNat i) from own_sub0 i (by omega)]
 refine own_go (fun _ Kk => XS.istore X2.here hx rfl (D 15 rfl) rfl (l' := #[vr a1, vi 0, vi (Int32.ofNat i), vi (Int32.ofNat cs.length), vi (Int32.ofNat i)]) rfl (XS.aloadN X2.here hx rfl (D 16 rfl) rfl rfl Kk)) ?_
 refine own_cV X2 hx hZ 0 hown (hw 66 rfl) (hw 67 rfl) (hw 69 rfl) (hw 68 rfl) (hw 70 rfl) (hw 12 rfl) (rm_lat hw a1 zc fm h0 n0 Z0 Fc_ SS) e2 E_ own_pd6 rfl (D 17 rfl) hml ?_
 rintro _ T3 _ _ X3 l3 ⟨rfl, N3q, e3⟩
 have N3 := own_frl l3 N2 N3q
 refine own_go (fun _ Kk => XS.ifNo X3.here hx rfl (D 18 rfl) rfl ((if0 _ _).trans (by decide)) Kk) ?_
 show own_G _ _ _ _ (T3.setTop (mkF m 34 #[vr a1, vi 0, vi (Int32.ofNat i), vi (Int32.ofNat cs.length), vi (Int32.ofNat i)] []))
 refine own_go (fun _ Kk => XS.aloadN X3.here hx rfl (D 19 rfl) rfl rfl Kk) ?_
 refine own_gF X3 hx hZ hown (hw 37 rfl) e3 Fv_ (D 20 rfl) (fun T4 X4 e4 => ?_)
 refine own_go (fun _ Kk => XS.iloadN X4.here hx rfl (D 21 rfl) rfl (XS.iload X4.here hx rfl (D 22 rfl) rfl Kk)) ?_
 refine own_cS X4 hx hZ 0 hown (hw 136 rfl) (hw 137 rfl) (hw 73 rfl) (hw 138 rfl) (rm_lns hw t kb cs i h0 n0 Z0 V_ hpos (by omega) hil hlen hch hlo) e4 own_pd27 rfl (D 23 rfl) hml (fun _ T5 _ _ X5 l5 => own_hp ?_)
 rintro h5 e5 ⟨b5x, b5d, rfl, N5q, K5q, le_b5x, le_b5d, x5_0⟩
 have N5 := own_frl l5 N3 N5q
 have Z6 : n0 ≤ h5.size := Nat.le_trans Z0 K5q.1
 have g_b5x : n0 ≤ b5x := Nat.le_trans Z0 le_b5x
 have sz_b5x : h0.size ≤ b5x := Nat.le_trans (Keep.refl h0 []).1 le_b5x
 have g_b5d : n0 ≤ b5d := Nat.le_trans Z0 le_b5d
 have sz_b5d : h0.size ≤ b5d := Nat.le_trans (Keep.refl h0 []).1 le_b5d
 have K5 := Keep.trans (Keep.refl h0 []) K5q all0
 show own_G _ _ _ _ (T5.setTop (mkF m 44 #[vr a1, vi 0, vi (Int32.ofNat i), vi (Int32.ofNat cs.length), vi (Int32.ofNat i)] [.ref b5x]))
 refine own_go (fun _ Kk => XS.goto X5.here hx rfl (pc0 := 44) (pc' := 57) rfl (D 24 rfl) (by decide) (by decide) Kk) ?_
 exact own_rR X5 hx Bd (D 25 rfl) e5 ⟨b5x, b5d, rfl, N5, K5, sz_b5x, sz_b5d, x5_0⟩
def Q_ssU (Z : State) (a1 : Addr) (t : Addr) (cs : List Int32) (i : Nat) (zc : Int32) (fm : Value) (h0 : Heap) (n0 : Nat) (v : Option Value) (h : Heap) (L : List Loc) : Prop := ∃ (x : Addr) (d : Addr), v = some (.ref x) ∧ Fr n0 L ∧ Keep h0 h [] ∧ h0.size ≤ x ∧ h0.size ≤ d ∧ (own_Str Z h x d (cs.take i))
theorem rm_ssU (hw : own_H a0 Z) (a1 : Addr) (t : Addr) (cs : List Int32) (i : Nat) (zc : Int32) (fm : Value) (h0 : Heap) (n0 : Nat) (Z0 : n0 ≤ h0.size) (P0_ : own_Str Z h0 a1 t cs) (hpos : 0 < i) (hi20 : i ≤ 20) (hil : i < cs.length) (hgt : (255 : Int32) < cs.getD 0 0) (SS : own_St Z h0 zc fm) : own_M l y26 j26 5 (some (.object "java/lang/String")) (own_R 6 3 68 103) #[(.ref a1), (.int (0 : Int32)), (.int (Int32.ofNat i))] Z h0 (Q_ssU Z a1 t cs i zc fm h0 n0) := by
 refine own_body (plainFor_of_name own_pn0) (fun p e s m below meth c s₁ Bd hZ hx hby hml hown hnm X0 e0 => ?_)
 have hown : s.vm.findClass "java/lang/String" = some m.cls := hown
 have N0 := Fr.nil n0
 have D := own_dt hby d26
 refine own_cast (g' := mkF m 0 #[vr a1, vi 0, vi (Int32.ofNat i), vu, vu] []) rfl ?_
 obtain ⟨kb, cd, Nb, vs, E_, Fv_, Fc_, V_, hco, hch, hlen⟩ := id P0_
 have hcd : cd = 0 ∨ cd = 1 := own_cd01 hco
 
 obtain ⟨rfl, rfl, rfl⟩ := own_isU hco ⟨_, own_mem (i := 0) (by omega), hgt⟩
 show own_G _ _ _ _ (s₁.setTop (mkF m 0 #[vr a1, vi 0, vi (Int32.ofNat i), vu, vu] []))
 refine own_go (fun _ Kk => XS.aloadN X0.here hx rfl (D 0 rfl) rfl rfl Kk) ?_
 refine own_cV X0 hx hZ 0 hown (hw 51 rfl) (hw 52 rfl) (hw 54 rfl) (hw 53 rfl) (hw 55 rfl) (hw 12 rfl) (rm_len hw a1 t cs zc fm h0 n0 Z0 P0_ SS) e0 E_ own_pd10 rfl (D 1 rfl) hml ?_
 rintro _ T1 _ _ X1 l1 ⟨rfl, N1q, e1⟩
 have N1 := own_frl l1 N0 N1q
 refine own_go (fun _ Kk => XS.istoreN X1.here hx rfl (D 2 rfl) rfl (l' := #[vr a1, vi 0, vi (Int32.ofNat i), vi (Int32.ofNat cs.length), vu]) rfl (XS.iloadN X1.here hx rfl (D 3 rfl) rfl (XS.iloadN X1.here hx rfl (D 4 rfl) rfl Kk))) ?_
 show own_G _ _ _ _ (T1.setTop (mkF m 7 #[vr a1, vi 0, vi (Int32.ofNat i), vi (Int32.ofNat cs.length), vu] [.int (Int32.ofNat i), .int 0]))
 refine own_go (fun _ Kk => XS.iloadN X1.here hx rfl (D 5 rfl) rfl Kk) ?_
 refine own_cS X1 hx hZ 0 hown (hw 130 rfl) (hw 131 rfl) (hw 12 rfl) (hw 132 rfl) (rm_cbe hw (Int32.ofNat i) (Int32.ofNat cs.length) zc fm h0 n0 Z0 (own_onn _ (by omega)) (by rw [own_ltn (by omega) (by omega)]; omega) SS) e1 own_pd26 rfl (D 6 rfl) hml ?_
 rintro _ T2 _ _ X2 l2 ⟨rfl, N2q, e2⟩
 have N2 := own_frl l2 N1 N2q
 refine own_go (fun _ Kk => XS.iloadN X2.here hx rfl (D 7 rfl) rfl (XS.ifNo X2.here hx rfl (D 8 rfl) rfl ((if0 _ _).trans (by decide)) (XS.iloadN X2.here hx rfl (D 9 rfl) rfl Kk))) ?_
 show own_G _ _ _ _ (T2.setTop (mkF m 16 #[vr a1, vi 0, vi (Int32.ofNat i), vi (Int32.ofNat cs.length), vu] [.int (Int32.ofNat i)]))
 refine own_go (fun _ Kk => XS.iloadN X2.here hx rfl (D 10 rfl) rfl (XS.icmpYes X2.here hx rfl (pc0 := 17) (pc' := 22) rfl (D 11 rfl) rfl (feq (fun q => absurd (own_inj (by omega) (by omega) q) (by omega))).2 (by decide) (by decide) (XS.iloadN X2.here hx rfl (D 12 rfl) rfl (XS.iloadN X2.here hx rfl (D 13 rfl) rfl (XS.isub X2.here hx rfl (D 14 rfl) rfl Kk))))) ?_
 show own_G _ _ _ _ (T2.setTop (mkF m 25 #[vr a1, vi 0, vi (Int32.ofNat i), vi (Int32.ofNat cs.length), vu] [.int ((Int32.ofNat i) - (0 : Int32))]))
 rw [show ((Int32.ofNat i) - (0 : Int32)) = (Int32.ofNat i) from own_sub0 i (by omega)]
 refine own_go (fun _ Kk => XS.istore X2.here hx rfl (D 15 rfl) rfl (l' := #[vr a1, vi 0, vi (Int32.ofNat i), vi (Int32.ofNat cs.length), vi (Int32.ofNat i)]) rfl (XS.aloadN X2.here hx rfl (D 16 rfl) rfl rfl Kk)) ?_
 refine own_cV X2 hx hZ 0 hown (hw 66 rfl) (hw 67 rfl) (hw 69 rfl) (hw 68 rfl) (hw 70 rfl) (hw 12 rfl) (rm_utf hw a1 zc fm h0 n0 Z0 Fc_ SS) e2 E_ own_pd6 rfl (D 17 rfl) hml ?_
 rintro _ T3 _ _ X3 l3 ⟨rfl, N3q, e3⟩
 have N3 := own_frl l3 N2 N3q
 refine own_go (fun _ Kk => XS.ifYes X3.here hx rfl (pc0 := 31) (pc' := 47) rfl (D 18 rfl) rfl ((if0 _ _).trans (by decide)) (by decide) (by decide) Kk) ?_
 show own_G _ _ _ _ (T3.setTop (mkF m 47 #[vr a1, vi 0, vi (Int32.ofNat i), vi (Int32.ofNat cs.length), vi (Int32.ofNat i)] []))
 refine own_go (fun _ Kk => XS.aloadN X3.here hx rfl (D 26 rfl) rfl rfl Kk) ?_
 refine own_gF X3 hx hZ hown (hw 37 rfl) e3 Fv_ (D 27 rfl) (fun T4 X4 e4 => ?_)
 refine own_go (fun _ Kk => XS.iloadN X4.here hx rfl (D 28 rfl) rfl (XS.iload X4.here hx rfl (D 29 rfl) rfl Kk)) ?_
 refine own_cS X4 hx hZ 0 hown (hw 270 rfl) (hw 271 rfl) (hw 26 rfl) (hw 272 rfl) (rm_uns hw t kb cs i zc fm h0 n0 Z0 V_ hpos (by omega) hil hlen hch hgt SS) e4 own_pd27 rfl (D 30 rfl) hml (fun _ T5 _ _ X5 l5 => own_hp ?_)
 rintro h5 e5 ⟨b5x, b5d, rfl, N5q, K5q, le_b5x, le_b5d, x5_0⟩
 have N5 := own_frl l5 N3 N5q
 have Z6 : n0 ≤ h5.size := Nat.le_trans Z0 K5q.1
 have g_b5x : n0 ≤ b5x := Nat.le_trans Z0 le_b5x
 have sz_b5x : h0.size ≤ b5x := Nat.le_trans (Keep.refl h0 []).1 le_b5x
 have g_b5d : n0 ≤ b5d := Nat.le_trans Z0 le_b5d
 have sz_b5d : h0.size ≤ b5d := Nat.le_trans (Keep.refl h0 []).1 le_b5d
 have K5 := Keep.trans (Keep.refl h0 []) K5q all0
 show own_G _ _ _ _ (T5.setTop (mkF m 57 #[vr a1, vi 0, vi (Int32.ofNat i), vi (Int32.ofNat cs.length), vi (Int32.ofNat i)] [.ref b5x]))
 exact own_rR X5 hx Bd (D 25 rfl) e5 ⟨b5x, b5d, rfl, N5, K5, sz_b5x, sz_b5d, x5_0⟩
end Jvm.Pilot.@@N@@
namespace Jvm.Pilot.@@N@@
open Jvm Jvm.ClassFile Sem Op Lib Jvm.Free Jvm.Stand Jvm.LawKit Jvm.RoadKit Bundle Jvm.Pilot.@@N@@.Jvm.D
set_option maxRecDepth 65536
set_option maxHeartbeats 40000000
variable {l : Launch} {Z : State} {a0 : Array Value}

theorem own_nesz {Z : State} {h : Heap} {a b : Addr} {k k' : ClassId} {ty ty' : FieldType} {z z' : Int32} {vs vs' : List Value} {d d' : Value} (A : Arv Z h a k ty z vs d) (B : Arv Z h b k' ty' z' vs' d') (q : z.toNatClampNeg ≠ z'.toNatClampNeg) : a ≠ b := by
  rintro rfl
  obtain ⟨c, hc, -, hs, -⟩ := A; obtain ⟨c', hc', -, hs', -⟩ := B
  have e := hc.1.symm.trans hc'.1
  cases e; omega
theorem own_ens (q : Nat) (h : q ≤ 16) : ¬ (0 : Int32) < Int32.ofNat q - (16 : Int32) := by
  have r := c_isub (Int32.ofNat q) 16; have r1 := Int32.le_toInt (Int32.ofNat q - 16); have r2 := Int32.toInt_lt (Int32.ofNat q - 16)
  rw [Int32.lt_iff_toInt_lt]; have e : (0 : Int32).toInt = 0 := rfl; have e1 : (16 : Int32).toInt = 16 := rfl; rw [own_on _ (by omega), e1] at r; omega
theorem own_takeall (L : List Value) (n : Nat) (h : L.length = n) : L = L.take n := by rw [← h, List.take_length]
theorem d25 : ∀ x ∈ ([(0, .aload_n 0, 1), (1, .invokespecial 3, 3), (4, .getstatic 18, 3), (7, .ifCond .eq 18, 3), (10, .aload_n 0, 1), (11, .iload_n 1, 1), (12, .newarray .byte, 2), (14, .putfield 15, 3), (17, .aload_n 0, 1), (18, .iconst 0, 1), (19, .putfield 22, 3), (22, .goto 16, 3), (38, .return_, 1)] : List (Nat × Instr × Nat)), decode j25 x.1 = .ok x.2 := by decide +kernel
theorem own_pn7 : plainName "java/lang/AbstractStringBuilder" = true := by first | (simp [plainName, overriddenIn]; done) | decide +kernel
def Q_asbi (Z : State) (a1 : Addr) (zc : Int32) (fm : Value) (h0 : Heap) (n0 : Nat) (v : Option Value) (h : Heap) (L : List Loc) : Prop := ∃ (b : Addr) (kb : ClassId), v = none ∧ Fr n0 L ∧ Keep h0 h [a1] ∧ h0.size ≤ b ∧ Fld Z h a1 "java/lang/AbstractStringBuilder" "value" "[B" (.ref b) ∧ Fld Z h a1 "java/lang/AbstractStringBuilder" "coder" "B" (.int (0 : Int32)) ∧ Fld Z h a1 "java/lang/AbstractStringBuilder" "count" "I" (.int (0 : Int32)) ∧ Fld Z h a1 "java/lang/AbstractStringBuilder" "maybeLatin1" "Z" (.int (0 : Int32)) ∧ Exa Z h a1 "java/lang/StringBuilder" ∧ Arv Z h b kb .byte (16 : Int32) [] (.int 0) ∧ Exa Z h b "[B"
theorem rm_asbi (hw : own_H a0 Z) (a1 : Addr) (zc : Int32) (fm : Value) (h0 : Heap) (n0 : Nat) (Z0 : n0 ≤ h0.size) (P0_ : Fld Z h0 a1 "java/lang/AbstractStringBuilder" "value" "[B" .null) (P1_ : Fld Z h0 a1 "java/lang/AbstractStringBuilder" "coder" "B" (.int (0 : Int32))) (P2_ : Fld Z h0 a1 "java/lang/AbstractStringBuilder" "count" "I" (.int (0 : Int32))) (P3_ : Fld Z h0 a1 "java/lang/AbstractStringBuilder" "maybeLatin1" "Z" (.int (0 : Int32))) (P4_ : Exa Z h0 a1 "java/lang/StringBuilder") (g_a1 : n0 ≤ a1) (SS : own_St Z h0 zc fm) : own_M l y25 j25 2 none (own_R 1 1 16 12) #[(.ref a1), (.int (16 : Int32))] Z h0 (Q_asbi Z a1 zc fm h0 n0) := by
 refine own_body (plainFor_of_name own_pn7) (fun p e s m below meth c s₁ Bd hZ hx hby hml hown hnm X0 e0 => ?_)
 have hown : s.vm.findClass "java/lang/AbstractStringBuilder" = some m.cls := hown
 have N0 := Fr.nil n0
 have D := own_dt hby d25
 refine own_cast (g' := mkF m 0 #[vr a1, vi 16] []) rfl ?_
 show own_G _ _ _ _ (s₁.setTop (mkF m 0 #[vr a1, vi 16] []))
 refine own_go (fun _ Kk => XS.aloadN X0.here hx rfl (D 0 rfl) rfl rfl Kk) ?_
 obtain ⟨T1, X1, e1, st1⟩ := initO X0 hx hZ hown (hw 119 rfl) (hw 21 rfl) (hw 22 rfl) e0 (g := (mkF m 1 #[vr a1, vi 16] [.ref a1])) rfl (by rw [hml]; rfl) rfl (D 1 rfl) (by decide) (W := 0) (by show 2 * 0 + _ ≤ _; exact Nat.le_of_eq rfl) (by decide)
 refine own_go st1 ?_
 refine own_gS X1 hx hZ hown (hw 120 rfl) e1 SS.2.2.1 (D 2 rfl) (fun T2 X2 e2 => ?_)
 refine own_go (fun _ Kk => XS.ifNo X2.here hx rfl (D 3 rfl) rfl ((if0 _ _).trans (feq SS.1).1) (XS.aloadN X2.here hx rfl (D 4 rfl) rfl rfl Kk)) ?_
 show own_G _ _ _ _ (T2.setTop (mkF m 11 #[vr a1, vi 16] [.ref a1]))
 refine own_go (fun _ Kk => XS.iloadN X2.here hx rfl (D 5 rfl) rfl Kk) ?_
 obtain ⟨T3, h3, k3, X3, e3, E3, A3, B3, st3⟩ := newPE X2 hx hZ (hw 28 rfl) e2 (g := (mkF m 12 #[vr a1, vi 16] [.int 16, .ref a1])) rfl (D 6 rfl) rfl (by decide) (cap := 16) (by decide) (by decide) (by decide) (by decide) (ad := "[B") (by decide)
 obtain ⟨b3, g3⟩ : ∃ z, z = h0.size := ⟨_, rfl⟩
 rw [← g3] at A3 B3 st3
 refine own_go st3 ?_
 have g_b3 : n0 ≤ b3 := Nat.le_trans Z0 (Nat.le_of_eq g3.symm)
 have V3 : Arv Z h3 b3 k3 .byte (16 : Int32) [(.int (0 : Int32)), (.int (0 : Int32)), (.int (0 : Int32)), (.int (0 : Int32)), (.int (0 : Int32)), (.int (0 : Int32)), (.int (0 : Int32)), (.int (0 : Int32)), (.int (0 : Int32)), (.int (0 : Int32)), (.int (0 : Int32)), (.int (0 : Int32)), (.int (0 : Int32)), (.int (0 : Int32)), (.int (0 : Int32)), (.int (0 : Int32))] (.int (0 : Int32)) := (Arv.new A3 (by decide)).pad (pad_rep [] (.int (0 : Int32)) 16)
 have Z4 : n0 ≤ h3.size := Nat.le_trans Z0 E3.1
 have sz_b3 : h0.size ≤ b3 := Nat.le_trans (Keep.refl h0 [a1]).1 (Nat.le_of_eq g3.symm)
 have K5 := Keep.ext (Keep.refl h0 [a1]) E3
 have Q6 := (P0_.ext E3)
 have Q7 := (P4_.ext E3)
 obtain ⟨T8, h8, X8, e8, W8, st8⟩ := putF X3 hx hZ hown (host := "") (Or.inl (hw 121 rfl)) Via.refl e3 Q6 Q7 (Or.inl (hw 122 rfl)) (hw 108 rfl) (ty := (.array .byte)) (by decide) rfl rfl (g := (mkF m 14 #[vr a1, vi 16] [.ref b3, .ref a1])) rfl rfl (D 7 rfl)
 refine own_go st8 ?_
 have F8 := Q6.same W8
 have N8 := Fr.snoc X8 N0 g_a1
 have Z9 : n0 ≤ h8.size := Nat.le_trans Z4 (Keep.of_wr W8).1
 have K10 := Keep.wr K5 W8 (own_in 0 rfl)
 refine own_go (fun _ Kk => XS.aloadN X8.here hx rfl (D 8 rfl) rfl rfl (XS.iconst X8.here hx rfl (D 9 rfl) Kk)) ?_
 show own_G _ _ _ _ (T8.setTop (mkF m 19 #[vr a1, vi 16] [.int 0, .ref a1]))
 have Q11 := ((P1_.ext E3).other W8 (Or.inr (slot_ne (Or.inl (hw 124 rfl)) (Or.inl (hw 122 rfl)) (by decide) (t := .byte) (t' := (.array .byte)) (by decide) (by decide))))
 have Q12 := (Q7.wr W8)
 obtain ⟨T13, h13, X13, e13, W13, st13⟩ := putFN X8 hx hZ hown (hw 123 rfl) Via.refl e8 Q11 Q12 (Or.inl (hw 124 rfl)) (hw 108 rfl) (ty := .byte) (v' := (.int (0 : Int32))) (by decide) rfl rfl (g := (mkF m 19 #[vr a1, vi 16] [.int 0, .ref a1])) rfl rfl (D 10 rfl)
 refine own_go st13 ?_
 have F13 := Q11.same W13
 have N13 := Fr.snoc X13 N8 g_a1
 have Z14 : n0 ≤ h13.size := Nat.le_trans Z9 (Keep.of_wr W13).1
 have K15 := Keep.wr K10 W13 (own_in 0 rfl)
 refine own_go (fun _ Kk => XS.goto X13.here hx rfl (pc0 := 22) (pc' := 38) rfl (D 11 rfl) (by decide) (by decide) Kk) ?_
 have Q16 := (F8.other W13 (Or.inr (slot_ne (Or.inl (hw 122 rfl)) (Or.inl (hw 124 rfl)) (by decide) (t := (.array .byte)) (t' := .byte) (by decide) (by decide))))
 have Q17 := (((P2_.ext E3).other W8 (Or.inr (slot_ne (Or.inl (hw 154 rfl)) (Or.inl (hw 122 rfl)) (by decide) (t := .int) (t' := (.array .byte)) (by decide) (by decide)))).other W13 (Or.inr (slot_ne (Or.inl (hw 154 rfl)) (Or.inl (hw 124 rfl)) (by decide) (t := .int) (t' := .byte) (by decide) (by decide))))
 have Q18 := (((P3_.ext E3).other W8 (Or.inr (slot_ne (Or.inl (hw 308 rfl)) (Or.inl (hw 122 rfl)) (by decide) (t := .boolean) (t' := (.array .byte)) (by decide) (by decide)))).other W13 (Or.inr (slot_ne (Or.inl (hw 308 rfl)) (Or.inl (hw 124 rfl)) (by decide) (t := .boolean) (t' := .byte) (by decide) (by decide))))
 have Q19 := (Q12.wr W13)
 have Q20 := ((V3.other W8 (Ne.symm (Nat.ne_of_lt (Nat.lt_of_lt_of_le P4_.lt (Nat.le_of_eq g3.symm))))).other W13 (Ne.symm (Nat.ne_of_lt (Nat.lt_of_lt_of_le P4_.lt (Nat.le_of_eq g3.symm)))))
 have Q21 := ((B3.wr W8).wr W13)
 exact own_rV X13 hx Bd (D 12 rfl) e13 ⟨b3, k3, rfl, N13, K15, sz_b3, Q16, F13, Q17, Q18, Q19, (Arv.pad Q20 (fun i => (pad_rep [] _ 16 i).symm)), Q21⟩
theorem d24 : ∀ x ∈ ([(0, .aload_n 0, 1), (1, .bipush 16, 2), (3, .invokespecial 1, 3), (6, .return_, 1)] : List (Nat × Instr × Nat)), decode j24 x.1 = .ok x.2 := by decide +kernel
theorem own_pn8 : plainName "java/lang/StringBuilder" = true := by first | (simp [plainName, overriddenIn]; done) | decide +kernel
theorem own_pd28 : parseMethodDescriptor "(I)V" = some ⟨[.int], none⟩ := by decide +kernel
def Q_sbi (Z : State) (a1 : Addr) (zc : Int32) (fm : Value) (h0 : Heap) (n0 : Nat) (v : Option Value) (h : Heap) (L : List Loc) : Prop := ∃ (b : Addr) (kb : ClassId), v = none ∧ Fr n0 L ∧ Keep h0 h [a1] ∧ h0.size ≤ b ∧ Fld Z h a1 "java/lang/AbstractStringBuilder" "value" "[B" (.ref b) ∧ Fld Z h a1 "java/lang/AbstractStringBuilder" "coder" "B" (.int (0 : Int32)) ∧ Fld Z h a1 "java/lang/AbstractStringBuilder" "count" "I" (.int (0 : Int32)) ∧ Fld Z h a1 "java/lang/AbstractStringBuilder" "maybeLatin1" "Z" (.int (0 : Int32)) ∧ Exa Z h a1 "java/lang/StringBuilder" ∧ Arv Z h b kb .byte (16 : Int32) [] (.int 0) ∧ Exa Z h b "[B"
theorem rm_sbi (hw : own_H a0 Z) (a1 : Addr) (zc : Int32) (fm : Value) (h0 : Heap) (n0 : Nat) (Z0 : n0 ≤ h0.size) (P0_ : Fld Z h0 a1 "java/lang/AbstractStringBuilder" "value" "[B" .null) (P1_ : Fld Z h0 a1 "java/lang/AbstractStringBuilder" "coder" "B" (.int (0 : Int32))) (P2_ : Fld Z h0 a1 "java/lang/AbstractStringBuilder" "count" "I" (.int (0 : Int32))) (P3_ : Fld Z h0 a1 "java/lang/AbstractStringBuilder" "maybeLatin1" "Z" (.int (0 : Int32))) (P4_ : Exa Z h0 a1 "java/lang/StringBuilder") (g_a1 : n0 ≤ a1) (SS : own_St Z h0 zc fm) : own_M l y24 j24 1 none (own_R 2 1 16 25) #[(.ref a1)] Z h0 (Q_sbi Z a1 zc fm h0 n0) := by
 refine own_body (plainFor_of_name own_pn8) (fun p e s m below meth c s₁ Bd hZ hx hby hml hown hnm X0 e0 => ?_)
 have hown : s.vm.findClass "java/lang/StringBuilder" = some m.cls := hown
 have N0 := Fr.nil n0
 have D := own_dt hby d24
 refine own_cast (g' := mkF m 0 #[vr a1] []) rfl ?_
 show own_G _ _ _ _ (s₁.setTop (mkF m 0 #[vr a1] []))
 refine own_go (fun _ Kk => XS.aloadN X0.here hx rfl (D 0 rfl) rfl rfl (XS.bipush X0.here hx rfl (D 1 rfl) Kk)) ?_
 refine own_cI X0 hx hZ 0 hown (hw 113 rfl) (hw 114 rfl) (hw 118 rfl) (hw 117 rfl) (rm_asbi hw a1 zc fm h0 n0 Z0 P0_ P1_ P2_ P3_ P4_ g_a1 SS) e0 own_pd28 rfl (D 2 rfl) hml (fun _ T1 _ _ X1 l1 => own_hp ?_)
 rintro h1 e1 ⟨b1b, kb1, rfl, N1q, K1q, le_b1b, F1_0, F1_1, F1_2, F1_3, F1_4, F1_5, F1_6⟩
 have N1 := own_frl l1 N0 N1q
 have Z2 : n0 ≤ h1.size := Nat.le_trans Z0 K1q.1
 have g_b1b : n0 ≤ b1b := Nat.le_trans Z0 le_b1b
 have sz_b1b : h0.size ≤ b1b := Nat.le_trans (Keep.refl h0 [a1]).1 le_b1b
 have K1 := Keep.trans (Keep.refl h0 [a1]) K1q (allS (own_in 0 rfl) all0)
 exact own_rV X1 hx Bd (D 3 rfl) e1 ⟨b1b, kb1, rfl, N1, K1, sz_b1b, F1_0, F1_1, F1_2, F1_3, F1_4, F1_5, F1_6⟩
theorem d32 : ∀ x ∈ ([(0, .aload_n 0, 1), (1, .getfield 15, 3), (4, .arraylength, 1), (5, .aload_n 0, 1), (6, .getfield 22, 3), (9, .ishr, 1), (10, .istore_n 2, 1), (11, .iload_n 1, 1), (12, .iload_n 2, 1), (13, .isub, 1), (14, .ifCond .le 24, 3), (38, .return_, 1)] : List (Nat × Instr × Nat)), decode j32 x.1 = .ok x.2 := by decide +kernel
def Q_ens (Z : State) (a1 : Addr) (b : Addr) (cd : Int32) (kB : ClassId) (NN : Int32) (us : List Value) (i : Nat) (h0 : Heap) (n0 : Nat) (v : Option Value) (h : Heap) (L : List Loc) : Prop := v = none ∧ Fr n0 L ∧ h = h0
theorem rm_ens (hw : own_H a0 Z) (a1 : Addr) (b : Addr) (cd : Int32) (kB : ClassId) (NN : Int32) (us : List Value) (i : Nat) (h0 : Heap) (n0 : Nat) (Z0 : n0 ≤ h0.size) (P0_ : Fld Z h0 a1 "java/lang/AbstractStringBuilder" "value" "[B" (.ref b)) (P1_ : Fld Z h0 a1 "java/lang/AbstractStringBuilder" "coder" "B" (.int cd)) (P2_ : Arv Z h0 b kB .byte NN us (.int 0)) (hcap : NN >>> (cd &&& 31) = 16) (hq : i ≤ 16) : own_M l y32 j32 3 none (own_R 0 0 0 0) #[(.ref a1), (.int (Int32.ofNat i))] Z h0 (Q_ens Z a1 b cd kB NN us i h0 n0) := by
 refine own_body (plainFor_of_name own_pn7) (fun p e s m below meth c s₁ Bd hZ hx hby hml hown hnm X0 e0 => ?_)
 have hown : s.vm.findClass "java/lang/AbstractStringBuilder" = some m.cls := hown
 have N0 := Fr.nil n0
 have D := own_dt hby d32
 refine own_cast (g' := mkF m 0 #[vr a1, vi (Int32.ofNat i), vu] []) rfl ?_
 show own_G _ _ _ _ (s₁.setTop (mkF m 0 #[vr a1, vi (Int32.ofNat i), vu] []))
 refine own_go (fun _ Kk => XS.aloadN X0.here hx rfl (D 0 rfl) rfl rfl Kk) ?_
 refine own_gF X0 hx hZ hown (hw 121 rfl) e0 P0_ (D 1 rfl) (fun T1 X1 e1 => ?_)
 obtain ⟨cl2, Ar2, -, Sz2, Nn2, -, -⟩ := id P2_
 refine own_go (X1.arraylength hx (by rw [e1]; exact Ar2.1) (State.isArrayOf_alike hZ.alike Ar2.2.1) (g := (mkF m 4 #[vr a1, vi (Int32.ofNat i), vu] [.ref b])) rfl rfl (D 2 rfl)) ?_
 rw [len_of Sz2 Nn2]
 refine own_go (fun _ Kk => XS.aloadN X1.here hx rfl (D 3 rfl) rfl rfl Kk) ?_
 refine own_gF X1 hx hZ hown (hw 123 rfl) e1 P1_ (D 4 rfl) (fun T3 X3 e3 => ?_)
 show own_G _ _ _ _ (T3.setTop (mkF m 9 #[vr a1, vi (Int32.ofNat i), vu] [.int cd, .int NN]))
 refine own_go (fun _ Kk => XS.ishr X3.here hx rfl (D 5 rfl) rfl Kk) ?_
 show own_G _ _ _ _ (T3.setTop (mkF m 10 #[vr a1, vi (Int32.ofNat i), vu] [.int (NN >>> (cd &&& 31))]))
 rw [show (NN >>> (cd &&& 31)) = (16 : Int32) from hcap]
 refine own_go (fun _ Kk => XS.istoreN X3.here hx rfl (D 6 rfl) rfl (l' := #[vr a1, vi (Int32.ofNat i), vi 16]) rfl (XS.iloadN X3.here hx rfl (D 7 rfl) rfl (XS.iloadN X3.here hx rfl (D 8 rfl) rfl (XS.isub X3.here hx rfl (D 9 rfl) rfl Kk)))) ?_
 show own_G _ _ _ _ (T3.setTop (mkF m 14 #[vr a1, vi (Int32.ofNat i), vi 16] [.int ((Int32.ofNat i) - (16 : Int32))]))
 refine own_go (fun _ Kk => XS.ifYes X3.here hx rfl (pc0 := 14) (pc' := 38) rfl (D 10 rfl) rfl ((if0 _ _).trans (flt (own_ens i hq)).2.2.2) (by decide) (by decide) Kk) ?_
 exact own_rV X3 hx Bd (D 11 rfl) e3 ⟨rfl, N0, rfl⟩
theorem d42 : ∀ x ∈ ([(0, .getstatic 18, 3), (3, .ifCond .eq 14, 3), (6, .aload_n 0, 1), (7, .getfield 22, 3), (10, .ifCond .ne 7, 3), (13, .iconst 1, 1), (14, .goto 4, 3), (18, .ireturn, 1), (17, .iconst 0, 1)] : List (Nat × Instr × Nat)), decode j42 x.1 = .ok x.2 := by decide +kernel
def Q_al0 (Z : State) (a1 : Addr) (zc : Int32) (fm : Value) (h0 : Heap) (n0 : Nat) (v : Option Value) (h : Heap) (L : List Loc) : Prop := v = some (.int (1 : Int32)) ∧ Fr n0 L ∧ h = h0
theorem rm_al0 (hw : own_H a0 Z) (a1 : Addr) (zc : Int32) (fm : Value) (h0 : Heap) (n0 : Nat) (Z0 : n0 ≤ h0.size) (P0_ : Fld Z h0 a1 "java/lang/AbstractStringBuilder" "coder" "B" (.int (0 : Int32))) (SS : own_St Z h0 zc fm) : own_M l y42 j42 1 (some .boolean) (own_R 0 0 0 0) #[(.ref a1)] Z h0 (Q_al0 Z a1 zc fm h0 n0) := by
 refine own_body (plainFor_of_name own_pn7) (fun p e s m below meth c s₁ Bd hZ hx hby hml hown hnm X0 e0 => ?_)
 have hown : s.vm.findClass "java/lang/AbstractStringBuilder" = some m.cls := hown
 have N0 := Fr.nil n0
 have D := own_dt hby d42
 refine own_cast (g' := mkF m 0 #[vr a1] []) rfl ?_
 show own_G _ _ _ _ (s₁.setTop (mkF m 0 #[vr a1] []))
 refine own_gS X0 hx hZ hown (hw 120 rfl) e0 SS.2.2.1 (D 0 rfl) (fun T1 X1 e1 => ?_)
 refine own_go (fun _ Kk => XS.ifNo X1.here hx rfl (D 1 rfl) rfl ((if0 _ _).trans (feq SS.1).1) (XS.aloadN X1.here hx rfl (D 2 rfl) rfl rfl Kk)) ?_
 refine own_gF X1 hx hZ hown (hw 123 rfl) e1 P0_ (D 3 rfl) (fun T2 X2 e2 => ?_)
 refine own_go (fun _ Kk => XS.ifNo X2.here hx rfl (D 4 rfl) rfl ((if0 _ _).trans (by decide)) Kk) ?_
 show own_G _ _ _ _ (T2.setTop (mkF m 13 #[vr a1] []))
 refine own_go (fun _ Kk => XS.iconst X2.here hx rfl (D 5 rfl) (XS.goto X2.here hx rfl (pc0 := 14) (pc' := 18) rfl (D 6 rfl) (by decide) (by decide) Kk)) ?_
 exact own_rN (z' := (1 : Int32)) X2 hx Bd (D 7 rfl) e2 rfl ⟨rfl, N0, rfl⟩
def Q_al1 (Z : State) (a1 : Addr) (zc : Int32) (fm : Value) (h0 : Heap) (n0 : Nat) (v : Option Value) (h : Heap) (L : List Loc) : Prop := v = some (.int (0 : Int32)) ∧ Fr n0 L ∧ h = h0
theorem rm_al1 (hw : own_H a0 Z) (a1 : Addr) (zc : Int32) (fm : Value) (h0 : Heap) (n0 : Nat) (Z0 : n0 ≤ h0.size) (P0_ : Fld Z h0 a1 "java/lang/AbstractStringBuilder" "coder" "B" (.int (1 : Int32))) (SS : own_St Z h0 zc fm) : own_M l y42 j42 1 (some .boolean) (own_R 0 0 0 0) #[(.ref a1)] Z h0 (Q_al1 Z a1 zc fm h0 n0) := by
 refine own_body (plainFor_of_name own_pn7) (fun p e s m below meth c s₁ Bd hZ hx hby hml hown hnm X0 e0 => ?_)
 have hown : s.vm.findClass "java/lang/AbstractStringBuilder" = some m.cls := hown
 have N0 := Fr.nil n0
 have D := own_dt hby d42
 refine own_cast (g' := mkF m 0 #[vr a1] []) rfl ?_
 show own_G _ _ _ _ (s₁.setTop (mkF m 0 #[vr a1] []))
 refine own_gS X0 hx hZ hown (hw 120 rfl) e0 SS.2.2.1 (D 0 rfl) (fun T1 X1 e1 => ?_)
 refine own_go (fun _ Kk => XS.ifNo X1.here hx rfl (D 1 rfl) rfl ((if0 _ _).trans (feq SS.1).1) (XS.aloadN X1.here hx rfl (D 2 rfl) rfl rfl Kk)) ?_
 refine own_gF X1 hx hZ hown (hw 123 rfl) e1 P0_ (D 3 rfl) (fun T2 X2 e2 => ?_)
 refine own_go (fun _ Kk => XS.ifYes X2.here hx rfl (pc0 := 10) (pc' := 17) rfl (D 4 rfl) rfl ((if0 _ _).trans (by decide)) (by decide) (by decide) Kk) ?_
 show own_G _ _ _ _ (T2.setTop (mkF m 17 #[vr a1] []))
 refine own_go (fun _ Kk => XS.iconst X2.here hx rfl (D 8 rfl) Kk) ?_
 exact own_rN (z' := (0 : Int32)) X2 hx Bd (D 7 rfl) e2 rfl ⟨rfl, N0, rfl⟩
theorem d39 : ∀ x ∈ ([(0, .aload_n 0, 1), (1, .getfield 15, 3), (4, .areturn, 1)] : List (Nat × Instr × Nat)), decode j39 x.1 = .ok x.2 := by decide +kernel
def Q_gval (Z : State) (a1 : Addr) (b : Addr) (h0 : Heap) (n0 : Nat) (v : Option Value) (h : Heap) (L : List Loc) : Prop := v = some (.ref b) ∧ Fr n0 L ∧ h = h0
theorem rm_gval (hw : own_H a0 Z) (a1 : Addr) (b : Addr) (h0 : Heap) (n0 : Nat) (Z0 : n0 ≤ h0.size) (P0_ : Fld Z h0 a1 "java/lang/AbstractStringBuilder" "value" "[B" (.ref b)) : own_M l y39 j39 1 (some (.array .byte)) (own_R 0 0 0 0) #[(.ref a1)] Z h0 (Q_gval Z a1 b h0 n0) := by
 refine own_body (plainFor_of_name own_pn7) (fun p e s m below meth c s₁ Bd hZ hx hby hml hown hnm X0 e0 => ?_)
 have hown : s.vm.findClass "java/lang/AbstractStringBuilder" = some m.cls := hown
 have N0 := Fr.nil n0
 have D := own_dt hby d39
 refine own_cast (g' := mkF m 0 #[vr a1] []) rfl ?_
 show own_G _ _ _ _ (s₁.setTop (mkF m 0 #[vr a1] []))
 refine own_go (fun _ Kk => XS.aloadN X0.here hx rfl (D 0 rfl) rfl rfl Kk) ?_
 refine own_gF X0 hx hZ hown (hw 121 rfl) e0 P0_ (D 1 rfl) (fun T1 X1 e1 => ?_)
 exact own_rR X1 hx Bd (D 2 rfl) e1 ⟨rfl, N0, rfl⟩
theorem d41 : ∀ x ∈ ([(0, .aload_n 0, 1), (1, .getfield 79, 3), (4, .ireturn, 1)] : List (Nat × Instr × Nat)), decode j41 x.1 = .ok x.2 := by decide +kernel
def Q_alen (Z : State) (a1 : Addr) (nz : Int32) (h0 : Heap) (n0 : Nat) (v : Option Value) (h : Heap) (L : List Loc) : Prop := v = some (.int nz) ∧ Fr n0 L ∧ h = h0
theorem rm_alen (hw : own_H a0 Z) (a1 : Addr) (nz : Int32) (h0 : Heap) (n0 : Nat) (Z0 : n0 ≤ h0.size) (P0_ : Fld Z h0 a1 "java/lang/AbstractStringBuilder" "count" "I" (.int nz)) : own_M l y41 j41 1 (some .int) (own_R 0 0 0 0) #[(.ref a1)] Z h0 (Q_alen Z a1 nz h0 n0) := by
 refine own_body (plainFor_of_name own_pn7) (fun p e s m below meth c s₁ Bd hZ hx hby hml hown hnm X0 e0 => ?_)
 have hown : s.vm.findClass "java/lang/AbstractStringBuilder" = some m.cls := hown
 have N0 := Fr.nil n0
 have D := own_dt hby d41
 refine own_cast (g' := mkF m 0 #[vr a1] []) rfl ?_
 show own_G _ _ _ _ (s₁.setTop (mkF m 0 #[vr a1] []))
 refine own_go (fun _ Kk => XS.aloadN X0.here hx rfl (D 0 rfl) rfl rfl Kk) ?_
 refine own_gF X0 hx hZ hown (hw 153 rfl) e0 P0_ (D 1 rfl) (fun T1 X1 e1 => ?_)
 exact own_rI X1 hx Bd (D 2 rfl) e1 ⟨rfl, N0, rfl⟩
theorem d40 : ∀ x ∈ ([(0, .aload_n 0, 1), (1, .invokespecial 343, 3), (4, .ireturn, 1)] : List (Nat × Instr × Nat)), decode j40 x.1 = .ok x.2 := by decide +kernel
def Q_slen (Z : State) (a1 : Addr) (nz : Int32) (h0 : Heap) (n0 : Nat) (v : Option Value) (h : Heap) (L : List Loc) : Prop := v = some (.int nz) ∧ Fr n0 L ∧ h = h0
theorem rm_slen (hw : own_H a0 Z) (a1 : Addr) (nz : Int32) (h0 : Heap) (n0 : Nat) (Z0 : n0 ≤ h0.size) (P0_ : Fld Z h0 a1 "java/lang/AbstractStringBuilder" "count" "I" (.int nz)) (P1_ : Exa Z h0 a1 "java/lang/StringBuilder") : own_M l y40 j40 1 (some .int) (own_R 1 0 0 12) #[(.ref a1)] Z h0 (Q_slen Z a1 nz h0 n0) := by
 refine own_body (plainFor_of_name own_pn8) (fun p e s m below meth c s₁ Bd hZ hx hby hml hown hnm X0 e0 => ?_)
 have hown : s.vm.findClass "java/lang/StringBuilder" = some m.cls := hown
 have N0 := Fr.nil n0
 have D := own_dt hby d40
 refine own_cast (g' := mkF m 0 #[vr a1] []) rfl ?_
 show own_G _ _ _ _ (s₁.setTop (mkF m 0 #[vr a1] []))
 refine own_go (fun _ Kk => XS.aloadN X0.here hx rfl (D 0 rfl) rfl rfl Kk) ?_
 obtain ⟨_, _, ⟨T1, L1, k1, n1⟩, -, X1, ⟨Lc1, hQ1, l1, y1, z1⟩, st1⟩ := superBack X0 hx hZ (y := y41) hown (hw 204 rfl) (own_same (y := y41) (hw 199 rfl) (hw 158 rfl) rfl (by decide)) (hw 200 rfl) (hw 149 rfl) (by decide) (backOf (W := 0) (rm_alen hw a1 nz h0 n0 Z0 P0_) hZ (hw 205 rfl) (hw 117 rfl) (by decide) (by decide)) e0 (Ins.self P1_) (g := (mkF m 1 #[vr a1] [.ref a1])) rfl (by rw [hml]; rfl) (hw 205 rfl) (argsL := []) (rest := []) (lenOf own_pd10 rfl) rfl (by show 2 * 0 + _ ≤ _; exact Nat.le_of_eq rfl) (D 1 rfl) (fun _ _ => ⟨rfl, e0, (by decide : 0 + 0 ≤ _), (by decide : 0 + 0 ≤ _)⟩)
 dsimp only [Pt.U, Pt.locs, Pt.cells, Pt.slots] at X1 l1 y1 z1 st1 hQ1
 subst y1 z1
 obtain ⟨rfl, N1q, e1⟩ := hQ1
 have N1 := own_frl l1 N0 N1q
 refine own_tr st1 ?_
 exact own_rI X1 hx Bd (D 2 rfl) e1 ⟨rfl, N1, rfl⟩
theorem d35 : ∀ x ∈ ([(0, .aload_n 0, 1), (1, .invokevirtual 335, 3), (4, .iload_n 3, 1), (5, .if_icmp .ne 23, 3), (8, .aload_n 0, 1), (9, .getfield 9, 3), (12, .iconst 0, 1), (13, .aload_n 1, 1), (14, .iload_n 2, 1), (15, .iload_n 3, 1), (16, .ishl, 1), (17, .aload_n 0, 1), (18, .getfield 9, 3), (21, .arraylength, 1), (22, .invokestatic 212, 3), (25, .goto 18, 3), (43, .return_, 1), (28, .aload_n 0, 1), (29, .getfield 9, 3), (32, .iconst 0, 1), (33, .aload_n 1, 1), (34, .iload_n 2, 1), (35, .aload_n 0, 1), (36, .getfield 9, 3), (39, .arraylength, 1), (40, .invokestatic 106, 3)] : List (Nat × Instr × Nat)), decode j35 x.1 = .ok x.2 := by decide +kernel
def Q_gbL (Z : State) (x : Addr) (b : Addr) (t : Addr) (cs : List Int32) (kB : ClassId) (NN : Int32) (us : List Value) (nu : Nat) (zc : Int32) (fm : Value) (h0 : Heap) (n0 : Nat) (v : Option Value) (h : Heap) (L : List Loc) : Prop := v = none ∧ Fr n0 L ∧ Keep h0 h [b] ∧ Arv Z h b kB .byte NN (us ++ (cs.map fun c => Value.int (StrChars.lo8 c))) (.int 0)
theorem rm_gbL (hw : own_H a0 Z) (x : Addr) (b : Addr) (t : Addr) (cs : List Int32) (kB : ClassId) (NN : Int32) (us : List Value) (nu : Nat) (zc : Int32) (fm : Value) (h0 : Heap) (n0 : Nat) (Z0 : n0 ≤ h0.size) (P0_ : own_Str Z h0 x t cs) (P1_ : Arv Z h0 b kB .byte NN us (.int 0)) (g_b : n0 ≤ b) (hlo : ∀ c ∈ cs, ¬ (255 : Int32) < c) (hc20 : cs.length ≤ 20) (hnu : nu ≤ 40) (hu : us.length = nu) (hN : nu + cs.length ≤ NN.toNatClampNeg) (SS : own_St Z h0 zc fm) : own_M l y35 j35 4 none (own_R 2 0 0 42) #[(.ref x), (.ref b), (.int (Int32.ofNat nu)), (.int (0 : Int32))] Z h0 (Q_gbL Z x b t cs kB NN us nu zc fm h0 n0) := by
 refine own_body (plainFor_of_name own_pn0) (fun p e s m below meth c s₁ Bd hZ hx hby hml hown hnm X0 e0 => ?_)
 have hown : s.vm.findClass "java/lang/String" = some m.cls := hown
 have N0 := Fr.nil n0
 have D := own_dt hby d35
 refine own_cast (g' := mkF m 0 #[vr x, vr b, vi (Int32.ofNat nu), vi 0] []) rfl ?_
 obtain ⟨kb, cd, Nb, vs, E_, Fv_, Fc_, V_, hco, hch, hlen⟩ := id P0_
 have hcd : cd = 0 ∨ cd = 1 := own_cd01 hco
 
 obtain ⟨rfl, rfl, rfl⟩ := own_isL hco hlo
 show own_G _ _ _ _ (s₁.setTop (mkF m 0 #[vr x, vr b, vi (Int32.ofNat nu), vi 0] []))
 refine own_go (fun _ Kk => XS.aloadN X0.here hx rfl (D 0 rfl) rfl rfl Kk) ?_
 refine own_cV X0 hx hZ 0 hown (hw 56 rfl) (hw 57 rfl) (hw 59 rfl) (hw 58 rfl) (hw 60 rfl) (hw 12 rfl) (rm_cod hw x (0 : Int32) zc fm h0 n0 Z0 Fc_ (by decide) SS) e0 E_ own_pd1 rfl (D 1 rfl) hml ?_
 rintro _ T1 _ _ X1 l1 ⟨rfl, N1q, e1⟩
 have N1 := own_frl l1 N0 N1q
 refine own_go (fun _ Kk => XS.iloadN X1.here hx rfl (D 2 rfl) rfl (XS.icmpNo X1.here hx rfl (D 3 rfl) rfl (by decide) (XS.aloadN X1.here hx rfl (D 4 rfl) rfl rfl Kk))) ?_
 show own_G _ _ _ _ (T1.setTop (mkF m 9 #[vr x, vr b, vi (Int32.ofNat nu), vi 0] [.ref x]))
 refine own_gF X1 hx hZ hown (hw 37 rfl) e1 Fv_ (D 5 rfl) (fun T2 X2 e2 => ?_)
 refine own_go (fun _ Kk => XS.iconst X2.here hx rfl (D 6 rfl) (XS.aloadN X2.here hx rfl (D 7 rfl) rfl rfl (XS.iloadN X2.here hx rfl (D 8 rfl) rfl (XS.iloadN X2.here hx rfl (D 9 rfl) rfl Kk)))) ?_
 show own_G _ _ _ _ (T2.setTop (mkF m 16 #[vr x, vr b, vi (Int32.ofNat nu), vi 0] [.int 0, .int (Int32.ofNat nu), .ref b, .int 0, .ref t]))
 refine own_go (fun _ Kk => XS.ishl X2.here hx rfl (D 10 rfl) rfl Kk) ?_
 show own_G _ _ _ _ (T2.setTop (mkF m 17 #[vr x, vr b, vi (Int32.ofNat nu), vi 0] [.int ((Int32.ofNat nu) <<< ((0 : Int32) &&& 31)), .ref b, .int 0, .ref t]))
 rw [show ((Int32.ofNat nu) <<< ((0 : Int32) &&& 31)) = (Int32.ofNat nu) from own_shl0 _]
 refine own_go (fun _ Kk => XS.aloadN X2.here hx rfl (D 11 rfl) rfl rfl Kk) ?_
 refine own_gF X2 hx hZ hown (hw 37 rfl) e2 Fv_ (D 12 rfl) (fun T3 X3 e3 => ?_)
 obtain ⟨cl4, Ar4, -, Sz4, Nn4, -, -⟩ := id V_
 refine own_go (X3.arraylength hx (by rw [e3]; exact Ar4.1) (State.isArrayOf_alike hZ.alike Ar4.2.1) (g := (mkF m 21 #[vr x, vr b, vi (Int32.ofNat nu), vi 0] [.ref t, .int (Int32.ofNat nu), .ref b, .int 0, .ref t])) rfl rfl (D 13 rfl)) ?_
 rw [len_of Sz4 Nn4]
 have VP6 : Arv Z h0 b kB .byte NN (us ++ List.replicate 40 (.int 0)) (.int 0) := Arv.pad P1_ (pad_rep _ _ _)
 obtain ⟨T5, h5, L5, X5, e5, N5, K5, V5, st5⟩ := cpA X3 hx hZ hown (hw 176 rfl) (hw 179 rfl) (hw 177 rfl) (hw 178 rfl) e3 V_ VP6 (Or.inl ⟨rfl, rfl⟩) (sp := (0 : Int32)) (dp := (Int32.ofNat nu)) (nn := (Int32.ofNat cs.length)) (by decide) (own_onn nu (by omega)) (own_onn _ (by omega)) (by rw [own_onc _ (by omega)]; show 0 + _ ≤ _; omega) (by rw [own_onc nu (by omega), own_onc cs.length (by omega)]; exact hN) (us := (cs.map fun c => Value.int (StrChars.lo8 c))) (by rw [own_onc _ (by omega)]; exact ((own_rngt _ _ _ (by simp)).trans (by rw [List.take_of_length_le (by simp)])).symm) (by rw [own_onc nu (by omega), own_onc cs.length (by omega)]; simp; omega) N1 g_b (g := (mkF m 22 #[vr x, vr b, vi (Int32.ofNat nu), vi 0] [.int (Int32.ofNat cs.length), .int (Int32.ofNat nu), .ref b, .int 0, .ref t])) rfl (by rw [hml]; rfl) rfl (D 14 rfl) (by decide) (W := 0) (by show 2 * 0 + _ ≤ _; exact Nat.le_of_eq rfl) (by decide)
 refine own_go st5 ?_
 have V5r : Arv Z h5 b kB .byte NN (us ++ (cs.map fun c => Value.int (StrChars.lo8 c))) (.int 0) := by have q := V5; rw [own_onc nu (by omega), own_onc cs.length (by omega)] at q; exact Arv.pad q (own_cpad hu (by simp) 40 (by omega) _)
 have Z7 : n0 ≤ h5.size := Nat.le_trans Z0 K5.1
 have KK5 := Keep.trans (Keep.refl h0 [b]) K5 (fun x hx => by cases List.mem_singleton.mp hx; exact (own_in 0 rfl))
 show own_G _ _ _ _ (T5.setTop (mkF m 25 #[vr x, vr b, vi (Int32.ofNat nu), vi 0] []))
 refine own_go (fun _ Kk => XS.goto X5.here hx rfl (pc0 := 25) (pc' := 43) rfl (D 15 rfl) (by decide) (by decide) Kk) ?_
 exact own_rV X5 hx Bd (D 16 rfl) e5 ⟨rfl, N5, KK5, V5r⟩
def Q_gbU (Z : State) (x : Addr) (b : Addr) (t : Addr) (cs : List Int32) (kB : ClassId) (NN : Int32) (zc : Int32) (fm : Value) (h0 : Heap) (n0 : Nat) (v : Option Value) (h : Heap) (L : List Loc) : Prop := v = none ∧ Fr n0 L ∧ Keep h0 h [b] ∧ Arv Z h b kB .byte NN (StrChars.Road.wideBytes cs) (.int 0)
theorem rm_gbU (hw : own_H a0 Z) (x : Addr) (b : Addr) (t : Addr) (cs : List Int32) (kB : ClassId) (NN : Int32) (zc : Int32) (fm : Value) (h0 : Heap) (n0 : Nat) (Z0 : n0 ≤ h0.size) (P0_ : own_Str Z h0 x t cs) (P1_ : Arv Z h0 b kB .byte NN [] (.int 0)) (g_b : n0 ≤ b) (hex : ∃ c ∈ cs, (255 : Int32) < c) (hc20 : cs.length ≤ 20) (hN : 2 * cs.length ≤ NN.toNatClampNeg) (SS : own_St Z h0 zc fm) : own_M l y35 j35 4 none (own_R 2 0 0 42) #[(.ref x), (.ref b), (.int (0 : Int32)), (.int (1 : Int32))] Z h0 (Q_gbU Z x b t cs kB NN zc fm h0 n0) := by
 refine own_body (plainFor_of_name own_pn0) (fun p e s m below meth c s₁ Bd hZ hx hby hml hown hnm X0 e0 => ?_)
 have hown : s.vm.findClass "java/lang/String" = some m.cls := hown
 have N0 := Fr.nil n0
 have D := own_dt hby d35
 refine own_cast (g' := mkF m 0 #[vr x, vr b, vi 0, vi 1] []) rfl ?_
 obtain ⟨kb, cd, Nb, vs, E_, Fv_, Fc_, V_, hco, hch, hlen⟩ := id P0_
 have hcd : cd = 0 ∨ cd = 1 := own_cd01 hco
 
 obtain ⟨rfl, rfl, rfl⟩ := own_isU hco hex
 show own_G _ _ _ _ (s₁.setTop (mkF m 0 #[vr x, vr b, vi 0, vi 1] []))
 refine own_go (fun _ Kk => XS.aloadN X0.here hx rfl (D 0 rfl) rfl rfl Kk) ?_
 refine own_cV X0 hx hZ 0 hown (hw 56 rfl) (hw 57 rfl) (hw 59 rfl) (hw 58 rfl) (hw 60 rfl) (hw 12 rfl) (rm_cod hw x (1 : Int32) zc fm h0 n0 Z0 Fc_ (by decide) SS) e0 E_ own_pd1 rfl (D 1 rfl) hml ?_
 rintro _ T1 _ _ X1 l1 ⟨rfl, N1q, e1⟩
 have N1 := own_frl l1 N0 N1q
 refine own_go (fun _ Kk => XS.iloadN X1.here hx rfl (D 2 rfl) rfl (XS.icmpNo X1.here hx rfl (D 3 rfl) rfl (by decide) (XS.aloadN X1.here hx rfl (D 4 rfl) rfl rfl Kk))) ?_
 show own_G _ _ _ _ (T1.setTop (mkF m 9 #[vr x, vr b, vi 0, vi 1] [.ref x]))
 refine own_gF X1 hx hZ hown (hw 37 rfl) e1 Fv_ (D 5 rfl) (fun T2 X2 e2 => ?_)
 refine own_go (fun _ Kk => XS.iconst X2.here hx rfl (D 6 rfl) (XS.aloadN X2.here hx rfl (D 7 rfl) rfl rfl (XS.iloadN X2.here hx rfl (D 8 rfl) rfl (XS.iloadN X2.here hx rfl (D 9 rfl) rfl Kk)))) ?_
 show own_G _ _ _ _ (T2.setTop (mkF m 16 #[vr x, vr b, vi 0, vi 1] [.int 1, .int 0, .ref b, .int 0, .ref t]))
 refine own_go (fun _ Kk => XS.ishl X2.here hx rfl (D 10 rfl) rfl Kk) ?_
 show own_G _ _ _ _ (T2.setTop (mkF m 17 #[vr x, vr b, vi 0, vi 1] [.int ((0 : Int32) <<< ((1 : Int32) &&& 31)), .ref b, .int 0, .ref t]))
 rw [show ((0 : Int32) <<< ((1 : Int32) &&& 31)) = (0 : Int32) from rfl]
 refine own_go (fun _ Kk => XS.aloadN X2.here hx rfl (D 11 rfl) rfl rfl Kk) ?_
 refine own_gF X2 hx hZ hown (hw 37 rfl) e2 Fv_ (D 12 rfl) (fun T3 X3 e3 => ?_)
 obtain ⟨cl4, Ar4, -, Sz4, Nn4, -, -⟩ := id V_
 refine own_go (X3.arraylength hx (by rw [e3]; exact Ar4.1) (State.isArrayOf_alike hZ.alike Ar4.2.1) (g := (mkF m 21 #[vr x, vr b, vi 0, vi 1] [.ref t, .int 0, .ref b, .int 0, .ref t])) rfl rfl (D 13 rfl)) ?_
 rw [len_of Sz4 Nn4]
 have VP6 : Arv Z h0 b kB .byte NN ([] ++ List.replicate 40 (.int 0)) (.int 0) := Arv.pad P1_ (pad_rep _ _ _)
 obtain ⟨T5, h5, L5, X5, e5, N5, K5, V5, st5⟩ := cpA X3 hx hZ hown (hw 176 rfl) (hw 179 rfl) (hw 177 rfl) (hw 178 rfl) e3 V_ VP6 (Or.inl ⟨rfl, rfl⟩) (sp := (0 : Int32)) (dp := (0 : Int32)) (nn := (Int32.ofNat (2 * cs.length))) (by decide) (by decide) (own_onn _ (by omega)) (by rw [own_onc _ (by omega)]; show 0 + _ ≤ _; omega) (by rw [own_onc _ (by omega)]; show 0 + _ ≤ _; omega) (us := (StrChars.Road.wideBytes cs)) (by rw [own_onc _ (by omega)]; exact ((own_rngt _ _ _ (by rw [own_wlen]; omega)).trans (own_takeall _ _ (own_wlen _)).symm).symm) (by rw [own_onc _ (by omega)]; show 0 + _ ≤ _; simp; omega) N1 g_b (g := (mkF m 22 #[vr x, vr b, vi 0, vi 1] [.int (Int32.ofNat (2 * cs.length)), .int 0, .ref b, .int 0, .ref t])) rfl (by rw [hml]; rfl) rfl (D 14 rfl) (by decide) (W := 0) (by show 2 * 0 + _ ≤ _; exact Nat.le_of_eq rfl) (by decide)
 refine own_go st5 ?_
 have V5r : Arv Z h5 b kB .byte NN (StrChars.Road.wideBytes cs) (.int 0) := by have q := V5; rw [own_onc (2 * cs.length) (by omega)] at q; exact Arv.pad q (fun j => by have z := own_cpad (us := []) (ls := StrChars.Road.wideBytes cs) (nu := 0) rfl (own_wlen _) 40 (by omega) (.int 0) j; exact z)
 have Z7 : n0 ≤ h5.size := Nat.le_trans Z0 K5.1
 have KK5 := Keep.trans (Keep.refl h0 [b]) K5 (fun x hx => by cases List.mem_singleton.mp hx; exact (own_in 0 rfl))
 show own_G _ _ _ _ (T5.setTop (mkF m 25 #[vr x, vr b, vi 0, vi 1] []))
 refine own_go (fun _ Kk => XS.goto X5.here hx rfl (pc0 := 25) (pc' := 43) rfl (D 15 rfl) (by decide) (by decide) Kk) ?_
 exact own_rV X5 hx Bd (D 16 rfl) e5 ⟨rfl, N5, KK5, V5r⟩
theorem d66 : ∀ x ∈ ([(0, .iload_n 3, 1), (1, .iload 4, 2), (3, .aload_n 2, 1), (4, .invokestatic 173, 3), (7, .iconst 0, 1), (8, .istore 5, 2), (10, .iload 5, 2), (12, .iload 4, 2), (14, .if_icmp .ge 27, 3), (41, .return_, 1), (17, .aload_n 2, 1), (18, .iload_n 3, 1), (19, .iinc 3 1, 3), (22, .aload_n 0, 1), (23, .iload_n 1, 1), (24, .iinc 1 1, 3), (27, .baload, 1), (28, .sipush 255, 3), (31, .iand, 1), (32, .invokestatic 111, 3), (35, .iinc 5 1, 3), (38, .goto (-28), 3)] : List (Nat × Instr × Nat)), decode j66 x.1 = .ok x.2 := by decide +kernel
def Q_uinf (Z : State) (t : Addr) (b : Addr) (cs : List Int32) (nu : Nat) (kb : ClassId) (Ns : Int32) (kB : ClassId) (n2 : Nat) (us : List Value) (zc : Int32) (fm : Value) (h0 : Heap) (n0 : Nat) (v : Option Value) (h : Heap) (L : List Loc) : Prop := v = none ∧ Fr n0 L ∧ Keep h0 h [b] ∧ Arv Z h b kB .byte (Int32.ofNat (2 * n2)) (us ++ StrChars.Road.wideBytes cs) (.int 0)
theorem rm_uinf (hw : own_H a0 Z) (t : Addr) (b : Addr) (cs : List Int32) (nu : Nat) (kb : ClassId) (Ns : Int32) (kB : ClassId) (n2 : Nat) (us : List Value) (zc : Int32) (fm : Value) (h0 : Heap) (n0 : Nat) (Z0 : n0 ≤ h0.size) (P0_ : Arv Z h0 t kb .byte Ns (cs.map fun c => Value.int (StrChars.lo8 c)) (.int 0)) (P1_ : Arv Z h0 b kB .byte (Int32.ofNat (2 * n2)) us (.int 0)) (g_b : n0 ≤ b) (hbd : ∀ c ∈ cs, ¬ c < 0 ∧ ¬ (65535 : Int32) < c) (hlo : ∀ c ∈ cs, ¬ (255 : Int32) < c) (hsrc : ∀ i, i < cs.length → Int32.ofNat i < Ns) (hu : us.length = 2 * nu) (hn2 : nu + cs.length ≤ n2) (hk2 : n2 ≤ 4000) (hne : t ≠ b) (SS : own_St Z h0 zc fm) : own_M l y66 j66 6 none (own_R 3 0 0 43) #[(.ref t), (.int (0 : Int32)), (.ref b), (.int (Int32.ofNat nu)), (.int (Int32.ofNat cs.length))] Z h0 (Q_uinf Z t b cs nu kb Ns kB n2 us zc fm h0 n0) := by
 refine own_body (plainFor_of_name own_pn4) (fun p e s m below meth c s₁ Bd hZ hx hby hml hown hnm X0 e0 => ?_)
 have hown : s.vm.findClass "java/lang/StringUTF16" = some m.cls := hown
 have N0 := Fr.nil n0
 have D := own_dt hby d66
 refine own_cast (g' := mkF m 0 #[vr t, vi 0, vr b, vi (Int32.ofNat nu), vi (Int32.ofNat cs.length), vu] []) rfl ?_
 show own_G _ _ _ _ (s₁.setTop (mkF m 0 #[vr t, vi 0, vr b, vi (Int32.ofNat nu), vi (Int32.ofNat cs.length), vu] []))
 refine own_go (fun _ Kk => XS.iloadN X0.here hx rfl (D 0 rfl) rfl (XS.iload X0.here hx rfl (D 1 rfl) rfl (XS.aloadN X0.here hx rfl (D 2 rfl) rfl rfl Kk))) ?_
 refine own_cS X0 hx hZ 0 hown (hw 280 rfl) (hw 281 rfl) (hw 26 rfl) (hw 282 rfl) (rm_ubo hw b nu cs.length kB n2 us zc fm h0 n0 Z0 P1_ (by omega) (by omega) SS) e0 own_pd24 rfl (D 3 rfl) hml ?_
 rintro _ T1 _ _ X1 l1 ⟨rfl, N1q, e1⟩
 have N1 := own_frl l1 N0 N1q
 refine own_go (fun _ Kk => XS.iconst X1.here hx rfl (D 4 rfl) Kk) ?_
 show own_G _ _ _ _ (T1.setTop (mkF m 8 #[vr t, vi 0, vr b, vi (Int32.ofNat nu), vi (Int32.ofNat cs.length), vu] [.int 0]))
 refine own_go (fun _ Kk => XS.istore X1.here hx rfl (D 5 rfl) rfl (l' := #[vr t, vi 0, vr b, vi (Int32.ofNat nu), vi (Int32.ofNat cs.length), vi 0]) rfl Kk) ?_
 show own_G _ _ _ _ (T1.setTop (mkF m 10 #[vr t, vi 0, vr b, vi (Int32.ofNat nu), vi (Int32.ofNat cs.length), vi 0] []))
 have lp2 : ∀ (k : Nat) (i : Nat) (hik : i + k = cs.length) (T9 : State) (L9 : List Loc) (h9 : Heap), Stand p l e (own_R 3 0 0 43) s m #[(.ref t), (.int (0 : Int32)), (.ref b), (.int (Int32.ofNat nu)), (.int (Int32.ofNat cs.length))] below meth c T9 L9 0 0 → T9.heap = h9 → Fr n0 L9 → Keep h0 h9 [b] → Arv Z h9 b kB .byte (Int32.ofNat (2 * n2)) (us ++ StrChars.Road.wideBytes (cs.take i)) (.int 0) → own_G p e below (own_K (Q_uinf Z t b cs nu kb Ns kB n2 us zc fm h0 n0) 0 0 s) (T9.setTop (mkF m 10 #[vr t, vi (Int32.ofNat i), vr b, vi (Int32.ofNat (nu + i)), vi (Int32.ofNat cs.length), vi (Int32.ofNat i)] [])) := by
  intro k
  induction k with
  | zero =>
   intro i hik T9 L9 h9 X9 e9 N9 K9 iv0
   have Z9 : n0 ≤ h9.size := Nat.le_trans Z0 K9.1
   show own_G _ _ _ _ (T9.setTop (mkF m 10 #[vr t, vi (Int32.ofNat i), vr b, vi (Int32.ofNat (nu + i)), vi (Int32.ofNat cs.length), vi (Int32.ofNat i)] []))
   show own_G _ _ _ _ (T9.setTop (mkF m 10 #[vr t, vi (Int32.ofNat i), vr b, vi (Int32.ofNat (nu + i)), vi (Int32.ofNat cs.length), vi (Int32.ofNat i)] []))
   refine own_go (fun _ Kk => XS.iload X9.here hx rfl (D 6 rfl) rfl (XS.iload X9.here hx rfl (D 7 rfl) rfl (XS.icmpYes X9.here hx rfl (pc0 := 14) (pc' := 41) rfl (D 8 rfl) rfl (flt (fun q => absurd ((own_ltn (by omega) (by omega)).mp q) (by omega))).2.1 (by decide) (by decide) Kk))) ?_
   exact own_rV X9 hx Bd (D 9 rfl) e9 ⟨rfl, N9, K9, (by have q := iv0; rw [show i = cs.length from by omega, List.take_length] at q; exact q)⟩
  | succ k ih =>
   intro i hik T9 L9 h9 X9 e9 N9 K9 iv0
   have Z9 : n0 ≤ h9.size := Nat.le_trans Z0 K9.1
   show own_G _ _ _ _ (T9.setTop (mkF m 10 #[vr t, vi (Int32.ofNat i), vr b, vi (Int32.ofNat (nu + i)), vi (Int32.ofNat cs.length), vi (Int32.ofNat i)] []))
   have hvl : (us ++ StrChars.Road.wideBytes (cs.take i)).length = 2 * (nu + i) := by rw [List.length_append, own_wlen, List.length_take, Nat.min_eq_left (by omega), hu]; omega
   show own_G _ _ _ _ (T9.setTop (mkF m 10 #[vr t, vi (Int32.ofNat i), vr b, vi (Int32.ofNat (nu + i)), vi (Int32.ofNat cs.length), vi (Int32.ofNat i)] []))
   refine own_go (fun _ Kk => XS.iload X9.here hx rfl (D 6 rfl) rfl (XS.iload X9.here hx rfl (D 7 rfl) rfl (XS.icmpNo X9.here hx rfl (D 8 rfl) rfl (tlt (own_onl (by omega) (by omega))).2.1 (XS.aloadN X9.here hx rfl (D 10 rfl) rfl rfl (XS.iloadN X9.here hx rfl (D 11 rfl) rfl Kk))))) ?_
   show own_G _ _ _ _ (T9.setTop (mkF m 19 #[vr t, vi (Int32.ofNat i), vr b, vi (Int32.ofNat (nu + i)), vi (Int32.ofNat cs.length), vi (Int32.ofNat i)] [.int (Int32.ofNat (nu + i)), .ref b]))
   refine own_go (fun _ Kk => XS.iinc X9.here hx rfl (D 12 rfl) rfl (l' := #[vr t, vi (Int32.ofNat i), vr b, vi ((Int32.ofNat (nu + i)) + (1 : Int32)), vi (Int32.ofNat cs.length), vi (Int32.ofNat i)]) rfl Kk) ?_
   show own_G _ _ _ _ (T9.setTop (mkF m 22 #[vr t, vi (Int32.ofNat i), vr b, vi ((Int32.ofNat (nu + i)) + (1 : Int32)), vi (Int32.ofNat cs.length), vi (Int32.ofNat i)] [.int (Int32.ofNat (nu + i)), .ref b]))
   rw [show ((Int32.ofNat (nu + i)) + (1 : Int32)) = (Int32.ofNat (nu + (i + 1))) from own_add1 (nu + i) (by omega)]
   refine own_go (fun _ Kk => XS.aloadN X9.here hx rfl (D 13 rfl) rfl rfl (XS.iloadN X9.here hx rfl (D 14 rfl) rfl (XS.iinc X9.here hx rfl (D 15 rfl) rfl (l' := #[vr t, vi ((Int32.ofNat i) + (1 : Int32)), vr b, vi (Int32.ofNat (nu + (i + 1))), vi (Int32.ofNat cs.length), vi (Int32.ofNat i)]) rfl Kk))) ?_
   show own_G _ _ _ _ (T9.setTop (mkF m 27 #[vr t, vi ((Int32.ofNat i) + (1 : Int32)), vr b, vi (Int32.ofNat (nu + (i + 1))), vi (Int32.ofNat cs.length), vi (Int32.ofNat i)] [.int (Int32.ofNat i), .ref t, .int (Int32.ofNat (nu + i)), .ref b]))
   rw [show ((Int32.ofNat i) + (1 : Int32)) = (Int32.ofNat (i + 1)) from own_add1 i (by omega)]
   have Q4 := (P0_.keep K9 (own_nc hne List.not_mem_nil))
   obtain ⟨cl3, Ar3, -, Sz3, Nn3, Hh3, -⟩ := id Q4
   have hin3 : ¬ ((Int32.ofNat i) < 0 ∨ cl3.slots.size ≤ ((Int32.ofNat i)).toNatClampNeg) := inb_of Sz3 ⟨own_onn i (by omega), hsrc i (by omega)⟩
   have hat3 : cl3.slots[((Int32.ofNat i)).toNatClampNeg]? = some (.int (StrChars.lo8 (cs.getD i 0))) := Has.at Hh3 hin3 (by rw [own_onc i (by omega)]; exact own_low (by omega) _)
   refine own_go (X9.baloadBytes hx (j := (Int32.ofNat i)) (v := (.int (StrChars.lo8 (cs.getD i 0)))) (by rw [e9]; exact Ar3.1) (State.isArrayOf_alike hZ.alike Ar3.2.1) Ar3.2.2 hin3 hat3 (g := (mkF m 27 #[vr t, vi (Int32.ofNat (i + 1)), vr b, vi (Int32.ofNat (nu + (i + 1))), vi (Int32.ofNat cs.length), vi (Int32.ofNat i)] [.int (Int32.ofNat i), .ref t, .int (Int32.ofNat (nu + i)), .ref b])) rfl rfl (D 16 rfl)) ?_
   refine own_go (fun _ Kk => XS.sipush X9.here hx rfl (D 17 rfl) (XS.iand X9.here hx rfl (D 18 rfl) rfl Kk)) ?_
   show own_G _ _ _ _ (T9.setTop (mkF m 32 #[vr t, vi (Int32.ofNat (i + 1)), vr b, vi (Int32.ofNat (nu + (i + 1))), vi (Int32.ofNat cs.length), vi (Int32.ofNat i)] [.int ((StrChars.lo8 (cs.getD i 0)) &&& (255 : Int32)), .int (Int32.ofNat (nu + i)), .ref b]))
   rw [show ((StrChars.lo8 (cs.getD i 0)) &&& (255 : Int32)) = (cs.getD i 0) from own_mask (hbd _ (own_mem (by omega))).1 (hlo _ (own_mem (by omega)))]
   have Q6 := (SS.keep K9 (allS (fun cl hc => P1_.nostat cl hc) all0))
   refine own_cS X9 hx hZ 0 hown (hw 243 rfl) (hw 244 rfl) (hw 26 rfl) (hw 245 rfl) (rm_putc hw b (cs.getD i 0) kB n2 (nu + i) (us ++ StrChars.Road.wideBytes (cs.take i)) zc fm h9 n0 Z9 iv0 g_b (by omega) (by omega) hvl Q6) e9 own_pd15 rfl (D 19 rfl) hml (fun _ T5 _ _ X5 l5 => own_hp ?_)
   rintro h5 e5 ⟨rfl, N5q, K5q, F5_0⟩
   have N5 := own_frl l5 N9 N5q
   have Z7 : n0 ≤ h5.size := Nat.le_trans Z9 K5q.1
   have K5 := Keep.trans K9 K5q (allS (own_in 0 rfl) all0)
   have VV5 := F5_0
   rw [List.append_assoc, ← own_wtk (by omega)] at VV5
   refine own_go (fun _ Kk => XS.iinc X5.here hx rfl (D 20 rfl) rfl (l' := #[vr t, vi (Int32.ofNat (i + 1)), vr b, vi (Int32.ofNat (nu + (i + 1))), vi (Int32.ofNat cs.length), vi ((Int32.ofNat i) + (1 : Int32))]) rfl Kk) ?_
   show own_G _ _ _ _ (T5.setTop (mkF m 38 #[vr t, vi (Int32.ofNat (i + 1)), vr b, vi (Int32.ofNat (nu + (i + 1))), vi (Int32.ofNat cs.length), vi ((Int32.ofNat i) + (1 : Int32))] []))
   rw [show ((Int32.ofNat i) + (1 : Int32)) = (Int32.ofNat (i + 1)) from own_add1 i (by omega)]
   refine own_go (fun _ Kk => XS.goto X5.here hx rfl (pc0 := 38) (pc' := 10) rfl (D 21 rfl) (by decide) (by decide) Kk) ?_
   show own_G _ _ _ _ (T5.setTop (mkF m 10 #[vr t, vi (Int32.ofNat (i + 1)), vr b, vi (Int32.ofNat (nu + (i + 1))), vi (Int32.ofNat cs.length), vi (Int32.ofNat (i + 1))] []))
   exact ih (i + 1) (by omega) _ _ _ X5 e5 N5 K5 VV5
 exact lp2 cs.length 0 (by omega) _ _ _ X1 e1 N1 (Keep.refl h0 [b]) (by show Arv _ _ _ _ _ _ (us ++ []) _; rw [List.append_nil]; exact P1_)
theorem d65 : ∀ x ∈ ([(0, .aload_n 0, 1), (1, .iload_n 1, 1), (2, .aload_n 2, 1), (3, .iload_n 3, 1), (4, .iload 4, 2), (6, .invokestatic 240, 3), (9, .return_, 1)] : List (Nat × Instr × Nat)), decode j65 x.1 = .ok x.2 := by decide +kernel
theorem own_pd29 : parseMethodDescriptor "([BI[BII)V" = some ⟨[(.array .byte), .int, (.array .byte), .int, .int], none⟩ := by decide +kernel
def Q_linf (Z : State) (t : Addr) (b : Addr) (cs : List Int32) (nu : Nat) (kb : ClassId) (Ns : Int32) (kB : ClassId) (n2 : Nat) (us : List Value) (zc : Int32) (fm : Value) (h0 : Heap) (n0 : Nat) (v : Option Value) (h : Heap) (L : List Loc) : Prop := v = none ∧ Fr n0 L ∧ Keep h0 h [b] ∧ Arv Z h b kB .byte (Int32.ofNat (2 * n2)) (us ++ StrChars.Road.wideBytes cs) (.int 0)
theorem rm_linf (hw : own_H a0 Z) (t : Addr) (b : Addr) (cs : List Int32) (nu : Nat) (kb : ClassId) (Ns : Int32) (kB : ClassId) (n2 : Nat) (us : List Value) (zc : Int32) (fm : Value) (h0 : Heap) (n0 : Nat) (Z0 : n0 ≤ h0.size) (P0_ : Arv Z h0 t kb .byte Ns (cs.map fun c => Value.int (StrChars.lo8 c)) (.int 0)) (P1_ : Arv Z h0 b kB .byte (Int32.ofNat (2 * n2)) us (.int 0)) (g_b : n0 ≤ b) (hbd : ∀ c ∈ cs, ¬ c < 0 ∧ ¬ (65535 : Int32) < c) (hlo : ∀ c ∈ cs, ¬ (255 : Int32) < c) (hsrc : ∀ i, i < cs.length → Int32.ofNat i < Ns) (hu : us.length = 2 * nu) (hn2 : nu + cs.length ≤ n2) (hk2 : n2 ≤ 4000) (hne : t ≠ b) (SS : own_St Z h0 zc fm) : own_M l y65 j65 5 none (own_R 4 0 0 60) #[(.ref t), (.int (0 : Int32)), (.ref b), (.int (Int32.ofNat nu)), (.int (Int32.ofNat cs.length))] Z h0 (Q_linf Z t b cs nu kb Ns kB n2 us zc fm h0 n0) := by
 refine own_body (plainFor_of_name own_pn3) (fun p e s m below meth c s₁ Bd hZ hx hby hml hown hnm X0 e0 => ?_)
 have hown : s.vm.findClass "java/lang/StringLatin1" = some m.cls := hown
 have N0 := Fr.nil n0
 have D := own_dt hby d65
 refine own_cast (g' := mkF m 0 #[vr t, vi 0, vr b, vi (Int32.ofNat nu), vi (Int32.ofNat cs.length)] []) rfl ?_
 show own_G _ _ _ _ (s₁.setTop (mkF m 0 #[vr t, vi 0, vr b, vi (Int32.ofNat nu), vi (Int32.ofNat cs.length)] []))
 refine own_go (fun _ Kk => XS.aloadN X0.here hx rfl (D 0 rfl) rfl rfl (XS.iloadN X0.here hx rfl (D 1 rfl) rfl (XS.aloadN X0.here hx rfl (D 2 rfl) rfl rfl (XS.iloadN X0.here hx rfl (D 3 rfl) rfl (XS.iload X0.here hx rfl (D 4 rfl) rfl Kk))))) ?_
 show own_G _ _ _ _ (s₁.setTop (mkF m 6 #[vr t, vi 0, vr b, vi (Int32.ofNat nu), vi (Int32.ofNat cs.length)] [.int (Int32.ofNat cs.length), .int (Int32.ofNat nu), .ref b, .int 0, .ref t]))
 refine own_cS X0 hx hZ 0 hown (hw 303 rfl) (hw 304 rfl) (hw 26 rfl) (hw 305 rfl) (rm_uinf hw t b cs nu kb Ns kB n2 us zc fm h0 n0 Z0 P0_ P1_ g_b hbd hlo hsrc hu (by omega) (by omega) hne SS) e0 own_pd29 rfl (D 5 rfl) hml (fun _ T1 _ _ X1 l1 => own_hp ?_)
 rintro h1 e1 ⟨rfl, N1q, K1q, F1_0⟩
 have N1 := own_frl l1 N0 N1q
 have Z2 : n0 ≤ h1.size := Nat.le_trans Z0 K1q.1
 have K1 := Keep.trans (Keep.refl h0 [b]) K1q (allS (own_in 0 rfl) all0)
 exact own_rV X1 hx Bd (D 6 rfl) e1 ⟨rfl, N1, K1, F1_0⟩
def Q_gbI (Z : State) (x : Addr) (b : Addr) (t : Addr) (cs : List Int32) (kB : ClassId) (n2 : Nat) (us : List Value) (nu : Nat) (zc : Int32) (fm : Value) (h0 : Heap) (n0 : Nat) (v : Option Value) (h : Heap) (L : List Loc) : Prop := v = none ∧ Fr n0 L ∧ Keep h0 h [b] ∧ Arv Z h b kB .byte (Int32.ofNat (2 * n2)) (us ++ StrChars.Road.wideBytes cs) (.int 0)
theorem rm_gbI (hw : own_H a0 Z) (x : Addr) (b : Addr) (t : Addr) (cs : List Int32) (kB : ClassId) (n2 : Nat) (us : List Value) (nu : Nat) (zc : Int32) (fm : Value) (h0 : Heap) (n0 : Nat) (Z0 : n0 ≤ h0.size) (P0_ : own_Str Z h0 x t cs) (P1_ : Arv Z h0 b kB .byte (Int32.ofNat (2 * n2)) us (.int 0)) (g_b : n0 ≤ b) (hlo : ∀ c ∈ cs, ¬ (255 : Int32) < c) (hc20 : cs.length ≤ 20) (hu : us.length = 2 * nu) (hn2 : nu + cs.length ≤ n2) (hk2 : n2 ≤ 4000) (h2n : cs.length < 2 * n2) (SS : own_St Z h0 zc fm) : own_M l y35 j35 4 none (own_R 5 0 0 76) #[(.ref x), (.ref b), (.int (Int32.ofNat nu)), (.int (1 : Int32))] Z h0 (Q_gbI Z x b t cs kB n2 us nu zc fm h0 n0) := by
 refine own_body (plainFor_of_name own_pn0) (fun p e s m below meth c s₁ Bd hZ hx hby hml hown hnm X0 e0 => ?_)
 have hown : s.vm.findClass "java/lang/String" = some m.cls := hown
 have N0 := Fr.nil n0
 have D := own_dt hby d35
 refine own_cast (g' := mkF m 0 #[vr x, vr b, vi (Int32.ofNat nu), vi 1] []) rfl ?_
 obtain ⟨kb, cd, Nb, vs, E_, Fv_, Fc_, V_, hco, hch, hlen⟩ := id P0_
 have hcd : cd = 0 ∨ cd = 1 := own_cd01 hco
 
 obtain ⟨rfl, rfl, rfl⟩ := own_isL hco hlo
 show own_G _ _ _ _ (s₁.setTop (mkF m 0 #[vr x, vr b, vi (Int32.ofNat nu), vi 1] []))
 refine own_go (fun _ Kk => XS.aloadN X0.here hx rfl (D 0 rfl) rfl rfl Kk) ?_
 refine own_cV X0 hx hZ 0 hown (hw 56 rfl) (hw 57 rfl) (hw 59 rfl) (hw 58 rfl) (hw 60 rfl) (hw 12 rfl) (rm_cod hw x (0 : Int32) zc fm h0 n0 Z0 Fc_ (by decide) SS) e0 E_ own_pd1 rfl (D 1 rfl) hml ?_
 rintro _ T1 _ _ X1 l1 ⟨rfl, N1q, e1⟩
 have N1 := own_frl l1 N0 N1q
 refine own_go (fun _ Kk => XS.iloadN X1.here hx rfl (D 2 rfl) rfl (XS.icmpYes X1.here hx rfl (pc0 := 5) (pc' := 28) rfl (D 3 rfl) rfl (by decide) (by decide) (by decide) (XS.aloadN X1.here hx rfl (D 17 rfl) rfl rfl Kk))) ?_
 show own_G _ _ _ _ (T1.setTop (mkF m 29 #[vr x, vr b, vi (Int32.ofNat nu), vi 1] [.ref x]))
 refine own_gF X1 hx hZ hown (hw 37 rfl) e1 Fv_ (D 18 rfl) (fun T2 X2 e2 => ?_)
 refine own_go (fun _ Kk => XS.iconst X2.here hx rfl (D 19 rfl) (XS.aloadN X2.here hx rfl (D 20 rfl) rfl rfl (XS.iloadN X2.here hx rfl (D 21 rfl) rfl (XS.aloadN X2.here hx rfl (D 22 rfl) rfl rfl Kk)))) ?_
 show own_G _ _ _ _ (T2.setTop (mkF m 36 #[vr x, vr b, vi (Int32.ofNat nu), vi 1] [.ref x, .int (Int32.ofNat nu), .ref b, .int 0, .ref t]))
 refine own_gF X2 hx hZ hown (hw 37 rfl) e2 Fv_ (D 23 rfl) (fun T3 X3 e3 => ?_)
 obtain ⟨cl4, Ar4, -, Sz4, Nn4, -, -⟩ := id V_
 refine own_go (X3.arraylength hx (by rw [e3]; exact Ar4.1) (State.isArrayOf_alike hZ.alike Ar4.2.1) (g := (mkF m 39 #[vr x, vr b, vi (Int32.ofNat nu), vi 1] [.ref t, .int (Int32.ofNat nu), .ref b, .int 0, .ref t])) rfl rfl (D 24 rfl)) ?_
 rw [len_of Sz4 Nn4]
 refine own_cS X3 hx hZ 0 hown (hw 306 rfl) (hw 301 rfl) (hw 73 rfl) (hw 302 rfl) (rm_linf hw t b cs nu kb (Int32.ofNat cs.length) kB n2 us zc fm h0 n0 Z0 V_ P1_ g_b hch hlo (fun i hi => own_onl (by omega) hi) hu (by omega) (by omega) (own_nesz V_ P1_ (by rw [own_onc _ (by omega), own_onc _ (by omega)]; omega)) SS) e3 own_pd29 rfl (D 25 rfl) hml (fun _ T5 _ _ X5 l5 => own_hp ?_)
 rintro h5 e5 ⟨rfl, N5q, K5q, F5_0⟩
 have N5 := own_frl l5 N1 N5q
 have Z6 : n0 ≤ h5.size := Nat.le_trans Z0 K5q.1
 have K5 := Keep.trans (Keep.refl h0 [b]) K5q (allS (own_in 0 rfl) all0)
 exact own_rV X5 hx Bd (D 16 rfl) e5 ⟨rfl, N5, K5, F5_0⟩
end Jvm.Pilot.@@N@@
namespace Jvm.Pilot.@@N@@
open Jvm Jvm.ClassFile Sem Op Lib Jvm.Free Jvm.Stand Jvm.LawKit Jvm.RoadKit Bundle Jvm.Pilot.@@N@@.Jvm.D
set_option maxRecDepth 65536
set_option maxHeartbeats 40000000
variable {l : Launch} {Z : State} {a0 : Array Value}
theorem own_selp {s : State} {args : Array Value} {C : String} {y : MethodName} (hs : (Jvm.Cond.selects C y y).before args s = true) (hp : s.PrivateAt y) (hi : (Jvm.Cond.instanceMethod y).before args s = true) (hy : y.cls ≠ "java/lang/invoke/MethodHandle" ∧ y.cls ≠ "java/lang/invoke/VarHandle") : (Jvm.Cond.selects y.cls y y).before args s = true := by
  obtain ⟨c2, r2, m2, q1, q2, q3, q4, kP, hkP, hkPi⟩ := Cond.selects_spec hs
  exact selects_self_of_private (findClass_of_methodNamed q3) hkP hkPi hp hi hy
theorem d64 : ∀ x ∈ ([(0, .aload_n 0, 1), (1, .invokevirtual 83, 3), (4, .ifCond .ne 4, 3), (8, .aload_n 0, 1), (9, .getfield 15, 3), (12, .arraylength, 1), (13, .invokestatic 26, 3), (16, .astore_n 1, 1), (17, .aload_n 0, 1), (18, .getfield 15, 3), (21, .iconst 0, 1), (22, .aload_n 1, 1), (23, .iconst 0, 1), (24, .aload_n 0, 1), (25, .getfield 79, 3), (28, .invokestatic 125, 3), (31, .aload_n 0, 1), (32, .aload_n 1, 1), (33, .putfield 15, 3), (36, .aload_n 0, 1), (37, .iconst 1, 1), (38, .putfield 22, 3), (41, .return_, 1), (7, .return_, 1)] : List (Nat × Instr × Nat)), decode j64 x.1 = .ok x.2 := by decide +kernel
def Q_infA (Z : State) (a1 : Addr) (b : Addr) (kB : ClassId) (zc : Int32) (fm : Value) (h0 : Heap) (n0 : Nat) (v : Option Value) (h : Heap) (L : List Loc) : Prop := ∃ (b2 : Addr) (k2 : ClassId), v = none ∧ Fr n0 L ∧ Keep h0 h [a1] ∧ h0.size ≤ b2 ∧ Fld Z h a1 "java/lang/AbstractStringBuilder" "value" "[B" (.ref b2) ∧ Fld Z h a1 "java/lang/AbstractStringBuilder" "coder" "B" (.int (1 : Int32)) ∧ Fld Z h a1 "java/lang/AbstractStringBuilder" "count" "I" (.int (0 : Int32)) ∧ Fld Z h a1 "java/lang/AbstractStringBuilder" "maybeLatin1" "Z" (.int (0 : Int32)) ∧ Exa Z h a1 "java/lang/StringBuilder" ∧ Arv Z h b2 k2 .byte (Int32.ofNat (2 * 16)) [] (.int 0) ∧ Exa Z h b2 "[B"
theorem rm_infA (hw : own_H a0 Z) (a1 : Addr) (b : Addr) (kB : ClassId) (zc : Int32) (fm : Value) (h0 : Heap) (n0 : Nat) (Z0 : n0 ≤ h0.size) (P0_ : Fld Z h0 a1 "java/lang/AbstractStringBuilder" "value" "[B" (.ref b)) (P1_ : Fld Z h0 a1 "java/lang/AbstractStringBuilder" "coder" "B" (.int (0 : Int32))) (P2_ : Fld Z h0 a1 "java/lang/AbstractStringBuilder" "count" "I" (.int (0 : Int32))) (P3_ : Fld Z h0 a1 "java/lang/AbstractStringBuilder" "maybeLatin1" "Z" (.int (0 : Int32))) (P4_ : Exa Z h0 a1 "java/lang/StringBuilder") (P5_ : Arv Z h0 b kB .byte (16 : Int32) [] (.int 0)) (g_a1 : n0 ≤ a1) (hne : b ≠ a1) (SS : own_St Z h0 zc fm) : own_M l y64 j64 2 none (own_R 5 1 40 76) #[(.ref a1)] Z h0 (Q_infA Z a1 b kB zc fm h0 n0) := by
 refine own_body (plainFor_of_name own_pn7) (fun p e s m below meth c s₁ Bd hZ hx hby hml hown hnm X0 e0 => ?_)
 have hown : s.vm.findClass "java/lang/AbstractStringBuilder" = some m.cls := hown
 have N0 := Fr.nil n0
 have D := own_dt hby d64
 refine own_cast (g' := mkF m 0 #[vr a1, vu] []) rfl ?_
 show own_G _ _ _ _ (s₁.setTop (mkF m 0 #[vr a1, vu] []))
 refine own_go (fun _ Kk => XS.aloadN X0.here hx rfl (D 0 rfl) rfl rfl Kk) ?_
 refine own_cV X0 hx hZ 0 hown (hw 298 rfl) (hw 207 rfl) (hw 209 rfl) (hw 208 rfl) (hw 210 rfl) (hw 117 rfl) (rm_al0 hw a1 zc fm h0 n0 Z0 P1_ SS) e0 P4_ own_pd6 rfl (D 1 rfl) hml ?_
 rintro _ T1 _ _ X1 l1 ⟨rfl, N1q, e1⟩
 have N1 := own_frl l1 N0 N1q
 refine own_go (fun _ Kk => XS.ifYes X1.here hx rfl (pc0 := 4) (pc' := 8) rfl (D 2 rfl) rfl ((if0 _ _).trans (by decide)) (by decide) (by decide) (XS.aloadN X1.here hx rfl (D 3 rfl) rfl rfl Kk)) ?_
 refine own_gF X1 hx hZ hown (hw 121 rfl) e1 P0_ (D 4 rfl) (fun T2 X2 e2 => ?_)
 show own_G _ _ _ _ (T2.setTop (mkF m 12 #[vr a1, vu] [.ref b]))
 obtain ⟨cl3, Ar3, -, Sz3, Nn3, -, -⟩ := id P5_
 refine own_go (X2.arraylength hx (by rw [e2]; exact Ar3.1) (State.isArrayOf_alike hZ.alike Ar3.2.1) (g := (mkF m 12 #[vr a1, vu] [.ref b])) rfl rfl (D 5 rfl)) ?_
 rw [len_of Sz3 Nn3]
 refine own_cS X2 hx hZ 0 hown (hw 299 rfl) (hw 237 rfl) (hw 26 rfl) (hw 238 rfl) (rm_nbf hw 16 h0 n0 Z0 (by decide)) e2 own_pd14 rfl (D 6 rfl) hml (fun _ T4 _ _ X4 l4 => own_hp ?_)
 rintro h4 e4 ⟨b4b, kb4, rfl, N4q, K4q, le_b4b, F4_0, F4_1⟩
 have N4 := own_frl l4 N1 N4q
 have Z5 : n0 ≤ h4.size := Nat.le_trans Z0 K4q.1
 have g_b4b : n0 ≤ b4b := Nat.le_trans Z0 le_b4b
 have sz_b4b : h0.size ≤ b4b := Nat.le_trans (Keep.refl h0 [a1]).1 le_b4b
 have K4 := Keep.trans (Keep.refl h0 [a1]) K4q all0
 refine own_go (fun _ Kk => XS.astoreN X4.here hx rfl (D 7 rfl) rfl rfl (l' := #[vr a1, vr b4b]) rfl (XS.aloadN X4.here hx rfl (D 8 rfl) rfl rfl Kk)) ?_
 have Q6 := (P0_.keep K4q List.not_mem_nil)
 refine own_gF X4 hx hZ hown (hw 121 rfl) e4 Q6 (D 9 rfl) (fun T7 X7 e7 => ?_)
 show own_G _ _ _ _ (T7.setTop (mkF m 21 #[vr a1, vr b4b] [.ref b]))
 refine own_go (fun _ Kk => XS.iconst X7.here hx rfl (D 10 rfl) (XS.aloadN X7.here hx rfl (D 11 rfl) rfl rfl (XS.iconst X7.here hx rfl (D 12 rfl) (XS.aloadN X7.here hx rfl (D 13 rfl) rfl rfl Kk)))) ?_
 have Q8 := (P2_.keep K4q List.not_mem_nil)
 refine own_gF X7 hx hZ hown (hw 153 rfl) e7 Q8 (D 14 rfl) (fun T9 X9 e9 => ?_)
 show own_G _ _ _ _ (T9.setTop (mkF m 28 #[vr a1, vr b4b] [.int 0, .int 0, .ref b4b, .int 0, .ref b]))
 have Q11 := (P5_.keep K4q List.not_mem_nil)
 have Q12 := (SS.keep K4q all0)
 refine own_cS X9 hx hZ 0 hown (hw 300 rfl) (hw 301 rfl) (hw 73 rfl) (hw 302 rfl) (rm_linf hw b b4b [] 0 kB (16 : Int32) kb4 16 [] zc fm h4 n0 Z5 Q11 F4_0 g_b4b (fun c hc => nomatch hc) (fun c hc => nomatch hc) (fun i hi => absurd hi (Nat.not_lt_zero _)) rfl (by decide) (by decide) (Nat.ne_of_lt (Nat.lt_of_lt_of_le P5_.lt le_b4b)) Q12) e9 own_pd29 rfl (D 15 rfl) hml (fun _ T10 _ _ X10 l10 => own_hp ?_)
 rintro h10 e10 ⟨rfl, N10q, K10q, F10_0⟩
 have N10 := own_frl l10 N4 N10q
 have Z13 : n0 ≤ h10.size := Nat.le_trans Z5 K10q.1
 have K10 := Keep.trans K4 K10q (allS (Or.inr sz_b4b) all0)
 refine own_go (fun _ Kk => XS.aloadN X10.here hx rfl (D 16 rfl) rfl rfl (XS.aloadN X10.here hx rfl (D 17 rfl) rfl rfl Kk)) ?_
 have Q14 := (Q6.keep K10q (own_nc (Nat.ne_of_lt (Nat.lt_of_lt_of_le P4_.lt le_b4b)) List.not_mem_nil))
 have Q15 := ((P4_.keep K4q).keep K10q)
 obtain ⟨T16, h16, X16, e16, W16, st16⟩ := putF X10 hx hZ hown (host := "") (Or.inl (hw 121 rfl)) Via.refl e10 Q14 Q15 (Or.inl (hw 122 rfl)) (hw 108 rfl) (ty := (.array .byte)) (by decide) rfl rfl (g := (mkF m 33 #[vr a1, vr b4b] [.ref b4b, .ref a1])) rfl rfl (D 18 rfl)
 refine own_go st16 ?_
 have F16 := Q14.same W16
 have N16 := Fr.snoc X16 N10 g_a1
 have Z17 : n0 ≤ h16.size := Nat.le_trans Z13 (Keep.of_wr W16).1
 have K18 := Keep.wr K10 W16 (own_in 0 rfl)
 refine own_go (fun _ Kk => XS.aloadN X16.here hx rfl (D 19 rfl) rfl rfl Kk) ?_
 show own_G _ _ _ _ (T16.setTop (mkF m 37 #[vr a1, vr b4b] [.ref a1]))
 refine own_go (fun _ Kk => XS.iconst X16.here hx rfl (D 20 rfl) Kk) ?_
 have Q19 := (((P1_.keep K4q List.not_mem_nil).keep K10q (own_nc (Nat.ne_of_lt (Nat.lt_of_lt_of_le P4_.lt le_b4b)) List.not_mem_nil)).other W16 (Or.inr (slot_ne (Or.inl (hw 124 rfl)) (Or.inl (hw 122 rfl)) (by decide) (t := .byte) (t' := (.array .byte)) (by decide) (by decide))))
 have Q20 := (Q15.wr W16)
 obtain ⟨T21, h21, X21, e21, W21, st21⟩ := putFN X16 hx hZ hown (hw 123 rfl) Via.refl e16 Q19 Q20 (Or.inl (hw 124 rfl)) (hw 108 rfl) (ty := .byte) (v' := (.int (1 : Int32))) (by decide) rfl rfl (g := (mkF m 38 #[vr a1, vr b4b] [.int 1, .ref a1])) rfl rfl (D 21 rfl)
 refine own_go st21 ?_
 have F21 := Q19.same W21
 have N21 := Fr.snoc X21 N16 g_a1
 have Z22 : n0 ≤ h21.size := Nat.le_trans Z17 (Keep.of_wr W21).1
 have K23 := Keep.wr K18 W21 (own_in 0 rfl)
 have Q24 := (F16.other W21 (Or.inr (slot_ne (Or.inl (hw 122 rfl)) (Or.inl (hw 124 rfl)) (by decide) (t := (.array .byte)) (t' := .byte) (by decide) (by decide))))
 have Q25 := (((Q8.keep K10q (own_nc (Nat.ne_of_lt (Nat.lt_of_lt_of_le P4_.lt le_b4b)) List.not_mem_nil)).other W16 (Or.inr (slot_ne (Or.inl (hw 154 rfl)) (Or.inl (hw 122 rfl)) (by decide) (t := .int) (t' := (.array .byte)) (by decide) (by decide)))).other W21 (Or.inr (slot_ne (Or.inl (hw 154 rfl)) (Or.inl (hw 124 rfl)) (by decide) (t := .int) (t' := .byte) (by decide) (by decide))))
 have Q26 := ((((P3_.keep K4q List.not_mem_nil).keep K10q (own_nc (Nat.ne_of_lt (Nat.lt_of_lt_of_le P4_.lt le_b4b)) List.not_mem_nil)).other W16 (Or.inr (slot_ne (Or.inl (hw 308 rfl)) (Or.inl (hw 122 rfl)) (by decide) (t := .boolean) (t' := (.array .byte)) (by decide) (by decide)))).other W21 (Or.inr (slot_ne (Or.inl (hw 308 rfl)) (Or.inl (hw 124 rfl)) (by decide) (t := .boolean) (t' := .byte) (by decide) (by decide))))
 have Q27 := (Q20.wr W21)
 have Q28 := ((F10_0.other W16 (Ne.symm (Nat.ne_of_lt (Nat.lt_of_lt_of_le P4_.lt le_b4b)))).other W21 (Ne.symm (Nat.ne_of_lt (Nat.lt_of_lt_of_le P4_.lt le_b4b))))
 have Q29 := (((F4_1.keep K10q).wr W16).wr W21)
 exact own_rV X21 hx Bd (D 22 rfl) e21 ⟨b4b, kb4, rfl, N21, K23, sz_b4b, Q24, F21, Q25, Q26, Q27, Q28, Q29⟩
def Q_infB (Z : State) (a1 : Addr) (zc : Int32) (fm : Value) (h0 : Heap) (n0 : Nat) (v : Option Value) (h : Heap) (L : List Loc) : Prop := v = none ∧ Fr n0 L ∧ h = h0
theorem rm_infB (hw : own_H a0 Z) (a1 : Addr) (zc : Int32) (fm : Value) (h0 : Heap) (n0 : Nat) (Z0 : n0 ≤ h0.size) (P0_ : Fld Z h0 a1 "java/lang/AbstractStringBuilder" "coder" "B" (.int (1 : Int32))) (P1_ : Exa Z h0 a1 "java/lang/StringBuilder") (SS : own_St Z h0 zc fm) : own_M l y64 j64 2 none (own_R 1 0 0 12) #[(.ref a1)] Z h0 (Q_infB Z a1 zc fm h0 n0) := by
 refine own_body (plainFor_of_name own_pn7) (fun p e s m below meth c s₁ Bd hZ hx hby hml hown hnm X0 e0 => ?_)
 have hown : s.vm.findClass "java/lang/AbstractStringBuilder" = some m.cls := hown
 have N0 := Fr.nil n0
 have D := own_dt hby d64
 refine own_cast (g' := mkF m 0 #[vr a1, vu] []) rfl ?_
 show own_G _ _ _ _ (s₁.setTop (mkF m 0 #[vr a1, vu] []))
 refine own_go (fun _ Kk => XS.aloadN X0.here hx rfl (D 0 rfl) rfl rfl Kk) ?_
 refine own_cV X0 hx hZ 0 hown (hw 298 rfl) (hw 207 rfl) (hw 209 rfl) (hw 208 rfl) (hw 210 rfl) (hw 117 rfl) (rm_al1 hw a1 zc fm h0 n0 Z0 P0_ SS) e0 P1_ own_pd6 rfl (D 1 rfl) hml ?_
 rintro _ T1 _ _ X1 l1 ⟨rfl, N1q, e1⟩
 have N1 := own_frl l1 N0 N1q
 refine own_go (fun _ Kk => XS.ifNo X1.here hx rfl (D 2 rfl) rfl ((if0 _ _).trans (by decide)) Kk) ?_
 exact own_rV X1 hx Bd (D 23 rfl) e1 ⟨rfl, N1, rfl⟩
theorem d34 : ∀ x ∈ ([(0, .getstatic 18, 3), (3, .ifCond .eq 18, 3), (6, .aload_n 0, 1), (7, .getfield 22, 3), (10, .aload_n 1, 1), (11, .invokevirtual 40, 3), (14, .if_icmp .eq 7, 3), (21, .return_, 1), (17, .aload_n 0, 1), (18, .invokevirtual 195, 3)] : List (Nat × Instr × Nat)), decode j34 x.1 = .ok x.2 := by decide +kernel
def Q_ifL (Z : State) (a1 : Addr) (x : Addr) (t : Addr) (cs : List Int32) (zc : Int32) (fm : Value) (h0 : Heap) (n0 : Nat) (v : Option Value) (h : Heap) (L : List Loc) : Prop := v = none ∧ Fr n0 L ∧ h = h0
theorem rm_ifL (hw : own_H a0 Z) (a1 : Addr) (x : Addr) (t : Addr) (cs : List Int32) (zc : Int32) (fm : Value) (h0 : Heap) (n0 : Nat) (Z0 : n0 ≤ h0.size) (P0_ : own_Str Z h0 x t cs) (P1_ : Fld Z h0 a1 "java/lang/AbstractStringBuilder" "coder" "B" (.int (0 : Int32))) (hlo : ∀ c ∈ cs, ¬ (255 : Int32) < c) (SS : own_St Z h0 zc fm) : own_M l y34 j34 2 none (own_R 1 0 0 13) #[(.ref a1), (.ref x)] Z h0 (Q_ifL Z a1 x t cs zc fm h0 n0) := by
 refine own_body (plainFor_of_name own_pn7) (fun p e s m below meth c s₁ Bd hZ hx hby hml hown hnm X0 e0 => ?_)
 have hown : s.vm.findClass "java/lang/AbstractStringBuilder" = some m.cls := hown
 have N0 := Fr.nil n0
 have D := own_dt hby d34
 refine own_cast (g' := mkF m 0 #[vr a1, vr x] []) rfl ?_
 obtain ⟨kb, cd, Nb, vs, E_, Fv_, Fc_, V_, hco, hch, hlen⟩ := id P0_
 have hcd : cd = 0 ∨ cd = 1 := own_cd01 hco
 
 obtain ⟨rfl, rfl, rfl⟩ := own_isL hco hlo
 show own_G _ _ _ _ (s₁.setTop (mkF m 0 #[vr a1, vr x] []))
 refine own_gS X0 hx hZ hown (hw 120 rfl) e0 SS.2.2.1 (D 0 rfl) (fun T1 X1 e1 => ?_)
 refine own_go (fun _ Kk => XS.ifNo X1.here hx rfl (D 1 rfl) rfl ((if0 _ _).trans (feq SS.1).1) (XS.aloadN X1.here hx rfl (D 2 rfl) rfl rfl Kk)) ?_
 refine own_gF X1 hx hZ hown (hw 123 rfl) e1 P1_ (D 3 rfl) (fun T2 X2 e2 => ?_)
 refine own_go (fun _ Kk => XS.aloadN X2.here hx rfl (D 4 rfl) rfl rfl Kk) ?_
 show own_G _ _ _ _ (T2.setTop (mkF m 11 #[vr a1, vr x] [.ref x, .int 0]))
 refine own_cV X2 hx hZ 1 hown (hw 170 rfl) (hw 57 rfl) (hw 59 rfl) (hw 58 rfl) (hw 60 rfl) (hw 12 rfl) (rm_cod hw x (0 : Int32) zc fm h0 n0 Z0 Fc_ (by decide) SS) e2 E_ own_pd1 rfl (D 5 rfl) hml ?_
 rintro _ T3 _ _ X3 l3 ⟨rfl, N3q, e3⟩
 have N3 := own_frl l3 N0 N3q
 refine own_go (fun _ Kk => XS.icmpYes X3.here hx rfl (pc0 := 14) (pc' := 21) rfl (D 6 rfl) rfl (by decide) (by decide) (by decide) Kk) ?_
 exact own_rV X3 hx Bd (D 7 rfl) e3 ⟨rfl, N3, rfl⟩
theorem own_pd30 : parseMethodDescriptor "()V" = some ⟨[], none⟩ := by decide +kernel
def Q_ifU (Z : State) (a1 : Addr) (x : Addr) (t : Addr) (cs : List Int32) (b : Addr) (kB : ClassId) (zc : Int32) (fm : Value) (h0 : Heap) (n0 : Nat) (v : Option Value) (h : Heap) (L : List Loc) : Prop := ∃ (b2 : Addr) (k2 : ClassId), v = none ∧ Fr n0 L ∧ Keep h0 h [a1] ∧ h0.size ≤ b2 ∧ Fld Z h a1 "java/lang/AbstractStringBuilder" "value" "[B" (.ref b2) ∧ Fld Z h a1 "java/lang/AbstractStringBuilder" "coder" "B" (.int (1 : Int32)) ∧ Fld Z h a1 "java/lang/AbstractStringBuilder" "count" "I" (.int (0 : Int32)) ∧ Fld Z h a1 "java/lang/AbstractStringBuilder" "maybeLatin1" "Z" (.int (0 : Int32)) ∧ Exa Z h a1 "java/lang/StringBuilder" ∧ Arv Z h b2 k2 .byte (Int32.ofNat (2 * 16)) [] (.int 0) ∧ Exa Z h b2 "[B"
theorem rm_ifU (hw : own_H a0 Z) (a1 : Addr) (x : Addr) (t : Addr) (cs : List Int32) (b : Addr) (kB : ClassId) (zc : Int32) (fm : Value) (h0 : Heap) (n0 : Nat) (Z0 : n0 ≤ h0.size) (P0_ : own_Str Z h0 x t cs) (P1_ : Fld Z h0 a1 "java/lang/AbstractStringBuilder" "value" "[B" (.ref b)) (P2_ : Fld Z h0 a1 "java/lang/AbstractStringBuilder" "coder" "B" (.int (0 : Int32))) (P3_ : Fld Z h0 a1 "java/lang/AbstractStringBuilder" "count" "I" (.int (0 : Int32))) (P4_ : Fld Z h0 a1 "java/lang/AbstractStringBuilder" "maybeLatin1" "Z" (.int (0 : Int32))) (P5_ : Exa Z h0 a1 "java/lang/StringBuilder") (P6_ : Arv Z h0 b kB .byte (16 : Int32) [] (.int 0)) (g_a1 : n0 ≤ a1) (hex : ∃ c ∈ cs, (255 : Int32) < c) (hba : b ≠ a1) (SS : own_St Z h0 zc fm) : own_M l y34 j34 2 none (own_R 6 1 40 89) #[(.ref a1), (.ref x)] Z h0 (Q_ifU Z a1 x t cs b kB zc fm h0 n0) := by
 refine own_body (plainFor_of_name own_pn7) (fun p e s m below meth c s₁ Bd hZ hx hby hml hown hnm X0 e0 => ?_)
 have hown : s.vm.findClass "java/lang/AbstractStringBuilder" = some m.cls := hown
 have N0 := Fr.nil n0
 have D := own_dt hby d34
 refine own_cast (g' := mkF m 0 #[vr a1, vr x] []) rfl ?_
 obtain ⟨kb, cd, Nb, vs, E_, Fv_, Fc_, V_, hco, hch, hlen⟩ := id P0_
 have hcd : cd = 0 ∨ cd = 1 := own_cd01 hco
 
 obtain ⟨rfl, rfl, rfl⟩ := own_isU hco hex
 show own_G _ _ _ _ (s₁.setTop (mkF m 0 #[vr a1, vr x] []))
 refine own_gS X0 hx hZ hown (hw 120 rfl) e0 SS.2.2.1 (D 0 rfl) (fun T1 X1 e1 => ?_)
 refine own_go (fun _ Kk => XS.ifNo X1.here hx rfl (D 1 rfl) rfl ((if0 _ _).trans (feq SS.1).1) (XS.aloadN X1.here hx rfl (D 2 rfl) rfl rfl Kk)) ?_
 refine own_gF X1 hx hZ hown (hw 123 rfl) e1 P2_ (D 3 rfl) (fun T2 X2 e2 => ?_)
 refine own_go (fun _ Kk => XS.aloadN X2.here hx rfl (D 4 rfl) rfl rfl Kk) ?_
 show own_G _ _ _ _ (T2.setTop (mkF m 11 #[vr a1, vr x] [.ref x, .int 0]))
 refine own_cV X2 hx hZ 1 hown (hw 170 rfl) (hw 57 rfl) (hw 59 rfl) (hw 58 rfl) (hw 60 rfl) (hw 12 rfl) (rm_cod hw x (1 : Int32) zc fm h0 n0 Z0 Fc_ (by decide) SS) e2 E_ own_pd1 rfl (D 5 rfl) hml ?_
 rintro _ T3 _ _ X3 l3 ⟨rfl, N3q, e3⟩
 have N3 := own_frl l3 N0 N3q
 refine own_go (fun _ Kk => XS.icmpNo X3.here hx rfl (D 6 rfl) rfl (by decide) (XS.aloadN X3.here hx rfl (D 8 rfl) rfl rfl Kk)) ?_
 refine own_cP X3 hx hZ 0 hown (hw 293 rfl) (hw 294 rfl) (own_selp (mvT hZ (hw 296 rfl)) (Cond.privateMethod_at (mvP hZ (hw 295 rfl) (args := #[]))) (mvT hZ (hw 294 rfl)) (by decide)) (hw 295 rfl) (hw 297 rfl) (hw 117 rfl) (rm_infA hw a1 b kB zc fm h0 n0 Z0 P1_ P2_ P3_ P4_ P5_ P6_ g_a1 hba SS) e3 P5_ own_pd30 rfl (D 9 rfl) hml (fun _ T4 _ _ X4 l4 => own_hp ?_)
 rintro h4 e4 ⟨b4b2, k24, rfl, N4q, K4q, le_b4b2, F4_0, F4_1, F4_2, F4_3, F4_4, F4_5, F4_6⟩
 have N4 := own_frl l4 N3 N4q
 have Z5 : n0 ≤ h4.size := Nat.le_trans Z0 K4q.1
 have g_b4b2 : n0 ≤ b4b2 := Nat.le_trans Z0 le_b4b2
 have sz_b4b2 : h0.size ≤ b4b2 := Nat.le_trans (Keep.refl h0 [a1]).1 le_b4b2
 have K4 := Keep.trans (Keep.refl h0 [a1]) K4q (allS (own_in 0 rfl) all0)
 exact own_rV X4 hx Bd (D 7 rfl) e4 ⟨b4b2, k24, rfl, N4, K4, sz_b4b2, F4_0, F4_1, F4_2, F4_3, F4_4, F4_5, F4_6⟩
def Q_ifV (Z : State) (a1 : Addr) (x : Addr) (t : Addr) (cs : List Int32) (zc : Int32) (fm : Value) (h0 : Heap) (n0 : Nat) (v : Option Value) (h : Heap) (L : List Loc) : Prop := v = none ∧ Fr n0 L ∧ h = h0
theorem rm_ifV (hw : own_H a0 Z) (a1 : Addr) (x : Addr) (t : Addr) (cs : List Int32) (zc : Int32) (fm : Value) (h0 : Heap) (n0 : Nat) (Z0 : n0 ≤ h0.size) (P0_ : own_Str Z h0 x t cs) (P1_ : Fld Z h0 a1 "java/lang/AbstractStringBuilder" "coder" "B" (.int (1 : Int32))) (P2_ : Exa Z h0 a1 "java/lang/StringBuilder") (hlo : ∀ c ∈ cs, ¬ (255 : Int32) < c) (SS : own_St Z h0 zc fm) : own_M l y34 j34 2 none (own_R 6 1 40 89) #[(.ref a1), (.ref x)] Z h0 (Q_ifV Z a1 x t cs zc fm h0 n0) := by
 refine own_body (plainFor_of_name own_pn7) (fun p e s m below meth c s₁ Bd hZ hx hby hml hown hnm X0 e0 => ?_)
 have hown : s.vm.findClass "java/lang/AbstractStringBuilder" = some m.cls := hown
 have N0 := Fr.nil n0
 have D := own_dt hby d34
 refine own_cast (g' := mkF m 0 #[vr a1, vr x] []) rfl ?_
 obtain ⟨kb, cd, Nb, vs, E_, Fv_, Fc_, V_, hco, hch, hlen⟩ := id P0_
 have hcd : cd = 0 ∨ cd = 1 := own_cd01 hco
 
 obtain ⟨rfl, rfl, rfl⟩ := own_isL hco hlo
 show own_G _ _ _ _ (s₁.setTop (mkF m 0 #[vr a1, vr x] []))
 refine own_gS X0 hx hZ hown (hw 120 rfl) e0 SS.2.2.1 (D 0 rfl) (fun T1 X1 e1 => ?_)
 refine own_go (fun _ Kk => XS.ifNo X1.here hx rfl (D 1 rfl) rfl ((if0 _ _).trans (feq SS.1).1) (XS.aloadN X1.here hx rfl (D 2 rfl) rfl rfl Kk)) ?_
 refine own_gF X1 hx hZ hown (hw 123 rfl) e1 P1_ (D 3 rfl) (fun T2 X2 e2 => ?_)
 refine own_go (fun _ Kk => XS.aloadN X2.here hx rfl (D 4 rfl) rfl rfl Kk) ?_
 show own_G _ _ _ _ (T2.setTop (mkF m 11 #[vr a1, vr x] [.ref x, .int 1]))
 refine own_cV X2 hx hZ 1 hown (hw 170 rfl) (hw 57 rfl) (hw 59 rfl) (hw 58 rfl) (hw 60 rfl) (hw 12 rfl) (rm_cod hw x (0 : Int32) zc fm h0 n0 Z0 Fc_ (by decide) SS) e2 E_ own_pd1 rfl (D 5 rfl) hml ?_
 rintro _ T3 _ _ X3 l3 ⟨rfl, N3q, e3⟩
 have N3 := own_frl l3 N0 N3q
 refine own_go (fun _ Kk => XS.icmpNo X3.here hx rfl (D 6 rfl) rfl (by decide) (XS.aloadN X3.here hx rfl (D 8 rfl) rfl rfl Kk)) ?_
 refine own_cP X3 hx hZ 0 hown (hw 293 rfl) (hw 294 rfl) (own_selp (mvT hZ (hw 296 rfl)) (Cond.privateMethod_at (mvP hZ (hw 295 rfl) (args := #[]))) (mvT hZ (hw 294 rfl)) (by decide)) (hw 295 rfl) (hw 297 rfl) (hw 117 rfl) (rm_infB hw a1 zc fm h0 n0 Z0 P1_ P2_ SS) e3 P2_ own_pd30 rfl (D 9 rfl) hml ?_
 rintro _ T4 _ _ X4 l4 ⟨rfl, N4q, e4⟩
 have N4 := own_frl l4 N3 N4q
 exact own_rV X4 hx Bd (D 7 rfl) e4 ⟨rfl, N4, rfl⟩
theorem d33 : ∀ x ∈ ([(0, .aload_n 0, 1), (1, .aload_n 2, 1), (2, .invokevirtual 397, 3), (5, .aload_n 2, 1), (6, .aload_n 0, 1), (7, .getfield 15, 3), (10, .iload_n 1, 1), (11, .aload_n 0, 1), (12, .getfield 22, 3), (15, .invokevirtual 399, 3), (18, .return_, 1)] : List (Nat × Instr × Nat)), decode j33 x.1 = .ok x.2 := by decide +kernel
theorem own_pd31 : parseMethodDescriptor "(Ljava/lang/String;)V" = some ⟨[(.object "java/lang/String")], none⟩ := by decide +kernel
theorem own_pd32 : parseMethodDescriptor "([BIB)V" = some ⟨[(.array .byte), .int, .byte], none⟩ := by decide +kernel
def Q_psL (Z : State) (a1 : Addr) (x : Addr) (t : Addr) (cs : List Int32) (b : Addr) (kB : ClassId) (NN : Int32) (us : List Value) (nu : Nat) (zc : Int32) (fm : Value) (h0 : Heap) (n0 : Nat) (v : Option Value) (h : Heap) (L : List Loc) : Prop := v = none ∧ Fr n0 L ∧ Keep h0 h [b] ∧ Arv Z h b kB .byte NN (us ++ (cs.map fun c => Value.int (StrChars.lo8 c))) (.int 0)
theorem rm_psL (hw : own_H a0 Z) (a1 : Addr) (x : Addr) (t : Addr) (cs : List Int32) (b : Addr) (kB : ClassId) (NN : Int32) (us : List Value) (nu : Nat) (zc : Int32) (fm : Value) (h0 : Heap) (n0 : Nat) (Z0 : n0 ≤ h0.size) (P0_ : own_Str Z h0 x t cs) (P1_ : Fld Z h0 a1 "java/lang/AbstractStringBuilder" "value" "[B" (.ref b)) (P2_ : Fld Z h0 a1 "java/lang/AbstractStringBuilder" "coder" "B" (.int (0 : Int32))) (P3_ : Exa Z h0 a1 "java/lang/StringBuilder") (P4_ : Arv Z h0 b kB .byte NN us (.int 0)) (g_b : n0 ≤ b) (hlo : ∀ c ∈ cs, ¬ (255 : Int32) < c) (hc20 : cs.length ≤ 20) (hnu : nu ≤ 40) (hu : us.length = nu) (hN : nu + cs.length ≤ NN.toNatClampNeg) (SS : own_St Z h0 zc fm) : own_M l y33 j33 3 none (own_R 7 1 40 102) #[(.ref a1), (.int (Int32.ofNat nu)), (.ref x)] Z h0 (Q_psL Z a1 x t cs b kB NN us nu zc fm h0 n0) := by
 refine own_body (plainFor_of_name own_pn7) (fun p e s m below meth c s₁ Bd hZ hx hby hml hown hnm X0 e0 => ?_)
 have hown : s.vm.findClass "java/lang/AbstractStringBuilder" = some m.cls := hown
 have N0 := Fr.nil n0
 have D := own_dt hby d33
 refine own_cast (g' := mkF m 0 #[vr a1, vi (Int32.ofNat nu), vr x] []) rfl ?_
 show own_G _ _ _ _ (s₁.setTop (mkF m 0 #[vr a1, vi (Int32.ofNat nu), vr x] []))
 refine own_go (fun _ Kk => XS.aloadN X0.here hx rfl (D 0 rfl) rfl rfl (XS.aloadN X0.here hx rfl (D 1 rfl) rfl rfl Kk)) ?_
 refine own_cP X0 hx hZ 0 hown (hw 165 rfl) (hw 166 rfl) (own_selp (mvT hZ (hw 168 rfl)) (Cond.privateMethod_at (mvP hZ (hw 167 rfl) (args := #[]))) (mvT hZ (hw 166 rfl)) (by decide)) (hw 167 rfl) (hw 169 rfl) (hw 117 rfl) (rm_ifL hw a1 x t cs zc fm h0 n0 Z0 P0_ P2_ hlo SS) e0 P3_ own_pd31 rfl (D 2 rfl) hml ?_
 rintro _ T1 _ _ X1 l1 ⟨rfl, N1q, e1⟩
 have N1 := own_frl l1 N0 N1q
 refine own_go (fun _ Kk => XS.aloadN X1.here hx rfl (D 3 rfl) rfl rfl (XS.aloadN X1.here hx rfl (D 4 rfl) rfl rfl Kk)) ?_
 show own_G _ _ _ _ (T1.setTop (mkF m 7 #[vr a1, vi (Int32.ofNat nu), vr x] [.ref a1, .ref x]))
 refine own_gF X1 hx hZ hown (hw 121 rfl) e1 P1_ (D 5 rfl) (fun T2 X2 e2 => ?_)
 refine own_go (fun _ Kk => XS.iloadN X2.here hx rfl (D 6 rfl) rfl (XS.aloadN X2.here hx rfl (D 7 rfl) rfl rfl Kk)) ?_
 refine own_gF X2 hx hZ hown (hw 123 rfl) e2 P2_ (D 8 rfl) (fun T3 X3 e3 => ?_)
 refine own_cV X3 hx hZ 0 hown (hw 171 rfl) (hw 172 rfl) (hw 174 rfl) (hw 173 rfl) (hw 175 rfl) (hw 12 rfl) (rm_gbL hw x b t cs kB NN us nu zc fm h0 n0 Z0 P0_ P4_ g_b hlo (by omega) (by omega) hu hN SS) e3 (own_Str.exa P0_) own_pd32 rfl (D 9 rfl) hml (fun _ T4 _ _ X4 l4 => own_hp ?_)
 rintro h4 e4 ⟨rfl, N4q, K4q, F4_0⟩
 have N4 := own_frl l4 N1 N4q
 have Z5 : n0 ≤ h4.size := Nat.le_trans Z0 K4q.1
 have K4 := Keep.trans (Keep.refl h0 [b]) K4q (allS (own_in 0 rfl) all0)
 show own_G _ _ _ _ (T4.setTop (mkF m 18 #[vr a1, vi (Int32.ofNat nu), vr x] []))
 exact own_rV X4 hx Bd (D 10 rfl) e4 ⟨rfl, N4, K4, F4_0⟩
def Q_psU (Z : State) (a1 : Addr) (x : Addr) (t : Addr) (cs : List Int32) (b : Addr) (kB : ClassId) (zc : Int32) (fm : Value) (h0 : Heap) (n0 : Nat) (v : Option Value) (h : Heap) (L : List Loc) : Prop := ∃ (b2 : Addr) (k2 : ClassId), v = none ∧ Fr n0 L ∧ Keep h0 h [a1] ∧ h0.size ≤ b2 ∧ Fld Z h a1 "java/lang/AbstractStringBuilder" "value" "[B" (.ref b2) ∧ Fld Z h a1 "java/lang/AbstractStringBuilder" "coder" "B" (.int (1 : Int32)) ∧ Fld Z h a1 "java/lang/AbstractStringBuilder" "count" "I" (.int (0 : Int32)) ∧ Fld Z h a1 "java/lang/AbstractStringBuilder" "maybeLatin1" "Z" (.int (0 : Int32)) ∧ Exa Z h a1 "java/lang/StringBuilder" ∧ Arv Z h b2 k2 .byte (Int32.ofNat (2 * 16)) (StrChars.Road.wideBytes cs) (.int 0) ∧ Exa Z h b2 "[B"
theorem rm_psU (hw : own_H a0 Z) (a1 : Addr) (x : Addr) (t : Addr) (cs : List Int32) (b : Addr) (kB : ClassId) (zc : Int32) (fm : Value) (h0 : Heap) (n0 : Nat) (Z0 : n0 ≤ h0.size) (P0_ : own_Str Z h0 x t cs) (P1_ : Fld Z h0 a1 "java/lang/AbstractStringBuilder" "value" "[B" (.ref b)) (P2_ : Fld Z h0 a1 "java/lang/AbstractStringBuilder" "coder" "B" (.int (0 : Int32))) (P3_ : Fld Z h0 a1 "java/lang/AbstractStringBuilder" "count" "I" (.int (0 : Int32))) (P4_ : Fld Z h0 a1 "java/lang/AbstractStringBuilder" "maybeLatin1" "Z" (.int (0 : Int32))) (P5_ : Exa Z h0 a1 "java/lang/StringBuilder") (P6_ : Arv Z h0 b kB .byte (16 : Int32) [] (.int 0)) (g_a1 : n0 ≤ a1) (hex : ∃ c ∈ cs, (255 : Int32) < c) (hc16 : cs.length ≤ 16) (hba : b ≠ a1) (hxa : x ≠ a1) (hta : t ≠ a1) (SS : own_St Z h0 zc fm) : own_M l y33 j33 3 none (own_R 7 1 40 102) #[(.ref a1), (.int (0 : Int32)), (.ref x)] Z h0 (Q_psU Z a1 x t cs b kB zc fm h0 n0) := by
 refine own_body (plainFor_of_name own_pn7) (fun p e s m below meth c s₁ Bd hZ hx hby hml hown hnm X0 e0 => ?_)
 have hown : s.vm.findClass "java/lang/AbstractStringBuilder" = some m.cls := hown
 have N0 := Fr.nil n0
 have D := own_dt hby d33
 refine own_cast (g' := mkF m 0 #[vr a1, vi 0, vr x] []) rfl ?_
 show own_G _ _ _ _ (s₁.setTop (mkF m 0 #[vr a1, vi 0, vr x] []))
 refine own_go (fun _ Kk => XS.aloadN X0.here hx rfl (D 0 rfl) rfl rfl (XS.aloadN X0.here hx rfl (D 1 rfl) rfl rfl Kk)) ?_
 refine own_cP X0 hx hZ 0 hown (hw 165 rfl) (hw 166 rfl) (own_selp (mvT hZ (hw 168 rfl)) (Cond.privateMethod_at (mvP hZ (hw 167 rfl) (args := #[]))) (mvT hZ (hw 166 rfl)) (by decide)) (hw 167 rfl) (hw 169 rfl) (hw 117 rfl) (rm_ifU hw a1 x t cs b kB zc fm h0 n0 Z0 P0_ P1_ P2_ P3_ P4_ P5_ P6_ g_a1 hex hba SS) e0 P5_ own_pd31 rfl (D 2 rfl) hml (fun _ T1 _ _ X1 l1 => own_hp ?_)
 rintro h1 e1 ⟨b1b2, k21, rfl, N1q, K1q, le_b1b2, F1_0, F1_1, F1_2, F1_3, F1_4, F1_5, F1_6⟩
 have N1 := own_frl l1 N0 N1q
 have Z2 : n0 ≤ h1.size := Nat.le_trans Z0 K1q.1
 have g_b1b2 : n0 ≤ b1b2 := Nat.le_trans Z0 le_b1b2
 have sz_b1b2 : h0.size ≤ b1b2 := Nat.le_trans (Keep.refl h0 [a1]).1 le_b1b2
 have K1 := Keep.trans (Keep.refl h0 [a1]) K1q (allS (own_in 0 rfl) all0)
 refine own_go (fun _ Kk => XS.aloadN X1.here hx rfl (D 3 rfl) rfl rfl (XS.aloadN X1.here hx rfl (D 4 rfl) rfl rfl Kk)) ?_
 show own_G _ _ _ _ (T1.setTop (mkF m 7 #[vr a1, vi 0, vr x] [.ref a1, .ref x]))
 refine own_gF X1 hx hZ hown (hw 121 rfl) e1 F1_0 (D 5 rfl) (fun T3 X3 e3 => ?_)
 refine own_go (fun _ Kk => XS.iloadN X3.here hx rfl (D 6 rfl) rfl (XS.aloadN X3.here hx rfl (D 7 rfl) rfl rfl Kk)) ?_
 refine own_gF X3 hx hZ hown (hw 123 rfl) e3 F1_1 (D 8 rfl) (fun T4 X4 e4 => ?_)
 have Q6 := (P0_.keep K1q (own_nc hxa List.not_mem_nil) (own_nc hta List.not_mem_nil))
 have Q7 := (SS.keep K1q (allS (fun cl hc => P5_.nostat cl hc) all0))
 have Q8 := ((own_Str.exa P0_).keep K1q)
 refine own_cV X4 hx hZ 0 hown (hw 171 rfl) (hw 172 rfl) (hw 174 rfl) (hw 173 rfl) (hw 175 rfl) (hw 12 rfl) (rm_gbU hw x b1b2 t cs k21 (Int32.ofNat (2 * 16)) zc fm h1 n0 Z2 Q6 F1_5 g_b1b2 hex (by omega) (by show 2 * _ ≤ 32; omega) Q7) e4 Q8 own_pd32 rfl (D 9 rfl) hml (fun _ T5 _ _ X5 l5 => own_hp ?_)
 rintro h5 e5 ⟨rfl, N5q, K5q, F5_0⟩
 have N5 := own_frl l5 N1 N5q
 have Z9 : n0 ≤ h5.size := Nat.le_trans Z2 K5q.1
 have K5 := Keep.trans K1 K5q (allS (Or.inr sz_b1b2) all0)
 show own_G _ _ _ _ (T5.setTop (mkF m 18 #[vr a1, vi 0, vr x] []))
 have Q10 := (F1_0.keep K5q (own_nc (Nat.ne_of_lt (Nat.lt_of_lt_of_le P5_.lt le_b1b2)) List.not_mem_nil))
 have Q11 := (F1_1.keep K5q (own_nc (Nat.ne_of_lt (Nat.lt_of_lt_of_le P5_.lt le_b1b2)) List.not_mem_nil))
 have Q12 := (F1_2.keep K5q (own_nc (Nat.ne_of_lt (Nat.lt_of_lt_of_le P5_.lt le_b1b2)) List.not_mem_nil))
 have Q13 := (F1_3.keep K5q (own_nc (Nat.ne_of_lt (Nat.lt_of_lt_of_le P5_.lt le_b1b2)) List.not_mem_nil))
 have Q14 := (F1_4.keep K5q)
 have Q15 := (F1_6.keep K5q)
 exact own_rV X5 hx Bd (D 10 rfl) e5 ⟨b1b2, k21, rfl, N5, K5, sz_b1b2, Q10, Q11, Q12, Q13, Q14, F5_0, Q15⟩
def Q_psV (Z : State) (a1 : Addr) (x : Addr) (t : Addr) (cs : List Int32) (b : Addr) (kB : ClassId) (us : List Value) (nu : Nat) (zc : Int32) (fm : Value) (h0 : Heap) (n0 : Nat) (v : Option Value) (h : Heap) (L : List Loc) : Prop := v = none ∧ Fr n0 L ∧ Keep h0 h [b] ∧ Arv Z h b kB .byte (Int32.ofNat (2 * 16)) (us ++ StrChars.Road.wideBytes cs) (.int 0)
theorem rm_psV (hw : own_H a0 Z) (a1 : Addr) (x : Addr) (t : Addr) (cs : List Int32) (b : Addr) (kB : ClassId) (us : List Value) (nu : Nat) (zc : Int32) (fm : Value) (h0 : Heap) (n0 : Nat) (Z0 : n0 ≤ h0.size) (P0_ : own_Str Z h0 x t cs) (P1_ : Fld Z h0 a1 "java/lang/AbstractStringBuilder" "value" "[B" (.ref b)) (P2_ : Fld Z h0 a1 "java/lang/AbstractStringBuilder" "coder" "B" (.int (1 : Int32))) (P3_ : Exa Z h0 a1 "java/lang/StringBuilder") (P4_ : Arv Z h0 b kB .byte (Int32.ofNat (2 * 16)) us (.int 0)) (g_b : n0 ≤ b) (hlo : ∀ c ∈ cs, ¬ (255 : Int32) < c) (hu : us.length = 2 * nu) (hfit : nu + cs.length ≤ 16) (SS : own_St Z h0 zc fm) : own_M l y33 j33 3 none (own_R 7 1 40 102) #[(.ref a1), (.int (Int32.ofNat nu)), (.ref x)] Z h0 (Q_psV Z a1 x t cs b kB us nu zc fm h0 n0) := by
 refine own_body (plainFor_of_name own_pn7) (fun p e s m below meth c s₁ Bd hZ hx hby hml hown hnm X0 e0 => ?_)
 have hown : s.vm.findClass "java/lang/AbstractStringBuilder" = some m.cls := hown
 have N0 := Fr.nil n0
 have D := own_dt hby d33
 refine own_cast (g' := mkF m 0 #[vr a1, vi (Int32.ofNat nu), vr x] []) rfl ?_
 show own_G _ _ _ _ (s₁.setTop (mkF m 0 #[vr a1, vi (Int32.ofNat nu), vr x] []))
 refine own_go (fun _ Kk => XS.aloadN X0.here hx rfl (D 0 rfl) rfl rfl (XS.aloadN X0.here hx rfl (D 1 rfl) rfl rfl Kk)) ?_
 refine own_cP X0 hx hZ 0 hown (hw 165 rfl) (hw 166 rfl) (own_selp (mvT hZ (hw 168 rfl)) (Cond.privateMethod_at (mvP hZ (hw 167 rfl) (args := #[]))) (mvT hZ (hw 166 rfl)) (by decide)) (hw 167 rfl) (hw 169 rfl) (hw 117 rfl) (rm_ifV hw a1 x t cs zc fm h0 n0 Z0 P0_ P2_ P3_ hlo SS) e0 P3_ own_pd31 rfl (D 2 rfl) hml ?_
 rintro _ T1 _ _ X1 l1 ⟨rfl, N1q, e1⟩
 have N1 := own_frl l1 N0 N1q
 refine own_go (fun _ Kk => XS.aloadN X1.here hx rfl (D 3 rfl) rfl rfl (XS.aloadN X1.here hx rfl (D 4 rfl) rfl rfl Kk)) ?_
 show own_G _ _ _ _ (T1.setTop (mkF m 7 #[vr a1, vi (Int32.ofNat nu), vr x] [.ref a1, .ref x]))
 refine own_gF X1 hx hZ hown (hw 121 rfl) e1 P1_ (D 5 rfl) (fun T2 X2 e2 => ?_)
 refine own_go (fun _ Kk => XS.iloadN X2.here hx rfl (D 6 rfl) rfl (XS.aloadN X2.here hx rfl (D 7 rfl) rfl rfl Kk)) ?_
 refine own_gF X2 hx hZ hown (hw 123 rfl) e2 P2_ (D 8 rfl) (fun T3 X3 e3 => ?_)
 refine own_cV X3 hx hZ 0 hown (hw 171 rfl) (hw 172 rfl) (hw 174 rfl) (hw 173 rfl) (hw 175 rfl) (hw 12 rfl) (rm_gbI hw x b t cs kB 16 us nu zc fm h0 n0 Z0 P0_ P4_ g_b hlo (by omega) hu (by omega) (by omega) (by omega) SS) e3 (own_Str.exa P0_) own_pd32 rfl (D 9 rfl) hml (fun _ T4 _ _ X4 l4 => own_hp ?_)
 rintro h4 e4 ⟨rfl, N4q, K4q, F4_0⟩
 have N4 := own_frl l4 N1 N4q
 have Z5 : n0 ≤ h4.size := Nat.le_trans Z0 K4q.1
 have K4 := Keep.trans (Keep.refl h0 [b]) K4q (allS (own_in 0 rfl) all0)
 show own_G _ _ _ _ (T4.setTop (mkF m 18 #[vr a1, vi (Int32.ofNat nu), vr x] []))
 exact own_rV X4 hx Bd (D 10 rfl) e4 ⟨rfl, N4, K4, F4_0⟩
theorem d31 : ∀ x ∈ ([(0, .aload_n 1, 1), (1, .ifnonnull 8, 3), (9, .aload_n 1, 1), (10, .invokevirtual 32, 3), (13, .istore_n 2, 1), (14, .aload_n 0, 1), (15, .aload_n 0, 1), (16, .getfield 79, 3), (19, .iload_n 2, 1), (20, .iadd, 1), (21, .invokevirtual 100, 3), (24, .aload_n 0, 1), (25, .aload_n 0, 1), (26, .getfield 79, 3), (29, .aload_n 1, 1), (30, .invokevirtual 208, 3), (33, .aload_n 0, 1), (34, .dup, 1), (35, .getfield 79, 3), (38, .iload_n 2, 1), (39, .iadd, 1), (40, .putfield 79, 3), (43, .aload_n 0, 1), (44, .areturn, 1)] : List (Nat × Instr × Nat)), decode j31 x.1 = .ok x.2 := by decide +kernel
theorem own_pd33 : parseMethodDescriptor "(ILjava/lang/String;)V" = some ⟨[.int, (.object "java/lang/String")], none⟩ := by decide +kernel
def Q_apL (Z : State) (a1 : Addr) (x : Addr) (t : Addr) (cs : List Int32) (b : Addr) (kB : ClassId) (us : List Value) (nu : Nat) (zc : Int32) (fm : Value) (h0 : Heap) (n0 : Nat) (v : Option Value) (h : Heap) (L : List Loc) : Prop := v = some (.ref a1) ∧ Fr n0 L ∧ Keep h0 h [a1, b] ∧ Fld Z h a1 "java/lang/AbstractStringBuilder" "value" "[B" (.ref b) ∧ Fld Z h a1 "java/lang/AbstractStringBuilder" "coder" "B" (.int (0 : Int32)) ∧ Fld Z h a1 "java/lang/AbstractStringBuilder" "count" "I" (.int (Int32.ofNat (nu + cs.length))) ∧ Fld Z h a1 "java/lang/AbstractStringBuilder" "maybeLatin1" "Z" (.int (0 : Int32)) ∧ Exa Z h a1 "java/lang/StringBuilder" ∧ Arv Z h b kB .byte (16 : Int32) (us ++ (cs.map fun c => Value.int (StrChars.lo8 c))) (.int 0)
theorem rm_apL (hw : own_H a0 Z) (a1 : Addr) (x : Addr) (t : Addr) (cs : List Int32) (b : Addr) (kB : ClassId) (us : List Value) (nu : Nat) (zc : Int32) (fm : Value) (h0 : Heap) (n0 : Nat) (Z0 : n0 ≤ h0.size) (P0_ : own_Str Z h0 x t cs) (P1_ : Fld Z h0 a1 "java/lang/AbstractStringBuilder" "value" "[B" (.ref b)) (P2_ : Fld Z h0 a1 "java/lang/AbstractStringBuilder" "coder" "B" (.int (0 : Int32))) (P3_ : Fld Z h0 a1 "java/lang/AbstractStringBuilder" "count" "I" (.int (Int32.ofNat nu))) (P4_ : Fld Z h0 a1 "java/lang/AbstractStringBuilder" "maybeLatin1" "Z" (.int (0 : Int32))) (P5_ : Exa Z h0 a1 "java/lang/StringBuilder") (P6_ : Arv Z h0 b kB .byte (16 : Int32) us (.int 0)) (g_a1 : n0 ≤ a1) (g_b : n0 ≤ b) (hlo : ∀ c ∈ cs, ¬ (255 : Int32) < c) (hu : us.length = nu) (hfit : nu + cs.length ≤ 16) (hba : b ≠ a1) (SS : own_St Z h0 zc fm) : own_M l y31 j31 3 (some (.object "java/lang/AbstractStringBuilder")) (own_R 8 1 40 116) #[(.ref a1), (.ref x)] Z h0 (Q_apL Z a1 x t cs b kB us nu zc fm h0 n0) := by
 refine own_body (plainFor_of_name own_pn7) (fun p e s m below meth c s₁ Bd hZ hx hby hml hown hnm X0 e0 => ?_)
 have hown : s.vm.findClass "java/lang/AbstractStringBuilder" = some m.cls := hown
 have N0 := Fr.nil n0
 have D := own_dt hby d31
 refine own_cast (g' := mkF m 0 #[vr a1, vr x, vu] []) rfl ?_
 show own_G _ _ _ _ (s₁.setTop (mkF m 0 #[vr a1, vr x, vu] []))
 refine own_go (fun _ Kk => XS.aloadN X0.here hx rfl (D 0 rfl) rfl rfl (XS.ifnonnullYes X0.here hx rfl (pc0 := 1) (pc' := 9) rfl (D 1 rfl) rfl (by decide) (by decide) (XS.aloadN X0.here hx rfl (D 2 rfl) rfl rfl Kk))) ?_
 refine own_cV X0 hx hZ 0 hown (hw 152 rfl) (hw 52 rfl) (hw 54 rfl) (hw 53 rfl) (hw 55 rfl) (hw 12 rfl) (rm_len hw x t cs zc fm h0 n0 Z0 P0_ SS) e0 (own_Str.exa P0_) own_pd10 rfl (D 3 rfl) hml ?_
 rintro _ T1 _ _ X1 l1 ⟨rfl, N1q, e1⟩
 have N1 := own_frl l1 N0 N1q
 refine own_go (fun _ Kk => XS.istoreN X1.here hx rfl (D 4 rfl) rfl (l' := #[vr a1, vr x, vi (Int32.ofNat cs.length)]) rfl Kk) ?_
 show own_G _ _ _ _ (T1.setTop (mkF m 14 #[vr a1, vr x, vi (Int32.ofNat cs.length)] []))
 refine own_go (fun _ Kk => XS.aloadN X1.here hx rfl (D 5 rfl) rfl rfl (XS.aloadN X1.here hx rfl (D 6 rfl) rfl rfl Kk)) ?_
 refine own_gF X1 hx hZ hown (hw 153 rfl) e1 P3_ (D 7 rfl) (fun T2 X2 e2 => ?_)
 refine own_go (fun _ Kk => XS.iloadN X2.here hx rfl (D 8 rfl) rfl (XS.iadd X2.here hx rfl (D 9 rfl) rfl Kk)) ?_
 show own_G _ _ _ _ (T2.setTop (mkF m 21 #[vr a1, vr x, vi (Int32.ofNat cs.length)] [.int ((Int32.ofNat nu) + (Int32.ofNat cs.length)), .ref a1]))
 rw [show ((Int32.ofNat nu) + (Int32.ofNat cs.length)) = (Int32.ofNat (nu + cs.length)) from own_addn nu cs.length (by omega) (by omega)]
 refine own_cP X2 hx hZ 0 hown (hw 155 rfl) (hw 156 rfl) (own_selp (mvT hZ (hw 158 rfl)) (Cond.privateMethod_at (mvP hZ (hw 157 rfl) (args := #[]))) (mvT hZ (hw 156 rfl)) (by decide)) (hw 157 rfl) (hw 159 rfl) (hw 117 rfl) (rm_ens hw a1 b (0 : Int32) kB (16 : Int32) us (nu + cs.length) h0 n0 Z0 P1_ P2_ P6_ (by decide) (by omega)) e2 P5_ own_pd28 rfl (D 10 rfl) hml ?_
 rintro _ T3 _ _ X3 l3 ⟨rfl, N3q, e3⟩
 have N3 := own_frl l3 N1 N3q
 refine own_go (fun _ Kk => XS.aloadN X3.here hx rfl (D 11 rfl) rfl rfl (XS.aloadN X3.here hx rfl (D 12 rfl) rfl rfl Kk)) ?_
 refine own_gF X3 hx hZ hown (hw 153 rfl) e3 P3_ (D 13 rfl) (fun T4 X4 e4 => ?_)
 show own_G _ _ _ _ (T4.setTop (mkF m 29 #[vr a1, vr x, vi (Int32.ofNat cs.length)] [.int (Int32.ofNat nu), .ref a1]))
 refine own_go (fun _ Kk => XS.aloadN X4.here hx rfl (D 14 rfl) rfl rfl Kk) ?_
 refine own_cP X4 hx hZ 0 hown (hw 160 rfl) (hw 161 rfl) (own_selp (mvT hZ (hw 163 rfl)) (Cond.privateMethod_at (mvP hZ (hw 162 rfl) (args := #[]))) (mvT hZ (hw 161 rfl)) (by decide)) (hw 162 rfl) (hw 164 rfl) (hw 117 rfl) (rm_psL hw a1 x t cs b kB (16 : Int32) us nu zc fm h0 n0 Z0 P0_ P1_ P2_ P5_ P6_ g_b hlo (by omega) (by omega) hu (by show _ ≤ 16; omega) SS) e4 P5_ own_pd33 rfl (D 15 rfl) hml (fun _ T5 _ _ X5 l5 => own_hp ?_)
 rintro h5 e5 ⟨rfl, N5q, K5q, F5_0⟩
 have N5 := own_frl l5 N3 N5q
 have Z6 : n0 ≤ h5.size := Nat.le_trans Z0 K5q.1
 have K5 := Keep.trans (Keep.refl h0 [a1, b]) K5q (allS (own_in 1 rfl) all0)
 refine own_go (fun _ Kk => XS.aloadN X5.here hx rfl (D 16 rfl) rfl rfl (XS.dup X5.here hx rfl (D 17 rfl) rfl rfl Kk)) ?_
 have Q7 := (P3_.keep K5q (own_nc (Ne.symm hba) List.not_mem_nil))
 refine own_gF X5 hx hZ hown (hw 153 rfl) e5 Q7 (D 18 rfl) (fun T8 X8 e8 => ?_)
 show own_G _ _ _ _ (T8.setTop (mkF m 38 #[vr a1, vr x, vi (Int32.ofNat cs.length)] [.int (Int32.ofNat nu), .ref a1]))
 refine own_go (fun _ Kk => XS.iloadN X8.here hx rfl (D 19 rfl) rfl (XS.iadd X8.here hx rfl (D 20 rfl) rfl Kk)) ?_
 show own_G _ _ _ _ (T8.setTop (mkF m 40 #[vr a1, vr x, vi (Int32.ofNat cs.length)] [.int ((Int32.ofNat nu) + (Int32.ofNat cs.length)), .ref a1]))
 rw [show ((Int32.ofNat nu) + (Int32.ofNat cs.length)) = (Int32.ofNat (nu + cs.length)) from own_addn nu cs.length (by omega) (by omega)]
 have Q9 := (P5_.keep K5q)
 obtain ⟨T10, h10, X10, e10, W10, st10⟩ := putF X8 hx hZ hown (host := "") (Or.inl (hw 153 rfl)) Via.refl e8 Q7 Q9 (Or.inl (hw 154 rfl)) (hw 108 rfl) (ty := .int) (by decide) rfl rfl (g := (mkF m 40 #[vr a1, vr x, vi (Int32.ofNat cs.length)] [.int (Int32.ofNat (nu + cs.length)), .ref a1])) rfl rfl (D 21 rfl)
 refine own_go st10 ?_
 have F10 := Q7.same W10
 have N10 := Fr.snoc X10 N5 g_a1
 have Z11 : n0 ≤ h10.size := Nat.le_trans Z6 (Keep.of_wr W10).1
 have K12 := Keep.wr K5 W10 (own_in 0 rfl)
 refine own_go (fun _ Kk => XS.aloadN X10.here hx rfl (D 22 rfl) rfl rfl Kk) ?_
 have Q13 := ((P1_.keep K5q (own_nc (Ne.symm hba) List.not_mem_nil)).other W10 (Or.inr (slot_ne (Or.inl (hw 122 rfl)) (Or.inl (hw 154 rfl)) (by decide) (t := (.array .byte)) (t' := .int) (by decide) (by decide))))
 have Q14 := ((P2_.keep K5q (own_nc (Ne.symm hba) List.not_mem_nil)).other W10 (Or.inr (slot_ne (Or.inl (hw 124 rfl)) (Or.inl (hw 154 rfl)) (by decide) (t := .byte) (t' := .int) (by decide) (by decide))))
 have Q15 := ((P4_.keep K5q (own_nc (Ne.symm hba) List.not_mem_nil)).other W10 (Or.inr (slot_ne (Or.inl (hw 308 rfl)) (Or.inl (hw 154 rfl)) (by decide) (t := .boolean) (t' := .int) (by decide) (by decide))))
 have Q16 := (Q9.wr W10)
 have Q17 := (F5_0.other W10 hba)
 exact own_rR X10 hx Bd (D 23 rfl) e10 ⟨rfl, N10, K12, Q13, Q14, F10, Q15, Q16, Q17⟩
def Q_apU (Z : State) (a1 : Addr) (x : Addr) (t : Addr) (cs : List Int32) (b : Addr) (kB : ClassId) (zc : Int32) (fm : Value) (h0 : Heap) (n0 : Nat) (v : Option Value) (h : Heap) (L : List Loc) : Prop := ∃ (b2 : Addr) (k2 : ClassId), v = some (.ref a1) ∧ Fr n0 L ∧ Keep h0 h [a1] ∧ h0.size ≤ b2 ∧ Fld Z h a1 "java/lang/AbstractStringBuilder" "value" "[B" (.ref b2) ∧ Fld Z h a1 "java/lang/AbstractStringBuilder" "coder" "B" (.int (1 : Int32)) ∧ Fld Z h a1 "java/lang/AbstractStringBuilder" "count" "I" (.int (Int32.ofNat cs.length)) ∧ Fld Z h a1 "java/lang/AbstractStringBuilder" "maybeLatin1" "Z" (.int (0 : Int32)) ∧ Exa Z h a1 "java/lang/StringBuilder" ∧ Arv Z h b2 k2 .byte (Int32.ofNat (2 * 16)) (StrChars.Road.wideBytes cs) (.int 0) ∧ Exa Z h b2 "[B"
theorem rm_apU (hw : own_H a0 Z) (a1 : Addr) (x : Addr) (t : Addr) (cs : List Int32) (b : Addr) (kB : ClassId) (zc : Int32) (fm : Value) (h0 : Heap) (n0 : Nat) (Z0 : n0 ≤ h0.size) (P0_ : own_Str Z h0 x t cs) (P1_ : Fld Z h0 a1 "java/lang/AbstractStringBuilder" "value" "[B" (.ref b)) (P2_ : Fld Z h0 a1 "java/lang/AbstractStringBuilder" "coder" "B" (.int (0 : Int32))) (P3_ : Fld Z h0 a1 "java/lang/AbstractStringBuilder" "count" "I" (.int (0 : Int32))) (P4_ : Fld Z h0 a1 "java/lang/AbstractStringBuilder" "maybeLatin1" "Z" (.int (0 : Int32))) (P5_ : Exa Z h0 a1 "java/lang/StringBuilder") (P6_ : Arv Z h0 b kB .byte (16 : Int32) [] (.int 0)) (g_a1 : n0 ≤ a1) (hex : ∃ c ∈ cs, (255 : Int32) < c) (hc16 : cs.length ≤ 16) (hba : b ≠ a1) (hxa : x ≠ a1) (hta : t ≠ a1) (SS : own_St Z h0 zc fm) : own_M l y31 j31 3 (some (.object "java/lang/AbstractStringBuilder")) (own_R 8 1 40 116) #[(.ref a1), (.ref x)] Z h0 (Q_apU Z a1 x t cs b kB zc fm h0 n0) := by
 refine own_body (plainFor_of_name own_pn7) (fun p e s m below meth c s₁ Bd hZ hx hby hml hown hnm X0 e0 => ?_)
 have hown : s.vm.findClass "java/lang/AbstractStringBuilder" = some m.cls := hown
 have N0 := Fr.nil n0
 have D := own_dt hby d31
 refine own_cast (g' := mkF m 0 #[vr a1, vr x, vu] []) rfl ?_
 show own_G _ _ _ _ (s₁.setTop (mkF m 0 #[vr a1, vr x, vu] []))
 refine own_go (fun _ Kk => XS.aloadN X0.here hx rfl (D 0 rfl) rfl rfl (XS.ifnonnullYes X0.here hx rfl (pc0 := 1) (pc' := 9) rfl (D 1 rfl) rfl (by decide) (by decide) (XS.aloadN X0.here hx rfl (D 2 rfl) rfl rfl Kk))) ?_
 refine own_cV X0 hx hZ 0 hown (hw 152 rfl) (hw 52 rfl) (hw 54 rfl) (hw 53 rfl) (hw 55 rfl) (hw 12 rfl) (rm_len hw x t cs zc fm h0 n0 Z0 P0_ SS) e0 (own_Str.exa P0_) own_pd10 rfl (D 3 rfl) hml ?_
 rintro _ T1 _ _ X1 l1 ⟨rfl, N1q, e1⟩
 have N1 := own_frl l1 N0 N1q
 refine own_go (fun _ Kk => XS.istoreN X1.here hx rfl (D 4 rfl) rfl (l' := #[vr a1, vr x, vi (Int32.ofNat cs.length)]) rfl Kk) ?_
 show own_G _ _ _ _ (T1.setTop (mkF m 14 #[vr a1, vr x, vi (Int32.ofNat cs.length)] []))
 refine own_go (fun _ Kk => XS.aloadN X1.here hx rfl (D 5 rfl) rfl rfl (XS.aloadN X1.here hx rfl (D 6 rfl) rfl rfl Kk)) ?_
 refine own_gF X1 hx hZ hown (hw 153 rfl) e1 P3_ (D 7 rfl) (fun T2 X2 e2 => ?_)
 refine own_go (fun _ Kk => XS.iloadN X2.here hx rfl (D 8 rfl) rfl (XS.iadd X2.here hx rfl (D 9 rfl) rfl Kk)) ?_
 show own_G _ _ _ _ (T2.setTop (mkF m 21 #[vr a1, vr x, vi (Int32.ofNat cs.length)] [.int ((0 : Int32) + (Int32.ofNat cs.length)), .ref a1]))
 rw [show ((0 : Int32) + (Int32.ofNat cs.length)) = (Int32.ofNat cs.length) from own_addz _]
 refine own_cP X2 hx hZ 0 hown (hw 155 rfl) (hw 156 rfl) (own_selp (mvT hZ (hw 158 rfl)) (Cond.privateMethod_at (mvP hZ (hw 157 rfl) (args := #[]))) (mvT hZ (hw 156 rfl)) (by decide)) (hw 157 rfl) (hw 159 rfl) (hw 117 rfl) (rm_ens hw a1 b (0 : Int32) kB (16 : Int32) [] cs.length h0 n0 Z0 P1_ P2_ P6_ (by decide) (by omega)) e2 P5_ own_pd28 rfl (D 10 rfl) hml ?_
 rintro _ T3 _ _ X3 l3 ⟨rfl, N3q, e3⟩
 have N3 := own_frl l3 N1 N3q
 refine own_go (fun _ Kk => XS.aloadN X3.here hx rfl (D 11 rfl) rfl rfl (XS.aloadN X3.here hx rfl (D 12 rfl) rfl rfl Kk)) ?_
 refine own_gF X3 hx hZ hown (hw 153 rfl) e3 P3_ (D 13 rfl) (fun T4 X4 e4 => ?_)
 show own_G _ _ _ _ (T4.setTop (mkF m 29 #[vr a1, vr x, vi (Int32.ofNat cs.length)] [.int 0, .ref a1]))
 refine own_go (fun _ Kk => XS.aloadN X4.here hx rfl (D 14 rfl) rfl rfl Kk) ?_
 refine own_cP X4 hx hZ 0 hown (hw 160 rfl) (hw 161 rfl) (own_selp (mvT hZ (hw 163 rfl)) (Cond.privateMethod_at (mvP hZ (hw 162 rfl) (args := #[]))) (mvT hZ (hw 161 rfl)) (by decide)) (hw 162 rfl) (hw 164 rfl) (hw 117 rfl) (rm_psU hw a1 x t cs b kB zc fm h0 n0 Z0 P0_ P1_ P2_ P3_ P4_ P5_ P6_ g_a1 hex (by omega) hba hxa hta SS) e4 P5_ own_pd33 rfl (D 15 rfl) hml (fun _ T5 _ _ X5 l5 => own_hp ?_)
 rintro h5 e5 ⟨b5b2, k25, rfl, N5q, K5q, le_b5b2, F5_0, F5_1, F5_2, F5_3, F5_4, F5_5, F5_6⟩
 have N5 := own_frl l5 N3 N5q
 have Z6 : n0 ≤ h5.size := Nat.le_trans Z0 K5q.1
 have g_b5b2 : n0 ≤ b5b2 := Nat.le_trans Z0 le_b5b2
 have sz_b5b2 : h0.size ≤ b5b2 := Nat.le_trans (Keep.refl h0 [a1]).1 le_b5b2
 have K5 := Keep.trans (Keep.refl h0 [a1]) K5q (allS (own_in 0 rfl) all0)
 refine own_go (fun _ Kk => XS.aloadN X5.here hx rfl (D 16 rfl) rfl rfl (XS.dup X5.here hx rfl (D 17 rfl) rfl rfl Kk)) ?_
 refine own_gF X5 hx hZ hown (hw 153 rfl) e5 F5_2 (D 18 rfl) (fun T7 X7 e7 => ?_)
 show own_G _ _ _ _ (T7.setTop (mkF m 38 #[vr a1, vr x, vi (Int32.ofNat cs.length)] [.int 0, .ref a1]))
 refine own_go (fun _ Kk => XS.iloadN X7.here hx rfl (D 19 rfl) rfl (XS.iadd X7.here hx rfl (D 20 rfl) rfl Kk)) ?_
 show own_G _ _ _ _ (T7.setTop (mkF m 40 #[vr a1, vr x, vi (Int32.ofNat cs.length)] [.int ((0 : Int32) + (Int32.ofNat cs.length)), .ref a1]))
 rw [show ((0 : Int32) + (Int32.ofNat cs.length)) = (Int32.ofNat cs.length) from own_addz _]
 obtain ⟨T8, h8, X8, e8, W8, st8⟩ := putF X7 hx hZ hown (host := "") (Or.inl (hw 153 rfl)) Via.refl e7 F5_2 F5_4 (Or.inl (hw 154 rfl)) (hw 108 rfl) (ty := .int) (by decide) rfl rfl (g := (mkF m 40 #[vr a1, vr x, vi (Int32.ofNat cs.length)] [.int (Int32.ofNat cs.length), .ref a1])) rfl rfl (D 21 rfl)
 refine own_go st8 ?_
 have F8 := F5_2.same W8
 have N8 := Fr.snoc X8 N5 g_a1
 have Z9 : n0 ≤ h8.size := Nat.le_trans Z6 (Keep.of_wr W8).1
 have K10 := Keep.wr K5 W8 (own_in 0 rfl)
 refine own_go (fun _ Kk => XS.aloadN X8.here hx rfl (D 22 rfl) rfl rfl Kk) ?_
 have Q11 := (F5_0.other W8 (Or.inr (slot_ne (Or.inl (hw 122 rfl)) (Or.inl (hw 154 rfl)) (by decide) (t := (.array .byte)) (t' := .int) (by decide) (by decide))))
 have Q12 := (F5_1.other W8 (Or.inr (slot_ne (Or.inl (hw 124 rfl)) (Or.inl (hw 154 rfl)) (by decide) (t := .byte) (t' := .int) (by decide) (by decide))))
 have Q13 := (F5_3.other W8 (Or.inr (slot_ne (Or.inl (hw 308 rfl)) (Or.inl (hw 154 rfl)) (by decide) (t := .boolean) (t' := .int) (by decide) (by decide))))
 have Q14 := (F5_4.wr W8)
 have Q15 := (F5_5.other W8 (Ne.symm (Nat.ne_of_lt (Nat.lt_of_lt_of_le P5_.lt le_b5b2))))
 have Q16 := (F5_6.wr W8)
 exact own_rR X8 hx Bd (D 23 rfl) e8 ⟨b5b2, k25, rfl, N8, K10, sz_b5b2, Q11, Q12, F8, Q13, Q14, Q15, Q16⟩
def Q_apV (Z : State) (a1 : Addr) (x : Addr) (t : Addr) (cs : List Int32) (b : Addr) (kB : ClassId) (us : List Value) (nu : Nat) (zc : Int32) (fm : Value) (h0 : Heap) (n0 : Nat) (v : Option Value) (h : Heap) (L : List Loc) : Prop := v = some (.ref a1) ∧ Fr n0 L ∧ Keep h0 h [a1, b] ∧ Fld Z h a1 "java/lang/AbstractStringBuilder" "value" "[B" (.ref b) ∧ Fld Z h a1 "java/lang/AbstractStringBuilder" "coder" "B" (.int (1 : Int32)) ∧ Fld Z h a1 "java/lang/AbstractStringBuilder" "count" "I" (.int (Int32.ofNat (nu + cs.length))) ∧ Fld Z h a1 "java/lang/AbstractStringBuilder" "maybeLatin1" "Z" (.int (0 : Int32)) ∧ Exa Z h a1 "java/lang/StringBuilder" ∧ Arv Z h b kB .byte (Int32.ofNat (2 * 16)) (us ++ StrChars.Road.wideBytes cs) (.int 0)
theorem rm_apV (hw : own_H a0 Z) (a1 : Addr) (x : Addr) (t : Addr) (cs : List Int32) (b : Addr) (kB : ClassId) (us : List Value) (nu : Nat) (zc : Int32) (fm : Value) (h0 : Heap) (n0 : Nat) (Z0 : n0 ≤ h0.size) (P0_ : own_Str Z h0 x t cs) (P1_ : Fld Z h0 a1 "java/lang/AbstractStringBuilder" "value" "[B" (.ref b)) (P2_ : Fld Z h0 a1 "java/lang/AbstractStringBuilder" "coder" "B" (.int (1 : Int32))) (P3_ : Fld Z h0 a1 "java/lang/AbstractStringBuilder" "count" "I" (.int (Int32.ofNat nu))) (P4_ : Fld Z h0 a1 "java/lang/AbstractStringBuilder" "maybeLatin1" "Z" (.int (0 : Int32))) (P5_ : Exa Z h0 a1 "java/lang/StringBuilder") (P6_ : Arv Z h0 b kB .byte (Int32.ofNat (2 * 16)) us (.int 0)) (g_a1 : n0 ≤ a1) (g_b : n0 ≤ b) (hlo : ∀ c ∈ cs, ¬ (255 : Int32) < c) (hu : us.length = 2 * nu) (hfit : nu + cs.length ≤ 16) (hba : b ≠ a1) (SS : own_St Z h0 zc fm) : own_M l y31 j31 3 (some (.object "java/lang/AbstractStringBuilder")) (own_R 8 1 40 116) #[(.ref a1), (.ref x)] Z h0 (Q_apV Z a1 x t cs b kB us nu zc fm h0 n0) := by
 refine own_body (plainFor_of_name own_pn7) (fun p e s m below meth c s₁ Bd hZ hx hby hml hown hnm X0 e0 => ?_)
 have hown : s.vm.findClass "java/lang/AbstractStringBuilder" = some m.cls := hown
 have N0 := Fr.nil n0
 have D := own_dt hby d31
 refine own_cast (g' := mkF m 0 #[vr a1, vr x, vu] []) rfl ?_
 show own_G _ _ _ _ (s₁.setTop (mkF m 0 #[vr a1, vr x, vu] []))
 refine own_go (fun _ Kk => XS.aloadN X0.here hx rfl (D 0 rfl) rfl rfl (XS.ifnonnullYes X0.here hx rfl (pc0 := 1) (pc' := 9) rfl (D 1 rfl) rfl (by decide) (by decide) (XS.aloadN X0.here hx rfl (D 2 rfl) rfl rfl Kk))) ?_
 refine own_cV X0 hx hZ 0 hown (hw 152 rfl) (hw 52 rfl) (hw 54 rfl) (hw 53 rfl) (hw 55 rfl) (hw 12 rfl) (rm_len hw x t cs zc fm h0 n0 Z0 P0_ SS) e0 (own_Str.exa P0_) own_pd10 rfl (D 3 rfl) hml ?_
 rintro _ T1 _ _ X1 l1 ⟨rfl, N1q, e1⟩
 have N1 := own_frl l1 N0 N1q
 refine own_go (fun _ Kk => XS.istoreN X1.here hx rfl (D 4 rfl) rfl (l' := #[vr a1, vr x, vi (Int32.ofNat cs.length)]) rfl Kk) ?_
 show own_G _ _ _ _ (T1.setTop (mkF m 14 #[vr a1, vr x, vi (Int32.ofNat cs.length)] []))
 refine own_go (fun _ Kk => XS.aloadN X1.here hx rfl (D 5 rfl) rfl rfl (XS.aloadN X1.here hx rfl (D 6 rfl) rfl rfl Kk)) ?_
 refine own_gF X1 hx hZ hown (hw 153 rfl) e1 P3_ (D 7 rfl) (fun T2 X2 e2 => ?_)
 refine own_go (fun _ Kk => XS.iloadN X2.here hx rfl (D 8 rfl) rfl (XS.iadd X2.here hx rfl (D 9 rfl) rfl Kk)) ?_
 show own_G _ _ _ _ (T2.setTop (mkF m 21 #[vr a1, vr x, vi (Int32.ofNat cs.length)] [.int ((Int32.ofNat nu) + (Int32.ofNat cs.length)), .ref a1]))
 rw [show ((Int32.ofNat nu) + (Int32.ofNat cs.length)) = (Int32.ofNat (nu + cs.length)) from own_addn nu cs.length (by omega) (by omega)]
 refine own_cP X2 hx hZ 0 hown (hw 155 rfl) (hw 156 rfl) (own_selp (mvT hZ (hw 158 rfl)) (Cond.privateMethod_at (mvP hZ (hw 157 rfl) (args := #[]))) (mvT hZ (hw 156 rfl)) (by decide)) (hw 157 rfl) (hw 159 rfl) (hw 117 rfl) (rm_ens hw a1 b (1 : Int32) kB (Int32.ofNat (2 * 16)) us (nu + cs.length) h0 n0 Z0 P1_ P2_ P6_ (by decide) (by omega)) e2 P5_ own_pd28 rfl (D 10 rfl) hml ?_
 rintro _ T3 _ _ X3 l3 ⟨rfl, N3q, e3⟩
 have N3 := own_frl l3 N1 N3q
 refine own_go (fun _ Kk => XS.aloadN X3.here hx rfl (D 11 rfl) rfl rfl (XS.aloadN X3.here hx rfl (D 12 rfl) rfl rfl Kk)) ?_
 refine own_gF X3 hx hZ hown (hw 153 rfl) e3 P3_ (D 13 rfl) (fun T4 X4 e4 => ?_)
 show own_G _ _ _ _ (T4.setTop (mkF m 29 #[vr a1, vr x, vi (Int32.ofNat cs.length)] [.int (Int32.ofNat nu), .ref a1]))
 refine own_go (fun _ Kk => XS.aloadN X4.here hx rfl (D 14 rfl) rfl rfl Kk) ?_
 refine own_cP X4 hx hZ 0 hown (hw 160 rfl) (hw 161 rfl) (own_selp (mvT hZ (hw 163 rfl)) (Cond.privateMethod_at (mvP hZ (hw 162 rfl) (args := #[]))) (mvT hZ (hw 161 rfl)) (by decide)) (hw 162 rfl) (hw 164 rfl) (hw 117 rfl) (rm_psV hw a1 x t cs b kB us nu zc fm h0 n0 Z0 P0_ P1_ P2_ P5_ P6_ g_b hlo hu (by omega) SS) e4 P5_ own_pd33 rfl (D 15 rfl) hml (fun _ T5 _ _ X5 l5 => own_hp ?_)
 rintro h5 e5 ⟨rfl, N5q, K5q, F5_0⟩
 have N5 := own_frl l5 N3 N5q
 have Z6 : n0 ≤ h5.size := Nat.le_trans Z0 K5q.1
 have K5 := Keep.trans (Keep.refl h0 [a1, b]) K5q (allS (own_in 1 rfl) all0)
 refine own_go (fun _ Kk => XS.aloadN X5.here hx rfl (D 16 rfl) rfl rfl (XS.dup X5.here hx rfl (D 17 rfl) rfl rfl Kk)) ?_
 have Q7 := (P3_.keep K5q (own_nc (Ne.symm hba) List.not_mem_nil))
 refine own_gF X5 hx hZ hown (hw 153 rfl) e5 Q7 (D 18 rfl) (fun T8 X8 e8 => ?_)
 show own_G _ _ _ _ (T8.setTop (mkF m 38 #[vr a1, vr x, vi (Int32.ofNat cs.length)] [.int (Int32.ofNat nu), .ref a1]))
 refine own_go (fun _ Kk => XS.iloadN X8.here hx rfl (D 19 rfl) rfl (XS.iadd X8.here hx rfl (D 20 rfl) rfl Kk)) ?_
 show own_G _ _ _ _ (T8.setTop (mkF m 40 #[vr a1, vr x, vi (Int32.ofNat cs.length)] [.int ((Int32.ofNat nu) + (Int32.ofNat cs.length)), .ref a1]))
 rw [show ((Int32.ofNat nu) + (Int32.ofNat cs.length)) = (Int32.ofNat (nu + cs.length)) from own_addn nu cs.length (by omega) (by omega)]
 have Q9 := (P5_.keep K5q)
 obtain ⟨T10, h10, X10, e10, W10, st10⟩ := putF X8 hx hZ hown (host := "") (Or.inl (hw 153 rfl)) Via.refl e8 Q7 Q9 (Or.inl (hw 154 rfl)) (hw 108 rfl) (ty := .int) (by decide) rfl rfl (g := (mkF m 40 #[vr a1, vr x, vi (Int32.ofNat cs.length)] [.int (Int32.ofNat (nu + cs.length)), .ref a1])) rfl rfl (D 21 rfl)
 refine own_go st10 ?_
 have F10 := Q7.same W10
 have N10 := Fr.snoc X10 N5 g_a1
 have Z11 : n0 ≤ h10.size := Nat.le_trans Z6 (Keep.of_wr W10).1
 have K12 := Keep.wr K5 W10 (own_in 0 rfl)
 refine own_go (fun _ Kk => XS.aloadN X10.here hx rfl (D 22 rfl) rfl rfl Kk) ?_
 have Q13 := ((P1_.keep K5q (own_nc (Ne.symm hba) List.not_mem_nil)).other W10 (Or.inr (slot_ne (Or.inl (hw 122 rfl)) (Or.inl (hw 154 rfl)) (by decide) (t := (.array .byte)) (t' := .int) (by decide) (by decide))))
 have Q14 := ((P2_.keep K5q (own_nc (Ne.symm hba) List.not_mem_nil)).other W10 (Or.inr (slot_ne (Or.inl (hw 124 rfl)) (Or.inl (hw 154 rfl)) (by decide) (t := .byte) (t' := .int) (by decide) (by decide))))
 have Q15 := ((P4_.keep K5q (own_nc (Ne.symm hba) List.not_mem_nil)).other W10 (Or.inr (slot_ne (Or.inl (hw 308 rfl)) (Or.inl (hw 154 rfl)) (by decide) (t := .boolean) (t' := .int) (by decide) (by decide))))
 have Q16 := (Q9.wr W10)
 have Q17 := (F5_0.other W10 hba)
 exact own_rR X10 hx Bd (D 23 rfl) e10 ⟨rfl, N10, K12, Q13, Q14, F10, Q15, Q16, Q17⟩
theorem d30 : ∀ x ∈ ([(0, .aload_n 0, 1), (1, .aload_n 1, 1), (2, .invokespecial 29, 3), (5, .pop, 1), (6, .aload_n 0, 1), (7, .areturn, 1)] : List (Nat × Instr × Nat)), decode j30 x.1 = .ok x.2 := by decide +kernel
theorem own_pd34 : parseMethodDescriptor "(Ljava/lang/String;)Ljava/lang/AbstractStringBuilder;" = some ⟨[(.object "java/lang/String")], some (.object "java/lang/AbstractStringBuilder")⟩ := by decide +kernel
def Q_sbL (Z : State) (a1 : Addr) (x : Addr) (t : Addr) (cs : List Int32) (b : Addr) (kB : ClassId) (us : List Value) (nu : Nat) (zc : Int32) (fm : Value) (h0 : Heap) (n0 : Nat) (v : Option Value) (h : Heap) (L : List Loc) : Prop := v = some (.ref a1) ∧ Fr n0 L ∧ Keep h0 h [a1, b] ∧ Fld Z h a1 "java/lang/AbstractStringBuilder" "value" "[B" (.ref b) ∧ Fld Z h a1 "java/lang/AbstractStringBuilder" "coder" "B" (.int (0 : Int32)) ∧ Fld Z h a1 "java/lang/AbstractStringBuilder" "count" "I" (.int (Int32.ofNat (nu + cs.length))) ∧ Fld Z h a1 "java/lang/AbstractStringBuilder" "maybeLatin1" "Z" (.int (0 : Int32)) ∧ Exa Z h a1 "java/lang/StringBuilder" ∧ Arv Z h b kB .byte (16 : Int32) (us ++ (cs.map fun c => Value.int (StrChars.lo8 c))) (.int 0)
theorem rm_sbL (hw : own_H a0 Z) (a1 : Addr) (x : Addr) (t : Addr) (cs : List Int32) (b : Addr) (kB : ClassId) (us : List Value) (nu : Nat) (zc : Int32) (fm : Value) (h0 : Heap) (n0 : Nat) (Z0 : n0 ≤ h0.size) (P0_ : own_Str Z h0 x t cs) (P1_ : Fld Z h0 a1 "java/lang/AbstractStringBuilder" "value" "[B" (.ref b)) (P2_ : Fld Z h0 a1 "java/lang/AbstractStringBuilder" "coder" "B" (.int (0 : Int32))) (P3_ : Fld Z h0 a1 "java/lang/AbstractStringBuilder" "count" "I" (.int (Int32.ofNat nu))) (P4_ : Fld Z h0 a1 "java/lang/AbstractStringBuilder" "maybeLatin1" "Z" (.int (0 : Int32))) (P5_ : Exa Z h0 a1 "java/lang/StringBuilder") (P6_ : Arv Z h0 b kB .byte (16 : Int32) us (.int 0)) (g_a1 : n0 ≤ a1) (g_b : n0 ≤ b) (hlo : ∀ c ∈ cs, ¬ (255 : Int32) < c) (hu : us.length = nu) (hfit : nu + cs.length ≤ 16) (hba : b ≠ a1) (SS : own_St Z h0 zc fm) : own_M l y30 j30 2 (some (.object "java/lang/StringBuilder")) (own_R 9 1 40 130) #[(.ref a1), (.ref x)] Z h0 (Q_sbL Z a1 x t cs b kB us nu zc fm h0 n0) := by
 refine own_body (plainFor_of_name own_pn8) (fun p e s m below meth c s₁ Bd hZ hx hby hml hown hnm X0 e0 => ?_)
 have hown : s.vm.findClass "java/lang/StringBuilder" = some m.cls := hown
 have N0 := Fr.nil n0
 have D := own_dt hby d30
 refine own_cast (g' := mkF m 0 #[vr a1, vr x] []) rfl ?_
 show own_G _ _ _ _ (s₁.setTop (mkF m 0 #[vr a1, vr x] []))
 refine own_go (fun _ Kk => XS.aloadN X0.here hx rfl (D 0 rfl) rfl rfl (XS.aloadN X0.here hx rfl (D 1 rfl) rfl rfl Kk)) ?_
 obtain ⟨_, _, ⟨T1, L1, k1, n1⟩, -, X1, ⟨Lc1, hQ1, l1, y1, z1⟩, st1⟩ := superBack X0 hx hZ (y := y31) hown (hw 147 rfl) (own_same (y := y31) (hw 150 rfl) (hw 158 rfl) rfl (by decide)) (hw 148 rfl) (hw 149 rfl) (by decide) (backOf (W := 0) (rm_apL hw a1 x t cs b kB us nu zc fm h0 n0 Z0 P0_ P1_ P2_ P3_ P4_ P5_ P6_ g_a1 g_b hlo hu (by omega) hba SS) hZ (hw 151 rfl) (hw 117 rfl) (by decide) (by decide)) e0 (Ins.self P5_) (g := (mkF m 2 #[vr a1, vr x] [.ref x, .ref a1])) rfl (by rw [hml]; rfl) (hw 151 rfl) (argsL := [(.ref x)]) (rest := []) (lenOf own_pd34 rfl) rfl (by show 2 * 0 + _ ≤ _; exact Nat.le_of_eq rfl) (D 2 rfl) (fun _ _ => ⟨rfl, e0, (by decide : 0 + 1 ≤ _), (by decide : 0 + 40 ≤ _)⟩)
 dsimp only [Pt.U, Pt.locs, Pt.cells, Pt.slots] at X1 l1 y1 z1 st1 hQ1
 subst y1 z1
 obtain ⟨rfl, N1q, K1q, F1_0, F1_1, F1_2, F1_3, F1_4, F1_5⟩ := hQ1
 have N1 := own_frl l1 N0 N1q
 obtain ⟨h1, e1⟩ : ∃ z, T1.heap = z := ⟨_, rfl⟩
 rw [e1] at K1q F1_0 F1_1 F1_2 F1_3 F1_4 F1_5
 have Z2 : n0 ≤ h1.size := Nat.le_trans Z0 K1q.1
 have K1 := Keep.trans (Keep.refl h0 [a1, b]) K1q (allS (own_in 0 rfl) (allS (own_in 1 rfl) all0))
 refine own_tr st1 ?_
 refine own_go (fun _ Kk => XS.pop X1.here hx rfl (D 3 rfl) rfl rfl (XS.aloadN X1.here hx rfl (D 4 rfl) rfl rfl Kk)) ?_
 show own_G _ _ _ _ (T1.setTop (mkF m 7 #[vr a1, vr x] [.ref a1]))
 exact own_rR X1 hx Bd (D 5 rfl) e1 ⟨rfl, N1, K1, F1_0, F1_1, F1_2, F1_3, F1_4, F1_5⟩
def Q_sbU (Z : State) (a1 : Addr) (x : Addr) (t : Addr) (cs : List Int32) (b : Addr) (kB : ClassId) (zc : Int32) (fm : Value) (h0 : Heap) (n0 : Nat) (v : Option Value) (h : Heap) (L : List Loc) : Prop := ∃ (b2 : Addr) (k2 : ClassId), v = some (.ref a1) ∧ Fr n0 L ∧ Keep h0 h [a1] ∧ h0.size ≤ b2 ∧ Fld Z h a1 "java/lang/AbstractStringBuilder" "value" "[B" (.ref b2) ∧ Fld Z h a1 "java/lang/AbstractStringBuilder" "coder" "B" (.int (1 : Int32)) ∧ Fld Z h a1 "java/lang/AbstractStringBuilder" "count" "I" (.int (Int32.ofNat cs.length)) ∧ Fld Z h a1 "java/lang/AbstractStringBuilder" "maybeLatin1" "Z" (.int (0 : Int32)) ∧ Exa Z h a1 "java/lang/StringBuilder" ∧ Arv Z h b2 k2 .byte (Int32.ofNat (2 * 16)) (StrChars.Road.wideBytes cs) (.int 0) ∧ Exa Z h b2 "[B"
theorem rm_sbU (hw : own_H a0 Z) (a1 : Addr) (x : Addr) (t : Addr) (cs : List Int32) (b : Addr) (kB : ClassId) (zc : Int32) (fm : Value) (h0 : Heap) (n0 : Nat) (Z0 : n0 ≤ h0.size) (P0_ : own_Str Z h0 x t cs) (P1_ : Fld Z h0 a1 "java/lang/AbstractStringBuilder" "value" "[B" (.ref b)) (P2_ : Fld Z h0 a1 "java/lang/AbstractStringBuilder" "coder" "B" (.int (0 : Int32))) (P3_ : Fld Z h0 a1 "java/lang/AbstractStringBuilder" "count" "I" (.int (0 : Int32))) (P4_ : Fld Z h0 a1 "java/lang/AbstractStringBuilder" "maybeLatin1" "Z" (.int (0 : Int32))) (P5_ : Exa Z h0 a1 "java/lang/StringBuilder") (P6_ : Arv Z h0 b kB .byte (16 : Int32) [] (.int 0)) (g_a1 : n0 ≤ a1) (hex : ∃ c ∈ cs, (255 : Int32) < c) (hc16 : cs.length ≤ 16) (hba : b ≠ a1) (hxa : x ≠ a1) (hta : t ≠ a1) (SS : own_St Z h0 zc fm) : own_M l y30 j30 2 (some (.object "java/lang/StringBuilder")) (own_R 9 1 40 130) #[(.ref a1), (.ref x)] Z h0 (Q_sbU Z a1 x t cs b kB zc fm h0 n0) := by
 refine own_body (plainFor_of_name own_pn8) (fun p e s m below meth c s₁ Bd hZ hx hby hml hown hnm X0 e0 => ?_)
 have hown : s.vm.findClass "java/lang/StringBuilder" = some m.cls := hown
 have N0 := Fr.nil n0
 have D := own_dt hby d30
 refine own_cast (g' := mkF m 0 #[vr a1, vr x] []) rfl ?_
 show own_G _ _ _ _ (s₁.setTop (mkF m 0 #[vr a1, vr x] []))
 refine own_go (fun _ Kk => XS.aloadN X0.here hx rfl (D 0 rfl) rfl rfl (XS.aloadN X0.here hx rfl (D 1 rfl) rfl rfl Kk)) ?_
 obtain ⟨_, _, ⟨T1, L1, k1, n1⟩, -, X1, ⟨Lc1, hQ1, l1, y1, z1⟩, st1⟩ := superBack X0 hx hZ (y := y31) hown (hw 147 rfl) (own_same (y := y31) (hw 150 rfl) (hw 158 rfl) rfl (by decide)) (hw 148 rfl) (hw 149 rfl) (by decide) (backOf (W := 0) (rm_apU hw a1 x t cs b kB zc fm h0 n0 Z0 P0_ P1_ P2_ P3_ P4_ P5_ P6_ g_a1 hex (by omega) hba hxa hta SS) hZ (hw 151 rfl) (hw 117 rfl) (by decide) (by decide)) e0 (Ins.self P5_) (g := (mkF m 2 #[vr a1, vr x] [.ref x, .ref a1])) rfl (by rw [hml]; rfl) (hw 151 rfl) (argsL := [(.ref x)]) (rest := []) (lenOf own_pd34 rfl) rfl (by show 2 * 0 + _ ≤ _; exact Nat.le_of_eq rfl) (D 2 rfl) (fun _ _ => ⟨rfl, e0, (by decide : 0 + 1 ≤ _), (by decide : 0 + 40 ≤ _)⟩)
 dsimp only [Pt.U, Pt.locs, Pt.cells, Pt.slots] at X1 l1 y1 z1 st1 hQ1
 subst y1 z1
 obtain ⟨b1b2, k21, rfl, N1q, K1q, le_b1b2, F1_0, F1_1, F1_2, F1_3, F1_4, F1_5, F1_6⟩ := hQ1
 have N1 := own_frl l1 N0 N1q
 obtain ⟨h1, e1⟩ : ∃ z, T1.heap = z := ⟨_, rfl⟩
 rw [e1] at K1q F1_0 F1_1 F1_2 F1_3 F1_4 F1_5 F1_6
 have Z2 : n0 ≤ h1.size := Nat.le_trans Z0 K1q.1
 have g_b1b2 : n0 ≤ b1b2 := Nat.le_trans Z0 le_b1b2
 have sz_b1b2 : h0.size ≤ b1b2 := Nat.le_trans (Keep.refl h0 [a1]).1 le_b1b2
 have K1 := Keep.trans (Keep.refl h0 [a1]) K1q (allS (own_in 0 rfl) all0)
 refine own_tr st1 ?_
 refine own_go (fun _ Kk => XS.pop X1.here hx rfl (D 3 rfl) rfl rfl (XS.aloadN X1.here hx rfl (D 4 rfl) rfl rfl Kk)) ?_
 show own_G _ _ _ _ (T1.setTop (mkF m 7 #[vr a1, vr x] [.ref a1]))
 exact own_rR X1 hx Bd (D 5 rfl) e1 ⟨b1b2, k21, rfl, N1, K1, sz_b1b2, F1_0, F1_1, F1_2, F1_3, F1_4, F1_5, F1_6⟩
def Q_sbV (Z : State) (a1 : Addr) (x : Addr) (t : Addr) (cs : List Int32) (b : Addr) (kB : ClassId) (us : List Value) (nu : Nat) (zc : Int32) (fm : Value) (h0 : Heap) (n0 : Nat) (v : Option Value) (h : Heap) (L : List Loc) : Prop := v = some (.ref a1) ∧ Fr n0 L ∧ Keep h0 h [a1, b] ∧ Fld Z h a1 "java/lang/AbstractStringBuilder" "value" "[B" (.ref b) ∧ Fld Z h a1 "java/lang/AbstractStringBuilder" "coder" "B" (.int (1 : Int32)) ∧ Fld Z h a1 "java/lang/AbstractStringBuilder" "count" "I" (.int (Int32.ofNat (nu + cs.length))) ∧ Fld Z h a1 "java/lang/AbstractStringBuilder" "maybeLatin1" "Z" (.int (0 : Int32)) ∧ Exa Z h a1 "java/lang/StringBuilder" ∧ Arv Z h b kB .byte (Int32.ofNat (2 * 16)) (us ++ StrChars.Road.wideBytes cs) (.int 0)
theorem rm_sbV (hw : own_H a0 Z) (a1 : Addr) (x : Addr) (t : Addr) (cs : List Int32) (b : Addr) (kB : ClassId) (us : List Value) (nu : Nat) (zc : Int32) (fm : Value) (h0 : Heap) (n0 : Nat) (Z0 : n0 ≤ h0.size) (P0_ : own_Str Z h0 x t cs) (P1_ : Fld Z h0 a1 "java/lang/AbstractStringBuilder" "value" "[B" (.ref b)) (P2_ : Fld Z h0 a1 "java/lang/AbstractStringBuilder" "coder" "B" (.int (1 : Int32))) (P3_ : Fld Z h0 a1 "java/lang/AbstractStringBuilder" "count" "I" (.int (Int32.ofNat nu))) (P4_ : Fld Z h0 a1 "java/lang/AbstractStringBuilder" "maybeLatin1" "Z" (.int (0 : Int32))) (P5_ : Exa Z h0 a1 "java/lang/StringBuilder") (P6_ : Arv Z h0 b kB .byte (Int32.ofNat (2 * 16)) us (.int 0)) (g_a1 : n0 ≤ a1) (g_b : n0 ≤ b) (hlo : ∀ c ∈ cs, ¬ (255 : Int32) < c) (hu : us.length = 2 * nu) (hfit : nu + cs.length ≤ 16) (hba : b ≠ a1) (SS : own_St Z h0 zc fm) : own_M l y30 j30 2 (some (.object "java/lang/StringBuilder")) (own_R 9 1 40 130) #[(.ref a1), (.ref x)] Z h0 (Q_sbV Z a1 x t cs b kB us nu zc fm h0 n0) := by
 refine own_body (plainFor_of_name own_pn8) (fun p e s m below meth c s₁ Bd hZ hx hby hml hown hnm X0 e0 => ?_)
 have hown : s.vm.findClass "java/lang/StringBuilder" = some m.cls := hown
 have N0 := Fr.nil n0
 have D := own_dt hby d30
 refine own_cast (g' := mkF m 0 #[vr a1, vr x] []) rfl ?_
 show own_G _ _ _ _ (s₁.setTop (mkF m 0 #[vr a1, vr x] []))
 refine own_go (fun _ Kk => XS.aloadN X0.here hx rfl (D 0 rfl) rfl rfl (XS.aloadN X0.here hx rfl (D 1 rfl) rfl rfl Kk)) ?_
 obtain ⟨_, _, ⟨T1, L1, k1, n1⟩, -, X1, ⟨Lc1, hQ1, l1, y1, z1⟩, st1⟩ := superBack X0 hx hZ (y := y31) hown (hw 147 rfl) (own_same (y := y31) (hw 150 rfl) (hw 158 rfl) rfl (by decide)) (hw 148 rfl) (hw 149 rfl) (by decide) (backOf (W := 0) (rm_apV hw a1 x t cs b kB us nu zc fm h0 n0 Z0 P0_ P1_ P2_ P3_ P4_ P5_ P6_ g_a1 g_b hlo hu (by omega) hba SS) hZ (hw 151 rfl) (hw 117 rfl) (by decide) (by decide)) e0 (Ins.self P5_) (g := (mkF m 2 #[vr a1, vr x] [.ref x, .ref a1])) rfl (by rw [hml]; rfl) (hw 151 rfl) (argsL := [(.ref x)]) (rest := []) (lenOf own_pd34 rfl) rfl (by show 2 * 0 + _ ≤ _; exact Nat.le_of_eq rfl) (D 2 rfl) (fun _ _ => ⟨rfl, e0, (by decide : 0 + 1 ≤ _), (by decide : 0 + 40 ≤ _)⟩)
 dsimp only [Pt.U, Pt.locs, Pt.cells, Pt.slots] at X1 l1 y1 z1 st1 hQ1
 subst y1 z1
 obtain ⟨rfl, N1q, K1q, F1_0, F1_1, F1_2, F1_3, F1_4, F1_5⟩ := hQ1
 have N1 := own_frl l1 N0 N1q
 obtain ⟨h1, e1⟩ : ∃ z, T1.heap = z := ⟨_, rfl⟩
 rw [e1] at K1q F1_0 F1_1 F1_2 F1_3 F1_4 F1_5
 have Z2 : n0 ≤ h1.size := Nat.le_trans Z0 K1q.1
 have K1 := Keep.trans (Keep.refl h0 [a1, b]) K1q (allS (own_in 0 rfl) (allS (own_in 1 rfl) all0))
 refine own_tr st1 ?_
 refine own_go (fun _ Kk => XS.pop X1.here hx rfl (D 3 rfl) rfl rfl (XS.aloadN X1.here hx rfl (D 4 rfl) rfl rfl Kk)) ?_
 show own_G _ _ _ _ (T1.setTop (mkF m 7 #[vr a1, vr x] [.ref a1]))
 exact own_rR X1 hx Bd (D 5 rfl) e1 ⟨rfl, N1, K1, F1_0, F1_1, F1_2, F1_3, F1_4, F1_5⟩
theorem d38 : ∀ x ∈ ([(0, .aload_n 0, 1), (1, .invokespecial 1, 3), (4, .aload_n 1, 1), (5, .invokevirtual 552, 3), (8, .astore_n 3, 1), (9, .aload_n 1, 1), (10, .invokevirtual 549, 3), (13, .istore 4, 2), (15, .aload_n 1, 1), (16, .invokevirtual 1047, 3), (19, .ifCond .eq 22, 3), (22, .aload_n 0, 1), (23, .iconst 0, 1), (24, .putfield 15, 3), (27, .aload_n 0, 1), (28, .aload_n 3, 1), (29, .iconst 0, 1), (30, .iload 4, 2), (32, .invokestatic 54, 3), (35, .putfield 9, 3), (38, .goto 59, 3), (97, .return_, 1), (41, .getstatic 38, 3), (44, .ifCond .eq 35, 3), (47, .aload_n 1, 1), (48, .getfield 1048, 3), (51, .ifCond .eq 28, 3), (79, .aload_n 0, 1), (80, .iconst 1, 1), (81, .putfield 15, 3), (84, .aload_n 0, 1), (85, .aload_n 3, 1), (86, .iconst 0, 1), (87, .iload 4, 2), (89, .iconst 1, 1), (90, .ishl, 1), (91, .invokestatic 54, 3), (94, .putfield 9, 3)] : List (Nat × Instr × Nat)), decode j38 x.1 = .ok x.2 := by decide +kernel
theorem own_pd35 : parseMethodDescriptor "()[B" = some ⟨[], some (.array .byte)⟩ := by decide +kernel
def Q_iaL (Z : State) (a1 : Addr) (sb : Addr) (cs : List Int32) (b : Addr) (kB : ClassId) (zc : Int32) (fm : Value) (h0 : Heap) (n0 : Nat) (v : Option Value) (h : Heap) (L : List Loc) : Prop := ∃ (d : Addr), v = none ∧ Fr n0 L ∧ Keep h0 h [a1] ∧ h0.size ≤ d ∧ (own_Str Z h a1 d cs)
theorem rm_iaL (hw : own_H a0 Z) (a1 : Addr) (sb : Addr) (cs : List Int32) (b : Addr) (kB : ClassId) (zc : Int32) (fm : Value) (h0 : Heap) (n0 : Nat) (Z0 : n0 ≤ h0.size) (P0_ : Fld Z h0 a1 "java/lang/String" "value" "[B" .null) (P1_ : Fld Z h0 a1 "java/lang/String" "coder" "B" (.int (0 : Int32))) (P2_ : Exa Z h0 a1 "java/lang/String") (P3_ : Fld Z h0 sb "java/lang/AbstractStringBuilder" "value" "[B" (.ref b)) (P4_ : Fld Z h0 sb "java/lang/AbstractStringBuilder" "coder" "B" (.int (0 : Int32))) (P5_ : Fld Z h0 sb "java/lang/AbstractStringBuilder" "count" "I" (.int (Int32.ofNat cs.length))) (P6_ : Fld Z h0 sb "java/lang/AbstractStringBuilder" "maybeLatin1" "Z" (.int (0 : Int32))) (P7_ : Exa Z h0 sb "java/lang/StringBuilder") (P8_ : Arv Z h0 b kB .byte (16 : Int32) (cs.map fun c => Value.int (StrChars.lo8 c)) (.int 0)) (g_a1 : n0 ≤ a1) (hbd : ∀ c ∈ cs, ¬ c < 0 ∧ ¬ (65535 : Int32) < c) (hlo : ∀ c ∈ cs, ¬ (255 : Int32) < c) (h16 : cs.length < 16) (hsa : sb ≠ a1) (hba : b ≠ a1) (SS : own_St Z h0 zc fm) : own_M l y38 j38 5 none (own_R 3 1 40 71) #[(.ref a1), (.ref sb), .null] Z h0 (Q_iaL Z a1 sb cs b kB zc fm h0 n0) := by
 refine own_body (plainFor_of_name own_pn0) (fun p e s m below meth c s₁ Bd hZ hx hby hml hown hnm X0 e0 => ?_)
 have hown : s.vm.findClass "java/lang/String" = some m.cls := hown
 have N0 := Fr.nil n0
 have D := own_dt hby d38
 refine own_cast (g' := mkF m 0 #[vr a1, vr sb, .val .null, vu, vu] []) rfl ?_
 show own_G _ _ _ _ (s₁.setTop (mkF m 0 #[vr a1, vr sb, .val .null, vu, vu] []))
 refine own_go (fun _ Kk => XS.aloadN X0.here hx rfl (D 0 rfl) rfl rfl Kk) ?_
 obtain ⟨T1, X1, e1, st1⟩ := initO X0 hx hZ hown (hw 20 rfl) (hw 21 rfl) (hw 22 rfl) e0 (g := (mkF m 1 #[vr a1, vr sb, .val .null, vu, vu] [.ref a1])) rfl (by rw [hml]; rfl) rfl (D 1 rfl) (by decide) (W := 0) (by show 2 * 0 + _ ≤ _; exact Nat.le_of_eq rfl) (by decide)
 refine own_go st1 ?_
 refine own_go (fun _ Kk => XS.aloadN X1.here hx rfl (D 2 rfl) rfl rfl Kk) ?_
 refine own_cV X1 hx hZ 0 hown (hw 193 rfl) (hw 194 rfl) (hw 196 rfl) (hw 195 rfl) (hw 197 rfl) (hw 117 rfl) (rm_gval hw sb b h0 n0 Z0 P3_) e1 P7_ own_pd35 rfl (D 3 rfl) hml ?_
 rintro _ T2 _ _ X2 l2 ⟨rfl, N2q, e2⟩
 have N2 := own_frl l2 N0 N2q
 refine own_go (fun _ Kk => XS.astoreN X2.here hx rfl (D 4 rfl) rfl rfl (l' := #[vr a1, vr sb, .val .null, vr b, vu]) rfl Kk) ?_
 show own_G _ _ _ _ (T2.setTop (mkF m 9 #[vr a1, vr sb, .val .null, vr b, vu] []))
 refine own_go (fun _ Kk => XS.aloadN X2.here hx rfl (D 5 rfl) rfl rfl Kk) ?_
 refine own_cVz X2 hx hZ 0 hown (hw 198 rfl) (hw 199 rfl) (hw 201 rfl) (hw 202 rfl) (hw 203 rfl) (hw 109 rfl) (rm_slen hw sb (Int32.ofNat cs.length) h0 n0 Z0 P5_ P7_) e2 P7_ (own_nf (args := #[]) (mvT hZ (hw 158 rfl)) rfl) own_pd10 rfl (D 6 rfl) hml ?_
 rintro _ T3 _ _ X3 l3 ⟨rfl, N3q, e3⟩
 have N3 := own_frl l3 N2 N3q
 refine own_go (fun _ Kk => XS.istore X3.here hx rfl (D 7 rfl) rfl (l' := #[vr a1, vr sb, .val .null, vr b, vi (Int32.ofNat cs.length)]) rfl (XS.aloadN X3.here hx rfl (D 8 rfl) rfl rfl Kk)) ?_
 refine own_cV X3 hx hZ 0 hown (hw 206 rfl) (hw 207 rfl) (hw 209 rfl) (hw 208 rfl) (hw 210 rfl) (hw 117 rfl) (rm_al0 hw sb zc fm h0 n0 Z0 P4_ SS) e3 P7_ own_pd6 rfl (D 9 rfl) hml ?_
 rintro _ T4 _ _ X4 l4 ⟨rfl, N4q, e4⟩
 have N4 := own_frl l4 N3 N4q
 show own_G _ _ _ _ (T4.setTop (mkF m 19 #[vr a1, vr sb, .val .null, vr b, vi (Int32.ofNat cs.length)] [.int 1]))
 refine own_go (fun _ Kk => XS.ifNo X4.here hx rfl (D 10 rfl) rfl ((if0 _ _).trans (by decide)) (XS.aloadN X4.here hx rfl (D 11 rfl) rfl rfl (XS.iconst X4.here hx rfl (D 12 rfl) Kk))) ?_
 obtain ⟨T5, h5, X5, e5, W5, st5⟩ := putFN X4 hx hZ hown (hw 35 rfl) Via.refl e4 P1_ P2_ (Or.inr ⟨(hw 36 rfl), rfl, hnm⟩) (hw 11 rfl) (ty := .byte) (v' := (.int (0 : Int32))) (by decide) rfl rfl (g := (mkF m 24 #[vr a1, vr sb, .val .null, vr b, vi (Int32.ofNat cs.length)] [.int 0, .ref a1])) rfl rfl (D 13 rfl)
 refine own_go st5 ?_
 have F5 := P1_.same W5
 have N5 := Fr.snoc X5 N4 g_a1
 have Z6 : n0 ≤ h5.size := Nat.le_trans Z0 (Keep.of_wr W5).1
 have K7 := Keep.wr (Keep.refl h0 [a1]) W5 (own_in 0 rfl)
 refine own_go (fun _ Kk => XS.aloadN X5.here hx rfl (D 14 rfl) rfl rfl Kk) ?_
 show own_G _ _ _ _ (T5.setTop (mkF m 28 #[vr a1, vr sb, .val .null, vr b, vi (Int32.ofNat cs.length)] [.ref a1]))
 refine own_go (fun _ Kk => XS.aloadN X5.here hx rfl (D 15 rfl) rfl rfl (XS.iconst X5.here hx rfl (D 16 rfl) (XS.iload X5.here hx rfl (D 17 rfl) rfl Kk))) ?_
 have Q9 := (P8_.other W5 hba)
 refine own_cS X5 hx hZ 1 hown (hw 211 rfl) (hw 212 rfl) (hw 213 rfl) (hw 214 rfl) (rm_cor hw b kB (16 : Int32) (cs.map fun c => Value.int (StrChars.lo8 c)) cs.length h5 n0 Z6 Q9 (by omega) (by rw [Int32.lt_iff_toInt_lt, own_on _ (by omega)]; show (cs.length : Int) < 16; omega) (by simp)) e5 own_pd20 rfl (D 18 rfl) hml (fun _ T8 _ _ X8 l8 => own_hp ?_)
 rintro h8 e8 ⟨b8b, kx8, rfl, N8q, K8q, le_b8b, F8_0, F8_1⟩
 have N8 := own_frl l8 N5 N8q
 have Z10 : n0 ≤ h8.size := Nat.le_trans Z6 K8q.1
 have g_b8b : n0 ≤ b8b := Nat.le_trans Z6 le_b8b
 have sz_b8b : h0.size ≤ b8b := Nat.le_trans K7.1 le_b8b
 have K8 := Keep.trans K7 K8q all0
 have Q11 := ((P0_.other W5 (Or.inr (slot_ne (Or.inr (hw 38 rfl)) (Or.inr (hw 36 rfl)) (by decide) (t := (.array .byte)) (t' := .byte) (by decide) (by decide)))).keep K8q List.not_mem_nil)
 have Q12 := ((P2_.wr W5).keep K8q)
 obtain ⟨T13, h13, X13, e13, W13, st13⟩ := putF X8 hx hZ hown (host := "") (Or.inl (hw 37 rfl)) Via.refl e8 Q11 Q12 (Or.inr ⟨(hw 38 rfl), rfl, hnm⟩) (hw 11 rfl) (ty := (.array .byte)) (by decide) rfl rfl (g := (mkF m 35 #[vr a1, vr sb, .val .null, vr b, vi (Int32.ofNat cs.length)] [.ref b8b, .ref a1])) rfl rfl (D 19 rfl)
 refine own_go st13 ?_
 have F13 := Q11.same W13
 have N13 := Fr.snoc X13 N8 g_a1
 have Z14 : n0 ≤ h13.size := Nat.le_trans Z10 (Keep.of_wr W13).1
 have K15 := Keep.wr K8 W13 (own_in 0 rfl)
 show own_G _ _ _ _ (T13.setTop (mkF m 38 #[vr a1, vr sb, .val .null, vr b, vi (Int32.ofNat cs.length)] []))
 refine own_go (fun _ Kk => XS.goto X13.here hx rfl (pc0 := 38) (pc' := 97) rfl (D 20 rfl) (by decide) (by decide) Kk) ?_
 have Q16 := (Q12.wr W13)
 have Q17 := ((F5.keep K8q List.not_mem_nil).other W13 (Or.inr (slot_ne (Or.inr (hw 36 rfl)) (Or.inr (hw 38 rfl)) (by decide) (t := .byte) (t' := (.array .byte)) (by decide) (by decide))))
 have Q18 := (F8_0.other W13 (Ne.symm (Nat.ne_of_lt (Nat.lt_of_lt_of_le (P2_.wr W5).lt le_b8b))))
 exact own_rV X13 hx Bd (D 21 rfl) e13 ⟨b8b, rfl, N13, K15, sz_b8b, ⟨_, _, _, _, Q16, F13, Q17, Q18, (Or.inl ⟨rfl, rfl, by rw [List.take_of_length_le (by simp)], hlo⟩), hbd, (by omega)⟩⟩
def Q_iaU (Z : State) (a1 : Addr) (sb : Addr) (cs : List Int32) (b : Addr) (kB : ClassId) (zc : Int32) (fm : Value) (h0 : Heap) (n0 : Nat) (v : Option Value) (h : Heap) (L : List Loc) : Prop := ∃ (d : Addr), v = none ∧ Fr n0 L ∧ Keep h0 h [a1] ∧ h0.size ≤ d ∧ (own_Str Z h a1 d cs)
theorem rm_iaU (hw : own_H a0 Z) (a1 : Addr) (sb : Addr) (cs : List Int32) (b : Addr) (kB : ClassId) (zc : Int32) (fm : Value) (h0 : Heap) (n0 : Nat) (Z0 : n0 ≤ h0.size) (P0_ : Fld Z h0 a1 "java/lang/String" "value" "[B" .null) (P1_ : Fld Z h0 a1 "java/lang/String" "coder" "B" (.int (0 : Int32))) (P2_ : Exa Z h0 a1 "java/lang/String") (P3_ : Fld Z h0 sb "java/lang/AbstractStringBuilder" "value" "[B" (.ref b)) (P4_ : Fld Z h0 sb "java/lang/AbstractStringBuilder" "coder" "B" (.int (1 : Int32))) (P5_ : Fld Z h0 sb "java/lang/AbstractStringBuilder" "count" "I" (.int (Int32.ofNat cs.length))) (P6_ : Fld Z h0 sb "java/lang/AbstractStringBuilder" "maybeLatin1" "Z" (.int (0 : Int32))) (P7_ : Exa Z h0 sb "java/lang/StringBuilder") (P8_ : Arv Z h0 b kB .byte (Int32.ofNat (2 * 16)) (StrChars.Road.wideBytes cs) (.int 0)) (g_a1 : n0 ≤ a1) (hbd : ∀ c ∈ cs, ¬ c < 0 ∧ ¬ (65535 : Int32) < c) (hex : ∃ c ∈ cs, (255 : Int32) < c) (h16 : cs.length < 16) (hsa : sb ≠ a1) (hba : b ≠ a1) (SS : own_St Z h0 zc fm) : own_M l y38 j38 5 none (own_R 3 1 40 71) #[(.ref a1), (.ref sb), .null] Z h0 (Q_iaU Z a1 sb cs b kB zc fm h0 n0) := by
 refine own_body (plainFor_of_name own_pn0) (fun p e s m below meth c s₁ Bd hZ hx hby hml hown hnm X0 e0 => ?_)
 have hown : s.vm.findClass "java/lang/String" = some m.cls := hown
 have N0 := Fr.nil n0
 have D := own_dt hby d38
 refine own_cast (g' := mkF m 0 #[vr a1, vr sb, .val .null, vu, vu] []) rfl ?_
 show own_G _ _ _ _ (s₁.setTop (mkF m 0 #[vr a1, vr sb, .val .null, vu, vu] []))
 refine own_go (fun _ Kk => XS.aloadN X0.here hx rfl (D 0 rfl) rfl rfl Kk) ?_
 obtain ⟨T1, X1, e1, st1⟩ := initO X0 hx hZ hown (hw 20 rfl) (hw 21 rfl) (hw 22 rfl) e0 (g := (mkF m 1 #[vr a1, vr sb, .val .null, vu, vu] [.ref a1])) rfl (by rw [hml]; rfl) rfl (D 1 rfl) (by decide) (W := 0) (by show 2 * 0 + _ ≤ _; exact Nat.le_of_eq rfl) (by decide)
 refine own_go st1 ?_
 refine own_go (fun _ Kk => XS.aloadN X1.here hx rfl (D 2 rfl) rfl rfl Kk) ?_
 refine own_cV X1 hx hZ 0 hown (hw 193 rfl) (hw 194 rfl) (hw 196 rfl) (hw 195 rfl) (hw 197 rfl) (hw 117 rfl) (rm_gval hw sb b h0 n0 Z0 P3_) e1 P7_ own_pd35 rfl (D 3 rfl) hml ?_
 rintro _ T2 _ _ X2 l2 ⟨rfl, N2q, e2⟩
 have N2 := own_frl l2 N0 N2q
 refine own_go (fun _ Kk => XS.astoreN X2.here hx rfl (D 4 rfl) rfl rfl (l' := #[vr a1, vr sb, .val .null, vr b, vu]) rfl Kk) ?_
 show own_G _ _ _ _ (T2.setTop (mkF m 9 #[vr a1, vr sb, .val .null, vr b, vu] []))
 refine own_go (fun _ Kk => XS.aloadN X2.here hx rfl (D 5 rfl) rfl rfl Kk) ?_
 refine own_cVz X2 hx hZ 0 hown (hw 198 rfl) (hw 199 rfl) (hw 201 rfl) (hw 202 rfl) (hw 203 rfl) (hw 109 rfl) (rm_slen hw sb (Int32.ofNat cs.length) h0 n0 Z0 P5_ P7_) e2 P7_ (own_nf (args := #[]) (mvT hZ (hw 158 rfl)) rfl) own_pd10 rfl (D 6 rfl) hml ?_
 rintro _ T3 _ _ X3 l3 ⟨rfl, N3q, e3⟩
 have N3 := own_frl l3 N2 N3q
 refine own_go (fun _ Kk => XS.istore X3.here hx rfl (D 7 rfl) rfl (l' := #[vr a1, vr sb, .val .null, vr b, vi (Int32.ofNat cs.length)]) rfl (XS.aloadN X3.here hx rfl (D 8 rfl) rfl rfl Kk)) ?_
 refine own_cV X3 hx hZ 0 hown (hw 206 rfl) (hw 207 rfl) (hw 209 rfl) (hw 208 rfl) (hw 210 rfl) (hw 117 rfl) (rm_al1 hw sb zc fm h0 n0 Z0 P4_ SS) e3 P7_ own_pd6 rfl (D 9 rfl) hml ?_
 rintro _ T4 _ _ X4 l4 ⟨rfl, N4q, e4⟩
 have N4 := own_frl l4 N3 N4q
 show own_G _ _ _ _ (T4.setTop (mkF m 19 #[vr a1, vr sb, .val .null, vr b, vi (Int32.ofNat cs.length)] [.int 0]))
 refine own_go (fun _ Kk => XS.ifYes X4.here hx rfl (pc0 := 19) (pc' := 41) rfl (D 10 rfl) rfl ((if0 _ _).trans (by decide)) (by decide) (by decide) Kk) ?_
 refine own_gS X4 hx hZ hown (hw 23 rfl) e4 SS.2.2.1 (D 22 rfl) (fun T5 X5 e5 => ?_)
 refine own_go (fun _ Kk => XS.ifNo X5.here hx rfl (D 23 rfl) rfl ((if0 _ _).trans (feq SS.1).1) (XS.aloadN X5.here hx rfl (D 24 rfl) rfl rfl Kk)) ?_
 refine own_gF X5 hx hZ hown (hw 307 rfl) e5 P6_ (D 25 rfl) (fun T6 X6 e6 => ?_)
 show own_G _ _ _ _ (T6.setTop (mkF m 51 #[vr a1, vr sb, .val .null, vr b, vi (Int32.ofNat cs.length)] [.int 0]))
 refine own_go (fun _ Kk => XS.ifYes X6.here hx rfl (pc0 := 51) (pc' := 79) rfl (D 26 rfl) rfl ((if0 _ _).trans (by decide)) (by decide) (by decide) (XS.aloadN X6.here hx rfl (D 27 rfl) rfl rfl (XS.iconst X6.here hx rfl (D 28 rfl) Kk))) ?_
 obtain ⟨T7, h7, X7, e7, W7, st7⟩ := putFN X6 hx hZ hown (hw 35 rfl) Via.refl e6 P1_ P2_ (Or.inr ⟨(hw 36 rfl), rfl, hnm⟩) (hw 11 rfl) (ty := .byte) (v' := (.int (1 : Int32))) (by decide) rfl rfl (g := (mkF m 81 #[vr a1, vr sb, .val .null, vr b, vi (Int32.ofNat cs.length)] [.int 1, .ref a1])) rfl rfl (D 29 rfl)
 refine own_go st7 ?_
 have F7 := P1_.same W7
 have N7 := Fr.snoc X7 N4 g_a1
 have Z8 : n0 ≤ h7.size := Nat.le_trans Z0 (Keep.of_wr W7).1
 have K9 := Keep.wr (Keep.refl h0 [a1]) W7 (own_in 0 rfl)
 refine own_go (fun _ Kk => XS.aloadN X7.here hx rfl (D 30 rfl) rfl rfl Kk) ?_
 show own_G _ _ _ _ (T7.setTop (mkF m 85 #[vr a1, vr sb, .val .null, vr b, vi (Int32.ofNat cs.length)] [.ref a1]))
 refine own_go (fun _ Kk => XS.aloadN X7.here hx rfl (D 31 rfl) rfl rfl (XS.iconst X7.here hx rfl (D 32 rfl) (XS.iload X7.here hx rfl (D 33 rfl) rfl (XS.iconst X7.here hx rfl (D 34 rfl) (XS.ishl X7.here hx rfl (D 35 rfl) rfl Kk))))) ?_
 show own_G _ _ _ _ (T7.setTop (mkF m 91 #[vr a1, vr sb, .val .null, vr b, vi (Int32.ofNat cs.length)] [.int ((Int32.ofNat cs.length) <<< ((1 : Int32) &&& 31)), .int 0, .ref b, .ref a1]))
 rw [show ((Int32.ofNat cs.length) <<< ((1 : Int32) &&& 31)) = (Int32.ofNat (2 * cs.length)) from own_shl1 _ (by omega)]
 have Q11 := (P8_.other W7 hba)
 refine own_cS X7 hx hZ 1 hown (hw 211 rfl) (hw 212 rfl) (hw 213 rfl) (hw 214 rfl) (rm_cor hw b kB (Int32.ofNat (2 * 16)) (StrChars.Road.wideBytes cs) (2 * cs.length) h7 n0 Z8 Q11 (by omega) (own_onl (by omega) (by omega)) (by rw [own_wlen]; omega)) e7 own_pd20 rfl (D 36 rfl) hml (fun _ T10 _ _ X10 l10 => own_hp ?_)
 rintro h10 e10 ⟨b10b, kx10, rfl, N10q, K10q, le_b10b, F10_0, F10_1⟩
 have N10 := own_frl l10 N7 N10q
 have Z12 : n0 ≤ h10.size := Nat.le_trans Z8 K10q.1
 have g_b10b : n0 ≤ b10b := Nat.le_trans Z8 le_b10b
 have sz_b10b : h0.size ≤ b10b := Nat.le_trans K9.1 le_b10b
 have K10 := Keep.trans K9 K10q all0
 have Q13 := ((P0_.other W7 (Or.inr (slot_ne (Or.inr (hw 38 rfl)) (Or.inr (hw 36 rfl)) (by decide) (t := (.array .byte)) (t' := .byte) (by decide) (by decide)))).keep K10q List.not_mem_nil)
 have Q14 := ((P2_.wr W7).keep K10q)
 obtain ⟨T15, h15, X15, e15, W15, st15⟩ := putF X10 hx hZ hown (host := "") (Or.inl (hw 37 rfl)) Via.refl e10 Q13 Q14 (Or.inr ⟨(hw 38 rfl), rfl, hnm⟩) (hw 11 rfl) (ty := (.array .byte)) (by decide) rfl rfl (g := (mkF m 94 #[vr a1, vr sb, .val .null, vr b, vi (Int32.ofNat cs.length)] [.ref b10b, .ref a1])) rfl rfl (D 37 rfl)
 refine own_go st15 ?_
 have F15 := Q13.same W15
 have N15 := Fr.snoc X15 N10 g_a1
 have Z16 : n0 ≤ h15.size := Nat.le_trans Z12 (Keep.of_wr W15).1
 have K17 := Keep.wr K10 W15 (own_in 0 rfl)
 have Q18 := (Q14.wr W15)
 have Q19 := ((F7.keep K10q List.not_mem_nil).other W15 (Or.inr (slot_ne (Or.inr (hw 36 rfl)) (Or.inr (hw 38 rfl)) (by decide) (t := .byte) (t' := (.array .byte)) (by decide) (by decide))))
 have Q20 := (F10_0.other W15 (Ne.symm (Nat.ne_of_lt (Nat.lt_of_lt_of_le (P2_.wr W7).lt le_b10b))))
 exact own_rV X15 hx Bd (D 21 rfl) e15 ⟨b10b, rfl, N15, K17, sz_b10b, ⟨_, _, _, _, Q18, F15, Q19, Q20, (Or.inr ⟨rfl, rfl, (own_takeall _ _ (own_wlen _)).symm, hex⟩), hbd, (by omega)⟩⟩
theorem d37 : ∀ x ∈ ([(0, .aload_n 0, 1), (1, .aload_n 1, 1), (2, .aconst_null, 1), (3, .invokespecial 489, 3), (6, .return_, 1)] : List (Nat × Instr × Nat)), decode j37 x.1 = .ok x.2 := by decide +kernel
theorem own_pd36 : parseMethodDescriptor "(Ljava/lang/AbstractStringBuilder;Ljava/lang/Void;)V" = some ⟨[(.object "java/lang/AbstractStringBuilder"), (.object "java/lang/Void")], none⟩ := by decide +kernel
def Q_isL (Z : State) (a1 : Addr) (sb : Addr) (cs : List Int32) (b : Addr) (kB : ClassId) (zc : Int32) (fm : Value) (h0 : Heap) (n0 : Nat) (v : Option Value) (h : Heap) (L : List Loc) : Prop := ∃ (d : Addr), v = none ∧ Fr n0 L ∧ Keep h0 h [a1] ∧ h0.size ≤ d ∧ (own_Str Z h a1 d cs)
theorem rm_isL (hw : own_H a0 Z) (a1 : Addr) (sb : Addr) (cs : List Int32) (b : Addr) (kB : ClassId) (zc : Int32) (fm : Value) (h0 : Heap) (n0 : Nat) (Z0 : n0 ≤ h0.size) (P0_ : Fld Z h0 a1 "java/lang/String" "value" "[B" .null) (P1_ : Fld Z h0 a1 "java/lang/String" "coder" "B" (.int (0 : Int32))) (P2_ : Exa Z h0 a1 "java/lang/String") (P3_ : Fld Z h0 sb "java/lang/AbstractStringBuilder" "value" "[B" (.ref b)) (P4_ : Fld Z h0 sb "java/lang/AbstractStringBuilder" "coder" "B" (.int (0 : Int32))) (P5_ : Fld Z h0 sb "java/lang/AbstractStringBuilder" "count" "I" (.int (Int32.ofNat cs.length))) (P6_ : Fld Z h0 sb "java/lang/AbstractStringBuilder" "maybeLatin1" "Z" (.int (0 : Int32))) (P7_ : Exa Z h0 sb "java/lang/StringBuilder") (P8_ : Arv Z h0 b kB .byte (16 : Int32) (cs.map fun c => Value.int (StrChars.lo8 c)) (.int 0)) (g_a1 : n0 ≤ a1) (hbd : ∀ c ∈ cs, ¬ c < 0 ∧ ¬ (65535 : Int32) < c) (hlo : ∀ c ∈ cs, ¬ (255 : Int32) < c) (h16 : cs.length < 16) (hsa : sb ≠ a1) (hba : b ≠ a1) (SS : own_St Z h0 zc fm) : own_M l y37 j37 2 none (own_R 4 1 40 87) #[(.ref a1), (.ref sb)] Z h0 (Q_isL Z a1 sb cs b kB zc fm h0 n0) := by
 refine own_body (plainFor_of_name own_pn0) (fun p e s m below meth c s₁ Bd hZ hx hby hml hown hnm X0 e0 => ?_)
 have hown : s.vm.findClass "java/lang/String" = some m.cls := hown
 have N0 := Fr.nil n0
 have D := own_dt hby d37
 refine own_cast (g' := mkF m 0 #[vr a1, vr sb] []) rfl ?_
 show own_G _ _ _ _ (s₁.setTop (mkF m 0 #[vr a1, vr sb] []))
 refine own_go (fun _ Kk => XS.aloadN X0.here hx rfl (D 0 rfl) rfl rfl (XS.aloadN X0.here hx rfl (D 1 rfl) rfl rfl (XS.aconstNull X0.here hx rfl (D 2 rfl) Kk))) ?_
 refine own_cI X0 hx hZ 0 hown (hw 190 rfl) (hw 191 rfl) (hw 192 rfl) (hw 12 rfl) (rm_iaL hw a1 sb cs b kB zc fm h0 n0 Z0 P0_ P1_ P2_ P3_ P4_ P5_ P6_ P7_ P8_ g_a1 hbd hlo (by omega) hsa hba SS) e0 own_pd36 rfl (D 3 rfl) hml (fun _ T1 _ _ X1 l1 => own_hp ?_)
 rintro h1 e1 ⟨b1d, rfl, N1q, K1q, le_b1d, x1_0⟩
 have N1 := own_frl l1 N0 N1q
 have Z2 : n0 ≤ h1.size := Nat.le_trans Z0 K1q.1
 have g_b1d : n0 ≤ b1d := Nat.le_trans Z0 le_b1d
 have sz_b1d : h0.size ≤ b1d := Nat.le_trans (Keep.refl h0 [a1]).1 le_b1d
 have K1 := Keep.trans (Keep.refl h0 [a1]) K1q (allS (own_in 0 rfl) all0)
 exact own_rV X1 hx Bd (D 4 rfl) e1 ⟨b1d, rfl, N1, K1, sz_b1d, x1_0⟩
theorem d36 : ∀ x ∈ ([(0, .new 18, 3), (3, .dup, 1), (4, .aload_n 0, 1), (5, .invokespecial 137, 3), (8, .areturn, 1)] : List (Nat × Instr × Nat)), decode j36 x.1 = .ok x.2 := by decide +kernel
theorem own_pd37 : parseMethodDescriptor "(Ljava/lang/StringBuilder;)V" = some ⟨[(.object "java/lang/StringBuilder")], none⟩ := by decide +kernel
def Q_toL (Z : State) (sb : Addr) (cs : List Int32) (b : Addr) (kB : ClassId) (zc : Int32) (fm : Value) (h0 : Heap) (n0 : Nat) (v : Option Value) (h : Heap) (L : List Loc) : Prop := ∃ (x : Addr) (d : Addr), v = some (.ref x) ∧ Fr n0 L ∧ Keep h0 h [] ∧ h0.size ≤ x ∧ h0.size ≤ d ∧ (own_Str Z h x d cs)
theorem rm_toL (hw : own_H a0 Z) (sb : Addr) (cs : List Int32) (b : Addr) (kB : ClassId) (zc : Int32) (fm : Value) (h0 : Heap) (n0 : Nat) (Z0 : n0 ≤ h0.size) (P0_ : Fld Z h0 sb "java/lang/AbstractStringBuilder" "value" "[B" (.ref b)) (P1_ : Fld Z h0 sb "java/lang/AbstractStringBuilder" "coder" "B" (.int (0 : Int32))) (P2_ : Fld Z h0 sb "java/lang/AbstractStringBuilder" "count" "I" (.int (Int32.ofNat cs.length))) (P3_ : Fld Z h0 sb "java/lang/AbstractStringBuilder" "maybeLatin1" "Z" (.int (0 : Int32))) (P4_ : Exa Z h0 sb "java/lang/StringBuilder") (P5_ : Arv Z h0 b kB .byte (16 : Int32) (cs.map fun c => Value.int (StrChars.lo8 c)) (.int 0)) (hbd : ∀ c ∈ cs, ¬ c < 0 ∧ ¬ (65535 : Int32) < c) (hlo : ∀ c ∈ cs, ¬ (255 : Int32) < c) (h16 : cs.length < 16) (SS : own_St Z h0 zc fm) : own_M l y36 j36 1 (some (.object "java/lang/String")) (own_R 5 2 48 101) #[(.ref sb)] Z h0 (Q_toL Z sb cs b kB zc fm h0 n0) := by
 refine own_body (plainFor_of_name own_pn8) (fun p e s m below meth c s₁ Bd hZ hx hby hml hown hnm X0 e0 => ?_)
 have hown : s.vm.findClass "java/lang/StringBuilder" = some m.cls := hown
 have N0 := Fr.nil n0
 have D := own_dt hby d36
 refine own_cast (g' := mkF m 0 #[vr sb] []) rfl ?_
 show own_G _ _ _ _ (s₁.setTop (mkF m 0 #[vr sb] []))
 obtain ⟨T1, h1, X1, e1, E1, A1, D1, -, st1⟩ := newO X0 hx hZ hown (hw 186 rfl) (hw 11 rfl) (hw 12 rfl) e0 (g := (mkF m 0 #[vr sb] [])) rfl (D 0 rfl) (by decide) (by decide)
 obtain ⟨b1, g1⟩ : ∃ z, z = h0.size := ⟨_, rfl⟩
 rw [← g1] at A1 D1 st1
 refine own_go st1 ?_
 have g_b1 : n0 ≤ b1 := Nat.le_trans Z0 (Nat.le_of_eq g1.symm)
 have Z2 : n0 ≤ h1.size := Nat.le_trans Z0 E1.1
 have sz_b1 : h0.size ≤ b1 := Nat.le_trans (Keep.refl h0 []).1 (Nat.le_of_eq g1.symm)
 have K3 := Keep.ext (Keep.refl h0 []) E1
 have F1_coder : Fld Z h1 b1 "java/lang/String" "coder" "B" (.int (0 : Int32)) := D1 (Or.inr (hw 36 rfl)) (ty := .byte) (by decide)
 have F1_value : Fld Z h1 b1 "java/lang/String" "value" "[B" .null := D1 (Or.inr (hw 38 rfl)) (ty := (.array .byte)) (by decide)
 refine own_go (fun _ Kk => XS.dup X1.here hx rfl (D 1 rfl) rfl rfl (XS.aloadN X1.here hx rfl (D 2 rfl) rfl rfl Kk)) ?_
 have Q5 := (P0_.ext E1)
 have Q6 := (P1_.ext E1)
 have Q7 := (P2_.ext E1)
 have Q8 := (P3_.ext E1)
 have Q9 := (P4_.ext E1)
 have Q10 := (P5_.ext E1)
 have Q11 := (SS.ext E1)
 refine own_cI X1 hx hZ 1 hown (hw 187 rfl) (hw 188 rfl) (hw 189 rfl) (hw 12 rfl) (rm_isL hw b1 sb cs b kB zc fm h1 n0 Z2 F1_value F1_coder A1 Q5 Q6 Q7 Q8 Q9 Q10 g_b1 hbd hlo (by omega) (Nat.ne_of_lt (Nat.lt_of_lt_of_le P4_.lt (Nat.le_of_eq g1.symm))) (Nat.ne_of_lt (Nat.lt_of_lt_of_le P5_.lt (Nat.le_of_eq g1.symm))) Q11) e1 own_pd37 rfl (D 3 rfl) hml (fun _ T4 _ _ X4 l4 => own_hp ?_)
 rintro h4 e4 ⟨b4d, rfl, N4q, K4q, le_b4d, x4_0⟩
 have N4 := own_frl l4 N0 N4q
 have Z12 : n0 ≤ h4.size := Nat.le_trans Z2 K4q.1
 have g_b4d : n0 ≤ b4d := Nat.le_trans Z2 le_b4d
 have sz_b4d : h0.size ≤ b4d := Nat.le_trans K3.1 le_b4d
 have K4 := Keep.trans K3 K4q (allS (Or.inr sz_b1) all0)
 exact own_rR X4 hx Bd (D 4 rfl) e4 ⟨b1, b4d, rfl, N4, K4, sz_b1, sz_b4d, x4_0⟩
def Q_isU (Z : State) (a1 : Addr) (sb : Addr) (cs : List Int32) (b : Addr) (kB : ClassId) (zc : Int32) (fm : Value) (h0 : Heap) (n0 : Nat) (v : Option Value) (h : Heap) (L : List Loc) : Prop := ∃ (d : Addr), v = none ∧ Fr n0 L ∧ Keep h0 h [a1] ∧ h0.size ≤ d ∧ (own_Str Z h a1 d cs)
theorem rm_isU (hw : own_H a0 Z) (a1 : Addr) (sb : Addr) (cs : List Int32) (b : Addr) (kB : ClassId) (zc : Int32) (fm : Value) (h0 : Heap) (n0 : Nat) (Z0 : n0 ≤ h0.size) (P0_ : Fld Z h0 a1 "java/lang/String" "value" "[B" .null) (P1_ : Fld Z h0 a1 "java/lang/String" "coder" "B" (.int (0 : Int32))) (P2_ : Exa Z h0 a1 "java/lang/String") (P3_ : Fld Z h0 sb "java/lang/AbstractStringBuilder" "value" "[B" (.ref b)) (P4_ : Fld Z h0 sb "java/lang/AbstractStringBuilder" "coder" "B" (.int (1 : Int32))) (P5_ : Fld Z h0 sb "java/lang/AbstractStringBuilder" "count" "I" (.int (Int32.ofNat cs.length))) (P6_ : Fld Z h0 sb "java/lang/AbstractStringBuilder" "maybeLatin1" "Z" (.int (0 : Int32))) (P7_ : Exa Z h0 sb "java/lang/StringBuilder") (P8_ : Arv Z h0 b kB .byte (Int32.ofNat (2 * 16)) (StrChars.Road.wideBytes cs) (.int 0)) (g_a1 : n0 ≤ a1) (hbd : ∀ c ∈ cs, ¬ c < 0 ∧ ¬ (65535 : Int32) < c) (hex : ∃ c ∈ cs, (255 : Int32) < c) (h16 : cs.length < 16) (hsa : sb ≠ a1) (hba : b ≠ a1) (SS : own_St Z h0 zc fm) : own_M l y37 j37 2 none (own_R 4 1 40 87) #[(.ref a1), (.ref sb)] Z h0 (Q_isU Z a1 sb cs b kB zc fm h0 n0) := by
 refine own_body (plainFor_of_name own_pn0) (fun p e s m below meth c s₁ Bd hZ hx hby hml hown hnm X0 e0 => ?_)
 have hown : s.vm.findClass "java/lang/String" = some m.cls := hown
 have N0 := Fr.nil n0
 have D := own_dt hby d37
 refine own_cast (g' := mkF m 0 #[vr a1, vr sb] []) rfl ?_
 show own_G _ _ _ _ (s₁.setTop (mkF m 0 #[vr a1, vr sb] []))
 refine own_go (fun _ Kk => XS.aloadN X0.here hx rfl (D 0 rfl) rfl rfl (XS.aloadN X0.here hx rfl (D 1 rfl) rfl rfl (XS.aconstNull X0.here hx rfl (D 2 rfl) Kk))) ?_
 refine own_cI X0 hx hZ 0 hown (hw 190 rfl) (hw 191 rfl) (hw 192 rfl) (hw 12 rfl) (rm_iaU hw a1 sb cs b kB zc fm h0 n0 Z0 P0_ P1_ P2_ P3_ P4_ P5_ P6_ P7_ P8_ g_a1 hbd hex (by omega) hsa hba SS) e0 own_pd36 rfl (D 3 rfl) hml (fun _ T1 _ _ X1 l1 => own_hp ?_)
 rintro h1 e1 ⟨b1d, rfl, N1q, K1q, le_b1d, x1_0⟩
 have N1 := own_frl l1 N0 N1q
 have Z2 : n0 ≤ h1.size := Nat.le_trans Z0 K1q.1
 have g_b1d : n0 ≤ b1d := Nat.le_trans Z0 le_b1d
 have sz_b1d : h0.size ≤ b1d := Nat.le_trans (Keep.refl h0 [a1]).1 le_b1d
 have K1 := Keep.trans (Keep.refl h0 [a1]) K1q (allS (own_in 0 rfl) all0)
 exact own_rV X1 hx Bd (D 4 rfl) e1 ⟨b1d, rfl, N1, K1, sz_b1d, x1_0⟩
def Q_toU (Z : State) (sb : Addr) (cs : List Int32) (b : Addr) (kB : ClassId) (zc : Int32) (fm : Value) (h0 : Heap) (n0 : Nat) (v : Option Value) (h : Heap) (L : List Loc) : Prop := ∃ (x : Addr) (d : Addr), v = some (.ref x) ∧ Fr n0 L ∧ Keep h0 h [] ∧ h0.size ≤ x ∧ h0.size ≤ d ∧ (own_Str Z h x d cs)
theorem rm_toU (hw : own_H a0 Z) (sb : Addr) (cs : List Int32) (b : Addr) (kB : ClassId) (zc : Int32) (fm : Value) (h0 : Heap) (n0 : Nat) (Z0 : n0 ≤ h0.size) (P0_ : Fld Z h0 sb "java/lang/AbstractStringBuilder" "value" "[B" (.ref b)) (P1_ : Fld Z h0 sb "java/lang/AbstractStringBuilder" "coder" "B" (.int (1 : Int32))) (P2_ : Fld Z h0 sb "java/lang/AbstractStringBuilder" "count" "I" (.int (Int32.ofNat cs.length))) (P3_ : Fld Z h0 sb "java/lang/AbstractStringBuilder" "maybeLatin1" "Z" (.int (0 : Int32))) (P4_ : Exa Z h0 sb "java/lang/StringBuilder") (P5_ : Arv Z h0 b kB .byte (Int32.ofNat (2 * 16)) (StrChars.Road.wideBytes cs) (.int 0)) (hbd : ∀ c ∈ cs, ¬ c < 0 ∧ ¬ (65535 : Int32) < c) (hex : ∃ c ∈ cs, (255 : Int32) < c) (h16 : cs.length < 16) (SS : own_St Z h0 zc fm) : own_M l y36 j36 1 (some (.object "java/lang/String")) (own_R 5 2 48 101) #[(.ref sb)] Z h0 (Q_toU Z sb cs b kB zc fm h0 n0) := by
 refine own_body (plainFor_of_name own_pn8) (fun p e s m below meth c s₁ Bd hZ hx hby hml hown hnm X0 e0 => ?_)
 have hown : s.vm.findClass "java/lang/StringBuilder" = some m.cls := hown
 have N0 := Fr.nil n0
 have D := own_dt hby d36
 refine own_cast (g' := mkF m 0 #[vr sb] []) rfl ?_
 show own_G _ _ _ _ (s₁.setTop (mkF m 0 #[vr sb] []))
 obtain ⟨T1, h1, X1, e1, E1, A1, D1, -, st1⟩ := newO X0 hx hZ hown (hw 186 rfl) (hw 11 rfl) (hw 12 rfl) e0 (g := (mkF m 0 #[vr sb] [])) rfl (D 0 rfl) (by decide) (by decide)
 obtain ⟨b1, g1⟩ : ∃ z, z = h0.size := ⟨_, rfl⟩
 rw [← g1] at A1 D1 st1
 refine own_go st1 ?_
 have g_b1 : n0 ≤ b1 := Nat.le_trans Z0 (Nat.le_of_eq g1.symm)
 have Z2 : n0 ≤ h1.size := Nat.le_trans Z0 E1.1
 have sz_b1 : h0.size ≤ b1 := Nat.le_trans (Keep.refl h0 []).1 (Nat.le_of_eq g1.symm)
 have K3 := Keep.ext (Keep.refl h0 []) E1
 have F1_coder : Fld Z h1 b1 "java/lang/String" "coder" "B" (.int (0 : Int32)) := D1 (Or.inr (hw 36 rfl)) (ty := .byte) (by decide)
 have F1_value : Fld Z h1 b1 "java/lang/String" "value" "[B" .null := D1 (Or.inr (hw 38 rfl)) (ty := (.array .byte)) (by decide)
 refine own_go (fun _ Kk => XS.dup X1.here hx rfl (D 1 rfl) rfl rfl (XS.aloadN X1.here hx rfl (D 2 rfl) rfl rfl Kk)) ?_
 have Q5 := (P0_.ext E1)
 have Q6 := (P1_.ext E1)
 have Q7 := (P2_.ext E1)
 have Q8 := (P3_.ext E1)
 have Q9 := (P4_.ext E1)
 have Q10 := (P5_.ext E1)
 have Q11 := (SS.ext E1)
 refine own_cI X1 hx hZ 1 hown (hw 187 rfl) (hw 188 rfl) (hw 189 rfl) (hw 12 rfl) (rm_isU hw b1 sb cs b kB zc fm h1 n0 Z2 F1_value F1_coder A1 Q5 Q6 Q7 Q8 Q9 Q10 g_b1 hbd hex (by omega) (Nat.ne_of_lt (Nat.lt_of_lt_of_le P4_.lt (Nat.le_of_eq g1.symm))) (Nat.ne_of_lt (Nat.lt_of_lt_of_le P5_.lt (Nat.le_of_eq g1.symm))) Q11) e1 own_pd37 rfl (D 3 rfl) hml (fun _ T4 _ _ X4 l4 => own_hp ?_)
 rintro h4 e4 ⟨b4d, rfl, N4q, K4q, le_b4d, x4_0⟩
 have N4 := own_frl l4 N0 N4q
 have Z12 : n0 ≤ h4.size := Nat.le_trans Z2 K4q.1
 have g_b4d : n0 ≤ b4d := Nat.le_trans Z2 le_b4d
 have sz_b4d : h0.size ≤ b4d := Nat.le_trans K3.1 le_b4d
 have K4 := Keep.trans K3 K4q (allS (Or.inr sz_b1) all0)
 exact own_rR X4 hx Bd (D 4 rfl) e4 ⟨b1, b4d, rfl, N4, K4, sz_b1, sz_b4d, x4_0⟩
end Jvm.Pilot.@@N@@
namespace Jvm.Pilot.@@N@@
open Jvm Jvm.ClassFile Sem Op Lib Jvm.Free Jvm.Stand Jvm.LawKit Jvm.RoadKit Bundle Jvm.Pilot.@@N@@.Jvm.D
set_option maxRecDepth 65536
set_option maxHeartbeats 40000000
variable {l : Launch} {Z : State} {a0 : Array Value}

theorem own_good_inj {cs : List Int32} {q n : Nat} (hl : cs.length ≤ 4000) (a : own_good cs q) (b : own_good cs n) : q = n := by
  have e := own_inj (by have := a.1; omega) (by have := b.1; omega) (a.2.1.symm.trans b.2.1); omega
theorem own_TSg {cs : List Int32} {z : Int32} {n : Nat} (h : own_TS cs z) (g : own_good cs n) (hl : cs.length ≤ 4000) : z = Int32.ofNat n := by
  rcases h with ⟨-, h⟩ | ⟨q, rfl, hq⟩
  · exact absurd g (h n)
  · rw [own_good_inj hl hq g]
theorem own_TSn {cs : List Int32} {z : Int32} (h : own_TS cs z) (g : ∀ q, ¬ own_good cs q) : z = -1 := by
  rcases h with ⟨h, -⟩ | ⟨q, -, hq⟩
  · exact h
  · exact absurd hq (g q)
theorem own_l8 : (own_ch "SNAPSHOT").length = 8 := by decide +kernel
theorem own_l0 : (own_ch "").length = 0 := by decide +kernel
theorem own_snlo : ∀ c ∈ own_ch "SNAPSHOT", ¬ (255 : Int32) < c := by decide +kernel
theorem own_snrg : ∀ c ∈ own_ch "SNAPSHOT", ¬ c < 0 ∧ ¬ (65535 : Int32) < c := by decide +kernel
theorem own_ap {P : Int32 → Prop} {a b : List Int32} (ha : ∀ c ∈ a, P c) (hb : ∀ c ∈ b, P c) : ∀ c ∈ a ++ b, P c := fun c hc => (List.mem_append.mp hc).elim (ha c) (hb c)
theorem own_wap (a b : List Int32) : StrChars.Road.wideBytes (a ++ b) = StrChars.Road.wideBytes a ++ StrChars.Road.wideBytes b := by
  induction a with
  | nil => rfl
  | cons x a ih => simp [StrChars.Road.wideBytes, ih]
theorem d8 : ∀ x ∈ ([(0, .aload_n 0, 1), (1, .invokestatic 85, 3), (4, .istore_n 1, 1), (5, .iload_n 1, 1), (6, .ifCond .ge 7, 3), (9, .aload_n 0, 1), (10, .goto 27, 3), (37, .areturn, 1), (13, .new 89, 3), (16, .dup, 1), (17, .invokespecial 91, 3), (20, .aload_n 0, 1), (21, .iconst 0, 1), (22, .iload_n 1, 1), (23, .invokevirtual 92, 3), (26, .invokevirtual 96, 3), (29, .ldc 79, 2), (31, .invokevirtual 96, 3), (34, .invokevirtual 100, 3)] : List (Nat × Instr × Nat)), decode j8 x.1 = .ok x.2 := by decide +kernel
theorem own_pd38 : parseMethodDescriptor "(Ljava/lang/String;)I" = some ⟨[(.object "java/lang/String")], some .int⟩ := by decide +kernel
def Q_bvn (Z : State) (a1 : Addr) (t : Addr) (cs : List Int32) (zc : Int32) (fm : Value) (h0 : Heap) (n0 : Nat) (v : Option Value) (h : Heap) (L : List Loc) : Prop := v = some (.ref a1) ∧ Fr n0 L ∧ h = h0
theorem rm_bvn (hw : own_H a0 Z) (a1 : Addr) (t : Addr) (cs : List Int32) (zc : Int32) (fm : Value) (h0 : Heap) (n0 : Nat) (Z0 : n0 ≤ h0.size) (P0_ : own_Str Z h0 a1 t cs) (hno : ∀ q, ¬ own_good cs q) (SS : own_St Z h0 zc fm) : own_M l y8 j8 2 (some (.object "java/lang/String")) (own_R 7 0 0 97) #[(.ref a1)] Z h0 (Q_bvn Z a1 t cs zc fm h0 n0) := by
 refine own_body (plainFor_of_name own_pn5) (fun p e s m below meth c s₁ Bd hZ hx hby hml hown hnm X0 e0 => ?_)
 have hown : s.vm.findClass "com/example/lodepath/lodepath/MavenVersion" = some m.cls := hown
 have N0 := Fr.nil n0
 have D := own_dt hby d8
 refine own_cast (g' := mkF m 0 #[vr a1, vu] []) rfl ?_
 obtain ⟨kb, cd, Nb, vs, E_, Fv_, Fc_, V_, hco, hch, hlen⟩ := id P0_
 have hcd : cd = 0 ∨ cd = 1 := own_cd01 hco
 show own_G _ _ _ _ (s₁.setTop (mkF m 0 #[vr a1, vu] []))
 refine own_go (fun _ Kk => XS.aloadN X0.here hx rfl (D 0 rfl) rfl rfl Kk) ?_
 refine own_cS X0 hx hZ 0 hown (hw 43 rfl) (hw 44 rfl) (hw 41 rfl) (hw 45 rfl) (rm_tsat hw a1 t cs zc fm h0 n0 Z0 P0_ SS) e0 own_pd38 rfl (D 1 rfl) hml ?_
 rintro _ T1 _ _ X1 l1 ⟨z1, rfl, N1q, e1, x1_0⟩
 have N1 := own_frl l1 N0 N1q
 obtain rfl := own_TSn x1_0 hno
 refine own_go (fun _ Kk => XS.istoreN X1.here hx rfl (D 2 rfl) rfl (l' := #[vr a1, vi (-1)]) rfl (XS.iloadN X1.here hx rfl (D 3 rfl) rfl (XS.ifNo X1.here hx rfl (D 4 rfl) rfl ((if0 _ _).trans (by decide)) Kk))) ?_
 show own_G _ _ _ _ (T1.setTop (mkF m 9 #[vr a1, vi (-1)] []))
 refine own_go (fun _ Kk => XS.aloadN X1.here hx rfl (D 5 rfl) rfl rfl (XS.goto X1.here hx rfl (pc0 := 10) (pc' := 37) rfl (D 6 rfl) (by decide) (by decide) Kk)) ?_
 exact own_rR X1 hx Bd (D 7 rfl) e1 ⟨rfl, N1, rfl⟩
theorem efln0 (m : MethodId) (t : Addr) : entryFrame m #[(.ref t), (.int (0 : Int32)), (.int (0 : Int32))] 3 = mkF m 0 #[.val (.ref t), .val (.int (0 : Int32)), .val (.int (0 : Int32))] [] := by first | (simp [entryFrame, mkF, argsToLocals, Value.category]; done) | rfl | (cases fm <;> first | rfl | (simp [Value.isRef] at hfm; done))
def Q_ln0 (Z : State) (t : Addr) (h0 : Heap) (n0 : Nat) (v : Option Value) (h : Heap) (L : List Loc) : Prop := ∃ (x : (Addr)) (d : (Addr)), v = some (.ref x) ∧ Fr n0 L ∧ Keep h0 h [] ∧ (own_Str Z h x d (own_ch ""))
def K_ln0 (Z : State) (t : Addr) (h0 : Heap) (n0 : Nat) (s : State) (o : Outcome) (U' : State) : Prop := ∃ v L, o = .returned v ∧ Q_ln0 Z t h0 n0 v U'.heap L ∧ CHr Z consts_1 s.vm s.heap U'.vm U'.heap ∧ ReturnedEndW s o U' L 2 4
theorem rm_ln0 (hw : own_H a0 Z) (t : Addr) (h0 : Heap) (n0 : Nat) (Z0 : n0 ≤ h0.size) :
  MetFree l y29 (head1 (Jvm.Cond.code y29 jdk_43_method_47_code 3 (some (.object "java/lang/String")) :: []) (own_R 0 2 4 0)) (fun a U => a = #[(.ref t), (.int (0 : Int32)), (.int (0 : Int32))] ∧ Z.Warmed39 U.vm ∧ U.heap = h0 ∧ CHv Z consts_1 U.vm h0) (fun _ _ _ _ _ => True) (fun _ U o U' => ∃ v L, o = .returned v ∧ Q_ln0 Z t h0 n0 v U'.heap L ∧ CHr Z consts_1 U.vm U.heap U'.vm U'.heap ∧ ReturnedEndW U o U' L (own_R 0 2 4 0).cells (own_R 0 2 4 0).slots) := by
 refine MetFree.of_bodySF (plainFor_of_name own_pn3) hisR ?_
 intro p e s m args below meth c s₁ Bd hml0 hP hK
 obtain ⟨rfl, hZ, hh, hC⟩ := hP
 have hx := Bd.exec
 have hby := Bd.bytes
 have D := own_dt hby d29
 have hml : c.maxLocals = 3 := hml0
 have hown : s.vm.findClass "java/lang/StringLatin1" = some m.cls := findClass_of_methodNamed Bd.named
 have hnm := (name_of_methodNamed Bd.named Bd.method).1
 have X0 : Stand p l e (own_R 0 2 4 0) (s.setVm s.vm) m #[(.ref t), (.int (0 : Int32)), (.int (0 : Int32))] below meth c s₁ [] 0 0 := Stand.of_body Bd
 have e0 : s₁.heap = h0 := by rw [← hh, Bd.state]; rfl
 have N0 := Fr.nil n0
 show own_G p e below (K_ln0 Z t h0 n0 s) (s₁.setTop (entryFrame m #[(.ref t), (.int (0 : Int32)), (.int (0 : Int32))] 3))
 refine own_cast (efln0 m t) ?_
 have hZ : Z.Warmed39 (s.setVm s.vm).vm := hZ
 have hZi := hZ
 have hown : (s.setVm s.vm).vm.findClass "java/lang/StringLatin1" = some m.cls := hown
 have hS0 : s.Since s.vm s.heap.size := own_since s
 have hk0 : s.heap.size ≤ h0.size := Nat.le_of_eq (by rw [hh])
 have R0 := CHr.refl hC
 have hEL : EW Z a0 consts_1 := own_EW hw
 have wSt : ∀ a ∈ Bundle.stringAtoms, a.before a0 Z = true := own_wSt (own_hm hw)
 show own_G _ _ _ _ (s₁.setTop (mkF m 0 #[vr t, vi 0, vi 0] []))
 refine own_go (fun _ Kk => XS.iloadN X0.here hx rfl (D 0 rfl) rfl (XS.ifNo X0.here hx rfl (D 1 rfl) rfl ((if0 _ _).trans (by decide)) Kk)) ?_
 obtain ⟨a1, T1, h1, k1, b1, kb1, X1, e1, E1, hS1, hk1, hZ1, hown1, A1, Fc1, Fv1, V1, la1, lb1, C1, -, Sf1, st1⟩ := ldcCH (EL := consts_1) X0 hx hZ hown (hw 139 rfl) wSt e0 hS0 hk0 hEL (List.mem_of_getElem? (i := 2) rfl) R0.1 (vs := (own_bs "")) (z := (0 : Int32)) (own_lit (by decide +kernel)) (by decide) (by decide +kernel) (g := (mkF m 4 #[vr t, vi 0, vi 0] [])) rfl (D 13 rfl) (n := 0) (by decide +kernel) (by decide) (by decide) (by decide)
 refine own_go st1 ?_
 have R1 := CHr.trans R0 C1
 have Z2 : n0 ≤ h1.size := Nat.le_trans Z0 E1.1
 have K3 := Keep.ext (Keep.refl h0 []) E1
 have TT1 : own_Str Z h1 a1 b1 (own_ch "") := ⟨_, _, _, _, A1, Fv1, Fc1, V1, own_codA "" (by decide +kernel) (by decide +kernel), by decide +kernel, by decide +kernel⟩
 exact own_retRW X1 hS1 (by rw [e1]; exact hk1) hx Bd.notSynchronized Bd.returns rfl rfl (D 14 rfl) (fun U hU hV hF => ⟨_, _, rfl, (by rw [hU, e1]; exact ⟨a1, b1, rfl, N0, K3, TT1⟩), (by rw [hU, e1, hV, hh]; exact CHr.trans R1 (CHv.at X1 hZ1 hEL R1.1)), hF.1, hF.2.1, hF.2.2.1, hF.2.2.2.mono (by decide) (by decide)⟩)
theorem efss0 (m : MethodId) (a1 : Addr) (t : Addr) (cs : List Int32) (zc : Int32) (fm : Value) : entryFrame m #[(.ref a1), (.int (0 : Int32)), (.int (0 : Int32))] 5 = mkF m 0 #[.val (.ref a1), .val (.int (0 : Int32)), .val (.int (0 : Int32)), .unset, .unset] [] := by first | (simp [entryFrame, mkF, argsToLocals, Value.category]; done) | rfl | (cases fm <;> first | rfl | (simp [Value.isRef] at hfm; done))
def Q_ss0 (Z : State) (a1 : Addr) (t : Addr) (cs : List Int32) (zc : Int32) (fm : Value) (h0 : Heap) (n0 : Nat) (v : Option Value) (h : Heap) (L : List Loc) : Prop := ∃ (x : (Addr)) (d : (Addr)), v = some (.ref x) ∧ Fr n0 L ∧ Keep h0 h [] ∧ (own_Str Z h x d (own_ch ""))
def K_ss0 (Z : State) (a1 : Addr) (t : Addr) (cs : List Int32) (zc : Int32) (fm : Value) (h0 : Heap) (n0 : Nat) (s : State) (o : Outcome) (U' : State) : Prop := ∃ v L, o = .returned v ∧ Q_ss0 Z a1 t cs zc fm h0 n0 v U'.heap L ∧ CHr Z consts_1 s.vm s.heap U'.vm U'.heap ∧ ReturnedEndW s o U' L 2 4
theorem rm_ss0 (hw : own_H a0 Z) (a1 : Addr) (t : Addr) (cs : List Int32) (zc : Int32) (fm : Value) (h0 : Heap) (n0 : Nat) (Z0 : n0 ≤ h0.size) (P0_ : own_Str Z h0 a1 t cs) (hlo : ∀ c ∈ cs, ¬ (255 : Int32) < c) (hpl : 0 < cs.length) (SS : own_St Z h0 zc fm) :
  MetFree l y26 (head1 (Jvm.Cond.code y26 jdk_42_method_92_code 5 (some (.object "java/lang/String")) :: []) (own_R 2 2 4 29)) (fun a U => a = #[(.ref a1), (.int (0 : Int32)), (.int (0 : Int32))] ∧ Z.Warmed39 U.vm ∧ U.heap = h0 ∧ CHv Z consts_1 U.vm h0) (fun _ _ _ _ _ => True) (fun _ U o U' => ∃ v L, o = .returned v ∧ Q_ss0 Z a1 t cs zc fm h0 n0 v U'.heap L ∧ CHr Z consts_1 U.vm U.heap U'.vm U'.heap ∧ ReturnedEndW U o U' L (own_R 2 2 4 29).cells (own_R 2 2 4 29).slots) := by
 refine MetFree.of_bodySF (plainFor_of_name own_pn0) hisR ?_
 intro p e s m args below meth c s₁ Bd hml0 hP hK
 obtain ⟨rfl, hZ, hh, hC⟩ := hP
 have hx := Bd.exec
 have hby := Bd.bytes
 have D := own_dt hby d26
 have hml : c.maxLocals = 5 := hml0
 have hown : s.vm.findClass "java/lang/String" = some m.cls := findClass_of_methodNamed Bd.named
 have hnm := (name_of_methodNamed Bd.named Bd.method).1
 have X0 : Stand p l e (own_R 2 2 4 29) (s.setVm s.vm) m #[(.ref a1), (.int (0 : Int32)), (.int (0 : Int32))] below meth c s₁ [] 0 0 := Stand.of_body Bd
 have e0 : s₁.heap = h0 := by rw [← hh, Bd.state]; rfl
 have N0 := Fr.nil n0
 show own_G p e below (K_ss0 Z a1 t cs zc fm h0 n0 s) (s₁.setTop (entryFrame m #[(.ref a1), (.int (0 : Int32)), (.int (0 : Int32))] 5))
 refine own_cast (efss0 m a1 t cs zc fm) ?_
 have hZ : Z.Warmed39 (s.setVm s.vm).vm := hZ
 have hZi := hZ
 have hown : (s.setVm s.vm).vm.findClass "java/lang/String" = some m.cls := hown
 have hS0 : s.Since s.vm s.heap.size := own_since s
 have hk0 : s.heap.size ≤ h0.size := Nat.le_of_eq (by rw [hh])
 have R0 := CHr.refl hC
 have hEL : EW Z a0 consts_1 := own_EW hw
 have wSt : ∀ a ∈ Bundle.stringAtoms, a.before a0 Z = true := own_wSt (own_hm hw)
 obtain ⟨kb, cd, Nb, vs, E_, Fv_, Fc_, V_, hco, hch, hlen⟩ := id P0_
 have hcd : cd = 0 ∨ cd = 1 := own_cd01 hco
 
 obtain ⟨rfl, rfl, rfl⟩ := own_isL hco hlo
 show own_G _ _ _ _ (s₁.setTop (mkF m 0 #[vr a1, vi 0, vi 0, vu, vu] []))
 refine own_go (fun _ Kk => XS.aloadN X0.here hx rfl (D 0 rfl) rfl rfl Kk) ?_
 refine own_cV X0 hx hZ 0 hown (hw 51 rfl) (hw 52 rfl) (hw 54 rfl) (hw 53 rfl) (hw 55 rfl) (hw 12 rfl) (rm_len hw a1 t cs zc fm h0 n0 Z0 P0_ SS) e0 E_ own_pd10 rfl (D 1 rfl) hml ?_
 rintro _ T1 _ _ X1 l1 ⟨rfl, N1q, e1⟩
 have N1 := own_frl l1 N0 N1q
 refine own_go (fun _ Kk => XS.istoreN X1.here hx rfl (D 2 rfl) rfl (l' := #[vr a1, vi 0, vi 0, vi (Int32.ofNat cs.length), vu]) rfl (XS.iloadN X1.here hx rfl (D 3 rfl) rfl (XS.iloadN X1.here hx rfl (D 4 rfl) rfl Kk))) ?_
 show own_G _ _ _ _ (T1.setTop (mkF m 7 #[vr a1, vi 0, vi 0, vi (Int32.ofNat cs.length), vu] [.int 0, .int 0]))
 refine own_go (fun _ Kk => XS.iloadN X1.here hx rfl (D 5 rfl) rfl Kk) ?_
 refine own_cS X1 hx hZ 0 hown (hw 130 rfl) (hw 131 rfl) (hw 12 rfl) (hw 132 rfl) (rm_cbe hw (0 : Int32) (Int32.ofNat cs.length) zc fm h0 n0 Z0 (by decide) (own_onn _ (by omega)) SS) e1 own_pd26 rfl (D 6 rfl) hml ?_
 rintro _ T2 _ _ X2 l2 ⟨rfl, N2q, e2⟩
 have N2 := own_frl l2 N1 N2q
 refine own_go (fun _ Kk => XS.iloadN X2.here hx rfl (D 7 rfl) rfl (XS.ifNo X2.here hx rfl (D 8 rfl) rfl ((if0 _ _).trans (by decide)) (XS.iloadN X2.here hx rfl (D 9 rfl) rfl Kk))) ?_
 show own_G _ _ _ _ (T2.setTop (mkF m 16 #[vr a1, vi 0, vi 0, vi (Int32.ofNat cs.length), vu] [.int 0]))
 refine own_go (fun _ Kk => XS.iloadN X2.here hx rfl (D 10 rfl) rfl (XS.icmpYes X2.here hx rfl (pc0 := 17) (pc' := 22) rfl (D 11 rfl) rfl (feq (fun q => own_ltz hpl (by omega) q.symm)).2 (by decide) (by decide) (XS.iloadN X2.here hx rfl (D 12 rfl) rfl (XS.iloadN X2.here hx rfl (D 13 rfl) rfl (XS.isub X2.here hx rfl (D 14 rfl) rfl Kk))))) ?_
 show own_G _ _ _ _ (T2.setTop (mkF m 25 #[vr a1, vi 0, vi 0, vi (Int32.ofNat cs.length), vu] [.int ((0 : Int32) - (0 : Int32))]))
 rw [show ((0 : Int32) - (0 : Int32)) = (0 : Int32) from rfl]
 refine own_go (fun _ Kk => XS.istore X2.here hx rfl (D 15 rfl) rfl (l' := #[vr a1, vi 0, vi 0, vi (Int32.ofNat cs.length), vi 0]) rfl (XS.aloadN X2.here hx rfl (D 16 rfl) rfl rfl Kk)) ?_
 refine own_cV X2 hx hZ 0 hown (hw 66 rfl) (hw 67 rfl) (hw 69 rfl) (hw 68 rfl) (hw 70 rfl) (hw 12 rfl) (rm_lat hw a1 zc fm h0 n0 Z0 Fc_ SS) e2 E_ own_pd6 rfl (D 17 rfl) hml ?_
 rintro _ T3 _ _ X3 l3 ⟨rfl, N3q, e3⟩
 have N3 := own_frl l3 N2 N3q
 refine own_go (fun _ Kk => XS.ifNo X3.here hx rfl (D 18 rfl) rfl ((if0 _ _).trans (by decide)) Kk) ?_
 show own_G _ _ _ _ (T3.setTop (mkF m 34 #[vr a1, vi 0, vi 0, vi (Int32.ofNat cs.length), vi 0] []))
 refine own_go (fun _ Kk => XS.aloadN X3.here hx rfl (D 19 rfl) rfl rfl Kk) ?_
 refine own_gF X3 hx hZ hown (hw 37 rfl) e3 Fv_ (D 20 rfl) (fun T4 X4 e4 => ?_)
 refine own_go (fun _ Kk => XS.iloadN X4.here hx rfl (D 21 rfl) rfl (XS.iload X4.here hx rfl (D 22 rfl) rfl Kk)) ?_
 obtain ⟨_, _, ⟨T5, L5, k5, n5⟩, -, Y5, hs5, hg5, ⟨Lc5, hQ5, l5, y5, z5, C5⟩, st5⟩ := callSS X4 hx (y := y29) hown (mvT hZ (hw 136 rfl)) (mvT hZ (hw 137 rfl)) (mvT hZ (hw 73 rfl)) (mvT hZ (hw 138 rfl)) (by decide) (backOfSH (W := 0) (rm_ln0 hw t h0 n0 Z0 ) hZ (hw 138 rfl) (hw 73 rfl) (by decide) (by decide) hEL R0.1) (g := (mkF m 41 #[vr a1, vi 0, vi 0, vi (Int32.ofNat cs.length), vi 0] [.int 0, .int 0, .ref t])) rfl (by rw [hml]; rfl) (argsL := [(.ref t), (.int (0 : Int32)), (.int (0 : Int32))]) (rest := []) (lenOf own_pd27 rfl) rfl (by show 2 * 0 + _ ≤ _; exact Nat.le_of_eq rfl) (D 23 rfl) (fun _ _ => ⟨rfl, e4, (by decide : 0 + 2 ≤ _), (by decide : 0 + 4 ≤ _)⟩)
 dsimp only [Pt.U, Pt.locs, Pt.cells, Pt.slots] at Y5 hs5 hg5 l5 y5 z5 C5 st5 hQ5
 subst y5 z5
 obtain ⟨X5, hS5, hZ5, hown5⟩ := rebS hS0 (Nat.le_trans hk0 (Nat.le_of_eq (congrArg Array.size e4).symm)) Y5 hs5 hg5 hZ hown
 obtain ⟨h5, e5⟩ : ∃ z, T5.heap = z := ⟨_, rfl⟩
 rw [e5] at hQ5 hS5 C5
 have R5 := CHr.trans R0 C5
 have hk5 : h5.size ≤ h5.size := Nat.le_refl _
 obtain ⟨x5, d5, rfl, N5q, K5q, x5_0⟩ := hQ5
 have N5 := own_frl l5 N3 N5q
 have Z6 : n0 ≤ h5.size := Nat.le_trans Z0 K5q.1
 have K5 := Keep.trans (Keep.refl h0 []) K5q all0
 refine own_tr st5 ?_
 show own_G _ _ _ _ (T5.setTop (mkF m 44 #[vr a1, vi 0, vi 0, vi (Int32.ofNat cs.length), vi 0] [.ref x5]))
 refine own_go (fun _ Kk => XS.goto X5.here hx rfl (pc0 := 44) (pc' := 57) rfl (D 24 rfl) (by decide) (by decide) Kk) ?_
 exact own_retRW X5 hS5 (by rw [e5]; exact hk5) hx Bd.notSynchronized Bd.returns rfl rfl (D 25 rfl) (fun U hU hV hF => ⟨_, _, rfl, (by rw [hU, e5]; exact ⟨x5, d5, rfl, N5, K5, x5_0⟩), (by rw [hU, e5, hV, hh]; exact CHr.trans R5 (CHv.at X5 hZ5 hEL R5.1)), hF.1, hF.2.1, hF.2.2.1, hF.2.2.2.mono (by decide) (by decide)⟩)
theorem own_pd39 : parseMethodDescriptor "(II)Ljava/lang/String;" = some ⟨[.int, .int], some (.object "java/lang/String")⟩ := by decide +kernel
theorem own_pd40 : parseMethodDescriptor "(Ljava/lang/String;)Ljava/lang/StringBuilder;" = some ⟨[(.object "java/lang/String")], some (.object "java/lang/StringBuilder")⟩ := by decide +kernel
theorem own_pd41 : parseMethodDescriptor "()Ljava/lang/String;" = some ⟨[], some (.object "java/lang/String")⟩ := by decide +kernel
theorem efbvL (m : MethodId) (a1 : Addr) : entryFrame m #[(.ref a1)] 2 = mkF m 0 #[.val (.ref a1), .unset] [] := by first | (simp [entryFrame, mkF, argsToLocals, Value.category]; done) | rfl | (cases fm <;> first | rfl | (simp [Value.isRef] at hfm; done))
def Q_bvL (Z : State) (a1 : Addr) (t : Addr) (cs : List Int32) (i : Nat) (zc : Int32) (fm : Value) (h0 : Heap) (n0 : Nat) (v : Option Value) (h : Heap) (L : List Loc) : Prop := ∃ (x : (Addr)) (d : (Addr)), v = some (.ref x) ∧ Fr n0 L ∧ Keep h0 h [] ∧ (own_Str Z h x d (cs.take i ++ (own_ch "SNAPSHOT")))
def K_bvL (Z : State) (a1 : Addr) (t : Addr) (cs : List Int32) (i : Nat) (zc : Int32) (fm : Value) (h0 : Heap) (n0 : Nat) (s : State) (o : Outcome) (U' : State) : Prop := ∃ v L, o = .returned v ∧ Q_bvL Z a1 t cs i zc fm h0 n0 v U'.heap L ∧ CHr Z consts_1 s.vm s.heap U'.vm U'.heap ∧ ReturnedEndW s o U' L 11 252
theorem rm_bvL (hw : own_H a0 Z) (a1 : Addr) (t : Addr) (cs : List Int32) (i : Nat) (zc : Int32) (fm : Value) (h0 : Heap) (n0 : Nat) (Z0 : n0 ≤ h0.size) (P0_ : own_Str Z h0 a1 t cs) (hgd : own_good cs i) (hil : i < cs.length) (hi2 : i ≤ 2) (hpos : 0 < i) (hlo : ∀ c ∈ cs, ¬ (255 : Int32) < c) (SS : own_St Z h0 zc fm) :
  MetFree l y8 (head1 (Jvm.Cond.code y8 prog_2_method_5_code 2 (some (.object "java/lang/String")) :: []) (own_R 10 11 252 143)) (fun a U => a = #[(.ref a1)] ∧ Z.Warmed39 U.vm ∧ U.heap = h0 ∧ CHv Z consts_1 U.vm h0) (fun _ _ _ _ _ => True) (fun _ U o U' => ∃ v L, o = .returned v ∧ Q_bvL Z a1 t cs i zc fm h0 n0 v U'.heap L ∧ CHr Z consts_1 U.vm U.heap U'.vm U'.heap ∧ ReturnedEndW U o U' L (own_R 10 11 252 143).cells (own_R 10 11 252 143).slots) := by
 refine MetFree.of_bodySF (plainFor_of_name own_pn5) hisR ?_
 intro p e s m args below meth c s₁ Bd hml0 hP hK
 obtain ⟨rfl, hZ, hh, hC⟩ := hP
 have hx := Bd.exec
 have hby := Bd.bytes
 have D := own_dt hby d8
 have hml : c.maxLocals = 2 := hml0
 have hown : s.vm.findClass "com/example/lodepath/lodepath/MavenVersion" = some m.cls := findClass_of_methodNamed Bd.named
 have hnm := (name_of_methodNamed Bd.named Bd.method).1
 have X0 : Stand p l e (own_R 10 11 252 143) (s.setVm s.vm) m #[(.ref a1)] below meth c s₁ [] 0 0 := Stand.of_body Bd
 have e0 : s₁.heap = h0 := by rw [← hh, Bd.state]; rfl
 have N0 := Fr.nil n0
 show own_G p e below (K_bvL Z a1 t cs i zc fm h0 n0 s) (s₁.setTop (entryFrame m #[(.ref a1)] 2))
 refine own_cast (efbvL m a1) ?_
 have hZ : Z.Warmed39 (s.setVm s.vm).vm := hZ
 have hZi := hZ
 have hown : (s.setVm s.vm).vm.findClass "com/example/lodepath/lodepath/MavenVersion" = some m.cls := hown
 have hS0 : s.Since s.vm s.heap.size := own_since s
 have hk0 : s.heap.size ≤ h0.size := Nat.le_of_eq (by rw [hh])
 have R0 := CHr.refl hC
 have hEL : EW Z a0 consts_1 := own_EW hw
 have wSt : ∀ a ∈ Bundle.stringAtoms, a.before a0 Z = true := own_wSt (own_hm hw)
 obtain ⟨kb, cd, Nb, vs, E_, Fv_, Fc_, V_, hco, hch, hlen⟩ := id P0_
 have hcd : cd = 0 ∨ cd = 1 := own_cd01 hco
 show own_G _ _ _ _ (s₁.setTop (mkF m 0 #[vr a1, vu] []))
 refine own_go (fun _ Kk => XS.aloadN X0.here hx rfl (D 0 rfl) rfl rfl Kk) ?_
 refine own_cS X0 hx hZ 0 hown (hw 43 rfl) (hw 44 rfl) (hw 41 rfl) (hw 45 rfl) (rm_tsat hw a1 t cs zc fm h0 n0 Z0 P0_ SS) e0 own_pd38 rfl (D 1 rfl) hml ?_
 rintro _ T1 _ _ X1 l1 ⟨z1, rfl, N1q, e1, x1_0⟩
 have N1 := own_frl l1 N0 N1q
 obtain rfl := own_TSg x1_0 hgd hlen
 refine own_go (fun _ Kk => XS.istoreN X1.here hx rfl (D 2 rfl) rfl (l' := #[vr a1, vi (Int32.ofNat i)]) rfl (XS.iloadN X1.here hx rfl (D 3 rfl) rfl (XS.ifYes X1.here hx rfl (pc0 := 6) (pc' := 13) rfl (D 4 rfl) rfl ((if0 _ _).trans (flt (own_onn i (by omega))).2.1) (by decide) (by decide) Kk))) ?_
 show own_G _ _ _ _ (T1.setTop (mkF m 13 #[vr a1, vi (Int32.ofNat i)] []))
 obtain ⟨T2, h2, X2, e2, E2, A2, D2, -, st2⟩ := newO X1 hx hZ hown (hw 107 rfl) (hw 108 rfl) (hw 109 rfl) e1 (g := (mkF m 13 #[vr a1, vi (Int32.ofNat i)] [])) rfl (D 8 rfl) (by decide) (by decide)
 obtain ⟨b2, g2⟩ : ∃ z, z = h0.size := ⟨_, rfl⟩
 rw [← g2] at A2 D2 st2
 refine own_go st2 ?_
 have g_b2 : n0 ≤ b2 := Nat.le_trans Z0 (Nat.le_of_eq g2.symm)
 have R3 := CHr.trans R0 (CHr.ext E2 R0.1)
 have hk3 := Nat.le_trans hk0 E2.1
 have Z4 : n0 ≤ h2.size := Nat.le_trans Z0 E2.1
 have sz_b2 : h0.size ≤ b2 := Nat.le_trans (Keep.refl h0 []).1 (Nat.le_of_eq g2.symm)
 have K5 := Keep.ext (Keep.refl h0 []) E2
 have F2_value : Fld Z h2 b2 "java/lang/AbstractStringBuilder" "value" "[B" .null := D2 (Or.inl (hw 122 rfl)) (ty := (.array .byte)) (by decide)
 have F2_coder : Fld Z h2 b2 "java/lang/AbstractStringBuilder" "coder" "B" (.int (0 : Int32)) := D2 (Or.inl (hw 124 rfl)) (ty := .byte) (by decide)
 have F2_count : Fld Z h2 b2 "java/lang/AbstractStringBuilder" "count" "I" (.int (0 : Int32)) := D2 (Or.inl (hw 154 rfl)) (ty := .int) (by decide)
 have F2_maybeLatin1 : Fld Z h2 b2 "java/lang/AbstractStringBuilder" "maybeLatin1" "Z" (.int (0 : Int32)) := D2 (Or.inl (hw 308 rfl)) (ty := .boolean) (by decide)
 refine own_go (fun _ Kk => XS.dup X2.here hx rfl (D 9 rfl) rfl rfl Kk) ?_
 have Q7 := (SS.ext E2)
 refine own_cI X2 hx hZ 1 hown (hw 110 rfl) (hw 111 rfl) (hw 112 rfl) (hw 109 rfl) (rm_sbi hw b2 zc fm h2 n0 Z4 F2_value F2_coder F2_count F2_maybeLatin1 A2 g_b2 Q7) e2 own_pd30 rfl (D 10 rfl) hml (fun _ T6 _ _ X6 l6 => own_hp ?_)
 rintro h6 e6 ⟨b6b, kb6, rfl, N6q, K6q, le_b6b, F6_0, F6_1, F6_2, F6_3, F6_4, F6_5, F6_6⟩
 have N6 := own_frl l6 N1 N6q
 have R8 := CHr.trans R3 (CHr.keep K6q (allS (Safe.exa hZ.alike A2 (by decide) (by decide)) all0) R3.1)
 have hk8 := Nat.le_trans hk3 K6q.1
 have Z9 : n0 ≤ h6.size := Nat.le_trans Z4 K6q.1
 have g_b6b : n0 ≤ b6b := Nat.le_trans Z4 le_b6b
 have sz_b6b : h0.size ≤ b6b := Nat.le_trans K5.1 le_b6b
 have K6 := Keep.trans K5 K6q (allS (Or.inr sz_b2) all0)
 refine own_go (fun _ Kk => XS.aloadN X6.here hx rfl (D 11 rfl) rfl rfl (XS.iconst X6.here hx rfl (D 12 rfl) Kk)) ?_
 show own_G _ _ _ _ (T6.setTop (mkF m 22 #[vr a1, vi (Int32.ofNat i)] [.int 0, .ref a1, .ref b2]))
 refine own_go (fun _ Kk => XS.iloadN X6.here hx rfl (D 13 rfl) rfl Kk) ?_
 have Q11 := ((P0_.ext E2).keep K6q (own_nc (Nat.ne_of_lt (Nat.lt_of_lt_of_le E_.lt (Nat.le_of_eq g2.symm))) List.not_mem_nil) (own_nc (Nat.ne_of_lt (Nat.lt_of_lt_of_le P0_.ltt (Nat.le_of_eq g2.symm))) List.not_mem_nil))
 have Q12 := (Q7.keep K6q (allS (fun cl hc => A2.nostat cl hc) all0))
 have Q13 := ((E_.ext E2).keep K6q)
 refine own_cV X6 hx hZ 1 hown (hw 125 rfl) (hw 126 rfl) (hw 128 rfl) (hw 127 rfl) (hw 129 rfl) (hw 12 rfl) (rm_ssL hw a1 t cs i zc fm h6 n0 Z9 Q11 hpos (by omega) hil hlo Q12) e6 Q13 own_pd39 rfl (D 14 rfl) hml (fun _ T10 _ _ X10 l10 => own_hp ?_)
 rintro h10 e10 ⟨b10x, b10d, rfl, N10q, K10q, le_b10x, le_b10d, x10_0⟩
 have N10 := own_frl l10 N6 N10q
 have R14 := CHr.trans R8 (CHr.keep K10q all0 R8.1)
 have hk14 := Nat.le_trans hk8 K10q.1
 have Z15 : n0 ≤ h10.size := Nat.le_trans Z9 K10q.1
 have g_b10x : n0 ≤ b10x := Nat.le_trans Z9 le_b10x
 have sz_b10x : h0.size ≤ b10x := Nat.le_trans K6.1 le_b10x
 have g_b10d : n0 ≤ b10d := Nat.le_trans Z9 le_b10d
 have sz_b10d : h0.size ≤ b10d := Nat.le_trans K6.1 le_b10d
 have K10 := Keep.trans K6 K10q all0
 have Q17 := (F6_0.keep K10q List.not_mem_nil)
 have Q18 := (F6_1.keep K10q List.not_mem_nil)
 have Q19 := (F6_2.keep K10q List.not_mem_nil)
 have Q20 := (F6_3.keep K10q List.not_mem_nil)
 have Q21 := (F6_4.keep K10q)
 have Q22 := (F6_5.keep K10q List.not_mem_nil)
 have Q23 := (Q12.keep K10q all0)
 refine own_cV X10 hx hZ 0 hown (hw 142 rfl) (hw 143 rfl) (hw 145 rfl) (hw 144 rfl) (hw 146 rfl) (hw 109 rfl) (rm_sbL hw b2 b10x b10d (cs.take i) b6b kb6 [] 0 zc fm h10 n0 Z15 x10_0 Q17 Q18 Q19 Q20 Q21 Q22 g_b2 g_b6b (fun c hc => hlo c (List.mem_of_mem_take hc)) rfl (by rw [own_tkl hil]; omega) (Ne.symm (Nat.ne_of_lt (Nat.lt_of_lt_of_le A2.lt le_b6b))) Q23) e10 Q21 own_pd40 rfl (D 15 rfl) hml (fun _ T16 _ _ X16 l16 => own_hp ?_)
 rintro h16 e16 ⟨rfl, N16q, K16q, F16_0, F16_1, F16_2, F16_3, F16_4, F16_5⟩
 have N16 := own_frl l16 N10 N16q
 have R24 := CHr.trans R14 (CHr.keep K16q (allS (Safe.exa hZ.alike Q21 (by decide) (by decide)) (allS (Safe.keep K10q all0 R8.1 (Safe.keep K6q (allS (Safe.exa hZi.alike A2 (by decide) (by decide)) all0) R3.1 (Safe.new le_b6b))) all0)) R14.1)
 have hk24 := Nat.le_trans hk14 K16q.1
 have Z25 : n0 ≤ h16.size := Nat.le_trans Z15 K16q.1
 have K16 := Keep.trans K10 K16q (allS (Or.inr sz_b2) (allS (Or.inr sz_b6b) all0))
 obtain ⟨a26, T26, h26, k26, b26, kb26, X26, e26, E26, hS26, hk26, hZ26, hown26, A26, Fc26, Fv26, V26, la26, lb26, C26, -, Sf26, st26⟩ := ldcCH (EL := consts_1) X16 hx hZ hown (hw 180 rfl) wSt e16 hS0 hk24 hEL (List.mem_of_getElem? (i := 0) rfl) R24.1 (vs := (own_bs "SNAPSHOT")) (z := (8 : Int32)) (own_lit (by decide +kernel)) (by decide) (by decide +kernel) (g := (mkF m 29 #[vr a1, vi (Int32.ofNat i)] [.ref b2])) rfl (D 16 rfl) (n := 32) (by decide +kernel) (by decide) (by decide) (by decide)
 refine own_go st26 ?_
 have R26 := CHr.trans R24 C26
 have Z27 : n0 ≤ h26.size := Nat.le_trans Z25 E26.1
 have K28 := Keep.ext K16 E26
 have TT26 : own_Str Z h26 a26 b26 (own_ch "SNAPSHOT") := ⟨_, _, _, _, A26, Fv26, Fc26, V26, own_codA "SNAPSHOT" (by decide +kernel) (by decide +kernel), by decide +kernel, by decide +kernel⟩
 have Q30 := (F16_0.ext E26)
 have Q31 := (F16_1.ext E26)
 have Q32 := (F16_2.ext E26)
 have Q33 := (F16_3.ext E26)
 have Q34 := (F16_4.ext E26)
 have Q35 := (F16_5.ext E26)
 have Q36 := ((Q23.keep K16q (allS (fun cl hc => Q21.nostat cl hc) (allS (fun cl hc => (F6_6.keep K10q).nostat cl hc) all0))).ext E26)
 refine own_cV X26 hx hZ26 0 hown26 (hw 142 rfl) (hw 143 rfl) (hw 145 rfl) (hw 144 rfl) (hw 146 rfl) (hw 109 rfl) (rm_sbL hw b2 a26 b26 (own_ch "SNAPSHOT") b6b kb6 ([] ++ ((cs.take i).map fun c => Value.int (StrChars.lo8 c))) (0 + (cs.take i).length) zc fm h26 n0 Z27 TT26 Q30 Q31 Q32 Q33 Q34 Q35 g_b2 g_b6b own_snlo (by simp) (by rw [own_tkl hil, own_l8]; omega) (Ne.symm (Nat.ne_of_lt (Nat.lt_of_lt_of_le A2.lt le_b6b))) Q36) e26 Q34 own_pd40 rfl (D 17 rfl) hml (fun _ T29 _ _ X29 l29 => own_hp ?_)
 rintro h29 e29 ⟨rfl, N29q, K29q, F29_0, F29_1, F29_2, F29_3, F29_4, F29_5⟩
 have N29 := own_frl l29 N16 N29q
 have R37 := CHr.trans R26 (CHr.keep K29q (allS (Safe.exa hZ26.alike Q34 (by decide) (by decide)) (allS (CHr.safe C26 ((F6_6.keep K10q).keep K16q).lt (Safe.keep K16q (allS (Safe.exa hZi.alike Q21 (by decide) (by decide)) (allS (Safe.keep K10q all0 R8.1 (Safe.keep K6q (allS (Safe.exa hZi.alike A2 (by decide) (by decide)) all0) R3.1 (Safe.new le_b6b))) all0)) R14.1 (Safe.keep K10q all0 R8.1 (Safe.keep K6q (allS (Safe.exa hZi.alike A2 (by decide) (by decide)) all0) R3.1 (Safe.new le_b6b))))) all0)) R26.1)
 have hk37 := Nat.le_trans hk26 K29q.1
 have Z38 : n0 ≤ h29.size := Nat.le_trans Z27 K29q.1
 have K29 := Keep.trans K28 K29q (allS (Or.inr sz_b2) (allS (Or.inr sz_b6b) all0))
 have FC29 : Fld Z h29 b2 "java/lang/AbstractStringBuilder" "count" "I" (.int (Int32.ofNat (cs.take i ++ (own_ch "SNAPSHOT")).length)) := by have q := F29_2; simpa using q
 have VC29 : Arv Z h29 b6b kb6 .byte (16 : Int32) ((cs.take i ++ (own_ch "SNAPSHOT")).map fun c => Value.int (StrChars.lo8 c)) (.int 0) := by have q := F29_5; rw [List.map_append]; exact q
 show own_G _ _ _ _ (T29.setTop (mkF m 34 #[vr a1, vi (Int32.ofNat i)] [.ref b2]))
 have Q40 := (Q36.keep K29q (allS (fun cl hc => Q34.nostat cl hc) (allS (fun cl hc => (((F6_6.keep K10q).keep K16q).ext E26).nostat cl hc) all0)))
 refine own_cV X29 hx hZ26 0 hown26 (hw 181 rfl) (hw 182 rfl) (hw 184 rfl) (hw 183 rfl) (hw 185 rfl) (hw 109 rfl) (rm_toL hw b2 (cs.take i ++ (own_ch "SNAPSHOT")) b6b kb6 zc fm h29 n0 Z38 F29_0 F29_1 FC29 F29_3 F29_4 VC29 (own_ap (fun c hc => hch c (List.mem_of_mem_take hc)) own_snrg) (own_ap (fun c hc => hlo c (List.mem_of_mem_take hc)) own_snlo) (by rw [List.length_append, own_tkl hil, own_l8]; omega) Q40) e29 F29_4 own_pd41 rfl (D 18 rfl) hml (fun _ T39 _ _ X39 l39 => own_hp ?_)
 rintro h39 e39 ⟨b39x, b39d, rfl, N39q, K39q, le_b39x, le_b39d, x39_0⟩
 have N39 := own_frl l39 N29 N39q
 have R41 := CHr.trans R37 (CHr.keep K39q all0 R37.1)
 have hk41 := Nat.le_trans hk37 K39q.1
 have Z42 : n0 ≤ h39.size := Nat.le_trans Z38 K39q.1
 have g_b39x : n0 ≤ b39x := Nat.le_trans Z38 le_b39x
 have sz_b39x : h0.size ≤ b39x := Nat.le_trans K29.1 le_b39x
 have g_b39d : n0 ≤ b39d := Nat.le_trans Z38 le_b39d
 have sz_b39d : h0.size ≤ b39d := Nat.le_trans K29.1 le_b39d
 have K39 := Keep.trans K29 K39q all0
 exact own_retRW X39 hS26 (by rw [e39]; exact hk41) hx Bd.notSynchronized Bd.returns rfl rfl (D 7 rfl) (fun U hU hV hF => ⟨_, _, rfl, (by rw [hU, e39]; exact ⟨b39x, b39d, rfl, N39, K39, x39_0⟩), (by rw [hU, e39, hV, hh]; exact CHr.trans R41 (CHv.at X39 hZ26 hEL R41.1)), hF.1, hF.2.1, hF.2.2.1, hF.2.2.2.mono (by decide) (by decide)⟩)
theorem efbv0 (m : MethodId) (a1 : Addr) : entryFrame m #[(.ref a1)] 2 = mkF m 0 #[.val (.ref a1), .unset] [] := by first | (simp [entryFrame, mkF, argsToLocals, Value.category]; done) | rfl | (cases fm <;> first | rfl | (simp [Value.isRef] at hfm; done))
def Q_bv0 (Z : State) (a1 : Addr) (t : Addr) (cs : List Int32) (zc : Int32) (fm : Value) (h0 : Heap) (n0 : Nat) (v : Option Value) (h : Heap) (L : List Loc) : Prop := ∃ (x : (Addr)) (d : (Addr)), v = some (.ref x) ∧ Fr n0 L ∧ Keep h0 h [] ∧ (own_Str Z h x d (own_ch "" ++ (own_ch "SNAPSHOT")))
def K_bv0 (Z : State) (a1 : Addr) (t : Addr) (cs : List Int32) (zc : Int32) (fm : Value) (h0 : Heap) (n0 : Nat) (s : State) (o : Outcome) (U' : State) : Prop := ∃ v L, o = .returned v ∧ Q_bv0 Z a1 t cs zc fm h0 n0 v U'.heap L ∧ CHr Z consts_1 s.vm s.heap U'.vm U'.heap ∧ ReturnedEndW s o U' L 11 252
theorem rm_bv0 (hw : own_H a0 Z) (a1 : Addr) (t : Addr) (cs : List Int32) (zc : Int32) (fm : Value) (h0 : Heap) (n0 : Nat) (Z0 : n0 ≤ h0.size) (P0_ : own_Str Z h0 a1 t cs) (hgd : own_good cs 0) (hlo : ∀ c ∈ cs, ¬ (255 : Int32) < c) (SS : own_St Z h0 zc fm) :
  MetFree l y8 (head1 (Jvm.Cond.code y8 prog_2_method_5_code 2 (some (.object "java/lang/String")) :: []) (own_R 10 11 252 143)) (fun a U => a = #[(.ref a1)] ∧ Z.Warmed39 U.vm ∧ U.heap = h0 ∧ CHv Z consts_1 U.vm h0) (fun _ _ _ _ _ => True) (fun _ U o U' => ∃ v L, o = .returned v ∧ Q_bv0 Z a1 t cs zc fm h0 n0 v U'.heap L ∧ CHr Z consts_1 U.vm U.heap U'.vm U'.heap ∧ ReturnedEndW U o U' L (own_R 10 11 252 143).cells (own_R 10 11 252 143).slots) := by
 refine MetFree.of_bodySF (plainFor_of_name own_pn5) hisR ?_
 intro p e s m args below meth c s₁ Bd hml0 hP hK
 obtain ⟨rfl, hZ, hh, hC⟩ := hP
 have hx := Bd.exec
 have hby := Bd.bytes
 have D := own_dt hby d8
 have hml : c.maxLocals = 2 := hml0
 have hown : s.vm.findClass "com/example/lodepath/lodepath/MavenVersion" = some m.cls := findClass_of_methodNamed Bd.named
 have hnm := (name_of_methodNamed Bd.named Bd.method).1
 have X0 : Stand p l e (own_R 10 11 252 143) (s.setVm s.vm) m #[(.ref a1)] below meth c s₁ [] 0 0 := Stand.of_body Bd
 have e0 : s₁.heap = h0 := by rw [← hh, Bd.state]; rfl
 have N0 := Fr.nil n0
 show own_G p e below (K_bv0 Z a1 t cs zc fm h0 n0 s) (s₁.setTop (entryFrame m #[(.ref a1)] 2))
 refine own_cast (efbv0 m a1) ?_
 have hZ : Z.Warmed39 (s.setVm s.vm).vm := hZ
 have hZi := hZ
 have hown : (s.setVm s.vm).vm.findClass "com/example/lodepath/lodepath/MavenVersion" = some m.cls := hown
 have hS0 : s.Since s.vm s.heap.size := own_since s
 have hk0 : s.heap.size ≤ h0.size := Nat.le_of_eq (by rw [hh])
 have R0 := CHr.refl hC
 have hEL : EW Z a0 consts_1 := own_EW hw
 have wSt : ∀ a ∈ Bundle.stringAtoms, a.before a0 Z = true := own_wSt (own_hm hw)
 obtain ⟨kb, cd, Nb, vs, E_, Fv_, Fc_, V_, hco, hch, hlen⟩ := id P0_
 have hcd : cd = 0 ∨ cd = 1 := own_cd01 hco
 show own_G _ _ _ _ (s₁.setTop (mkF m 0 #[vr a1, vu] []))
 refine own_go (fun _ Kk => XS.aloadN X0.here hx rfl (D 0 rfl) rfl rfl Kk) ?_
 refine own_cS X0 hx hZ 0 hown (hw 43 rfl) (hw 44 rfl) (hw 41 rfl) (hw 45 rfl) (rm_tsat hw a1 t cs zc fm h0 n0 Z0 P0_ SS) e0 own_pd38 rfl (D 1 rfl) hml ?_
 rintro _ T1 _ _ X1 l1 ⟨z1, rfl, N1q, e1, x1_0⟩
 have N1 := own_frl l1 N0 N1q
 obtain rfl := own_TSg x1_0 hgd hlen
 refine own_go (fun _ Kk => XS.istoreN X1.here hx rfl (D 2 rfl) rfl (l' := #[vr a1, vi 0]) rfl (XS.iloadN X1.here hx rfl (D 3 rfl) rfl (XS.ifYes X1.here hx rfl (pc0 := 6) (pc' := 13) rfl (D 4 rfl) rfl ((if0 _ _).trans (by decide)) (by decide) (by decide) Kk))) ?_
 show own_G _ _ _ _ (T1.setTop (mkF m 13 #[vr a1, vi 0] []))
 obtain ⟨T2, h2, X2, e2, E2, A2, D2, -, st2⟩ := newO X1 hx hZ hown (hw 107 rfl) (hw 108 rfl) (hw 109 rfl) e1 (g := (mkF m 13 #[vr a1, vi 0] [])) rfl (D 8 rfl) (by decide) (by decide)
 obtain ⟨b2, g2⟩ : ∃ z, z = h0.size := ⟨_, rfl⟩
 rw [← g2] at A2 D2 st2
 refine own_go st2 ?_
 have g_b2 : n0 ≤ b2 := Nat.le_trans Z0 (Nat.le_of_eq g2.symm)
 have R3 := CHr.trans R0 (CHr.ext E2 R0.1)
 have hk3 := Nat.le_trans hk0 E2.1
 have Z4 : n0 ≤ h2.size := Nat.le_trans Z0 E2.1
 have sz_b2 : h0.size ≤ b2 := Nat.le_trans (Keep.refl h0 []).1 (Nat.le_of_eq g2.symm)
 have K5 := Keep.ext (Keep.refl h0 []) E2
 have F2_value : Fld Z h2 b2 "java/lang/AbstractStringBuilder" "value" "[B" .null := D2 (Or.inl (hw 122 rfl)) (ty := (.array .byte)) (by decide)
 have F2_coder : Fld Z h2 b2 "java/lang/AbstractStringBuilder" "coder" "B" (.int (0 : Int32)) := D2 (Or.inl (hw 124 rfl)) (ty := .byte) (by decide)
 have F2_count : Fld Z h2 b2 "java/lang/AbstractStringBuilder" "count" "I" (.int (0 : Int32)) := D2 (Or.inl (hw 154 rfl)) (ty := .int) (by decide)
 have F2_maybeLatin1 : Fld Z h2 b2 "java/lang/AbstractStringBuilder" "maybeLatin1" "Z" (.int (0 : Int32)) := D2 (Or.inl (hw 308 rfl)) (ty := .boolean) (by decide)
 refine own_go (fun _ Kk => XS.dup X2.here hx rfl (D 9 rfl) rfl rfl Kk) ?_
 have Q7 := (SS.ext E2)
 refine own_cI X2 hx hZ 1 hown (hw 110 rfl) (hw 111 rfl) (hw 112 rfl) (hw 109 rfl) (rm_sbi hw b2 zc fm h2 n0 Z4 F2_value F2_coder F2_count F2_maybeLatin1 A2 g_b2 Q7) e2 own_pd30 rfl (D 10 rfl) hml (fun _ T6 _ _ X6 l6 => own_hp ?_)
 rintro h6 e6 ⟨b6b, kb6, rfl, N6q, K6q, le_b6b, F6_0, F6_1, F6_2, F6_3, F6_4, F6_5, F6_6⟩
 have N6 := own_frl l6 N1 N6q
 have R8 := CHr.trans R3 (CHr.keep K6q (allS (Safe.exa hZ.alike A2 (by decide) (by decide)) all0) R3.1)
 have hk8 := Nat.le_trans hk3 K6q.1
 have Z9 : n0 ≤ h6.size := Nat.le_trans Z4 K6q.1
 have g_b6b : n0 ≤ b6b := Nat.le_trans Z4 le_b6b
 have sz_b6b : h0.size ≤ b6b := Nat.le_trans K5.1 le_b6b
 have K6 := Keep.trans K5 K6q (allS (Or.inr sz_b2) all0)
 refine own_go (fun _ Kk => XS.aloadN X6.here hx rfl (D 11 rfl) rfl rfl (XS.iconst X6.here hx rfl (D 12 rfl) Kk)) ?_
 show own_G _ _ _ _ (T6.setTop (mkF m 22 #[vr a1, vi 0] [.int 0, .ref a1, .ref b2]))
 refine own_go (fun _ Kk => XS.iloadN X6.here hx rfl (D 13 rfl) rfl Kk) ?_
 have Q11 := ((P0_.ext E2).keep K6q (own_nc (Nat.ne_of_lt (Nat.lt_of_lt_of_le E_.lt (Nat.le_of_eq g2.symm))) List.not_mem_nil) (own_nc (Nat.ne_of_lt (Nat.lt_of_lt_of_le P0_.ltt (Nat.le_of_eq g2.symm))) List.not_mem_nil))
 have Q12 := (Q7.keep K6q (allS (fun cl hc => A2.nostat cl hc) all0))
 have Q13 := ((E_.ext E2).keep K6q)
 obtain ⟨cq10, kq10, q10a, q10b, q10c⟩ := isOf hZ e6 Q13
 obtain ⟨_, _, ⟨T10, L10, k10, n10⟩, -, Y10, hs10, hg10, ⟨Lc10, hQ10, l10, y10, z10, C10⟩, st10⟩ := X6.virtualBackS hx (y := y26) (z := y26) hown (mvT hZ (hw 125 rfl)) (mvT hZ (hw 126 rfl)) (notFace_of_selects (args := #[]) (mvT hZ (hw 128 rfl))) (mvT hZ (hw 128 rfl)) (mvT hZ (hw 127 rfl)) (by decide) (backOfSH (W := 1) (rm_ss0 hw a1 t cs zc fm h6 n0 Z9 Q11 hlo (by have := hgd.1; omega) Q12) hZ (hw 129 rfl) (hw 12 rfl) (by decide) (by decide) hEL R8.1) q10a q10c (g := (mkF m 23 #[vr a1, vi 0] [.int 0, .int 0, .ref a1, .ref b2])) rfl (by rw [hml]; rfl) (Steps.refl _) (argsL := [(.int (0 : Int32)), (.int (0 : Int32))]) (rest := [(.ref b2)]) (lenOf own_pd39 rfl) rfl (by show 2 * 0 + _ ≤ _; exact Nat.le_of_eq rfl) (D 14 rfl) (fun _ _ => ⟨rfl, e6, (by decide : 2 + 2 ≤ _), (by decide : 20 + 4 ≤ _)⟩)
 dsimp only [Pt.U, Pt.locs, Pt.cells, Pt.slots] at Y10 hs10 hg10 l10 y10 z10 C10 st10 hQ10
 subst y10 z10
 obtain ⟨X10, hS10, hZ10, hown10⟩ := rebS hS0 (Nat.le_trans hk8 (Nat.le_of_eq (congrArg Array.size e6).symm)) Y10 hs10 hg10 hZ hown
 obtain ⟨h10, e10⟩ : ∃ z, T10.heap = z := ⟨_, rfl⟩
 rw [e10] at hQ10 hS10 C10
 have R10 := CHr.trans R8 C10
 have hk10 : h10.size ≤ h10.size := Nat.le_refl _
 obtain ⟨x10, d10, rfl, N10q, K10q, x10_0⟩ := hQ10
 have N10 := own_frl l10 N6 N10q
 have Z14 : n0 ≤ h10.size := Nat.le_trans Z9 K10q.1
 have K10 := Keep.trans K6 K10q all0
 refine own_tr st10 ?_
 have Q16 := (F6_0.keep K10q List.not_mem_nil)
 have Q17 := (F6_1.keep K10q List.not_mem_nil)
 have Q18 := (F6_2.keep K10q List.not_mem_nil)
 have Q19 := (F6_3.keep K10q List.not_mem_nil)
 have Q20 := (F6_4.keep K10q)
 have Q21 := (F6_5.keep K10q List.not_mem_nil)
 have Q22 := (Q12.keep K10q all0)
 refine own_cV X10 hx hZ10 0 hown10 (hw 142 rfl) (hw 143 rfl) (hw 145 rfl) (hw 144 rfl) (hw 146 rfl) (hw 109 rfl) (rm_sbL hw b2 x10 d10 (own_ch "") b6b kb6 [] 0 zc fm h10 n0 Z14 x10_0 Q16 Q17 Q18 Q19 Q20 Q21 g_b2 g_b6b (by decide +kernel) rfl (by decide +kernel) (Ne.symm (Nat.ne_of_lt (Nat.lt_of_lt_of_le A2.lt le_b6b))) Q22) e10 Q20 own_pd40 rfl (D 15 rfl) hml (fun _ T15 _ _ X15 l15 => own_hp ?_)
 rintro h15 e15 ⟨rfl, N15q, K15q, F15_0, F15_1, F15_2, F15_3, F15_4, F15_5⟩
 have N15 := own_frl l15 N10 N15q
 have R23 := CHr.trans R10 (CHr.keep K15q (allS (Safe.exa hZ10.alike Q20 (by decide) (by decide)) (allS (CHr.safe C10 F6_6.lt (Safe.keep K6q (allS (Safe.exa hZi.alike A2 (by decide) (by decide)) all0) R3.1 (Safe.new le_b6b))) all0)) R10.1)
 have hk23 := Nat.le_trans hk10 K15q.1
 have Z24 : n0 ≤ h15.size := Nat.le_trans Z14 K15q.1
 have K15 := Keep.trans K10 K15q (allS (Or.inr sz_b2) (allS (Or.inr sz_b6b) all0))
 obtain ⟨a25, T25, h25, k25, b25, kb25, X25, e25, E25, hS25, hk25, hZ25, hown25, A25, Fc25, Fv25, V25, la25, lb25, C25, -, Sf25, st25⟩ := ldcCH (EL := consts_1) X15 hx hZ10 hown10 (hw 180 rfl) wSt e15 hS10 hk23 hEL (List.mem_of_getElem? (i := 0) rfl) R23.1 (vs := (own_bs "SNAPSHOT")) (z := (8 : Int32)) (own_lit (by decide +kernel)) (by decide) (by decide +kernel) (g := (mkF m 29 #[vr a1, vi 0] [.ref b2])) rfl (D 16 rfl) (n := 32) (by decide +kernel) (by decide) (by decide) (by decide)
 refine own_go st25 ?_
 have R25 := CHr.trans R23 C25
 have Z26 : n0 ≤ h25.size := Nat.le_trans Z24 E25.1
 have K27 := Keep.ext K15 E25
 have TT25 : own_Str Z h25 a25 b25 (own_ch "SNAPSHOT") := ⟨_, _, _, _, A25, Fv25, Fc25, V25, own_codA "SNAPSHOT" (by decide +kernel) (by decide +kernel), by decide +kernel, by decide +kernel⟩
 have Q29 := (F15_0.ext E25)
 have Q30 := (F15_1.ext E25)
 have Q31 := (F15_2.ext E25)
 have Q32 := (F15_3.ext E25)
 have Q33 := (F15_4.ext E25)
 have Q34 := (F15_5.ext E25)
 have Q35 := ((Q22.keep K15q (allS (fun cl hc => Q20.nostat cl hc) (allS (fun cl hc => (F6_6.keep K10q).nostat cl hc) all0))).ext E25)
 refine own_cV X25 hx hZ25 0 hown25 (hw 142 rfl) (hw 143 rfl) (hw 145 rfl) (hw 144 rfl) (hw 146 rfl) (hw 109 rfl) (rm_sbL hw b2 a25 b25 (own_ch "SNAPSHOT") b6b kb6 ([] ++ ((own_ch "").map fun c => Value.int (StrChars.lo8 c))) (0 + (own_ch "").length) zc fm h25 n0 Z26 TT25 Q29 Q30 Q31 Q32 Q33 Q34 g_b2 g_b6b own_snlo (by simp) (by rw [own_l0, own_l8]; decide) (Ne.symm (Nat.ne_of_lt (Nat.lt_of_lt_of_le A2.lt le_b6b))) Q35) e25 Q33 own_pd40 rfl (D 17 rfl) hml (fun _ T28 _ _ X28 l28 => own_hp ?_)
 rintro h28 e28 ⟨rfl, N28q, K28q, F28_0, F28_1, F28_2, F28_3, F28_4, F28_5⟩
 have N28 := own_frl l28 N15 N28q
 have R36 := CHr.trans R25 (CHr.keep K28q (allS (Safe.exa hZ25.alike Q33 (by decide) (by decide)) (allS (CHr.safe C25 ((F6_6.keep K10q).keep K15q).lt (Safe.keep K15q (allS (Safe.exa hZ10.alike Q20 (by decide) (by decide)) (allS (CHr.safe C10 F6_6.lt (Safe.keep K6q (allS (Safe.exa hZi.alike A2 (by decide) (by decide)) all0) R3.1 (Safe.new le_b6b))) all0)) R10.1 (CHr.safe C10 F6_6.lt (Safe.keep K6q (allS (Safe.exa hZi.alike A2 (by decide) (by decide)) all0) R3.1 (Safe.new le_b6b))))) all0)) R25.1)
 have hk36 := Nat.le_trans hk25 K28q.1
 have Z37 : n0 ≤ h28.size := Nat.le_trans Z26 K28q.1
 have K28 := Keep.trans K27 K28q (allS (Or.inr sz_b2) (allS (Or.inr sz_b6b) all0))
 have FC28 : Fld Z h28 b2 "java/lang/AbstractStringBuilder" "count" "I" (.int (Int32.ofNat (own_ch "" ++ (own_ch "SNAPSHOT")).length)) := by have q := F28_2; simpa using q
 have VC28 : Arv Z h28 b6b kb6 .byte (16 : Int32) ((own_ch "" ++ (own_ch "SNAPSHOT")).map fun c => Value.int (StrChars.lo8 c)) (.int 0) := by have q := F28_5; rw [List.map_append]; exact q
 show own_G _ _ _ _ (T28.setTop (mkF m 34 #[vr a1, vi 0] [.ref b2]))
 have Q39 := (Q35.keep K28q (allS (fun cl hc => Q33.nostat cl hc) (allS (fun cl hc => (((F6_6.keep K10q).keep K15q).ext E25).nostat cl hc) all0)))
 refine own_cV X28 hx hZ25 0 hown25 (hw 181 rfl) (hw 182 rfl) (hw 184 rfl) (hw 183 rfl) (hw 185 rfl) (hw 109 rfl) (rm_toL hw b2 (own_ch "" ++ (own_ch "SNAPSHOT")) b6b kb6 zc fm h28 n0 Z37 F28_0 F28_1 FC28 F28_3 F28_4 VC28 (own_ap (by decide +kernel) own_snrg) (own_ap (by decide +kernel) own_snlo) (by decide +kernel) Q39) e28 F28_4 own_pd41 rfl (D 18 rfl) hml (fun _ T38 _ _ X38 l38 => own_hp ?_)
 rintro h38 e38 ⟨b38x, b38d, rfl, N38q, K38q, le_b38x, le_b38d, x38_0⟩
 have N38 := own_frl l38 N28 N38q
 have R40 := CHr.trans R36 (CHr.keep K38q all0 R36.1)
 have hk40 := Nat.le_trans hk36 K38q.1
 have Z41 : n0 ≤ h38.size := Nat.le_trans Z37 K38q.1
 have g_b38x : n0 ≤ b38x := Nat.le_trans Z37 le_b38x
 have sz_b38x : h0.size ≤ b38x := Nat.le_trans K28.1 le_b38x
 have g_b38d : n0 ≤ b38d := Nat.le_trans Z37 le_b38d
 have sz_b38d : h0.size ≤ b38d := Nat.le_trans K28.1 le_b38d
 have K38 := Keep.trans K28 K38q all0
 exact own_retRW X38 hS25 (by rw [e38]; exact hk40) hx Bd.notSynchronized Bd.returns rfl rfl (D 7 rfl) (fun U hU hV hF => ⟨_, _, rfl, (by rw [hU, e38]; exact ⟨b38x, b38d, rfl, N38, K38, x38_0⟩), (by rw [hU, e38, hV, hh]; exact CHr.trans R40 (CHv.at X38 hZ25 hEL R40.1)), hF.1, hF.2.1, hF.2.2.1, hF.2.2.2.mono (by decide) (by decide)⟩)
theorem efbvU (m : MethodId) (a1 : Addr) : entryFrame m #[(.ref a1)] 2 = mkF m 0 #[.val (.ref a1), .unset] [] := by first | (simp [entryFrame, mkF, argsToLocals, Value.category]; done) | rfl | (cases fm <;> first | rfl | (simp [Value.isRef] at hfm; done))
def Q_bvU (Z : State) (a1 : Addr) (t : Addr) (cs : List Int32) (i : Nat) (zc : Int32) (fm : Value) (h0 : Heap) (n0 : Nat) (v : Option Value) (h : Heap) (L : List Loc) : Prop := ∃ (x : (Addr)) (d : (Addr)), v = some (.ref x) ∧ Fr n0 L ∧ Keep h0 h [] ∧ (own_Str Z h x d (cs.take i ++ (own_ch "SNAPSHOT")))
def K_bvU (Z : State) (a1 : Addr) (t : Addr) (cs : List Int32) (i : Nat) (zc : Int32) (fm : Value) (h0 : Heap) (n0 : Nat) (s : State) (o : Outcome) (U' : State) : Prop := ∃ v L, o = .returned v ∧ Q_bvU Z a1 t cs i zc fm h0 n0 v U'.heap L ∧ CHr Z consts_1 s.vm s.heap U'.vm U'.heap ∧ ReturnedEndW s o U' L 11 252
theorem rm_bvU (hw : own_H a0 Z) (a1 : Addr) (t : Addr) (cs : List Int32) (i : Nat) (zc : Int32) (fm : Value) (h0 : Heap) (n0 : Nat) (Z0 : n0 ≤ h0.size) (P0_ : own_Str Z h0 a1 t cs) (hgd : own_good cs i) (hil : i < cs.length) (hi2 : i ≤ 2) (hpos : 0 < i) (hgt : (255 : Int32) < cs.getD 0 0) (SS : own_St Z h0 zc fm) :
  MetFree l y8 (head1 (Jvm.Cond.code y8 prog_2_method_5_code 2 (some (.object "java/lang/String")) :: []) (own_R 10 11 252 143)) (fun a U => a = #[(.ref a1)] ∧ Z.Warmed39 U.vm ∧ U.heap = h0 ∧ CHv Z consts_1 U.vm h0) (fun _ _ _ _ _ => True) (fun _ U o U' => ∃ v L, o = .returned v ∧ Q_bvU Z a1 t cs i zc fm h0 n0 v U'.heap L ∧ CHr Z consts_1 U.vm U.heap U'.vm U'.heap ∧ ReturnedEndW U o U' L (own_R 10 11 252 143).cells (own_R 10 11 252 143).slots) := by
 refine MetFree.of_bodySF (plainFor_of_name own_pn5) hisR ?_
 intro p e s m args below meth c s₁ Bd hml0 hP hK
 obtain ⟨rfl, hZ, hh, hC⟩ := hP
 have hx := Bd.exec
 have hby := Bd.bytes
 have D := own_dt hby d8
 have hml : c.maxLocals = 2 := hml0
 have hown : s.vm.findClass "com/example/lodepath/lodepath/MavenVersion" = some m.cls := findClass_of_methodNamed Bd.named
 have hnm := (name_of_methodNamed Bd.named Bd.method).1
 have X0 : Stand p l e (own_R 10 11 252 143) (s.setVm s.vm) m #[(.ref a1)] below meth c s₁ [] 0 0 := Stand.of_body Bd
 have e0 : s₁.heap = h0 := by rw [← hh, Bd.state]; rfl
 have N0 := Fr.nil n0
 show own_G p e below (K_bvU Z a1 t cs i zc fm h0 n0 s) (s₁.setTop (entryFrame m #[(.ref a1)] 2))
 refine own_cast (efbvU m a1) ?_
 have hZ : Z.Warmed39 (s.setVm s.vm).vm := hZ
 have hZi := hZ
 have hown : (s.setVm s.vm).vm.findClass "com/example/lodepath/lodepath/MavenVersion" = some m.cls := hown
 have hS0 : s.Since s.vm s.heap.size := own_since s
 have hk0 : s.heap.size ≤ h0.size := Nat.le_of_eq (by rw [hh])
 have R0 := CHr.refl hC
 have hEL : EW Z a0 consts_1 := own_EW hw
 have wSt : ∀ a ∈ Bundle.stringAtoms, a.before a0 Z = true := own_wSt (own_hm hw)
 obtain ⟨kb, cd, Nb, vs, E_, Fv_, Fc_, V_, hco, hch, hlen⟩ := id P0_
 have hcd : cd = 0 ∨ cd = 1 := own_cd01 hco
 show own_G _ _ _ _ (s₁.setTop (mkF m 0 #[vr a1, vu] []))
 refine own_go (fun _ Kk => XS.aloadN X0.here hx rfl (D 0 rfl) rfl rfl Kk) ?_
 refine own_cS X0 hx hZ 0 hown (hw 43 rfl) (hw 44 rfl) (hw 41 rfl) (hw 45 rfl) (rm_tsat hw a1 t cs zc fm h0 n0 Z0 P0_ SS) e0 own_pd38 rfl (D 1 rfl) hml ?_
 rintro _ T1 _ _ X1 l1 ⟨z1, rfl, N1q, e1, x1_0⟩
 have N1 := own_frl l1 N0 N1q
 obtain rfl := own_TSg x1_0 hgd hlen
 refine own_go (fun _ Kk => XS.istoreN X1.here hx rfl (D 2 rfl) rfl (l' := #[vr a1, vi (Int32.ofNat i)]) rfl (XS.iloadN X1.here hx rfl (D 3 rfl) rfl (XS.ifYes X1.here hx rfl (pc0 := 6) (pc' := 13) rfl (D 4 rfl) rfl ((if0 _ _).trans (flt (own_onn i (by omega))).2.1) (by decide) (by decide) Kk))) ?_
 show own_G _ _ _ _ (T1.setTop (mkF m 13 #[vr a1, vi (Int32.ofNat i)] []))
 obtain ⟨T2, h2, X2, e2, E2, A2, D2, -, st2⟩ := newO X1 hx hZ hown (hw 107 rfl) (hw 108 rfl) (hw 109 rfl) e1 (g := (mkF m 13 #[vr a1, vi (Int32.ofNat i)] [])) rfl (D 8 rfl) (by decide) (by decide)
 obtain ⟨b2, g2⟩ : ∃ z, z = h0.size := ⟨_, rfl⟩
 rw [← g2] at A2 D2 st2
 refine own_go st2 ?_
 have g_b2 : n0 ≤ b2 := Nat.le_trans Z0 (Nat.le_of_eq g2.symm)
 have R3 := CHr.trans R0 (CHr.ext E2 R0.1)
 have hk3 := Nat.le_trans hk0 E2.1
 have Z4 : n0 ≤ h2.size := Nat.le_trans Z0 E2.1
 have sz_b2 : h0.size ≤ b2 := Nat.le_trans (Keep.refl h0 []).1 (Nat.le_of_eq g2.symm)
 have K5 := Keep.ext (Keep.refl h0 []) E2
 have F2_value : Fld Z h2 b2 "java/lang/AbstractStringBuilder" "value" "[B" .null := D2 (Or.inl (hw 122 rfl)) (ty := (.array .byte)) (by decide)
 have F2_coder : Fld Z h2 b2 "java/lang/AbstractStringBuilder" "coder" "B" (.int (0 : Int32)) := D2 (Or.inl (hw 124 rfl)) (ty := .byte) (by decide)
 have F2_count : Fld Z h2 b2 "java/lang/AbstractStringBuilder" "count" "I" (.int (0 : Int32)) := D2 (Or.inl (hw 154 rfl)) (ty := .int) (by decide)
 have F2_maybeLatin1 : Fld Z h2 b2 "java/lang/AbstractStringBuilder" "maybeLatin1" "Z" (.int (0 : Int32)) := D2 (Or.inl (hw 308 rfl)) (ty := .boolean) (by decide)
 refine own_go (fun _ Kk => XS.dup X2.here hx rfl (D 9 rfl) rfl rfl Kk) ?_
 have Q7 := (SS.ext E2)
 refine own_cI X2 hx hZ 1 hown (hw 110 rfl) (hw 111 rfl) (hw 112 rfl) (hw 109 rfl) (rm_sbi hw b2 zc fm h2 n0 Z4 F2_value F2_coder F2_count F2_maybeLatin1 A2 g_b2 Q7) e2 own_pd30 rfl (D 10 rfl) hml (fun _ T6 _ _ X6 l6 => own_hp ?_)
 rintro h6 e6 ⟨b6b, kb6, rfl, N6q, K6q, le_b6b, F6_0, F6_1, F6_2, F6_3, F6_4, F6_5, F6_6⟩
 have N6 := own_frl l6 N1 N6q
 have R8 := CHr.trans R3 (CHr.keep K6q (allS (Safe.exa hZ.alike A2 (by decide) (by decide)) all0) R3.1)
 have hk8 := Nat.le_trans hk3 K6q.1
 have Z9 : n0 ≤ h6.size := Nat.le_trans Z4 K6q.1
 have g_b6b : n0 ≤ b6b := Nat.le_trans Z4 le_b6b
 have sz_b6b : h0.size ≤ b6b := Nat.le_trans K5.1 le_b6b
 have K6 := Keep.trans K5 K6q (allS (Or.inr sz_b2) all0)
 refine own_go (fun _ Kk => XS.aloadN X6.here hx rfl (D 11 rfl) rfl rfl (XS.iconst X6.here hx rfl (D 12 rfl) Kk)) ?_
 show own_G _ _ _ _ (T6.setTop (mkF m 22 #[vr a1, vi (Int32.ofNat i)] [.int 0, .ref a1, .ref b2]))
 refine own_go (fun _ Kk => XS.iloadN X6.here hx rfl (D 13 rfl) rfl Kk) ?_
 have Q11 := ((P0_.ext E2).keep K6q (own_nc (Nat.ne_of_lt (Nat.lt_of_lt_of_le E_.lt (Nat.le_of_eq g2.symm))) List.not_mem_nil) (own_nc (Nat.ne_of_lt (Nat.lt_of_lt_of_le P0_.ltt (Nat.le_of_eq g2.symm))) List.not_mem_nil))
 have Q12 := (Q7.keep K6q (allS (fun cl hc => A2.nostat cl hc) all0))
 have Q13 := ((E_.ext E2).keep K6q)
 refine own_cV X6 hx hZ 1 hown (hw 125 rfl) (hw 126 rfl) (hw 128 rfl) (hw 127 rfl) (hw 129 rfl) (hw 12 rfl) (rm_ssU hw a1 t cs i zc fm h6 n0 Z9 Q11 hpos (by omega) hil hgt Q12) e6 Q13 own_pd39 rfl (D 14 rfl) hml (fun _ T10 _ _ X10 l10 => own_hp ?_)
 rintro h10 e10 ⟨b10x, b10d, rfl, N10q, K10q, le_b10x, le_b10d, x10_0⟩
 have N10 := own_frl l10 N6 N10q
 have R14 := CHr.trans R8 (CHr.keep K10q all0 R8.1)
 have hk14 := Nat.le_trans hk8 K10q.1
 have Z15 : n0 ≤ h10.size := Nat.le_trans Z9 K10q.1
 have g_b10x : n0 ≤ b10x := Nat.le_trans Z9 le_b10x
 have sz_b10x : h0.size ≤ b10x := Nat.le_trans K6.1 le_b10x
 have g_b10d : n0 ≤ b10d := Nat.le_trans Z9 le_b10d
 have sz_b10d : h0.size ≤ b10d := Nat.le_trans K6.1 le_b10d
 have K10 := Keep.trans K6 K10q all0
 have Q17 := (F6_0.keep K10q List.not_mem_nil)
 have Q18 := (F6_1.keep K10q List.not_mem_nil)
 have Q19 := (F6_2.keep K10q List.not_mem_nil)
 have Q20 := (F6_3.keep K10q List.not_mem_nil)
 have Q21 := (F6_4.keep K10q)
 have Q22 := (F6_5.keep K10q List.not_mem_nil)
 have Q23 := (Q12.keep K10q all0)
 refine own_cV X10 hx hZ 0 hown (hw 142 rfl) (hw 143 rfl) (hw 145 rfl) (hw 144 rfl) (hw 146 rfl) (hw 109 rfl) (rm_sbU hw b2 b10x b10d (cs.take i) b6b kb6 zc fm h10 n0 Z15 x10_0 Q17 Q18 Q19 Q20 Q21 Q22 g_b2 ⟨_, own_mem (i := 0) (by rw [own_tkl hil]; exact hpos), by rw [own_take0 hpos]; exact hgt⟩ (by rw [own_tkl hil]; omega) (Ne.symm (Nat.ne_of_lt (Nat.lt_of_lt_of_le A2.lt le_b6b))) (Ne.symm (Nat.ne_of_lt (Nat.lt_of_lt_of_le F6_4.lt le_b10x))) (Ne.symm (Nat.ne_of_lt (Nat.lt_of_lt_of_le F6_4.lt le_b10d))) Q23) e10 Q21 own_pd40 rfl (D 15 rfl) hml (fun _ T16 _ _ X16 l16 => own_hp ?_)
 rintro h16 e16 ⟨b16b2, k216, rfl, N16q, K16q, le_b16b2, F16_0, F16_1, F16_2, F16_3, F16_4, F16_5, F16_6⟩
 have N16 := own_frl l16 N10 N16q
 have R24 := CHr.trans R14 (CHr.keep K16q (allS (Safe.exa hZ.alike Q21 (by decide) (by decide)) all0) R14.1)
 have hk24 := Nat.le_trans hk14 K16q.1
 have Z25 : n0 ≤ h16.size := Nat.le_trans Z15 K16q.1
 have g_b16b2 : n0 ≤ b16b2 := Nat.le_trans Z15 le_b16b2
 have sz_b16b2 : h0.size ≤ b16b2 := Nat.le_trans K10.1 le_b16b2
 have K16 := Keep.trans K10 K16q (allS (Or.inr sz_b2) all0)
 obtain ⟨a26, T26, h26, k26, b26, kb26, X26, e26, E26, hS26, hk26, hZ26, hown26, A26, Fc26, Fv26, V26, la26, lb26, C26, -, Sf26, st26⟩ := ldcCH (EL := consts_1) X16 hx hZ hown (hw 180 rfl) wSt e16 hS0 hk24 hEL (List.mem_of_getElem? (i := 0) rfl) R24.1 (vs := (own_bs "SNAPSHOT")) (z := (8 : Int32)) (own_lit (by decide +kernel)) (by decide) (by decide +kernel) (g := (mkF m 29 #[vr a1, vi (Int32.ofNat i)] [.ref b2])) rfl (D 16 rfl) (n := 32) (by decide +kernel) (by decide) (by decide) (by decide)
 refine own_go st26 ?_
 have R26 := CHr.trans R24 C26
 have Z27 : n0 ≤ h26.size := Nat.le_trans Z25 E26.1
 have K28 := Keep.ext K16 E26
 have TT26 : own_Str Z h26 a26 b26 (own_ch "SNAPSHOT") := ⟨_, _, _, _, A26, Fv26, Fc26, V26, own_codA "SNAPSHOT" (by decide +kernel) (by decide +kernel), by decide +kernel, by decide +kernel⟩
 have Q30 := (F16_0.ext E26)
 have Q31 := (F16_1.ext E26)
 have Q32 := (F16_2.ext E26)
 have Q33 := (F16_3.ext E26)
 have Q34 := (F16_4.ext E26)
 have Q35 := (F16_5.ext E26)
 have Q36 := ((Q23.keep K16q (allS (fun cl hc => Q21.nostat cl hc) all0)).ext E26)
 refine own_cV X26 hx hZ26 0 hown26 (hw 142 rfl) (hw 143 rfl) (hw 145 rfl) (hw 144 rfl) (hw 146 rfl) (hw 109 rfl) (rm_sbV hw b2 a26 b26 (own_ch "SNAPSHOT") b16b2 k216 (StrChars.Road.wideBytes (cs.take i)) (cs.take i).length zc fm h26 n0 Z27 TT26 Q30 Q31 Q32 Q33 Q34 Q35 g_b2 g_b16b2 own_snlo (own_wlen _) (by rw [own_tkl hil, own_l8]; omega) (Ne.symm (Nat.ne_of_lt (Nat.lt_of_lt_of_le Q21.lt le_b16b2))) Q36) e26 Q34 own_pd40 rfl (D 17 rfl) hml (fun _ T29 _ _ X29 l29 => own_hp ?_)
 rintro h29 e29 ⟨rfl, N29q, K29q, F29_0, F29_1, F29_2, F29_3, F29_4, F29_5⟩
 have N29 := own_frl l29 N16 N29q
 have R37 := CHr.trans R26 (CHr.keep K29q (allS (Safe.exa hZ26.alike Q34 (by decide) (by decide)) (allS (CHr.safe C26 F16_6.lt (Safe.keep K16q (allS (Safe.exa hZi.alike Q21 (by decide) (by decide)) all0) R14.1 (Safe.new le_b16b2))) all0)) R26.1)
 have hk37 := Nat.le_trans hk26 K29q.1
 have Z38 : n0 ≤ h29.size := Nat.le_trans Z27 K29q.1
 have K29 := Keep.trans K28 K29q (allS (Or.inr sz_b2) (allS (Or.inr sz_b16b2) all0))
 have FC29 : Fld Z h29 b2 "java/lang/AbstractStringBuilder" "count" "I" (.int (Int32.ofNat (cs.take i ++ (own_ch "SNAPSHOT")).length)) := by have q := F29_2; simpa using q
 have VC29 : Arv Z h29 b16b2 k216 .byte (Int32.ofNat (2 * 16)) (StrChars.Road.wideBytes (cs.take i ++ (own_ch "SNAPSHOT"))) (.int 0) := by have q := F29_5; rw [own_wap]; exact q
 show own_G _ _ _ _ (T29.setTop (mkF m 34 #[vr a1, vi (Int32.ofNat i)] [.ref b2]))
 have Q40 := (Q36.keep K29q (allS (fun cl hc => Q34.nostat cl hc) (allS (fun cl hc => (F16_6.ext E26).nostat cl hc) all0)))
 refine own_cV X29 hx hZ26 0 hown26 (hw 181 rfl) (hw 182 rfl) (hw 184 rfl) (hw 183 rfl) (hw 185 rfl) (hw 109 rfl) (rm_toU hw b2 (cs.take i ++ (own_ch "SNAPSHOT")) b16b2 k216 zc fm h29 n0 Z38 F29_0 F29_1 FC29 F29_3 F29_4 VC29 (own_ap (fun c hc => hch c (List.mem_of_mem_take hc)) own_snrg) ⟨_, List.mem_append_left _ (own_mem (i := 0) (by rw [own_tkl hil]; exact hpos)), by rw [own_take0 hpos]; exact hgt⟩ (by rw [List.length_append, own_tkl hil, own_l8]; omega) Q40) e29 F29_4 own_pd41 rfl (D 18 rfl) hml (fun _ T39 _ _ X39 l39 => own_hp ?_)
 rintro h39 e39 ⟨b39x, b39d, rfl, N39q, K39q, le_b39x, le_b39d, x39_0⟩
 have N39 := own_frl l39 N29 N39q
 have R41 := CHr.trans R37 (CHr.keep K39q all0 R37.1)
 have hk41 := Nat.le_trans hk37 K39q.1
 have Z42 : n0 ≤ h39.size := Nat.le_trans Z38 K39q.1
 have g_b39x : n0 ≤ b39x := Nat.le_trans Z38 le_b39x
 have sz_b39x : h0.size ≤ b39x := Nat.le_trans K29.1 le_b39x
 have g_b39d : n0 ≤ b39d := Nat.le_trans Z38 le_b39d
 have sz_b39d : h0.size ≤ b39d := Nat.le_trans K29.1 le_b39d
 have K39 := Keep.trans K29 K39q all0
 exact own_retRW X39 hS26 (by rw [e39]; exact hk41) hx Bd.notSynchronized Bd.returns rfl rfl (D 7 rfl) (fun U hU hV hF => ⟨_, _, rfl, (by rw [hU, e39]; exact ⟨b39x, b39d, rfl, N39, K39, x39_0⟩), (by rw [hU, e39, hV, hh]; exact CHr.trans R41 (CHv.at X39 hZ26 hEL R41.1)), hF.1, hF.2.1, hF.2.2.1, hF.2.2.2.mono (by decide) (by decide)⟩)
end Jvm.Pilot.@@N@@
namespace Jvm.Pilot.@@N@@
open Jvm Jvm.ClassFile Sem Op Lib Jvm.Free Jvm.Stand Jvm.LawKit Jvm.RoadKit Bundle Jvm.Pilot.@@N@@.Jvm.D
set_option maxRecDepth 65536
set_option maxHeartbeats 40000000
variable {l : Launch} {Z : State} {a0 : Array Value}

theorem own_dgx (X : Int64) : ¬ ((48 : Int32) + ((X &&& (15 : Int64)).toInt32 % (10 : Int32))).toUInt32.toUInt16.toUInt32.toInt32 < 48 ∧ ¬ (57 : Int32) < ((48 : Int32) + ((X &&& (15 : Int64)).toInt32 % (10 : Int32))).toUInt32.toUInt16.toUInt32.toInt32 := by
  have h1 := c_maskL X 15 4 (by decide) (by decide)
  have h2 := c_l2i (X &&& 15); have r1 := Int32.le_toInt (X &&& 15).toInt32; have r2 := Int32.toInt_lt (X &&& 15).toInt32
  have h3 := (c_irem (X &&& 15).toInt32 10 10 rfl).1
  have h4 := c_iadd 48 ((X &&& 15).toInt32 % 10); have r3 := Int32.le_toInt ((48 : Int32) + ((X &&& (15 : Int64)).toInt32 % (10 : Int32))); have r4 := Int32.toInt_lt ((48 : Int32) + ((X &&& (15 : Int64)).toInt32 % (10 : Int32)))
  have h5 := c_i2c ((48 : Int32) + ((X &&& (15 : Int64)).toInt32 % (10 : Int32)))
  have e48 : (48 : Int32).toInt = 48 := rfl; have e57 : (57 : Int32).toInt = 57 := rfl
  rw [Int32.lt_iff_toInt_lt, Int32.lt_iff_toInt_lt, e48, e57]
  have h6 : 0 ≤ (X &&& 15).toInt32.toInt ∧ (X &&& 15).toInt32.toInt < 16 := by omega
  have h7 := h3 h6.1
  omega
theorem own_n3 (X : Int64) : (X &&& (3 : Int64)).toInt32 % (3 : Int32) = 0 ∨ (X &&& (3 : Int64)).toInt32 % (3 : Int32) = 1 ∨ (X &&& (3 : Int64)).toInt32 % (3 : Int32) = 2 := by
  have h1 := c_maskL X 3 2 (by decide) (by decide)
  have h2 := c_l2i (X &&& 3); have r1 := Int32.le_toInt (X &&& 3).toInt32; have r2 := Int32.toInt_lt (X &&& 3).toInt32
  have h3 := (c_irem (X &&& 3).toInt32 3 3 rfl).1 (by omega)
  rw [← Int32.toInt_inj, ← Int32.toInt_inj, ← Int32.toInt_inj, h3]
  have e0 : (0 : Int32).toInt = 0 := rfl; have e1 : (1 : Int32).toInt = 1 := rfl; have e2 : (2 : Int32).toInt = 2 := rfl
  rw [e0, e1, e2]; omega
theorem own_k32 (X : Int64) : ∃ kn : Nat, kn < 32 ∧ (X &&& (31 : Int64)).toInt32 = Int32.ofNat kn := by
  have h1 := c_maskL X 31 5 (by decide) (by decide)
  have h2 := c_l2i (X &&& 31); have r1 := Int32.le_toInt (X &&& 31).toInt32; have r2 := Int32.toInt_lt (X &&& 31).toInt32
  refine ⟨(X &&& 31).toInt32.toInt.toNat, by omega, ?_⟩
  apply Int32.toInt_inj.mp; rw [own_on _ (by omega)]; omega
theorem own_c16 (x : Int32) : ∃ ch : Int32, (¬ ch < 0 ∧ ¬ (65535 : Int32) < ch) ∧ x.toUInt32.toUInt16.toUInt32.toInt32 = ch := by
  refine ⟨_, ?_, rfl⟩
  have h := c_i2c x; have e0 : (0 : Int32).toInt = 0 := rfl; have e1 : (65535 : Int32).toInt = 65535 := rfl
  rw [Int32.lt_iff_toInt_lt, Int32.lt_iff_toInt_lt, e0, e1]; omega
theorem own_drg {c : Int32} (h : ¬ c < 48 ∧ ¬ (57 : Int32) < c) : ¬ c < 0 ∧ ¬ (65535 : Int32) < c := by
  have e0 : (0 : Int32).toInt = 0 := rfl; have e1 : (65535 : Int32).toInt = 65535 := rfl; have e48 : (48 : Int32).toInt = 48 := rfl; have e57 : (57 : Int32).toInt = 57 := rfl
  rw [Int32.lt_iff_toInt_lt, Int32.lt_iff_toInt_lt] at h ⊢; omega
def own_ok (r : Nat) (c : Int32) : Prop := if r = 8 then c = 46 else if r = 15 then c = 45 else ¬ c < 48 ∧ ¬ (57 : Int32) < c
theorem own_okd {r : Nat} {c : Int32} (h8 : r ≠ 8) (h15 : r ≠ 15) : own_ok r c ↔ ¬ c < 48 ∧ ¬ (57 : Int32) < c := by rw [own_ok, if_neg h8, if_neg h15]
theorem own_ok8 {c : Int32} : own_ok 8 c ↔ c = 46 := Iff.rfl
theorem own_ok15 {c : Int32} : own_ok 15 c ↔ c = 45 := Iff.rfl
theorem own_not45 {c : Int32} (h : ¬ c < 48 ∧ ¬ (57 : Int32) < c) : ¬ c = 45 := by rintro rfl; exact h.1 (by decide)
theorem own_not46 {c : Int32} (h : ¬ c < 48 ∧ ¬ (57 : Int32) < c) : ¬ c = 46 := by rintro rfl; exact h.1 (by decide)
def own_lay (n : Nat) (cs : List Int32) : Prop := cs.length = 20 ∧ ∀ i, n ≤ i → i < 20 → own_ok (i - n) (cs.getD i 0)
def own_pre (n : Nat) (cs : List Int32) : Prop := (0 < n → cs.getD (n - 1) 0 = 45) ∧ ∀ j, j < n → ¬ own_term (cs.getD j 0)
theorem own_lst_is {cs : List Int32} {m : Nat} : ∀ n, m < n → cs.getD m 0 = 45 → (∀ i, m < i → i < n → ¬ cs.getD i 0 = 45) → own_lst cs n = Int32.ofNat m
  | 0, h, _, _ => absurd h (Nat.not_lt_zero _)
  | n + 1, h, e, q => by
    by_cases z : m = n
    · subst z; exact own_lst_pos e
    · rw [own_lst_neg (q n (by omega) (by omega))]; exact own_lst_is n (by omega) e (fun i a b => q i a (by omega))
theorem own_lst_inv {cs : List Int32} {m : Nat} (hm : m ≤ 4000) : ∀ n, n ≤ 4000 → own_lst cs n = Int32.ofNat m → m < n ∧ cs.getD m 0 = 45 ∧ ∀ i, m < i → i < n → ¬ cs.getD i 0 = 45
  | 0, _, h => absurd h (fun h => own_m1 (by omega) h)
  | n + 1, hn, h => by
    by_cases z : cs.getD n 0 = 45
    · rw [own_lst_pos z] at h; obtain rfl := own_inj (by omega) (by omega) h; exact ⟨by omega, z, fun i a b => absurd a (by omega)⟩
    · rw [own_lst_neg z] at h; obtain ⟨a, b, c⟩ := own_lst_inv hm n (by omega) h
      refine ⟨by omega, b, fun i p q => ?_⟩
      by_cases e : i = n
      · subst e; exact z
      · exact c i p (by omega)
theorem own_lay_at {n : Nat} {cs : List Int32} (h : own_lay n cs) {i r : Nat} (e : i = n + r) (hi : i < 20) : own_ok r (cs.getD i 0) := by
  have q := h.2 i (by omega) hi; rwa [show i - n = r from by omega] at q
theorem own_lay_good {n : Nat} {cs : List Int32} (hn : n ≤ 2) (h : own_lay n cs) (p : own_pre n cs) : own_good cs n := by
  have d : ∀ i r, i = n + r → i < 20 → r ≠ 8 → r ≠ 15 → ¬ cs.getD i 0 < 48 ∧ ¬ (57 : Int32) < cs.getD i 0 := fun i r e hi h8 h15 => (own_okd h8 h15).mp (own_lay_at h e hi)
  refine ⟨by rw [h.1]; omega, ?_, ?_, ?_, ?_, ?_, p.1, p.2⟩
  · rw [h.1]; exact own_lst_is 20 (by omega) (by rw [Nat.add_comm]; exact own_ok15.mp (own_lay_at h rfl (by omega))) (fun i a b => own_not45 (d i (i - n) (by omega) b (by omega) (by omega)))
  · rw [h.1]; exact ⟨by omega, fun j a b => d j (j - n) (by omega) b (by omega) (by omega)⟩
  · exact ⟨by omega, fun j a b => d j (j - n) (by omega) (by omega) (by omega) (by omega)⟩
  · exact own_ok8.mp (own_lay_at h rfl (by omega))
  · exact ⟨by omega, fun j a b => d j (j - n) (by omega) (by omega) (by omega) (by omega)⟩
theorem own_lay_bad {n : Nat} {cs : List Int32} (hn : n ≤ 2) (h : own_lay n cs) (p : ¬ own_pre n cs) : ∀ q, ¬ own_good cs q := fun q g => by
  have d : ∀ i r, i = n + r → i < 20 → r ≠ 8 → r ≠ 15 → ¬ cs.getD i 0 < 48 ∧ ¬ (57 : Int32) < cs.getD i 0 := fun i r e hi h8 h15 => (own_okd h8 h15).mp (own_lay_at h e hi)
  have e1 : own_lst cs cs.length = Int32.ofNat (15 + n) := by
    rw [h.1]; exact own_lst_is 20 (by omega) (by rw [Nat.add_comm]; exact own_ok15.mp (own_lay_at h rfl (by omega))) (fun i a b => own_not45 (d i (i - n) (by omega) b (by omega) (by omega)))
  have e2 := own_inj (by omega) (by have := g.1; have := h.1; omega) (e1.symm.trans g.2.1)
  obtain rfl : n = q := by omega
  exact p ⟨g.2.2.2.2.2.2.1, g.2.2.2.2.2.2.2⟩
theorem own_one_bad {n r : Nat} {cs : List Int32} (hn : n ≤ 2) (hr : n + r < 20) (hl : cs.length = 20) (h : ∀ i, n ≤ i → i < 20 → i ≠ n + r → own_ok (i - n) (cs.getD i 0)) (hb : ¬ own_ok r (cs.getD (n + r) 0)) : ∀ q, ¬ own_good cs q := fun q g => by
  obtain ⟨g1, g2, g3, g4, g5, g6, -, -⟩ := g
  rw [hl] at g1 g2 g3
  obtain ⟨-, l1, l2⟩ := own_lst_inv (by omega) 20 (by omega) g2
  have at_ : ∀ i s, i = n + s → i < 20 → i ≠ n + r → own_ok s (cs.getD i 0) := fun i s e hi hne => by have z := h i (by omega) hi hne; rwa [show i - n = s from by omega] at z
  have d : ∀ i s, i = n + s → i < 20 → i ≠ n + r → s ≠ 8 → s ≠ 15 → ¬ cs.getD i 0 < 48 ∧ ¬ (57 : Int32) < cs.getD i 0 := fun i s e hi hne h8 h15 => (own_okd h8 h15).mp (at_ i s e hi hne)
  by_cases c15 : r = 15
  · subst c15
    by_cases hlt : q < n
    · exact own_not46 (d (q + 8) (q + 8 - n) (by omega) (by omega) (by omega) (by omega) (by omega)) g5
    · by_cases heq : q = n
      · subst heq; exact hb (own_ok15.mpr (by rw [Nat.add_comm]; exact l1))
      · exact own_not45 (d (15 + q) (15 + q - n) (by omega) (by omega) (by omega) (by omega) (by omega)) l1
  · have hd : cs.getD (n + 15) 0 = 45 := own_ok15.mp (at_ (n + 15) 15 rfl (by omega) (by omega))
    by_cases hlt : q < n
    · exact l2 (n + 15) (by omega) (by omega) hd
    · by_cases heq : q = n
      · subst heq
        by_cases c8 : r = 8
        · subst c8; exact hb (own_ok8.mpr g5)
        · refine hb ((own_okd c8 c15).mpr ?_)
          by_cases a : r < 8
          · exact g4.2 _ (by omega) (by omega)
          · by_cases b : r < 15
            · exact g6.2 _ (by omega) (by omega)
            · exact g3.2 _ (by omega) (by omega)
      · by_cases hk : n + r = 15 + q
        · exact own_not46 (d (q + 8) (q + 8 - n) (by omega) (by omega) (by omega) (by omega) (by omega)) g5
        · exact own_not45 (d (15 + q) (15 + q - n) (by omega) (by omega) (by omega) (by omega) (by omega)) l1
theorem own_gset {cs : List Int32} {k i : Nat} {c : Int32} (h : k < cs.length) : (cs.set k c).getD i 0 = if i = k then c else cs.getD i 0 := by
  simp only [List.getD_eq_getElem?_getD]
  by_cases e : i = k
  · subst e; rw [if_pos rfl, List.getElem?_set_self h]; rfl
  · rw [if_neg e, List.getElem?_set_ne (fun q => e q.symm)]
theorem own_lay_lt {n k : Nat} {cs : List Int32} {c : Int32} (h : own_lay n cs) (hk : k < n) (hn : n ≤ 2) : own_lay n (cs.set k c) := ⟨by rw [List.length_set]; exact h.1, fun i a b => by
  rw [own_gset (by rw [h.1]; omega), if_neg (by omega)]; exact h.2 i a b⟩
theorem own_lay_ok {n r : Nat} {cs : List Int32} {c : Int32} (h : own_lay n cs) (hk : n + r < 20) (q : own_ok r c) : own_lay n (cs.set (n + r) c) := ⟨by rw [List.length_set]; exact h.1, fun i a b => by
  rw [own_gset (by rw [h.1]; omega)]
  by_cases e : i = n + r
  · rw [if_pos e, show i - n = r from by omega]; exact q
  · rw [if_neg e]; exact h.2 i a b⟩
theorem own_lay_no {n r : Nat} {cs : List Int32} {c : Int32} (h : own_lay n cs) (hn : n ≤ 2) (hk : n + r < 20) (q : ¬ own_ok r c) : ∀ j, ¬ own_good (cs.set (n + r) c) j := by
  refine own_one_bad hn hk (by rw [List.length_set]; exact h.1) (fun i a b e => ?_) ?_
  · rw [own_gset (by rw [h.1]; omega), if_neg e]; exact h.2 i a b
  · rw [own_gset (by rw [h.1]; omega), if_pos rfl]; exact q
theorem own_rgset {cs : List Int32} {k : Nat} {c : Int32} (h : ∀ c ∈ cs, ¬ c < 0 ∧ ¬ (65535 : Int32) < c) (q : ¬ c < 0 ∧ ¬ (65535 : Int32) < c) : ∀ x ∈ cs.set k c, ¬ x < 0 ∧ ¬ (65535 : Int32) < x := fun x hx => by
  rcases List.mem_or_eq_of_mem_set hx with z | z
  · exact h x z
  · rw [z]; exact q
def own_lays : Nat → List Int32 → Prop
  | _, [] => True
  | r, c :: cs => own_ok r c ∧ own_lays (r + 1) cs
theorem own_lays_at : ∀ (l : List Int32) (r i : Nat), own_lays r l → i < l.length → own_ok (r + i) (l.getD i 0)
  | [], _, _, _, h => absurd h (Nat.not_lt_zero _)
  | c :: l, r, 0, h, _ => h.1
  | c :: l, r, i + 1, h, q => by
    have z := own_lays_at l (r + 1) i h.2 (by simpa using q)
    rw [show r + (i + 1) = r + 1 + i from by omega]; exact z
theorem own_lay_of (p l : List Int32) (h : own_lays 0 l) (hl : p.length + l.length = 20) : own_lay p.length (p ++ l) := ⟨by rw [List.length_append, hl], fun i a b => by
  have z := own_lays_at l 0 (i - p.length) h (by omega)
  rw [Nat.zero_add] at z
  have e : (p ++ l).getD i 0 = l.getD (i - p.length) 0 := by simp only [List.getD_eq_getElem?_getD]; rw [List.getElem?_append_right a]
  rw [e]; exact z⟩
theorem own_pre1 {cs : List Int32} : own_pre 1 cs ↔ cs.getD 0 0 = 45 := by
  constructor
  · exact fun h => h.1 (by decide)
  · refine fun h => ⟨fun _ => h, fun j hj => ?_⟩
    obtain rfl : j = 0 := by omega
    rw [h]; unfold own_term; decide
theorem own_pre2 {cs : List Int32} : own_pre 2 cs ↔ cs.getD 1 0 = 45 ∧ ¬ own_term (cs.getD 0 0) := by
  constructor
  · exact fun h => ⟨h.1 (by decide), h.2 0 (by decide)⟩
  · refine fun h => ⟨fun _ => h.1, fun j hj => ?_⟩
    by_cases e : j = 0
    · subst e; exact h.2
    · obtain rfl : j = 1 := by omega
      rw [h.1]; unfold own_term; decide
theorem own_pre0 (cs : List Int32) : own_pre 0 cs := ⟨fun h => absurd h (by decide), fun j h => absurd h (Nat.not_lt_zero _)⟩
theorem own_lay_lo {n : Nat} {cs : List Int32} (hn : n ≤ 2) (h : own_lay n cs) (p : own_pre n cs) (q : n = 2 → ¬ (255 : Int32) < cs.getD 0 0) : ∀ c ∈ cs, ¬ (255 : Int32) < c := fun c hc => by
  obtain ⟨i, hi, rfl⟩ := List.getElem_of_mem hc
  have e : cs[i] = cs.getD i 0 := by simp [List.getD_eq_getElem?_getD, hi]
  rw [e]
  have h45 : ¬ (255 : Int32) < 45 := by decide
  have h46 : ¬ (255 : Int32) < 46 := by decide
  have hd : ∀ c : Int32, (¬ c < 48 ∧ ¬ (57 : Int32) < c) → ¬ (255 : Int32) < c := fun c z => by
    rw [Int32.lt_iff_toInt_lt, Int32.lt_iff_toInt_lt] at z; rw [Int32.lt_iff_toInt_lt]; have e1 : (57 : Int32).toInt = 57 := rfl; have e2 : (255 : Int32).toInt = 255 := rfl; omega
  by_cases a : n ≤ i
  · have z := h.2 i a (by have := h.1; omega)
    by_cases c8 : i - n = 8
    · rw [c8] at z; rw [own_ok8.mp z]; exact h46
    · by_cases c15 : i - n = 15
      · rw [c15] at z; rw [own_ok15.mp z]; exact h45
      · exact hd _ ((own_okd c8 c15).mp z)
  · by_cases b : i = n - 1
    · rw [b, p.1 (by omega)]; exact h45
    · obtain rfl : i = 0 := by omega
      exact q (by omega)
end Jvm.Pilot.@@N@@
namespace Jvm.Pilot.@@N@@
open Jvm Jvm.ClassFile Sem Op Lib Jvm.Free Jvm.Stand Jvm.LawKit Jvm.RoadKit Bundle Jvm.Pilot.@@N@@.Jvm.D
set_option maxRecDepth 65536
set_option maxHeartbeats 40000000
variable {l : Launch} {Z : State} {a0 : Array Value}

theorem own_V20 {Z : State} {h : Heap} {a : Addr} {k : ClassId} {vs : List Value} {cs : List Int32} (V : Arv Z h a k .char (20 : Int32) vs (.int 0)) (hl : cs.length = 20) : Arv Z h a k .char (Int32.ofNat cs.length) vs (.int 0) := by rw [hl]; exact V
theorem own_rgc {P : Int32 → Prop} {c : Int32} {l : List Int32} (h : P c) (t : ∀ x ∈ l, P x) : ∀ x ∈ c :: l, P x := fun x hx => (List.mem_cons.mp hx).elim (fun e => e ▸ h) (t x)
theorem own_rgn {P : Int32 → Prop} : ∀ x ∈ ([] : List Int32), P x := fun x hx => nomatch hx
theorem own_lac {r : Nat} {c : Int32} {l : List Int32} (h : own_ok r c) (t : own_lays (r + 1) l) : own_lays r (c :: l) := ⟨h, t⟩
theorem own_lan {r : Nat} : own_lays r [] := trivial
theorem own_tk1 {cs : List Int32} (h : cs.length = 20) : cs.take 1 = [cs.getD 0 0] := by
  match cs, h with
  | a :: l, _ => rfl
theorem own_tk2 {cs : List Int32} (h : cs.length = 20) : cs.take 2 = [cs.getD 0 0, cs.getD 1 0] := by
  match cs, h with
  | a :: b :: l, _ => rfl
theorem own_sn : own_ch "SNAPSHOT" = [83, 78, 65, 80, 83, 72, 79, 84] := by decide +kernel
theorem own_em : own_ch "" = [] := by decide +kernel
theorem d1 : ∀ x ∈ ([(0, .bipush 48, 2), (2, .lload_n 0, 1), (3, .iload_n 2, 1), (4, .lushr, 1), (5, .ldc2_w 7, 3), (8, .land, 1), (9, .l2i, 1), (10, .bipush 10, 2), (12, .irem, 1), (13, .iadd, 1), (14, .i2c, 1), (15, .ireturn, 1)] : List (Nat × Instr × Nat)), decode j1 x.1 = .ok x.2 := by decide +kernel
theorem own_pn9 : plainName "com/example/lodepath/lodepath/MavenVersionBaseVersionPinLaw" = true := by first | (simp [plainName, overriddenIn]; done) | decide +kernel
def Q_dig (Z : State) (q0 : Int64) (p1 : Int32) (h0 : Heap) (n0 : Nat) (v : Option Value) (h : Heap) (L : List Loc) : Prop := ∃ (z : Int32), v = some (.int z) ∧ Fr n0 L ∧ h = h0 ∧ (¬ z < 48 ∧ ¬ (57 : Int32) < z)
theorem rm_dig (hw : own_H a0 Z) (q0 : Int64) (p1 : Int32) (h0 : Heap) (n0 : Nat) (Z0 : n0 ≤ h0.size) : own_M l y1 j1 3 (some .char) (own_R 0 0 0 0) #[(.long q0), (.int p1)] Z h0 (Q_dig Z q0 p1 h0 n0) := by
 refine own_body (plainFor_of_name own_pn9) (fun p e s m below meth c s₁ Bd hZ hx hby hml hown hnm X0 e0 => ?_)
 have hown : s.vm.findClass "com/example/lodepath/lodepath/MavenVersionBaseVersionPinLaw" = some m.cls := hown
 have N0 := Fr.nil n0
 have D := own_dt hby d1
 refine own_cast (g' := mkF m 0 #[vl q0, v2, vi p1] []) rfl ?_
 show own_G _ _ _ _ (s₁.setTop (mkF m 0 #[vl q0, v2, vi p1] []))
 refine own_go (fun _ Kk => XS.bipush X0.here hx rfl (D 0 rfl) (XS.lloadN X0.here hx rfl (D 1 rfl) rfl (XS.iloadN X0.here hx rfl (D 2 rfl) rfl (XS.lushr X0.here hx rfl (D 3 rfl) rfl Kk)))) ?_
 refine own_go (X0.ldc2Long hx hown (mvT hZ (hw 5 rfl)) (g := (mkF m 5 #[vl q0, v2, vi p1] [.long ((q0.toUInt64 >>> (p1 &&& 0x3f).toInt64.toUInt64).toInt64), .int 48])) rfl (D 4 rfl)) ?_
 show own_G _ _ _ _ (s₁.setTop (mkF m 8 #[vl q0, v2, vi p1] [.long 15, .long ((q0.toUInt64 >>> (p1 &&& 0x3f).toInt64.toUInt64).toInt64), .int 48]))
 refine own_go (fun _ Kk => XS.land X0.here hx rfl (D 5 rfl) rfl (XS.l2i X0.here hx rfl (D 6 rfl) rfl (XS.bipush X0.here hx rfl (D 7 rfl) (iremM X0 hx rfl (D 8 rfl) rfl (by decide) (XS.iadd X0.here hx rfl (D 9 rfl) rfl Kk))))) ?_
 show own_G _ _ _ _ (s₁.setTop (mkF m 14 #[vl q0, v2, vi p1] [.int ((48 : Int32) + (((((q0.toUInt64 >>> (p1 &&& 0x3f).toInt64.toUInt64).toInt64) &&& (15 : Int64)).toInt32) % (10 : Int32)))]))
 refine own_go (fun _ Kk => XS.i2c X0.here hx rfl (D 10 rfl) rfl Kk) ?_
 obtain ⟨dz, hdz, hez⟩ : ∃ dz : Int32, (¬ dz < 48 ∧ ¬ (57 : Int32) < dz) ∧ (((48 : Int32) + (((((q0.toUInt64 >>> (p1 &&& 0x3f).toInt64.toUInt64).toInt64) &&& (15 : Int64)).toInt32) % (10 : Int32))).toUInt32.toUInt16.toUInt32.toInt32) = dz := ⟨_, own_dgx _, rfl⟩
 show own_G _ _ _ _ (s₁.setTop (mkF m 15 #[vl q0, v2, vi p1] [.int (((48 : Int32) + (((((q0.toUInt64 >>> (p1 &&& 0x3f).toInt64.toUInt64).toInt64) &&& (15 : Int64)).toInt32) % (10 : Int32))).toUInt32.toUInt16.toUInt32.toInt32)]))
 rw [show (((48 : Int32) + (((((q0.toUInt64 >>> (p1 &&& 0x3f).toInt64.toUInt64).toInt64) &&& (15 : Int64)).toInt32) % (10 : Int32))).toUInt32.toUInt16.toUInt32.toInt32) = dz from hez]
 exact own_rN X0 hx Bd (D 11 rfl) e0 (own_narc (own_drg hdz).1 (own_drg hdz).2) ⟨dz, rfl, N0, rfl, hdz⟩
theorem d57 : ∀ x ∈ ([(0, .iload_n 0, 1), (1, .bipush 10, 2), (3, .if_icmp .eq 30, 3), (33, .iconst 1, 1), (34, .goto 4, 3), (38, .ireturn, 1), (6, .iload_n 0, 1), (7, .bipush 13, 2), (9, .if_icmp .eq 24, 3), (12, .iload_n 0, 1), (13, .sipush 133, 3), (16, .if_icmp .eq 17, 3), (19, .iload_n 0, 1), (20, .sipush 8232, 3), (23, .if_icmp .eq 10, 3), (26, .iload_n 0, 1), (27, .sipush 8233, 3), (30, .if_icmp .ne 7, 3), (37, .iconst 0, 1)] : List (Nat × Instr × Nat)), decode j57 x.1 = .ok x.2 := by decide +kernel
def Q_term (Z : State) (p0 : Int32) (h0 : Heap) (n0 : Nat) (v : Option Value) (h : Heap) (L : List Loc) : Prop := ∃ (z : Int32), v = some (.int z) ∧ Fr n0 L ∧ h = h0 ∧ ((z = 1 ∧ own_term p0) ∨ (z = 0 ∧ ¬ own_term p0))
theorem rm_term (hw : own_H a0 Z) (p0 : Int32) (h0 : Heap) (n0 : Nat) (Z0 : n0 ≤ h0.size) : own_M l y57 j57 1 (some .boolean) (own_R 0 0 0 0) #[(.int p0)] Z h0 (Q_term Z p0 h0 n0) := by
 refine own_body (plainFor_of_name own_pn9) (fun p e s m below meth c s₁ Bd hZ hx hby hml hown hnm X0 e0 => ?_)
 have hown : s.vm.findClass "com/example/lodepath/lodepath/MavenVersionBaseVersionPinLaw" = some m.cls := hown
 have N0 := Fr.nil n0
 have D := own_dt hby d57
 refine own_cast (g' := mkF m 0 #[vi p0] []) rfl ?_
 show own_G _ _ _ _ (s₁.setTop (mkF m 0 #[vi p0] []))
 refine own_go (fun _ Kk => XS.iloadN X0.here hx rfl (D 0 rfl) rfl (XS.bipush X0.here hx rfl (D 1 rfl) Kk)) ?_
 by_cases hc3_1 : p0 = (10 : Int32)
 ·
  refine own_go (fun _ Kk => XS.icmpYes X0.here hx rfl (pc0 := 3) (pc' := 33) rfl (D 2 rfl) rfl (teq hc3_1).1 (by decide) (by decide) Kk) ?_
  show own_G _ _ _ _ (s₁.setTop (mkF m 33 #[vi p0] []))
  refine own_go (fun _ Kk => XS.iconst X0.here hx rfl (D 3 rfl) (XS.goto X0.here hx rfl (pc0 := 34) (pc' := 38) rfl (D 4 rfl) (by decide) (by decide) Kk)) ?_
  exact own_rN (z' := (1 : Int32)) X0 hx Bd (D 5 rfl) e0 rfl ⟨(1 : Int32), rfl, N0, rfl, (Or.inl ⟨rfl, (Or.inl hc3_1)⟩)⟩
 ·
  refine own_go (fun _ Kk => XS.icmpNo X0.here hx rfl (D 2 rfl) rfl (feq hc3_1).1 Kk) ?_
  show own_G _ _ _ _ (s₁.setTop (mkF m 6 #[vi p0] []))
  refine own_go (fun _ Kk => XS.iloadN X0.here hx rfl (D 6 rfl) rfl (XS.bipush X0.here hx rfl (D 7 rfl) Kk)) ?_
  by_cases hc9_2 : p0 = (13 : Int32)
  ·
   refine own_go (fun _ Kk => XS.icmpYes X0.here hx rfl (pc0 := 9) (pc' := 33) rfl (D 8 rfl) rfl (teq hc9_2).1 (by decide) (by decide) Kk) ?_
   show own_G _ _ _ _ (s₁.setTop (mkF m 33 #[vi p0] []))
   refine own_go (fun _ Kk => XS.iconst X0.here hx rfl (D 3 rfl) (XS.goto X0.here hx rfl (pc0 := 34) (pc' := 38) rfl (D 4 rfl) (by decide) (by decide) Kk)) ?_
   exact own_rN (z' := (1 : Int32)) X0 hx Bd (D 5 rfl) e0 rfl ⟨(1 : Int32), rfl, N0, rfl, (Or.inl ⟨rfl, (Or.inr (Or.inl hc9_2))⟩)⟩
  ·
   refine own_go (fun _ Kk => XS.icmpNo X0.here hx rfl (D 8 rfl) rfl (feq hc9_2).1 Kk) ?_
   show own_G _ _ _ _ (s₁.setTop (mkF m 12 #[vi p0] []))
   refine own_go (fun _ Kk => XS.iloadN X0.here hx rfl (D 9 rfl) rfl (XS.sipush X0.here hx rfl (D 10 rfl) Kk)) ?_
   by_cases hc16_3 : p0 = (133 : Int32)
   ·
    refine own_go (fun _ Kk => XS.icmpYes X0.here hx rfl (pc0 := 16) (pc' := 33) rfl (D 11 rfl) rfl (teq hc16_3).1 (by decide) (by decide) Kk) ?_
    show own_G _ _ _ _ (s₁.setTop (mkF m 33 #[vi p0] []))
    refine own_go (fun _ Kk => XS.iconst X0.here hx rfl (D 3 rfl) (XS.goto X0.here hx rfl (pc0 := 34) (pc' := 38) rfl (D 4 rfl) (by decide) (by decide) Kk)) ?_
    exact own_rN (z' := (1 : Int32)) X0 hx Bd (D 5 rfl) e0 rfl ⟨(1 : Int32), rfl, N0, rfl, (Or.inl ⟨rfl, (Or.inr (Or.inr (Or.inl hc16_3)))⟩)⟩
   ·
    refine own_go (fun _ Kk => XS.icmpNo X0.here hx rfl (D 11 rfl) rfl (feq hc16_3).1 Kk) ?_
    show own_G _ _ _ _ (s₁.setTop (mkF m 19 #[vi p0] []))
    refine own_go (fun _ Kk => XS.iloadN X0.here hx rfl (D 12 rfl) rfl (XS.sipush X0.here hx rfl (D 13 rfl) Kk)) ?_
    by_cases hc23_4 : p0 = (8232 : Int32)
    ·
     refine own_go (fun _ Kk => XS.icmpYes X0.here hx rfl (pc0 := 23) (pc' := 33) rfl (D 14 rfl) rfl (teq hc23_4).1 (by decide) (by decide) Kk) ?_
     show own_G _ _ _ _ (s₁.setTop (mkF m 33 #[vi p0] []))
     refine own_go (fun _ Kk => XS.iconst X0.here hx rfl (D 3 rfl) (XS.goto X0.here hx rfl (pc0 := 34) (pc' := 38) rfl (D 4 rfl) (by decide) (by decide) Kk)) ?_
     exact own_rN (z' := (1 : Int32)) X0 hx Bd (D 5 rfl) e0 rfl ⟨(1 : Int32), rfl, N0, rfl, (Or.inl ⟨rfl, (Or.inr (Or.inr (Or.inr (Or.inl hc23_4))))⟩)⟩
    ·
     refine own_go (fun _ Kk => XS.icmpNo X0.here hx rfl (D 14 rfl) rfl (feq hc23_4).1 Kk) ?_
     show own_G _ _ _ _ (s₁.setTop (mkF m 26 #[vi p0] []))
     refine own_go (fun _ Kk => XS.iloadN X0.here hx rfl (D 15 rfl) rfl (XS.sipush X0.here hx rfl (D 16 rfl) Kk)) ?_
     by_cases hc30_5 : p0 = (8233 : Int32)
     ·
      refine own_go (fun _ Kk => XS.icmpNo X0.here hx rfl (D 17 rfl) rfl (teq hc30_5).2 Kk) ?_
      show own_G _ _ _ _ (s₁.setTop (mkF m 33 #[vi p0] []))
      refine own_go (fun _ Kk => XS.iconst X0.here hx rfl (D 3 rfl) (XS.goto X0.here hx rfl (pc0 := 34) (pc' := 38) rfl (D 4 rfl) (by decide) (by decide) Kk)) ?_
      exact own_rN (z' := (1 : Int32)) X0 hx Bd (D 5 rfl) e0 rfl ⟨(1 : Int32), rfl, N0, rfl, (Or.inl ⟨rfl, (Or.inr (Or.inr (Or.inr (Or.inr hc30_5))))⟩)⟩
     ·
      refine own_go (fun _ Kk => XS.icmpYes X0.here hx rfl (pc0 := 30) (pc' := 37) rfl (D 17 rfl) rfl (feq hc30_5).2 (by decide) (by decide) Kk) ?_
      show own_G _ _ _ _ (s₁.setTop (mkF m 37 #[vi p0] []))
      refine own_go (fun _ Kk => XS.iconst X0.here hx rfl (D 18 rfl) Kk) ?_
      exact own_rN (z' := (0 : Int32)) X0 hx Bd (D 5 rfl) e0 rfl ⟨(0 : Int32), rfl, N0, rfl, (Or.inr ⟨rfl, own_nt hc3_1 hc9_2 hc16_3 hc23_4 hc30_5⟩)⟩
def Q_0 (Z : State) (q0 : Int64) (q1 : Int64) (p2 : Int32) (zc : Int32) (fm : Value) (h0 : Heap) (n0 : Nat) (v : Option Value) (h : Heap) (L : List Loc) : Prop := v = some (.int 1) ∧ Fr n0 L
def K_0 (Z : State) (q0 : Int64) (q1 : Int64) (p2 : Int32) (zc : Int32) (fm : Value) (h0 : Heap) (n0 : Nat) (s : State) (o : Outcome) (U' : State) : Prop := ∃ v L, o = .returned v ∧ Q_0 Z q0 q1 p2 zc fm h0 n0 v U'.heap L ∧ CHr Z consts_1 s.vm s.heap U'.vm U'.heap ∧ ReturnedEndW s o U' L 48 3584
def own_C (l : Launch) (Z : State) (a0 : Array Value) (h0 : Heap) (p : Program) (s : State) (m : MethodId) (meth : Method) (c : Code) : Prop := p.tables.exec = Jvm.exec ∧ c.code = code ∧ c.maxLocals = 17 ∧ (s.setVm s.vm).vm.findClass "com/example/lodepath/lodepath/MavenVersionBaseVersionPinLaw" = some m.cls ∧ Z.Warmed39 (s.setVm s.vm).vm ∧ s.Since s.vm s.heap.size ∧ EW Z a0 consts_1 ∧ (∀ a ∈ Bundle.stringAtoms, a.before a0 Z = true) ∧ (∀ d ∈ StrChars.Road.wordsEq, d.before a0 Z = true) ∧ meth.locks = false ∧ meth.sig.returnType = some .boolean ∧ s.heap = h0
def own_T (l : Launch) (Z : State) (p : Program) (e : Env) (s : State) (m : MethodId) (below : List Frame) (meth : Method) (c : Code) (q0 q1 : Int64) (p2 zc : Int32) (fm : Value) (h0 : Heap) (n0 : Nat) (a : Addr) (ka : ClassId) (cs : List Int32) (T : State) : Prop := ∃ (L : List Loc) (h : Heap), Stand p l e room_1 (s.setVm s.vm) m #[(.long q0), (.long q1), (.int p2)] below meth c T L 1 20 ∧ T.heap = h ∧ Fr n0 L ∧ n0 ≤ h.size ∧ CHr Z consts_1 s.vm h0 s.vm h ∧ s.heap.size ≤ h.size ∧ own_St Z h zc fm ∧ Exa Z h a "[C" ∧ Arv Z h a ka .char (Int32.ofNat cs.length) (cs.map Value.int) (.int 0) ∧ cs.length = 20 ∧ ∀ c ∈ cs, ¬ c < 0 ∧ ¬ (65535 : Int32) < c
theorem own_fl {Z : State} {h h' : Heap} {a : Addr} {ka : ClassId} {u : List Value} {Nn : Int32} {k : Nat} (V : Arv Z h a ka .char Nn u (.int 0)) (lu : u.length = k) {j z : Int32} (W : Wr h h' a j.toNatClampNeg (.int z.toUInt32.toUInt16.toUInt32.toInt32)) (hz : ¬ z < 0 ∧ ¬ (65535 : Int32) < z) (i : Nat) (hj : j.toNatClampNeg = i) (hi : i < k) : ∃ u' : List Value, u' = u.set i (.int z) ∧ Arv Z h' a ka .char Nn u' (.int 0) ∧ u'.length = k := by
  obtain ⟨c, A, q, S, N, H, G⟩ := V
  have z := Arv.set A q S N H G (fits_nar_char _) W i hj (by rw [lu]; exact hi)
  rw [own_narc hz.1 hz.2] at z
  exact ⟨_, rfl, z, by rw [List.length_set]; exact lu⟩
theorem own_sC {p : Program} {e : Env} {R : Room} {s : State} {m : MethodId} {args : Array Value} {below : List Frame} {meth : Method} {c : Code} {T : State} {locs : List Loc} {cells slots : Nat} {K : Outcome → State → Prop} {h : Heap} (X : Stand p l e R s m args below meth c T locs cells slots) (hx : p.tables.exec = Jvm.exec) (hZ : Z.Warmed39 s.vm) (eT : T.heap = h) {a : Addr} {ka : ClassId} {u : List Value} {Nn : Int32} {k : Nat} (V : Arv Z h a ka .char Nn u (.int 0)) (lu : u.length = k) {j z : Int32} (hz : ¬ z < 0 ∧ ¬ (65535 : Int32) < z) (i : Nat) (hj : j.toNatClampNeg = i) (hi : i < k) (hin : ¬ j < 0 ∧ j < Nn) {n0 : Nat} (N : Fr n0 locs) (ga : n0 ≤ a) (E : Exa Z h a "[C") {vm0 : Vm} {hh : Heap} (Rr : CHr Z consts_1 vm0 hh s.vm h) {kz : Nat} (hk : kz ≤ h.size) (Z0 : n0 ≤ h.size) {pc : Nat} {Ls : Array Slot} {rest : List Value} (hd : decode c.code pc = .ok (.castore, 1))
    (kk : ∀ T' h' u' L', Stand p l e R s m args below meth c T' L' cells slots → T'.heap = h' → u' = u.set i (.int z) → Arv Z h' a ka .char Nn u' (.int 0) → u'.length = k → Fr n0 L' → CHr Z consts_1 vm0 hh s.vm h' → kz ≤ h'.size → n0 ≤ h'.size → Exa Z h' a "[C" → Wr h h' a j.toNatClampNeg (.int (nar .char z)) → own_G p e below K (T'.setTop (mkF m (pc + 1) Ls rest))) : own_G p e below K (T.setTop (mkF m pc Ls (.int z :: .int j :: .ref a :: rest))) := by
  obtain ⟨cl, Ar, q, Sz, Nn', Hh, Gg⟩ := id V
  obtain ⟨T', h', X', e', W, st⟩ := stC X hx hZ eT Ar (inb_of Sz hin) (g := mkF m pc Ls (.int z :: .int j :: .ref a :: rest)) rfl rfl hd
  obtain ⟨u', hu, V', lu'⟩ := own_fl V lu W hz i hj hi
  exact own_go st (kk T' h' u' _ X' e' hu V' lu' (Fr.snoc X' N ga) (CHr.trans Rr (CHr.wr W (Safe.exa hZ.alike E (by decide) (by decide)) Rr.1)) (Nat.le_trans hk (Keep.of_wr W).1) (Nat.le_trans Z0 (Keep.of_wr W).1) (E.wr W) W)
theorem own_pd42 : parseMethodDescriptor "([C)V" = some ⟨[(.array .char)], none⟩ := by decide +kernel
theorem own_pd43 : parseMethodDescriptor "(Ljava/lang/String;)Ljava/lang/String;" = some ⟨[(.object "java/lang/String")], some (.object "java/lang/String")⟩ := by decide +kernel
theorem own_pd44 : parseMethodDescriptor "(Ljava/lang/Object;)Z" = some ⟨[(.object "java/lang/Object")], some .boolean⟩ := by decide +kernel
theorem own_neg {p : Program} {e : Env} {s : State} {m : MethodId} {below : List Frame} {meth : Method} {c : Code} {q0 q1 : Int64} {p2 zc : Int32} {fm : Value} {h0 : Heap} {n0 : Nat} {a : Addr} {ka : ClassId} {cs : List Int32} {T9 : State} (hw : own_H a0 Z) (CC : own_C l Z a0 h0 p s m meth c) (B9 : own_T l Z p e s m below meth c q0 q1 p2 zc fm h0 n0 a ka cs T9) {n6 f7 pa8 pb9 k10 c11 zb12 zp13 : Int32} (hbad : ¬ zb12 = 0 ∨ zp13 = 0) (hno : ∀ q, ¬ own_good cs q) : own_G p e below (K_0 Z q0 q1 p2 zc fm h0 n0 s) (T9.setTop (mkF m 537 #[vl q0, v2, vl q1, v2, vi p2, vr a, vi n6, vi f7, vi pa8, vi pb9, vi k10, vi c11, vi zb12, vi zp13, vu, vu, vu] [])) := by
 obtain ⟨hx, hby, hml, hown, hZ, hS0, hEL, wSt, heq, hlk, hrt, hh⟩ := id CC
 have hZi := hZ
 obtain ⟨L9, h9, X9, e9, N9, Z9, R9, hk9, SS, EA9, VA9, hcl, hrg⟩ := B9
 show own_G _ _ _ _ (T9.setTop (mkF m 537 #[vl q0, v2, vl q1, v2, vi p2, vr a, vi n6, vi f7, vi pa8, vi pb9, vi k10, vi c11, vi zb12, vi zp13, vu, vu, vu] []))
 obtain ⟨T1, h1, X1, e1, E1, A1, D1, -, st1⟩ := newO X9 hx hZ hown (hw 10 rfl) (hw 11 rfl) (hw 12 rfl) e9 (g := (mkF m 537 #[vl q0, v2, vl q1, v2, vi p2, vr a, vi n6, vi f7, vi pa8, vi pb9, vi k10, vi c11, vi zb12, vi zp13, vu, vu, vu] [])) rfl (hb hby at_537) (by decide) (by decide)
 obtain ⟨b1, g1⟩ : ∃ z, z = h9.size := ⟨_, rfl⟩
 rw [← g1] at A1 D1 st1
 refine own_go st1 ?_
 have g_b1 : n0 ≤ b1 := Nat.le_trans Z9 (Nat.le_of_eq g1.symm)
 have R2 := CHr.trans R9 (CHr.ext E1 R9.1)
 have hk2 := Nat.le_trans hk9 E1.1
 have Z3 : n0 ≤ h1.size := Nat.le_trans Z9 E1.1
 have F1_coder : Fld Z h1 b1 "java/lang/String" "coder" "B" (.int (0 : Int32)) := D1 (Or.inr (hw 36 rfl)) (ty := .byte) (by decide)
 have F1_value : Fld Z h1 b1 "java/lang/String" "value" "[B" .null := D1 (Or.inr (hw 38 rfl)) (ty := (.array .byte)) (by decide)
 refine own_go (fun _ Kk => XS.dup X1.here hx rfl (hb hby at_540) rfl rfl (XS.aload X1.here hx rfl (hb hby at_541) rfl rfl Kk)) ?_
 have Q5 := (VA9.ext E1)
 have Q6 := (SS.ext E1)
 refine own_cI X1 hx hZ 1 hown (hw 13 rfl) (hw 14 rfl) (hw 15 rfl) (hw 12 rfl) (rm_ini1 hw b1 a cs ka zc fm h1 n0 Z3 F1_value F1_coder A1 Q5 g_b1 (by rw [hcl]; decide) hrg (by rw [hcl]; decide) (Nat.ne_of_lt (Nat.lt_of_lt_of_le EA9.lt (Nat.le_of_eq g1.symm))) Q6) e1 own_pd42 rfl (hb hby at_543) hml (fun _ T4 _ _ X4 l4 => own_hp ?_)
 rintro h4 e4 ⟨b4d, rfl, N4q, K4q, le_b4d, x4_0⟩
 have N4 := own_frl l4 N9 N4q
 have R7 := CHr.trans R2 (CHr.keep K4q (allS (Safe.ext E1 R9.1 (Safe.new (Nat.le_of_eq g1.symm))) all0) R2.1)
 have hk7 := Nat.le_trans hk2 K4q.1
 have Z8 : n0 ≤ h4.size := Nat.le_trans Z3 K4q.1
 have g_b4d : n0 ≤ b4d := Nat.le_trans Z3 le_b4d
 refine own_go (fun _ Kk => XS.astore X4.here hx rfl (hb hby at_546) rfl rfl (l' := #[vl q0, v2, vl q1, v2, vi p2, vr a, vi n6, vi f7, vi pa8, vi pb9, vi k10, vi c11, vi zb12, vi zp13, vr b1, vu, vu]) rfl Kk) ?_
 show own_G _ _ _ _ (T4.setTop (mkF m 548 #[vl q0, v2, vl q1, v2, vi p2, vr a, vi n6, vi f7, vi pa8, vi pb9, vi k10, vi c11, vi zb12, vi zp13, vr b1, vu, vu] []))
 refine own_go (fun _ Kk => XS.aload X4.here hx rfl (hb hby at_548) rfl rfl Kk) ?_
 have Q10 := (Q6.keep K4q (allS (fun cl hc => A1.nostat cl hc) all0))
 refine own_cS X4 hx hZ 0 hown (hw 39 rfl) (hw 40 rfl) (hw 41 rfl) (hw 42 rfl) (rm_bvn hw b1 b4d cs zc fm h4 n0 Z8 x4_0 hno Q10) e4 own_pd43 rfl (hb hby at_550) hml ?_
 rintro _ T9 _ _ X9 l9 ⟨rfl, N9q, e9⟩
 have N9 := own_frl l9 N4 N9q
 refine own_go (fun _ Kk => XS.astore X9.here hx rfl (hb hby at_553) rfl rfl (l' := #[vl q0, v2, vl q1, v2, vi p2, vr a, vi n6, vi f7, vi pa8, vi pb9, vi k10, vi c11, vi zb12, vi zp13, vr b1, vr b1, vu]) rfl (XS.iload X9.here hx rfl (hb hby at_555) rfl Kk)) ?_
 by_cases hc557_11 : zb12 = (0 : Int32)
 ·
  refine own_go (fun _ Kk => XS.ifNo X9.here hx rfl (hb hby at_557) rfl ((if0 _ _).trans (teq hc557_11).2) Kk) ?_
  show own_G _ _ _ _ (T9.setTop (mkF m 560 #[vl q0, v2, vl q1, v2, vi p2, vr a, vi n6, vi f7, vi pa8, vi pb9, vi k10, vi c11, vi zb12, vi zp13, vr b1, vr b1, vu] []))
  refine own_go (fun _ Kk => XS.iload X9.here hx rfl (hb hby at_560) rfl (XS.ifNo X9.here hx rfl (hb hby at_562) rfl ((if0 _ _).trans (teq (hbad.resolve_left (fun h => h hc557_11))).2) (XS.aload X9.here hx rfl (hb hby at_565) rfl rfl (XS.aload X9.here hx rfl (hb hby at_567) rfl rfl Kk)))) ?_
  obtain ⟨kb12l, cd12l, nb12l, vs12l, qE12l, qF12l, qG12l, qV12l, qc12l, qr12l, ql12l⟩ := id x4_0
  obtain ⟨kb12r, cd12r, nb12r, vs12r, qE12r, qF12r, qG12r, qV12r, qc12r, qr12r, ql12r⟩ := id x4_0
  obtain ⟨cq12, kq12, q12a, q12b, q12c⟩ := isOf hZ e9 (own_Str.exa x4_0)
  obtain ⟨_, _, ⟨T12, L12, k12, n12⟩, -, X12, ⟨Lc12, hQ12, l12, y12, z12⟩, st12⟩ := X9.virtualBack hx (y := y23) (z := y23) hown (mvT hZ (hw 102 rfl)) (mvT hZ (hw 103 rfl)) (notFace_of_selects (args := #[]) (mvT hZ (hw 105 rfl))) (mvT hZ (hw 105 rfl)) (mvT hZ (hw 104 rfl)) (by decide) (StrChars.Road.eqW (W := 0) (cs := cs) (ds := cs) hZ heq (kI := 4) (hw 11 rfl) qE12l qF12l qG12l qV12l qc12l qr12l ql12l qE12r qF12r qG12r qV12r qc12r qr12r ql12r Q10.2.2.1 SS.1 (by decide) (by decide)) q12a q12c (g := (mkF m 569 #[vl q0, v2, vl q1, v2, vi p2, vr a, vi n6, vi f7, vi pa8, vi pb9, vi k10, vi c11, vi zb12, vi zp13, vr b1, vr b1, vu] [.ref b1, .ref b1])) rfl (by rw [hml]; rfl) (Steps.refl _) (argsL := [(.ref b1)]) (rest := []) (lenOf own_pd44 rfl) rfl (by show 2 * 0 + _ ≤ _; exact Nat.le_of_eq rfl) (hb hby at_569) (fun _ _ => ⟨rfl, e9, (by decide : 4 + 0 ≤ _), (by decide : 84 + 0 ≤ _)⟩)
  dsimp only [Pt.U, Pt.locs, Pt.cells, Pt.slots] at X12 l12 y12 z12 st12 hQ12
  subst y12 z12
  obtain ⟨hE12, rfl, e12⟩ := hQ12
  have N12 := own_frl l12 N9 (Fr.nil n0)
  obtain ⟨rfl, -⟩ := Or.resolve_right hE12 (fun h => h.2 rfl)
  refine own_tr st12 ?_
  show own_G _ _ _ _ (T12.setTop (mkF m 572 #[vl q0, v2, vl q1, v2, vi p2, vr a, vi n6, vi f7, vi pa8, vi pb9, vi k10, vi c11, vi zb12, vi zp13, vr b1, vr b1, vu] [.int 1]))
  exact own_retNW X12 hS0 (by rw [e12]; exact hk7) hx hlk (t := .boolean) (z' := (1 : Int32)) hrt (by simp) (hb hby at_572) rfl (fun U hU hV hF => ⟨_, _, rfl, ⟨rfl, N12⟩, (by rw [hU, e12, hV, hh]; exact CHr.trans R7 (CHv.at X12 hZ hEL R7.1)), hF.1, hF.2.1, hF.2.2.1, hF.2.2.2.mono (by decide) (by decide)⟩)
 ·
  refine own_go (fun _ Kk => XS.ifYes X9.here hx rfl (pc0 := 557) (pc' := 565) rfl (hb hby at_557) rfl ((if0 _ _).trans (feq hc557_11).2) (by decide) (by decide) Kk) ?_
  show own_G _ _ _ _ (T9.setTop (mkF m 565 #[vl q0, v2, vl q1, v2, vi p2, vr a, vi n6, vi f7, vi pa8, vi pb9, vi k10, vi c11, vi zb12, vi zp13, vr b1, vr b1, vu] []))
  refine own_go (fun _ Kk => XS.aload X9.here hx rfl (hb hby at_565) rfl rfl (XS.aload X9.here hx rfl (hb hby at_567) rfl rfl Kk)) ?_
  obtain ⟨kb13l, cd13l, nb13l, vs13l, qE13l, qF13l, qG13l, qV13l, qc13l, qr13l, ql13l⟩ := id x4_0
  obtain ⟨kb13r, cd13r, nb13r, vs13r, qE13r, qF13r, qG13r, qV13r, qc13r, qr13r, ql13r⟩ := id x4_0
  obtain ⟨cq13, kq13, q13a, q13b, q13c⟩ := isOf hZ e9 (own_Str.exa x4_0)
  obtain ⟨_, _, ⟨T13, L13, k13, n13⟩, -, X13, ⟨Lc13, hQ13, l13, y13, z13⟩, st13⟩ := X9.virtualBack hx (y := y23) (z := y23) hown (mvT hZ (hw 102 rfl)) (mvT hZ (hw 103 rfl)) (notFace_of_selects (args := #[]) (mvT hZ (hw 105 rfl))) (mvT hZ (hw 105 rfl)) (mvT hZ (hw 104 rfl)) (by decide) (StrChars.Road.eqW (W := 0) (cs := cs) (ds := cs) hZ heq (kI := 4) (hw 11 rfl) qE13l qF13l qG13l qV13l qc13l qr13l ql13l qE13r qF13r qG13r qV13r qc13r qr13r ql13r Q10.2.2.1 SS.1 (by decide) (by decide)) q13a q13c (g := (mkF m 569 #[vl q0, v2, vl q1, v2, vi p2, vr a, vi n6, vi f7, vi pa8, vi pb9, vi k10, vi c11, vi zb12, vi zp13, vr b1, vr b1, vu] [.ref b1, .ref b1])) rfl (by rw [hml]; rfl) (Steps.refl _) (argsL := [(.ref b1)]) (rest := []) (lenOf own_pd44 rfl) rfl (by show 2 * 0 + _ ≤ _; exact Nat.le_of_eq rfl) (hb hby at_569) (fun _ _ => ⟨rfl, e9, (by decide : 4 + 0 ≤ _), (by decide : 84 + 0 ≤ _)⟩)
  dsimp only [Pt.U, Pt.locs, Pt.cells, Pt.slots] at X13 l13 y13 z13 st13 hQ13
  subst y13 z13
  obtain ⟨hE13, rfl, e13⟩ := hQ13
  have N13 := own_frl l13 N9 (Fr.nil n0)
  obtain ⟨rfl, -⟩ := Or.resolve_right hE13 (fun h => h.2 rfl)
  refine own_tr st13 ?_
  exact own_retNW X13 hS0 (by rw [e13]; exact hk7) hx hlk (t := .boolean) (z' := (1 : Int32)) hrt (by simp) (hb hby at_572) rfl (fun U hU hV hF => ⟨_, _, rfl, ⟨rfl, N13⟩, (by rw [hU, e13, hV, hh]; exact CHr.trans R7 (CHv.at X13 hZ hEL R7.1)), hF.1, hF.2.1, hF.2.2.1, hF.2.2.2.mono (by decide) (by decide)⟩)
theorem own_p0 {p : Program} {e : Env} {s : State} {m : MethodId} {below : List Frame} {meth : Method} {c : Code} {q0 q1 : Int64} {p2 zc : Int32} {fm : Value} {h0 : Heap} {n0 : Nat} {a : Addr} {ka : ClassId} {cs : List Int32} {T9 : State} (hw : own_H a0 Z) (CC : own_C l Z a0 h0 p s m meth c) (B9 : own_T l Z p e s m below meth c q0 q1 p2 zc fm h0 n0 a ka cs T9) {f7 pa8 pb9 k10 c11 : Int32} (hlay : own_lay 0 cs) (hpre : own_pre 0 cs) : own_G p e below (K_0 Z q0 q1 p2 zc fm h0 n0 s) (T9.setTop (mkF m 537 #[vl q0, v2, vl q1, v2, vi p2, vr a, vi 0, vi f7, vi pa8, vi pb9, vi k10, vi c11, vi 0, vi 1, vu, vu, vu] [])) := by
 obtain ⟨hx, hby, hml, hown, hZ, hS0, hEL, wSt, heq, hlk, hrt, hh⟩ := id CC
 have hZi := hZ
 obtain ⟨L9, h9, X9, e9, N9, Z9, R9, hk9, SS, EA9, VA9, hcl, hrg⟩ := B9
 have hgd : own_good cs 0 := own_lay_good (by decide) hlay hpre
 have hlo : ∀ c ∈ cs, ¬ (255 : Int32) < c := own_lay_lo (by decide) hlay hpre (fun h => absurd h (by decide))
 show own_G _ _ _ _ (T9.setTop (mkF m 537 #[vl q0, v2, vl q1, v2, vi p2, vr a, vi 0, vi f7, vi pa8, vi pb9, vi k10, vi c11, vi 0, vi 1, vu, vu, vu] []))
 obtain ⟨T1, h1, X1, e1, E1, A1, D1, -, st1⟩ := newO X9 hx hZ hown (hw 10 rfl) (hw 11 rfl) (hw 12 rfl) e9 (g := (mkF m 537 #[vl q0, v2, vl q1, v2, vi p2, vr a, vi 0, vi f7, vi pa8, vi pb9, vi k10, vi c11, vi 0, vi 1, vu, vu, vu] [])) rfl (hb hby at_537) (by decide) (by decide)
 obtain ⟨b1, g1⟩ : ∃ z, z = h9.size := ⟨_, rfl⟩
 rw [← g1] at A1 D1 st1
 refine own_go st1 ?_
 have g_b1 : n0 ≤ b1 := Nat.le_trans Z9 (Nat.le_of_eq g1.symm)
 have R2 := CHr.trans R9 (CHr.ext E1 R9.1)
 have hk2 := Nat.le_trans hk9 E1.1
 have Z3 : n0 ≤ h1.size := Nat.le_trans Z9 E1.1
 have F1_coder : Fld Z h1 b1 "java/lang/String" "coder" "B" (.int (0 : Int32)) := D1 (Or.inr (hw 36 rfl)) (ty := .byte) (by decide)
 have F1_value : Fld Z h1 b1 "java/lang/String" "value" "[B" .null := D1 (Or.inr (hw 38 rfl)) (ty := (.array .byte)) (by decide)
 refine own_go (fun _ Kk => XS.dup X1.here hx rfl (hb hby at_540) rfl rfl (XS.aload X1.here hx rfl (hb hby at_541) rfl rfl Kk)) ?_
 have Q5 := (VA9.ext E1)
 have Q6 := (SS.ext E1)
 refine own_cI X1 hx hZ 1 hown (hw 13 rfl) (hw 14 rfl) (hw 15 rfl) (hw 12 rfl) (rm_ini1 hw b1 a cs ka zc fm h1 n0 Z3 F1_value F1_coder A1 Q5 g_b1 (by rw [hcl]; decide) hrg (by rw [hcl]; decide) (Nat.ne_of_lt (Nat.lt_of_lt_of_le EA9.lt (Nat.le_of_eq g1.symm))) Q6) e1 own_pd42 rfl (hb hby at_543) hml (fun _ T4 _ _ X4 l4 => own_hp ?_)
 rintro h4 e4 ⟨b4d, rfl, N4q, K4q, le_b4d, x4_0⟩
 have N4 := own_frl l4 N9 N4q
 have R7 := CHr.trans R2 (CHr.keep K4q (allS (Safe.ext E1 R9.1 (Safe.new (Nat.le_of_eq g1.symm))) all0) R2.1)
 have hk7 := Nat.le_trans hk2 K4q.1
 have Z8 : n0 ≤ h4.size := Nat.le_trans Z3 K4q.1
 have g_b4d : n0 ≤ b4d := Nat.le_trans Z3 le_b4d
 refine own_go (fun _ Kk => XS.astore X4.here hx rfl (hb hby at_546) rfl rfl (l' := #[vl q0, v2, vl q1, v2, vi p2, vr a, vi 0, vi f7, vi pa8, vi pb9, vi k10, vi c11, vi 0, vi 1, vr b1, vu, vu]) rfl Kk) ?_
 show own_G _ _ _ _ (T4.setTop (mkF m 548 #[vl q0, v2, vl q1, v2, vi p2, vr a, vi 0, vi f7, vi pa8, vi pb9, vi k10, vi c11, vi 0, vi 1, vr b1, vu, vu] []))
 refine own_go (fun _ Kk => XS.aload X4.here hx rfl (hb hby at_548) rfl rfl Kk) ?_
 have Q10 := (Q6.keep K4q (allS (fun cl hc => A1.nostat cl hc) all0))
 obtain ⟨_, _, ⟨T9, L9, k9, n9⟩, -, Y9, hs9, hg9, ⟨Lc9, hQ9, l9, y9, z9, C9⟩, st9⟩ := callSS X4 hx (y := y8) hown (mvT hZ (hw 39 rfl)) (mvT hZ (hw 40 rfl)) (mvT hZ (hw 41 rfl)) (mvT hZ (hw 42 rfl)) (by decide) (backOfSH (W := 0) (rm_bv0 hw b1 b4d cs zc fm h4 n0 Z8 x4_0 hgd hlo Q10) hZ (hw 42 rfl) (hw 41 rfl) (by decide) (by decide) hEL R7.1) (g := (mkF m 550 #[vl q0, v2, vl q1, v2, vi p2, vr a, vi 0, vi f7, vi pa8, vi pb9, vi k10, vi c11, vi 0, vi 1, vr b1, vu, vu] [.ref b1])) rfl (by rw [hml]; rfl) (argsL := [(.ref b1)]) (rest := []) (lenOf own_pd43 rfl) rfl (by show 2 * 0 + _ ≤ _; exact Nat.le_of_eq rfl) (hb hby at_550) (fun _ _ => ⟨rfl, e4, (by decide : 4 + 11 ≤ _), (by decide : 84 + 252 ≤ _)⟩)
 dsimp only [Pt.U, Pt.locs, Pt.cells, Pt.slots] at Y9 hs9 hg9 l9 y9 z9 C9 st9 hQ9
 subst y9 z9
 obtain ⟨X9, hS9, hZ9, hown9⟩ := rebS hS0 (Nat.le_trans hk7 (Nat.le_of_eq (congrArg Array.size e4).symm)) Y9 hs9 hg9 hZ hown
 obtain ⟨h9, e9⟩ : ∃ z, T9.heap = z := ⟨_, rfl⟩
 rw [e9] at hQ9 hS9 C9
 have R9 := CHr.trans R7 C9
 have hk9 : h9.size ≤ h9.size := Nat.le_refl _
 obtain ⟨x9, d9, rfl, N9q, K9q, x9_0⟩ := hQ9
 have N9 := own_frl l9 N4 N9q
 have Z11 : n0 ≤ h9.size := Nat.le_trans Z8 K9q.1
 refine own_tr st9 ?_
 refine own_go (fun _ Kk => XS.astore X9.here hx rfl (hb hby at_553) rfl rfl (l' := #[vl q0, v2, vl q1, v2, vi p2, vr a, vi 0, vi f7, vi pa8, vi pb9, vi k10, vi c11, vi 0, vi 1, vr b1, vr x9, vu]) rfl (XS.iload X9.here hx rfl (hb hby at_555) rfl (XS.ifNo X9.here hx rfl (hb hby at_557) rfl ((if0 _ _).trans (by decide)) Kk))) ?_
 show own_G _ _ _ _ (T9.setTop (mkF m 560 #[vl q0, v2, vl q1, v2, vi p2, vr a, vi 0, vi f7, vi pa8, vi pb9, vi k10, vi c11, vi 0, vi 1, vr b1, vr x9, vu] []))
 refine own_go (fun _ Kk => XS.iload X9.here hx rfl (hb hby at_560) rfl (XS.ifYes X9.here hx rfl (pc0 := 562) (pc' := 573) rfl (hb hby at_562) rfl ((if0 _ _).trans (by decide)) (by decide) (by decide) (XS.iload X9.here hx rfl (hb hby at_573) rfl (XS.ifNo X9.here hx rfl (hb hby at_575) rfl ((if0 _ _).trans (by decide)) Kk)))) ?_
 obtain ⟨a12, T12, h12, k12, b12, kb12, X12, e12, E12, hS12, hk12, hZ12, hown12, A12, Fc12, Fv12, V12, la12, lb12, C12, -, Sf12, st12⟩ := ldcCH (EL := consts_1) X9 hx hZ9 hown9 (hw 223 rfl) wSt e9 hS9 hk9 hEL (List.mem_of_getElem? (i := 1) rfl) R9.1 (vs := (own_bs "SNAPSHOT")) (z := (8 : Int32)) (own_lit (by decide +kernel)) (by decide) (by decide +kernel) (g := (mkF m 578 #[vl q0, v2, vl q1, v2, vi p2, vr a, vi 0, vi f7, vi pa8, vi pb9, vi k10, vi c11, vi 0, vi 1, vr b1, vr x9, vu] [])) rfl (hb hby at_578) (n := 32) (by decide +kernel) (by decide) (by decide) (by decide)
 refine own_go st12 ?_
 have R12 := CHr.trans R9 C12
 have Z13 : n0 ≤ h12.size := Nat.le_trans Z11 E12.1
 have TT12 : own_Str Z h12 a12 b12 (own_ch "SNAPSHOT") := ⟨_, _, _, _, A12, Fv12, Fc12, V12, own_codA "SNAPSHOT" (by decide +kernel) (by decide +kernel), by decide +kernel, by decide +kernel⟩
 show own_G _ _ _ _ (T12.setTop (mkF m 580 #[vl q0, v2, vl q1, v2, vi p2, vr a, vi 0, vi f7, vi pa8, vi pb9, vi k10, vi c11, vi 0, vi 1, vr b1, vr x9, vu] [.ref a12]))
 refine own_go (fun _ Kk => XS.astore X12.here hx rfl (hb hby at_580) rfl rfl (l' := #[vl q0, v2, vl q1, v2, vi p2, vr a, vi 0, vi f7, vi pa8, vi pb9, vi k10, vi c11, vi 0, vi 1, vr b1, vr x9, vr a12]) rfl (XS.goto X12.here hx rfl (pc0 := 582) (pc' := 728) rfl (hb hby at_582) (by decide) (by decide) (XS.aload X12.here hx rfl (hb hby at_728) rfl rfl (XS.aload X12.here hx rfl (hb hby at_730) rfl rfl Kk)))) ?_
 have Q15 := (x9_0.ext E12)
 obtain ⟨kb14l, cd14l, nb14l, vs14l, qE14l, qF14l, qG14l, qV14l, qc14l, qr14l, ql14l⟩ := id Q15
 obtain ⟨kb14r, cd14r, nb14r, vs14r, qE14r, qF14r, qG14r, qV14r, qc14r, qr14r, ql14r⟩ := id TT12
 have Q16 := ((Q10.keep K9q all0).ext E12)
 have Q17 := ((own_Str.exa x9_0).ext E12)
 obtain ⟨cq14, kq14, q14a, q14b, q14c⟩ := isOf hZ12 e12 Q17
 obtain ⟨_, _, ⟨T14, L14, k14, n14⟩, -, X14, ⟨Lc14, hQ14, l14, y14, z14⟩, st14⟩ := X12.virtualBack hx (y := y23) (z := y23) hown12 (mvT hZ12 (hw 102 rfl)) (mvT hZ12 (hw 103 rfl)) (notFace_of_selects (args := #[]) (mvT hZ12 (hw 105 rfl))) (mvT hZ12 (hw 105 rfl)) (mvT hZ12 (hw 104 rfl)) (by decide) (StrChars.Road.eqW (W := 0) (cs := (own_ch "" ++ (own_ch "SNAPSHOT"))) (ds := (own_ch "SNAPSHOT")) hZ12 heq (kI := 4) (hw 11 rfl) qE14l qF14l qG14l qV14l qc14l qr14l ql14l qE14r qF14r qG14r qV14r qc14r qr14r ql14r Q16.2.2.1 SS.1 (by decide) (by decide)) q14a q14c (g := (mkF m 732 #[vl q0, v2, vl q1, v2, vi p2, vr a, vi 0, vi f7, vi pa8, vi pb9, vi k10, vi c11, vi 0, vi 1, vr b1, vr x9, vr a12] [.ref a12, .ref x9])) rfl (by rw [hml]; rfl) (Steps.refl _) (argsL := [(.ref a12)]) (rest := []) (lenOf own_pd44 rfl) rfl (by show 2 * 0 + _ ≤ _; exact Nat.le_of_eq rfl) (hb hby at_732) (fun _ _ => ⟨rfl, e12, (by decide : 17 + 0 ≤ _), (by decide : 372 + 0 ≤ _)⟩)
 dsimp only [Pt.U, Pt.locs, Pt.cells, Pt.slots] at X14 l14 y14 z14 st14 hQ14
 subst y14 z14
 obtain ⟨hE14, rfl, e14⟩ := hQ14
 have N14 := own_frl l14 N9 (Fr.nil n0)
 obtain ⟨rfl, -⟩ := Or.resolve_right hE14 (fun h => h.2 (by rw [own_em]; rfl))
 refine own_tr st14 ?_
 show own_G _ _ _ _ (T14.setTop (mkF m 735 #[vl q0, v2, vl q1, v2, vi p2, vr a, vi 0, vi f7, vi pa8, vi pb9, vi k10, vi c11, vi 0, vi 1, vr b1, vr x9, vr a12] [.int 1]))
 exact own_retNW X14 hS12 (by rw [e14]; exact hk12) hx hlk (t := .boolean) (z' := (1 : Int32)) hrt (by simp) (hb hby at_735) rfl (fun U hU hV hF => ⟨_, _, rfl, ⟨rfl, N14⟩, (by rw [hU, e14, hV, hh]; exact CHr.trans R12 (CHv.at X14 hZ12 hEL R12.1)), hF.1, hF.2.1, hF.2.2.1, hF.2.2.2.mono (by decide) (by decide)⟩)
theorem own_p1 {p : Program} {e : Env} {s : State} {m : MethodId} {below : List Frame} {meth : Method} {c : Code} {q0 q1 : Int64} {p2 zc : Int32} {fm : Value} {h0 : Heap} {n0 : Nat} {a : Addr} {ka : ClassId} {cs : List Int32} {T9 : State} (hw : own_H a0 Z) (CC : own_C l Z a0 h0 p s m meth c) (B9 : own_T l Z p e s m below meth c q0 q1 p2 zc fm h0 n0 a ka cs T9) {f7 pa8 pb9 k10 c11 : Int32} (hlay : own_lay 1 cs) (hpre : own_pre 1 cs) : own_G p e below (K_0 Z q0 q1 p2 zc fm h0 n0 s) (T9.setTop (mkF m 537 #[vl q0, v2, vl q1, v2, vi p2, vr a, vi 1, vi f7, vi pa8, vi pb9, vi k10, vi c11, vi 0, vi 1, vu, vu, vu] [])) := by
 obtain ⟨hx, hby, hml, hown, hZ, hS0, hEL, wSt, heq, hlk, hrt, hh⟩ := id CC
 have hZi := hZ
 obtain ⟨L9, h9, X9, e9, N9, Z9, R9, hk9, SS, EA9, VA9, hcl, hrg⟩ := B9
 have hgd : own_good cs 1 := own_lay_good (by decide) hlay hpre
 have hlo : ∀ c ∈ cs, ¬ (255 : Int32) < c := own_lay_lo (by decide) hlay hpre (fun h => absurd h (by decide))
 show own_G _ _ _ _ (T9.setTop (mkF m 537 #[vl q0, v2, vl q1, v2, vi p2, vr a, vi 1, vi f7, vi pa8, vi pb9, vi k10, vi c11, vi 0, vi 1, vu, vu, vu] []))
 obtain ⟨T1, h1, X1, e1, E1, A1, D1, -, st1⟩ := newO X9 hx hZ hown (hw 10 rfl) (hw 11 rfl) (hw 12 rfl) e9 (g := (mkF m 537 #[vl q0, v2, vl q1, v2, vi p2, vr a, vi 1, vi f7, vi pa8, vi pb9, vi k10, vi c11, vi 0, vi 1, vu, vu, vu] [])) rfl (hb hby at_537) (by decide) (by decide)
 obtain ⟨b1, g1⟩ : ∃ z, z = h9.size := ⟨_, rfl⟩
 rw [← g1] at A1 D1 st1
 refine own_go st1 ?_
 have g_b1 : n0 ≤ b1 := Nat.le_trans Z9 (Nat.le_of_eq g1.symm)
 have R2 := CHr.trans R9 (CHr.ext E1 R9.1)
 have hk2 := Nat.le_trans hk9 E1.1
 have Z3 : n0 ≤ h1.size := Nat.le_trans Z9 E1.1
 have F1_coder : Fld Z h1 b1 "java/lang/String" "coder" "B" (.int (0 : Int32)) := D1 (Or.inr (hw 36 rfl)) (ty := .byte) (by decide)
 have F1_value : Fld Z h1 b1 "java/lang/String" "value" "[B" .null := D1 (Or.inr (hw 38 rfl)) (ty := (.array .byte)) (by decide)
 refine own_go (fun _ Kk => XS.dup X1.here hx rfl (hb hby at_540) rfl rfl (XS.aload X1.here hx rfl (hb hby at_541) rfl rfl Kk)) ?_
 have Q5 := (VA9.ext E1)
 have Q6 := (SS.ext E1)
 refine own_cI X1 hx hZ 1 hown (hw 13 rfl) (hw 14 rfl) (hw 15 rfl) (hw 12 rfl) (rm_ini1 hw b1 a cs ka zc fm h1 n0 Z3 F1_value F1_coder A1 Q5 g_b1 (by rw [hcl]; decide) hrg (by rw [hcl]; decide) (Nat.ne_of_lt (Nat.lt_of_lt_of_le EA9.lt (Nat.le_of_eq g1.symm))) Q6) e1 own_pd42 rfl (hb hby at_543) hml (fun _ T4 _ _ X4 l4 => own_hp ?_)
 rintro h4 e4 ⟨b4d, rfl, N4q, K4q, le_b4d, x4_0⟩
 have N4 := own_frl l4 N9 N4q
 have R7 := CHr.trans R2 (CHr.keep K4q (allS (Safe.ext E1 R9.1 (Safe.new (Nat.le_of_eq g1.symm))) all0) R2.1)
 have hk7 := Nat.le_trans hk2 K4q.1
 have Z8 : n0 ≤ h4.size := Nat.le_trans Z3 K4q.1
 have g_b4d : n0 ≤ b4d := Nat.le_trans Z3 le_b4d
 refine own_go (fun _ Kk => XS.astore X4.here hx rfl (hb hby at_546) rfl rfl (l' := #[vl q0, v2, vl q1, v2, vi p2, vr a, vi 1, vi f7, vi pa8, vi pb9, vi k10, vi c11, vi 0, vi 1, vr b1, vu, vu]) rfl Kk) ?_
 show own_G _ _ _ _ (T4.setTop (mkF m 548 #[vl q0, v2, vl q1, v2, vi p2, vr a, vi 1, vi f7, vi pa8, vi pb9, vi k10, vi c11, vi 0, vi 1, vr b1, vu, vu] []))
 refine own_go (fun _ Kk => XS.aload X4.here hx rfl (hb hby at_548) rfl rfl Kk) ?_
 have Q10 := (Q6.keep K4q (allS (fun cl hc => A1.nostat cl hc) all0))
 obtain ⟨_, _, ⟨T9, L9, k9, n9⟩, -, Y9, hs9, hg9, ⟨Lc9, hQ9, l9, y9, z9, C9⟩, st9⟩ := callSS X4 hx (y := y8) hown (mvT hZ (hw 39 rfl)) (mvT hZ (hw 40 rfl)) (mvT hZ (hw 41 rfl)) (mvT hZ (hw 42 rfl)) (by decide) (backOfSH (W := 0) (rm_bvL hw b1 b4d cs 1 zc fm h4 n0 Z8 x4_0 hgd (by rw [hcl]; decide) (by decide) (by decide) hlo Q10) hZ (hw 42 rfl) (hw 41 rfl) (by decide) (by decide) hEL R7.1) (g := (mkF m 550 #[vl q0, v2, vl q1, v2, vi p2, vr a, vi 1, vi f7, vi pa8, vi pb9, vi k10, vi c11, vi 0, vi 1, vr b1, vu, vu] [.ref b1])) rfl (by rw [hml]; rfl) (argsL := [(.ref b1)]) (rest := []) (lenOf own_pd43 rfl) rfl (by show 2 * 0 + _ ≤ _; exact Nat.le_of_eq rfl) (hb hby at_550) (fun _ _ => ⟨rfl, e4, (by decide : 4 + 11 ≤ _), (by decide : 84 + 252 ≤ _)⟩)
 dsimp only [Pt.U, Pt.locs, Pt.cells, Pt.slots] at Y9 hs9 hg9 l9 y9 z9 C9 st9 hQ9
 subst y9 z9
 obtain ⟨X9, hS9, hZ9, hown9⟩ := rebS hS0 (Nat.le_trans hk7 (Nat.le_of_eq (congrArg Array.size e4).symm)) Y9 hs9 hg9 hZ hown
 obtain ⟨h9, e9⟩ : ∃ z, T9.heap = z := ⟨_, rfl⟩
 rw [e9] at hQ9 hS9 C9
 have R9 := CHr.trans R7 C9
 have hk9 : h9.size ≤ h9.size := Nat.le_refl _
 obtain ⟨x9, d9, rfl, N9q, K9q, x9_0⟩ := hQ9
 have N9 := own_frl l9 N4 N9q
 have Z11 : n0 ≤ h9.size := Nat.le_trans Z8 K9q.1
 refine own_tr st9 ?_
 refine own_go (fun _ Kk => XS.astore X9.here hx rfl (hb hby at_553) rfl rfl (l' := #[vl q0, v2, vl q1, v2, vi p2, vr a, vi 1, vi f7, vi pa8, vi pb9, vi k10, vi c11, vi 0, vi 1, vr b1, vr x9, vu]) rfl (XS.iload X9.here hx rfl (hb hby at_555) rfl (XS.ifNo X9.here hx rfl (hb hby at_557) rfl ((if0 _ _).trans (by decide)) Kk))) ?_
 show own_G _ _ _ _ (T9.setTop (mkF m 560 #[vl q0, v2, vl q1, v2, vi p2, vr a, vi 1, vi f7, vi pa8, vi pb9, vi k10, vi c11, vi 0, vi 1, vr b1, vr x9, vu] []))
 refine own_go (fun _ Kk => XS.iload X9.here hx rfl (hb hby at_560) rfl (XS.ifYes X9.here hx rfl (pc0 := 562) (pc' := 573) rfl (hb hby at_562) rfl ((if0 _ _).trans (by decide)) (by decide) (by decide) (XS.iload X9.here hx rfl (hb hby at_573) rfl (XS.ifYes X9.here hx rfl (pc0 := 575) (pc' := 585) rfl (hb hby at_575) rfl ((if0 _ _).trans (by decide)) (by decide) (by decide) (XS.iload X9.here hx rfl (hb hby at_585) rfl Kk))))) ?_
 show own_G _ _ _ _ (T9.setTop (mkF m 587 #[vl q0, v2, vl q1, v2, vi p2, vr a, vi 1, vi f7, vi pa8, vi pb9, vi k10, vi c11, vi 0, vi 1, vr b1, vr x9, vu] [.int 1]))
 refine own_go (fun _ Kk => XS.iconst X9.here hx rfl (hb hby at_587) (XS.icmpNo X9.here hx rfl (hb hby at_588) rfl (by decide) Kk)) ?_
 obtain ⟨T12, h12, X12, e12, E12, A12, D12, -, st12⟩ := newO X9 hx hZ9 hown9 (hw 10 rfl) (hw 11 rfl) (hw 12 rfl) e9 (g := (mkF m 591 #[vl q0, v2, vl q1, v2, vi p2, vr a, vi 1, vi f7, vi pa8, vi pb9, vi k10, vi c11, vi 0, vi 1, vr b1, vr x9, vu] [])) rfl (hb hby at_591) (by decide) (by decide)
 obtain ⟨b12, g12⟩ : ∃ z, z = h9.size := ⟨_, rfl⟩
 rw [← g12] at A12 D12 st12
 refine own_go st12 ?_
 have g_b12 : n0 ≤ b12 := Nat.le_trans Z11 (Nat.le_of_eq g12.symm)
 have R13 := CHr.trans R9 (CHr.ext E12 R9.1)
 have hk13 := Nat.le_trans hk9 E12.1
 have Z14 : n0 ≤ h12.size := Nat.le_trans Z11 E12.1
 have F12_coder : Fld Z h12 b12 "java/lang/String" "coder" "B" (.int (0 : Int32)) := D12 (Or.inr (hw 36 rfl)) (ty := .byte) (by decide)
 have F12_value : Fld Z h12 b12 "java/lang/String" "value" "[B" .null := D12 (Or.inr (hw 38 rfl)) (ty := (.array .byte)) (by decide)
 refine own_go (fun _ Kk => XS.dup X12.here hx rfl (hb hby at_594) rfl rfl (XS.bipush X12.here hx rfl (hb hby at_595) Kk)) ?_
 show own_G _ _ _ _ (T12.setTop (mkF m 597 #[vl q0, v2, vl q1, v2, vi p2, vr a, vi 1, vi f7, vi pa8, vi pb9, vi k10, vi c11, vi 0, vi 1, vr b1, vr x9, vu] [.int 9, .ref b12, .ref b12]))
 obtain ⟨T15, h15, k15, X15, e15, E15, A15, B15, st15⟩ := newPE X12 hx hZ9 (hw 0 rfl) e12 (g := (mkF m 597 #[vl q0, v2, vl q1, v2, vi p2, vr a, vi 1, vi f7, vi pa8, vi pb9, vi k10, vi c11, vi 0, vi 1, vr b1, vr x9, vu] [.int 9, .ref b12, .ref b12])) rfl (hb hby at_597) rfl (by decide) (cap := 9) (by decide) (by decide) (by decide) (by decide) (ad := "[C") (by decide)
 obtain ⟨b15, g15⟩ : ∃ z, z = h12.size := ⟨_, rfl⟩
 rw [← g15] at A15 B15 st15
 refine own_go st15 ?_
 have g_b15 : n0 ≤ b15 := Nat.le_trans Z14 (Nat.le_of_eq g15.symm)
 have V15 : Arv Z h15 b15 k15 .char (9 : Int32) [(.int (0 : Int32)), (.int (0 : Int32)), (.int (0 : Int32)), (.int (0 : Int32)), (.int (0 : Int32)), (.int (0 : Int32)), (.int (0 : Int32)), (.int (0 : Int32)), (.int (0 : Int32))] (.int (0 : Int32)) := (Arv.new A15 (by decide)).pad (pad_rep [] (.int (0 : Int32)) 9)
 have R16 := CHr.trans R13 (CHr.ext E15 R13.1)
 have hk16 := Nat.le_trans hk13 E15.1
 have Z17 : n0 ≤ h15.size := Nat.le_trans Z14 E15.1
 refine own_go (fun _ Kk => XS.dup X15.here hx rfl (hb hby at_599) rfl rfl (XS.iconst X15.here hx rfl (hb hby at_600) (XS.aload X15.here hx rfl (hb hby at_601) rfl rfl (XS.iconst X15.here hx rfl (hb hby at_603) Kk)))) ?_
 show own_G _ _ _ _ (T15.setTop (mkF m 604 #[vl q0, v2, vl q1, v2, vi p2, vr a, vi 1, vi f7, vi pa8, vi pb9, vi k10, vi c11, vi 0, vi 1, vr b1, vr x9, vu] [.int 0, .ref a, .int 0, .ref b15, .ref b15, .ref b12, .ref b12]))
 have Q19 := ((((Q5.keep K4q (own_nc (Nat.ne_of_lt (Nat.lt_of_lt_of_le EA9.lt (Nat.le_of_eq g1.symm))) List.not_mem_nil)).keep K9q List.not_mem_nil).ext E12).ext E15)
 obtain ⟨cl18, Ar18, -, Sz18, Nn18, Hh18, -⟩ := id Q19
 have hin18 : ¬ ((0 : Int32) < 0 ∨ cl18.slots.size ≤ ((0 : Int32)).toNatClampNeg) := inb_of Sz18 ⟨by decide, own_onl (i := 0) (by rw [hcl]; decide) (by rw [hcl]; decide)⟩
 have hat18 : cl18.slots[((0 : Int32)).toNatClampNeg]? = some (.int (cs.getD 0 0)) := Has.at Hh18 hin18 (own_cg (i := 0) (by rw [hcl]; decide) _)
 refine own_go (X15.caload hx (j := (0 : Int32)) (v := (.int (cs.getD 0 0))) (by rw [e15]; exact Ar18.1) (State.isArrayOf_alike hZ9.alike Ar18.2.1) Ar18.2.2 hin18 hat18 (g := (mkF m 604 #[vl q0, v2, vl q1, v2, vi p2, vr a, vi 1, vi f7, vi pa8, vi pb9, vi k10, vi c11, vi 0, vi 1, vr b1, vr x9, vu] [.int 0, .ref a, .int 0, .ref b15, .ref b15, .ref b12, .ref b12])) rfl rfl (hb hby at_604)) ?_
 refine own_sC X15 hx hZ9 e15 V15 rfl (hrg _ (own_mem (i := 0) (by rw [hcl]; decide))) 0 rfl (by decide) ⟨by decide, by decide⟩ N9 g_b15 B15 R16 hk16 Z17 (hb hby at_605) ?_
 intro T20 h20 u20 L20 X20 e20 hu20 V20 lu20 N20 R20 hk20 Z20 B20 W20
 refine own_go (fun _ Kk => XS.dup X20.here hx rfl (hb hby at_606) rfl rfl (XS.iconst X20.here hx rfl (hb hby at_607) (XS.bipush X20.here hx rfl (hb hby at_608) Kk))) ?_
 show own_G _ _ _ _ (T20.setTop (mkF m 610 #[vl q0, v2, vl q1, v2, vi p2, vr a, vi 1, vi f7, vi pa8, vi pb9, vi k10, vi c11, vi 0, vi 1, vr b1, vr x9, vu] [.int 83, .int 1, .ref b15, .ref b15, .ref b12, .ref b12]))
 refine own_sC X20 hx hZ9 e20 V20 lu20 ⟨by decide, by decide⟩ 1 rfl (by decide) ⟨by decide, by decide⟩ N20 g_b15 B20 R20 hk20 Z20 (hb hby at_610) ?_
 intro T21 h21 u21 L21 X21 e21 hu21 V21 lu21 N21 R21 hk21 Z21 B21 W21
 refine own_go (fun _ Kk => XS.dup X21.here hx rfl (hb hby at_611) rfl rfl (XS.iconst X21.here hx rfl (hb hby at_612) (XS.bipush X21.here hx rfl (hb hby at_613) Kk))) ?_
 refine own_sC X21 hx hZ9 e21 V21 lu21 ⟨by decide, by decide⟩ 2 rfl (by decide) ⟨by decide, by decide⟩ N21 g_b15 B21 R21 hk21 Z21 (hb hby at_615) ?_
 intro T22 h22 u22 L22 X22 e22 hu22 V22 lu22 N22 R22 hk22 Z22 B22 W22
 show own_G _ _ _ _ (T22.setTop (mkF m 616 #[vl q0, v2, vl q1, v2, vi p2, vr a, vi 1, vi f7, vi pa8, vi pb9, vi k10, vi c11, vi 0, vi 1, vr b1, vr x9, vu] [.ref b15, .ref b12, .ref b12]))
 refine own_go (fun _ Kk => XS.dup X22.here hx rfl (hb hby at_616) rfl rfl (XS.iconst X22.here hx rfl (hb hby at_617) (XS.bipush X22.here hx rfl (hb hby at_618) Kk))) ?_
 refine own_sC X22 hx hZ9 e22 V22 lu22 ⟨by decide, by decide⟩ 3 rfl (by decide) ⟨by decide, by decide⟩ N22 g_b15 B22 R22 hk22 Z22 (hb hby at_620) ?_
 intro T23 h23 u23 L23 X23 e23 hu23 V23 lu23 N23 R23 hk23 Z23 B23 W23
 refine own_go (fun _ Kk => XS.dup X23.here hx rfl (hb hby at_621) rfl rfl Kk) ?_
 show own_G _ _ _ _ (T23.setTop (mkF m 622 #[vl q0, v2, vl q1, v2, vi p2, vr a, vi 1, vi f7, vi pa8, vi pb9, vi k10, vi c11, vi 0, vi 1, vr b1, vr x9, vu] [.ref b15, .ref b15, .ref b12, .ref b12]))
 refine own_go (fun _ Kk => XS.iconst X23.here hx rfl (hb hby at_622) (XS.bipush X23.here hx rfl (hb hby at_623) Kk)) ?_
 refine own_sC X23 hx hZ9 e23 V23 lu23 ⟨by decide, by decide⟩ 4 rfl (by decide) ⟨by decide, by decide⟩ N23 g_b15 B23 R23 hk23 Z23 (hb hby at_625) ?_
 intro T24 h24 u24 L24 X24 e24 hu24 V24 lu24 N24 R24 hk24 Z24 B24 W24
 refine own_go (fun _ Kk => XS.dup X24.here hx rfl (hb hby at_626) rfl rfl (XS.iconst X24.here hx rfl (hb hby at_627) Kk)) ?_
 show own_G _ _ _ _ (T24.setTop (mkF m 628 #[vl q0, v2, vl q1, v2, vi p2, vr a, vi 1, vi f7, vi pa8, vi pb9, vi k10, vi c11, vi 0, vi 1, vr b1, vr x9, vu] [.int 5, .ref b15, .ref b15, .ref b12, .ref b12]))
 refine own_go (fun _ Kk => XS.bipush X24.here hx rfl (hb hby at_628) Kk) ?_
 refine own_sC X24 hx hZ9 e24 V24 lu24 ⟨by decide, by decide⟩ 5 rfl (by decide) ⟨by decide, by decide⟩ N24 g_b15 B24 R24 hk24 Z24 (hb hby at_630) ?_
 intro T25 h25 u25 L25 X25 e25 hu25 V25 lu25 N25 R25 hk25 Z25 B25 W25
 refine own_go (fun _ Kk => XS.dup X25.here hx rfl (hb hby at_631) rfl rfl (XS.bipush X25.here hx rfl (hb hby at_632) (XS.bipush X25.here hx rfl (hb hby at_634) Kk))) ?_
 show own_G _ _ _ _ (T25.setTop (mkF m 636 #[vl q0, v2, vl q1, v2, vi p2, vr a, vi 1, vi f7, vi pa8, vi pb9, vi k10, vi c11, vi 0, vi 1, vr b1, vr x9, vu] [.int 72, .int 6, .ref b15, .ref b15, .ref b12, .ref b12]))
 refine own_sC X25 hx hZ9 e25 V25 lu25 ⟨by decide, by decide⟩ 6 rfl (by decide) ⟨by decide, by decide⟩ N25 g_b15 B25 R25 hk25 Z25 (hb hby at_636) ?_
 intro T26 h26 u26 L26 X26 e26 hu26 V26 lu26 N26 R26 hk26 Z26 B26 W26
 refine own_go (fun _ Kk => XS.dup X26.here hx rfl (hb hby at_637) rfl rfl (XS.bipush X26.here hx rfl (hb hby at_638) (XS.bipush X26.here hx rfl (hb hby at_640) Kk))) ?_
 refine own_sC X26 hx hZ9 e26 V26 lu26 ⟨by decide, by decide⟩ 7 rfl (by decide) ⟨by decide, by decide⟩ N26 g_b15 B26 R26 hk26 Z26 (hb hby at_642) ?_
 intro T27 h27 u27 L27 X27 e27 hu27 V27 lu27 N27 R27 hk27 Z27 B27 W27
 show own_G _ _ _ _ (T27.setTop (mkF m 643 #[vl q0, v2, vl q1, v2, vi p2, vr a, vi 1, vi f7, vi pa8, vi pb9, vi k10, vi c11, vi 0, vi 1, vr b1, vr x9, vu] [.ref b15, .ref b12, .ref b12]))
 refine own_go (fun _ Kk => XS.dup X27.here hx rfl (hb hby at_643) rfl rfl (XS.bipush X27.here hx rfl (hb hby at_644) (XS.bipush X27.here hx rfl (hb hby at_646) Kk))) ?_
 refine own_sC X27 hx hZ9 e27 V27 lu27 ⟨by decide, by decide⟩ 8 rfl (by decide) ⟨by decide, by decide⟩ N27 g_b15 B27 R27 hk27 Z27 (hb hby at_648) ?_
 intro T28 h28 u28 L28 X28 e28 hu28 V28 lu28 N28 R28 hk28 Z28 B28 W28
 have hf29 : u28 = [(.int (cs.getD 0 0)), (.int (83 : Int32)), (.int (78 : Int32)), (.int (65 : Int32)), (.int (80 : Int32)), (.int (83 : Int32)), (.int (72 : Int32)), (.int (79 : Int32)), (.int (84 : Int32))] := by rw [hu28]; rw [hu27]; rw [hu26]; rw [hu25]; rw [hu24]; rw [hu23]; rw [hu22]; rw [hu21]; rw [hu20]; rfl
 have VF29 := V28
 rw [hf29] at VF29
 have Q31 := ((((((((((F12_value.ext E15).other W20 (Or.inl (Nat.ne_of_lt (Nat.lt_of_lt_of_le A12.lt (Nat.le_of_eq g15.symm))))).other W21 (Or.inl (Nat.ne_of_lt (Nat.lt_of_lt_of_le A12.lt (Nat.le_of_eq g15.symm))))).other W22 (Or.inl (Nat.ne_of_lt (Nat.lt_of_lt_of_le A12.lt (Nat.le_of_eq g15.symm))))).other W23 (Or.inl (Nat.ne_of_lt (Nat.lt_of_lt_of_le A12.lt (Nat.le_of_eq g15.symm))))).other W24 (Or.inl (Nat.ne_of_lt (Nat.lt_of_lt_of_le A12.lt (Nat.le_of_eq g15.symm))))).other W25 (Or.inl (Nat.ne_of_lt (Nat.lt_of_lt_of_le A12.lt (Nat.le_of_eq g15.symm))))).other W26 (Or.inl (Nat.ne_of_lt (Nat.lt_of_lt_of_le A12.lt (Nat.le_of_eq g15.symm))))).other W27 (Or.inl (Nat.ne_of_lt (Nat.lt_of_lt_of_le A12.lt (Nat.le_of_eq g15.symm))))).other W28 (Or.inl (Nat.ne_of_lt (Nat.lt_of_lt_of_le A12.lt (Nat.le_of_eq g15.symm)))))
 have Q32 := ((((((((((F12_coder.ext E15).other W20 (Or.inl (Nat.ne_of_lt (Nat.lt_of_lt_of_le A12.lt (Nat.le_of_eq g15.symm))))).other W21 (Or.inl (Nat.ne_of_lt (Nat.lt_of_lt_of_le A12.lt (Nat.le_of_eq g15.symm))))).other W22 (Or.inl (Nat.ne_of_lt (Nat.lt_of_lt_of_le A12.lt (Nat.le_of_eq g15.symm))))).other W23 (Or.inl (Nat.ne_of_lt (Nat.lt_of_lt_of_le A12.lt (Nat.le_of_eq g15.symm))))).other W24 (Or.inl (Nat.ne_of_lt (Nat.lt_of_lt_of_le A12.lt (Nat.le_of_eq g15.symm))))).other W25 (Or.inl (Nat.ne_of_lt (Nat.lt_of_lt_of_le A12.lt (Nat.le_of_eq g15.symm))))).other W26 (Or.inl (Nat.ne_of_lt (Nat.lt_of_lt_of_le A12.lt (Nat.le_of_eq g15.symm))))).other W27 (Or.inl (Nat.ne_of_lt (Nat.lt_of_lt_of_le A12.lt (Nat.le_of_eq g15.symm))))).other W28 (Or.inl (Nat.ne_of_lt (Nat.lt_of_lt_of_le A12.lt (Nat.le_of_eq g15.symm)))))
 have Q33 := ((((((((((A12.ext E15).wr W20).wr W21).wr W22).wr W23).wr W24).wr W25).wr W26).wr W27).wr W28)
 have Q34 := ((((((((((((Q10.keep K9q all0).ext E12).ext E15).wr W20).wr W21).wr W22).wr W23).wr W24).wr W25).wr W26).wr W27).wr W28)
 refine own_cI X28 hx hZ9 1 hown9 (hw 13 rfl) (hw 14 rfl) (hw 15 rfl) (hw 12 rfl) (rm_ini1 hw b12 b15 [(cs.getD 0 0), (83 : Int32), (78 : Int32), (65 : Int32), (80 : Int32), (83 : Int32), (72 : Int32), (79 : Int32), (84 : Int32)] k15 zc fm h28 n0 Z28 Q31 Q32 Q33 VF29 g_b12 (Nat.le_of_ble_eq_true rfl) (own_rgc (hrg _ (own_mem (i := 0) (by rw [hcl]; decide))) (own_rgc ⟨by decide, by decide⟩ (own_rgc ⟨by decide, by decide⟩ (own_rgc ⟨by decide, by decide⟩ (own_rgc ⟨by decide, by decide⟩ (own_rgc ⟨by decide, by decide⟩ (own_rgc ⟨by decide, by decide⟩ (own_rgc ⟨by decide, by decide⟩ (own_rgc ⟨by decide, by decide⟩ own_rgn))))))))) (Nat.succ_pos _) (Ne.symm (Nat.ne_of_lt (Nat.lt_of_lt_of_le A12.lt (Nat.le_of_eq g15.symm)))) Q34) e28 own_pd42 rfl (hb hby at_649) hml (fun _ T30 _ _ X30 l30 => own_hp ?_)
 rintro h30 e30 ⟨b30d, rfl, N30q, K30q, le_b30d, x30_0⟩
 have N30 := own_frl l30 N28 N30q
 have R35 := CHr.trans R28 (CHr.keep K30q (allS (Safe.wr W28 (Safe.exa hZ9.alike B27 (by decide) (by decide)) R27.1 (Safe.wr W27 (Safe.exa hZ9.alike B26 (by decide) (by decide)) R26.1 (Safe.wr W26 (Safe.exa hZ9.alike B25 (by decide) (by decide)) R25.1 (Safe.wr W25 (Safe.exa hZ9.alike B24 (by decide) (by decide)) R24.1 (Safe.wr W24 (Safe.exa hZ9.alike B23 (by decide) (by decide)) R23.1 (Safe.wr W23 (Safe.exa hZ9.alike B22 (by decide) (by decide)) R22.1 (Safe.wr W22 (Safe.exa hZ9.alike B21 (by decide) (by decide)) R21.1 (Safe.wr W21 (Safe.exa hZ9.alike B20 (by decide) (by decide)) R20.1 (Safe.wr W20 (Safe.exa hZ9.alike B15 (by decide) (by decide)) R16.1 (Safe.ext E15 R13.1 (Safe.ext E12 R9.1 (Safe.new (Nat.le_of_eq g12.symm))))))))))))) all0) R28.1)
 have hk35 := Nat.le_trans hk28 K30q.1
 have Z36 : n0 ≤ h30.size := Nat.le_trans Z28 K30q.1
 have g_b30d : n0 ≤ b30d := Nat.le_trans Z28 le_b30d
 show own_G _ _ _ _ (T30.setTop (mkF m 652 #[vl q0, v2, vl q1, v2, vi p2, vr a, vi 1, vi f7, vi pa8, vi pb9, vi k10, vi c11, vi 0, vi 1, vr b1, vr x9, vu] [.ref b12]))
 refine own_go (fun _ Kk => XS.astore X30.here hx rfl (hb hby at_652) rfl rfl (l' := #[vl q0, v2, vl q1, v2, vi p2, vr a, vi 1, vi f7, vi pa8, vi pb9, vi k10, vi c11, vi 0, vi 1, vr b1, vr x9, vr b12]) rfl (XS.goto X30.here hx rfl (pc0 := 654) (pc' := 728) rfl (hb hby at_654) (by decide) (by decide) (XS.aload X30.here hx rfl (hb hby at_728) rfl rfl (XS.aload X30.here hx rfl (hb hby at_730) rfl rfl Kk)))) ?_
 have Q38 := ((((((((((((x9_0.ext E12).ext E15).other W20 (Nat.ne_of_lt (Nat.lt_of_lt_of_le ((own_Str.exa x9_0).ext E12).lt (Nat.le_of_eq g15.symm))) (Nat.ne_of_lt (Nat.lt_of_lt_of_le (x9_0.ext E12).ltt (Nat.le_of_eq g15.symm)))).other W21 (Nat.ne_of_lt (Nat.lt_of_lt_of_le ((own_Str.exa x9_0).ext E12).lt (Nat.le_of_eq g15.symm))) (Nat.ne_of_lt (Nat.lt_of_lt_of_le (x9_0.ext E12).ltt (Nat.le_of_eq g15.symm)))).other W22 (Nat.ne_of_lt (Nat.lt_of_lt_of_le ((own_Str.exa x9_0).ext E12).lt (Nat.le_of_eq g15.symm))) (Nat.ne_of_lt (Nat.lt_of_lt_of_le (x9_0.ext E12).ltt (Nat.le_of_eq g15.symm)))).other W23 (Nat.ne_of_lt (Nat.lt_of_lt_of_le ((own_Str.exa x9_0).ext E12).lt (Nat.le_of_eq g15.symm))) (Nat.ne_of_lt (Nat.lt_of_lt_of_le (x9_0.ext E12).ltt (Nat.le_of_eq g15.symm)))).other W24 (Nat.ne_of_lt (Nat.lt_of_lt_of_le ((own_Str.exa x9_0).ext E12).lt (Nat.le_of_eq g15.symm))) (Nat.ne_of_lt (Nat.lt_of_lt_of_le (x9_0.ext E12).ltt (Nat.le_of_eq g15.symm)))).other W25 (Nat.ne_of_lt (Nat.lt_of_lt_of_le ((own_Str.exa x9_0).ext E12).lt (Nat.le_of_eq g15.symm))) (Nat.ne_of_lt (Nat.lt_of_lt_of_le (x9_0.ext E12).ltt (Nat.le_of_eq g15.symm)))).other W26 (Nat.ne_of_lt (Nat.lt_of_lt_of_le ((own_Str.exa x9_0).ext E12).lt (Nat.le_of_eq g15.symm))) (Nat.ne_of_lt (Nat.lt_of_lt_of_le (x9_0.ext E12).ltt (Nat.le_of_eq g15.symm)))).other W27 (Nat.ne_of_lt (Nat.lt_of_lt_of_le ((own_Str.exa x9_0).ext E12).lt (Nat.le_of_eq g15.symm))) (Nat.ne_of_lt (Nat.lt_of_lt_of_le (x9_0.ext E12).ltt (Nat.le_of_eq g15.symm)))).other W28 (Nat.ne_of_lt (Nat.lt_of_lt_of_le ((own_Str.exa x9_0).ext E12).lt (Nat.le_of_eq g15.symm))) (Nat.ne_of_lt (Nat.lt_of_lt_of_le (x9_0.ext E12).ltt (Nat.le_of_eq g15.symm)))).keep K30q (own_nc (Nat.ne_of_lt (Nat.lt_of_lt_of_le (own_Str.exa x9_0).lt (Nat.le_of_eq g12.symm))) List.not_mem_nil) (own_nc (Nat.ne_of_lt (Nat.lt_of_lt_of_le x9_0.ltt (Nat.le_of_eq g12.symm))) List.not_mem_nil))
 obtain ⟨kb37l, cd37l, nb37l, vs37l, qE37l, qF37l, qG37l, qV37l, qc37l, qr37l, ql37l⟩ := id Q38
 obtain ⟨kb37r, cd37r, nb37r, vs37r, qE37r, qF37r, qG37r, qV37r, qc37r, qr37r, ql37r⟩ := id x30_0
 have Q39 := (Q34.keep K30q (allS (fun cl hc => Q33.nostat cl hc) all0))
 have Q40 := (((((((((((((own_Str.exa x9_0).ext E12).ext E15).wr W20).wr W21).wr W22).wr W23).wr W24).wr W25).wr W26).wr W27).wr W28).keep K30q)
 obtain ⟨cq37, kq37, q37a, q37b, q37c⟩ := isOf hZ9 e30 Q40
 obtain ⟨_, _, ⟨T37, L37, k37, n37⟩, -, X37, ⟨Lc37, hQ37, l37, y37, z37⟩, st37⟩ := X30.virtualBack hx (y := y23) (z := y23) hown9 (mvT hZ9 (hw 102 rfl)) (mvT hZ9 (hw 103 rfl)) (notFace_of_selects (args := #[]) (mvT hZ9 (hw 105 rfl))) (mvT hZ9 (hw 105 rfl)) (mvT hZ9 (hw 104 rfl)) (by decide) (StrChars.Road.eqW (W := 0) (cs := (cs.take 1 ++ (own_ch "SNAPSHOT"))) (ds := [(cs.getD 0 0), (83 : Int32), (78 : Int32), (65 : Int32), (80 : Int32), (83 : Int32), (72 : Int32), (79 : Int32), (84 : Int32)]) hZ9 heq (kI := 4) (hw 11 rfl) qE37l qF37l qG37l qV37l qc37l qr37l ql37l qE37r qF37r qG37r qV37r qc37r qr37r ql37r Q39.2.2.1 SS.1 (by decide) (by decide)) q37a q37c (g := (mkF m 732 #[vl q0, v2, vl q1, v2, vi p2, vr a, vi 1, vi f7, vi pa8, vi pb9, vi k10, vi c11, vi 0, vi 1, vr b1, vr x9, vr b12] [.ref b12, .ref x9])) rfl (by rw [hml]; rfl) (Steps.refl _) (argsL := [(.ref b12)]) (rest := []) (lenOf own_pd44 rfl) rfl (by show 2 * 0 + _ ≤ _; exact Nat.le_of_eq rfl) (hb hby at_732) (fun _ _ => ⟨rfl, e30, (by decide : 19 + 0 ≤ _), (by decide : 409 + 0 ≤ _)⟩)
 dsimp only [Pt.U, Pt.locs, Pt.cells, Pt.slots] at X37 l37 y37 z37 st37 hQ37
 subst y37 z37
 obtain ⟨hE37, rfl, e37⟩ := hQ37
 have N37 := own_frl l37 N30 (Fr.nil n0)
 obtain ⟨rfl, -⟩ := Or.resolve_right hE37 (fun h => h.2 (by rw [own_tk1 hcl, own_sn]; rfl))
 refine own_tr st37 ?_
 show own_G _ _ _ _ (T37.setTop (mkF m 735 #[vl q0, v2, vl q1, v2, vi p2, vr a, vi 1, vi f7, vi pa8, vi pb9, vi k10, vi c11, vi 0, vi 1, vr b1, vr x9, vr b12] [.int 1]))
 exact own_retNW X37 hS9 (by rw [e37]; exact hk35) hx hlk (t := .boolean) (z' := (1 : Int32)) hrt (by simp) (hb hby at_735) rfl (fun U hU hV hF => ⟨_, _, rfl, ⟨rfl, N37⟩, (by rw [hU, e37, hV, hh]; exact CHr.trans R35 (CHv.at X37 hZ9 hEL R35.1)), hF.1, hF.2.1, hF.2.2.1, hF.2.2.2.mono (by decide) (by decide)⟩)
theorem own_p2 {p : Program} {e : Env} {s : State} {m : MethodId} {below : List Frame} {meth : Method} {c : Code} {q0 q1 : Int64} {p2 zc : Int32} {fm : Value} {h0 : Heap} {n0 : Nat} {a : Addr} {ka : ClassId} {cs : List Int32} {T9 : State} (hw : own_H a0 Z) (CC : own_C l Z a0 h0 p s m meth c) (B9 : own_T l Z p e s m below meth c q0 q1 p2 zc fm h0 n0 a ka cs T9) {f7 pa8 pb9 k10 c11 : Int32} (hlay : own_lay 2 cs) (hpre : own_pre 2 cs) (hgt : ¬ (255 : Int32) < cs.getD 0 0) : own_G p e below (K_0 Z q0 q1 p2 zc fm h0 n0 s) (T9.setTop (mkF m 537 #[vl q0, v2, vl q1, v2, vi p2, vr a, vi 2, vi f7, vi pa8, vi pb9, vi k10, vi c11, vi 0, vi 1, vu, vu, vu] [])) := by
 obtain ⟨hx, hby, hml, hown, hZ, hS0, hEL, wSt, heq, hlk, hrt, hh⟩ := id CC
 have hZi := hZ
 obtain ⟨L9, h9, X9, e9, N9, Z9, R9, hk9, SS, EA9, VA9, hcl, hrg⟩ := B9
 have hgd : own_good cs 2 := own_lay_good (by decide) hlay hpre
 have hlo : ∀ c ∈ cs, ¬ (255 : Int32) < c := own_lay_lo (by decide) hlay hpre (fun _ => hgt)
 show own_G _ _ _ _ (T9.setTop (mkF m 537 #[vl q0, v2, vl q1, v2, vi p2, vr a, vi 2, vi f7, vi pa8, vi pb9, vi k10, vi c11, vi 0, vi 1, vu, vu, vu] []))
 obtain ⟨T1, h1, X1, e1, E1, A1, D1, -, st1⟩ := newO X9 hx hZ hown (hw 10 rfl) (hw 11 rfl) (hw 12 rfl) e9 (g := (mkF m 537 #[vl q0, v2, vl q1, v2, vi p2, vr a, vi 2, vi f7, vi pa8, vi pb9, vi k10, vi c11, vi 0, vi 1, vu, vu, vu] [])) rfl (hb hby at_537) (by decide) (by decide)
 obtain ⟨b1, g1⟩ : ∃ z, z = h9.size := ⟨_, rfl⟩
 rw [← g1] at A1 D1 st1
 refine own_go st1 ?_
 have g_b1 : n0 ≤ b1 := Nat.le_trans Z9 (Nat.le_of_eq g1.symm)
 have R2 := CHr.trans R9 (CHr.ext E1 R9.1)
 have hk2 := Nat.le_trans hk9 E1.1
 have Z3 : n0 ≤ h1.size := Nat.le_trans Z9 E1.1
 have F1_coder : Fld Z h1 b1 "java/lang/String" "coder" "B" (.int (0 : Int32)) := D1 (Or.inr (hw 36 rfl)) (ty := .byte) (by decide)
 have F1_value : Fld Z h1 b1 "java/lang/String" "value" "[B" .null := D1 (Or.inr (hw 38 rfl)) (ty := (.array .byte)) (by decide)
 refine own_go (fun _ Kk => XS.dup X1.here hx rfl (hb hby at_540) rfl rfl (XS.aload X1.here hx rfl (hb hby at_541) rfl rfl Kk)) ?_
 have Q5 := (VA9.ext E1)
 have Q6 := (SS.ext E1)
 refine own_cI X1 hx hZ 1 hown (hw 13 rfl) (hw 14 rfl) (hw 15 rfl) (hw 12 rfl) (rm_ini1 hw b1 a cs ka zc fm h1 n0 Z3 F1_value F1_coder A1 Q5 g_b1 (by rw [hcl]; decide) hrg (by rw [hcl]; decide) (Nat.ne_of_lt (Nat.lt_of_lt_of_le EA9.lt (Nat.le_of_eq g1.symm))) Q6) e1 own_pd42 rfl (hb hby at_543) hml (fun _ T4 _ _ X4 l4 => own_hp ?_)
 rintro h4 e4 ⟨b4d, rfl, N4q, K4q, le_b4d, x4_0⟩
 have N4 := own_frl l4 N9 N4q
 have R7 := CHr.trans R2 (CHr.keep K4q (allS (Safe.ext E1 R9.1 (Safe.new (Nat.le_of_eq g1.symm))) all0) R2.1)
 have hk7 := Nat.le_trans hk2 K4q.1
 have Z8 : n0 ≤ h4.size := Nat.le_trans Z3 K4q.1
 have g_b4d : n0 ≤ b4d := Nat.le_trans Z3 le_b4d
 refine own_go (fun _ Kk => XS.astore X4.here hx rfl (hb hby at_546) rfl rfl (l' := #[vl q0, v2, vl q1, v2, vi p2, vr a, vi 2, vi f7, vi pa8, vi pb9, vi k10, vi c11, vi 0, vi 1, vr b1, vu, vu]) rfl Kk) ?_
 show own_G _ _ _ _ (T4.setTop (mkF m 548 #[vl q0, v2, vl q1, v2, vi p2, vr a, vi 2, vi f7, vi pa8, vi pb9, vi k10, vi c11, vi 0, vi 1, vr b1, vu, vu] []))
 refine own_go (fun _ Kk => XS.aload X4.here hx rfl (hb hby at_548) rfl rfl Kk) ?_
 have Q10 := (Q6.keep K4q (allS (fun cl hc => A1.nostat cl hc) all0))
 obtain ⟨_, _, ⟨T9, L9, k9, n9⟩, -, Y9, hs9, hg9, ⟨Lc9, hQ9, l9, y9, z9, C9⟩, st9⟩ := callSS X4 hx (y := y8) hown (mvT hZ (hw 39 rfl)) (mvT hZ (hw 40 rfl)) (mvT hZ (hw 41 rfl)) (mvT hZ (hw 42 rfl)) (by decide) (backOfSH (W := 0) (rm_bvL hw b1 b4d cs 2 zc fm h4 n0 Z8 x4_0 hgd (by rw [hcl]; decide) (by decide) (by decide) hlo Q10) hZ (hw 42 rfl) (hw 41 rfl) (by decide) (by decide) hEL R7.1) (g := (mkF m 550 #[vl q0, v2, vl q1, v2, vi p2, vr a, vi 2, vi f7, vi pa8, vi pb9, vi k10, vi c11, vi 0, vi 1, vr b1, vu, vu] [.ref b1])) rfl (by rw [hml]; rfl) (argsL := [(.ref b1)]) (rest := []) (lenOf own_pd43 rfl) rfl (by show 2 * 0 + _ ≤ _; exact Nat.le_of_eq rfl) (hb hby at_550) (fun _ _ => ⟨rfl, e4, (by decide : 4 + 11 ≤ _), (by decide : 84 + 252 ≤ _)⟩)
 dsimp only [Pt.U, Pt.locs, Pt.cells, Pt.slots] at Y9 hs9 hg9 l9 y9 z9 C9 st9 hQ9
 subst y9 z9
 obtain ⟨X9, hS9, hZ9, hown9⟩ := rebS hS0 (Nat.le_trans hk7 (Nat.le_of_eq (congrArg Array.size e4).symm)) Y9 hs9 hg9 hZ hown
 obtain ⟨h9, e9⟩ : ∃ z, T9.heap = z := ⟨_, rfl⟩
 rw [e9] at hQ9 hS9 C9
 have R9 := CHr.trans R7 C9
 have hk9 : h9.size ≤ h9.size := Nat.le_refl _
 obtain ⟨x9, d9, rfl, N9q, K9q, x9_0⟩ := hQ9
 have N9 := own_frl l9 N4 N9q
 have Z11 : n0 ≤ h9.size := Nat.le_trans Z8 K9q.1
 refine own_tr st9 ?_
 refine own_go (fun _ Kk => XS.astore X9.here hx rfl (hb hby at_553) rfl rfl (l' := #[vl q0, v2, vl q1, v2, vi p2, vr a, vi 2, vi f7, vi pa8, vi pb9, vi k10, vi c11, vi 0, vi 1, vr b1, vr x9, vu]) rfl (XS.iload X9.here hx rfl (hb hby at_555) rfl (XS.ifNo X9.here hx rfl (hb hby at_557) rfl ((if0 _ _).trans (by decide)) Kk))) ?_
 show own_G _ _ _ _ (T9.setTop (mkF m 560 #[vl q0, v2, vl q1, v2, vi p2, vr a, vi 2, vi f7, vi pa8, vi pb9, vi k10, vi c11, vi 0, vi 1, vr b1, vr x9, vu] []))
 refine own_go (fun _ Kk => XS.iload X9.here hx rfl (hb hby at_560) rfl (XS.ifYes X9.here hx rfl (pc0 := 562) (pc' := 573) rfl (hb hby at_562) rfl ((if0 _ _).trans (by decide)) (by decide) (by decide) (XS.iload X9.here hx rfl (hb hby at_573) rfl (XS.ifYes X9.here hx rfl (pc0 := 575) (pc' := 585) rfl (hb hby at_575) rfl ((if0 _ _).trans (by decide)) (by decide) (by decide) (XS.iload X9.here hx rfl (hb hby at_585) rfl Kk))))) ?_
 show own_G _ _ _ _ (T9.setTop (mkF m 587 #[vl q0, v2, vl q1, v2, vi p2, vr a, vi 2, vi f7, vi pa8, vi pb9, vi k10, vi c11, vi 0, vi 1, vr b1, vr x9, vu] [.int 2]))
 refine own_go (fun _ Kk => XS.iconst X9.here hx rfl (hb hby at_587) (XS.icmpYes X9.here hx rfl (pc0 := 588) (pc' := 657) rfl (hb hby at_588) rfl (by decide) (by decide) (by decide) Kk)) ?_
 obtain ⟨T12, h12, X12, e12, E12, A12, D12, -, st12⟩ := newO X9 hx hZ9 hown9 (hw 10 rfl) (hw 11 rfl) (hw 12 rfl) e9 (g := (mkF m 657 #[vl q0, v2, vl q1, v2, vi p2, vr a, vi 2, vi f7, vi pa8, vi pb9, vi k10, vi c11, vi 0, vi 1, vr b1, vr x9, vu] [])) rfl (hb hby at_657) (by decide) (by decide)
 obtain ⟨b12, g12⟩ : ∃ z, z = h9.size := ⟨_, rfl⟩
 rw [← g12] at A12 D12 st12
 refine own_go st12 ?_
 have g_b12 : n0 ≤ b12 := Nat.le_trans Z11 (Nat.le_of_eq g12.symm)
 have R13 := CHr.trans R9 (CHr.ext E12 R9.1)
 have hk13 := Nat.le_trans hk9 E12.1
 have Z14 : n0 ≤ h12.size := Nat.le_trans Z11 E12.1
 have F12_coder : Fld Z h12 b12 "java/lang/String" "coder" "B" (.int (0 : Int32)) := D12 (Or.inr (hw 36 rfl)) (ty := .byte) (by decide)
 have F12_value : Fld Z h12 b12 "java/lang/String" "value" "[B" .null := D12 (Or.inr (hw 38 rfl)) (ty := (.array .byte)) (by decide)
 refine own_go (fun _ Kk => XS.dup X12.here hx rfl (hb hby at_660) rfl rfl (XS.bipush X12.here hx rfl (hb hby at_661) Kk)) ?_
 show own_G _ _ _ _ (T12.setTop (mkF m 663 #[vl q0, v2, vl q1, v2, vi p2, vr a, vi 2, vi f7, vi pa8, vi pb9, vi k10, vi c11, vi 0, vi 1, vr b1, vr x9, vu] [.int 10, .ref b12, .ref b12]))
 obtain ⟨T15, h15, k15, X15, e15, E15, A15, B15, st15⟩ := newPE X12 hx hZ9 (hw 0 rfl) e12 (g := (mkF m 663 #[vl q0, v2, vl q1, v2, vi p2, vr a, vi 2, vi f7, vi pa8, vi pb9, vi k10, vi c11, vi 0, vi 1, vr b1, vr x9, vu] [.int 10, .ref b12, .ref b12])) rfl (hb hby at_663) rfl (by decide) (cap := 10) (by decide) (by decide) (by decide) (by decide) (ad := "[C") (by decide)
 obtain ⟨b15, g15⟩ : ∃ z, z = h12.size := ⟨_, rfl⟩
 rw [← g15] at A15 B15 st15
 refine own_go st15 ?_
 have g_b15 : n0 ≤ b15 := Nat.le_trans Z14 (Nat.le_of_eq g15.symm)
 have V15 : Arv Z h15 b15 k15 .char (10 : Int32) [(.int (0 : Int32)), (.int (0 : Int32)), (.int (0 : Int32)), (.int (0 : Int32)), (.int (0 : Int32)), (.int (0 : Int32)), (.int (0 : Int32)), (.int (0 : Int32)), (.int (0 : Int32)), (.int (0 : Int32))] (.int (0 : Int32)) := (Arv.new A15 (by decide)).pad (pad_rep [] (.int (0 : Int32)) 10)
 have R16 := CHr.trans R13 (CHr.ext E15 R13.1)
 have hk16 := Nat.le_trans hk13 E15.1
 have Z17 : n0 ≤ h15.size := Nat.le_trans Z14 E15.1
 refine own_go (fun _ Kk => XS.dup X15.here hx rfl (hb hby at_665) rfl rfl (XS.iconst X15.here hx rfl (hb hby at_666) (XS.aload X15.here hx rfl (hb hby at_667) rfl rfl (XS.iconst X15.here hx rfl (hb hby at_669) Kk)))) ?_
 show own_G _ _ _ _ (T15.setTop (mkF m 670 #[vl q0, v2, vl q1, v2, vi p2, vr a, vi 2, vi f7, vi pa8, vi pb9, vi k10, vi c11, vi 0, vi 1, vr b1, vr x9, vu] [.int 0, .ref a, .int 0, .ref b15, .ref b15, .ref b12, .ref b12]))
 have Q19 := ((((Q5.keep K4q (own_nc (Nat.ne_of_lt (Nat.lt_of_lt_of_le EA9.lt (Nat.le_of_eq g1.symm))) List.not_mem_nil)).keep K9q List.not_mem_nil).ext E12).ext E15)
 obtain ⟨cl18, Ar18, -, Sz18, Nn18, Hh18, -⟩ := id Q19
 have hin18 : ¬ ((0 : Int32) < 0 ∨ cl18.slots.size ≤ ((0 : Int32)).toNatClampNeg) := inb_of Sz18 ⟨by decide, own_onl (i := 0) (by rw [hcl]; decide) (by rw [hcl]; decide)⟩
 have hat18 : cl18.slots[((0 : Int32)).toNatClampNeg]? = some (.int (cs.getD 0 0)) := Has.at Hh18 hin18 (own_cg (i := 0) (by rw [hcl]; decide) _)
 refine own_go (X15.caload hx (j := (0 : Int32)) (v := (.int (cs.getD 0 0))) (by rw [e15]; exact Ar18.1) (State.isArrayOf_alike hZ9.alike Ar18.2.1) Ar18.2.2 hin18 hat18 (g := (mkF m 670 #[vl q0, v2, vl q1, v2, vi p2, vr a, vi 2, vi f7, vi pa8, vi pb9, vi k10, vi c11, vi 0, vi 1, vr b1, vr x9, vu] [.int 0, .ref a, .int 0, .ref b15, .ref b15, .ref b12, .ref b12])) rfl rfl (hb hby at_670)) ?_
 refine own_sC X15 hx hZ9 e15 V15 rfl (hrg _ (own_mem (i := 0) (by rw [hcl]; decide))) 0 rfl (by decide) ⟨by decide, by decide⟩ N9 g_b15 B15 R16 hk16 Z17 (hb hby at_671) ?_
 intro T20 h20 u20 L20 X20 e20 hu20 V20 lu20 N20 R20 hk20 Z20 B20 W20
 refine own_go (fun _ Kk => XS.dup X20.here hx rfl (hb hby at_672) rfl rfl (XS.iconst X20.here hx rfl (hb hby at_673) (XS.aload X20.here hx rfl (hb hby at_674) rfl rfl Kk))) ?_
 show own_G _ _ _ _ (T20.setTop (mkF m 676 #[vl q0, v2, vl q1, v2, vi p2, vr a, vi 2, vi f7, vi pa8, vi pb9, vi k10, vi c11, vi 0, vi 1, vr b1, vr x9, vu] [.ref a, .int 1, .ref b15, .ref b15, .ref b12, .ref b12]))
 refine own_go (fun _ Kk => XS.iconst X20.here hx rfl (hb hby at_676) Kk) ?_
 have Q22 := (Q19.other W20 (Nat.ne_of_lt (Nat.lt_of_lt_of_le ((((EA9.ext E1).keep K4q).keep K9q).ext E12).lt (Nat.le_of_eq g15.symm))))
 obtain ⟨cl21, Ar21, -, Sz21, Nn21, Hh21, -⟩ := id Q22
 have hin21 : ¬ ((1 : Int32) < 0 ∨ cl21.slots.size ≤ ((1 : Int32)).toNatClampNeg) := inb_of Sz21 ⟨by decide, own_onl (i := 1) (by rw [hcl]; decide) (by rw [hcl]; decide)⟩
 have hat21 : cl21.slots[((1 : Int32)).toNatClampNeg]? = some (.int (cs.getD 1 0)) := Has.at Hh21 hin21 (own_cg (i := 1) (by rw [hcl]; decide) _)
 refine own_go (X20.caload hx (j := (1 : Int32)) (v := (.int (cs.getD 1 0))) (by rw [e20]; exact Ar21.1) (State.isArrayOf_alike hZ9.alike Ar21.2.1) Ar21.2.2 hin21 hat21 (g := (mkF m 677 #[vl q0, v2, vl q1, v2, vi p2, vr a, vi 2, vi f7, vi pa8, vi pb9, vi k10, vi c11, vi 0, vi 1, vr b1, vr x9, vu] [.int 1, .ref a, .int 1, .ref b15, .ref b15, .ref b12, .ref b12])) rfl rfl (hb hby at_677)) ?_
 refine own_sC X20 hx hZ9 e20 V20 lu20 (hrg _ (own_mem (i := 1) (by rw [hcl]; decide))) 1 rfl (by decide) ⟨by decide, by decide⟩ N20 g_b15 B20 R20 hk20 Z20 (hb hby at_678) ?_
 intro T23 h23 u23 L23 X23 e23 hu23 V23 lu23 N23 R23 hk23 Z23 B23 W23
 refine own_go (fun _ Kk => XS.dup X23.here hx rfl (hb hby at_679) rfl rfl (XS.iconst X23.here hx rfl (hb hby at_680) Kk)) ?_
 show own_G _ _ _ _ (T23.setTop (mkF m 681 #[vl q0, v2, vl q1, v2, vi p2, vr a, vi 2, vi f7, vi pa8, vi pb9, vi k10, vi c11, vi 0, vi 1, vr b1, vr x9, vu] [.int 2, .ref b15, .ref b15, .ref b12, .ref b12]))
 refine own_go (fun _ Kk => XS.bipush X23.here hx rfl (hb hby at_681) Kk) ?_
 refine own_sC X23 hx hZ9 e23 V23 lu23 ⟨by decide, by decide⟩ 2 rfl (by decide) ⟨by decide, by decide⟩ N23 g_b15 B23 R23 hk23 Z23 (hb hby at_683) ?_
 intro T24 h24 u24 L24 X24 e24 hu24 V24 lu24 N24 R24 hk24 Z24 B24 W24
 refine own_go (fun _ Kk => XS.dup X24.here hx rfl (hb hby at_684) rfl rfl (XS.iconst X24.here hx rfl (hb hby at_685) (XS.bipush X24.here hx rfl (hb hby at_686) Kk))) ?_
 show own_G _ _ _ _ (T24.setTop (mkF m 688 #[vl q0, v2, vl q1, v2, vi p2, vr a, vi 2, vi f7, vi pa8, vi pb9, vi k10, vi c11, vi 0, vi 1, vr b1, vr x9, vu] [.int 78, .int 3, .ref b15, .ref b15, .ref b12, .ref b12]))
 refine own_sC X24 hx hZ9 e24 V24 lu24 ⟨by decide, by decide⟩ 3 rfl (by decide) ⟨by decide, by decide⟩ N24 g_b15 B24 R24 hk24 Z24 (hb hby at_688) ?_
 intro T25 h25 u25 L25 X25 e25 hu25 V25 lu25 N25 R25 hk25 Z25 B25 W25
 refine own_go (fun _ Kk => XS.dup X25.here hx rfl (hb hby at_689) rfl rfl (XS.iconst X25.here hx rfl (hb hby at_690) (XS.bipush X25.here hx rfl (hb hby at_691) Kk))) ?_
 refine own_sC X25 hx hZ9 e25 V25 lu25 ⟨by decide, by decide⟩ 4 rfl (by decide) ⟨by decide, by decide⟩ N25 g_b15 B25 R25 hk25 Z25 (hb hby at_693) ?_
 intro T26 h26 u26 L26 X26 e26 hu26 V26 lu26 N26 R26 hk26 Z26 B26 W26
 show own_G _ _ _ _ (T26.setTop (mkF m 694 #[vl q0, v2, vl q1, v2, vi p2, vr a, vi 2, vi f7, vi pa8, vi pb9, vi k10, vi c11, vi 0, vi 1, vr b1, vr x9, vu] [.ref b15, .ref b12, .ref b12]))
 refine own_go (fun _ Kk => XS.dup X26.here hx rfl (hb hby at_694) rfl rfl (XS.iconst X26.here hx rfl (hb hby at_695) (XS.bipush X26.here hx rfl (hb hby at_696) Kk))) ?_
 refine own_sC X26 hx hZ9 e26 V26 lu26 ⟨by decide, by decide⟩ 5 rfl (by decide) ⟨by decide, by decide⟩ N26 g_b15 B26 R26 hk26 Z26 (hb hby at_698) ?_
 intro T27 h27 u27 L27 X27 e27 hu27 V27 lu27 N27 R27 hk27 Z27 B27 W27
 refine own_go (fun _ Kk => XS.dup X27.here hx rfl (hb hby at_699) rfl rfl Kk) ?_
 show own_G _ _ _ _ (T27.setTop (mkF m 700 #[vl q0, v2, vl q1, v2, vi p2, vr a, vi 2, vi f7, vi pa8, vi pb9, vi k10, vi c11, vi 0, vi 1, vr b1, vr x9, vu] [.ref b15, .ref b15, .ref b12, .ref b12]))
 refine own_go (fun _ Kk => XS.bipush X27.here hx rfl (hb hby at_700) (XS.bipush X27.here hx rfl (hb hby at_702) Kk)) ?_
 refine own_sC X27 hx hZ9 e27 V27 lu27 ⟨by decide, by decide⟩ 6 rfl (by decide) ⟨by decide, by decide⟩ N27 g_b15 B27 R27 hk27 Z27 (hb hby at_704) ?_
 intro T28 h28 u28 L28 X28 e28 hu28 V28 lu28 N28 R28 hk28 Z28 B28 W28
 refine own_go (fun _ Kk => XS.dup X28.here hx rfl (hb hby at_705) rfl rfl (XS.bipush X28.here hx rfl (hb hby at_706) Kk)) ?_
 show own_G _ _ _ _ (T28.setTop (mkF m 708 #[vl q0, v2, vl q1, v2, vi p2, vr a, vi 2, vi f7, vi pa8, vi pb9, vi k10, vi c11, vi 0, vi 1, vr b1, vr x9, vu] [.int 7, .ref b15, .ref b15, .ref b12, .ref b12]))
 refine own_go (fun _ Kk => XS.bipush X28.here hx rfl (hb hby at_708) Kk) ?_
 refine own_sC X28 hx hZ9 e28 V28 lu28 ⟨by decide, by decide⟩ 7 rfl (by decide) ⟨by decide, by decide⟩ N28 g_b15 B28 R28 hk28 Z28 (hb hby at_710) ?_
 intro T29 h29 u29 L29 X29 e29 hu29 V29 lu29 N29 R29 hk29 Z29 B29 W29
 refine own_go (fun _ Kk => XS.dup X29.here hx rfl (hb hby at_711) rfl rfl (XS.bipush X29.here hx rfl (hb hby at_712) (XS.bipush X29.here hx rfl (hb hby at_714) Kk))) ?_
 show own_G _ _ _ _ (T29.setTop (mkF m 716 #[vl q0, v2, vl q1, v2, vi p2, vr a, vi 2, vi f7, vi pa8, vi pb9, vi k10, vi c11, vi 0, vi 1, vr b1, vr x9, vu] [.int 79, .int 8, .ref b15, .ref b15, .ref b12, .ref b12]))
 refine own_sC X29 hx hZ9 e29 V29 lu29 ⟨by decide, by decide⟩ 8 rfl (by decide) ⟨by decide, by decide⟩ N29 g_b15 B29 R29 hk29 Z29 (hb hby at_716) ?_
 intro T30 h30 u30 L30 X30 e30 hu30 V30 lu30 N30 R30 hk30 Z30 B30 W30
 refine own_go (fun _ Kk => XS.dup X30.here hx rfl (hb hby at_717) rfl rfl (XS.bipush X30.here hx rfl (hb hby at_718) (XS.bipush X30.here hx rfl (hb hby at_720) Kk))) ?_
 refine own_sC X30 hx hZ9 e30 V30 lu30 ⟨by decide, by decide⟩ 9 rfl (by decide) ⟨by decide, by decide⟩ N30 g_b15 B30 R30 hk30 Z30 (hb hby at_722) ?_
 intro T31 h31 u31 L31 X31 e31 hu31 V31 lu31 N31 R31 hk31 Z31 B31 W31
 show own_G _ _ _ _ (T31.setTop (mkF m 723 #[vl q0, v2, vl q1, v2, vi p2, vr a, vi 2, vi f7, vi pa8, vi pb9, vi k10, vi c11, vi 0, vi 1, vr b1, vr x9, vu] [.ref b15, .ref b12, .ref b12]))
 have hf32 : u31 = [(.int (cs.getD 0 0)), (.int (cs.getD 1 0)), (.int (83 : Int32)), (.int (78 : Int32)), (.int (65 : Int32)), (.int (80 : Int32)), (.int (83 : Int32)), (.int (72 : Int32)), (.int (79 : Int32)), (.int (84 : Int32))] := by rw [hu31]; rw [hu30]; rw [hu29]; rw [hu28]; rw [hu27]; rw [hu26]; rw [hu25]; rw [hu24]; rw [hu23]; rw [hu20]; rfl
 have VF32 := V31
 rw [hf32] at VF32
 have Q34 := (((((((((((F12_value.ext E15).other W20 (Or.inl (Nat.ne_of_lt (Nat.lt_of_lt_of_le A12.lt (Nat.le_of_eq g15.symm))))).other W23 (Or.inl (Nat.ne_of_lt (Nat.lt_of_lt_of_le A12.lt (Nat.le_of_eq g15.symm))))).other W24 (Or.inl (Nat.ne_of_lt (Nat.lt_of_lt_of_le A12.lt (Nat.le_of_eq g15.symm))))).other W25 (Or.inl (Nat.ne_of_lt (Nat.lt_of_lt_of_le A12.lt (Nat.le_of_eq g15.symm))))).other W26 (Or.inl (Nat.ne_of_lt (Nat.lt_of_lt_of_le A12.lt (Nat.le_of_eq g15.symm))))).other W27 (Or.inl (Nat.ne_of_lt (Nat.lt_of_lt_of_le A12.lt (Nat.le_of_eq g15.symm))))).other W28 (Or.inl (Nat.ne_of_lt (Nat.lt_of_lt_of_le A12.lt (Nat.le_of_eq g15.symm))))).other W29 (Or.inl (Nat.ne_of_lt (Nat.lt_of_lt_of_le A12.lt (Nat.le_of_eq g15.symm))))).other W30 (Or.inl (Nat.ne_of_lt (Nat.lt_of_lt_of_le A12.lt (Nat.le_of_eq g15.symm))))).other W31 (Or.inl (Nat.ne_of_lt (Nat.lt_of_lt_of_le A12.lt (Nat.le_of_eq g15.symm)))))
 have Q35 := (((((((((((F12_coder.ext E15).other W20 (Or.inl (Nat.ne_of_lt (Nat.lt_of_lt_of_le A12.lt (Nat.le_of_eq g15.symm))))).other W23 (Or.inl (Nat.ne_of_lt (Nat.lt_of_lt_of_le A12.lt (Nat.le_of_eq g15.symm))))).other W24 (Or.inl (Nat.ne_of_lt (Nat.lt_of_lt_of_le A12.lt (Nat.le_of_eq g15.symm))))).other W25 (Or.inl (Nat.ne_of_lt (Nat.lt_of_lt_of_le A12.lt (Nat.le_of_eq g15.symm))))).other W26 (Or.inl (Nat.ne_of_lt (Nat.lt_of_lt_of_le A12.lt (Nat.le_of_eq g15.symm))))).other W27 (Or.inl (Nat.ne_of_lt (Nat.lt_of_lt_of_le A12.lt (Nat.le_of_eq g15.symm))))).other W28 (Or.inl (Nat.ne_of_lt (Nat.lt_of_lt_of_le A12.lt (Nat.le_of_eq g15.symm))))).other W29 (Or.inl (Nat.ne_of_lt (Nat.lt_of_lt_of_le A12.lt (Nat.le_of_eq g15.symm))))).other W30 (Or.inl (Nat.ne_of_lt (Nat.lt_of_lt_of_le A12.lt (Nat.le_of_eq g15.symm))))).other W31 (Or.inl (Nat.ne_of_lt (Nat.lt_of_lt_of_le A12.lt (Nat.le_of_eq g15.symm)))))
 have Q36 := (((((((((((A12.ext E15).wr W20).wr W23).wr W24).wr W25).wr W26).wr W27).wr W28).wr W29).wr W30).wr W31)
 have Q37 := (((((((((((((Q10.keep K9q all0).ext E12).ext E15).wr W20).wr W23).wr W24).wr W25).wr W26).wr W27).wr W28).wr W29).wr W30).wr W31)
 refine own_cI X31 hx hZ9 1 hown9 (hw 13 rfl) (hw 14 rfl) (hw 15 rfl) (hw 12 rfl) (rm_ini1 hw b12 b15 [(cs.getD 0 0), (cs.getD 1 0), (83 : Int32), (78 : Int32), (65 : Int32), (80 : Int32), (83 : Int32), (72 : Int32), (79 : Int32), (84 : Int32)] k15 zc fm h31 n0 Z31 Q34 Q35 Q36 VF32 g_b12 (Nat.le_of_ble_eq_true rfl) (own_rgc (hrg _ (own_mem (i := 0) (by rw [hcl]; decide))) (own_rgc (hrg _ (own_mem (i := 1) (by rw [hcl]; decide))) (own_rgc ⟨by decide, by decide⟩ (own_rgc ⟨by decide, by decide⟩ (own_rgc ⟨by decide, by decide⟩ (own_rgc ⟨by decide, by decide⟩ (own_rgc ⟨by decide, by decide⟩ (own_rgc ⟨by decide, by decide⟩ (own_rgc ⟨by decide, by decide⟩ (own_rgc ⟨by decide, by decide⟩ own_rgn)))))))))) (Nat.succ_pos _) (Ne.symm (Nat.ne_of_lt (Nat.lt_of_lt_of_le A12.lt (Nat.le_of_eq g15.symm)))) Q37) e31 own_pd42 rfl (hb hby at_723) hml (fun _ T33 _ _ X33 l33 => own_hp ?_)
 rintro h33 e33 ⟨b33d, rfl, N33q, K33q, le_b33d, x33_0⟩
 have N33 := own_frl l33 N31 N33q
 have R38 := CHr.trans R31 (CHr.keep K33q (allS (Safe.wr W31 (Safe.exa hZ9.alike B30 (by decide) (by decide)) R30.1 (Safe.wr W30 (Safe.exa hZ9.alike B29 (by decide) (by decide)) R29.1 (Safe.wr W29 (Safe.exa hZ9.alike B28 (by decide) (by decide)) R28.1 (Safe.wr W28 (Safe.exa hZ9.alike B27 (by decide) (by decide)) R27.1 (Safe.wr W27 (Safe.exa hZ9.alike B26 (by decide) (by decide)) R26.1 (Safe.wr W26 (Safe.exa hZ9.alike B25 (by decide) (by decide)) R25.1 (Safe.wr W25 (Safe.exa hZ9.alike B24 (by decide) (by decide)) R24.1 (Safe.wr W24 (Safe.exa hZ9.alike B23 (by decide) (by decide)) R23.1 (Safe.wr W23 (Safe.exa hZ9.alike B20 (by decide) (by decide)) R20.1 (Safe.wr W20 (Safe.exa hZ9.alike B15 (by decide) (by decide)) R16.1 (Safe.ext E15 R13.1 (Safe.ext E12 R9.1 (Safe.new (Nat.le_of_eq g12.symm)))))))))))))) all0) R31.1)
 have hk38 := Nat.le_trans hk31 K33q.1
 have Z39 : n0 ≤ h33.size := Nat.le_trans Z31 K33q.1
 have g_b33d : n0 ≤ b33d := Nat.le_trans Z31 le_b33d
 refine own_go (fun _ Kk => XS.astore X33.here hx rfl (hb hby at_726) rfl rfl (l' := #[vl q0, v2, vl q1, v2, vi p2, vr a, vi 2, vi f7, vi pa8, vi pb9, vi k10, vi c11, vi 0, vi 1, vr b1, vr x9, vr b12]) rfl (XS.aload X33.here hx rfl (hb hby at_728) rfl rfl (XS.aload X33.here hx rfl (hb hby at_730) rfl rfl Kk))) ?_
 have Q41 := (((((((((((((x9_0.ext E12).ext E15).other W20 (Nat.ne_of_lt (Nat.lt_of_lt_of_le ((own_Str.exa x9_0).ext E12).lt (Nat.le_of_eq g15.symm))) (Nat.ne_of_lt (Nat.lt_of_lt_of_le (x9_0.ext E12).ltt (Nat.le_of_eq g15.symm)))).other W23 (Nat.ne_of_lt (Nat.lt_of_lt_of_le ((own_Str.exa x9_0).ext E12).lt (Nat.le_of_eq g15.symm))) (Nat.ne_of_lt (Nat.lt_of_lt_of_le (x9_0.ext E12).ltt (Nat.le_of_eq g15.symm)))).other W24 (Nat.ne_of_lt (Nat.lt_of_lt_of_le ((own_Str.exa x9_0).ext E12).lt (Nat.le_of_eq g15.symm))) (Nat.ne_of_lt (Nat.lt_of_lt_of_le (x9_0.ext E12).ltt (Nat.le_of_eq g15.symm)))).other W25 (Nat.ne_of_lt (Nat.lt_of_lt_of_le ((own_Str.exa x9_0).ext E12).lt (Nat.le_of_eq g15.symm))) (Nat.ne_of_lt (Nat.lt_of_lt_of_le (x9_0.ext E12).ltt (Nat.le_of_eq g15.symm)))).other W26 (Nat.ne_of_lt (Nat.lt_of_lt_of_le ((own_Str.exa x9_0).ext E12).lt (Nat.le_of_eq g15.symm))) (Nat.ne_of_lt (Nat.lt_of_lt_of_le (x9_0.ext E12).ltt (Nat.le_of_eq g15.symm)))).other W27 (Nat.ne_of_lt (Nat.lt_of_lt_of_le ((own_Str.exa x9_0).ext E12).lt (Nat.le_of_eq g15.symm))) (Nat.ne_of_lt (Nat.lt_of_lt_of_le (x9_0.ext E12).ltt (Nat.le_of_eq g15.symm)))).other W28 (Nat.ne_of_lt (Nat.lt_of_lt_of_le ((own_Str.exa x9_0).ext E12).lt (Nat.le_of_eq g15.symm))) (Nat.ne_of_lt (Nat.lt_of_lt_of_le (x9_0.ext E12).ltt (Nat.le_of_eq g15.symm)))).other W29 (Nat.ne_of_lt (Nat.lt_of_lt_of_le ((own_Str.exa x9_0).ext E12).lt (Nat.le_of_eq g15.symm))) (Nat.ne_of_lt (Nat.lt_of_lt_of_le (x9_0.ext E12).ltt (Nat.le_of_eq g15.symm)))).other W30 (Nat.ne_of_lt (Nat.lt_of_lt_of_le ((own_Str.exa x9_0).ext E12).lt (Nat.le_of_eq g15.symm))) (Nat.ne_of_lt (Nat.lt_of_lt_of_le (x9_0.ext E12).ltt (Nat.le_of_eq g15.symm)))).other W31 (Nat.ne_of_lt (Nat.lt_of_lt_of_le ((own_Str.exa x9_0).ext E12).lt (Nat.le_of_eq g15.symm))) (Nat.ne_of_lt (Nat.lt_of_lt_of_le (x9_0.ext E12).ltt (Nat.le_of_eq g15.symm)))).keep K33q (own_nc (Nat.ne_of_lt (Nat.lt_of_lt_of_le (own_Str.exa x9_0).lt (Nat.le_of_eq g12.symm))) List.not_mem_nil) (own_nc (Nat.ne_of_lt (Nat.lt_of_lt_of_le x9_0.ltt (Nat.le_of_eq g12.symm))) List.not_mem_nil))
 obtain ⟨kb40l, cd40l, nb40l, vs40l, qE40l, qF40l, qG40l, qV40l, qc40l, qr40l, ql40l⟩ := id Q41
 obtain ⟨kb40r, cd40r, nb40r, vs40r, qE40r, qF40r, qG40r, qV40r, qc40r, qr40r, ql40r⟩ := id x33_0
 have Q42 := (Q37.keep K33q (allS (fun cl hc => Q36.nostat cl hc) all0))
 have Q43 := ((((((((((((((own_Str.exa x9_0).ext E12).ext E15).wr W20).wr W23).wr W24).wr W25).wr W26).wr W27).wr W28).wr W29).wr W30).wr W31).keep K33q)
 obtain ⟨cq40, kq40, q40a, q40b, q40c⟩ := isOf hZ9 e33 Q43
 obtain ⟨_, _, ⟨T40, L40, k40, n40⟩, -, X40, ⟨Lc40, hQ40, l40, y40, z40⟩, st40⟩ := X33.virtualBack hx (y := y23) (z := y23) hown9 (mvT hZ9 (hw 102 rfl)) (mvT hZ9 (hw 103 rfl)) (notFace_of_selects (args := #[]) (mvT hZ9 (hw 105 rfl))) (mvT hZ9 (hw 105 rfl)) (mvT hZ9 (hw 104 rfl)) (by decide) (StrChars.Road.eqW (W := 0) (cs := (cs.take 2 ++ (own_ch "SNAPSHOT"))) (ds := [(cs.getD 0 0), (cs.getD 1 0), (83 : Int32), (78 : Int32), (65 : Int32), (80 : Int32), (83 : Int32), (72 : Int32), (79 : Int32), (84 : Int32)]) hZ9 heq (kI := 4) (hw 11 rfl) qE40l qF40l qG40l qV40l qc40l qr40l ql40l qE40r qF40r qG40r qV40r qc40r qr40r ql40r Q42.2.2.1 SS.1 (by decide) (by decide)) q40a q40c (g := (mkF m 732 #[vl q0, v2, vl q1, v2, vi p2, vr a, vi 2, vi f7, vi pa8, vi pb9, vi k10, vi c11, vi 0, vi 1, vr b1, vr x9, vr b12] [.ref b12, .ref x9])) rfl (by rw [hml]; rfl) (Steps.refl _) (argsL := [(.ref b12)]) (rest := []) (lenOf own_pd44 rfl) rfl (by show 2 * 0 + _ ≤ _; exact Nat.le_of_eq rfl) (hb hby at_732) (fun _ _ => ⟨rfl, e33, (by decide : 19 + 0 ≤ _), (by decide : 410 + 0 ≤ _)⟩)
 dsimp only [Pt.U, Pt.locs, Pt.cells, Pt.slots] at X40 l40 y40 z40 st40 hQ40
 subst y40 z40
 obtain ⟨hE40, rfl, e40⟩ := hQ40
 have N40 := own_frl l40 N33 (Fr.nil n0)
 obtain ⟨rfl, -⟩ := Or.resolve_right hE40 (fun h => h.2 (by rw [own_tk2 hcl, own_sn]; rfl))
 refine own_tr st40 ?_
 show own_G _ _ _ _ (T40.setTop (mkF m 735 #[vl q0, v2, vl q1, v2, vi p2, vr a, vi 2, vi f7, vi pa8, vi pb9, vi k10, vi c11, vi 0, vi 1, vr b1, vr x9, vr b12] [.int 1]))
 exact own_retNW X40 hS9 (by rw [e40]; exact hk38) hx hlk (t := .boolean) (z' := (1 : Int32)) hrt (by simp) (hb hby at_735) rfl (fun U hU hV hF => ⟨_, _, rfl, ⟨rfl, N40⟩, (by rw [hU, e40, hV, hh]; exact CHr.trans R38 (CHv.at X40 hZ9 hEL R38.1)), hF.1, hF.2.1, hF.2.2.1, hF.2.2.2.mono (by decide) (by decide)⟩)
theorem own_p2w {p : Program} {e : Env} {s : State} {m : MethodId} {below : List Frame} {meth : Method} {c : Code} {q0 q1 : Int64} {p2 zc : Int32} {fm : Value} {h0 : Heap} {n0 : Nat} {a : Addr} {ka : ClassId} {cs : List Int32} {T9 : State} (hw : own_H a0 Z) (CC : own_C l Z a0 h0 p s m meth c) (B9 : own_T l Z p e s m below meth c q0 q1 p2 zc fm h0 n0 a ka cs T9) {f7 pa8 pb9 k10 c11 : Int32} (hlay : own_lay 2 cs) (hpre : own_pre 2 cs) (hgt : 255 < cs.getD 0 0) : own_G p e below (K_0 Z q0 q1 p2 zc fm h0 n0 s) (T9.setTop (mkF m 537 #[vl q0, v2, vl q1, v2, vi p2, vr a, vi 2, vi f7, vi pa8, vi pb9, vi k10, vi c11, vi 0, vi 1, vu, vu, vu] [])) := by
 obtain ⟨hx, hby, hml, hown, hZ, hS0, hEL, wSt, heq, hlk, hrt, hh⟩ := id CC
 have hZi := hZ
 obtain ⟨L9, h9, X9, e9, N9, Z9, R9, hk9, SS, EA9, VA9, hcl, hrg⟩ := B9
 have hgd : own_good cs 2 := own_lay_good (by decide) hlay hpre
 show own_G _ _ _ _ (T9.setTop (mkF m 537 #[vl q0, v2, vl q1, v2, vi p2, vr a, vi 2, vi f7, vi pa8, vi pb9, vi k10, vi c11, vi 0, vi 1, vu, vu, vu] []))
 obtain ⟨T1, h1, X1, e1, E1, A1, D1, -, st1⟩ := newO X9 hx hZ hown (hw 10 rfl) (hw 11 rfl) (hw 12 rfl) e9 (g := (mkF m 537 #[vl q0, v2, vl q1, v2, vi p2, vr a, vi 2, vi f7, vi pa8, vi pb9, vi k10, vi c11, vi 0, vi 1, vu, vu, vu] [])) rfl (hb hby at_537) (by decide) (by decide)
 obtain ⟨b1, g1⟩ : ∃ z, z = h9.size := ⟨_, rfl⟩
 rw [← g1] at A1 D1 st1
 refine own_go st1 ?_
 have g_b1 : n0 ≤ b1 := Nat.le_trans Z9 (Nat.le_of_eq g1.symm)
 have R2 := CHr.trans R9 (CHr.ext E1 R9.1)
 have hk2 := Nat.le_trans hk9 E1.1
 have Z3 : n0 ≤ h1.size := Nat.le_trans Z9 E1.1
 have F1_coder : Fld Z h1 b1 "java/lang/String" "coder" "B" (.int (0 : Int32)) := D1 (Or.inr (hw 36 rfl)) (ty := .byte) (by decide)
 have F1_value : Fld Z h1 b1 "java/lang/String" "value" "[B" .null := D1 (Or.inr (hw 38 rfl)) (ty := (.array .byte)) (by decide)
 refine own_go (fun _ Kk => XS.dup X1.here hx rfl (hb hby at_540) rfl rfl (XS.aload X1.here hx rfl (hb hby at_541) rfl rfl Kk)) ?_
 have Q5 := (VA9.ext E1)
 have Q6 := (SS.ext E1)
 refine own_cI X1 hx hZ 1 hown (hw 13 rfl) (hw 14 rfl) (hw 15 rfl) (hw 12 rfl) (rm_ini1 hw b1 a cs ka zc fm h1 n0 Z3 F1_value F1_coder A1 Q5 g_b1 (by rw [hcl]; decide) hrg (by rw [hcl]; decide) (Nat.ne_of_lt (Nat.lt_of_lt_of_le EA9.lt (Nat.le_of_eq g1.symm))) Q6) e1 own_pd42 rfl (hb hby at_543) hml (fun _ T4 _ _ X4 l4 => own_hp ?_)
 rintro h4 e4 ⟨b4d, rfl, N4q, K4q, le_b4d, x4_0⟩
 have N4 := own_frl l4 N9 N4q
 have R7 := CHr.trans R2 (CHr.keep K4q (allS (Safe.ext E1 R9.1 (Safe.new (Nat.le_of_eq g1.symm))) all0) R2.1)
 have hk7 := Nat.le_trans hk2 K4q.1
 have Z8 : n0 ≤ h4.size := Nat.le_trans Z3 K4q.1
 have g_b4d : n0 ≤ b4d := Nat.le_trans Z3 le_b4d
 refine own_go (fun _ Kk => XS.astore X4.here hx rfl (hb hby at_546) rfl rfl (l' := #[vl q0, v2, vl q1, v2, vi p2, vr a, vi 2, vi f7, vi pa8, vi pb9, vi k10, vi c11, vi 0, vi 1, vr b1, vu, vu]) rfl Kk) ?_
 show own_G _ _ _ _ (T4.setTop (mkF m 548 #[vl q0, v2, vl q1, v2, vi p2, vr a, vi 2, vi f7, vi pa8, vi pb9, vi k10, vi c11, vi 0, vi 1, vr b1, vu, vu] []))
 refine own_go (fun _ Kk => XS.aload X4.here hx rfl (hb hby at_548) rfl rfl Kk) ?_
 have Q10 := (Q6.keep K4q (allS (fun cl hc => A1.nostat cl hc) all0))
 obtain ⟨_, _, ⟨T9, L9, k9, n9⟩, -, Y9, hs9, hg9, ⟨Lc9, hQ9, l9, y9, z9, C9⟩, st9⟩ := callSS X4 hx (y := y8) hown (mvT hZ (hw 39 rfl)) (mvT hZ (hw 40 rfl)) (mvT hZ (hw 41 rfl)) (mvT hZ (hw 42 rfl)) (by decide) (backOfSH (W := 0) (rm_bvU hw b1 b4d cs 2 zc fm h4 n0 Z8 x4_0 hgd (by rw [hcl]; decide) (by decide) (by decide) hgt Q10) hZ (hw 42 rfl) (hw 41 rfl) (by decide) (by decide) hEL R7.1) (g := (mkF m 550 #[vl q0, v2, vl q1, v2, vi p2, vr a, vi 2, vi f7, vi pa8, vi pb9, vi k10, vi c11, vi 0, vi 1, vr b1, vu, vu] [.ref b1])) rfl (by rw [hml]; rfl) (argsL := [(.ref b1)]) (rest := []) (lenOf own_pd43 rfl) rfl (by show 2 * 0 + _ ≤ _; exact Nat.le_of_eq rfl) (hb hby at_550) (fun _ _ => ⟨rfl, e4, (by decide : 4 + 11 ≤ _), (by decide : 84 + 252 ≤ _)⟩)
 dsimp only [Pt.U, Pt.locs, Pt.cells, Pt.slots] at Y9 hs9 hg9 l9 y9 z9 C9 st9 hQ9
 subst y9 z9
 obtain ⟨X9, hS9, hZ9, hown9⟩ := rebS hS0 (Nat.le_trans hk7 (Nat.le_of_eq (congrArg Array.size e4).symm)) Y9 hs9 hg9 hZ hown
 obtain ⟨h9, e9⟩ : ∃ z, T9.heap = z := ⟨_, rfl⟩
 rw [e9] at hQ9 hS9 C9
 have R9 := CHr.trans R7 C9
 have hk9 : h9.size ≤ h9.size := Nat.le_refl _
 obtain ⟨x9, d9, rfl, N9q, K9q, x9_0⟩ := hQ9
 have N9 := own_frl l9 N4 N9q
 have Z11 : n0 ≤ h9.size := Nat.le_trans Z8 K9q.1
 refine own_tr st9 ?_
 refine own_go (fun _ Kk => XS.astore X9.here hx rfl (hb hby at_553) rfl rfl (l' := #[vl q0, v2, vl q1, v2, vi p2, vr a, vi 2, vi f7, vi pa8, vi pb9, vi k10, vi c11, vi 0, vi 1, vr b1, vr x9, vu]) rfl (XS.iload X9.here hx rfl (hb hby at_555) rfl (XS.ifNo X9.here hx rfl (hb hby at_557) rfl ((if0 _ _).trans (by decide)) Kk))) ?_
 show own_G _ _ _ _ (T9.setTop (mkF m 560 #[vl q0, v2, vl q1, v2, vi p2, vr a, vi 2, vi f7, vi pa8, vi pb9, vi k10, vi c11, vi 0, vi 1, vr b1, vr x9, vu] []))
 refine own_go (fun _ Kk => XS.iload X9.here hx rfl (hb hby at_560) rfl (XS.ifYes X9.here hx rfl (pc0 := 562) (pc' := 573) rfl (hb hby at_562) rfl ((if0 _ _).trans (by decide)) (by decide) (by decide) (XS.iload X9.here hx rfl (hb hby at_573) rfl (XS.ifYes X9.here hx rfl (pc0 := 575) (pc' := 585) rfl (hb hby at_575) rfl ((if0 _ _).trans (by decide)) (by decide) (by decide) (XS.iload X9.here hx rfl (hb hby at_585) rfl Kk))))) ?_
 show own_G _ _ _ _ (T9.setTop (mkF m 587 #[vl q0, v2, vl q1, v2, vi p2, vr a, vi 2, vi f7, vi pa8, vi pb9, vi k10, vi c11, vi 0, vi 1, vr b1, vr x9, vu] [.int 2]))
 refine own_go (fun _ Kk => XS.iconst X9.here hx rfl (hb hby at_587) (XS.icmpYes X9.here hx rfl (pc0 := 588) (pc' := 657) rfl (hb hby at_588) rfl (by decide) (by decide) (by decide) Kk)) ?_
 obtain ⟨T12, h12, X12, e12, E12, A12, D12, -, st12⟩ := newO X9 hx hZ9 hown9 (hw 10 rfl) (hw 11 rfl) (hw 12 rfl) e9 (g := (mkF m 657 #[vl q0, v2, vl q1, v2, vi p2, vr a, vi 2, vi f7, vi pa8, vi pb9, vi k10, vi c11, vi 0, vi 1, vr b1, vr x9, vu] [])) rfl (hb hby at_657) (by decide) (by decide)
 obtain ⟨b12, g12⟩ : ∃ z, z = h9.size := ⟨_, rfl⟩
 rw [← g12] at A12 D12 st12
 refine own_go st12 ?_
 have g_b12 : n0 ≤ b12 := Nat.le_trans Z11 (Nat.le_of_eq g12.symm)
 have R13 := CHr.trans R9 (CHr.ext E12 R9.1)
 have hk13 := Nat.le_trans hk9 E12.1
 have Z14 : n0 ≤ h12.size := Nat.le_trans Z11 E12.1
 have F12_coder : Fld Z h12 b12 "java/lang/String" "coder" "B" (.int (0 : Int32)) := D12 (Or.inr (hw 36 rfl)) (ty := .byte) (by decide)
 have F12_value : Fld Z h12 b12 "java/lang/String" "value" "[B" .null := D12 (Or.inr (hw 38 rfl)) (ty := (.array .byte)) (by decide)
 refine own_go (fun _ Kk => XS.dup X12.here hx rfl (hb hby at_660) rfl rfl (XS.bipush X12.here hx rfl (hb hby at_661) Kk)) ?_
 show own_G _ _ _ _ (T12.setTop (mkF m 663 #[vl q0, v2, vl q1, v2, vi p2, vr a, vi 2, vi f7, vi pa8, vi pb9, vi k10, vi c11, vi 0, vi 1, vr b1, vr x9, vu] [.int 10, .ref b12, .ref b12]))
 obtain ⟨T15, h15, k15, X15, e15, E15, A15, B15, st15⟩ := newPE X12 hx hZ9 (hw 0 rfl) e12 (g := (mkF m 663 #[vl q0, v2, vl q1, v2, vi p2, vr a, vi 2, vi f7, vi pa8, vi pb9, vi k10, vi c11, vi 0, vi 1, vr b1, vr x9, vu] [.int 10, .ref b12, .ref b12])) rfl (hb hby at_663) rfl (by decide) (cap := 10) (by decide) (by decide) (by decide) (by decide) (ad := "[C") (by decide)
 obtain ⟨b15, g15⟩ : ∃ z, z = h12.size := ⟨_, rfl⟩
 rw [← g15] at A15 B15 st15
 refine own_go st15 ?_
 have g_b15 : n0 ≤ b15 := Nat.le_trans Z14 (Nat.le_of_eq g15.symm)
 have V15 : Arv Z h15 b15 k15 .char (10 : Int32) [(.int (0 : Int32)), (.int (0 : Int32)), (.int (0 : Int32)), (.int (0 : Int32)), (.int (0 : Int32)), (.int (0 : Int32)), (.int (0 : Int32)), (.int (0 : Int32)), (.int (0 : Int32)), (.int (0 : Int32))] (.int (0 : Int32)) := (Arv.new A15 (by decide)).pad (pad_rep [] (.int (0 : Int32)) 10)
 have R16 := CHr.trans R13 (CHr.ext E15 R13.1)
 have hk16 := Nat.le_trans hk13 E15.1
 have Z17 : n0 ≤ h15.size := Nat.le_trans Z14 E15.1
 refine own_go (fun _ Kk => XS.dup X15.here hx rfl (hb hby at_665) rfl rfl (XS.iconst X15.here hx rfl (hb hby at_666) (XS.aload X15.here hx rfl (hb hby at_667) rfl rfl (XS.iconst X15.here hx rfl (hb hby at_669) Kk)))) ?_
 show own_G _ _ _ _ (T15.setTop (mkF m 670 #[vl q0, v2, vl q1, v2, vi p2, vr a, vi 2, vi f7, vi pa8, vi pb9, vi k10, vi c11, vi 0, vi 1, vr b1, vr x9, vu] [.int 0, .ref a, .int 0, .ref b15, .ref b15, .ref b12, .ref b12]))
 have Q19 := ((((Q5.keep K4q (own_nc (Nat.ne_of_lt (Nat.lt_of_lt_of_le EA9.lt (Nat.le_of_eq g1.symm))) List.not_mem_nil)).keep K9q List.not_mem_nil).ext E12).ext E15)
 obtain ⟨cl18, Ar18, -, Sz18, Nn18, Hh18, -⟩ := id Q19
 have hin18 : ¬ ((0 : Int32) < 0 ∨ cl18.slots.size ≤ ((0 : Int32)).toNatClampNeg) := inb_of Sz18 ⟨by decide, own_onl (i := 0) (by rw [hcl]; decide) (by rw [hcl]; decide)⟩
 have hat18 : cl18.slots[((0 : Int32)).toNatClampNeg]? = some (.int (cs.getD 0 0)) := Has.at Hh18 hin18 (own_cg (i := 0) (by rw [hcl]; decide) _)
 refine own_go (X15.caload hx (j := (0 : Int32)) (v := (.int (cs.getD 0 0))) (by rw [e15]; exact Ar18.1) (State.isArrayOf_alike hZ9.alike Ar18.2.1) Ar18.2.2 hin18 hat18 (g := (mkF m 670 #[vl q0, v2, vl q1, v2, vi p2, vr a, vi 2, vi f7, vi pa8, vi pb9, vi k10, vi c11, vi 0, vi 1, vr b1, vr x9, vu] [.int 0, .ref a, .int 0, .ref b15, .ref b15, .ref b12, .ref b12])) rfl rfl (hb hby at_670)) ?_
 refine own_sC X15 hx hZ9 e15 V15 rfl (hrg _ (own_mem (i := 0) (by rw [hcl]; decide))) 0 rfl (by decide) ⟨by decide, by decide⟩ N9 g_b15 B15 R16 hk16 Z17 (hb hby at_671) ?_
 intro T20 h20 u20 L20 X20 e20 hu20 V20 lu20 N20 R20 hk20 Z20 B20 W20
 refine own_go (fun _ Kk => XS.dup X20.here hx rfl (hb hby at_672) rfl rfl (XS.iconst X20.here hx rfl (hb hby at_673) (XS.aload X20.here hx rfl (hb hby at_674) rfl rfl Kk))) ?_
 show own_G _ _ _ _ (T20.setTop (mkF m 676 #[vl q0, v2, vl q1, v2, vi p2, vr a, vi 2, vi f7, vi pa8, vi pb9, vi k10, vi c11, vi 0, vi 1, vr b1, vr x9, vu] [.ref a, .int 1, .ref b15, .ref b15, .ref b12, .ref b12]))
 refine own_go (fun _ Kk => XS.iconst X20.here hx rfl (hb hby at_676) Kk) ?_
 have Q22 := (Q19.other W20 (Nat.ne_of_lt (Nat.lt_of_lt_of_le ((((EA9.ext E1).keep K4q).keep K9q).ext E12).lt (Nat.le_of_eq g15.symm))))
 obtain ⟨cl21, Ar21, -, Sz21, Nn21, Hh21, -⟩ := id Q22
 have hin21 : ¬ ((1 : Int32) < 0 ∨ cl21.slots.size ≤ ((1 : Int32)).toNatClampNeg) := inb_of Sz21 ⟨by decide, own_onl (i := 1) (by rw [hcl]; decide) (by rw [hcl]; decide)⟩
 have hat21 : cl21.slots[((1 : Int32)).toNatClampNeg]? = some (.int (cs.getD 1 0)) := Has.at Hh21 hin21 (own_cg (i := 1) (by rw [hcl]; decide) _)
 refine own_go (X20.caload hx (j := (1 : Int32)) (v := (.int (cs.getD 1 0))) (by rw [e20]; exact Ar21.1) (State.isArrayOf_alike hZ9.alike Ar21.2.1) Ar21.2.2 hin21 hat21 (g := (mkF m 677 #[vl q0, v2, vl q1, v2, vi p2, vr a, vi 2, vi f7, vi pa8, vi pb9, vi k10, vi c11, vi 0, vi 1, vr b1, vr x9, vu] [.int 1, .ref a, .int 1, .ref b15, .ref b15, .ref b12, .ref b12])) rfl rfl (hb hby at_677)) ?_
 refine own_sC X20 hx hZ9 e20 V20 lu20 (hrg _ (own_mem (i := 1) (by rw [hcl]; decide))) 1 rfl (by decide) ⟨by decide, by decide⟩ N20 g_b15 B20 R20 hk20 Z20 (hb hby at_678) ?_
 intro T23 h23 u23 L23 X23 e23 hu23 V23 lu23 N23 R23 hk23 Z23 B23 W23
 refine own_go (fun _ Kk => XS.dup X23.here hx rfl (hb hby at_679) rfl rfl (XS.iconst X23.here hx rfl (hb hby at_680) Kk)) ?_
 show own_G _ _ _ _ (T23.setTop (mkF m 681 #[vl q0, v2, vl q1, v2, vi p2, vr a, vi 2, vi f7, vi pa8, vi pb9, vi k10, vi c11, vi 0, vi 1, vr b1, vr x9, vu] [.int 2, .ref b15, .ref b15, .ref b12, .ref b12]))
 refine own_go (fun _ Kk => XS.bipush X23.here hx rfl (hb hby at_681) Kk) ?_
 refine own_sC X23 hx hZ9 e23 V23 lu23 ⟨by decide, by decide⟩ 2 rfl (by decide) ⟨by decide, by decide⟩ N23 g_b15 B23 R23 hk23 Z23 (hb hby at_683) ?_
 intro T24 h24 u24 L24 X24 e24 hu24 V24 lu24 N24 R24 hk24 Z24 B24 W24
 refine own_go (fun _ Kk => XS.dup X24.here hx rfl (hb hby at_684) rfl rfl (XS.iconst X24.here hx rfl (hb hby at_685) (XS.bipush X24.here hx rfl (hb hby at_686) Kk))) ?_
 show own_G _ _ _ _ (T24.setTop (mkF m 688 #[vl q0, v2, vl q1, v2, vi p2, vr a, vi 2, vi f7, vi pa8, vi pb9, vi k10, vi c11, vi 0, vi 1, vr b1, vr x9, vu] [.int 78, .int 3, .ref b15, .ref b15, .ref b12, .ref b12]))
 refine own_sC X24 hx hZ9 e24 V24 lu24 ⟨by decide, by decide⟩ 3 rfl (by decide) ⟨by decide, by decide⟩ N24 g_b15 B24 R24 hk24 Z24 (hb hby at_688) ?_
 intro T25 h25 u25 L25 X25 e25 hu25 V25 lu25 N25 R25 hk25 Z25 B25 W25
 refine own_go (fun _ Kk => XS.dup X25.here hx rfl (hb hby at_689) rfl rfl (XS.iconst X25.here hx rfl (hb hby at_690) (XS.bipush X25.here hx rfl (hb hby at_691) Kk))) ?_
 refine own_sC X25 hx hZ9 e25 V25 lu25 ⟨by decide, by decide⟩ 4 rfl (by decide) ⟨by decide, by decide⟩ N25 g_b15 B25 R25 hk25 Z25 (hb hby at_693) ?_
 intro T26 h26 u26 L26 X26 e26 hu26 V26 lu26 N26 R26 hk26 Z26 B26 W26
 show own_G _ _ _ _ (T26.setTop (mkF m 694 #[vl q0, v2, vl q1, v2, vi p2, vr a, vi 2, vi f7, vi pa8, vi pb9, vi k10, vi c11, vi 0, vi 1, vr b1, vr x9, vu] [.ref b15, .ref b12, .ref b12]))
 refine own_go (fun _ Kk => XS.dup X26.here hx rfl (hb hby at_694) rfl rfl (XS.iconst X26.here hx rfl (hb hby at_695) (XS.bipush X26.here hx rfl (hb hby at_696) Kk))) ?_
 refine own_sC X26 hx hZ9 e26 V26 lu26 ⟨by decide, by decide⟩ 5 rfl (by decide) ⟨by decide, by decide⟩ N26 g_b15 B26 R26 hk26 Z26 (hb hby at_698) ?_
 intro T27 h27 u27 L27 X27 e27 hu27 V27 lu27 N27 R27 hk27 Z27 B27 W27
 refine own_go (fun _ Kk => XS.dup X27.here hx rfl (hb hby at_699) rfl rfl Kk) ?_
 show own_G _ _ _ _ (T27.setTop (mkF m 700 #[vl q0, v2, vl q1, v2, vi p2, vr a, vi 2, vi f7, vi pa8, vi pb9, vi k10, vi c11, vi 0, vi 1, vr b1, vr x9, vu] [.ref b15, .ref b15, .ref b12, .ref b12]))
 refine own_go (fun _ Kk => XS.bipush X27.here hx rfl (hb hby at_700) (XS.bipush X27.here hx rfl (hb hby at_702) Kk)) ?_
 refine own_sC X27 hx hZ9 e27 V27 lu27 ⟨by decide, by decide⟩ 6 rfl (by decide) ⟨by decide, by decide⟩ N27 g_b15 B27 R27 hk27 Z27 (hb hby at_704) ?_
 intro T28 h28 u28 L28 X28 e28 hu28 V28 lu28 N28 R28 hk28 Z28 B28 W28
 refine own_go (fun _ Kk => XS.dup X28.here hx rfl (hb hby at_705) rfl rfl (XS.bipush X28.here hx rfl (hb hby at_706) Kk)) ?_
 show own_G _ _ _ _ (T28.setTop (mkF m 708 #[vl q0, v2, vl q1, v2, vi p2, vr a, vi 2, vi f7, vi pa8, vi pb9, vi k10, vi c11, vi 0, vi 1, vr b1, vr x9, vu] [.int 7, .ref b15, .ref b15, .ref b12, .ref b12]))
 refine own_go (fun _ Kk => XS.bipush X28.here hx rfl (hb hby at_708) Kk) ?_
 refine own_sC X28 hx hZ9 e28 V28 lu28 ⟨by decide, by decide⟩ 7 rfl (by decide) ⟨by decide, by decide⟩ N28 g_b15 B28 R28 hk28 Z28 (hb hby at_710) ?_
 intro T29 h29 u29 L29 X29 e29 hu29 V29 lu29 N29 R29 hk29 Z29 B29 W29
 refine own_go (fun _ Kk => XS.dup X29.here hx rfl (hb hby at_711) rfl rfl (XS.bipush X29.here hx rfl (hb hby at_712) (XS.bipush X29.here hx rfl (hb hby at_714) Kk))) ?_
 show own_G _ _ _ _ (T29.setTop (mkF m 716 #[vl q0, v2, vl q1, v2, vi p2, vr a, vi 2, vi f7, vi pa8, vi pb9, vi k10, vi c11, vi 0, vi 1, vr b1, vr x9, vu] [.int 79, .int 8, .ref b15, .ref b15, .ref b12, .ref b12]))
 refine own_sC X29 hx hZ9 e29 V29 lu29 ⟨by decide, by decide⟩ 8 rfl (by decide) ⟨by decide, by decide⟩ N29 g_b15 B29 R29 hk29 Z29 (hb hby at_716) ?_
 intro T30 h30 u30 L30 X30 e30 hu30 V30 lu30 N30 R30 hk30 Z30 B30 W30
 refine own_go (fun _ Kk => XS.dup X30.here hx rfl (hb hby at_717) rfl rfl (XS.bipush X30.here hx rfl (hb hby at_718) (XS.bipush X30.here hx rfl (hb hby at_720) Kk))) ?_
 refine own_sC X30 hx hZ9 e30 V30 lu30 ⟨by decide, by decide⟩ 9 rfl (by decide) ⟨by decide, by decide⟩ N30 g_b15 B30 R30 hk30 Z30 (hb hby at_722) ?_
 intro T31 h31 u31 L31 X31 e31 hu31 V31 lu31 N31 R31 hk31 Z31 B31 W31
 show own_G _ _ _ _ (T31.setTop (mkF m 723 #[vl q0, v2, vl q1, v2, vi p2, vr a, vi 2, vi f7, vi pa8, vi pb9, vi k10, vi c11, vi 0, vi 1, vr b1, vr x9, vu] [.ref b15, .ref b12, .ref b12]))
 have hf32 : u31 = [(.int (cs.getD 0 0)), (.int (cs.getD 1 0)), (.int (83 : Int32)), (.int (78 : Int32)), (.int (65 : Int32)), (.int (80 : Int32)), (.int (83 : Int32)), (.int (72 : Int32)), (.int (79 : Int32)), (.int (84 : Int32))] := by rw [hu31]; rw [hu30]; rw [hu29]; rw [hu28]; rw [hu27]; rw [hu26]; rw [hu25]; rw [hu24]; rw [hu23]; rw [hu20]; rfl
 have VF32 := V31
 rw [hf32] at VF32
 have Q34 := (((((((((((F12_value.ext E15).other W20 (Or.inl (Nat.ne_of_lt (Nat.lt_of_lt_of_le A12.lt (Nat.le_of_eq g15.symm))))).other W23 (Or.inl (Nat.ne_of_lt (Nat.lt_of_lt_of_le A12.lt (Nat.le_of_eq g15.symm))))).other W24 (Or.inl (Nat.ne_of_lt (Nat.lt_of_lt_of_le A12.lt (Nat.le_of_eq g15.symm))))).other W25 (Or.inl (Nat.ne_of_lt (Nat.lt_of_lt_of_le A12.lt (Nat.le_of_eq g15.symm))))).other W26 (Or.inl (Nat.ne_of_lt (Nat.lt_of_lt_of_le A12.lt (Nat.le_of_eq g15.symm))))).other W27 (Or.inl (Nat.ne_of_lt (Nat.lt_of_lt_of_le A12.lt (Nat.le_of_eq g15.symm))))).other W28 (Or.inl (Nat.ne_of_lt (Nat.lt_of_lt_of_le A12.lt (Nat.le_of_eq g15.symm))))).other W29 (Or.inl (Nat.ne_of_lt (Nat.lt_of_lt_of_le A12.lt (Nat.le_of_eq g15.symm))))).other W30 (Or.inl (Nat.ne_of_lt (Nat.lt_of_lt_of_le A12.lt (Nat.le_of_eq g15.symm))))).other W31 (Or.inl (Nat.ne_of_lt (Nat.lt_of_lt_of_le A12.lt (Nat.le_of_eq g15.symm)))))
 have Q35 := (((((((((((F12_coder.ext E15).other W20 (Or.inl (Nat.ne_of_lt (Nat.lt_of_lt_of_le A12.lt (Nat.le_of_eq g15.symm))))).other W23 (Or.inl (Nat.ne_of_lt (Nat.lt_of_lt_of_le A12.lt (Nat.le_of_eq g15.symm))))).other W24 (Or.inl (Nat.ne_of_lt (Nat.lt_of_lt_of_le A12.lt (Nat.le_of_eq g15.symm))))).other W25 (Or.inl (Nat.ne_of_lt (Nat.lt_of_lt_of_le A12.lt (Nat.le_of_eq g15.symm))))).other W26 (Or.inl (Nat.ne_of_lt (Nat.lt_of_lt_of_le A12.lt (Nat.le_of_eq g15.symm))))).other W27 (Or.inl (Nat.ne_of_lt (Nat.lt_of_lt_of_le A12.lt (Nat.le_of_eq g15.symm))))).other W28 (Or.inl (Nat.ne_of_lt (Nat.lt_of_lt_of_le A12.lt (Nat.le_of_eq g15.symm))))).other W29 (Or.inl (Nat.ne_of_lt (Nat.lt_of_lt_of_le A12.lt (Nat.le_of_eq g15.symm))))).other W30 (Or.inl (Nat.ne_of_lt (Nat.lt_of_lt_of_le A12.lt (Nat.le_of_eq g15.symm))))).other W31 (Or.inl (Nat.ne_of_lt (Nat.lt_of_lt_of_le A12.lt (Nat.le_of_eq g15.symm)))))
 have Q36 := (((((((((((A12.ext E15).wr W20).wr W23).wr W24).wr W25).wr W26).wr W27).wr W28).wr W29).wr W30).wr W31)
 have Q37 := (((((((((((((Q10.keep K9q all0).ext E12).ext E15).wr W20).wr W23).wr W24).wr W25).wr W26).wr W27).wr W28).wr W29).wr W30).wr W31)
 refine own_cI X31 hx hZ9 1 hown9 (hw 13 rfl) (hw 14 rfl) (hw 15 rfl) (hw 12 rfl) (rm_ini1 hw b12 b15 [(cs.getD 0 0), (cs.getD 1 0), (83 : Int32), (78 : Int32), (65 : Int32), (80 : Int32), (83 : Int32), (72 : Int32), (79 : Int32), (84 : Int32)] k15 zc fm h31 n0 Z31 Q34 Q35 Q36 VF32 g_b12 (Nat.le_of_ble_eq_true rfl) (own_rgc (hrg _ (own_mem (i := 0) (by rw [hcl]; decide))) (own_rgc (hrg _ (own_mem (i := 1) (by rw [hcl]; decide))) (own_rgc ⟨by decide, by decide⟩ (own_rgc ⟨by decide, by decide⟩ (own_rgc ⟨by decide, by decide⟩ (own_rgc ⟨by decide, by decide⟩ (own_rgc ⟨by decide, by decide⟩ (own_rgc ⟨by decide, by decide⟩ (own_rgc ⟨by decide, by decide⟩ (own_rgc ⟨by decide, by decide⟩ own_rgn)))))))))) (Nat.succ_pos _) (Ne.symm (Nat.ne_of_lt (Nat.lt_of_lt_of_le A12.lt (Nat.le_of_eq g15.symm)))) Q37) e31 own_pd42 rfl (hb hby at_723) hml (fun _ T33 _ _ X33 l33 => own_hp ?_)
 rintro h33 e33 ⟨b33d, rfl, N33q, K33q, le_b33d, x33_0⟩
 have N33 := own_frl l33 N31 N33q
 have R38 := CHr.trans R31 (CHr.keep K33q (allS (Safe.wr W31 (Safe.exa hZ9.alike B30 (by decide) (by decide)) R30.1 (Safe.wr W30 (Safe.exa hZ9.alike B29 (by decide) (by decide)) R29.1 (Safe.wr W29 (Safe.exa hZ9.alike B28 (by decide) (by decide)) R28.1 (Safe.wr W28 (Safe.exa hZ9.alike B27 (by decide) (by decide)) R27.1 (Safe.wr W27 (Safe.exa hZ9.alike B26 (by decide) (by decide)) R26.1 (Safe.wr W26 (Safe.exa hZ9.alike B25 (by decide) (by decide)) R25.1 (Safe.wr W25 (Safe.exa hZ9.alike B24 (by decide) (by decide)) R24.1 (Safe.wr W24 (Safe.exa hZ9.alike B23 (by decide) (by decide)) R23.1 (Safe.wr W23 (Safe.exa hZ9.alike B20 (by decide) (by decide)) R20.1 (Safe.wr W20 (Safe.exa hZ9.alike B15 (by decide) (by decide)) R16.1 (Safe.ext E15 R13.1 (Safe.ext E12 R9.1 (Safe.new (Nat.le_of_eq g12.symm)))))))))))))) all0) R31.1)
 have hk38 := Nat.le_trans hk31 K33q.1
 have Z39 : n0 ≤ h33.size := Nat.le_trans Z31 K33q.1
 have g_b33d : n0 ≤ b33d := Nat.le_trans Z31 le_b33d
 refine own_go (fun _ Kk => XS.astore X33.here hx rfl (hb hby at_726) rfl rfl (l' := #[vl q0, v2, vl q1, v2, vi p2, vr a, vi 2, vi f7, vi pa8, vi pb9, vi k10, vi c11, vi 0, vi 1, vr b1, vr x9, vr b12]) rfl (XS.aload X33.here hx rfl (hb hby at_728) rfl rfl (XS.aload X33.here hx rfl (hb hby at_730) rfl rfl Kk))) ?_
 have Q41 := (((((((((((((x9_0.ext E12).ext E15).other W20 (Nat.ne_of_lt (Nat.lt_of_lt_of_le ((own_Str.exa x9_0).ext E12).lt (Nat.le_of_eq g15.symm))) (Nat.ne_of_lt (Nat.lt_of_lt_of_le (x9_0.ext E12).ltt (Nat.le_of_eq g15.symm)))).other W23 (Nat.ne_of_lt (Nat.lt_of_lt_of_le ((own_Str.exa x9_0).ext E12).lt (Nat.le_of_eq g15.symm))) (Nat.ne_of_lt (Nat.lt_of_lt_of_le (x9_0.ext E12).ltt (Nat.le_of_eq g15.symm)))).other W24 (Nat.ne_of_lt (Nat.lt_of_lt_of_le ((own_Str.exa x9_0).ext E12).lt (Nat.le_of_eq g15.symm))) (Nat.ne_of_lt (Nat.lt_of_lt_of_le (x9_0.ext E12).ltt (Nat.le_of_eq g15.symm)))).other W25 (Nat.ne_of_lt (Nat.lt_of_lt_of_le ((own_Str.exa x9_0).ext E12).lt (Nat.le_of_eq g15.symm))) (Nat.ne_of_lt (Nat.lt_of_lt_of_le (x9_0.ext E12).ltt (Nat.le_of_eq g15.symm)))).other W26 (Nat.ne_of_lt (Nat.lt_of_lt_of_le ((own_Str.exa x9_0).ext E12).lt (Nat.le_of_eq g15.symm))) (Nat.ne_of_lt (Nat.lt_of_lt_of_le (x9_0.ext E12).ltt (Nat.le_of_eq g15.symm)))).other W27 (Nat.ne_of_lt (Nat.lt_of_lt_of_le ((own_Str.exa x9_0).ext E12).lt (Nat.le_of_eq g15.symm))) (Nat.ne_of_lt (Nat.lt_of_lt_of_le (x9_0.ext E12).ltt (Nat.le_of_eq g15.symm)))).other W28 (Nat.ne_of_lt (Nat.lt_of_lt_of_le ((own_Str.exa x9_0).ext E12).lt (Nat.le_of_eq g15.symm))) (Nat.ne_of_lt (Nat.lt_of_lt_of_le (x9_0.ext E12).ltt (Nat.le_of_eq g15.symm)))).other W29 (Nat.ne_of_lt (Nat.lt_of_lt_of_le ((own_Str.exa x9_0).ext E12).lt (Nat.le_of_eq g15.symm))) (Nat.ne_of_lt (Nat.lt_of_lt_of_le (x9_0.ext E12).ltt (Nat.le_of_eq g15.symm)))).other W30 (Nat.ne_of_lt (Nat.lt_of_lt_of_le ((own_Str.exa x9_0).ext E12).lt (Nat.le_of_eq g15.symm))) (Nat.ne_of_lt (Nat.lt_of_lt_of_le (x9_0.ext E12).ltt (Nat.le_of_eq g15.symm)))).other W31 (Nat.ne_of_lt (Nat.lt_of_lt_of_le ((own_Str.exa x9_0).ext E12).lt (Nat.le_of_eq g15.symm))) (Nat.ne_of_lt (Nat.lt_of_lt_of_le (x9_0.ext E12).ltt (Nat.le_of_eq g15.symm)))).keep K33q (own_nc (Nat.ne_of_lt (Nat.lt_of_lt_of_le (own_Str.exa x9_0).lt (Nat.le_of_eq g12.symm))) List.not_mem_nil) (own_nc (Nat.ne_of_lt (Nat.lt_of_lt_of_le x9_0.ltt (Nat.le_of_eq g12.symm))) List.not_mem_nil))
 obtain ⟨kb40l, cd40l, nb40l, vs40l, qE40l, qF40l, qG40l, qV40l, qc40l, qr40l, ql40l⟩ := id Q41
 obtain ⟨kb40r, cd40r, nb40r, vs40r, qE40r, qF40r, qG40r, qV40r, qc40r, qr40r, ql40r⟩ := id x33_0
 have Q42 := (Q37.keep K33q (allS (fun cl hc => Q36.nostat cl hc) all0))
 have Q43 := ((((((((((((((own_Str.exa x9_0).ext E12).ext E15).wr W20).wr W23).wr W24).wr W25).wr W26).wr W27).wr W28).wr W29).wr W30).wr W31).keep K33q)
 obtain ⟨cq40, kq40, q40a, q40b, q40c⟩ := isOf hZ9 e33 Q43
 obtain ⟨_, _, ⟨T40, L40, k40, n40⟩, -, X40, ⟨Lc40, hQ40, l40, y40, z40⟩, st40⟩ := X33.virtualBack hx (y := y23) (z := y23) hown9 (mvT hZ9 (hw 102 rfl)) (mvT hZ9 (hw 103 rfl)) (notFace_of_selects (args := #[]) (mvT hZ9 (hw 105 rfl))) (mvT hZ9 (hw 105 rfl)) (mvT hZ9 (hw 104 rfl)) (by decide) (StrChars.Road.eqW (W := 0) (cs := (cs.take 2 ++ (own_ch "SNAPSHOT"))) (ds := [(cs.getD 0 0), (cs.getD 1 0), (83 : Int32), (78 : Int32), (65 : Int32), (80 : Int32), (83 : Int32), (72 : Int32), (79 : Int32), (84 : Int32)]) hZ9 heq (kI := 4) (hw 11 rfl) qE40l qF40l qG40l qV40l qc40l qr40l ql40l qE40r qF40r qG40r qV40r qc40r qr40r ql40r Q42.2.2.1 SS.1 (by decide) (by decide)) q40a q40c (g := (mkF m 732 #[vl q0, v2, vl q1, v2, vi p2, vr a, vi 2, vi f7, vi pa8, vi pb9, vi k10, vi c11, vi 0, vi 1, vr b1, vr x9, vr b12] [.ref b12, .ref x9])) rfl (by rw [hml]; rfl) (Steps.refl _) (argsL := [(.ref b12)]) (rest := []) (lenOf own_pd44 rfl) rfl (by show 2 * 0 + _ ≤ _; exact Nat.le_of_eq rfl) (hb hby at_732) (fun _ _ => ⟨rfl, e33, (by decide : 19 + 0 ≤ _), (by decide : 410 + 0 ≤ _)⟩)
 dsimp only [Pt.U, Pt.locs, Pt.cells, Pt.slots] at X40 l40 y40 z40 st40 hQ40
 subst y40 z40
 obtain ⟨hE40, rfl, e40⟩ := hQ40
 have N40 := own_frl l40 N33 (Fr.nil n0)
 obtain ⟨rfl, -⟩ := Or.resolve_right hE40 (fun h => h.2 (by rw [own_tk2 hcl, own_sn]; rfl))
 refine own_tr st40 ?_
 show own_G _ _ _ _ (T40.setTop (mkF m 735 #[vl q0, v2, vl q1, v2, vi p2, vr a, vi 2, vi f7, vi pa8, vi pb9, vi k10, vi c11, vi 0, vi 1, vr b1, vr x9, vr b12] [.int 1]))
 exact own_retNW X40 hS9 (by rw [e40]; exact hk38) hx hlk (t := .boolean) (z' := (1 : Int32)) hrt (by simp) (hb hby at_735) rfl (fun U hU hV hF => ⟨_, _, rfl, ⟨rfl, N40⟩, (by rw [hU, e40, hV, hh]; exact CHr.trans R38 (CHv.at X40 hZ9 hEL R38.1)), hF.1, hF.2.1, hF.2.2.1, hF.2.2.2.mono (by decide) (by decide)⟩)
theorem own_mid0 {p : Program} {e : Env} {s : State} {m : MethodId} {below : List Frame} {meth : Method} {c : Code} {q0 q1 : Int64} {p2 zc : Int32} {fm : Value} {h0 : Heap} {n0 : Nat} {a : Addr} {ka : ClassId} {cs : List Int32} {T9 : State} (hw : own_H a0 Z) (CC : own_C l Z a0 h0 p s m meth c) (B9 : own_T l Z p e s m below meth c q0 q1 p2 zc fm h0 n0 a ka cs T9) {f7 pa8 pb9 k10 c11 zb12 : Int32} {w13 : Slot} (hw13 : w13 = .unset ∨ ∃ z : Int32, w13 = .val (.int z)) (hz : (zb12 = 1 ∧ ∀ q, ¬ own_good cs q) ∨ (zb12 = 0 ∧ own_lay 0 cs)) : own_G p e below (K_0 Z q0 q1 p2 zc fm h0 n0 s) (T9.setTop (mkF m 475 #[vl q0, v2, vl q1, v2, vi p2, vr a, vi 0, vi f7, vi pa8, vi pb9, vi k10, vi c11, vi zb12, w13, vu, vu, vu] [])) := by
 obtain ⟨hx, hby, hml, hown, hZ, hS0, hEL, wSt, heq, hlk, hrt, hh⟩ := id CC
 have hZi := hZ
 obtain ⟨L9, h9, X9, e9, N9, Z9, R9, hk9, SS, EA9, VA9, hcl, hrg⟩ := B9
 show own_G _ _ _ _ (T9.setTop (mkF m 475 #[vl q0, v2, vl q1, v2, vi p2, vr a, vi 0, vi f7, vi pa8, vi pb9, vi k10, vi c11, vi zb12, w13, vu, vu, vu] []))
 rcases hw13 with rfl | ⟨z9, rfl⟩
 ·
  show own_G _ _ _ _ (T9.setTop (mkF m 475 #[vl q0, v2, vl q1, v2, vi p2, vr a, vi 0, vi f7, vi pa8, vi pb9, vi k10, vi c11, vi zb12, vu, vu, vu, vu] []))
  refine own_go (fun _ Kk => XS.iload X9.here hx rfl (hb hby at_475) rfl (XS.ifNo X9.here hx rfl (hb hby at_477) rfl ((if0 _ _).trans (by decide)) (XS.iconst X9.here hx rfl (hb hby at_480) (XS.istore X9.here hx rfl (hb hby at_481) rfl (l' := #[vl q0, v2, vl q1, v2, vi p2, vr a, vi 0, vi f7, vi pa8, vi pb9, vi k10, vi c11, vi zb12, vi 1, vu, vu, vu]) rfl (XS.goto X9.here hx rfl (pc0 := 483) (pc' := 537) rfl (hb hby at_483) (by decide) (by decide) Kk))))) ?_
  show own_G _ _ _ _ (T9.setTop (mkF m 537 #[vl q0, v2, vl q1, v2, vi p2, vr a, vi 0, vi f7, vi pa8, vi pb9, vi k10, vi c11, vi zb12, vi 1, vu, vu, vu] []))
  show own_G _ _ _ _ (T9.setTop (mkF m 537 #[vl q0, v2, vl q1, v2, vi p2, vr a, vi 0, vi f7, vi pa8, vi pb9, vi k10, vi c11, vi zb12, vi 1, vu, vu, vu] []))
  rcases hz with ⟨rfl, hno⟩ | ⟨rfl, hlay⟩
  ·
   exact own_neg hw CC ⟨_, _, X9, e9, N9, Z9, R9, hk9, SS, EA9, VA9, hcl, hrg⟩ (Or.inl (by decide)) hno
  ·
   exact own_p0 hw CC ⟨_, _, X9, e9, N9, Z9, R9, hk9, SS, EA9, VA9, hcl, hrg⟩ hlay (own_pre0 cs)
 ·
  show own_G _ _ _ _ (T9.setTop (mkF m 475 #[vl q0, v2, vl q1, v2, vi p2, vr a, vi 0, vi f7, vi pa8, vi pb9, vi k10, vi c11, vi zb12, vi z9, vu, vu, vu] []))
  refine own_go (fun _ Kk => XS.iload X9.here hx rfl (hb hby at_475) rfl (XS.ifNo X9.here hx rfl (hb hby at_477) rfl ((if0 _ _).trans (by decide)) (XS.iconst X9.here hx rfl (hb hby at_480) (XS.istore X9.here hx rfl (hb hby at_481) rfl (l' := #[vl q0, v2, vl q1, v2, vi p2, vr a, vi 0, vi f7, vi pa8, vi pb9, vi k10, vi c11, vi zb12, vi 1, vu, vu, vu]) rfl (XS.goto X9.here hx rfl (pc0 := 483) (pc' := 537) rfl (hb hby at_483) (by decide) (by decide) Kk))))) ?_
  show own_G _ _ _ _ (T9.setTop (mkF m 537 #[vl q0, v2, vl q1, v2, vi p2, vr a, vi 0, vi f7, vi pa8, vi pb9, vi k10, vi c11, vi zb12, vi 1, vu, vu, vu] []))
  show own_G _ _ _ _ (T9.setTop (mkF m 537 #[vl q0, v2, vl q1, v2, vi p2, vr a, vi 0, vi f7, vi pa8, vi pb9, vi k10, vi c11, vi zb12, vi 1, vu, vu, vu] []))
  rcases hz with ⟨rfl, hno⟩ | ⟨rfl, hlay⟩
  ·
   exact own_neg hw CC ⟨_, _, X9, e9, N9, Z9, R9, hk9, SS, EA9, VA9, hcl, hrg⟩ (Or.inl (by decide)) hno
  ·
   exact own_p0 hw CC ⟨_, _, X9, e9, N9, Z9, R9, hk9, SS, EA9, VA9, hcl, hrg⟩ hlay (own_pre0 cs)
theorem own_mid1 {p : Program} {e : Env} {s : State} {m : MethodId} {below : List Frame} {meth : Method} {c : Code} {q0 q1 : Int64} {p2 zc : Int32} {fm : Value} {h0 : Heap} {n0 : Nat} {a : Addr} {ka : ClassId} {cs : List Int32} {T9 : State} (hw : own_H a0 Z) (CC : own_C l Z a0 h0 p s m meth c) (B9 : own_T l Z p e s m below meth c q0 q1 p2 zc fm h0 n0 a ka cs T9) {f7 pa8 pb9 k10 c11 zb12 : Int32} {w13 : Slot} (hw13 : w13 = .unset ∨ ∃ z : Int32, w13 = .val (.int z)) (hz : (zb12 = 1 ∧ ∀ q, ¬ own_good cs q) ∨ (zb12 = 0 ∧ own_lay 1 cs)) : own_G p e below (K_0 Z q0 q1 p2 zc fm h0 n0 s) (T9.setTop (mkF m 475 #[vl q0, v2, vl q1, v2, vi p2, vr a, vi 1, vi f7, vi pa8, vi pb9, vi k10, vi c11, vi zb12, w13, vu, vu, vu] [])) := by
 obtain ⟨hx, hby, hml, hown, hZ, hS0, hEL, wSt, heq, hlk, hrt, hh⟩ := id CC
 have hZi := hZ
 obtain ⟨L9, h9, X9, e9, N9, Z9, R9, hk9, SS, EA9, VA9, hcl, hrg⟩ := B9
 show own_G _ _ _ _ (T9.setTop (mkF m 475 #[vl q0, v2, vl q1, v2, vi p2, vr a, vi 1, vi f7, vi pa8, vi pb9, vi k10, vi c11, vi zb12, w13, vu, vu, vu] []))
 rcases hw13 with rfl | ⟨z9, rfl⟩
 ·
  show own_G _ _ _ _ (T9.setTop (mkF m 475 #[vl q0, v2, vl q1, v2, vi p2, vr a, vi 1, vi f7, vi pa8, vi pb9, vi k10, vi c11, vi zb12, vu, vu, vu, vu] []))
  refine own_go (fun _ Kk => XS.iload X9.here hx rfl (hb hby at_475) rfl (XS.ifYes X9.here hx rfl (pc0 := 477) (pc' := 486) rfl (hb hby at_477) rfl ((if0 _ _).trans (by decide)) (by decide) (by decide) (XS.iload X9.here hx rfl (hb hby at_486) rfl (XS.iconst X9.here hx rfl (hb hby at_488) (XS.icmpNo X9.here hx rfl (hb hby at_489) rfl (by decide) Kk))))) ?_
  show own_G _ _ _ _ (T9.setTop (mkF m 492 #[vl q0, v2, vl q1, v2, vi p2, vr a, vi 1, vi f7, vi pa8, vi pb9, vi k10, vi c11, vi zb12, vu, vu, vu, vu] []))
  refine own_go (fun _ Kk => XS.aload X9.here hx rfl (hb hby at_492) rfl rfl (XS.iconst X9.here hx rfl (hb hby at_494) Kk)) ?_
  obtain ⟨cl1, Ar1, -, Sz1, Nn1, Hh1, -⟩ := id VA9
  have hin1 : ¬ ((0 : Int32) < 0 ∨ cl1.slots.size ≤ ((0 : Int32)).toNatClampNeg) := inb_of Sz1 ⟨by decide, own_onl (i := 0) (by rw [hcl]; decide) (by rw [hcl]; decide)⟩
  have hat1 : cl1.slots[((0 : Int32)).toNatClampNeg]? = some (.int (cs.getD 0 0)) := Has.at Hh1 hin1 (own_cg (i := 0) (by rw [hcl]; decide) _)
  refine own_go (X9.caload hx (j := (0 : Int32)) (v := (.int (cs.getD 0 0))) (by rw [e9]; exact Ar1.1) (State.isArrayOf_alike hZ.alike Ar1.2.1) Ar1.2.2 hin1 hat1 (g := (mkF m 495 #[vl q0, v2, vl q1, v2, vi p2, vr a, vi 1, vi f7, vi pa8, vi pb9, vi k10, vi c11, vi zb12, vu, vu, vu, vu] [.int 0, .ref a])) rfl rfl (hb hby at_495)) ?_
  refine own_go (fun _ Kk => XS.bipush X9.here hx rfl (hb hby at_496) Kk) ?_
  by_cases hc498_2 : (cs.getD 0 0) = (45 : Int32)
  ·
   refine own_go (fun _ Kk => XS.icmpNo X9.here hx rfl (hb hby at_498) rfl (teq hc498_2).2 Kk) ?_
   show own_G _ _ _ _ (T9.setTop (mkF m 501 #[vl q0, v2, vl q1, v2, vi p2, vr a, vi 1, vi f7, vi pa8, vi pb9, vi k10, vi c11, vi zb12, vu, vu, vu, vu] []))
   refine own_go (fun _ Kk => XS.iconst X9.here hx rfl (hb hby at_501) (XS.goto X9.here hx rfl (pc0 := 502) (pc' := 506) rfl (hb hby at_502) (by decide) (by decide) (XS.istore X9.here hx rfl (hb hby at_506) rfl (l' := #[vl q0, v2, vl q1, v2, vi p2, vr a, vi 1, vi f7, vi pa8, vi pb9, vi k10, vi c11, vi zb12, vi 1, vu, vu, vu]) rfl (XS.goto X9.here hx rfl (pc0 := 508) (pc' := 537) rfl (hb hby at_508) (by decide) (by decide) Kk)))) ?_
   show own_G _ _ _ _ (T9.setTop (mkF m 537 #[vl q0, v2, vl q1, v2, vi p2, vr a, vi 1, vi f7, vi pa8, vi pb9, vi k10, vi c11, vi zb12, vi 1, vu, vu, vu] []))
   show own_G _ _ _ _ (T9.setTop (mkF m 537 #[vl q0, v2, vl q1, v2, vi p2, vr a, vi 1, vi f7, vi pa8, vi pb9, vi k10, vi c11, vi zb12, vi 1, vu, vu, vu] []))
   rcases hz with ⟨rfl, hno⟩ | ⟨rfl, hlay⟩
   ·
    exact own_neg hw CC ⟨_, _, X9, e9, N9, Z9, R9, hk9, SS, EA9, VA9, hcl, hrg⟩ (Or.inl (by decide)) hno
   ·
    exact own_p1 hw CC ⟨_, _, X9, e9, N9, Z9, R9, hk9, SS, EA9, VA9, hcl, hrg⟩ hlay (own_pre1.mpr hc498_2)
  ·
   refine own_go (fun _ Kk => XS.icmpYes X9.here hx rfl (pc0 := 498) (pc' := 505) rfl (hb hby at_498) rfl (feq hc498_2).2 (by decide) (by decide) Kk) ?_
   show own_G _ _ _ _ (T9.setTop (mkF m 505 #[vl q0, v2, vl q1, v2, vi p2, vr a, vi 1, vi f7, vi pa8, vi pb9, vi k10, vi c11, vi zb12, vu, vu, vu, vu] []))
   refine own_go (fun _ Kk => XS.iconst X9.here hx rfl (hb hby at_505) (XS.istore X9.here hx rfl (hb hby at_506) rfl (l' := #[vl q0, v2, vl q1, v2, vi p2, vr a, vi 1, vi f7, vi pa8, vi pb9, vi k10, vi c11, vi zb12, vi 0, vu, vu, vu]) rfl (XS.goto X9.here hx rfl (pc0 := 508) (pc' := 537) rfl (hb hby at_508) (by decide) (by decide) Kk))) ?_
   show own_G _ _ _ _ (T9.setTop (mkF m 537 #[vl q0, v2, vl q1, v2, vi p2, vr a, vi 1, vi f7, vi pa8, vi pb9, vi k10, vi c11, vi zb12, vi 0, vu, vu, vu] []))
   show own_G _ _ _ _ (T9.setTop (mkF m 537 #[vl q0, v2, vl q1, v2, vi p2, vr a, vi 1, vi f7, vi pa8, vi pb9, vi k10, vi c11, vi zb12, vi 0, vu, vu, vu] []))
   exact own_neg hw CC ⟨_, _, X9, e9, N9, Z9, R9, hk9, SS, EA9, VA9, hcl, hrg⟩ (Or.inr rfl) (hz.elim (fun h => h.2) (fun h => own_lay_bad (by decide) h.2 (mt own_pre1.mp hc498_2)))
 ·
  show own_G _ _ _ _ (T9.setTop (mkF m 475 #[vl q0, v2, vl q1, v2, vi p2, vr a, vi 1, vi f7, vi pa8, vi pb9, vi k10, vi c11, vi zb12, vi z9, vu, vu, vu] []))
  refine own_go (fun _ Kk => XS.iload X9.here hx rfl (hb hby at_475) rfl (XS.ifYes X9.here hx rfl (pc0 := 477) (pc' := 486) rfl (hb hby at_477) rfl ((if0 _ _).trans (by decide)) (by decide) (by decide) (XS.iload X9.here hx rfl (hb hby at_486) rfl (XS.iconst X9.here hx rfl (hb hby at_488) (XS.icmpNo X9.here hx rfl (hb hby at_489) rfl (by decide) Kk))))) ?_
  show own_G _ _ _ _ (T9.setTop (mkF m 492 #[vl q0, v2, vl q1, v2, vi p2, vr a, vi 1, vi f7, vi pa8, vi pb9, vi k10, vi c11, vi zb12, vi z9, vu, vu, vu] []))
  refine own_go (fun _ Kk => XS.aload X9.here hx rfl (hb hby at_492) rfl rfl (XS.iconst X9.here hx rfl (hb hby at_494) Kk)) ?_
  obtain ⟨cl3, Ar3, -, Sz3, Nn3, Hh3, -⟩ := id VA9
  have hin3 : ¬ ((0 : Int32) < 0 ∨ cl3.slots.size ≤ ((0 : Int32)).toNatClampNeg) := inb_of Sz3 ⟨by decide, own_onl (i := 0) (by rw [hcl]; decide) (by rw [hcl]; decide)⟩
  have hat3 : cl3.slots[((0 : Int32)).toNatClampNeg]? = some (.int (cs.getD 0 0)) := Has.at Hh3 hin3 (own_cg (i := 0) (by rw [hcl]; decide) _)
  refine own_go (X9.caload hx (j := (0 : Int32)) (v := (.int (cs.getD 0 0))) (by rw [e9]; exact Ar3.1) (State.isArrayOf_alike hZ.alike Ar3.2.1) Ar3.2.2 hin3 hat3 (g := (mkF m 495 #[vl q0, v2, vl q1, v2, vi p2, vr a, vi 1, vi f7, vi pa8, vi pb9, vi k10, vi c11, vi zb12, vi z9, vu, vu, vu] [.int 0, .ref a])) rfl rfl (hb hby at_495)) ?_
  refine own_go (fun _ Kk => XS.bipush X9.here hx rfl (hb hby at_496) Kk) ?_
  by_cases hc498_4 : (cs.getD 0 0) = (45 : Int32)
  ·
   refine own_go (fun _ Kk => XS.icmpNo X9.here hx rfl (hb hby at_498) rfl (teq hc498_4).2 Kk) ?_
   show own_G _ _ _ _ (T9.setTop (mkF m 501 #[vl q0, v2, vl q1, v2, vi p2, vr a, vi 1, vi f7, vi pa8, vi pb9, vi k10, vi c11, vi zb12, vi z9, vu, vu, vu] []))
   refine own_go (fun _ Kk => XS.iconst X9.here hx rfl (hb hby at_501) (XS.goto X9.here hx rfl (pc0 := 502) (pc' := 506) rfl (hb hby at_502) (by decide) (by decide) (XS.istore X9.here hx rfl (hb hby at_506) rfl (l' := #[vl q0, v2, vl q1, v2, vi p2, vr a, vi 1, vi f7, vi pa8, vi pb9, vi k10, vi c11, vi zb12, vi 1, vu, vu, vu]) rfl (XS.goto X9.here hx rfl (pc0 := 508) (pc' := 537) rfl (hb hby at_508) (by decide) (by decide) Kk)))) ?_
   show own_G _ _ _ _ (T9.setTop (mkF m 537 #[vl q0, v2, vl q1, v2, vi p2, vr a, vi 1, vi f7, vi pa8, vi pb9, vi k10, vi c11, vi zb12, vi 1, vu, vu, vu] []))
   show own_G _ _ _ _ (T9.setTop (mkF m 537 #[vl q0, v2, vl q1, v2, vi p2, vr a, vi 1, vi f7, vi pa8, vi pb9, vi k10, vi c11, vi zb12, vi 1, vu, vu, vu] []))
   rcases hz with ⟨rfl, hno⟩ | ⟨rfl, hlay⟩
   ·
    exact own_neg hw CC ⟨_, _, X9, e9, N9, Z9, R9, hk9, SS, EA9, VA9, hcl, hrg⟩ (Or.inl (by decide)) hno
   ·
    exact own_p1 hw CC ⟨_, _, X9, e9, N9, Z9, R9, hk9, SS, EA9, VA9, hcl, hrg⟩ hlay (own_pre1.mpr hc498_4)
  ·
   refine own_go (fun _ Kk => XS.icmpYes X9.here hx rfl (pc0 := 498) (pc' := 505) rfl (hb hby at_498) rfl (feq hc498_4).2 (by decide) (by decide) Kk) ?_
   show own_G _ _ _ _ (T9.setTop (mkF m 505 #[vl q0, v2, vl q1, v2, vi p2, vr a, vi 1, vi f7, vi pa8, vi pb9, vi k10, vi c11, vi zb12, vi z9, vu, vu, vu] []))
   refine own_go (fun _ Kk => XS.iconst X9.here hx rfl (hb hby at_505) (XS.istore X9.here hx rfl (hb hby at_506) rfl (l' := #[vl q0, v2, vl q1, v2, vi p2, vr a, vi 1, vi f7, vi pa8, vi pb9, vi k10, vi c11, vi zb12, vi 0, vu, vu, vu]) rfl (XS.goto X9.here hx rfl (pc0 := 508) (pc' := 537) rfl (hb hby at_508) (by decide) (by decide) Kk))) ?_
   show own_G _ _ _ _ (T9.setTop (mkF m 537 #[vl q0, v2, vl q1, v2, vi p2, vr a, vi 1, vi f7, vi pa8, vi pb9, vi k10, vi c11, vi zb12, vi 0, vu, vu, vu] []))
   show own_G _ _ _ _ (T9.setTop (mkF m 537 #[vl q0, v2, vl q1, v2, vi p2, vr a, vi 1, vi f7, vi pa8, vi pb9, vi k10, vi c11, vi zb12, vi 0, vu, vu, vu] []))
   exact own_neg hw CC ⟨_, _, X9, e9, N9, Z9, R9, hk9, SS, EA9, VA9, hcl, hrg⟩ (Or.inr rfl) (hz.elim (fun h => h.2) (fun h => own_lay_bad (by decide) h.2 (mt own_pre1.mp hc498_4)))
theorem own_pd45 : parseMethodDescriptor "(C)Z" = some ⟨[.char], some .boolean⟩ := by decide +kernel
theorem own_mid2 {p : Program} {e : Env} {s : State} {m : MethodId} {below : List Frame} {meth : Method} {c : Code} {q0 q1 : Int64} {p2 zc : Int32} {fm : Value} {h0 : Heap} {n0 : Nat} {a : Addr} {ka : ClassId} {cs : List Int32} {T9 : State} (hw : own_H a0 Z) (CC : own_C l Z a0 h0 p s m meth c) (B9 : own_T l Z p e s m below meth c q0 q1 p2 zc fm h0 n0 a ka cs T9) {f7 pa8 pb9 k10 c11 zb12 : Int32} {w13 : Slot} (hw13 : w13 = .unset ∨ ∃ z : Int32, w13 = .val (.int z)) (hz : (zb12 = 1 ∧ ∀ q, ¬ own_good cs q) ∨ (zb12 = 0 ∧ own_lay 2 cs)) : own_G p e below (K_0 Z q0 q1 p2 zc fm h0 n0 s) (T9.setTop (mkF m 475 #[vl q0, v2, vl q1, v2, vi p2, vr a, vi 2, vi f7, vi pa8, vi pb9, vi k10, vi c11, vi zb12, w13, vu, vu, vu] [])) := by
 obtain ⟨hx, hby, hml, hown, hZ, hS0, hEL, wSt, heq, hlk, hrt, hh⟩ := id CC
 have hZi := hZ
 obtain ⟨L9, h9, X9, e9, N9, Z9, R9, hk9, SS, EA9, VA9, hcl, hrg⟩ := B9
 show own_G _ _ _ _ (T9.setTop (mkF m 475 #[vl q0, v2, vl q1, v2, vi p2, vr a, vi 2, vi f7, vi pa8, vi pb9, vi k10, vi c11, vi zb12, w13, vu, vu, vu] []))
 rcases hw13 with rfl | ⟨z9, rfl⟩
 ·
  show own_G _ _ _ _ (T9.setTop (mkF m 475 #[vl q0, v2, vl q1, v2, vi p2, vr a, vi 2, vi f7, vi pa8, vi pb9, vi k10, vi c11, vi zb12, vu, vu, vu, vu] []))
  refine own_go (fun _ Kk => XS.iload X9.here hx rfl (hb hby at_475) rfl (XS.ifYes X9.here hx rfl (pc0 := 477) (pc' := 486) rfl (hb hby at_477) rfl ((if0 _ _).trans (by decide)) (by decide) (by decide) (XS.iload X9.here hx rfl (hb hby at_486) rfl (XS.iconst X9.here hx rfl (hb hby at_488) (XS.icmpYes X9.here hx rfl (pc0 := 489) (pc' := 511) rfl (hb hby at_489) rfl (by decide) (by decide) (by decide) Kk))))) ?_
  show own_G _ _ _ _ (T9.setTop (mkF m 511 #[vl q0, v2, vl q1, v2, vi p2, vr a, vi 2, vi f7, vi pa8, vi pb9, vi k10, vi c11, vi zb12, vu, vu, vu, vu] []))
  refine own_go (fun _ Kk => XS.aload X9.here hx rfl (hb hby at_511) rfl rfl (XS.iconst X9.here hx rfl (hb hby at_513) Kk)) ?_
  obtain ⟨cl1, Ar1, -, Sz1, Nn1, Hh1, -⟩ := id VA9
  have hin1 : ¬ ((1 : Int32) < 0 ∨ cl1.slots.size ≤ ((1 : Int32)).toNatClampNeg) := inb_of Sz1 ⟨by decide, own_onl (i := 1) (by rw [hcl]; decide) (by rw [hcl]; decide)⟩
  have hat1 : cl1.slots[((1 : Int32)).toNatClampNeg]? = some (.int (cs.getD 1 0)) := Has.at Hh1 hin1 (own_cg (i := 1) (by rw [hcl]; decide) _)
  refine own_go (X9.caload hx (j := (1 : Int32)) (v := (.int (cs.getD 1 0))) (by rw [e9]; exact Ar1.1) (State.isArrayOf_alike hZ.alike Ar1.2.1) Ar1.2.2 hin1 hat1 (g := (mkF m 514 #[vl q0, v2, vl q1, v2, vi p2, vr a, vi 2, vi f7, vi pa8, vi pb9, vi k10, vi c11, vi zb12, vu, vu, vu, vu] [.int 1, .ref a])) rfl rfl (hb hby at_514)) ?_
  refine own_go (fun _ Kk => XS.bipush X9.here hx rfl (hb hby at_515) Kk) ?_
  by_cases hc517_2 : (cs.getD 1 0) = (45 : Int32)
  ·
   refine own_go (fun _ Kk => XS.icmpNo X9.here hx rfl (hb hby at_517) rfl (teq hc517_2).2 Kk) ?_
   show own_G _ _ _ _ (T9.setTop (mkF m 520 #[vl q0, v2, vl q1, v2, vi p2, vr a, vi 2, vi f7, vi pa8, vi pb9, vi k10, vi c11, vi zb12, vu, vu, vu, vu] []))
   refine own_go (fun _ Kk => XS.aload X9.here hx rfl (hb hby at_520) rfl rfl (XS.iconst X9.here hx rfl (hb hby at_522) Kk)) ?_
   obtain ⟨cl3, Ar3, -, Sz3, Nn3, Hh3, -⟩ := id VA9
   have hin3 : ¬ ((0 : Int32) < 0 ∨ cl3.slots.size ≤ ((0 : Int32)).toNatClampNeg) := inb_of Sz3 ⟨by decide, own_onl (i := 0) (by rw [hcl]; decide) (by rw [hcl]; decide)⟩
   have hat3 : cl3.slots[((0 : Int32)).toNatClampNeg]? = some (.int (cs.getD 0 0)) := Has.at Hh3 hin3 (own_cg (i := 0) (by rw [hcl]; decide) _)
   refine own_go (X9.caload hx (j := (0 : Int32)) (v := (.int (cs.getD 0 0))) (by rw [e9]; exact Ar3.1) (State.isArrayOf_alike hZ.alike Ar3.2.1) Ar3.2.2 hin3 hat3 (g := (mkF m 523 #[vl q0, v2, vl q1, v2, vi p2, vr a, vi 2, vi f7, vi pa8, vi pb9, vi k10, vi c11, vi zb12, vu, vu, vu, vu] [.int 0, .ref a])) rfl rfl (hb hby at_523)) ?_
   refine own_cS X9 hx hZ 0 hown (hw 267 rfl) (hw 268 rfl) (hw 3 rfl) (hw 269 rfl) (rm_term hw (cs.getD 0 0) h9 n0 Z9 ) e9 own_pd45 rfl (hb hby at_524) hml ?_
   rintro _ T4 _ _ X4 l4 ⟨z4, rfl, N4q, e4, x4_0⟩
   have N4 := own_frl l4 N9 N4q
   show own_G _ _ _ _ (T4.setTop (mkF m 527 #[vl q0, v2, vl q1, v2, vi p2, vr a, vi 2, vi f7, vi pa8, vi pb9, vi k10, vi c11, vi zb12, vu, vu, vu, vu] [.int z4]))
   rcases x4_0 with ⟨rfl, htm⟩ | ⟨rfl, htm⟩
   ·
    show own_G _ _ _ _ (T4.setTop (mkF m 527 #[vl q0, v2, vl q1, v2, vi p2, vr a, vi 2, vi f7, vi pa8, vi pb9, vi k10, vi c11, vi zb12, vu, vu, vu, vu] [.int 1]))
    refine own_go (fun _ Kk => XS.ifYes X4.here hx rfl (pc0 := 527) (pc' := 534) rfl (hb hby at_527) rfl ((if0 _ _).trans (by decide)) (by decide) (by decide) (XS.iconst X4.here hx rfl (hb hby at_534) (XS.istore X4.here hx rfl (hb hby at_535) rfl (l' := #[vl q0, v2, vl q1, v2, vi p2, vr a, vi 2, vi f7, vi pa8, vi pb9, vi k10, vi c11, vi zb12, vi 0, vu, vu, vu]) rfl Kk))) ?_
    show own_G _ _ _ _ (T4.setTop (mkF m 537 #[vl q0, v2, vl q1, v2, vi p2, vr a, vi 2, vi f7, vi pa8, vi pb9, vi k10, vi c11, vi zb12, vi 0, vu, vu, vu] []))
    show own_G _ _ _ _ (T4.setTop (mkF m 537 #[vl q0, v2, vl q1, v2, vi p2, vr a, vi 2, vi f7, vi pa8, vi pb9, vi k10, vi c11, vi zb12, vi 0, vu, vu, vu] []))
    exact own_neg hw CC ⟨_, _, X4, e4, N4, Z9, R9, hk9, SS, EA9, VA9, hcl, hrg⟩ (Or.inr rfl) (hz.elim (fun h => h.2) (fun h => own_lay_bad (by decide) h.2 (fun z => (own_pre2.mp z).2 htm)))
   ·
    show own_G _ _ _ _ (T4.setTop (mkF m 527 #[vl q0, v2, vl q1, v2, vi p2, vr a, vi 2, vi f7, vi pa8, vi pb9, vi k10, vi c11, vi zb12, vu, vu, vu, vu] [.int 0]))
    refine own_go (fun _ Kk => XS.ifNo X4.here hx rfl (hb hby at_527) rfl ((if0 _ _).trans (by decide)) (XS.iconst X4.here hx rfl (hb hby at_530) (XS.goto X4.here hx rfl (pc0 := 531) (pc' := 535) rfl (hb hby at_531) (by decide) (by decide) (XS.istore X4.here hx rfl (hb hby at_535) rfl (l' := #[vl q0, v2, vl q1, v2, vi p2, vr a, vi 2, vi f7, vi pa8, vi pb9, vi k10, vi c11, vi zb12, vi 1, vu, vu, vu]) rfl Kk)))) ?_
    show own_G _ _ _ _ (T4.setTop (mkF m 537 #[vl q0, v2, vl q1, v2, vi p2, vr a, vi 2, vi f7, vi pa8, vi pb9, vi k10, vi c11, vi zb12, vi 1, vu, vu, vu] []))
    show own_G _ _ _ _ (T4.setTop (mkF m 537 #[vl q0, v2, vl q1, v2, vi p2, vr a, vi 2, vi f7, vi pa8, vi pb9, vi k10, vi c11, vi zb12, vi 1, vu, vu, vu] []))
    rcases hz with ⟨rfl, hno⟩ | ⟨rfl, hlay⟩
    ·
     exact own_neg hw CC ⟨_, _, X4, e4, N4, Z9, R9, hk9, SS, EA9, VA9, hcl, hrg⟩ (Or.inl (by decide)) hno
    ·
     by_cases hgt : (255 : Int32) < cs.getD 0 0
     ·
      exact own_p2w hw CC ⟨_, _, X4, e4, N4, Z9, R9, hk9, SS, EA9, VA9, hcl, hrg⟩ hlay (own_pre2.mpr ⟨hc517_2, htm⟩) hgt
     ·
      exact own_p2 hw CC ⟨_, _, X4, e4, N4, Z9, R9, hk9, SS, EA9, VA9, hcl, hrg⟩ hlay (own_pre2.mpr ⟨hc517_2, htm⟩) hgt
  ·
   refine own_go (fun _ Kk => XS.icmpYes X9.here hx rfl (pc0 := 517) (pc' := 534) rfl (hb hby at_517) rfl (feq hc517_2).2 (by decide) (by decide) Kk) ?_
   show own_G _ _ _ _ (T9.setTop (mkF m 534 #[vl q0, v2, vl q1, v2, vi p2, vr a, vi 2, vi f7, vi pa8, vi pb9, vi k10, vi c11, vi zb12, vu, vu, vu, vu] []))
   refine own_go (fun _ Kk => XS.iconst X9.here hx rfl (hb hby at_534) (XS.istore X9.here hx rfl (hb hby at_535) rfl (l' := #[vl q0, v2, vl q1, v2, vi p2, vr a, vi 2, vi f7, vi pa8, vi pb9, vi k10, vi c11, vi zb12, vi 0, vu, vu, vu]) rfl Kk)) ?_
   show own_G _ _ _ _ (T9.setTop (mkF m 537 #[vl q0, v2, vl q1, v2, vi p2, vr a, vi 2, vi f7, vi pa8, vi pb9, vi k10, vi c11, vi zb12, vi 0, vu, vu, vu] []))
   show own_G _ _ _ _ (T9.setTop (mkF m 537 #[vl q0, v2, vl q1, v2, vi p2, vr a, vi 2, vi f7, vi pa8, vi pb9, vi k10, vi c11, vi zb12, vi 0, vu, vu, vu] []))
   exact own_neg hw CC ⟨_, _, X9, e9, N9, Z9, R9, hk9, SS, EA9, VA9, hcl, hrg⟩ (Or.inr rfl) (hz.elim (fun h => h.2) (fun h => own_lay_bad (by decide) h.2 (fun z => hc517_2 (own_pre2.mp z).1)))
 ·
  show own_G _ _ _ _ (T9.setTop (mkF m 475 #[vl q0, v2, vl q1, v2, vi p2, vr a, vi 2, vi f7, vi pa8, vi pb9, vi k10, vi c11, vi zb12, vi z9, vu, vu, vu] []))
  refine own_go (fun _ Kk => XS.iload X9.here hx rfl (hb hby at_475) rfl (XS.ifYes X9.here hx rfl (pc0 := 477) (pc' := 486) rfl (hb hby at_477) rfl ((if0 _ _).trans (by decide)) (by decide) (by decide) (XS.iload X9.here hx rfl (hb hby at_486) rfl (XS.iconst X9.here hx rfl (hb hby at_488) (XS.icmpYes X9.here hx rfl (pc0 := 489) (pc' := 511) rfl (hb hby at_489) rfl (by decide) (by decide) (by decide) Kk))))) ?_
  show own_G _ _ _ _ (T9.setTop (mkF m 511 #[vl q0, v2, vl q1, v2, vi p2, vr a, vi 2, vi f7, vi pa8, vi pb9, vi k10, vi c11, vi zb12, vi z9, vu, vu, vu] []))
  refine own_go (fun _ Kk => XS.aload X9.here hx rfl (hb hby at_511) rfl rfl (XS.iconst X9.here hx rfl (hb hby at_513) Kk)) ?_
  obtain ⟨cl5, Ar5, -, Sz5, Nn5, Hh5, -⟩ := id VA9
  have hin5 : ¬ ((1 : Int32) < 0 ∨ cl5.slots.size ≤ ((1 : Int32)).toNatClampNeg) := inb_of Sz5 ⟨by decide, own_onl (i := 1) (by rw [hcl]; decide) (by rw [hcl]; decide)⟩
  have hat5 : cl5.slots[((1 : Int32)).toNatClampNeg]? = some (.int (cs.getD 1 0)) := Has.at Hh5 hin5 (own_cg (i := 1) (by rw [hcl]; decide) _)
  refine own_go (X9.caload hx (j := (1 : Int32)) (v := (.int (cs.getD 1 0))) (by rw [e9]; exact Ar5.1) (State.isArrayOf_alike hZ.alike Ar5.2.1) Ar5.2.2 hin5 hat5 (g := (mkF m 514 #[vl q0, v2, vl q1, v2, vi p2, vr a, vi 2, vi f7, vi pa8, vi pb9, vi k10, vi c11, vi zb12, vi z9, vu, vu, vu] [.int 1, .ref a])) rfl rfl (hb hby at_514)) ?_
  refine own_go (fun _ Kk => XS.bipush X9.here hx rfl (hb hby at_515) Kk) ?_
  by_cases hc517_6 : (cs.getD 1 0) = (45 : Int32)
  ·
   refine own_go (fun _ Kk => XS.icmpNo X9.here hx rfl (hb hby at_517) rfl (teq hc517_6).2 Kk) ?_
   show own_G _ _ _ _ (T9.setTop (mkF m 520 #[vl q0, v2, vl q1, v2, vi p2, vr a, vi 2, vi f7, vi pa8, vi pb9, vi k10, vi c11, vi zb12, vi z9, vu, vu, vu] []))
   refine own_go (fun _ Kk => XS.aload X9.here hx rfl (hb hby at_520) rfl rfl (XS.iconst X9.here hx rfl (hb hby at_522) Kk)) ?_
   obtain ⟨cl7, Ar7, -, Sz7, Nn7, Hh7, -⟩ := id VA9
   have hin7 : ¬ ((0 : Int32) < 0 ∨ cl7.slots.size ≤ ((0 : Int32)).toNatClampNeg) := inb_of Sz7 ⟨by decide, own_onl (i := 0) (by rw [hcl]; decide) (by rw [hcl]; decide)⟩
   have hat7 : cl7.slots[((0 : Int32)).toNatClampNeg]? = some (.int (cs.getD 0 0)) := Has.at Hh7 hin7 (own_cg (i := 0) (by rw [hcl]; decide) _)
   refine own_go (X9.caload hx (j := (0 : Int32)) (v := (.int (cs.getD 0 0))) (by rw [e9]; exact Ar7.1) (State.isArrayOf_alike hZ.alike Ar7.2.1) Ar7.2.2 hin7 hat7 (g := (mkF m 523 #[vl q0, v2, vl q1, v2, vi p2, vr a, vi 2, vi f7, vi pa8, vi pb9, vi k10, vi c11, vi zb12, vi z9, vu, vu, vu] [.int 0, .ref a])) rfl rfl (hb hby at_523)) ?_
   refine own_cS X9 hx hZ 0 hown (hw 267 rfl) (hw 268 rfl) (hw 3 rfl) (hw 269 rfl) (rm_term hw (cs.getD 0 0) h9 n0 Z9 ) e9 own_pd45 rfl (hb hby at_524) hml ?_
   rintro _ T8 _ _ X8 l8 ⟨z8, rfl, N8q, e8, x8_0⟩
   have N8 := own_frl l8 N9 N8q
   show own_G _ _ _ _ (T8.setTop (mkF m 527 #[vl q0, v2, vl q1, v2, vi p2, vr a, vi 2, vi f7, vi pa8, vi pb9, vi k10, vi c11, vi zb12, vi z9, vu, vu, vu] [.int z8]))
   rcases x8_0 with ⟨rfl, htm⟩ | ⟨rfl, htm⟩
   ·
    show own_G _ _ _ _ (T8.setTop (mkF m 527 #[vl q0, v2, vl q1, v2, vi p2, vr a, vi 2, vi f7, vi pa8, vi pb9, vi k10, vi c11, vi zb12, vi z9, vu, vu, vu] [.int 1]))
    refine own_go (fun _ Kk => XS.ifYes X8.here hx rfl (pc0 := 527) (pc' := 534) rfl (hb hby at_527) rfl ((if0 _ _).trans (by decide)) (by decide) (by decide) (XS.iconst X8.here hx rfl (hb hby at_534) (XS.istore X8.here hx rfl (hb hby at_535) rfl (l' := #[vl q0, v2, vl q1, v2, vi p2, vr a, vi 2, vi f7, vi pa8, vi pb9, vi k10, vi c11, vi zb12, vi 0, vu, vu, vu]) rfl Kk))) ?_
    show own_G _ _ _ _ (T8.setTop (mkF m 537 #[vl q0, v2, vl q1, v2, vi p2, vr a, vi 2, vi f7, vi pa8, vi pb9, vi k10, vi c11, vi zb12, vi 0, vu, vu, vu] []))
    show own_G _ _ _ _ (T8.setTop (mkF m 537 #[vl q0, v2, vl q1, v2, vi p2, vr a, vi 2, vi f7, vi pa8, vi pb9, vi k10, vi c11, vi zb12, vi 0, vu, vu, vu] []))
    exact own_neg hw CC ⟨_, _, X8, e8, N8, Z9, R9, hk9, SS, EA9, VA9, hcl, hrg⟩ (Or.inr rfl) (hz.elim (fun h => h.2) (fun h => own_lay_bad (by decide) h.2 (fun z => (own_pre2.mp z).2 htm)))
   ·
    show own_G _ _ _ _ (T8.setTop (mkF m 527 #[vl q0, v2, vl q1, v2, vi p2, vr a, vi 2, vi f7, vi pa8, vi pb9, vi k10, vi c11, vi zb12, vi z9, vu, vu, vu] [.int 0]))
    refine own_go (fun _ Kk => XS.ifNo X8.here hx rfl (hb hby at_527) rfl ((if0 _ _).trans (by decide)) (XS.iconst X8.here hx rfl (hb hby at_530) (XS.goto X8.here hx rfl (pc0 := 531) (pc' := 535) rfl (hb hby at_531) (by decide) (by decide) (XS.istore X8.here hx rfl (hb hby at_535) rfl (l' := #[vl q0, v2, vl q1, v2, vi p2, vr a, vi 2, vi f7, vi pa8, vi pb9, vi k10, vi c11, vi zb12, vi 1, vu, vu, vu]) rfl Kk)))) ?_
    show own_G _ _ _ _ (T8.setTop (mkF m 537 #[vl q0, v2, vl q1, v2, vi p2, vr a, vi 2, vi f7, vi pa8, vi pb9, vi k10, vi c11, vi zb12, vi 1, vu, vu, vu] []))
    show own_G _ _ _ _ (T8.setTop (mkF m 537 #[vl q0, v2, vl q1, v2, vi p2, vr a, vi 2, vi f7, vi pa8, vi pb9, vi k10, vi c11, vi zb12, vi 1, vu, vu, vu] []))
    rcases hz with ⟨rfl, hno⟩ | ⟨rfl, hlay⟩
    ·
     exact own_neg hw CC ⟨_, _, X8, e8, N8, Z9, R9, hk9, SS, EA9, VA9, hcl, hrg⟩ (Or.inl (by decide)) hno
    ·
     by_cases hgt : (255 : Int32) < cs.getD 0 0
     ·
      exact own_p2w hw CC ⟨_, _, X8, e8, N8, Z9, R9, hk9, SS, EA9, VA9, hcl, hrg⟩ hlay (own_pre2.mpr ⟨hc517_6, htm⟩) hgt
     ·
      exact own_p2 hw CC ⟨_, _, X8, e8, N8, Z9, R9, hk9, SS, EA9, VA9, hcl, hrg⟩ hlay (own_pre2.mpr ⟨hc517_6, htm⟩) hgt
  ·
   refine own_go (fun _ Kk => XS.icmpYes X9.here hx rfl (pc0 := 517) (pc' := 534) rfl (hb hby at_517) rfl (feq hc517_6).2 (by decide) (by decide) Kk) ?_
   show own_G _ _ _ _ (T9.setTop (mkF m 534 #[vl q0, v2, vl q1, v2, vi p2, vr a, vi 2, vi f7, vi pa8, vi pb9, vi k10, vi c11, vi zb12, vi z9, vu, vu, vu] []))
   refine own_go (fun _ Kk => XS.iconst X9.here hx rfl (hb hby at_534) (XS.istore X9.here hx rfl (hb hby at_535) rfl (l' := #[vl q0, v2, vl q1, v2, vi p2, vr a, vi 2, vi f7, vi pa8, vi pb9, vi k10, vi c11, vi zb12, vi 0, vu, vu, vu]) rfl Kk)) ?_
   show own_G _ _ _ _ (T9.setTop (mkF m 537 #[vl q0, v2, vl q1, v2, vi p2, vr a, vi 2, vi f7, vi pa8, vi pb9, vi k10, vi c11, vi zb12, vi 0, vu, vu, vu] []))
   show own_G _ _ _ _ (T9.setTop (mkF m 537 #[vl q0, v2, vl q1, v2, vi p2, vr a, vi 2, vi f7, vi pa8, vi pb9, vi k10, vi c11, vi zb12, vi 0, vu, vu, vu] []))
   exact own_neg hw CC ⟨_, _, X9, e9, N9, Z9, R9, hk9, SS, EA9, VA9, hcl, hrg⟩ (Or.inr rfl) (hz.elim (fun h => h.2) (fun h => own_lay_bad (by decide) h.2 (fun z => hc517_6 (own_pre2.mp z).1)))
theorem own_n3' (X : Int64) : ∃ nn : Nat, nn ≤ 2 ∧ (X &&& (3 : Int64)).toInt32 % (3 : Int32) = Int32.ofNat nn := by
  rcases own_n3 X with h | h | h
  · exact ⟨0, by decide, h⟩
  · exact ⟨1, by decide, h⟩
  · exact ⟨2, by decide, h⟩
theorem own_le2 {n : Nat} (h : n ≤ 2) : n = 0 ∨ n = 1 ∨ n = 2 := by omega
theorem own_nib {n : Nat} (h : n ≤ 2) (k : Nat) (hk : k ≤ 17) : n + k ≤ 10000 := by omega
theorem own_nil {n : Nat} (h : n ≤ 2) (k : Nat) (hk : k ≤ 17) : n + k < 20 := by omega
theorem own_nin {n : Nat} (h : n ≤ 2) (k : Nat) (hk : k ≤ 17) : ¬ Int32.ofNat (n + k) < 0 ∧ Int32.ofNat (n + k) < (20 : Int32) := ⟨own_onn _ (by omega), (own_ltn (b := 20) (by omega) (by omega)).mpr (by omega)⟩
end Jvm.Pilot.@@N@@
namespace Jvm.Pilot.@@N@@
open Jvm Jvm.ClassFile Sem Op Lib Jvm.Free Jvm.Stand Jvm.LawKit Jvm.RoadKit Bundle Jvm.Pilot.@@N@@.Jvm.D
set_option maxRecDepth 65536
set_option maxHeartbeats 40000000
variable {l : Launch} {Z : State} {a0 : Array Value}
theorem own_pd46 : parseMethodDescriptor "(JI)C" = some ⟨[.long, .int], some .char⟩ := by decide +kernel
theorem ef0 (m : MethodId) (q0 : Int64) (q1 : Int64) (p2 : Int32) : entryFrame m #[(.long q0), (.long q1), (.int p2)] maxLocals = mkF m 0 #[.val (.long q0), .second, .val (.long q1), .second, .val (.int p2), .unset, .unset, .unset, .unset, .unset, .unset, .unset, .unset, .unset, .unset, .unset, .unset] [] := by first | (simp [entryFrame, mkF, argsToLocals, Value.category, maxLocals]; done) | rfl | (cases fm <;> first | rfl | (simp [Value.isRef] at hfm; done))
theorem rm_0 (l : Launch) (Z : State) (a0 : Array Value) (hw : own_H a0 Z) (ws : List Jvm.Cond) (q0 : Int64) (q1 : Int64) (p2 : Int32) (zc : Int32) (fm : Value) (h0 : Heap) (n0 : Nat) (Z0 : n0 ≤ h0.size) (SS : own_St Z h0 zc fm) :
  MetFree l x (head1 (Jvm.Cond.code x code maxLocals ret :: ws) room_1) (fun a U => a = #[(.long q0), (.long q1), (.int p2)] ∧ Z.Warmed39 U.vm ∧ U.heap = h0 ∧ CHv Z consts_1 U.vm h0) (fun _ _ _ _ _ => True) (fun _ U o U' => ∃ v L, o = .returned v ∧ Q_0 Z q0 q1 p2 zc fm h0 n0 v U'.heap L ∧ CHr Z consts_1 U.vm U.heap U'.vm U'.heap ∧ ReturnedEndW U o U' L room_1.cells room_1.slots) := by
 refine MetFree.of_bodySF (plainFor_of_name own_pn9) hisR ?_
 intro p e s m args below meth c s₁ Bd hml0 hP hK
 obtain ⟨rfl, hZ, hh, hC⟩ := hP
 have hx := Bd.exec
 have hby := Bd.bytes
 have hml : c.maxLocals = 17 := hml0
 have hown : s.vm.findClass "com/example/lodepath/lodepath/MavenVersionBaseVersionPinLaw" = some m.cls := findClass_of_methodNamed Bd.named
 have hnm := (name_of_methodNamed Bd.named Bd.method).1
 have X0 : Stand p l e room_1 (s.setVm s.vm) m #[(.long q0), (.long q1), (.int p2)] below meth c s₁ [] 0 0 := Stand.of_body Bd
 have e0 : s₁.heap = h0 := by rw [← hh, Bd.state]; rfl
 have N0 := Fr.nil n0
 show own_G p e below (K_0 Z q0 q1 p2 zc fm h0 n0 s) (s₁.setTop (entryFrame m #[(.long q0), (.long q1), (.int p2)] maxLocals))
 refine own_cast (ef0 m q0 q1 p2) ?_
 have hZ : Z.Warmed39 (s.setVm s.vm).vm := hZ
 have hZi := hZ
 have hown : (s.setVm s.vm).vm.findClass "com/example/lodepath/lodepath/MavenVersionBaseVersionPinLaw" = some m.cls := hown
 have hS0 : s.Since s.vm s.heap.size := own_since s
 have hk0 : s.heap.size ≤ h0.size := Nat.le_of_eq (by rw [hh])
 have R0 := CHr.refl hC
 have hEL : EW Z a0 consts_1 := own_EW hw
 have wSt : ∀ a ∈ Bundle.stringAtoms, a.before a0 Z = true := own_wSt (own_hm hw)
 have heq : ∀ d ∈ StrChars.Road.wordsEq, d.before a0 Z = true := fun d hd => own_hm hw d ((by decide +kernel : ∀ d ∈ StrChars.Road.wordsEq, d ∈ tables_1) d hd)
 have CC : own_C l Z a0 h0 p s m meth c := ⟨hx, hby, hml, hown, hZ, hS0, hEL, wSt, heq, Bd.notSynchronized, Bd.returns, hh⟩
 show own_G _ _ _ _ (s₁.setTop (mkF m 0 #[vl q0, v2, vl q1, v2, vi p2, vu, vu, vu, vu, vu, vu, vu, vu, vu, vu, vu, vu] []))
 refine own_go (fun _ Kk => XS.bipush X0.here hx rfl (hb hby at_0) Kk) ?_
 obtain ⟨T1, h1, k1, X1, e1, E1, A1, B1, st1⟩ := newPE X0 hx hZ (hw 0 rfl) e0 (g := (mkF m 2 #[vl q0, v2, vl q1, v2, vi p2, vu, vu, vu, vu, vu, vu, vu, vu, vu, vu, vu, vu] [.int 20])) rfl (hb hby at_2) rfl (by decide) (cap := 20) (by decide) (by decide) (by decide) (by decide) (ad := "[C") (by decide)
 obtain ⟨b1, g1⟩ : ∃ z, z = h0.size := ⟨_, rfl⟩
 rw [← g1] at A1 B1 st1
 refine own_go st1 ?_
 have g_b1 : n0 ≤ b1 := Nat.le_trans Z0 (Nat.le_of_eq g1.symm)
 have V1 : Arv Z h1 b1 k1 .char (20 : Int32) [(.int (0 : Int32)), (.int (0 : Int32)), (.int (0 : Int32)), (.int (0 : Int32)), (.int (0 : Int32)), (.int (0 : Int32)), (.int (0 : Int32)), (.int (0 : Int32)), (.int (0 : Int32)), (.int (0 : Int32)), (.int (0 : Int32)), (.int (0 : Int32)), (.int (0 : Int32)), (.int (0 : Int32)), (.int (0 : Int32)), (.int (0 : Int32)), (.int (0 : Int32)), (.int (0 : Int32)), (.int (0 : Int32)), (.int (0 : Int32))] (.int (0 : Int32)) := (Arv.new A1 (by decide)).pad (pad_rep [] (.int (0 : Int32)) 20)
 have R2 := CHr.trans R0 (CHr.ext E1 R0.1)
 have hk2 := Nat.le_trans hk0 E1.1
 have Z3 : n0 ≤ h1.size := Nat.le_trans Z0 E1.1
 refine own_go (fun _ Kk => XS.astore X1.here hx rfl (hb hby at_4) rfl rfl (l' := #[vl q0, v2, vl q1, v2, vi p2, vr b1, vu, vu, vu, vu, vu, vu, vu, vu, vu, vu, vu]) rfl (XS.aload X1.here hx rfl (hb hby at_6) rfl rfl (XS.bipush X1.here hx rfl (hb hby at_8) Kk))) ?_
 show own_G _ _ _ _ (T1.setTop (mkF m 10 #[vl q0, v2, vl q1, v2, vi p2, vr b1, vu, vu, vu, vu, vu, vu, vu, vu, vu, vu, vu] [.int 16, .ref b1]))
 refine own_go (fun _ Kk => XS.lloadN X1.here hx rfl (hb hby at_10) rfl (XS.iconst X1.here hx rfl (hb hby at_11) Kk)) ?_
 refine own_cS X1 hx hZ 2 hown (hw 1 rfl) (hw 2 rfl) (hw 3 rfl) (hw 4 rfl) (rm_dig hw q1 (0 : Int32) h1 n0 Z3 ) e1 own_pd46 rfl (hb hby at_12) hml ?_
 rintro _ T4 _ _ X4 l4 ⟨z4, rfl, N4q, e4, x4_0⟩
 have N4 := own_frl l4 N0 N4q
 refine own_sC X4 hx hZ e4 V1 rfl (own_drg x4_0) 16 rfl (by decide) ⟨by decide, by decide⟩ N4 g_b1 B1 R2 hk2 Z3 (hb hby at_15) ?_
 intro T5 h5 u5 L5 X5 e5 hu5 V5 lu5 N5 R5 hk5 Z5 B5 W5
 refine own_go (fun _ Kk => XS.aload X5.here hx rfl (hb hby at_16) rfl rfl Kk) ?_
 show own_G _ _ _ _ (T5.setTop (mkF m 18 #[vl q0, v2, vl q1, v2, vi p2, vr b1, vu, vu, vu, vu, vu, vu, vu, vu, vu, vu, vu] [.ref b1]))
 refine own_go (fun _ Kk => XS.bipush X5.here hx rfl (hb hby at_18) (XS.lloadN X5.here hx rfl (hb hby at_20) rfl (XS.iconst X5.here hx rfl (hb hby at_21) Kk))) ?_
 refine own_cS X5 hx hZ 2 hown (hw 1 rfl) (hw 2 rfl) (hw 3 rfl) (hw 4 rfl) (rm_dig hw q1 (4 : Int32) h5 n0 Z5 ) e5 own_pd46 rfl (hb hby at_22) hml ?_
 rintro _ T6 _ _ X6 l6 ⟨z6, rfl, N6q, e6, x6_0⟩
 have N6 := own_frl l6 N5 N6q
 refine own_sC X6 hx hZ e6 V5 lu5 (own_drg x6_0) 17 rfl (by decide) ⟨by decide, by decide⟩ N6 g_b1 B5 R5 hk5 Z5 (hb hby at_25) ?_
 intro T7 h7 u7 L7 X7 e7 hu7 V7 lu7 N7 R7 hk7 Z7 B7 W7
 show own_G _ _ _ _ (T7.setTop (mkF m 26 #[vl q0, v2, vl q1, v2, vi p2, vr b1, vu, vu, vu, vu, vu, vu, vu, vu, vu, vu, vu] []))
 refine own_go (fun _ Kk => XS.aload X7.here hx rfl (hb hby at_26) rfl rfl (XS.bipush X7.here hx rfl (hb hby at_28) (XS.lloadN X7.here hx rfl (hb hby at_30) rfl (XS.bipush X7.here hx rfl (hb hby at_31) Kk)))) ?_
 refine own_cS X7 hx hZ 2 hown (hw 1 rfl) (hw 2 rfl) (hw 3 rfl) (hw 4 rfl) (rm_dig hw q1 (8 : Int32) h7 n0 Z7 ) e7 own_pd46 rfl (hb hby at_33) hml ?_
 rintro _ T8 _ _ X8 l8 ⟨z8, rfl, N8q, e8, x8_0⟩
 have N8 := own_frl l8 N7 N8q
 show own_G _ _ _ _ (T8.setTop (mkF m 36 #[vl q0, v2, vl q1, v2, vi p2, vr b1, vu, vu, vu, vu, vu, vu, vu, vu, vu, vu, vu] [.int z8, .int 18, .ref b1]))
 refine own_sC X8 hx hZ e8 V7 lu7 (own_drg x8_0) 18 rfl (by decide) ⟨by decide, by decide⟩ N8 g_b1 B7 R7 hk7 Z7 (hb hby at_36) ?_
 intro T9 h9 u9 L9 X9 e9 hu9 V9 lu9 N9 R9 hk9 Z9 B9 W9
 refine own_go (fun _ Kk => XS.aload X9.here hx rfl (hb hby at_37) rfl rfl (XS.bipush X9.here hx rfl (hb hby at_39) (XS.lloadN X9.here hx rfl (hb hby at_41) rfl (XS.bipush X9.here hx rfl (hb hby at_42) Kk)))) ?_
 show own_G _ _ _ _ (T9.setTop (mkF m 44 #[vl q0, v2, vl q1, v2, vi p2, vr b1, vu, vu, vu, vu, vu, vu, vu, vu, vu, vu, vu] [.int 12, .long q1, .int 19, .ref b1]))
 refine own_cS X9 hx hZ 2 hown (hw 1 rfl) (hw 2 rfl) (hw 3 rfl) (hw 4 rfl) (rm_dig hw q1 (12 : Int32) h9 n0 Z9 ) e9 own_pd46 rfl (hb hby at_44) hml ?_
 rintro _ T10 _ _ X10 l10 ⟨z10, rfl, N10q, e10, x10_0⟩
 have N10 := own_frl l10 N9 N10q
 refine own_sC X10 hx hZ e10 V9 lu9 (own_drg x10_0) 19 rfl (by decide) ⟨by decide, by decide⟩ N10 g_b1 B9 R9 hk9 Z9 (hb hby at_47) ?_
 intro T11 h11 u11 L11 X11 e11 hu11 V11 lu11 N11 R11 hk11 Z11 B11 W11
 refine own_go (fun _ Kk => XS.lloadN X11.here hx rfl (hb hby at_48) rfl (XS.bipush X11.here hx rfl (hb hby at_49) (XS.lushr X11.here hx rfl (hb hby at_51) rfl Kk))) ?_
 show own_G _ _ _ _ (T11.setTop (mkF m 52 #[vl q0, v2, vl q1, v2, vi p2, vr b1, vu, vu, vu, vu, vu, vu, vu, vu, vu, vu, vu] [.long ((q1.toUInt64 >>> ((16 : Int32) &&& 0x3f).toInt64.toUInt64).toInt64)]))
 refine own_go (X11.ldc2Long hx hown (mvT hZ (hw 6 rfl)) (g := (mkF m 52 #[vl q0, v2, vl q1, v2, vi p2, vr b1, vu, vu, vu, vu, vu, vu, vu, vu, vu, vu, vu] [.long ((q1.toUInt64 >>> ((16 : Int32) &&& 0x3f).toInt64.toUInt64).toInt64)])) rfl (hb hby at_52)) ?_
 refine own_go (fun _ Kk => XS.land X11.here hx rfl (hb hby at_55) rfl (XS.l2i X11.here hx rfl (hb hby at_56) rfl (XS.iconst X11.here hx rfl (hb hby at_57) (iremM X11 hx rfl (hb hby at_58) rfl (by decide) Kk)))) ?_
 obtain ⟨nn, hnn, hne⟩ : ∃ nn : Nat, nn ≤ 2 ∧ (((((q1.toUInt64 >>> ((16 : Int32) &&& 0x3f).toInt64.toUInt64).toInt64) &&& (3 : Int64)).toInt32) % (3 : Int32)) = Int32.ofNat nn := own_n3' _
 show own_G _ _ _ _ (T11.setTop (mkF m 59 #[vl q0, v2, vl q1, v2, vi p2, vr b1, vu, vu, vu, vu, vu, vu, vu, vu, vu, vu, vu] [.int (((((q1.toUInt64 >>> ((16 : Int32) &&& 0x3f).toInt64.toUInt64).toInt64) &&& (3 : Int64)).toInt32) % (3 : Int32))]))
 rw [show (((((q1.toUInt64 >>> ((16 : Int32) &&& 0x3f).toInt64.toUInt64).toInt64) &&& (3 : Int64)).toInt32) % (3 : Int32)) = (Int32.ofNat nn) from hne]
 refine own_go (fun _ Kk => XS.istore X11.here hx rfl (hb hby at_59) rfl (l' := #[vl q0, v2, vl q1, v2, vi p2, vr b1, vi (Int32.ofNat nn), vu, vu, vu, vu, vu, vu, vu, vu, vu, vu]) rfl (XS.aload X11.here hx rfl (hb hby at_61) rfl rfl (XS.iload X11.here hx rfl (hb hby at_63) rfl (XS.lloadN X11.here hx rfl (hb hby at_65) rfl Kk)))) ?_
 show own_G _ _ _ _ (T11.setTop (mkF m 66 #[vl q0, v2, vl q1, v2, vi p2, vr b1, vi (Int32.ofNat nn), vu, vu, vu, vu, vu, vu, vu, vu, vu, vu] [.long q0, .int (Int32.ofNat nn), .ref b1]))
 refine own_go (fun _ Kk => XS.iconst X11.here hx rfl (hb hby at_66) Kk) ?_
 refine own_cS X11 hx hZ 2 hown (hw 1 rfl) (hw 2 rfl) (hw 3 rfl) (hw 4 rfl) (rm_dig hw q0 (0 : Int32) h11 n0 Z11 ) e11 own_pd46 rfl (hb hby at_67) hml ?_
 rintro _ T12 _ _ X12 l12 ⟨z12, rfl, N12q, e12, x12_0⟩
 have N12 := own_frl l12 N11 N12q
 refine own_sC X12 hx hZ e12 V11 lu11 (own_drg x12_0) nn (own_onc _ (own_nib hnn 0 (by decide))) (own_nil hnn 0 (by decide)) (own_nin hnn 0 (by decide)) N12 g_b1 B11 R11 hk11 Z11 (hb hby at_70) ?_
 intro T13 h13 u13 L13 X13 e13 hu13 V13 lu13 N13 R13 hk13 Z13 B13 W13
 refine own_go (fun _ Kk => XS.aload X13.here hx rfl (hb hby at_71) rfl rfl (XS.iload X13.here hx rfl (hb hby at_73) rfl Kk)) ?_
 show own_G _ _ _ _ (T13.setTop (mkF m 75 #[vl q0, v2, vl q1, v2, vi p2, vr b1, vi (Int32.ofNat nn), vu, vu, vu, vu, vu, vu, vu, vu, vu, vu] [.int (Int32.ofNat nn), .ref b1]))
 refine own_go (fun _ Kk => XS.iconst X13.here hx rfl (hb hby at_75) (XS.iadd X13.here hx rfl (hb hby at_76) rfl Kk)) ?_
 show own_G _ _ _ _ (T13.setTop (mkF m 77 #[vl q0, v2, vl q1, v2, vi p2, vr b1, vi (Int32.ofNat nn), vu, vu, vu, vu, vu, vu, vu, vu, vu, vu] [.int ((Int32.ofNat nn) + (1 : Int32)), .ref b1]))
 rw [show ((Int32.ofNat nn) + (1 : Int32)) = (Int32.ofNat (nn + 1)) from own_addn nn 1 (Nat.le_trans hnn (by decide)) (by decide)]
 refine own_go (fun _ Kk => XS.lloadN X13.here hx rfl (hb hby at_77) rfl (XS.iconst X13.here hx rfl (hb hby at_78) Kk)) ?_
 refine own_cS X13 hx hZ 2 hown (hw 1 rfl) (hw 2 rfl) (hw 3 rfl) (hw 4 rfl) (rm_dig hw q0 (4 : Int32) h13 n0 Z13 ) e13 own_pd46 rfl (hb hby at_79) hml ?_
 rintro _ T14 _ _ X14 l14 ⟨z14, rfl, N14q, e14, x14_0⟩
 have N14 := own_frl l14 N13 N14q
 refine own_sC X14 hx hZ e14 V13 lu13 (own_drg x14_0) (nn + 1) (own_onc _ (own_nib hnn 1 (by decide))) (own_nil hnn 1 (by decide)) (own_nin hnn 1 (by decide)) N14 g_b1 B13 R13 hk13 Z13 (hb hby at_82) ?_
 intro T15 h15 u15 L15 X15 e15 hu15 V15 lu15 N15 R15 hk15 Z15 B15 W15
 show own_G _ _ _ _ (T15.setTop (mkF m 83 #[vl q0, v2, vl q1, v2, vi p2, vr b1, vi (Int32.ofNat nn), vu, vu, vu, vu, vu, vu, vu, vu, vu, vu] []))
 refine own_go (fun _ Kk => XS.aload X15.here hx rfl (hb hby at_83) rfl rfl (XS.iload X15.here hx rfl (hb hby at_85) rfl (XS.iconst X15.here hx rfl (hb hby at_87) (XS.iadd X15.here hx rfl (hb hby at_88) rfl Kk)))) ?_
 show own_G _ _ _ _ (T15.setTop (mkF m 89 #[vl q0, v2, vl q1, v2, vi p2, vr b1, vi (Int32.ofNat nn), vu, vu, vu, vu, vu, vu, vu, vu, vu, vu] [.int ((Int32.ofNat nn) + (2 : Int32)), .ref b1]))
 rw [show ((Int32.ofNat nn) + (2 : Int32)) = (Int32.ofNat (nn + 2)) from own_addn nn 2 (Nat.le_trans hnn (by decide)) (by decide)]
 refine own_go (fun _ Kk => XS.lloadN X15.here hx rfl (hb hby at_89) rfl (XS.bipush X15.here hx rfl (hb hby at_90) Kk)) ?_
 refine own_cS X15 hx hZ 2 hown (hw 1 rfl) (hw 2 rfl) (hw 3 rfl) (hw 4 rfl) (rm_dig hw q0 (8 : Int32) h15 n0 Z15 ) e15 own_pd46 rfl (hb hby at_92) hml ?_
 rintro _ T16 _ _ X16 l16 ⟨z16, rfl, N16q, e16, x16_0⟩
 have N16 := own_frl l16 N15 N16q
 refine own_sC X16 hx hZ e16 V15 lu15 (own_drg x16_0) (nn + 2) (own_onc _ (own_nib hnn 2 (by decide))) (own_nil hnn 2 (by decide)) (own_nin hnn 2 (by decide)) N16 g_b1 B15 R15 hk15 Z15 (hb hby at_95) ?_
 intro T17 h17 u17 L17 X17 e17 hu17 V17 lu17 N17 R17 hk17 Z17 B17 W17
 show own_G _ _ _ _ (T17.setTop (mkF m 96 #[vl q0, v2, vl q1, v2, vi p2, vr b1, vi (Int32.ofNat nn), vu, vu, vu, vu, vu, vu, vu, vu, vu, vu] []))
 refine own_go (fun _ Kk => XS.aload X17.here hx rfl (hb hby at_96) rfl rfl (XS.iload X17.here hx rfl (hb hby at_98) rfl (XS.iconst X17.here hx rfl (hb hby at_100) (XS.iadd X17.here hx rfl (hb hby at_101) rfl Kk)))) ?_
 show own_G _ _ _ _ (T17.setTop (mkF m 102 #[vl q0, v2, vl q1, v2, vi p2, vr b1, vi (Int32.ofNat nn), vu, vu, vu, vu, vu, vu, vu, vu, vu, vu] [.int ((Int32.ofNat nn) + (3 : Int32)), .ref b1]))
 rw [show ((Int32.ofNat nn) + (3 : Int32)) = (Int32.ofNat (nn + 3)) from own_addn nn 3 (Nat.le_trans hnn (by decide)) (by decide)]
 refine own_go (fun _ Kk => XS.lloadN X17.here hx rfl (hb hby at_102) rfl (XS.bipush X17.here hx rfl (hb hby at_103) Kk)) ?_
 refine own_cS X17 hx hZ 2 hown (hw 1 rfl) (hw 2 rfl) (hw 3 rfl) (hw 4 rfl) (rm_dig hw q0 (12 : Int32) h17 n0 Z17 ) e17 own_pd46 rfl (hb hby at_105) hml ?_
 rintro _ T18 _ _ X18 l18 ⟨z18, rfl, N18q, e18, x18_0⟩
 have N18 := own_frl l18 N17 N18q
 refine own_sC X18 hx hZ e18 V17 lu17 (own_drg x18_0) (nn + 3) (own_onc _ (own_nib hnn 3 (by decide))) (own_nil hnn 3 (by decide)) (own_nin hnn 3 (by decide)) N18 g_b1 B17 R17 hk17 Z17 (hb hby at_108) ?_
 intro T19 h19 u19 L19 X19 e19 hu19 V19 lu19 N19 R19 hk19 Z19 B19 W19
 show own_G _ _ _ _ (T19.setTop (mkF m 109 #[vl q0, v2, vl q1, v2, vi p2, vr b1, vi (Int32.ofNat nn), vu, vu, vu, vu, vu, vu, vu, vu, vu, vu] []))
 refine own_go (fun _ Kk => XS.aload X19.here hx rfl (hb hby at_109) rfl rfl (XS.iload X19.here hx rfl (hb hby at_111) rfl (XS.iconst X19.here hx rfl (hb hby at_113) (XS.iadd X19.here hx rfl (hb hby at_114) rfl Kk)))) ?_
 show own_G _ _ _ _ (T19.setTop (mkF m 115 #[vl q0, v2, vl q1, v2, vi p2, vr b1, vi (Int32.ofNat nn), vu, vu, vu, vu, vu, vu, vu, vu, vu, vu] [.int ((Int32.ofNat nn) + (4 : Int32)), .ref b1]))
 rw [show ((Int32.ofNat nn) + (4 : Int32)) = (Int32.ofNat (nn + 4)) from own_addn nn 4 (Nat.le_trans hnn (by decide)) (by decide)]
 refine own_go (fun _ Kk => XS.lloadN X19.here hx rfl (hb hby at_115) rfl (XS.bipush X19.here hx rfl (hb hby at_116) Kk)) ?_
 refine own_cS X19 hx hZ 2 hown (hw 1 rfl) (hw 2 rfl) (hw 3 rfl) (hw 4 rfl) (rm_dig hw q0 (16 : Int32) h19 n0 Z19 ) e19 own_pd46 rfl (hb hby at_118) hml ?_
 rintro _ T20 _ _ X20 l20 ⟨z20, rfl, N20q, e20, x20_0⟩
 have N20 := own_frl l20 N19 N20q
 refine own_sC X20 hx hZ e20 V19 lu19 (own_drg x20_0) (nn + 4) (own_onc _ (own_nib hnn 4 (by decide))) (own_nil hnn 4 (by decide)) (own_nin hnn 4 (by decide)) N20 g_b1 B19 R19 hk19 Z19 (hb hby at_121) ?_
 intro T21 h21 u21 L21 X21 e21 hu21 V21 lu21 N21 R21 hk21 Z21 B21 W21
 show own_G _ _ _ _ (T21.setTop (mkF m 122 #[vl q0, v2, vl q1, v2, vi p2, vr b1, vi (Int32.ofNat nn), vu, vu, vu, vu, vu, vu, vu, vu, vu, vu] []))
 refine own_go (fun _ Kk => XS.aload X21.here hx rfl (hb hby at_122) rfl rfl (XS.iload X21.here hx rfl (hb hby at_124) rfl (XS.iconst X21.here hx rfl (hb hby at_126) (XS.iadd X21.here hx rfl (hb hby at_127) rfl Kk)))) ?_
 show own_G _ _ _ _ (T21.setTop (mkF m 128 #[vl q0, v2, vl q1, v2, vi p2, vr b1, vi (Int32.ofNat nn), vu, vu, vu, vu, vu, vu, vu, vu, vu, vu] [.int ((Int32.ofNat nn) + (5 : Int32)), .ref b1]))
 rw [show ((Int32.ofNat nn) + (5 : Int32)) = (Int32.ofNat (nn + 5)) from own_addn nn 5 (Nat.le_trans hnn (by decide)) (by decide)]
 refine own_go (fun _ Kk => XS.lloadN X21.here hx rfl (hb hby at_128) rfl (XS.bipush X21.here hx rfl (hb hby at_129) Kk)) ?_
 refine own_cS X21 hx hZ 2 hown (hw 1 rfl) (hw 2 rfl) (hw 3 rfl) (hw 4 rfl) (rm_dig hw q0 (20 : Int32) h21 n0 Z21 ) e21 own_pd46 rfl (hb hby at_131) hml ?_
 rintro _ T22 _ _ X22 l22 ⟨z22, rfl, N22q, e22, x22_0⟩
 have N22 := own_frl l22 N21 N22q
 refine own_sC X22 hx hZ e22 V21 lu21 (own_drg x22_0) (nn + 5) (own_onc _ (own_nib hnn 5 (by decide))) (own_nil hnn 5 (by decide)) (own_nin hnn 5 (by decide)) N22 g_b1 B21 R21 hk21 Z21 (hb hby at_134) ?_
 intro T23 h23 u23 L23 X23 e23 hu23 V23 lu23 N23 R23 hk23 Z23 B23 W23
 show own_G _ _ _ _ (T23.setTop (mkF m 135 #[vl q0, v2, vl q1, v2, vi p2, vr b1, vi (Int32.ofNat nn), vu, vu, vu, vu, vu, vu, vu, vu, vu, vu] []))
 refine own_go (fun _ Kk => XS.aload X23.here hx rfl (hb hby at_135) rfl rfl (XS.iload X23.here hx rfl (hb hby at_137) rfl (XS.bipush X23.here hx rfl (hb hby at_139) (XS.iadd X23.here hx rfl (hb hby at_141) rfl Kk)))) ?_
 show own_G _ _ _ _ (T23.setTop (mkF m 142 #[vl q0, v2, vl q1, v2, vi p2, vr b1, vi (Int32.ofNat nn), vu, vu, vu, vu, vu, vu, vu, vu, vu, vu] [.int ((Int32.ofNat nn) + (6 : Int32)), .ref b1]))
 rw [show ((Int32.ofNat nn) + (6 : Int32)) = (Int32.ofNat (nn + 6)) from own_addn nn 6 (Nat.le_trans hnn (by decide)) (by decide)]
 refine own_go (fun _ Kk => XS.lloadN X23.here hx rfl (hb hby at_142) rfl (XS.bipush X23.here hx rfl (hb hby at_143) Kk)) ?_
 refine own_cS X23 hx hZ 2 hown (hw 1 rfl) (hw 2 rfl) (hw 3 rfl) (hw 4 rfl) (rm_dig hw q0 (24 : Int32) h23 n0 Z23 ) e23 own_pd46 rfl (hb hby at_145) hml ?_
 rintro _ T24 _ _ X24 l24 ⟨z24, rfl, N24q, e24, x24_0⟩
 have N24 := own_frl l24 N23 N24q
 refine own_sC X24 hx hZ e24 V23 lu23 (own_drg x24_0) (nn + 6) (own_onc _ (own_nib hnn 6 (by decide))) (own_nil hnn 6 (by decide)) (own_nin hnn 6 (by decide)) N24 g_b1 B23 R23 hk23 Z23 (hb hby at_148) ?_
 intro T25 h25 u25 L25 X25 e25 hu25 V25 lu25 N25 R25 hk25 Z25 B25 W25
 show own_G _ _ _ _ (T25.setTop (mkF m 149 #[vl q0, v2, vl q1, v2, vi p2, vr b1, vi (Int32.ofNat nn), vu, vu, vu, vu, vu, vu, vu, vu, vu, vu] []))
 refine own_go (fun _ Kk => XS.aload X25.here hx rfl (hb hby at_149) rfl rfl (XS.iload X25.here hx rfl (hb hby at_151) rfl (XS.bipush X25.here hx rfl (hb hby at_153) (XS.iadd X25.here hx rfl (hb hby at_155) rfl Kk)))) ?_
 show own_G _ _ _ _ (T25.setTop (mkF m 156 #[vl q0, v2, vl q1, v2, vi p2, vr b1, vi (Int32.ofNat nn), vu, vu, vu, vu, vu, vu, vu, vu, vu, vu] [.int ((Int32.ofNat nn) + (7 : Int32)), .ref b1]))
 rw [show ((Int32.ofNat nn) + (7 : Int32)) = (Int32.ofNat (nn + 7)) from own_addn nn 7 (Nat.le_trans hnn (by decide)) (by decide)]
 refine own_go (fun _ Kk => XS.lloadN X25.here hx rfl (hb hby at_156) rfl (XS.bipush X25.here hx rfl (hb hby at_157) Kk)) ?_
 refine own_cS X25 hx hZ 2 hown (hw 1 rfl) (hw 2 rfl) (hw 3 rfl) (hw 4 rfl) (rm_dig hw q0 (28 : Int32) h25 n0 Z25 ) e25 own_pd46 rfl (hb hby at_159) hml ?_
 rintro _ T26 _ _ X26 l26 ⟨z26, rfl, N26q, e26, x26_0⟩
 have N26 := own_frl l26 N25 N26q
 refine own_sC X26 hx hZ e26 V25 lu25 (own_drg x26_0) (nn + 7) (own_onc _ (own_nib hnn 7 (by decide))) (own_nil hnn 7 (by decide)) (own_nin hnn 7 (by decide)) N26 g_b1 B25 R25 hk25 Z25 (hb hby at_162) ?_
 intro T27 h27 u27 L27 X27 e27 hu27 V27 lu27 N27 R27 hk27 Z27 B27 W27
 show own_G _ _ _ _ (T27.setTop (mkF m 163 #[vl q0, v2, vl q1, v2, vi p2, vr b1, vi (Int32.ofNat nn), vu, vu, vu, vu, vu, vu, vu, vu, vu, vu] []))
 refine own_go (fun _ Kk => XS.aload X27.here hx rfl (hb hby at_163) rfl rfl (XS.iload X27.here hx rfl (hb hby at_165) rfl (XS.bipush X27.here hx rfl (hb hby at_167) (XS.iadd X27.here hx rfl (hb hby at_169) rfl Kk)))) ?_
 show own_G _ _ _ _ (T27.setTop (mkF m 170 #[vl q0, v2, vl q1, v2, vi p2, vr b1, vi (Int32.ofNat nn), vu, vu, vu, vu, vu, vu, vu, vu, vu, vu] [.int ((Int32.ofNat nn) + (8 : Int32)), .ref b1]))
 rw [show ((Int32.ofNat nn) + (8 : Int32)) = (Int32.ofNat (nn + 8)) from own_addn nn 8 (Nat.le_trans hnn (by decide)) (by decide)]
 refine own_go (fun _ Kk => XS.bipush X27.here hx rfl (hb hby at_170) Kk) ?_
 refine own_sC X27 hx hZ e27 V27 lu27 ⟨by decide, by decide⟩ (nn + 8) (own_onc _ (own_nib hnn 8 (by decide))) (own_nil hnn 8 (by decide)) (own_nin hnn 8 (by decide)) N27 g_b1 B27 R27 hk27 Z27 (hb hby at_172) ?_
 intro T28 h28 u28 L28 X28 e28 hu28 V28 lu28 N28 R28 hk28 Z28 B28 W28
 refine own_go (fun _ Kk => XS.aload X28.here hx rfl (hb hby at_173) rfl rfl (XS.iload X28.here hx rfl (hb hby at_175) rfl Kk)) ?_
 show own_G _ _ _ _ (T28.setTop (mkF m 177 #[vl q0, v2, vl q1, v2, vi p2, vr b1, vi (Int32.ofNat nn), vu, vu, vu, vu, vu, vu, vu, vu, vu, vu] [.int (Int32.ofNat nn), .ref b1]))
 refine own_go (fun _ Kk => XS.bipush X28.here hx rfl (hb hby at_177) (XS.iadd X28.here hx rfl (hb hby at_179) rfl Kk)) ?_
 show own_G _ _ _ _ (T28.setTop (mkF m 180 #[vl q0, v2, vl q1, v2, vi p2, vr b1, vi (Int32.ofNat nn), vu, vu, vu, vu, vu, vu, vu, vu, vu, vu] [.int ((Int32.ofNat nn) + (9 : Int32)), .ref b1]))
 rw [show ((Int32.ofNat nn) + (9 : Int32)) = (Int32.ofNat (nn + 9)) from own_addn nn 9 (Nat.le_trans hnn (by decide)) (by decide)]
 refine own_go (fun _ Kk => XS.lloadN X28.here hx rfl (hb hby at_180) rfl (XS.bipush X28.here hx rfl (hb hby at_181) Kk)) ?_
 refine own_cS X28 hx hZ 2 hown (hw 1 rfl) (hw 2 rfl) (hw 3 rfl) (hw 4 rfl) (rm_dig hw q0 (32 : Int32) h28 n0 Z28 ) e28 own_pd46 rfl (hb hby at_183) hml ?_
 rintro _ T29 _ _ X29 l29 ⟨z29, rfl, N29q, e29, x29_0⟩
 have N29 := own_frl l29 N28 N29q
 refine own_sC X29 hx hZ e29 V28 lu28 (own_drg x29_0) (nn + 9) (own_onc _ (own_nib hnn 9 (by decide))) (own_nil hnn 9 (by decide)) (own_nin hnn 9 (by decide)) N29 g_b1 B28 R28 hk28 Z28 (hb hby at_186) ?_
 intro T30 h30 u30 L30 X30 e30 hu30 V30 lu30 N30 R30 hk30 Z30 B30 W30
 show own_G _ _ _ _ (T30.setTop (mkF m 187 #[vl q0, v2, vl q1, v2, vi p2, vr b1, vi (Int32.ofNat nn), vu, vu, vu, vu, vu, vu, vu, vu, vu, vu] []))
 refine own_go (fun _ Kk => XS.aload X30.here hx rfl (hb hby at_187) rfl rfl (XS.iload X30.here hx rfl (hb hby at_189) rfl (XS.bipush X30.here hx rfl (hb hby at_191) (XS.iadd X30.here hx rfl (hb hby at_193) rfl Kk)))) ?_
 show own_G _ _ _ _ (T30.setTop (mkF m 194 #[vl q0, v2, vl q1, v2, vi p2, vr b1, vi (Int32.ofNat nn), vu, vu, vu, vu, vu, vu, vu, vu, vu, vu] [.int ((Int32.ofNat nn) + (10 : Int32)), .ref b1]))
 rw [show ((Int32.ofNat nn) + (10 : Int32)) = (Int32.ofNat (nn + 10)) from own_addn nn 10 (Nat.le_trans hnn (by decide)) (by decide)]
 refine own_go (fun _ Kk => XS.lloadN X30.here hx rfl (hb hby at_194) rfl (XS.bipush X30.here hx rfl (hb hby at_195) Kk)) ?_
 refine own_cS X30 hx hZ 2 hown (hw 1 rfl) (hw 2 rfl) (hw 3 rfl) (hw 4 rfl) (rm_dig hw q0 (36 : Int32) h30 n0 Z30 ) e30 own_pd46 rfl (hb hby at_197) hml ?_
 rintro _ T31 _ _ X31 l31 ⟨z31, rfl, N31q, e31, x31_0⟩
 have N31 := own_frl l31 N30 N31q
 refine own_sC X31 hx hZ e31 V30 lu30 (own_drg x31_0) (nn + 10) (own_onc _ (own_nib hnn 10 (by decide))) (own_nil hnn 10 (by decide)) (own_nin hnn 10 (by decide)) N31 g_b1 B30 R30 hk30 Z30 (hb hby at_200) ?_
 intro T32 h32 u32 L32 X32 e32 hu32 V32 lu32 N32 R32 hk32 Z32 B32 W32
 show own_G _ _ _ _ (T32.setTop (mkF m 201 #[vl q0, v2, vl q1, v2, vi p2, vr b1, vi (Int32.ofNat nn), vu, vu, vu, vu, vu, vu, vu, vu, vu, vu] []))
 refine own_go (fun _ Kk => XS.aload X32.here hx rfl (hb hby at_201) rfl rfl (XS.iload X32.here hx rfl (hb hby at_203) rfl (XS.bipush X32.here hx rfl (hb hby at_205) (XS.iadd X32.here hx rfl (hb hby at_207) rfl Kk)))) ?_
 show own_G _ _ _ _ (T32.setTop (mkF m 208 #[vl q0, v2, vl q1, v2, vi p2, vr b1, vi (Int32.ofNat nn), vu, vu, vu, vu, vu, vu, vu, vu, vu, vu] [.int ((Int32.ofNat nn) + (11 : Int32)), .ref b1]))
 rw [show ((Int32.ofNat nn) + (11 : Int32)) = (Int32.ofNat (nn + 11)) from own_addn nn 11 (Nat.le_trans hnn (by decide)) (by decide)]
 refine own_go (fun _ Kk => XS.lloadN X32.here hx rfl (hb hby at_208) rfl (XS.bipush X32.here hx rfl (hb hby at_209) Kk)) ?_
 refine own_cS X32 hx hZ 2 hown (hw 1 rfl) (hw 2 rfl) (hw 3 rfl) (hw 4 rfl) (rm_dig hw q0 (40 : Int32) h32 n0 Z32 ) e32 own_pd46 rfl (hb hby at_211) hml ?_
 rintro _ T33 _ _ X33 l33 ⟨z33, rfl, N33q, e33, x33_0⟩
 have N33 := own_frl l33 N32 N33q
 refine own_sC X33 hx hZ e33 V32 lu32 (own_drg x33_0) (nn + 11) (own_onc _ (own_nib hnn 11 (by decide))) (own_nil hnn 11 (by decide)) (own_nin hnn 11 (by decide)) N33 g_b1 B32 R32 hk32 Z32 (hb hby at_214) ?_
 intro T34 h34 u34 L34 X34 e34 hu34 V34 lu34 N34 R34 hk34 Z34 B34 W34
 show own_G _ _ _ _ (T34.setTop (mkF m 215 #[vl q0, v2, vl q1, v2, vi p2, vr b1, vi (Int32.ofNat nn), vu, vu, vu, vu, vu, vu, vu, vu, vu, vu] []))
 refine own_go (fun _ Kk => XS.aload X34.here hx rfl (hb hby at_215) rfl rfl (XS.iload X34.here hx rfl (hb hby at_217) rfl (XS.bipush X34.here hx rfl (hb hby at_219) (XS.iadd X34.here hx rfl (hb hby at_221) rfl Kk)))) ?_
 show own_G _ _ _ _ (T34.setTop (mkF m 222 #[vl q0, v2, vl q1, v2, vi p2, vr b1, vi (Int32.ofNat nn), vu, vu, vu, vu, vu, vu, vu, vu, vu, vu] [.int ((Int32.ofNat nn) + (12 : Int32)), .ref b1]))
 rw [show ((Int32.ofNat nn) + (12 : Int32)) = (Int32.ofNat (nn + 12)) from own_addn nn 12 (Nat.le_trans hnn (by decide)) (by decide)]
 refine own_go (fun _ Kk => XS.lloadN X34.here hx rfl (hb hby at_222) rfl (XS.bipush X34.here hx rfl (hb hby at_223) Kk)) ?_
 refine own_cS X34 hx hZ 2 hown (hw 1 rfl) (hw 2 rfl) (hw 3 rfl) (hw 4 rfl) (rm_dig hw q0 (44 : Int32) h34 n0 Z34 ) e34 own_pd46 rfl (hb hby at_225) hml ?_
 rintro _ T35 _ _ X35 l35 ⟨z35, rfl, N35q, e35, x35_0⟩
 have N35 := own_frl l35 N34 N35q
 refine own_sC X35 hx hZ e35 V34 lu34 (own_drg x35_0) (nn + 12) (own_onc _ (own_nib hnn 12 (by decide))) (own_nil hnn 12 (by decide)) (own_nin hnn 12 (by decide)) N35 g_b1 B34 R34 hk34 Z34 (hb hby at_228) ?_
 intro T36 h36 u36 L36 X36 e36 hu36 V36 lu36 N36 R36 hk36 Z36 B36 W36
 show own_G _ _ _ _ (T36.setTop (mkF m 229 #[vl q0, v2, vl q1, v2, vi p2, vr b1, vi (Int32.ofNat nn), vu, vu, vu, vu, vu, vu, vu, vu, vu, vu] []))
 refine own_go (fun _ Kk => XS.aload X36.here hx rfl (hb hby at_229) rfl rfl (XS.iload X36.here hx rfl (hb hby at_231) rfl (XS.bipush X36.here hx rfl (hb hby at_233) (XS.iadd X36.here hx rfl (hb hby at_235) rfl Kk)))) ?_
 show own_G _ _ _ _ (T36.setTop (mkF m 236 #[vl q0, v2, vl q1, v2, vi p2, vr b1, vi (Int32.ofNat nn), vu, vu, vu, vu, vu, vu, vu, vu, vu, vu] [.int ((Int32.ofNat nn) + (13 : Int32)), .ref b1]))
 rw [show ((Int32.ofNat nn) + (13 : Int32)) = (Int32.ofNat (nn + 13)) from own_addn nn 13 (Nat.le_trans hnn (by decide)) (by decide)]
 refine own_go (fun _ Kk => XS.lloadN X36.here hx rfl (hb hby at_236) rfl (XS.bipush X36.here hx rfl (hb hby at_237) Kk)) ?_
 refine own_cS X36 hx hZ 2 hown (hw 1 rfl) (hw 2 rfl) (hw 3 rfl) (hw 4 rfl) (rm_dig hw q0 (48 : Int32) h36 n0 Z36 ) e36 own_pd46 rfl (hb hby at_239) hml ?_
 rintro _ T37 _ _ X37 l37 ⟨z37, rfl, N37q, e37, x37_0⟩
 have N37 := own_frl l37 N36 N37q
 refine own_sC X37 hx hZ e37 V36 lu36 (own_drg x37_0) (nn + 13) (own_onc _ (own_nib hnn 13 (by decide))) (own_nil hnn 13 (by decide)) (own_nin hnn 13 (by decide)) N37 g_b1 B36 R36 hk36 Z36 (hb hby at_242) ?_
 intro T38 h38 u38 L38 X38 e38 hu38 V38 lu38 N38 R38 hk38 Z38 B38 W38
 show own_G _ _ _ _ (T38.setTop (mkF m 243 #[vl q0, v2, vl q1, v2, vi p2, vr b1, vi (Int32.ofNat nn), vu, vu, vu, vu, vu, vu, vu, vu, vu, vu] []))
 refine own_go (fun _ Kk => XS.aload X38.here hx rfl (hb hby at_243) rfl rfl (XS.iload X38.here hx rfl (hb hby at_245) rfl (XS.bipush X38.here hx rfl (hb hby at_247) (XS.iadd X38.here hx rfl (hb hby at_249) rfl Kk)))) ?_
 show own_G _ _ _ _ (T38.setTop (mkF m 250 #[vl q0, v2, vl q1, v2, vi p2, vr b1, vi (Int32.ofNat nn), vu, vu, vu, vu, vu, vu, vu, vu, vu, vu] [.int ((Int32.ofNat nn) + (14 : Int32)), .ref b1]))
 rw [show ((Int32.ofNat nn) + (14 : Int32)) = (Int32.ofNat (nn + 14)) from own_addn nn 14 (Nat.le_trans hnn (by decide)) (by decide)]
 refine own_go (fun _ Kk => XS.lloadN X38.here hx rfl (hb hby at_250) rfl (XS.bipush X38.here hx rfl (hb hby at_251) Kk)) ?_
 refine own_cS X38 hx hZ 2 hown (hw 1 rfl) (hw 2 rfl) (hw 3 rfl) (hw 4 rfl) (rm_dig hw q0 (52 : Int32) h38 n0 Z38 ) e38 own_pd46 rfl (hb hby at_253) hml ?_
 rintro _ T39 _ _ X39 l39 ⟨z39, rfl, N39q, e39, x39_0⟩
 have N39 := own_frl l39 N38 N39q
 refine own_sC X39 hx hZ e39 V38 lu38 (own_drg x39_0) (nn + 14) (own_onc _ (own_nib hnn 14 (by decide))) (own_nil hnn 14 (by decide)) (own_nin hnn 14 (by decide)) N39 g_b1 B38 R38 hk38 Z38 (hb hby at_256) ?_
 intro T40 h40 u40 L40 X40 e40 hu40 V40 lu40 N40 R40 hk40 Z40 B40 W40
 show own_G _ _ _ _ (T40.setTop (mkF m 257 #[vl q0, v2, vl q1, v2, vi p2, vr b1, vi (Int32.ofNat nn), vu, vu, vu, vu, vu, vu, vu, vu, vu, vu] []))
 refine own_go (fun _ Kk => XS.aload X40.here hx rfl (hb hby at_257) rfl rfl (XS.iload X40.here hx rfl (hb hby at_259) rfl (XS.bipush X40.here hx rfl (hb hby at_261) (XS.iadd X40.here hx rfl (hb hby at_263) rfl Kk)))) ?_
 show own_G _ _ _ _ (T40.setTop (mkF m 264 #[vl q0, v2, vl q1, v2, vi p2, vr b1, vi (Int32.ofNat nn), vu, vu, vu, vu, vu, vu, vu, vu, vu, vu] [.int ((Int32.ofNat nn) + (15 : Int32)), .ref b1]))
 rw [show ((Int32.ofNat nn) + (15 : Int32)) = (Int32.ofNat (nn + 15)) from own_addn nn 15 (Nat.le_trans hnn (by decide)) (by decide)]
 refine own_go (fun _ Kk => XS.bipush X40.here hx rfl (hb hby at_264) Kk) ?_
 refine own_sC X40 hx hZ e40 V40 lu40 ⟨by decide, by decide⟩ (nn + 15) (own_onc _ (own_nib hnn 15 (by decide))) (own_nil hnn 15 (by decide)) (own_nin hnn 15 (by decide)) N40 g_b1 B40 R40 hk40 Z40 (hb hby at_266) ?_
 intro T41 h41 u41 L41 X41 e41 hu41 V41 lu41 N41 R41 hk41 Z41 B41 W41
 refine own_go (fun _ Kk => XS.lloadN X41.here hx rfl (hb hby at_267) rfl (XS.bipush X41.here hx rfl (hb hby at_268) Kk)) ?_
 show own_G _ _ _ _ (T41.setTop (mkF m 270 #[vl q0, v2, vl q1, v2, vi p2, vr b1, vi (Int32.ofNat nn), vu, vu, vu, vu, vu, vu, vu, vu, vu, vu] [.int 39, .long q1]))
 refine own_go (fun _ Kk => XS.lushr X41.here hx rfl (hb hby at_270) rfl (XS.lconst X41.here hx rfl (hb hby at_271) (XS.land X41.here hx rfl (hb hby at_272) rfl (XS.lconst X41.here hx rfl (hb hby at_273) (XS.lcmp X41.here hx rfl (hb hby at_274) rfl Kk))))) ?_
 show own_G _ _ _ _ (T41.setTop (mkF m 275 #[vl q0, v2, vl q1, v2, vi p2, vr b1, vi (Int32.ofNat nn), vu, vu, vu, vu, vu, vu, vu, vu, vu, vu] [.int (lcmpW (((q1.toUInt64 >>> ((39 : Int32) &&& 0x3f).toInt64.toUInt64).toInt64) &&& (1 : Int64)) (0 : Int64))]))
 obtain ⟨z42, hz42⟩ : ∃ z : Int32, z = (if (((q1.toUInt64 >>> ((39 : Int32) &&& 0x3f).toInt64.toUInt64).toInt64) &&& (1 : Int64)) = (0 : Int64) then (0 : Int32) else (1 : Int32)) := ⟨_, rfl⟩
 suffices Jz42 : own_G p e below (K_0 Z q0 q1 p2 zc fm h0 n0 s) (T41.setTop (mkF m 283 #[vl q0, v2, vl q1, v2, vi p2, vr b1, vi (Int32.ofNat nn), vu, vu, vu, vu, vu, vu, vu, vu, vu, vu] [.int z42])) by
  by_cases hc275_43 : (((q1.toUInt64 >>> ((39 : Int32) &&& 0x3f).toInt64.toUInt64).toInt64) &&& (1 : Int64)) = (0 : Int64)
  ·
   rw [if_pos hc275_43] at hz42
   refine own_go (fun _ Kk => XS.ifYes X41.here hx rfl (pc0 := 275) (pc' := 282) rfl (hb hby at_275) rfl ((if0 _ _).trans (teq ((lw_eq _ _).mpr hc275_43)).1) (by decide) (by decide) Kk) ?_
   show own_G _ _ _ _ (T41.setTop (mkF m 282 #[vl q0, v2, vl q1, v2, vi p2, vr b1, vi (Int32.ofNat nn), vu, vu, vu, vu, vu, vu, vu, vu, vu, vu] []))
   refine own_go (fun _ Kk => XS.iconst X41.here hx rfl (hb hby at_282) Kk) ?_
   show own_G _ _ _ _ (T41.setTop (mkF m 283 #[vl q0, v2, vl q1, v2, vi p2, vr b1, vi (Int32.ofNat nn), vu, vu, vu, vu, vu, vu, vu, vu, vu, vu] [.int 0]))
   subst hz42; exact Jz42
  ·
   rw [if_neg hc275_43] at hz42
   refine own_go (fun _ Kk => XS.ifNo X41.here hx rfl (hb hby at_275) rfl ((if0 _ _).trans (feq (mt (lw_eq _ _).mp hc275_43)).1) Kk) ?_
   show own_G _ _ _ _ (T41.setTop (mkF m 278 #[vl q0, v2, vl q1, v2, vi p2, vr b1, vi (Int32.ofNat nn), vu, vu, vu, vu, vu, vu, vu, vu, vu, vu] []))
   refine own_go (fun _ Kk => XS.iconst X41.here hx rfl (hb hby at_278) (XS.goto X41.here hx rfl (pc0 := 279) (pc' := 283) rfl (hb hby at_279) (by decide) (by decide) Kk)) ?_
   show own_G _ _ _ _ (T41.setTop (mkF m 283 #[vl q0, v2, vl q1, v2, vi p2, vr b1, vi (Int32.ofNat nn), vu, vu, vu, vu, vu, vu, vu, vu, vu, vu] [.int 1]))
   subst hz42; exact Jz42
 refine own_go (fun _ Kk => XS.istore X41.here hx rfl (hb hby at_283) rfl (l' := #[vl q0, v2, vl q1, v2, vi p2, vr b1, vi (Int32.ofNat nn), vi z42, vu, vu, vu, vu, vu, vu, vu, vu, vu]) rfl (XS.iload X41.here hx rfl (hb hby at_285) rfl Kk)) ?_
 refine own_go (X41.ldcInt hx hown (mvT hZ (hw 7 rfl)) (g := (mkF m 287 #[vl q0, v2, vl q1, v2, vi p2, vr b1, vi (Int32.ofNat nn), vi z42, vu, vu, vu, vu, vu, vu, vu, vu, vu] [.int p2])) rfl (hb hby at_287)) ?_
 refine own_go (fun _ Kk => XS.iand X41.here hx rfl (hb hby at_289) rfl Kk) ?_
 show own_G _ _ _ _ (T41.setTop (mkF m 290 #[vl q0, v2, vl q1, v2, vi p2, vr b1, vi (Int32.ofNat nn), vi z42, vu, vu, vu, vu, vu, vu, vu, vu, vu] [.int (p2 &&& (65535 : Int32))]))
 refine own_go (fun _ Kk => XS.i2c X41.here hx rfl (hb hby at_290) rfl Kk) ?_
 obtain ⟨pa, hpa, hepa⟩ : ∃ z : Int32, (¬ z < 0 ∧ ¬ (65535 : Int32) < z) ∧ ((p2 &&& (65535 : Int32)).toUInt32.toUInt16.toUInt32.toInt32) = z := own_c16 _
 show own_G _ _ _ _ (T41.setTop (mkF m 291 #[vl q0, v2, vl q1, v2, vi p2, vr b1, vi (Int32.ofNat nn), vi z42, vu, vu, vu, vu, vu, vu, vu, vu, vu] [.int ((p2 &&& (65535 : Int32)).toUInt32.toUInt16.toUInt32.toInt32)]))
 rw [show ((p2 &&& (65535 : Int32)).toUInt32.toUInt16.toUInt32.toInt32) = pa from hepa]
 refine own_go (fun _ Kk => XS.istore X41.here hx rfl (hb hby at_291) rfl (l' := #[vl q0, v2, vl q1, v2, vi p2, vr b1, vi (Int32.ofNat nn), vi z42, vi pa, vu, vu, vu, vu, vu, vu, vu, vu]) rfl (XS.iload X41.here hx rfl (hb hby at_293) rfl (XS.bipush X41.here hx rfl (hb hby at_295) (XS.iushr X41.here hx rfl (hb hby at_297) rfl Kk)))) ?_
 show own_G _ _ _ _ (T41.setTop (mkF m 298 #[vl q0, v2, vl q1, v2, vi p2, vr b1, vi (Int32.ofNat nn), vi z42, vi pa, vu, vu, vu, vu, vu, vu, vu, vu] [.int ((p2.toUInt32 >>> ((16 : Int32) &&& 31).toUInt32).toInt32)]))
 refine own_go (X41.ldcInt hx hown (mvT hZ (hw 7 rfl)) (g := (mkF m 298 #[vl q0, v2, vl q1, v2, vi p2, vr b1, vi (Int32.ofNat nn), vi z42, vi pa, vu, vu, vu, vu, vu, vu, vu, vu] [.int ((p2.toUInt32 >>> ((16 : Int32) &&& 31).toUInt32).toInt32)])) rfl (hb hby at_298)) ?_
 refine own_go (fun _ Kk => XS.iand X41.here hx rfl (hb hby at_300) rfl (XS.i2c X41.here hx rfl (hb hby at_301) rfl Kk)) ?_
 obtain ⟨pb, hpb, hepb⟩ : ∃ z : Int32, (¬ z < 0 ∧ ¬ (65535 : Int32) < z) ∧ ((((p2.toUInt32 >>> ((16 : Int32) &&& 31).toUInt32).toInt32) &&& (65535 : Int32)).toUInt32.toUInt16.toUInt32.toInt32) = z := own_c16 _
 show own_G _ _ _ _ (T41.setTop (mkF m 302 #[vl q0, v2, vl q1, v2, vi p2, vr b1, vi (Int32.ofNat nn), vi z42, vi pa, vu, vu, vu, vu, vu, vu, vu, vu] [.int ((((p2.toUInt32 >>> ((16 : Int32) &&& 31).toUInt32).toInt32) &&& (65535 : Int32)).toUInt32.toUInt16.toUInt32.toInt32)]))
 rw [show ((((p2.toUInt32 >>> ((16 : Int32) &&& 31).toUInt32).toInt32) &&& (65535 : Int32)).toUInt32.toUInt16.toUInt32.toInt32) = pb from hepb]
 refine own_go (fun _ Kk => XS.istore X41.here hx rfl (hb hby at_302) rfl (l' := #[vl q0, v2, vl q1, v2, vi p2, vr b1, vi (Int32.ofNat nn), vi z42, vi pa, vi pb, vu, vu, vu, vu, vu, vu, vu]) rfl Kk) ?_
 show own_G _ _ _ _ (T41.setTop (mkF m 304 #[vl q0, v2, vl q1, v2, vi p2, vr b1, vi (Int32.ofNat nn), vi z42, vi pa, vi pb, vu, vu, vu, vu, vu, vu, vu] []))
 rcases own_le2 hnn with rfl | rfl | rfl
 ·
  show own_G _ _ _ _ (T41.setTop (mkF m 304 #[vl q0, v2, vl q1, v2, vi p2, vr b1, vi 0, vi z42, vi pa, vi pb, vu, vu, vu, vu, vu, vu, vu] []))
  refine own_go (fun _ Kk => XS.iload X41.here hx rfl (hb hby at_304) rfl (XS.iconst X41.here hx rfl (hb hby at_306) (XS.icmpYes X41.here hx rfl (pc0 := 307) (pc' := 326) rfl (hb hby at_307) rfl (by decide) (by decide) (by decide) (XS.iload X41.here hx rfl (hb hby at_326) rfl (XS.iconst X41.here hx rfl (hb hby at_328) Kk))))) ?_
  show own_G _ _ _ _ (T41.setTop (mkF m 329 #[vl q0, v2, vl q1, v2, vi p2, vr b1, vi 0, vi z42, vi pa, vi pb, vu, vu, vu, vu, vu, vu, vu] [.int 2, .int 0]))
  refine own_go (fun _ Kk => XS.icmpYes X41.here hx rfl (pc0 := 329) (pc' := 354) rfl (hb hby at_329) rfl (by decide) (by decide) (by decide) (XS.lloadN X41.here hx rfl (hb hby at_354) rfl (XS.bipush X41.here hx rfl (hb hby at_355) (XS.lushr X41.here hx rfl (hb hby at_357) rfl Kk)))) ?_
  refine own_go (X41.ldc2Long hx hown (mvT hZ (hw 8 rfl)) (g := (mkF m 358 #[vl q0, v2, vl q1, v2, vi p2, vr b1, vi 0, vi z42, vi pa, vi pb, vu, vu, vu, vu, vu, vu, vu] [.long ((q1.toUInt64 >>> ((18 : Int32) &&& 0x3f).toInt64.toUInt64).toInt64)])) rfl (hb hby at_358)) ?_
  show own_G _ _ _ _ (T41.setTop (mkF m 361 #[vl q0, v2, vl q1, v2, vi p2, vr b1, vi 0, vi z42, vi pa, vi pb, vu, vu, vu, vu, vu, vu, vu] [.long 31, .long ((q1.toUInt64 >>> ((18 : Int32) &&& 0x3f).toInt64.toUInt64).toInt64)]))
  refine own_go (fun _ Kk => XS.land X41.here hx rfl (hb hby at_361) rfl (XS.l2i X41.here hx rfl (hb hby at_362) rfl Kk)) ?_
  obtain ⟨kn, hkn, hke⟩ : ∃ kn : Nat, kn < 32 ∧ ((((q1.toUInt64 >>> ((18 : Int32) &&& 0x3f).toInt64.toUInt64).toInt64) &&& (31 : Int64)).toInt32) = Int32.ofNat kn := own_k32 _
  show own_G _ _ _ _ (T41.setTop (mkF m 363 #[vl q0, v2, vl q1, v2, vi p2, vr b1, vi 0, vi z42, vi pa, vi pb, vu, vu, vu, vu, vu, vu, vu] [.int ((((q1.toUInt64 >>> ((18 : Int32) &&& 0x3f).toInt64.toUInt64).toInt64) &&& (31 : Int64)).toInt32)]))
  rw [show ((((q1.toUInt64 >>> ((18 : Int32) &&& 0x3f).toInt64.toUInt64).toInt64) &&& (31 : Int64)).toInt32) = (Int32.ofNat kn) from hke]
  refine own_go (fun _ Kk => XS.istore X41.here hx rfl (hb hby at_363) rfl (l' := #[vl q0, v2, vl q1, v2, vi p2, vr b1, vi 0, vi z42, vi pa, vi pb, vi (Int32.ofNat kn), vu, vu, vu, vu, vu, vu]) rfl (XS.lloadN X41.here hx rfl (hb hby at_365) rfl (XS.bipush X41.here hx rfl (hb hby at_366) (XS.lushr X41.here hx rfl (hb hby at_368) rfl Kk)))) ?_
  show own_G _ _ _ _ (T41.setTop (mkF m 369 #[vl q0, v2, vl q1, v2, vi p2, vr b1, vi 0, vi z42, vi pa, vi pb, vi (Int32.ofNat kn), vu, vu, vu, vu, vu, vu] [.long ((q1.toUInt64 >>> ((23 : Int32) &&& 0x3f).toInt64.toUInt64).toInt64)]))
  refine own_go (X41.ldc2Long hx hown (mvT hZ (hw 9 rfl)) (g := (mkF m 369 #[vl q0, v2, vl q1, v2, vi p2, vr b1, vi 0, vi z42, vi pa, vi pb, vi (Int32.ofNat kn), vu, vu, vu, vu, vu, vu] [.long ((q1.toUInt64 >>> ((23 : Int32) &&& 0x3f).toInt64.toUInt64).toInt64)])) rfl (hb hby at_369)) ?_
  refine own_go (fun _ Kk => XS.land X41.here hx rfl (hb hby at_372) rfl (XS.l2i X41.here hx rfl (hb hby at_373) rfl (XS.i2c X41.here hx rfl (hb hby at_374) rfl Kk))) ?_
  obtain ⟨ch, hch, hech⟩ : ∃ z : Int32, (¬ z < 0 ∧ ¬ (65535 : Int32) < z) ∧ (((((q1.toUInt64 >>> ((23 : Int32) &&& 0x3f).toInt64.toUInt64).toInt64) &&& (65535 : Int64)).toInt32).toUInt32.toUInt16.toUInt32.toInt32) = z := own_c16 _
  show own_G _ _ _ _ (T41.setTop (mkF m 375 #[vl q0, v2, vl q1, v2, vi p2, vr b1, vi 0, vi z42, vi pa, vi pb, vi (Int32.ofNat kn), vu, vu, vu, vu, vu, vu] [.int (((((q1.toUInt64 >>> ((23 : Int32) &&& 0x3f).toInt64.toUInt64).toInt64) &&& (65535 : Int64)).toInt32).toUInt32.toUInt16.toUInt32.toInt32)]))
  rw [show (((((q1.toUInt64 >>> ((23 : Int32) &&& 0x3f).toInt64.toUInt64).toInt64) &&& (65535 : Int64)).toInt32).toUInt32.toUInt16.toUInt32.toInt32) = ch from hech]
  refine own_go (fun _ Kk => XS.istore X41.here hx rfl (hb hby at_375) rfl (l' := #[vl q0, v2, vl q1, v2, vi p2, vr b1, vi 0, vi z42, vi pa, vi pb, vi (Int32.ofNat kn), vi ch, vu, vu, vu, vu, vu]) rfl (XS.iconst X41.here hx rfl (hb hby at_377) (XS.istore X41.here hx rfl (hb hby at_378) rfl (l' := #[vl q0, v2, vl q1, v2, vi p2, vr b1, vi 0, vi z42, vi pa, vi pb, vi (Int32.ofNat kn), vi ch, vi 0, vu, vu, vu, vu]) rfl Kk))) ?_
  show own_G _ _ _ _ (T41.setTop (mkF m 380 #[vl q0, v2, vl q1, v2, vi p2, vr b1, vi 0, vi z42, vi pa, vi pb, vi (Int32.ofNat kn), vi ch, vi 0, vu, vu, vu, vu] []))
  have fu5 : u5 = [.int 0, .int 0, .int 0, .int 0, .int 0, .int 0, .int 0, .int 0, .int 0, .int 0, .int 0, .int 0, .int 0, .int 0, .int 0, .int 0, .int z4, .int 0, .int 0, .int 0] := by rw [hu5]; rfl
  have fu7 : u7 = [.int 0, .int 0, .int 0, .int 0, .int 0, .int 0, .int 0, .int 0, .int 0, .int 0, .int 0, .int 0, .int 0, .int 0, .int 0, .int 0, .int z4, .int z6, .int 0, .int 0] := by rw [hu7, fu5]; rfl
  have fu9 : u9 = [.int 0, .int 0, .int 0, .int 0, .int 0, .int 0, .int 0, .int 0, .int 0, .int 0, .int 0, .int 0, .int 0, .int 0, .int 0, .int 0, .int z4, .int z6, .int z8, .int 0] := by rw [hu9, fu7]; rfl
  have fu11 : u11 = [.int 0, .int 0, .int 0, .int 0, .int 0, .int 0, .int 0, .int 0, .int 0, .int 0, .int 0, .int 0, .int 0, .int 0, .int 0, .int 0, .int z4, .int z6, .int z8, .int z10] := by rw [hu11, fu9]; rfl
  have fu13 : u13 = [.int z12, .int 0, .int 0, .int 0, .int 0, .int 0, .int 0, .int 0, .int 0, .int 0, .int 0, .int 0, .int 0, .int 0, .int 0, .int 0, .int z4, .int z6, .int z8, .int z10] := by rw [hu13, fu11]; rfl
  have fu15 : u15 = [.int z12, .int z14, .int 0, .int 0, .int 0, .int 0, .int 0, .int 0, .int 0, .int 0, .int 0, .int 0, .int 0, .int 0, .int 0, .int 0, .int z4, .int z6, .int z8, .int z10] := by rw [hu15, fu13]; rfl
  have fu17 : u17 = [.int z12, .int z14, .int z16, .int 0, .int 0, .int 0, .int 0, .int 0, .int 0, .int 0, .int 0, .int 0, .int 0, .int 0, .int 0, .int 0, .int z4, .int z6, .int z8, .int z10] := by rw [hu17, fu15]; rfl
  have fu19 : u19 = [.int z12, .int z14, .int z16, .int z18, .int 0, .int 0, .int 0, .int 0, .int 0, .int 0, .int 0, .int 0, .int 0, .int 0, .int 0, .int 0, .int z4, .int z6, .int z8, .int z10] := by rw [hu19, fu17]; rfl
  have fu21 : u21 = [.int z12, .int z14, .int z16, .int z18, .int z20, .int 0, .int 0, .int 0, .int 0, .int 0, .int 0, .int 0, .int 0, .int 0, .int 0, .int 0, .int z4, .int z6, .int z8, .int z10] := by rw [hu21, fu19]; rfl
  have fu23 : u23 = [.int z12, .int z14, .int z16, .int z18, .int z20, .int z22, .int 0, .int 0, .int 0, .int 0, .int 0, .int 0, .int 0, .int 0, .int 0, .int 0, .int z4, .int z6, .int z8, .int z10] := by rw [hu23, fu21]; rfl
  have fu25 : u25 = [.int z12, .int z14, .int z16, .int z18, .int z20, .int z22, .int z24, .int 0, .int 0, .int 0, .int 0, .int 0, .int 0, .int 0, .int 0, .int 0, .int z4, .int z6, .int z8, .int z10] := by rw [hu25, fu23]; rfl
  have fu27 : u27 = [.int z12, .int z14, .int z16, .int z18, .int z20, .int z22, .int z24, .int z26, .int 0, .int 0, .int 0, .int 0, .int 0, .int 0, .int 0, .int 0, .int z4, .int z6, .int z8, .int z10] := by rw [hu27, fu25]; rfl
  have fu28 : u28 = [.int z12, .int z14, .int z16, .int z18, .int z20, .int z22, .int z24, .int z26, .int 46, .int 0, .int 0, .int 0, .int 0, .int 0, .int 0, .int 0, .int z4, .int z6, .int z8, .int z10] := by rw [hu28, fu27]; rfl
  have fu30 : u30 = [.int z12, .int z14, .int z16, .int z18, .int z20, .int z22, .int z24, .int z26, .int 46, .int z29, .int 0, .int 0, .int 0, .int 0, .int 0, .int 0, .int z4, .int z6, .int z8, .int z10] := by rw [hu30, fu28]; rfl
  have fu32 : u32 = [.int z12, .int z14, .int z16, .int z18, .int z20, .int z22, .int z24, .int z26, .int 46, .int z29, .int z31, .int 0, .int 0, .int 0, .int 0, .int 0, .int z4, .int z6, .int z8, .int z10] := by rw [hu32, fu30]; rfl
  have fu34 : u34 = [.int z12, .int z14, .int z16, .int z18, .int z20, .int z22, .int z24, .int z26, .int 46, .int z29, .int z31, .int z33, .int 0, .int 0, .int 0, .int 0, .int z4, .int z6, .int z8, .int z10] := by rw [hu34, fu32]; rfl
  have fu36 : u36 = [.int z12, .int z14, .int z16, .int z18, .int z20, .int z22, .int z24, .int z26, .int 46, .int z29, .int z31, .int z33, .int z35, .int 0, .int 0, .int 0, .int z4, .int z6, .int z8, .int z10] := by rw [hu36, fu34]; rfl
  have fu38 : u38 = [.int z12, .int z14, .int z16, .int z18, .int z20, .int z22, .int z24, .int z26, .int 46, .int z29, .int z31, .int z33, .int z35, .int z37, .int 0, .int 0, .int z4, .int z6, .int z8, .int z10] := by rw [hu38, fu36]; rfl
  have fu40 : u40 = [.int z12, .int z14, .int z16, .int z18, .int z20, .int z22, .int z24, .int z26, .int 46, .int z29, .int z31, .int z33, .int z35, .int z37, .int z39, .int 0, .int z4, .int z6, .int z8, .int z10] := by rw [hu40, fu38]; rfl
  have fu41 : u41 = [.int z12, .int z14, .int z16, .int z18, .int z20, .int z22, .int z24, .int z26, .int 46, .int z29, .int z31, .int z33, .int z35, .int z37, .int z39, .int 45, .int z4, .int z6, .int z8, .int z10] := by rw [hu41, fu40]; rfl
  have VF44 := V41
  rw [fu41] at VF44
  obtain ⟨cs0, hcs0⟩ : ∃ cs0 : List Int32, cs0 = [z12, z14, z16, z18, z20, z22, z24, z26, (46 : Int32), z29, z31, z33, z35, z37, z39, (45 : Int32), z4, z6, z8, z10] := ⟨_, rfl⟩
  have hl0 : cs0.length = 20 := by rw [hcs0]; rfl
  have hrg0 : ∀ c ∈ cs0, ¬ c < 0 ∧ ¬ (65535 : Int32) < c := by rw [hcs0]; exact (own_rgc (own_drg x12_0) (own_rgc (own_drg x14_0) (own_rgc (own_drg x16_0) (own_rgc (own_drg x18_0) (own_rgc (own_drg x20_0) (own_rgc (own_drg x22_0) (own_rgc (own_drg x24_0) (own_rgc (own_drg x26_0) (own_rgc ⟨by decide, by decide⟩ (own_rgc (own_drg x29_0) (own_rgc (own_drg x31_0) (own_rgc (own_drg x33_0) (own_rgc (own_drg x35_0) (own_rgc (own_drg x37_0) (own_rgc (own_drg x39_0) (own_rgc ⟨by decide, by decide⟩ (own_rgc (own_drg x4_0) (own_rgc (own_drg x6_0) (own_rgc (own_drg x8_0) (own_rgc (own_drg x10_0) own_rgn))))))))))))))))))))
  have hlay0 : own_lay 0 cs0 := by rw [hcs0]; exact own_lay_of [] [z12, z14, z16, z18, z20, z22, z24, z26, (46 : Int32), z29, z31, z33, z35, z37, z39, (45 : Int32), z4, z6, z8, z10] (own_lac ((own_okd (by decide) (by decide)).mpr x12_0) (own_lac ((own_okd (by decide) (by decide)).mpr x14_0) (own_lac ((own_okd (by decide) (by decide)).mpr x16_0) (own_lac ((own_okd (by decide) (by decide)).mpr x18_0) (own_lac ((own_okd (by decide) (by decide)).mpr x20_0) (own_lac ((own_okd (by decide) (by decide)).mpr x22_0) (own_lac ((own_okd (by decide) (by decide)).mpr x24_0) (own_lac ((own_okd (by decide) (by decide)).mpr x26_0) (own_lac (own_ok8.mpr rfl) (own_lac ((own_okd (by decide) (by decide)).mpr x29_0) (own_lac ((own_okd (by decide) (by decide)).mpr x31_0) (own_lac ((own_okd (by decide) (by decide)).mpr x33_0) (own_lac ((own_okd (by decide) (by decide)).mpr x35_0) (own_lac ((own_okd (by decide) (by decide)).mpr x37_0) (own_lac ((own_okd (by decide) (by decide)).mpr x39_0) (own_lac (own_ok15.mpr rfl) (own_lac ((own_okd (by decide) (by decide)).mpr x4_0) (own_lac ((own_okd (by decide) (by decide)).mpr x6_0) (own_lac ((own_okd (by decide) (by decide)).mpr x8_0) (own_lac ((own_okd (by decide) (by decide)).mpr x10_0) own_lan)))))))))))))))))))) rfl
  have VA : Arv Z h41 b1 k1 .char (20 : Int32) (cs0.map Value.int) (.int (0 : Int32)) := by rw [hcs0]; exact VF44
  show own_G _ _ _ _ (T41.setTop (mkF m 380 #[vl q0, v2, vl q1, v2, vi p2, vr b1, vi 0, vi z42, vi pa, vi pb, vi (Int32.ofNat kn), vi ch, vi 0, vu, vu, vu, vu] []))
  refine own_go (fun _ Kk => XS.iload X41.here hx rfl (hb hby at_380) rfl (XS.bipush X41.here hx rfl (hb hby at_382) Kk)) ?_
  by_cases hc384_45 : (Int32.ofNat kn) < (20 : Int32)
  ·
   have hk20 : kn < 20 := (own_ltn (b := 20) (by omega) (by decide)).mp hc384_45
   refine own_go (fun _ Kk => XS.icmpNo X41.here hx rfl (hb hby at_384) rfl (tlt hc384_45).2.1 Kk) ?_
   show own_G _ _ _ _ (T41.setTop (mkF m 387 #[vl q0, v2, vl q1, v2, vi p2, vr b1, vi 0, vi z42, vi pa, vi pb, vi (Int32.ofNat kn), vi ch, vi 0, vu, vu, vu, vu] []))
   refine own_go (fun _ Kk => XS.aload X41.here hx rfl (hb hby at_387) rfl rfl (XS.iload X41.here hx rfl (hb hby at_389) rfl (XS.iload X41.here hx rfl (hb hby at_391) rfl Kk))) ?_
   obtain ⟨cl46, Ar46, q46, Sz46, Nn46, Hh46, Gg46⟩ := id VA
   have hin46 : ¬ ((Int32.ofNat kn) < 0 ∨ cl46.slots.size ≤ ((Int32.ofNat kn)).toNatClampNeg) := inb_of Sz46 ⟨own_onn kn (Nat.le_trans (Nat.le_of_lt hkn) (by decide)), (own_ltn (b := 20) (Nat.le_trans (Nat.le_of_lt hkn) (by decide)) (by decide)).mpr hk20⟩
   obtain ⟨T46, h46, X46, e46, W46, st46⟩ := stC X41 hx hZ e41 Ar46 (j := (Int32.ofNat kn)) hin46 (g := (mkF m 393 #[vl q0, v2, vl q1, v2, vi p2, vr b1, vi 0, vi z42, vi pa, vi pb, vi (Int32.ofNat kn), vi ch, vi 0, vu, vu, vu, vu] [.int ch, .int (Int32.ofNat kn), .ref b1])) rfl rfl (hb hby at_393)
   refine own_go st46 ?_
   have V46 : Arv Z h46 b1 k1 .char (20 : Int32) ((cs0.set kn ch).map Value.int) (.int (0 : Int32)) := by have q := (Arv.set Ar46 q46 Sz46 Nn46 Hh46 Gg46 (fits_nar_char _) W46 kn (own_onc kn (Nat.le_trans (Nat.le_of_lt hkn) (by decide))) (by rw [List.length_map, hl0]; exact hk20)); rw [own_narc (c := ch) hch.1 hch.2] at q; rw [List.map_set]; exact q
   have N46 := Fr.snoc X46 N41 g_b1
   have R47 := CHr.trans R41 (CHr.wr W46 (Safe.exa hZ.alike B41 (by decide) (by decide)) R41.1)
   have hk47 := Nat.le_trans hk41 (Keep.of_wr W46).1
   have Z48 : n0 ≤ h46.size := Nat.le_trans Z41 (Keep.of_wr W46).1
   refine own_go (fun _ Kk => XS.iload X46.here hx rfl (hb hby at_394) rfl Kk) ?_
   show own_G _ _ _ _ (T46.setTop (mkF m 396 #[vl q0, v2, vl q1, v2, vi p2, vr b1, vi 0, vi z42, vi pa, vi pb, vi (Int32.ofNat kn), vi ch, vi 0, vu, vu, vu, vu] [.int (Int32.ofNat kn)]))
   refine own_go (fun _ Kk => XS.iload X46.here hx rfl (hb hby at_396) rfl (XS.isub X46.here hx rfl (hb hby at_398) rfl Kk)) ?_
   show own_G _ _ _ _ (T46.setTop (mkF m 399 #[vl q0, v2, vl q1, v2, vi p2, vr b1, vi 0, vi z42, vi pa, vi pb, vi (Int32.ofNat kn), vi ch, vi 0, vu, vu, vu, vu] [.int ((Int32.ofNat kn) - (0 : Int32))]))
   have hkl : 0 ≤ kn := Nat.zero_le _
   ·
    obtain ⟨rr, rfl⟩ : ∃ rr, kn = 0 + rr := ⟨kn - 0, by omega⟩
    rw [show ((Int32.ofNat (0 + rr)) - (0 : Int32)) = Int32.ofNat rr from (own_subn (0 + rr) 0 (by omega) (by omega)).trans (by rw [Nat.add_sub_cancel_left])]
    show own_G _ _ _ _ (T46.setTop (mkF m 399 #[vl q0, v2, vl q1, v2, vi p2, vr b1, vi 0, vi z42, vi pa, vi pb, vi (Int32.ofNat (0 + rr)), vi ch, vi 0, vu, vu, vu, vu] [.int (Int32.ofNat rr)]))
    refine own_go (fun _ Kk => XS.istore X46.here hx rfl (hb hby at_399) rfl (l' := #[vl q0, v2, vl q1, v2, vi p2, vr b1, vi 0, vi z42, vi pa, vi pb, vi (Int32.ofNat (0 + rr)), vi ch, vi 0, vi (Int32.ofNat rr), vu, vu, vu]) rfl (XS.iload X46.here hx rfl (hb hby at_401) rfl (XS.ifNo X46.here hx rfl (hb hby at_403) rfl ((if0 _ _).trans (flt (own_onn rr (by omega))).1) (XS.iload X46.here hx rfl (hb hby at_406) rfl (XS.bipush X46.here hx rfl (hb hby at_408) Kk))))) ?_
    show own_G _ _ _ _ (T46.setTop (mkF m 410 #[vl q0, v2, vl q1, v2, vi p2, vr b1, vi 0, vi z42, vi pa, vi pb, vi (Int32.ofNat (0 + rr)), vi ch, vi 0, vi (Int32.ofNat rr), vu, vu, vu] [.int 8, .int (Int32.ofNat rr)]))
    by_cases hc410_49 : (Int32.ofNat rr) = (8 : Int32)
    ·
     have hr8 : rr = 8 := own_inj (b := 8) (by omega) (by decide) hc410_49
     refine own_go (fun _ Kk => XS.icmpNo X46.here hx rfl (hb hby at_410) rfl (teq hc410_49).2 Kk) ?_
     show own_G _ _ _ _ (T46.setTop (mkF m 413 #[vl q0, v2, vl q1, v2, vi p2, vr b1, vi 0, vi z42, vi pa, vi pb, vi (Int32.ofNat (0 + rr)), vi ch, vi 0, vi (Int32.ofNat rr), vu, vu, vu] []))
     refine own_go (fun _ Kk => XS.iload X46.here hx rfl (hb hby at_413) rfl (XS.bipush X46.here hx rfl (hb hby at_415) Kk)) ?_
     by_cases hc417_50 : ch = (46 : Int32)
     ·
      refine own_go (fun _ Kk => XS.icmpYes X46.here hx rfl (pc0 := 417) (pc' := 424) rfl (hb hby at_417) rfl (teq hc417_50).1 (by decide) (by decide) Kk) ?_
      show own_G _ _ _ _ (T46.setTop (mkF m 424 #[vl q0, v2, vl q1, v2, vi p2, vr b1, vi 0, vi z42, vi pa, vi pb, vi (Int32.ofNat (0 + rr)), vi ch, vi 0, vi (Int32.ofNat rr), vu, vu, vu] []))
      refine own_go (fun _ Kk => XS.iconst X46.here hx rfl (hb hby at_424) (XS.istore X46.here hx rfl (hb hby at_425) rfl (l' := #[vl q0, v2, vl q1, v2, vi p2, vr b1, vi 0, vi z42, vi pa, vi pb, vi (Int32.ofNat (0 + rr)), vi ch, vi 0, vi (Int32.ofNat rr), vu, vu, vu]) rfl (XS.goto X46.here hx rfl (pc0 := 427) (pc' := 475) rfl (hb hby at_427) (by decide) (by decide) Kk))) ?_
      show own_G _ _ _ _ (T46.setTop (mkF m 475 #[vl q0, v2, vl q1, v2, vi p2, vr b1, vi 0, vi z42, vi pa, vi pb, vi (Int32.ofNat (0 + rr)), vi ch, vi 0, vi (Int32.ofNat rr), vu, vu, vu] []))
      show own_G _ _ _ _ (T46.setTop (mkF m 475 #[vl q0, v2, vl q1, v2, vi p2, vr b1, vi 0, vi z42, vi pa, vi pb, vi (Int32.ofNat (0 + rr)), vi ch, vi 0, vi (Int32.ofNat rr), vu, vu, vu] []))
      have Q51 := ((((((((((((((((((((((SS.ext E1).wr W5).wr W7).wr W9).wr W11).wr W13).wr W15).wr W17).wr W19).wr W21).wr W23).wr W25).wr W27).wr W28).wr W30).wr W32).wr W34).wr W36).wr W38).wr W40).wr W41).wr W46)
      have Q52 := (B41.wr W46)
      exact own_mid0 hw CC (cs := (cs0.set (0 + rr) ch)) ⟨_, _, X46, e46, N46, Z48, R47, hk47, Q51, Q52, (own_V20 V46 ((List.length_set ..).trans hl0)), ((List.length_set ..).trans hl0), (own_rgset hrg0 hch)⟩ (Or.inr ⟨_, rfl⟩) (Or.inr ⟨rfl, own_lay_ok hlay0 hk20 (by rw [hr8]; exact own_ok8.mpr hc417_50)⟩)
     ·
      refine own_go (fun _ Kk => XS.icmpNo X46.here hx rfl (hb hby at_417) rfl (feq hc417_50).1 Kk) ?_
      show own_G _ _ _ _ (T46.setTop (mkF m 420 #[vl q0, v2, vl q1, v2, vi p2, vr b1, vi 0, vi z42, vi pa, vi pb, vi (Int32.ofNat (0 + rr)), vi ch, vi 0, vi (Int32.ofNat rr), vu, vu, vu] []))
      refine own_go (fun _ Kk => XS.iconst X46.here hx rfl (hb hby at_420) (XS.goto X46.here hx rfl (pc0 := 421) (pc' := 425) rfl (hb hby at_421) (by decide) (by decide) (XS.istore X46.here hx rfl (hb hby at_425) rfl (l' := #[vl q0, v2, vl q1, v2, vi p2, vr b1, vi 0, vi z42, vi pa, vi pb, vi (Int32.ofNat (0 + rr)), vi ch, vi 1, vi (Int32.ofNat rr), vu, vu, vu]) rfl (XS.goto X46.here hx rfl (pc0 := 427) (pc' := 475) rfl (hb hby at_427) (by decide) (by decide) Kk)))) ?_
      show own_G _ _ _ _ (T46.setTop (mkF m 475 #[vl q0, v2, vl q1, v2, vi p2, vr b1, vi 0, vi z42, vi pa, vi pb, vi (Int32.ofNat (0 + rr)), vi ch, vi 1, vi (Int32.ofNat rr), vu, vu, vu] []))
      show own_G _ _ _ _ (T46.setTop (mkF m 475 #[vl q0, v2, vl q1, v2, vi p2, vr b1, vi 0, vi z42, vi pa, vi pb, vi (Int32.ofNat (0 + rr)), vi ch, vi 1, vi (Int32.ofNat rr), vu, vu, vu] []))
      have Q53 := ((((((((((((((((((((((SS.ext E1).wr W5).wr W7).wr W9).wr W11).wr W13).wr W15).wr W17).wr W19).wr W21).wr W23).wr W25).wr W27).wr W28).wr W30).wr W32).wr W34).wr W36).wr W38).wr W40).wr W41).wr W46)
      have Q54 := (B41.wr W46)
      exact own_mid0 hw CC (cs := (cs0.set (0 + rr) ch)) ⟨_, _, X46, e46, N46, Z48, R47, hk47, Q53, Q54, (own_V20 V46 ((List.length_set ..).trans hl0)), ((List.length_set ..).trans hl0), (own_rgset hrg0 hch)⟩ (Or.inr ⟨_, rfl⟩) (Or.inl ⟨rfl, own_lay_no hlay0 (by decide) hk20 (by rw [hr8]; exact mt own_ok8.mp hc417_50)⟩)
    ·
     have hr8 : ¬ rr = 8 := fun e => hc410_49 (by rw [e]; rfl)
     refine own_go (fun _ Kk => XS.icmpYes X46.here hx rfl (pc0 := 410) (pc' := 430) rfl (hb hby at_410) rfl (feq hc410_49).2 (by decide) (by decide) Kk) ?_
     show own_G _ _ _ _ (T46.setTop (mkF m 430 #[vl q0, v2, vl q1, v2, vi p2, vr b1, vi 0, vi z42, vi pa, vi pb, vi (Int32.ofNat (0 + rr)), vi ch, vi 0, vi (Int32.ofNat rr), vu, vu, vu] []))
     refine own_go (fun _ Kk => XS.iload X46.here hx rfl (hb hby at_430) rfl (XS.bipush X46.here hx rfl (hb hby at_432) Kk)) ?_
     by_cases hc434_55 : (Int32.ofNat rr) = (15 : Int32)
     ·
      have hr15 : rr = 15 := own_inj (b := 15) (by omega) (by decide) hc434_55
      refine own_go (fun _ Kk => XS.icmpNo X46.here hx rfl (hb hby at_434) rfl (teq hc434_55).2 Kk) ?_
      show own_G _ _ _ _ (T46.setTop (mkF m 437 #[vl q0, v2, vl q1, v2, vi p2, vr b1, vi 0, vi z42, vi pa, vi pb, vi (Int32.ofNat (0 + rr)), vi ch, vi 0, vi (Int32.ofNat rr), vu, vu, vu] []))
      refine own_go (fun _ Kk => XS.iload X46.here hx rfl (hb hby at_437) rfl (XS.bipush X46.here hx rfl (hb hby at_439) Kk)) ?_
      by_cases hc441_56 : ch = (45 : Int32)
      ·
       refine own_go (fun _ Kk => XS.icmpYes X46.here hx rfl (pc0 := 441) (pc' := 448) rfl (hb hby at_441) rfl (teq hc441_56).1 (by decide) (by decide) Kk) ?_
       show own_G _ _ _ _ (T46.setTop (mkF m 448 #[vl q0, v2, vl q1, v2, vi p2, vr b1, vi 0, vi z42, vi pa, vi pb, vi (Int32.ofNat (0 + rr)), vi ch, vi 0, vi (Int32.ofNat rr), vu, vu, vu] []))
       refine own_go (fun _ Kk => XS.iconst X46.here hx rfl (hb hby at_448) (XS.istore X46.here hx rfl (hb hby at_449) rfl (l' := #[vl q0, v2, vl q1, v2, vi p2, vr b1, vi 0, vi z42, vi pa, vi pb, vi (Int32.ofNat (0 + rr)), vi ch, vi 0, vi (Int32.ofNat rr), vu, vu, vu]) rfl (XS.goto X46.here hx rfl (pc0 := 451) (pc' := 475) rfl (hb hby at_451) (by decide) (by decide) Kk))) ?_
       show own_G _ _ _ _ (T46.setTop (mkF m 475 #[vl q0, v2, vl q1, v2, vi p2, vr b1, vi 0, vi z42, vi pa, vi pb, vi (Int32.ofNat (0 + rr)), vi ch, vi 0, vi (Int32.ofNat rr), vu, vu, vu] []))
       show own_G _ _ _ _ (T46.setTop (mkF m 475 #[vl q0, v2, vl q1, v2, vi p2, vr b1, vi 0, vi z42, vi pa, vi pb, vi (Int32.ofNat (0 + rr)), vi ch, vi 0, vi (Int32.ofNat rr), vu, vu, vu] []))
       have Q57 := ((((((((((((((((((((((SS.ext E1).wr W5).wr W7).wr W9).wr W11).wr W13).wr W15).wr W17).wr W19).wr W21).wr W23).wr W25).wr W27).wr W28).wr W30).wr W32).wr W34).wr W36).wr W38).wr W40).wr W41).wr W46)
       have Q58 := (B41.wr W46)
       exact own_mid0 hw CC (cs := (cs0.set (0 + rr) ch)) ⟨_, _, X46, e46, N46, Z48, R47, hk47, Q57, Q58, (own_V20 V46 ((List.length_set ..).trans hl0)), ((List.length_set ..).trans hl0), (own_rgset hrg0 hch)⟩ (Or.inr ⟨_, rfl⟩) (Or.inr ⟨rfl, own_lay_ok hlay0 hk20 (by rw [hr15]; exact own_ok15.mpr hc441_56)⟩)
      ·
       refine own_go (fun _ Kk => XS.icmpNo X46.here hx rfl (hb hby at_441) rfl (feq hc441_56).1 Kk) ?_
       show own_G _ _ _ _ (T46.setTop (mkF m 444 #[vl q0, v2, vl q1, v2, vi p2, vr b1, vi 0, vi z42, vi pa, vi pb, vi (Int32.ofNat (0 + rr)), vi ch, vi 0, vi (Int32.ofNat rr), vu, vu, vu] []))
       refine own_go (fun _ Kk => XS.iconst X46.here hx rfl (hb hby at_444) (XS.goto X46.here hx rfl (pc0 := 445) (pc' := 449) rfl (hb hby at_445) (by decide) (by decide) (XS.istore X46.here hx rfl (hb hby at_449) rfl (l' := #[vl q0, v2, vl q1, v2, vi p2, vr b1, vi 0, vi z42, vi pa, vi pb, vi (Int32.ofNat (0 + rr)), vi ch, vi 1, vi (Int32.ofNat rr), vu, vu, vu]) rfl (XS.goto X46.here hx rfl (pc0 := 451) (pc' := 475) rfl (hb hby at_451) (by decide) (by decide) Kk)))) ?_
       show own_G _ _ _ _ (T46.setTop (mkF m 475 #[vl q0, v2, vl q1, v2, vi p2, vr b1, vi 0, vi z42, vi pa, vi pb, vi (Int32.ofNat (0 + rr)), vi ch, vi 1, vi (Int32.ofNat rr), vu, vu, vu] []))
       show own_G _ _ _ _ (T46.setTop (mkF m 475 #[vl q0, v2, vl q1, v2, vi p2, vr b1, vi 0, vi z42, vi pa, vi pb, vi (Int32.ofNat (0 + rr)), vi ch, vi 1, vi (Int32.ofNat rr), vu, vu, vu] []))
       have Q59 := ((((((((((((((((((((((SS.ext E1).wr W5).wr W7).wr W9).wr W11).wr W13).wr W15).wr W17).wr W19).wr W21).wr W23).wr W25).wr W27).wr W28).wr W30).wr W32).wr W34).wr W36).wr W38).wr W40).wr W41).wr W46)
       have Q60 := (B41.wr W46)
       exact own_mid0 hw CC (cs := (cs0.set (0 + rr) ch)) ⟨_, _, X46, e46, N46, Z48, R47, hk47, Q59, Q60, (own_V20 V46 ((List.length_set ..).trans hl0)), ((List.length_set ..).trans hl0), (own_rgset hrg0 hch)⟩ (Or.inr ⟨_, rfl⟩) (Or.inl ⟨rfl, own_lay_no hlay0 (by decide) hk20 (by rw [hr15]; exact mt own_ok15.mp hc441_56)⟩)
     ·
      have hr15 : ¬ rr = 15 := fun e => hc434_55 (by rw [e]; rfl)
      refine own_go (fun _ Kk => XS.icmpYes X46.here hx rfl (pc0 := 434) (pc' := 454) rfl (hb hby at_434) rfl (feq hc434_55).2 (by decide) (by decide) Kk) ?_
      show own_G _ _ _ _ (T46.setTop (mkF m 454 #[vl q0, v2, vl q1, v2, vi p2, vr b1, vi 0, vi z42, vi pa, vi pb, vi (Int32.ofNat (0 + rr)), vi ch, vi 0, vi (Int32.ofNat rr), vu, vu, vu] []))
      refine own_go (fun _ Kk => XS.iload X46.here hx rfl (hb hby at_454) rfl (XS.bipush X46.here hx rfl (hb hby at_456) Kk)) ?_
      by_cases hc458_61 : ch < (48 : Int32)
      ·
       refine own_go (fun _ Kk => XS.icmpYes X46.here hx rfl (pc0 := 458) (pc' := 468) rfl (hb hby at_458) rfl (tlt hc458_61).1 (by decide) (by decide) Kk) ?_
       show own_G _ _ _ _ (T46.setTop (mkF m 468 #[vl q0, v2, vl q1, v2, vi p2, vr b1, vi 0, vi z42, vi pa, vi pb, vi (Int32.ofNat (0 + rr)), vi ch, vi 0, vi (Int32.ofNat rr), vu, vu, vu] []))
       refine own_go (fun _ Kk => XS.iconst X46.here hx rfl (hb hby at_468) (XS.goto X46.here hx rfl (pc0 := 469) (pc' := 473) rfl (hb hby at_469) (by decide) (by decide) (XS.istore X46.here hx rfl (hb hby at_473) rfl (l' := #[vl q0, v2, vl q1, v2, vi p2, vr b1, vi 0, vi z42, vi pa, vi pb, vi (Int32.ofNat (0 + rr)), vi ch, vi 1, vi (Int32.ofNat rr), vu, vu, vu]) rfl Kk))) ?_
       show own_G _ _ _ _ (T46.setTop (mkF m 475 #[vl q0, v2, vl q1, v2, vi p2, vr b1, vi 0, vi z42, vi pa, vi pb, vi (Int32.ofNat (0 + rr)), vi ch, vi 1, vi (Int32.ofNat rr), vu, vu, vu] []))
       show own_G _ _ _ _ (T46.setTop (mkF m 475 #[vl q0, v2, vl q1, v2, vi p2, vr b1, vi 0, vi z42, vi pa, vi pb, vi (Int32.ofNat (0 + rr)), vi ch, vi 1, vi (Int32.ofNat rr), vu, vu, vu] []))
       have Q62 := ((((((((((((((((((((((SS.ext E1).wr W5).wr W7).wr W9).wr W11).wr W13).wr W15).wr W17).wr W19).wr W21).wr W23).wr W25).wr W27).wr W28).wr W30).wr W32).wr W34).wr W36).wr W38).wr W40).wr W41).wr W46)
       have Q63 := (B41.wr W46)
       exact own_mid0 hw CC (cs := (cs0.set (0 + rr) ch)) ⟨_, _, X46, e46, N46, Z48, R47, hk47, Q62, Q63, (own_V20 V46 ((List.length_set ..).trans hl0)), ((List.length_set ..).trans hl0), (own_rgset hrg0 hch)⟩ (Or.inr ⟨_, rfl⟩) (Or.inl ⟨rfl, own_lay_no hlay0 (by decide) hk20 (fun z => ((own_okd hr8 hr15).mp z).1 hc458_61)⟩)
      ·
       refine own_go (fun _ Kk => XS.icmpNo X46.here hx rfl (hb hby at_458) rfl (flt hc458_61).1 Kk) ?_
       show own_G _ _ _ _ (T46.setTop (mkF m 461 #[vl q0, v2, vl q1, v2, vi p2, vr b1, vi 0, vi z42, vi pa, vi pb, vi (Int32.ofNat (0 + rr)), vi ch, vi 0, vi (Int32.ofNat rr), vu, vu, vu] []))
       refine own_go (fun _ Kk => XS.iload X46.here hx rfl (hb hby at_461) rfl (XS.bipush X46.here hx rfl (hb hby at_463) Kk)) ?_
       by_cases hc465_64 : (57 : Int32) < ch
       ·
        refine own_go (fun _ Kk => XS.icmpNo X46.here hx rfl (hb hby at_465) rfl (tlt hc465_64).2.2.2 Kk) ?_
        show own_G _ _ _ _ (T46.setTop (mkF m 468 #[vl q0, v2, vl q1, v2, vi p2, vr b1, vi 0, vi z42, vi pa, vi pb, vi (Int32.ofNat (0 + rr)), vi ch, vi 0, vi (Int32.ofNat rr), vu, vu, vu] []))
        refine own_go (fun _ Kk => XS.iconst X46.here hx rfl (hb hby at_468) (XS.goto X46.here hx rfl (pc0 := 469) (pc' := 473) rfl (hb hby at_469) (by decide) (by decide) (XS.istore X46.here hx rfl (hb hby at_473) rfl (l' := #[vl q0, v2, vl q1, v2, vi p2, vr b1, vi 0, vi z42, vi pa, vi pb, vi (Int32.ofNat (0 + rr)), vi ch, vi 1, vi (Int32.ofNat rr), vu, vu, vu]) rfl Kk))) ?_
        show own_G _ _ _ _ (T46.setTop (mkF m 475 #[vl q0, v2, vl q1, v2, vi p2, vr b1, vi 0, vi z42, vi pa, vi pb, vi (Int32.ofNat (0 + rr)), vi ch, vi 1, vi (Int32.ofNat rr), vu, vu, vu] []))
        show own_G _ _ _ _ (T46.setTop (mkF m 475 #[vl q0, v2, vl q1, v2, vi p2, vr b1, vi 0, vi z42, vi pa, vi pb, vi (Int32.ofNat (0 + rr)), vi ch, vi 1, vi (Int32.ofNat rr), vu, vu, vu] []))
        have Q65 := ((((((((((((((((((((((SS.ext E1).wr W5).wr W7).wr W9).wr W11).wr W13).wr W15).wr W17).wr W19).wr W21).wr W23).wr W25).wr W27).wr W28).wr W30).wr W32).wr W34).wr W36).wr W38).wr W40).wr W41).wr W46)
        have Q66 := (B41.wr W46)
        exact own_mid0 hw CC (cs := (cs0.set (0 + rr) ch)) ⟨_, _, X46, e46, N46, Z48, R47, hk47, Q65, Q66, (own_V20 V46 ((List.length_set ..).trans hl0)), ((List.length_set ..).trans hl0), (own_rgset hrg0 hch)⟩ (Or.inr ⟨_, rfl⟩) (Or.inl ⟨rfl, own_lay_no hlay0 (by decide) hk20 (fun z => ((own_okd hr8 hr15).mp z).2 hc465_64)⟩)
       ·
        refine own_go (fun _ Kk => XS.icmpYes X46.here hx rfl (pc0 := 465) (pc' := 472) rfl (hb hby at_465) rfl (flt hc465_64).2.2.2 (by decide) (by decide) Kk) ?_
        show own_G _ _ _ _ (T46.setTop (mkF m 472 #[vl q0, v2, vl q1, v2, vi p2, vr b1, vi 0, vi z42, vi pa, vi pb, vi (Int32.ofNat (0 + rr)), vi ch, vi 0, vi (Int32.ofNat rr), vu, vu, vu] []))
        refine own_go (fun _ Kk => XS.iconst X46.here hx rfl (hb hby at_472) (XS.istore X46.here hx rfl (hb hby at_473) rfl (l' := #[vl q0, v2, vl q1, v2, vi p2, vr b1, vi 0, vi z42, vi pa, vi pb, vi (Int32.ofNat (0 + rr)), vi ch, vi 0, vi (Int32.ofNat rr), vu, vu, vu]) rfl Kk)) ?_
        show own_G _ _ _ _ (T46.setTop (mkF m 475 #[vl q0, v2, vl q1, v2, vi p2, vr b1, vi 0, vi z42, vi pa, vi pb, vi (Int32.ofNat (0 + rr)), vi ch, vi 0, vi (Int32.ofNat rr), vu, vu, vu] []))
        show own_G _ _ _ _ (T46.setTop (mkF m 475 #[vl q0, v2, vl q1, v2, vi p2, vr b1, vi 0, vi z42, vi pa, vi pb, vi (Int32.ofNat (0 + rr)), vi ch, vi 0, vi (Int32.ofNat rr), vu, vu, vu] []))
        have Q67 := ((((((((((((((((((((((SS.ext E1).wr W5).wr W7).wr W9).wr W11).wr W13).wr W15).wr W17).wr W19).wr W21).wr W23).wr W25).wr W27).wr W28).wr W30).wr W32).wr W34).wr W36).wr W38).wr W40).wr W41).wr W46)
        have Q68 := (B41.wr W46)
        exact own_mid0 hw CC (cs := (cs0.set (0 + rr) ch)) ⟨_, _, X46, e46, N46, Z48, R47, hk47, Q67, Q68, (own_V20 V46 ((List.length_set ..).trans hl0)), ((List.length_set ..).trans hl0), (own_rgset hrg0 hch)⟩ (Or.inr ⟨_, rfl⟩) (Or.inr ⟨rfl, own_lay_ok hlay0 hk20 ((own_okd hr8 hr15).mpr ⟨hc458_61, hc465_64⟩)⟩)
  ·
   have hk20 : ¬ kn < 20 := mt (own_ltn (b := 20) (by omega) (by decide)).mpr hc384_45
   refine own_go (fun _ Kk => XS.icmpYes X41.here hx rfl (pc0 := 384) (pc' := 475) rfl (hb hby at_384) rfl (flt hc384_45).2.1 (by decide) (by decide) Kk) ?_
   show own_G _ _ _ _ (T41.setTop (mkF m 475 #[vl q0, v2, vl q1, v2, vi p2, vr b1, vi 0, vi z42, vi pa, vi pb, vi (Int32.ofNat kn), vi ch, vi 0, vu, vu, vu, vu] []))
   show own_G _ _ _ _ (T41.setTop (mkF m 475 #[vl q0, v2, vl q1, v2, vi p2, vr b1, vi 0, vi z42, vi pa, vi pb, vi (Int32.ofNat kn), vi ch, vi 0, vu, vu, vu, vu] []))
   have Q69 := (((((((((((((((((((((SS.ext E1).wr W5).wr W7).wr W9).wr W11).wr W13).wr W15).wr W17).wr W19).wr W21).wr W23).wr W25).wr W27).wr W28).wr W30).wr W32).wr W34).wr W36).wr W38).wr W40).wr W41)
   exact own_mid0 hw CC (cs := cs0) ⟨_, _, X41, e41, N41, Z41, R41, hk41, Q69, B41, (own_V20 VA hl0), hl0, hrg0⟩ (Or.inl rfl) (Or.inr ⟨rfl, hlay0⟩)
 ·
  show own_G _ _ _ _ (T41.setTop (mkF m 304 #[vl q0, v2, vl q1, v2, vi p2, vr b1, vi 1, vi z42, vi pa, vi pb, vu, vu, vu, vu, vu, vu, vu] []))
  refine own_go (fun _ Kk => XS.iload X41.here hx rfl (hb hby at_304) rfl (XS.iconst X41.here hx rfl (hb hby at_306) (XS.icmpNo X41.here hx rfl (hb hby at_307) rfl (by decide) (XS.aload X41.here hx rfl (hb hby at_310) rfl rfl (XS.iconst X41.here hx rfl (hb hby at_312) Kk))))) ?_
  show own_G _ _ _ _ (T41.setTop (mkF m 313 #[vl q0, v2, vl q1, v2, vi p2, vr b1, vi 1, vi z42, vi pa, vi pb, vu, vu, vu, vu, vu, vu, vu] [.int 0, .ref b1]))
  refine own_go (fun _ Kk => XS.iload X41.here hx rfl (hb hby at_313) rfl Kk) ?_
  obtain ⟨z70, hz70⟩ : ∃ z : Int32, z = (if ¬ ((((q1.toUInt64 >>> ((39 : Int32) &&& 0x3f).toInt64.toUInt64).toInt64) &&& (1 : Int64)) = (0 : Int64)) then (45 : Int32) else pa) := ⟨_, rfl⟩
  suffices Jz70 : own_G p e below (K_0 Z q0 q1 p2 zc fm h0 n0 s) (T41.setTop (mkF m 325 #[vl q0, v2, vl q1, v2, vi p2, vr b1, vi 1, vi z42, vi pa, vi pb, vu, vu, vu, vu, vu, vu, vu] [.int z70, .int 0, .ref b1])) by
   by_cases hc315_71 : ¬ ((((q1.toUInt64 >>> ((39 : Int32) &&& 0x3f).toInt64.toUInt64).toInt64) &&& (1 : Int64)) = (0 : Int64))
   ·
    rw [if_pos hc315_71] at hz70
    refine own_go (fun _ Kk => XS.ifNo X41.here hx rfl (hb hby at_315) rfl ((if0 _ _).trans (feq (own_b1 (own_bn hz42) hc315_71)).1) Kk) ?_
    show own_G _ _ _ _ (T41.setTop (mkF m 318 #[vl q0, v2, vl q1, v2, vi p2, vr b1, vi 1, vi z42, vi pa, vi pb, vu, vu, vu, vu, vu, vu, vu] [.int 0, .ref b1]))
    refine own_go (fun _ Kk => XS.bipush X41.here hx rfl (hb hby at_318) (XS.goto X41.here hx rfl (pc0 := 320) (pc' := 325) rfl (hb hby at_320) (by decide) (by decide) Kk)) ?_
    show own_G _ _ _ _ (T41.setTop (mkF m 325 #[vl q0, v2, vl q1, v2, vi p2, vr b1, vi 1, vi z42, vi pa, vi pb, vu, vu, vu, vu, vu, vu, vu] [.int 45, .int 0, .ref b1]))
    subst hz70; exact Jz70
   ·
    rw [if_neg hc315_71] at hz70
    refine own_go (fun _ Kk => XS.ifYes X41.here hx rfl (pc0 := 315) (pc' := 323) rfl (hb hby at_315) rfl ((if0 _ _).trans (teq (own_b0 (own_bn hz42) hc315_71)).1) (by decide) (by decide) Kk) ?_
    show own_G _ _ _ _ (T41.setTop (mkF m 323 #[vl q0, v2, vl q1, v2, vi p2, vr b1, vi 1, vi z42, vi pa, vi pb, vu, vu, vu, vu, vu, vu, vu] [.int 0, .ref b1]))
    refine own_go (fun _ Kk => XS.iload X41.here hx rfl (hb hby at_323) rfl Kk) ?_
    show own_G _ _ _ _ (T41.setTop (mkF m 325 #[vl q0, v2, vl q1, v2, vi p2, vr b1, vi 1, vi z42, vi pa, vi pb, vu, vu, vu, vu, vu, vu, vu] [.int pa, .int 0, .ref b1]))
    subst hz70; exact Jz70
  have hr_z70 : ¬ z70 < 0 ∧ ¬ (65535 : Int32) < z70 := by rw [hz70]; split <;> first | exact ⟨by decide, by decide⟩ | exact hpa
  refine own_sC X41 hx hZ e41 V41 lu41 hr_z70 0 rfl (by decide) ⟨by decide, by decide⟩ N41 g_b1 B41 R41 hk41 Z41 (hb hby at_325) ?_
  intro T72 h72 u72 L72 X72 e72 hu72 V72 lu72 N72 R72 hk72 Z72 B72 W72
  refine own_go (fun _ Kk => XS.iload X72.here hx rfl (hb hby at_326) rfl (XS.iconst X72.here hx rfl (hb hby at_328) (XS.icmpYes X72.here hx rfl (pc0 := 329) (pc' := 354) rfl (hb hby at_329) rfl (by decide) (by decide) (by decide) Kk))) ?_
  show own_G _ _ _ _ (T72.setTop (mkF m 354 #[vl q0, v2, vl q1, v2, vi p2, vr b1, vi 1, vi z42, vi pa, vi pb, vu, vu, vu, vu, vu, vu, vu] []))
  refine own_go (fun _ Kk => XS.lloadN X72.here hx rfl (hb hby at_354) rfl (XS.bipush X72.here hx rfl (hb hby at_355) (XS.lushr X72.here hx rfl (hb hby at_357) rfl Kk))) ?_
  refine own_go (X72.ldc2Long hx hown (mvT hZ (hw 8 rfl)) (g := (mkF m 358 #[vl q0, v2, vl q1, v2, vi p2, vr b1, vi 1, vi z42, vi pa, vi pb, vu, vu, vu, vu, vu, vu, vu] [.long ((q1.toUInt64 >>> ((18 : Int32) &&& 0x3f).toInt64.toUInt64).toInt64)])) rfl (hb hby at_358)) ?_
  refine own_go (fun _ Kk => XS.land X72.here hx rfl (hb hby at_361) rfl Kk) ?_
  show own_G _ _ _ _ (T72.setTop (mkF m 362 #[vl q0, v2, vl q1, v2, vi p2, vr b1, vi 1, vi z42, vi pa, vi pb, vu, vu, vu, vu, vu, vu, vu] [.long (((q1.toUInt64 >>> ((18 : Int32) &&& 0x3f).toInt64.toUInt64).toInt64) &&& (31 : Int64))]))
  refine own_go (fun _ Kk => XS.l2i X72.here hx rfl (hb hby at_362) rfl Kk) ?_
  obtain ⟨kn, hkn, hke⟩ : ∃ kn : Nat, kn < 32 ∧ ((((q1.toUInt64 >>> ((18 : Int32) &&& 0x3f).toInt64.toUInt64).toInt64) &&& (31 : Int64)).toInt32) = Int32.ofNat kn := own_k32 _
  show own_G _ _ _ _ (T72.setTop (mkF m 363 #[vl q0, v2, vl q1, v2, vi p2, vr b1, vi 1, vi z42, vi pa, vi pb, vu, vu, vu, vu, vu, vu, vu] [.int ((((q1.toUInt64 >>> ((18 : Int32) &&& 0x3f).toInt64.toUInt64).toInt64) &&& (31 : Int64)).toInt32)]))
  rw [show ((((q1.toUInt64 >>> ((18 : Int32) &&& 0x3f).toInt64.toUInt64).toInt64) &&& (31 : Int64)).toInt32) = (Int32.ofNat kn) from hke]
  refine own_go (fun _ Kk => XS.istore X72.here hx rfl (hb hby at_363) rfl (l' := #[vl q0, v2, vl q1, v2, vi p2, vr b1, vi 1, vi z42, vi pa, vi pb, vi (Int32.ofNat kn), vu, vu, vu, vu, vu, vu]) rfl (XS.lloadN X72.here hx rfl (hb hby at_365) rfl (XS.bipush X72.here hx rfl (hb hby at_366) (XS.lushr X72.here hx rfl (hb hby at_368) rfl Kk)))) ?_
  show own_G _ _ _ _ (T72.setTop (mkF m 369 #[vl q0, v2, vl q1, v2, vi p2, vr b1, vi 1, vi z42, vi pa, vi pb, vi (Int32.ofNat kn), vu, vu, vu, vu, vu, vu] [.long ((q1.toUInt64 >>> ((23 : Int32) &&& 0x3f).toInt64.toUInt64).toInt64)]))
  refine own_go (X72.ldc2Long hx hown (mvT hZ (hw 9 rfl)) (g := (mkF m 369 #[vl q0, v2, vl q1, v2, vi p2, vr b1, vi 1, vi z42, vi pa, vi pb, vi (Int32.ofNat kn), vu, vu, vu, vu, vu, vu] [.long ((q1.toUInt64 >>> ((23 : Int32) &&& 0x3f).toInt64.toUInt64).toInt64)])) rfl (hb hby at_369)) ?_
  refine own_go (fun _ Kk => XS.land X72.here hx rfl (hb hby at_372) rfl (XS.l2i X72.here hx rfl (hb hby at_373) rfl (XS.i2c X72.here hx rfl (hb hby at_374) rfl Kk))) ?_
  obtain ⟨ch, hch, hech⟩ : ∃ z : Int32, (¬ z < 0 ∧ ¬ (65535 : Int32) < z) ∧ (((((q1.toUInt64 >>> ((23 : Int32) &&& 0x3f).toInt64.toUInt64).toInt64) &&& (65535 : Int64)).toInt32).toUInt32.toUInt16.toUInt32.toInt32) = z := own_c16 _
  show own_G _ _ _ _ (T72.setTop (mkF m 375 #[vl q0, v2, vl q1, v2, vi p2, vr b1, vi 1, vi z42, vi pa, vi pb, vi (Int32.ofNat kn), vu, vu, vu, vu, vu, vu] [.int (((((q1.toUInt64 >>> ((23 : Int32) &&& 0x3f).toInt64.toUInt64).toInt64) &&& (65535 : Int64)).toInt32).toUInt32.toUInt16.toUInt32.toInt32)]))
  rw [show (((((q1.toUInt64 >>> ((23 : Int32) &&& 0x3f).toInt64.toUInt64).toInt64) &&& (65535 : Int64)).toInt32).toUInt32.toUInt16.toUInt32.toInt32) = ch from hech]
  refine own_go (fun _ Kk => XS.istore X72.here hx rfl (hb hby at_375) rfl (l' := #[vl q0, v2, vl q1, v2, vi p2, vr b1, vi 1, vi z42, vi pa, vi pb, vi (Int32.ofNat kn), vi ch, vu, vu, vu, vu, vu]) rfl (XS.iconst X72.here hx rfl (hb hby at_377) (XS.istore X72.here hx rfl (hb hby at_378) rfl (l' := #[vl q0, v2, vl q1, v2, vi p2, vr b1, vi 1, vi z42, vi pa, vi pb, vi (Int32.ofNat kn), vi ch, vi 0, vu, vu, vu, vu]) rfl Kk))) ?_
  show own_G _ _ _ _ (T72.setTop (mkF m 380 #[vl q0, v2, vl q1, v2, vi p2, vr b1, vi 1, vi z42, vi pa, vi pb, vi (Int32.ofNat kn), vi ch, vi 0, vu, vu, vu, vu] []))
  have fu5 : u5 = [.int 0, .int 0, .int 0, .int 0, .int 0, .int 0, .int 0, .int 0, .int 0, .int 0, .int 0, .int 0, .int 0, .int 0, .int 0, .int 0, .int z4, .int 0, .int 0, .int 0] := by rw [hu5]; rfl
  have fu7 : u7 = [.int 0, .int 0, .int 0, .int 0, .int 0, .int 0, .int 0, .int 0, .int 0, .int 0, .int 0, .int 0, .int 0, .int 0, .int 0, .int 0, .int z4, .int z6, .int 0, .int 0] := by rw [hu7, fu5]; rfl
  have fu9 : u9 = [.int 0, .int 0, .int 0, .int 0, .int 0, .int 0, .int 0, .int 0, .int 0, .int 0, .int 0, .int 0, .int 0, .int 0, .int 0, .int 0, .int z4, .int z6, .int z8, .int 0] := by rw [hu9, fu7]; rfl
  have fu11 : u11 = [.int 0, .int 0, .int 0, .int 0, .int 0, .int 0, .int 0, .int 0, .int 0, .int 0, .int 0, .int 0, .int 0, .int 0, .int 0, .int 0, .int z4, .int z6, .int z8, .int z10] := by rw [hu11, fu9]; rfl
  have fu13 : u13 = [.int 0, .int z12, .int 0, .int 0, .int 0, .int 0, .int 0, .int 0, .int 0, .int 0, .int 0, .int 0, .int 0, .int 0, .int 0, .int 0, .int z4, .int z6, .int z8, .int z10] := by rw [hu13, fu11]; rfl
  have fu15 : u15 = [.int 0, .int z12, .int z14, .int 0, .int 0, .int 0, .int 0, .int 0, .int 0, .int 0, .int 0, .int 0, .int 0, .int 0, .int 0, .int 0, .int z4, .int z6, .int z8, .int z10] := by rw [hu15, fu13]; rfl
  have fu17 : u17 = [.int 0, .int z12, .int z14, .int z16, .int 0, .int 0, .int 0, .int 0, .int 0, .int 0, .int 0, .int 0, .int 0, .int 0, .int 0, .int 0, .int z4, .int z6, .int z8, .int z10] := by rw [hu17, fu15]; rfl
  have fu19 : u19 = [.int 0, .int z12, .int z14, .int z16, .int z18, .int 0, .int 0, .int 0, .int 0, .int 0, .int 0, .int 0, .int 0, .int 0, .int 0, .int 0, .int z4, .int z6, .int z8, .int z10] := by rw [hu19, fu17]; rfl
  have fu21 : u21 = [.int 0, .int z12, .int z14, .int z16, .int z18, .int z20, .int 0, .int 0, .int 0, .int 0, .int 0, .int 0, .int 0, .int 0, .int 0, .int 0, .int z4, .int z6, .int z8, .int z10] := by rw [hu21, fu19]; rfl
  have fu23 : u23 = [.int 0, .int z12, .int z14, .int z16, .int z18, .int z20, .int z22, .int 0, .int 0, .int 0, .int 0, .int 0, .int 0, .int 0, .int 0, .int 0, .int z4, .int z6, .int z8, .int z10] := by rw [hu23, fu21]; rfl
  have fu25 : u25 = [.int 0, .int z12, .int z14, .int z16, .int z18, .int z20, .int z22, .int z24, .int 0, .int 0, .int 0, .int 0, .int 0, .int 0, .int 0, .int 0, .int z4, .int z6, .int z8, .int z10] := by rw [hu25, fu23]; rfl
  have fu27 : u27 = [.int 0, .int z12, .int z14, .int z16, .int z18, .int z20, .int z22, .int z24, .int z26, .int 0, .int 0, .int 0, .int 0, .int 0, .int 0, .int 0, .int z4, .int z6, .int z8, .int z10] := by rw [hu27, fu25]; rfl
  have fu28 : u28 = [.int 0, .int z12, .int z14, .int z16, .int z18, .int z20, .int z22, .int z24, .int z26, .int 46, .int 0, .int 0, .int 0, .int 0, .int 0, .int 0, .int z4, .int z6, .int z8, .int z10] := by rw [hu28, fu27]; rfl
  have fu30 : u30 = [.int 0, .int z12, .int z14, .int z16, .int z18, .int z20, .int z22, .int z24, .int z26, .int 46, .int z29, .int 0, .int 0, .int 0, .int 0, .int 0, .int z4, .int z6, .int z8, .int z10] := by rw [hu30, fu28]; rfl
  have fu32 : u32 = [.int 0, .int z12, .int z14, .int z16, .int z18, .int z20, .int z22, .int z24, .int z26, .int 46, .int z29, .int z31, .int 0, .int 0, .int 0, .int 0, .int z4, .int z6, .int z8, .int z10] := by rw [hu32, fu30]; rfl
  have fu34 : u34 = [.int 0, .int z12, .int z14, .int z16, .int z18, .int z20, .int z22, .int z24, .int z26, .int 46, .int z29, .int z31, .int z33, .int 0, .int 0, .int 0, .int z4, .int z6, .int z8, .int z10] := by rw [hu34, fu32]; rfl
  have fu36 : u36 = [.int 0, .int z12, .int z14, .int z16, .int z18, .int z20, .int z22, .int z24, .int z26, .int 46, .int z29, .int z31, .int z33, .int z35, .int 0, .int 0, .int z4, .int z6, .int z8, .int z10] := by rw [hu36, fu34]; rfl
  have fu38 : u38 = [.int 0, .int z12, .int z14, .int z16, .int z18, .int z20, .int z22, .int z24, .int z26, .int 46, .int z29, .int z31, .int z33, .int z35, .int z37, .int 0, .int z4, .int z6, .int z8, .int z10] := by rw [hu38, fu36]; rfl
  have fu40 : u40 = [.int 0, .int z12, .int z14, .int z16, .int z18, .int z20, .int z22, .int z24, .int z26, .int 46, .int z29, .int z31, .int z33, .int z35, .int z37, .int z39, .int z4, .int z6, .int z8, .int z10] := by rw [hu40, fu38]; rfl
  have fu41 : u41 = [.int 0, .int z12, .int z14, .int z16, .int z18, .int z20, .int z22, .int z24, .int z26, .int 46, .int z29, .int z31, .int z33, .int z35, .int z37, .int z39, .int 45, .int z6, .int z8, .int z10] := by rw [hu41, fu40]; rfl
  have fu72 : u72 = [.int z70, .int z12, .int z14, .int z16, .int z18, .int z20, .int z22, .int z24, .int z26, .int 46, .int z29, .int z31, .int z33, .int z35, .int z37, .int z39, .int 45, .int z6, .int z8, .int z10] := by rw [hu72, fu41]; rfl
  have VF73 := V72
  rw [fu72] at VF73
  obtain ⟨cs0, hcs0⟩ : ∃ cs0 : List Int32, cs0 = [z70, z12, z14, z16, z18, z20, z22, z24, z26, (46 : Int32), z29, z31, z33, z35, z37, z39, (45 : Int32), z6, z8, z10] := ⟨_, rfl⟩
  have hl0 : cs0.length = 20 := by rw [hcs0]; rfl
  have hrg0 : ∀ c ∈ cs0, ¬ c < 0 ∧ ¬ (65535 : Int32) < c := by rw [hcs0]; exact (own_rgc hr_z70 (own_rgc (own_drg x12_0) (own_rgc (own_drg x14_0) (own_rgc (own_drg x16_0) (own_rgc (own_drg x18_0) (own_rgc (own_drg x20_0) (own_rgc (own_drg x22_0) (own_rgc (own_drg x24_0) (own_rgc (own_drg x26_0) (own_rgc ⟨by decide, by decide⟩ (own_rgc (own_drg x29_0) (own_rgc (own_drg x31_0) (own_rgc (own_drg x33_0) (own_rgc (own_drg x35_0) (own_rgc (own_drg x37_0) (own_rgc (own_drg x39_0) (own_rgc ⟨by decide, by decide⟩ (own_rgc (own_drg x6_0) (own_rgc (own_drg x8_0) (own_rgc (own_drg x10_0) own_rgn))))))))))))))))))))
  have hlay0 : own_lay 1 cs0 := by rw [hcs0]; exact own_lay_of [z70] [z12, z14, z16, z18, z20, z22, z24, z26, (46 : Int32), z29, z31, z33, z35, z37, z39, (45 : Int32), z6, z8, z10] (own_lac ((own_okd (by decide) (by decide)).mpr x12_0) (own_lac ((own_okd (by decide) (by decide)).mpr x14_0) (own_lac ((own_okd (by decide) (by decide)).mpr x16_0) (own_lac ((own_okd (by decide) (by decide)).mpr x18_0) (own_lac ((own_okd (by decide) (by decide)).mpr x20_0) (own_lac ((own_okd (by decide) (by decide)).mpr x22_0) (own_lac ((own_okd (by decide) (by decide)).mpr x24_0) (own_lac ((own_okd (by decide) (by decide)).mpr x26_0) (own_lac (own_ok8.mpr rfl) (own_lac ((own_okd (by decide) (by decide)).mpr x29_0) (own_lac ((own_okd (by decide) (by decide)).mpr x31_0) (own_lac ((own_okd (by decide) (by decide)).mpr x33_0) (own_lac ((own_okd (by decide) (by decide)).mpr x35_0) (own_lac ((own_okd (by decide) (by decide)).mpr x37_0) (own_lac ((own_okd (by decide) (by decide)).mpr x39_0) (own_lac (own_ok15.mpr rfl) (own_lac ((own_okd (by decide) (by decide)).mpr x6_0) (own_lac ((own_okd (by decide) (by decide)).mpr x8_0) (own_lac ((own_okd (by decide) (by decide)).mpr x10_0) own_lan))))))))))))))))))) rfl
  have VA : Arv Z h72 b1 k1 .char (20 : Int32) (cs0.map Value.int) (.int (0 : Int32)) := by rw [hcs0]; exact VF73
  show own_G _ _ _ _ (T72.setTop (mkF m 380 #[vl q0, v2, vl q1, v2, vi p2, vr b1, vi 1, vi z42, vi pa, vi pb, vi (Int32.ofNat kn), vi ch, vi 0, vu, vu, vu, vu] []))
  refine own_go (fun _ Kk => XS.iload X72.here hx rfl (hb hby at_380) rfl (XS.bipush X72.here hx rfl (hb hby at_382) Kk)) ?_
  by_cases hc384_74 : (Int32.ofNat kn) < (20 : Int32)
  ·
   have hk20 : kn < 20 := (own_ltn (b := 20) (by omega) (by decide)).mp hc384_74
   refine own_go (fun _ Kk => XS.icmpNo X72.here hx rfl (hb hby at_384) rfl (tlt hc384_74).2.1 Kk) ?_
   show own_G _ _ _ _ (T72.setTop (mkF m 387 #[vl q0, v2, vl q1, v2, vi p2, vr b1, vi 1, vi z42, vi pa, vi pb, vi (Int32.ofNat kn), vi ch, vi 0, vu, vu, vu, vu] []))
   refine own_go (fun _ Kk => XS.aload X72.here hx rfl (hb hby at_387) rfl rfl (XS.iload X72.here hx rfl (hb hby at_389) rfl (XS.iload X72.here hx rfl (hb hby at_391) rfl Kk))) ?_
   obtain ⟨cl75, Ar75, q75, Sz75, Nn75, Hh75, Gg75⟩ := id VA
   have hin75 : ¬ ((Int32.ofNat kn) < 0 ∨ cl75.slots.size ≤ ((Int32.ofNat kn)).toNatClampNeg) := inb_of Sz75 ⟨own_onn kn (Nat.le_trans (Nat.le_of_lt hkn) (by decide)), (own_ltn (b := 20) (Nat.le_trans (Nat.le_of_lt hkn) (by decide)) (by decide)).mpr hk20⟩
   obtain ⟨T75, h75, X75, e75, W75, st75⟩ := stC X72 hx hZ e72 Ar75 (j := (Int32.ofNat kn)) hin75 (g := (mkF m 393 #[vl q0, v2, vl q1, v2, vi p2, vr b1, vi 1, vi z42, vi pa, vi pb, vi (Int32.ofNat kn), vi ch, vi 0, vu, vu, vu, vu] [.int ch, .int (Int32.ofNat kn), .ref b1])) rfl rfl (hb hby at_393)
   refine own_go st75 ?_
   have V75 : Arv Z h75 b1 k1 .char (20 : Int32) ((cs0.set kn ch).map Value.int) (.int (0 : Int32)) := by have q := (Arv.set Ar75 q75 Sz75 Nn75 Hh75 Gg75 (fits_nar_char _) W75 kn (own_onc kn (Nat.le_trans (Nat.le_of_lt hkn) (by decide))) (by rw [List.length_map, hl0]; exact hk20)); rw [own_narc (c := ch) hch.1 hch.2] at q; rw [List.map_set]; exact q
   have N75 := Fr.snoc X75 N72 g_b1
   have R76 := CHr.trans R72 (CHr.wr W75 (Safe.exa hZ.alike B72 (by decide) (by decide)) R72.1)
   have hk76 := Nat.le_trans hk72 (Keep.of_wr W75).1
   have Z77 : n0 ≤ h75.size := Nat.le_trans Z72 (Keep.of_wr W75).1
   refine own_go (fun _ Kk => XS.iload X75.here hx rfl (hb hby at_394) rfl Kk) ?_
   show own_G _ _ _ _ (T75.setTop (mkF m 396 #[vl q0, v2, vl q1, v2, vi p2, vr b1, vi 1, vi z42, vi pa, vi pb, vi (Int32.ofNat kn), vi ch, vi 0, vu, vu, vu, vu] [.int (Int32.ofNat kn)]))
   refine own_go (fun _ Kk => XS.iload X75.here hx rfl (hb hby at_396) rfl (XS.isub X75.here hx rfl (hb hby at_398) rfl Kk)) ?_
   show own_G _ _ _ _ (T75.setTop (mkF m 399 #[vl q0, v2, vl q1, v2, vi p2, vr b1, vi 1, vi z42, vi pa, vi pb, vi (Int32.ofNat kn), vi ch, vi 0, vu, vu, vu, vu] [.int ((Int32.ofNat kn) - (1 : Int32))]))
   rcases Nat.lt_or_ge kn 1 with hkl | hkl
   ·
    show own_G _ _ _ _ (T75.setTop (mkF m 399 #[vl q0, v2, vl q1, v2, vi p2, vr b1, vi 1, vi z42, vi pa, vi pb, vi (Int32.ofNat kn), vi ch, vi 0, vu, vu, vu, vu] [.int ((Int32.ofNat kn) - (1 : Int32))]))
    refine own_go (fun _ Kk => XS.istore X75.here hx rfl (hb hby at_399) rfl (l' := #[vl q0, v2, vl q1, v2, vi p2, vr b1, vi 1, vi z42, vi pa, vi pb, vi (Int32.ofNat kn), vi ch, vi 0, vi ((Int32.ofNat kn) - (1 : Int32)), vu, vu, vu]) rfl (XS.iload X75.here hx rfl (hb hby at_401) rfl (XS.ifYes X75.here hx rfl (pc0 := 403) (pc' := 475) rfl (hb hby at_403) rfl ((if0 _ _).trans (tlt (own_sublt kn 1 (by omega) (by decide) hkl)).1) (by decide) (by decide) Kk))) ?_
    show own_G _ _ _ _ (T75.setTop (mkF m 475 #[vl q0, v2, vl q1, v2, vi p2, vr b1, vi 1, vi z42, vi pa, vi pb, vi (Int32.ofNat kn), vi ch, vi 0, vi ((Int32.ofNat kn) - (1 : Int32)), vu, vu, vu] []))
    show own_G _ _ _ _ (T75.setTop (mkF m 475 #[vl q0, v2, vl q1, v2, vi p2, vr b1, vi 1, vi z42, vi pa, vi pb, vi (Int32.ofNat kn), vi ch, vi 0, vi ((Int32.ofNat kn) - (1 : Int32)), vu, vu, vu] []))
    have Q78 := (((((((((((((((((((((((SS.ext E1).wr W5).wr W7).wr W9).wr W11).wr W13).wr W15).wr W17).wr W19).wr W21).wr W23).wr W25).wr W27).wr W28).wr W30).wr W32).wr W34).wr W36).wr W38).wr W40).wr W41).wr W72).wr W75)
    have Q79 := (B72.wr W75)
    exact own_mid1 hw CC (cs := (cs0.set kn ch)) ⟨_, _, X75, e75, N75, Z77, R76, hk76, Q78, Q79, (own_V20 V75 ((List.length_set ..).trans hl0)), ((List.length_set ..).trans hl0), (own_rgset hrg0 hch)⟩ (Or.inr ⟨_, rfl⟩) (Or.inr ⟨rfl, own_lay_lt hlay0 hkl (by decide)⟩)
   ·
    obtain ⟨rr, rfl⟩ : ∃ rr, kn = 1 + rr := ⟨kn - 1, by omega⟩
    rw [show ((Int32.ofNat (1 + rr)) - (1 : Int32)) = Int32.ofNat rr from (own_subn (1 + rr) 1 (by omega) (by omega)).trans (by rw [Nat.add_sub_cancel_left])]
    show own_G _ _ _ _ (T75.setTop (mkF m 399 #[vl q0, v2, vl q1, v2, vi p2, vr b1, vi 1, vi z42, vi pa, vi pb, vi (Int32.ofNat (1 + rr)), vi ch, vi 0, vu, vu, vu, vu] [.int (Int32.ofNat rr)]))
    refine own_go (fun _ Kk => XS.istore X75.here hx rfl (hb hby at_399) rfl (l' := #[vl q0, v2, vl q1, v2, vi p2, vr b1, vi 1, vi z42, vi pa, vi pb, vi (Int32.ofNat (1 + rr)), vi ch, vi 0, vi (Int32.ofNat rr), vu, vu, vu]) rfl (XS.iload X75.here hx rfl (hb hby at_401) rfl (XS.ifNo X75.here hx rfl (hb hby at_403) rfl ((if0 _ _).trans (flt (own_onn rr (by omega))).1) (XS.iload X75.here hx rfl (hb hby at_406) rfl (XS.bipush X75.here hx rfl (hb hby at_408) Kk))))) ?_
    show own_G _ _ _ _ (T75.setTop (mkF m 410 #[vl q0, v2, vl q1, v2, vi p2, vr b1, vi 1, vi z42, vi pa, vi pb, vi (Int32.ofNat (1 + rr)), vi ch, vi 0, vi (Int32.ofNat rr), vu, vu, vu] [.int 8, .int (Int32.ofNat rr)]))
    by_cases hc410_80 : (Int32.ofNat rr) = (8 : Int32)
    ·
     have hr8 : rr = 8 := own_inj (b := 8) (by omega) (by decide) hc410_80
     refine own_go (fun _ Kk => XS.icmpNo X75.here hx rfl (hb hby at_410) rfl (teq hc410_80).2 Kk) ?_
     show own_G _ _ _ _ (T75.setTop (mkF m 413 #[vl q0, v2, vl q1, v2, vi p2, vr b1, vi 1, vi z42, vi pa, vi pb, vi (Int32.ofNat (1 + rr)), vi ch, vi 0, vi (Int32.ofNat rr), vu, vu, vu] []))
     refine own_go (fun _ Kk => XS.iload X75.here hx rfl (hb hby at_413) rfl (XS.bipush X75.here hx rfl (hb hby at_415) Kk)) ?_
     by_cases hc417_81 : ch = (46 : Int32)
     ·
      refine own_go (fun _ Kk => XS.icmpYes X75.here hx rfl (pc0 := 417) (pc' := 424) rfl (hb hby at_417) rfl (teq hc417_81).1 (by decide) (by decide) Kk) ?_
      show own_G _ _ _ _ (T75.setTop (mkF m 424 #[vl q0, v2, vl q1, v2, vi p2, vr b1, vi 1, vi z42, vi pa, vi pb, vi (Int32.ofNat (1 + rr)), vi ch, vi 0, vi (Int32.ofNat rr), vu, vu, vu] []))
      refine own_go (fun _ Kk => XS.iconst X75.here hx rfl (hb hby at_424) (XS.istore X75.here hx rfl (hb hby at_425) rfl (l' := #[vl q0, v2, vl q1, v2, vi p2, vr b1, vi 1, vi z42, vi pa, vi pb, vi (Int32.ofNat (1 + rr)), vi ch, vi 0, vi (Int32.ofNat rr), vu, vu, vu]) rfl (XS.goto X75.here hx rfl (pc0 := 427) (pc' := 475) rfl (hb hby at_427) (by decide) (by decide) Kk))) ?_
      show own_G _ _ _ _ (T75.setTop (mkF m 475 #[vl q0, v2, vl q1, v2, vi p2, vr b1, vi 1, vi z42, vi pa, vi pb, vi (Int32.ofNat (1 + rr)), vi ch, vi 0, vi (Int32.ofNat rr), vu, vu, vu] []))
      show own_G _ _ _ _ (T75.setTop (mkF m 475 #[vl q0, v2, vl q1, v2, vi p2, vr b1, vi 1, vi z42, vi pa, vi pb, vi (Int32.ofNat (1 + rr)), vi ch, vi 0, vi (Int32.ofNat rr), vu, vu, vu] []))
      have Q82 := (((((((((((((((((((((((SS.ext E1).wr W5).wr W7).wr W9).wr W11).wr W13).wr W15).wr W17).wr W19).wr W21).wr W23).wr W25).wr W27).wr W28).wr W30).wr W32).wr W34).wr W36).wr W38).wr W40).wr W41).wr W72).wr W75)
      have Q83 := (B72.wr W75)
      exact own_mid1 hw CC (cs := (cs0.set (1 + rr) ch)) ⟨_, _, X75, e75, N75, Z77, R76, hk76, Q82, Q83, (own_V20 V75 ((List.length_set ..).trans hl0)), ((List.length_set ..).trans hl0), (own_rgset hrg0 hch)⟩ (Or.inr ⟨_, rfl⟩) (Or.inr ⟨rfl, own_lay_ok hlay0 hk20 (by rw [hr8]; exact own_ok8.mpr hc417_81)⟩)
     ·
      refine own_go (fun _ Kk => XS.icmpNo X75.here hx rfl (hb hby at_417) rfl (feq hc417_81).1 Kk) ?_
      show own_G _ _ _ _ (T75.setTop (mkF m 420 #[vl q0, v2, vl q1, v2, vi p2, vr b1, vi 1, vi z42, vi pa, vi pb, vi (Int32.ofNat (1 + rr)), vi ch, vi 0, vi (Int32.ofNat rr), vu, vu, vu] []))
      refine own_go (fun _ Kk => XS.iconst X75.here hx rfl (hb hby at_420) (XS.goto X75.here hx rfl (pc0 := 421) (pc' := 425) rfl (hb hby at_421) (by decide) (by decide) (XS.istore X75.here hx rfl (hb hby at_425) rfl (l' := #[vl q0, v2, vl q1, v2, vi p2, vr b1, vi 1, vi z42, vi pa, vi pb, vi (Int32.ofNat (1 + rr)), vi ch, vi 1, vi (Int32.ofNat rr), vu, vu, vu]) rfl (XS.goto X75.here hx rfl (pc0 := 427) (pc' := 475) rfl (hb hby at_427) (by decide) (by decide) Kk)))) ?_
      show own_G _ _ _ _ (T75.setTop (mkF m 475 #[vl q0, v2, vl q1, v2, vi p2, vr b1, vi 1, vi z42, vi pa, vi pb, vi (Int32.ofNat (1 + rr)), vi ch, vi 1, vi (Int32.ofNat rr), vu, vu, vu] []))
      show own_G _ _ _ _ (T75.setTop (mkF m 475 #[vl q0, v2, vl q1, v2, vi p2, vr b1, vi 1, vi z42, vi pa, vi pb, vi (Int32.ofNat (1 + rr)), vi ch, vi 1, vi (Int32.ofNat rr), vu, vu, vu] []))
      have Q84 := (((((((((((((((((((((((SS.ext E1).wr W5).wr W7).wr W9).wr W11).wr W13).wr W15).wr W17).wr W19).wr W21).wr W23).wr W25).wr W27).wr W28).wr W30).wr W32).wr W34).wr W36).wr W38).wr W40).wr W41).wr W72).wr W75)
      have Q85 := (B72.wr W75)
      exact own_mid1 hw CC (cs := (cs0.set (1 + rr) ch)) ⟨_, _, X75, e75, N75, Z77, R76, hk76, Q84, Q85, (own_V20 V75 ((List.length_set ..).trans hl0)), ((List.length_set ..).trans hl0), (own_rgset hrg0 hch)⟩ (Or.inr ⟨_, rfl⟩) (Or.inl ⟨rfl, own_lay_no hlay0 (by decide) hk20 (by rw [hr8]; exact mt own_ok8.mp hc417_81)⟩)
    ·
     have hr8 : ¬ rr = 8 := fun e => hc410_80 (by rw [e]; rfl)
     refine own_go (fun _ Kk => XS.icmpYes X75.here hx rfl (pc0 := 410) (pc' := 430) rfl (hb hby at_410) rfl (feq hc410_80).2 (by decide) (by decide) Kk) ?_
     show own_G _ _ _ _ (T75.setTop (mkF m 430 #[vl q0, v2, vl q1, v2, vi p2, vr b1, vi 1, vi z42, vi pa, vi pb, vi (Int32.ofNat (1 + rr)), vi ch, vi 0, vi (Int32.ofNat rr), vu, vu, vu] []))
     refine own_go (fun _ Kk => XS.iload X75.here hx rfl (hb hby at_430) rfl (XS.bipush X75.here hx rfl (hb hby at_432) Kk)) ?_
     by_cases hc434_86 : (Int32.ofNat rr) = (15 : Int32)
     ·
      have hr15 : rr = 15 := own_inj (b := 15) (by omega) (by decide) hc434_86
      refine own_go (fun _ Kk => XS.icmpNo X75.here hx rfl (hb hby at_434) rfl (teq hc434_86).2 Kk) ?_
      show own_G _ _ _ _ (T75.setTop (mkF m 437 #[vl q0, v2, vl q1, v2, vi p2, vr b1, vi 1, vi z42, vi pa, vi pb, vi (Int32.ofNat (1 + rr)), vi ch, vi 0, vi (Int32.ofNat rr), vu, vu, vu] []))
      refine own_go (fun _ Kk => XS.iload X75.here hx rfl (hb hby at_437) rfl (XS.bipush X75.here hx rfl (hb hby at_439) Kk)) ?_
      by_cases hc441_87 : ch = (45 : Int32)
      ·
       refine own_go (fun _ Kk => XS.icmpYes X75.here hx rfl (pc0 := 441) (pc' := 448) rfl (hb hby at_441) rfl (teq hc441_87).1 (by decide) (by decide) Kk) ?_
       show own_G _ _ _ _ (T75.setTop (mkF m 448 #[vl q0, v2, vl q1, v2, vi p2, vr b1, vi 1, vi z42, vi pa, vi pb, vi (Int32.ofNat (1 + rr)), vi ch, vi 0, vi (Int32.ofNat rr), vu, vu, vu] []))
       refine own_go (fun _ Kk => XS.iconst X75.here hx rfl (hb hby at_448) (XS.istore X75.here hx rfl (hb hby at_449) rfl (l' := #[vl q0, v2, vl q1, v2, vi p2, vr b1, vi 1, vi z42, vi pa, vi pb, vi (Int32.ofNat (1 + rr)), vi ch, vi 0, vi (Int32.ofNat rr), vu, vu, vu]) rfl (XS.goto X75.here hx rfl (pc0 := 451) (pc' := 475) rfl (hb hby at_451) (by decide) (by decide) Kk))) ?_
       show own_G _ _ _ _ (T75.setTop (mkF m 475 #[vl q0, v2, vl q1, v2, vi p2, vr b1, vi 1, vi z42, vi pa, vi pb, vi (Int32.ofNat (1 + rr)), vi ch, vi 0, vi (Int32.ofNat rr), vu, vu, vu] []))
       show own_G _ _ _ _ (T75.setTop (mkF m 475 #[vl q0, v2, vl q1, v2, vi p2, vr b1, vi 1, vi z42, vi pa, vi pb, vi (Int32.ofNat (1 + rr)), vi ch, vi 0, vi (Int32.ofNat rr), vu, vu, vu] []))
       have Q88 := (((((((((((((((((((((((SS.ext E1).wr W5).wr W7).wr W9).wr W11).wr W13).wr W15).wr W17).wr W19).wr W21).wr W23).wr W25).wr W27).wr W28).wr W30).wr W32).wr W34).wr W36).wr W38).wr W40).wr W41).wr W72).wr W75)
       have Q89 := (B72.wr W75)
       exact own_mid1 hw CC (cs := (cs0.set (1 + rr) ch)) ⟨_, _, X75, e75, N75, Z77, R76, hk76, Q88, Q89, (own_V20 V75 ((List.length_set ..).trans hl0)), ((List.length_set ..).trans hl0), (own_rgset hrg0 hch)⟩ (Or.inr ⟨_, rfl⟩) (Or.inr ⟨rfl, own_lay_ok hlay0 hk20 (by rw [hr15]; exact own_ok15.mpr hc441_87)⟩)
      ·
       refine own_go (fun _ Kk => XS.icmpNo X75.here hx rfl (hb hby at_441) rfl (feq hc441_87).1 Kk) ?_
       show own_G _ _ _ _ (T75.setTop (mkF m 444 #[vl q0, v2, vl q1, v2, vi p2, vr b1, vi 1, vi z42, vi pa, vi pb, vi (Int32.ofNat (1 + rr)), vi ch, vi 0, vi (Int32.ofNat rr), vu, vu, vu] []))
       refine own_go (fun _ Kk => XS.iconst X75.here hx rfl (hb hby at_444) (XS.goto X75.here hx rfl (pc0 := 445) (pc' := 449) rfl (hb hby at_445) (by decide) (by decide) (XS.istore X75.here hx rfl (hb hby at_449) rfl (l' := #[vl q0, v2, vl q1, v2, vi p2, vr b1, vi 1, vi z42, vi pa, vi pb, vi (Int32.ofNat (1 + rr)), vi ch, vi 1, vi (Int32.ofNat rr), vu, vu, vu]) rfl (XS.goto X75.here hx rfl (pc0 := 451) (pc' := 475) rfl (hb hby at_451) (by decide) (by decide) Kk)))) ?_
       show own_G _ _ _ _ (T75.setTop (mkF m 475 #[vl q0, v2, vl q1, v2, vi p2, vr b1, vi 1, vi z42, vi pa, vi pb, vi (Int32.ofNat (1 + rr)), vi ch, vi 1, vi (Int32.ofNat rr), vu, vu, vu] []))
       show own_G _ _ _ _ (T75.setTop (mkF m 475 #[vl q0, v2, vl q1, v2, vi p2, vr b1, vi 1, vi z42, vi pa, vi pb, vi (Int32.ofNat (1 + rr)), vi ch, vi 1, vi (Int32.ofNat rr), vu, vu, vu] []))
       have Q90 := (((((((((((((((((((((((SS.ext E1).wr W5).wr W7).wr W9).wr W11).wr W13).wr W15).wr W17).wr W19).wr W21).wr W23).wr W25).wr W27).wr W28).wr W30).wr W32).wr W34).wr W36).wr W38).wr W40).wr W41).wr W72).wr W75)
       have Q91 := (B72.wr W75)
       exact own_mid1 hw CC (cs := (cs0.set (1 + rr) ch)) ⟨_, _, X75, e75, N75, Z77, R76, hk76, Q90, Q91, (own_V20 V75 ((List.length_set ..).trans hl0)), ((List.length_set ..).trans hl0), (own_rgset hrg0 hch)⟩ (Or.inr ⟨_, rfl⟩) (Or.inl ⟨rfl, own_lay_no hlay0 (by decide) hk20 (by rw [hr15]; exact mt own_ok15.mp hc441_87)⟩)
     ·
      have hr15 : ¬ rr = 15 := fun e => hc434_86 (by rw [e]; rfl)
      refine own_go (fun _ Kk => XS.icmpYes X75.here hx rfl (pc0 := 434) (pc' := 454) rfl (hb hby at_434) rfl (feq hc434_86).2 (by decide) (by decide) Kk) ?_
      show own_G _ _ _ _ (T75.setTop (mkF m 454 #[vl q0, v2, vl q1, v2, vi p2, vr b1, vi 1, vi z42, vi pa, vi pb, vi (Int32.ofNat (1 + rr)), vi ch, vi 0, vi (Int32.ofNat rr), vu, vu, vu] []))
      refine own_go (fun _ Kk => XS.iload X75.here hx rfl (hb hby at_454) rfl (XS.bipush X75.here hx rfl (hb hby at_456) Kk)) ?_
      by_cases hc458_92 : ch < (48 : Int32)
      ·
       refine own_go (fun _ Kk => XS.icmpYes X75.here hx rfl (pc0 := 458) (pc' := 468) rfl (hb hby at_458) rfl (tlt hc458_92).1 (by decide) (by decide) Kk) ?_
       show own_G _ _ _ _ (T75.setTop (mkF m 468 #[vl q0, v2, vl q1, v2, vi p2, vr b1, vi 1, vi z42, vi pa, vi pb, vi (Int32.ofNat (1 + rr)), vi ch, vi 0, vi (Int32.ofNat rr), vu, vu, vu] []))
       refine own_go (fun _ Kk => XS.iconst X75.here hx rfl (hb hby at_468) (XS.goto X75.here hx rfl (pc0 := 469) (pc' := 473) rfl (hb hby at_469) (by decide) (by decide) (XS.istore X75.here hx rfl (hb hby at_473) rfl (l' := #[vl q0, v2, vl q1, v2, vi p2, vr b1, vi 1, vi z42, vi pa, vi pb, vi (Int32.ofNat (1 + rr)), vi ch, vi 1, vi (Int32.ofNat rr), vu, vu, vu]) rfl Kk))) ?_
       show own_G _ _ _ _ (T75.setTop (mkF m 475 #[vl q0, v2, vl q1, v2, vi p2, vr b1, vi 1, vi z42, vi pa, vi pb, vi (Int32.ofNat (1 + rr)), vi ch, vi 1, vi (Int32.ofNat rr), vu, vu, vu] []))
       show own_G _ _ _ _ (T75.setTop (mkF m 475 #[vl q0, v2, vl q1, v2, vi p2, vr b1, vi 1, vi z42, vi pa, vi pb, vi (Int32.ofNat (1 + rr)), vi ch, vi 1, vi (Int32.ofNat rr), vu, vu, vu] []))
       have Q93 := (((((((((((((((((((((((SS.ext E1).wr W5).wr W7).wr W9).wr W11).wr W13).wr W15).wr W17).wr W19).wr W21).wr W23).wr W25).wr W27).wr W28).wr W30).wr W32).wr W34).wr W36).wr W38).wr W40).wr W41).wr W72).wr W75)
       have Q94 := (B72.wr W75)
       exact own_mid1 hw CC (cs := (cs0.set (1 + rr) ch)) ⟨_, _, X75, e75, N75, Z77, R76, hk76, Q93, Q94, (own_V20 V75 ((List.length_set ..).trans hl0)), ((List.length_set ..).trans hl0), (own_rgset hrg0 hch)⟩ (Or.inr ⟨_, rfl⟩) (Or.inl ⟨rfl, own_lay_no hlay0 (by decide) hk20 (fun z => ((own_okd hr8 hr15).mp z).1 hc458_92)⟩)
      ·
       refine own_go (fun _ Kk => XS.icmpNo X75.here hx rfl (hb hby at_458) rfl (flt hc458_92).1 Kk) ?_
       show own_G _ _ _ _ (T75.setTop (mkF m 461 #[vl q0, v2, vl q1, v2, vi p2, vr b1, vi 1, vi z42, vi pa, vi pb, vi (Int32.ofNat (1 + rr)), vi ch, vi 0, vi (Int32.ofNat rr), vu, vu, vu] []))
       refine own_go (fun _ Kk => XS.iload X75.here hx rfl (hb hby at_461) rfl (XS.bipush X75.here hx rfl (hb hby at_463) Kk)) ?_
       by_cases hc465_95 : (57 : Int32) < ch
       ·
        refine own_go (fun _ Kk => XS.icmpNo X75.here hx rfl (hb hby at_465) rfl (tlt hc465_95).2.2.2 Kk) ?_
        show own_G _ _ _ _ (T75.setTop (mkF m 468 #[vl q0, v2, vl q1, v2, vi p2, vr b1, vi 1, vi z42, vi pa, vi pb, vi (Int32.ofNat (1 + rr)), vi ch, vi 0, vi (Int32.ofNat rr), vu, vu, vu] []))
        refine own_go (fun _ Kk => XS.iconst X75.here hx rfl (hb hby at_468) (XS.goto X75.here hx rfl (pc0 := 469) (pc' := 473) rfl (hb hby at_469) (by decide) (by decide) (XS.istore X75.here hx rfl (hb hby at_473) rfl (l' := #[vl q0, v2, vl q1, v2, vi p2, vr b1, vi 1, vi z42, vi pa, vi pb, vi (Int32.ofNat (1 + rr)), vi ch, vi 1, vi (Int32.ofNat rr), vu, vu, vu]) rfl Kk))) ?_
        show own_G _ _ _ _ (T75.setTop (mkF m 475 #[vl q0, v2, vl q1, v2, vi p2, vr b1, vi 1, vi z42, vi pa, vi pb, vi (Int32.ofNat (1 + rr)), vi ch, vi 1, vi (Int32.ofNat rr), vu, vu, vu] []))
        show own_G _ _ _ _ (T75.setTop (mkF m 475 #[vl q0, v2, vl q1, v2, vi p2, vr b1, vi 1, vi z42, vi pa, vi pb, vi (Int32.ofNat (1 + rr)), vi ch, vi 1, vi (Int32.ofNat rr), vu, vu, vu] []))
        have Q96 := (((((((((((((((((((((((SS.ext E1).wr W5).wr W7).wr W9).wr W11).wr W13).wr W15).wr W17).wr W19).wr W21).wr W23).wr W25).wr W27).wr W28).wr W30).wr W32).wr W34).wr W36).wr W38).wr W40).wr W41).wr W72).wr W75)
        have Q97 := (B72.wr W75)
        exact own_mid1 hw CC (cs := (cs0.set (1 + rr) ch)) ⟨_, _, X75, e75, N75, Z77, R76, hk76, Q96, Q97, (own_V20 V75 ((List.length_set ..).trans hl0)), ((List.length_set ..).trans hl0), (own_rgset hrg0 hch)⟩ (Or.inr ⟨_, rfl⟩) (Or.inl ⟨rfl, own_lay_no hlay0 (by decide) hk20 (fun z => ((own_okd hr8 hr15).mp z).2 hc465_95)⟩)
       ·
        refine own_go (fun _ Kk => XS.icmpYes X75.here hx rfl (pc0 := 465) (pc' := 472) rfl (hb hby at_465) rfl (flt hc465_95).2.2.2 (by decide) (by decide) Kk) ?_
        show own_G _ _ _ _ (T75.setTop (mkF m 472 #[vl q0, v2, vl q1, v2, vi p2, vr b1, vi 1, vi z42, vi pa, vi pb, vi (Int32.ofNat (1 + rr)), vi ch, vi 0, vi (Int32.ofNat rr), vu, vu, vu] []))
        refine own_go (fun _ Kk => XS.iconst X75.here hx rfl (hb hby at_472) (XS.istore X75.here hx rfl (hb hby at_473) rfl (l' := #[vl q0, v2, vl q1, v2, vi p2, vr b1, vi 1, vi z42, vi pa, vi pb, vi (Int32.ofNat (1 + rr)), vi ch, vi 0, vi (Int32.ofNat rr), vu, vu, vu]) rfl Kk)) ?_
        show own_G _ _ _ _ (T75.setTop (mkF m 475 #[vl q0, v2, vl q1, v2, vi p2, vr b1, vi 1, vi z42, vi pa, vi pb, vi (Int32.ofNat (1 + rr)), vi ch, vi 0, vi (Int32.ofNat rr), vu, vu, vu] []))
        show own_G _ _ _ _ (T75.setTop (mkF m 475 #[vl q0, v2, vl q1, v2, vi p2, vr b1, vi 1, vi z42, vi pa, vi pb, vi (Int32.ofNat (1 + rr)), vi ch, vi 0, vi (Int32.ofNat rr), vu, vu, vu] []))
        have Q98 := (((((((((((((((((((((((SS.ext E1).wr W5).wr W7).wr W9).wr W11).wr W13).wr W15).wr W17).wr W19).wr W21).wr W23).wr W25).wr W27).wr W28).wr W30).wr W32).wr W34).wr W36).wr W38).wr W40).wr W41).wr W72).wr W75)
        have Q99 := (B72.wr W75)
        exact own_mid1 hw CC (cs := (cs0.set (1 + rr) ch)) ⟨_, _, X75, e75, N75, Z77, R76, hk76, Q98, Q99, (own_V20 V75 ((List.length_set ..).trans hl0)), ((List.length_set ..).trans hl0), (own_rgset hrg0 hch)⟩ (Or.inr ⟨_, rfl⟩) (Or.inr ⟨rfl, own_lay_ok hlay0 hk20 ((own_okd hr8 hr15).mpr ⟨hc458_92, hc465_95⟩)⟩)
  ·
   have hk20 : ¬ kn < 20 := mt (own_ltn (b := 20) (by omega) (by decide)).mpr hc384_74
   refine own_go (fun _ Kk => XS.icmpYes X72.here hx rfl (pc0 := 384) (pc' := 475) rfl (hb hby at_384) rfl (flt hc384_74).2.1 (by decide) (by decide) Kk) ?_
   show own_G _ _ _ _ (T72.setTop (mkF m 475 #[vl q0, v2, vl q1, v2, vi p2, vr b1, vi 1, vi z42, vi pa, vi pb, vi (Int32.ofNat kn), vi ch, vi 0, vu, vu, vu, vu] []))
   show own_G _ _ _ _ (T72.setTop (mkF m 475 #[vl q0, v2, vl q1, v2, vi p2, vr b1, vi 1, vi z42, vi pa, vi pb, vi (Int32.ofNat kn), vi ch, vi 0, vu, vu, vu, vu] []))
   have Q100 := ((((((((((((((((((((((SS.ext E1).wr W5).wr W7).wr W9).wr W11).wr W13).wr W15).wr W17).wr W19).wr W21).wr W23).wr W25).wr W27).wr W28).wr W30).wr W32).wr W34).wr W36).wr W38).wr W40).wr W41).wr W72)
   exact own_mid1 hw CC (cs := cs0) ⟨_, _, X72, e72, N72, Z72, R72, hk72, Q100, B72, (own_V20 VA hl0), hl0, hrg0⟩ (Or.inl rfl) (Or.inr ⟨rfl, hlay0⟩)
 ·
  show own_G _ _ _ _ (T41.setTop (mkF m 304 #[vl q0, v2, vl q1, v2, vi p2, vr b1, vi 2, vi z42, vi pa, vi pb, vu, vu, vu, vu, vu, vu, vu] []))
  refine own_go (fun _ Kk => XS.iload X41.here hx rfl (hb hby at_304) rfl (XS.iconst X41.here hx rfl (hb hby at_306) (XS.icmpYes X41.here hx rfl (pc0 := 307) (pc' := 326) rfl (hb hby at_307) rfl (by decide) (by decide) (by decide) (XS.iload X41.here hx rfl (hb hby at_326) rfl (XS.iconst X41.here hx rfl (hb hby at_328) Kk))))) ?_
  show own_G _ _ _ _ (T41.setTop (mkF m 329 #[vl q0, v2, vl q1, v2, vi p2, vr b1, vi 2, vi z42, vi pa, vi pb, vu, vu, vu, vu, vu, vu, vu] [.int 2, .int 2]))
  refine own_go (fun _ Kk => XS.icmpNo X41.here hx rfl (hb hby at_329) rfl (by decide) (XS.aload X41.here hx rfl (hb hby at_332) rfl rfl (XS.iconst X41.here hx rfl (hb hby at_334) (XS.iload X41.here hx rfl (hb hby at_335) rfl Kk)))) ?_
  refine own_sC X41 hx hZ e41 V41 lu41 hpa 0 rfl (by decide) ⟨by decide, by decide⟩ N41 g_b1 B41 R41 hk41 Z41 (hb hby at_337) ?_
  intro T101 h101 u101 L101 X101 e101 hu101 V101 lu101 N101 R101 hk101 Z101 B101 W101
  show own_G _ _ _ _ (T101.setTop (mkF m 338 #[vl q0, v2, vl q1, v2, vi p2, vr b1, vi 2, vi z42, vi pa, vi pb, vu, vu, vu, vu, vu, vu, vu] []))
  refine own_go (fun _ Kk => XS.aload X101.here hx rfl (hb hby at_338) rfl rfl (XS.iconst X101.here hx rfl (hb hby at_340) (XS.iload X101.here hx rfl (hb hby at_341) rfl Kk))) ?_
  obtain ⟨z102, hz102⟩ : ∃ z : Int32, z = (if ¬ ((((q1.toUInt64 >>> ((39 : Int32) &&& 0x3f).toInt64.toUInt64).toInt64) &&& (1 : Int64)) = (0 : Int64)) then (45 : Int32) else pb) := ⟨_, rfl⟩
  suffices Jz102 : own_G p e below (K_0 Z q0 q1 p2 zc fm h0 n0 s) (T101.setTop (mkF m 353 #[vl q0, v2, vl q1, v2, vi p2, vr b1, vi 2, vi z42, vi pa, vi pb, vu, vu, vu, vu, vu, vu, vu] [.int z102, .int 1, .ref b1])) by
   by_cases hc343_103 : ¬ ((((q1.toUInt64 >>> ((39 : Int32) &&& 0x3f).toInt64.toUInt64).toInt64) &&& (1 : Int64)) = (0 : Int64))
   ·
    rw [if_pos hc343_103] at hz102
    refine own_go (fun _ Kk => XS.ifNo X101.here hx rfl (hb hby at_343) rfl ((if0 _ _).trans (feq (own_b1 (own_bn hz42) hc343_103)).1) Kk) ?_
    show own_G _ _ _ _ (T101.setTop (mkF m 346 #[vl q0, v2, vl q1, v2, vi p2, vr b1, vi 2, vi z42, vi pa, vi pb, vu, vu, vu, vu, vu, vu, vu] [.int 1, .ref b1]))
    refine own_go (fun _ Kk => XS.bipush X101.here hx rfl (hb hby at_346) (XS.goto X101.here hx rfl (pc0 := 348) (pc' := 353) rfl (hb hby at_348) (by decide) (by decide) Kk)) ?_
    show own_G _ _ _ _ (T101.setTop (mkF m 353 #[vl q0, v2, vl q1, v2, vi p2, vr b1, vi 2, vi z42, vi pa, vi pb, vu, vu, vu, vu, vu, vu, vu] [.int 45, .int 1, .ref b1]))
    subst hz102; exact Jz102
   ·
    rw [if_neg hc343_103] at hz102
    refine own_go (fun _ Kk => XS.ifYes X101.here hx rfl (pc0 := 343) (pc' := 351) rfl (hb hby at_343) rfl ((if0 _ _).trans (teq (own_b0 (own_bn hz42) hc343_103)).1) (by decide) (by decide) Kk) ?_
    show own_G _ _ _ _ (T101.setTop (mkF m 351 #[vl q0, v2, vl q1, v2, vi p2, vr b1, vi 2, vi z42, vi pa, vi pb, vu, vu, vu, vu, vu, vu, vu] [.int 1, .ref b1]))
    refine own_go (fun _ Kk => XS.iload X101.here hx rfl (hb hby at_351) rfl Kk) ?_
    show own_G _ _ _ _ (T101.setTop (mkF m 353 #[vl q0, v2, vl q1, v2, vi p2, vr b1, vi 2, vi z42, vi pa, vi pb, vu, vu, vu, vu, vu, vu, vu] [.int pb, .int 1, .ref b1]))
    subst hz102; exact Jz102
  have hr_z102 : ¬ z102 < 0 ∧ ¬ (65535 : Int32) < z102 := by rw [hz102]; split <;> first | exact ⟨by decide, by decide⟩ | exact hpb
  refine own_sC X101 hx hZ e101 V101 lu101 hr_z102 1 rfl (by decide) ⟨by decide, by decide⟩ N101 g_b1 B101 R101 hk101 Z101 (hb hby at_353) ?_
  intro T104 h104 u104 L104 X104 e104 hu104 V104 lu104 N104 R104 hk104 Z104 B104 W104
  refine own_go (fun _ Kk => XS.lloadN X104.here hx rfl (hb hby at_354) rfl (XS.bipush X104.here hx rfl (hb hby at_355) (XS.lushr X104.here hx rfl (hb hby at_357) rfl Kk))) ?_
  show own_G _ _ _ _ (T104.setTop (mkF m 358 #[vl q0, v2, vl q1, v2, vi p2, vr b1, vi 2, vi z42, vi pa, vi pb, vu, vu, vu, vu, vu, vu, vu] [.long ((q1.toUInt64 >>> ((18 : Int32) &&& 0x3f).toInt64.toUInt64).toInt64)]))
  refine own_go (X104.ldc2Long hx hown (mvT hZ (hw 8 rfl)) (g := (mkF m 358 #[vl q0, v2, vl q1, v2, vi p2, vr b1, vi 2, vi z42, vi pa, vi pb, vu, vu, vu, vu, vu, vu, vu] [.long ((q1.toUInt64 >>> ((18 : Int32) &&& 0x3f).toInt64.toUInt64).toInt64)])) rfl (hb hby at_358)) ?_
  refine own_go (fun _ Kk => XS.land X104.here hx rfl (hb hby at_361) rfl (XS.l2i X104.here hx rfl (hb hby at_362) rfl Kk)) ?_
  obtain ⟨kn, hkn, hke⟩ : ∃ kn : Nat, kn < 32 ∧ ((((q1.toUInt64 >>> ((18 : Int32) &&& 0x3f).toInt64.toUInt64).toInt64) &&& (31 : Int64)).toInt32) = Int32.ofNat kn := own_k32 _
  show own_G _ _ _ _ (T104.setTop (mkF m 363 #[vl q0, v2, vl q1, v2, vi p2, vr b1, vi 2, vi z42, vi pa, vi pb, vu, vu, vu, vu, vu, vu, vu] [.int ((((q1.toUInt64 >>> ((18 : Int32) &&& 0x3f).toInt64.toUInt64).toInt64) &&& (31 : Int64)).toInt32)]))
  rw [show ((((q1.toUInt64 >>> ((18 : Int32) &&& 0x3f).toInt64.toUInt64).toInt64) &&& (31 : Int64)).toInt32) = (Int32.ofNat kn) from hke]
  refine own_go (fun _ Kk => XS.istore X104.here hx rfl (hb hby at_363) rfl (l' := #[vl q0, v2, vl q1, v2, vi p2, vr b1, vi 2, vi z42, vi pa, vi pb, vi (Int32.ofNat kn), vu, vu, vu, vu, vu, vu]) rfl (XS.lloadN X104.here hx rfl (hb hby at_365) rfl (XS.bipush X104.here hx rfl (hb hby at_366) (XS.lushr X104.here hx rfl (hb hby at_368) rfl Kk)))) ?_
  show own_G _ _ _ _ (T104.setTop (mkF m 369 #[vl q0, v2, vl q1, v2, vi p2, vr b1, vi 2, vi z42, vi pa, vi pb, vi (Int32.ofNat kn), vu, vu, vu, vu, vu, vu] [.long ((q1.toUInt64 >>> ((23 : Int32) &&& 0x3f).toInt64.toUInt64).toInt64)]))
  refine own_go (X104.ldc2Long hx hown (mvT hZ (hw 9 rfl)) (g := (mkF m 369 #[vl q0, v2, vl q1, v2, vi p2, vr b1, vi 2, vi z42, vi pa, vi pb, vi (Int32.ofNat kn), vu, vu, vu, vu, vu, vu] [.long ((q1.toUInt64 >>> ((23 : Int32) &&& 0x3f).toInt64.toUInt64).toInt64)])) rfl (hb hby at_369)) ?_
  refine own_go (fun _ Kk => XS.land X104.here hx rfl (hb hby at_372) rfl (XS.l2i X104.here hx rfl (hb hby at_373) rfl (XS.i2c X104.here hx rfl (hb hby at_374) rfl Kk))) ?_
  obtain ⟨ch, hch, hech⟩ : ∃ z : Int32, (¬ z < 0 ∧ ¬ (65535 : Int32) < z) ∧ (((((q1.toUInt64 >>> ((23 : Int32) &&& 0x3f).toInt64.toUInt64).toInt64) &&& (65535 : Int64)).toInt32).toUInt32.toUInt16.toUInt32.toInt32) = z := own_c16 _
  show own_G _ _ _ _ (T104.setTop (mkF m 375 #[vl q0, v2, vl q1, v2, vi p2, vr b1, vi 2, vi z42, vi pa, vi pb, vi (Int32.ofNat kn), vu, vu, vu, vu, vu, vu] [.int (((((q1.toUInt64 >>> ((23 : Int32) &&& 0x3f).toInt64.toUInt64).toInt64) &&& (65535 : Int64)).toInt32).toUInt32.toUInt16.toUInt32.toInt32)]))
  rw [show (((((q1.toUInt64 >>> ((23 : Int32) &&& 0x3f).toInt64.toUInt64).toInt64) &&& (65535 : Int64)).toInt32).toUInt32.toUInt16.toUInt32.toInt32) = ch from hech]
  refine own_go (fun _ Kk => XS.istore X104.here hx rfl (hb hby at_375) rfl (l' := #[vl q0, v2, vl q1, v2, vi p2, vr b1, vi 2, vi z42, vi pa, vi pb, vi (Int32.ofNat kn), vi ch, vu, vu, vu, vu, vu]) rfl (XS.iconst X104.here hx rfl (hb hby at_377) (XS.istore X104.here hx rfl (hb hby at_378) rfl (l' := #[vl q0, v2, vl q1, v2, vi p2, vr b1, vi 2, vi z42, vi pa, vi pb, vi (Int32.ofNat kn), vi ch, vi 0, vu, vu, vu, vu]) rfl Kk))) ?_
  show own_G _ _ _ _ (T104.setTop (mkF m 380 #[vl q0, v2, vl q1, v2, vi p2, vr b1, vi 2, vi z42, vi pa, vi pb, vi (Int32.ofNat kn), vi ch, vi 0, vu, vu, vu, vu] []))
  have fu5 : u5 = [.int 0, .int 0, .int 0, .int 0, .int 0, .int 0, .int 0, .int 0, .int 0, .int 0, .int 0, .int 0, .int 0, .int 0, .int 0, .int 0, .int z4, .int 0, .int 0, .int 0] := by rw [hu5]; rfl
  have fu7 : u7 = [.int 0, .int 0, .int 0, .int 0, .int 0, .int 0, .int 0, .int 0, .int 0, .int 0, .int 0, .int 0, .int 0, .int 0, .int 0, .int 0, .int z4, .int z6, .int 0, .int 0] := by rw [hu7, fu5]; rfl
  have fu9 : u9 = [.int 0, .int 0, .int 0, .int 0, .int 0, .int 0, .int 0, .int 0, .int 0, .int 0, .int 0, .int 0, .int 0, .int 0, .int 0, .int 0, .int z4, .int z6, .int z8, .int 0] := by rw [hu9, fu7]; rfl
  have fu11 : u11 = [.int 0, .int 0, .int 0, .int 0, .int 0, .int 0, .int 0, .int 0, .int 0, .int 0, .int 0, .int 0, .int 0, .int 0, .int 0, .int 0, .int z4, .int z6, .int z8, .int z10] := by rw [hu11, fu9]; rfl
  have fu13 : u13 = [.int 0, .int 0, .int z12, .int 0, .int 0, .int 0, .int 0, .int 0, .int 0, .int 0, .int 0, .int 0, .int 0, .int 0, .int 0, .int 0, .int z4, .int z6, .int z8, .int z10] := by rw [hu13, fu11]; rfl
  have fu15 : u15 = [.int 0, .int 0, .int z12, .int z14, .int 0, .int 0, .int 0, .int 0, .int 0, .int 0, .int 0, .int 0, .int 0, .int 0, .int 0, .int 0, .int z4, .int z6, .int z8, .int z10] := by rw [hu15, fu13]; rfl
  have fu17 : u17 = [.int 0, .int 0, .int z12, .int z14, .int z16, .int 0, .int 0, .int 0, .int 0, .int 0, .int 0, .int 0, .int 0, .int 0, .int 0, .int 0, .int z4, .int z6, .int z8, .int z10] := by rw [hu17, fu15]; rfl
  have fu19 : u19 = [.int 0, .int 0, .int z12, .int z14, .int z16, .int z18, .int 0, .int 0, .int 0, .int 0, .int 0, .int 0, .int 0, .int 0, .int 0, .int 0, .int z4, .int z6, .int z8, .int z10] := by rw [hu19, fu17]; rfl
  have fu21 : u21 = [.int 0, .int 0, .int z12, .int z14, .int z16, .int z18, .int z20, .int 0, .int 0, .int 0, .int 0, .int 0, .int 0, .int 0, .int 0, .int 0, .int z4, .int z6, .int z8, .int z10] := by rw [hu21, fu19]; rfl
  have fu23 : u23 = [.int 0, .int 0, .int z12, .int z14, .int z16, .int z18, .int z20, .int z22, .int 0, .int 0, .int 0, .int 0, .int 0, .int 0, .int 0, .int 0, .int z4, .int z6, .int z8, .int z10] := by rw [hu23, fu21]; rfl
  have fu25 : u25 = [.int 0, .int 0, .int z12, .int z14, .int z16, .int z18, .int z20, .int z22, .int z24, .int 0, .int 0, .int 0, .int 0, .int 0, .int 0, .int 0, .int z4, .int z6, .int z8, .int z10] := by rw [hu25, fu23]; rfl
  have fu27 : u27 = [.int 0, .int 0, .int z12, .int z14, .int z16, .int z18, .int z20, .int z22, .int z24, .int z26, .int 0, .int 0, .int 0, .int 0, .int 0, .int 0, .int z4, .int z6, .int z8, .int z10] := by rw [hu27, fu25]; rfl
  have fu28 : u28 = [.int 0, .int 0, .int z12, .int z14, .int z16, .int z18, .int z20, .int z22, .int z24, .int z26, .int 46, .int 0, .int 0, .int 0, .int 0, .int 0, .int z4, .int z6, .int z8, .int z10] := by rw [hu28, fu27]; rfl
  have fu30 : u30 = [.int 0, .int 0, .int z12, .int z14, .int z16, .int z18, .int z20, .int z22, .int z24, .int z26, .int 46, .int z29, .int 0, .int 0, .int 0, .int 0, .int z4, .int z6, .int z8, .int z10] := by rw [hu30, fu28]; rfl
  have fu32 : u32 = [.int 0, .int 0, .int z12, .int z14, .int z16, .int z18, .int z20, .int z22, .int z24, .int z26, .int 46, .int z29, .int z31, .int 0, .int 0, .int 0, .int z4, .int z6, .int z8, .int z10] := by rw [hu32, fu30]; rfl
  have fu34 : u34 = [.int 0, .int 0, .int z12, .int z14, .int z16, .int z18, .int z20, .int z22, .int z24, .int z26, .int 46, .int z29, .int z31, .int z33, .int 0, .int 0, .int z4, .int z6, .int z8, .int z10] := by rw [hu34, fu32]; rfl
  have fu36 : u36 = [.int 0, .int 0, .int z12, .int z14, .int z16, .int z18, .int z20, .int z22, .int z24, .int z26, .int 46, .int z29, .int z31, .int z33, .int z35, .int 0, .int z4, .int z6, .int z8, .int z10] := by rw [hu36, fu34]; rfl
  have fu38 : u38 = [.int 0, .int 0, .int z12, .int z14, .int z16, .int z18, .int z20, .int z22, .int z24, .int z26, .int 46, .int z29, .int z31, .int z33, .int z35, .int z37, .int z4, .int z6, .int z8, .int z10] := by rw [hu38, fu36]; rfl
  have fu40 : u40 = [.int 0, .int 0, .int z12, .int z14, .int z16, .int z18, .int z20, .int z22, .int z24, .int z26, .int 46, .int z29, .int z31, .int z33, .int z35, .int z37, .int z39, .int z6, .int z8, .int z10] := by rw [hu40, fu38]; rfl
  have fu41 : u41 = [.int 0, .int 0, .int z12, .int z14, .int z16, .int z18, .int z20, .int z22, .int z24, .int z26, .int 46, .int z29, .int z31, .int z33, .int z35, .int z37, .int z39, .int 45, .int z8, .int z10] := by rw [hu41, fu40]; rfl
  have fu101 : u101 = [.int pa, .int 0, .int z12, .int z14, .int z16, .int z18, .int z20, .int z22, .int z24, .int z26, .int 46, .int z29, .int z31, .int z33, .int z35, .int z37, .int z39, .int 45, .int z8, .int z10] := by rw [hu101, fu41]; rfl
  have fu104 : u104 = [.int pa, .int z102, .int z12, .int z14, .int z16, .int z18, .int z20, .int z22, .int z24, .int z26, .int 46, .int z29, .int z31, .int z33, .int z35, .int z37, .int z39, .int 45, .int z8, .int z10] := by rw [hu104, fu101]; rfl
  have VF105 := V104
  rw [fu104] at VF105
  obtain ⟨cs0, hcs0⟩ : ∃ cs0 : List Int32, cs0 = [pa, z102, z12, z14, z16, z18, z20, z22, z24, z26, (46 : Int32), z29, z31, z33, z35, z37, z39, (45 : Int32), z8, z10] := ⟨_, rfl⟩
  have hl0 : cs0.length = 20 := by rw [hcs0]; rfl
  have hrg0 : ∀ c ∈ cs0, ¬ c < 0 ∧ ¬ (65535 : Int32) < c := by rw [hcs0]; exact (own_rgc hpa (own_rgc hr_z102 (own_rgc (own_drg x12_0) (own_rgc (own_drg x14_0) (own_rgc (own_drg x16_0) (own_rgc (own_drg x18_0) (own_rgc (own_drg x20_0) (own_rgc (own_drg x22_0) (own_rgc (own_drg x24_0) (own_rgc (own_drg x26_0) (own_rgc ⟨by decide, by decide⟩ (own_rgc (own_drg x29_0) (own_rgc (own_drg x31_0) (own_rgc (own_drg x33_0) (own_rgc (own_drg x35_0) (own_rgc (own_drg x37_0) (own_rgc (own_drg x39_0) (own_rgc ⟨by decide, by decide⟩ (own_rgc (own_drg x8_0) (own_rgc (own_drg x10_0) own_rgn))))))))))))))))))))
  have hlay0 : own_lay 2 cs0 := by rw [hcs0]; exact own_lay_of [pa, z102] [z12, z14, z16, z18, z20, z22, z24, z26, (46 : Int32), z29, z31, z33, z35, z37, z39, (45 : Int32), z8, z10] (own_lac ((own_okd (by decide) (by decide)).mpr x12_0) (own_lac ((own_okd (by decide) (by decide)).mpr x14_0) (own_lac ((own_okd (by decide) (by decide)).mpr x16_0) (own_lac ((own_okd (by decide) (by decide)).mpr x18_0) (own_lac ((own_okd (by decide) (by decide)).mpr x20_0) (own_lac ((own_okd (by decide) (by decide)).mpr x22_0) (own_lac ((own_okd (by decide) (by decide)).mpr x24_0) (own_lac ((own_okd (by decide) (by decide)).mpr x26_0) (own_lac (own_ok8.mpr rfl) (own_lac ((own_okd (by decide) (by decide)).mpr x29_0) (own_lac ((own_okd (by decide) (by decide)).mpr x31_0) (own_lac ((own_okd (by decide) (by decide)).mpr x33_0) (own_lac ((own_okd (by decide) (by decide)).mpr x35_0) (own_lac ((own_okd (by decide) (by decide)).mpr x37_0) (own_lac ((own_okd (by decide) (by decide)).mpr x39_0) (own_lac (own_ok15.mpr rfl) (own_lac ((own_okd (by decide) (by decide)).mpr x8_0) (own_lac ((own_okd (by decide) (by decide)).mpr x10_0) own_lan)))))))))))))))))) rfl
  have VA : Arv Z h104 b1 k1 .char (20 : Int32) (cs0.map Value.int) (.int (0 : Int32)) := by rw [hcs0]; exact VF105
  show own_G _ _ _ _ (T104.setTop (mkF m 380 #[vl q0, v2, vl q1, v2, vi p2, vr b1, vi 2, vi z42, vi pa, vi pb, vi (Int32.ofNat kn), vi ch, vi 0, vu, vu, vu, vu] []))
  refine own_go (fun _ Kk => XS.iload X104.here hx rfl (hb hby at_380) rfl (XS.bipush X104.here hx rfl (hb hby at_382) Kk)) ?_
  by_cases hc384_106 : (Int32.ofNat kn) < (20 : Int32)
  ·
   have hk20 : kn < 20 := (own_ltn (b := 20) (by omega) (by decide)).mp hc384_106
   refine own_go (fun _ Kk => XS.icmpNo X104.here hx rfl (hb hby at_384) rfl (tlt hc384_106).2.1 Kk) ?_
   show own_G _ _ _ _ (T104.setTop (mkF m 387 #[vl q0, v2, vl q1, v2, vi p2, vr b1, vi 2, vi z42, vi pa, vi pb, vi (Int32.ofNat kn), vi ch, vi 0, vu, vu, vu, vu] []))
   refine own_go (fun _ Kk => XS.aload X104.here hx rfl (hb hby at_387) rfl rfl (XS.iload X104.here hx rfl (hb hby at_389) rfl (XS.iload X104.here hx rfl (hb hby at_391) rfl Kk))) ?_
   obtain ⟨cl107, Ar107, q107, Sz107, Nn107, Hh107, Gg107⟩ := id VA
   have hin107 : ¬ ((Int32.ofNat kn) < 0 ∨ cl107.slots.size ≤ ((Int32.ofNat kn)).toNatClampNeg) := inb_of Sz107 ⟨own_onn kn (Nat.le_trans (Nat.le_of_lt hkn) (by decide)), (own_ltn (b := 20) (Nat.le_trans (Nat.le_of_lt hkn) (by decide)) (by decide)).mpr hk20⟩
   obtain ⟨T107, h107, X107, e107, W107, st107⟩ := stC X104 hx hZ e104 Ar107 (j := (Int32.ofNat kn)) hin107 (g := (mkF m 393 #[vl q0, v2, vl q1, v2, vi p2, vr b1, vi 2, vi z42, vi pa, vi pb, vi (Int32.ofNat kn), vi ch, vi 0, vu, vu, vu, vu] [.int ch, .int (Int32.ofNat kn), .ref b1])) rfl rfl (hb hby at_393)
   refine own_go st107 ?_
   have V107 : Arv Z h107 b1 k1 .char (20 : Int32) ((cs0.set kn ch).map Value.int) (.int (0 : Int32)) := by have q := (Arv.set Ar107 q107 Sz107 Nn107 Hh107 Gg107 (fits_nar_char _) W107 kn (own_onc kn (Nat.le_trans (Nat.le_of_lt hkn) (by decide))) (by rw [List.length_map, hl0]; exact hk20)); rw [own_narc (c := ch) hch.1 hch.2] at q; rw [List.map_set]; exact q
   have N107 := Fr.snoc X107 N104 g_b1
   have R108 := CHr.trans R104 (CHr.wr W107 (Safe.exa hZ.alike B104 (by decide) (by decide)) R104.1)
   have hk108 := Nat.le_trans hk104 (Keep.of_wr W107).1
   have Z109 : n0 ≤ h107.size := Nat.le_trans Z104 (Keep.of_wr W107).1
   refine own_go (fun _ Kk => XS.iload X107.here hx rfl (hb hby at_394) rfl Kk) ?_
   show own_G _ _ _ _ (T107.setTop (mkF m 396 #[vl q0, v2, vl q1, v2, vi p2, vr b1, vi 2, vi z42, vi pa, vi pb, vi (Int32.ofNat kn), vi ch, vi 0, vu, vu, vu, vu] [.int (Int32.ofNat kn)]))
   refine own_go (fun _ Kk => XS.iload X107.here hx rfl (hb hby at_396) rfl (XS.isub X107.here hx rfl (hb hby at_398) rfl Kk)) ?_
   show own_G _ _ _ _ (T107.setTop (mkF m 399 #[vl q0, v2, vl q1, v2, vi p2, vr b1, vi 2, vi z42, vi pa, vi pb, vi (Int32.ofNat kn), vi ch, vi 0, vu, vu, vu, vu] [.int ((Int32.ofNat kn) - (2 : Int32))]))
   rcases Nat.lt_or_ge kn 2 with hkl | hkl
   ·
    show own_G _ _ _ _ (T107.setTop (mkF m 399 #[vl q0, v2, vl q1, v2, vi p2, vr b1, vi 2, vi z42, vi pa, vi pb, vi (Int32.ofNat kn), vi ch, vi 0, vu, vu, vu, vu] [.int ((Int32.ofNat kn) - (2 : Int32))]))
    refine own_go (fun _ Kk => XS.istore X107.here hx rfl (hb hby at_399) rfl (l' := #[vl q0, v2, vl q1, v2, vi p2, vr b1, vi 2, vi z42, vi pa, vi pb, vi (Int32.ofNat kn), vi ch, vi 0, vi ((Int32.ofNat kn) - (2 : Int32)), vu, vu, vu]) rfl (XS.iload X107.here hx rfl (hb hby at_401) rfl (XS.ifYes X107.here hx rfl (pc0 := 403) (pc' := 475) rfl (hb hby at_403) rfl ((if0 _ _).trans (tlt (own_sublt kn 2 (by omega) (by decide) hkl)).1) (by decide) (by decide) Kk))) ?_
    show own_G _ _ _ _ (T107.setTop (mkF m 475 #[vl q0, v2, vl q1, v2, vi p2, vr b1, vi 2, vi z42, vi pa, vi pb, vi (Int32.ofNat kn), vi ch, vi 0, vi ((Int32.ofNat kn) - (2 : Int32)), vu, vu, vu] []))
    show own_G _ _ _ _ (T107.setTop (mkF m 475 #[vl q0, v2, vl q1, v2, vi p2, vr b1, vi 2, vi z42, vi pa, vi pb, vi (Int32.ofNat kn), vi ch, vi 0, vi ((Int32.ofNat kn) - (2 : Int32)), vu, vu, vu] []))
    have Q110 := ((((((((((((((((((((((((SS.ext E1).wr W5).wr W7).wr W9).wr W11).wr W13).wr W15).wr W17).wr W19).wr W21).wr W23).wr W25).wr W27).wr W28).wr W30).wr W32).wr W34).wr W36).wr W38).wr W40).wr W41).wr W101).wr W104).wr W107)
    have Q111 := (B104.wr W107)
    exact own_mid2 hw CC (cs := (cs0.set kn ch)) ⟨_, _, X107, e107, N107, Z109, R108, hk108, Q110, Q111, (own_V20 V107 ((List.length_set ..).trans hl0)), ((List.length_set ..).trans hl0), (own_rgset hrg0 hch)⟩ (Or.inr ⟨_, rfl⟩) (Or.inr ⟨rfl, own_lay_lt hlay0 hkl (by decide)⟩)
   ·
    obtain ⟨rr, rfl⟩ : ∃ rr, kn = 2 + rr := ⟨kn - 2, by omega⟩
    rw [show ((Int32.ofNat (2 + rr)) - (2 : Int32)) = Int32.ofNat rr from (own_subn (2 + rr) 2 (by omega) (by omega)).trans (by rw [Nat.add_sub_cancel_left])]
    show own_G _ _ _ _ (T107.setTop (mkF m 399 #[vl q0, v2, vl q1, v2, vi p2, vr b1, vi 2, vi z42, vi pa, vi pb, vi (Int32.ofNat (2 + rr)), vi ch, vi 0, vu, vu, vu, vu] [.int (Int32.ofNat rr)]))
    refine own_go (fun _ Kk => XS.istore X107.here hx rfl (hb hby at_399) rfl (l' := #[vl q0, v2, vl q1, v2, vi p2, vr b1, vi 2, vi z42, vi pa, vi pb, vi (Int32.ofNat (2 + rr)), vi ch, vi 0, vi (Int32.ofNat rr), vu, vu, vu]) rfl (XS.iload X107.here hx rfl (hb hby at_401) rfl (XS.ifNo X107.here hx rfl (hb hby at_403) rfl ((if0 _ _).trans (flt (own_onn rr (by omega))).1) (XS.iload X107.here hx rfl (hb hby at_406) rfl (XS.bipush X107.here hx rfl (hb hby at_408) Kk))))) ?_
    show own_G _ _ _ _ (T107.setTop (mkF m 410 #[vl q0, v2, vl q1, v2, vi p2, vr b1, vi 2, vi z42, vi pa, vi pb, vi (Int32.ofNat (2 + rr)), vi ch, vi 0, vi (Int32.ofNat rr), vu, vu, vu] [.int 8, .int (Int32.ofNat rr)]))
    by_cases hc410_112 : (Int32.ofNat rr) = (8 : Int32)
    ·
     have hr8 : rr = 8 := own_inj (b := 8) (by omega) (by decide) hc410_112
     refine own_go (fun _ Kk => XS.icmpNo X107.here hx rfl (hb hby at_410) rfl (teq hc410_112).2 Kk) ?_
     show own_G _ _ _ _ (T107.setTop (mkF m 413 #[vl q0, v2, vl q1, v2, vi p2, vr b1, vi 2, vi z42, vi pa, vi pb, vi (Int32.ofNat (2 + rr)), vi ch, vi 0, vi (Int32.ofNat rr), vu, vu, vu] []))
     refine own_go (fun _ Kk => XS.iload X107.here hx rfl (hb hby at_413) rfl (XS.bipush X107.here hx rfl (hb hby at_415) Kk)) ?_
     by_cases hc417_113 : ch = (46 : Int32)
     ·
      refine own_go (fun _ Kk => XS.icmpYes X107.here hx rfl (pc0 := 417) (pc' := 424) rfl (hb hby at_417) rfl (teq hc417_113).1 (by decide) (by decide) Kk) ?_
      show own_G _ _ _ _ (T107.setTop (mkF m 424 #[vl q0, v2, vl q1, v2, vi p2, vr b1, vi 2, vi z42, vi pa, vi pb, vi (Int32.ofNat (2 + rr)), vi ch, vi 0, vi (Int32.ofNat rr), vu, vu, vu] []))
      refine own_go (fun _ Kk => XS.iconst X107.here hx rfl (hb hby at_424) (XS.istore X107.here hx rfl (hb hby at_425) rfl (l' := #[vl q0, v2, vl q1, v2, vi p2, vr b1, vi 2, vi z42, vi pa, vi pb, vi (Int32.ofNat (2 + rr)), vi ch, vi 0, vi (Int32.ofNat rr), vu, vu, vu]) rfl (XS.goto X107.here hx rfl (pc0 := 427) (pc' := 475) rfl (hb hby at_427) (by decide) (by decide) Kk))) ?_
      show own_G _ _ _ _ (T107.setTop (mkF m 475 #[vl q0, v2, vl q1, v2, vi p2, vr b1, vi 2, vi z42, vi pa, vi pb, vi (Int32.ofNat (2 + rr)), vi ch, vi 0, vi (Int32.ofNat rr), vu, vu, vu] []))
      show own_G _ _ _ _ (T107.setTop (mkF m 475 #[vl q0, v2, vl q1, v2, vi p2, vr b1, vi 2, vi z42, vi pa, vi pb, vi (Int32.ofNat (2 + rr)), vi ch, vi 0, vi (Int32.ofNat rr), vu, vu, vu] []))
      have Q114 := ((((((((((((((((((((((((SS.ext E1).wr W5).wr W7).wr W9).wr W11).wr W13).wr W15).wr W17).wr W19).wr W21).wr W23).wr W25).wr W27).wr W28).wr W30).wr W32).wr W34).wr W36).wr W38).wr W40).wr W41).wr W101).wr W104).wr W107)
      have Q115 := (B104.wr W107)
      exact own_mid2 hw CC (cs := (cs0.set (2 + rr) ch)) ⟨_, _, X107, e107, N107, Z109, R108, hk108, Q114, Q115, (own_V20 V107 ((List.length_set ..).trans hl0)), ((List.length_set ..).trans hl0), (own_rgset hrg0 hch)⟩ (Or.inr ⟨_, rfl⟩) (Or.inr ⟨rfl, own_lay_ok hlay0 hk20 (by rw [hr8]; exact own_ok8.mpr hc417_113)⟩)
     ·
      refine own_go (fun _ Kk => XS.icmpNo X107.here hx rfl (hb hby at_417) rfl (feq hc417_113).1 Kk) ?_
      show own_G _ _ _ _ (T107.setTop (mkF m 420 #[vl q0, v2, vl q1, v2, vi p2, vr b1, vi 2, vi z42, vi pa, vi pb, vi (Int32.ofNat (2 + rr)), vi ch, vi 0, vi (Int32.ofNat rr), vu, vu, vu] []))
      refine own_go (fun _ Kk => XS.iconst X107.here hx rfl (hb hby at_420) (XS.goto X107.here hx rfl (pc0 := 421) (pc' := 425) rfl (hb hby at_421) (by decide) (by decide) (XS.istore X107.here hx rfl (hb hby at_425) rfl (l' := #[vl q0, v2, vl q1, v2, vi p2, vr b1, vi 2, vi z42, vi pa, vi pb, vi (Int32.ofNat (2 + rr)), vi ch, vi 1, vi (Int32.ofNat rr), vu, vu, vu]) rfl (XS.goto X107.here hx rfl (pc0 := 427) (pc' := 475) rfl (hb hby at_427) (by decide) (by decide) Kk)))) ?_
      show own_G _ _ _ _ (T107.setTop (mkF m 475 #[vl q0, v2, vl q1, v2, vi p2, vr b1, vi 2, vi z42, vi pa, vi pb, vi (Int32.ofNat (2 + rr)), vi ch, vi 1, vi (Int32.ofNat rr), vu, vu, vu] []))
      show own_G _ _ _ _ (T107.setTop (mkF m 475 #[vl q0, v2, vl q1, v2, vi p2, vr b1, vi 2, vi z42, vi pa, vi pb, vi (Int32.ofNat (2 + rr)), vi ch, vi 1, vi (Int32.ofNat rr), vu, vu, vu] []))
      have Q116 := ((((((((((((((((((((((((SS.ext E1).wr W5).wr W7).wr W9).wr W11).wr W13).wr W15).wr W17).wr W19).wr W21).wr W23).wr W25).wr W27).wr W28).wr W30).wr W32).wr W34).wr W36).wr W38).wr W40).wr W41).wr W101).wr W104).wr W107)
      have Q117 := (B104.wr W107)
      exact own_mid2 hw CC (cs := (cs0.set (2 + rr) ch)) ⟨_, _, X107, e107, N107, Z109, R108, hk108, Q116, Q117, (own_V20 V107 ((List.length_set ..).trans hl0)), ((List.length_set ..).trans hl0), (own_rgset hrg0 hch)⟩ (Or.inr ⟨_, rfl⟩) (Or.inl ⟨rfl, own_lay_no hlay0 (by decide) hk20 (by rw [hr8]; exact mt own_ok8.mp hc417_113)⟩)
    ·
     have hr8 : ¬ rr = 8 := fun e => hc410_112 (by rw [e]; rfl)
     refine own_go (fun _ Kk => XS.icmpYes X107.here hx rfl (pc0 := 410) (pc' := 430) rfl (hb hby at_410) rfl (feq hc410_112).2 (by decide) (by decide) Kk) ?_
     show own_G _ _ _ _ (T107.setTop (mkF m 430 #[vl q0, v2, vl q1, v2, vi p2, vr b1, vi 2, vi z42, vi pa, vi pb, vi (Int32.ofNat (2 + rr)), vi ch, vi 0, vi (Int32.ofNat rr), vu, vu, vu] []))
     refine own_go (fun _ Kk => XS.iload X107.here hx rfl (hb hby at_430) rfl (XS.bipush X107.here hx rfl (hb hby at_432) Kk)) ?_
     by_cases hc434_118 : (Int32.ofNat rr) = (15 : Int32)
     ·
      have hr15 : rr = 15 := own_inj (b := 15) (by omega) (by decide) hc434_118
      refine own_go (fun _ Kk => XS.icmpNo X107.here hx rfl (hb hby at_434) rfl (teq hc434_118).2 Kk) ?_
      show own_G _ _ _ _ (T107.setTop (mkF m 437 #[vl q0, v2, vl q1, v2, vi p2, vr b1, vi 2, vi z42, vi pa, vi pb, vi (Int32.ofNat (2 + rr)), vi ch, vi 0, vi (Int32.ofNat rr), vu, vu, vu] []))
      refine own_go (fun _ Kk => XS.iload X107.here hx rfl (hb hby at_437) rfl (XS.bipush X107.here hx rfl (hb hby at_439) Kk)) ?_
      by_cases hc441_119 : ch = (45 : Int32)
      ·
       refine own_go (fun _ Kk => XS.icmpYes X107.here hx rfl (pc0 := 441) (pc' := 448) rfl (hb hby at_441) rfl (teq hc441_119).1 (by decide) (by decide) Kk) ?_
       show own_G _ _ _ _ (T107.setTop (mkF m 448 #[vl q0, v2, vl q1, v2, vi p2, vr b1, vi 2, vi z42, vi pa, vi pb, vi (Int32.ofNat (2 + rr)), vi ch, vi 0, vi (Int32.ofNat rr), vu, vu, vu] []))
       refine own_go (fun _ Kk => XS.iconst X107.here hx rfl (hb hby at_448) (XS.istore X107.here hx rfl (hb hby at_449) rfl (l' := #[vl q0, v2, vl q1, v2, vi p2, vr b1, vi 2, vi z42, vi pa, vi pb, vi (Int32.ofNat (2 + rr)), vi ch, vi 0, vi (Int32.ofNat rr), vu, vu, vu]) rfl (XS.goto X107.here hx rfl (pc0 := 451) (pc' := 475) rfl (hb hby at_451) (by decide) (by decide) Kk))) ?_
       show own_G _ _ _ _ (T107.setTop (mkF m 475 #[vl q0, v2, vl q1, v2, vi p2, vr b1, vi 2, vi z42, vi pa, vi pb, vi (Int32.ofNat (2 + rr)), vi ch, vi 0, vi (Int32.ofNat rr), vu, vu, vu] []))
       show own_G _ _ _ _ (T107.setTop (mkF m 475 #[vl q0, v2, vl q1, v2, vi p2, vr b1, vi 2, vi z42, vi pa, vi pb, vi (Int32.ofNat (2 + rr)), vi ch, vi 0, vi (Int32.ofNat rr), vu, vu, vu] []))
       have Q120 := ((((((((((((((((((((((((SS.ext E1).wr W5).wr W7).wr W9).wr W11).wr W13).wr W15).wr W17).wr W19).wr W21).wr W23).wr W25).wr W27).wr W28).wr W30).wr W32).wr W34).wr W36).wr W38).wr W40).wr W41).wr W101).wr W104).wr W107)
       have Q121 := (B104.wr W107)
       exact own_mid2 hw CC (cs := (cs0.set (2 + rr) ch)) ⟨_, _, X107, e107, N107, Z109, R108, hk108, Q120, Q121, (own_V20 V107 ((List.length_set ..).trans hl0)), ((List.length_set ..).trans hl0), (own_rgset hrg0 hch)⟩ (Or.inr ⟨_, rfl⟩) (Or.inr ⟨rfl, own_lay_ok hlay0 hk20 (by rw [hr15]; exact own_ok15.mpr hc441_119)⟩)
      ·
       refine own_go (fun _ Kk => XS.icmpNo X107.here hx rfl (hb hby at_441) rfl (feq hc441_119).1 Kk) ?_
       show own_G _ _ _ _ (T107.setTop (mkF m 444 #[vl q0, v2, vl q1, v2, vi p2, vr b1, vi 2, vi z42, vi pa, vi pb, vi (Int32.ofNat (2 + rr)), vi ch, vi 0, vi (Int32.ofNat rr), vu, vu, vu] []))
       refine own_go (fun _ Kk => XS.iconst X107.here hx rfl (hb hby at_444) (XS.goto X107.here hx rfl (pc0 := 445) (pc' := 449) rfl (hb hby at_445) (by decide) (by decide) (XS.istore X107.here hx rfl (hb hby at_449) rfl (l' := #[vl q0, v2, vl q1, v2, vi p2, vr b1, vi 2, vi z42, vi pa, vi pb, vi (Int32.ofNat (2 + rr)), vi ch, vi 1, vi (Int32.ofNat rr), vu, vu, vu]) rfl (XS.goto X107.here hx rfl (pc0 := 451) (pc' := 475) rfl (hb hby at_451) (by decide) (by decide) Kk)))) ?_
       show own_G _ _ _ _ (T107.setTop (mkF m 475 #[vl q0, v2, vl q1, v2, vi p2, vr b1, vi 2, vi z42, vi pa, vi pb, vi (Int32.ofNat (2 + rr)), vi ch, vi 1, vi (Int32.ofNat rr), vu, vu, vu] []))
       show own_G _ _ _ _ (T107.setTop (mkF m 475 #[vl q0, v2, vl q1, v2, vi p2, vr b1, vi 2, vi z42, vi pa, vi pb, vi (Int32.ofNat (2 + rr)), vi ch, vi 1, vi (Int32.ofNat rr), vu, vu, vu] []))
       have Q122 := ((((((((((((((((((((((((SS.ext E1).wr W5).wr W7).wr W9).wr W11).wr W13).wr W15).wr W17).wr W19).wr W21).wr W23).wr W25).wr W27).wr W28).wr W30).wr W32).wr W34).wr W36).wr W38).wr W40).wr W41).wr W101).wr W104).wr W107)
       have Q123 := (B104.wr W107)
       exact own_mid2 hw CC (cs := (cs0.set (2 + rr) ch)) ⟨_, _, X107, e107, N107, Z109, R108, hk108, Q122, Q123, (own_V20 V107 ((List.length_set ..).trans hl0)), ((List.length_set ..).trans hl0), (own_rgset hrg0 hch)⟩ (Or.inr ⟨_, rfl⟩) (Or.inl ⟨rfl, own_lay_no hlay0 (by decide) hk20 (by rw [hr15]; exact mt own_ok15.mp hc441_119)⟩)
     ·
      have hr15 : ¬ rr = 15 := fun e => hc434_118 (by rw [e]; rfl)
      refine own_go (fun _ Kk => XS.icmpYes X107.here hx rfl (pc0 := 434) (pc' := 454) rfl (hb hby at_434) rfl (feq hc434_118).2 (by decide) (by decide) Kk) ?_
      show own_G _ _ _ _ (T107.setTop (mkF m 454 #[vl q0, v2, vl q1, v2, vi p2, vr b1, vi 2, vi z42, vi pa, vi pb, vi (Int32.ofNat (2 + rr)), vi ch, vi 0, vi (Int32.ofNat rr), vu, vu, vu] []))
      refine own_go (fun _ Kk => XS.iload X107.here hx rfl (hb hby at_454) rfl (XS.bipush X107.here hx rfl (hb hby at_456) Kk)) ?_
      by_cases hc458_124 : ch < (48 : Int32)
      ·
       refine own_go (fun _ Kk => XS.icmpYes X107.here hx rfl (pc0 := 458) (pc' := 468) rfl (hb hby at_458) rfl (tlt hc458_124).1 (by decide) (by decide) Kk) ?_
       show own_G _ _ _ _ (T107.setTop (mkF m 468 #[vl q0, v2, vl q1, v2, vi p2, vr b1, vi 2, vi z42, vi pa, vi pb, vi (Int32.ofNat (2 + rr)), vi ch, vi 0, vi (Int32.ofNat rr), vu, vu, vu] []))
       refine own_go (fun _ Kk => XS.iconst X107.here hx rfl (hb hby at_468) (XS.goto X107.here hx rfl (pc0 := 469) (pc' := 473) rfl (hb hby at_469) (by decide) (by decide) (XS.istore X107.here hx rfl (hb hby at_473) rfl (l' := #[vl q0, v2, vl q1, v2, vi p2, vr b1, vi 2, vi z42, vi pa, vi pb, vi (Int32.ofNat (2 + rr)), vi ch, vi 1, vi (Int32.ofNat rr), vu, vu, vu]) rfl Kk))) ?_
       show own_G _ _ _ _ (T107.setTop (mkF m 475 #[vl q0, v2, vl q1, v2, vi p2, vr b1, vi 2, vi z42, vi pa, vi pb, vi (Int32.ofNat (2 + rr)), vi ch, vi 1, vi (Int32.ofNat rr), vu, vu, vu] []))
       show own_G _ _ _ _ (T107.setTop (mkF m 475 #[vl q0, v2, vl q1, v2, vi p2, vr b1, vi 2, vi z42, vi pa, vi pb, vi (Int32.ofNat (2 + rr)), vi ch, vi 1, vi (Int32.ofNat rr), vu, vu, vu] []))
       have Q125 := ((((((((((((((((((((((((SS.ext E1).wr W5).wr W7).wr W9).wr W11).wr W13).wr W15).wr W17).wr W19).wr W21).wr W23).wr W25).wr W27).wr W28).wr W30).wr W32).wr W34).wr W36).wr W38).wr W40).wr W41).wr W101).wr W104).wr W107)
       have Q126 := (B104.wr W107)
       exact own_mid2 hw CC (cs := (cs0.set (2 + rr) ch)) ⟨_, _, X107, e107, N107, Z109, R108, hk108, Q125, Q126, (own_V20 V107 ((List.length_set ..).trans hl0)), ((List.length_set ..).trans hl0), (own_rgset hrg0 hch)⟩ (Or.inr ⟨_, rfl⟩) (Or.inl ⟨rfl, own_lay_no hlay0 (by decide) hk20 (fun z => ((own_okd hr8 hr15).mp z).1 hc458_124)⟩)
      ·
       refine own_go (fun _ Kk => XS.icmpNo X107.here hx rfl (hb hby at_458) rfl (flt hc458_124).1 Kk) ?_
       show own_G _ _ _ _ (T107.setTop (mkF m 461 #[vl q0, v2, vl q1, v2, vi p2, vr b1, vi 2, vi z42, vi pa, vi pb, vi (Int32.ofNat (2 + rr)), vi ch, vi 0, vi (Int32.ofNat rr), vu, vu, vu] []))
       refine own_go (fun _ Kk => XS.iload X107.here hx rfl (hb hby at_461) rfl (XS.bipush X107.here hx rfl (hb hby at_463) Kk)) ?_
       by_cases hc465_127 : (57 : Int32) < ch
       ·
        refine own_go (fun _ Kk => XS.icmpNo X107.here hx rfl (hb hby at_465) rfl (tlt hc465_127).2.2.2 Kk) ?_
        show own_G _ _ _ _ (T107.setTop (mkF m 468 #[vl q0, v2, vl q1, v2, vi p2, vr b1, vi 2, vi z42, vi pa, vi pb, vi (Int32.ofNat (2 + rr)), vi ch, vi 0, vi (Int32.ofNat rr), vu, vu, vu] []))
        refine own_go (fun _ Kk => XS.iconst X107.here hx rfl (hb hby at_468) (XS.goto X107.here hx rfl (pc0 := 469) (pc' := 473) rfl (hb hby at_469) (by decide) (by decide) (XS.istore X107.here hx rfl (hb hby at_473) rfl (l' := #[vl q0, v2, vl q1, v2, vi p2, vr b1, vi 2, vi z42, vi pa, vi pb, vi (Int32.ofNat (2 + rr)), vi ch, vi 1, vi (Int32.ofNat rr), vu, vu, vu]) rfl Kk))) ?_
        show own_G _ _ _ _ (T107.setTop (mkF m 475 #[vl q0, v2, vl q1, v2, vi p2, vr b1, vi 2, vi z42, vi pa, vi pb, vi (Int32.ofNat (2 + rr)), vi ch, vi 1, vi (Int32.ofNat rr), vu, vu, vu] []))
        show own_G _ _ _ _ (T107.setTop (mkF m 475 #[vl q0, v2, vl q1, v2, vi p2, vr b1, vi 2, vi z42, vi pa, vi pb, vi (Int32.ofNat (2 + rr)), vi ch, vi 1, vi (Int32.ofNat rr), vu, vu, vu] []))
        have Q128 := ((((((((((((((((((((((((SS.ext E1).wr W5).wr W7).wr W9).wr W11).wr W13).wr W15).wr W17).wr W19).wr W21).wr W23).wr W25).wr W27).wr W28).wr W30).wr W32).wr W34).wr W36).wr W38).wr W40).wr W41).wr W101).wr W104).wr W107)
        have Q129 := (B104.wr W107)
        exact own_mid2 hw CC (cs := (cs0.set (2 + rr) ch)) ⟨_, _, X107, e107, N107, Z109, R108, hk108, Q128, Q129, (own_V20 V107 ((List.length_set ..).trans hl0)), ((List.length_set ..).trans hl0), (own_rgset hrg0 hch)⟩ (Or.inr ⟨_, rfl⟩) (Or.inl ⟨rfl, own_lay_no hlay0 (by decide) hk20 (fun z => ((own_okd hr8 hr15).mp z).2 hc465_127)⟩)
       ·
        refine own_go (fun _ Kk => XS.icmpYes X107.here hx rfl (pc0 := 465) (pc' := 472) rfl (hb hby at_465) rfl (flt hc465_127).2.2.2 (by decide) (by decide) Kk) ?_
        show own_G _ _ _ _ (T107.setTop (mkF m 472 #[vl q0, v2, vl q1, v2, vi p2, vr b1, vi 2, vi z42, vi pa, vi pb, vi (Int32.ofNat (2 + rr)), vi ch, vi 0, vi (Int32.ofNat rr), vu, vu, vu] []))
        refine own_go (fun _ Kk => XS.iconst X107.here hx rfl (hb hby at_472) (XS.istore X107.here hx rfl (hb hby at_473) rfl (l' := #[vl q0, v2, vl q1, v2, vi p2, vr b1, vi 2, vi z42, vi pa, vi pb, vi (Int32.ofNat (2 + rr)), vi ch, vi 0, vi (Int32.ofNat rr), vu, vu, vu]) rfl Kk)) ?_
        show own_G _ _ _ _ (T107.setTop (mkF m 475 #[vl q0, v2, vl q1, v2, vi p2, vr b1, vi 2, vi z42, vi pa, vi pb, vi (Int32.ofNat (2 + rr)), vi ch, vi 0, vi (Int32.ofNat rr), vu, vu, vu] []))
        show own_G _ _ _ _ (T107.setTop (mkF m 475 #[vl q0, v2, vl q1, v2, vi p2, vr b1, vi 2, vi z42, vi pa, vi pb, vi (Int32.ofNat (2 + rr)), vi ch, vi 0, vi (Int32.ofNat rr), vu, vu, vu] []))
        have Q130 := ((((((((((((((((((((((((SS.ext E1).wr W5).wr W7).wr W9).wr W11).wr W13).wr W15).wr W17).wr W19).wr W21).wr W23).wr W25).wr W27).wr W28).wr W30).wr W32).wr W34).wr W36).wr W38).wr W40).wr W41).wr W101).wr W104).wr W107)
        have Q131 := (B104.wr W107)
        exact own_mid2 hw CC (cs := (cs0.set (2 + rr) ch)) ⟨_, _, X107, e107, N107, Z109, R108, hk108, Q130, Q131, (own_V20 V107 ((List.length_set ..).trans hl0)), ((List.length_set ..).trans hl0), (own_rgset hrg0 hch)⟩ (Or.inr ⟨_, rfl⟩) (Or.inr ⟨rfl, own_lay_ok hlay0 hk20 ((own_okd hr8 hr15).mpr ⟨hc458_124, hc465_127⟩)⟩)
  ·
   have hk20 : ¬ kn < 20 := mt (own_ltn (b := 20) (by omega) (by decide)).mpr hc384_106
   refine own_go (fun _ Kk => XS.icmpYes X104.here hx rfl (pc0 := 384) (pc' := 475) rfl (hb hby at_384) rfl (flt hc384_106).2.1 (by decide) (by decide) Kk) ?_
   show own_G _ _ _ _ (T104.setTop (mkF m 475 #[vl q0, v2, vl q1, v2, vi p2, vr b1, vi 2, vi z42, vi pa, vi pb, vi (Int32.ofNat kn), vi ch, vi 0, vu, vu, vu, vu] []))
   show own_G _ _ _ _ (T104.setTop (mkF m 475 #[vl q0, v2, vl q1, v2, vi p2, vr b1, vi 2, vi z42, vi pa, vi pb, vi (Int32.ofNat kn), vi ch, vi 0, vu, vu, vu, vu] []))
   have Q132 := (((((((((((((((((((((((SS.ext E1).wr W5).wr W7).wr W9).wr W11).wr W13).wr W15).wr W17).wr W19).wr W21).wr W23).wr W25).wr W27).wr W28).wr W30).wr W32).wr W34).wr W36).wr W38).wr W40).wr W41).wr W101).wr W104)
   exact own_mid2 hw CC (cs := cs0) ⟨_, _, X104, e104, N104, Z104, R104, hk104, Q132, B104, (own_V20 VA hl0), hl0, hrg0⟩ (Or.inl rfl) (Or.inr ⟨rfl, hlay0⟩)
end Jvm.Pilot.@@N@@
namespace Jvm.Pilot.@@N@@
open Jvm Jvm.ClassFile Sem Op Lib Jvm.Free Jvm.Stand Jvm.LawKit Jvm.RoadKit Bundle Jvm.Pilot.@@N@@.Jvm.D
set_option maxRecDepth 65536
set_option maxHeartbeats 40000000
variable {l : Launch} {Z : State} {a0 : Array Value}
theorem own_staI {args : Array Value} {s : State} {C n d : String} {z : Int32} (h0 : (Jvm.Cond.initializedFor C n d).before args s = true) (hb : (Jvm.Cond.eq (Term.static C n d) (Term.int z)).before args s = true) : Sta s s.heap C n d (.int z) := by
  have h := Cond.before_iff.mp hb
  obtain ⟨x, y, h1, h2, k1, k2⟩ := cmp_v (Or.inl h)
  have h3 : (Term.int z).eval args s none [] s = some (.int z) := rfl
  obtain rfl : y = .int z := Option.some.inj (h2.symm.trans h3)
  obtain ⟨w, rfl⟩ := k2
  have e : w = z := by simp only [Cond.value, h1, h3] at h; simpa using h
  subst e
  exact Sta.start h1 (Or.inl h0)
set_option maxRecDepth 65536 in
set_option maxHeartbeats 40000000 in
theorem comes_1 {Post : Tables → Env → Array Value → State → Outcome → State → Prop} (hpost : ∀ tb e args s v u, (limb_1_1.after args s (.returned v) u = true ∧ limb_1_2.after args s (.returned v) u = true ∧ True) → ReturnedEndW s (.returned v) u (Jvm.fieldLocs frame_1_writes args s ++ Jvm.arrayLocs frame_1_arrays args s ++ Jvm.staticLocs frame_1_statics s) 48 3584 → Post tb e args s (.returned v) u) :
    ArmFor flags0 classFile x code maxLocals ret World_1 tables_1 room_1 Calls_1 rest_1 Pre_1 Post := by
  intro l hfl _ _ p e ha hc hk s m args below hf hA hF happ hP
  obtain ⟨hcalls, hrest, hpre⟩ := hP
  obtain ⟨-, -, -, hnamed, -, -, -, hat⟩ := (Spec.applies_iff hf).mp happ
  obtain ⟨hg, hn⟩ := and_e (Cond.before_iff.mp (show (Jvm.Cond.and given_1 narrow_1).before args s = true from hpre))
  obtain ⟨hcnt, hg0⟩ := and_e hg
  obtain ⟨hv0, hg1⟩ := and_e hg0
  obtain ⟨hv1, hg2⟩ := and_e hg1
  obtain ⟨w0, w1, w2, rfl⟩ : ∃ w0 w1 w2 : Value, args = #[w0, w1, w2] := by
    have hs : args.size = 3 := by simpa [Cond.value, given_1] using hcnt
    obtain ⟨L⟩ := args
    match L, hs with
    | [w0, w1, w2], _ => exact ⟨w0, w1, w2, rfl⟩
  have hw := fun d (hd : d ∈ tables_1) => atoms_spec (ws := Jvm.Cond.code x code maxLocals ret :: tables_1) hat d (List.mem_cons_of_mem _ hd)
  have hfit : Fit s := fun {y c} hc i hi => by
    obtain ⟨ha, rfl⟩ := Array.getElem?_eq_some_iff.mp hc
    have q := List.all_eq_true.mp ((Array.all_eq_true_iff_forall_mem.mp hF) _ (Array.getElem_mem ha)) i (List.mem_range.mpr hi)
    simpa [Array.getElem?_eq_getElem hi] using q
  obtain ⟨hsets, hown0⟩ := atoms_of _ (rest_1_c_eq ▸ (show rest_1_c.before _ s = true from hrest))
  obtain ⟨i0, ei0⟩ := isL_v hv0
  obtain rfl : w0 = (.long i0) := Option.some.inj ei0
  obtain ⟨i1, ei1⟩ := isL_v hv1
  obtain rfl : w1 = (.long i1) := Option.some.inj ei1
  obtain ⟨i2, ei2⟩ := is_v hg2
  obtain rfl : w2 = (.int i2) := Option.some.inj ei2
  obtain ⟨zc, t0⟩ := is_v (Cond.before_iff.mp (hsets _ (List.mem_of_getElem? (i := 1) rfl)))
  have S0 := Sta.start t0 (Or.inl (hsets _ (List.mem_of_getElem? (i := 0) rfl)))
  have hcw := (hsets _ (List.mem_of_getElem? (i := 2) rfl))
  have hzc : ¬ zc = 0 := fun q => by
    have q1 := Cond.before_iff.mp hcw
    have q2 : (Term.int 0).eval #[.long i0, .long i1, .int i2] s none [] s = some (.int 0) := rfl
    simp only [Cond.value, t0, q2] at q1
    simp [q] at q1
  obtain ⟨fm, t1, hfm⟩ := isR_v (Cond.before_iff.mp (hsets _ (List.mem_of_getElem? (i := 8) rfl)))
  have S1 := Sta.start t1 (Or.inl (hsets _ (List.mem_of_getElem? (i := 7) rfl)))
  have SS : own_St s s.heap zc fm := ⟨hzc, hfm, S0, S1, own_staI (hsets _ (List.mem_of_getElem? (i := 11) rfl)) (hsets _ (List.mem_of_getElem? (i := 12) rfl)), own_staI (hsets _ (List.mem_of_getElem? (i := 14) rfl)) (hsets _ (List.mem_of_getElem? (i := 15) rfl)), own_staI (hsets _ (List.mem_of_getElem? (i := 17) rfl)) (hsets _ (List.mem_of_getElem? (i := 18) rfl))⟩
  have hw : own_H #[.long i0, .long i1, .int i2] s := fun i _ h => hw _ (List.mem_of_getElem? h)
  have hC0 : CHv s consts_1 s.vm s.heap := CHv.start (own_EW hw) hcalls.1 hcw (own_wSt (own_hm hw) _ (by simp [Bundle.stringAtoms])) (own_wSt (own_hm hw) _ (by simp [Bundle.stringAtoms, Bundle.sN]))
  obtain ⟨n, o, h1, h2, h3, _, L, rfl, ⟨rfl, N⟩, -, hq⟩ := rm_0 l s _ hw tables_1 i0 i1 i2 zc fm s.heap s.heap.size (Nat.le_refl _) SS p e ha hc hk s m _ below hf ((Spec.applies_iff_loose hf).mp happ).1 ⟨rfl, State.Warmed39.refl s, rfl, hC0⟩ trivial
  refine ⟨n, _, h1, h2, h3, hpost _ _ _ _ _ _ ⟨Cond.after_iff.mpr rfl, Cond.after_iff.mpr (eq_i res_at (Term.int_eval (1)) rfl), trivial⟩ ⟨hq.1, hq.2.1, hq.2.2.1, (hq.2.2.2.sift fun y hy => Or.inr (N y hy)).mono (by decide) (by decide)⟩⟩
theorem main_1_1 : Claimed_1_1 := comes_1 fun _ _ _ _ _ _ h hF => ⟨h.1, hF⟩
theorem main_1_2 : Claimed_1_2 := comes_1 fun _ _ _ _ _ _ h hF => ⟨h.2.1, hF⟩
end Jvm.Pilot.@@N@@
namespace Jvm.Pilot.@@N@@
open Jvm Jvm.ClassFile Sem Op Lib Jvm.Free Jvm.Stand Jvm.Pilot.@@N@@.Jvm.D
/-! MADE BY PROGRAM (witnessworld.py) out of the Statement's table words and the real class files: 26 classes; the members and pool entries that the words name. The judged class is class 1, her method 3. -/
namespace start1
open Jvm.ClassFile
def u (s : String) : CpInfo := .utf8 (stringToUtf16 s)
/-- a pool by its gaps: so many unusable entries, then the entry; so many at the end -/
def gap : Nat → List CpInfo → List CpInfo
  | 0, r => r
  | n + 1, r => .unusable :: gap n r
def poolList (es : List (Nat × CpInfo)) (last : Nat) : List CpInfo := es.foldr (fun e r => gap e.1 (e.2 :: r)) (gap last [])
def pool (es : List (Nat × CpInfo)) (last : Nat) : Array CpInfo := ⟨poolList es last⟩
def fileOf (pool : Array CpInfo) (this : Nat) (attrs : Array Attribute := #[]) (ms : Array MethodInfo := #[]) (fl : Nat := 33) (sup : Nat := 0) (ifs : Array Nat := #[]) (fds : Array FieldInfo := #[]) : ClassFile where
  minorVersion := 0
  majorVersion := 65
  constantPool := pool
  accessFlags := fl
  thisClass := this
  superClass := sup
  interfaces := ifs
  fields := fds
  methods := ms
  attributes := attrs
def plain (name : String) (sup : Option ClassId) : Class where
  name := name
  kind := .ordinary
  loader := none
  accessFlags := 33
  super := sup
  interfaces := #[]
  cf := none
  fields := #[]
  methods := #[]
  instanceTypes := #[]
  staticTypes := #[]
  resolved := #[]
  callSites := []
  init := .initialized
  statics := none
  mirror := none

def pool0 : Array CpInfo := pool [(5, u "<init>"), (0, u "()V"), (1, .class_ 10), (1, u "java/lang/Object")] 113

def k0c0 : Code := { maxStack := 0, maxLocals := 1, code := object_method_1_code, exceptionTable := #[], attributes := #[] }
def k0m0 : Method := { name := "<init>", desc := "()V", sig := { parameters := [], returnType := none }, accessFlags := 1, code := some k0c0 }
/-- java/lang/Object -/
def k0 : Class := { plain "java/lang/Object" none with
  accessFlags := 33
  interfaces := #[]
  cf := some (fileOf pool0 8 #[] #[{ accessFlags := 1, nameIndex := 5, descriptorIndex := 6, attributes := #[] }] 33 0 #[] #[])
  fields := #[]
  methods := #[k0m0]
  instanceTypes := #[]
  staticTypes := #[]
  resolved := Array.replicate 124 none
  statics := none }

def pool1 : Array CpInfo := pool [(2, .class_ 4), (1, u "java/lang/Object"), (0, u "<init>"), (0, u "()V"), (0, .long 15), (1, .methodref 10 11), (0, .class_ 12), (0, .nameAndType 13 14), (0, u "com/example/lodepath/lodepath/MavenVersionBaseVersionPinLaw"), (0, u "dig"), (0, u "(JI)C"), (0, .long 3), (1, .integer 65535), (0, .long 31), (1, .long 65535), (1, .methodref 10 23), (0, .nameAndType 24 25), (0, u "terminator"), (0, u "(C)Z"), (0, .class_ 27), (0, u "java/lang/String"), (0, .methodref 26 29), (0, .nameAndType 5 30), (0, u "([C)V"), (0, .methodref 32 33), (0, .class_ 34), (0, .nameAndType 35 36), (0, u "com/example/lodepath/lodepath/MavenVersion"), (0, u "baseVersion"), (0, u "(Ljava/lang/String;)Ljava/lang/String;"), (0, .methodref 26 38), (0, .nameAndType 39 40), (0, u "equals"), (0, u "(Ljava/lang/Object;)Z"), (0, .string 42), (0, u "SNAPSHOT"), (3, u "law"), (0, u "(JJI)Z")] 4

def k1m0 : Method := { name := "<init>", desc := "()V", sig := { parameters := [], returnType := none }, accessFlags := 1, code := none }
def k1c1 : Code := { maxStack := 5, maxLocals := 3, code := method_2_code, exceptionTable := #[], attributes := #[] }
def k1m1 : Method := { name := "dig", desc := "(JI)C", sig := { parameters := [.long, .int], returnType := some .char }, accessFlags := 10, code := some k1c1 }
def k1c2 : Code := { maxStack := 2, maxLocals := 1, code := method_3_code, exceptionTable := #[], attributes := #[] }
def k1m2 : Method := { name := "terminator", desc := "(C)Z", sig := { parameters := [.char], returnType := some .boolean }, accessFlags := 10, code := some k1c2 }
def k1c3 : Code := { maxStack := 7, maxLocals := 17, code := code, exceptionTable := #[], attributes := #[] }
def k1m3 : Method := { name := "law", desc := "(JJI)Z", sig := { parameters := [.long, .long, .int], returnType := some .boolean }, accessFlags := 9, code := some k1c3 }
/-- com/example/lodepath/lodepath/MavenVersionBaseVersionPinLaw -/
def k1 : Class := { plain "com/example/lodepath/lodepath/MavenVersionBaseVersionPinLaw" (some 0) with
  accessFlags := 49
  interfaces := #[]
  cf := some (fileOf pool1 10 #[] #[{ accessFlags := 1, nameIndex := 5, descriptorIndex := 6, attributes := #[] }, { accessFlags := 10, nameIndex := 13, descriptorIndex := 14, attributes := #[] }, { accessFlags := 10, nameIndex := 24, descriptorIndex := 25, attributes := #[] }, { accessFlags := 9, nameIndex := 46, descriptorIndex := 47, attributes := #[] }] 49 2 #[] #[])
  fields := #[]
  methods := #[k1m0, k1m1, k1m2, k1m3]
  instanceTypes := #[]
  staticTypes := #[]
  resolved := Array.replicate 52 none
  statics := none }

def pool2 : Array CpInfo := pool [(1, .class_ 2), (0, u "java/io/Serializable"), (0, .class_ 4), (0, u "java/lang/Object")] 2

/-- java/io/Serializable -/
def k2 : Class := { plain "java/io/Serializable" (some 0) with
  accessFlags := 1537
  interfaces := #[]
  cf := some (fileOf pool2 1 #[] #[] 1537 3 #[] #[])
  fields := #[]
  methods := #[]
  instanceTypes := #[]
  staticTypes := #[]
  resolved := Array.replicate 7 none
  statics := none }

def pool3 : Array CpInfo := pool [(1, .class_ 2), (0, u "java/lang/Comparable"), (0, .class_ 4), (0, u "java/lang/Object")] 7

/-- java/lang/Comparable -/
def k3 : Class := { plain "java/lang/Comparable" (some 0) with
  accessFlags := 1537
  interfaces := #[]
  cf := some (fileOf pool3 1 #[] #[] 1537 3 #[] #[])
  fields := #[]
  methods := #[]
  instanceTypes := #[]
  staticTypes := #[]
  resolved := Array.replicate 12 none
  statics := none }

def pool4 : Array CpInfo := pool [(2, .class_ 4), (1, u "java/lang/CharSequence"), (42, .class_ 48), (0, u "java/lang/CharSequence$1CodePointIterator"), (10, .class_ 60), (0, u "java/lang/CharSequence$1CharIterator"), (5, .class_ 67), (0, u "java/lang/Object")] 63

/-- java/lang/CharSequence -/
def k4 : Class := { plain "java/lang/CharSequence" (some 0) with
  accessFlags := 1537
  interfaces := #[]
  cf := some (fileOf pool4 2 #[.nestMembers #[47, 59]] #[] 1537 66 #[] #[])
  fields := #[]
  methods := #[]
  instanceTypes := #[]
  staticTypes := #[]
  resolved := Array.replicate 131 none
  statics := none }

def pool5 : Array CpInfo := pool [(1, .class_ 2), (0, u "java/lang/constant/Constable"), (0, .class_ 4), (0, u "java/lang/Object")] 6

/-- java/lang/constant/Constable -/
def k5 : Class := { plain "java/lang/constant/Constable" (some 0) with
  accessFlags := 1537
  interfaces := #[]
  cf := some (fileOf pool5 1 #[] #[] 1537 3 #[] #[])
  fields := #[]
  methods := #[]
  instanceTypes := #[]
  staticTypes := #[]
  resolved := Array.replicate 11 none
  statics := none }

def pool6 : Array CpInfo := pool [(1, .class_ 2), (0, u "java/lang/constant/ConstantDesc"), (0, .class_ 4), (0, u "java/lang/Object")] 32

/-- java/lang/constant/ConstantDesc -/
def k6 : Class := { plain "java/lang/constant/ConstantDesc" (some 0) with
  accessFlags := 1537
  interfaces := #[]
  cf := some (fileOf pool6 1 #[] #[] 1537 3 #[] #[])
  fields := #[]
  methods := #[]
  instanceTypes := #[]
  staticTypes := #[]
  resolved := Array.replicate 37 none
  statics := none }

def pool7 : Array CpInfo := pool [(1, .methodref 2 3), (0, .class_ 4), (0, .nameAndType 5 6), (0, u "java/lang/Object"), (0, u "<init>"), (0, u "()V"), (2, .fieldref 10 11), (0, .class_ 12), (0, .nameAndType 13 14), (0, u "java/lang/String"), (0, u "value"), (0, u "[B"), (0, .fieldref 10 16), (0, .nameAndType 17 18), (0, u "coder"), (0, u "B"), (2, u "hash"), (0, u "I"), (2, u "hashIsZero"), (0, u "Z"), (0, .methodref 10 28), (0, .nameAndType 5 29), (0, u "([CIILjava/lang/Void;)V"), (6, u "checkBoundsOffCount"), (0, u "(III)I"), (0, .fieldref 10 39), (0, .nameAndType 40 26), (0, u "COMPACT_STRINGS"), (1, .class_ 44), (1, u "java/lang/StringUTF16"), (0, u "compress"), (1, .methodref 42 48), (0, .nameAndType 49 50), (0, u "coderFromArrayLen"), (0, u "([BI)B"), (3, .methodref 55 56), (0, .class_ 57), (0, .nameAndType 58 59), (0, u "java/util/Arrays"), (0, u "copyOfRange"), (0, u "([BII)[B"), (37, u "([BII)I"), (8, .methodref 107 108), (0, .class_ 109), (0, .nameAndType 110 111), (0, u "java/lang/StringLatin1"), (0, u "inflate"), (0, u "([BI[BII)V"), (30, u "()Z"), (34, .methodref 42 178), (0, .nameAndType 45 179), (0, u "([CII)[B"), (13, .class_ 195), (1, u "java/lang/System"), (15, u "([BB)V"), (0, .methodref 193 213), (0, .nameAndType 214 215), (0, u "arraycopy"), (0, u "(Ljava/lang/Object;ILjava/lang/Object;II)V"), (118, u "()I"), (0, .methodref 10 336), (0, .nameAndType 17 337), (0, u "()B"), (2, u "()[B"), (22, u "([BI)C"), (27, u "(II)V"), (35, u "(I)C"), (61, .methodref 10 490), (0, .nameAndType 5 491), (0, u "(Ljava/lang/AbstractStringBuilder;Ljava/lang/Void;)V"), (0, .methodref 10 493), (0, .nameAndType 494 142), (0, u "isLatin1"), (0, .methodref 107 496), (0, .nameAndType 497 363), (0, u "charAt"), (0, .methodref 42 496), (2, u "checkIndex"), (3, .methodref 10 506), (0, .nameAndType 507 334), (0, u "length"), (5, u "checkFromToIndex"), (7, .methodref 10 522), (0, .nameAndType 523 524), (0, u "checkBoundsBeginEnd"), (0, u "(III)V"), (7, u "getBytes"), (8, .methodref 107 542), (0, .nameAndType 543 544), (0, u "equals"), (0, u "([B[B)Z"), (4, .methodref 550 506), (0, .class_ 551), (0, u "java/lang/AbstractStringBuilder"), (0, .methodref 550 553), (0, .nameAndType 554 340), (0, u "getValue"), (18, u "(Ljava/lang/Object;)Z"), (1, .class_ 576), (0, u "java/lang/CharSequence"), (22, u "CASE_INSENSITIVE_ORDER"), (0, u "Ljava/util/Comparator;"), (35, u "(II)I"), (4, .methodref 10 642), (0, .nameAndType 643 636), (0, u "lastIndexOf"), (0, .methodref 107 645), (0, .nameAndType 643 97), (0, .methodref 42 645), (36, u "substring"), (0, u "(II)Ljava/lang/String;"), (0, .methodref 107 686), (0, .nameAndType 687 688), (0, u "newString"), (0, u "([BII)Ljava/lang/String;"), (0, .methodref 42 686), (75, u "(I)I"), (55, u "([BIB)V"), (188, u "([C)V"), (36, .methodref 550 493), (0, .fieldref 550 1049), (0, .nameAndType 1050 26), (0, u "maybeLatin1"), (2, .fieldref 1054 1055), (0, .class_ 1056), (0, .nameAndType 1057 1058), (0, u "jdk/internal/util/Preconditions"), (0, u "SIOOBE_FORMATTER"), (0, u "Ljava/util/function/BiFunction;"), (0, .methodref 1054 1060), (0, .nameAndType 501 1061), (0, u "(IILjava/util/function/BiFunction;)I"), (0, .methodref 1054 1063), (0, .nameAndType 513 1064), (0, u "(IIILjava/util/function/BiFunction;)I"), (0, .methodref 1054 1066), (0, .nameAndType 1067 1064), (0, u "checkFromIndexSize"), (33, u "serialPersistentFields"), (0, u "[Ljava/io/ObjectStreamField;"), (0, .class_ 1104), (0, u "java/lang/String$CaseInsensitiveComparator"), (1, .class_ 1107), (0, u "java/io/Serializable"), (0, .class_ 1109), (0, u "java/lang/Comparable"), (0, .class_ 1111), (0, u "java/lang/constant/Constable"), (0, .class_ 1113), (0, u "java/lang/constant/ConstantDesc"), (2, u "serialVersionUID"), (0, u "J"), (3, u "REPL"), (0, u "C"), (2, u "LATIN1"), (1, u "UTF16"), (105, u "(Ljava/lang/StringBuilder;)V")] 217

def k7m0 : Method := { name := "<init>", desc := "()V", sig := { parameters := [], returnType := none }, accessFlags := 1, code := none }
def k7c1 : Code := { maxStack := 5, maxLocals := 2, code := jdk_42_method_3_code, exceptionTable := #[], attributes := #[] }
def k7m1 : Method := { name := "<init>", desc := "([C)V", sig := { parameters := [(.array .char)], returnType := none }, accessFlags := 1, code := some k7c1 }
def k7c2 : Code := { maxStack := 3, maxLocals := 2, code := jdk_42_method_53_code, exceptionTable := #[], attributes := #[] }
def k7m2 : Method := { name := "<init>", desc := "(Ljava/lang/StringBuilder;)V", sig := { parameters := [(.object "java/lang/StringBuilder")], returnType := none }, accessFlags := 1, code := some k7c2 }
def k7c3 : Code := { maxStack := 2, maxLocals := 1, code := jdk_42_method_54_code, exceptionTable := #[], attributes := #[] }
def k7m3 : Method := { name := "length", desc := "()I", sig := { parameters := [], returnType := some .int }, accessFlags := 1, code := some k7c3 }
def k7c4 : Code := { maxStack := 2, maxLocals := 2, code := jdk_42_method_56_code, exceptionTable := #[], attributes := #[] }
def k7m4 : Method := { name := "charAt", desc := "(I)C", sig := { parameters := [.int], returnType := some .char }, accessFlags := 1, code := some k7c4 }
def k7c5 : Code := { maxStack := 2, maxLocals := 3, code := jdk_42_method_66_code, exceptionTable := #[], attributes := #[] }
def k7m5 : Method := { name := "equals", desc := "(Ljava/lang/Object;)Z", sig := { parameters := [(.object "java/lang/Object")], returnType := some .boolean }, accessFlags := 1, code := some k7c5 }
def k7c6 : Code := { maxStack := 4, maxLocals := 2, code := jdk_42_method_82_code, exceptionTable := #[], attributes := #[] }
def k7m6 : Method := { name := "lastIndexOf", desc := "(I)I", sig := { parameters := [.int], returnType := some .int }, accessFlags := 1, code := some k7c6 }
def k7c7 : Code := { maxStack := 3, maxLocals := 3, code := jdk_42_method_83_code, exceptionTable := #[], attributes := #[] }
def k7m7 : Method := { name := "lastIndexOf", desc := "(II)I", sig := { parameters := [.int, .int], returnType := some .int }, accessFlags := 1, code := some k7c7 }
def k7c8 : Code := { maxStack := 3, maxLocals := 5, code := jdk_42_method_92_code, exceptionTable := #[], attributes := #[] }
def k7m8 : Method := { name := "substring", desc := "(II)Ljava/lang/String;", sig := { parameters := [.int, .int], returnType := some (.object "java/lang/String") }, accessFlags := 1, code := some k7c8 }
def k7c9 : Code := { maxStack := 5, maxLocals := 4, code := jdk_42_method_147_code, exceptionTable := #[], attributes := #[] }
def k7m9 : Method := { name := "getBytes", desc := "([BIB)V", sig := { parameters := [(.array .byte), .int, .byte], returnType := none }, accessFlags := 0, code := some k7c9 }
def k7c10 : Code := { maxStack := 4, maxLocals := 6, code := jdk_42_method_149_code, exceptionTable := #[], attributes := #[] }
def k7m10 : Method := { name := "<init>", desc := "([CIILjava/lang/Void;)V", sig := { parameters := [(.array .char), .int, .int, (.object "java/lang/Void")], returnType := none }, accessFlags := 2, code := some k7c10 }
def k7c11 : Code := { maxStack := 5, maxLocals := 5, code := jdk_42_method_150_code, exceptionTable := #[], attributes := #[] }
def k7m11 : Method := { name := "<init>", desc := "(Ljava/lang/AbstractStringBuilder;Ljava/lang/Void;)V", sig := { parameters := [(.object "java/lang/AbstractStringBuilder"), (.object "java/lang/Void")], returnType := none }, accessFlags := 0, code := some k7c11 }
def k7c12 : Code := { maxStack := 2, maxLocals := 3, code := jdk_42_method_151_code, exceptionTable := #[], attributes := #[] }
def k7m12 : Method := { name := "<init>", desc := "([BB)V", sig := { parameters := [(.array .byte), .byte], returnType := none }, accessFlags := 0, code := some k7c12 }
def k7c13 : Code := { maxStack := 1, maxLocals := 1, code := jdk_42_method_152_code, exceptionTable := #[], attributes := #[] }
def k7m13 : Method := { name := "coder", desc := "()B", sig := { parameters := [], returnType := some .byte }, accessFlags := 0, code := some k7c13 }
def k7c14 : Code := { maxStack := 1, maxLocals := 1, code := jdk_42_method_154_code, exceptionTable := #[], attributes := #[] }
def k7m14 : Method := { name := "isLatin1", desc := "()Z", sig := { parameters := [], returnType := some .boolean }, accessFlags := 0, code := some k7c14 }
def k7c15 : Code := { maxStack := 3, maxLocals := 2, code := jdk_42_method_155_code, exceptionTable := #[], attributes := #[] }
def k7m15 : Method := { name := "checkIndex", desc := "(II)V", sig := { parameters := [.int, .int], returnType := none }, accessFlags := 8, code := some k7c15 }
def k7c16 : Code := { maxStack := 4, maxLocals := 3, code := jdk_42_method_157_code, exceptionTable := #[], attributes := #[] }
def k7m16 : Method := { name := "checkBoundsOffCount", desc := "(III)I", sig := { parameters := [.int, .int, .int], returnType := some .int }, accessFlags := 8, code := some k7c16 }
def k7c17 : Code := { maxStack := 4, maxLocals := 3, code := jdk_42_method_158_code, exceptionTable := #[], attributes := #[] }
def k7m17 : Method := { name := "checkBoundsBeginEnd", desc := "(III)V", sig := { parameters := [.int, .int, .int], returnType := none }, accessFlags := 8, code := some k7c17 }
/-- java/lang/String -/
def k7 : Class := { plain "java/lang/String" (some 0) with
  accessFlags := 49
  interfaces := #[2, 3, 4, 5, 6]
  cf := some (fileOf pool7 10 #[.nestMembers #[1103]] #[{ accessFlags := 1, nameIndex := 5, descriptorIndex := 6, attributes := #[] }, { accessFlags := 1, nameIndex := 5, descriptorIndex := 1010, attributes := #[] }, { accessFlags := 1, nameIndex := 5, descriptorIndex := 1233, attributes := #[] }, { accessFlags := 1, nameIndex := 507, descriptorIndex := 334, attributes := #[] }, { accessFlags := 1, nameIndex := 497, descriptorIndex := 427, attributes := #[] }, { accessFlags := 1, nameIndex := 543, descriptorIndex := 573, attributes := #[] }, { accessFlags := 1, nameIndex := 643, descriptorIndex := 765, attributes := #[] }, { accessFlags := 1, nameIndex := 643, descriptorIndex := 636, attributes := #[] }, { accessFlags := 1, nameIndex := 683, descriptorIndex := 684, attributes := #[] }, { accessFlags := 0, nameIndex := 532, descriptorIndex := 821, attributes := #[] }, { accessFlags := 2, nameIndex := 5, descriptorIndex := 29, attributes := #[] }, { accessFlags := 0, nameIndex := 5, descriptorIndex := 491, attributes := #[] }, { accessFlags := 0, nameIndex := 5, descriptorIndex := 211, attributes := #[] }, { accessFlags := 0, nameIndex := 17, descriptorIndex := 337, attributes := #[] }, { accessFlags := 0, nameIndex := 494, descriptorIndex := 142, attributes := #[] }, { accessFlags := 8, nameIndex := 501, descriptorIndex := 391, attributes := #[] }, { accessFlags := 8, nameIndex := 36, descriptorIndex := 37, attributes := #[] }, { accessFlags := 8, nameIndex := 523, descriptorIndex := 524, attributes := #[] }] 49 2 #[1106, 1108, 575, 1110, 1112] #[{ accessFlags := 18, nameIndex := 13, descriptorIndex := 14, attributes := #[] }, { accessFlags := 18, nameIndex := 17, descriptorIndex := 18, attributes := #[] }, { accessFlags := 2, nameIndex := 21, descriptorIndex := 22, attributes := #[] }, { accessFlags := 2, nameIndex := 25, descriptorIndex := 26, attributes := #[] }, { accessFlags := 26, nameIndex := 1116, descriptorIndex := 1117, attributes := #[] }, { accessFlags := 24, nameIndex := 40, descriptorIndex := 26, attributes := #[] }, { accessFlags := 26, nameIndex := 1101, descriptorIndex := 1102, attributes := #[] }, { accessFlags := 26, nameIndex := 1121, descriptorIndex := 1122, attributes := #[] }, { accessFlags := 25, nameIndex := 599, descriptorIndex := 600, attributes := #[] }, { accessFlags := 24, nameIndex := 1125, descriptorIndex := 18, attributes := #[] }, { accessFlags := 24, nameIndex := 1127, descriptorIndex := 18, attributes := #[] }])
  fields := #[{ name := "value", type := (.array .byte), accessFlags := 18, slot := 0, constantValue := 0 }, { name := "coder", type := .byte, accessFlags := 18, slot := 1, constantValue := 0 }, { name := "hash", type := .int, accessFlags := 2, slot := 2, constantValue := 0 }, { name := "hashIsZero", type := .boolean, accessFlags := 2, slot := 3, constantValue := 0 }, { name := "serialVersionUID", type := .long, accessFlags := 26, slot := 0, constantValue := 0 }, { name := "COMPACT_STRINGS", type := .boolean, accessFlags := 24, slot := 1, constantValue := 0 }, { name := "serialPersistentFields", type := (.array (.object "java/io/ObjectStreamField")), accessFlags := 26, slot := 2, constantValue := 0 }, { name := "REPL", type := .char, accessFlags := 26, slot := 3, constantValue := 0 }, { name := "CASE_INSENSITIVE_ORDER", type := (.object "java/util/Comparator"), accessFlags := 25, slot := 4, constantValue := 0 }, { name := "LATIN1", type := .byte, accessFlags := 24, slot := 5, constantValue := 0 }, { name := "UTF16", type := .byte, accessFlags := 24, slot := 6, constantValue := 0 }]
  methods := #[k7m0, k7m1, k7m2, k7m3, k7m4, k7m5, k7m6, k7m7, k7m8, k7m9, k7m10, k7m11, k7m12, k7m13, k7m14, k7m15, k7m16, k7m17]
  instanceTypes := #[(.array .byte), .byte, .int, .boolean]
  staticTypes := #[.long, .boolean, (.array (.object "java/io/ObjectStreamField")), .char, (.object "java/util/Comparator"), .byte, .byte]
  resolved := Array.replicate 1451 none
  statics := some 0 }

def pool8 : Array CpInfo := pool [(3, .class_ 4), (0, u "java/lang/String"), (1, .class_ 8), (1, u "java/lang/Object"), (0, u "<init>"), (0, u "()V"), (0, .methodref 12 13), (0, .class_ 14), (0, .nameAndType 15 16), (0, u "java/lang/StringUTF16"), (0, u "newBytesLength"), (0, u "(I)I"), (3, .integer 1073741823), (23, .fieldref 12 45), (0, .nameAndType 46 47), (0, u "$assertionsDisabled"), (0, u "Z"), (0, .methodref 12 49), (0, .nameAndType 50 51), (0, u "length"), (0, u "([B)I"), (7, .fieldref 12 60), (0, .nameAndType 61 62), (0, u "HI_BYTE_SHIFT"), (0, u "I"), (0, .fieldref 12 64), (0, .nameAndType 65 62), (0, u "LO_BYTE_SHIFT"), (1, .methodref 12 68), (0, .nameAndType 69 70), (0, u "checkIndex"), (0, u "(I[B)V"), (0, .methodref 12 72), (0, .nameAndType 73 74), (0, u "getChar"), (0, u "([BI)C"), (24, u "(II[B)V"), (7, .methodref 12 108), (0, .nameAndType 109 110), (0, u "newBytesFor"), (0, u "(I)[B"), (0, .methodref 12 112), (0, .nameAndType 113 114), (0, u "putChar"), (0, u "([BII)V"), (0, .methodref 12 116), (0, .nameAndType 117 118), (0, u "compress"), (0, u "([CI[BII)I"), (0, .methodref 12 120), (0, .nameAndType 121 122), (0, u "toBytes"), (0, u "([CII)[B"), (0, .methodref 12 124), (0, .nameAndType 117 125), (0, u "([BI[BII)I"), (0, .methodref 127 128), (0, .class_ 129), (0, .nameAndType 130 131), (0, u "java/util/Arrays"), (0, u "copyOfRange"), (0, u "([BII)[B"), (8, u "inflate"), (0, u "([BI[BII)V"), (31, .methodref 12 174), (0, .nameAndType 175 99), (0, u "checkBoundsOffCount"), (7, .methodref 184 185), (0, .class_ 186), (0, .nameAndType 187 188), (0, u "java/lang/Math"), (0, u "min"), (0, u "(II)I"), (38, .integer 65536), (22, u "([BII)I"), (0, .fieldref 3 252), (0, .nameAndType 253 47), (0, u "COMPACT_STRINGS"), (3, .methodref 12 258), (0, .nameAndType 117 131), (0, .methodref 12 260), (0, .nameAndType 261 262), (0, u "coderFromArrayLen"), (0, u "([BI)B"), (0, .methodref 3 264), (0, .nameAndType 9 265), (0, u "([BB)V"), (15, u "(III)I"), (45, u "newString"), (0, u "([BII)Ljava/lang/String;"), (40, .class_ 371), (1, u "java/lang/StringUTF16$LinesSpliterator"), (20, u "charAt"), (21, .methodref 3 415), (0, .nameAndType 69 416), (0, u "(II)V"), (2, .methodref 3 420), (0, .nameAndType 175 281), (9, u "MAX_LENGTH"), (90, u "lastIndexOf"), (105, .class_ 628), (0, u "java/lang/StringUTF16$CodePointsSpliterator"), (0, .class_ 630), (0, u "java/lang/StringUTF16$CharsSpliterator")] 4

def k8m0 : Method := { name := "<init>", desc := "()V", sig := { parameters := [], returnType := none }, accessFlags := 0, code := none }
def k8c1 : Code := { maxStack := 1, maxLocals := 1, code := jdk_52_method_2_code, exceptionTable := #[], attributes := #[] }
def k8m1 : Method := { name := "newBytesFor", desc := "(I)[B", sig := { parameters := [.int], returnType := some (.array .byte) }, accessFlags := 9, code := some k8c1 }
def k8c2 : Code := { maxStack := 4, maxLocals := 1, code := jdk_52_method_3_code, exceptionTable := #[], attributes := #[] }
def k8m2 : Method := { name := "newBytesLength", desc := "(I)I", sig := { parameters := [.int], returnType := some .int }, accessFlags := 9, code := some k8c2 }
def k8c3 : Code := { maxStack := 4, maxLocals := 3, code := jdk_52_method_4_code, exceptionTable := #[], attributes := #[] }
def k8m3 : Method := { name := "putChar", desc := "([BII)V", sig := { parameters := [(.array .byte), .int, .int], returnType := none }, accessFlags := 8, code := some k8c3 }
def k8c4 : Code := { maxStack := 3, maxLocals := 2, code := jdk_52_method_5_code, exceptionTable := #[], attributes := #[] }
def k8m4 : Method := { name := "getChar", desc := "([BI)C", sig := { parameters := [(.array .byte), .int], returnType := some .char }, accessFlags := 8, code := some k8c4 }
def k8c5 : Code := { maxStack := 2, maxLocals := 1, code := jdk_52_method_6_code, exceptionTable := #[], attributes := #[] }
def k8m5 : Method := { name := "length", desc := "([B)I", sig := { parameters := [(.array .byte)], returnType := some .int }, accessFlags := 9, code := some k8c5 }
def k8c6 : Code := { maxStack := 4, maxLocals := 5, code := jdk_52_method_14_code, exceptionTable := #[], attributes := #[] }
def k8m6 : Method := { name := "toBytes", desc := "([CII)[B", sig := { parameters := [(.array .char), .int, .int], returnType := some (.array .byte) }, accessFlags := 9, code := some k8c6 }
def k8c7 : Code := { maxStack := 2, maxLocals := 2, code := jdk_52_method_15_code, exceptionTable := #[], attributes := #[] }
def k8m7 : Method := { name := "coderFromArrayLen", desc := "([BI)B", sig := { parameters := [(.array .byte), .int], returnType := some .byte }, accessFlags := 8, code := some k8c7 }
def k8c8 : Code := { maxStack := 5, maxLocals := 6, code := jdk_52_method_16_code, exceptionTable := #[], attributes := #[] }
def k8m8 : Method := { name := "compress", desc := "([CII)[B", sig := { parameters := [(.array .char), .int, .int], returnType := some (.array .byte) }, accessFlags := 9, code := some k8c8 }
def k8c9 : Code := { maxStack := 5, maxLocals := 6, code := jdk_52_method_17_code, exceptionTable := #[], attributes := #[] }
def k8m9 : Method := { name := "compress", desc := "([BII)[B", sig := { parameters := [(.array .byte), .int, .int], returnType := some (.array .byte) }, accessFlags := 9, code := some k8c9 }
def k8c10 : Code := { maxStack := 3, maxLocals := 7, code := jdk_52_method_21_code, exceptionTable := #[], attributes := #[] }
def k8m10 : Method := { name := "compress", desc := "([CI[BII)I", sig := { parameters := [(.array .char), .int, (.array .byte), .int, .int], returnType := some .int }, accessFlags := 9, code := some k8c10 }
def k8c11 : Code := { maxStack := 3, maxLocals := 7, code := jdk_52_method_22_code, exceptionTable := #[], attributes := #[] }
def k8m11 : Method := { name := "compress", desc := "([BI[BII)I", sig := { parameters := [(.array .byte), .int, (.array .byte), .int, .int], returnType := some .int }, accessFlags := 9, code := some k8c11 }
def k8c12 : Code := { maxStack := 3, maxLocals := 4, code := jdk_52_method_51_code, exceptionTable := #[], attributes := #[] }
def k8m12 : Method := { name := "lastIndexOf", desc := "([BII)I", sig := { parameters := [(.array .byte), .int, .int], returnType := some .int }, accessFlags := 9, code := some k8c12 }
def k8c13 : Code := { maxStack := 6, maxLocals := 5, code := jdk_52_method_69_code, exceptionTable := #[], attributes := #[] }
def k8m13 : Method := { name := "newString", desc := "([BII)Ljava/lang/String;", sig := { parameters := [(.array .byte), .int, .int], returnType := some (.object "java/lang/String") }, accessFlags := 9, code := some k8c13 }
def k8c14 : Code := { maxStack := 2, maxLocals := 2, code := jdk_52_method_83_code, exceptionTable := #[], attributes := #[] }
def k8m14 : Method := { name := "charAt", desc := "([BI)C", sig := { parameters := [(.array .byte), .int], returnType := some .char }, accessFlags := 9, code := some k8c14 }
def k8c15 : Code := { maxStack := 4, maxLocals := 6, code := jdk_52_method_86_code, exceptionTable := #[], attributes := #[] }
def k8m15 : Method := { name := "inflate", desc := "([BI[BII)V", sig := { parameters := [(.array .byte), .int, (.array .byte), .int, .int], returnType := none }, accessFlags := 9, code := some k8c15 }
def k8c16 : Code := { maxStack := 2, maxLocals := 2, code := jdk_52_method_91_code, exceptionTable := #[], attributes := #[] }
def k8m16 : Method := { name := "checkIndex", desc := "(I[B)V", sig := { parameters := [.int, (.array .byte)], returnType := none }, accessFlags := 9, code := some k8c16 }
def k8c17 : Code := { maxStack := 3, maxLocals := 3, code := jdk_52_method_94_code, exceptionTable := #[], attributes := #[] }
def k8m17 : Method := { name := "checkBoundsOffCount", desc := "(II[B)V", sig := { parameters := [.int, .int, (.array .byte)], returnType := none }, accessFlags := 9, code := some k8c17 }
/-- java/lang/StringUTF16 -/
def k8 : Class := { plain "java/lang/StringUTF16" (some 0) with
  accessFlags := 48
  interfaces := #[]
  cf := some (fileOf pool8 12 #[.nestMembers #[627, 629, 369]] #[{ accessFlags := 0, nameIndex := 9, descriptorIndex := 10, attributes := #[] }, { accessFlags := 9, nameIndex := 109, descriptorIndex := 110, attributes := #[] }, { accessFlags := 9, nameIndex := 15, descriptorIndex := 16, attributes := #[] }, { accessFlags := 8, nameIndex := 113, descriptorIndex := 114, attributes := #[] }, { accessFlags := 8, nameIndex := 73, descriptorIndex := 74, attributes := #[] }, { accessFlags := 9, nameIndex := 50, descriptorIndex := 51, attributes := #[] }, { accessFlags := 9, nameIndex := 121, descriptorIndex := 122, attributes := #[] }, { accessFlags := 8, nameIndex := 261, descriptorIndex := 262, attributes := #[] }, { accessFlags := 9, nameIndex := 117, descriptorIndex := 122, attributes := #[] }, { accessFlags := 9, nameIndex := 117, descriptorIndex := 131, attributes := #[] }, { accessFlags := 9, nameIndex := 117, descriptorIndex := 118, attributes := #[] }, { accessFlags := 9, nameIndex := 117, descriptorIndex := 125, attributes := #[] }, { accessFlags := 9, nameIndex := 521, descriptorIndex := 250, attributes := #[] }, { accessFlags := 9, nameIndex := 327, descriptorIndex := 328, attributes := #[] }, { accessFlags := 9, nameIndex := 392, descriptorIndex := 74, attributes := #[] }, { accessFlags := 9, nameIndex := 140, descriptorIndex := 141, attributes := #[] }, { accessFlags := 9, nameIndex := 69, descriptorIndex := 70, attributes := #[] }, { accessFlags := 9, nameIndex := 175, descriptorIndex := 99, attributes := #[] }] 48 6 #[] #[{ accessFlags := 26, nameIndex := 61, descriptorIndex := 62, attributes := #[] }, { accessFlags := 26, nameIndex := 65, descriptorIndex := 62, attributes := #[] }, { accessFlags := 24, nameIndex := 430, descriptorIndex := 62, attributes := #[] }, { accessFlags := 4120, nameIndex := 46, descriptorIndex := 47, attributes := #[] }])
  fields := #[{ name := "HI_BYTE_SHIFT", type := .int, accessFlags := 26, slot := 0, constantValue := 0 }, { name := "LO_BYTE_SHIFT", type := .int, accessFlags := 26, slot := 1, constantValue := 0 }, { name := "MAX_LENGTH", type := .int, accessFlags := 24, slot := 2, constantValue := 0 }, { name := "$assertionsDisabled", type := .boolean, accessFlags := 4120, slot := 3, constantValue := 0 }]
  methods := #[k8m0, k8m1, k8m2, k8m3, k8m4, k8m5, k8m6, k8m7, k8m8, k8m9, k8m10, k8m11, k8m12, k8m13, k8m14, k8m15, k8m16, k8m17]
  instanceTypes := #[]
  staticTypes := #[.int, .int, .int, .boolean]
  resolved := Array.replicate 635 none
  statics := some 1 }

def pool9 : Array CpInfo := pool [(1, .class_ 2), (0, u "com/example/lodepath/lodepath/MavenVersion"), (1, .class_ 6), (0, .nameAndType 7 8), (0, u "java/lang/Object"), (0, u "<init>"), (0, u "()V"), (2, u "text"), (0, u "Ljava/lang/String;"), (1, .class_ 16), (1, u "java/lang/String"), (10, u "items"), (0, u "Ljava/util/List;"), (14, u "()I"), (35, .string 80), (0, u "SNAPSHOT"), (4, .methodref 1 86), (0, .nameAndType 87 88), (0, u "timestampAt"), (0, u "(Ljava/lang/String;)I"), (0, .class_ 90), (0, u "java/lang/StringBuilder"), (0, .methodref 89 5), (0, .methodref 14 93), (0, .nameAndType 94 95), (0, u "substring"), (0, u "(II)Ljava/lang/String;"), (0, .methodref 89 97), (0, .nameAndType 98 99), (0, u "append"), (0, u "(Ljava/lang/String;)Ljava/lang/StringBuilder;"), (0, .methodref 89 101), (0, .nameAndType 102 103), (0, u "toString"), (0, u "()Ljava/lang/String;"), (0, .methodref 14 105), (0, .nameAndType 106 107), (0, u "lastIndexOf"), (0, u "(I)I"), (0, .methodref 14 109), (0, .nameAndType 110 43), (0, u "length"), (0, .methodref 1 112), (0, .nameAndType 113 114), (0, u "isAsciiDigits"), (0, u "(Ljava/lang/String;II)Z"), (0, .methodref 14 116), (0, .nameAndType 117 118), (0, u "charAt"), (0, u "(I)C"), (9, .class_ 129), (0, u "com/example/lodepath/lodepath/MavenVersion$Item"), (58, u "QUALIFIERS"), (0, u "Ljava/util/Map;"), (73, .class_ 264), (0, u "java/lang/Comparable"), (2, u "ALPHA"), (0, u "I"), (2, u "BETA"), (1, u "MILESTONE"), (1, u "DATE_LENGTH"), (1, u "TIMESTAMP_LENGTH"), (9, u "baseVersion"), (0, u "(Ljava/lang/String;)Ljava/lang/String;"), (10, .class_ 300), (0, u "com/example/lodepath/lodepath/MavenVersion$Kind")] 3

def k9c0 : Code := { maxStack := 4, maxLocals := 2, code := prog_2_method_5_code, exceptionTable := #[], attributes := #[] }
def k9m0 : Method := { name := "baseVersion", desc := "(Ljava/lang/String;)Ljava/lang/String;", sig := { parameters := [(.object "java/lang/String")], returnType := some (.object "java/lang/String") }, accessFlags := 8, code := some k9c0 }
def k9c1 : Code := { maxStack := 4, maxLocals := 5, code := prog_2_method_6_code, exceptionTable := #[], attributes := #[] }
def k9m1 : Method := { name := "timestampAt", desc := "(Ljava/lang/String;)I", sig := { parameters := [(.object "java/lang/String")], returnType := some .int }, accessFlags := 10, code := some k9c1 }
def k9c2 : Code := { maxStack := 2, maxLocals := 4, code := prog_2_method_7_code, exceptionTable := #[], attributes := #[] }
def k9m2 : Method := { name := "isAsciiDigits", desc := "(Ljava/lang/String;II)Z", sig := { parameters := [(.object "java/lang/String"), .int, .int], returnType := some .boolean }, accessFlags := 10, code := some k9c2 }
/-- com/example/lodepath/lodepath/MavenVersion -/
def k9 : Class := { plain "com/example/lodepath/lodepath/MavenVersion" (some 0) with
  accessFlags := 48
  interfaces := #[3]
  cf := some (fileOf pool9 1 #[.nestMembers #[128, 299]] #[{ accessFlags := 8, nameIndex := 287, descriptorIndex := 288, attributes := #[] }, { accessFlags := 10, nameIndex := 87, descriptorIndex := 88, attributes := #[] }, { accessFlags := 10, nameIndex := 113, descriptorIndex := 114, attributes := #[] }] 48 4 #[263] #[{ accessFlags := 26, nameIndex := 188, descriptorIndex := 189, attributes := #[] }, { accessFlags := 26, nameIndex := 267, descriptorIndex := 268, attributes := #[] }, { accessFlags := 26, nameIndex := 271, descriptorIndex := 268, attributes := #[] }, { accessFlags := 26, nameIndex := 273, descriptorIndex := 268, attributes := #[] }, { accessFlags := 26, nameIndex := 275, descriptorIndex := 268, attributes := #[] }, { accessFlags := 26, nameIndex := 277, descriptorIndex := 268, attributes := #[] }, { accessFlags := 18, nameIndex := 11, descriptorIndex := 12, attributes := #[] }, { accessFlags := 18, nameIndex := 27, descriptorIndex := 28, attributes := #[] }])
  fields := #[{ name := "QUALIFIERS", type := (.object "java/util/Map"), accessFlags := 26, slot := 0, constantValue := 0 }, { name := "ALPHA", type := .int, accessFlags := 26, slot := 1, constantValue := 0 }, { name := "BETA", type := .int, accessFlags := 26, slot := 2, constantValue := 0 }, { name := "MILESTONE", type := .int, accessFlags := 26, slot := 3, constantValue := 0 }, { name := "DATE_LENGTH", type := .int, accessFlags := 26, slot := 4, constantValue := 0 }, { name := "TIMESTAMP_LENGTH", type := .int, accessFlags := 26, slot := 5, constantValue := 0 }, { name := "text", type := (.object "java/lang/String"), accessFlags := 18, slot := 0, constantValue := 0 }, { name := "items", type := (.object "java/util/List"), accessFlags := 18, slot := 1, constantValue := 0 }]
  methods := #[k9m0, k9m1, k9m2]
  instanceTypes := #[(.object "java/lang/String"), (.object "java/util/List")]
  staticTypes := #[(.object "java/util/Map"), .int, .int, .int, .int, .int]
  resolved := Array.replicate 304 none
  statics := none }

def pool10 : Array CpInfo := pool [(1, .class_ 2), (0, u "java/lang/String"), (1, .class_ 6), (1, u "java/lang/Object"), (0, u "<init>"), (0, u "()V"), (0, .methodref 1 10), (0, .nameAndType 11 12), (0, u "checkIndex"), (0, u "(II)V"), (1, .class_ 16), (1, u "java/lang/StringLatin1"), (0, u "inflate"), (2, .class_ 22), (1, u "java/lang/StringUTF16"), (3, .nameAndType 17 27), (0, u "([BI[BII)V"), (10, .methodref 39 40), (0, .class_ 41), (0, .nameAndType 42 43), (0, u "java/lang/Math"), (0, u "min"), (0, u "(II)I"), (9, u "([BI)C"), (34, .methodref 14 89), (0, .nameAndType 90 91), (0, u "canEncode"), (0, u "(I)Z"), (20, .methodref 1 113), (0, .nameAndType 7 114), (0, u "([BB)V"), (6, u "$assertionsDisabled"), (0, u "Z"), (8, .class_ 133), (1, u "java/util/Arrays"), (17, .string 152), (0, u ""), (43, u "newString"), (0, u "([BII)Ljava/lang/String;"), (23, .class_ 223), (1, u "java/lang/StringLatin1$LinesSpliterator"), (8, .methodref 131 233), (0, .nameAndType 234 235), (0, u "copyOfRange"), (0, u "([BII)[B"), (4, .methodref 20 26), (11, u "charAt"), (8, u "([BII)I"), (19, u "equals"), (0, u "([B[B)Z"), (26, u "lastIndexOf"), (80, .class_ 391), (0, u "java/lang/StringLatin1$CharsSpliterator")] 3

def k10m0 : Method := { name := "<init>", desc := "()V", sig := { parameters := [], returnType := none }, accessFlags := 0, code := none }
def k10c1 : Code := { maxStack := 2, maxLocals := 2, code := jdk_43_method_2_code, exceptionTable := #[], attributes := #[] }
def k10m1 : Method := { name := "charAt", desc := "([BI)C", sig := { parameters := [(.array .byte), .int], returnType := some .char }, accessFlags := 9, code := some k10c1 }
def k10c2 : Code := { maxStack := 2, maxLocals := 1, code := jdk_43_method_4_code, exceptionTable := #[], attributes := #[] }
def k10m2 : Method := { name := "canEncode", desc := "(I)Z", sig := { parameters := [.int], returnType := some .boolean }, accessFlags := 9, code := some k10c2 }
def k10c3 : Code := { maxStack := 3, maxLocals := 3, code := jdk_43_method_13_code, exceptionTable := #[], attributes := #[] }
def k10m3 : Method := { name := "equals", desc := "([B[B)Z", sig := { parameters := [(.array .byte), (.array .byte)], returnType := some .boolean }, accessFlags := 9, code := some k10c3 }
def k10c4 : Code := { maxStack := 3, maxLocals := 4, code := jdk_43_method_27_code, exceptionTable := #[], attributes := #[] }
def k10m4 : Method := { name := "lastIndexOf", desc := "([BII)I", sig := { parameters := [(.array .byte), .int, .int], returnType := some .int }, accessFlags := 9, code := some k10c4 }
def k10c5 : Code := { maxStack := 6, maxLocals := 3, code := jdk_43_method_47_code, exceptionTable := #[], attributes := #[] }
def k10m5 : Method := { name := "newString", desc := "([BII)Ljava/lang/String;", sig := { parameters := [(.array .byte), .int, .int], returnType := some (.object "java/lang/String") }, accessFlags := 9, code := some k10c5 }
def k10c6 : Code := { maxStack := 5, maxLocals := 5, code := jdk_43_method_50_code, exceptionTable := #[], attributes := #[] }
def k10m6 : Method := { name := "inflate", desc := "([BI[BII)V", sig := { parameters := [(.array .byte), .int, (.array .byte), .int, .int], returnType := none }, accessFlags := 9, code := some k10c6 }
/-- java/lang/StringLatin1 -/
def k10 : Class := { plain "java/lang/StringLatin1" (some 0) with
  accessFlags := 48
  interfaces := #[]
  cf := some (fileOf pool10 14 #[.nestMembers #[390, 221]] #[{ accessFlags := 0, nameIndex := 7, descriptorIndex := 8, attributes := #[] }, { accessFlags := 9, nameIndex := 252, descriptorIndex := 53, attributes := #[] }, { accessFlags := 9, nameIndex := 90, descriptorIndex := 91, attributes := #[] }, { accessFlags := 9, nameIndex := 281, descriptorIndex := 282, attributes := #[] }, { accessFlags := 9, nameIndex := 309, descriptorIndex := 261, attributes := #[] }, { accessFlags := 9, nameIndex := 196, descriptorIndex := 197, attributes := #[] }, { accessFlags := 9, nameIndex := 17, descriptorIndex := 27, attributes := #[] }] 48 4 #[] #[{ accessFlags := 4120, nameIndex := 121, descriptorIndex := 122, attributes := #[] }])
  fields := #[{ name := "$assertionsDisabled", type := .boolean, accessFlags := 4120, slot := 0, constantValue := 0 }]
  methods := #[k10m0, k10m1, k10m2, k10m3, k10m4, k10m5, k10m6]
  instanceTypes := #[]
  staticTypes := #[.boolean]
  resolved := Array.replicate 395 none
  statics := none }

def pool11 : Array CpInfo := pool [(1, .class_ 2), (0, u "java/lang/Math"), (1, .class_ 6), (1, u "java/lang/Object"), (0, u "<init>"), (0, u "()V"), (89, .class_ 100), (1, u "java/lang/Math$RandomNumberGeneratorHolder"), (71, u "negativeZeroFloatBits"), (0, u "J"), (2, u "negativeZeroDoubleBits"), (24, u "min"), (43, u "$assertionsDisabled"), (0, u "Z"), (88, u "(II)I"), (2, u "twoToTheDoubleScaleDown"), (0, u "D"), (4, u "twoToTheDoubleScaleUp"), (9, u "E"), (3, u "PI"), (2, u "TAU"), (2, u "DEGREES_TO_RADIANS"), (0, u "RADIANS_TO_DEGREES")] 94

def k11m0 : Method := { name := "<init>", desc := "()V", sig := { parameters := [], returnType := none }, accessFlags := 2, code := none }
def k11c1 : Code := { maxStack := 2, maxLocals := 2, code := jdk_29_method_69_code, exceptionTable := #[], attributes := #[] }
def k11m1 : Method := { name := "min", desc := "(II)I", sig := { parameters := [.int, .int], returnType := some .int }, accessFlags := 9, code := some k11c1 }
/-- java/lang/Math -/
def k11 : Class := { plain "java/lang/Math" (some 0) with
  accessFlags := 49
  interfaces := #[]
  cf := some (fileOf pool11 1 #[.nestMembers #[98]] #[{ accessFlags := 2, nameIndex := 7, descriptorIndex := 8, attributes := #[] }, { accessFlags := 9, nameIndex := 201, descriptorIndex := 335, attributes := #[] }] 49 4 #[] #[{ accessFlags := 25, nameIndex := 354, descriptorIndex := 339, attributes := #[] }, { accessFlags := 25, nameIndex := 358, descriptorIndex := 339, attributes := #[] }, { accessFlags := 25, nameIndex := 361, descriptorIndex := 339, attributes := #[] }, { accessFlags := 26, nameIndex := 364, descriptorIndex := 339, attributes := #[] }, { accessFlags := 26, nameIndex := 365, descriptorIndex := 339, attributes := #[] }, { accessFlags := 26, nameIndex := 172, descriptorIndex := 173, attributes := #[] }, { accessFlags := 26, nameIndex := 176, descriptorIndex := 173, attributes := #[] }, { accessFlags := 8, nameIndex := 344, descriptorIndex := 339, attributes := #[] }, { accessFlags := 8, nameIndex := 338, descriptorIndex := 339, attributes := #[] }, { accessFlags := 4120, nameIndex := 245, descriptorIndex := 246, attributes := #[] }])
  fields := #[{ name := "E", type := .double, accessFlags := 25, slot := 0, constantValue := 0 }, { name := "PI", type := .double, accessFlags := 25, slot := 1, constantValue := 0 }, { name := "TAU", type := .double, accessFlags := 25, slot := 2, constantValue := 0 }, { name := "DEGREES_TO_RADIANS", type := .double, accessFlags := 26, slot := 3, constantValue := 0 }, { name := "RADIANS_TO_DEGREES", type := .double, accessFlags := 26, slot := 4, constantValue := 0 }, { name := "negativeZeroFloatBits", type := .long, accessFlags := 26, slot := 5, constantValue := 0 }, { name := "negativeZeroDoubleBits", type := .long, accessFlags := 26, slot := 6, constantValue := 0 }, { name := "twoToTheDoubleScaleUp", type := .double, accessFlags := 8, slot := 7, constantValue := 0 }, { name := "twoToTheDoubleScaleDown", type := .double, accessFlags := 8, slot := 8, constantValue := 0 }, { name := "$assertionsDisabled", type := .boolean, accessFlags := 4120, slot := 9, constantValue := 0 }]
  methods := #[k11m0, k11m1]
  instanceTypes := #[]
  staticTypes := #[.double, .double, .double, .double, .double, .long, .long, .double, .double, .boolean]
  resolved := Array.replicate 460 none
  statics := none }

def pool12 : Array CpInfo := pool [(2, .class_ 4), (1, u "java/lang/Object"), (0, u "<init>"), (0, u "()V"), (17, .class_ 26), (1, u "jdk/internal/util/Preconditions"), (6, u "checkIndex"), (13, u "checkFromToIndex"), (1, u "checkFromIndexSize"), (5, .class_ 56), (0, u "jdk/internal/util/Preconditions$4"), (57, .class_ 115), (0, u "jdk/internal/util/Preconditions$1"), (7, u "SIOOBE_FORMATTER"), (0, u "Ljava/util/function/BiFunction;"), (0, .class_ 126), (0, u "jdk/internal/util/Preconditions$2"), (3, u "AIOOBE_FORMATTER"), (0, .class_ 132), (0, u "jdk/internal/util/Preconditions$3"), (3, u "IOOBE_FORMATTER"), (41, u "(IILjava/util/function/BiFunction;)I"), (4, u "(IIILjava/util/function/BiFunction;)I")] 10

def k12m0 : Method := { name := "<init>", desc := "()V", sig := { parameters := [], returnType := none }, accessFlags := 1, code := none }
def k12c1 : Code := { maxStack := 3, maxLocals := 3, code := jdk_41_method_11_code, exceptionTable := #[], attributes := #[] }
def k12m1 : Method := { name := "checkIndex", desc := "(IILjava/util/function/BiFunction;)I", sig := { parameters := [.int, .int, (.object "java/util/function/BiFunction")], returnType := some .int }, accessFlags := 9, code := some k12c1 }
def k12c2 : Code := { maxStack := 4, maxLocals := 4, code := jdk_41_method_12_code, exceptionTable := #[], attributes := #[] }
def k12m2 : Method := { name := "checkFromToIndex", desc := "(IIILjava/util/function/BiFunction;)I", sig := { parameters := [.int, .int, .int, (.object "java/util/function/BiFunction")], returnType := some .int }, accessFlags := 9, code := some k12c2 }
def k12c3 : Code := { maxStack := 4, maxLocals := 4, code := jdk_41_method_13_code, exceptionTable := #[], attributes := #[] }
def k12m3 : Method := { name := "checkFromIndexSize", desc := "(IIILjava/util/function/BiFunction;)I", sig := { parameters := [.int, .int, .int, (.object "java/util/function/BiFunction")], returnType := some .int }, accessFlags := 9, code := some k12c3 }
/-- jdk/internal/util/Preconditions -/
def k12 : Class := { plain "jdk/internal/util/Preconditions" (some 0) with
  accessFlags := 33
  interfaces := #[]
  cf := some (fileOf pool12 24 #[.nestMembers #[55, 131, 125, 114]] #[{ accessFlags := 1, nameIndex := 5, descriptorIndex := 6, attributes := #[] }, { accessFlags := 9, nameIndex := 33, descriptorIndex := 178, attributes := #[] }, { accessFlags := 9, nameIndex := 47, descriptorIndex := 183, attributes := #[] }, { accessFlags := 9, nameIndex := 49, descriptorIndex := 183, attributes := #[] }] 33 2 #[] #[{ accessFlags := 25, nameIndex := 123, descriptorIndex := 124, attributes := #[] }, { accessFlags := 25, nameIndex := 130, descriptorIndex := 124, attributes := #[] }, { accessFlags := 25, nameIndex := 136, descriptorIndex := 124, attributes := #[] }])
  fields := #[{ name := "SIOOBE_FORMATTER", type := (.object "java/util/function/BiFunction"), accessFlags := 25, slot := 0, constantValue := 0 }, { name := "AIOOBE_FORMATTER", type := (.object "java/util/function/BiFunction"), accessFlags := 25, slot := 1, constantValue := 0 }, { name := "IOOBE_FORMATTER", type := (.object "java/util/function/BiFunction"), accessFlags := 25, slot := 2, constantValue := 0 }]
  methods := #[k12m0, k12m1, k12m2, k12m3]
  instanceTypes := #[]
  staticTypes := #[(.object "java/util/function/BiFunction"), (.object "java/util/function/BiFunction"), (.object "java/util/function/BiFunction")]
  resolved := Array.replicate 194 none
  statics := some 2 }

def pool13 : Array CpInfo := pool [(1, .class_ 2), (0, u "java/lang/Appendable"), (0, .class_ 4), (0, u "java/lang/Object")] 9

/-- java/lang/Appendable -/
def k13 : Class := { plain "java/lang/Appendable" (some 0) with
  accessFlags := 1537
  interfaces := #[]
  cf := some (fileOf pool13 1 #[] #[] 1537 3 #[] #[])
  fields := #[]
  methods := #[]
  instanceTypes := #[]
  staticTypes := #[]
  resolved := Array.replicate 14 none
  statics := none }

def pool14 : Array CpInfo := pool [(1, .class_ 2), (0, u "java/lang/String"), (0, .methodref 4 5), (0, .class_ 6), (0, .nameAndType 7 8), (0, u "java/lang/Object"), (0, u "<init>"), (0, u "()V"), (1, .class_ 12), (1, u "java/lang/AbstractStringBuilder"), (0, u "EMPTYVALUE"), (0, u "[B"), (0, .fieldref 10 16), (0, .nameAndType 17 14), (0, u "value"), (0, .fieldref 1 19), (0, .nameAndType 20 21), (0, u "COMPACT_STRINGS"), (0, u "Z"), (0, .fieldref 10 23), (0, .nameAndType 24 25), (0, u "coder"), (0, u "B"), (0, .methodref 27 28), (0, .class_ 29), (0, .nameAndType 30 31), (0, u "java/lang/StringUTF16"), (0, u "newBytesFor"), (0, u "(I)[B"), (0, .methodref 1 33), (0, .nameAndType 34 35), (0, u "length"), (0, u "()I"), (4, .methodref 1 41), (0, .nameAndType 24 42), (0, u "()B"), (2, u "append"), (0, u "(Ljava/lang/String;)Ljava/lang/AbstractStringBuilder;"), (1, .class_ 49), (0, u "java/lang/CharSequence"), (19, u "(Ljava/lang/String;)V"), (5, u "maybeLatin1"), (3, .fieldref 10 80), (0, .nameAndType 81 82), (0, u "count"), (0, u "I"), (0, .methodref 10 84), (0, .nameAndType 85 86), (0, u "isLatin1"), (0, u "()Z"), (1, .class_ 90), (1, u "java/lang/StringLatin1"), (9, .methodref 10 101), (0, .nameAndType 102 103), (0, u "ensureCapacityInternal"), (0, u "(I)V"), (21, .methodref 88 126), (0, .nameAndType 127 128), (0, u "inflate"), (0, u "([BI[BII)V"), (66, .methodref 10 196), (0, .nameAndType 127 8), (11, .methodref 10 209), (0, .nameAndType 210 211), (0, u "putStringAt"), (0, u "(ILjava/lang/String;)V"), (5, u "inflateIfNeededFor"), (2, .nameAndType 221 222), (0, u "getBytes"), (0, u "([BIB)V"), (174, .methodref 10 398), (0, .nameAndType 217 69), (0, .methodref 1 220), (3, u "()[B"), (40, .class_ 445), (0, u "java/lang/Appendable"), (106, u "getValue")] 56

def k14m0 : Method := { name := "<init>", desc := "()V", sig := { parameters := [], returnType := none }, accessFlags := 0, code := none }
def k14c1 : Code := { maxStack := 2, maxLocals := 2, code := jdk_68_method_2_code, exceptionTable := #[], attributes := #[] }
def k14m1 : Method := { name := "<init>", desc := "(I)V", sig := { parameters := [.int], returnType := none }, accessFlags := 0, code := some k14c1 }
def k14c2 : Code := { maxStack := 1, maxLocals := 1, code := jdk_68_method_6_code, exceptionTable := #[], attributes := #[] }
def k14m2 : Method := { name := "length", desc := "()I", sig := { parameters := [], returnType := some .int }, accessFlags := 1, code := some k14c2 }
def k14c3 : Code := { maxStack := 4, maxLocals := 3, code := jdk_68_method_9_code, exceptionTable := #[], attributes := #[] }
def k14m3 : Method := { name := "ensureCapacityInternal", desc := "(I)V", sig := { parameters := [.int], returnType := none }, accessFlags := 2, code := some k14c3 }
def k14c4 : Code := { maxStack := 5, maxLocals := 2, code := jdk_68_method_11_code, exceptionTable := #[], attributes := #[] }
def k14m4 : Method := { name := "inflate", desc := "()V", sig := { parameters := [], returnType := none }, accessFlags := 2, code := some k14c4 }
def k14c5 : Code := { maxStack := 3, maxLocals := 3, code := jdk_68_method_22_code, exceptionTable := #[], attributes := #[] }
def k14m5 : Method := { name := "append", desc := "(Ljava/lang/String;)Ljava/lang/AbstractStringBuilder;", sig := { parameters := [(.object "java/lang/String")], returnType := some (.object "java/lang/AbstractStringBuilder") }, accessFlags := 1, code := some k14c5 }
def k14c6 : Code := { maxStack := 1, maxLocals := 1, code := jdk_68_method_64_code, exceptionTable := #[], attributes := #[] }
def k14m6 : Method := { name := "getValue", desc := "()[B", sig := { parameters := [], returnType := some (.array .byte) }, accessFlags := 16, code := some k14c6 }
def k14c7 : Code := { maxStack := 1, maxLocals := 1, code := jdk_68_method_68_code, exceptionTable := #[], attributes := #[] }
def k14m7 : Method := { name := "isLatin1", desc := "()Z", sig := { parameters := [], returnType := some .boolean }, accessFlags := 16, code := some k14c7 }
def k14c8 : Code := { maxStack := 2, maxLocals := 2, code := jdk_68_method_71_code, exceptionTable := #[], attributes := #[] }
def k14m8 : Method := { name := "inflateIfNeededFor", desc := "(Ljava/lang/String;)V", sig := { parameters := [(.object "java/lang/String")], returnType := none }, accessFlags := 2, code := some k14c8 }
def k14c9 : Code := { maxStack := 4, maxLocals := 3, code := jdk_68_method_73_code, exceptionTable := #[], attributes := #[] }
def k14m9 : Method := { name := "putStringAt", desc := "(ILjava/lang/String;)V", sig := { parameters := [.int, (.object "java/lang/String")], returnType := none }, accessFlags := 2, code := some k14c9 }
/-- java/lang/AbstractStringBuilder -/
def k14 : Class := { plain "java/lang/AbstractStringBuilder" (some 0) with
  accessFlags := 1056
  interfaces := #[13, 4]
  cf := some (fileOf pool14 10 #[] #[{ accessFlags := 0, nameIndex := 7, descriptorIndex := 8, attributes := #[] }, { accessFlags := 0, nameIndex := 7, descriptorIndex := 103, attributes := #[] }, { accessFlags := 1, nameIndex := 34, descriptorIndex := 35, attributes := #[] }, { accessFlags := 2, nameIndex := 102, descriptorIndex := 103, attributes := #[] }, { accessFlags := 2, nameIndex := 127, descriptorIndex := 8, attributes := #[] }, { accessFlags := 1, nameIndex := 45, descriptorIndex := 46, attributes := #[] }, { accessFlags := 16, nameIndex := 552, descriptorIndex := 403, attributes := #[] }, { accessFlags := 16, nameIndex := 85, descriptorIndex := 86, attributes := #[] }, { accessFlags := 2, nameIndex := 217, descriptorIndex := 69, attributes := #[] }, { accessFlags := 2, nameIndex := 210, descriptorIndex := 211, attributes := #[] }] 1056 4 #[444, 48] #[{ accessFlags := 0, nameIndex := 17, descriptorIndex := 14, attributes := #[] }, { accessFlags := 0, nameIndex := 24, descriptorIndex := 25, attributes := #[] }, { accessFlags := 0, nameIndex := 75, descriptorIndex := 21, attributes := #[] }, { accessFlags := 0, nameIndex := 81, descriptorIndex := 82, attributes := #[] }, { accessFlags := 26, nameIndex := 13, descriptorIndex := 14, attributes := #[] }])
  fields := #[{ name := "value", type := (.array .byte), accessFlags := 0, slot := 0, constantValue := 0 }, { name := "coder", type := .byte, accessFlags := 0, slot := 1, constantValue := 0 }, { name := "maybeLatin1", type := .boolean, accessFlags := 0, slot := 2, constantValue := 0 }, { name := "count", type := .int, accessFlags := 0, slot := 3, constantValue := 0 }, { name := "EMPTYVALUE", type := (.array .byte), accessFlags := 26, slot := 0, constantValue := 0 }]
  methods := #[k14m0, k14m1, k14m2, k14m3, k14m4, k14m5, k14m6, k14m7, k14m8, k14m9]
  instanceTypes := #[(.array .byte), .byte, .boolean, .int]
  staticTypes := #[(.array .byte)]
  resolved := Array.replicate 609 none
  statics := none }

def pool15 : Array CpInfo := pool [(1, .methodref 2 3), (0, .class_ 4), (0, .nameAndType 5 6), (0, u "java/lang/AbstractStringBuilder"), (0, u "<init>"), (0, u "(I)V"), (11, .class_ 20), (1, u "java/lang/String"), (3, .class_ 26), (1, u "java/lang/StringBuilder"), (0, u "append"), (0, u "(Ljava/lang/String;)Ljava/lang/StringBuilder;"), (0, .methodref 2 30), (0, .nameAndType 27 31), (0, u "(Ljava/lang/String;)Ljava/lang/AbstractStringBuilder;"), (105, .methodref 18 138), (0, .nameAndType 5 139), (0, u "(Ljava/lang/StringBuilder;)V"), (5, u "()V"), (10, u "()I"), (186, .methodref 2 344), (0, .nameAndType 345 156), (0, u "length"), (3, .class_ 350), (0, u "java/lang/Appendable"), (0, .class_ 352), (0, u "java/io/Serializable"), (0, .class_ 354), (0, u "java/lang/Comparable"), (0, .class_ 356), (0, u "java/lang/CharSequence"), (0, u "serialVersionUID"), (0, u "J"), (40, u "toString"), (0, u "()Ljava/lang/String;")] 21

def k15c0 : Code := { maxStack := 2, maxLocals := 1, code := jdk_67_method_1_code, exceptionTable := #[], attributes := #[] }
def k15m0 : Method := { name := "<init>", desc := "()V", sig := { parameters := [], returnType := none }, accessFlags := 1, code := some k15c0 }
def k15c1 : Code := { maxStack := 2, maxLocals := 2, code := jdk_67_method_7_code, exceptionTable := #[], attributes := #[] }
def k15m1 : Method := { name := "append", desc := "(Ljava/lang/String;)Ljava/lang/StringBuilder;", sig := { parameters := [(.object "java/lang/String")], returnType := some (.object "java/lang/StringBuilder") }, accessFlags := 1, code := some k15c1 }
def k15c2 : Code := { maxStack := 3, maxLocals := 1, code := jdk_67_method_42_code, exceptionTable := #[], attributes := #[] }
def k15m2 : Method := { name := "toString", desc := "()Ljava/lang/String;", sig := { parameters := [], returnType := some (.object "java/lang/String") }, accessFlags := 1, code := some k15c2 }
def k15c3 : Code := { maxStack := 1, maxLocals := 1, code := jdk_67_method_93_code, exceptionTable := #[], attributes := #[] }
def k15m3 : Method := { name := "length", desc := "()I", sig := { parameters := [], returnType := some .int }, accessFlags := 4161, code := some k15c3 }
/-- java/lang/StringBuilder -/
def k15 : Class := { plain "java/lang/StringBuilder" (some 14) with
  accessFlags := 49
  interfaces := #[13, 2, 3, 4]
  cf := some (fileOf pool15 24 #[] #[{ accessFlags := 1, nameIndex := 5, descriptorIndex := 145, attributes := #[] }, { accessFlags := 1, nameIndex := 27, descriptorIndex := 28, attributes := #[] }, { accessFlags := 1, nameIndex := 399, descriptorIndex := 400, attributes := #[] }, { accessFlags := 4161, nameIndex := 345, descriptorIndex := 156, attributes := #[] }] 49 2 #[349, 351, 353, 355] #[{ accessFlags := 24, nameIndex := 357, descriptorIndex := 358, attributes := #[] }])
  fields := #[{ name := "serialVersionUID", type := .long, accessFlags := 24, slot := 0, constantValue := 0 }]
  methods := #[k15m0, k15m1, k15m2, k15m3]
  instanceTypes := #[(.array .byte), .byte, .boolean, .int]
  staticTypes := #[.long]
  resolved := Array.replicate 422 none
  statics := none }

def pool16 : Array CpInfo := pool [(2, .class_ 4), (1, u "java/lang/Object"), (0, u "<init>"), (0, u "()V"), (1, .class_ 10), (1, u "java/lang/System"), (0, u "allowSecurityManager"), (0, u "I"), (16, u "cons"), (0, u "Ljava/io/Console;"), (77, .class_ 110), (1, u "java/lang/System$CallersHolder"), (43, u "initialErrStream"), (0, u "Ljava/io/PrintStream;"), (19, u "security"), (0, u "Ljava/lang/SecurityManager;"), (31, .class_ 209), (0, u "java/lang/System$1"), (7, u "props"), (0, u "Ljava/util/Properties;"), (2, u "lineSeparator"), (0, u "Ljava/lang/String;"), (96, .class_ 321), (1, u "java/lang/System$LoggerFinder"), (5, .class_ 328), (0, u "java/lang/System$Logger"), (67, u "err"), (2, u "out"), (91, u "notSupportedJnuEncoding"), (15, u "in"), (17, u "initialIn"), (0, u "Ljava/io/InputStream;"), (35, u "bootLayer"), (0, u "Ljava/lang/ModuleLayer;"), (99, .class_ 664), (0, u "java/lang/System$2"), (9, u "NEVER"), (2, u "MAYBE"), (49, u "arraycopy"), (0, u "(Ljava/lang/Object;ILjava/lang/Object;II)V"), (72, .class_ 802), (0, u "java/lang/System$Logger$Level")] 31

def k16m0 : Method := { name := "<init>", desc := "()V", sig := { parameters := [], returnType := none }, accessFlags := 2, code := none }
def k16m1 : Method := { name := "arraycopy", desc := "(Ljava/lang/Object;ILjava/lang/Object;II)V", sig := { parameters := [(.object "java/lang/Object"), .int, (.object "java/lang/Object"), .int, .int], returnType := none }, accessFlags := 265, code := none }
/-- java/lang/System -/
def k16 : Class := { plain "java/lang/System" (some 0) with
  accessFlags := 49
  interfaces := #[]
  cf := some (fileOf pool16 8 #[.nestMembers #[319, 327, 801, 108, 663, 208]] #[{ accessFlags := 2, nameIndex := 5, descriptorIndex := 6, attributes := #[] }, { accessFlags := 265, nameIndex := 727, descriptorIndex := 728, attributes := #[] }] 49 2 #[] #[{ accessFlags := 25, nameIndex := 507, descriptorIndex := 526, attributes := #[] }, { accessFlags := 25, nameIndex := 399, descriptorIndex := 155, attributes := #[] }, { accessFlags := 25, nameIndex := 396, descriptorIndex := 155, attributes := #[] }, { accessFlags := 10, nameIndex := 525, descriptorIndex := 526, attributes := #[] }, { accessFlags := 26, nameIndex := 674, descriptorIndex := 12, attributes := #[] }, { accessFlags := 26, nameIndex := 677, descriptorIndex := 12, attributes := #[] }, { accessFlags := 10, nameIndex := 11, descriptorIndex := 12, attributes := #[] }, { accessFlags := 74, nameIndex := 175, descriptorIndex := 176, attributes := #[] }, { accessFlags := 10, nameIndex := 491, descriptorIndex := 222, attributes := #[] }, { accessFlags := 74, nameIndex := 29, descriptorIndex := 30, attributes := #[] }, { accessFlags := 74, nameIndex := 154, descriptorIndex := 155, attributes := #[] }, { accessFlags := 10, nameIndex := 217, descriptorIndex := 218, attributes := #[] }, { accessFlags := 10, nameIndex := 221, descriptorIndex := 222, attributes := #[] }, { accessFlags := 8, nameIndex := 562, descriptorIndex := 563, attributes := #[] }])
  fields := #[{ name := "in", type := (.object "java/io/InputStream"), accessFlags := 25, slot := 0, constantValue := 0 }, { name := "out", type := (.object "java/io/PrintStream"), accessFlags := 25, slot := 1, constantValue := 0 }, { name := "err", type := (.object "java/io/PrintStream"), accessFlags := 25, slot := 2, constantValue := 0 }, { name := "initialIn", type := (.object "java/io/InputStream"), accessFlags := 10, slot := 3, constantValue := 0 }, { name := "NEVER", type := .int, accessFlags := 26, slot := 4, constantValue := 0 }, { name := "MAYBE", type := .int, accessFlags := 26, slot := 5, constantValue := 0 }, { name := "allowSecurityManager", type := .int, accessFlags := 10, slot := 6, constantValue := 0 }, { name := "security", type := (.object "java/lang/SecurityManager"), accessFlags := 74, slot := 7, constantValue := 0 }, { name := "notSupportedJnuEncoding", type := (.object "java/lang/String"), accessFlags := 10, slot := 8, constantValue := 0 }, { name := "cons", type := (.object "java/io/Console"), accessFlags := 74, slot := 9, constantValue := 0 }, { name := "initialErrStream", type := (.object "java/io/PrintStream"), accessFlags := 74, slot := 10, constantValue := 0 }, { name := "props", type := (.object "java/util/Properties"), accessFlags := 10, slot := 11, constantValue := 0 }, { name := "lineSeparator", type := (.object "java/lang/String"), accessFlags := 10, slot := 12, constantValue := 0 }, { name := "bootLayer", type := (.object "java/lang/ModuleLayer"), accessFlags := 8, slot := 13, constantValue := 0 }]
  methods := #[k16m0, k16m1]
  instanceTypes := #[]
  staticTypes := #[(.object "java/io/InputStream"), (.object "java/io/PrintStream"), (.object "java/io/PrintStream"), (.object "java/io/InputStream"), .int, .int, .int, (.object "java/lang/SecurityManager"), (.object "java/lang/String"), (.object "java/io/Console"), (.object "java/io/PrintStream"), (.object "java/util/Properties"), (.object "java/lang/String"), (.object "java/lang/ModuleLayer")]
  resolved := Array.replicate 834 none
  statics := none }

def pool17 : Array CpInfo := pool [(2, .class_ 4), (1, u "java/lang/Object"), (0, u "<init>"), (0, u "()V"), (7, .class_ 16), (1, u "java/util/Arrays"), (57, .class_ 76), (1, u "java/util/Arrays$NaturalOrder"), (36, .class_ 115), (1, u "java/util/Arrays$LegacyMergeSort"), (1, u "Z"), (21, u "copyOfRange"), (10, .methodref 151 152), (0, .class_ 153), (0, .nameAndType 154 155), (0, u "java/lang/System"), (0, u "arraycopy"), (0, u "(Ljava/lang/Object;ILjava/lang/Object;II)V"), (148, .methodref 305 306), (0, .class_ 307), (0, .nameAndType 308 309), (0, u "java/lang/Math"), (0, u "min"), (0, u "(II)I"), (29, .methodref 14 340), (0, .nameAndType 341 342), (0, u "copyOfRangeByte"), (0, u "([BII)[B"), (0, .methodref 14 344), (0, .nameAndType 345 346), (0, u "checkLength"), (0, u "(II)V"), (28, .class_ 376), (0, u "java/util/Arrays$ArrayList"), (68, u "$assertionsDisabled"), (269, u "MIN_ARRAY_SORT_GRAN"), (0, u "I"), (2, u "INSERTIONSORT_THRESHOLD"), (255, .class_ 976), (0, u "java/util/Arrays$ArrayItr")] 52

def k17m0 : Method := { name := "<init>", desc := "()V", sig := { parameters := [], returnType := none }, accessFlags := 2, code := none }
def k17c1 : Code := { maxStack := 4, maxLocals := 2, code := jdk_65_method_131_code, exceptionTable := #[], attributes := #[] }
def k17m1 : Method := { name := "checkLength", desc := "(II)V", sig := { parameters := [.int, .int], returnType := none }, accessFlags := 10, code := some k17c1 }
def k17c2 : Code := { maxStack := 3, maxLocals := 3, code := jdk_65_method_132_code, exceptionTable := #[], attributes := #[] }
def k17m2 : Method := { name := "copyOfRange", desc := "([BII)[B", sig := { parameters := [(.array .byte), .int, .int], returnType := some (.array .byte) }, accessFlags := 9, code := some k17c2 }
def k17c3 : Code := { maxStack := 6, maxLocals := 5, code := jdk_65_method_133_code, exceptionTable := #[], attributes := #[] }
def k17m3 : Method := { name := "copyOfRangeByte", desc := "([BII)[B", sig := { parameters := [(.array .byte), .int, .int], returnType := some (.array .byte) }, accessFlags := 10, code := some k17c3 }
/-- java/util/Arrays -/
def k17 : Class := { plain "java/util/Arrays" (some 0) with
  accessFlags := 49
  interfaces := #[]
  cf := some (fileOf pool17 14 #[.nestMembers #[975, 375, 113, 74]] #[{ accessFlags := 2, nameIndex := 5, descriptorIndex := 6, attributes := #[] }, { accessFlags := 10, nameIndex := 345, descriptorIndex := 346, attributes := #[] }, { accessFlags := 9, nameIndex := 139, descriptorIndex := 342, attributes := #[] }, { accessFlags := 10, nameIndex := 341, descriptorIndex := 342, attributes := #[] }] 49 2 #[] #[{ accessFlags := 26, nameIndex := 715, descriptorIndex := 716, attributes := #[] }, { accessFlags := 26, nameIndex := 719, descriptorIndex := 716, attributes := #[] }, { accessFlags := 4120, nameIndex := 445, descriptorIndex := 117, attributes := #[] }])
  fields := #[{ name := "MIN_ARRAY_SORT_GRAN", type := .int, accessFlags := 26, slot := 0, constantValue := 0 }, { name := "INSERTIONSORT_THRESHOLD", type := .int, accessFlags := 26, slot := 1, constantValue := 0 }, { name := "$assertionsDisabled", type := .boolean, accessFlags := 4120, slot := 2, constantValue := 0 }]
  methods := #[k17m0, k17m1, k17m2, k17m3]
  instanceTypes := #[]
  staticTypes := #[.int, .int, .boolean]
  resolved := Array.replicate 1029 none
  statics := none }

def pool18 : Array CpInfo := pool [(9, u "<init>"), (6, .class_ 18), (1, u "java/lang/Object"), (0, u "()V"), (1, .class_ 23), (1, u "jdk/internal/util/ArraysSupport"), (0, u "LOG2_ARRAY_LONG_INDEX_SCALE"), (0, u "I"), (2, u "U"), (0, u "Ljdk/internal/misc/Unsafe;"), (8, u "BIG_ENDIAN"), (0, u "Z"), (8, u "LOG2_BYTE_BIT_SIZE"), (4, u "LOG2_ARRAY_INT_INDEX_SCALE"), (54, u "JLA"), (0, u "Ljdk/internal/access/JavaLangAccess;"), (11, u "LOG2_ARRAY_BOOLEAN_INDEX_SCALE"), (9, u "LOG2_ARRAY_BYTE_INDEX_SCALE"), (5, u "LOG2_ARRAY_CHAR_INDEX_SCALE"), (5, u "LOG2_ARRAY_SHORT_INDEX_SCALE"), (18, u "LOG2_ARRAY_FLOAT_INDEX_SCALE"), (24, u "LOG2_ARRAY_DOUBLE_INDEX_SCALE"), (89, u "T_BOOLEAN"), (2, u "T_CHAR"), (1, u "T_FLOAT"), (1, u "T_DOUBLE"), (1, u "T_BYTE"), (1, u "T_SHORT"), (1, u "T_INT"), (1, u "T_LONG"), (1, u "SOFT_MAX_ARRAY_LENGTH")] 83

def k18m0 : Method := { name := "<init>", desc := "()V", sig := { parameters := [], returnType := none }, accessFlags := 2, code := none }
/-- jdk/internal/util/ArraysSupport -/
def k18 : Class := { plain "jdk/internal/util/ArraysSupport" (some 0) with
  accessFlags := 33
  interfaces := #[]
  cf := some (fileOf pool18 21 #[] #[{ accessFlags := 2, nameIndex := 9, descriptorIndex := 19, attributes := #[] }] 33 16 #[] #[{ accessFlags := 24, nameIndex := 28, descriptorIndex := 29, attributes := #[] }, { accessFlags := 26, nameIndex := 38, descriptorIndex := 39, attributes := #[] }, { accessFlags := 25, nameIndex := 121, descriptorIndex := 25, attributes := #[] }, { accessFlags := 25, nameIndex := 131, descriptorIndex := 25, attributes := #[] }, { accessFlags := 25, nameIndex := 137, descriptorIndex := 25, attributes := #[] }, { accessFlags := 25, nameIndex := 143, descriptorIndex := 25, attributes := #[] }, { accessFlags := 25, nameIndex := 53, descriptorIndex := 25, attributes := #[] }, { accessFlags := 25, nameIndex := 24, descriptorIndex := 25, attributes := #[] }, { accessFlags := 25, nameIndex := 162, descriptorIndex := 25, attributes := #[] }, { accessFlags := 25, nameIndex := 187, descriptorIndex := 25, attributes := #[] }, { accessFlags := 26, nameIndex := 48, descriptorIndex := 25, attributes := #[] }, { accessFlags := 25, nameIndex := 277, descriptorIndex := 25, attributes := #[] }, { accessFlags := 25, nameIndex := 280, descriptorIndex := 25, attributes := #[] }, { accessFlags := 25, nameIndex := 282, descriptorIndex := 25, attributes := #[] }, { accessFlags := 25, nameIndex := 284, descriptorIndex := 25, attributes := #[] }, { accessFlags := 25, nameIndex := 286, descriptorIndex := 25, attributes := #[] }, { accessFlags := 25, nameIndex := 288, descriptorIndex := 25, attributes := #[] }, { accessFlags := 25, nameIndex := 290, descriptorIndex := 25, attributes := #[] }, { accessFlags := 25, nameIndex := 292, descriptorIndex := 25, attributes := #[] }, { accessFlags := 26, nameIndex := 108, descriptorIndex := 109, attributes := #[] }, { accessFlags := 25, nameIndex := 294, descriptorIndex := 25, attributes := #[] }])
  fields := #[{ name := "U", type := (.object "jdk/internal/misc/Unsafe"), accessFlags := 24, slot := 0, constantValue := 0 }, { name := "BIG_ENDIAN", type := .boolean, accessFlags := 26, slot := 1, constantValue := 0 }, { name := "LOG2_ARRAY_BOOLEAN_INDEX_SCALE", type := .int, accessFlags := 25, slot := 2, constantValue := 0 }, { name := "LOG2_ARRAY_BYTE_INDEX_SCALE", type := .int, accessFlags := 25, slot := 3, constantValue := 0 }, { name := "LOG2_ARRAY_CHAR_INDEX_SCALE", type := .int, accessFlags := 25, slot := 4, constantValue := 0 }, { name := "LOG2_ARRAY_SHORT_INDEX_SCALE", type := .int, accessFlags := 25, slot := 5, constantValue := 0 }, { name := "LOG2_ARRAY_INT_INDEX_SCALE", type := .int, accessFlags := 25, slot := 6, constantValue := 0 }, { name := "LOG2_ARRAY_LONG_INDEX_SCALE", type := .int, accessFlags := 25, slot := 7, constantValue := 0 }, { name := "LOG2_ARRAY_FLOAT_INDEX_SCALE", type := .int, accessFlags := 25, slot := 8, constantValue := 0 }, { name := "LOG2_ARRAY_DOUBLE_INDEX_SCALE", type := .int, accessFlags := 25, slot := 9, constantValue := 0 }, { name := "LOG2_BYTE_BIT_SIZE", type := .int, accessFlags := 26, slot := 10, constantValue := 0 }, { name := "T_BOOLEAN", type := .int, accessFlags := 25, slot := 11, constantValue := 0 }, { name := "T_CHAR", type := .int, accessFlags := 25, slot := 12, constantValue := 0 }, { name := "T_FLOAT", type := .int, accessFlags := 25, slot := 13, constantValue := 0 }, { name := "T_DOUBLE", type := .int, accessFlags := 25, slot := 14, constantValue := 0 }, { name := "T_BYTE", type := .int, accessFlags := 25, slot := 15, constantValue := 0 }, { name := "T_SHORT", type := .int, accessFlags := 25, slot := 16, constantValue := 0 }, { name := "T_INT", type := .int, accessFlags := 25, slot := 17, constantValue := 0 }, { name := "T_LONG", type := .int, accessFlags := 25, slot := 18, constantValue := 0 }, { name := "JLA", type := (.object "jdk/internal/access/JavaLangAccess"), accessFlags := 26, slot := 19, constantValue := 0 }, { name := "SOFT_MAX_ARRAY_LENGTH", type := .int, accessFlags := 25, slot := 20, constantValue := 0 }]
  methods := #[k18m0]
  instanceTypes := #[]
  staticTypes := #[(.object "jdk/internal/misc/Unsafe"), .boolean, .int, .int, .int, .int, .int, .int, .int, .int, .int, .int, .int, .int, .int, .int, .int, .int, .int, (.object "jdk/internal/access/JavaLangAccess"), .int]
  resolved := Array.replicate 378 none
  statics := none }

def pool19 : Array CpInfo := pool [(1, u "java/lang/Cloneable"), (0, .class_ 1), (0, u "java/lang/Object"), (0, .class_ 3)] 3

/-- java/lang/Cloneable -/
def k19 : Class := { plain "java/lang/Cloneable" (some 0) with
  accessFlags := 1537
  interfaces := #[]
  cf := some (fileOf pool19 2 #[] #[] 1537 4 #[] #[])
  fields := #[]
  methods := #[]
  instanceTypes := #[]
  staticTypes := #[]
  resolved := Array.replicate 8 none
  statics := none }

/-- the primitive byte -/
def k20 : Class := { plain "byte" none with kind := .primitive 'B', accessFlags := 0x411 }
/-- [B -/
def k21 : Class := { plain "[B" (some 0) with kind := .array 20 .byte, interfaces := #[19, 2], accessFlags := 1041 }

/-- the primitive char -/
def k22 : Class := { plain "char" none with kind := .primitive 'C', accessFlags := 0x411 }
/-- [C -/
def k23 : Class := { plain "[C" (some 0) with kind := .array 22 .char, interfaces := #[19, 2], accessFlags := 1041 }

/-- the primitive int -/
def k24 : Class := { plain "int" none with kind := .primitive 'I', accessFlags := 0x411 }
/-- [I -/
def k25 : Class := { plain "[I" (some 0) with kind := .array 24 .int, interfaces := #[19, 2], accessFlags := 1041 }

def heap : Heap := #[{ cls := 7, slots := #[.long 0, .int 1, .null, .int 0, .null, .int 0, .int 0], vm := .statics 7 },
  { cls := 8, slots := #[.int 0, .int 8, .int 0, .int 1], vm := .statics 8 },
  { cls := 12, slots := #[.null, .null, .null], vm := .statics 12 }]
def classes : Array Class := #[k0, k1, k2, k3, k4, k5, k6, k7, k8, k9, k10, k11, k12, k13, k14, k15, k16, k17, k18, k19, k20, k21, k22, k23, k24, k25]
def interned : List (Array UInt16 × Addr) := []
def slotsUsed : Nat := 14
def theMethod : MethodId := ⟨1, 3⟩
def args0 : Array Value := #[.long 5, .long 7, .int 3]
def aboutOver (below : List Frame) : State where
  vm := { classes := classes, interned := interned.toArray }
  heap := heap
  slotsUsed := slotsUsed
  threads := #[{ frames := .invoking theMethod args0 :: below }]
def below0 : List Frame := [.native { method := ⟨0, 0⟩, args := #[] }]
def about1 : State := aboutOver below0
def p0 : Program := .bare "" "" ""
def e0 : Env := launch0.env 0 0 0
theorem w_frames : about1.frames = Frame.invoking theMethod args0 :: below0 := rfl
set_option maxRecDepth 65536 in
theorem w_args : argsFit about1.vm theMethod args0 = true := by decide +kernel
set_option maxRecDepth 65536 in
theorem w_heap : heapFits about1 = true := by decide +kernel
set_option maxRecDepth 65536 in
theorem w_runnable : about1.curStatus? = some .runnable := by decide +kernel
set_option maxRecDepth 65536 in
theorem w_alone : about1.alone = true := by decide +kernel
set_option maxRecDepth 65536 in
theorem w_named : about1.methodNamed? x = some theMethod := by decide +kernel
set_option maxRecDepth 65536 in
theorem w_hears : about1.hears theMethod below0 = true := by decide +kernel
set_option maxRecDepth 65536 in
theorem w_ripe : about1.ripe theMethod args0 below0 = true := by decide +kernel
theorem w_running : about1.status = .running := rfl
set_option maxRecDepth 65536 in
theorem w_room : about1.hasRoom e0.platform room_1 = true :=
  launch0.hasRoom_least _ room_1 (by decide +kernel) (by decide +kernel) (by decide +kernel) (by decide +kernel) (by decide +kernel) (by decide +kernel)
theorem allAtoms_all (ts : List Jvm.Cond) (a : Array Jvm.Value) (st : Jvm.State) : (allAtoms ts).before a st = ts.all (fun c => c.before a st) := by
  induction ts with
  | nil => rfl
  | cons c t ih =>
    show (Jvm.Cond.and c (allAtoms t)).before a st = _
    rw [Jvm.Cond.before_and, ih, List.all_cons]
def words1 : List Jvm.Cond := Jvm.Cond.code x code maxLocals ret :: tables_1
/-- a 'code' word, met by the world's own term for the bytes: nothing is compared byte by byte -/
theorem code_word {y : MethodName} {bytes : ByteArray} {mx : Nat} {rt : Option FieldType} {a : Array Value} {s : State} {m : MethodId} {meth : Method} {c : Code} (h1 : s.methodNamed? y = some m) (h2 : s.vm.method? m = some meth) (h3 : meth.code = some c) (h4 : c.code = bytes)
    (h5 : (c.maxLocals == mx && c.exceptionTable.isEmpty && decide (c.maxStack ≤ mostOperands) && decide (meth.sig.returnType = rt) && !meth.locks && decide (parseMethodDescriptor y.desc = some meth.sig)) = true) : (Jvm.Cond.code y bytes mx rt).before a s = true := by
  simp only [Bool.and_eq_true, beq_iff_eq, Bool.not_eq_true', decide_eq_true_eq] at h5
  obtain ⟨⟨⟨⟨⟨g1, g2⟩, g3⟩, g4⟩, g5⟩, g6⟩ := h5
  simp [Cond.before, Cond.holds, Cond.value, h1, h2, h3, h4, g1, g2, g3, g4, g5, g6]
def isCode : Jvm.Cond → Bool
  | .code _ _ _ _ => true
  | _ => false
theorem all_split {L : List Jvm.Cond} {P : Jvm.Cond → Bool} (h1 : L.all (fun c => isCode c || P c) = true) (h2 : ∀ c ∈ L.filter isCode, P c = true) : L.all P = true := by
  refine List.all_eq_true.mpr fun c hc => ?_
  have h := List.all_eq_true.mp h1 c hc
  rcases Bool.eq_false_or_eq_true (isCode c) with hi | hi
  · exact h2 c (List.mem_filter.mpr ⟨hc, hi⟩)
  · simpa [hi] using h
set_option maxRecDepth 65536 in
theorem w_c0 : (Jvm.Cond.code x code maxLocals ret).before args0 about1 = true := code_word (m := ⟨1, 3⟩) (meth := k1m3) (c := k1c3) (by decide +kernel) rfl rfl rfl (by decide +kernel)
set_option maxRecDepth 65536 in
theorem w_c1 : (Jvm.Cond.code ({ cls := "com/example/lodepath/lodepath/MavenVersionBaseVersionPinLaw", name := "dig", desc := "(JI)C" } : Jvm.MethodName) method_2_code (3 : Nat) (Option.some Jvm.ClassFile.FieldType.char)).before args0 about1 = true := code_word (m := ⟨1, 1⟩) (meth := k1m1) (c := k1c1) (by decide +kernel) rfl rfl rfl (by decide +kernel)
set_option maxRecDepth 65536 in
theorem w_c2 : (Jvm.Cond.code ({ cls := "java/lang/String", name := "<init>", desc := "([C)V" } : Jvm.MethodName) jdk_42_method_3_code (2 : Nat) (Option.none : Option Jvm.ClassFile.FieldType)).before args0 about1 = true := code_word (m := ⟨7, 1⟩) (meth := k7m1) (c := k7c1) (by decide +kernel) rfl rfl rfl (by decide +kernel)
set_option maxRecDepth 65536 in
theorem w_c3 : (Jvm.Cond.code ({ cls := "java/lang/String", name := "<init>", desc := "([CIILjava/lang/Void;)V" } : Jvm.MethodName) jdk_42_method_149_code (6 : Nat) (Option.none : Option Jvm.ClassFile.FieldType)).before args0 about1 = true := code_word (m := ⟨7, 10⟩) (meth := k7m10) (c := k7c10) (by decide +kernel) rfl rfl rfl (by decide +kernel)
set_option maxRecDepth 65536 in
theorem w_c4 : (Jvm.Cond.code ({ cls := "java/lang/Object", name := "<init>", desc := "()V" } : Jvm.MethodName) object_method_1_code (1 : Nat) (Option.none : Option Jvm.ClassFile.FieldType)).before args0 about1 = true := code_word (m := ⟨0, 0⟩) (meth := k0m0) (c := k0c0) (by decide +kernel) rfl rfl rfl (by decide +kernel)
set_option maxRecDepth 65536 in
theorem w_c5 : (Jvm.Cond.code ({ cls := "java/lang/StringUTF16", name := "compress", desc := "([CII)[B" } : Jvm.MethodName) jdk_52_method_16_code (6 : Nat) (Option.some (Jvm.ClassFile.FieldType.array Jvm.ClassFile.FieldType.byte))).before args0 about1 = true := code_word (m := ⟨8, 8⟩) (meth := k8m8) (c := k8c8) (by decide +kernel) rfl rfl rfl (by decide +kernel)
set_option maxRecDepth 65536 in
theorem w_c6 : (Jvm.Cond.code ({ cls := "java/lang/StringUTF16", name := "compress", desc := "([CI[BII)I" } : Jvm.MethodName) jdk_52_method_21_code (7 : Nat) (Option.some Jvm.ClassFile.FieldType.int)).before args0 about1 = true := code_word (m := ⟨8, 10⟩) (meth := k8m10) (c := k8c10) (by decide +kernel) rfl rfl rfl (by decide +kernel)
set_option maxRecDepth 65536 in
theorem w_c7 : (Jvm.Cond.code ({ cls := "java/lang/StringUTF16", name := "coderFromArrayLen", desc := "([BI)B" } : Jvm.MethodName) jdk_52_method_15_code (2 : Nat) (Option.some Jvm.ClassFile.FieldType.byte)).before args0 about1 = true := code_word (m := ⟨8, 7⟩) (meth := k8m7) (c := k8c7) (by decide +kernel) rfl rfl rfl (by decide +kernel)
set_option maxRecDepth 65536 in
theorem w_c8 : (Jvm.Cond.code ({ cls := "com/example/lodepath/lodepath/MavenVersion", name := "baseVersion", desc := "(Ljava/lang/String;)Ljava/lang/String;" } : Jvm.MethodName) prog_2_method_5_code (2 : Nat) (Option.some (Jvm.ClassFile.FieldType.object "java/lang/String"))).before args0 about1 = true := code_word (m := ⟨9, 0⟩) (meth := k9m0) (c := k9c0) (by decide +kernel) rfl rfl rfl (by decide +kernel)
set_option maxRecDepth 65536 in
theorem w_c9 : (Jvm.Cond.code ({ cls := "com/example/lodepath/lodepath/MavenVersion", name := "timestampAt", desc := "(Ljava/lang/String;)I" } : Jvm.MethodName) prog_2_method_6_code (5 : Nat) (Option.some Jvm.ClassFile.FieldType.int)).before args0 about1 = true := code_word (m := ⟨9, 1⟩) (meth := k9m1) (c := k9c1) (by decide +kernel) rfl rfl rfl (by decide +kernel)
set_option maxRecDepth 65536 in
theorem w_c10 : (Jvm.Cond.code ({ cls := "java/lang/String", name := "lastIndexOf", desc := "(I)I" } : Jvm.MethodName) jdk_42_method_82_code (2 : Nat) (Option.some Jvm.ClassFile.FieldType.int)).before args0 about1 = true := code_word (m := ⟨7, 6⟩) (meth := k7m6) (c := k7c6) (by decide +kernel) rfl rfl rfl (by decide +kernel)
set_option maxRecDepth 65536 in
theorem w_c11 : (Jvm.Cond.code ({ cls := "java/lang/String", name := "length", desc := "()I" } : Jvm.MethodName) jdk_42_method_54_code (1 : Nat) (Option.some Jvm.ClassFile.FieldType.int)).before args0 about1 = true := code_word (m := ⟨7, 3⟩) (meth := k7m3) (c := k7c3) (by decide +kernel) rfl rfl rfl (by decide +kernel)
set_option maxRecDepth 65536 in
theorem w_c12 : (Jvm.Cond.code ({ cls := "java/lang/String", name := "coder", desc := "()B" } : Jvm.MethodName) jdk_42_method_152_code (1 : Nat) (Option.some Jvm.ClassFile.FieldType.byte)).before args0 about1 = true := code_word (m := ⟨7, 13⟩) (meth := k7m13) (c := k7c13) (by decide +kernel) rfl rfl rfl (by decide +kernel)
set_option maxRecDepth 65536 in
theorem w_c13 : (Jvm.Cond.code ({ cls := "java/lang/String", name := "lastIndexOf", desc := "(II)I" } : Jvm.MethodName) jdk_42_method_83_code (3 : Nat) (Option.some Jvm.ClassFile.FieldType.int)).before args0 about1 = true := code_word (m := ⟨7, 7⟩) (meth := k7m7) (c := k7c7) (by decide +kernel) rfl rfl rfl (by decide +kernel)
set_option maxRecDepth 65536 in
theorem w_c14 : (Jvm.Cond.code ({ cls := "java/lang/String", name := "isLatin1", desc := "()Z" } : Jvm.MethodName) jdk_42_method_154_code (1 : Nat) (Option.some Jvm.ClassFile.FieldType.boolean)).before args0 about1 = true := code_word (m := ⟨7, 14⟩) (meth := k7m14) (c := k7c14) (by decide +kernel) rfl rfl rfl (by decide +kernel)
set_option maxRecDepth 65536 in
theorem w_c15 : (Jvm.Cond.code ({ cls := "java/lang/StringLatin1", name := "lastIndexOf", desc := "([BII)I" } : Jvm.MethodName) jdk_43_method_27_code (4 : Nat) (Option.some Jvm.ClassFile.FieldType.int)).before args0 about1 = true := code_word (m := ⟨10, 4⟩) (meth := k10m4) (c := k10c4) (by decide +kernel) rfl rfl rfl (by decide +kernel)
set_option maxRecDepth 65536 in
theorem w_c16 : (Jvm.Cond.code ({ cls := "java/lang/StringLatin1", name := "canEncode", desc := "(I)Z" } : Jvm.MethodName) jdk_43_method_4_code (1 : Nat) (Option.some Jvm.ClassFile.FieldType.boolean)).before args0 about1 = true := code_word (m := ⟨10, 2⟩) (meth := k10m2) (c := k10c2) (by decide +kernel) rfl rfl rfl (by decide +kernel)
set_option maxRecDepth 65536 in
theorem w_c17 : (Jvm.Cond.code ({ cls := "java/lang/Math", name := "min", desc := "(II)I" } : Jvm.MethodName) jdk_29_method_69_code (2 : Nat) (Option.some Jvm.ClassFile.FieldType.int)).before args0 about1 = true := code_word (m := ⟨11, 1⟩) (meth := k11m1) (c := k11c1) (by decide +kernel) rfl rfl rfl (by decide +kernel)
set_option maxRecDepth 65536 in
theorem w_c18 : (Jvm.Cond.code ({ cls := "com/example/lodepath/lodepath/MavenVersion", name := "isAsciiDigits", desc := "(Ljava/lang/String;II)Z" } : Jvm.MethodName) prog_2_method_7_code (4 : Nat) (Option.some Jvm.ClassFile.FieldType.boolean)).before args0 about1 = true := code_word (m := ⟨9, 2⟩) (meth := k9m2) (c := k9c2) (by decide +kernel) rfl rfl rfl (by decide +kernel)
set_option maxRecDepth 65536 in
theorem w_c19 : (Jvm.Cond.code ({ cls := "java/lang/String", name := "charAt", desc := "(I)C" } : Jvm.MethodName) jdk_42_method_56_code (2 : Nat) (Option.some Jvm.ClassFile.FieldType.char)).before args0 about1 = true := code_word (m := ⟨7, 4⟩) (meth := k7m4) (c := k7c4) (by decide +kernel) rfl rfl rfl (by decide +kernel)
set_option maxRecDepth 65536 in
theorem w_c20 : (Jvm.Cond.code ({ cls := "java/lang/StringLatin1", name := "charAt", desc := "([BI)C" } : Jvm.MethodName) jdk_43_method_2_code (2 : Nat) (Option.some Jvm.ClassFile.FieldType.char)).before args0 about1 = true := code_word (m := ⟨10, 1⟩) (meth := k10m1) (c := k10c1) (by decide +kernel) rfl rfl rfl (by decide +kernel)
set_option maxRecDepth 65536 in
theorem w_c21 : (Jvm.Cond.code ({ cls := "java/lang/String", name := "checkIndex", desc := "(II)V" } : Jvm.MethodName) jdk_42_method_155_code (2 : Nat) (Option.none : Option Jvm.ClassFile.FieldType)).before args0 about1 = true := code_word (m := ⟨7, 15⟩) (meth := k7m15) (c := k7c15) (by decide +kernel) rfl rfl rfl (by decide +kernel)
set_option maxRecDepth 65536 in
theorem w_c22 : (Jvm.Cond.code ({ cls := "jdk/internal/util/Preconditions", name := "checkIndex", desc := "(IILjava/util/function/BiFunction;)I" } : Jvm.MethodName) jdk_41_method_11_code (3 : Nat) (Option.some Jvm.ClassFile.FieldType.int)).before args0 about1 = true := code_word (m := ⟨12, 1⟩) (meth := k12m1) (c := k12c1) (by decide +kernel) rfl rfl rfl (by decide +kernel)
set_option maxRecDepth 65536 in
theorem w_c23 : (Jvm.Cond.code ({ cls := "java/lang/String", name := "equals", desc := "(Ljava/lang/Object;)Z" } : Jvm.MethodName) jdk_42_method_66_code (3 : Nat) (Option.some Jvm.ClassFile.FieldType.boolean)).before args0 about1 = true := code_word (m := ⟨7, 5⟩) (meth := k7m5) (c := k7c5) (by decide +kernel) rfl rfl rfl (by decide +kernel)
set_option maxRecDepth 65536 in
theorem w_c24 : (Jvm.Cond.code ({ cls := "java/lang/StringBuilder", name := "<init>", desc := "()V" } : Jvm.MethodName) jdk_67_method_1_code (1 : Nat) (Option.none : Option Jvm.ClassFile.FieldType)).before args0 about1 = true := code_word (m := ⟨15, 0⟩) (meth := k15m0) (c := k15c0) (by decide +kernel) rfl rfl rfl (by decide +kernel)
set_option maxRecDepth 65536 in
theorem w_c25 : (Jvm.Cond.code ({ cls := "java/lang/AbstractStringBuilder", name := "<init>", desc := "(I)V" } : Jvm.MethodName) jdk_68_method_2_code (2 : Nat) (Option.none : Option Jvm.ClassFile.FieldType)).before args0 about1 = true := code_word (m := ⟨14, 1⟩) (meth := k14m1) (c := k14c1) (by decide +kernel) rfl rfl rfl (by decide +kernel)
set_option maxRecDepth 65536 in
theorem w_c26 : (Jvm.Cond.code ({ cls := "java/lang/String", name := "substring", desc := "(II)Ljava/lang/String;" } : Jvm.MethodName) jdk_42_method_92_code (5 : Nat) (Option.some (Jvm.ClassFile.FieldType.object "java/lang/String"))).before args0 about1 = true := code_word (m := ⟨7, 8⟩) (meth := k7m8) (c := k7c8) (by decide +kernel) rfl rfl rfl (by decide +kernel)
set_option maxRecDepth 65536 in
theorem w_c27 : (Jvm.Cond.code ({ cls := "java/lang/String", name := "checkBoundsBeginEnd", desc := "(III)V" } : Jvm.MethodName) jdk_42_method_158_code (3 : Nat) (Option.none : Option Jvm.ClassFile.FieldType)).before args0 about1 = true := code_word (m := ⟨7, 17⟩) (meth := k7m17) (c := k7c17) (by decide +kernel) rfl rfl rfl (by decide +kernel)
set_option maxRecDepth 65536 in
theorem w_c28 : (Jvm.Cond.code ({ cls := "jdk/internal/util/Preconditions", name := "checkFromToIndex", desc := "(IIILjava/util/function/BiFunction;)I" } : Jvm.MethodName) jdk_41_method_12_code (4 : Nat) (Option.some Jvm.ClassFile.FieldType.int)).before args0 about1 = true := code_word (m := ⟨12, 2⟩) (meth := k12m2) (c := k12c2) (by decide +kernel) rfl rfl rfl (by decide +kernel)
set_option maxRecDepth 65536 in
theorem w_c29 : (Jvm.Cond.code ({ cls := "java/lang/StringLatin1", name := "newString", desc := "([BII)Ljava/lang/String;" } : Jvm.MethodName) jdk_43_method_47_code (3 : Nat) (Option.some (Jvm.ClassFile.FieldType.object "java/lang/String"))).before args0 about1 = true := code_word (m := ⟨10, 5⟩) (meth := k10m5) (c := k10c5) (by decide +kernel) rfl rfl rfl (by decide +kernel)
set_option maxRecDepth 65536 in
theorem w_c30 : (Jvm.Cond.code ({ cls := "java/lang/StringBuilder", name := "append", desc := "(Ljava/lang/String;)Ljava/lang/StringBuilder;" } : Jvm.MethodName) jdk_67_method_7_code (2 : Nat) (Option.some (Jvm.ClassFile.FieldType.object "java/lang/StringBuilder"))).before args0 about1 = true := code_word (m := ⟨15, 1⟩) (meth := k15m1) (c := k15c1) (by decide +kernel) rfl rfl rfl (by decide +kernel)
set_option maxRecDepth 65536 in
theorem w_c31 : (Jvm.Cond.code ({ cls := "java/lang/AbstractStringBuilder", name := "append", desc := "(Ljava/lang/String;)Ljava/lang/AbstractStringBuilder;" } : Jvm.MethodName) jdk_68_method_22_code (3 : Nat) (Option.some (Jvm.ClassFile.FieldType.object "java/lang/AbstractStringBuilder"))).before args0 about1 = true := code_word (m := ⟨14, 5⟩) (meth := k14m5) (c := k14c5) (by decide +kernel) rfl rfl rfl (by decide +kernel)
set_option maxRecDepth 65536 in
theorem w_c32 : (Jvm.Cond.code ({ cls := "java/lang/AbstractStringBuilder", name := "ensureCapacityInternal", desc := "(I)V" } : Jvm.MethodName) jdk_68_method_9_code (3 : Nat) (Option.none : Option Jvm.ClassFile.FieldType)).before args0 about1 = true := code_word (m := ⟨14, 3⟩) (meth := k14m3) (c := k14c3) (by decide +kernel) rfl rfl rfl (by decide +kernel)
set_option maxRecDepth 65536 in
theorem w_c33 : (Jvm.Cond.code ({ cls := "java/lang/AbstractStringBuilder", name := "putStringAt", desc := "(ILjava/lang/String;)V" } : Jvm.MethodName) jdk_68_method_73_code (3 : Nat) (Option.none : Option Jvm.ClassFile.FieldType)).before args0 about1 = true := code_word (m := ⟨14, 9⟩) (meth := k14m9) (c := k14c9) (by decide +kernel) rfl rfl rfl (by decide +kernel)
set_option maxRecDepth 65536 in
theorem w_c34 : (Jvm.Cond.code ({ cls := "java/lang/AbstractStringBuilder", name := "inflateIfNeededFor", desc := "(Ljava/lang/String;)V" } : Jvm.MethodName) jdk_68_method_71_code (2 : Nat) (Option.none : Option Jvm.ClassFile.FieldType)).before args0 about1 = true := code_word (m := ⟨14, 8⟩) (meth := k14m8) (c := k14c8) (by decide +kernel) rfl rfl rfl (by decide +kernel)
set_option maxRecDepth 65536 in
theorem w_c35 : (Jvm.Cond.code ({ cls := "java/lang/String", name := "getBytes", desc := "([BIB)V" } : Jvm.MethodName) jdk_42_method_147_code (4 : Nat) (Option.none : Option Jvm.ClassFile.FieldType)).before args0 about1 = true := code_word (m := ⟨7, 9⟩) (meth := k7m9) (c := k7c9) (by decide +kernel) rfl rfl rfl (by decide +kernel)
set_option maxRecDepth 65536 in
theorem w_c36 : (Jvm.Cond.code ({ cls := "java/lang/StringBuilder", name := "toString", desc := "()Ljava/lang/String;" } : Jvm.MethodName) jdk_67_method_42_code (1 : Nat) (Option.some (Jvm.ClassFile.FieldType.object "java/lang/String"))).before args0 about1 = true := code_word (m := ⟨15, 2⟩) (meth := k15m2) (c := k15c2) (by decide +kernel) rfl rfl rfl (by decide +kernel)
set_option maxRecDepth 65536 in
theorem w_c37 : (Jvm.Cond.code ({ cls := "java/lang/String", name := "<init>", desc := "(Ljava/lang/StringBuilder;)V" } : Jvm.MethodName) jdk_42_method_53_code (2 : Nat) (Option.none : Option Jvm.ClassFile.FieldType)).before args0 about1 = true := code_word (m := ⟨7, 2⟩) (meth := k7m2) (c := k7c2) (by decide +kernel) rfl rfl rfl (by decide +kernel)
set_option maxRecDepth 65536 in
theorem w_c38 : (Jvm.Cond.code ({ cls := "java/lang/String", name := "<init>", desc := "(Ljava/lang/AbstractStringBuilder;Ljava/lang/Void;)V" } : Jvm.MethodName) jdk_42_method_150_code (5 : Nat) (Option.none : Option Jvm.ClassFile.FieldType)).before args0 about1 = true := code_word (m := ⟨7, 11⟩) (meth := k7m11) (c := k7c11) (by decide +kernel) rfl rfl rfl (by decide +kernel)
set_option maxRecDepth 65536 in
theorem w_c39 : (Jvm.Cond.code ({ cls := "java/lang/AbstractStringBuilder", name := "getValue", desc := "()[B" } : Jvm.MethodName) jdk_68_method_64_code (1 : Nat) (Option.some (Jvm.ClassFile.FieldType.array Jvm.ClassFile.FieldType.byte))).before args0 about1 = true := code_word (m := ⟨14, 6⟩) (meth := k14m6) (c := k14c6) (by decide +kernel) rfl rfl rfl (by decide +kernel)
set_option maxRecDepth 65536 in
theorem w_c40 : (Jvm.Cond.code ({ cls := "java/lang/StringBuilder", name := "length", desc := "()I" } : Jvm.MethodName) jdk_67_method_93_code (1 : Nat) (Option.some Jvm.ClassFile.FieldType.int)).before args0 about1 = true := code_word (m := ⟨15, 3⟩) (meth := k15m3) (c := k15c3) (by decide +kernel) rfl rfl rfl (by decide +kernel)
set_option maxRecDepth 65536 in
theorem w_c41 : (Jvm.Cond.code ({ cls := "java/lang/AbstractStringBuilder", name := "length", desc := "()I" } : Jvm.MethodName) jdk_68_method_6_code (1 : Nat) (Option.some Jvm.ClassFile.FieldType.int)).before args0 about1 = true := code_word (m := ⟨14, 2⟩) (meth := k14m2) (c := k14c2) (by decide +kernel) rfl rfl rfl (by decide +kernel)
set_option maxRecDepth 65536 in
theorem w_c42 : (Jvm.Cond.code ({ cls := "java/lang/AbstractStringBuilder", name := "isLatin1", desc := "()Z" } : Jvm.MethodName) jdk_68_method_68_code (1 : Nat) (Option.some Jvm.ClassFile.FieldType.boolean)).before args0 about1 = true := code_word (m := ⟨14, 7⟩) (meth := k14m7) (c := k14c7) (by decide +kernel) rfl rfl rfl (by decide +kernel)
set_option maxRecDepth 65536 in
theorem w_c43 : (Jvm.Cond.code ({ cls := "java/util/Arrays", name := "copyOfRange", desc := "([BII)[B" } : Jvm.MethodName) jdk_65_method_132_code (3 : Nat) (Option.some (Jvm.ClassFile.FieldType.array Jvm.ClassFile.FieldType.byte))).before args0 about1 = true := code_word (m := ⟨17, 2⟩) (meth := k17m2) (c := k17c2) (by decide +kernel) rfl rfl rfl (by decide +kernel)
set_option maxRecDepth 65536 in
theorem w_c44 : (Jvm.Cond.code ({ cls := "java/util/Arrays", name := "copyOfRangeByte", desc := "([BII)[B" } : Jvm.MethodName) jdk_65_method_133_code (5 : Nat) (Option.some (Jvm.ClassFile.FieldType.array Jvm.ClassFile.FieldType.byte))).before args0 about1 = true := code_word (m := ⟨17, 3⟩) (meth := k17m3) (c := k17c3) (by decide +kernel) rfl rfl rfl (by decide +kernel)
set_option maxRecDepth 65536 in
theorem w_c45 : (Jvm.Cond.code ({ cls := "java/util/Arrays", name := "checkLength", desc := "(II)V" } : Jvm.MethodName) jdk_65_method_131_code (2 : Nat) (Option.none : Option Jvm.ClassFile.FieldType)).before args0 about1 = true := code_word (m := ⟨17, 1⟩) (meth := k17m1) (c := k17c1) (by decide +kernel) rfl rfl rfl (by decide +kernel)
set_option maxRecDepth 65536 in
theorem w_c46 : (Jvm.Cond.code ({ cls := "java/lang/StringLatin1", name := "equals", desc := "([B[B)Z" } : Jvm.MethodName) jdk_43_method_13_code (3 : Nat) (Option.some Jvm.ClassFile.FieldType.boolean)).before args0 about1 = true := code_word (m := ⟨10, 3⟩) (meth := k10m3) (c := k10c3) (by decide +kernel) rfl rfl rfl (by decide +kernel)
set_option maxRecDepth 65536 in
theorem w_c47 : (Jvm.Cond.code ({ cls := "java/lang/String", name := "<init>", desc := "([BB)V" } : Jvm.MethodName) jdk_42_method_151_code (3 : Nat) (Option.none : Option Jvm.ClassFile.FieldType)).before args0 about1 = true := code_word (m := ⟨7, 12⟩) (meth := k7m12) (c := k7c12) (by decide +kernel) rfl rfl rfl (by decide +kernel)
set_option maxRecDepth 65536 in
theorem w_c48 : (Jvm.Cond.code ({ cls := "java/lang/StringUTF16", name := "toBytes", desc := "([CII)[B" } : Jvm.MethodName) jdk_52_method_14_code (5 : Nat) (Option.some (Jvm.ClassFile.FieldType.array Jvm.ClassFile.FieldType.byte))).before args0 about1 = true := code_word (m := ⟨8, 6⟩) (meth := k8m6) (c := k8c6) (by decide +kernel) rfl rfl rfl (by decide +kernel)
set_option maxRecDepth 65536 in
theorem w_c49 : (Jvm.Cond.code ({ cls := "java/lang/StringUTF16", name := "newBytesFor", desc := "(I)[B" } : Jvm.MethodName) jdk_52_method_2_code (1 : Nat) (Option.some (Jvm.ClassFile.FieldType.array Jvm.ClassFile.FieldType.byte))).before args0 about1 = true := code_word (m := ⟨8, 1⟩) (meth := k8m1) (c := k8c1) (by decide +kernel) rfl rfl rfl (by decide +kernel)
set_option maxRecDepth 65536 in
theorem w_c50 : (Jvm.Cond.code ({ cls := "java/lang/StringUTF16", name := "newBytesLength", desc := "(I)I" } : Jvm.MethodName) jdk_52_method_3_code (1 : Nat) (Option.some Jvm.ClassFile.FieldType.int)).before args0 about1 = true := code_word (m := ⟨8, 2⟩) (meth := k8m2) (c := k8c2) (by decide +kernel) rfl rfl rfl (by decide +kernel)
set_option maxRecDepth 65536 in
theorem w_c51 : (Jvm.Cond.code ({ cls := "java/lang/StringUTF16", name := "putChar", desc := "([BII)V" } : Jvm.MethodName) jdk_52_method_4_code (3 : Nat) (Option.none : Option Jvm.ClassFile.FieldType)).before args0 about1 = true := code_word (m := ⟨8, 3⟩) (meth := k8m3) (c := k8c3) (by decide +kernel) rfl rfl rfl (by decide +kernel)
set_option maxRecDepth 65536 in
theorem w_c52 : (Jvm.Cond.code ({ cls := "java/lang/StringUTF16", name := "getChar", desc := "([BI)C" } : Jvm.MethodName) jdk_52_method_5_code (2 : Nat) (Option.some Jvm.ClassFile.FieldType.char)).before args0 about1 = true := code_word (m := ⟨8, 4⟩) (meth := k8m4) (c := k8c4) (by decide +kernel) rfl rfl rfl (by decide +kernel)
set_option maxRecDepth 65536 in
theorem w_c53 : (Jvm.Cond.code ({ cls := "java/lang/StringUTF16", name := "lastIndexOf", desc := "([BII)I" } : Jvm.MethodName) jdk_52_method_51_code (4 : Nat) (Option.some Jvm.ClassFile.FieldType.int)).before args0 about1 = true := code_word (m := ⟨8, 12⟩) (meth := k8m12) (c := k8c12) (by decide +kernel) rfl rfl rfl (by decide +kernel)
set_option maxRecDepth 65536 in
theorem w_c54 : (Jvm.Cond.code ({ cls := "java/lang/StringUTF16", name := "charAt", desc := "([BI)C" } : Jvm.MethodName) jdk_52_method_83_code (2 : Nat) (Option.some Jvm.ClassFile.FieldType.char)).before args0 about1 = true := code_word (m := ⟨8, 14⟩) (meth := k8m14) (c := k8c14) (by decide +kernel) rfl rfl rfl (by decide +kernel)
set_option maxRecDepth 65536 in
theorem w_c55 : (Jvm.Cond.code ({ cls := "java/lang/StringUTF16", name := "checkIndex", desc := "(I[B)V" } : Jvm.MethodName) jdk_52_method_91_code (2 : Nat) (Option.none : Option Jvm.ClassFile.FieldType)).before args0 about1 = true := code_word (m := ⟨8, 16⟩) (meth := k8m16) (c := k8c16) (by decide +kernel) rfl rfl rfl (by decide +kernel)
set_option maxRecDepth 65536 in
theorem w_c56 : (Jvm.Cond.code ({ cls := "java/lang/StringUTF16", name := "length", desc := "([B)I" } : Jvm.MethodName) jdk_52_method_6_code (1 : Nat) (Option.some Jvm.ClassFile.FieldType.int)).before args0 about1 = true := code_word (m := ⟨8, 5⟩) (meth := k8m5) (c := k8c5) (by decide +kernel) rfl rfl rfl (by decide +kernel)
set_option maxRecDepth 65536 in
theorem w_c57 : (Jvm.Cond.code ({ cls := "com/example/lodepath/lodepath/MavenVersionBaseVersionPinLaw", name := "terminator", desc := "(C)Z" } : Jvm.MethodName) method_3_code (1 : Nat) (Option.some Jvm.ClassFile.FieldType.boolean)).before args0 about1 = true := code_word (m := ⟨1, 2⟩) (meth := k1m2) (c := k1c2) (by decide +kernel) rfl rfl rfl (by decide +kernel)
set_option maxRecDepth 65536 in
theorem w_c58 : (Jvm.Cond.code ({ cls := "java/lang/StringUTF16", name := "newString", desc := "([BII)Ljava/lang/String;" } : Jvm.MethodName) jdk_52_method_69_code (5 : Nat) (Option.some (Jvm.ClassFile.FieldType.object "java/lang/String"))).before args0 about1 = true := code_word (m := ⟨8, 13⟩) (meth := k8m13) (c := k8c13) (by decide +kernel) rfl rfl rfl (by decide +kernel)
set_option maxRecDepth 65536 in
theorem w_c59 : (Jvm.Cond.code ({ cls := "java/lang/StringUTF16", name := "compress", desc := "([BII)[B" } : Jvm.MethodName) jdk_52_method_17_code (6 : Nat) (Option.some (Jvm.ClassFile.FieldType.array Jvm.ClassFile.FieldType.byte))).before args0 about1 = true := code_word (m := ⟨8, 9⟩) (meth := k8m9) (c := k8c9) (by decide +kernel) rfl rfl rfl (by decide +kernel)
set_option maxRecDepth 65536 in
theorem w_c60 : (Jvm.Cond.code ({ cls := "java/lang/StringUTF16", name := "compress", desc := "([BI[BII)I" } : Jvm.MethodName) jdk_52_method_22_code (7 : Nat) (Option.some Jvm.ClassFile.FieldType.int)).before args0 about1 = true := code_word (m := ⟨8, 11⟩) (meth := k8m11) (c := k8c11) (by decide +kernel) rfl rfl rfl (by decide +kernel)
set_option maxRecDepth 65536 in
theorem w_c61 : (Jvm.Cond.code ({ cls := "java/lang/StringUTF16", name := "checkBoundsOffCount", desc := "(II[B)V" } : Jvm.MethodName) jdk_52_method_94_code (3 : Nat) (Option.none : Option Jvm.ClassFile.FieldType)).before args0 about1 = true := code_word (m := ⟨8, 17⟩) (meth := k8m17) (c := k8c17) (by decide +kernel) rfl rfl rfl (by decide +kernel)
set_option maxRecDepth 65536 in
theorem w_c62 : (Jvm.Cond.code ({ cls := "java/lang/String", name := "checkBoundsOffCount", desc := "(III)I" } : Jvm.MethodName) jdk_42_method_157_code (3 : Nat) (Option.some Jvm.ClassFile.FieldType.int)).before args0 about1 = true := code_word (m := ⟨7, 16⟩) (meth := k7m16) (c := k7c16) (by decide +kernel) rfl rfl rfl (by decide +kernel)
set_option maxRecDepth 65536 in
theorem w_c63 : (Jvm.Cond.code ({ cls := "jdk/internal/util/Preconditions", name := "checkFromIndexSize", desc := "(IIILjava/util/function/BiFunction;)I" } : Jvm.MethodName) jdk_41_method_13_code (4 : Nat) (Option.some Jvm.ClassFile.FieldType.int)).before args0 about1 = true := code_word (m := ⟨12, 3⟩) (meth := k12m3) (c := k12c3) (by decide +kernel) rfl rfl rfl (by decide +kernel)
set_option maxRecDepth 65536 in
theorem w_c64 : (Jvm.Cond.code ({ cls := "java/lang/AbstractStringBuilder", name := "inflate", desc := "()V" } : Jvm.MethodName) jdk_68_method_11_code (2 : Nat) (Option.none : Option Jvm.ClassFile.FieldType)).before args0 about1 = true := code_word (m := ⟨14, 4⟩) (meth := k14m4) (c := k14c4) (by decide +kernel) rfl rfl rfl (by decide +kernel)
set_option maxRecDepth 65536 in
theorem w_c65 : (Jvm.Cond.code ({ cls := "java/lang/StringLatin1", name := "inflate", desc := "([BI[BII)V" } : Jvm.MethodName) jdk_43_method_50_code (5 : Nat) (Option.none : Option Jvm.ClassFile.FieldType)).before args0 about1 = true := code_word (m := ⟨10, 6⟩) (meth := k10m6) (c := k10c6) (by decide +kernel) rfl rfl rfl (by decide +kernel)
set_option maxRecDepth 65536 in
theorem w_c66 : (Jvm.Cond.code ({ cls := "java/lang/StringUTF16", name := "inflate", desc := "([BI[BII)V" } : Jvm.MethodName) jdk_52_method_86_code (6 : Nat) (Option.none : Option Jvm.ClassFile.FieldType)).before args0 about1 = true := code_word (m := ⟨8, 15⟩) (meth := k8m15) (c := k8c15) (by decide +kernel) rfl rfl rfl (by decide +kernel)
def codes1 : List Jvm.Cond := [Jvm.Cond.code x code maxLocals ret, Jvm.Cond.code ({ cls := "com/example/lodepath/lodepath/MavenVersionBaseVersionPinLaw", name := "dig", desc := "(JI)C" } : Jvm.MethodName) method_2_code (3 : Nat) (Option.some Jvm.ClassFile.FieldType.char), Jvm.Cond.code ({ cls := "java/lang/String", name := "<init>", desc := "([C)V" } : Jvm.MethodName) jdk_42_method_3_code (2 : Nat) (Option.none : Option Jvm.ClassFile.FieldType), Jvm.Cond.code ({ cls := "java/lang/String", name := "<init>", desc := "([CIILjava/lang/Void;)V" } : Jvm.MethodName) jdk_42_method_149_code (6 : Nat) (Option.none : Option Jvm.ClassFile.FieldType), Jvm.Cond.code ({ cls := "java/lang/Object", name := "<init>", desc := "()V" } : Jvm.MethodName) object_method_1_code (1 : Nat) (Option.none : Option Jvm.ClassFile.FieldType), Jvm.Cond.code ({ cls := "java/lang/StringUTF16", name := "compress", desc := "([CII)[B" } : Jvm.MethodName) jdk_52_method_16_code (6 : Nat) (Option.some (Jvm.ClassFile.FieldType.array Jvm.ClassFile.FieldType.byte)), Jvm.Cond.code ({ cls := "java/lang/StringUTF16", name := "compress", desc := "([CI[BII)I" } : Jvm.MethodName) jdk_52_method_21_code (7 : Nat) (Option.some Jvm.ClassFile.FieldType.int), Jvm.Cond.code ({ cls := "java/lang/StringUTF16", name := "coderFromArrayLen", desc := "([BI)B" } : Jvm.MethodName) jdk_52_method_15_code (2 : Nat) (Option.some Jvm.ClassFile.FieldType.byte), Jvm.Cond.code ({ cls := "com/example/lodepath/lodepath/MavenVersion", name := "baseVersion", desc := "(Ljava/lang/String;)Ljava/lang/String;" } : Jvm.MethodName) prog_2_method_5_code (2 : Nat) (Option.some (Jvm.ClassFile.FieldType.object "java/lang/String")), Jvm.Cond.code ({ cls := "com/example/lodepath/lodepath/MavenVersion", name := "timestampAt", desc := "(Ljava/lang/String;)I" } : Jvm.MethodName) prog_2_method_6_code (5 : Nat) (Option.some Jvm.ClassFile.FieldType.int), Jvm.Cond.code ({ cls := "java/lang/String", name := "lastIndexOf", desc := "(I)I" } : Jvm.MethodName) jdk_42_method_82_code (2 : Nat) (Option.some Jvm.ClassFile.FieldType.int), Jvm.Cond.code ({ cls := "java/lang/String", name := "length", desc := "()I" } : Jvm.MethodName) jdk_42_method_54_code (1 : Nat) (Option.some Jvm.ClassFile.FieldType.int), Jvm.Cond.code ({ cls := "java/lang/String", name := "coder", desc := "()B" } : Jvm.MethodName) jdk_42_method_152_code (1 : Nat) (Option.some Jvm.ClassFile.FieldType.byte), Jvm.Cond.code ({ cls := "java/lang/String", name := "lastIndexOf", desc := "(II)I" } : Jvm.MethodName) jdk_42_method_83_code (3 : Nat) (Option.some Jvm.ClassFile.FieldType.int), Jvm.Cond.code ({ cls := "java/lang/String", name := "isLatin1", desc := "()Z" } : Jvm.MethodName) jdk_42_method_154_code (1 : Nat) (Option.some Jvm.ClassFile.FieldType.boolean), Jvm.Cond.code ({ cls := "java/lang/StringLatin1", name := "lastIndexOf", desc := "([BII)I" } : Jvm.MethodName) jdk_43_method_27_code (4 : Nat) (Option.some Jvm.ClassFile.FieldType.int), Jvm.Cond.code ({ cls := "java/lang/StringLatin1", name := "canEncode", desc := "(I)Z" } : Jvm.MethodName) jdk_43_method_4_code (1 : Nat) (Option.some Jvm.ClassFile.FieldType.boolean), Jvm.Cond.code ({ cls := "java/lang/Math", name := "min", desc := "(II)I" } : Jvm.MethodName) jdk_29_method_69_code (2 : Nat) (Option.some Jvm.ClassFile.FieldType.int), Jvm.Cond.code ({ cls := "com/example/lodepath/lodepath/MavenVersion", name := "isAsciiDigits", desc := "(Ljava/lang/String;II)Z" } : Jvm.MethodName) prog_2_method_7_code (4 : Nat) (Option.some Jvm.ClassFile.FieldType.boolean), Jvm.Cond.code ({ cls := "java/lang/String", name := "charAt", desc := "(I)C" } : Jvm.MethodName) jdk_42_method_56_code (2 : Nat) (Option.some Jvm.ClassFile.FieldType.char), Jvm.Cond.code ({ cls := "java/lang/StringLatin1", name := "charAt", desc := "([BI)C" } : Jvm.MethodName) jdk_43_method_2_code (2 : Nat) (Option.some Jvm.ClassFile.FieldType.char), Jvm.Cond.code ({ cls := "java/lang/String", name := "checkIndex", desc := "(II)V" } : Jvm.MethodName) jdk_42_method_155_code (2 : Nat) (Option.none : Option Jvm.ClassFile.FieldType), Jvm.Cond.code ({ cls := "jdk/internal/util/Preconditions", name := "checkIndex", desc := "(IILjava/util/function/BiFunction;)I" } : Jvm.MethodName) jdk_41_method_11_code (3 : Nat) (Option.some Jvm.ClassFile.FieldType.int), Jvm.Cond.code ({ cls := "java/lang/String", name := "equals", desc := "(Ljava/lang/Object;)Z" } : Jvm.MethodName) jdk_42_method_66_code (3 : Nat) (Option.some Jvm.ClassFile.FieldType.boolean), Jvm.Cond.code ({ cls := "java/lang/StringBuilder", name := "<init>", desc := "()V" } : Jvm.MethodName) jdk_67_method_1_code (1 : Nat) (Option.none : Option Jvm.ClassFile.FieldType), Jvm.Cond.code ({ cls := "java/lang/AbstractStringBuilder", name := "<init>", desc := "(I)V" } : Jvm.MethodName) jdk_68_method_2_code (2 : Nat) (Option.none : Option Jvm.ClassFile.FieldType), Jvm.Cond.code ({ cls := "java/lang/String", name := "substring", desc := "(II)Ljava/lang/String;" } : Jvm.MethodName) jdk_42_method_92_code (5 : Nat) (Option.some (Jvm.ClassFile.FieldType.object "java/lang/String")), Jvm.Cond.code ({ cls := "java/lang/String", name := "checkBoundsBeginEnd", desc := "(III)V" } : Jvm.MethodName) jdk_42_method_158_code (3 : Nat) (Option.none : Option Jvm.ClassFile.FieldType), Jvm.Cond.code ({ cls := "jdk/internal/util/Preconditions", name := "checkFromToIndex", desc := "(IIILjava/util/function/BiFunction;)I" } : Jvm.MethodName) jdk_41_method_12_code (4 : Nat) (Option.some Jvm.ClassFile.FieldType.int), Jvm.Cond.code ({ cls := "java/lang/StringLatin1", name := "newString", desc := "([BII)Ljava/lang/String;" } : Jvm.MethodName) jdk_43_method_47_code (3 : Nat) (Option.some (Jvm.ClassFile.FieldType.object "java/lang/String")), Jvm.Cond.code ({ cls := "java/lang/StringBuilder", name := "append", desc := "(Ljava/lang/String;)Ljava/lang/StringBuilder;" } : Jvm.MethodName) jdk_67_method_7_code (2 : Nat) (Option.some (Jvm.ClassFile.FieldType.object "java/lang/StringBuilder")), Jvm.Cond.code ({ cls := "java/lang/AbstractStringBuilder", name := "append", desc := "(Ljava/lang/String;)Ljava/lang/AbstractStringBuilder;" } : Jvm.MethodName) jdk_68_method_22_code (3 : Nat) (Option.some (Jvm.ClassFile.FieldType.object "java/lang/AbstractStringBuilder")), Jvm.Cond.code ({ cls := "java/lang/AbstractStringBuilder", name := "ensureCapacityInternal", desc := "(I)V" } : Jvm.MethodName) jdk_68_method_9_code (3 : Nat) (Option.none : Option Jvm.ClassFile.FieldType), Jvm.Cond.code ({ cls := "java/lang/AbstractStringBuilder", name := "putStringAt", desc := "(ILjava/lang/String;)V" } : Jvm.MethodName) jdk_68_method_73_code (3 : Nat) (Option.none : Option Jvm.ClassFile.FieldType), Jvm.Cond.code ({ cls := "java/lang/AbstractStringBuilder", name := "inflateIfNeededFor", desc := "(Ljava/lang/String;)V" } : Jvm.MethodName) jdk_68_method_71_code (2 : Nat) (Option.none : Option Jvm.ClassFile.FieldType), Jvm.Cond.code ({ cls := "java/lang/String", name := "getBytes", desc := "([BIB)V" } : Jvm.MethodName) jdk_42_method_147_code (4 : Nat) (Option.none : Option Jvm.ClassFile.FieldType), Jvm.Cond.code ({ cls := "java/lang/StringBuilder", name := "toString", desc := "()Ljava/lang/String;" } : Jvm.MethodName) jdk_67_method_42_code (1 : Nat) (Option.some (Jvm.ClassFile.FieldType.object "java/lang/String")), Jvm.Cond.code ({ cls := "java/lang/String", name := "<init>", desc := "(Ljava/lang/StringBuilder;)V" } : Jvm.MethodName) jdk_42_method_53_code (2 : Nat) (Option.none : Option Jvm.ClassFile.FieldType), Jvm.Cond.code ({ cls := "java/lang/String", name := "<init>", desc := "(Ljava/lang/AbstractStringBuilder;Ljava/lang/Void;)V" } : Jvm.MethodName) jdk_42_method_150_code (5 : Nat) (Option.none : Option Jvm.ClassFile.FieldType), Jvm.Cond.code ({ cls := "java/lang/AbstractStringBuilder", name := "getValue", desc := "()[B" } : Jvm.MethodName) jdk_68_method_64_code (1 : Nat) (Option.some (Jvm.ClassFile.FieldType.array Jvm.ClassFile.FieldType.byte)), Jvm.Cond.code ({ cls := "java/lang/StringBuilder", name := "length", desc := "()I" } : Jvm.MethodName) jdk_67_method_93_code (1 : Nat) (Option.some Jvm.ClassFile.FieldType.int), Jvm.Cond.code ({ cls := "java/lang/AbstractStringBuilder", name := "length", desc := "()I" } : Jvm.MethodName) jdk_68_method_6_code (1 : Nat) (Option.some Jvm.ClassFile.FieldType.int), Jvm.Cond.code ({ cls := "java/lang/AbstractStringBuilder", name := "isLatin1", desc := "()Z" } : Jvm.MethodName) jdk_68_method_68_code (1 : Nat) (Option.some Jvm.ClassFile.FieldType.boolean), Jvm.Cond.code ({ cls := "java/util/Arrays", name := "copyOfRange", desc := "([BII)[B" } : Jvm.MethodName) jdk_65_method_132_code (3 : Nat) (Option.some (Jvm.ClassFile.FieldType.array Jvm.ClassFile.FieldType.byte)), Jvm.Cond.code ({ cls := "java/util/Arrays", name := "copyOfRangeByte", desc := "([BII)[B" } : Jvm.MethodName) jdk_65_method_133_code (5 : Nat) (Option.some (Jvm.ClassFile.FieldType.array Jvm.ClassFile.FieldType.byte)), Jvm.Cond.code ({ cls := "java/util/Arrays", name := "checkLength", desc := "(II)V" } : Jvm.MethodName) jdk_65_method_131_code (2 : Nat) (Option.none : Option Jvm.ClassFile.FieldType), Jvm.Cond.code ({ cls := "java/lang/StringLatin1", name := "equals", desc := "([B[B)Z" } : Jvm.MethodName) jdk_43_method_13_code (3 : Nat) (Option.some Jvm.ClassFile.FieldType.boolean), Jvm.Cond.code ({ cls := "java/lang/String", name := "<init>", desc := "([BB)V" } : Jvm.MethodName) jdk_42_method_151_code (3 : Nat) (Option.none : Option Jvm.ClassFile.FieldType), Jvm.Cond.code ({ cls := "java/lang/StringUTF16", name := "toBytes", desc := "([CII)[B" } : Jvm.MethodName) jdk_52_method_14_code (5 : Nat) (Option.some (Jvm.ClassFile.FieldType.array Jvm.ClassFile.FieldType.byte)), Jvm.Cond.code ({ cls := "java/lang/StringUTF16", name := "newBytesFor", desc := "(I)[B" } : Jvm.MethodName) jdk_52_method_2_code (1 : Nat) (Option.some (Jvm.ClassFile.FieldType.array Jvm.ClassFile.FieldType.byte)), Jvm.Cond.code ({ cls := "java/lang/StringUTF16", name := "newBytesLength", desc := "(I)I" } : Jvm.MethodName) jdk_52_method_3_code (1 : Nat) (Option.some Jvm.ClassFile.FieldType.int), Jvm.Cond.code ({ cls := "java/lang/StringUTF16", name := "putChar", desc := "([BII)V" } : Jvm.MethodName) jdk_52_method_4_code (3 : Nat) (Option.none : Option Jvm.ClassFile.FieldType), Jvm.Cond.code ({ cls := "java/lang/StringUTF16", name := "getChar", desc := "([BI)C" } : Jvm.MethodName) jdk_52_method_5_code (2 : Nat) (Option.some Jvm.ClassFile.FieldType.char), Jvm.Cond.code ({ cls := "java/lang/StringUTF16", name := "lastIndexOf", desc := "([BII)I" } : Jvm.MethodName) jdk_52_method_51_code (4 : Nat) (Option.some Jvm.ClassFile.FieldType.int), Jvm.Cond.code ({ cls := "java/lang/StringUTF16", name := "charAt", desc := "([BI)C" } : Jvm.MethodName) jdk_52_method_83_code (2 : Nat) (Option.some Jvm.ClassFile.FieldType.char), Jvm.Cond.code ({ cls := "java/lang/StringUTF16", name := "checkIndex", desc := "(I[B)V" } : Jvm.MethodName) jdk_52_method_91_code (2 : Nat) (Option.none : Option Jvm.ClassFile.FieldType), Jvm.Cond.code ({ cls := "java/lang/StringUTF16", name := "length", desc := "([B)I" } : Jvm.MethodName) jdk_52_method_6_code (1 : Nat) (Option.some Jvm.ClassFile.FieldType.int), Jvm.Cond.code ({ cls := "com/example/lodepath/lodepath/MavenVersionBaseVersionPinLaw", name := "terminator", desc := "(C)Z" } : Jvm.MethodName) method_3_code (1 : Nat) (Option.some Jvm.ClassFile.FieldType.boolean), Jvm.Cond.code ({ cls := "java/lang/StringUTF16", name := "newString", desc := "([BII)Ljava/lang/String;" } : Jvm.MethodName) jdk_52_method_69_code (5 : Nat) (Option.some (Jvm.ClassFile.FieldType.object "java/lang/String")), Jvm.Cond.code ({ cls := "java/lang/StringUTF16", name := "compress", desc := "([BII)[B" } : Jvm.MethodName) jdk_52_method_17_code (6 : Nat) (Option.some (Jvm.ClassFile.FieldType.array Jvm.ClassFile.FieldType.byte)), Jvm.Cond.code ({ cls := "java/lang/StringUTF16", name := "compress", desc := "([BI[BII)I" } : Jvm.MethodName) jdk_52_method_22_code (7 : Nat) (Option.some Jvm.ClassFile.FieldType.int), Jvm.Cond.code ({ cls := "java/lang/StringUTF16", name := "checkBoundsOffCount", desc := "(II[B)V" } : Jvm.MethodName) jdk_52_method_94_code (3 : Nat) (Option.none : Option Jvm.ClassFile.FieldType), Jvm.Cond.code ({ cls := "java/lang/String", name := "checkBoundsOffCount", desc := "(III)I" } : Jvm.MethodName) jdk_42_method_157_code (3 : Nat) (Option.some Jvm.ClassFile.FieldType.int), Jvm.Cond.code ({ cls := "jdk/internal/util/Preconditions", name := "checkFromIndexSize", desc := "(IIILjava/util/function/BiFunction;)I" } : Jvm.MethodName) jdk_41_method_13_code (4 : Nat) (Option.some Jvm.ClassFile.FieldType.int), Jvm.Cond.code ({ cls := "java/lang/AbstractStringBuilder", name := "inflate", desc := "()V" } : Jvm.MethodName) jdk_68_method_11_code (2 : Nat) (Option.none : Option Jvm.ClassFile.FieldType), Jvm.Cond.code ({ cls := "java/lang/StringLatin1", name := "inflate", desc := "([BI[BII)V" } : Jvm.MethodName) jdk_43_method_50_code (5 : Nat) (Option.none : Option Jvm.ClassFile.FieldType), Jvm.Cond.code ({ cls := "java/lang/StringUTF16", name := "inflate", desc := "([BI[BII)V" } : Jvm.MethodName) jdk_52_method_86_code (6 : Nat) (Option.none : Option Jvm.ClassFile.FieldType)]
set_option maxRecDepth 65536 in
theorem codes_eq : words1.filter isCode = codes1 := rfl
theorem w_codes : ∀ c ∈ words1.filter isCode, c.before args0 about1 = true := by
  rw [codes_eq]
  intro c hc
  simp only [codes1, List.mem_cons, List.not_mem_nil, or_false] at hc
  rcases hc with rfl | rfl | rfl | rfl | rfl | rfl | rfl | rfl | rfl | rfl | rfl | rfl | rfl | rfl | rfl | rfl | rfl | rfl | rfl | rfl | rfl | rfl | rfl | rfl | rfl | rfl | rfl | rfl | rfl | rfl | rfl | rfl | rfl | rfl | rfl | rfl | rfl | rfl | rfl | rfl | rfl | rfl | rfl | rfl | rfl | rfl | rfl | rfl | rfl | rfl | rfl | rfl | rfl | rfl | rfl | rfl | rfl | rfl | rfl | rfl | rfl | rfl | rfl | rfl | rfl | rfl | rfl
  · exact w_c0
  · exact w_c1
  · exact w_c2
  · exact w_c3
  · exact w_c4
  · exact w_c5
  · exact w_c6
  · exact w_c7
  · exact w_c8
  · exact w_c9
  · exact w_c10
  · exact w_c11
  · exact w_c12
  · exact w_c13
  · exact w_c14
  · exact w_c15
  · exact w_c16
  · exact w_c17
  · exact w_c18
  · exact w_c19
  · exact w_c20
  · exact w_c21
  · exact w_c22
  · exact w_c23
  · exact w_c24
  · exact w_c25
  · exact w_c26
  · exact w_c27
  · exact w_c28
  · exact w_c29
  · exact w_c30
  · exact w_c31
  · exact w_c32
  · exact w_c33
  · exact w_c34
  · exact w_c35
  · exact w_c36
  · exact w_c37
  · exact w_c38
  · exact w_c39
  · exact w_c40
  · exact w_c41
  · exact w_c42
  · exact w_c43
  · exact w_c44
  · exact w_c45
  · exact w_c46
  · exact w_c47
  · exact w_c48
  · exact w_c49
  · exact w_c50
  · exact w_c51
  · exact w_c52
  · exact w_c53
  · exact w_c54
  · exact w_c55
  · exact w_c56
  · exact w_c57
  · exact w_c58
  · exact w_c59
  · exact w_c60
  · exact w_c61
  · exact w_c62
  · exact w_c63
  · exact w_c64
  · exact w_c65
  · exact w_c66
set_option maxRecDepth 65536 in
theorem w_t1 : (words1.take 24).all (fun c => isCode c || c.before args0 about1) = true := by decide +kernel
set_option maxRecDepth 65536 in
theorem w_t2 : ((words1.drop 24).take 24).all (fun c => isCode c || c.before args0 about1) = true := by decide +kernel
set_option maxRecDepth 65536 in
theorem w_t3 : (((words1.drop 24).drop 24).take 24).all (fun c => isCode c || c.before args0 about1) = true := by decide +kernel
set_option maxRecDepth 65536 in
theorem w_t4 : ((((words1.drop 24).drop 24).drop 24).take 24).all (fun c => isCode c || c.before args0 about1) = true := by decide +kernel
set_option maxRecDepth 65536 in
theorem w_t5 : (((((words1.drop 24).drop 24).drop 24).drop 24).take 24).all (fun c => isCode c || c.before args0 about1) = true := by decide +kernel
set_option maxRecDepth 65536 in
theorem w_t6 : ((((((words1.drop 24).drop 24).drop 24).drop 24).drop 24).take 24).all (fun c => isCode c || c.before args0 about1) = true := by decide +kernel
set_option maxRecDepth 65536 in
theorem w_t7 : (((((((words1.drop 24).drop 24).drop 24).drop 24).drop 24).drop 24).take 24).all (fun c => isCode c || c.before args0 about1) = true := by decide +kernel
set_option maxRecDepth 65536 in
theorem w_t8 : ((((((((words1.drop 24).drop 24).drop 24).drop 24).drop 24).drop 24).drop 24).take 24).all (fun c => isCode c || c.before args0 about1) = true := by decide +kernel
set_option maxRecDepth 65536 in
theorem w_t9 : (((((((((words1.drop 24).drop 24).drop 24).drop 24).drop 24).drop 24).drop 24).drop 24).take 24).all (fun c => isCode c || c.before args0 about1) = true := by decide +kernel
set_option maxRecDepth 65536 in
theorem w_t10 : ((((((((((words1.drop 24).drop 24).drop 24).drop 24).drop 24).drop 24).drop 24).drop 24).drop 24).take 24).all (fun c => isCode c || c.before args0 about1) = true := by decide +kernel
set_option maxRecDepth 65536 in
theorem w_t11 : (((((((((((words1.drop 24).drop 24).drop 24).drop 24).drop 24).drop 24).drop 24).drop 24).drop 24).drop 24).take 24).all (fun c => isCode c || c.before args0 about1) = true := by decide +kernel
set_option maxRecDepth 65536 in
theorem w_t12 : ((((((((((((words1.drop 24).drop 24).drop 24).drop 24).drop 24).drop 24).drop 24).drop 24).drop 24).drop 24).drop 24).take 24).all (fun c => isCode c || c.before args0 about1) = true := by decide +kernel
set_option maxRecDepth 65536 in
theorem w_t13 : ((((((((((((words1.drop 24).drop 24).drop 24).drop 24).drop 24).drop 24).drop 24).drop 24).drop 24).drop 24).drop 24).drop 24).all (fun c => isCode c || c.before args0 about1) = true := by decide +kernel
theorem w_tables : (allAtoms (Jvm.Cond.code x code maxLocals ret :: tables_1)).before args0 about1 = true := by
  rw [allAtoms_all]
  show words1.all (fun c => c.before args0 about1) = true
  refine all_split ?_ w_codes
  rw [← List.take_append_drop 24 words1, List.all_append, w_t1, ← List.take_append_drop 24 (words1.drop 24), List.all_append, w_t2, ← List.take_append_drop 24 ((words1.drop 24).drop 24), List.all_append, w_t3, ← List.take_append_drop 24 (((words1.drop 24).drop 24).drop 24), List.all_append, w_t4, ← List.take_append_drop 24 ((((words1.drop 24).drop 24).drop 24).drop 24), List.all_append, w_t5, ← List.take_append_drop 24 (((((words1.drop 24).drop 24).drop 24).drop 24).drop 24), List.all_append, w_t6, ← List.take_append_drop 24 ((((((words1.drop 24).drop 24).drop 24).drop 24).drop 24).drop 24), List.all_append, w_t7, ← List.take_append_drop 24 (((((((words1.drop 24).drop 24).drop 24).drop 24).drop 24).drop 24).drop 24), List.all_append, w_t8, ← List.take_append_drop 24 ((((((((words1.drop 24).drop 24).drop 24).drop 24).drop 24).drop 24).drop 24).drop 24), List.all_append, w_t9, ← List.take_append_drop 24 (((((((((words1.drop 24).drop 24).drop 24).drop 24).drop 24).drop 24).drop 24).drop 24).drop 24), List.all_append, w_t10, ← List.take_append_drop 24 ((((((((((words1.drop 24).drop 24).drop 24).drop 24).drop 24).drop 24).drop 24).drop 24).drop 24).drop 24), List.all_append, w_t11, ← List.take_append_drop 24 (((((((((((words1.drop 24).drop 24).drop 24).drop 24).drop 24).drop 24).drop 24).drop 24).drop 24).drop 24).drop 24), List.all_append, w_t12, w_t13]
  rfl
set_option maxRecDepth 65536 in
theorem w_rest : rest_1_c.before args0 about1 = true := by decide +kernel
set_option maxRecDepth 65536 in
theorem w_case : (Jvm.Cond.and given_1 narrow_1).before args0 about1 = true := by decide +kernel
set_option maxRecDepth 65536 in
theorem w_consts : constsHeld consts_1 about1 := Jvm.Lit.constsHeldB_iff.mp (by decide +kernel)
theorem w_applies : (headSpec (Jvm.Cond.code x code maxLocals ret :: tables_1) room_1).applies x e0.platform about1 = true :=
  (Spec.applies_iff w_frames).mpr ⟨w_running, w_runnable, w_alone, w_named, w_hears, w_ripe, w_room, w_tables⟩
theorem atStart : AtStart classFile x code maxLocals ret World_1 tables_1 room_1 Calls_1 rest_1 Pre_1 launch0 p0 e0 about1 theMethod args0 below0 :=
  ⟨lists_1, trivial, launch0.admits_env _ _ _, launch0.least_env, fairChoices_fair.cas, fairChoices_fair.clock, w_frames, w_args, w_heap, w_applies, ⟨w_consts, trivial⟩, w_rest, w_case⟩
end start1
theorem witness_1 : WitnessClaimed_1 := ⟨start1.p0, start1.e0, start1.about1, start1.theMethod, start1.args0, start1.below0, start1.atStart⟩
end Jvm.Pilot.@@N@@
