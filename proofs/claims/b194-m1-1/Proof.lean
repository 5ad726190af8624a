import JvmDerived
import JvmDerived.Pilot.@@N@@Statement
import JvmDerived.Pilot.@@N@@Code
set_option linter.unusedVariables false
set_option linter.unusedSimpArgs false
namespace Jvm.RoadKit
open Sem ClassFile Op Lib Jvm.Stand Jvm.Free Jvm.LawKit
section New
variable {p : Program} {l : Launch} {e : Env} {R : Room} {s : State} {m : MethodId} {args : Array Value} {below : List Frame} {meth : Method} {c : Code} {T : State} {locs : List Loc} {cells slots : Nat}
theorem retI (X : Stand p l e R s m args below meth c T locs cells slots) (hEX : p.tables.exec = Jvm.exec) {pc : Nat} {Ls : Array Slot} {z : Int32} {rest : List Value} (hRT : meth.sig.returnType = some .int) (hd : decode c.code pc = .ok (.ireturn, 1)) {fs : List Frame}
    (hl : ∀ (f : JFrame) (acts : List Action), f.method = m → f.locked = none → f.entered = [] → (doReturn e (T.setTop f) acts (some (.int z))).1 = T.setFrames fs) : Steps p.tables e below (T.setTop (mkF m pc Ls (.int z :: rest))) (T.setFrames fs) := by
  have hm' : T.vm.method? m = some meth := X.method'
  have hn : narrow .int (.int z) = .int z := rfl
  show Steps p.tables e below (T.setTop { method := m, pc := pc, locals := Ls, stack := _ :: rest, locked := none }) _
  jvm_step X.here [X.here.top, hEX, hd, hm', hRT, hn]
  first | (intro acts; rw [hl _ acts rfl rfl rfl]) | rw [hl _ _ rfl rfl rfl]
  exact Steps.refl _
abbrev Us : Slot := .unset
abbrev Zs : Slot := .second
abbrev Nv : Slot := .val .null
abbrev Iv (x : Int32) : Slot := .val (.int x)
abbrev Lv (x : Int64) : Slot := .val (.long x)
abbrev Rv (x : Addr) : Slot := .val (.ref x)
/-- the body comes to its end from st: it returns v, and Q holds of v, of the heap and of the places written -/
def Done (p : Program) (e : Env) (below : List Frame) (s : State) (Q : Option Value → Heap → List Loc → Prop) (kc ks : Nat) (st : State) : Prop :=
  ∃ (s₂ : State) (o : Outcome), Steps p.tables e below st s₂ ∧ s₂.status = .running ∧ Ended s₂ below o ∧ ∃ v L, o = .returned v ∧ Q v s₂.heap L ∧ FrameEnd s o s₂ L kc ks
variable {Q : Option Value → Heap → List Loc → Prop} {kc ks : Nat}
theorem Done.pre {st st' : State} (h : ∀ t, Steps p.tables e below st' t → Steps p.tables e below st t) (D : Done p e below s Q kc ks st') : Done p e below s Q kc ks st := by
  obtain ⟨s₂, o, h1, r⟩ := D
  exact ⟨s₂, o, h _ h1, r⟩
theorem Done.retI (X : Stand p l e R s m args below meth c T locs cells slots) (hEX : p.tables.exec = Jvm.exec) (hLK : meth.locks = false) {pc : Nat} {Ls : Array Slot} {z : Int32} {rest : List Value} (hRT : meth.sig.returnType = some .int) (hd : decode c.code pc = .ok (.ireturn, 1))
    (hQ : Q (some (.int z)) T.heap locs) (hc : cells ≤ kc) (hs : slots ≤ ks) : Done p e below s Q kc ks (T.setTop (mkF m pc Ls (.int z :: rest))) := by
  obtain ⟨fs, hr, hrun, hended, hW, hsame⟩ := X.leave (v := some (.int z)) (fun h => by rw [hRT] at h; cases h) hLK
  exact ⟨_, _, Jvm.RoadKit.retI X hEX hRT hd hr, hrun, hended, _, _, rfl, hQ, ⟨_, rfl⟩, hW, hsame.mono hc hs⟩
theorem Done.retN (X : Stand p l e R s m args below meth c T locs cells slots) (hEX : p.tables.exec = Jvm.exec) (hLK : meth.locks = false) {pc : Nat} {Ls : Array Slot} {z : Int32} {t : FieldType} {rest : List Value} (hRT : meth.sig.returnType = some t) (ht : t = .boolean ∨ t = .byte ∨ t = .char ∨ t = .short) (hd : decode c.code pc = .ok (.ireturn, 1))
    (hQ : Q (some (.int (nar t z))) T.heap locs) (hc : cells ≤ kc) (hs : slots ≤ ks) : Done p e below s Q kc ks (T.setTop (mkF m pc Ls (.int z :: rest))) := by
  obtain ⟨fs, hr, hrun, hended, hW, hsame⟩ := X.leave (v := some (.int (nar t z))) (fun h => by rw [hRT] at h; cases h) hLK
  exact ⟨_, _, Jvm.RoadKit.retN X hEX hRT ht hd hr, hrun, hended, _, _, rfl, hQ, ⟨_, rfl⟩, hW, hsame.mono hc hs⟩
theorem Done.retL (X : Stand p l e R s m args below meth c T locs cells slots) (hEX : p.tables.exec = Jvm.exec) (hLK : meth.locks = false) {pc : Nat} {Ls : Array Slot} {z : Int64} {rest : List Value} (hRT : meth.sig.returnType = some .long) (hd : decode c.code pc = .ok (.lreturn, 1))
    (hQ : Q (some (.long z)) T.heap locs) (hc : cells ≤ kc) (hs : slots ≤ ks) : Done p e below s Q kc ks (T.setTop (mkF m pc Ls (.long z :: rest))) := by
  obtain ⟨fs, hr, hrun, hended, hW, hsame⟩ := X.leave (v := some (.long z)) (fun h => by rw [hRT] at h; cases h) hLK
  exact ⟨_, _, retOut X hEX hRT rfl (Or.inr (Or.inl ⟨rfl, rfl, _, rfl⟩)) hd hr, hrun, hended, _, _, rfl, hQ, ⟨_, rfl⟩, hW, hsame.mono hc hs⟩
theorem Done.retA (X : Stand p l e R s m args below meth c T locs cells slots) (hEX : p.tables.exec = Jvm.exec) (hLK : meth.locks = false) {pc : Nat} {Ls : Array Slot} {w : Value} {t : FieldType} {rest : List Value} (hRT : meth.sig.returnType = some t) (ht : t.isReference = true) (hw : w.isRef = true) (hd : decode c.code pc = .ok (.areturn, 1))
    (hQ : Q (some w) T.heap locs) (hc : cells ≤ kc) (hs : slots ≤ ks) : Done p e below s Q kc ks (T.setTop (mkF m pc Ls (w :: rest))) := by
  obtain ⟨fs, hr, hrun, hended, hW, hsame⟩ := X.leave (v := some w) (fun h => by rw [hRT] at h; cases h) hLK
  have hn : narrow t w = w := by cases t <;> first | rfl | (simp [FieldType.isReference] at ht)
  exact ⟨_, _, retOut X hEX hRT hn (Or.inr (Or.inr (Or.inr (Or.inr ⟨rfl, ht, hw⟩)))) hd hr, hrun, hended, _, _, rfl, hQ, ⟨_, rfl⟩, hW, hsame.mono hc hs⟩
theorem Done.retV (X : Stand p l e R s m args below meth c T locs cells slots) (hEX : p.tables.exec = Jvm.exec) (hLK : meth.locks = false) {pc : Nat} {Ls : Array Slot} (hRT : meth.sig.returnType = none) (hd : decode c.code pc = .ok (.return_, 1))
    (hQ : Q none T.heap locs) (hc : cells ≤ kc) (hs : slots ≤ ks) : Done p e below s Q kc ks (T.setTop (mkF m pc Ls [])) := by
  obtain ⟨fs, hr, hrun, hended, hW, hsame⟩ := X.leave (v := none) (fun _ => rfl) hLK
  exact ⟨_, _, X.returnOut hEX hRT hd hr, hrun, hended, _, _, rfl, hQ, ⟨_, rfl⟩, hW, hsame.mono hc hs⟩
end New
end Jvm.RoadKit

namespace Jvm.RoadKit
open Sem ClassFile Op Lib Bundle Jvm.Stand Jvm.Free Jvm.LawKit
section NewW
variable {p : Program} {l : Launch} {e : Env} {below : List Frame} {s : State}
variable {Q : Option Value → Heap → List Loc → Prop} {kc ks : Nat}
/-- 'Done', the end said in the wide sense (String constants may have been interned) -/
def DoneW (p : Program) (e : Env) (below : List Frame) (s : State) (Q : Option Value → Heap → List Loc → Prop) (kc ks : Nat) (st : State) : Prop :=
  ∃ (s₂ : State) (o : Outcome), Steps p.tables e below st s₂ ∧ s₂.status = .running ∧ Ended s₂ below o ∧ ∃ v L, o = .returned v ∧ Q v s₂.heap L ∧ ReturnedEndW s o s₂ L kc ks
theorem DoneW.pre {st st' : State} (h : ∀ t, Steps p.tables e below st' t → Steps p.tables e below st t) (D : DoneW p e below s Q kc ks st') : DoneW p e below s Q kc ks st := by
  obtain ⟨s₂, o, h1, r⟩ := D
  exact ⟨s₂, o, h _ h1, r⟩
theorem DoneW.of_done {st : State} {vm1 : Vm} {n : Nat} (hS : s.Since vm1 n) (hn : ∀ v h L, Q v h L → n ≤ h.size) (D : Done p e below (s.setVm vm1) Q kc ks st) : DoneW p e below s Q kc ks st := by
  obtain ⟨s₂, o, h1, h2, h3, v, L, h4, h5, hr, hW, hs⟩ := D
  obtain ⟨a, b, c'⟩ := hS.ended (U := s₂) hW (hn _ _ _ h5) hs
  exact ⟨s₂, o, h1, h2, h3, v, L, h4, h5, hr, a, b, c'⟩
end NewW
end Jvm.RoadKit
namespace Jvm.Pilot.@@N@@
open Jvm Jvm.ClassFile Sem Op Lib Jvm.Free Jvm.Stand Jvm.LawKit Jvm.RoadKit Bundle Jvm.Pilot.@@N@@.Jvm.D

def own_low (n : Nat) : Int32 := match n with
  | 0 => (48 : Int32)
  | 1 => (49 : Int32)
  | 2 => (50 : Int32)
  | 3 => (51 : Int32)
  | 4 => (52 : Int32)
  | 5 => (53 : Int32)
  | 6 => (54 : Int32)
  | 7 => (55 : Int32)
  | 8 => (56 : Int32)
  | 9 => (57 : Int32)
  | 10 => (97 : Int32)
  | 11 => (98 : Int32)
  | 12 => (99 : Int32)
  | 13 => (100 : Int32)
  | 14 => (101 : Int32)
  | 15 => (102 : Int32)
  | _ + 16 => (0 : Int32)
theorem own_lowv (n : Nat) : ([(.int (48 : Int32)), (.int (49 : Int32)), (.int (50 : Int32)), (.int (51 : Int32)), (.int (52 : Int32)), (.int (53 : Int32)), (.int (54 : Int32)), (.int (55 : Int32)), (.int (56 : Int32)), (.int (57 : Int32)), (.int (97 : Int32)), (.int (98 : Int32)), (.int (99 : Int32)), (.int (100 : Int32)), (.int (101 : Int32)), (.int (102 : Int32))] : List Value).getD n (.int (0 : Int32)) = .int (own_low n) := by
  match n with
  | 0 => rfl
  | 1 => rfl
  | 2 => rfl
  | 3 => rfl
  | 4 => rfl
  | 5 => rfl
  | 6 => rfl
  | 7 => rfl
  | 8 => rfl
  | 9 => rfl
  | 10 => rfl
  | 11 => rfl
  | 12 => rfl
  | 13 => rfl
  | 14 => rfl
  | 15 => rfl
  | _ + 16 => rfl
theorem own_lowi (n : Nat) (h : n < 16) : (own_low n).toInt = if n < 10 then 48 + (n : Int) else 87 + (n : Int) := by
  match n, h with
  | 0, _ => rfl
  | 1, _ => rfl
  | 2, _ => rfl
  | 3, _ => rfl
  | 4, _ => rfl
  | 5, _ => rfl
  | 6, _ => rfl
  | 7, _ => rfl
  | 8, _ => rfl
  | 9, _ => rfl
  | 10, _ => rfl
  | 11, _ => rfl
  | 12, _ => rfl
  | 13, _ => rfl
  | 14, _ => rfl
  | 15, _ => rfl
  | _ + 16, h => omega

def own_upp (n : Nat) : Int32 := match n with
  | 0 => (48 : Int32)
  | 1 => (49 : Int32)
  | 2 => (50 : Int32)
  | 3 => (51 : Int32)
  | 4 => (52 : Int32)
  | 5 => (53 : Int32)
  | 6 => (54 : Int32)
  | 7 => (55 : Int32)
  | 8 => (56 : Int32)
  | 9 => (57 : Int32)
  | 10 => (65 : Int32)
  | 11 => (66 : Int32)
  | 12 => (67 : Int32)
  | 13 => (68 : Int32)
  | 14 => (69 : Int32)
  | 15 => (70 : Int32)
  | _ + 16 => (0 : Int32)
theorem own_uppv (n : Nat) : ([(.int (48 : Int32)), (.int (49 : Int32)), (.int (50 : Int32)), (.int (51 : Int32)), (.int (52 : Int32)), (.int (53 : Int32)), (.int (54 : Int32)), (.int (55 : Int32)), (.int (56 : Int32)), (.int (57 : Int32)), (.int (65 : Int32)), (.int (66 : Int32)), (.int (67 : Int32)), (.int (68 : Int32)), (.int (69 : Int32)), (.int (70 : Int32))] : List Value).getD n (.int (0 : Int32)) = .int (own_upp n) := by
  match n with
  | 0 => rfl
  | 1 => rfl
  | 2 => rfl
  | 3 => rfl
  | 4 => rfl
  | 5 => rfl
  | 6 => rfl
  | 7 => rfl
  | 8 => rfl
  | 9 => rfl
  | 10 => rfl
  | 11 => rfl
  | 12 => rfl
  | 13 => rfl
  | 14 => rfl
  | 15 => rfl
  | _ + 16 => rfl
theorem own_uppi (n : Nat) (h : n < 16) : (own_upp n).toInt = if n < 10 then 48 + (n : Int) else 55 + (n : Int) := by
  match n, h with
  | 0, _ => rfl
  | 1, _ => rfl
  | 2, _ => rfl
  | 3, _ => rfl
  | 4, _ => rfl
  | 5, _ => rfl
  | 6, _ => rfl
  | 7, _ => rfl
  | 8, _ => rfl
  | 9, _ => rfl
  | 10, _ => rfl
  | 11, _ => rfl
  | 12, _ => rfl
  | 13, _ => rfl
  | 14, _ => rfl
  | 15, _ => rfl
  | _ + 16, h => omega

theorem own_nc (v : Int32) (h : 0 ≤ v.toInt ∧ v.toInt ≤ 15) : v.toNatClampNeg < 16 ∧ (v.toNatClampNeg : Int) = v.toInt := by
  simp only [Int32.toNatClampNeg]; omega
theorem own_lowr (v : Int32) (h : 0 ≤ v.toInt ∧ v.toInt ≤ 15) : 0 ≤ (own_low v.toNatClampNeg).toInt ∧ (own_low v.toNatClampNeg).toInt < 128 := by
  have h1 := own_nc v h
  rw [own_lowi _ h1.1]; split <;> omega
theorem own_uppr (v : Int32) (h : 0 ≤ v.toInt ∧ v.toInt ≤ 15) : 0 ≤ (own_upp v.toNatClampNeg).toInt ∧ (own_upp v.toNatClampNeg).toInt < 128 := by
  have h1 := own_nc v h
  rw [own_uppi _ h1.1]; split <;> omega
theorem own_ix (v : Int32) (h : 0 ≤ v.toInt ∧ v.toInt ≤ 15) : ¬ v < 0 ∧ v < (16 : Int32) := by
  have e0 : (0 : Int32).toInt = 0 := rfl
  have e16 : (16 : Int32).toInt = 16 := rfl
  rw [Int32.lt_iff_toInt_lt, Int32.lt_iff_toInt_lt]; omega
theorem own_ch (x : Int32) (h : 0 ≤ x.toInt ∧ x.toInt < 128) : nar .char x = x := by
  have h1 := c_i2c x
  have h2 : nar .char x = x.toUInt32.toUInt16.toUInt32.toInt32 := rfl
  rw [h2]; apply Int32.toInt_inj.mp; omega
theorem own_ch2 (x : Int32) (h : 0 ≤ x.toInt ∧ x.toInt < 128) : nar .char ((x &&& (255 : Int32)).toUInt32.toUInt16.toUInt32.toInt32) = x := by
  have h1 := c_mask x (255 : Int32) 8 (by decide) (by decide)
  have h2 : x &&& (255 : Int32) = x := Int32.toInt_inj.mp (by rw [h1]; omega)
  rw [h2]
  have h3 : (x.toUInt32.toUInt16.toUInt32.toInt32) = x := own_ch x h
  rw [h3]; exact own_ch x h
def own_hex (c : Int32) : Int32 := if (¬ c < (48 : Int32) ∧ ¬ (57 : Int32) < c) then c - (48 : Int32) else if (¬ c < (65 : Int32) ∧ ¬ (70 : Int32) < c) then (c - (65 : Int32)) + (10 : Int32) else if (¬ c < (97 : Int32) ∧ ¬ (102 : Int32) < c) then (c - (97 : Int32)) + (10 : Int32) else (-1 : Int32)
theorem own_hexI (c : Int32) : (48 ≤ c.toInt ∧ c.toInt ≤ 57 ∧ (own_hex c).toInt = c.toInt - 48) ∨ (65 ≤ c.toInt ∧ c.toInt ≤ 70 ∧ (own_hex c).toInt = c.toInt - 55) ∨ (97 ≤ c.toInt ∧ c.toInt ≤ 102 ∧ (own_hex c).toInt = c.toInt - 87) ∨ own_hex c = (-1 : Int32) := by
  have e48 : (48 : Int32).toInt = 48 := rfl
  have e57 : (57 : Int32).toInt = 57 := rfl
  have e65 : (65 : Int32).toInt = 65 := rfl
  have e70 : (70 : Int32).toInt = 70 := rfl
  have e97 : (97 : Int32).toInt = 97 := rfl
  have e102 : (102 : Int32).toInt = 102 := rfl
  have e10 : (10 : Int32).toInt = 10 := rfl
  rw [own_hex]
  by_cases h1 : (¬ c < (48 : Int32) ∧ ¬ (57 : Int32) < c)
  · rw [if_pos h1]
    rw [Int32.lt_iff_toInt_lt, Int32.lt_iff_toInt_lt] at h1
    have a1 := c_isub c (48 : Int32)
    have a2 := rng32 (c - (48 : Int32))
    omega
  · rw [if_neg h1]
    by_cases h2 : (¬ c < (65 : Int32) ∧ ¬ (70 : Int32) < c)
    · rw [if_pos h2]
      rw [Int32.lt_iff_toInt_lt, Int32.lt_iff_toInt_lt] at h2
      have a1 := c_isub c (65 : Int32)
      have a2 := rng32 (c - (65 : Int32))
      have a3 := c_iadd (c - (65 : Int32)) (10 : Int32)
      have a4 := rng32 ((c - (65 : Int32)) + (10 : Int32))
      omega
    · rw [if_neg h2]
      by_cases h3 : (¬ c < (97 : Int32) ∧ ¬ (102 : Int32) < c)
      · rw [if_pos h3]
        rw [Int32.lt_iff_toInt_lt, Int32.lt_iff_toInt_lt] at h3
        have a1 := c_isub c (97 : Int32)
        have a2 := rng32 (c - (97 : Int32))
        have a3 := c_iadd (c - (97 : Int32)) (10 : Int32)
        have a4 := rng32 ((c - (97 : Int32)) + (10 : Int32))
        omega
      · rw [if_neg h3]; exact Or.inr (Or.inr (Or.inr rfl))
theorem own_hexlow (v : Int32) (h : 0 ≤ v.toInt ∧ v.toInt ≤ 15) : own_hex (own_low v.toNatClampNeg) = v := by
  have h1 := own_nc v h
  have h2 := own_lowi _ h1.1
  have h3 : own_hex (own_low v.toNatClampNeg) = (-1 : Int32) → False := fun q => by
    have g : ∀ n : Fin 16, ¬ own_hex (own_low n.val) = (-1 : Int32) := by decide +kernel
    exact g ⟨_, h1.1⟩ q
  apply Int32.toInt_inj.mp
  rcases own_hexI (own_low v.toNatClampNeg) with ⟨a, b, c⟩ | ⟨a, b, c⟩ | ⟨a, b, c⟩ | c
  · rw [c]; split at h2 <;> omega
  · rw [c]; split at h2 <;> omega
  · rw [c]; split at h2 <;> omega
  · exact (h3 c).elim
theorem own_hexupp (v : Int32) (h : 0 ≤ v.toInt ∧ v.toInt ≤ 15) : own_hex (own_upp v.toNatClampNeg) = v := by
  have h1 := own_nc v h
  have h2 := own_uppi _ h1.1
  have h3 : own_hex (own_upp v.toNatClampNeg) = (-1 : Int32) → False := fun q => by
    have g : ∀ n : Fin 16, ¬ own_hex (own_upp n.val) = (-1 : Int32) := by decide +kernel
    exact g ⟨_, h1.1⟩ q
  apply Int32.toInt_inj.mp
  rcases own_hexI (own_upp v.toNatClampNeg) with ⟨a, b, c⟩ | ⟨a, b, c⟩ | ⟨a, b, c⟩ | c
  · rw [c]; split at h2 <;> omega
  · rw [c]; split at h2 <;> omega
  · rw [c]; split at h2 <;> omega
  · exact (h3 c).elim
theorem own_rr (c : Int32) (h : ¬ own_hex c = (-1 : Int32)) : 0 ≤ (own_hex c).toInt ∧ (own_hex c).toInt ≤ 15 := by
  rcases own_hexI c with ⟨a, b, q⟩ | ⟨a, b, q⟩ | ⟨a, b, q⟩ | q
  · omega
  · omega
  · omega
  · exact absurd q h
theorem own_r0 (c : Int32) (h : ¬ own_hex c = (-1 : Int32)) : ¬ own_hex c < (0 : Int32) := by
  have := own_rr c h
  have e0 : (0 : Int32).toInt = 0 := rfl
  rw [Int32.lt_iff_toInt_lt]; omega
theorem own_r15 (c : Int32) (h : ¬ own_hex c = (-1 : Int32)) : ¬ (15 : Int32) < own_hex c := by
  have := own_rr c h
  have e0 : (15 : Int32).toInt = 15 := rfl
  rw [Int32.lt_iff_toInt_lt]; omega
theorem own_lu (c : Int32) (h : ¬ own_hex c = (-1 : Int32)) : c = own_low (own_hex c).toNatClampNeg ∨ c = own_upp (own_hex c).toNatClampNeg := by
  have h1 := own_rr c h
  have h2 := own_nc _ h1
  have l := own_lowi _ h2.1
  have u := own_uppi _ h2.1
  rcases own_hexI c with ⟨a, b, q⟩ | ⟨a, b, q⟩ | ⟨a, b, q⟩ | q
  · left; apply Int32.toInt_inj.mp; rw [l, if_pos (by omega)]; omega
  · right; apply Int32.toInt_inj.mp; rw [u, if_neg (by omega)]; omega
  · left; apply Int32.toInt_inj.mp; rw [l, if_neg (by omega)]; omega
  · exact absurd q h
theorem own_m15 (x : Int32) : 0 ≤ (x &&& (15 : Int32)).toInt ∧ (x &&& (15 : Int32)).toInt ≤ 15 := by
  have h := c_mask x (15 : Int32) 4 (by decide) (by decide)
  omega
theorem d_jdk_41_method_11_code_0 : decode jdk_41_method_11_code 0 = .ok (.iload_n 0, 1) := by decide +kernel
theorem d_jdk_41_method_11_code_1 : decode jdk_41_method_11_code 1 = .ok (.ifCond .lt 8, 3) := by decide +kernel
theorem d_jdk_41_method_11_code_4 : decode jdk_41_method_11_code 4 = .ok (.iload_n 0, 1) := by decide +kernel
theorem d_jdk_41_method_11_code_5 : decode jdk_41_method_11_code 5 = .ok (.iload_n 1, 1) := by decide +kernel
theorem d_jdk_41_method_11_code_6 : decode jdk_41_method_11_code 6 = .ok (.if_icmp .lt 10, 3) := by decide +kernel
theorem d_jdk_41_method_11_code_16 : decode jdk_41_method_11_code 16 = .ok (.iload_n 0, 1) := by decide +kernel
theorem d_jdk_41_method_11_code_17 : decode jdk_41_method_11_code 17 = .ok (.ireturn, 1) := by decide +kernel
def Qrm_chk (Z : State) (i : Int32) (n : Int32) (fv : Value) (h0 : Heap) (n0 : Nat) (v_ : Option Value) (h_ : Heap) (L_ : List Loc) : Prop := v_ = some (.int i) ∧ Fr n0 L_ ∧ h_ = h0
theorem ef_rm_chk (m : MethodId) (x0 x1 : Int32) (x2 : Value) (h : x2.isRef = true) : entryFrame m #[(.int x0), (.int x1), x2] 3 = mkF m 0 #[.val (.int x0), .val (.int x1), .val x2] [] := by
  rcases ref_cases h with rfl | ⟨a, rfl⟩ <;> first | (simp [entryFrame, mkF, argsToLocals, Value.category]; done) | rfl
theorem pn_jdk_internal_util_Preconditions : plainName "jdk/internal/util/Preconditions" = true := by first | (simp [plainName, overriddenIn]; done) | decide +kernel
set_option maxRecDepth 65536 in
set_option maxHeartbeats 40000000 in
theorem rm_chk (l : Launch) (Z : State) (aZ : Array Value) (hw : ∀ d ∈ tables_1, d.before aZ Z = true) (ws : List Jvm.Cond) (i : Int32) (n : Int32) (fv : Value) (h0 : Heap) (n0 : Nat) (Z0 : n0 ≤ h0.size) (hfv : fv.isRef = true) (hi : ¬ i < 0 ∧ i < n) :
    MetFree l (⟨"jdk/internal/util/Preconditions", "checkIndex", "(IILjava/util/function/BiFunction;)I"⟩ : MethodName) (head1 (Jvm.Cond.code (⟨"jdk/internal/util/Preconditions", "checkIndex", "(IILjava/util/function/BiFunction;)I"⟩ : MethodName) jdk_41_method_11_code 3 (some .int) :: ws) ({ frames := 0, cells := 0, slots := 0, locals := 0 } : Room)) (fun a_ U_ => a_ = #[(.int i), (.int n), fv] ∧ Z.Warmed39 U_.vm ∧ U_.heap = h0) (fun _ _ _ _ _ => True) (fun _ U_ o_ U2_ => ∃ v_ L_, o_ = .returned v_ ∧ Qrm_chk Z i n fv h0 n0 v_ U2_.heap L_ ∧ FrameEnd U_ o_ U2_ L_ ({ frames := 0, cells := 0, slots := 0, locals := 0 } : Room).cells ({ frames := 0, cells := 0, slots := 0, locals := 0 } : Room).slots) := by
  refine MetFree.of_bodySF (plainFor_of_name pn_jdk_internal_util_Preconditions) hisR ?_
  intro p e s m args below meth cO s₁ Bd hml0 hP hK
  obtain ⟨rfl, hZW, hh⟩ := hP
  have hEX := Bd.exec
  have hBY := Bd.bytes
  have hMX : cO.maxLocals = 3 := hml0
  have hOW : s.vm.findClass "jdk/internal/util/Preconditions" = some m.cls := findClass_of_methodNamed Bd.named
  have hNM := (name_of_methodNamed Bd.named Bd.method).1
  have hLK := Bd.notSynchronized
  have hRT := Bd.returns
  have X0 : Stand p l e ({ frames := 0, cells := 0, slots := 0, locals := 0 } : Room) s m #[(.int i), (.int n), fv] below meth cO s₁ [] 0 0 := Stand.of_body Bd
  have e0 : s₁.heap = h0 := by rw [← hh, Bd.state]; rfl
  have N0 := Fr.nil n0
  have K0 : Keep h0 h0 [] := Keep.refl _ _
  show Done p e below s (Qrm_chk Z i n fv h0 n0) ({ frames := 0, cells := 0, slots := 0, locals := 0 } : Room).cells ({ frames := 0, cells := 0, slots := 0, locals := 0 } : Room).slots (s₁.setTop (entryFrame m #[(.int i), (.int n), fv] 3))
  refine Done.pre (fun t_ k_ => castTop (ef_rm_chk m i n fv hfv) k_) ?_
  show Done _ _ _ _ _ _ _ (s₁.setTop (mkF m 0 #[Iv i, Iv n, .val fv] []))
  have sg_1 : ∀ tt_, Steps p.tables e below (s₁.setTop (mkF m 17 #[Iv i, Iv n, .val fv] [(.int i)])) tt_ → Steps p.tables e below (s₁.setTop (mkF m 0 #[Iv i, Iv n, .val fv] [])) tt_ := by
    intro tt_ kt_
    refine XS.iloadN X0.here hEX rfl (hb hBY d_jdk_41_method_11_code_0) rfl ?_
    show Steps p.tables e below (s₁.setTop (mkF m 1 #[Iv i, Iv n, .val fv] [(.int i)])) tt_
    refine XS.ifNo X0.here hEX rfl (hb hBY d_jdk_41_method_11_code_1) rfl ((if0 _ _).trans (flt (hi.1 : ¬ (i < (0 : Int32)))).1) ?_
    show Steps p.tables e below (s₁.setTop (mkF m 4 #[Iv i, Iv n, .val fv] [])) tt_
    refine XS.iloadN X0.here hEX rfl (hb hBY d_jdk_41_method_11_code_4) rfl ?_
    show Steps p.tables e below (s₁.setTop (mkF m 5 #[Iv i, Iv n, .val fv] [(.int i)])) tt_
    refine XS.iloadN X0.here hEX rfl (hb hBY d_jdk_41_method_11_code_5) rfl ?_
    show Steps p.tables e below (s₁.setTop (mkF m 6 #[Iv i, Iv n, .val fv] [(.int n), (.int i)])) tt_
    refine XS.icmpYes X0.here hEX rfl (pc0 := 6) (pc' := 16) rfl (hb hBY d_jdk_41_method_11_code_6) rfl (tlt (hi.2 : i < n)).1 (by decide) (by decide) ?_
    show Steps p.tables e below (s₁.setTop (mkF m 16 #[Iv i, Iv n, .val fv] [])) tt_
    refine XS.iloadN X0.here hEX rfl (hb hBY d_jdk_41_method_11_code_16) rfl ?_
    exact kt_
  refine Done.pre sg_1 ?_
  exact Done.retI X0 hEX hLK hRT (hb hBY d_jdk_41_method_11_code_17) (by rw [e0]; exact ⟨rfl, N0, rfl⟩) (by decide) (by decide)
theorem d_jdk_42_method_155_code_0 : decode jdk_42_method_155_code 0 = .ok (.iload_n 0, 1) := by decide +kernel
theorem d_jdk_42_method_155_code_1 : decode jdk_42_method_155_code 1 = .ok (.iload_n 1, 1) := by decide +kernel
theorem d_jdk_42_method_155_code_2 : decode jdk_42_method_155_code 2 = .ok (.getstatic 1053, 3) := by decide +kernel
theorem d_jdk_42_method_155_code_5 : decode jdk_42_method_155_code 5 = .ok (.invokestatic 1059, 3) := by decide +kernel
theorem pd__IILjava_util_function_BiFunction__I_4 : parseMethodDescriptor "(IILjava/util/function/BiFunction;)I" = some ⟨[.int, .int, (.object "java/util/function/BiFunction")], some .int⟩ := by decide +kernel
theorem d_jdk_42_method_155_code_8 : decode jdk_42_method_155_code 8 = .ok (.pop, 1) := by decide +kernel
theorem d_jdk_42_method_155_code_9 : decode jdk_42_method_155_code 9 = .ok (.return_, 1) := by decide +kernel
def Qrm_sci (Z : State) (i : Int32) (n : Int32) (fv : Value) (h0 : Heap) (n0 : Nat) (v_ : Option Value) (h_ : Heap) (L_ : List Loc) : Prop := v_ = none ∧ Fr n0 L_ ∧ h_ = h0
theorem ef_rm_sci (m : MethodId) (x0 : Int32) (x1 : Int32) : entryFrame m #[(.int x0), (.int x1)] 2 = mkF m 0 #[.val (.int x0), .val (.int x1)] [] := by first | (simp [entryFrame, mkF, argsToLocals, Value.category]; done) | rfl
theorem pn_java_lang_String : plainName "java/lang/String" = true := by first | (simp [plainName, overriddenIn]; done) | decide +kernel
set_option maxRecDepth 65536 in
set_option maxHeartbeats 40000000 in
theorem rm_sci (l : Launch) (Z : State) (aZ : Array Value) (hw : ∀ d ∈ tables_1, d.before aZ Z = true) (ws : List Jvm.Cond) (i : Int32) (n : Int32) (fv : Value) (h0 : Heap) (n0 : Nat) (Z0 : n0 ≤ h0.size) (S2 : Sta Z h0 "jdk/internal/util/Preconditions" "SIOOBE_FORMATTER" "Ljava/util/function/BiFunction;" fv) (hfv : fv.isRef = true) (hi : ¬ i < 0 ∧ i < n) :
    MetFree l (⟨"java/lang/String", "checkIndex", "(II)V"⟩ : MethodName) (head1 (Jvm.Cond.code (⟨"java/lang/String", "checkIndex", "(II)V"⟩ : MethodName) jdk_42_method_155_code 2 none :: ws) ({ frames := 1, cells := 0, slots := 0, locals := 14 } : Room)) (fun a_ U_ => a_ = #[(.int i), (.int n)] ∧ Z.Warmed39 U_.vm ∧ U_.heap = h0) (fun _ _ _ _ _ => True) (fun _ U_ o_ U2_ => ∃ v_ L_, o_ = .returned v_ ∧ Qrm_sci Z i n fv h0 n0 v_ U2_.heap L_ ∧ FrameEnd U_ o_ U2_ L_ ({ frames := 1, cells := 0, slots := 0, locals := 14 } : Room).cells ({ frames := 1, cells := 0, slots := 0, locals := 14 } : Room).slots) := by
  refine MetFree.of_bodySF (plainFor_of_name pn_java_lang_String) hisR ?_
  intro p e s m args below meth cO s₁ Bd hml0 hP hK
  obtain ⟨rfl, hZW, hh⟩ := hP
  have hEX := Bd.exec
  have hBY := Bd.bytes
  have hMX : cO.maxLocals = 2 := hml0
  have hOW : s.vm.findClass "java/lang/String" = some m.cls := findClass_of_methodNamed Bd.named
  have hNM := (name_of_methodNamed Bd.named Bd.method).1
  have hLK := Bd.notSynchronized
  have hRT := Bd.returns
  have X0 : Stand p l e ({ frames := 1, cells := 0, slots := 0, locals := 14 } : Room) s m #[(.int i), (.int n)] below meth cO s₁ [] 0 0 := Stand.of_body Bd
  have e0 : s₁.heap = h0 := by rw [← hh, Bd.state]; rfl
  have N0 := Fr.nil n0
  have K0 : Keep h0 h0 [] := Keep.refl _ _
  show Done p e below s (Qrm_sci Z i n fv h0 n0) ({ frames := 1, cells := 0, slots := 0, locals := 14 } : Room).cells ({ frames := 1, cells := 0, slots := 0, locals := 14 } : Room).slots (s₁.setTop (entryFrame m #[(.int i), (.int n)] 2))
  refine Done.pre (fun t_ k_ => castTop (ef_rm_sci m i n) k_) ?_
  show Done _ _ _ _ _ _ _ (s₁.setTop (mkF m 0 #[Iv i, Iv n] []))
  have sg_1 : ∀ tt_, Steps p.tables e below (s₁.setTop (mkF m 2 #[Iv i, Iv n] [(.int n), (.int i)])) tt_ → Steps p.tables e below (s₁.setTop (mkF m 0 #[Iv i, Iv n] [])) tt_ := by
    intro tt_ kt_
    refine XS.iloadN X0.here hEX rfl (hb hBY d_jdk_42_method_155_code_0) rfl ?_
    show Steps p.tables e below (s₁.setTop (mkF m 1 #[Iv i, Iv n] [(.int i)])) tt_
    refine XS.iloadN X0.here hEX rfl (hb hBY d_jdk_42_method_155_code_1) rfl ?_
    exact kt_
  refine Done.pre sg_1 ?_
  obtain ⟨T_2, X_2, e_2, st_2⟩ := getS2 X0 hEX hZW hOW (host := "") (Or.inl (hw _ (List.mem_of_getElem? (i := 33) rfl))) Via.refl e0 S2 (g := (mkF m 2 #[Iv i, Iv n] [(.int n), (.int i)])) rfl (hb hBY d_jdk_42_method_155_code_2)
  refine Done.pre st_2 ?_
  show Done _ _ _ _ _ _ _ (T_2.setTop (mkF m 5 #[Iv i, Iv n] [fv, (.int n), (.int i)]))
  obtain ⟨_, _, ⟨T_3, L_3, k_3, n_3⟩, -, X_3, ⟨Lc_3, hQ_3, l_3, y_3, z_3⟩, st_3⟩ := Jvm.LawKit.callS X_2 hEX (y := (⟨"jdk/internal/util/Preconditions", "checkIndex", "(IILjava/util/function/BiFunction;)I"⟩ : MethodName)) hOW (mvT hZW (hw _ (List.mem_of_getElem? (i := 35) rfl))) (mvT hZW (hw _ (List.mem_of_getElem? (i := 36) rfl))) (mvT hZW (hw _ (List.mem_of_getElem? (i := 34) rfl))) (mvT hZW (hw _ (List.mem_of_getElem? (i := 37) rfl))) (by decide) (backOf (W := 0) (rm_chk l Z aZ hw [] i n fv h0 n0 (Nat.le_trans Z0 K0.1) hfv hi) hZW (hw _ (List.mem_of_getElem? (i := 37) rfl)) (hw _ (List.mem_of_getElem? (i := 34) rfl)) (by decide) (by decide)) (g := (mkF m 5 #[Iv i, Iv n] [fv, (.int n), (.int i)])) rfl (by rw [hMX]; rfl) (argsL := [(.int i), (.int n), fv]) (rest := []) (lenOf pd__IILjava_util_function_BiFunction__I_4 rfl) rfl (by show 2 * 0 + _ ≤ _; exact Nat.le_of_eq rfl) (hb hBY d_jdk_42_method_155_code_5) (fun _ _ => ⟨rfl, e_2, (by decide : 0 + 0 ≤ _), (by decide : 0 + 0 ≤ _)⟩)
  dsimp only [Pt.U, Pt.locs, Pt.cells, Pt.slots] at X_3 l_3 y_3 z_3 st_3 hQ_3
  subst l_3 y_3 z_3
  obtain ⟨rfl, N_3q, e_3⟩ := hQ_3
  have N_3 := Fr.app N0 N_3q
  refine Done.pre (fun _ k_ => st_3 _ k_) ?_
  show Done _ _ _ _ _ _ _ (T_3.setTop (mkF m 8 #[Iv i, Iv n] [(.int i)]))
  have sg_4 : ∀ tt_, Steps p.tables e below (T_3.setTop (mkF m 9 #[Iv i, Iv n] [])) tt_ → Steps p.tables e below (T_3.setTop (mkF m 8 #[Iv i, Iv n] [(.int i)])) tt_ := by
    intro tt_ kt_
    refine XS.pop X_3.here hEX rfl (hb hBY d_jdk_42_method_155_code_8) rfl rfl ?_
    exact kt_
  refine Done.pre sg_4 ?_
  exact Done.retV X_3 hEX hLK hRT (hb hBY d_jdk_42_method_155_code_9) (by rw [e_3]; exact ⟨rfl, N_3, rfl⟩) (by decide) (by decide)
theorem d_jdk_43_method_2_code_0 : decode jdk_43_method_2_code 0 = .ok (.iload_n 1, 1) := by decide +kernel
theorem d_jdk_43_method_2_code_1 : decode jdk_43_method_2_code 1 = .ok (.aload_n 0, 1) := by decide +kernel
theorem d_jdk_43_method_2_code_2 : decode jdk_43_method_2_code 2 = .ok (.arraylength, 1) := by decide +kernel
theorem d_jdk_43_method_2_code_3 : decode jdk_43_method_2_code 3 = .ok (.invokestatic 9, 3) := by decide +kernel
theorem pd__II_V_3 : parseMethodDescriptor "(II)V" = some ⟨[.int, .int], none⟩ := by decide +kernel
theorem d_jdk_43_method_2_code_6 : decode jdk_43_method_2_code 6 = .ok (.aload_n 0, 1) := by decide +kernel
theorem d_jdk_43_method_2_code_7 : decode jdk_43_method_2_code 7 = .ok (.iload_n 1, 1) := by decide +kernel
theorem d_jdk_43_method_2_code_8 : decode jdk_43_method_2_code 8 = .ok (.baload, 1) := by decide +kernel
theorem d_jdk_43_method_2_code_9 : decode jdk_43_method_2_code 9 = .ok (.sipush 255, 3) := by decide +kernel
theorem d_jdk_43_method_2_code_12 : decode jdk_43_method_2_code 12 = .ok (.iand, 1) := by decide +kernel
theorem d_jdk_43_method_2_code_13 : decode jdk_43_method_2_code 13 = .ok (.i2c, 1) := by decide +kernel
theorem d_jdk_43_method_2_code_14 : decode jdk_43_method_2_code 14 = .ok (.ireturn, 1) := by decide +kernel
def Qrm_lat (Z : State) (b : Addr) (i : Int32) (fv : Value) (k : ClassId) (n : Int32) (vs : List Value) (c8 : Int32) (h0 : Heap) (n0 : Nat) (v_ : Option Value) (h_ : Heap) (L_ : List Loc) : Prop := v_ = some (.int c8) ∧ Fr n0 L_ ∧ h_ = h0
theorem ef_rm_lat (m : MethodId) (x0 : Addr) (x1 : Int32) : entryFrame m #[(.ref x0), (.int x1)] 2 = mkF m 0 #[.val (.ref x0), .val (.int x1)] [] := by first | (simp [entryFrame, mkF, argsToLocals, Value.category]; done) | rfl
theorem pn_java_lang_StringLatin1 : plainName "java/lang/StringLatin1" = true := by first | (simp [plainName, overriddenIn]; done) | decide +kernel
set_option maxRecDepth 65536 in
set_option maxHeartbeats 40000000 in
theorem rm_lat (l : Launch) (Z : State) (aZ : Array Value) (hw : ∀ d ∈ tables_1, d.before aZ Z = true) (ws : List Jvm.Cond) (b : Addr) (i : Int32) (fv : Value) (k : ClassId) (n : Int32) (vs : List Value) (c8 : Int32) (h0 : Heap) (n0 : Nat) (Z0 : n0 ≤ h0.size) (S2 : Sta Z h0 "jdk/internal/util/Preconditions" "SIOOBE_FORMATTER" "Ljava/util/function/BiFunction;" fv) (hfv : fv.isRef = true) (Av : Arv Z h0 b k .byte n vs (.int (0 : Int32))) (hi : ¬ i < 0 ∧ i < n) (hv : vs.getD (i).toNatClampNeg (.int (0 : Int32)) = .int c8) (h8 : 0 ≤ c8.toInt ∧ c8.toInt < 128) :
    MetFree l (⟨"java/lang/StringLatin1", "charAt", "([BI)C"⟩ : MethodName) (head1 (Jvm.Cond.code (⟨"java/lang/StringLatin1", "charAt", "([BI)C"⟩ : MethodName) jdk_43_method_2_code 2 (some .char) :: ws) ({ frames := 2, cells := 0, slots := 0, locals := 27 } : Room)) (fun a_ U_ => a_ = #[(.ref b), (.int i)] ∧ Z.Warmed39 U_.vm ∧ U_.heap = h0) (fun _ _ _ _ _ => True) (fun _ U_ o_ U2_ => ∃ v_ L_, o_ = .returned v_ ∧ Qrm_lat Z b i fv k n vs c8 h0 n0 v_ U2_.heap L_ ∧ FrameEnd U_ o_ U2_ L_ ({ frames := 2, cells := 0, slots := 0, locals := 27 } : Room).cells ({ frames := 2, cells := 0, slots := 0, locals := 27 } : Room).slots) := by
  refine MetFree.of_bodySF (plainFor_of_name pn_java_lang_StringLatin1) hisR ?_
  intro p e s m args below meth cO s₁ Bd hml0 hP hK
  obtain ⟨rfl, hZW, hh⟩ := hP
  have hEX := Bd.exec
  have hBY := Bd.bytes
  have hMX : cO.maxLocals = 2 := hml0
  have hOW : s.vm.findClass "java/lang/StringLatin1" = some m.cls := findClass_of_methodNamed Bd.named
  have hNM := (name_of_methodNamed Bd.named Bd.method).1
  have hLK := Bd.notSynchronized
  have hRT := Bd.returns
  have X0 : Stand p l e ({ frames := 2, cells := 0, slots := 0, locals := 27 } : Room) s m #[(.ref b), (.int i)] below meth cO s₁ [] 0 0 := Stand.of_body Bd
  have e0 : s₁.heap = h0 := by rw [← hh, Bd.state]; rfl
  have N0 := Fr.nil n0
  have K0 : Keep h0 h0 [] := Keep.refl _ _
  show Done p e below s (Qrm_lat Z b i fv k n vs c8 h0 n0) ({ frames := 2, cells := 0, slots := 0, locals := 27 } : Room).cells ({ frames := 2, cells := 0, slots := 0, locals := 27 } : Room).slots (s₁.setTop (entryFrame m #[(.ref b), (.int i)] 2))
  refine Done.pre (fun t_ k_ => castTop (ef_rm_lat m b i) k_) ?_
  show Done _ _ _ _ _ _ _ (s₁.setTop (mkF m 0 #[Rv b, Iv i] []))
  obtain ⟨cl_1, Ar_1, -, S_1, N__1, -, -⟩ := id Av
  have sg_2 : ∀ tt_, Steps p.tables e below (s₁.setTop (mkF m 3 #[Rv b, Iv i] [(.int n), (.int i)])) tt_ → Steps p.tables e below (s₁.setTop (mkF m 0 #[Rv b, Iv i] [])) tt_ := by
    intro tt_ kt_
    refine XS.iloadN X0.here hEX rfl (hb hBY d_jdk_43_method_2_code_0) rfl ?_
    show Steps p.tables e below (s₁.setTop (mkF m 1 #[Rv b, Iv i] [(.int i)])) tt_
    refine XS.aloadN X0.here hEX rfl (hb hBY d_jdk_43_method_2_code_1) rfl rfl ?_
    show Steps p.tables e below (s₁.setTop (mkF m 2 #[Rv b, Iv i] [(.ref b), (.int i)])) tt_
    refine X0.arraylength hEX (by rw [e0]; exact Ar_1.1) (State.isArrayOf_alike hZW.alike Ar_1.2.1) (g := (mkF m 2 #[Rv b, Iv i] [(.ref b), (.int i)])) rfl rfl (hb hBY d_jdk_43_method_2_code_2) _ ?_
    rw [len_of S_1 N__1]
    exact kt_
  refine Done.pre sg_2 ?_
  obtain ⟨_, _, ⟨T_3, L_3, k_3, n_3⟩, -, X_3, ⟨Lc_3, hQ_3, l_3, y_3, z_3⟩, st_3⟩ := Jvm.LawKit.callS X0 hEX (y := (⟨"java/lang/String", "checkIndex", "(II)V"⟩ : MethodName)) hOW (mvT hZW (hw _ (List.mem_of_getElem? (i := 30) rfl))) (mvT hZW (hw _ (List.mem_of_getElem? (i := 31) rfl))) (mvT hZW (hw _ (List.mem_of_getElem? (i := 1) rfl))) (mvT hZW (hw _ (List.mem_of_getElem? (i := 32) rfl))) (by decide) (backOf (W := 0) (rm_sci l Z aZ hw [] i n fv h0 n0 (Nat.le_trans Z0 K0.1) S2 hfv hi) hZW (hw _ (List.mem_of_getElem? (i := 32) rfl)) (hw _ (List.mem_of_getElem? (i := 1) rfl)) (by decide) (by decide)) (g := (mkF m 3 #[Rv b, Iv i] [(.int n), (.int i)])) rfl (by rw [hMX]; rfl) (argsL := [(.int i), (.int n)]) (rest := []) (lenOf pd__II_V_3 rfl) rfl (by show 2 * 0 + _ ≤ _; exact Nat.le_of_eq rfl) (hb hBY d_jdk_43_method_2_code_3) (fun _ _ => ⟨rfl, e0, (by decide : 0 + 0 ≤ _), (by decide : 0 + 0 ≤ _)⟩)
  dsimp only [Pt.U, Pt.locs, Pt.cells, Pt.slots] at X_3 l_3 y_3 z_3 st_3 hQ_3
  subst l_3 y_3 z_3
  obtain ⟨rfl, N_3q, e_3⟩ := hQ_3
  have N_3 := Fr.app N0 N_3q
  refine Done.pre (fun _ k_ => st_3 _ k_) ?_
  show Done _ _ _ _ _ _ _ (T_3.setTop (mkF m 6 #[Rv b, Iv i] []))
  obtain ⟨cl_4, Ar_4, q_4, S_4, N__4, H_4, G_4⟩ := id Av
  have hin_4 : ¬ (i < 0 ∨ cl_4.slots.size ≤ (i).toNatClampNeg) := inb_of S_4 hi
  have hat_4 : cl_4.slots[(i).toNatClampNeg]? = some (.int c8) := H_4.at hin_4 hv
  have sg_5 : ∀ tt_, Steps p.tables e below (T_3.setTop (mkF m 14 #[Rv b, Iv i] [(.int ((c8 &&& (255 : Int32)).toUInt32.toUInt16.toUInt32.toInt32))])) tt_ → Steps p.tables e below (T_3.setTop (mkF m 6 #[Rv b, Iv i] [])) tt_ := by
    intro tt_ kt_
    refine XS.aloadN X_3.here hEX rfl (hb hBY d_jdk_43_method_2_code_6) rfl rfl ?_
    show Steps p.tables e below (T_3.setTop (mkF m 7 #[Rv b, Iv i] [(.ref b)])) tt_
    refine XS.iloadN X_3.here hEX rfl (hb hBY d_jdk_43_method_2_code_7) rfl ?_
    show Steps p.tables e below (T_3.setTop (mkF m 8 #[Rv b, Iv i] [(.int i), (.ref b)])) tt_
    refine X_3.baloadBytes hEX (j := i) (v := (.int c8)) (by rw [e_3]; exact Ar_4.1) (State.isArrayOf_alike hZW.alike Ar_4.2.1) Ar_4.2.2 hin_4 hat_4 (g := (mkF m 8 #[Rv b, Iv i] [(.int i), (.ref b)])) rfl rfl (hb hBY d_jdk_43_method_2_code_8) _ ?_
    show Steps p.tables e below (T_3.setTop (mkF m 9 #[Rv b, Iv i] [(.int c8)])) tt_
    refine XS.sipush X_3.here hEX rfl (hb hBY d_jdk_43_method_2_code_9) ?_
    show Steps p.tables e below (T_3.setTop (mkF m 12 #[Rv b, Iv i] [(.int (255 : Int32)), (.int c8)])) tt_
    refine XS.iand X_3.here hEX rfl (hb hBY d_jdk_43_method_2_code_12) rfl ?_
    show Steps p.tables e below (T_3.setTop (mkF m 13 #[Rv b, Iv i] [(.int (c8 &&& (255 : Int32)))])) tt_
    refine XS.i2c X_3.here hEX rfl (hb hBY d_jdk_43_method_2_code_13) rfl ?_
    exact kt_
  refine Done.pre sg_5 ?_
  exact Done.retN X_3 hEX hLK (t := .char) hRT (by simp) (hb hBY d_jdk_43_method_2_code_14) (by rw [e_3]; exact ⟨(by rw [own_ch2 c8 h8]), N_3, rfl⟩) (by decide) (by decide)
theorem d_jdk_42_method_154_code_0 : decode jdk_42_method_154_code 0 = .ok (.getstatic 38, 3) := by decide +kernel
theorem d_jdk_42_method_154_code_3 : decode jdk_42_method_154_code 3 = .ok (.ifCond .eq 14, 3) := by decide +kernel
theorem d_jdk_42_method_154_code_6 : decode jdk_42_method_154_code 6 = .ok (.aload_n 0, 1) := by decide +kernel
theorem d_jdk_42_method_154_code_7 : decode jdk_42_method_154_code 7 = .ok (.getfield 15, 3) := by decide +kernel
theorem d_jdk_42_method_154_code_10 : decode jdk_42_method_154_code 10 = .ok (.ifCond .ne 7, 3) := by decide +kernel
theorem d_jdk_42_method_154_code_13 : decode jdk_42_method_154_code 13 = .ok (.iconst 1, 1) := by decide +kernel
theorem d_jdk_42_method_154_code_14 : decode jdk_42_method_154_code 14 = .ok (.goto 4, 3) := by decide +kernel
theorem d_jdk_42_method_154_code_18 : decode jdk_42_method_154_code 18 = .ok (.ireturn, 1) := by decide +kernel
def Qrm_isl (Z : State) (a : Addr) (cz : Int32) (h0 : Heap) (n0 : Nat) (v_ : Option Value) (h_ : Heap) (L_ : List Loc) : Prop := v_ = some (.int (1 : Int32)) ∧ Fr n0 L_ ∧ h_ = h0
theorem ef_rm_isl (m : MethodId) (x0 : Addr) : entryFrame m #[(.ref x0)] 1 = mkF m 0 #[.val (.ref x0)] [] := by first | (simp [entryFrame, mkF, argsToLocals, Value.category]; done) | rfl
set_option maxRecDepth 65536 in
set_option maxHeartbeats 40000000 in
theorem rm_isl (l : Launch) (Z : State) (aZ : Array Value) (hw : ∀ d ∈ tables_1, d.before aZ Z = true) (ws : List Jvm.Cond) (a : Addr) (cz : Int32) (h0 : Heap) (n0 : Nat) (Z0 : n0 ≤ h0.size) (S1 : Sta Z h0 "java/lang/String" "COMPACT_STRINGS" "Z" (.int cz)) (hcz : ¬ cz = (0 : Int32)) (Fc : Fld Z h0 a "java/lang/String" "coder" "B" (.int (0 : Int32))) :
    MetFree l (⟨"java/lang/String", "isLatin1", "()Z"⟩ : MethodName) (head1 (Jvm.Cond.code (⟨"java/lang/String", "isLatin1", "()Z"⟩ : MethodName) jdk_42_method_154_code 1 (some .boolean) :: ws) ({ frames := 0, cells := 0, slots := 0, locals := 0 } : Room)) (fun a_ U_ => a_ = #[(.ref a)] ∧ Z.Warmed39 U_.vm ∧ U_.heap = h0) (fun _ _ _ _ _ => True) (fun _ U_ o_ U2_ => ∃ v_ L_, o_ = .returned v_ ∧ Qrm_isl Z a cz h0 n0 v_ U2_.heap L_ ∧ FrameEnd U_ o_ U2_ L_ ({ frames := 0, cells := 0, slots := 0, locals := 0 } : Room).cells ({ frames := 0, cells := 0, slots := 0, locals := 0 } : Room).slots) := by
  refine MetFree.of_bodySF (plainFor_of_name pn_java_lang_String) hisR ?_
  intro p e s m args below meth cO s₁ Bd hml0 hP hK
  obtain ⟨rfl, hZW, hh⟩ := hP
  have hEX := Bd.exec
  have hBY := Bd.bytes
  have hMX : cO.maxLocals = 1 := hml0
  have hOW : s.vm.findClass "java/lang/String" = some m.cls := findClass_of_methodNamed Bd.named
  have hNM := (name_of_methodNamed Bd.named Bd.method).1
  have hLK := Bd.notSynchronized
  have hRT := Bd.returns
  have X0 : Stand p l e ({ frames := 0, cells := 0, slots := 0, locals := 0 } : Room) s m #[(.ref a)] below meth cO s₁ [] 0 0 := Stand.of_body Bd
  have e0 : s₁.heap = h0 := by rw [← hh, Bd.state]; rfl
  have N0 := Fr.nil n0
  have K0 : Keep h0 h0 [] := Keep.refl _ _
  show Done p e below s (Qrm_isl Z a cz h0 n0) ({ frames := 0, cells := 0, slots := 0, locals := 0 } : Room).cells ({ frames := 0, cells := 0, slots := 0, locals := 0 } : Room).slots (s₁.setTop (entryFrame m #[(.ref a)] 1))
  refine Done.pre (fun t_ k_ => castTop (ef_rm_isl m a) k_) ?_
  show Done _ _ _ _ _ _ _ (s₁.setTop (mkF m 0 #[Rv a] []))
  obtain ⟨T_1, X_1, e_1, st_1⟩ := getS2 X0 hEX hZW hOW (host := "") (Or.inl (hw _ (List.mem_of_getElem? (i := 23) rfl))) Via.refl e0 S1 (g := (mkF m 0 #[Rv a] [])) rfl (hb hBY d_jdk_42_method_154_code_0)
  refine Done.pre st_1 ?_
  show Done _ _ _ _ _ _ _ (T_1.setTop (mkF m 3 #[Rv a] [(.int cz)]))
  have sg_2 : ∀ tt_, Steps p.tables e below (T_1.setTop (mkF m 7 #[Rv a] [(.ref a)])) tt_ → Steps p.tables e below (T_1.setTop (mkF m 3 #[Rv a] [(.int cz)])) tt_ := by
    intro tt_ kt_
    refine XS.ifNo X_1.here hEX rfl (hb hBY d_jdk_42_method_154_code_3) rfl ((if0 _ _).trans (feq (hcz : ¬ (cz = (0 : Int32)))).1) ?_
    show Steps p.tables e below (T_1.setTop (mkF m 6 #[Rv a] [])) tt_
    refine XS.aloadN X_1.here hEX rfl (hb hBY d_jdk_42_method_154_code_6) rfl rfl ?_
    exact kt_
  refine Done.pre sg_2 ?_
  obtain ⟨T_3, X_3, e_3, st_3⟩ := getF X_1 hEX hZW hOW (host := "") (Or.inl (hw _ (List.mem_of_getElem? (i := 24) rfl))) Via.refl e_1 Fc (g := (mkF m 7 #[Rv a] [(.ref a)])) rfl rfl (hb hBY d_jdk_42_method_154_code_7)
  refine Done.pre st_3 ?_
  show Done _ _ _ _ _ _ _ (T_3.setTop (mkF m 10 #[Rv a] [(.int (0 : Int32))]))
  have sg_4 : ∀ tt_, Steps p.tables e below (T_3.setTop (mkF m 18 #[Rv a] [(.int (1 : Int32))])) tt_ → Steps p.tables e below (T_3.setTop (mkF m 10 #[Rv a] [(.int (0 : Int32))])) tt_ := by
    intro tt_ kt_
    refine XS.ifNo X_3.here hEX rfl (hb hBY d_jdk_42_method_154_code_10) rfl ((if0 _ _).trans (teq (by decide : (0 : Int32) = (0 : Int32))).2) ?_
    show Steps p.tables e below (T_3.setTop (mkF m 13 #[Rv a] [])) tt_
    refine XS.iconst X_3.here hEX rfl (hb hBY d_jdk_42_method_154_code_13) ?_
    show Steps p.tables e below (T_3.setTop (mkF m 14 #[Rv a] [(.int (1 : Int32))])) tt_
    refine XS.goto X_3.here hEX rfl (pc0 := 14) (pc' := 18) rfl (hb hBY d_jdk_42_method_154_code_14) (by decide) (by decide) ?_
    exact kt_
  refine Done.pre sg_4 ?_
  exact Done.retN X_3 hEX hLK (t := .boolean) hRT (by simp) (hb hBY d_jdk_42_method_154_code_18) (by rw [e_3]; exact ⟨rfl, N0, rfl⟩) (by decide) (by decide)
theorem d_jdk_42_method_56_code_0 : decode jdk_42_method_56_code 0 = .ok (.aload_n 0, 1) := by decide +kernel
theorem d_jdk_42_method_56_code_1 : decode jdk_42_method_56_code 1 = .ok (.invokevirtual 492, 3) := by decide +kernel
theorem pd___Z_0 : parseMethodDescriptor "()Z" = some ⟨[], some .boolean⟩ := by decide +kernel
theorem d_jdk_42_method_56_code_4 : decode jdk_42_method_56_code 4 = .ok (.ifCond .eq 12, 3) := by decide +kernel
theorem d_jdk_42_method_56_code_7 : decode jdk_42_method_56_code 7 = .ok (.aload_n 0, 1) := by decide +kernel
theorem d_jdk_42_method_56_code_8 : decode jdk_42_method_56_code 8 = .ok (.getfield 9, 3) := by decide +kernel
theorem d_jdk_42_method_56_code_11 : decode jdk_42_method_56_code 11 = .ok (.iload_n 1, 1) := by decide +kernel
theorem d_jdk_42_method_56_code_12 : decode jdk_42_method_56_code 12 = .ok (.invokestatic 495, 3) := by decide +kernel
theorem pd___BI_C_5 : parseMethodDescriptor "([BI)C" = some ⟨[(.array .byte), .int], some .char⟩ := by decide +kernel
theorem d_jdk_42_method_56_code_15 : decode jdk_42_method_56_code 15 = .ok (.ireturn, 1) := by decide +kernel
def Qrm_charAt (Z : State) (a : Addr) (i : Int32) (cz : Int32) (fv : Value) (b : Addr) (k : ClassId) (n : Int32) (vs : List Value) (c8 : Int32) (h0 : Heap) (n0 : Nat) (v_ : Option Value) (h_ : Heap) (L_ : List Loc) : Prop := v_ = some (.int c8) ∧ Fr n0 L_ ∧ h_ = h0
theorem ef_rm_charAt (m : MethodId) (x0 : Addr) (x1 : Int32) : entryFrame m #[(.ref x0), (.int x1)] 2 = mkF m 0 #[.val (.ref x0), .val (.int x1)] [] := by first | (simp [entryFrame, mkF, argsToLocals, Value.category]; done) | rfl
set_option maxRecDepth 65536 in
set_option maxHeartbeats 40000000 in
theorem rm_charAt (l : Launch) (Z : State) (aZ : Array Value) (hw : ∀ d ∈ tables_1, d.before aZ Z = true) (ws : List Jvm.Cond) (a : Addr) (i : Int32) (cz : Int32) (fv : Value) (b : Addr) (k : ClassId) (n : Int32) (vs : List Value) (c8 : Int32) (h0 : Heap) (n0 : Nat) (Z0 : n0 ≤ h0.size) (Ex : Exa Z h0 a "java/lang/String") (S1 : Sta Z h0 "java/lang/String" "COMPACT_STRINGS" "Z" (.int cz)) (hcz : ¬ cz = (0 : Int32)) (S2 : Sta Z h0 "jdk/internal/util/Preconditions" "SIOOBE_FORMATTER" "Ljava/util/function/BiFunction;" fv) (hfv : fv.isRef = true) (Fc : Fld Z h0 a "java/lang/String" "coder" "B" (.int (0 : Int32))) (Fv : Fld Z h0 a "java/lang/String" "value" "[B" (.ref b)) (Av : Arv Z h0 b k .byte n vs (.int (0 : Int32))) (hi : ¬ i < 0 ∧ i < n) (hv : vs.getD (i).toNatClampNeg (.int (0 : Int32)) = .int c8) (h8 : 0 ≤ c8.toInt ∧ c8.toInt < 128) :
    MetFree l (⟨"java/lang/String", "charAt", "(I)C"⟩ : MethodName) (head1 (Jvm.Cond.code (⟨"java/lang/String", "charAt", "(I)C"⟩ : MethodName) jdk_42_method_56_code 2 (some .char) :: ws) ({ frames := 3, cells := 0, slots := 0, locals := 40 } : Room)) (fun a_ U_ => a_ = #[(.ref a), (.int i)] ∧ Z.Warmed39 U_.vm ∧ U_.heap = h0) (fun _ _ _ _ _ => True) (fun _ U_ o_ U2_ => ∃ v_ L_, o_ = .returned v_ ∧ Qrm_charAt Z a i cz fv b k n vs c8 h0 n0 v_ U2_.heap L_ ∧ FrameEnd U_ o_ U2_ L_ ({ frames := 3, cells := 0, slots := 0, locals := 40 } : Room).cells ({ frames := 3, cells := 0, slots := 0, locals := 40 } : Room).slots) := by
  refine MetFree.of_bodySF (plainFor_of_name pn_java_lang_String) hisR ?_
  intro p e s m args below meth cO s₁ Bd hml0 hP hK
  obtain ⟨rfl, hZW, hh⟩ := hP
  have hEX := Bd.exec
  have hBY := Bd.bytes
  have hMX : cO.maxLocals = 2 := hml0
  have hOW : s.vm.findClass "java/lang/String" = some m.cls := findClass_of_methodNamed Bd.named
  have hNM := (name_of_methodNamed Bd.named Bd.method).1
  have hLK := Bd.notSynchronized
  have hRT := Bd.returns
  have X0 : Stand p l e ({ frames := 3, cells := 0, slots := 0, locals := 40 } : Room) s m #[(.ref a), (.int i)] below meth cO s₁ [] 0 0 := Stand.of_body Bd
  have e0 : s₁.heap = h0 := by rw [← hh, Bd.state]; rfl
  have N0 := Fr.nil n0
  have K0 : Keep h0 h0 [] := Keep.refl _ _
  show Done p e below s (Qrm_charAt Z a i cz fv b k n vs c8 h0 n0) ({ frames := 3, cells := 0, slots := 0, locals := 40 } : Room).cells ({ frames := 3, cells := 0, slots := 0, locals := 40 } : Room).slots (s₁.setTop (entryFrame m #[(.ref a), (.int i)] 2))
  refine Done.pre (fun t_ k_ => castTop (ef_rm_charAt m a i) k_) ?_
  show Done _ _ _ _ _ _ _ (s₁.setTop (mkF m 0 #[Rv a, Iv i] []))
  have sg_1 : ∀ tt_, Steps p.tables e below (s₁.setTop (mkF m 1 #[Rv a, Iv i] [(.ref a)])) tt_ → Steps p.tables e below (s₁.setTop (mkF m 0 #[Rv a, Iv i] [])) tt_ := by
    intro tt_ kt_
    refine XS.aloadN X0.here hEX rfl (hb hBY d_jdk_42_method_56_code_0) rfl rfl ?_
    exact kt_
  refine Done.pre sg_1 ?_
  obtain ⟨cq_2, kq_2, q_2a, q_2b, q_2c⟩ := isOf hZW e0 Ex
  obtain ⟨_, _, ⟨T_2, L_2, k_2, n_2⟩, -, X_2, ⟨Lc_2, hQ_2, l_2, y_2, z_2⟩, st_2⟩ := X0.virtualBack hEX (y := (⟨"java/lang/String", "isLatin1", "()Z"⟩ : MethodName)) (z := (⟨"java/lang/String", "isLatin1", "()Z"⟩ : MethodName)) hOW (mvT hZW (hw _ (List.mem_of_getElem? (i := 18) rfl))) (mvT hZW (hw _ (List.mem_of_getElem? (i := 19) rfl))) (notFace_of_selects (args := #[]) (mvT hZW (hw _ (List.mem_of_getElem? (i := 21) rfl)))) (mvT hZW (hw _ (List.mem_of_getElem? (i := 21) rfl))) (mvT hZW (hw _ (List.mem_of_getElem? (i := 20) rfl))) (by decide) (backOf (W := 0) (rm_isl l Z aZ hw [] a cz h0 n0 (Nat.le_trans Z0 K0.1) S1 hcz Fc) hZW (hw _ (List.mem_of_getElem? (i := 22) rfl)) (hw _ (List.mem_of_getElem? (i := 1) rfl)) (by decide) (by decide)) q_2a q_2c (g := (mkF m 1 #[Rv a, Iv i] [(.ref a)])) rfl (by rw [hMX]; rfl) (Steps.refl _) (argsL := []) (rest := []) (lenOf pd___Z_0 rfl) rfl (by show 2 * 0 + _ ≤ _; exact Nat.le_of_eq rfl) (hb hBY d_jdk_42_method_56_code_1) (fun _ _ => ⟨rfl, e0, (by decide : 0 + 0 ≤ _), (by decide : 0 + 0 ≤ _)⟩)
  dsimp only [Pt.U, Pt.locs, Pt.cells, Pt.slots] at X_2 l_2 y_2 z_2 st_2 hQ_2
  subst l_2 y_2 z_2
  obtain ⟨rfl, N_2q, e_2⟩ := hQ_2
  have N_2 := Fr.app N0 N_2q
  refine Done.pre (fun _ k_ => st_2.trans k_) ?_
  show Done _ _ _ _ _ _ _ (T_2.setTop (mkF m 4 #[Rv a, Iv i] [(.int (1 : Int32))]))
  have sg_3 : ∀ tt_, Steps p.tables e below (T_2.setTop (mkF m 8 #[Rv a, Iv i] [(.ref a)])) tt_ → Steps p.tables e below (T_2.setTop (mkF m 4 #[Rv a, Iv i] [(.int (1 : Int32))])) tt_ := by
    intro tt_ kt_
    refine XS.ifNo X_2.here hEX rfl (hb hBY d_jdk_42_method_56_code_4) rfl ((if0 _ _).trans (feq (by decide : ¬ ((1 : Int32) = (0 : Int32)))).1) ?_
    show Steps p.tables e below (T_2.setTop (mkF m 7 #[Rv a, Iv i] [])) tt_
    refine XS.aloadN X_2.here hEX rfl (hb hBY d_jdk_42_method_56_code_7) rfl rfl ?_
    exact kt_
  refine Done.pre sg_3 ?_
  obtain ⟨T_4, X_4, e_4, st_4⟩ := getF X_2 hEX hZW hOW (host := "") (Or.inl (hw _ (List.mem_of_getElem? (i := 25) rfl))) Via.refl e_2 Fv (g := (mkF m 8 #[Rv a, Iv i] [(.ref a)])) rfl rfl (hb hBY d_jdk_42_method_56_code_8)
  refine Done.pre st_4 ?_
  show Done _ _ _ _ _ _ _ (T_4.setTop (mkF m 11 #[Rv a, Iv i] [(.ref b)]))
  have sg_5 : ∀ tt_, Steps p.tables e below (T_4.setTop (mkF m 12 #[Rv a, Iv i] [(.int i), (.ref b)])) tt_ → Steps p.tables e below (T_4.setTop (mkF m 11 #[Rv a, Iv i] [(.ref b)])) tt_ := by
    intro tt_ kt_
    refine XS.iloadN X_4.here hEX rfl (hb hBY d_jdk_42_method_56_code_11) rfl ?_
    exact kt_
  refine Done.pre sg_5 ?_
  obtain ⟨_, _, ⟨T_6, L_6, k_6, n_6⟩, -, X_6, ⟨Lc_6, hQ_6, l_6, y_6, z_6⟩, st_6⟩ := Jvm.LawKit.callS X_4 hEX (y := (⟨"java/lang/StringLatin1", "charAt", "([BI)C"⟩ : MethodName)) hOW (mvT hZW (hw _ (List.mem_of_getElem? (i := 26) rfl))) (mvT hZW (hw _ (List.mem_of_getElem? (i := 27) rfl))) (mvT hZW (hw _ (List.mem_of_getElem? (i := 28) rfl))) (mvT hZW (hw _ (List.mem_of_getElem? (i := 29) rfl))) (by decide) (backOf (W := 0) (rm_lat l Z aZ hw [] b i fv k n vs c8 h0 n0 (Nat.le_trans Z0 K0.1) S2 hfv Av hi hv h8) hZW (hw _ (List.mem_of_getElem? (i := 29) rfl)) (hw _ (List.mem_of_getElem? (i := 28) rfl)) (by decide) (by decide)) (g := (mkF m 12 #[Rv a, Iv i] [(.int i), (.ref b)])) rfl (by rw [hMX]; rfl) (argsL := [(.ref b), (.int i)]) (rest := []) (lenOf pd___BI_C_5 rfl) rfl (by show 2 * 0 + _ ≤ _; exact Nat.le_of_eq rfl) (hb hBY d_jdk_42_method_56_code_12) (fun _ _ => ⟨rfl, e_4, (by decide : 0 + 0 ≤ _), (by decide : 0 + 0 ≤ _)⟩)
  dsimp only [Pt.U, Pt.locs, Pt.cells, Pt.slots] at X_6 l_6 y_6 z_6 st_6 hQ_6
  subst l_6 y_6 z_6
  obtain ⟨rfl, N_6q, e_6⟩ := hQ_6
  have N_6 := Fr.app N_2 N_6q
  refine Done.pre (fun _ k_ => st_6 _ k_) ?_
  show Done _ _ _ _ _ _ _ (T_6.setTop (mkF m 15 #[Rv a, Iv i] [(.int c8)]))
  exact Done.retN X_6 hEX hLK (t := .char) hRT (by simp) (hb hBY d_jdk_42_method_56_code_15) (by rw [e_6]; exact ⟨(by rw [own_ch c8 h8]), N_6, rfl⟩) (by decide) (by decide)
theorem d_prog_37_method_3_code_68 : decode prog_37_method_3_code 68 = .ok (.iload_n 1, 1) := by decide +kernel
theorem d_prog_37_method_3_code_69 : decode prog_37_method_3_code 69 = .ok (.ireturn, 1) := by decide +kernel
theorem d_prog_37_method_3_code_20 : decode prog_37_method_3_code 20 = .ok (.iload_n 0, 1) := by decide +kernel
theorem d_prog_37_method_3_code_43 : decode prog_37_method_3_code 43 = .ok (.iload_n 0, 1) := by decide +kernel
theorem d_prog_37_method_3_code_66 : decode prog_37_method_3_code 66 = .ok (.iconst (-1), 1) := by decide +kernel
theorem d_prog_37_method_3_code_67 : decode prog_37_method_3_code 67 = .ok (.istore_n 1, 1) := by decide +kernel
theorem d_prog_37_method_3_code_44 : decode prog_37_method_3_code 44 = .ok (.bipush 97, 2) := by decide +kernel
theorem d_prog_37_method_3_code_46 : decode prog_37_method_3_code 46 = .ok (.if_icmp .lt 20, 3) := by decide +kernel
theorem d_prog_37_method_3_code_49 : decode prog_37_method_3_code 49 = .ok (.iload_n 0, 1) := by decide +kernel
theorem d_prog_37_method_3_code_50 : decode prog_37_method_3_code 50 = .ok (.bipush 102, 2) := by decide +kernel
theorem d_prog_37_method_3_code_52 : decode prog_37_method_3_code 52 = .ok (.if_icmp .gt 14, 3) := by decide +kernel
theorem d_prog_37_method_3_code_55 : decode prog_37_method_3_code 55 = .ok (.iload_n 0, 1) := by decide +kernel
theorem d_prog_37_method_3_code_56 : decode prog_37_method_3_code 56 = .ok (.bipush 97, 2) := by decide +kernel
theorem d_prog_37_method_3_code_58 : decode prog_37_method_3_code 58 = .ok (.isub, 1) := by decide +kernel
theorem d_prog_37_method_3_code_59 : decode prog_37_method_3_code 59 = .ok (.bipush 10, 2) := by decide +kernel
theorem d_prog_37_method_3_code_61 : decode prog_37_method_3_code 61 = .ok (.iadd, 1) := by decide +kernel
theorem d_prog_37_method_3_code_62 : decode prog_37_method_3_code 62 = .ok (.istore_n 1, 1) := by decide +kernel
theorem d_prog_37_method_3_code_63 : decode prog_37_method_3_code 63 = .ok (.goto 5, 3) := by decide +kernel
theorem d_prog_37_method_3_code_21 : decode prog_37_method_3_code 21 = .ok (.bipush 65, 2) := by decide +kernel
theorem d_prog_37_method_3_code_23 : decode prog_37_method_3_code 23 = .ok (.if_icmp .lt 20, 3) := by decide +kernel
theorem d_prog_37_method_3_code_26 : decode prog_37_method_3_code 26 = .ok (.iload_n 0, 1) := by decide +kernel
theorem d_prog_37_method_3_code_27 : decode prog_37_method_3_code 27 = .ok (.bipush 70, 2) := by decide +kernel
theorem d_prog_37_method_3_code_29 : decode prog_37_method_3_code 29 = .ok (.if_icmp .gt 14, 3) := by decide +kernel
theorem d_prog_37_method_3_code_32 : decode prog_37_method_3_code 32 = .ok (.iload_n 0, 1) := by decide +kernel
theorem d_prog_37_method_3_code_33 : decode prog_37_method_3_code 33 = .ok (.bipush 65, 2) := by decide +kernel
theorem d_prog_37_method_3_code_35 : decode prog_37_method_3_code 35 = .ok (.isub, 1) := by decide +kernel
theorem d_prog_37_method_3_code_36 : decode prog_37_method_3_code 36 = .ok (.bipush 10, 2) := by decide +kernel
theorem d_prog_37_method_3_code_38 : decode prog_37_method_3_code 38 = .ok (.iadd, 1) := by decide +kernel
theorem d_prog_37_method_3_code_39 : decode prog_37_method_3_code 39 = .ok (.istore_n 1, 1) := by decide +kernel
theorem d_prog_37_method_3_code_40 : decode prog_37_method_3_code 40 = .ok (.goto 28, 3) := by decide +kernel
theorem d_prog_37_method_3_code_0 : decode prog_37_method_3_code 0 = .ok (.iload_n 0, 1) := by decide +kernel
theorem d_prog_37_method_3_code_1 : decode prog_37_method_3_code 1 = .ok (.bipush 48, 2) := by decide +kernel
theorem d_prog_37_method_3_code_3 : decode prog_37_method_3_code 3 = .ok (.if_icmp .lt 17, 3) := by decide +kernel
theorem d_prog_37_method_3_code_6 : decode prog_37_method_3_code 6 = .ok (.iload_n 0, 1) := by decide +kernel
theorem d_prog_37_method_3_code_7 : decode prog_37_method_3_code 7 = .ok (.bipush 57, 2) := by decide +kernel
theorem d_prog_37_method_3_code_9 : decode prog_37_method_3_code 9 = .ok (.if_icmp .gt 11, 3) := by decide +kernel
theorem d_prog_37_method_3_code_12 : decode prog_37_method_3_code 12 = .ok (.iload_n 0, 1) := by decide +kernel
theorem d_prog_37_method_3_code_13 : decode prog_37_method_3_code 13 = .ok (.bipush 48, 2) := by decide +kernel
theorem d_prog_37_method_3_code_15 : decode prog_37_method_3_code 15 = .ok (.isub, 1) := by decide +kernel
theorem d_prog_37_method_3_code_16 : decode prog_37_method_3_code 16 = .ok (.istore_n 1, 1) := by decide +kernel
theorem d_prog_37_method_3_code_17 : decode prog_37_method_3_code 17 = .ok (.goto 51, 3) := by decide +kernel
def Qrm_hex (Z : State) (c : Int32) (h0 : Heap) (n0 : Nat) (v_ : Option Value) (h_ : Heap) (L_ : List Loc) : Prop := v_ = some (.int (own_hex c)) ∧ Fr n0 L_ ∧ h_ = h0
theorem ef_rm_hex (m : MethodId) (x0 : Int32) : entryFrame m #[(.int x0)] 2 = mkF m 0 #[.val (.int x0), .unset] [] := by first | (simp [entryFrame, mkF, argsToLocals, Value.category]; done) | rfl
theorem pn_com_example_sutf_sutf_model_HexDigits : plainName "com/example/sutf/sutf/model/HexDigits" = true := by first | (simp [plainName, overriddenIn]; done) | decide +kernel
set_option maxRecDepth 65536 in
set_option maxHeartbeats 40000000 in
theorem rm_hex (l : Launch) (Z : State) (aZ : Array Value) (hw : ∀ d ∈ tables_1, d.before aZ Z = true) (ws : List Jvm.Cond) (c : Int32) (h0 : Heap) (n0 : Nat) (Z0 : n0 ≤ h0.size) :
    MetFree l (⟨"com/example/sutf/sutf/model/HexDigits", "valueOf", "(C)I"⟩ : MethodName) (head1 (Jvm.Cond.code (⟨"com/example/sutf/sutf/model/HexDigits", "valueOf", "(C)I"⟩ : MethodName) prog_37_method_3_code 2 (some .int) :: ws) ({ frames := 0, cells := 0, slots := 0, locals := 0 } : Room)) (fun a_ U_ => a_ = #[(.int c)] ∧ Z.Warmed39 U_.vm ∧ U_.heap = h0) (fun _ _ _ _ _ => True) (fun _ U_ o_ U2_ => ∃ v_ L_, o_ = .returned v_ ∧ Qrm_hex Z c h0 n0 v_ U2_.heap L_ ∧ FrameEnd U_ o_ U2_ L_ ({ frames := 0, cells := 0, slots := 0, locals := 0 } : Room).cells ({ frames := 0, cells := 0, slots := 0, locals := 0 } : Room).slots) := by
  refine MetFree.of_bodySF (plainFor_of_name pn_com_example_sutf_sutf_model_HexDigits) hisR ?_
  intro p e s m args below meth cO s₁ Bd hml0 hP hK
  obtain ⟨rfl, hZW, hh⟩ := hP
  have hEX := Bd.exec
  have hBY := Bd.bytes
  have hMX : cO.maxLocals = 2 := hml0
  have hOW : s.vm.findClass "com/example/sutf/sutf/model/HexDigits" = some m.cls := findClass_of_methodNamed Bd.named
  have hNM := (name_of_methodNamed Bd.named Bd.method).1
  have hLK := Bd.notSynchronized
  have hRT := Bd.returns
  have X0 : Stand p l e ({ frames := 0, cells := 0, slots := 0, locals := 0 } : Room) s m #[(.int c)] below meth cO s₁ [] 0 0 := Stand.of_body Bd
  have e0 : s₁.heap = h0 := by rw [← hh, Bd.state]; rfl
  have N0 := Fr.nil n0
  have K0 : Keep h0 h0 [] := Keep.refl _ _
  show Done p e below s (Qrm_hex Z c h0 n0) ({ frames := 0, cells := 0, slots := 0, locals := 0 } : Room).cells ({ frames := 0, cells := 0, slots := 0, locals := 0 } : Room).slots (s₁.setTop (entryFrame m #[(.int c)] 2))
  refine Done.pre (fun t_ k_ => castTop (ef_rm_hex m c) k_) ?_
  show Done _ _ _ _ _ _ _ (s₁.setTop (mkF m 0 #[Iv c, Us] []))
  have jn_1 : ∀ (r : Int32) (hr : r = own_hex c), Done p e below s (Qrm_hex Z c h0 n0) ({ frames := 0, cells := 0, slots := 0, locals := 0 } : Room).cells ({ frames := 0, cells := 0, slots := 0, locals := 0 } : Room).slots (s₁.setTop (mkF m 68 #[Iv c, Iv r] [])) := by
    intro r hr
    show Done _ _ _ _ _ _ _ (s₁.setTop (mkF m 68 #[Iv c, Iv r] []))
    have sg_2 : ∀ tt_, Steps p.tables e below (s₁.setTop (mkF m 69 #[Iv c, Iv r] [(.int r)])) tt_ → Steps p.tables e below (s₁.setTop (mkF m 68 #[Iv c, Iv r] [])) tt_ := by
      intro tt_ kt_
      refine XS.iloadN X0.here hEX rfl (hb hBY d_prog_37_method_3_code_68) rfl ?_
      exact kt_
    refine Done.pre sg_2 ?_
    exact Done.retI X0 hEX hLK hRT (hb hBY d_prog_37_method_3_code_69) (by rw [e0]; exact ⟨(by rw [hr]), N0, rfl⟩) (by decide) (by decide)
  show Done _ _ _ _ _ _ _ (s₁.setTop (mkF m 0 #[Iv c, Us] []))
  have jn_3 : ∀ (g1 : ¬ (¬ c < (48 : Int32) ∧ ¬ (57 : Int32) < c)), Done p e below s (Qrm_hex Z c h0 n0) ({ frames := 0, cells := 0, slots := 0, locals := 0 } : Room).cells ({ frames := 0, cells := 0, slots := 0, locals := 0 } : Room).slots (s₁.setTop (mkF m 20 #[Iv c, Us] [])) := by
    intro g1
    show Done _ _ _ _ _ _ _ (s₁.setTop (mkF m 20 #[Iv c, Us] []))
    have sg_4 : ∀ tt_, Steps p.tables e below (s₁.setTop (mkF m 21 #[Iv c, Us] [(.int c)])) tt_ → Steps p.tables e below (s₁.setTop (mkF m 20 #[Iv c, Us] [])) tt_ := by
      intro tt_ kt_
      refine XS.iloadN X0.here hEX rfl (hb hBY d_prog_37_method_3_code_20) rfl ?_
      exact kt_
    refine Done.pre sg_4 ?_
    have jn_5 : ∀ (g2 : ¬ (¬ c < (65 : Int32) ∧ ¬ (70 : Int32) < c)), Done p e below s (Qrm_hex Z c h0 n0) ({ frames := 0, cells := 0, slots := 0, locals := 0 } : Room).cells ({ frames := 0, cells := 0, slots := 0, locals := 0 } : Room).slots (s₁.setTop (mkF m 43 #[Iv c, Us] [])) := by
      intro g2
      show Done _ _ _ _ _ _ _ (s₁.setTop (mkF m 43 #[Iv c, Us] []))
      have sg_6 : ∀ tt_, Steps p.tables e below (s₁.setTop (mkF m 44 #[Iv c, Us] [(.int c)])) tt_ → Steps p.tables e below (s₁.setTop (mkF m 43 #[Iv c, Us] [])) tt_ := by
        intro tt_ kt_
        refine XS.iloadN X0.here hEX rfl (hb hBY d_prog_37_method_3_code_43) rfl ?_
        exact kt_
      refine Done.pre sg_6 ?_
      have jn_7 : ∀ (g3 : ¬ (¬ c < (97 : Int32) ∧ ¬ (102 : Int32) < c)), Done p e below s (Qrm_hex Z c h0 n0) ({ frames := 0, cells := 0, slots := 0, locals := 0 } : Room).cells ({ frames := 0, cells := 0, slots := 0, locals := 0 } : Room).slots (s₁.setTop (mkF m 66 #[Iv c, Us] [])) := by
        intro g3
        show Done _ _ _ _ _ _ _ (s₁.setTop (mkF m 66 #[Iv c, Us] []))
        have sg_8 : ∀ tt_, Steps p.tables e below (s₁.setTop (mkF m 68 #[Iv c, Iv (-1 : Int32)] [])) tt_ → Steps p.tables e below (s₁.setTop (mkF m 66 #[Iv c, Us] [])) tt_ := by
          intro tt_ kt_
          refine XS.iconst X0.here hEX rfl (hb hBY d_prog_37_method_3_code_66) ?_
          show Steps p.tables e below (s₁.setTop (mkF m 67 #[Iv c, Us] [(.int (-1 : Int32))])) tt_
          refine XS.istoreN X0.here hEX rfl (hb hBY d_prog_37_method_3_code_67) rfl (l' := #[Iv c, Iv (-1 : Int32)]) rfl ?_
          exact kt_
        refine Done.pre sg_8 ?_
        exact jn_1 ((-1 : Int32)) (by rw [own_hex, if_neg g1, if_neg g2, if_neg g3])
      show Done _ _ _ _ _ _ _ (s₁.setTop (mkF m 44 #[Iv c, Us] [(.int c)]))
      have sg_9 : ∀ tt_, Steps p.tables e below (s₁.setTop (mkF m 46 #[Iv c, Us] [(.int (97 : Int32)), (.int c)])) tt_ → Steps p.tables e below (s₁.setTop (mkF m 44 #[Iv c, Us] [(.int c)])) tt_ := by
        intro tt_ kt_
        refine XS.bipush X0.here hEX rfl (hb hBY d_prog_37_method_3_code_44) ?_
        exact kt_
      refine Done.pre sg_9 ?_
      by_cases hc46 : c < (97 : Int32)
      · skip
        have sg_10 : ∀ tt_, Steps p.tables e below (s₁.setTop (mkF m 66 #[Iv c, Us] [])) tt_ → Steps p.tables e below (s₁.setTop (mkF m 46 #[Iv c, Us] [(.int (97 : Int32)), (.int c)])) tt_ := by
          intro tt_ kt_
          refine XS.icmpYes X0.here hEX rfl (pc0 := 46) (pc' := 66) rfl (hb hBY d_prog_37_method_3_code_46) rfl (tlt hc46).1 (by decide) (by decide) ?_
          exact kt_
        refine Done.pre sg_10 ?_
        exact jn_7 (by first | exact fun q => q.1 hc46 | exact fun q => q.2 hc52)
      · skip
        have sg_11 : ∀ tt_, Steps p.tables e below (s₁.setTop (mkF m 52 #[Iv c, Us] [(.int (102 : Int32)), (.int c)])) tt_ → Steps p.tables e below (s₁.setTop (mkF m 46 #[Iv c, Us] [(.int (97 : Int32)), (.int c)])) tt_ := by
          intro tt_ kt_
          refine XS.icmpNo X0.here hEX rfl (hb hBY d_prog_37_method_3_code_46) rfl (flt hc46).1 ?_
          show Steps p.tables e below (s₁.setTop (mkF m 49 #[Iv c, Us] [])) tt_
          refine XS.iloadN X0.here hEX rfl (hb hBY d_prog_37_method_3_code_49) rfl ?_
          show Steps p.tables e below (s₁.setTop (mkF m 50 #[Iv c, Us] [(.int c)])) tt_
          refine XS.bipush X0.here hEX rfl (hb hBY d_prog_37_method_3_code_50) ?_
          exact kt_
        refine Done.pre sg_11 ?_
        by_cases hc52 : (102 : Int32) < c
        · skip
          have sg_12 : ∀ tt_, Steps p.tables e below (s₁.setTop (mkF m 66 #[Iv c, Us] [])) tt_ → Steps p.tables e below (s₁.setTop (mkF m 52 #[Iv c, Us] [(.int (102 : Int32)), (.int c)])) tt_ := by
            intro tt_ kt_
            refine XS.icmpYes X0.here hEX rfl (pc0 := 52) (pc' := 66) rfl (hb hBY d_prog_37_method_3_code_52) rfl (tlt hc52).2.2.1 (by decide) (by decide) ?_
            exact kt_
          refine Done.pre sg_12 ?_
          exact jn_7 (by first | exact fun q => q.1 hc46 | exact fun q => q.2 hc52)
        · skip
          have sg_13 : ∀ tt_, Steps p.tables e below (s₁.setTop (mkF m 68 #[Iv c, Iv ((c - (97 : Int32)) + (10 : Int32))] [])) tt_ → Steps p.tables e below (s₁.setTop (mkF m 52 #[Iv c, Us] [(.int (102 : Int32)), (.int c)])) tt_ := by
            intro tt_ kt_
            refine XS.icmpNo X0.here hEX rfl (hb hBY d_prog_37_method_3_code_52) rfl (flt hc52).2.2.1 ?_
            show Steps p.tables e below (s₁.setTop (mkF m 55 #[Iv c, Us] [])) tt_
            refine XS.iloadN X0.here hEX rfl (hb hBY d_prog_37_method_3_code_55) rfl ?_
            show Steps p.tables e below (s₁.setTop (mkF m 56 #[Iv c, Us] [(.int c)])) tt_
            refine XS.bipush X0.here hEX rfl (hb hBY d_prog_37_method_3_code_56) ?_
            show Steps p.tables e below (s₁.setTop (mkF m 58 #[Iv c, Us] [(.int (97 : Int32)), (.int c)])) tt_
            refine XS.isub X0.here hEX rfl (hb hBY d_prog_37_method_3_code_58) rfl ?_
            show Steps p.tables e below (s₁.setTop (mkF m 59 #[Iv c, Us] [(.int (c - (97 : Int32)))])) tt_
            refine XS.bipush X0.here hEX rfl (hb hBY d_prog_37_method_3_code_59) ?_
            show Steps p.tables e below (s₁.setTop (mkF m 61 #[Iv c, Us] [(.int (10 : Int32)), (.int (c - (97 : Int32)))])) tt_
            refine XS.iadd X0.here hEX rfl (hb hBY d_prog_37_method_3_code_61) rfl ?_
            show Steps p.tables e below (s₁.setTop (mkF m 62 #[Iv c, Us] [(.int ((c - (97 : Int32)) + (10 : Int32)))])) tt_
            refine XS.istoreN X0.here hEX rfl (hb hBY d_prog_37_method_3_code_62) rfl (l' := #[Iv c, Iv ((c - (97 : Int32)) + (10 : Int32))]) rfl ?_
            show Steps p.tables e below (s₁.setTop (mkF m 63 #[Iv c, Iv ((c - (97 : Int32)) + (10 : Int32))] [])) tt_
            refine XS.goto X0.here hEX rfl (pc0 := 63) (pc' := 68) rfl (hb hBY d_prog_37_method_3_code_63) (by decide) (by decide) ?_
            exact kt_
          refine Done.pre sg_13 ?_
          exact jn_1 (((c - (97 : Int32)) + (10 : Int32))) (by rw [own_hex, if_neg g1, if_neg g2, if_pos ⟨hc46, hc52⟩])
    show Done _ _ _ _ _ _ _ (s₁.setTop (mkF m 21 #[Iv c, Us] [(.int c)]))
    have sg_14 : ∀ tt_, Steps p.tables e below (s₁.setTop (mkF m 23 #[Iv c, Us] [(.int (65 : Int32)), (.int c)])) tt_ → Steps p.tables e below (s₁.setTop (mkF m 21 #[Iv c, Us] [(.int c)])) tt_ := by
      intro tt_ kt_
      refine XS.bipush X0.here hEX rfl (hb hBY d_prog_37_method_3_code_21) ?_
      exact kt_
    refine Done.pre sg_14 ?_
    by_cases hc23 : c < (65 : Int32)
    · skip
      have sg_15 : ∀ tt_, Steps p.tables e below (s₁.setTop (mkF m 43 #[Iv c, Us] [])) tt_ → Steps p.tables e below (s₁.setTop (mkF m 23 #[Iv c, Us] [(.int (65 : Int32)), (.int c)])) tt_ := by
        intro tt_ kt_
        refine XS.icmpYes X0.here hEX rfl (pc0 := 23) (pc' := 43) rfl (hb hBY d_prog_37_method_3_code_23) rfl (tlt hc23).1 (by decide) (by decide) ?_
        exact kt_
      refine Done.pre sg_15 ?_
      exact jn_5 (by first | exact fun q => q.1 hc23 | exact fun q => q.2 hc29)
    · skip
      have sg_16 : ∀ tt_, Steps p.tables e below (s₁.setTop (mkF m 29 #[Iv c, Us] [(.int (70 : Int32)), (.int c)])) tt_ → Steps p.tables e below (s₁.setTop (mkF m 23 #[Iv c, Us] [(.int (65 : Int32)), (.int c)])) tt_ := by
        intro tt_ kt_
        refine XS.icmpNo X0.here hEX rfl (hb hBY d_prog_37_method_3_code_23) rfl (flt hc23).1 ?_
        show Steps p.tables e below (s₁.setTop (mkF m 26 #[Iv c, Us] [])) tt_
        refine XS.iloadN X0.here hEX rfl (hb hBY d_prog_37_method_3_code_26) rfl ?_
        show Steps p.tables e below (s₁.setTop (mkF m 27 #[Iv c, Us] [(.int c)])) tt_
        refine XS.bipush X0.here hEX rfl (hb hBY d_prog_37_method_3_code_27) ?_
        exact kt_
      refine Done.pre sg_16 ?_
      by_cases hc29 : (70 : Int32) < c
      · skip
        have sg_17 : ∀ tt_, Steps p.tables e below (s₁.setTop (mkF m 43 #[Iv c, Us] [])) tt_ → Steps p.tables e below (s₁.setTop (mkF m 29 #[Iv c, Us] [(.int (70 : Int32)), (.int c)])) tt_ := by
          intro tt_ kt_
          refine XS.icmpYes X0.here hEX rfl (pc0 := 29) (pc' := 43) rfl (hb hBY d_prog_37_method_3_code_29) rfl (tlt hc29).2.2.1 (by decide) (by decide) ?_
          exact kt_
        refine Done.pre sg_17 ?_
        exact jn_5 (by first | exact fun q => q.1 hc23 | exact fun q => q.2 hc29)
      · skip
        have sg_18 : ∀ tt_, Steps p.tables e below (s₁.setTop (mkF m 68 #[Iv c, Iv ((c - (65 : Int32)) + (10 : Int32))] [])) tt_ → Steps p.tables e below (s₁.setTop (mkF m 29 #[Iv c, Us] [(.int (70 : Int32)), (.int c)])) tt_ := by
          intro tt_ kt_
          refine XS.icmpNo X0.here hEX rfl (hb hBY d_prog_37_method_3_code_29) rfl (flt hc29).2.2.1 ?_
          show Steps p.tables e below (s₁.setTop (mkF m 32 #[Iv c, Us] [])) tt_
          refine XS.iloadN X0.here hEX rfl (hb hBY d_prog_37_method_3_code_32) rfl ?_
          show Steps p.tables e below (s₁.setTop (mkF m 33 #[Iv c, Us] [(.int c)])) tt_
          refine XS.bipush X0.here hEX rfl (hb hBY d_prog_37_method_3_code_33) ?_
          show Steps p.tables e below (s₁.setTop (mkF m 35 #[Iv c, Us] [(.int (65 : Int32)), (.int c)])) tt_
          refine XS.isub X0.here hEX rfl (hb hBY d_prog_37_method_3_code_35) rfl ?_
          show Steps p.tables e below (s₁.setTop (mkF m 36 #[Iv c, Us] [(.int (c - (65 : Int32)))])) tt_
          refine XS.bipush X0.here hEX rfl (hb hBY d_prog_37_method_3_code_36) ?_
          show Steps p.tables e below (s₁.setTop (mkF m 38 #[Iv c, Us] [(.int (10 : Int32)), (.int (c - (65 : Int32)))])) tt_
          refine XS.iadd X0.here hEX rfl (hb hBY d_prog_37_method_3_code_38) rfl ?_
          show Steps p.tables e below (s₁.setTop (mkF m 39 #[Iv c, Us] [(.int ((c - (65 : Int32)) + (10 : Int32)))])) tt_
          refine XS.istoreN X0.here hEX rfl (hb hBY d_prog_37_method_3_code_39) rfl (l' := #[Iv c, Iv ((c - (65 : Int32)) + (10 : Int32))]) rfl ?_
          show Steps p.tables e below (s₁.setTop (mkF m 40 #[Iv c, Iv ((c - (65 : Int32)) + (10 : Int32))] [])) tt_
          refine XS.goto X0.here hEX rfl (pc0 := 40) (pc' := 68) rfl (hb hBY d_prog_37_method_3_code_40) (by decide) (by decide) ?_
          exact kt_
        refine Done.pre sg_18 ?_
        exact jn_1 (((c - (65 : Int32)) + (10 : Int32))) (by rw [own_hex, if_neg g1, if_pos ⟨hc23, hc29⟩])
  show Done _ _ _ _ _ _ _ (s₁.setTop (mkF m 0 #[Iv c, Us] []))
  have sg_19 : ∀ tt_, Steps p.tables e below (s₁.setTop (mkF m 3 #[Iv c, Us] [(.int (48 : Int32)), (.int c)])) tt_ → Steps p.tables e below (s₁.setTop (mkF m 0 #[Iv c, Us] [])) tt_ := by
    intro tt_ kt_
    refine XS.iloadN X0.here hEX rfl (hb hBY d_prog_37_method_3_code_0) rfl ?_
    show Steps p.tables e below (s₁.setTop (mkF m 1 #[Iv c, Us] [(.int c)])) tt_
    refine XS.bipush X0.here hEX rfl (hb hBY d_prog_37_method_3_code_1) ?_
    exact kt_
  refine Done.pre sg_19 ?_
  by_cases hc3 : c < (48 : Int32)
  · skip
    have sg_20 : ∀ tt_, Steps p.tables e below (s₁.setTop (mkF m 20 #[Iv c, Us] [])) tt_ → Steps p.tables e below (s₁.setTop (mkF m 3 #[Iv c, Us] [(.int (48 : Int32)), (.int c)])) tt_ := by
      intro tt_ kt_
      refine XS.icmpYes X0.here hEX rfl (pc0 := 3) (pc' := 20) rfl (hb hBY d_prog_37_method_3_code_3) rfl (tlt hc3).1 (by decide) (by decide) ?_
      exact kt_
    refine Done.pre sg_20 ?_
    exact jn_3 (by first | exact fun q => q.1 hc3 | exact fun q => q.2 hc9)
  · skip
    have sg_21 : ∀ tt_, Steps p.tables e below (s₁.setTop (mkF m 9 #[Iv c, Us] [(.int (57 : Int32)), (.int c)])) tt_ → Steps p.tables e below (s₁.setTop (mkF m 3 #[Iv c, Us] [(.int (48 : Int32)), (.int c)])) tt_ := by
      intro tt_ kt_
      refine XS.icmpNo X0.here hEX rfl (hb hBY d_prog_37_method_3_code_3) rfl (flt hc3).1 ?_
      show Steps p.tables e below (s₁.setTop (mkF m 6 #[Iv c, Us] [])) tt_
      refine XS.iloadN X0.here hEX rfl (hb hBY d_prog_37_method_3_code_6) rfl ?_
      show Steps p.tables e below (s₁.setTop (mkF m 7 #[Iv c, Us] [(.int c)])) tt_
      refine XS.bipush X0.here hEX rfl (hb hBY d_prog_37_method_3_code_7) ?_
      exact kt_
    refine Done.pre sg_21 ?_
    by_cases hc9 : (57 : Int32) < c
    · skip
      have sg_22 : ∀ tt_, Steps p.tables e below (s₁.setTop (mkF m 20 #[Iv c, Us] [])) tt_ → Steps p.tables e below (s₁.setTop (mkF m 9 #[Iv c, Us] [(.int (57 : Int32)), (.int c)])) tt_ := by
        intro tt_ kt_
        refine XS.icmpYes X0.here hEX rfl (pc0 := 9) (pc' := 20) rfl (hb hBY d_prog_37_method_3_code_9) rfl (tlt hc9).2.2.1 (by decide) (by decide) ?_
        exact kt_
      refine Done.pre sg_22 ?_
      exact jn_3 (by first | exact fun q => q.1 hc3 | exact fun q => q.2 hc9)
    · skip
      have sg_23 : ∀ tt_, Steps p.tables e below (s₁.setTop (mkF m 68 #[Iv c, Iv (c - (48 : Int32))] [])) tt_ → Steps p.tables e below (s₁.setTop (mkF m 9 #[Iv c, Us] [(.int (57 : Int32)), (.int c)])) tt_ := by
        intro tt_ kt_
        refine XS.icmpNo X0.here hEX rfl (hb hBY d_prog_37_method_3_code_9) rfl (flt hc9).2.2.1 ?_
        show Steps p.tables e below (s₁.setTop (mkF m 12 #[Iv c, Us] [])) tt_
        refine XS.iloadN X0.here hEX rfl (hb hBY d_prog_37_method_3_code_12) rfl ?_
        show Steps p.tables e below (s₁.setTop (mkF m 13 #[Iv c, Us] [(.int c)])) tt_
        refine XS.bipush X0.here hEX rfl (hb hBY d_prog_37_method_3_code_13) ?_
        show Steps p.tables e below (s₁.setTop (mkF m 15 #[Iv c, Us] [(.int (48 : Int32)), (.int c)])) tt_
        refine XS.isub X0.here hEX rfl (hb hBY d_prog_37_method_3_code_15) rfl ?_
        show Steps p.tables e below (s₁.setTop (mkF m 16 #[Iv c, Us] [(.int (c - (48 : Int32)))])) tt_
        refine XS.istoreN X0.here hEX rfl (hb hBY d_prog_37_method_3_code_16) rfl (l' := #[Iv c, Iv (c - (48 : Int32))]) rfl ?_
        show Steps p.tables e below (s₁.setTop (mkF m 17 #[Iv c, Iv (c - (48 : Int32))] [])) tt_
        refine XS.goto X0.here hEX rfl (pc0 := 17) (pc' := 68) rfl (hb hBY d_prog_37_method_3_code_17) (by decide) (by decide) ?_
        exact kt_
      refine Done.pre sg_23 ?_
      exact jn_1 ((c - (48 : Int32))) (by rw [own_hex, if_pos ⟨hc3, hc9⟩])
theorem pd__C_I_1 : parseMethodDescriptor "(C)I" = some ⟨[.char], some .int⟩ := by decide +kernel
theorem pd__I_C_2 : parseMethodDescriptor "(I)C" = some ⟨[.int], some .char⟩ := by decide +kernel
theorem ef_rm0 (m : MethodId) (x0 : Int32) (x1 : Int32) : entryFrame m #[(.int x0), (.int x1)] maxLocals = mkF m 0 #[.val (.int x0), .val (.int x1), .unset, .unset, .unset, .unset, .unset, .unset, .unset, .unset, .unset] [] := by first | (simp [entryFrame, mkF, argsToLocals, Value.category, maxLocals]; done) | rfl
theorem pn_com_example_sutf_sutf_model_HexDigitsValueOfPinLaw : plainName "com/example/sutf/sutf/model/HexDigitsValueOfPinLaw" = true := by first | (simp [plainName, overriddenIn]; done) | decide +kernel
theorem own_atoms : ∀ a ∈ Bundle.stringAtoms, a ∈ tables_1 := by decide +kernel
theorem own_EW (Z : State) (aZ : Array Value) (hw : ∀ d ∈ tables_1, d.before aZ Z = true) : EW Z aZ consts_1 := EW.cons (hw _ (List.mem_of_getElem? (i := 0) rfl)) (by decide) (EW.cons (hw _ (List.mem_of_getElem? (i := 8) rfl)) (by decide) EW.nil)
set_option maxRecDepth 65536 in
set_option maxHeartbeats 40000000 in
theorem rm0 (l : Launch) (Z : State) (aZ : Array Value) (hw : ∀ d ∈ tables_1, d.before aZ Z = true) (ws : List Jvm.Cond) (p1 : Int32) (p2 : Int32) (n0 : Nat) (Z00 : n0 ≤ Z.heap.size) (H0 : CHv Z consts_1 Z.vm Z.heap) (cz : Int32) (hcz : ¬ cz = (0 : Int32)) (gS1 : Sta Z Z.heap "java/lang/String" "COMPACT_STRINGS" "Z" (.int cz)) (fv : Value) (hfv : fv.isRef = true) (gS2 : Sta Z Z.heap "jdk/internal/util/Preconditions" "SIOOBE_FORMATTER" "Ljava/util/function/BiFunction;" fv) :
    MetFree l x (head1 (Jvm.Cond.code x code maxLocals ret :: ws) room_1) (fun a U => a = #[(.int p1), (.int p2)] ∧ Z = U) (fun _ _ _ _ _ => True) (fun _ U o U' => ∃ v L, o = .returned v ∧ (v = some (.int (1 : Int32)) ∧ Fr n0 L) ∧ ReturnedEndW U o U' L room_1.cells room_1.slots) := by
  refine MetFree.of_bodySF (plainFor_of_name pn_com_example_sutf_sutf_model_HexDigitsValueOfPinLaw) hisR ?_
  intro p e s m args below meth cO s₁ Bd hml0 hP hK
  obtain ⟨rfl, rfl⟩ := hP
  have hEX := Bd.exec
  have hBY := Bd.bytes
  have hMX : cO.maxLocals = 11 := hml0
  have hown0 : Z.vm.findClass "com/example/sutf/sutf/model/HexDigitsValueOfPinLaw" = some m.cls := findClass_of_methodNamed Bd.named
  have hLK := Bd.notSynchronized
  have hRT := Bd.returns
  have X0 : Stand p l e room_1 (Z.setVm Z.vm) m #[(.int p1), (.int p2)] below meth cO s₁ [] 0 0 := Stand.of_body Bd
  have e0 : s₁.heap = Z.heap := by rw [Bd.state]; rfl
  have hZ0 : Z.Warmed39 Z.vm := State.Warmed39.refl Z
  have wS : ∀ a ∈ Bundle.stringAtoms, a.before aZ Z = true := fun a ha => hw a (own_atoms a ha)
  have hEL := own_EW Z aZ hw
  obtain ⟨sa1, T1, h1, k1, sb1, sk1, X1, e1, E1, hS1, hk1, hZ1, hown1, jE1, jC1, jV1, jA1, -, -, C1, -, -, st1⟩ := ldcCH X0 hEX hZ0 hown0 (hw _ (List.mem_of_getElem? (i := 0) rfl)) wS e0 (k0 := 0) ((State.WarmedH.refl Z).since 0) (Nat.zero_le _) hEL (List.mem_cons_self ..) H0 (vs := [(.int (48 : Int32)), (.int (49 : Int32)), (.int (50 : Int32)), (.int (51 : Int32)), (.int (52 : Int32)), (.int (53 : Int32)), (.int (54 : Int32)), (.int (55 : Int32)), (.int (56 : Int32)), (.int (57 : Int32)), (.int (65 : Int32)), (.int (66 : Int32)), (.int (67 : Int32)), (.int (68 : Int32)), (.int (69 : Int32)), (.int (70 : Int32))]) (z := (16 : Int32)) (by decide) (by decide) (by decide) (g := (mkF m 0 #[Iv p1, Iv p2, Us, Us, Us, Us, Us, Us, Us, Us, Us] [])) rfl (hb hBY at_0) (n := 64) (by decide) (by decide) (by decide) (by decide)
  obtain ⟨sa2, T2, h2, k2, sb2, sk2, X2, e2, E2, hS2, hk2, hZ2, hown2, fE2, fC2, fV2, fA2, -, -, -, -, -, st2⟩ := ldcCH X1 hEX hZ1 hown1 (hw _ (List.mem_of_getElem? (i := 8) rfl)) wS e1 hS1 hk1 hEL (List.mem_cons_of_mem _ (List.mem_cons_self ..)) C1.1 (vs := [(.int (48 : Int32)), (.int (49 : Int32)), (.int (50 : Int32)), (.int (51 : Int32)), (.int (52 : Int32)), (.int (53 : Int32)), (.int (54 : Int32)), (.int (55 : Int32)), (.int (56 : Int32)), (.int (57 : Int32)), (.int (97 : Int32)), (.int (98 : Int32)), (.int (99 : Int32)), (.int (100 : Int32)), (.int (101 : Int32)), (.int (102 : Int32))]) (z := (16 : Int32)) (by decide) (by decide) (by decide) (g := (mkF m 3 #[Iv p1, Iv p2, Rv sa1, Us, Us, Us, Us, Us, Us, Us, Us] [])) rfl (hb hBY at_3) (n := 64) (by decide) (by decide) (by decide) (by decide)
  have fE1 := jE1.ext E2
  have fC1 := jC1.ext E2
  have fV1 := jV1.ext E2
  have fA1 := jA1.ext E2
  have fS1 := (gS1.ext E1).ext E2
  have fS2 := (gS2.ext E1).ext E2
  have N0 := Fr.nil n0
  have Z0 : n0 ≤ h2.size := Nat.le_trans Z00 (Nat.le_trans E1.1 E2.1)
  suffices D : DoneW p e below Z (fun (v : Option Value) (h : Heap) (L : List Loc) => v = some (.int (1 : Int32)) ∧ Fr n0 L ∧ h = h2) room_1.cells room_1.slots (s₁.setTop (mkF m 0 #[Iv p1, Iv p2, Us, Us, Us, Us, Us, Us, Us, Us, Us] [])) by
    obtain ⟨s₂, o, d1, d2, d3, v, L, d4, d5, d6⟩ := D
    exact ⟨s₂, o, castTop (ef_rm0 m p1 p2) d1, d2, d3, v, L, d4, ⟨d5.1, d5.2.1⟩, d6⟩
  refine DoneW.pre st1 ?_
  show DoneW _ _ _ _ _ _ _ (T1.setTop (mkF m 2 #[Iv p1, Iv p2, Us, Us, Us, Us, Us, Us, Us, Us, Us] [(.ref sa1)]))
  have sgA : ∀ tt_, Steps p.tables e below (T1.setTop (mkF m 3 #[Iv p1, Iv p2, Rv sa1, Us, Us, Us, Us, Us, Us, Us, Us] [])) tt_ → Steps p.tables e below (T1.setTop (mkF m 2 #[Iv p1, Iv p2, Us, Us, Us, Us, Us, Us, Us, Us, Us] [(.ref sa1)])) tt_ := by
    intro tt_ kt_
    refine XS.astoreN X1.here hEX rfl (hb hBY at_2) rfl rfl (l' := #[Iv p1, Iv p2, Rv sa1, Us, Us, Us, Us, Us, Us, Us, Us]) rfl ?_
    exact kt_
  refine DoneW.pre sgA ?_
  refine DoneW.pre st2 ?_
  have sgB : ∀ tt_, Steps p.tables e below (T2.setTop (mkF m 6 #[Iv p1, Iv p2, Rv sa1, Rv sa2, Us, Us, Us, Us, Us, Us, Us] [])) tt_ → Steps p.tables e below (T2.setTop (mkF m 5 #[Iv p1, Iv p2, Rv sa1, Us, Us, Us, Us, Us, Us, Us, Us] [(.ref sa2)])) tt_ := by
    intro tt_ kt_
    refine XS.astoreN X2.here hEX rfl (hb hBY at_5) rfl rfl (l' := #[Iv p1, Iv p2, Rv sa1, Rv sa2, Us, Us, Us, Us, Us, Us, Us]) rfl ?_
    exact kt_
  refine DoneW.pre sgB ?_
  refine DoneW.of_done hS2 (fun v h L q => by rw [q.2.2]; exact hk2) ?_
  obtain ⟨s, hs⟩ : ∃ z, z = Z.setVm T2.vm := ⟨_, rfl⟩
  have X2 : Stand p l e room_1 s m #[(.int p1), (.int p2)] below meth cO T2 [] 4 136 := by rw [hs]; exact X2
  have hZW : Z.Warmed39 s.vm := by rw [hs]; exact hZ2
  have hOW : s.vm.findClass "com/example/sutf/sutf/model/HexDigitsValueOfPinLaw" = some m.cls := by rw [hs]; exact hown2
  show Done p e below (Z.setVm T2.vm) _ _ _ _
  rw [← hs]
  have K0 : Keep h2 h2 [] := Keep.refl _ _
  show Done _ _ _ _ _ _ _ (T2.setTop (mkF m 6 #[Iv p1, Iv p2, Rv sa1, Rv sa2, Us, Us, Us, Us, Us, Us, Us] []))
  have sg_11 : ∀ tt_, Steps p.tables e below (T2.setTop (mkF m 8 #[Iv p1, Iv p2, Rv sa1, Rv sa2, Us, Us, Us, Us, Us, Us, Us] [(.int (p1.toUInt32.toUInt16.toUInt32.toInt32))])) tt_ → Steps p.tables e below (T2.setTop (mkF m 6 #[Iv p1, Iv p2, Rv sa1, Rv sa2, Us, Us, Us, Us, Us, Us, Us] [])) tt_ := by
    intro tt_ kt_
    refine XS.iloadN X2.here hEX rfl (hb hBY at_6) rfl ?_
    show Steps p.tables e below (T2.setTop (mkF m 7 #[Iv p1, Iv p2, Rv sa1, Rv sa2, Us, Us, Us, Us, Us, Us, Us] [(.int p1)])) tt_
    refine XS.i2c X2.here hEX rfl (hb hBY at_7) rfl ?_
    exact kt_
  refine Done.pre sg_11 ?_
  show Done _ _ _ _ _ _ _ (T2.setTop (mkF m 8 #[Iv p1, Iv p2, Rv sa1, Rv sa2, Us, Us, Us, Us, Us, Us, Us] [(.int (p1.toUInt32.toUInt16.toUInt32.toInt32))]))
  obtain ⟨cc, hcc⟩ : ∃ z : Int32, z = (p1.toUInt32.toUInt16.toUInt32.toInt32) := ⟨_, rfl⟩
  rw [← hcc]
  show Done _ _ _ _ _ _ _ (T2.setTop (mkF m 8 #[Iv p1, Iv p2, Rv sa1, Rv sa2, Us, Us, Us, Us, Us, Us, Us] [(.int cc)]))
  have sg_12 : ∀ tt_, Steps p.tables e below (T2.setTop (mkF m 12 #[Iv p1, Iv p2, Rv sa1, Rv sa2, Iv cc, Us, Us, Us, Us, Us, Us] [(.int cc)])) tt_ → Steps p.tables e below (T2.setTop (mkF m 8 #[Iv p1, Iv p2, Rv sa1, Rv sa2, Us, Us, Us, Us, Us, Us, Us] [(.int cc)])) tt_ := by
    intro tt_ kt_
    refine XS.istore X2.here hEX rfl (hb hBY at_8) rfl (l' := #[Iv p1, Iv p2, Rv sa1, Rv sa2, Iv cc, Us, Us, Us, Us, Us, Us]) rfl ?_
    show Steps p.tables e below (T2.setTop (mkF m 10 #[Iv p1, Iv p2, Rv sa1, Rv sa2, Iv cc, Us, Us, Us, Us, Us, Us] [])) tt_
    refine XS.iload X2.here hEX rfl (hb hBY at_10) rfl ?_
    exact kt_
  refine Done.pre sg_12 ?_
  obtain ⟨_, _, ⟨T_13, L_13, k_13, n_13⟩, -, X_13, ⟨Lc_13, hQ_13, l_13, y_13, z_13⟩, st_13⟩ := Jvm.LawKit.callS X2 hEX (y := (⟨"com/example/sutf/sutf/model/HexDigits", "valueOf", "(C)I"⟩ : MethodName)) hOW (mvT hZW (hw _ (List.mem_of_getElem? (i := 9) rfl))) (mvT hZW (hw _ (List.mem_of_getElem? (i := 10) rfl))) (mvT hZW (hw _ (List.mem_of_getElem? (i := 11) rfl))) (mvT hZW (hw _ (List.mem_of_getElem? (i := 12) rfl))) (by decide) (backOf (W := 0) (rm_hex l Z aZ hw [] cc h2 n0 (Nat.le_trans Z0 K0.1) ) hZW (hw _ (List.mem_of_getElem? (i := 12) rfl)) (hw _ (List.mem_of_getElem? (i := 11) rfl)) (by decide) (by decide)) (g := (mkF m 12 #[Iv p1, Iv p2, Rv sa1, Rv sa2, Iv cc, Us, Us, Us, Us, Us, Us] [(.int cc)])) rfl (by rw [hMX]; rfl) (argsL := [(.int cc)]) (rest := []) (lenOf pd__C_I_1 rfl) rfl (by show 2 * 0 + _ ≤ _; exact Nat.le_of_eq rfl) (hb hBY at_12) (fun _ _ => ⟨rfl, e2, (by decide : 4 + 0 ≤ _), (by decide : 136 + 0 ≤ _)⟩)
  dsimp only [Pt.U, Pt.locs, Pt.cells, Pt.slots] at X_13 l_13 y_13 z_13 st_13 hQ_13
  subst l_13 y_13 z_13
  obtain ⟨rfl, N_13q, e_13⟩ := hQ_13
  have N_13 := Fr.app N0 N_13q
  refine Done.pre (fun _ k_ => st_13 _ k_) ?_
  show Done _ _ _ _ _ _ _ (T_13.setTop (mkF m 15 #[Iv p1, Iv p2, Rv sa1, Rv sa2, Iv cc, Us, Us, Us, Us, Us, Us] [(.int (own_hex cc))]))
  have sg_14 : ∀ tt_, Steps p.tables e below (T_13.setTop (mkF m 20 #[Iv p1, Iv p2, Rv sa1, Rv sa2, Iv cc, Iv (own_hex cc), Us, Us, Us, Us, Us] [(.int (-1 : Int32)), (.int (own_hex cc))])) tt_ → Steps p.tables e below (T_13.setTop (mkF m 15 #[Iv p1, Iv p2, Rv sa1, Rv sa2, Iv cc, Us, Us, Us, Us, Us, Us] [(.int (own_hex cc))])) tt_ := by
    intro tt_ kt_
    refine XS.istore X_13.here hEX rfl (hb hBY at_15) rfl (l' := #[Iv p1, Iv p2, Rv sa1, Rv sa2, Iv cc, Iv (own_hex cc), Us, Us, Us, Us, Us]) rfl ?_
    show Steps p.tables e below (T_13.setTop (mkF m 17 #[Iv p1, Iv p2, Rv sa1, Rv sa2, Iv cc, Iv (own_hex cc), Us, Us, Us, Us, Us] [])) tt_
    refine XS.iload X_13.here hEX rfl (hb hBY at_17) rfl ?_
    show Steps p.tables e below (T_13.setTop (mkF m 19 #[Iv p1, Iv p2, Rv sa1, Rv sa2, Iv cc, Iv (own_hex cc), Us, Us, Us, Us, Us] [(.int (own_hex cc))])) tt_
    refine XS.iconst X_13.here hEX rfl (hb hBY at_19) ?_
    exact kt_
  refine Done.pre sg_14 ?_
  by_cases hc20 : (own_hex cc) = (-1 : Int32)
  · skip
    have sg_15 : ∀ tt_, Steps p.tables e below (T_13.setTop (mkF m 80 #[Iv p1, Iv p2, Rv sa1, Rv sa2, Iv cc, Iv (own_hex cc), Iv (1 : Int32), Us, Us, Us, Us] [(.int (p2 &&& (15 : Int32)))])) tt_ → Steps p.tables e below (T_13.setTop (mkF m 20 #[Iv p1, Iv p2, Rv sa1, Rv sa2, Iv cc, Iv (own_hex cc), Us, Us, Us, Us, Us] [(.int (-1 : Int32)), (.int (own_hex cc))])) tt_ := by
      intro tt_ kt_
      refine XS.icmpNo X_13.here hEX rfl (hb hBY at_20) rfl (teq hc20).2 ?_
      show Steps p.tables e below (T_13.setTop (mkF m 23 #[Iv p1, Iv p2, Rv sa1, Rv sa2, Iv cc, Iv (own_hex cc), Us, Us, Us, Us, Us] [])) tt_
      refine XS.iconst X_13.here hEX rfl (hb hBY at_23) ?_
      show Steps p.tables e below (T_13.setTop (mkF m 24 #[Iv p1, Iv p2, Rv sa1, Rv sa2, Iv cc, Iv (own_hex cc), Us, Us, Us, Us, Us] [(.int (1 : Int32))])) tt_
      refine XS.istore X_13.here hEX rfl (hb hBY at_24) rfl (l' := #[Iv p1, Iv p2, Rv sa1, Rv sa2, Iv cc, Iv (own_hex cc), Iv (1 : Int32), Us, Us, Us, Us]) rfl ?_
      show Steps p.tables e below (T_13.setTop (mkF m 26 #[Iv p1, Iv p2, Rv sa1, Rv sa2, Iv cc, Iv (own_hex cc), Iv (1 : Int32), Us, Us, Us, Us] [])) tt_
      refine XS.goto X_13.here hEX rfl (pc0 := 26) (pc' := 76) rfl (hb hBY at_26) (by decide) (by decide) ?_
      show Steps p.tables e below (T_13.setTop (mkF m 76 #[Iv p1, Iv p2, Rv sa1, Rv sa2, Iv cc, Iv (own_hex cc), Iv (1 : Int32), Us, Us, Us, Us] [])) tt_
      refine XS.iloadN X_13.here hEX rfl (hb hBY at_76) rfl ?_
      show Steps p.tables e below (T_13.setTop (mkF m 77 #[Iv p1, Iv p2, Rv sa1, Rv sa2, Iv cc, Iv (own_hex cc), Iv (1 : Int32), Us, Us, Us, Us] [(.int p2)])) tt_
      refine XS.bipush X_13.here hEX rfl (hb hBY at_77) ?_
      show Steps p.tables e below (T_13.setTop (mkF m 79 #[Iv p1, Iv p2, Rv sa1, Rv sa2, Iv cc, Iv (own_hex cc), Iv (1 : Int32), Us, Us, Us, Us] [(.int (15 : Int32)), (.int p2)])) tt_
      refine XS.iand X_13.here hEX rfl (hb hBY at_79) rfl ?_
      exact kt_
    refine Done.pre sg_15 ?_
    show Done _ _ _ _ _ _ _ (T_13.setTop (mkF m 80 #[Iv p1, Iv p2, Rv sa1, Rv sa2, Iv cc, Iv (own_hex cc), Iv (1 : Int32), Us, Us, Us, Us] [(.int (p2 &&& (15 : Int32)))]))
    obtain ⟨v, hv⟩ : ∃ z : Int32, z = (p2 &&& (15 : Int32)) := ⟨_, rfl⟩
    rw [← hv]
    show Done _ _ _ _ _ _ _ (T_13.setTop (mkF m 80 #[Iv p1, Iv p2, Rv sa1, Rv sa2, Iv cc, Iv (own_hex cc), Iv (1 : Int32), Us, Us, Us, Us] [(.int v)]))
    have hvr : 0 ≤ v.toInt ∧ v.toInt ≤ 15 := by rw [hv]; exact own_m15 _
    have sg_16 : ∀ tt_, Steps p.tables e below (T_13.setTop (mkF m 86 #[Iv p1, Iv p2, Rv sa1, Rv sa2, Iv cc, Iv (own_hex cc), Iv (1 : Int32), Iv v, Us, Us, Us] [(.int (p2 &&& (16 : Int32)))])) tt_ → Steps p.tables e below (T_13.setTop (mkF m 80 #[Iv p1, Iv p2, Rv sa1, Rv sa2, Iv cc, Iv (own_hex cc), Iv (1 : Int32), Us, Us, Us, Us] [(.int v)])) tt_ := by
      intro tt_ kt_
      refine XS.istore X_13.here hEX rfl (hb hBY at_80) rfl (l' := #[Iv p1, Iv p2, Rv sa1, Rv sa2, Iv cc, Iv (own_hex cc), Iv (1 : Int32), Iv v, Us, Us, Us]) rfl ?_
      show Steps p.tables e below (T_13.setTop (mkF m 82 #[Iv p1, Iv p2, Rv sa1, Rv sa2, Iv cc, Iv (own_hex cc), Iv (1 : Int32), Iv v, Us, Us, Us] [])) tt_
      refine XS.iloadN X_13.here hEX rfl (hb hBY at_82) rfl ?_
      show Steps p.tables e below (T_13.setTop (mkF m 83 #[Iv p1, Iv p2, Rv sa1, Rv sa2, Iv cc, Iv (own_hex cc), Iv (1 : Int32), Iv v, Us, Us, Us] [(.int p2)])) tt_
      refine XS.bipush X_13.here hEX rfl (hb hBY at_83) ?_
      show Steps p.tables e below (T_13.setTop (mkF m 85 #[Iv p1, Iv p2, Rv sa1, Rv sa2, Iv cc, Iv (own_hex cc), Iv (1 : Int32), Iv v, Us, Us, Us] [(.int (16 : Int32)), (.int p2)])) tt_
      refine XS.iand X_13.here hEX rfl (hb hBY at_85) rfl ?_
      exact kt_
    refine Done.pre sg_16 ?_
    by_cases hc86 : (p2 &&& (16 : Int32)) = (0 : Int32)
    · skip
      have sg_17 : ∀ tt_, Steps p.tables e below (T_13.setTop (mkF m 113 #[Iv p1, Iv p2, Rv sa1, Rv sa2, Iv cc, Iv (own_hex cc), Iv (1 : Int32), Iv v, Iv (0 : Int32), Us, Us] [(.int v), (.ref sa1)])) tt_ → Steps p.tables e below (T_13.setTop (mkF m 86 #[Iv p1, Iv p2, Rv sa1, Rv sa2, Iv cc, Iv (own_hex cc), Iv (1 : Int32), Iv v, Us, Us, Us] [(.int (p2 &&& (16 : Int32)))])) tt_ := by
        intro tt_ kt_
        refine XS.ifYes X_13.here hEX rfl (pc0 := 86) (pc' := 93) rfl (hb hBY at_86) rfl ((if0 _ _).trans (teq hc86).1) (by decide) (by decide) ?_
        show Steps p.tables e below (T_13.setTop (mkF m 93 #[Iv p1, Iv p2, Rv sa1, Rv sa2, Iv cc, Iv (own_hex cc), Iv (1 : Int32), Iv v, Us, Us, Us] [])) tt_
        refine XS.iconst X_13.here hEX rfl (hb hBY at_93) ?_
        show Steps p.tables e below (T_13.setTop (mkF m 94 #[Iv p1, Iv p2, Rv sa1, Rv sa2, Iv cc, Iv (own_hex cc), Iv (1 : Int32), Iv v, Us, Us, Us] [(.int (0 : Int32))])) tt_
        refine XS.istore X_13.here hEX rfl (hb hBY at_94) rfl (l' := #[Iv p1, Iv p2, Rv sa1, Rv sa2, Iv cc, Iv (own_hex cc), Iv (1 : Int32), Iv v, Iv (0 : Int32), Us, Us]) rfl ?_
        show Steps p.tables e below (T_13.setTop (mkF m 96 #[Iv p1, Iv p2, Rv sa1, Rv sa2, Iv cc, Iv (own_hex cc), Iv (1 : Int32), Iv v, Iv (0 : Int32), Us, Us] [])) tt_
        refine XS.iload X_13.here hEX rfl (hb hBY at_96) rfl ?_
        show Steps p.tables e below (T_13.setTop (mkF m 98 #[Iv p1, Iv p2, Rv sa1, Rv sa2, Iv cc, Iv (own_hex cc), Iv (1 : Int32), Iv v, Iv (0 : Int32), Us, Us] [(.int (0 : Int32))])) tt_
        refine XS.ifYes X_13.here hEX rfl (pc0 := 98) (pc' := 110) rfl (hb hBY at_98) rfl ((if0 _ _).trans (teq (by decide : (0 : Int32) = (0 : Int32))).1) (by decide) (by decide) ?_
        show Steps p.tables e below (T_13.setTop (mkF m 110 #[Iv p1, Iv p2, Rv sa1, Rv sa2, Iv cc, Iv (own_hex cc), Iv (1 : Int32), Iv v, Iv (0 : Int32), Us, Us] [])) tt_
        refine XS.aloadN X_13.here hEX rfl (hb hBY at_110) rfl rfl ?_
        show Steps p.tables e below (T_13.setTop (mkF m 111 #[Iv p1, Iv p2, Rv sa1, Rv sa2, Iv cc, Iv (own_hex cc), Iv (1 : Int32), Iv v, Iv (0 : Int32), Us, Us] [(.ref sa1)])) tt_
        refine XS.iload X_13.here hEX rfl (hb hBY at_111) rfl ?_
        exact kt_
      refine Done.pre sg_17 ?_
      obtain ⟨cq_18, kq_18, q_18a, q_18b, q_18c⟩ := isOf hZW e_13 fE1
      obtain ⟨_, _, ⟨T_18, L_18, k_18, n_18⟩, -, X_18, ⟨Lc_18, hQ_18, l_18, y_18, z_18⟩, st_18⟩ := X_13.virtualBack hEX (y := (⟨"java/lang/String", "charAt", "(I)C"⟩ : MethodName)) (z := (⟨"java/lang/String", "charAt", "(I)C"⟩ : MethodName)) hOW (mvT hZW (hw _ (List.mem_of_getElem? (i := 13) rfl))) (mvT hZW (hw _ (List.mem_of_getElem? (i := 14) rfl))) (notFace_of_selects (args := #[]) (mvT hZW (hw _ (List.mem_of_getElem? (i := 16) rfl)))) (mvT hZW (hw _ (List.mem_of_getElem? (i := 16) rfl))) (mvT hZW (hw _ (List.mem_of_getElem? (i := 15) rfl))) (by decide) (backOf (W := 0) (rm_charAt l Z aZ hw [] sa1 v cz fv sb1 sk1 (16 : Int32) [(.int (48 : Int32)), (.int (49 : Int32)), (.int (50 : Int32)), (.int (51 : Int32)), (.int (52 : Int32)), (.int (53 : Int32)), (.int (54 : Int32)), (.int (55 : Int32)), (.int (56 : Int32)), (.int (57 : Int32)), (.int (65 : Int32)), (.int (66 : Int32)), (.int (67 : Int32)), (.int (68 : Int32)), (.int (69 : Int32)), (.int (70 : Int32))] (own_upp (v).toNatClampNeg) h2 n0 (Nat.le_trans Z0 K0.1) fE1 fS1 hcz fS2 hfv fC1 fV1 fA1 (own_ix _ hvr) (own_uppv _) (own_uppr _ hvr)) hZW (hw _ (List.mem_of_getElem? (i := 17) rfl)) (hw _ (List.mem_of_getElem? (i := 1) rfl)) (by decide) (by decide)) q_18a q_18c (g := (mkF m 113 #[Iv p1, Iv p2, Rv sa1, Rv sa2, Iv cc, Iv (own_hex cc), Iv (1 : Int32), Iv v, Iv (0 : Int32), Us, Us] [(.int v), (.ref sa1)])) rfl (by rw [hMX]; rfl) (Steps.refl _) (argsL := [(.int v)]) (rest := []) (lenOf pd__I_C_2 rfl) rfl (by show 2 * 0 + _ ≤ _; exact Nat.le_of_eq rfl) (hb hBY at_113) (fun _ _ => ⟨rfl, e_13, (by decide : 4 + 0 ≤ _), (by decide : 136 + 0 ≤ _)⟩)
      dsimp only [Pt.U, Pt.locs, Pt.cells, Pt.slots] at X_18 l_18 y_18 z_18 st_18 hQ_18
      subst l_18 y_18 z_18
      obtain ⟨rfl, N_18q, e_18⟩ := hQ_18
      have N_18 := Fr.app N_13 N_18q
      refine Done.pre (fun _ k_ => st_18.trans k_) ?_
      show Done _ _ _ _ _ _ _ (T_18.setTop (mkF m 116 #[Iv p1, Iv p2, Rv sa1, Rv sa2, Iv cc, Iv (own_hex cc), Iv (1 : Int32), Iv v, Iv (0 : Int32), Us, Us] [(.int (own_upp (v).toNatClampNeg))]))
      have sg_19 : ∀ tt_, Steps p.tables e below (T_18.setTop (mkF m 120 #[Iv p1, Iv p2, Rv sa1, Rv sa2, Iv cc, Iv (own_hex cc), Iv (1 : Int32), Iv v, Iv (0 : Int32), Iv (own_upp (v).toNatClampNeg), Us] [(.int (own_upp (v).toNatClampNeg))])) tt_ → Steps p.tables e below (T_18.setTop (mkF m 116 #[Iv p1, Iv p2, Rv sa1, Rv sa2, Iv cc, Iv (own_hex cc), Iv (1 : Int32), Iv v, Iv (0 : Int32), Us, Us] [(.int (own_upp (v).toNatClampNeg))])) tt_ := by
        intro tt_ kt_
        refine XS.istore X_18.here hEX rfl (hb hBY at_116) rfl (l' := #[Iv p1, Iv p2, Rv sa1, Rv sa2, Iv cc, Iv (own_hex cc), Iv (1 : Int32), Iv v, Iv (0 : Int32), Iv (own_upp (v).toNatClampNeg), Us]) rfl ?_
        show Steps p.tables e below (T_18.setTop (mkF m 118 #[Iv p1, Iv p2, Rv sa1, Rv sa2, Iv cc, Iv (own_hex cc), Iv (1 : Int32), Iv v, Iv (0 : Int32), Iv (own_upp (v).toNatClampNeg), Us] [])) tt_
        refine XS.iload X_18.here hEX rfl (hb hBY at_118) rfl ?_
        exact kt_
      refine Done.pre sg_19 ?_
      obtain ⟨_, _, ⟨T_20, L_20, k_20, n_20⟩, -, X_20, ⟨Lc_20, hQ_20, l_20, y_20, z_20⟩, st_20⟩ := Jvm.LawKit.callS X_18 hEX (y := (⟨"com/example/sutf/sutf/model/HexDigits", "valueOf", "(C)I"⟩ : MethodName)) hOW (mvT hZW (hw _ (List.mem_of_getElem? (i := 9) rfl))) (mvT hZW (hw _ (List.mem_of_getElem? (i := 10) rfl))) (mvT hZW (hw _ (List.mem_of_getElem? (i := 11) rfl))) (mvT hZW (hw _ (List.mem_of_getElem? (i := 12) rfl))) (by decide) (backOf (W := 0) (rm_hex l Z aZ hw [] (own_upp (v).toNatClampNeg) h2 n0 (Nat.le_trans Z0 K0.1) ) hZW (hw _ (List.mem_of_getElem? (i := 12) rfl)) (hw _ (List.mem_of_getElem? (i := 11) rfl)) (by decide) (by decide)) (g := (mkF m 120 #[Iv p1, Iv p2, Rv sa1, Rv sa2, Iv cc, Iv (own_hex cc), Iv (1 : Int32), Iv v, Iv (0 : Int32), Iv (own_upp (v).toNatClampNeg), Us] [(.int (own_upp (v).toNatClampNeg))])) rfl (by rw [hMX]; rfl) (argsL := [(.int (own_upp (v).toNatClampNeg))]) (rest := []) (lenOf pd__C_I_1 rfl) rfl (by show 2 * 0 + _ ≤ _; exact Nat.le_of_eq rfl) (hb hBY at_120) (fun _ _ => ⟨rfl, e_18, (by decide : 4 + 0 ≤ _), (by decide : 136 + 0 ≤ _)⟩)
      dsimp only [Pt.U, Pt.locs, Pt.cells, Pt.slots] at X_20 l_20 y_20 z_20 st_20 hQ_20
      subst l_20 y_20 z_20
      obtain ⟨rfl, N_20q, e_20⟩ := hQ_20
      have N_20 := Fr.app N_18 N_20q
      refine Done.pre (fun _ k_ => st_20 _ k_) ?_
      show Done _ _ _ _ _ _ _ (T_20.setTop (mkF m 123 #[Iv p1, Iv p2, Rv sa1, Rv sa2, Iv cc, Iv (own_hex cc), Iv (1 : Int32), Iv v, Iv (0 : Int32), Iv (own_upp (v).toNatClampNeg), Us] [(.int (own_hex (own_upp (v).toNatClampNeg)))]))
      have sg_21 : ∀ tt_, Steps p.tables e below (T_20.setTop (mkF m 150 #[Iv p1, Iv p2, Rv sa1, Rv sa2, Iv cc, Iv (own_hex cc), Iv (1 : Int32), Iv v, Iv (0 : Int32), Iv (own_upp (v).toNatClampNeg), Iv (1 : Int32)] [(.int (1 : Int32))])) tt_ → Steps p.tables e below (T_20.setTop (mkF m 123 #[Iv p1, Iv p2, Rv sa1, Rv sa2, Iv cc, Iv (own_hex cc), Iv (1 : Int32), Iv v, Iv (0 : Int32), Iv (own_upp (v).toNatClampNeg), Us] [(.int (own_hex (own_upp (v).toNatClampNeg)))])) tt_ := by
        intro tt_ kt_
        refine XS.iload X_20.here hEX rfl (hb hBY at_123) rfl ?_
        show Steps p.tables e below (T_20.setTop (mkF m 125 #[Iv p1, Iv p2, Rv sa1, Rv sa2, Iv cc, Iv (own_hex cc), Iv (1 : Int32), Iv v, Iv (0 : Int32), Iv (own_upp (v).toNatClampNeg), Us] [(.int v), (.int (own_hex (own_upp (v).toNatClampNeg)))])) tt_
        refine XS.icmpNo X_20.here hEX rfl (hb hBY at_125) rfl (teq (own_hexupp v hvr : (own_hex (own_upp (v).toNatClampNeg)) = v)).2 ?_
        show Steps p.tables e below (T_20.setTop (mkF m 128 #[Iv p1, Iv p2, Rv sa1, Rv sa2, Iv cc, Iv (own_hex cc), Iv (1 : Int32), Iv v, Iv (0 : Int32), Iv (own_upp (v).toNatClampNeg), Us] [])) tt_
        refine XS.iconst X_20.here hEX rfl (hb hBY at_128) ?_
        show Steps p.tables e below (T_20.setTop (mkF m 129 #[Iv p1, Iv p2, Rv sa1, Rv sa2, Iv cc, Iv (own_hex cc), Iv (1 : Int32), Iv v, Iv (0 : Int32), Iv (own_upp (v).toNatClampNeg), Us] [(.int (1 : Int32))])) tt_
        refine XS.goto X_20.here hEX rfl (pc0 := 129) (pc' := 133) rfl (hb hBY at_129) (by decide) (by decide) ?_
        show Steps p.tables e below (T_20.setTop (mkF m 133 #[Iv p1, Iv p2, Rv sa1, Rv sa2, Iv cc, Iv (own_hex cc), Iv (1 : Int32), Iv v, Iv (0 : Int32), Iv (own_upp (v).toNatClampNeg), Us] [(.int (1 : Int32))])) tt_
        refine XS.istore X_20.here hEX rfl (hb hBY at_133) rfl (l' := #[Iv p1, Iv p2, Rv sa1, Rv sa2, Iv cc, Iv (own_hex cc), Iv (1 : Int32), Iv v, Iv (0 : Int32), Iv (own_upp (v).toNatClampNeg), Iv (1 : Int32)]) rfl ?_
        show Steps p.tables e below (T_20.setTop (mkF m 135 #[Iv p1, Iv p2, Rv sa1, Rv sa2, Iv cc, Iv (own_hex cc), Iv (1 : Int32), Iv v, Iv (0 : Int32), Iv (own_upp (v).toNatClampNeg), Iv (1 : Int32)] [])) tt_
        refine XS.iload X_20.here hEX rfl (hb hBY at_135) rfl ?_
        show Steps p.tables e below (T_20.setTop (mkF m 137 #[Iv p1, Iv p2, Rv sa1, Rv sa2, Iv cc, Iv (own_hex cc), Iv (1 : Int32), Iv v, Iv (0 : Int32), Iv (own_upp (v).toNatClampNeg), Iv (1 : Int32)] [(.int (1 : Int32))])) tt_
        refine XS.ifNo X_20.here hEX rfl (hb hBY at_137) rfl ((if0 _ _).trans (feq (by decide : ¬ ((1 : Int32) = (0 : Int32)))).1) ?_
        show Steps p.tables e below (T_20.setTop (mkF m 140 #[Iv p1, Iv p2, Rv sa1, Rv sa2, Iv cc, Iv (own_hex cc), Iv (1 : Int32), Iv v, Iv (0 : Int32), Iv (own_upp (v).toNatClampNeg), Iv (1 : Int32)] [])) tt_
        refine XS.iload X_20.here hEX rfl (hb hBY at_140) rfl ?_
        show Steps p.tables e below (T_20.setTop (mkF m 142 #[Iv p1, Iv p2, Rv sa1, Rv sa2, Iv cc, Iv (own_hex cc), Iv (1 : Int32), Iv v, Iv (0 : Int32), Iv (own_upp (v).toNatClampNeg), Iv (1 : Int32)] [(.int (1 : Int32))])) tt_
        refine XS.ifNo X_20.here hEX rfl (hb hBY at_142) rfl ((if0 _ _).trans (feq (by decide : ¬ ((1 : Int32) = (0 : Int32)))).1) ?_
        show Steps p.tables e below (T_20.setTop (mkF m 145 #[Iv p1, Iv p2, Rv sa1, Rv sa2, Iv cc, Iv (own_hex cc), Iv (1 : Int32), Iv v, Iv (0 : Int32), Iv (own_upp (v).toNatClampNeg), Iv (1 : Int32)] [])) tt_
        refine XS.iconst X_20.here hEX rfl (hb hBY at_145) ?_
        show Steps p.tables e below (T_20.setTop (mkF m 146 #[Iv p1, Iv p2, Rv sa1, Rv sa2, Iv cc, Iv (own_hex cc), Iv (1 : Int32), Iv v, Iv (0 : Int32), Iv (own_upp (v).toNatClampNeg), Iv (1 : Int32)] [(.int (1 : Int32))])) tt_
        refine XS.goto X_20.here hEX rfl (pc0 := 146) (pc' := 150) rfl (hb hBY at_146) (by decide) (by decide) ?_
        exact kt_
      refine Done.pre sg_21 ?_
      exact Done.retN X_20 hEX hLK (t := .boolean) hRT (by simp) (hb hBY at_150) (by rw [e_20]; exact ⟨rfl, N_20, rfl⟩) (by decide) (by decide)
    · skip
      have sg_22 : ∀ tt_, Steps p.tables e below (T_13.setTop (mkF m 104 #[Iv p1, Iv p2, Rv sa1, Rv sa2, Iv cc, Iv (own_hex cc), Iv (1 : Int32), Iv v, Iv (1 : Int32), Us, Us] [(.int v), (.ref sa2)])) tt_ → Steps p.tables e below (T_13.setTop (mkF m 86 #[Iv p1, Iv p2, Rv sa1, Rv sa2, Iv cc, Iv (own_hex cc), Iv (1 : Int32), Iv v, Us, Us, Us] [(.int (p2 &&& (16 : Int32)))])) tt_ := by
        intro tt_ kt_
        refine XS.ifNo X_13.here hEX rfl (hb hBY at_86) rfl ((if0 _ _).trans (feq hc86).1) ?_
        show Steps p.tables e below (T_13.setTop (mkF m 89 #[Iv p1, Iv p2, Rv sa1, Rv sa2, Iv cc, Iv (own_hex cc), Iv (1 : Int32), Iv v, Us, Us, Us] [])) tt_
        refine XS.iconst X_13.here hEX rfl (hb hBY at_89) ?_
        show Steps p.tables e below (T_13.setTop (mkF m 90 #[Iv p1, Iv p2, Rv sa1, Rv sa2, Iv cc, Iv (own_hex cc), Iv (1 : Int32), Iv v, Us, Us, Us] [(.int (1 : Int32))])) tt_
        refine XS.goto X_13.here hEX rfl (pc0 := 90) (pc' := 94) rfl (hb hBY at_90) (by decide) (by decide) ?_
        show Steps p.tables e below (T_13.setTop (mkF m 94 #[Iv p1, Iv p2, Rv sa1, Rv sa2, Iv cc, Iv (own_hex cc), Iv (1 : Int32), Iv v, Us, Us, Us] [(.int (1 : Int32))])) tt_
        refine XS.istore X_13.here hEX rfl (hb hBY at_94) rfl (l' := #[Iv p1, Iv p2, Rv sa1, Rv sa2, Iv cc, Iv (own_hex cc), Iv (1 : Int32), Iv v, Iv (1 : Int32), Us, Us]) rfl ?_
        show Steps p.tables e below (T_13.setTop (mkF m 96 #[Iv p1, Iv p2, Rv sa1, Rv sa2, Iv cc, Iv (own_hex cc), Iv (1 : Int32), Iv v, Iv (1 : Int32), Us, Us] [])) tt_
        refine XS.iload X_13.here hEX rfl (hb hBY at_96) rfl ?_
        show Steps p.tables e below (T_13.setTop (mkF m 98 #[Iv p1, Iv p2, Rv sa1, Rv sa2, Iv cc, Iv (own_hex cc), Iv (1 : Int32), Iv v, Iv (1 : Int32), Us, Us] [(.int (1 : Int32))])) tt_
        refine XS.ifNo X_13.here hEX rfl (hb hBY at_98) rfl ((if0 _ _).trans (feq (by decide : ¬ ((1 : Int32) = (0 : Int32)))).1) ?_
        show Steps p.tables e below (T_13.setTop (mkF m 101 #[Iv p1, Iv p2, Rv sa1, Rv sa2, Iv cc, Iv (own_hex cc), Iv (1 : Int32), Iv v, Iv (1 : Int32), Us, Us] [])) tt_
        refine XS.aloadN X_13.here hEX rfl (hb hBY at_101) rfl rfl ?_
        show Steps p.tables e below (T_13.setTop (mkF m 102 #[Iv p1, Iv p2, Rv sa1, Rv sa2, Iv cc, Iv (own_hex cc), Iv (1 : Int32), Iv v, Iv (1 : Int32), Us, Us] [(.ref sa2)])) tt_
        refine XS.iload X_13.here hEX rfl (hb hBY at_102) rfl ?_
        exact kt_
      refine Done.pre sg_22 ?_
      obtain ⟨cq_23, kq_23, q_23a, q_23b, q_23c⟩ := isOf hZW e_13 fE2
      obtain ⟨_, _, ⟨T_23, L_23, k_23, n_23⟩, -, X_23, ⟨Lc_23, hQ_23, l_23, y_23, z_23⟩, st_23⟩ := X_13.virtualBack hEX (y := (⟨"java/lang/String", "charAt", "(I)C"⟩ : MethodName)) (z := (⟨"java/lang/String", "charAt", "(I)C"⟩ : MethodName)) hOW (mvT hZW (hw _ (List.mem_of_getElem? (i := 13) rfl))) (mvT hZW (hw _ (List.mem_of_getElem? (i := 14) rfl))) (notFace_of_selects (args := #[]) (mvT hZW (hw _ (List.mem_of_getElem? (i := 16) rfl)))) (mvT hZW (hw _ (List.mem_of_getElem? (i := 16) rfl))) (mvT hZW (hw _ (List.mem_of_getElem? (i := 15) rfl))) (by decide) (backOf (W := 0) (rm_charAt l Z aZ hw [] sa2 v cz fv sb2 sk2 (16 : Int32) [(.int (48 : Int32)), (.int (49 : Int32)), (.int (50 : Int32)), (.int (51 : Int32)), (.int (52 : Int32)), (.int (53 : Int32)), (.int (54 : Int32)), (.int (55 : Int32)), (.int (56 : Int32)), (.int (57 : Int32)), (.int (97 : Int32)), (.int (98 : Int32)), (.int (99 : Int32)), (.int (100 : Int32)), (.int (101 : Int32)), (.int (102 : Int32))] (own_low (v).toNatClampNeg) h2 n0 (Nat.le_trans Z0 K0.1) fE2 fS1 hcz fS2 hfv fC2 fV2 fA2 (own_ix _ hvr) (own_lowv _) (own_lowr _ hvr)) hZW (hw _ (List.mem_of_getElem? (i := 17) rfl)) (hw _ (List.mem_of_getElem? (i := 1) rfl)) (by decide) (by decide)) q_23a q_23c (g := (mkF m 104 #[Iv p1, Iv p2, Rv sa1, Rv sa2, Iv cc, Iv (own_hex cc), Iv (1 : Int32), Iv v, Iv (1 : Int32), Us, Us] [(.int v), (.ref sa2)])) rfl (by rw [hMX]; rfl) (Steps.refl _) (argsL := [(.int v)]) (rest := []) (lenOf pd__I_C_2 rfl) rfl (by show 2 * 0 + _ ≤ _; exact Nat.le_of_eq rfl) (hb hBY at_104) (fun _ _ => ⟨rfl, e_13, (by decide : 4 + 0 ≤ _), (by decide : 136 + 0 ≤ _)⟩)
      dsimp only [Pt.U, Pt.locs, Pt.cells, Pt.slots] at X_23 l_23 y_23 z_23 st_23 hQ_23
      subst l_23 y_23 z_23
      obtain ⟨rfl, N_23q, e_23⟩ := hQ_23
      have N_23 := Fr.app N_13 N_23q
      refine Done.pre (fun _ k_ => st_23.trans k_) ?_
      show Done _ _ _ _ _ _ _ (T_23.setTop (mkF m 107 #[Iv p1, Iv p2, Rv sa1, Rv sa2, Iv cc, Iv (own_hex cc), Iv (1 : Int32), Iv v, Iv (1 : Int32), Us, Us] [(.int (own_low (v).toNatClampNeg))]))
      have sg_24 : ∀ tt_, Steps p.tables e below (T_23.setTop (mkF m 120 #[Iv p1, Iv p2, Rv sa1, Rv sa2, Iv cc, Iv (own_hex cc), Iv (1 : Int32), Iv v, Iv (1 : Int32), Iv (own_low (v).toNatClampNeg), Us] [(.int (own_low (v).toNatClampNeg))])) tt_ → Steps p.tables e below (T_23.setTop (mkF m 107 #[Iv p1, Iv p2, Rv sa1, Rv sa2, Iv cc, Iv (own_hex cc), Iv (1 : Int32), Iv v, Iv (1 : Int32), Us, Us] [(.int (own_low (v).toNatClampNeg))])) tt_ := by
        intro tt_ kt_
        refine XS.goto X_23.here hEX rfl (pc0 := 107) (pc' := 116) rfl (hb hBY at_107) (by decide) (by decide) ?_
        show Steps p.tables e below (T_23.setTop (mkF m 116 #[Iv p1, Iv p2, Rv sa1, Rv sa2, Iv cc, Iv (own_hex cc), Iv (1 : Int32), Iv v, Iv (1 : Int32), Us, Us] [(.int (own_low (v).toNatClampNeg))])) tt_
        refine XS.istore X_23.here hEX rfl (hb hBY at_116) rfl (l' := #[Iv p1, Iv p2, Rv sa1, Rv sa2, Iv cc, Iv (own_hex cc), Iv (1 : Int32), Iv v, Iv (1 : Int32), Iv (own_low (v).toNatClampNeg), Us]) rfl ?_
        show Steps p.tables e below (T_23.setTop (mkF m 118 #[Iv p1, Iv p2, Rv sa1, Rv sa2, Iv cc, Iv (own_hex cc), Iv (1 : Int32), Iv v, Iv (1 : Int32), Iv (own_low (v).toNatClampNeg), Us] [])) tt_
        refine XS.iload X_23.here hEX rfl (hb hBY at_118) rfl ?_
        exact kt_
      refine Done.pre sg_24 ?_
      obtain ⟨_, _, ⟨T_25, L_25, k_25, n_25⟩, -, X_25, ⟨Lc_25, hQ_25, l_25, y_25, z_25⟩, st_25⟩ := Jvm.LawKit.callS X_23 hEX (y := (⟨"com/example/sutf/sutf/model/HexDigits", "valueOf", "(C)I"⟩ : MethodName)) hOW (mvT hZW (hw _ (List.mem_of_getElem? (i := 9) rfl))) (mvT hZW (hw _ (List.mem_of_getElem? (i := 10) rfl))) (mvT hZW (hw _ (List.mem_of_getElem? (i := 11) rfl))) (mvT hZW (hw _ (List.mem_of_getElem? (i := 12) rfl))) (by decide) (backOf (W := 0) (rm_hex l Z aZ hw [] (own_low (v).toNatClampNeg) h2 n0 (Nat.le_trans Z0 K0.1) ) hZW (hw _ (List.mem_of_getElem? (i := 12) rfl)) (hw _ (List.mem_of_getElem? (i := 11) rfl)) (by decide) (by decide)) (g := (mkF m 120 #[Iv p1, Iv p2, Rv sa1, Rv sa2, Iv cc, Iv (own_hex cc), Iv (1 : Int32), Iv v, Iv (1 : Int32), Iv (own_low (v).toNatClampNeg), Us] [(.int (own_low (v).toNatClampNeg))])) rfl (by rw [hMX]; rfl) (argsL := [(.int (own_low (v).toNatClampNeg))]) (rest := []) (lenOf pd__C_I_1 rfl) rfl (by show 2 * 0 + _ ≤ _; exact Nat.le_of_eq rfl) (hb hBY at_120) (fun _ _ => ⟨rfl, e_23, (by decide : 4 + 0 ≤ _), (by decide : 136 + 0 ≤ _)⟩)
      dsimp only [Pt.U, Pt.locs, Pt.cells, Pt.slots] at X_25 l_25 y_25 z_25 st_25 hQ_25
      subst l_25 y_25 z_25
      obtain ⟨rfl, N_25q, e_25⟩ := hQ_25
      have N_25 := Fr.app N_23 N_25q
      refine Done.pre (fun _ k_ => st_25 _ k_) ?_
      show Done _ _ _ _ _ _ _ (T_25.setTop (mkF m 123 #[Iv p1, Iv p2, Rv sa1, Rv sa2, Iv cc, Iv (own_hex cc), Iv (1 : Int32), Iv v, Iv (1 : Int32), Iv (own_low (v).toNatClampNeg), Us] [(.int (own_hex (own_low (v).toNatClampNeg)))]))
      have sg_26 : ∀ tt_, Steps p.tables e below (T_25.setTop (mkF m 150 #[Iv p1, Iv p2, Rv sa1, Rv sa2, Iv cc, Iv (own_hex cc), Iv (1 : Int32), Iv v, Iv (1 : Int32), Iv (own_low (v).toNatClampNeg), Iv (1 : Int32)] [(.int (1 : Int32))])) tt_ → Steps p.tables e below (T_25.setTop (mkF m 123 #[Iv p1, Iv p2, Rv sa1, Rv sa2, Iv cc, Iv (own_hex cc), Iv (1 : Int32), Iv v, Iv (1 : Int32), Iv (own_low (v).toNatClampNeg), Us] [(.int (own_hex (own_low (v).toNatClampNeg)))])) tt_ := by
        intro tt_ kt_
        refine XS.iload X_25.here hEX rfl (hb hBY at_123) rfl ?_
        show Steps p.tables e below (T_25.setTop (mkF m 125 #[Iv p1, Iv p2, Rv sa1, Rv sa2, Iv cc, Iv (own_hex cc), Iv (1 : Int32), Iv v, Iv (1 : Int32), Iv (own_low (v).toNatClampNeg), Us] [(.int v), (.int (own_hex (own_low (v).toNatClampNeg)))])) tt_
        refine XS.icmpNo X_25.here hEX rfl (hb hBY at_125) rfl (teq (own_hexlow v hvr : (own_hex (own_low (v).toNatClampNeg)) = v)).2 ?_
        show Steps p.tables e below (T_25.setTop (mkF m 128 #[Iv p1, Iv p2, Rv sa1, Rv sa2, Iv cc, Iv (own_hex cc), Iv (1 : Int32), Iv v, Iv (1 : Int32), Iv (own_low (v).toNatClampNeg), Us] [])) tt_
        refine XS.iconst X_25.here hEX rfl (hb hBY at_128) ?_
        show Steps p.tables e below (T_25.setTop (mkF m 129 #[Iv p1, Iv p2, Rv sa1, Rv sa2, Iv cc, Iv (own_hex cc), Iv (1 : Int32), Iv v, Iv (1 : Int32), Iv (own_low (v).toNatClampNeg), Us] [(.int (1 : Int32))])) tt_
        refine XS.goto X_25.here hEX rfl (pc0 := 129) (pc' := 133) rfl (hb hBY at_129) (by decide) (by decide) ?_
        show Steps p.tables e below (T_25.setTop (mkF m 133 #[Iv p1, Iv p2, Rv sa1, Rv sa2, Iv cc, Iv (own_hex cc), Iv (1 : Int32), Iv v, Iv (1 : Int32), Iv (own_low (v).toNatClampNeg), Us] [(.int (1 : Int32))])) tt_
        refine XS.istore X_25.here hEX rfl (hb hBY at_133) rfl (l' := #[Iv p1, Iv p2, Rv sa1, Rv sa2, Iv cc, Iv (own_hex cc), Iv (1 : Int32), Iv v, Iv (1 : Int32), Iv (own_low (v).toNatClampNeg), Iv (1 : Int32)]) rfl ?_
        show Steps p.tables e below (T_25.setTop (mkF m 135 #[Iv p1, Iv p2, Rv sa1, Rv sa2, Iv cc, Iv (own_hex cc), Iv (1 : Int32), Iv v, Iv (1 : Int32), Iv (own_low (v).toNatClampNeg), Iv (1 : Int32)] [])) tt_
        refine XS.iload X_25.here hEX rfl (hb hBY at_135) rfl ?_
        show Steps p.tables e below (T_25.setTop (mkF m 137 #[Iv p1, Iv p2, Rv sa1, Rv sa2, Iv cc, Iv (own_hex cc), Iv (1 : Int32), Iv v, Iv (1 : Int32), Iv (own_low (v).toNatClampNeg), Iv (1 : Int32)] [(.int (1 : Int32))])) tt_
        refine XS.ifNo X_25.here hEX rfl (hb hBY at_137) rfl ((if0 _ _).trans (feq (by decide : ¬ ((1 : Int32) = (0 : Int32)))).1) ?_
        show Steps p.tables e below (T_25.setTop (mkF m 140 #[Iv p1, Iv p2, Rv sa1, Rv sa2, Iv cc, Iv (own_hex cc), Iv (1 : Int32), Iv v, Iv (1 : Int32), Iv (own_low (v).toNatClampNeg), Iv (1 : Int32)] [])) tt_
        refine XS.iload X_25.here hEX rfl (hb hBY at_140) rfl ?_
        show Steps p.tables e below (T_25.setTop (mkF m 142 #[Iv p1, Iv p2, Rv sa1, Rv sa2, Iv cc, Iv (own_hex cc), Iv (1 : Int32), Iv v, Iv (1 : Int32), Iv (own_low (v).toNatClampNeg), Iv (1 : Int32)] [(.int (1 : Int32))])) tt_
        refine XS.ifNo X_25.here hEX rfl (hb hBY at_142) rfl ((if0 _ _).trans (feq (by decide : ¬ ((1 : Int32) = (0 : Int32)))).1) ?_
        show Steps p.tables e below (T_25.setTop (mkF m 145 #[Iv p1, Iv p2, Rv sa1, Rv sa2, Iv cc, Iv (own_hex cc), Iv (1 : Int32), Iv v, Iv (1 : Int32), Iv (own_low (v).toNatClampNeg), Iv (1 : Int32)] [])) tt_
        refine XS.iconst X_25.here hEX rfl (hb hBY at_145) ?_
        show Steps p.tables e below (T_25.setTop (mkF m 146 #[Iv p1, Iv p2, Rv sa1, Rv sa2, Iv cc, Iv (own_hex cc), Iv (1 : Int32), Iv v, Iv (1 : Int32), Iv (own_low (v).toNatClampNeg), Iv (1 : Int32)] [(.int (1 : Int32))])) tt_
        refine XS.goto X_25.here hEX rfl (pc0 := 146) (pc' := 150) rfl (hb hBY at_146) (by decide) (by decide) ?_
        exact kt_
      refine Done.pre sg_26 ?_
      exact Done.retN X_25 hEX hLK (t := .boolean) hRT (by simp) (hb hBY at_150) (by rw [e_25]; exact ⟨rfl, N_25, rfl⟩) (by decide) (by decide)
  · skip
    have sg_27 : ∀ tt_, Steps p.tables e below (T_13.setTop (mkF m 46 #[Iv p1, Iv p2, Rv sa1, Rv sa2, Iv cc, Iv (own_hex cc), Us, Us, Us, Us, Us] [(.int (own_hex cc)), (.ref sa1), (.int cc)])) tt_ → Steps p.tables e below (T_13.setTop (mkF m 20 #[Iv p1, Iv p2, Rv sa1, Rv sa2, Iv cc, Iv (own_hex cc), Us, Us, Us, Us, Us] [(.int (-1 : Int32)), (.int (own_hex cc))])) tt_ := by
      intro tt_ kt_
      refine XS.icmpYes X_13.here hEX rfl (pc0 := 20) (pc' := 29) rfl (hb hBY at_20) rfl (feq hc20).2 (by decide) (by decide) ?_
      show Steps p.tables e below (T_13.setTop (mkF m 29 #[Iv p1, Iv p2, Rv sa1, Rv sa2, Iv cc, Iv (own_hex cc), Us, Us, Us, Us, Us] [])) tt_
      refine XS.iload X_13.here hEX rfl (hb hBY at_29) rfl ?_
      show Steps p.tables e below (T_13.setTop (mkF m 31 #[Iv p1, Iv p2, Rv sa1, Rv sa2, Iv cc, Iv (own_hex cc), Us, Us, Us, Us, Us] [(.int (own_hex cc))])) tt_
      refine XS.ifNo X_13.here hEX rfl (hb hBY at_31) rfl ((if0 _ _).trans (flt (own_r0 cc hc20 : ¬ ((own_hex cc) < (0 : Int32)))).1) ?_
      show Steps p.tables e below (T_13.setTop (mkF m 34 #[Iv p1, Iv p2, Rv sa1, Rv sa2, Iv cc, Iv (own_hex cc), Us, Us, Us, Us, Us] [])) tt_
      refine XS.iload X_13.here hEX rfl (hb hBY at_34) rfl ?_
      show Steps p.tables e below (T_13.setTop (mkF m 36 #[Iv p1, Iv p2, Rv sa1, Rv sa2, Iv cc, Iv (own_hex cc), Us, Us, Us, Us, Us] [(.int (own_hex cc))])) tt_
      refine XS.bipush X_13.here hEX rfl (hb hBY at_36) ?_
      show Steps p.tables e below (T_13.setTop (mkF m 38 #[Iv p1, Iv p2, Rv sa1, Rv sa2, Iv cc, Iv (own_hex cc), Us, Us, Us, Us, Us] [(.int (15 : Int32)), (.int (own_hex cc))])) tt_
      refine XS.icmpNo X_13.here hEX rfl (hb hBY at_38) rfl (flt (own_r15 cc hc20 : ¬ ((15 : Int32) < (own_hex cc)))).2.2.1 ?_
      show Steps p.tables e below (T_13.setTop (mkF m 41 #[Iv p1, Iv p2, Rv sa1, Rv sa2, Iv cc, Iv (own_hex cc), Us, Us, Us, Us, Us] [])) tt_
      refine XS.iload X_13.here hEX rfl (hb hBY at_41) rfl ?_
      show Steps p.tables e below (T_13.setTop (mkF m 43 #[Iv p1, Iv p2, Rv sa1, Rv sa2, Iv cc, Iv (own_hex cc), Us, Us, Us, Us, Us] [(.int cc)])) tt_
      refine XS.aloadN X_13.here hEX rfl (hb hBY at_43) rfl rfl ?_
      show Steps p.tables e below (T_13.setTop (mkF m 44 #[Iv p1, Iv p2, Rv sa1, Rv sa2, Iv cc, Iv (own_hex cc), Us, Us, Us, Us, Us] [(.ref sa1), (.int cc)])) tt_
      refine XS.iload X_13.here hEX rfl (hb hBY at_44) rfl ?_
      exact kt_
    refine Done.pre sg_27 ?_
    obtain ⟨cq_28, kq_28, q_28a, q_28b, q_28c⟩ := isOf hZW e_13 fE1
    obtain ⟨_, _, ⟨T_28, L_28, k_28, n_28⟩, -, X_28, ⟨Lc_28, hQ_28, l_28, y_28, z_28⟩, st_28⟩ := X_13.virtualBack hEX (y := (⟨"java/lang/String", "charAt", "(I)C"⟩ : MethodName)) (z := (⟨"java/lang/String", "charAt", "(I)C"⟩ : MethodName)) hOW (mvT hZW (hw _ (List.mem_of_getElem? (i := 13) rfl))) (mvT hZW (hw _ (List.mem_of_getElem? (i := 14) rfl))) (notFace_of_selects (args := #[]) (mvT hZW (hw _ (List.mem_of_getElem? (i := 16) rfl)))) (mvT hZW (hw _ (List.mem_of_getElem? (i := 16) rfl))) (mvT hZW (hw _ (List.mem_of_getElem? (i := 15) rfl))) (by decide) (backOf (W := 1) (rm_charAt l Z aZ hw [] sa1 (own_hex cc) cz fv sb1 sk1 (16 : Int32) [(.int (48 : Int32)), (.int (49 : Int32)), (.int (50 : Int32)), (.int (51 : Int32)), (.int (52 : Int32)), (.int (53 : Int32)), (.int (54 : Int32)), (.int (55 : Int32)), (.int (56 : Int32)), (.int (57 : Int32)), (.int (65 : Int32)), (.int (66 : Int32)), (.int (67 : Int32)), (.int (68 : Int32)), (.int (69 : Int32)), (.int (70 : Int32))] (own_upp ((own_hex cc)).toNatClampNeg) h2 n0 (Nat.le_trans Z0 K0.1) fE1 fS1 hcz fS2 hfv fC1 fV1 fA1 (own_ix _ (own_rr cc hc20)) (own_uppv _) (own_uppr _ (own_rr cc hc20))) hZW (hw _ (List.mem_of_getElem? (i := 17) rfl)) (hw _ (List.mem_of_getElem? (i := 1) rfl)) (by decide) (by decide)) q_28a q_28c (g := (mkF m 46 #[Iv p1, Iv p2, Rv sa1, Rv sa2, Iv cc, Iv (own_hex cc), Us, Us, Us, Us, Us] [(.int (own_hex cc)), (.ref sa1), (.int cc)])) rfl (by rw [hMX]; rfl) (Steps.refl _) (argsL := [(.int (own_hex cc))]) (rest := [(.int cc)]) (lenOf pd__I_C_2 rfl) rfl (by show 2 * 0 + _ ≤ _; exact Nat.le_of_eq rfl) (hb hBY at_46) (fun _ _ => ⟨rfl, e_13, (by decide : 4 + 0 ≤ _), (by decide : 136 + 0 ≤ _)⟩)
    dsimp only [Pt.U, Pt.locs, Pt.cells, Pt.slots] at X_28 l_28 y_28 z_28 st_28 hQ_28
    subst l_28 y_28 z_28
    obtain ⟨rfl, N_28q, e_28⟩ := hQ_28
    have N_28 := Fr.app N_13 N_28q
    refine Done.pre (fun _ k_ => st_28.trans k_) ?_
    show Done _ _ _ _ _ _ _ (T_28.setTop (mkF m 49 #[Iv p1, Iv p2, Rv sa1, Rv sa2, Iv cc, Iv (own_hex cc), Us, Us, Us, Us, Us] [(.int (own_upp ((own_hex cc)).toNatClampNeg)), (.int cc)]))
    by_cases hc49 : cc = (own_upp ((own_hex cc)).toNatClampNeg)
    · skip
      have sg_29 : ∀ tt_, Steps p.tables e below (T_28.setTop (mkF m 80 #[Iv p1, Iv p2, Rv sa1, Rv sa2, Iv cc, Iv (own_hex cc), Iv (1 : Int32), Us, Us, Us, Us] [(.int (p2 &&& (15 : Int32)))])) tt_ → Steps p.tables e below (T_28.setTop (mkF m 49 #[Iv p1, Iv p2, Rv sa1, Rv sa2, Iv cc, Iv (own_hex cc), Us, Us, Us, Us, Us] [(.int (own_upp ((own_hex cc)).toNatClampNeg)), (.int cc)])) tt_ := by
        intro tt_ kt_
        refine XS.icmpYes X_28.here hEX rfl (pc0 := 49) (pc' := 63) rfl (hb hBY at_49) rfl (teq hc49).1 (by decide) (by decide) ?_
        show Steps p.tables e below (T_28.setTop (mkF m 63 #[Iv p1, Iv p2, Rv sa1, Rv sa2, Iv cc, Iv (own_hex cc), Us, Us, Us, Us, Us] [])) tt_
        refine XS.iconst X_28.here hEX rfl (hb hBY at_63) ?_
        show Steps p.tables e below (T_28.setTop (mkF m 64 #[Iv p1, Iv p2, Rv sa1, Rv sa2, Iv cc, Iv (own_hex cc), Us, Us, Us, Us, Us] [(.int (1 : Int32))])) tt_
        refine XS.goto X_28.here hEX rfl (pc0 := 64) (pc' := 68) rfl (hb hBY at_64) (by decide) (by decide) ?_
        show Steps p.tables e below (T_28.setTop (mkF m 68 #[Iv p1, Iv p2, Rv sa1, Rv sa2, Iv cc, Iv (own_hex cc), Us, Us, Us, Us, Us] [(.int (1 : Int32))])) tt_
        refine XS.istore X_28.here hEX rfl (hb hBY at_68) rfl (l' := #[Iv p1, Iv p2, Rv sa1, Rv sa2, Iv cc, Iv (own_hex cc), Iv (1 : Int32), Us, Us, Us, Us]) rfl ?_
        show Steps p.tables e below (T_28.setTop (mkF m 70 #[Iv p1, Iv p2, Rv sa1, Rv sa2, Iv cc, Iv (own_hex cc), Iv (1 : Int32), Us, Us, Us, Us] [])) tt_
        refine XS.goto X_28.here hEX rfl (pc0 := 70) (pc' := 76) rfl (hb hBY at_70) (by decide) (by decide) ?_
        show Steps p.tables e below (T_28.setTop (mkF m 76 #[Iv p1, Iv p2, Rv sa1, Rv sa2, Iv cc, Iv (own_hex cc), Iv (1 : Int32), Us, Us, Us, Us] [])) tt_
        refine XS.iloadN X_28.here hEX rfl (hb hBY at_76) rfl ?_
        show Steps p.tables e below (T_28.setTop (mkF m 77 #[Iv p1, Iv p2, Rv sa1, Rv sa2, Iv cc, Iv (own_hex cc), Iv (1 : Int32), Us, Us, Us, Us] [(.int p2)])) tt_
        refine XS.bipush X_28.here hEX rfl (hb hBY at_77) ?_
        show Steps p.tables e below (T_28.setTop (mkF m 79 #[Iv p1, Iv p2, Rv sa1, Rv sa2, Iv cc, Iv (own_hex cc), Iv (1 : Int32), Us, Us, Us, Us] [(.int (15 : Int32)), (.int p2)])) tt_
        refine XS.iand X_28.here hEX rfl (hb hBY at_79) rfl ?_
        exact kt_
      refine Done.pre sg_29 ?_
      show Done _ _ _ _ _ _ _ (T_28.setTop (mkF m 80 #[Iv p1, Iv p2, Rv sa1, Rv sa2, Iv cc, Iv (own_hex cc), Iv (1 : Int32), Us, Us, Us, Us] [(.int (p2 &&& (15 : Int32)))]))
      obtain ⟨v, hv⟩ : ∃ z : Int32, z = (p2 &&& (15 : Int32)) := ⟨_, rfl⟩
      rw [← hv]
      show Done _ _ _ _ _ _ _ (T_28.setTop (mkF m 80 #[Iv p1, Iv p2, Rv sa1, Rv sa2, Iv cc, Iv (own_hex cc), Iv (1 : Int32), Us, Us, Us, Us] [(.int v)]))
      have hvr : 0 ≤ v.toInt ∧ v.toInt ≤ 15 := by rw [hv]; exact own_m15 _
      have sg_30 : ∀ tt_, Steps p.tables e below (T_28.setTop (mkF m 86 #[Iv p1, Iv p2, Rv sa1, Rv sa2, Iv cc, Iv (own_hex cc), Iv (1 : Int32), Iv v, Us, Us, Us] [(.int (p2 &&& (16 : Int32)))])) tt_ → Steps p.tables e below (T_28.setTop (mkF m 80 #[Iv p1, Iv p2, Rv sa1, Rv sa2, Iv cc, Iv (own_hex cc), Iv (1 : Int32), Us, Us, Us, Us] [(.int v)])) tt_ := by
        intro tt_ kt_
        refine XS.istore X_28.here hEX rfl (hb hBY at_80) rfl (l' := #[Iv p1, Iv p2, Rv sa1, Rv sa2, Iv cc, Iv (own_hex cc), Iv (1 : Int32), Iv v, Us, Us, Us]) rfl ?_
        show Steps p.tables e below (T_28.setTop (mkF m 82 #[Iv p1, Iv p2, Rv sa1, Rv sa2, Iv cc, Iv (own_hex cc), Iv (1 : Int32), Iv v, Us, Us, Us] [])) tt_
        refine XS.iloadN X_28.here hEX rfl (hb hBY at_82) rfl ?_
        show Steps p.tables e below (T_28.setTop (mkF m 83 #[Iv p1, Iv p2, Rv sa1, Rv sa2, Iv cc, Iv (own_hex cc), Iv (1 : Int32), Iv v, Us, Us, Us] [(.int p2)])) tt_
        refine XS.bipush X_28.here hEX rfl (hb hBY at_83) ?_
        show Steps p.tables e below (T_28.setTop (mkF m 85 #[Iv p1, Iv p2, Rv sa1, Rv sa2, Iv cc, Iv (own_hex cc), Iv (1 : Int32), Iv v, Us, Us, Us] [(.int (16 : Int32)), (.int p2)])) tt_
        refine XS.iand X_28.here hEX rfl (hb hBY at_85) rfl ?_
        exact kt_
      refine Done.pre sg_30 ?_
      by_cases hc86 : (p2 &&& (16 : Int32)) = (0 : Int32)
      · skip
        have sg_31 : ∀ tt_, Steps p.tables e below (T_28.setTop (mkF m 113 #[Iv p1, Iv p2, Rv sa1, Rv sa2, Iv cc, Iv (own_hex cc), Iv (1 : Int32), Iv v, Iv (0 : Int32), Us, Us] [(.int v), (.ref sa1)])) tt_ → Steps p.tables e below (T_28.setTop (mkF m 86 #[Iv p1, Iv p2, Rv sa1, Rv sa2, Iv cc, Iv (own_hex cc), Iv (1 : Int32), Iv v, Us, Us, Us] [(.int (p2 &&& (16 : Int32)))])) tt_ := by
          intro tt_ kt_
          refine XS.ifYes X_28.here hEX rfl (pc0 := 86) (pc' := 93) rfl (hb hBY at_86) rfl ((if0 _ _).trans (teq hc86).1) (by decide) (by decide) ?_
          show Steps p.tables e below (T_28.setTop (mkF m 93 #[Iv p1, Iv p2, Rv sa1, Rv sa2, Iv cc, Iv (own_hex cc), Iv (1 : Int32), Iv v, Us, Us, Us] [])) tt_
          refine XS.iconst X_28.here hEX rfl (hb hBY at_93) ?_
          show Steps p.tables e below (T_28.setTop (mkF m 94 #[Iv p1, Iv p2, Rv sa1, Rv sa2, Iv cc, Iv (own_hex cc), Iv (1 : Int32), Iv v, Us, Us, Us] [(.int (0 : Int32))])) tt_
          refine XS.istore X_28.here hEX rfl (hb hBY at_94) rfl (l' := #[Iv p1, Iv p2, Rv sa1, Rv sa2, Iv cc, Iv (own_hex cc), Iv (1 : Int32), Iv v, Iv (0 : Int32), Us, Us]) rfl ?_
          show Steps p.tables e below (T_28.setTop (mkF m 96 #[Iv p1, Iv p2, Rv sa1, Rv sa2, Iv cc, Iv (own_hex cc), Iv (1 : Int32), Iv v, Iv (0 : Int32), Us, Us] [])) tt_
          refine XS.iload X_28.here hEX rfl (hb hBY at_96) rfl ?_
          show Steps p.tables e below (T_28.setTop (mkF m 98 #[Iv p1, Iv p2, Rv sa1, Rv sa2, Iv cc, Iv (own_hex cc), Iv (1 : Int32), Iv v, Iv (0 : Int32), Us, Us] [(.int (0 : Int32))])) tt_
          refine XS.ifYes X_28.here hEX rfl (pc0 := 98) (pc' := 110) rfl (hb hBY at_98) rfl ((if0 _ _).trans (teq (by decide : (0 : Int32) = (0 : Int32))).1) (by decide) (by decide) ?_
          show Steps p.tables e below (T_28.setTop (mkF m 110 #[Iv p1, Iv p2, Rv sa1, Rv sa2, Iv cc, Iv (own_hex cc), Iv (1 : Int32), Iv v, Iv (0 : Int32), Us, Us] [])) tt_
          refine XS.aloadN X_28.here hEX rfl (hb hBY at_110) rfl rfl ?_
          show Steps p.tables e below (T_28.setTop (mkF m 111 #[Iv p1, Iv p2, Rv sa1, Rv sa2, Iv cc, Iv (own_hex cc), Iv (1 : Int32), Iv v, Iv (0 : Int32), Us, Us] [(.ref sa1)])) tt_
          refine XS.iload X_28.here hEX rfl (hb hBY at_111) rfl ?_
          exact kt_
        refine Done.pre sg_31 ?_
        obtain ⟨cq_32, kq_32, q_32a, q_32b, q_32c⟩ := isOf hZW e_28 fE1
        obtain ⟨_, _, ⟨T_32, L_32, k_32, n_32⟩, -, X_32, ⟨Lc_32, hQ_32, l_32, y_32, z_32⟩, st_32⟩ := X_28.virtualBack hEX (y := (⟨"java/lang/String", "charAt", "(I)C"⟩ : MethodName)) (z := (⟨"java/lang/String", "charAt", "(I)C"⟩ : MethodName)) hOW (mvT hZW (hw _ (List.mem_of_getElem? (i := 13) rfl))) (mvT hZW (hw _ (List.mem_of_getElem? (i := 14) rfl))) (notFace_of_selects (args := #[]) (mvT hZW (hw _ (List.mem_of_getElem? (i := 16) rfl)))) (mvT hZW (hw _ (List.mem_of_getElem? (i := 16) rfl))) (mvT hZW (hw _ (List.mem_of_getElem? (i := 15) rfl))) (by decide) (backOf (W := 0) (rm_charAt l Z aZ hw [] sa1 v cz fv sb1 sk1 (16 : Int32) [(.int (48 : Int32)), (.int (49 : Int32)), (.int (50 : Int32)), (.int (51 : Int32)), (.int (52 : Int32)), (.int (53 : Int32)), (.int (54 : Int32)), (.int (55 : Int32)), (.int (56 : Int32)), (.int (57 : Int32)), (.int (65 : Int32)), (.int (66 : Int32)), (.int (67 : Int32)), (.int (68 : Int32)), (.int (69 : Int32)), (.int (70 : Int32))] (own_upp (v).toNatClampNeg) h2 n0 (Nat.le_trans Z0 K0.1) fE1 fS1 hcz fS2 hfv fC1 fV1 fA1 (own_ix _ hvr) (own_uppv _) (own_uppr _ hvr)) hZW (hw _ (List.mem_of_getElem? (i := 17) rfl)) (hw _ (List.mem_of_getElem? (i := 1) rfl)) (by decide) (by decide)) q_32a q_32c (g := (mkF m 113 #[Iv p1, Iv p2, Rv sa1, Rv sa2, Iv cc, Iv (own_hex cc), Iv (1 : Int32), Iv v, Iv (0 : Int32), Us, Us] [(.int v), (.ref sa1)])) rfl (by rw [hMX]; rfl) (Steps.refl _) (argsL := [(.int v)]) (rest := []) (lenOf pd__I_C_2 rfl) rfl (by show 2 * 0 + _ ≤ _; exact Nat.le_of_eq rfl) (hb hBY at_113) (fun _ _ => ⟨rfl, e_28, (by decide : 4 + 0 ≤ _), (by decide : 136 + 0 ≤ _)⟩)
        dsimp only [Pt.U, Pt.locs, Pt.cells, Pt.slots] at X_32 l_32 y_32 z_32 st_32 hQ_32
        subst l_32 y_32 z_32
        obtain ⟨rfl, N_32q, e_32⟩ := hQ_32
        have N_32 := Fr.app N_28 N_32q
        refine Done.pre (fun _ k_ => st_32.trans k_) ?_
        show Done _ _ _ _ _ _ _ (T_32.setTop (mkF m 116 #[Iv p1, Iv p2, Rv sa1, Rv sa2, Iv cc, Iv (own_hex cc), Iv (1 : Int32), Iv v, Iv (0 : Int32), Us, Us] [(.int (own_upp (v).toNatClampNeg))]))
        have sg_33 : ∀ tt_, Steps p.tables e below (T_32.setTop (mkF m 120 #[Iv p1, Iv p2, Rv sa1, Rv sa2, Iv cc, Iv (own_hex cc), Iv (1 : Int32), Iv v, Iv (0 : Int32), Iv (own_upp (v).toNatClampNeg), Us] [(.int (own_upp (v).toNatClampNeg))])) tt_ → Steps p.tables e below (T_32.setTop (mkF m 116 #[Iv p1, Iv p2, Rv sa1, Rv sa2, Iv cc, Iv (own_hex cc), Iv (1 : Int32), Iv v, Iv (0 : Int32), Us, Us] [(.int (own_upp (v).toNatClampNeg))])) tt_ := by
          intro tt_ kt_
          refine XS.istore X_32.here hEX rfl (hb hBY at_116) rfl (l' := #[Iv p1, Iv p2, Rv sa1, Rv sa2, Iv cc, Iv (own_hex cc), Iv (1 : Int32), Iv v, Iv (0 : Int32), Iv (own_upp (v).toNatClampNeg), Us]) rfl ?_
          show Steps p.tables e below (T_32.setTop (mkF m 118 #[Iv p1, Iv p2, Rv sa1, Rv sa2, Iv cc, Iv (own_hex cc), Iv (1 : Int32), Iv v, Iv (0 : Int32), Iv (own_upp (v).toNatClampNeg), Us] [])) tt_
          refine XS.iload X_32.here hEX rfl (hb hBY at_118) rfl ?_
          exact kt_
        refine Done.pre sg_33 ?_
        obtain ⟨_, _, ⟨T_34, L_34, k_34, n_34⟩, -, X_34, ⟨Lc_34, hQ_34, l_34, y_34, z_34⟩, st_34⟩ := Jvm.LawKit.callS X_32 hEX (y := (⟨"com/example/sutf/sutf/model/HexDigits", "valueOf", "(C)I"⟩ : MethodName)) hOW (mvT hZW (hw _ (List.mem_of_getElem? (i := 9) rfl))) (mvT hZW (hw _ (List.mem_of_getElem? (i := 10) rfl))) (mvT hZW (hw _ (List.mem_of_getElem? (i := 11) rfl))) (mvT hZW (hw _ (List.mem_of_getElem? (i := 12) rfl))) (by decide) (backOf (W := 0) (rm_hex l Z aZ hw [] (own_upp (v).toNatClampNeg) h2 n0 (Nat.le_trans Z0 K0.1) ) hZW (hw _ (List.mem_of_getElem? (i := 12) rfl)) (hw _ (List.mem_of_getElem? (i := 11) rfl)) (by decide) (by decide)) (g := (mkF m 120 #[Iv p1, Iv p2, Rv sa1, Rv sa2, Iv cc, Iv (own_hex cc), Iv (1 : Int32), Iv v, Iv (0 : Int32), Iv (own_upp (v).toNatClampNeg), Us] [(.int (own_upp (v).toNatClampNeg))])) rfl (by rw [hMX]; rfl) (argsL := [(.int (own_upp (v).toNatClampNeg))]) (rest := []) (lenOf pd__C_I_1 rfl) rfl (by show 2 * 0 + _ ≤ _; exact Nat.le_of_eq rfl) (hb hBY at_120) (fun _ _ => ⟨rfl, e_32, (by decide : 4 + 0 ≤ _), (by decide : 136 + 0 ≤ _)⟩)
        dsimp only [Pt.U, Pt.locs, Pt.cells, Pt.slots] at X_34 l_34 y_34 z_34 st_34 hQ_34
        subst l_34 y_34 z_34
        obtain ⟨rfl, N_34q, e_34⟩ := hQ_34
        have N_34 := Fr.app N_32 N_34q
        refine Done.pre (fun _ k_ => st_34 _ k_) ?_
        show Done _ _ _ _ _ _ _ (T_34.setTop (mkF m 123 #[Iv p1, Iv p2, Rv sa1, Rv sa2, Iv cc, Iv (own_hex cc), Iv (1 : Int32), Iv v, Iv (0 : Int32), Iv (own_upp (v).toNatClampNeg), Us] [(.int (own_hex (own_upp (v).toNatClampNeg)))]))
        have sg_35 : ∀ tt_, Steps p.tables e below (T_34.setTop (mkF m 150 #[Iv p1, Iv p2, Rv sa1, Rv sa2, Iv cc, Iv (own_hex cc), Iv (1 : Int32), Iv v, Iv (0 : Int32), Iv (own_upp (v).toNatClampNeg), Iv (1 : Int32)] [(.int (1 : Int32))])) tt_ → Steps p.tables e below (T_34.setTop (mkF m 123 #[Iv p1, Iv p2, Rv sa1, Rv sa2, Iv cc, Iv (own_hex cc), Iv (1 : Int32), Iv v, Iv (0 : Int32), Iv (own_upp (v).toNatClampNeg), Us] [(.int (own_hex (own_upp (v).toNatClampNeg)))])) tt_ := by
          intro tt_ kt_
          refine XS.iload X_34.here hEX rfl (hb hBY at_123) rfl ?_
          show Steps p.tables e below (T_34.setTop (mkF m 125 #[Iv p1, Iv p2, Rv sa1, Rv sa2, Iv cc, Iv (own_hex cc), Iv (1 : Int32), Iv v, Iv (0 : Int32), Iv (own_upp (v).toNatClampNeg), Us] [(.int v), (.int (own_hex (own_upp (v).toNatClampNeg)))])) tt_
          refine XS.icmpNo X_34.here hEX rfl (hb hBY at_125) rfl (teq (own_hexupp v hvr : (own_hex (own_upp (v).toNatClampNeg)) = v)).2 ?_
          show Steps p.tables e below (T_34.setTop (mkF m 128 #[Iv p1, Iv p2, Rv sa1, Rv sa2, Iv cc, Iv (own_hex cc), Iv (1 : Int32), Iv v, Iv (0 : Int32), Iv (own_upp (v).toNatClampNeg), Us] [])) tt_
          refine XS.iconst X_34.here hEX rfl (hb hBY at_128) ?_
          show Steps p.tables e below (T_34.setTop (mkF m 129 #[Iv p1, Iv p2, Rv sa1, Rv sa2, Iv cc, Iv (own_hex cc), Iv (1 : Int32), Iv v, Iv (0 : Int32), Iv (own_upp (v).toNatClampNeg), Us] [(.int (1 : Int32))])) tt_
          refine XS.goto X_34.here hEX rfl (pc0 := 129) (pc' := 133) rfl (hb hBY at_129) (by decide) (by decide) ?_
          show Steps p.tables e below (T_34.setTop (mkF m 133 #[Iv p1, Iv p2, Rv sa1, Rv sa2, Iv cc, Iv (own_hex cc), Iv (1 : Int32), Iv v, Iv (0 : Int32), Iv (own_upp (v).toNatClampNeg), Us] [(.int (1 : Int32))])) tt_
          refine XS.istore X_34.here hEX rfl (hb hBY at_133) rfl (l' := #[Iv p1, Iv p2, Rv sa1, Rv sa2, Iv cc, Iv (own_hex cc), Iv (1 : Int32), Iv v, Iv (0 : Int32), Iv (own_upp (v).toNatClampNeg), Iv (1 : Int32)]) rfl ?_
          show Steps p.tables e below (T_34.setTop (mkF m 135 #[Iv p1, Iv p2, Rv sa1, Rv sa2, Iv cc, Iv (own_hex cc), Iv (1 : Int32), Iv v, Iv (0 : Int32), Iv (own_upp (v).toNatClampNeg), Iv (1 : Int32)] [])) tt_
          refine XS.iload X_34.here hEX rfl (hb hBY at_135) rfl ?_
          show Steps p.tables e below (T_34.setTop (mkF m 137 #[Iv p1, Iv p2, Rv sa1, Rv sa2, Iv cc, Iv (own_hex cc), Iv (1 : Int32), Iv v, Iv (0 : Int32), Iv (own_upp (v).toNatClampNeg), Iv (1 : Int32)] [(.int (1 : Int32))])) tt_
          refine XS.ifNo X_34.here hEX rfl (hb hBY at_137) rfl ((if0 _ _).trans (feq (by decide : ¬ ((1 : Int32) = (0 : Int32)))).1) ?_
          show Steps p.tables e below (T_34.setTop (mkF m 140 #[Iv p1, Iv p2, Rv sa1, Rv sa2, Iv cc, Iv (own_hex cc), Iv (1 : Int32), Iv v, Iv (0 : Int32), Iv (own_upp (v).toNatClampNeg), Iv (1 : Int32)] [])) tt_
          refine XS.iload X_34.here hEX rfl (hb hBY at_140) rfl ?_
          show Steps p.tables e below (T_34.setTop (mkF m 142 #[Iv p1, Iv p2, Rv sa1, Rv sa2, Iv cc, Iv (own_hex cc), Iv (1 : Int32), Iv v, Iv (0 : Int32), Iv (own_upp (v).toNatClampNeg), Iv (1 : Int32)] [(.int (1 : Int32))])) tt_
          refine XS.ifNo X_34.here hEX rfl (hb hBY at_142) rfl ((if0 _ _).trans (feq (by decide : ¬ ((1 : Int32) = (0 : Int32)))).1) ?_
          show Steps p.tables e below (T_34.setTop (mkF m 145 #[Iv p1, Iv p2, Rv sa1, Rv sa2, Iv cc, Iv (own_hex cc), Iv (1 : Int32), Iv v, Iv (0 : Int32), Iv (own_upp (v).toNatClampNeg), Iv (1 : Int32)] [])) tt_
          refine XS.iconst X_34.here hEX rfl (hb hBY at_145) ?_
          show Steps p.tables e below (T_34.setTop (mkF m 146 #[Iv p1, Iv p2, Rv sa1, Rv sa2, Iv cc, Iv (own_hex cc), Iv (1 : Int32), Iv v, Iv (0 : Int32), Iv (own_upp (v).toNatClampNeg), Iv (1 : Int32)] [(.int (1 : Int32))])) tt_
          refine XS.goto X_34.here hEX rfl (pc0 := 146) (pc' := 150) rfl (hb hBY at_146) (by decide) (by decide) ?_
          exact kt_
        refine Done.pre sg_35 ?_
        exact Done.retN X_34 hEX hLK (t := .boolean) hRT (by simp) (hb hBY at_150) (by rw [e_34]; exact ⟨rfl, N_34, rfl⟩) (by decide) (by decide)
      · skip
        have sg_36 : ∀ tt_, Steps p.tables e below (T_28.setTop (mkF m 104 #[Iv p1, Iv p2, Rv sa1, Rv sa2, Iv cc, Iv (own_hex cc), Iv (1 : Int32), Iv v, Iv (1 : Int32), Us, Us] [(.int v), (.ref sa2)])) tt_ → Steps p.tables e below (T_28.setTop (mkF m 86 #[Iv p1, Iv p2, Rv sa1, Rv sa2, Iv cc, Iv (own_hex cc), Iv (1 : Int32), Iv v, Us, Us, Us] [(.int (p2 &&& (16 : Int32)))])) tt_ := by
          intro tt_ kt_
          refine XS.ifNo X_28.here hEX rfl (hb hBY at_86) rfl ((if0 _ _).trans (feq hc86).1) ?_
          show Steps p.tables e below (T_28.setTop (mkF m 89 #[Iv p1, Iv p2, Rv sa1, Rv sa2, Iv cc, Iv (own_hex cc), Iv (1 : Int32), Iv v, Us, Us, Us] [])) tt_
          refine XS.iconst X_28.here hEX rfl (hb hBY at_89) ?_
          show Steps p.tables e below (T_28.setTop (mkF m 90 #[Iv p1, Iv p2, Rv sa1, Rv sa2, Iv cc, Iv (own_hex cc), Iv (1 : Int32), Iv v, Us, Us, Us] [(.int (1 : Int32))])) tt_
          refine XS.goto X_28.here hEX rfl (pc0 := 90) (pc' := 94) rfl (hb hBY at_90) (by decide) (by decide) ?_
          show Steps p.tables e below (T_28.setTop (mkF m 94 #[Iv p1, Iv p2, Rv sa1, Rv sa2, Iv cc, Iv (own_hex cc), Iv (1 : Int32), Iv v, Us, Us, Us] [(.int (1 : Int32))])) tt_
          refine XS.istore X_28.here hEX rfl (hb hBY at_94) rfl (l' := #[Iv p1, Iv p2, Rv sa1, Rv sa2, Iv cc, Iv (own_hex cc), Iv (1 : Int32), Iv v, Iv (1 : Int32), Us, Us]) rfl ?_
          show Steps p.tables e below (T_28.setTop (mkF m 96 #[Iv p1, Iv p2, Rv sa1, Rv sa2, Iv cc, Iv (own_hex cc), Iv (1 : Int32), Iv v, Iv (1 : Int32), Us, Us] [])) tt_
          refine XS.iload X_28.here hEX rfl (hb hBY at_96) rfl ?_
          show Steps p.tables e below (T_28.setTop (mkF m 98 #[Iv p1, Iv p2, Rv sa1, Rv sa2, Iv cc, Iv (own_hex cc), Iv (1 : Int32), Iv v, Iv (1 : Int32), Us, Us] [(.int (1 : Int32))])) tt_
          refine XS.ifNo X_28.here hEX rfl (hb hBY at_98) rfl ((if0 _ _).trans (feq (by decide : ¬ ((1 : Int32) = (0 : Int32)))).1) ?_
          show Steps p.tables e below (T_28.setTop (mkF m 101 #[Iv p1, Iv p2, Rv sa1, Rv sa2, Iv cc, Iv (own_hex cc), Iv (1 : Int32), Iv v, Iv (1 : Int32), Us, Us] [])) tt_
          refine XS.aloadN X_28.here hEX rfl (hb hBY at_101) rfl rfl ?_
          show Steps p.tables e below (T_28.setTop (mkF m 102 #[Iv p1, Iv p2, Rv sa1, Rv sa2, Iv cc, Iv (own_hex cc), Iv (1 : Int32), Iv v, Iv (1 : Int32), Us, Us] [(.ref sa2)])) tt_
          refine XS.iload X_28.here hEX rfl (hb hBY at_102) rfl ?_
          exact kt_
        refine Done.pre sg_36 ?_
        obtain ⟨cq_37, kq_37, q_37a, q_37b, q_37c⟩ := isOf hZW e_28 fE2
        obtain ⟨_, _, ⟨T_37, L_37, k_37, n_37⟩, -, X_37, ⟨Lc_37, hQ_37, l_37, y_37, z_37⟩, st_37⟩ := X_28.virtualBack hEX (y := (⟨"java/lang/String", "charAt", "(I)C"⟩ : MethodName)) (z := (⟨"java/lang/String", "charAt", "(I)C"⟩ : MethodName)) hOW (mvT hZW (hw _ (List.mem_of_getElem? (i := 13) rfl))) (mvT hZW (hw _ (List.mem_of_getElem? (i := 14) rfl))) (notFace_of_selects (args := #[]) (mvT hZW (hw _ (List.mem_of_getElem? (i := 16) rfl)))) (mvT hZW (hw _ (List.mem_of_getElem? (i := 16) rfl))) (mvT hZW (hw _ (List.mem_of_getElem? (i := 15) rfl))) (by decide) (backOf (W := 0) (rm_charAt l Z aZ hw [] sa2 v cz fv sb2 sk2 (16 : Int32) [(.int (48 : Int32)), (.int (49 : Int32)), (.int (50 : Int32)), (.int (51 : Int32)), (.int (52 : Int32)), (.int (53 : Int32)), (.int (54 : Int32)), (.int (55 : Int32)), (.int (56 : Int32)), (.int (57 : Int32)), (.int (97 : Int32)), (.int (98 : Int32)), (.int (99 : Int32)), (.int (100 : Int32)), (.int (101 : Int32)), (.int (102 : Int32))] (own_low (v).toNatClampNeg) h2 n0 (Nat.le_trans Z0 K0.1) fE2 fS1 hcz fS2 hfv fC2 fV2 fA2 (own_ix _ hvr) (own_lowv _) (own_lowr _ hvr)) hZW (hw _ (List.mem_of_getElem? (i := 17) rfl)) (hw _ (List.mem_of_getElem? (i := 1) rfl)) (by decide) (by decide)) q_37a q_37c (g := (mkF m 104 #[Iv p1, Iv p2, Rv sa1, Rv sa2, Iv cc, Iv (own_hex cc), Iv (1 : Int32), Iv v, Iv (1 : Int32), Us, Us] [(.int v), (.ref sa2)])) rfl (by rw [hMX]; rfl) (Steps.refl _) (argsL := [(.int v)]) (rest := []) (lenOf pd__I_C_2 rfl) rfl (by show 2 * 0 + _ ≤ _; exact Nat.le_of_eq rfl) (hb hBY at_104) (fun _ _ => ⟨rfl, e_28, (by decide : 4 + 0 ≤ _), (by decide : 136 + 0 ≤ _)⟩)
        dsimp only [Pt.U, Pt.locs, Pt.cells, Pt.slots] at X_37 l_37 y_37 z_37 st_37 hQ_37
        subst l_37 y_37 z_37
        obtain ⟨rfl, N_37q, e_37⟩ := hQ_37
        have N_37 := Fr.app N_28 N_37q
        refine Done.pre (fun _ k_ => st_37.trans k_) ?_
        show Done _ _ _ _ _ _ _ (T_37.setTop (mkF m 107 #[Iv p1, Iv p2, Rv sa1, Rv sa2, Iv cc, Iv (own_hex cc), Iv (1 : Int32), Iv v, Iv (1 : Int32), Us, Us] [(.int (own_low (v).toNatClampNeg))]))
        have sg_38 : ∀ tt_, Steps p.tables e below (T_37.setTop (mkF m 120 #[Iv p1, Iv p2, Rv sa1, Rv sa2, Iv cc, Iv (own_hex cc), Iv (1 : Int32), Iv v, Iv (1 : Int32), Iv (own_low (v).toNatClampNeg), Us] [(.int (own_low (v).toNatClampNeg))])) tt_ → Steps p.tables e below (T_37.setTop (mkF m 107 #[Iv p1, Iv p2, Rv sa1, Rv sa2, Iv cc, Iv (own_hex cc), Iv (1 : Int32), Iv v, Iv (1 : Int32), Us, Us] [(.int (own_low (v).toNatClampNeg))])) tt_ := by
          intro tt_ kt_
          refine XS.goto X_37.here hEX rfl (pc0 := 107) (pc' := 116) rfl (hb hBY at_107) (by decide) (by decide) ?_
          show Steps p.tables e below (T_37.setTop (mkF m 116 #[Iv p1, Iv p2, Rv sa1, Rv sa2, Iv cc, Iv (own_hex cc), Iv (1 : Int32), Iv v, Iv (1 : Int32), Us, Us] [(.int (own_low (v).toNatClampNeg))])) tt_
          refine XS.istore X_37.here hEX rfl (hb hBY at_116) rfl (l' := #[Iv p1, Iv p2, Rv sa1, Rv sa2, Iv cc, Iv (own_hex cc), Iv (1 : Int32), Iv v, Iv (1 : Int32), Iv (own_low (v).toNatClampNeg), Us]) rfl ?_
          show Steps p.tables e below (T_37.setTop (mkF m 118 #[Iv p1, Iv p2, Rv sa1, Rv sa2, Iv cc, Iv (own_hex cc), Iv (1 : Int32), Iv v, Iv (1 : Int32), Iv (own_low (v).toNatClampNeg), Us] [])) tt_
          refine XS.iload X_37.here hEX rfl (hb hBY at_118) rfl ?_
          exact kt_
        refine Done.pre sg_38 ?_
        obtain ⟨_, _, ⟨T_39, L_39, k_39, n_39⟩, -, X_39, ⟨Lc_39, hQ_39, l_39, y_39, z_39⟩, st_39⟩ := Jvm.LawKit.callS X_37 hEX (y := (⟨"com/example/sutf/sutf/model/HexDigits", "valueOf", "(C)I"⟩ : MethodName)) hOW (mvT hZW (hw _ (List.mem_of_getElem? (i := 9) rfl))) (mvT hZW (hw _ (List.mem_of_getElem? (i := 10) rfl))) (mvT hZW (hw _ (List.mem_of_getElem? (i := 11) rfl))) (mvT hZW (hw _ (List.mem_of_getElem? (i := 12) rfl))) (by decide) (backOf (W := 0) (rm_hex l Z aZ hw [] (own_low (v).toNatClampNeg) h2 n0 (Nat.le_trans Z0 K0.1) ) hZW (hw _ (List.mem_of_getElem? (i := 12) rfl)) (hw _ (List.mem_of_getElem? (i := 11) rfl)) (by decide) (by decide)) (g := (mkF m 120 #[Iv p1, Iv p2, Rv sa1, Rv sa2, Iv cc, Iv (own_hex cc), Iv (1 : Int32), Iv v, Iv (1 : Int32), Iv (own_low (v).toNatClampNeg), Us] [(.int (own_low (v).toNatClampNeg))])) rfl (by rw [hMX]; rfl) (argsL := [(.int (own_low (v).toNatClampNeg))]) (rest := []) (lenOf pd__C_I_1 rfl) rfl (by show 2 * 0 + _ ≤ _; exact Nat.le_of_eq rfl) (hb hBY at_120) (fun _ _ => ⟨rfl, e_37, (by decide : 4 + 0 ≤ _), (by decide : 136 + 0 ≤ _)⟩)
        dsimp only [Pt.U, Pt.locs, Pt.cells, Pt.slots] at X_39 l_39 y_39 z_39 st_39 hQ_39
        subst l_39 y_39 z_39
        obtain ⟨rfl, N_39q, e_39⟩ := hQ_39
        have N_39 := Fr.app N_37 N_39q
        refine Done.pre (fun _ k_ => st_39 _ k_) ?_
        show Done _ _ _ _ _ _ _ (T_39.setTop (mkF m 123 #[Iv p1, Iv p2, Rv sa1, Rv sa2, Iv cc, Iv (own_hex cc), Iv (1 : Int32), Iv v, Iv (1 : Int32), Iv (own_low (v).toNatClampNeg), Us] [(.int (own_hex (own_low (v).toNatClampNeg)))]))
        have sg_40 : ∀ tt_, Steps p.tables e below (T_39.setTop (mkF m 150 #[Iv p1, Iv p2, Rv sa1, Rv sa2, Iv cc, Iv (own_hex cc), Iv (1 : Int32), Iv v, Iv (1 : Int32), Iv (own_low (v).toNatClampNeg), Iv (1 : Int32)] [(.int (1 : Int32))])) tt_ → Steps p.tables e below (T_39.setTop (mkF m 123 #[Iv p1, Iv p2, Rv sa1, Rv sa2, Iv cc, Iv (own_hex cc), Iv (1 : Int32), Iv v, Iv (1 : Int32), Iv (own_low (v).toNatClampNeg), Us] [(.int (own_hex (own_low (v).toNatClampNeg)))])) tt_ := by
          intro tt_ kt_
          refine XS.iload X_39.here hEX rfl (hb hBY at_123) rfl ?_
          show Steps p.tables e below (T_39.setTop (mkF m 125 #[Iv p1, Iv p2, Rv sa1, Rv sa2, Iv cc, Iv (own_hex cc), Iv (1 : Int32), Iv v, Iv (1 : Int32), Iv (own_low (v).toNatClampNeg), Us] [(.int v), (.int (own_hex (own_low (v).toNatClampNeg)))])) tt_
          refine XS.icmpNo X_39.here hEX rfl (hb hBY at_125) rfl (teq (own_hexlow v hvr : (own_hex (own_low (v).toNatClampNeg)) = v)).2 ?_
          show Steps p.tables e below (T_39.setTop (mkF m 128 #[Iv p1, Iv p2, Rv sa1, Rv sa2, Iv cc, Iv (own_hex cc), Iv (1 : Int32), Iv v, Iv (1 : Int32), Iv (own_low (v).toNatClampNeg), Us] [])) tt_
          refine XS.iconst X_39.here hEX rfl (hb hBY at_128) ?_
          show Steps p.tables e below (T_39.setTop (mkF m 129 #[Iv p1, Iv p2, Rv sa1, Rv sa2, Iv cc, Iv (own_hex cc), Iv (1 : Int32), Iv v, Iv (1 : Int32), Iv (own_low (v).toNatClampNeg), Us] [(.int (1 : Int32))])) tt_
          refine XS.goto X_39.here hEX rfl (pc0 := 129) (pc' := 133) rfl (hb hBY at_129) (by decide) (by decide) ?_
          show Steps p.tables e below (T_39.setTop (mkF m 133 #[Iv p1, Iv p2, Rv sa1, Rv sa2, Iv cc, Iv (own_hex cc), Iv (1 : Int32), Iv v, Iv (1 : Int32), Iv (own_low (v).toNatClampNeg), Us] [(.int (1 : Int32))])) tt_
          refine XS.istore X_39.here hEX rfl (hb hBY at_133) rfl (l' := #[Iv p1, Iv p2, Rv sa1, Rv sa2, Iv cc, Iv (own_hex cc), Iv (1 : Int32), Iv v, Iv (1 : Int32), Iv (own_low (v).toNatClampNeg), Iv (1 : Int32)]) rfl ?_
          show Steps p.tables e below (T_39.setTop (mkF m 135 #[Iv p1, Iv p2, Rv sa1, Rv sa2, Iv cc, Iv (own_hex cc), Iv (1 : Int32), Iv v, Iv (1 : Int32), Iv (own_low (v).toNatClampNeg), Iv (1 : Int32)] [])) tt_
          refine XS.iload X_39.here hEX rfl (hb hBY at_135) rfl ?_
          show Steps p.tables e below (T_39.setTop (mkF m 137 #[Iv p1, Iv p2, Rv sa1, Rv sa2, Iv cc, Iv (own_hex cc), Iv (1 : Int32), Iv v, Iv (1 : Int32), Iv (own_low (v).toNatClampNeg), Iv (1 : Int32)] [(.int (1 : Int32))])) tt_
          refine XS.ifNo X_39.here hEX rfl (hb hBY at_137) rfl ((if0 _ _).trans (feq (by decide : ¬ ((1 : Int32) = (0 : Int32)))).1) ?_
          show Steps p.tables e below (T_39.setTop (mkF m 140 #[Iv p1, Iv p2, Rv sa1, Rv sa2, Iv cc, Iv (own_hex cc), Iv (1 : Int32), Iv v, Iv (1 : Int32), Iv (own_low (v).toNatClampNeg), Iv (1 : Int32)] [])) tt_
          refine XS.iload X_39.here hEX rfl (hb hBY at_140) rfl ?_
          show Steps p.tables e below (T_39.setTop (mkF m 142 #[Iv p1, Iv p2, Rv sa1, Rv sa2, Iv cc, Iv (own_hex cc), Iv (1 : Int32), Iv v, Iv (1 : Int32), Iv (own_low (v).toNatClampNeg), Iv (1 : Int32)] [(.int (1 : Int32))])) tt_
          refine XS.ifNo X_39.here hEX rfl (hb hBY at_142) rfl ((if0 _ _).trans (feq (by decide : ¬ ((1 : Int32) = (0 : Int32)))).1) ?_
          show Steps p.tables e below (T_39.setTop (mkF m 145 #[Iv p1, Iv p2, Rv sa1, Rv sa2, Iv cc, Iv (own_hex cc), Iv (1 : Int32), Iv v, Iv (1 : Int32), Iv (own_low (v).toNatClampNeg), Iv (1 : Int32)] [])) tt_
          refine XS.iconst X_39.here hEX rfl (hb hBY at_145) ?_
          show Steps p.tables e below (T_39.setTop (mkF m 146 #[Iv p1, Iv p2, Rv sa1, Rv sa2, Iv cc, Iv (own_hex cc), Iv (1 : Int32), Iv v, Iv (1 : Int32), Iv (own_low (v).toNatClampNeg), Iv (1 : Int32)] [(.int (1 : Int32))])) tt_
          refine XS.goto X_39.here hEX rfl (pc0 := 146) (pc' := 150) rfl (hb hBY at_146) (by decide) (by decide) ?_
          exact kt_
        refine Done.pre sg_40 ?_
        exact Done.retN X_39 hEX hLK (t := .boolean) hRT (by simp) (hb hBY at_150) (by rw [e_39]; exact ⟨rfl, N_39, rfl⟩) (by decide) (by decide)
    · skip
      have sg_41 : ∀ tt_, Steps p.tables e below (T_28.setTop (mkF m 57 #[Iv p1, Iv p2, Rv sa1, Rv sa2, Iv cc, Iv (own_hex cc), Us, Us, Us, Us, Us] [(.int (own_hex cc)), (.ref sa2), (.int cc)])) tt_ → Steps p.tables e below (T_28.setTop (mkF m 49 #[Iv p1, Iv p2, Rv sa1, Rv sa2, Iv cc, Iv (own_hex cc), Us, Us, Us, Us, Us] [(.int (own_upp ((own_hex cc)).toNatClampNeg)), (.int cc)])) tt_ := by
        intro tt_ kt_
        refine XS.icmpNo X_28.here hEX rfl (hb hBY at_49) rfl (feq hc49).1 ?_
        show Steps p.tables e below (T_28.setTop (mkF m 52 #[Iv p1, Iv p2, Rv sa1, Rv sa2, Iv cc, Iv (own_hex cc), Us, Us, Us, Us, Us] [])) tt_
        refine XS.iload X_28.here hEX rfl (hb hBY at_52) rfl ?_
        show Steps p.tables e below (T_28.setTop (mkF m 54 #[Iv p1, Iv p2, Rv sa1, Rv sa2, Iv cc, Iv (own_hex cc), Us, Us, Us, Us, Us] [(.int cc)])) tt_
        refine XS.aloadN X_28.here hEX rfl (hb hBY at_54) rfl rfl ?_
        show Steps p.tables e below (T_28.setTop (mkF m 55 #[Iv p1, Iv p2, Rv sa1, Rv sa2, Iv cc, Iv (own_hex cc), Us, Us, Us, Us, Us] [(.ref sa2), (.int cc)])) tt_
        refine XS.iload X_28.here hEX rfl (hb hBY at_55) rfl ?_
        exact kt_
      refine Done.pre sg_41 ?_
      obtain ⟨cq_42, kq_42, q_42a, q_42b, q_42c⟩ := isOf hZW e_28 fE2
      obtain ⟨_, _, ⟨T_42, L_42, k_42, n_42⟩, -, X_42, ⟨Lc_42, hQ_42, l_42, y_42, z_42⟩, st_42⟩ := X_28.virtualBack hEX (y := (⟨"java/lang/String", "charAt", "(I)C"⟩ : MethodName)) (z := (⟨"java/lang/String", "charAt", "(I)C"⟩ : MethodName)) hOW (mvT hZW (hw _ (List.mem_of_getElem? (i := 13) rfl))) (mvT hZW (hw _ (List.mem_of_getElem? (i := 14) rfl))) (notFace_of_selects (args := #[]) (mvT hZW (hw _ (List.mem_of_getElem? (i := 16) rfl)))) (mvT hZW (hw _ (List.mem_of_getElem? (i := 16) rfl))) (mvT hZW (hw _ (List.mem_of_getElem? (i := 15) rfl))) (by decide) (backOf (W := 1) (rm_charAt l Z aZ hw [] sa2 (own_hex cc) cz fv sb2 sk2 (16 : Int32) [(.int (48 : Int32)), (.int (49 : Int32)), (.int (50 : Int32)), (.int (51 : Int32)), (.int (52 : Int32)), (.int (53 : Int32)), (.int (54 : Int32)), (.int (55 : Int32)), (.int (56 : Int32)), (.int (57 : Int32)), (.int (97 : Int32)), (.int (98 : Int32)), (.int (99 : Int32)), (.int (100 : Int32)), (.int (101 : Int32)), (.int (102 : Int32))] (own_low ((own_hex cc)).toNatClampNeg) h2 n0 (Nat.le_trans Z0 K0.1) fE2 fS1 hcz fS2 hfv fC2 fV2 fA2 (own_ix _ (own_rr cc hc20)) (own_lowv _) (own_lowr _ (own_rr cc hc20))) hZW (hw _ (List.mem_of_getElem? (i := 17) rfl)) (hw _ (List.mem_of_getElem? (i := 1) rfl)) (by decide) (by decide)) q_42a q_42c (g := (mkF m 57 #[Iv p1, Iv p2, Rv sa1, Rv sa2, Iv cc, Iv (own_hex cc), Us, Us, Us, Us, Us] [(.int (own_hex cc)), (.ref sa2), (.int cc)])) rfl (by rw [hMX]; rfl) (Steps.refl _) (argsL := [(.int (own_hex cc))]) (rest := [(.int cc)]) (lenOf pd__I_C_2 rfl) rfl (by show 2 * 0 + _ ≤ _; exact Nat.le_of_eq rfl) (hb hBY at_57) (fun _ _ => ⟨rfl, e_28, (by decide : 4 + 0 ≤ _), (by decide : 136 + 0 ≤ _)⟩)
      dsimp only [Pt.U, Pt.locs, Pt.cells, Pt.slots] at X_42 l_42 y_42 z_42 st_42 hQ_42
      subst l_42 y_42 z_42
      obtain ⟨rfl, N_42q, e_42⟩ := hQ_42
      have N_42 := Fr.app N_28 N_42q
      refine Done.pre (fun _ k_ => st_42.trans k_) ?_
      show Done _ _ _ _ _ _ _ (T_42.setTop (mkF m 60 #[Iv p1, Iv p2, Rv sa1, Rv sa2, Iv cc, Iv (own_hex cc), Us, Us, Us, Us, Us] [(.int (own_low ((own_hex cc)).toNatClampNeg)), (.int cc)]))
      have sg_43 : ∀ tt_, Steps p.tables e below (T_42.setTop (mkF m 80 #[Iv p1, Iv p2, Rv sa1, Rv sa2, Iv cc, Iv (own_hex cc), Iv (1 : Int32), Us, Us, Us, Us] [(.int (p2 &&& (15 : Int32)))])) tt_ → Steps p.tables e below (T_42.setTop (mkF m 60 #[Iv p1, Iv p2, Rv sa1, Rv sa2, Iv cc, Iv (own_hex cc), Us, Us, Us, Us, Us] [(.int (own_low ((own_hex cc)).toNatClampNeg)), (.int cc)])) tt_ := by
        intro tt_ kt_
        refine XS.icmpNo X_42.here hEX rfl (hb hBY at_60) rfl (teq ((own_lu cc hc20).resolve_right hc49 : cc = (own_low ((own_hex cc)).toNatClampNeg))).2 ?_
        show Steps p.tables e below (T_42.setTop (mkF m 63 #[Iv p1, Iv p2, Rv sa1, Rv sa2, Iv cc, Iv (own_hex cc), Us, Us, Us, Us, Us] [])) tt_
        refine XS.iconst X_42.here hEX rfl (hb hBY at_63) ?_
        show Steps p.tables e below (T_42.setTop (mkF m 64 #[Iv p1, Iv p2, Rv sa1, Rv sa2, Iv cc, Iv (own_hex cc), Us, Us, Us, Us, Us] [(.int (1 : Int32))])) tt_
        refine XS.goto X_42.here hEX rfl (pc0 := 64) (pc' := 68) rfl (hb hBY at_64) (by decide) (by decide) ?_
        show Steps p.tables e below (T_42.setTop (mkF m 68 #[Iv p1, Iv p2, Rv sa1, Rv sa2, Iv cc, Iv (own_hex cc), Us, Us, Us, Us, Us] [(.int (1 : Int32))])) tt_
        refine XS.istore X_42.here hEX rfl (hb hBY at_68) rfl (l' := #[Iv p1, Iv p2, Rv sa1, Rv sa2, Iv cc, Iv (own_hex cc), Iv (1 : Int32), Us, Us, Us, Us]) rfl ?_
        show Steps p.tables e below (T_42.setTop (mkF m 70 #[Iv p1, Iv p2, Rv sa1, Rv sa2, Iv cc, Iv (own_hex cc), Iv (1 : Int32), Us, Us, Us, Us] [])) tt_
        refine XS.goto X_42.here hEX rfl (pc0 := 70) (pc' := 76) rfl (hb hBY at_70) (by decide) (by decide) ?_
        show Steps p.tables e below (T_42.setTop (mkF m 76 #[Iv p1, Iv p2, Rv sa1, Rv sa2, Iv cc, Iv (own_hex cc), Iv (1 : Int32), Us, Us, Us, Us] [])) tt_
        refine XS.iloadN X_42.here hEX rfl (hb hBY at_76) rfl ?_
        show Steps p.tables e below (T_42.setTop (mkF m 77 #[Iv p1, Iv p2, Rv sa1, Rv sa2, Iv cc, Iv (own_hex cc), Iv (1 : Int32), Us, Us, Us, Us] [(.int p2)])) tt_
        refine XS.bipush X_42.here hEX rfl (hb hBY at_77) ?_
        show Steps p.tables e below (T_42.setTop (mkF m 79 #[Iv p1, Iv p2, Rv sa1, Rv sa2, Iv cc, Iv (own_hex cc), Iv (1 : Int32), Us, Us, Us, Us] [(.int (15 : Int32)), (.int p2)])) tt_
        refine XS.iand X_42.here hEX rfl (hb hBY at_79) rfl ?_
        exact kt_
      refine Done.pre sg_43 ?_
      show Done _ _ _ _ _ _ _ (T_42.setTop (mkF m 80 #[Iv p1, Iv p2, Rv sa1, Rv sa2, Iv cc, Iv (own_hex cc), Iv (1 : Int32), Us, Us, Us, Us] [(.int (p2 &&& (15 : Int32)))]))
      obtain ⟨v, hv⟩ : ∃ z : Int32, z = (p2 &&& (15 : Int32)) := ⟨_, rfl⟩
      rw [← hv]
      show Done _ _ _ _ _ _ _ (T_42.setTop (mkF m 80 #[Iv p1, Iv p2, Rv sa1, Rv sa2, Iv cc, Iv (own_hex cc), Iv (1 : Int32), Us, Us, Us, Us] [(.int v)]))
      have hvr : 0 ≤ v.toInt ∧ v.toInt ≤ 15 := by rw [hv]; exact own_m15 _
      have sg_44 : ∀ tt_, Steps p.tables e below (T_42.setTop (mkF m 86 #[Iv p1, Iv p2, Rv sa1, Rv sa2, Iv cc, Iv (own_hex cc), Iv (1 : Int32), Iv v, Us, Us, Us] [(.int (p2 &&& (16 : Int32)))])) tt_ → Steps p.tables e below (T_42.setTop (mkF m 80 #[Iv p1, Iv p2, Rv sa1, Rv sa2, Iv cc, Iv (own_hex cc), Iv (1 : Int32), Us, Us, Us, Us] [(.int v)])) tt_ := by
        intro tt_ kt_
        refine XS.istore X_42.here hEX rfl (hb hBY at_80) rfl (l' := #[Iv p1, Iv p2, Rv sa1, Rv sa2, Iv cc, Iv (own_hex cc), Iv (1 : Int32), Iv v, Us, Us, Us]) rfl ?_
        show Steps p.tables e below (T_42.setTop (mkF m 82 #[Iv p1, Iv p2, Rv sa1, Rv sa2, Iv cc, Iv (own_hex cc), Iv (1 : Int32), Iv v, Us, Us, Us] [])) tt_
        refine XS.iloadN X_42.here hEX rfl (hb hBY at_82) rfl ?_
        show Steps p.tables e below (T_42.setTop (mkF m 83 #[Iv p1, Iv p2, Rv sa1, Rv sa2, Iv cc, Iv (own_hex cc), Iv (1 : Int32), Iv v, Us, Us, Us] [(.int p2)])) tt_
        refine XS.bipush X_42.here hEX rfl (hb hBY at_83) ?_
        show Steps p.tables e below (T_42.setTop (mkF m 85 #[Iv p1, Iv p2, Rv sa1, Rv sa2, Iv cc, Iv (own_hex cc), Iv (1 : Int32), Iv v, Us, Us, Us] [(.int (16 : Int32)), (.int p2)])) tt_
        refine XS.iand X_42.here hEX rfl (hb hBY at_85) rfl ?_
        exact kt_
      refine Done.pre sg_44 ?_
      by_cases hc86 : (p2 &&& (16 : Int32)) = (0 : Int32)
      · skip
        have sg_45 : ∀ tt_, Steps p.tables e below (T_42.setTop (mkF m 113 #[Iv p1, Iv p2, Rv sa1, Rv sa2, Iv cc, Iv (own_hex cc), Iv (1 : Int32), Iv v, Iv (0 : Int32), Us, Us] [(.int v), (.ref sa1)])) tt_ → Steps p.tables e below (T_42.setTop (mkF m 86 #[Iv p1, Iv p2, Rv sa1, Rv sa2, Iv cc, Iv (own_hex cc), Iv (1 : Int32), Iv v, Us, Us, Us] [(.int (p2 &&& (16 : Int32)))])) tt_ := by
          intro tt_ kt_
          refine XS.ifYes X_42.here hEX rfl (pc0 := 86) (pc' := 93) rfl (hb hBY at_86) rfl ((if0 _ _).trans (teq hc86).1) (by decide) (by decide) ?_
          show Steps p.tables e below (T_42.setTop (mkF m 93 #[Iv p1, Iv p2, Rv sa1, Rv sa2, Iv cc, Iv (own_hex cc), Iv (1 : Int32), Iv v, Us, Us, Us] [])) tt_
          refine XS.iconst X_42.here hEX rfl (hb hBY at_93) ?_
          show Steps p.tables e below (T_42.setTop (mkF m 94 #[Iv p1, Iv p2, Rv sa1, Rv sa2, Iv cc, Iv (own_hex cc), Iv (1 : Int32), Iv v, Us, Us, Us] [(.int (0 : Int32))])) tt_
          refine XS.istore X_42.here hEX rfl (hb hBY at_94) rfl (l' := #[Iv p1, Iv p2, Rv sa1, Rv sa2, Iv cc, Iv (own_hex cc), Iv (1 : Int32), Iv v, Iv (0 : Int32), Us, Us]) rfl ?_
          show Steps p.tables e below (T_42.setTop (mkF m 96 #[Iv p1, Iv p2, Rv sa1, Rv sa2, Iv cc, Iv (own_hex cc), Iv (1 : Int32), Iv v, Iv (0 : Int32), Us, Us] [])) tt_
          refine XS.iload X_42.here hEX rfl (hb hBY at_96) rfl ?_
          show Steps p.tables e below (T_42.setTop (mkF m 98 #[Iv p1, Iv p2, Rv sa1, Rv sa2, Iv cc, Iv (own_hex cc), Iv (1 : Int32), Iv v, Iv (0 : Int32), Us, Us] [(.int (0 : Int32))])) tt_
          refine XS.ifYes X_42.here hEX rfl (pc0 := 98) (pc' := 110) rfl (hb hBY at_98) rfl ((if0 _ _).trans (teq (by decide : (0 : Int32) = (0 : Int32))).1) (by decide) (by decide) ?_
          show Steps p.tables e below (T_42.setTop (mkF m 110 #[Iv p1, Iv p2, Rv sa1, Rv sa2, Iv cc, Iv (own_hex cc), Iv (1 : Int32), Iv v, Iv (0 : Int32), Us, Us] [])) tt_
          refine XS.aloadN X_42.here hEX rfl (hb hBY at_110) rfl rfl ?_
          show Steps p.tables e below (T_42.setTop (mkF m 111 #[Iv p1, Iv p2, Rv sa1, Rv sa2, Iv cc, Iv (own_hex cc), Iv (1 : Int32), Iv v, Iv (0 : Int32), Us, Us] [(.ref sa1)])) tt_
          refine XS.iload X_42.here hEX rfl (hb hBY at_111) rfl ?_
          exact kt_
        refine Done.pre sg_45 ?_
        obtain ⟨cq_46, kq_46, q_46a, q_46b, q_46c⟩ := isOf hZW e_42 fE1
        obtain ⟨_, _, ⟨T_46, L_46, k_46, n_46⟩, -, X_46, ⟨Lc_46, hQ_46, l_46, y_46, z_46⟩, st_46⟩ := X_42.virtualBack hEX (y := (⟨"java/lang/String", "charAt", "(I)C"⟩ : MethodName)) (z := (⟨"java/lang/String", "charAt", "(I)C"⟩ : MethodName)) hOW (mvT hZW (hw _ (List.mem_of_getElem? (i := 13) rfl))) (mvT hZW (hw _ (List.mem_of_getElem? (i := 14) rfl))) (notFace_of_selects (args := #[]) (mvT hZW (hw _ (List.mem_of_getElem? (i := 16) rfl)))) (mvT hZW (hw _ (List.mem_of_getElem? (i := 16) rfl))) (mvT hZW (hw _ (List.mem_of_getElem? (i := 15) rfl))) (by decide) (backOf (W := 0) (rm_charAt l Z aZ hw [] sa1 v cz fv sb1 sk1 (16 : Int32) [(.int (48 : Int32)), (.int (49 : Int32)), (.int (50 : Int32)), (.int (51 : Int32)), (.int (52 : Int32)), (.int (53 : Int32)), (.int (54 : Int32)), (.int (55 : Int32)), (.int (56 : Int32)), (.int (57 : Int32)), (.int (65 : Int32)), (.int (66 : Int32)), (.int (67 : Int32)), (.int (68 : Int32)), (.int (69 : Int32)), (.int (70 : Int32))] (own_upp (v).toNatClampNeg) h2 n0 (Nat.le_trans Z0 K0.1) fE1 fS1 hcz fS2 hfv fC1 fV1 fA1 (own_ix _ hvr) (own_uppv _) (own_uppr _ hvr)) hZW (hw _ (List.mem_of_getElem? (i := 17) rfl)) (hw _ (List.mem_of_getElem? (i := 1) rfl)) (by decide) (by decide)) q_46a q_46c (g := (mkF m 113 #[Iv p1, Iv p2, Rv sa1, Rv sa2, Iv cc, Iv (own_hex cc), Iv (1 : Int32), Iv v, Iv (0 : Int32), Us, Us] [(.int v), (.ref sa1)])) rfl (by rw [hMX]; rfl) (Steps.refl _) (argsL := [(.int v)]) (rest := []) (lenOf pd__I_C_2 rfl) rfl (by show 2 * 0 + _ ≤ _; exact Nat.le_of_eq rfl) (hb hBY at_113) (fun _ _ => ⟨rfl, e_42, (by decide : 4 + 0 ≤ _), (by decide : 136 + 0 ≤ _)⟩)
        dsimp only [Pt.U, Pt.locs, Pt.cells, Pt.slots] at X_46 l_46 y_46 z_46 st_46 hQ_46
        subst l_46 y_46 z_46
        obtain ⟨rfl, N_46q, e_46⟩ := hQ_46
        have N_46 := Fr.app N_42 N_46q
        refine Done.pre (fun _ k_ => st_46.trans k_) ?_
        show Done _ _ _ _ _ _ _ (T_46.setTop (mkF m 116 #[Iv p1, Iv p2, Rv sa1, Rv sa2, Iv cc, Iv (own_hex cc), Iv (1 : Int32), Iv v, Iv (0 : Int32), Us, Us] [(.int (own_upp (v).toNatClampNeg))]))
        have sg_47 : ∀ tt_, Steps p.tables e below (T_46.setTop (mkF m 120 #[Iv p1, Iv p2, Rv sa1, Rv sa2, Iv cc, Iv (own_hex cc), Iv (1 : Int32), Iv v, Iv (0 : Int32), Iv (own_upp (v).toNatClampNeg), Us] [(.int (own_upp (v).toNatClampNeg))])) tt_ → Steps p.tables e below (T_46.setTop (mkF m 116 #[Iv p1, Iv p2, Rv sa1, Rv sa2, Iv cc, Iv (own_hex cc), Iv (1 : Int32), Iv v, Iv (0 : Int32), Us, Us] [(.int (own_upp (v).toNatClampNeg))])) tt_ := by
          intro tt_ kt_
          refine XS.istore X_46.here hEX rfl (hb hBY at_116) rfl (l' := #[Iv p1, Iv p2, Rv sa1, Rv sa2, Iv cc, Iv (own_hex cc), Iv (1 : Int32), Iv v, Iv (0 : Int32), Iv (own_upp (v).toNatClampNeg), Us]) rfl ?_
          show Steps p.tables e below (T_46.setTop (mkF m 118 #[Iv p1, Iv p2, Rv sa1, Rv sa2, Iv cc, Iv (own_hex cc), Iv (1 : Int32), Iv v, Iv (0 : Int32), Iv (own_upp (v).toNatClampNeg), Us] [])) tt_
          refine XS.iload X_46.here hEX rfl (hb hBY at_118) rfl ?_
          exact kt_
        refine Done.pre sg_47 ?_
        obtain ⟨_, _, ⟨T_48, L_48, k_48, n_48⟩, -, X_48, ⟨Lc_48, hQ_48, l_48, y_48, z_48⟩, st_48⟩ := Jvm.LawKit.callS X_46 hEX (y := (⟨"com/example/sutf/sutf/model/HexDigits", "valueOf", "(C)I"⟩ : MethodName)) hOW (mvT hZW (hw _ (List.mem_of_getElem? (i := 9) rfl))) (mvT hZW (hw _ (List.mem_of_getElem? (i := 10) rfl))) (mvT hZW (hw _ (List.mem_of_getElem? (i := 11) rfl))) (mvT hZW (hw _ (List.mem_of_getElem? (i := 12) rfl))) (by decide) (backOf (W := 0) (rm_hex l Z aZ hw [] (own_upp (v).toNatClampNeg) h2 n0 (Nat.le_trans Z0 K0.1) ) hZW (hw _ (List.mem_of_getElem? (i := 12) rfl)) (hw _ (List.mem_of_getElem? (i := 11) rfl)) (by decide) (by decide)) (g := (mkF m 120 #[Iv p1, Iv p2, Rv sa1, Rv sa2, Iv cc, Iv (own_hex cc), Iv (1 : Int32), Iv v, Iv (0 : Int32), Iv (own_upp (v).toNatClampNeg), Us] [(.int (own_upp (v).toNatClampNeg))])) rfl (by rw [hMX]; rfl) (argsL := [(.int (own_upp (v).toNatClampNeg))]) (rest := []) (lenOf pd__C_I_1 rfl) rfl (by show 2 * 0 + _ ≤ _; exact Nat.le_of_eq rfl) (hb hBY at_120) (fun _ _ => ⟨rfl, e_46, (by decide : 4 + 0 ≤ _), (by decide : 136 + 0 ≤ _)⟩)
        dsimp only [Pt.U, Pt.locs, Pt.cells, Pt.slots] at X_48 l_48 y_48 z_48 st_48 hQ_48
        subst l_48 y_48 z_48
        obtain ⟨rfl, N_48q, e_48⟩ := hQ_48
        have N_48 := Fr.app N_46 N_48q
        refine Done.pre (fun _ k_ => st_48 _ k_) ?_
        show Done _ _ _ _ _ _ _ (T_48.setTop (mkF m 123 #[Iv p1, Iv p2, Rv sa1, Rv sa2, Iv cc, Iv (own_hex cc), Iv (1 : Int32), Iv v, Iv (0 : Int32), Iv (own_upp (v).toNatClampNeg), Us] [(.int (own_hex (own_upp (v).toNatClampNeg)))]))
        have sg_49 : ∀ tt_, Steps p.tables e below (T_48.setTop (mkF m 150 #[Iv p1, Iv p2, Rv sa1, Rv sa2, Iv cc, Iv (own_hex cc), Iv (1 : Int32), Iv v, Iv (0 : Int32), Iv (own_upp (v).toNatClampNeg), Iv (1 : Int32)] [(.int (1 : Int32))])) tt_ → Steps p.tables e below (T_48.setTop (mkF m 123 #[Iv p1, Iv p2, Rv sa1, Rv sa2, Iv cc, Iv (own_hex cc), Iv (1 : Int32), Iv v, Iv (0 : Int32), Iv (own_upp (v).toNatClampNeg), Us] [(.int (own_hex (own_upp (v).toNatClampNeg)))])) tt_ := by
          intro tt_ kt_
          refine XS.iload X_48.here hEX rfl (hb hBY at_123) rfl ?_
          show Steps p.tables e below (T_48.setTop (mkF m 125 #[Iv p1, Iv p2, Rv sa1, Rv sa2, Iv cc, Iv (own_hex cc), Iv (1 : Int32), Iv v, Iv (0 : Int32), Iv (own_upp (v).toNatClampNeg), Us] [(.int v), (.int (own_hex (own_upp (v).toNatClampNeg)))])) tt_
          refine XS.icmpNo X_48.here hEX rfl (hb hBY at_125) rfl (teq (own_hexupp v hvr : (own_hex (own_upp (v).toNatClampNeg)) = v)).2 ?_
          show Steps p.tables e below (T_48.setTop (mkF m 128 #[Iv p1, Iv p2, Rv sa1, Rv sa2, Iv cc, Iv (own_hex cc), Iv (1 : Int32), Iv v, Iv (0 : Int32), Iv (own_upp (v).toNatClampNeg), Us] [])) tt_
          refine XS.iconst X_48.here hEX rfl (hb hBY at_128) ?_
          show Steps p.tables e below (T_48.setTop (mkF m 129 #[Iv p1, Iv p2, Rv sa1, Rv sa2, Iv cc, Iv (own_hex cc), Iv (1 : Int32), Iv v, Iv (0 : Int32), Iv (own_upp (v).toNatClampNeg), Us] [(.int (1 : Int32))])) tt_
          refine XS.goto X_48.here hEX rfl (pc0 := 129) (pc' := 133) rfl (hb hBY at_129) (by decide) (by decide) ?_
          show Steps p.tables e below (T_48.setTop (mkF m 133 #[Iv p1, Iv p2, Rv sa1, Rv sa2, Iv cc, Iv (own_hex cc), Iv (1 : Int32), Iv v, Iv (0 : Int32), Iv (own_upp (v).toNatClampNeg), Us] [(.int (1 : Int32))])) tt_
          refine XS.istore X_48.here hEX rfl (hb hBY at_133) rfl (l' := #[Iv p1, Iv p2, Rv sa1, Rv sa2, Iv cc, Iv (own_hex cc), Iv (1 : Int32), Iv v, Iv (0 : Int32), Iv (own_upp (v).toNatClampNeg), Iv (1 : Int32)]) rfl ?_
          show Steps p.tables e below (T_48.setTop (mkF m 135 #[Iv p1, Iv p2, Rv sa1, Rv sa2, Iv cc, Iv (own_hex cc), Iv (1 : Int32), Iv v, Iv (0 : Int32), Iv (own_upp (v).toNatClampNeg), Iv (1 : Int32)] [])) tt_
          refine XS.iload X_48.here hEX rfl (hb hBY at_135) rfl ?_
          show Steps p.tables e below (T_48.setTop (mkF m 137 #[Iv p1, Iv p2, Rv sa1, Rv sa2, Iv cc, Iv (own_hex cc), Iv (1 : Int32), Iv v, Iv (0 : Int32), Iv (own_upp (v).toNatClampNeg), Iv (1 : Int32)] [(.int (1 : Int32))])) tt_
          refine XS.ifNo X_48.here hEX rfl (hb hBY at_137) rfl ((if0 _ _).trans (feq (by decide : ¬ ((1 : Int32) = (0 : Int32)))).1) ?_
          show Steps p.tables e below (T_48.setTop (mkF m 140 #[Iv p1, Iv p2, Rv sa1, Rv sa2, Iv cc, Iv (own_hex cc), Iv (1 : Int32), Iv v, Iv (0 : Int32), Iv (own_upp (v).toNatClampNeg), Iv (1 : Int32)] [])) tt_
          refine XS.iload X_48.here hEX rfl (hb hBY at_140) rfl ?_
          show Steps p.tables e below (T_48.setTop (mkF m 142 #[Iv p1, Iv p2, Rv sa1, Rv sa2, Iv cc, Iv (own_hex cc), Iv (1 : Int32), Iv v, Iv (0 : Int32), Iv (own_upp (v).toNatClampNeg), Iv (1 : Int32)] [(.int (1 : Int32))])) tt_
          refine XS.ifNo X_48.here hEX rfl (hb hBY at_142) rfl ((if0 _ _).trans (feq (by decide : ¬ ((1 : Int32) = (0 : Int32)))).1) ?_
          show Steps p.tables e below (T_48.setTop (mkF m 145 #[Iv p1, Iv p2, Rv sa1, Rv sa2, Iv cc, Iv (own_hex cc), Iv (1 : Int32), Iv v, Iv (0 : Int32), Iv (own_upp (v).toNatClampNeg), Iv (1 : Int32)] [])) tt_
          refine XS.iconst X_48.here hEX rfl (hb hBY at_145) ?_
          show Steps p.tables e below (T_48.setTop (mkF m 146 #[Iv p1, Iv p2, Rv sa1, Rv sa2, Iv cc, Iv (own_hex cc), Iv (1 : Int32), Iv v, Iv (0 : Int32), Iv (own_upp (v).toNatClampNeg), Iv (1 : Int32)] [(.int (1 : Int32))])) tt_
          refine XS.goto X_48.here hEX rfl (pc0 := 146) (pc' := 150) rfl (hb hBY at_146) (by decide) (by decide) ?_
          exact kt_
        refine Done.pre sg_49 ?_
        exact Done.retN X_48 hEX hLK (t := .boolean) hRT (by simp) (hb hBY at_150) (by rw [e_48]; exact ⟨rfl, N_48, rfl⟩) (by decide) (by decide)
      · skip
        have sg_50 : ∀ tt_, Steps p.tables e below (T_42.setTop (mkF m 104 #[Iv p1, Iv p2, Rv sa1, Rv sa2, Iv cc, Iv (own_hex cc), Iv (1 : Int32), Iv v, Iv (1 : Int32), Us, Us] [(.int v), (.ref sa2)])) tt_ → Steps p.tables e below (T_42.setTop (mkF m 86 #[Iv p1, Iv p2, Rv sa1, Rv sa2, Iv cc, Iv (own_hex cc), Iv (1 : Int32), Iv v, Us, Us, Us] [(.int (p2 &&& (16 : Int32)))])) tt_ := by
          intro tt_ kt_
          refine XS.ifNo X_42.here hEX rfl (hb hBY at_86) rfl ((if0 _ _).trans (feq hc86).1) ?_
          show Steps p.tables e below (T_42.setTop (mkF m 89 #[Iv p1, Iv p2, Rv sa1, Rv sa2, Iv cc, Iv (own_hex cc), Iv (1 : Int32), Iv v, Us, Us, Us] [])) tt_
          refine XS.iconst X_42.here hEX rfl (hb hBY at_89) ?_
          show Steps p.tables e below (T_42.setTop (mkF m 90 #[Iv p1, Iv p2, Rv sa1, Rv sa2, Iv cc, Iv (own_hex cc), Iv (1 : Int32), Iv v, Us, Us, Us] [(.int (1 : Int32))])) tt_
          refine XS.goto X_42.here hEX rfl (pc0 := 90) (pc' := 94) rfl (hb hBY at_90) (by decide) (by decide) ?_
          show Steps p.tables e below (T_42.setTop (mkF m 94 #[Iv p1, Iv p2, Rv sa1, Rv sa2, Iv cc, Iv (own_hex cc), Iv (1 : Int32), Iv v, Us, Us, Us] [(.int (1 : Int32))])) tt_
          refine XS.istore X_42.here hEX rfl (hb hBY at_94) rfl (l' := #[Iv p1, Iv p2, Rv sa1, Rv sa2, Iv cc, Iv (own_hex cc), Iv (1 : Int32), Iv v, Iv (1 : Int32), Us, Us]) rfl ?_
          show Steps p.tables e below (T_42.setTop (mkF m 96 #[Iv p1, Iv p2, Rv sa1, Rv sa2, Iv cc, Iv (own_hex cc), Iv (1 : Int32), Iv v, Iv (1 : Int32), Us, Us] [])) tt_
          refine XS.iload X_42.here hEX rfl (hb hBY at_96) rfl ?_
          show Steps p.tables e below (T_42.setTop (mkF m 98 #[Iv p1, Iv p2, Rv sa1, Rv sa2, Iv cc, Iv (own_hex cc), Iv (1 : Int32), Iv v, Iv (1 : Int32), Us, Us] [(.int (1 : Int32))])) tt_
          refine XS.ifNo X_42.here hEX rfl (hb hBY at_98) rfl ((if0 _ _).trans (feq (by decide : ¬ ((1 : Int32) = (0 : Int32)))).1) ?_
          show Steps p.tables e below (T_42.setTop (mkF m 101 #[Iv p1, Iv p2, Rv sa1, Rv sa2, Iv cc, Iv (own_hex cc), Iv (1 : Int32), Iv v, Iv (1 : Int32), Us, Us] [])) tt_
          refine XS.aloadN X_42.here hEX rfl (hb hBY at_101) rfl rfl ?_
          show Steps p.tables e below (T_42.setTop (mkF m 102 #[Iv p1, Iv p2, Rv sa1, Rv sa2, Iv cc, Iv (own_hex cc), Iv (1 : Int32), Iv v, Iv (1 : Int32), Us, Us] [(.ref sa2)])) tt_
          refine XS.iload X_42.here hEX rfl (hb hBY at_102) rfl ?_
          exact kt_
        refine Done.pre sg_50 ?_
        obtain ⟨cq_51, kq_51, q_51a, q_51b, q_51c⟩ := isOf hZW e_42 fE2
        obtain ⟨_, _, ⟨T_51, L_51, k_51, n_51⟩, -, X_51, ⟨Lc_51, hQ_51, l_51, y_51, z_51⟩, st_51⟩ := X_42.virtualBack hEX (y := (⟨"java/lang/String", "charAt", "(I)C"⟩ : MethodName)) (z := (⟨"java/lang/String", "charAt", "(I)C"⟩ : MethodName)) hOW (mvT hZW (hw _ (List.mem_of_getElem? (i := 13) rfl))) (mvT hZW (hw _ (List.mem_of_getElem? (i := 14) rfl))) (notFace_of_selects (args := #[]) (mvT hZW (hw _ (List.mem_of_getElem? (i := 16) rfl)))) (mvT hZW (hw _ (List.mem_of_getElem? (i := 16) rfl))) (mvT hZW (hw _ (List.mem_of_getElem? (i := 15) rfl))) (by decide) (backOf (W := 0) (rm_charAt l Z aZ hw [] sa2 v cz fv sb2 sk2 (16 : Int32) [(.int (48 : Int32)), (.int (49 : Int32)), (.int (50 : Int32)), (.int (51 : Int32)), (.int (52 : Int32)), (.int (53 : Int32)), (.int (54 : Int32)), (.int (55 : Int32)), (.int (56 : Int32)), (.int (57 : Int32)), (.int (97 : Int32)), (.int (98 : Int32)), (.int (99 : Int32)), (.int (100 : Int32)), (.int (101 : Int32)), (.int (102 : Int32))] (own_low (v).toNatClampNeg) h2 n0 (Nat.le_trans Z0 K0.1) fE2 fS1 hcz fS2 hfv fC2 fV2 fA2 (own_ix _ hvr) (own_lowv _) (own_lowr _ hvr)) hZW (hw _ (List.mem_of_getElem? (i := 17) rfl)) (hw _ (List.mem_of_getElem? (i := 1) rfl)) (by decide) (by decide)) q_51a q_51c (g := (mkF m 104 #[Iv p1, Iv p2, Rv sa1, Rv sa2, Iv cc, Iv (own_hex cc), Iv (1 : Int32), Iv v, Iv (1 : Int32), Us, Us] [(.int v), (.ref sa2)])) rfl (by rw [hMX]; rfl) (Steps.refl _) (argsL := [(.int v)]) (rest := []) (lenOf pd__I_C_2 rfl) rfl (by show 2 * 0 + _ ≤ _; exact Nat.le_of_eq rfl) (hb hBY at_104) (fun _ _ => ⟨rfl, e_42, (by decide : 4 + 0 ≤ _), (by decide : 136 + 0 ≤ _)⟩)
        dsimp only [Pt.U, Pt.locs, Pt.cells, Pt.slots] at X_51 l_51 y_51 z_51 st_51 hQ_51
        subst l_51 y_51 z_51
        obtain ⟨rfl, N_51q, e_51⟩ := hQ_51
        have N_51 := Fr.app N_42 N_51q
        refine Done.pre (fun _ k_ => st_51.trans k_) ?_
        show Done _ _ _ _ _ _ _ (T_51.setTop (mkF m 107 #[Iv p1, Iv p2, Rv sa1, Rv sa2, Iv cc, Iv (own_hex cc), Iv (1 : Int32), Iv v, Iv (1 : Int32), Us, Us] [(.int (own_low (v).toNatClampNeg))]))
        have sg_52 : ∀ tt_, Steps p.tables e below (T_51.setTop (mkF m 120 #[Iv p1, Iv p2, Rv sa1, Rv sa2, Iv cc, Iv (own_hex cc), Iv (1 : Int32), Iv v, Iv (1 : Int32), Iv (own_low (v).toNatClampNeg), Us] [(.int (own_low (v).toNatClampNeg))])) tt_ → Steps p.tables e below (T_51.setTop (mkF m 107 #[Iv p1, Iv p2, Rv sa1, Rv sa2, Iv cc, Iv (own_hex cc), Iv (1 : Int32), Iv v, Iv (1 : Int32), Us, Us] [(.int (own_low (v).toNatClampNeg))])) tt_ := by
          intro tt_ kt_
          refine XS.goto X_51.here hEX rfl (pc0 := 107) (pc' := 116) rfl (hb hBY at_107) (by decide) (by decide) ?_
          show Steps p.tables e below (T_51.setTop (mkF m 116 #[Iv p1, Iv p2, Rv sa1, Rv sa2, Iv cc, Iv (own_hex cc), Iv (1 : Int32), Iv v, Iv (1 : Int32), Us, Us] [(.int (own_low (v).toNatClampNeg))])) tt_
          refine XS.istore X_51.here hEX rfl (hb hBY at_116) rfl (l' := #[Iv p1, Iv p2, Rv sa1, Rv sa2, Iv cc, Iv (own_hex cc), Iv (1 : Int32), Iv v, Iv (1 : Int32), Iv (own_low (v).toNatClampNeg), Us]) rfl ?_
          show Steps p.tables e below (T_51.setTop (mkF m 118 #[Iv p1, Iv p2, Rv sa1, Rv sa2, Iv cc, Iv (own_hex cc), Iv (1 : Int32), Iv v, Iv (1 : Int32), Iv (own_low (v).toNatClampNeg), Us] [])) tt_
          refine XS.iload X_51.here hEX rfl (hb hBY at_118) rfl ?_
          exact kt_
        refine Done.pre sg_52 ?_
        obtain ⟨_, _, ⟨T_53, L_53, k_53, n_53⟩, -, X_53, ⟨Lc_53, hQ_53, l_53, y_53, z_53⟩, st_53⟩ := Jvm.LawKit.callS X_51 hEX (y := (⟨"com/example/sutf/sutf/model/HexDigits", "valueOf", "(C)I"⟩ : MethodName)) hOW (mvT hZW (hw _ (List.mem_of_getElem? (i := 9) rfl))) (mvT hZW (hw _ (List.mem_of_getElem? (i := 10) rfl))) (mvT hZW (hw _ (List.mem_of_getElem? (i := 11) rfl))) (mvT hZW (hw _ (List.mem_of_getElem? (i := 12) rfl))) (by decide) (backOf (W := 0) (rm_hex l Z aZ hw [] (own_low (v).toNatClampNeg) h2 n0 (Nat.le_trans Z0 K0.1) ) hZW (hw _ (List.mem_of_getElem? (i := 12) rfl)) (hw _ (List.mem_of_getElem? (i := 11) rfl)) (by decide) (by decide)) (g := (mkF m 120 #[Iv p1, Iv p2, Rv sa1, Rv sa2, Iv cc, Iv (own_hex cc), Iv (1 : Int32), Iv v, Iv (1 : Int32), Iv (own_low (v).toNatClampNeg), Us] [(.int (own_low (v).toNatClampNeg))])) rfl (by rw [hMX]; rfl) (argsL := [(.int (own_low (v).toNatClampNeg))]) (rest := []) (lenOf pd__C_I_1 rfl) rfl (by show 2 * 0 + _ ≤ _; exact Nat.le_of_eq rfl) (hb hBY at_120) (fun _ _ => ⟨rfl, e_51, (by decide : 4 + 0 ≤ _), (by decide : 136 + 0 ≤ _)⟩)
        dsimp only [Pt.U, Pt.locs, Pt.cells, Pt.slots] at X_53 l_53 y_53 z_53 st_53 hQ_53
        subst l_53 y_53 z_53
        obtain ⟨rfl, N_53q, e_53⟩ := hQ_53
        have N_53 := Fr.app N_51 N_53q
        refine Done.pre (fun _ k_ => st_53 _ k_) ?_
        show Done _ _ _ _ _ _ _ (T_53.setTop (mkF m 123 #[Iv p1, Iv p2, Rv sa1, Rv sa2, Iv cc, Iv (own_hex cc), Iv (1 : Int32), Iv v, Iv (1 : Int32), Iv (own_low (v).toNatClampNeg), Us] [(.int (own_hex (own_low (v).toNatClampNeg)))]))
        have sg_54 : ∀ tt_, Steps p.tables e below (T_53.setTop (mkF m 150 #[Iv p1, Iv p2, Rv sa1, Rv sa2, Iv cc, Iv (own_hex cc), Iv (1 : Int32), Iv v, Iv (1 : Int32), Iv (own_low (v).toNatClampNeg), Iv (1 : Int32)] [(.int (1 : Int32))])) tt_ → Steps p.tables e below (T_53.setTop (mkF m 123 #[Iv p1, Iv p2, Rv sa1, Rv sa2, Iv cc, Iv (own_hex cc), Iv (1 : Int32), Iv v, Iv (1 : Int32), Iv (own_low (v).toNatClampNeg), Us] [(.int (own_hex (own_low (v).toNatClampNeg)))])) tt_ := by
          intro tt_ kt_
          refine XS.iload X_53.here hEX rfl (hb hBY at_123) rfl ?_
          show Steps p.tables e below (T_53.setTop (mkF m 125 #[Iv p1, Iv p2, Rv sa1, Rv sa2, Iv cc, Iv (own_hex cc), Iv (1 : Int32), Iv v, Iv (1 : Int32), Iv (own_low (v).toNatClampNeg), Us] [(.int v), (.int (own_hex (own_low (v).toNatClampNeg)))])) tt_
          refine XS.icmpNo X_53.here hEX rfl (hb hBY at_125) rfl (teq (own_hexlow v hvr : (own_hex (own_low (v).toNatClampNeg)) = v)).2 ?_
          show Steps p.tables e below (T_53.setTop (mkF m 128 #[Iv p1, Iv p2, Rv sa1, Rv sa2, Iv cc, Iv (own_hex cc), Iv (1 : Int32), Iv v, Iv (1 : Int32), Iv (own_low (v).toNatClampNeg), Us] [])) tt_
          refine XS.iconst X_53.here hEX rfl (hb hBY at_128) ?_
          show Steps p.tables e below (T_53.setTop (mkF m 129 #[Iv p1, Iv p2, Rv sa1, Rv sa2, Iv cc, Iv (own_hex cc), Iv (1 : Int32), Iv v, Iv (1 : Int32), Iv (own_low (v).toNatClampNeg), Us] [(.int (1 : Int32))])) tt_
          refine XS.goto X_53.here hEX rfl (pc0 := 129) (pc' := 133) rfl (hb hBY at_129) (by decide) (by decide) ?_
          show Steps p.tables e below (T_53.setTop (mkF m 133 #[Iv p1, Iv p2, Rv sa1, Rv sa2, Iv cc, Iv (own_hex cc), Iv (1 : Int32), Iv v, Iv (1 : Int32), Iv (own_low (v).toNatClampNeg), Us] [(.int (1 : Int32))])) tt_
          refine XS.istore X_53.here hEX rfl (hb hBY at_133) rfl (l' := #[Iv p1, Iv p2, Rv sa1, Rv sa2, Iv cc, Iv (own_hex cc), Iv (1 : Int32), Iv v, Iv (1 : Int32), Iv (own_low (v).toNatClampNeg), Iv (1 : Int32)]) rfl ?_
          show Steps p.tables e below (T_53.setTop (mkF m 135 #[Iv p1, Iv p2, Rv sa1, Rv sa2, Iv cc, Iv (own_hex cc), Iv (1 : Int32), Iv v, Iv (1 : Int32), Iv (own_low (v).toNatClampNeg), Iv (1 : Int32)] [])) tt_
          refine XS.iload X_53.here hEX rfl (hb hBY at_135) rfl ?_
          show Steps p.tables e below (T_53.setTop (mkF m 137 #[Iv p1, Iv p2, Rv sa1, Rv sa2, Iv cc, Iv (own_hex cc), Iv (1 : Int32), Iv v, Iv (1 : Int32), Iv (own_low (v).toNatClampNeg), Iv (1 : Int32)] [(.int (1 : Int32))])) tt_
          refine XS.ifNo X_53.here hEX rfl (hb hBY at_137) rfl ((if0 _ _).trans (feq (by decide : ¬ ((1 : Int32) = (0 : Int32)))).1) ?_
          show Steps p.tables e below (T_53.setTop (mkF m 140 #[Iv p1, Iv p2, Rv sa1, Rv sa2, Iv cc, Iv (own_hex cc), Iv (1 : Int32), Iv v, Iv (1 : Int32), Iv (own_low (v).toNatClampNeg), Iv (1 : Int32)] [])) tt_
          refine XS.iload X_53.here hEX rfl (hb hBY at_140) rfl ?_
          show Steps p.tables e below (T_53.setTop (mkF m 142 #[Iv p1, Iv p2, Rv sa1, Rv sa2, Iv cc, Iv (own_hex cc), Iv (1 : Int32), Iv v, Iv (1 : Int32), Iv (own_low (v).toNatClampNeg), Iv (1 : Int32)] [(.int (1 : Int32))])) tt_
          refine XS.ifNo X_53.here hEX rfl (hb hBY at_142) rfl ((if0 _ _).trans (feq (by decide : ¬ ((1 : Int32) = (0 : Int32)))).1) ?_
          show Steps p.tables e below (T_53.setTop (mkF m 145 #[Iv p1, Iv p2, Rv sa1, Rv sa2, Iv cc, Iv (own_hex cc), Iv (1 : Int32), Iv v, Iv (1 : Int32), Iv (own_low (v).toNatClampNeg), Iv (1 : Int32)] [])) tt_
          refine XS.iconst X_53.here hEX rfl (hb hBY at_145) ?_
          show Steps p.tables e below (T_53.setTop (mkF m 146 #[Iv p1, Iv p2, Rv sa1, Rv sa2, Iv cc, Iv (own_hex cc), Iv (1 : Int32), Iv v, Iv (1 : Int32), Iv (own_low (v).toNatClampNeg), Iv (1 : Int32)] [(.int (1 : Int32))])) tt_
          refine XS.goto X_53.here hEX rfl (pc0 := 146) (pc' := 150) rfl (hb hBY at_146) (by decide) (by decide) ?_
          exact kt_
        refine Done.pre sg_54 ?_
        exact Done.retN X_53 hEX hLK (t := .boolean) hRT (by simp) (hb hBY at_150) (by rw [e_53]; exact ⟨rfl, N_53, rfl⟩) (by decide) (by decide)
set_option maxRecDepth 65536 in
set_option maxHeartbeats 40000000 in
theorem comes_1 {Post : Tables → Env → Array Value → State → Outcome → State → Prop} (hpost : ∀ tb e args s v u, (limb_1_1.after args s (.returned v) u = true ∧ limb_1_2.after args s (.returned v) u = true ∧ True) → ReturnedEndW s (.returned v) u (Jvm.fieldLocs frame_1_writes args s ++ Jvm.arrayLocs frame_1_arrays args s ++ Jvm.staticLocs frame_1_statics s) 8 2112 → Post tb e args s (.returned v) u) :
    ArmFor flags0 classFile x code maxLocals ret World_1 tables_1 room_1 Calls_1 rest_1 Pre_1 Post := by
  intro l hfl _ _ p e ha hc hk s m args below hf hA hF happ hP
  obtain ⟨hcalls, hrest, hpre⟩ := hP
  obtain ⟨-, -, -, hnamed, -, -, -, hat⟩ := (Spec.applies_iff hf).mp happ
  obtain ⟨hg, hn⟩ := and_e (Cond.before_iff.mp (show (Jvm.Cond.and given_1 narrow_1).before args s = true from hpre))
  obtain ⟨g1a, g1b⟩ := and_e hg
  obtain ⟨g2a, g2b⟩ := and_e g1b
  obtain ⟨w0, w1, rfl⟩ : ∃ w0 w1 : Value, args = #[w0, w1] := by
    have hs : args.size = 2 := by simpa [Cond.value, given_1] using g1a
    obtain ⟨L⟩ := args
    match L, hs with
    | [w0, w1], _ => exact ⟨w0, w1, rfl⟩
  have hw := fun d (hd : d ∈ tables_1) => atoms_spec (ws := Jvm.Cond.code x code maxLocals ret :: tables_1) hat d (List.mem_cons_of_mem _ hd)
  have hsets := fun d (hd : d ∈ jdkStatics_1) => (atoms_of _ (rest_1_c_eq ▸ (show rest_1_c.before _ s = true from hrest))).1 d hd
  have z0 := hsets _ (List.mem_of_getElem? (i := 0) rfl)
  have z1 := hsets _ (List.mem_of_getElem? (i := 1) rfl)
  have z2 := hsets _ (List.mem_of_getElem? (i := 2) rfl)
  have z7 := hsets _ (List.mem_of_getElem? (i := 7) rfl)
  have z8 := hsets _ (List.mem_of_getElem? (i := 8) rfl)
  obtain ⟨i0, ei0⟩ := is_v g2a
  obtain rfl : w0 = (.int i0) := Option.some.inj ei0
  obtain ⟨i1, ei1⟩ := is_v g2b
  obtain rfl : w1 = (.int i1) := Option.some.inj ei1
  obtain ⟨cz, ecz⟩ := is_v (Cond.before_iff.mp z1)
  have hcz : ¬ cz = (0 : Int32) := fun q => by
    have q2 := z2
    simp only [Cond.before, Cond.holds, Cond.value, ecz, q] at q2
    simp [Term.eval] at q2
  obtain ⟨fv, efv, hfv⟩ : ∃ v, (Term.static "jdk/internal/util/Preconditions" "SIOOBE_FORMATTER" "Ljava/util/function/BiFunction;").eval #[(.int i0), (.int i1)] s none [] s = some v ∧ v.isRef = true := by
    have q := z8
    simp only [Cond.before, Cond.holds, Cond.value] at q
    cases hv : (Term.static "jdk/internal/util/Preconditions" "SIOOBE_FORMATTER" "Ljava/util/function/BiFunction;").eval #[(.int i0), (.int i1)] s none [] s with
    | none => simp [hv] at q
    | some v =>
      refine ⟨v, rfl, ?_⟩
      simp only [hv] at q
      cases v <;> simp_all [Value.isRef]
  have S1 := Sta.start ecz (Or.inl z0)
  have S2 := Sta.start efv (Or.inl z7)
  have H0 : CHv s consts_1 s.vm s.heap := CHv.start (own_EW s _ hw) (fun p hp => hcalls.1 p hp) z2 (hw _ (by decide +kernel)) (hw _ (by decide +kernel))
  obtain ⟨n, o, h1, h2, h3, _, L, rfl, ⟨rfl, N⟩, hq⟩ := rm0 l s _ hw tables_1 i0 i1 s.heap.size (Nat.le_refl _) H0 cz hcz S1 fv hfv S2 p e ha hc hk s m _ below hf ((Spec.applies_iff_loose hf).mp happ).1 ⟨rfl, rfl⟩ trivial
  refine ⟨n, _, h1, h2, h3, hpost _ _ _ _ _ _ ⟨Cond.after_iff.mpr rfl, Cond.after_iff.mpr (eq_i res_at (Term.int_eval (1)) rfl), trivial⟩ ⟨hq.1, hq.2.1, hq.2.2.1, (hq.2.2.2.sift fun y hy => Or.inr (N y hy)).mono (by decide) (by decide)⟩⟩
theorem main_1_1 : Claimed_1_1 := comes_1 fun _ _ _ _ _ _ h hF => ⟨h.1, hF⟩
theorem main_1_2 : Claimed_1_2 := comes_1 fun _ _ _ _ _ _ h hF => ⟨h.2.1, hF⟩
end Jvm.Pilot.@@N@@
namespace Jvm.Pilot.@@N@@
open Jvm Jvm.ClassFile Sem Op Lib Jvm.Free Jvm.Stand Jvm.Pilot.@@N@@.Jvm.D
/-! MADE BY PROGRAM (witnessworld.py) out of the Statement's table words and the real class files: 17 classes; the members and pool entries that the words name. The judged class is class 1, her method 1. -/
namespace start1
open Jvm.ClassFile
def u (s : String) : CpInfo := .utf8 (stringToUtf16 s)
/-- a pool by its gaps: so many unusable entries, then the entry; so many at the end -/
def gap : Nat → List CpInfo → List CpInfo
  | 0, r => r
  | n + 1, r => .unusable :: gap n r
def poolList (es : List (Nat × CpInfo)) (last : Nat) : List CpInfo := es.foldr (fun e r => gap e.1 (e.2 :: r)) (gap last [])
def pool (es : List (Nat × CpInfo)) (last : Nat) : Array CpInfo := ⟨poolList es last⟩
def fileOf (pool : Array CpInfo) (this : Nat) (attrs : Array Attribute := #[]) (ms : Array MethodInfo := #[]) (fl : Nat := 33) (sup : Nat := 0) (ifs : Array Nat := #[]) (fds : Array FieldInfo := #[]) : ClassFile where
  minorVersion := 0
  majorVersion := 65
  constantPool := pool
  accessFlags := fl
  thisClass := this
  superClass := sup
  interfaces := ifs
  fields := fds
  methods := ms
  attributes := attrs
def plain (name : String) (sup : Option ClassId) : Class where
  name := name
  kind := .ordinary
  loader := none
  accessFlags := 33
  super := sup
  interfaces := #[]
  cf := none
  fields := #[]
  methods := #[]
  instanceTypes := #[]
  staticTypes := #[]
  resolved := #[]
  callSites := []
  init := .initialized
  statics := none
  mirror := none

def pool0 : Array CpInfo := pool [(5, u "<init>"), (0, u "()V"), (1, .class_ 10), (1, u "java/lang/Object")] 113

def k0m0 : Method := { name := "<init>", desc := "()V", sig := { parameters := [], returnType := none }, accessFlags := 1, code := none }
/-- java/lang/Object -/
def k0 : Class := { plain "java/lang/Object" none with
  accessFlags := 33
  interfaces := #[]
  cf := some (fileOf pool0 8 #[] #[{ accessFlags := 1, nameIndex := 5, descriptorIndex := 6, attributes := #[] }] 33 0 #[] #[])
  fields := #[]
  methods := #[k0m0]
  instanceTypes := #[]
  staticTypes := #[]
  resolved := Array.replicate 124 none
  statics := none }

def pool1 : Array CpInfo := pool [(2, .class_ 4), (1, u "java/lang/Object"), (0, u "<init>"), (0, u "()V"), (0, .string 8), (0, u "0123456789ABCDEF"), (0, .string 10), (0, u "0123456789abcdef"), (0, .methodref 12 13), (0, .class_ 14), (0, .nameAndType 15 16), (0, u "com/example/sutf/sutf/model/HexDigits"), (0, u "valueOf"), (0, u "(C)I"), (0, .methodref 18 19), (0, .class_ 20), (0, .nameAndType 21 22), (0, u "java/lang/String"), (0, u "charAt"), (0, u "(I)C"), (0, .class_ 24), (0, u "com/example/sutf/sutf/model/HexDigitsValueOfPinLaw"), (2, u "law"), (0, u "(II)Z")] 3

def k1m0 : Method := { name := "<init>", desc := "()V", sig := { parameters := [], returnType := none }, accessFlags := 2, code := none }
def k1c1 : Code := { maxStack := 3, maxLocals := 11, code := code, exceptionTable := #[], attributes := #[] }
def k1m1 : Method := { name := "law", desc := "(II)Z", sig := { parameters := [.int, .int], returnType := some .boolean }, accessFlags := 9, code := some k1c1 }
/-- com/example/sutf/sutf/model/HexDigitsValueOfPinLaw -/
def k1 : Class := { plain "com/example/sutf/sutf/model/HexDigitsValueOfPinLaw" (some 0) with
  accessFlags := 49
  interfaces := #[]
  cf := some (fileOf pool1 23 #[] #[{ accessFlags := 2, nameIndex := 5, descriptorIndex := 6, attributes := #[] }, { accessFlags := 9, nameIndex := 27, descriptorIndex := 28, attributes := #[] }] 49 2 #[] #[])
  fields := #[]
  methods := #[k1m0, k1m1]
  instanceTypes := #[]
  staticTypes := #[]
  resolved := Array.replicate 32 none
  statics := none }

def pool2 : Array CpInfo := pool [(1, .class_ 2), (0, u "java/io/Serializable"), (0, .class_ 4), (0, u "java/lang/Object")] 2

/-- java/io/Serializable -/
def k2 : Class := { plain "java/io/Serializable" (some 0) with
  accessFlags := 1537
  interfaces := #[]
  cf := some (fileOf pool2 1 #[] #[] 1537 3 #[] #[])
  fields := #[]
  methods := #[]
  instanceTypes := #[]
  staticTypes := #[]
  resolved := Array.replicate 7 none
  statics := none }

def pool3 : Array CpInfo := pool [(1, .class_ 2), (0, u "java/lang/Comparable"), (0, .class_ 4), (0, u "java/lang/Object")] 7

/-- java/lang/Comparable -/
def k3 : Class := { plain "java/lang/Comparable" (some 0) with
  accessFlags := 1537
  interfaces := #[]
  cf := some (fileOf pool3 1 #[] #[] 1537 3 #[] #[])
  fields := #[]
  methods := #[]
  instanceTypes := #[]
  staticTypes := #[]
  resolved := Array.replicate 12 none
  statics := none }

def pool4 : Array CpInfo := pool [(2, .class_ 4), (1, u "java/lang/CharSequence"), (42, .class_ 48), (0, u "java/lang/CharSequence$1CodePointIterator"), (10, .class_ 60), (0, u "java/lang/CharSequence$1CharIterator"), (5, .class_ 67), (0, u "java/lang/Object")] 63

/-- java/lang/CharSequence -/
def k4 : Class := { plain "java/lang/CharSequence" (some 0) with
  accessFlags := 1537
  interfaces := #[]
  cf := some (fileOf pool4 2 #[.nestMembers #[47, 59]] #[] 1537 66 #[] #[])
  fields := #[]
  methods := #[]
  instanceTypes := #[]
  staticTypes := #[]
  resolved := Array.replicate 131 none
  statics := none }

def pool5 : Array CpInfo := pool [(1, .class_ 2), (0, u "java/lang/constant/Constable"), (0, .class_ 4), (0, u "java/lang/Object")] 6

/-- java/lang/constant/Constable -/
def k5 : Class := { plain "java/lang/constant/Constable" (some 0) with
  accessFlags := 1537
  interfaces := #[]
  cf := some (fileOf pool5 1 #[] #[] 1537 3 #[] #[])
  fields := #[]
  methods := #[]
  instanceTypes := #[]
  staticTypes := #[]
  resolved := Array.replicate 11 none
  statics := none }

def pool6 : Array CpInfo := pool [(1, .class_ 2), (0, u "java/lang/constant/ConstantDesc"), (0, .class_ 4), (0, u "java/lang/Object")] 32

/-- java/lang/constant/ConstantDesc -/
def k6 : Class := { plain "java/lang/constant/ConstantDesc" (some 0) with
  accessFlags := 1537
  interfaces := #[]
  cf := some (fileOf pool6 1 #[] #[] 1537 3 #[] #[])
  fields := #[]
  methods := #[]
  instanceTypes := #[]
  staticTypes := #[]
  resolved := Array.replicate 37 none
  statics := none }

def pool7 : Array CpInfo := pool [(2, .class_ 4), (1, u "java/lang/Object"), (0, u "<init>"), (0, u "()V"), (2, .fieldref 10 11), (0, .class_ 12), (0, .nameAndType 13 14), (0, u "java/lang/String"), (0, u "value"), (0, u "[B"), (0, .fieldref 10 16), (0, .nameAndType 17 18), (0, u "coder"), (0, u "B"), (2, u "hash"), (0, u "I"), (2, u "hashIsZero"), (0, u "Z"), (11, .fieldref 10 39), (0, .nameAndType 40 26), (0, u "COMPACT_STRINGS"), (66, .class_ 109), (1, u "java/lang/StringLatin1"), (32, u "()Z"), (220, u "([BI)C"), (27, u "(II)V"), (35, u "(I)C"), (64, .methodref 10 493), (0, .nameAndType 494 142), (0, u "isLatin1"), (0, .methodref 107 496), (0, .nameAndType 497 363), (0, u "charAt"), (3, u "checkIndex"), (73, .class_ 576), (0, u "java/lang/CharSequence"), (22, u "CASE_INSENSITIVE_ORDER"), (0, u "Ljava/util/Comparator;"), (452, .fieldref 1054 1055), (0, .class_ 1056), (0, .nameAndType 1057 1058), (0, u "jdk/internal/util/Preconditions"), (0, u "SIOOBE_FORMATTER"), (0, u "Ljava/util/function/BiFunction;"), (0, .methodref 1054 1060), (0, .nameAndType 501 1061), (0, u "(IILjava/util/function/BiFunction;)I"), (39, u "serialPersistentFields"), (0, u "[Ljava/io/ObjectStreamField;"), (0, .class_ 1104), (0, u "java/lang/String$CaseInsensitiveComparator"), (1, .class_ 1107), (0, u "java/io/Serializable"), (0, .class_ 1109), (0, u "java/lang/Comparable"), (0, .class_ 1111), (0, u "java/lang/constant/Constable"), (0, .class_ 1113), (0, u "java/lang/constant/ConstantDesc"), (2, u "serialVersionUID"), (0, u "J"), (3, u "REPL"), (0, u "C"), (2, u "LATIN1"), (1, u "UTF16")] 323

def k7m0 : Method := { name := "<init>", desc := "()V", sig := { parameters := [], returnType := none }, accessFlags := 1, code := none }
def k7c1 : Code := { maxStack := 2, maxLocals := 2, code := jdk_42_method_56_code, exceptionTable := #[], attributes := #[] }
def k7m1 : Method := { name := "charAt", desc := "(I)C", sig := { parameters := [.int], returnType := some .char }, accessFlags := 1, code := some k7c1 }
def k7c2 : Code := { maxStack := 1, maxLocals := 1, code := jdk_42_method_154_code, exceptionTable := #[], attributes := #[] }
def k7m2 : Method := { name := "isLatin1", desc := "()Z", sig := { parameters := [], returnType := some .boolean }, accessFlags := 0, code := some k7c2 }
def k7c3 : Code := { maxStack := 3, maxLocals := 2, code := jdk_42_method_155_code, exceptionTable := #[], attributes := #[] }
def k7m3 : Method := { name := "checkIndex", desc := "(II)V", sig := { parameters := [.int, .int], returnType := none }, accessFlags := 8, code := some k7c3 }
/-- java/lang/String -/
def k7 : Class := { plain "java/lang/String" (some 0) with
  accessFlags := 49
  interfaces := #[2, 3, 4, 5, 6]
  cf := some (fileOf pool7 10 #[.nestMembers #[1103]] #[{ accessFlags := 1, nameIndex := 5, descriptorIndex := 6, attributes := #[] }, { accessFlags := 1, nameIndex := 497, descriptorIndex := 427, attributes := #[] }, { accessFlags := 0, nameIndex := 494, descriptorIndex := 142, attributes := #[] }, { accessFlags := 8, nameIndex := 501, descriptorIndex := 391, attributes := #[] }] 49 2 #[1106, 1108, 575, 1110, 1112] #[{ accessFlags := 18, nameIndex := 13, descriptorIndex := 14, attributes := #[] }, { accessFlags := 18, nameIndex := 17, descriptorIndex := 18, attributes := #[] }, { accessFlags := 2, nameIndex := 21, descriptorIndex := 22, attributes := #[] }, { accessFlags := 2, nameIndex := 25, descriptorIndex := 26, attributes := #[] }, { accessFlags := 26, nameIndex := 1116, descriptorIndex := 1117, attributes := #[] }, { accessFlags := 24, nameIndex := 40, descriptorIndex := 26, attributes := #[] }, { accessFlags := 26, nameIndex := 1101, descriptorIndex := 1102, attributes := #[] }, { accessFlags := 26, nameIndex := 1121, descriptorIndex := 1122, attributes := #[] }, { accessFlags := 25, nameIndex := 599, descriptorIndex := 600, attributes := #[] }, { accessFlags := 24, nameIndex := 1125, descriptorIndex := 18, attributes := #[] }, { accessFlags := 24, nameIndex := 1127, descriptorIndex := 18, attributes := #[] }])
  fields := #[{ name := "value", type := (.array .byte), accessFlags := 18, slot := 0, constantValue := 0 }, { name := "coder", type := .byte, accessFlags := 18, slot := 1, constantValue := 0 }, { name := "hash", type := .int, accessFlags := 2, slot := 2, constantValue := 0 }, { name := "hashIsZero", type := .boolean, accessFlags := 2, slot := 3, constantValue := 0 }, { name := "serialVersionUID", type := .long, accessFlags := 26, slot := 0, constantValue := 0 }, { name := "COMPACT_STRINGS", type := .boolean, accessFlags := 24, slot := 1, constantValue := 0 }, { name := "serialPersistentFields", type := (.array (.object "java/io/ObjectStreamField")), accessFlags := 26, slot := 2, constantValue := 0 }, { name := "REPL", type := .char, accessFlags := 26, slot := 3, constantValue := 0 }, { name := "CASE_INSENSITIVE_ORDER", type := (.object "java/util/Comparator"), accessFlags := 25, slot := 4, constantValue := 0 }, { name := "LATIN1", type := .byte, accessFlags := 24, slot := 5, constantValue := 0 }, { name := "UTF16", type := .byte, accessFlags := 24, slot := 6, constantValue := 0 }]
  methods := #[k7m0, k7m1, k7m2, k7m3]
  instanceTypes := #[(.array .byte), .byte, .int, .boolean]
  staticTypes := #[.long, .boolean, (.array (.object "java/io/ObjectStreamField")), .char, (.object "java/util/Comparator"), .byte, .byte]
  resolved := Array.replicate 1451 none
  statics := some 0 }

def pool8 : Array CpInfo := pool [(2, .class_ 4), (1, u "java/lang/Object"), (0, u "<init>"), (0, u "()V"), (1, .class_ 10), (1, u "com/example/sutf/sutf/model/HexDigits"), (0, u "UPPER_CASE"), (0, u "[C"), (12, u "valueOf"), (0, u "(C)I")] 4

def k8m0 : Method := { name := "<init>", desc := "()V", sig := { parameters := [], returnType := none }, accessFlags := 2, code := none }
def k8c1 : Code := { maxStack := 2, maxLocals := 2, code := prog_37_method_3_code, exceptionTable := #[], attributes := #[] }
def k8m1 : Method := { name := "valueOf", desc := "(C)I", sig := { parameters := [.char], returnType := some .int }, accessFlags := 8, code := some k8c1 }
/-- com/example/sutf/sutf/model/HexDigits -/
def k8 : Class := { plain "com/example/sutf/sutf/model/HexDigits" (some 0) with
  accessFlags := 48
  interfaces := #[]
  cf := some (fileOf pool8 8 #[] #[{ accessFlags := 2, nameIndex := 5, descriptorIndex := 6, attributes := #[] }, { accessFlags := 8, nameIndex := 25, descriptorIndex := 26, attributes := #[] }] 48 2 #[] #[{ accessFlags := 26, nameIndex := 11, descriptorIndex := 12, attributes := #[] }])
  fields := #[{ name := "UPPER_CASE", type := (.array .char), accessFlags := 26, slot := 0, constantValue := 0 }]
  methods := #[k8m0, k8m1]
  instanceTypes := #[]
  staticTypes := #[(.array .char)]
  resolved := Array.replicate 31 none
  statics := none }

def pool9 : Array CpInfo := pool [(1, .class_ 2), (0, u "java/lang/String"), (1, .class_ 6), (1, u "java/lang/Object"), (0, u "<init>"), (0, u "()V"), (0, .methodref 1 10), (0, .nameAndType 11 12), (0, u "checkIndex"), (0, u "(II)V"), (1, .class_ 16), (1, u "java/lang/StringLatin1"), (36, u "([BI)C"), (67, u "$assertionsDisabled"), (0, u "Z"), (98, .class_ 223), (1, u "java/lang/StringLatin1$LinesSpliterator"), (28, u "charAt"), (137, .class_ 391), (0, u "java/lang/StringLatin1$CharsSpliterator")] 3

def k9m0 : Method := { name := "<init>", desc := "()V", sig := { parameters := [], returnType := none }, accessFlags := 0, code := none }
def k9c1 : Code := { maxStack := 2, maxLocals := 2, code := jdk_43_method_2_code, exceptionTable := #[], attributes := #[] }
def k9m1 : Method := { name := "charAt", desc := "([BI)C", sig := { parameters := [(.array .byte), .int], returnType := some .char }, accessFlags := 9, code := some k9c1 }
/-- java/lang/StringLatin1 -/
def k9 : Class := { plain "java/lang/StringLatin1" (some 0) with
  accessFlags := 48
  interfaces := #[]
  cf := some (fileOf pool9 14 #[.nestMembers #[390, 221]] #[{ accessFlags := 0, nameIndex := 7, descriptorIndex := 8, attributes := #[] }, { accessFlags := 9, nameIndex := 252, descriptorIndex := 53, attributes := #[] }] 48 4 #[] #[{ accessFlags := 4120, nameIndex := 121, descriptorIndex := 122, attributes := #[] }])
  fields := #[{ name := "$assertionsDisabled", type := .boolean, accessFlags := 4120, slot := 0, constantValue := 0 }]
  methods := #[k9m0, k9m1]
  instanceTypes := #[]
  staticTypes := #[.boolean]
  resolved := Array.replicate 395 none
  statics := none }

def pool10 : Array CpInfo := pool [(2, .class_ 4), (1, u "java/lang/Object"), (0, u "<init>"), (0, u "()V"), (17, .class_ 26), (1, u "jdk/internal/util/Preconditions"), (6, u "checkIndex"), (21, .class_ 56), (0, u "jdk/internal/util/Preconditions$4"), (57, .class_ 115), (0, u "jdk/internal/util/Preconditions$1"), (7, u "SIOOBE_FORMATTER"), (0, u "Ljava/util/function/BiFunction;"), (0, .class_ 126), (0, u "jdk/internal/util/Preconditions$2"), (3, u "AIOOBE_FORMATTER"), (0, .class_ 132), (0, u "jdk/internal/util/Preconditions$3"), (3, u "IOOBE_FORMATTER"), (41, u "(IILjava/util/function/BiFunction;)I")] 15

def k10m0 : Method := { name := "<init>", desc := "()V", sig := { parameters := [], returnType := none }, accessFlags := 1, code := none }
def k10c1 : Code := { maxStack := 3, maxLocals := 3, code := jdk_41_method_11_code, exceptionTable := #[], attributes := #[] }
def k10m1 : Method := { name := "checkIndex", desc := "(IILjava/util/function/BiFunction;)I", sig := { parameters := [.int, .int, (.object "java/util/function/BiFunction")], returnType := some .int }, accessFlags := 9, code := some k10c1 }
/-- jdk/internal/util/Preconditions -/
def k10 : Class := { plain "jdk/internal/util/Preconditions" (some 0) with
  accessFlags := 33
  interfaces := #[]
  cf := some (fileOf pool10 24 #[.nestMembers #[55, 131, 125, 114]] #[{ accessFlags := 1, nameIndex := 5, descriptorIndex := 6, attributes := #[] }, { accessFlags := 9, nameIndex := 33, descriptorIndex := 178, attributes := #[] }] 33 2 #[] #[{ accessFlags := 25, nameIndex := 123, descriptorIndex := 124, attributes := #[] }, { accessFlags := 25, nameIndex := 130, descriptorIndex := 124, attributes := #[] }, { accessFlags := 25, nameIndex := 136, descriptorIndex := 124, attributes := #[] }])
  fields := #[{ name := "SIOOBE_FORMATTER", type := (.object "java/util/function/BiFunction"), accessFlags := 25, slot := 0, constantValue := 0 }, { name := "AIOOBE_FORMATTER", type := (.object "java/util/function/BiFunction"), accessFlags := 25, slot := 1, constantValue := 0 }, { name := "IOOBE_FORMATTER", type := (.object "java/util/function/BiFunction"), accessFlags := 25, slot := 2, constantValue := 0 }]
  methods := #[k10m0, k10m1]
  instanceTypes := #[]
  staticTypes := #[(.object "java/util/function/BiFunction"), (.object "java/util/function/BiFunction"), (.object "java/util/function/BiFunction")]
  resolved := Array.replicate 194 none
  statics := some 1 }

def pool11 : Array CpInfo := pool [(9, u "<init>"), (6, .class_ 18), (1, u "java/lang/Object"), (0, u "()V"), (1, .class_ 23), (1, u "jdk/internal/util/ArraysSupport"), (0, u "LOG2_ARRAY_LONG_INDEX_SCALE"), (0, u "I"), (2, u "U"), (0, u "Ljdk/internal/misc/Unsafe;"), (8, u "BIG_ENDIAN"), (0, u "Z"), (8, u "LOG2_BYTE_BIT_SIZE"), (4, u "LOG2_ARRAY_INT_INDEX_SCALE"), (54, u "JLA"), (0, u "Ljdk/internal/access/JavaLangAccess;"), (11, u "LOG2_ARRAY_BOOLEAN_INDEX_SCALE"), (9, u "LOG2_ARRAY_BYTE_INDEX_SCALE"), (5, u "LOG2_ARRAY_CHAR_INDEX_SCALE"), (5, u "LOG2_ARRAY_SHORT_INDEX_SCALE"), (18, u "LOG2_ARRAY_FLOAT_INDEX_SCALE"), (24, u "LOG2_ARRAY_DOUBLE_INDEX_SCALE"), (89, u "T_BOOLEAN"), (2, u "T_CHAR"), (1, u "T_FLOAT"), (1, u "T_DOUBLE"), (1, u "T_BYTE"), (1, u "T_SHORT"), (1, u "T_INT"), (1, u "T_LONG"), (1, u "SOFT_MAX_ARRAY_LENGTH")] 83

def k11m0 : Method := { name := "<init>", desc := "()V", sig := { parameters := [], returnType := none }, accessFlags := 2, code := none }
/-- jdk/internal/util/ArraysSupport -/
def k11 : Class := { plain "jdk/internal/util/ArraysSupport" (some 0) with
  accessFlags := 33
  interfaces := #[]
  cf := some (fileOf pool11 21 #[] #[{ accessFlags := 2, nameIndex := 9, descriptorIndex := 19, attributes := #[] }] 33 16 #[] #[{ accessFlags := 24, nameIndex := 28, descriptorIndex := 29, attributes := #[] }, { accessFlags := 26, nameIndex := 38, descriptorIndex := 39, attributes := #[] }, { accessFlags := 25, nameIndex := 121, descriptorIndex := 25, attributes := #[] }, { accessFlags := 25, nameIndex := 131, descriptorIndex := 25, attributes := #[] }, { accessFlags := 25, nameIndex := 137, descriptorIndex := 25, attributes := #[] }, { accessFlags := 25, nameIndex := 143, descriptorIndex := 25, attributes := #[] }, { accessFlags := 25, nameIndex := 53, descriptorIndex := 25, attributes := #[] }, { accessFlags := 25, nameIndex := 24, descriptorIndex := 25, attributes := #[] }, { accessFlags := 25, nameIndex := 162, descriptorIndex := 25, attributes := #[] }, { accessFlags := 25, nameIndex := 187, descriptorIndex := 25, attributes := #[] }, { accessFlags := 26, nameIndex := 48, descriptorIndex := 25, attributes := #[] }, { accessFlags := 25, nameIndex := 277, descriptorIndex := 25, attributes := #[] }, { accessFlags := 25, nameIndex := 280, descriptorIndex := 25, attributes := #[] }, { accessFlags := 25, nameIndex := 282, descriptorIndex := 25, attributes := #[] }, { accessFlags := 25, nameIndex := 284, descriptorIndex := 25, attributes := #[] }, { accessFlags := 25, nameIndex := 286, descriptorIndex := 25, attributes := #[] }, { accessFlags := 25, nameIndex := 288, descriptorIndex := 25, attributes := #[] }, { accessFlags := 25, nameIndex := 290, descriptorIndex := 25, attributes := #[] }, { accessFlags := 25, nameIndex := 292, descriptorIndex := 25, attributes := #[] }, { accessFlags := 26, nameIndex := 108, descriptorIndex := 109, attributes := #[] }, { accessFlags := 25, nameIndex := 294, descriptorIndex := 25, attributes := #[] }])
  fields := #[{ name := "U", type := (.object "jdk/internal/misc/Unsafe"), accessFlags := 24, slot := 0, constantValue := 0 }, { name := "BIG_ENDIAN", type := .boolean, accessFlags := 26, slot := 1, constantValue := 0 }, { name := "LOG2_ARRAY_BOOLEAN_INDEX_SCALE", type := .int, accessFlags := 25, slot := 2, constantValue := 0 }, { name := "LOG2_ARRAY_BYTE_INDEX_SCALE", type := .int, accessFlags := 25, slot := 3, constantValue := 0 }, { name := "LOG2_ARRAY_CHAR_INDEX_SCALE", type := .int, accessFlags := 25, slot := 4, constantValue := 0 }, { name := "LOG2_ARRAY_SHORT_INDEX_SCALE", type := .int, accessFlags := 25, slot := 5, constantValue := 0 }, { name := "LOG2_ARRAY_INT_INDEX_SCALE", type := .int, accessFlags := 25, slot := 6, constantValue := 0 }, { name := "LOG2_ARRAY_LONG_INDEX_SCALE", type := .int, accessFlags := 25, slot := 7, constantValue := 0 }, { name := "LOG2_ARRAY_FLOAT_INDEX_SCALE", type := .int, accessFlags := 25, slot := 8, constantValue := 0 }, { name := "LOG2_ARRAY_DOUBLE_INDEX_SCALE", type := .int, accessFlags := 25, slot := 9, constantValue := 0 }, { name := "LOG2_BYTE_BIT_SIZE", type := .int, accessFlags := 26, slot := 10, constantValue := 0 }, { name := "T_BOOLEAN", type := .int, accessFlags := 25, slot := 11, constantValue := 0 }, { name := "T_CHAR", type := .int, accessFlags := 25, slot := 12, constantValue := 0 }, { name := "T_FLOAT", type := .int, accessFlags := 25, slot := 13, constantValue := 0 }, { name := "T_DOUBLE", type := .int, accessFlags := 25, slot := 14, constantValue := 0 }, { name := "T_BYTE", type := .int, accessFlags := 25, slot := 15, constantValue := 0 }, { name := "T_SHORT", type := .int, accessFlags := 25, slot := 16, constantValue := 0 }, { name := "T_INT", type := .int, accessFlags := 25, slot := 17, constantValue := 0 }, { name := "T_LONG", type := .int, accessFlags := 25, slot := 18, constantValue := 0 }, { name := "JLA", type := (.object "jdk/internal/access/JavaLangAccess"), accessFlags := 26, slot := 19, constantValue := 0 }, { name := "SOFT_MAX_ARRAY_LENGTH", type := .int, accessFlags := 25, slot := 20, constantValue := 0 }]
  methods := #[k11m0]
  instanceTypes := #[]
  staticTypes := #[(.object "jdk/internal/misc/Unsafe"), .boolean, .int, .int, .int, .int, .int, .int, .int, .int, .int, .int, .int, .int, .int, .int, .int, .int, .int, (.object "jdk/internal/access/JavaLangAccess"), .int]
  resolved := Array.replicate 378 none
  statics := none }

def pool12 : Array CpInfo := pool [(1, u "java/lang/Cloneable"), (0, .class_ 1), (0, u "java/lang/Object"), (0, .class_ 3)] 3

/-- java/lang/Cloneable -/
def k12 : Class := { plain "java/lang/Cloneable" (some 0) with
  accessFlags := 1537
  interfaces := #[]
  cf := some (fileOf pool12 2 #[] #[] 1537 4 #[] #[])
  fields := #[]
  methods := #[]
  instanceTypes := #[]
  staticTypes := #[]
  resolved := Array.replicate 8 none
  statics := none }

/-- the primitive byte -/
def k13 : Class := { plain "byte" none with kind := .primitive 'B', accessFlags := 0x411 }
/-- [B -/
def k14 : Class := { plain "[B" (some 0) with kind := .array 13 .byte, interfaces := #[12, 2], accessFlags := 1041 }

/-- the primitive int -/
def k15 : Class := { plain "int" none with kind := .primitive 'I', accessFlags := 0x411 }
/-- [I -/
def k16 : Class := { plain "[I" (some 0) with kind := .array 15 .int, interfaces := #[12, 2], accessFlags := 1041 }

def heap : Heap := #[{ cls := 7, slots := #[.long 0, .int 1, .null, .int 0, .null, .int 0, .int 0], vm := .statics 7 },
  { cls := 10, slots := #[.null, .null, .null], vm := .statics 10 }]
def classes : Array Class := #[k0, k1, k2, k3, k4, k5, k6, k7, k8, k9, k10, k11, k12, k13, k14, k15, k16]
def interned : List (Array UInt16 × Addr) := []
def slotsUsed : Nat := 10
def theMethod : MethodId := ⟨1, 1⟩
def args0 : Array Value := #[.int 7, .int 8]
def aboutOver (below : List Frame) : State where
  vm := { classes := classes, interned := interned.toArray }
  heap := heap
  slotsUsed := slotsUsed
  threads := #[{ frames := .invoking theMethod args0 :: below }]
def below0 : List Frame := [.native { method := ⟨0, 0⟩, args := #[] }]
def about1 : State := aboutOver below0
def p0 : Program := .bare "" "" ""
def e0 : Env := launch0.env 0 0 0
theorem w_frames : about1.frames = Frame.invoking theMethod args0 :: below0 := rfl
set_option maxRecDepth 65536 in
theorem w_args : argsFit about1.vm theMethod args0 = true := by decide +kernel
set_option maxRecDepth 65536 in
theorem w_heap : heapFits about1 = true := by decide +kernel
set_option maxRecDepth 65536 in
theorem w_runnable : about1.curStatus? = some .runnable := by decide +kernel
set_option maxRecDepth 65536 in
theorem w_alone : about1.alone = true := by decide +kernel
set_option maxRecDepth 65536 in
theorem w_named : about1.methodNamed? x = some theMethod := by decide +kernel
set_option maxRecDepth 65536 in
theorem w_hears : about1.hears theMethod below0 = true := by decide +kernel
set_option maxRecDepth 65536 in
theorem w_ripe : about1.ripe theMethod args0 below0 = true := by decide +kernel
theorem w_running : about1.status = .running := rfl
set_option maxRecDepth 65536 in
theorem w_room : about1.hasRoom e0.platform room_1 = true :=
  launch0.hasRoom_least _ room_1 (by decide +kernel) (by decide +kernel) (by decide +kernel) (by decide +kernel) (by decide +kernel) (by decide +kernel)
theorem allAtoms_all (ts : List Jvm.Cond) (a : Array Jvm.Value) (st : Jvm.State) : (allAtoms ts).before a st = ts.all (fun c => c.before a st) := by
  induction ts with
  | nil => rfl
  | cons c t ih =>
    show (Jvm.Cond.and c (allAtoms t)).before a st = _
    rw [Jvm.Cond.before_and, ih, List.all_cons]
def words1 : List Jvm.Cond := Jvm.Cond.code x code maxLocals ret :: tables_1
/-- a 'code' word, met by the world's own term for the bytes: nothing is compared byte by byte -/
theorem code_word {y : MethodName} {bytes : ByteArray} {mx : Nat} {rt : Option FieldType} {a : Array Value} {s : State} {m : MethodId} {meth : Method} {c : Code} (h1 : s.methodNamed? y = some m) (h2 : s.vm.method? m = some meth) (h3 : meth.code = some c) (h4 : c.code = bytes)
    (h5 : (c.maxLocals == mx && c.exceptionTable.isEmpty && decide (c.maxStack ≤ mostOperands) && decide (meth.sig.returnType = rt) && !meth.locks && decide (parseMethodDescriptor y.desc = some meth.sig)) = true) : (Jvm.Cond.code y bytes mx rt).before a s = true := by
  simp only [Bool.and_eq_true, beq_iff_eq, Bool.not_eq_true', decide_eq_true_eq] at h5
  obtain ⟨⟨⟨⟨⟨g1, g2⟩, g3⟩, g4⟩, g5⟩, g6⟩ := h5
  simp [Cond.before, Cond.holds, Cond.value, h1, h2, h3, h4, g1, g2, g3, g4, g5, g6]
def isCode : Jvm.Cond → Bool
  | .code _ _ _ _ => true
  | _ => false
theorem all_split {L : List Jvm.Cond} {P : Jvm.Cond → Bool} (h1 : L.all (fun c => isCode c || P c) = true) (h2 : ∀ c ∈ L.filter isCode, P c = true) : L.all P = true := by
  refine List.all_eq_true.mpr fun c hc => ?_
  have h := List.all_eq_true.mp h1 c hc
  rcases Bool.eq_false_or_eq_true (isCode c) with hi | hi
  · exact h2 c (List.mem_filter.mpr ⟨hc, hi⟩)
  · simpa [hi] using h
set_option maxRecDepth 65536 in
theorem w_c0 : (Jvm.Cond.code x code maxLocals ret).before args0 about1 = true := code_word (m := ⟨1, 1⟩) (meth := k1m1) (c := k1c1) (by decide +kernel) rfl rfl rfl (by decide +kernel)
set_option maxRecDepth 65536 in
theorem w_c1 : (Jvm.Cond.code ({ cls := "com/example/sutf/sutf/model/HexDigits", name := "valueOf", desc := "(C)I" } : Jvm.MethodName) prog_37_method_3_code (2 : Nat) (Option.some Jvm.ClassFile.FieldType.int)).before args0 about1 = true := code_word (m := ⟨8, 1⟩) (meth := k8m1) (c := k8c1) (by decide +kernel) rfl rfl rfl (by decide +kernel)
set_option maxRecDepth 65536 in
theorem w_c2 : (Jvm.Cond.code ({ cls := "java/lang/String", name := "charAt", desc := "(I)C" } : Jvm.MethodName) jdk_42_method_56_code (2 : Nat) (Option.some Jvm.ClassFile.FieldType.char)).before args0 about1 = true := code_word (m := ⟨7, 1⟩) (meth := k7m1) (c := k7c1) (by decide +kernel) rfl rfl rfl (by decide +kernel)
set_option maxRecDepth 65536 in
theorem w_c3 : (Jvm.Cond.code ({ cls := "java/lang/String", name := "isLatin1", desc := "()Z" } : Jvm.MethodName) jdk_42_method_154_code (1 : Nat) (Option.some Jvm.ClassFile.FieldType.boolean)).before args0 about1 = true := code_word (m := ⟨7, 2⟩) (meth := k7m2) (c := k7c2) (by decide +kernel) rfl rfl rfl (by decide +kernel)
set_option maxRecDepth 65536 in
theorem w_c4 : (Jvm.Cond.code ({ cls := "java/lang/StringLatin1", name := "charAt", desc := "([BI)C" } : Jvm.MethodName) jdk_43_method_2_code (2 : Nat) (Option.some Jvm.ClassFile.FieldType.char)).before args0 about1 = true := code_word (m := ⟨9, 1⟩) (meth := k9m1) (c := k9c1) (by decide +kernel) rfl rfl rfl (by decide +kernel)
set_option maxRecDepth 65536 in
theorem w_c5 : (Jvm.Cond.code ({ cls := "java/lang/String", name := "checkIndex", desc := "(II)V" } : Jvm.MethodName) jdk_42_method_155_code (2 : Nat) (Option.none : Option Jvm.ClassFile.FieldType)).before args0 about1 = true := code_word (m := ⟨7, 3⟩) (meth := k7m3) (c := k7c3) (by decide +kernel) rfl rfl rfl (by decide +kernel)
set_option maxRecDepth 65536 in
theorem w_c6 : (Jvm.Cond.code ({ cls := "jdk/internal/util/Preconditions", name := "checkIndex", desc := "(IILjava/util/function/BiFunction;)I" } : Jvm.MethodName) jdk_41_method_11_code (3 : Nat) (Option.some Jvm.ClassFile.FieldType.int)).before args0 about1 = true := code_word (m := ⟨10, 1⟩) (meth := k10m1) (c := k10c1) (by decide +kernel) rfl rfl rfl (by decide +kernel)
def codes1 : List Jvm.Cond := [Jvm.Cond.code x code maxLocals ret, Jvm.Cond.code ({ cls := "com/example/sutf/sutf/model/HexDigits", name := "valueOf", desc := "(C)I" } : Jvm.MethodName) prog_37_method_3_code (2 : Nat) (Option.some Jvm.ClassFile.FieldType.int), Jvm.Cond.code ({ cls := "java/lang/String", name := "charAt", desc := "(I)C" } : Jvm.MethodName) jdk_42_method_56_code (2 : Nat) (Option.some Jvm.ClassFile.FieldType.char), Jvm.Cond.code ({ cls := "java/lang/String", name := "isLatin1", desc := "()Z" } : Jvm.MethodName) jdk_42_method_154_code (1 : Nat) (Option.some Jvm.ClassFile.FieldType.boolean), Jvm.Cond.code ({ cls := "java/lang/StringLatin1", name := "charAt", desc := "([BI)C" } : Jvm.MethodName) jdk_43_method_2_code (2 : Nat) (Option.some Jvm.ClassFile.FieldType.char), Jvm.Cond.code ({ cls := "java/lang/String", name := "checkIndex", desc := "(II)V" } : Jvm.MethodName) jdk_42_method_155_code (2 : Nat) (Option.none : Option Jvm.ClassFile.FieldType), Jvm.Cond.code ({ cls := "jdk/internal/util/Preconditions", name := "checkIndex", desc := "(IILjava/util/function/BiFunction;)I" } : Jvm.MethodName) jdk_41_method_11_code (3 : Nat) (Option.some Jvm.ClassFile.FieldType.int)]
set_option maxRecDepth 65536 in
theorem codes_eq : words1.filter isCode = codes1 := rfl
theorem w_codes : ∀ c ∈ words1.filter isCode, c.before args0 about1 = true := by
  rw [codes_eq]
  intro c hc
  simp only [codes1, List.mem_cons, List.not_mem_nil, or_false] at hc
  rcases hc with rfl | rfl | rfl | rfl | rfl | rfl | rfl
  · exact w_c0
  · exact w_c1
  · exact w_c2
  · exact w_c3
  · exact w_c4
  · exact w_c5
  · exact w_c6
set_option maxRecDepth 65536 in
theorem w_t1 : (words1.take 24).all (fun c => isCode c || c.before args0 about1) = true := by decide +kernel
set_option maxRecDepth 65536 in
theorem w_t2 : (words1.drop 24).all (fun c => isCode c || c.before args0 about1) = true := by decide +kernel
theorem w_tables : (allAtoms (Jvm.Cond.code x code maxLocals ret :: tables_1)).before args0 about1 = true := by
  rw [allAtoms_all]
  show words1.all (fun c => c.before args0 about1) = true
  refine all_split ?_ w_codes
  rw [← List.take_append_drop 24 words1, List.all_append, w_t1, w_t2]
  rfl
set_option maxRecDepth 65536 in
theorem w_rest : rest_1_c.before args0 about1 = true := by decide +kernel
set_option maxRecDepth 65536 in
theorem w_case : (Jvm.Cond.and given_1 narrow_1).before args0 about1 = true := by decide +kernel
set_option maxRecDepth 65536 in
theorem w_consts : constsHeld consts_1 about1 := Jvm.Lit.constsHeldB_iff.mp (by decide +kernel)
theorem w_applies : (headSpec (Jvm.Cond.code x code maxLocals ret :: tables_1) room_1).applies x e0.platform about1 = true :=
  (Spec.applies_iff w_frames).mpr ⟨w_running, w_runnable, w_alone, w_named, w_hears, w_ripe, w_room, w_tables⟩
theorem atStart : AtStart classFile x code maxLocals ret World_1 tables_1 room_1 Calls_1 rest_1 Pre_1 launch0 p0 e0 about1 theMethod args0 below0 :=
  ⟨lists_1, trivial, launch0.admits_env _ _ _, launch0.least_env, fairChoices_fair.cas, fairChoices_fair.clock, w_frames, w_args, w_heap, w_applies, ⟨w_consts, trivial⟩, w_rest, w_case⟩
end start1
theorem witness_1 : WitnessClaimed_1 := ⟨start1.p0, start1.e0, start1.about1, start1.theMethod, start1.args0, start1.below0, start1.atStart⟩
end Jvm.Pilot.@@N@@
