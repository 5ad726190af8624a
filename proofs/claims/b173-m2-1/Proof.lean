import JvmDerived
import JvmDerived.Pilot.@@N@@Statement
import JvmDerived.Pilot.@@N@@Code
set_option linter.unusedVariables false
set_option linter.unusedSimpArgs false
namespace Jvm.RoadKit
open Sem ClassFile Op Lib Jvm.Stand Jvm.Free Jvm.LawKit
section New
variable {p : Program} {l : Launch} {e : Env} {R : Room} {s : State} {m : MethodId} {args : Array Value} {below : List Frame} {meth : Method} {c : Code} {T : State} {locs : List Loc} {cells slots : Nat}
theorem retI (X : Stand p l e R s m args below meth c T locs cells slots) (hEX : p.tables.exec = Jvm.exec) {pc : Nat} {Ls : Array Slot} {z : Int32} {rest : List Value} (hRT : meth.sig.returnType = some .int) (hd : decode c.code pc = .ok (.ireturn, 1)) {fs : List Frame}
    (hl : ∀ (f : JFrame) (acts : List Action), f.method = m → f.locked = none → f.entered = [] → (doReturn e (T.setTop f) acts (some (.int z))).1 = T.setFrames fs) : Steps p.tables e below (T.setTop (mkF m pc Ls (.int z :: rest))) (T.setFrames fs) := by
  have hm' : T.vm.method? m = some meth := X.method'
  have hn : narrow .int (.int z) = .int z := rfl
  show Steps p.tables e below (T.setTop { method := m, pc := pc, locals := Ls, stack := _ :: rest, locked := none }) _
  jvm_step X.here [X.here.top, hEX, hd, hm', hRT, hn]
  first | (intro acts; rw [hl _ acts rfl rfl rfl]) | rw [hl _ _ rfl rfl rfl]
  exact Steps.refl _
abbrev Us : Slot := .unset
abbrev Zs : Slot := .second
abbrev Nv : Slot := .val .null
abbrev Iv (x : Int32) : Slot := .val (.int x)
abbrev Lv (x : Int64) : Slot := .val (.long x)
abbrev Rv (x : Addr) : Slot := .val (.ref x)
/-- the body comes to its end from st: it returns v, and Q holds of v, of the heap and of the places written -/
def Done (p : Program) (e : Env) (below : List Frame) (s : State) (Q : Option Value → Heap → List Loc → Prop) (kc ks : Nat) (st : State) : Prop :=
  ∃ (s₂ : State) (o : Outcome), Steps p.tables e below st s₂ ∧ s₂.status = .running ∧ Ended s₂ below o ∧ ∃ v L, o = .returned v ∧ Q v s₂.heap L ∧ FrameEnd s o s₂ L kc ks
variable {Q : Option Value → Heap → List Loc → Prop} {kc ks : Nat}
theorem Done.pre {st st' : State} (h : ∀ t, Steps p.tables e below st' t → Steps p.tables e below st t) (D : Done p e below s Q kc ks st') : Done p e below s Q kc ks st := by
  obtain ⟨s₂, o, h1, r⟩ := D
  exact ⟨s₂, o, h _ h1, r⟩
theorem Done.retI (X : Stand p l e R s m args below meth c T locs cells slots) (hEX : p.tables.exec = Jvm.exec) (hLK : meth.locks = false) {pc : Nat} {Ls : Array Slot} {z : Int32} {rest : List Value} (hRT : meth.sig.returnType = some .int) (hd : decode c.code pc = .ok (.ireturn, 1))
    (hQ : Q (some (.int z)) T.heap locs) (hc : cells ≤ kc) (hs : slots ≤ ks) : Done p e below s Q kc ks (T.setTop (mkF m pc Ls (.int z :: rest))) := by
  obtain ⟨fs, hr, hrun, hended, hW, hsame⟩ := X.leave (v := some (.int z)) (fun h => by rw [hRT] at h; cases h) hLK
  exact ⟨_, _, Jvm.RoadKit.retI X hEX hRT hd hr, hrun, hended, _, _, rfl, hQ, ⟨_, rfl⟩, hW, hsame.mono hc hs⟩
theorem Done.retN (X : Stand p l e R s m args below meth c T locs cells slots) (hEX : p.tables.exec = Jvm.exec) (hLK : meth.locks = false) {pc : Nat} {Ls : Array Slot} {z : Int32} {t : FieldType} {rest : List Value} (hRT : meth.sig.returnType = some t) (ht : t = .boolean ∨ t = .byte ∨ t = .char ∨ t = .short) (hd : decode c.code pc = .ok (.ireturn, 1))
    (hQ : Q (some (.int (nar t z))) T.heap locs) (hc : cells ≤ kc) (hs : slots ≤ ks) : Done p e below s Q kc ks (T.setTop (mkF m pc Ls (.int z :: rest))) := by
  obtain ⟨fs, hr, hrun, hended, hW, hsame⟩ := X.leave (v := some (.int (nar t z))) (fun h => by rw [hRT] at h; cases h) hLK
  exact ⟨_, _, Jvm.RoadKit.retN X hEX hRT ht hd hr, hrun, hended, _, _, rfl, hQ, ⟨_, rfl⟩, hW, hsame.mono hc hs⟩
theorem Done.retL (X : Stand p l e R s m args below meth c T locs cells slots) (hEX : p.tables.exec = Jvm.exec) (hLK : meth.locks = false) {pc : Nat} {Ls : Array Slot} {z : Int64} {rest : List Value} (hRT : meth.sig.returnType = some .long) (hd : decode c.code pc = .ok (.lreturn, 1))
    (hQ : Q (some (.long z)) T.heap locs) (hc : cells ≤ kc) (hs : slots ≤ ks) : Done p e below s Q kc ks (T.setTop (mkF m pc Ls (.long z :: rest))) := by
  obtain ⟨fs, hr, hrun, hended, hW, hsame⟩ := X.leave (v := some (.long z)) (fun h => by rw [hRT] at h; cases h) hLK
  exact ⟨_, _, retOut X hEX hRT rfl (Or.inr (Or.inl ⟨rfl, rfl, _, rfl⟩)) hd hr, hrun, hended, _, _, rfl, hQ, ⟨_, rfl⟩, hW, hsame.mono hc hs⟩
theorem Done.retA (X : Stand p l e R s m args below meth c T locs cells slots) (hEX : p.tables.exec = Jvm.exec) (hLK : meth.locks = false) {pc : Nat} {Ls : Array Slot} {w : Value} {t : FieldType} {rest : List Value} (hRT : meth.sig.returnType = some t) (ht : t.isReference = true) (hw : w.isRef = true) (hd : decode c.code pc = .ok (.areturn, 1))
    (hQ : Q (some w) T.heap locs) (hc : cells ≤ kc) (hs : slots ≤ ks) : Done p e below s Q kc ks (T.setTop (mkF m pc Ls (w :: rest))) := by
  obtain ⟨fs, hr, hrun, hended, hW, hsame⟩ := X.leave (v := some w) (fun h => by rw [hRT] at h; cases h) hLK
  have hn : narrow t w = w := by cases t <;> first | rfl | (simp [FieldType.isReference] at ht)
  exact ⟨_, _, retOut X hEX hRT hn (Or.inr (Or.inr (Or.inr (Or.inr ⟨rfl, ht, hw⟩)))) hd hr, hrun, hended, _, _, rfl, hQ, ⟨_, rfl⟩, hW, hsame.mono hc hs⟩
theorem Done.retV (X : Stand p l e R s m args below meth c T locs cells slots) (hEX : p.tables.exec = Jvm.exec) (hLK : meth.locks = false) {pc : Nat} {Ls : Array Slot} (hRT : meth.sig.returnType = none) (hd : decode c.code pc = .ok (.return_, 1))
    (hQ : Q none T.heap locs) (hc : cells ≤ kc) (hs : slots ≤ ks) : Done p e below s Q kc ks (T.setTop (mkF m pc Ls [])) := by
  obtain ⟨fs, hr, hrun, hended, hW, hsame⟩ := X.leave (v := none) (fun _ => rfl) hLK
  exact ⟨_, _, X.returnOut hEX hRT hd hr, hrun, hended, _, _, rfl, hQ, ⟨_, rfl⟩, hW, hsame.mono hc hs⟩
end New
end Jvm.RoadKit
namespace Jvm.Pilot.@@N@@
open Jvm Jvm.ClassFile Sem Op Lib Jvm.Free Jvm.Stand Jvm.LawKit Jvm.RoadKit Bundle Jvm.Pilot.@@N@@.Jvm.D

def own_ref (x : Int32) : Int32 := if x = (1 : Int32) then (1 : Int32) else if x = (10 : Int32) then (1 : Int32) else if x = (100 : Int32) then (1 : Int32) else if x = (1000 : Int32) then (1 : Int32) else if x = (10000 : Int32) then (1 : Int32) else if x = (100000 : Int32) then (1 : Int32) else if x = (1000000 : Int32) then (1 : Int32) else if x = (10000000 : Int32) then (1 : Int32) else if x = (100000000 : Int32) then (1 : Int32) else if x = (1000000000 : Int32) then (1 : Int32) else (0 : Int32)
def own_pw (n : Nat) : Int32 := match n with
  | 0 => (1 : Int32)
  | 1 => (10 : Int32)
  | 2 => (100 : Int32)
  | 3 => (1000 : Int32)
  | 4 => (10000 : Int32)
  | 5 => (100000 : Int32)
  | 6 => (1000000 : Int32)
  | 7 => (10000000 : Int32)
  | 8 => (100000000 : Int32)
  | 9 => (1000000000 : Int32)
  | _ + 10 => (0 : Int32)
theorem own_pwv (n : Nat) : ([(.int (1 : Int32)), (.int (10 : Int32)), (.int (100 : Int32)), (.int (1000 : Int32)), (.int (10000 : Int32)), (.int (100000 : Int32)), (.int (1000000 : Int32)), (.int (10000000 : Int32)), (.int (100000000 : Int32)), (.int (1000000000 : Int32))] : List Value).getD n (.int (0 : Int32)) = .int (own_pw n) := by
  match n with
  | 0 => rfl
  | 1 => rfl
  | 2 => rfl
  | 3 => rfl
  | 4 => rfl
  | 5 => rfl
  | 6 => rfl
  | 7 => rfl
  | 8 => rfl
  | 9 => rfl
  | _ + 10 => rfl
theorem own_ref_pw (n : Nat) (h : n < 10) : own_ref (own_pw n) = (1 : Int32) := by
  match n, h with
  | 0, _ => rfl
  | 1, _ => rfl
  | 2, _ => rfl
  | 3, _ => rfl
  | 4, _ => rfl
  | 5, _ => rfl
  | 6, _ => rfl
  | 7, _ => rfl
  | 8, _ => rfl
  | 9, _ => rfl
def own_P (Y : Int) : Prop := Y = 1 ∨ Y = 10 ∨ Y = 100 ∨ Y = 1000 ∨ Y = 10000 ∨ Y = 100000 ∨ Y = 1000000 ∨ Y = 10000000 ∨ Y = 100000000 ∨ Y = 1000000000
theorem own_toP (x : Int32) : (own_P x.toInt ∧ own_ref x = (1 : Int32)) ∨ (¬ own_P x.toInt ∧ own_ref x = (0 : Int32)) := by
  have E : ∀ c : Int32, (x = c) = (x.toInt = c.toInt) := fun c => propext Int32.toInt_inj.symm
  have e0 : (1 : Int32).toInt = 1 := rfl
  have e1 : (10 : Int32).toInt = 10 := rfl
  have e2 : (100 : Int32).toInt = 100 := rfl
  have e3 : (1000 : Int32).toInt = 1000 := rfl
  have e4 : (10000 : Int32).toInt = 10000 := rfl
  have e5 : (100000 : Int32).toInt = 100000 := rfl
  have e6 : (1000000 : Int32).toInt = 1000000 := rfl
  have e7 : (10000000 : Int32).toInt = 10000000 := rfl
  have e8 : (100000000 : Int32).toInt = 100000000 := rfl
  have e9 : (1000000000 : Int32).toInt = 1000000000 := rfl
  unfold own_P
  by_cases h0 : x = (1 : Int32)
  · left; refine ⟨?_, ?_⟩
    · rw [E, e0] at h0; omega
    · rw [own_ref, if_pos h0]
  by_cases h1 : x = (10 : Int32)
  · left; refine ⟨?_, ?_⟩
    · rw [E, e1] at h1; omega
    · rw [own_ref, if_neg h0, if_pos h1]
  by_cases h2 : x = (100 : Int32)
  · left; refine ⟨?_, ?_⟩
    · rw [E, e2] at h2; omega
    · rw [own_ref, if_neg h0, if_neg h1, if_pos h2]
  by_cases h3 : x = (1000 : Int32)
  · left; refine ⟨?_, ?_⟩
    · rw [E, e3] at h3; omega
    · rw [own_ref, if_neg h0, if_neg h1, if_neg h2, if_pos h3]
  by_cases h4 : x = (10000 : Int32)
  · left; refine ⟨?_, ?_⟩
    · rw [E, e4] at h4; omega
    · rw [own_ref, if_neg h0, if_neg h1, if_neg h2, if_neg h3, if_pos h4]
  by_cases h5 : x = (100000 : Int32)
  · left; refine ⟨?_, ?_⟩
    · rw [E, e5] at h5; omega
    · rw [own_ref, if_neg h0, if_neg h1, if_neg h2, if_neg h3, if_neg h4, if_pos h5]
  by_cases h6 : x = (1000000 : Int32)
  · left; refine ⟨?_, ?_⟩
    · rw [E, e6] at h6; omega
    · rw [own_ref, if_neg h0, if_neg h1, if_neg h2, if_neg h3, if_neg h4, if_neg h5, if_pos h6]
  by_cases h7 : x = (10000000 : Int32)
  · left; refine ⟨?_, ?_⟩
    · rw [E, e7] at h7; omega
    · rw [own_ref, if_neg h0, if_neg h1, if_neg h2, if_neg h3, if_neg h4, if_neg h5, if_neg h6, if_pos h7]
  by_cases h8 : x = (100000000 : Int32)
  · left; refine ⟨?_, ?_⟩
    · rw [E, e8] at h8; omega
    · rw [own_ref, if_neg h0, if_neg h1, if_neg h2, if_neg h3, if_neg h4, if_neg h5, if_neg h6, if_neg h7, if_pos h8]
  by_cases h9 : x = (1000000000 : Int32)
  · left; refine ⟨?_, ?_⟩
    · rw [E, e9] at h9; omega
    · rw [own_ref, if_neg h0, if_neg h1, if_neg h2, if_neg h3, if_neg h4, if_neg h5, if_neg h6, if_neg h7, if_neg h8, if_pos h9]
  right; refine ⟨?_, ?_⟩
  · rw [E, e0] at h0; rw [E, e1] at h1; rw [E, e2] at h2; rw [E, e3] at h3; rw [E, e4] at h4; rw [E, e5] at h5; rw [E, e6] at h6; rw [E, e7] at h7; rw [E, e8] at h8; rw [E, e9] at h9; omega
  · rw [own_ref, if_neg h0, if_neg h1, if_neg h2, if_neg h3, if_neg h4, if_neg h5, if_neg h6, if_neg h7, if_neg h8, if_neg h9]
theorem own_same (x y : Int32) (h : own_P x.toInt ↔ own_P y.toInt) : own_ref x = own_ref y := by
  rcases own_toP x with ⟨a, b⟩ | ⟨a, b⟩ <;> rcases own_toP y with ⟨c, d⟩ | ⟨c, d⟩
  · rw [b, d]
  · exact absurd (h.mp a) c
  · exact absurd (h.mpr c) a
  · rw [b, d]
theorem own_step (y x : Int32) (h5 : ¬ y < (10 : Int32)) (h12 : y % (10 : Int32) = (0 : Int32)) (hy : own_ref y = own_ref x) : own_ref (y / (10 : Int32)) = own_ref x := by
  rw [← hy]
  have e10 : (10 : Int32).toInt = 10 := rfl
  have e0 : (0 : Int32).toInt = 0 := rfl
  rw [Int32.lt_iff_toInt_lt] at h5
  rw [← Int32.toInt_inj] at h12
  have d1 := (c_idiv y (10 : Int32) 10 rfl (by decide)).1 (by omega)
  have d2 := (c_irem y (10 : Int32) 10 rfl).1 (by omega)
  have d3 := rng32 y
  apply own_same
  rw [d1]
  unfold own_P
  generalize y.toInt = Y at *
  constructor
  · rintro (h | h | h | h | h | h | h | h | h | h) <;> omega
  · rintro (h | h | h | h | h | h | h | h | h | h) <;> omega
theorem own_exit (y x : Int32) (h : y < (10 : Int32) ∨ (¬ y < (10 : Int32) ∧ ¬ y % (10 : Int32) = (0 : Int32))) (hy : own_ref y = own_ref x) : own_ref x = if y = (1 : Int32) then (1 : Int32) else (0 : Int32) := by
  rw [← hy]
  by_cases h1 : y = (1 : Int32)
  · rw [if_pos h1, own_ref, if_pos h1]
  · rw [if_neg h1]
    rcases own_toP y with ⟨a, b⟩ | ⟨a, b⟩
    · exfalso
      have e10 : (10 : Int32).toInt = 10 := rfl
      have e0 : (0 : Int32).toInt = 0 := rfl
      have e1 : (1 : Int32).toInt = 1 := rfl
      rw [← Int32.toInt_inj, e1] at h1
      unfold own_P at a
      rcases h with h | ⟨h5, h⟩
      · rw [Int32.lt_iff_toInt_lt] at h; omega
      · rw [Int32.lt_iff_toInt_lt] at h5
        have d2 := (c_irem y (10 : Int32) 10 rfl).1 (by omega)
        rw [← Int32.toInt_inj] at h
        omega
    · exact b
theorem own_dec (y : Int32) (kk : Nat) (h5 : ¬ y < (10 : Int32)) (hkk : y.toInt.toNat = kk) : (y / (10 : Int32)).toInt.toNat < kk := by
  have e10 : (10 : Int32).toInt = 10 := rfl
  rw [Int32.lt_iff_toInt_lt] at h5
  have d1 := (c_idiv y (10 : Int32) 10 rfl (by decide)).1 (by omega)
  omega
theorem own_e (k : Int32) : ¬ ((k &&& (2147483647 : Int32)) % (10 : Int32)) < 0 ∧ ((k &&& (2147483647 : Int32)) % (10 : Int32)) < (10 : Int32) := by
  have h1 := c_mask k (2147483647 : Int32) 31 (by decide) (by decide +kernel)
  have d2 := (c_irem (k &&& (2147483647 : Int32)) (10 : Int32) 10 rfl).1 (by omega)
  have e10 : (10 : Int32).toInt = 10 := rfl
  have e0 : (0 : Int32).toInt = 0 := rfl
  rw [Int32.lt_iff_toInt_lt, Int32.lt_iff_toInt_lt]
  omega
theorem own_e10 (e : Int32) (h : ¬ e < 0 ∧ e < (10 : Int32)) : e.toNatClampNeg < 10 := by
  obtain ⟨h1, h2⟩ := h
  rw [Int32.lt_iff_toInt_lt] at h1 h2
  have e10 : (10 : Int32).toInt = 10 := rfl
  simp only [Int32.toNatClampNeg]
  omega
theorem d_method_2_code_0 : decode method_2_code 0 = .ok (.iload_n 0, 1) := by decide +kernel
theorem d_method_2_code_1 : decode method_2_code 1 = .ok (.iconst 1, 1) := by decide +kernel
theorem d_method_2_code_2 : decode method_2_code 2 = .ok (.if_icmp .eq 59, 3) := by decide +kernel
theorem d_method_2_code_61 : decode method_2_code 61 = .ok (.iconst 1, 1) := by decide +kernel
theorem d_method_2_code_62 : decode method_2_code 62 = .ok (.goto 4, 3) := by decide +kernel
theorem d_method_2_code_66 : decode method_2_code 66 = .ok (.ireturn, 1) := by decide +kernel
theorem d_method_2_code_5 : decode method_2_code 5 = .ok (.iload_n 0, 1) := by decide +kernel
theorem d_method_2_code_6 : decode method_2_code 6 = .ok (.bipush 10, 2) := by decide +kernel
theorem d_method_2_code_8 : decode method_2_code 8 = .ok (.if_icmp .eq 53, 3) := by decide +kernel
theorem d_method_2_code_11 : decode method_2_code 11 = .ok (.iload_n 0, 1) := by decide +kernel
theorem d_method_2_code_12 : decode method_2_code 12 = .ok (.bipush 100, 2) := by decide +kernel
theorem d_method_2_code_14 : decode method_2_code 14 = .ok (.if_icmp .eq 47, 3) := by decide +kernel
theorem d_method_2_code_17 : decode method_2_code 17 = .ok (.iload_n 0, 1) := by decide +kernel
theorem d_method_2_code_18 : decode method_2_code 18 = .ok (.sipush 1000, 3) := by decide +kernel
theorem d_method_2_code_21 : decode method_2_code 21 = .ok (.if_icmp .eq 40, 3) := by decide +kernel
theorem d_method_2_code_24 : decode method_2_code 24 = .ok (.iload_n 0, 1) := by decide +kernel
theorem d_method_2_code_25 : decode method_2_code 25 = .ok (.sipush 10000, 3) := by decide +kernel
theorem d_method_2_code_28 : decode method_2_code 28 = .ok (.if_icmp .eq 33, 3) := by decide +kernel
theorem d_method_2_code_31 : decode method_2_code 31 = .ok (.iload_n 0, 1) := by decide +kernel
theorem d_method_2_code_32 : decode method_2_code 32 = .ok (.ldc 7, 2) := by decide +kernel
theorem d_method_2_code_34 : decode method_2_code 34 = .ok (.if_icmp .eq 27, 3) := by decide +kernel
theorem d_method_2_code_37 : decode method_2_code 37 = .ok (.iload_n 0, 1) := by decide +kernel
theorem d_method_2_code_38 : decode method_2_code 38 = .ok (.ldc 8, 2) := by decide +kernel
theorem d_method_2_code_40 : decode method_2_code 40 = .ok (.if_icmp .eq 21, 3) := by decide +kernel
theorem d_method_2_code_43 : decode method_2_code 43 = .ok (.iload_n 0, 1) := by decide +kernel
theorem d_method_2_code_44 : decode method_2_code 44 = .ok (.ldc 9, 2) := by decide +kernel
theorem d_method_2_code_46 : decode method_2_code 46 = .ok (.if_icmp .eq 15, 3) := by decide +kernel
theorem d_method_2_code_49 : decode method_2_code 49 = .ok (.iload_n 0, 1) := by decide +kernel
theorem d_method_2_code_50 : decode method_2_code 50 = .ok (.ldc 10, 2) := by decide +kernel
theorem d_method_2_code_52 : decode method_2_code 52 = .ok (.if_icmp .eq 9, 3) := by decide +kernel
theorem d_method_2_code_55 : decode method_2_code 55 = .ok (.iload_n 0, 1) := by decide +kernel
theorem d_method_2_code_56 : decode method_2_code 56 = .ok (.ldc 11, 2) := by decide +kernel
theorem d_method_2_code_58 : decode method_2_code 58 = .ok (.if_icmp .ne 7, 3) := by decide +kernel
theorem d_method_2_code_65 : decode method_2_code 65 = .ok (.iconst 0, 1) := by decide +kernel
def Qrm_ref (Z : State) (x : Int32) (h0 : Heap) (n0 : Nat) (v_ : Option Value) (h_ : Heap) (L_ : List Loc) : Prop := v_ = some (.int (own_ref x)) ∧ Fr n0 L_ ∧ h_ = h0
theorem ef_rm_ref (m : MethodId) (x0 : Int32) : entryFrame m #[(.int x0)] 1 = mkF m 0 #[.val (.int x0)] [] := by first | (simp [entryFrame, mkF, argsToLocals, Value.category]; done) | rfl
theorem pn_com_example_actorium_actorium_cli_SkynetIsPowerOfTenPinLaw : plainName "com/example/actorium/actorium/cli/SkynetIsPowerOfTenPinLaw" = true := by first | (simp [plainName, overriddenIn]; done) | decide +kernel
set_option maxRecDepth 65536 in
set_option maxHeartbeats 40000000 in
theorem rm_ref (l : Launch) (Z : State) (aZ : Array Value) (hw : ∀ d ∈ tables_1, d.before aZ Z = true) (ws : List Jvm.Cond) (x : Int32) (h0 : Heap) (n0 : Nat) (Z0 : n0 ≤ h0.size) :
    MetFree l (⟨"com/example/actorium/actorium/cli/SkynetIsPowerOfTenPinLaw", "ref", "(I)Z"⟩ : MethodName) (head1 (Jvm.Cond.code (⟨"com/example/actorium/actorium/cli/SkynetIsPowerOfTenPinLaw", "ref", "(I)Z"⟩ : MethodName) method_2_code 1 (some .boolean) :: ws) ({ frames := 0, cells := 0, slots := 0, locals := 0 } : Room)) (fun a_ U_ => a_ = #[(.int x)] ∧ Z.Warmed39 U_.vm ∧ U_.heap = h0) (fun _ _ _ _ _ => True) (fun _ U_ o_ U2_ => ∃ v_ L_, o_ = .returned v_ ∧ Qrm_ref Z x h0 n0 v_ U2_.heap L_ ∧ FrameEnd U_ o_ U2_ L_ ({ frames := 0, cells := 0, slots := 0, locals := 0 } : Room).cells ({ frames := 0, cells := 0, slots := 0, locals := 0 } : Room).slots) := by
  refine MetFree.of_bodySF (plainFor_of_name pn_com_example_actorium_actorium_cli_SkynetIsPowerOfTenPinLaw) hisR ?_
  intro p e s m args below meth cO s₁ Bd hml0 hP hK
  obtain ⟨rfl, hZW, hh⟩ := hP
  have hEX := Bd.exec
  have hBY := Bd.bytes
  have hMX : cO.maxLocals = 1 := hml0
  have hOW : s.vm.findClass "com/example/actorium/actorium/cli/SkynetIsPowerOfTenPinLaw" = some m.cls := findClass_of_methodNamed Bd.named
  have hNM := (name_of_methodNamed Bd.named Bd.method).1
  have hLK := Bd.notSynchronized
  have hRT := Bd.returns
  have X0 : Stand p l e ({ frames := 0, cells := 0, slots := 0, locals := 0 } : Room) s m #[(.int x)] below meth cO s₁ [] 0 0 := Stand.of_body Bd
  have e0 : s₁.heap = h0 := by rw [← hh, Bd.state]; rfl
  have N0 := Fr.nil n0
  have K0 : Keep h0 h0 [] := Keep.refl _ _
  show Done p e below s (Qrm_ref Z x h0 n0) ({ frames := 0, cells := 0, slots := 0, locals := 0 } : Room).cells ({ frames := 0, cells := 0, slots := 0, locals := 0 } : Room).slots (s₁.setTop (entryFrame m #[(.int x)] 1))
  refine Done.pre (fun t_ k_ => castTop (ef_rm_ref m x) k_) ?_
  show Done _ _ _ _ _ _ _ (s₁.setTop (mkF m 0 #[Iv x] []))
  have sg_1 : ∀ tt_, Steps p.tables e below (s₁.setTop (mkF m 2 #[Iv x] [(.int (1 : Int32)), (.int x)])) tt_ → Steps p.tables e below (s₁.setTop (mkF m 0 #[Iv x] [])) tt_ := by
    intro tt_ kt_
    refine XS.iloadN X0.here hEX rfl (hb hBY d_method_2_code_0) rfl ?_
    show Steps p.tables e below (s₁.setTop (mkF m 1 #[Iv x] [(.int x)])) tt_
    refine XS.iconst X0.here hEX rfl (hb hBY d_method_2_code_1) ?_
    exact kt_
  refine Done.pre sg_1 ?_
  by_cases hc2 : x = (1 : Int32)
  · skip
    have sg_2 : ∀ tt_, Steps p.tables e below (s₁.setTop (mkF m 66 #[Iv x] [(.int (1 : Int32))])) tt_ → Steps p.tables e below (s₁.setTop (mkF m 2 #[Iv x] [(.int (1 : Int32)), (.int x)])) tt_ := by
      intro tt_ kt_
      refine XS.icmpYes X0.here hEX rfl (pc0 := 2) (pc' := 61) rfl (hb hBY d_method_2_code_2) rfl (teq hc2).1 (by decide) (by decide) ?_
      show Steps p.tables e below (s₁.setTop (mkF m 61 #[Iv x] [])) tt_
      refine XS.iconst X0.here hEX rfl (hb hBY d_method_2_code_61) ?_
      show Steps p.tables e below (s₁.setTop (mkF m 62 #[Iv x] [(.int (1 : Int32))])) tt_
      refine XS.goto X0.here hEX rfl (pc0 := 62) (pc' := 66) rfl (hb hBY d_method_2_code_62) (by decide) (by decide) ?_
      exact kt_
    refine Done.pre sg_2 ?_
    exact Done.retN X0 hEX hLK (t := .boolean) hRT (by simp) (hb hBY d_method_2_code_66) (by rw [e0]; exact ⟨(by rw [own_ref, if_pos hc2]; rfl), N0, rfl⟩) (by decide) (by decide)
  · skip
    have sg_3 : ∀ tt_, Steps p.tables e below (s₁.setTop (mkF m 8 #[Iv x] [(.int (10 : Int32)), (.int x)])) tt_ → Steps p.tables e below (s₁.setTop (mkF m 2 #[Iv x] [(.int (1 : Int32)), (.int x)])) tt_ := by
      intro tt_ kt_
      refine XS.icmpNo X0.here hEX rfl (hb hBY d_method_2_code_2) rfl (feq hc2).1 ?_
      show Steps p.tables e below (s₁.setTop (mkF m 5 #[Iv x] [])) tt_
      refine XS.iloadN X0.here hEX rfl (hb hBY d_method_2_code_5) rfl ?_
      show Steps p.tables e below (s₁.setTop (mkF m 6 #[Iv x] [(.int x)])) tt_
      refine XS.bipush X0.here hEX rfl (hb hBY d_method_2_code_6) ?_
      exact kt_
    refine Done.pre sg_3 ?_
    by_cases hc8 : x = (10 : Int32)
    · skip
      have sg_4 : ∀ tt_, Steps p.tables e below (s₁.setTop (mkF m 66 #[Iv x] [(.int (1 : Int32))])) tt_ → Steps p.tables e below (s₁.setTop (mkF m 8 #[Iv x] [(.int (10 : Int32)), (.int x)])) tt_ := by
        intro tt_ kt_
        refine XS.icmpYes X0.here hEX rfl (pc0 := 8) (pc' := 61) rfl (hb hBY d_method_2_code_8) rfl (teq hc8).1 (by decide) (by decide) ?_
        show Steps p.tables e below (s₁.setTop (mkF m 61 #[Iv x] [])) tt_
        refine XS.iconst X0.here hEX rfl (hb hBY d_method_2_code_61) ?_
        show Steps p.tables e below (s₁.setTop (mkF m 62 #[Iv x] [(.int (1 : Int32))])) tt_
        refine XS.goto X0.here hEX rfl (pc0 := 62) (pc' := 66) rfl (hb hBY d_method_2_code_62) (by decide) (by decide) ?_
        exact kt_
      refine Done.pre sg_4 ?_
      exact Done.retN X0 hEX hLK (t := .boolean) hRT (by simp) (hb hBY d_method_2_code_66) (by rw [e0]; exact ⟨(by rw [own_ref, if_neg hc2, if_pos hc8]; rfl), N0, rfl⟩) (by decide) (by decide)
    · skip
      have sg_5 : ∀ tt_, Steps p.tables e below (s₁.setTop (mkF m 14 #[Iv x] [(.int (100 : Int32)), (.int x)])) tt_ → Steps p.tables e below (s₁.setTop (mkF m 8 #[Iv x] [(.int (10 : Int32)), (.int x)])) tt_ := by
        intro tt_ kt_
        refine XS.icmpNo X0.here hEX rfl (hb hBY d_method_2_code_8) rfl (feq hc8).1 ?_
        show Steps p.tables e below (s₁.setTop (mkF m 11 #[Iv x] [])) tt_
        refine XS.iloadN X0.here hEX rfl (hb hBY d_method_2_code_11) rfl ?_
        show Steps p.tables e below (s₁.setTop (mkF m 12 #[Iv x] [(.int x)])) tt_
        refine XS.bipush X0.here hEX rfl (hb hBY d_method_2_code_12) ?_
        exact kt_
      refine Done.pre sg_5 ?_
      by_cases hc14 : x = (100 : Int32)
      · skip
        have sg_6 : ∀ tt_, Steps p.tables e below (s₁.setTop (mkF m 66 #[Iv x] [(.int (1 : Int32))])) tt_ → Steps p.tables e below (s₁.setTop (mkF m 14 #[Iv x] [(.int (100 : Int32)), (.int x)])) tt_ := by
          intro tt_ kt_
          refine XS.icmpYes X0.here hEX rfl (pc0 := 14) (pc' := 61) rfl (hb hBY d_method_2_code_14) rfl (teq hc14).1 (by decide) (by decide) ?_
          show Steps p.tables e below (s₁.setTop (mkF m 61 #[Iv x] [])) tt_
          refine XS.iconst X0.here hEX rfl (hb hBY d_method_2_code_61) ?_
          show Steps p.tables e below (s₁.setTop (mkF m 62 #[Iv x] [(.int (1 : Int32))])) tt_
          refine XS.goto X0.here hEX rfl (pc0 := 62) (pc' := 66) rfl (hb hBY d_method_2_code_62) (by decide) (by decide) ?_
          exact kt_
        refine Done.pre sg_6 ?_
        exact Done.retN X0 hEX hLK (t := .boolean) hRT (by simp) (hb hBY d_method_2_code_66) (by rw [e0]; exact ⟨(by rw [own_ref, if_neg hc2, if_neg hc8, if_pos hc14]; rfl), N0, rfl⟩) (by decide) (by decide)
      · skip
        have sg_7 : ∀ tt_, Steps p.tables e below (s₁.setTop (mkF m 21 #[Iv x] [(.int (1000 : Int32)), (.int x)])) tt_ → Steps p.tables e below (s₁.setTop (mkF m 14 #[Iv x] [(.int (100 : Int32)), (.int x)])) tt_ := by
          intro tt_ kt_
          refine XS.icmpNo X0.here hEX rfl (hb hBY d_method_2_code_14) rfl (feq hc14).1 ?_
          show Steps p.tables e below (s₁.setTop (mkF m 17 #[Iv x] [])) tt_
          refine XS.iloadN X0.here hEX rfl (hb hBY d_method_2_code_17) rfl ?_
          show Steps p.tables e below (s₁.setTop (mkF m 18 #[Iv x] [(.int x)])) tt_
          refine XS.sipush X0.here hEX rfl (hb hBY d_method_2_code_18) ?_
          exact kt_
        refine Done.pre sg_7 ?_
        by_cases hc21 : x = (1000 : Int32)
        · skip
          have sg_8 : ∀ tt_, Steps p.tables e below (s₁.setTop (mkF m 66 #[Iv x] [(.int (1 : Int32))])) tt_ → Steps p.tables e below (s₁.setTop (mkF m 21 #[Iv x] [(.int (1000 : Int32)), (.int x)])) tt_ := by
            intro tt_ kt_
            refine XS.icmpYes X0.here hEX rfl (pc0 := 21) (pc' := 61) rfl (hb hBY d_method_2_code_21) rfl (teq hc21).1 (by decide) (by decide) ?_
            show Steps p.tables e below (s₁.setTop (mkF m 61 #[Iv x] [])) tt_
            refine XS.iconst X0.here hEX rfl (hb hBY d_method_2_code_61) ?_
            show Steps p.tables e below (s₁.setTop (mkF m 62 #[Iv x] [(.int (1 : Int32))])) tt_
            refine XS.goto X0.here hEX rfl (pc0 := 62) (pc' := 66) rfl (hb hBY d_method_2_code_62) (by decide) (by decide) ?_
            exact kt_
          refine Done.pre sg_8 ?_
          exact Done.retN X0 hEX hLK (t := .boolean) hRT (by simp) (hb hBY d_method_2_code_66) (by rw [e0]; exact ⟨(by rw [own_ref, if_neg hc2, if_neg hc8, if_neg hc14, if_pos hc21]; rfl), N0, rfl⟩) (by decide) (by decide)
        · skip
          have sg_9 : ∀ tt_, Steps p.tables e below (s₁.setTop (mkF m 28 #[Iv x] [(.int (10000 : Int32)), (.int x)])) tt_ → Steps p.tables e below (s₁.setTop (mkF m 21 #[Iv x] [(.int (1000 : Int32)), (.int x)])) tt_ := by
            intro tt_ kt_
            refine XS.icmpNo X0.here hEX rfl (hb hBY d_method_2_code_21) rfl (feq hc21).1 ?_
            show Steps p.tables e below (s₁.setTop (mkF m 24 #[Iv x] [])) tt_
            refine XS.iloadN X0.here hEX rfl (hb hBY d_method_2_code_24) rfl ?_
            show Steps p.tables e below (s₁.setTop (mkF m 25 #[Iv x] [(.int x)])) tt_
            refine XS.sipush X0.here hEX rfl (hb hBY d_method_2_code_25) ?_
            exact kt_
          refine Done.pre sg_9 ?_
          by_cases hc28 : x = (10000 : Int32)
          · skip
            have sg_10 : ∀ tt_, Steps p.tables e below (s₁.setTop (mkF m 66 #[Iv x] [(.int (1 : Int32))])) tt_ → Steps p.tables e below (s₁.setTop (mkF m 28 #[Iv x] [(.int (10000 : Int32)), (.int x)])) tt_ := by
              intro tt_ kt_
              refine XS.icmpYes X0.here hEX rfl (pc0 := 28) (pc' := 61) rfl (hb hBY d_method_2_code_28) rfl (teq hc28).1 (by decide) (by decide) ?_
              show Steps p.tables e below (s₁.setTop (mkF m 61 #[Iv x] [])) tt_
              refine XS.iconst X0.here hEX rfl (hb hBY d_method_2_code_61) ?_
              show Steps p.tables e below (s₁.setTop (mkF m 62 #[Iv x] [(.int (1 : Int32))])) tt_
              refine XS.goto X0.here hEX rfl (pc0 := 62) (pc' := 66) rfl (hb hBY d_method_2_code_62) (by decide) (by decide) ?_
              exact kt_
            refine Done.pre sg_10 ?_
            exact Done.retN X0 hEX hLK (t := .boolean) hRT (by simp) (hb hBY d_method_2_code_66) (by rw [e0]; exact ⟨(by rw [own_ref, if_neg hc2, if_neg hc8, if_neg hc14, if_neg hc21, if_pos hc28]; rfl), N0, rfl⟩) (by decide) (by decide)
          · skip
            have sg_11 : ∀ tt_, Steps p.tables e below (s₁.setTop (mkF m 34 #[Iv x] [(.int (100000 : Int32)), (.int x)])) tt_ → Steps p.tables e below (s₁.setTop (mkF m 28 #[Iv x] [(.int (10000 : Int32)), (.int x)])) tt_ := by
              intro tt_ kt_
              refine XS.icmpNo X0.here hEX rfl (hb hBY d_method_2_code_28) rfl (feq hc28).1 ?_
              show Steps p.tables e below (s₁.setTop (mkF m 31 #[Iv x] [])) tt_
              refine XS.iloadN X0.here hEX rfl (hb hBY d_method_2_code_31) rfl ?_
              show Steps p.tables e below (s₁.setTop (mkF m 32 #[Iv x] [(.int x)])) tt_
              refine X0.ldcInt hEX hOW (mvT hZW (hw _ (List.mem_of_getElem? (i := 1) rfl))) (g := (mkF m 32 #[Iv x] [(.int x)])) rfl (hb hBY d_method_2_code_32) _ ?_
              exact kt_
            refine Done.pre sg_11 ?_
            by_cases hc34 : x = (100000 : Int32)
            · skip
              have sg_12 : ∀ tt_, Steps p.tables e below (s₁.setTop (mkF m 66 #[Iv x] [(.int (1 : Int32))])) tt_ → Steps p.tables e below (s₁.setTop (mkF m 34 #[Iv x] [(.int (100000 : Int32)), (.int x)])) tt_ := by
                intro tt_ kt_
                refine XS.icmpYes X0.here hEX rfl (pc0 := 34) (pc' := 61) rfl (hb hBY d_method_2_code_34) rfl (teq hc34).1 (by decide) (by decide) ?_
                show Steps p.tables e below (s₁.setTop (mkF m 61 #[Iv x] [])) tt_
                refine XS.iconst X0.here hEX rfl (hb hBY d_method_2_code_61) ?_
                show Steps p.tables e below (s₁.setTop (mkF m 62 #[Iv x] [(.int (1 : Int32))])) tt_
                refine XS.goto X0.here hEX rfl (pc0 := 62) (pc' := 66) rfl (hb hBY d_method_2_code_62) (by decide) (by decide) ?_
                exact kt_
              refine Done.pre sg_12 ?_
              exact Done.retN X0 hEX hLK (t := .boolean) hRT (by simp) (hb hBY d_method_2_code_66) (by rw [e0]; exact ⟨(by rw [own_ref, if_neg hc2, if_neg hc8, if_neg hc14, if_neg hc21, if_neg hc28, if_pos hc34]; rfl), N0, rfl⟩) (by decide) (by decide)
            · skip
              have sg_13 : ∀ tt_, Steps p.tables e below (s₁.setTop (mkF m 40 #[Iv x] [(.int (1000000 : Int32)), (.int x)])) tt_ → Steps p.tables e below (s₁.setTop (mkF m 34 #[Iv x] [(.int (100000 : Int32)), (.int x)])) tt_ := by
                intro tt_ kt_
                refine XS.icmpNo X0.here hEX rfl (hb hBY d_method_2_code_34) rfl (feq hc34).1 ?_
                show Steps p.tables e below (s₁.setTop (mkF m 37 #[Iv x] [])) tt_
                refine XS.iloadN X0.here hEX rfl (hb hBY d_method_2_code_37) rfl ?_
                show Steps p.tables e below (s₁.setTop (mkF m 38 #[Iv x] [(.int x)])) tt_
                refine X0.ldcInt hEX hOW (mvT hZW (hw _ (List.mem_of_getElem? (i := 2) rfl))) (g := (mkF m 38 #[Iv x] [(.int x)])) rfl (hb hBY d_method_2_code_38) _ ?_
                exact kt_
              refine Done.pre sg_13 ?_
              by_cases hc40 : x = (1000000 : Int32)
              · skip
                have sg_14 : ∀ tt_, Steps p.tables e below (s₁.setTop (mkF m 66 #[Iv x] [(.int (1 : Int32))])) tt_ → Steps p.tables e below (s₁.setTop (mkF m 40 #[Iv x] [(.int (1000000 : Int32)), (.int x)])) tt_ := by
                  intro tt_ kt_
                  refine XS.icmpYes X0.here hEX rfl (pc0 := 40) (pc' := 61) rfl (hb hBY d_method_2_code_40) rfl (teq hc40).1 (by decide) (by decide) ?_
                  show Steps p.tables e below (s₁.setTop (mkF m 61 #[Iv x] [])) tt_
                  refine XS.iconst X0.here hEX rfl (hb hBY d_method_2_code_61) ?_
                  show Steps p.tables e below (s₁.setTop (mkF m 62 #[Iv x] [(.int (1 : Int32))])) tt_
                  refine XS.goto X0.here hEX rfl (pc0 := 62) (pc' := 66) rfl (hb hBY d_method_2_code_62) (by decide) (by decide) ?_
                  exact kt_
                refine Done.pre sg_14 ?_
                exact Done.retN X0 hEX hLK (t := .boolean) hRT (by simp) (hb hBY d_method_2_code_66) (by rw [e0]; exact ⟨(by rw [own_ref, if_neg hc2, if_neg hc8, if_neg hc14, if_neg hc21, if_neg hc28, if_neg hc34, if_pos hc40]; rfl), N0, rfl⟩) (by decide) (by decide)
              · skip
                have sg_15 : ∀ tt_, Steps p.tables e below (s₁.setTop (mkF m 46 #[Iv x] [(.int (10000000 : Int32)), (.int x)])) tt_ → Steps p.tables e below (s₁.setTop (mkF m 40 #[Iv x] [(.int (1000000 : Int32)), (.int x)])) tt_ := by
                  intro tt_ kt_
                  refine XS.icmpNo X0.here hEX rfl (hb hBY d_method_2_code_40) rfl (feq hc40).1 ?_
                  show Steps p.tables e below (s₁.setTop (mkF m 43 #[Iv x] [])) tt_
                  refine XS.iloadN X0.here hEX rfl (hb hBY d_method_2_code_43) rfl ?_
                  show Steps p.tables e below (s₁.setTop (mkF m 44 #[Iv x] [(.int x)])) tt_
                  refine X0.ldcInt hEX hOW (mvT hZW (hw _ (List.mem_of_getElem? (i := 3) rfl))) (g := (mkF m 44 #[Iv x] [(.int x)])) rfl (hb hBY d_method_2_code_44) _ ?_
                  exact kt_
                refine Done.pre sg_15 ?_
                by_cases hc46 : x = (10000000 : Int32)
                · skip
                  have sg_16 : ∀ tt_, Steps p.tables e below (s₁.setTop (mkF m 66 #[Iv x] [(.int (1 : Int32))])) tt_ → Steps p.tables e below (s₁.setTop (mkF m 46 #[Iv x] [(.int (10000000 : Int32)), (.int x)])) tt_ := by
                    intro tt_ kt_
                    refine XS.icmpYes X0.here hEX rfl (pc0 := 46) (pc' := 61) rfl (hb hBY d_method_2_code_46) rfl (teq hc46).1 (by decide) (by decide) ?_
                    show Steps p.tables e below (s₁.setTop (mkF m 61 #[Iv x] [])) tt_
                    refine XS.iconst X0.here hEX rfl (hb hBY d_method_2_code_61) ?_
                    show Steps p.tables e below (s₁.setTop (mkF m 62 #[Iv x] [(.int (1 : Int32))])) tt_
                    refine XS.goto X0.here hEX rfl (pc0 := 62) (pc' := 66) rfl (hb hBY d_method_2_code_62) (by decide) (by decide) ?_
                    exact kt_
                  refine Done.pre sg_16 ?_
                  exact Done.retN X0 hEX hLK (t := .boolean) hRT (by simp) (hb hBY d_method_2_code_66) (by rw [e0]; exact ⟨(by rw [own_ref, if_neg hc2, if_neg hc8, if_neg hc14, if_neg hc21, if_neg hc28, if_neg hc34, if_neg hc40, if_pos hc46]; rfl), N0, rfl⟩) (by decide) (by decide)
                · skip
                  have sg_17 : ∀ tt_, Steps p.tables e below (s₁.setTop (mkF m 52 #[Iv x] [(.int (100000000 : Int32)), (.int x)])) tt_ → Steps p.tables e below (s₁.setTop (mkF m 46 #[Iv x] [(.int (10000000 : Int32)), (.int x)])) tt_ := by
                    intro tt_ kt_
                    refine XS.icmpNo X0.here hEX rfl (hb hBY d_method_2_code_46) rfl (feq hc46).1 ?_
                    show Steps p.tables e below (s₁.setTop (mkF m 49 #[Iv x] [])) tt_
                    refine XS.iloadN X0.here hEX rfl (hb hBY d_method_2_code_49) rfl ?_
                    show Steps p.tables e below (s₁.setTop (mkF m 50 #[Iv x] [(.int x)])) tt_
                    refine X0.ldcInt hEX hOW (mvT hZW (hw _ (List.mem_of_getElem? (i := 4) rfl))) (g := (mkF m 50 #[Iv x] [(.int x)])) rfl (hb hBY d_method_2_code_50) _ ?_
                    exact kt_
                  refine Done.pre sg_17 ?_
                  by_cases hc52 : x = (100000000 : Int32)
                  · skip
                    have sg_18 : ∀ tt_, Steps p.tables e below (s₁.setTop (mkF m 66 #[Iv x] [(.int (1 : Int32))])) tt_ → Steps p.tables e below (s₁.setTop (mkF m 52 #[Iv x] [(.int (100000000 : Int32)), (.int x)])) tt_ := by
                      intro tt_ kt_
                      refine XS.icmpYes X0.here hEX rfl (pc0 := 52) (pc' := 61) rfl (hb hBY d_method_2_code_52) rfl (teq hc52).1 (by decide) (by decide) ?_
                      show Steps p.tables e below (s₁.setTop (mkF m 61 #[Iv x] [])) tt_
                      refine XS.iconst X0.here hEX rfl (hb hBY d_method_2_code_61) ?_
                      show Steps p.tables e below (s₁.setTop (mkF m 62 #[Iv x] [(.int (1 : Int32))])) tt_
                      refine XS.goto X0.here hEX rfl (pc0 := 62) (pc' := 66) rfl (hb hBY d_method_2_code_62) (by decide) (by decide) ?_
                      exact kt_
                    refine Done.pre sg_18 ?_
                    exact Done.retN X0 hEX hLK (t := .boolean) hRT (by simp) (hb hBY d_method_2_code_66) (by rw [e0]; exact ⟨(by rw [own_ref, if_neg hc2, if_neg hc8, if_neg hc14, if_neg hc21, if_neg hc28, if_neg hc34, if_neg hc40, if_neg hc46, if_pos hc52]; rfl), N0, rfl⟩) (by decide) (by decide)
                  · skip
                    have sg_19 : ∀ tt_, Steps p.tables e below (s₁.setTop (mkF m 58 #[Iv x] [(.int (1000000000 : Int32)), (.int x)])) tt_ → Steps p.tables e below (s₁.setTop (mkF m 52 #[Iv x] [(.int (100000000 : Int32)), (.int x)])) tt_ := by
                      intro tt_ kt_
                      refine XS.icmpNo X0.here hEX rfl (hb hBY d_method_2_code_52) rfl (feq hc52).1 ?_
                      show Steps p.tables e below (s₁.setTop (mkF m 55 #[Iv x] [])) tt_
                      refine XS.iloadN X0.here hEX rfl (hb hBY d_method_2_code_55) rfl ?_
                      show Steps p.tables e below (s₁.setTop (mkF m 56 #[Iv x] [(.int x)])) tt_
                      refine X0.ldcInt hEX hOW (mvT hZW (hw _ (List.mem_of_getElem? (i := 5) rfl))) (g := (mkF m 56 #[Iv x] [(.int x)])) rfl (hb hBY d_method_2_code_56) _ ?_
                      exact kt_
                    refine Done.pre sg_19 ?_
                    by_cases hc58 : x = (1000000000 : Int32)
                    · skip
                      have sg_20 : ∀ tt_, Steps p.tables e below (s₁.setTop (mkF m 66 #[Iv x] [(.int (1 : Int32))])) tt_ → Steps p.tables e below (s₁.setTop (mkF m 58 #[Iv x] [(.int (1000000000 : Int32)), (.int x)])) tt_ := by
                        intro tt_ kt_
                        refine XS.icmpNo X0.here hEX rfl (hb hBY d_method_2_code_58) rfl (teq hc58).2 ?_
                        show Steps p.tables e below (s₁.setTop (mkF m 61 #[Iv x] [])) tt_
                        refine XS.iconst X0.here hEX rfl (hb hBY d_method_2_code_61) ?_
                        show Steps p.tables e below (s₁.setTop (mkF m 62 #[Iv x] [(.int (1 : Int32))])) tt_
                        refine XS.goto X0.here hEX rfl (pc0 := 62) (pc' := 66) rfl (hb hBY d_method_2_code_62) (by decide) (by decide) ?_
                        exact kt_
                      refine Done.pre sg_20 ?_
                      exact Done.retN X0 hEX hLK (t := .boolean) hRT (by simp) (hb hBY d_method_2_code_66) (by rw [e0]; exact ⟨(by rw [own_ref, if_neg hc2, if_neg hc8, if_neg hc14, if_neg hc21, if_neg hc28, if_neg hc34, if_neg hc40, if_neg hc46, if_neg hc52, if_pos hc58]; rfl), N0, rfl⟩) (by decide) (by decide)
                    · skip
                      have sg_21 : ∀ tt_, Steps p.tables e below (s₁.setTop (mkF m 66 #[Iv x] [(.int (0 : Int32))])) tt_ → Steps p.tables e below (s₁.setTop (mkF m 58 #[Iv x] [(.int (1000000000 : Int32)), (.int x)])) tt_ := by
                        intro tt_ kt_
                        refine XS.icmpYes X0.here hEX rfl (pc0 := 58) (pc' := 65) rfl (hb hBY d_method_2_code_58) rfl (feq hc58).2 (by decide) (by decide) ?_
                        show Steps p.tables e below (s₁.setTop (mkF m 65 #[Iv x] [])) tt_
                        refine XS.iconst X0.here hEX rfl (hb hBY d_method_2_code_65) ?_
                        exact kt_
                      refine Done.pre sg_21 ?_
                      exact Done.retN X0 hEX hLK (t := .boolean) hRT (by simp) (hb hBY d_method_2_code_66) (by rw [e0]; exact ⟨(by rw [own_ref, if_neg hc2, if_neg hc8, if_neg hc14, if_neg hc21, if_neg hc28, if_neg hc34, if_neg hc40, if_neg hc46, if_neg hc52, if_neg hc58]; rfl), N0, rfl⟩) (by decide) (by decide)
theorem d_prog_93_method_2_code_0 : decode prog_93_method_2_code 0 = .ok (.iload_n 0, 1) := by decide +kernel
theorem d_prog_93_method_2_code_1 : decode prog_93_method_2_code 1 = .ok (.istore_n 1, 1) := by decide +kernel
theorem d_prog_93_method_2_code_2 : decode prog_93_method_2_code 2 = .ok (.iload_n 1, 1) := by decide +kernel
theorem d_prog_93_method_2_code_23 : decode prog_93_method_2_code 23 = .ok (.iload_n 1, 1) := by decide +kernel
theorem d_prog_93_method_2_code_24 : decode prog_93_method_2_code 24 = .ok (.iconst 1, 1) := by decide +kernel
theorem d_prog_93_method_2_code_25 : decode prog_93_method_2_code 25 = .ok (.if_icmp .ne 7, 3) := by decide +kernel
theorem d_prog_93_method_2_code_28 : decode prog_93_method_2_code 28 = .ok (.iconst 1, 1) := by decide +kernel
theorem d_prog_93_method_2_code_29 : decode prog_93_method_2_code 29 = .ok (.goto 4, 3) := by decide +kernel
theorem d_prog_93_method_2_code_33 : decode prog_93_method_2_code 33 = .ok (.ireturn, 1) := by decide +kernel
theorem d_prog_93_method_2_code_32 : decode prog_93_method_2_code 32 = .ok (.iconst 0, 1) := by decide +kernel
theorem d_prog_93_method_2_code_3 : decode prog_93_method_2_code 3 = .ok (.bipush 10, 2) := by decide +kernel
theorem d_prog_93_method_2_code_5 : decode prog_93_method_2_code 5 = .ok (.if_icmp .lt 18, 3) := by decide +kernel
theorem d_prog_93_method_2_code_8 : decode prog_93_method_2_code 8 = .ok (.iload_n 1, 1) := by decide +kernel
theorem d_prog_93_method_2_code_9 : decode prog_93_method_2_code 9 = .ok (.bipush 10, 2) := by decide +kernel
theorem d_prog_93_method_2_code_11 : decode prog_93_method_2_code 11 = .ok (.irem, 1) := by decide +kernel
theorem d_prog_93_method_2_code_12 : decode prog_93_method_2_code 12 = .ok (.ifCond .ne 11, 3) := by decide +kernel
theorem d_prog_93_method_2_code_15 : decode prog_93_method_2_code 15 = .ok (.iload_n 1, 1) := by decide +kernel
theorem d_prog_93_method_2_code_16 : decode prog_93_method_2_code 16 = .ok (.bipush 10, 2) := by decide +kernel
theorem d_prog_93_method_2_code_18 : decode prog_93_method_2_code 18 = .ok (.idiv, 1) := by decide +kernel
theorem d_prog_93_method_2_code_19 : decode prog_93_method_2_code 19 = .ok (.istore_n 1, 1) := by decide +kernel
theorem d_prog_93_method_2_code_20 : decode prog_93_method_2_code 20 = .ok (.goto (-18), 3) := by decide +kernel
def Qrm_isp (Z : State) (x : Int32) (h0 : Heap) (n0 : Nat) (v_ : Option Value) (h_ : Heap) (L_ : List Loc) : Prop := v_ = some (.int (own_ref x)) ∧ Fr n0 L_ ∧ h_ = h0
theorem ef_rm_isp (m : MethodId) (x0 : Int32) : entryFrame m #[(.int x0)] 2 = mkF m 0 #[.val (.int x0), .unset] [] := by first | (simp [entryFrame, mkF, argsToLocals, Value.category]; done) | rfl
theorem pn_com_example_actorium_actorium_cli_Skynet : plainName "com/example/actorium/actorium/cli/Skynet" = true := by first | (simp [plainName, overriddenIn]; done) | decide +kernel
set_option maxRecDepth 65536 in
set_option maxHeartbeats 40000000 in
theorem rm_isp (l : Launch) (Z : State) (aZ : Array Value) (hw : ∀ d ∈ tables_1, d.before aZ Z = true) (ws : List Jvm.Cond) (x : Int32) (h0 : Heap) (n0 : Nat) (Z0 : n0 ≤ h0.size) :
    MetFree l (⟨"com/example/actorium/actorium/cli/Skynet", "isPowerOfTen", "(I)Z"⟩ : MethodName) (head1 (Jvm.Cond.code (⟨"com/example/actorium/actorium/cli/Skynet", "isPowerOfTen", "(I)Z"⟩ : MethodName) prog_93_method_2_code 2 (some .boolean) :: ws) ({ frames := 0, cells := 0, slots := 0, locals := 0 } : Room)) (fun a_ U_ => a_ = #[(.int x)] ∧ Z.Warmed39 U_.vm ∧ U_.heap = h0) (fun _ _ _ _ _ => True) (fun _ U_ o_ U2_ => ∃ v_ L_, o_ = .returned v_ ∧ Qrm_isp Z x h0 n0 v_ U2_.heap L_ ∧ FrameEnd U_ o_ U2_ L_ ({ frames := 0, cells := 0, slots := 0, locals := 0 } : Room).cells ({ frames := 0, cells := 0, slots := 0, locals := 0 } : Room).slots) := by
  refine MetFree.of_bodySF (plainFor_of_name pn_com_example_actorium_actorium_cli_Skynet) hisR ?_
  intro p e s m args below meth cO s₁ Bd hml0 hP hK
  obtain ⟨rfl, hZW, hh⟩ := hP
  have hEX := Bd.exec
  have hBY := Bd.bytes
  have hMX : cO.maxLocals = 2 := hml0
  have hOW : s.vm.findClass "com/example/actorium/actorium/cli/Skynet" = some m.cls := findClass_of_methodNamed Bd.named
  have hNM := (name_of_methodNamed Bd.named Bd.method).1
  have hLK := Bd.notSynchronized
  have hRT := Bd.returns
  have X0 : Stand p l e ({ frames := 0, cells := 0, slots := 0, locals := 0 } : Room) s m #[(.int x)] below meth cO s₁ [] 0 0 := Stand.of_body Bd
  have e0 : s₁.heap = h0 := by rw [← hh, Bd.state]; rfl
  have N0 := Fr.nil n0
  have K0 : Keep h0 h0 [] := Keep.refl _ _
  show Done p e below s (Qrm_isp Z x h0 n0) ({ frames := 0, cells := 0, slots := 0, locals := 0 } : Room).cells ({ frames := 0, cells := 0, slots := 0, locals := 0 } : Room).slots (s₁.setTop (entryFrame m #[(.int x)] 2))
  refine Done.pre (fun t_ k_ => castTop (ef_rm_isp m x) k_) ?_
  show Done _ _ _ _ _ _ _ (s₁.setTop (mkF m 0 #[Iv x, Us] []))
  have sg_1 : ∀ tt_, Steps p.tables e below (s₁.setTop (mkF m 2 #[Iv x, Iv x] [])) tt_ → Steps p.tables e below (s₁.setTop (mkF m 0 #[Iv x, Us] [])) tt_ := by
    intro tt_ kt_
    refine XS.iloadN X0.here hEX rfl (hb hBY d_prog_93_method_2_code_0) rfl ?_
    show Steps p.tables e below (s₁.setTop (mkF m 1 #[Iv x, Us] [(.int x)])) tt_
    refine XS.istoreN X0.here hEX rfl (hb hBY d_prog_93_method_2_code_1) rfl (l' := #[Iv x, Iv x]) rfl ?_
    exact kt_
  refine Done.pre sg_1 ?_
  have jn_2 : ∀ (kk : Nat) (y : Int32) (hy : own_ref y = own_ref x) (hkk : y.toInt.toNat = kk), Done p e below s (Qrm_isp Z x h0 n0) ({ frames := 0, cells := 0, slots := 0, locals := 0 } : Room).cells ({ frames := 0, cells := 0, slots := 0, locals := 0 } : Room).slots (s₁.setTop (mkF m 2 #[Iv x, Iv y] [])) := by
    intro kk
    induction kk using Nat.strongRecOn with
    | ind kk ih =>
      intro y hy hkk
      show Done _ _ _ _ _ _ _ (s₁.setTop (mkF m 2 #[Iv x, Iv y] []))
      have sg_3 : ∀ tt_, Steps p.tables e below (s₁.setTop (mkF m 3 #[Iv x, Iv y] [(.int y)])) tt_ → Steps p.tables e below (s₁.setTop (mkF m 2 #[Iv x, Iv y] [])) tt_ := by
        intro tt_ kt_
        refine XS.iloadN X0.here hEX rfl (hb hBY d_prog_93_method_2_code_2) rfl ?_
        exact kt_
      refine Done.pre sg_3 ?_
      have jn_4 : ∀ (hex : own_ref x = if y = (1 : Int32) then (1 : Int32) else (0 : Int32)), Done p e below s (Qrm_isp Z x h0 n0) ({ frames := 0, cells := 0, slots := 0, locals := 0 } : Room).cells ({ frames := 0, cells := 0, slots := 0, locals := 0 } : Room).slots (s₁.setTop (mkF m 23 #[Iv x, Iv y] [])) := by
        intro hex
        show Done _ _ _ _ _ _ _ (s₁.setTop (mkF m 23 #[Iv x, Iv y] []))
        have sg_5 : ∀ tt_, Steps p.tables e below (s₁.setTop (mkF m 25 #[Iv x, Iv y] [(.int (1 : Int32)), (.int y)])) tt_ → Steps p.tables e below (s₁.setTop (mkF m 23 #[Iv x, Iv y] [])) tt_ := by
          intro tt_ kt_
          refine XS.iloadN X0.here hEX rfl (hb hBY d_prog_93_method_2_code_23) rfl ?_
          show Steps p.tables e below (s₁.setTop (mkF m 24 #[Iv x, Iv y] [(.int y)])) tt_
          refine XS.iconst X0.here hEX rfl (hb hBY d_prog_93_method_2_code_24) ?_
          exact kt_
        refine Done.pre sg_5 ?_
        by_cases hc25 : y = (1 : Int32)
        · skip
          have sg_6 : ∀ tt_, Steps p.tables e below (s₁.setTop (mkF m 33 #[Iv x, Iv y] [(.int (1 : Int32))])) tt_ → Steps p.tables e below (s₁.setTop (mkF m 25 #[Iv x, Iv y] [(.int (1 : Int32)), (.int y)])) tt_ := by
            intro tt_ kt_
            refine XS.icmpNo X0.here hEX rfl (hb hBY d_prog_93_method_2_code_25) rfl (teq hc25).2 ?_
            show Steps p.tables e below (s₁.setTop (mkF m 28 #[Iv x, Iv y] [])) tt_
            refine XS.iconst X0.here hEX rfl (hb hBY d_prog_93_method_2_code_28) ?_
            show Steps p.tables e below (s₁.setTop (mkF m 29 #[Iv x, Iv y] [(.int (1 : Int32))])) tt_
            refine XS.goto X0.here hEX rfl (pc0 := 29) (pc' := 33) rfl (hb hBY d_prog_93_method_2_code_29) (by decide) (by decide) ?_
            exact kt_
          refine Done.pre sg_6 ?_
          exact Done.retN X0 hEX hLK (t := .boolean) hRT (by simp) (hb hBY d_prog_93_method_2_code_33) (by rw [e0]; exact ⟨(by rw [hex, if_pos hc25]; rfl), N0, rfl⟩) (by decide) (by decide)
        · skip
          have sg_7 : ∀ tt_, Steps p.tables e below (s₁.setTop (mkF m 33 #[Iv x, Iv y] [(.int (0 : Int32))])) tt_ → Steps p.tables e below (s₁.setTop (mkF m 25 #[Iv x, Iv y] [(.int (1 : Int32)), (.int y)])) tt_ := by
            intro tt_ kt_
            refine XS.icmpYes X0.here hEX rfl (pc0 := 25) (pc' := 32) rfl (hb hBY d_prog_93_method_2_code_25) rfl (feq hc25).2 (by decide) (by decide) ?_
            show Steps p.tables e below (s₁.setTop (mkF m 32 #[Iv x, Iv y] [])) tt_
            refine XS.iconst X0.here hEX rfl (hb hBY d_prog_93_method_2_code_32) ?_
            exact kt_
          refine Done.pre sg_7 ?_
          exact Done.retN X0 hEX hLK (t := .boolean) hRT (by simp) (hb hBY d_prog_93_method_2_code_33) (by rw [e0]; exact ⟨(by rw [hex, if_neg hc25]; rfl), N0, rfl⟩) (by decide) (by decide)
      show Done _ _ _ _ _ _ _ (s₁.setTop (mkF m 3 #[Iv x, Iv y] [(.int y)]))
      have sg_8 : ∀ tt_, Steps p.tables e below (s₁.setTop (mkF m 5 #[Iv x, Iv y] [(.int (10 : Int32)), (.int y)])) tt_ → Steps p.tables e below (s₁.setTop (mkF m 3 #[Iv x, Iv y] [(.int y)])) tt_ := by
        intro tt_ kt_
        refine XS.bipush X0.here hEX rfl (hb hBY d_prog_93_method_2_code_3) ?_
        exact kt_
      refine Done.pre sg_8 ?_
      by_cases hc5 : y < (10 : Int32)
      · skip
        have sg_9 : ∀ tt_, Steps p.tables e below (s₁.setTop (mkF m 23 #[Iv x, Iv y] [])) tt_ → Steps p.tables e below (s₁.setTop (mkF m 5 #[Iv x, Iv y] [(.int (10 : Int32)), (.int y)])) tt_ := by
          intro tt_ kt_
          refine XS.icmpYes X0.here hEX rfl (pc0 := 5) (pc' := 23) rfl (hb hBY d_prog_93_method_2_code_5) rfl (tlt hc5).1 (by decide) (by decide) ?_
          exact kt_
        refine Done.pre sg_9 ?_
        exact jn_4 (by first | exact own_exit y x (Or.inl hc5) hy | exact own_exit y x (Or.inr ⟨hc5, hc12⟩) hy)
      · skip
        have sg_10 : ∀ tt_, Steps p.tables e below (s₁.setTop (mkF m 12 #[Iv x, Iv y] [(.int (y % (10 : Int32)))])) tt_ → Steps p.tables e below (s₁.setTop (mkF m 5 #[Iv x, Iv y] [(.int (10 : Int32)), (.int y)])) tt_ := by
          intro tt_ kt_
          refine XS.icmpNo X0.here hEX rfl (hb hBY d_prog_93_method_2_code_5) rfl (flt hc5).1 ?_
          show Steps p.tables e below (s₁.setTop (mkF m 8 #[Iv x, Iv y] [])) tt_
          refine XS.iloadN X0.here hEX rfl (hb hBY d_prog_93_method_2_code_8) rfl ?_
          show Steps p.tables e below (s₁.setTop (mkF m 9 #[Iv x, Iv y] [(.int y)])) tt_
          refine XS.bipush X0.here hEX rfl (hb hBY d_prog_93_method_2_code_9) ?_
          show Steps p.tables e below (s₁.setTop (mkF m 11 #[Iv x, Iv y] [(.int (10 : Int32)), (.int y)])) tt_
          refine iremM X0 hEX rfl (hb hBY d_prog_93_method_2_code_11) rfl (by decide) ?_
          exact kt_
        refine Done.pre sg_10 ?_
        by_cases hc12 : (y % (10 : Int32)) = (0 : Int32)
        · skip
          have sg_11 : ∀ tt_, Steps p.tables e below (s₁.setTop (mkF m 2 #[Iv x, Iv (y / (10 : Int32))] [])) tt_ → Steps p.tables e below (s₁.setTop (mkF m 12 #[Iv x, Iv y] [(.int (y % (10 : Int32)))])) tt_ := by
            intro tt_ kt_
            refine XS.ifNo X0.here hEX rfl (hb hBY d_prog_93_method_2_code_12) rfl ((if0 _ _).trans (teq hc12).2) ?_
            show Steps p.tables e below (s₁.setTop (mkF m 15 #[Iv x, Iv y] [])) tt_
            refine XS.iloadN X0.here hEX rfl (hb hBY d_prog_93_method_2_code_15) rfl ?_
            show Steps p.tables e below (s₁.setTop (mkF m 16 #[Iv x, Iv y] [(.int y)])) tt_
            refine XS.bipush X0.here hEX rfl (hb hBY d_prog_93_method_2_code_16) ?_
            show Steps p.tables e below (s₁.setTop (mkF m 18 #[Iv x, Iv y] [(.int (10 : Int32)), (.int y)])) tt_
            refine XS.idiv X0.here hEX rfl (hb hBY d_prog_93_method_2_code_18) rfl (by decide) ?_
            show Steps p.tables e below (s₁.setTop (mkF m 19 #[Iv x, Iv y] [(.int (y / (10 : Int32)))])) tt_
            refine XS.istoreN X0.here hEX rfl (hb hBY d_prog_93_method_2_code_19) rfl (l' := #[Iv x, Iv (y / (10 : Int32))]) rfl ?_
            show Steps p.tables e below (s₁.setTop (mkF m 20 #[Iv x, Iv (y / (10 : Int32))] [])) tt_
            refine XS.goto X0.here hEX rfl (pc0 := 20) (pc' := 2) rfl (hb hBY d_prog_93_method_2_code_20) (by decide) (by decide) ?_
            exact kt_
          refine Done.pre sg_11 ?_
          exact ih _ (own_dec y kk hc5 hkk) ((y / (10 : Int32))) (by first | exact own_step y x hc5 hc12 hy | rfl) rfl
        · skip
          have sg_12 : ∀ tt_, Steps p.tables e below (s₁.setTop (mkF m 23 #[Iv x, Iv y] [])) tt_ → Steps p.tables e below (s₁.setTop (mkF m 12 #[Iv x, Iv y] [(.int (y % (10 : Int32)))])) tt_ := by
            intro tt_ kt_
            refine XS.ifYes X0.here hEX rfl (pc0 := 12) (pc' := 23) rfl (hb hBY d_prog_93_method_2_code_12) rfl ((if0 _ _).trans (feq hc12).2) (by decide) (by decide) ?_
            exact kt_
          refine Done.pre sg_12 ?_
          exact jn_4 (by first | exact own_exit y x (Or.inl hc5) hy | exact own_exit y x (Or.inr ⟨hc5, hc12⟩) hy)
  show Done _ _ _ _ _ _ _ (s₁.setTop (mkF m 2 #[Iv x, Iv x] []))
  exact jn_2 _ (x) (by first | exact own_step y x hc5 hc12 hy | rfl) rfl
theorem d_method_3_code_0 : decode method_3_code 0 = .ok (.iload_n 0, 1) := by decide +kernel
theorem d_method_3_code_1 : decode method_3_code 1 = .ok (.invokestatic 12, 3) := by decide +kernel
theorem pd__I_Z_0 : parseMethodDescriptor "(I)Z" = some ⟨[.int], some .boolean⟩ := by decide +kernel
theorem d_method_3_code_4 : decode method_3_code 4 = .ok (.iload_n 0, 1) := by decide +kernel
theorem d_method_3_code_5 : decode method_3_code 5 = .ok (.invokestatic 18, 3) := by decide +kernel
theorem d_method_3_code_8 : decode method_3_code 8 = .ok (.if_icmp .ne 7, 3) := by decide +kernel
theorem d_method_3_code_11 : decode method_3_code 11 = .ok (.iconst 1, 1) := by decide +kernel
theorem d_method_3_code_12 : decode method_3_code 12 = .ok (.goto 4, 3) := by decide +kernel
theorem d_method_3_code_16 : decode method_3_code 16 = .ok (.ireturn, 1) := by decide +kernel
def Qrm_agr (Z : State) (x : Int32) (h0 : Heap) (n0 : Nat) (v_ : Option Value) (h_ : Heap) (L_ : List Loc) : Prop := v_ = some (.int (1 : Int32)) ∧ Fr n0 L_ ∧ h_ = h0
theorem ef_rm_agr (m : MethodId) (x0 : Int32) : entryFrame m #[(.int x0)] 1 = mkF m 0 #[.val (.int x0)] [] := by first | (simp [entryFrame, mkF, argsToLocals, Value.category]; done) | rfl
set_option maxRecDepth 65536 in
set_option maxHeartbeats 40000000 in
theorem rm_agr (l : Launch) (Z : State) (aZ : Array Value) (hw : ∀ d ∈ tables_1, d.before aZ Z = true) (ws : List Jvm.Cond) (x : Int32) (h0 : Heap) (n0 : Nat) (Z0 : n0 ≤ h0.size) :
    MetFree l (⟨"com/example/actorium/actorium/cli/SkynetIsPowerOfTenPinLaw", "agrees", "(I)Z"⟩ : MethodName) (head1 (Jvm.Cond.code (⟨"com/example/actorium/actorium/cli/SkynetIsPowerOfTenPinLaw", "agrees", "(I)Z"⟩ : MethodName) method_3_code 1 (some .boolean) :: ws) ({ frames := 1, cells := 0, slots := 0, locals := 13 } : Room)) (fun a_ U_ => a_ = #[(.int x)] ∧ Z.Warmed39 U_.vm ∧ U_.heap = h0) (fun _ _ _ _ _ => True) (fun _ U_ o_ U2_ => ∃ v_ L_, o_ = .returned v_ ∧ Qrm_agr Z x h0 n0 v_ U2_.heap L_ ∧ FrameEnd U_ o_ U2_ L_ ({ frames := 1, cells := 0, slots := 0, locals := 13 } : Room).cells ({ frames := 1, cells := 0, slots := 0, locals := 13 } : Room).slots) := by
  refine MetFree.of_bodySF (plainFor_of_name pn_com_example_actorium_actorium_cli_SkynetIsPowerOfTenPinLaw) hisR ?_
  intro p e s m args below meth cO s₁ Bd hml0 hP hK
  obtain ⟨rfl, hZW, hh⟩ := hP
  have hEX := Bd.exec
  have hBY := Bd.bytes
  have hMX : cO.maxLocals = 1 := hml0
  have hOW : s.vm.findClass "com/example/actorium/actorium/cli/SkynetIsPowerOfTenPinLaw" = some m.cls := findClass_of_methodNamed Bd.named
  have hNM := (name_of_methodNamed Bd.named Bd.method).1
  have hLK := Bd.notSynchronized
  have hRT := Bd.returns
  have X0 : Stand p l e ({ frames := 1, cells := 0, slots := 0, locals := 13 } : Room) s m #[(.int x)] below meth cO s₁ [] 0 0 := Stand.of_body Bd
  have e0 : s₁.heap = h0 := by rw [← hh, Bd.state]; rfl
  have N0 := Fr.nil n0
  have K0 : Keep h0 h0 [] := Keep.refl _ _
  show Done p e below s (Qrm_agr Z x h0 n0) ({ frames := 1, cells := 0, slots := 0, locals := 13 } : Room).cells ({ frames := 1, cells := 0, slots := 0, locals := 13 } : Room).slots (s₁.setTop (entryFrame m #[(.int x)] 1))
  refine Done.pre (fun t_ k_ => castTop (ef_rm_agr m x) k_) ?_
  show Done _ _ _ _ _ _ _ (s₁.setTop (mkF m 0 #[Iv x] []))
  have sg_1 : ∀ tt_, Steps p.tables e below (s₁.setTop (mkF m 1 #[Iv x] [(.int x)])) tt_ → Steps p.tables e below (s₁.setTop (mkF m 0 #[Iv x] [])) tt_ := by
    intro tt_ kt_
    refine XS.iloadN X0.here hEX rfl (hb hBY d_method_3_code_0) rfl ?_
    exact kt_
  refine Done.pre sg_1 ?_
  obtain ⟨_, _, ⟨T_2, L_2, k_2, n_2⟩, -, X_2, ⟨Lc_2, hQ_2, l_2, y_2, z_2⟩, st_2⟩ := Jvm.LawKit.callS X0 hEX (y := (⟨"com/example/actorium/actorium/cli/Skynet", "isPowerOfTen", "(I)Z"⟩ : MethodName)) hOW (mvT hZW (hw _ (List.mem_of_getElem? (i := 11) rfl))) (mvT hZW (hw _ (List.mem_of_getElem? (i := 12) rfl))) (mvT hZW (hw _ (List.mem_of_getElem? (i := 13) rfl))) (mvT hZW (hw _ (List.mem_of_getElem? (i := 14) rfl))) (by decide) (backOf (W := 0) (rm_isp l Z aZ hw [] x h0 n0 (Nat.le_trans Z0 K0.1) ) hZW (hw _ (List.mem_of_getElem? (i := 14) rfl)) (hw _ (List.mem_of_getElem? (i := 13) rfl)) (by decide) (by decide)) (g := (mkF m 1 #[Iv x] [(.int x)])) rfl (by rw [hMX]; rfl) (argsL := [(.int x)]) (rest := []) (lenOf pd__I_Z_0 rfl) rfl (by show 2 * 0 + _ ≤ _; exact Nat.le_of_eq rfl) (hb hBY d_method_3_code_1) (fun _ _ => ⟨rfl, e0, (by decide : 0 + 0 ≤ _), (by decide : 0 + 0 ≤ _)⟩)
  dsimp only [Pt.U, Pt.locs, Pt.cells, Pt.slots] at X_2 l_2 y_2 z_2 st_2 hQ_2
  subst l_2 y_2 z_2
  obtain ⟨rfl, N_2q, e_2⟩ := hQ_2
  have N_2 := Fr.app N0 N_2q
  refine Done.pre (fun _ k_ => st_2 _ k_) ?_
  show Done _ _ _ _ _ _ _ (T_2.setTop (mkF m 4 #[Iv x] [(.int (own_ref x))]))
  have sg_3 : ∀ tt_, Steps p.tables e below (T_2.setTop (mkF m 5 #[Iv x] [(.int x), (.int (own_ref x))])) tt_ → Steps p.tables e below (T_2.setTop (mkF m 4 #[Iv x] [(.int (own_ref x))])) tt_ := by
    intro tt_ kt_
    refine XS.iloadN X_2.here hEX rfl (hb hBY d_method_3_code_4) rfl ?_
    exact kt_
  refine Done.pre sg_3 ?_
  obtain ⟨_, _, ⟨T_4, L_4, k_4, n_4⟩, -, X_4, ⟨Lc_4, hQ_4, l_4, y_4, z_4⟩, st_4⟩ := Jvm.LawKit.callS X_2 hEX (y := (⟨"com/example/actorium/actorium/cli/SkynetIsPowerOfTenPinLaw", "ref", "(I)Z"⟩ : MethodName)) hOW (mvT hZW (hw _ (List.mem_of_getElem? (i := 15) rfl))) (mvT hZW (hw _ (List.mem_of_getElem? (i := 16) rfl))) (mvT hZW (hw _ (List.mem_of_getElem? (i := 9) rfl))) (mvT hZW (hw _ (List.mem_of_getElem? (i := 17) rfl))) (by decide) (backOf (W := 1) (rm_ref l Z aZ hw [] x h0 n0 (Nat.le_trans Z0 K0.1) ) hZW (hw _ (List.mem_of_getElem? (i := 17) rfl)) (hw _ (List.mem_of_getElem? (i := 9) rfl)) (by decide) (by decide)) (g := (mkF m 5 #[Iv x] [(.int x), (.int (own_ref x))])) rfl (by rw [hMX]; rfl) (argsL := [(.int x)]) (rest := [(.int (own_ref x))]) (lenOf pd__I_Z_0 rfl) rfl (by show 2 * 0 + _ ≤ _; exact Nat.le_of_eq rfl) (hb hBY d_method_3_code_5) (fun _ _ => ⟨rfl, e_2, (by decide : 0 + 0 ≤ _), (by decide : 0 + 0 ≤ _)⟩)
  dsimp only [Pt.U, Pt.locs, Pt.cells, Pt.slots] at X_4 l_4 y_4 z_4 st_4 hQ_4
  subst l_4 y_4 z_4
  obtain ⟨rfl, N_4q, e_4⟩ := hQ_4
  have N_4 := Fr.app N_2 N_4q
  refine Done.pre (fun _ k_ => st_4 _ k_) ?_
  show Done _ _ _ _ _ _ _ (T_4.setTop (mkF m 8 #[Iv x] [(.int (own_ref x)), (.int (own_ref x))]))
  have sg_5 : ∀ tt_, Steps p.tables e below (T_4.setTop (mkF m 16 #[Iv x] [(.int (1 : Int32))])) tt_ → Steps p.tables e below (T_4.setTop (mkF m 8 #[Iv x] [(.int (own_ref x)), (.int (own_ref x))])) tt_ := by
    intro tt_ kt_
    refine XS.icmpNo X_4.here hEX rfl (hb hBY d_method_3_code_8) rfl (teq (rfl : (own_ref x) = (own_ref x))).2 ?_
    show Steps p.tables e below (T_4.setTop (mkF m 11 #[Iv x] [])) tt_
    refine XS.iconst X_4.here hEX rfl (hb hBY d_method_3_code_11) ?_
    show Steps p.tables e below (T_4.setTop (mkF m 12 #[Iv x] [(.int (1 : Int32))])) tt_
    refine XS.goto X_4.here hEX rfl (pc0 := 12) (pc' := 16) rfl (hb hBY d_method_3_code_12) (by decide) (by decide) ?_
    exact kt_
  refine Done.pre sg_5 ?_
  exact Done.retN X_4 hEX hLK (t := .boolean) hRT (by simp) (hb hBY d_method_3_code_16) (by rw [e_4]; exact ⟨rfl, N_4, rfl⟩) (by decide) (by decide)
def Qrm0 (Z : State) (p1 : Int32) (p2 : Int32) (h0 : Heap) (n0 : Nat) (v_ : Option Value) (h_ : Heap) (L_ : List Loc) : Prop := v_ = some (.int (1 : Int32)) ∧ Fr n0 L_ ∧ Keep h0 h_ []
theorem ef_rm0 (m : MethodId) (x0 : Int32) (x1 : Int32) : entryFrame m #[(.int x0), (.int x1)] maxLocals = mkF m 0 #[.val (.int x0), .val (.int x1), .unset, .unset, .unset, .unset, .unset] [] := by first | (simp [entryFrame, mkF, argsToLocals, Value.category, maxLocals]; done) | rfl
set_option maxRecDepth 65536 in
set_option maxHeartbeats 40000000 in
theorem rm0 (l : Launch) (Z : State) (aZ : Array Value) (hw : ∀ d ∈ tables_1, d.before aZ Z = true) (ws : List Jvm.Cond) (p1 : Int32) (p2 : Int32) (h0 : Heap) (n0 : Nat) (Z0 : n0 ≤ h0.size) :
    MetFree l x (head1 (Jvm.Cond.code x code maxLocals ret :: ws) room_1) (fun a_ U_ => a_ = #[(.int p1), (.int p2)] ∧ Z.Warmed39 U_.vm ∧ U_.heap = h0) (fun _ _ _ _ _ => True) (fun _ U_ o_ U2_ => ∃ v_ L_, o_ = .returned v_ ∧ Qrm0 Z p1 p2 h0 n0 v_ U2_.heap L_ ∧ FrameEnd U_ o_ U2_ L_ room_1.cells room_1.slots) := by
  refine MetFree.of_bodySF (plainFor_of_name pn_com_example_actorium_actorium_cli_SkynetIsPowerOfTenPinLaw) hisR ?_
  intro p e s m args below meth cO s₁ Bd hml0 hP hK
  obtain ⟨rfl, hZW, hh⟩ := hP
  have hEX := Bd.exec
  have hBY := Bd.bytes
  have hMX : cO.maxLocals = 7 := hml0
  have hOW : s.vm.findClass "com/example/actorium/actorium/cli/SkynetIsPowerOfTenPinLaw" = some m.cls := findClass_of_methodNamed Bd.named
  have hNM := (name_of_methodNamed Bd.named Bd.method).1
  have hLK := Bd.notSynchronized
  have hRT := Bd.returns
  have X0 : Stand p l e room_1 s m #[(.int p1), (.int p2)] below meth cO s₁ [] 0 0 := Stand.of_body Bd
  have e0 : s₁.heap = h0 := by rw [← hh, Bd.state]; rfl
  have N0 := Fr.nil n0
  have K0 : Keep h0 h0 [] := Keep.refl _ _
  show Done p e below s (Qrm0 Z p1 p2 h0 n0) room_1.cells room_1.slots (s₁.setTop (entryFrame m #[(.int p1), (.int p2)] maxLocals))
  refine Done.pre (fun t_ k_ => castTop (ef_rm0 m p1 p2) k_) ?_
  show Done _ _ _ _ _ _ _ (s₁.setTop (mkF m 0 #[Iv p1, Iv p2, Us, Us, Us, Us, Us] []))
  have sg_1 : ∀ tt_, Steps p.tables e below (s₁.setTop (mkF m 2 #[Iv p1, Iv p2, Us, Us, Us, Us, Us] [(.int (10 : Int32))])) tt_ → Steps p.tables e below (s₁.setTop (mkF m 0 #[Iv p1, Iv p2, Us, Us, Us, Us, Us] [])) tt_ := by
    intro tt_ kt_
    refine XS.bipush X0.here hEX rfl (hb hBY at_0) ?_
    exact kt_
  refine Done.pre sg_1 ?_
  obtain ⟨T_2, h_2, k_2, X_2, e_2, E_2, A_2, st_2⟩ := newP X0 hEX hZW (hw _ (List.mem_of_getElem? (i := 0) rfl)) e0 (g := (mkF m 2 #[Iv p1, Iv p2, Us, Us, Us, Us, Us] [(.int (10 : Int32))])) rfl (hb hBY at_2) rfl (by decide) (cap := 10) (by decide) (by decide) (by decide) (by decide)
  obtain ⟨b_2, g_2⟩ : ∃ z, z = h0.size := ⟨_, rfl⟩
  rw [← g_2] at A_2 st_2
  have sz_b_2 : h0.size ≤ b_2 := Nat.le_trans K0.1 (Nat.le_of_eq g_2.symm)
  have ge_b_2 : n0 ≤ b_2 := Nat.le_trans Z0 sz_b_2
  have K__3 : Keep h0 h_2 [] := K0.ext E_2
  have f_4 : Arv Z h_2 b_2 k_2 .int (10 : Int32) [(.int (0 : Int32)), (.int (0 : Int32)), (.int (0 : Int32)), (.int (0 : Int32)), (.int (0 : Int32)), (.int (0 : Int32)), (.int (0 : Int32)), (.int (0 : Int32)), (.int (0 : Int32)), (.int (0 : Int32))] (.int (0 : Int32)) := (Arv.new A_2 (by decide)).pad (pad_rep [] (.int (0 : Int32)) 10)
  refine Done.pre st_2 ?_
  show Done _ _ _ _ _ _ _ (T_2.setTop (mkF m 4 #[Iv p1, Iv p2, Us, Us, Us, Us, Us] [(.ref b_2)]))
  have sg_6 : ∀ tt_, Steps p.tables e below (T_2.setTop (mkF m 7 #[Iv p1, Iv p2, Us, Us, Us, Us, Us] [(.int (1 : Int32)), (.int (0 : Int32)), (.ref b_2), (.ref b_2)])) tt_ → Steps p.tables e below (T_2.setTop (mkF m 4 #[Iv p1, Iv p2, Us, Us, Us, Us, Us] [(.ref b_2)])) tt_ := by
    intro tt_ kt_
    refine XS.dup X_2.here hEX rfl (hb hBY at_4) rfl rfl ?_
    show Steps p.tables e below (T_2.setTop (mkF m 5 #[Iv p1, Iv p2, Us, Us, Us, Us, Us] [(.ref b_2), (.ref b_2)])) tt_
    refine XS.iconst X_2.here hEX rfl (hb hBY at_5) ?_
    show Steps p.tables e below (T_2.setTop (mkF m 6 #[Iv p1, Iv p2, Us, Us, Us, Us, Us] [(.int (0 : Int32)), (.ref b_2), (.ref b_2)])) tt_
    refine XS.iconst X_2.here hEX rfl (hb hBY at_6) ?_
    exact kt_
  refine Done.pre sg_6 ?_
  obtain ⟨cl_5, Ar_5, q_5, S_5, N__5, H_5, G_5⟩ := id f_4
  have hin_5 : ¬ ((0 : Int32) < 0 ∨ cl_5.slots.size ≤ ((0 : Int32)).toNatClampNeg) := inb_of S_5 ⟨by decide, by decide⟩
  obtain ⟨T_7, h_7, X_7, e_7, W_7, st_7⟩ := stI X_2 hEX hZW e_2 Ar_5 (j := (0 : Int32)) hin_5 (g := (mkF m 7 #[Iv p1, Iv p2, Us, Us, Us, Us, Us] [(.int (1 : Int32)), (.int (0 : Int32)), (.ref b_2), (.ref b_2)])) rfl rfl (hb hBY at_7)
  have N_7 := Fr.snoc X_7 N0 ge_b_2
  have K__8 : Keep h0 h_7 [] := K__3.wr W_7 (Or.inr sz_b_2)
  have f_9 : Arv Z h_7 b_2 k_2 .int (10 : Int32) [(.int (1 : Int32)), (.int (0 : Int32)), (.int (0 : Int32)), (.int (0 : Int32)), (.int (0 : Int32)), (.int (0 : Int32)), (.int (0 : Int32)), (.int (0 : Int32)), (.int (0 : Int32)), (.int (0 : Int32))] (.int (0 : Int32)) := Arv.set Ar_5 q_5 S_5 N__5 H_5 G_5 rfl W_7 0 rfl (Nat.le_of_ble_eq_true rfl)
  refine Done.pre st_7 ?_
  show Done _ _ _ _ _ _ _ (T_7.setTop (mkF m 8 #[Iv p1, Iv p2, Us, Us, Us, Us, Us] [(.ref b_2)]))
  have sg_11 : ∀ tt_, Steps p.tables e below (T_7.setTop (mkF m 12 #[Iv p1, Iv p2, Us, Us, Us, Us, Us] [(.int (10 : Int32)), (.int (1 : Int32)), (.ref b_2), (.ref b_2)])) tt_ → Steps p.tables e below (T_7.setTop (mkF m 8 #[Iv p1, Iv p2, Us, Us, Us, Us, Us] [(.ref b_2)])) tt_ := by
    intro tt_ kt_
    refine XS.dup X_7.here hEX rfl (hb hBY at_8) rfl rfl ?_
    show Steps p.tables e below (T_7.setTop (mkF m 9 #[Iv p1, Iv p2, Us, Us, Us, Us, Us] [(.ref b_2), (.ref b_2)])) tt_
    refine XS.iconst X_7.here hEX rfl (hb hBY at_9) ?_
    show Steps p.tables e below (T_7.setTop (mkF m 10 #[Iv p1, Iv p2, Us, Us, Us, Us, Us] [(.int (1 : Int32)), (.ref b_2), (.ref b_2)])) tt_
    refine XS.bipush X_7.here hEX rfl (hb hBY at_10) ?_
    exact kt_
  refine Done.pre sg_11 ?_
  obtain ⟨cl_10, Ar_10, q_10, S_10, N__10, H_10, G_10⟩ := id f_9
  have hin_10 : ¬ ((1 : Int32) < 0 ∨ cl_10.slots.size ≤ ((1 : Int32)).toNatClampNeg) := inb_of S_10 ⟨by decide, by decide⟩
  obtain ⟨T_12, h_12, X_12, e_12, W_12, st_12⟩ := stI X_7 hEX hZW e_7 Ar_10 (j := (1 : Int32)) hin_10 (g := (mkF m 12 #[Iv p1, Iv p2, Us, Us, Us, Us, Us] [(.int (10 : Int32)), (.int (1 : Int32)), (.ref b_2), (.ref b_2)])) rfl rfl (hb hBY at_12)
  have N_12 := Fr.snoc X_12 N_7 ge_b_2
  have K__13 : Keep h0 h_12 [] := K__8.wr W_12 (Or.inr sz_b_2)
  have f_14 : Arv Z h_12 b_2 k_2 .int (10 : Int32) [(.int (1 : Int32)), (.int (10 : Int32)), (.int (0 : Int32)), (.int (0 : Int32)), (.int (0 : Int32)), (.int (0 : Int32)), (.int (0 : Int32)), (.int (0 : Int32)), (.int (0 : Int32)), (.int (0 : Int32))] (.int (0 : Int32)) := Arv.set Ar_10 q_10 S_10 N__10 H_10 G_10 rfl W_12 1 rfl (Nat.le_of_ble_eq_true rfl)
  refine Done.pre st_12 ?_
  show Done _ _ _ _ _ _ _ (T_12.setTop (mkF m 13 #[Iv p1, Iv p2, Us, Us, Us, Us, Us] [(.ref b_2)]))
  have sg_16 : ∀ tt_, Steps p.tables e below (T_12.setTop (mkF m 17 #[Iv p1, Iv p2, Us, Us, Us, Us, Us] [(.int (100 : Int32)), (.int (2 : Int32)), (.ref b_2), (.ref b_2)])) tt_ → Steps p.tables e below (T_12.setTop (mkF m 13 #[Iv p1, Iv p2, Us, Us, Us, Us, Us] [(.ref b_2)])) tt_ := by
    intro tt_ kt_
    refine XS.dup X_12.here hEX rfl (hb hBY at_13) rfl rfl ?_
    show Steps p.tables e below (T_12.setTop (mkF m 14 #[Iv p1, Iv p2, Us, Us, Us, Us, Us] [(.ref b_2), (.ref b_2)])) tt_
    refine XS.iconst X_12.here hEX rfl (hb hBY at_14) ?_
    show Steps p.tables e below (T_12.setTop (mkF m 15 #[Iv p1, Iv p2, Us, Us, Us, Us, Us] [(.int (2 : Int32)), (.ref b_2), (.ref b_2)])) tt_
    refine XS.bipush X_12.here hEX rfl (hb hBY at_15) ?_
    exact kt_
  refine Done.pre sg_16 ?_
  obtain ⟨cl_15, Ar_15, q_15, S_15, N__15, H_15, G_15⟩ := id f_14
  have hin_15 : ¬ ((2 : Int32) < 0 ∨ cl_15.slots.size ≤ ((2 : Int32)).toNatClampNeg) := inb_of S_15 ⟨by decide, by decide⟩
  obtain ⟨T_17, h_17, X_17, e_17, W_17, st_17⟩ := stI X_12 hEX hZW e_12 Ar_15 (j := (2 : Int32)) hin_15 (g := (mkF m 17 #[Iv p1, Iv p2, Us, Us, Us, Us, Us] [(.int (100 : Int32)), (.int (2 : Int32)), (.ref b_2), (.ref b_2)])) rfl rfl (hb hBY at_17)
  have N_17 := Fr.snoc X_17 N_12 ge_b_2
  have K__18 : Keep h0 h_17 [] := K__13.wr W_17 (Or.inr sz_b_2)
  have f_19 : Arv Z h_17 b_2 k_2 .int (10 : Int32) [(.int (1 : Int32)), (.int (10 : Int32)), (.int (100 : Int32)), (.int (0 : Int32)), (.int (0 : Int32)), (.int (0 : Int32)), (.int (0 : Int32)), (.int (0 : Int32)), (.int (0 : Int32)), (.int (0 : Int32))] (.int (0 : Int32)) := Arv.set Ar_15 q_15 S_15 N__15 H_15 G_15 rfl W_17 2 rfl (Nat.le_of_ble_eq_true rfl)
  refine Done.pre st_17 ?_
  show Done _ _ _ _ _ _ _ (T_17.setTop (mkF m 18 #[Iv p1, Iv p2, Us, Us, Us, Us, Us] [(.ref b_2)]))
  have sg_21 : ∀ tt_, Steps p.tables e below (T_17.setTop (mkF m 23 #[Iv p1, Iv p2, Us, Us, Us, Us, Us] [(.int (1000 : Int32)), (.int (3 : Int32)), (.ref b_2), (.ref b_2)])) tt_ → Steps p.tables e below (T_17.setTop (mkF m 18 #[Iv p1, Iv p2, Us, Us, Us, Us, Us] [(.ref b_2)])) tt_ := by
    intro tt_ kt_
    refine XS.dup X_17.here hEX rfl (hb hBY at_18) rfl rfl ?_
    show Steps p.tables e below (T_17.setTop (mkF m 19 #[Iv p1, Iv p2, Us, Us, Us, Us, Us] [(.ref b_2), (.ref b_2)])) tt_
    refine XS.iconst X_17.here hEX rfl (hb hBY at_19) ?_
    show Steps p.tables e below (T_17.setTop (mkF m 20 #[Iv p1, Iv p2, Us, Us, Us, Us, Us] [(.int (3 : Int32)), (.ref b_2), (.ref b_2)])) tt_
    refine XS.sipush X_17.here hEX rfl (hb hBY at_20) ?_
    exact kt_
  refine Done.pre sg_21 ?_
  obtain ⟨cl_20, Ar_20, q_20, S_20, N__20, H_20, G_20⟩ := id f_19
  have hin_20 : ¬ ((3 : Int32) < 0 ∨ cl_20.slots.size ≤ ((3 : Int32)).toNatClampNeg) := inb_of S_20 ⟨by decide, by decide⟩
  obtain ⟨T_22, h_22, X_22, e_22, W_22, st_22⟩ := stI X_17 hEX hZW e_17 Ar_20 (j := (3 : Int32)) hin_20 (g := (mkF m 23 #[Iv p1, Iv p2, Us, Us, Us, Us, Us] [(.int (1000 : Int32)), (.int (3 : Int32)), (.ref b_2), (.ref b_2)])) rfl rfl (hb hBY at_23)
  have N_22 := Fr.snoc X_22 N_17 ge_b_2
  have K__23 : Keep h0 h_22 [] := K__18.wr W_22 (Or.inr sz_b_2)
  have f_24 : Arv Z h_22 b_2 k_2 .int (10 : Int32) [(.int (1 : Int32)), (.int (10 : Int32)), (.int (100 : Int32)), (.int (1000 : Int32)), (.int (0 : Int32)), (.int (0 : Int32)), (.int (0 : Int32)), (.int (0 : Int32)), (.int (0 : Int32)), (.int (0 : Int32))] (.int (0 : Int32)) := Arv.set Ar_20 q_20 S_20 N__20 H_20 G_20 rfl W_22 3 rfl (Nat.le_of_ble_eq_true rfl)
  refine Done.pre st_22 ?_
  show Done _ _ _ _ _ _ _ (T_22.setTop (mkF m 24 #[Iv p1, Iv p2, Us, Us, Us, Us, Us] [(.ref b_2)]))
  have sg_26 : ∀ tt_, Steps p.tables e below (T_22.setTop (mkF m 29 #[Iv p1, Iv p2, Us, Us, Us, Us, Us] [(.int (10000 : Int32)), (.int (4 : Int32)), (.ref b_2), (.ref b_2)])) tt_ → Steps p.tables e below (T_22.setTop (mkF m 24 #[Iv p1, Iv p2, Us, Us, Us, Us, Us] [(.ref b_2)])) tt_ := by
    intro tt_ kt_
    refine XS.dup X_22.here hEX rfl (hb hBY at_24) rfl rfl ?_
    show Steps p.tables e below (T_22.setTop (mkF m 25 #[Iv p1, Iv p2, Us, Us, Us, Us, Us] [(.ref b_2), (.ref b_2)])) tt_
    refine XS.iconst X_22.here hEX rfl (hb hBY at_25) ?_
    show Steps p.tables e below (T_22.setTop (mkF m 26 #[Iv p1, Iv p2, Us, Us, Us, Us, Us] [(.int (4 : Int32)), (.ref b_2), (.ref b_2)])) tt_
    refine XS.sipush X_22.here hEX rfl (hb hBY at_26) ?_
    exact kt_
  refine Done.pre sg_26 ?_
  obtain ⟨cl_25, Ar_25, q_25, S_25, N__25, H_25, G_25⟩ := id f_24
  have hin_25 : ¬ ((4 : Int32) < 0 ∨ cl_25.slots.size ≤ ((4 : Int32)).toNatClampNeg) := inb_of S_25 ⟨by decide, by decide⟩
  obtain ⟨T_27, h_27, X_27, e_27, W_27, st_27⟩ := stI X_22 hEX hZW e_22 Ar_25 (j := (4 : Int32)) hin_25 (g := (mkF m 29 #[Iv p1, Iv p2, Us, Us, Us, Us, Us] [(.int (10000 : Int32)), (.int (4 : Int32)), (.ref b_2), (.ref b_2)])) rfl rfl (hb hBY at_29)
  have N_27 := Fr.snoc X_27 N_22 ge_b_2
  have K__28 : Keep h0 h_27 [] := K__23.wr W_27 (Or.inr sz_b_2)
  have f_29 : Arv Z h_27 b_2 k_2 .int (10 : Int32) [(.int (1 : Int32)), (.int (10 : Int32)), (.int (100 : Int32)), (.int (1000 : Int32)), (.int (10000 : Int32)), (.int (0 : Int32)), (.int (0 : Int32)), (.int (0 : Int32)), (.int (0 : Int32)), (.int (0 : Int32))] (.int (0 : Int32)) := Arv.set Ar_25 q_25 S_25 N__25 H_25 G_25 rfl W_27 4 rfl (Nat.le_of_ble_eq_true rfl)
  refine Done.pre st_27 ?_
  show Done _ _ _ _ _ _ _ (T_27.setTop (mkF m 30 #[Iv p1, Iv p2, Us, Us, Us, Us, Us] [(.ref b_2)]))
  have sg_31 : ∀ tt_, Steps p.tables e below (T_27.setTop (mkF m 34 #[Iv p1, Iv p2, Us, Us, Us, Us, Us] [(.int (100000 : Int32)), (.int (5 : Int32)), (.ref b_2), (.ref b_2)])) tt_ → Steps p.tables e below (T_27.setTop (mkF m 30 #[Iv p1, Iv p2, Us, Us, Us, Us, Us] [(.ref b_2)])) tt_ := by
    intro tt_ kt_
    refine XS.dup X_27.here hEX rfl (hb hBY at_30) rfl rfl ?_
    show Steps p.tables e below (T_27.setTop (mkF m 31 #[Iv p1, Iv p2, Us, Us, Us, Us, Us] [(.ref b_2), (.ref b_2)])) tt_
    refine XS.iconst X_27.here hEX rfl (hb hBY at_31) ?_
    show Steps p.tables e below (T_27.setTop (mkF m 32 #[Iv p1, Iv p2, Us, Us, Us, Us, Us] [(.int (5 : Int32)), (.ref b_2), (.ref b_2)])) tt_
    refine X_27.ldcInt hEX hOW (mvT hZW (hw _ (List.mem_of_getElem? (i := 1) rfl))) (g := (mkF m 32 #[Iv p1, Iv p2, Us, Us, Us, Us, Us] [(.int (5 : Int32)), (.ref b_2), (.ref b_2)])) rfl (hb hBY at_32) _ ?_
    exact kt_
  refine Done.pre sg_31 ?_
  obtain ⟨cl_30, Ar_30, q_30, S_30, N__30, H_30, G_30⟩ := id f_29
  have hin_30 : ¬ ((5 : Int32) < 0 ∨ cl_30.slots.size ≤ ((5 : Int32)).toNatClampNeg) := inb_of S_30 ⟨by decide, by decide⟩
  obtain ⟨T_32, h_32, X_32, e_32, W_32, st_32⟩ := stI X_27 hEX hZW e_27 Ar_30 (j := (5 : Int32)) hin_30 (g := (mkF m 34 #[Iv p1, Iv p2, Us, Us, Us, Us, Us] [(.int (100000 : Int32)), (.int (5 : Int32)), (.ref b_2), (.ref b_2)])) rfl rfl (hb hBY at_34)
  have N_32 := Fr.snoc X_32 N_27 ge_b_2
  have K__33 : Keep h0 h_32 [] := K__28.wr W_32 (Or.inr sz_b_2)
  have f_34 : Arv Z h_32 b_2 k_2 .int (10 : Int32) [(.int (1 : Int32)), (.int (10 : Int32)), (.int (100 : Int32)), (.int (1000 : Int32)), (.int (10000 : Int32)), (.int (100000 : Int32)), (.int (0 : Int32)), (.int (0 : Int32)), (.int (0 : Int32)), (.int (0 : Int32))] (.int (0 : Int32)) := Arv.set Ar_30 q_30 S_30 N__30 H_30 G_30 rfl W_32 5 rfl (Nat.le_of_ble_eq_true rfl)
  refine Done.pre st_32 ?_
  show Done _ _ _ _ _ _ _ (T_32.setTop (mkF m 35 #[Iv p1, Iv p2, Us, Us, Us, Us, Us] [(.ref b_2)]))
  have sg_36 : ∀ tt_, Steps p.tables e below (T_32.setTop (mkF m 40 #[Iv p1, Iv p2, Us, Us, Us, Us, Us] [(.int (1000000 : Int32)), (.int (6 : Int32)), (.ref b_2), (.ref b_2)])) tt_ → Steps p.tables e below (T_32.setTop (mkF m 35 #[Iv p1, Iv p2, Us, Us, Us, Us, Us] [(.ref b_2)])) tt_ := by
    intro tt_ kt_
    refine XS.dup X_32.here hEX rfl (hb hBY at_35) rfl rfl ?_
    show Steps p.tables e below (T_32.setTop (mkF m 36 #[Iv p1, Iv p2, Us, Us, Us, Us, Us] [(.ref b_2), (.ref b_2)])) tt_
    refine XS.bipush X_32.here hEX rfl (hb hBY at_36) ?_
    show Steps p.tables e below (T_32.setTop (mkF m 38 #[Iv p1, Iv p2, Us, Us, Us, Us, Us] [(.int (6 : Int32)), (.ref b_2), (.ref b_2)])) tt_
    refine X_32.ldcInt hEX hOW (mvT hZW (hw _ (List.mem_of_getElem? (i := 2) rfl))) (g := (mkF m 38 #[Iv p1, Iv p2, Us, Us, Us, Us, Us] [(.int (6 : Int32)), (.ref b_2), (.ref b_2)])) rfl (hb hBY at_38) _ ?_
    exact kt_
  refine Done.pre sg_36 ?_
  obtain ⟨cl_35, Ar_35, q_35, S_35, N__35, H_35, G_35⟩ := id f_34
  have hin_35 : ¬ ((6 : Int32) < 0 ∨ cl_35.slots.size ≤ ((6 : Int32)).toNatClampNeg) := inb_of S_35 ⟨by decide, by decide⟩
  obtain ⟨T_37, h_37, X_37, e_37, W_37, st_37⟩ := stI X_32 hEX hZW e_32 Ar_35 (j := (6 : Int32)) hin_35 (g := (mkF m 40 #[Iv p1, Iv p2, Us, Us, Us, Us, Us] [(.int (1000000 : Int32)), (.int (6 : Int32)), (.ref b_2), (.ref b_2)])) rfl rfl (hb hBY at_40)
  have N_37 := Fr.snoc X_37 N_32 ge_b_2
  have K__38 : Keep h0 h_37 [] := K__33.wr W_37 (Or.inr sz_b_2)
  have f_39 : Arv Z h_37 b_2 k_2 .int (10 : Int32) [(.int (1 : Int32)), (.int (10 : Int32)), (.int (100 : Int32)), (.int (1000 : Int32)), (.int (10000 : Int32)), (.int (100000 : Int32)), (.int (1000000 : Int32)), (.int (0 : Int32)), (.int (0 : Int32)), (.int (0 : Int32))] (.int (0 : Int32)) := Arv.set Ar_35 q_35 S_35 N__35 H_35 G_35 rfl W_37 6 rfl (Nat.le_of_ble_eq_true rfl)
  refine Done.pre st_37 ?_
  show Done _ _ _ _ _ _ _ (T_37.setTop (mkF m 41 #[Iv p1, Iv p2, Us, Us, Us, Us, Us] [(.ref b_2)]))
  have sg_41 : ∀ tt_, Steps p.tables e below (T_37.setTop (mkF m 46 #[Iv p1, Iv p2, Us, Us, Us, Us, Us] [(.int (10000000 : Int32)), (.int (7 : Int32)), (.ref b_2), (.ref b_2)])) tt_ → Steps p.tables e below (T_37.setTop (mkF m 41 #[Iv p1, Iv p2, Us, Us, Us, Us, Us] [(.ref b_2)])) tt_ := by
    intro tt_ kt_
    refine XS.dup X_37.here hEX rfl (hb hBY at_41) rfl rfl ?_
    show Steps p.tables e below (T_37.setTop (mkF m 42 #[Iv p1, Iv p2, Us, Us, Us, Us, Us] [(.ref b_2), (.ref b_2)])) tt_
    refine XS.bipush X_37.here hEX rfl (hb hBY at_42) ?_
    show Steps p.tables e below (T_37.setTop (mkF m 44 #[Iv p1, Iv p2, Us, Us, Us, Us, Us] [(.int (7 : Int32)), (.ref b_2), (.ref b_2)])) tt_
    refine X_37.ldcInt hEX hOW (mvT hZW (hw _ (List.mem_of_getElem? (i := 3) rfl))) (g := (mkF m 44 #[Iv p1, Iv p2, Us, Us, Us, Us, Us] [(.int (7 : Int32)), (.ref b_2), (.ref b_2)])) rfl (hb hBY at_44) _ ?_
    exact kt_
  refine Done.pre sg_41 ?_
  obtain ⟨cl_40, Ar_40, q_40, S_40, N__40, H_40, G_40⟩ := id f_39
  have hin_40 : ¬ ((7 : Int32) < 0 ∨ cl_40.slots.size ≤ ((7 : Int32)).toNatClampNeg) := inb_of S_40 ⟨by decide, by decide⟩
  obtain ⟨T_42, h_42, X_42, e_42, W_42, st_42⟩ := stI X_37 hEX hZW e_37 Ar_40 (j := (7 : Int32)) hin_40 (g := (mkF m 46 #[Iv p1, Iv p2, Us, Us, Us, Us, Us] [(.int (10000000 : Int32)), (.int (7 : Int32)), (.ref b_2), (.ref b_2)])) rfl rfl (hb hBY at_46)
  have N_42 := Fr.snoc X_42 N_37 ge_b_2
  have K__43 : Keep h0 h_42 [] := K__38.wr W_42 (Or.inr sz_b_2)
  have f_44 : Arv Z h_42 b_2 k_2 .int (10 : Int32) [(.int (1 : Int32)), (.int (10 : Int32)), (.int (100 : Int32)), (.int (1000 : Int32)), (.int (10000 : Int32)), (.int (100000 : Int32)), (.int (1000000 : Int32)), (.int (10000000 : Int32)), (.int (0 : Int32)), (.int (0 : Int32))] (.int (0 : Int32)) := Arv.set Ar_40 q_40 S_40 N__40 H_40 G_40 rfl W_42 7 rfl (Nat.le_of_ble_eq_true rfl)
  refine Done.pre st_42 ?_
  show Done _ _ _ _ _ _ _ (T_42.setTop (mkF m 47 #[Iv p1, Iv p2, Us, Us, Us, Us, Us] [(.ref b_2)]))
  have sg_46 : ∀ tt_, Steps p.tables e below (T_42.setTop (mkF m 52 #[Iv p1, Iv p2, Us, Us, Us, Us, Us] [(.int (100000000 : Int32)), (.int (8 : Int32)), (.ref b_2), (.ref b_2)])) tt_ → Steps p.tables e below (T_42.setTop (mkF m 47 #[Iv p1, Iv p2, Us, Us, Us, Us, Us] [(.ref b_2)])) tt_ := by
    intro tt_ kt_
    refine XS.dup X_42.here hEX rfl (hb hBY at_47) rfl rfl ?_
    show Steps p.tables e below (T_42.setTop (mkF m 48 #[Iv p1, Iv p2, Us, Us, Us, Us, Us] [(.ref b_2), (.ref b_2)])) tt_
    refine XS.bipush X_42.here hEX rfl (hb hBY at_48) ?_
    show Steps p.tables e below (T_42.setTop (mkF m 50 #[Iv p1, Iv p2, Us, Us, Us, Us, Us] [(.int (8 : Int32)), (.ref b_2), (.ref b_2)])) tt_
    refine X_42.ldcInt hEX hOW (mvT hZW (hw _ (List.mem_of_getElem? (i := 4) rfl))) (g := (mkF m 50 #[Iv p1, Iv p2, Us, Us, Us, Us, Us] [(.int (8 : Int32)), (.ref b_2), (.ref b_2)])) rfl (hb hBY at_50) _ ?_
    exact kt_
  refine Done.pre sg_46 ?_
  obtain ⟨cl_45, Ar_45, q_45, S_45, N__45, H_45, G_45⟩ := id f_44
  have hin_45 : ¬ ((8 : Int32) < 0 ∨ cl_45.slots.size ≤ ((8 : Int32)).toNatClampNeg) := inb_of S_45 ⟨by decide, by decide⟩
  obtain ⟨T_47, h_47, X_47, e_47, W_47, st_47⟩ := stI X_42 hEX hZW e_42 Ar_45 (j := (8 : Int32)) hin_45 (g := (mkF m 52 #[Iv p1, Iv p2, Us, Us, Us, Us, Us] [(.int (100000000 : Int32)), (.int (8 : Int32)), (.ref b_2), (.ref b_2)])) rfl rfl (hb hBY at_52)
  have N_47 := Fr.snoc X_47 N_42 ge_b_2
  have K__48 : Keep h0 h_47 [] := K__43.wr W_47 (Or.inr sz_b_2)
  have f_49 : Arv Z h_47 b_2 k_2 .int (10 : Int32) [(.int (1 : Int32)), (.int (10 : Int32)), (.int (100 : Int32)), (.int (1000 : Int32)), (.int (10000 : Int32)), (.int (100000 : Int32)), (.int (1000000 : Int32)), (.int (10000000 : Int32)), (.int (100000000 : Int32)), (.int (0 : Int32))] (.int (0 : Int32)) := Arv.set Ar_45 q_45 S_45 N__45 H_45 G_45 rfl W_47 8 rfl (Nat.le_of_ble_eq_true rfl)
  refine Done.pre st_47 ?_
  show Done _ _ _ _ _ _ _ (T_47.setTop (mkF m 53 #[Iv p1, Iv p2, Us, Us, Us, Us, Us] [(.ref b_2)]))
  have sg_51 : ∀ tt_, Steps p.tables e below (T_47.setTop (mkF m 58 #[Iv p1, Iv p2, Us, Us, Us, Us, Us] [(.int (1000000000 : Int32)), (.int (9 : Int32)), (.ref b_2), (.ref b_2)])) tt_ → Steps p.tables e below (T_47.setTop (mkF m 53 #[Iv p1, Iv p2, Us, Us, Us, Us, Us] [(.ref b_2)])) tt_ := by
    intro tt_ kt_
    refine XS.dup X_47.here hEX rfl (hb hBY at_53) rfl rfl ?_
    show Steps p.tables e below (T_47.setTop (mkF m 54 #[Iv p1, Iv p2, Us, Us, Us, Us, Us] [(.ref b_2), (.ref b_2)])) tt_
    refine XS.bipush X_47.here hEX rfl (hb hBY at_54) ?_
    show Steps p.tables e below (T_47.setTop (mkF m 56 #[Iv p1, Iv p2, Us, Us, Us, Us, Us] [(.int (9 : Int32)), (.ref b_2), (.ref b_2)])) tt_
    refine X_47.ldcInt hEX hOW (mvT hZW (hw _ (List.mem_of_getElem? (i := 5) rfl))) (g := (mkF m 56 #[Iv p1, Iv p2, Us, Us, Us, Us, Us] [(.int (9 : Int32)), (.ref b_2), (.ref b_2)])) rfl (hb hBY at_56) _ ?_
    exact kt_
  refine Done.pre sg_51 ?_
  obtain ⟨cl_50, Ar_50, q_50, S_50, N__50, H_50, G_50⟩ := id f_49
  have hin_50 : ¬ ((9 : Int32) < 0 ∨ cl_50.slots.size ≤ ((9 : Int32)).toNatClampNeg) := inb_of S_50 ⟨by decide, by decide⟩
  obtain ⟨T_52, h_52, X_52, e_52, W_52, st_52⟩ := stI X_47 hEX hZW e_47 Ar_50 (j := (9 : Int32)) hin_50 (g := (mkF m 58 #[Iv p1, Iv p2, Us, Us, Us, Us, Us] [(.int (1000000000 : Int32)), (.int (9 : Int32)), (.ref b_2), (.ref b_2)])) rfl rfl (hb hBY at_58)
  have N_52 := Fr.snoc X_52 N_47 ge_b_2
  have K__53 : Keep h0 h_52 [] := K__48.wr W_52 (Or.inr sz_b_2)
  have f_54 : Arv Z h_52 b_2 k_2 .int (10 : Int32) [(.int (1 : Int32)), (.int (10 : Int32)), (.int (100 : Int32)), (.int (1000 : Int32)), (.int (10000 : Int32)), (.int (100000 : Int32)), (.int (1000000 : Int32)), (.int (10000000 : Int32)), (.int (100000000 : Int32)), (.int (1000000000 : Int32))] (.int (0 : Int32)) := Arv.set Ar_50 q_50 S_50 N__50 H_50 G_50 rfl W_52 9 rfl (Nat.le_of_ble_eq_true rfl)
  refine Done.pre st_52 ?_
  show Done _ _ _ _ _ _ _ (T_52.setTop (mkF m 59 #[Iv p1, Iv p2, Us, Us, Us, Us, Us] [(.ref b_2)]))
  have sg_55 : ∀ tt_, Steps p.tables e below (T_52.setTop (mkF m 67 #[Iv p1, Iv p2, Rv b_2, Us, Us, Us, Us] [(.int ((p2 &&& (2147483647 : Int32)) % (10 : Int32)))])) tt_ → Steps p.tables e below (T_52.setTop (mkF m 59 #[Iv p1, Iv p2, Us, Us, Us, Us, Us] [(.ref b_2)])) tt_ := by
    intro tt_ kt_
    refine XS.astoreN X_52.here hEX rfl (hb hBY at_59) rfl rfl (l' := #[Iv p1, Iv p2, Rv b_2, Us, Us, Us, Us]) rfl ?_
    show Steps p.tables e below (T_52.setTop (mkF m 60 #[Iv p1, Iv p2, Rv b_2, Us, Us, Us, Us] [])) tt_
    refine XS.iloadN X_52.here hEX rfl (hb hBY at_60) rfl ?_
    show Steps p.tables e below (T_52.setTop (mkF m 61 #[Iv p1, Iv p2, Rv b_2, Us, Us, Us, Us] [(.int p2)])) tt_
    refine X_52.ldcInt hEX hOW (mvT hZW (hw _ (List.mem_of_getElem? (i := 6) rfl))) (g := (mkF m 61 #[Iv p1, Iv p2, Rv b_2, Us, Us, Us, Us] [(.int p2)])) rfl (hb hBY at_61) _ ?_
    show Steps p.tables e below (T_52.setTop (mkF m 63 #[Iv p1, Iv p2, Rv b_2, Us, Us, Us, Us] [(.int (2147483647 : Int32)), (.int p2)])) tt_
    refine XS.iand X_52.here hEX rfl (hb hBY at_63) rfl ?_
    show Steps p.tables e below (T_52.setTop (mkF m 64 #[Iv p1, Iv p2, Rv b_2, Us, Us, Us, Us] [(.int (p2 &&& (2147483647 : Int32)))])) tt_
    refine XS.bipush X_52.here hEX rfl (hb hBY at_64) ?_
    show Steps p.tables e below (T_52.setTop (mkF m 66 #[Iv p1, Iv p2, Rv b_2, Us, Us, Us, Us] [(.int (10 : Int32)), (.int (p2 &&& (2147483647 : Int32)))])) tt_
    refine iremM X_52 hEX rfl (hb hBY at_66) rfl (by decide) ?_
    exact kt_
  refine Done.pre sg_55 ?_
  show Done _ _ _ _ _ _ _ (T_52.setTop (mkF m 67 #[Iv p1, Iv p2, Rv b_2, Us, Us, Us, Us] [(.int ((p2 &&& (2147483647 : Int32)) % (10 : Int32)))]))
  obtain ⟨ee, hee⟩ : ∃ z : Int32, z = ((p2 &&& (2147483647 : Int32)) % (10 : Int32)) := ⟨_, rfl⟩
  rw [← hee]
  have hin0 := own_e p2
  rw [← hee] at hin0
  show Done _ _ _ _ _ _ _ (T_52.setTop (mkF m 67 #[Iv p1, Iv p2, Rv b_2, Us, Us, Us, Us] [(.int ee)]))
  obtain ⟨cl_56, Ar_56, q_56, S_56, N__56, H_56, G_56⟩ := id f_54
  have hin_56 : ¬ (ee < 0 ∨ cl_56.slots.size ≤ (ee).toNatClampNeg) := inb_of S_56 hin0
  have hat_56 : cl_56.slots[(ee).toNatClampNeg]? = some (.int (own_pw ee.toNatClampNeg)) := H_56.at hin_56 (own_pwv _)
  have sg_57 : ∀ tt_, Steps p.tables e below (T_52.setTop (mkF m 71 #[Iv p1, Iv p2, Rv b_2, Iv ee, Us, Us, Us] [(.int (own_pw ee.toNatClampNeg))])) tt_ → Steps p.tables e below (T_52.setTop (mkF m 67 #[Iv p1, Iv p2, Rv b_2, Us, Us, Us, Us] [(.int ee)])) tt_ := by
    intro tt_ kt_
    refine XS.istoreN X_52.here hEX rfl (hb hBY at_67) rfl (l' := #[Iv p1, Iv p2, Rv b_2, Iv ee, Us, Us, Us]) rfl ?_
    show Steps p.tables e below (T_52.setTop (mkF m 68 #[Iv p1, Iv p2, Rv b_2, Iv ee, Us, Us, Us] [])) tt_
    refine XS.aloadN X_52.here hEX rfl (hb hBY at_68) rfl rfl ?_
    show Steps p.tables e below (T_52.setTop (mkF m 69 #[Iv p1, Iv p2, Rv b_2, Iv ee, Us, Us, Us] [(.ref b_2)])) tt_
    refine XS.iloadN X_52.here hEX rfl (hb hBY at_69) rfl ?_
    show Steps p.tables e below (T_52.setTop (mkF m 70 #[Iv p1, Iv p2, Rv b_2, Iv ee, Us, Us, Us] [(.int ee), (.ref b_2)])) tt_
    refine X_52.iaload hEX (j := ee) (v := (.int (own_pw ee.toNatClampNeg))) (by rw [e_52]; exact Ar_56.1) (State.isArrayOf_alike hZW.alike Ar_56.2.1) Ar_56.2.2 hin_56 hat_56 (g := (mkF m 70 #[Iv p1, Iv p2, Rv b_2, Iv ee, Us, Us, Us] [(.int ee), (.ref b_2)])) rfl rfl (hb hBY at_70) _ ?_
    exact kt_
  refine Done.pre sg_57 ?_
  show Done _ _ _ _ _ _ _ (T_52.setTop (mkF m 71 #[Iv p1, Iv p2, Rv b_2, Iv ee, Us, Us, Us] [(.int (own_pw ee.toNatClampNeg))]))
  obtain ⟨pw, hpw⟩ : ∃ z : Int32, z = (own_pw ee.toNatClampNeg) := ⟨_, rfl⟩
  rw [← hpw]
  have hp1 : own_ref pw = (1 : Int32) := by rw [hpw]; exact own_ref_pw _ (own_e10 ee hin0)
  show Done _ _ _ _ _ _ _ (T_52.setTop (mkF m 71 #[Iv p1, Iv p2, Rv b_2, Iv ee, Us, Us, Us] [(.int pw)]))
  have sg_58 : ∀ tt_, Steps p.tables e below (T_52.setTop (mkF m 83 #[Iv p1, Iv p2, Rv b_2, Iv ee, Iv pw, Iv (((p2.toUInt32 >>> ((8 : Int32) &&& 31).toUInt32).toInt32) &&& (15 : Int32)), Us] [(.int p1)])) tt_ → Steps p.tables e below (T_52.setTop (mkF m 71 #[Iv p1, Iv p2, Rv b_2, Iv ee, Us, Us, Us] [(.int pw)])) tt_ := by
    intro tt_ kt_
    refine XS.istore X_52.here hEX rfl (hb hBY at_71) rfl (l' := #[Iv p1, Iv p2, Rv b_2, Iv ee, Iv pw, Us, Us]) rfl ?_
    show Steps p.tables e below (T_52.setTop (mkF m 73 #[Iv p1, Iv p2, Rv b_2, Iv ee, Iv pw, Us, Us] [])) tt_
    refine XS.iloadN X_52.here hEX rfl (hb hBY at_73) rfl ?_
    show Steps p.tables e below (T_52.setTop (mkF m 74 #[Iv p1, Iv p2, Rv b_2, Iv ee, Iv pw, Us, Us] [(.int p2)])) tt_
    refine XS.bipush X_52.here hEX rfl (hb hBY at_74) ?_
    show Steps p.tables e below (T_52.setTop (mkF m 76 #[Iv p1, Iv p2, Rv b_2, Iv ee, Iv pw, Us, Us] [(.int (8 : Int32)), (.int p2)])) tt_
    refine XS.iushr X_52.here hEX rfl (hb hBY at_76) rfl ?_
    show Steps p.tables e below (T_52.setTop (mkF m 77 #[Iv p1, Iv p2, Rv b_2, Iv ee, Iv pw, Us, Us] [(.int ((p2.toUInt32 >>> ((8 : Int32) &&& 31).toUInt32).toInt32))])) tt_
    refine XS.bipush X_52.here hEX rfl (hb hBY at_77) ?_
    show Steps p.tables e below (T_52.setTop (mkF m 79 #[Iv p1, Iv p2, Rv b_2, Iv ee, Iv pw, Us, Us] [(.int (15 : Int32)), (.int ((p2.toUInt32 >>> ((8 : Int32) &&& 31).toUInt32).toInt32))])) tt_
    refine XS.iand X_52.here hEX rfl (hb hBY at_79) rfl ?_
    show Steps p.tables e below (T_52.setTop (mkF m 80 #[Iv p1, Iv p2, Rv b_2, Iv ee, Iv pw, Us, Us] [(.int (((p2.toUInt32 >>> ((8 : Int32) &&& 31).toUInt32).toInt32) &&& (15 : Int32)))])) tt_
    refine XS.istore X_52.here hEX rfl (hb hBY at_80) rfl (l' := #[Iv p1, Iv p2, Rv b_2, Iv ee, Iv pw, Iv (((p2.toUInt32 >>> ((8 : Int32) &&& 31).toUInt32).toInt32) &&& (15 : Int32)), Us]) rfl ?_
    show Steps p.tables e below (T_52.setTop (mkF m 82 #[Iv p1, Iv p2, Rv b_2, Iv ee, Iv pw, Iv (((p2.toUInt32 >>> ((8 : Int32) &&& 31).toUInt32).toInt32) &&& (15 : Int32)), Us] [])) tt_
    refine XS.iloadN X_52.here hEX rfl (hb hBY at_82) rfl ?_
    exact kt_
  refine Done.pre sg_58 ?_
  obtain ⟨_, _, ⟨T_59, L_59, k_59, n_59⟩, -, X_59, ⟨Lc_59, hQ_59, l_59, y_59, z_59⟩, st_59⟩ := Jvm.LawKit.callS X_52 hEX (y := (⟨"com/example/actorium/actorium/cli/SkynetIsPowerOfTenPinLaw", "agrees", "(I)Z"⟩ : MethodName)) hOW (mvT hZW (hw _ (List.mem_of_getElem? (i := 7) rfl))) (mvT hZW (hw _ (List.mem_of_getElem? (i := 8) rfl))) (mvT hZW (hw _ (List.mem_of_getElem? (i := 9) rfl))) (mvT hZW (hw _ (List.mem_of_getElem? (i := 10) rfl))) (by decide) (backOf (W := 0) (rm_agr l Z aZ hw [] p1 h_52 n0 (Nat.le_trans Z0 K__53.1) ) hZW (hw _ (List.mem_of_getElem? (i := 10) rfl)) (hw _ (List.mem_of_getElem? (i := 9) rfl)) (by decide) (by decide)) (g := (mkF m 83 #[Iv p1, Iv p2, Rv b_2, Iv ee, Iv pw, Iv (((p2.toUInt32 >>> ((8 : Int32) &&& 31).toUInt32).toInt32) &&& (15 : Int32)), Us] [(.int p1)])) rfl (by rw [hMX]; rfl) (argsL := [(.int p1)]) (rest := []) (lenOf pd__I_Z_0 rfl) rfl (by show 2 * 0 + _ ≤ _; exact Nat.le_of_eq rfl) (hb hBY at_83) (fun _ _ => ⟨rfl, e_52, (by decide : 1 + 0 ≤ _), (by decide : 10 + 0 ≤ _)⟩)
  dsimp only [Pt.U, Pt.locs, Pt.cells, Pt.slots] at X_59 l_59 y_59 z_59 st_59 hQ_59
  subst l_59 y_59 z_59
  obtain ⟨rfl, N_59q, e_59⟩ := hQ_59
  have N_59 := Fr.app N_52 N_59q
  refine Done.pre (fun _ k_ => st_59 _ k_) ?_
  show Done _ _ _ _ _ _ _ (T_59.setTop (mkF m 86 #[Iv p1, Iv p2, Rv b_2, Iv ee, Iv pw, Iv (((p2.toUInt32 >>> ((8 : Int32) &&& 31).toUInt32).toInt32) &&& (15 : Int32)), Us] [(.int (1 : Int32))]))
  have sg_60 : ∀ tt_, Steps p.tables e below (T_59.setTop (mkF m 95 #[Iv p1, Iv p2, Rv b_2, Iv ee, Iv pw, Iv (((p2.toUInt32 >>> ((8 : Int32) &&& 31).toUInt32).toInt32) &&& (15 : Int32)), Iv (1 : Int32)] [(.int pw)])) tt_ → Steps p.tables e below (T_59.setTop (mkF m 86 #[Iv p1, Iv p2, Rv b_2, Iv ee, Iv pw, Iv (((p2.toUInt32 >>> ((8 : Int32) &&& 31).toUInt32).toInt32) &&& (15 : Int32)), Us] [(.int (1 : Int32))])) tt_ := by
    intro tt_ kt_
    refine XS.istore X_59.here hEX rfl (hb hBY at_86) rfl (l' := #[Iv p1, Iv p2, Rv b_2, Iv ee, Iv pw, Iv (((p2.toUInt32 >>> ((8 : Int32) &&& 31).toUInt32).toInt32) &&& (15 : Int32)), Iv (1 : Int32)]) rfl ?_
    show Steps p.tables e below (T_59.setTop (mkF m 88 #[Iv p1, Iv p2, Rv b_2, Iv ee, Iv pw, Iv (((p2.toUInt32 >>> ((8 : Int32) &&& 31).toUInt32).toInt32) &&& (15 : Int32)), Iv (1 : Int32)] [])) tt_
    refine XS.iload X_59.here hEX rfl (hb hBY at_88) rfl ?_
    show Steps p.tables e below (T_59.setTop (mkF m 90 #[Iv p1, Iv p2, Rv b_2, Iv ee, Iv pw, Iv (((p2.toUInt32 >>> ((8 : Int32) &&& 31).toUInt32).toInt32) &&& (15 : Int32)), Iv (1 : Int32)] [(.int (1 : Int32))])) tt_
    refine XS.ifNo X_59.here hEX rfl (hb hBY at_90) rfl ((if0 _ _).trans (feq (by decide : ¬ ((1 : Int32) = (0 : Int32)))).1) ?_
    show Steps p.tables e below (T_59.setTop (mkF m 93 #[Iv p1, Iv p2, Rv b_2, Iv ee, Iv pw, Iv (((p2.toUInt32 >>> ((8 : Int32) &&& 31).toUInt32).toInt32) &&& (15 : Int32)), Iv (1 : Int32)] [])) tt_
    refine XS.iload X_59.here hEX rfl (hb hBY at_93) rfl ?_
    exact kt_
  refine Done.pre sg_60 ?_
  obtain ⟨_, _, ⟨T_61, L_61, k_61, n_61⟩, -, X_61, ⟨Lc_61, hQ_61, l_61, y_61, z_61⟩, st_61⟩ := Jvm.LawKit.callS X_59 hEX (y := (⟨"com/example/actorium/actorium/cli/Skynet", "isPowerOfTen", "(I)Z"⟩ : MethodName)) hOW (mvT hZW (hw _ (List.mem_of_getElem? (i := 11) rfl))) (mvT hZW (hw _ (List.mem_of_getElem? (i := 12) rfl))) (mvT hZW (hw _ (List.mem_of_getElem? (i := 13) rfl))) (mvT hZW (hw _ (List.mem_of_getElem? (i := 14) rfl))) (by decide) (backOf (W := 0) (rm_isp l Z aZ hw [] pw h_52 n0 (Nat.le_trans Z0 K__53.1) ) hZW (hw _ (List.mem_of_getElem? (i := 14) rfl)) (hw _ (List.mem_of_getElem? (i := 13) rfl)) (by decide) (by decide)) (g := (mkF m 95 #[Iv p1, Iv p2, Rv b_2, Iv ee, Iv pw, Iv (((p2.toUInt32 >>> ((8 : Int32) &&& 31).toUInt32).toInt32) &&& (15 : Int32)), Iv (1 : Int32)] [(.int pw)])) rfl (by rw [hMX]; rfl) (argsL := [(.int pw)]) (rest := []) (lenOf pd__I_Z_0 rfl) rfl (by show 2 * 0 + _ ≤ _; exact Nat.le_of_eq rfl) (hb hBY at_95) (fun _ _ => ⟨rfl, e_59, (by decide : 1 + 0 ≤ _), (by decide : 10 + 0 ≤ _)⟩)
  dsimp only [Pt.U, Pt.locs, Pt.cells, Pt.slots] at X_61 l_61 y_61 z_61 st_61 hQ_61
  subst l_61 y_61 z_61
  obtain ⟨rfl, N_61q, e_61⟩ := hQ_61
  have N_61 := Fr.app N_59 N_61q
  refine Done.pre (fun _ k_ => st_61 _ k_) ?_
  show Done _ _ _ _ _ _ _ (T_61.setTop (mkF m 98 #[Iv p1, Iv p2, Rv b_2, Iv ee, Iv pw, Iv (((p2.toUInt32 >>> ((8 : Int32) &&& 31).toUInt32).toInt32) &&& (15 : Int32)), Iv (1 : Int32)] [(.int (own_ref pw))]))
  have sg_62 : ∀ tt_, Steps p.tables e below (T_61.setTop (mkF m 118 #[Iv p1, Iv p2, Rv b_2, Iv ee, Iv pw, Iv (((p2.toUInt32 >>> ((8 : Int32) &&& 31).toUInt32).toInt32) &&& (15 : Int32)), Iv (1 : Int32)] [(.int (pw * (((p2.toUInt32 >>> ((8 : Int32) &&& 31).toUInt32).toInt32) &&& (15 : Int32))))])) tt_ → Steps p.tables e below (T_61.setTop (mkF m 98 #[Iv p1, Iv p2, Rv b_2, Iv ee, Iv pw, Iv (((p2.toUInt32 >>> ((8 : Int32) &&& 31).toUInt32).toInt32) &&& (15 : Int32)), Iv (1 : Int32)] [(.int (own_ref pw))])) tt_ := by
    intro tt_ kt_
    refine XS.ifNo X_61.here hEX rfl (hb hBY at_98) rfl ((if0 _ _).trans (feq (fun q => absurd (hp1.symm.trans q) (by decide) : ¬ ((own_ref pw) = (0 : Int32)))).1) ?_
    show Steps p.tables e below (T_61.setTop (mkF m 101 #[Iv p1, Iv p2, Rv b_2, Iv ee, Iv pw, Iv (((p2.toUInt32 >>> ((8 : Int32) &&& 31).toUInt32).toInt32) &&& (15 : Int32)), Iv (1 : Int32)] [])) tt_
    refine XS.iconst X_61.here hEX rfl (hb hBY at_101) ?_
    show Steps p.tables e below (T_61.setTop (mkF m 102 #[Iv p1, Iv p2, Rv b_2, Iv ee, Iv pw, Iv (((p2.toUInt32 >>> ((8 : Int32) &&& 31).toUInt32).toInt32) &&& (15 : Int32)), Iv (1 : Int32)] [(.int (1 : Int32))])) tt_
    refine XS.goto X_61.here hEX rfl (pc0 := 102) (pc' := 106) rfl (hb hBY at_102) (by decide) (by decide) ?_
    show Steps p.tables e below (T_61.setTop (mkF m 106 #[Iv p1, Iv p2, Rv b_2, Iv ee, Iv pw, Iv (((p2.toUInt32 >>> ((8 : Int32) &&& 31).toUInt32).toInt32) &&& (15 : Int32)), Iv (1 : Int32)] [(.int (1 : Int32))])) tt_
    refine XS.istore X_61.here hEX rfl (hb hBY at_106) rfl (l' := #[Iv p1, Iv p2, Rv b_2, Iv ee, Iv pw, Iv (((p2.toUInt32 >>> ((8 : Int32) &&& 31).toUInt32).toInt32) &&& (15 : Int32)), Iv (1 : Int32)]) rfl ?_
    show Steps p.tables e below (T_61.setTop (mkF m 108 #[Iv p1, Iv p2, Rv b_2, Iv ee, Iv pw, Iv (((p2.toUInt32 >>> ((8 : Int32) &&& 31).toUInt32).toInt32) &&& (15 : Int32)), Iv (1 : Int32)] [])) tt_
    refine XS.iload X_61.here hEX rfl (hb hBY at_108) rfl ?_
    show Steps p.tables e below (T_61.setTop (mkF m 110 #[Iv p1, Iv p2, Rv b_2, Iv ee, Iv pw, Iv (((p2.toUInt32 >>> ((8 : Int32) &&& 31).toUInt32).toInt32) &&& (15 : Int32)), Iv (1 : Int32)] [(.int (1 : Int32))])) tt_
    refine XS.ifNo X_61.here hEX rfl (hb hBY at_110) rfl ((if0 _ _).trans (feq (by decide : ¬ ((1 : Int32) = (0 : Int32)))).1) ?_
    show Steps p.tables e below (T_61.setTop (mkF m 113 #[Iv p1, Iv p2, Rv b_2, Iv ee, Iv pw, Iv (((p2.toUInt32 >>> ((8 : Int32) &&& 31).toUInt32).toInt32) &&& (15 : Int32)), Iv (1 : Int32)] [])) tt_
    refine XS.iload X_61.here hEX rfl (hb hBY at_113) rfl ?_
    show Steps p.tables e below (T_61.setTop (mkF m 115 #[Iv p1, Iv p2, Rv b_2, Iv ee, Iv pw, Iv (((p2.toUInt32 >>> ((8 : Int32) &&& 31).toUInt32).toInt32) &&& (15 : Int32)), Iv (1 : Int32)] [(.int pw)])) tt_
    refine XS.iload X_61.here hEX rfl (hb hBY at_115) rfl ?_
    show Steps p.tables e below (T_61.setTop (mkF m 117 #[Iv p1, Iv p2, Rv b_2, Iv ee, Iv pw, Iv (((p2.toUInt32 >>> ((8 : Int32) &&& 31).toUInt32).toInt32) &&& (15 : Int32)), Iv (1 : Int32)] [(.int (((p2.toUInt32 >>> ((8 : Int32) &&& 31).toUInt32).toInt32) &&& (15 : Int32))), (.int pw)])) tt_
    refine XS.imul X_61.here hEX rfl (hb hBY at_117) rfl ?_
    exact kt_
  refine Done.pre sg_62 ?_
  obtain ⟨_, _, ⟨T_63, L_63, k_63, n_63⟩, -, X_63, ⟨Lc_63, hQ_63, l_63, y_63, z_63⟩, st_63⟩ := Jvm.LawKit.callS X_61 hEX (y := (⟨"com/example/actorium/actorium/cli/SkynetIsPowerOfTenPinLaw", "agrees", "(I)Z"⟩ : MethodName)) hOW (mvT hZW (hw _ (List.mem_of_getElem? (i := 7) rfl))) (mvT hZW (hw _ (List.mem_of_getElem? (i := 8) rfl))) (mvT hZW (hw _ (List.mem_of_getElem? (i := 9) rfl))) (mvT hZW (hw _ (List.mem_of_getElem? (i := 10) rfl))) (by decide) (backOf (W := 0) (rm_agr l Z aZ hw [] (pw * (((p2.toUInt32 >>> ((8 : Int32) &&& 31).toUInt32).toInt32) &&& (15 : Int32))) h_52 n0 (Nat.le_trans Z0 K__53.1) ) hZW (hw _ (List.mem_of_getElem? (i := 10) rfl)) (hw _ (List.mem_of_getElem? (i := 9) rfl)) (by decide) (by decide)) (g := (mkF m 118 #[Iv p1, Iv p2, Rv b_2, Iv ee, Iv pw, Iv (((p2.toUInt32 >>> ((8 : Int32) &&& 31).toUInt32).toInt32) &&& (15 : Int32)), Iv (1 : Int32)] [(.int (pw * (((p2.toUInt32 >>> ((8 : Int32) &&& 31).toUInt32).toInt32) &&& (15 : Int32))))])) rfl (by rw [hMX]; rfl) (argsL := [(.int (pw * (((p2.toUInt32 >>> ((8 : Int32) &&& 31).toUInt32).toInt32) &&& (15 : Int32))))]) (rest := []) (lenOf pd__I_Z_0 rfl) rfl (by show 2 * 0 + _ ≤ _; exact Nat.le_of_eq rfl) (hb hBY at_118) (fun _ _ => ⟨rfl, e_61, (by decide : 1 + 0 ≤ _), (by decide : 10 + 0 ≤ _)⟩)
  dsimp only [Pt.U, Pt.locs, Pt.cells, Pt.slots] at X_63 l_63 y_63 z_63 st_63 hQ_63
  subst l_63 y_63 z_63
  obtain ⟨rfl, N_63q, e_63⟩ := hQ_63
  have N_63 := Fr.app N_61 N_63q
  refine Done.pre (fun _ k_ => st_63 _ k_) ?_
  show Done _ _ _ _ _ _ _ (T_63.setTop (mkF m 121 #[Iv p1, Iv p2, Rv b_2, Iv ee, Iv pw, Iv (((p2.toUInt32 >>> ((8 : Int32) &&& 31).toUInt32).toInt32) &&& (15 : Int32)), Iv (1 : Int32)] [(.int (1 : Int32))]))
  have sg_64 : ∀ tt_, Steps p.tables e below (T_63.setTop (mkF m 140 #[Iv p1, Iv p2, Rv b_2, Iv ee, Iv pw, Iv (((p2.toUInt32 >>> ((8 : Int32) &&& 31).toUInt32).toInt32) &&& (15 : Int32)), Iv (1 : Int32)] [(.int (pw - (1 : Int32)))])) tt_ → Steps p.tables e below (T_63.setTop (mkF m 121 #[Iv p1, Iv p2, Rv b_2, Iv ee, Iv pw, Iv (((p2.toUInt32 >>> ((8 : Int32) &&& 31).toUInt32).toInt32) &&& (15 : Int32)), Iv (1 : Int32)] [(.int (1 : Int32))])) tt_ := by
    intro tt_ kt_
    refine XS.ifNo X_63.here hEX rfl (hb hBY at_121) rfl ((if0 _ _).trans (feq (by decide : ¬ ((1 : Int32) = (0 : Int32)))).1) ?_
    show Steps p.tables e below (T_63.setTop (mkF m 124 #[Iv p1, Iv p2, Rv b_2, Iv ee, Iv pw, Iv (((p2.toUInt32 >>> ((8 : Int32) &&& 31).toUInt32).toInt32) &&& (15 : Int32)), Iv (1 : Int32)] [])) tt_
    refine XS.iconst X_63.here hEX rfl (hb hBY at_124) ?_
    show Steps p.tables e below (T_63.setTop (mkF m 125 #[Iv p1, Iv p2, Rv b_2, Iv ee, Iv pw, Iv (((p2.toUInt32 >>> ((8 : Int32) &&& 31).toUInt32).toInt32) &&& (15 : Int32)), Iv (1 : Int32)] [(.int (1 : Int32))])) tt_
    refine XS.goto X_63.here hEX rfl (pc0 := 125) (pc' := 129) rfl (hb hBY at_125) (by decide) (by decide) ?_
    show Steps p.tables e below (T_63.setTop (mkF m 129 #[Iv p1, Iv p2, Rv b_2, Iv ee, Iv pw, Iv (((p2.toUInt32 >>> ((8 : Int32) &&& 31).toUInt32).toInt32) &&& (15 : Int32)), Iv (1 : Int32)] [(.int (1 : Int32))])) tt_
    refine XS.istore X_63.here hEX rfl (hb hBY at_129) rfl (l' := #[Iv p1, Iv p2, Rv b_2, Iv ee, Iv pw, Iv (((p2.toUInt32 >>> ((8 : Int32) &&& 31).toUInt32).toInt32) &&& (15 : Int32)), Iv (1 : Int32)]) rfl ?_
    show Steps p.tables e below (T_63.setTop (mkF m 131 #[Iv p1, Iv p2, Rv b_2, Iv ee, Iv pw, Iv (((p2.toUInt32 >>> ((8 : Int32) &&& 31).toUInt32).toInt32) &&& (15 : Int32)), Iv (1 : Int32)] [])) tt_
    refine XS.iload X_63.here hEX rfl (hb hBY at_131) rfl ?_
    show Steps p.tables e below (T_63.setTop (mkF m 133 #[Iv p1, Iv p2, Rv b_2, Iv ee, Iv pw, Iv (((p2.toUInt32 >>> ((8 : Int32) &&& 31).toUInt32).toInt32) &&& (15 : Int32)), Iv (1 : Int32)] [(.int (1 : Int32))])) tt_
    refine XS.ifNo X_63.here hEX rfl (hb hBY at_133) rfl ((if0 _ _).trans (feq (by decide : ¬ ((1 : Int32) = (0 : Int32)))).1) ?_
    show Steps p.tables e below (T_63.setTop (mkF m 136 #[Iv p1, Iv p2, Rv b_2, Iv ee, Iv pw, Iv (((p2.toUInt32 >>> ((8 : Int32) &&& 31).toUInt32).toInt32) &&& (15 : Int32)), Iv (1 : Int32)] [])) tt_
    refine XS.iload X_63.here hEX rfl (hb hBY at_136) rfl ?_
    show Steps p.tables e below (T_63.setTop (mkF m 138 #[Iv p1, Iv p2, Rv b_2, Iv ee, Iv pw, Iv (((p2.toUInt32 >>> ((8 : Int32) &&& 31).toUInt32).toInt32) &&& (15 : Int32)), Iv (1 : Int32)] [(.int pw)])) tt_
    refine XS.iconst X_63.here hEX rfl (hb hBY at_138) ?_
    show Steps p.tables e below (T_63.setTop (mkF m 139 #[Iv p1, Iv p2, Rv b_2, Iv ee, Iv pw, Iv (((p2.toUInt32 >>> ((8 : Int32) &&& 31).toUInt32).toInt32) &&& (15 : Int32)), Iv (1 : Int32)] [(.int (1 : Int32)), (.int pw)])) tt_
    refine XS.isub X_63.here hEX rfl (hb hBY at_139) rfl ?_
    exact kt_
  refine Done.pre sg_64 ?_
  obtain ⟨_, _, ⟨T_65, L_65, k_65, n_65⟩, -, X_65, ⟨Lc_65, hQ_65, l_65, y_65, z_65⟩, st_65⟩ := Jvm.LawKit.callS X_63 hEX (y := (⟨"com/example/actorium/actorium/cli/SkynetIsPowerOfTenPinLaw", "agrees", "(I)Z"⟩ : MethodName)) hOW (mvT hZW (hw _ (List.mem_of_getElem? (i := 7) rfl))) (mvT hZW (hw _ (List.mem_of_getElem? (i := 8) rfl))) (mvT hZW (hw _ (List.mem_of_getElem? (i := 9) rfl))) (mvT hZW (hw _ (List.mem_of_getElem? (i := 10) rfl))) (by decide) (backOf (W := 0) (rm_agr l Z aZ hw [] (pw - (1 : Int32)) h_52 n0 (Nat.le_trans Z0 K__53.1) ) hZW (hw _ (List.mem_of_getElem? (i := 10) rfl)) (hw _ (List.mem_of_getElem? (i := 9) rfl)) (by decide) (by decide)) (g := (mkF m 140 #[Iv p1, Iv p2, Rv b_2, Iv ee, Iv pw, Iv (((p2.toUInt32 >>> ((8 : Int32) &&& 31).toUInt32).toInt32) &&& (15 : Int32)), Iv (1 : Int32)] [(.int (pw - (1 : Int32)))])) rfl (by rw [hMX]; rfl) (argsL := [(.int (pw - (1 : Int32)))]) (rest := []) (lenOf pd__I_Z_0 rfl) rfl (by show 2 * 0 + _ ≤ _; exact Nat.le_of_eq rfl) (hb hBY at_140) (fun _ _ => ⟨rfl, e_63, (by decide : 1 + 0 ≤ _), (by decide : 10 + 0 ≤ _)⟩)
  dsimp only [Pt.U, Pt.locs, Pt.cells, Pt.slots] at X_65 l_65 y_65 z_65 st_65 hQ_65
  subst l_65 y_65 z_65
  obtain ⟨rfl, N_65q, e_65⟩ := hQ_65
  have N_65 := Fr.app N_63 N_65q
  refine Done.pre (fun _ k_ => st_65 _ k_) ?_
  show Done _ _ _ _ _ _ _ (T_65.setTop (mkF m 143 #[Iv p1, Iv p2, Rv b_2, Iv ee, Iv pw, Iv (((p2.toUInt32 >>> ((8 : Int32) &&& 31).toUInt32).toInt32) &&& (15 : Int32)), Iv (1 : Int32)] [(.int (1 : Int32))]))
  have sg_66 : ∀ tt_, Steps p.tables e below (T_65.setTop (mkF m 162 #[Iv p1, Iv p2, Rv b_2, Iv ee, Iv pw, Iv (((p2.toUInt32 >>> ((8 : Int32) &&& 31).toUInt32).toInt32) &&& (15 : Int32)), Iv (1 : Int32)] [(.int (pw + (1 : Int32)))])) tt_ → Steps p.tables e below (T_65.setTop (mkF m 143 #[Iv p1, Iv p2, Rv b_2, Iv ee, Iv pw, Iv (((p2.toUInt32 >>> ((8 : Int32) &&& 31).toUInt32).toInt32) &&& (15 : Int32)), Iv (1 : Int32)] [(.int (1 : Int32))])) tt_ := by
    intro tt_ kt_
    refine XS.ifNo X_65.here hEX rfl (hb hBY at_143) rfl ((if0 _ _).trans (feq (by decide : ¬ ((1 : Int32) = (0 : Int32)))).1) ?_
    show Steps p.tables e below (T_65.setTop (mkF m 146 #[Iv p1, Iv p2, Rv b_2, Iv ee, Iv pw, Iv (((p2.toUInt32 >>> ((8 : Int32) &&& 31).toUInt32).toInt32) &&& (15 : Int32)), Iv (1 : Int32)] [])) tt_
    refine XS.iconst X_65.here hEX rfl (hb hBY at_146) ?_
    show Steps p.tables e below (T_65.setTop (mkF m 147 #[Iv p1, Iv p2, Rv b_2, Iv ee, Iv pw, Iv (((p2.toUInt32 >>> ((8 : Int32) &&& 31).toUInt32).toInt32) &&& (15 : Int32)), Iv (1 : Int32)] [(.int (1 : Int32))])) tt_
    refine XS.goto X_65.here hEX rfl (pc0 := 147) (pc' := 151) rfl (hb hBY at_147) (by decide) (by decide) ?_
    show Steps p.tables e below (T_65.setTop (mkF m 151 #[Iv p1, Iv p2, Rv b_2, Iv ee, Iv pw, Iv (((p2.toUInt32 >>> ((8 : Int32) &&& 31).toUInt32).toInt32) &&& (15 : Int32)), Iv (1 : Int32)] [(.int (1 : Int32))])) tt_
    refine XS.istore X_65.here hEX rfl (hb hBY at_151) rfl (l' := #[Iv p1, Iv p2, Rv b_2, Iv ee, Iv pw, Iv (((p2.toUInt32 >>> ((8 : Int32) &&& 31).toUInt32).toInt32) &&& (15 : Int32)), Iv (1 : Int32)]) rfl ?_
    show Steps p.tables e below (T_65.setTop (mkF m 153 #[Iv p1, Iv p2, Rv b_2, Iv ee, Iv pw, Iv (((p2.toUInt32 >>> ((8 : Int32) &&& 31).toUInt32).toInt32) &&& (15 : Int32)), Iv (1 : Int32)] [])) tt_
    refine XS.iload X_65.here hEX rfl (hb hBY at_153) rfl ?_
    show Steps p.tables e below (T_65.setTop (mkF m 155 #[Iv p1, Iv p2, Rv b_2, Iv ee, Iv pw, Iv (((p2.toUInt32 >>> ((8 : Int32) &&& 31).toUInt32).toInt32) &&& (15 : Int32)), Iv (1 : Int32)] [(.int (1 : Int32))])) tt_
    refine XS.ifNo X_65.here hEX rfl (hb hBY at_155) rfl ((if0 _ _).trans (feq (by decide : ¬ ((1 : Int32) = (0 : Int32)))).1) ?_
    show Steps p.tables e below (T_65.setTop (mkF m 158 #[Iv p1, Iv p2, Rv b_2, Iv ee, Iv pw, Iv (((p2.toUInt32 >>> ((8 : Int32) &&& 31).toUInt32).toInt32) &&& (15 : Int32)), Iv (1 : Int32)] [])) tt_
    refine XS.iload X_65.here hEX rfl (hb hBY at_158) rfl ?_
    show Steps p.tables e below (T_65.setTop (mkF m 160 #[Iv p1, Iv p2, Rv b_2, Iv ee, Iv pw, Iv (((p2.toUInt32 >>> ((8 : Int32) &&& 31).toUInt32).toInt32) &&& (15 : Int32)), Iv (1 : Int32)] [(.int pw)])) tt_
    refine XS.iconst X_65.here hEX rfl (hb hBY at_160) ?_
    show Steps p.tables e below (T_65.setTop (mkF m 161 #[Iv p1, Iv p2, Rv b_2, Iv ee, Iv pw, Iv (((p2.toUInt32 >>> ((8 : Int32) &&& 31).toUInt32).toInt32) &&& (15 : Int32)), Iv (1 : Int32)] [(.int (1 : Int32)), (.int pw)])) tt_
    refine XS.iadd X_65.here hEX rfl (hb hBY at_161) rfl ?_
    exact kt_
  refine Done.pre sg_66 ?_
  obtain ⟨_, _, ⟨T_67, L_67, k_67, n_67⟩, -, X_67, ⟨Lc_67, hQ_67, l_67, y_67, z_67⟩, st_67⟩ := Jvm.LawKit.callS X_65 hEX (y := (⟨"com/example/actorium/actorium/cli/SkynetIsPowerOfTenPinLaw", "agrees", "(I)Z"⟩ : MethodName)) hOW (mvT hZW (hw _ (List.mem_of_getElem? (i := 7) rfl))) (mvT hZW (hw _ (List.mem_of_getElem? (i := 8) rfl))) (mvT hZW (hw _ (List.mem_of_getElem? (i := 9) rfl))) (mvT hZW (hw _ (List.mem_of_getElem? (i := 10) rfl))) (by decide) (backOf (W := 0) (rm_agr l Z aZ hw [] (pw + (1 : Int32)) h_52 n0 (Nat.le_trans Z0 K__53.1) ) hZW (hw _ (List.mem_of_getElem? (i := 10) rfl)) (hw _ (List.mem_of_getElem? (i := 9) rfl)) (by decide) (by decide)) (g := (mkF m 162 #[Iv p1, Iv p2, Rv b_2, Iv ee, Iv pw, Iv (((p2.toUInt32 >>> ((8 : Int32) &&& 31).toUInt32).toInt32) &&& (15 : Int32)), Iv (1 : Int32)] [(.int (pw + (1 : Int32)))])) rfl (by rw [hMX]; rfl) (argsL := [(.int (pw + (1 : Int32)))]) (rest := []) (lenOf pd__I_Z_0 rfl) rfl (by show 2 * 0 + _ ≤ _; exact Nat.le_of_eq rfl) (hb hBY at_162) (fun _ _ => ⟨rfl, e_65, (by decide : 1 + 0 ≤ _), (by decide : 10 + 0 ≤ _)⟩)
  dsimp only [Pt.U, Pt.locs, Pt.cells, Pt.slots] at X_67 l_67 y_67 z_67 st_67 hQ_67
  subst l_67 y_67 z_67
  obtain ⟨rfl, N_67q, e_67⟩ := hQ_67
  have N_67 := Fr.app N_65 N_67q
  refine Done.pre (fun _ k_ => st_67 _ k_) ?_
  show Done _ _ _ _ _ _ _ (T_67.setTop (mkF m 165 #[Iv p1, Iv p2, Rv b_2, Iv ee, Iv pw, Iv (((p2.toUInt32 >>> ((8 : Int32) &&& 31).toUInt32).toInt32) &&& (15 : Int32)), Iv (1 : Int32)] [(.int (1 : Int32))]))
  have sg_68 : ∀ tt_, Steps p.tables e below (T_67.setTop (mkF m 183 #[Iv p1, Iv p2, Rv b_2, Iv ee, Iv pw, Iv (((p2.toUInt32 >>> ((8 : Int32) &&& 31).toUInt32).toInt32) &&& (15 : Int32)), Iv (1 : Int32)] [(.int (-pw))])) tt_ → Steps p.tables e below (T_67.setTop (mkF m 165 #[Iv p1, Iv p2, Rv b_2, Iv ee, Iv pw, Iv (((p2.toUInt32 >>> ((8 : Int32) &&& 31).toUInt32).toInt32) &&& (15 : Int32)), Iv (1 : Int32)] [(.int (1 : Int32))])) tt_ := by
    intro tt_ kt_
    refine XS.ifNo X_67.here hEX rfl (hb hBY at_165) rfl ((if0 _ _).trans (feq (by decide : ¬ ((1 : Int32) = (0 : Int32)))).1) ?_
    show Steps p.tables e below (T_67.setTop (mkF m 168 #[Iv p1, Iv p2, Rv b_2, Iv ee, Iv pw, Iv (((p2.toUInt32 >>> ((8 : Int32) &&& 31).toUInt32).toInt32) &&& (15 : Int32)), Iv (1 : Int32)] [])) tt_
    refine XS.iconst X_67.here hEX rfl (hb hBY at_168) ?_
    show Steps p.tables e below (T_67.setTop (mkF m 169 #[Iv p1, Iv p2, Rv b_2, Iv ee, Iv pw, Iv (((p2.toUInt32 >>> ((8 : Int32) &&& 31).toUInt32).toInt32) &&& (15 : Int32)), Iv (1 : Int32)] [(.int (1 : Int32))])) tt_
    refine XS.goto X_67.here hEX rfl (pc0 := 169) (pc' := 173) rfl (hb hBY at_169) (by decide) (by decide) ?_
    show Steps p.tables e below (T_67.setTop (mkF m 173 #[Iv p1, Iv p2, Rv b_2, Iv ee, Iv pw, Iv (((p2.toUInt32 >>> ((8 : Int32) &&& 31).toUInt32).toInt32) &&& (15 : Int32)), Iv (1 : Int32)] [(.int (1 : Int32))])) tt_
    refine XS.istore X_67.here hEX rfl (hb hBY at_173) rfl (l' := #[Iv p1, Iv p2, Rv b_2, Iv ee, Iv pw, Iv (((p2.toUInt32 >>> ((8 : Int32) &&& 31).toUInt32).toInt32) &&& (15 : Int32)), Iv (1 : Int32)]) rfl ?_
    show Steps p.tables e below (T_67.setTop (mkF m 175 #[Iv p1, Iv p2, Rv b_2, Iv ee, Iv pw, Iv (((p2.toUInt32 >>> ((8 : Int32) &&& 31).toUInt32).toInt32) &&& (15 : Int32)), Iv (1 : Int32)] [])) tt_
    refine XS.iload X_67.here hEX rfl (hb hBY at_175) rfl ?_
    show Steps p.tables e below (T_67.setTop (mkF m 177 #[Iv p1, Iv p2, Rv b_2, Iv ee, Iv pw, Iv (((p2.toUInt32 >>> ((8 : Int32) &&& 31).toUInt32).toInt32) &&& (15 : Int32)), Iv (1 : Int32)] [(.int (1 : Int32))])) tt_
    refine XS.ifNo X_67.here hEX rfl (hb hBY at_177) rfl ((if0 _ _).trans (feq (by decide : ¬ ((1 : Int32) = (0 : Int32)))).1) ?_
    show Steps p.tables e below (T_67.setTop (mkF m 180 #[Iv p1, Iv p2, Rv b_2, Iv ee, Iv pw, Iv (((p2.toUInt32 >>> ((8 : Int32) &&& 31).toUInt32).toInt32) &&& (15 : Int32)), Iv (1 : Int32)] [])) tt_
    refine XS.iload X_67.here hEX rfl (hb hBY at_180) rfl ?_
    show Steps p.tables e below (T_67.setTop (mkF m 182 #[Iv p1, Iv p2, Rv b_2, Iv ee, Iv pw, Iv (((p2.toUInt32 >>> ((8 : Int32) &&& 31).toUInt32).toInt32) &&& (15 : Int32)), Iv (1 : Int32)] [(.int pw)])) tt_
    refine XS.ineg X_67.here hEX rfl (hb hBY at_182) rfl ?_
    exact kt_
  refine Done.pre sg_68 ?_
  obtain ⟨_, _, ⟨T_69, L_69, k_69, n_69⟩, -, X_69, ⟨Lc_69, hQ_69, l_69, y_69, z_69⟩, st_69⟩ := Jvm.LawKit.callS X_67 hEX (y := (⟨"com/example/actorium/actorium/cli/SkynetIsPowerOfTenPinLaw", "agrees", "(I)Z"⟩ : MethodName)) hOW (mvT hZW (hw _ (List.mem_of_getElem? (i := 7) rfl))) (mvT hZW (hw _ (List.mem_of_getElem? (i := 8) rfl))) (mvT hZW (hw _ (List.mem_of_getElem? (i := 9) rfl))) (mvT hZW (hw _ (List.mem_of_getElem? (i := 10) rfl))) (by decide) (backOf (W := 0) (rm_agr l Z aZ hw [] (-pw) h_52 n0 (Nat.le_trans Z0 K__53.1) ) hZW (hw _ (List.mem_of_getElem? (i := 10) rfl)) (hw _ (List.mem_of_getElem? (i := 9) rfl)) (by decide) (by decide)) (g := (mkF m 183 #[Iv p1, Iv p2, Rv b_2, Iv ee, Iv pw, Iv (((p2.toUInt32 >>> ((8 : Int32) &&& 31).toUInt32).toInt32) &&& (15 : Int32)), Iv (1 : Int32)] [(.int (-pw))])) rfl (by rw [hMX]; rfl) (argsL := [(.int (-pw))]) (rest := []) (lenOf pd__I_Z_0 rfl) rfl (by show 2 * 0 + _ ≤ _; exact Nat.le_of_eq rfl) (hb hBY at_183) (fun _ _ => ⟨rfl, e_67, (by decide : 1 + 0 ≤ _), (by decide : 10 + 0 ≤ _)⟩)
  dsimp only [Pt.U, Pt.locs, Pt.cells, Pt.slots] at X_69 l_69 y_69 z_69 st_69 hQ_69
  subst l_69 y_69 z_69
  obtain ⟨rfl, N_69q, e_69⟩ := hQ_69
  have N_69 := Fr.app N_67 N_69q
  refine Done.pre (fun _ k_ => st_69 _ k_) ?_
  show Done _ _ _ _ _ _ _ (T_69.setTop (mkF m 186 #[Iv p1, Iv p2, Rv b_2, Iv ee, Iv pw, Iv (((p2.toUInt32 >>> ((8 : Int32) &&& 31).toUInt32).toInt32) &&& (15 : Int32)), Iv (1 : Int32)] [(.int (1 : Int32))]))
  have sg_70 : ∀ tt_, Steps p.tables e below (T_69.setTop (mkF m 198 #[Iv p1, Iv p2, Rv b_2, Iv ee, Iv pw, Iv (((p2.toUInt32 >>> ((8 : Int32) &&& 31).toUInt32).toInt32) &&& (15 : Int32)), Iv (1 : Int32)] [(.int (1 : Int32))])) tt_ → Steps p.tables e below (T_69.setTop (mkF m 186 #[Iv p1, Iv p2, Rv b_2, Iv ee, Iv pw, Iv (((p2.toUInt32 >>> ((8 : Int32) &&& 31).toUInt32).toInt32) &&& (15 : Int32)), Iv (1 : Int32)] [(.int (1 : Int32))])) tt_ := by
    intro tt_ kt_
    refine XS.ifNo X_69.here hEX rfl (hb hBY at_186) rfl ((if0 _ _).trans (feq (by decide : ¬ ((1 : Int32) = (0 : Int32)))).1) ?_
    show Steps p.tables e below (T_69.setTop (mkF m 189 #[Iv p1, Iv p2, Rv b_2, Iv ee, Iv pw, Iv (((p2.toUInt32 >>> ((8 : Int32) &&& 31).toUInt32).toInt32) &&& (15 : Int32)), Iv (1 : Int32)] [])) tt_
    refine XS.iconst X_69.here hEX rfl (hb hBY at_189) ?_
    show Steps p.tables e below (T_69.setTop (mkF m 190 #[Iv p1, Iv p2, Rv b_2, Iv ee, Iv pw, Iv (((p2.toUInt32 >>> ((8 : Int32) &&& 31).toUInt32).toInt32) &&& (15 : Int32)), Iv (1 : Int32)] [(.int (1 : Int32))])) tt_
    refine XS.goto X_69.here hEX rfl (pc0 := 190) (pc' := 194) rfl (hb hBY at_190) (by decide) (by decide) ?_
    show Steps p.tables e below (T_69.setTop (mkF m 194 #[Iv p1, Iv p2, Rv b_2, Iv ee, Iv pw, Iv (((p2.toUInt32 >>> ((8 : Int32) &&& 31).toUInt32).toInt32) &&& (15 : Int32)), Iv (1 : Int32)] [(.int (1 : Int32))])) tt_
    refine XS.istore X_69.here hEX rfl (hb hBY at_194) rfl (l' := #[Iv p1, Iv p2, Rv b_2, Iv ee, Iv pw, Iv (((p2.toUInt32 >>> ((8 : Int32) &&& 31).toUInt32).toInt32) &&& (15 : Int32)), Iv (1 : Int32)]) rfl ?_
    show Steps p.tables e below (T_69.setTop (mkF m 196 #[Iv p1, Iv p2, Rv b_2, Iv ee, Iv pw, Iv (((p2.toUInt32 >>> ((8 : Int32) &&& 31).toUInt32).toInt32) &&& (15 : Int32)), Iv (1 : Int32)] [])) tt_
    refine XS.iload X_69.here hEX rfl (hb hBY at_196) rfl ?_
    exact kt_
  refine Done.pre sg_70 ?_
  exact Done.retN X_69 hEX hLK (t := .boolean) hRT (by simp) (hb hBY at_198) (by rw [e_69]; exact ⟨rfl, N_69, K__53⟩) (by decide) (by decide)
set_option maxRecDepth 65536 in
set_option maxHeartbeats 40000000 in
theorem comes_1 {Post : Tables → Env → Array Value → State → Outcome → State → Prop} (hpost : ∀ tb e args s v u, (limb_1_1.after args s (.returned v) u = true ∧ limb_1_2.after args s (.returned v) u = true ∧ True) → FrameEnd s (.returned v) u (Jvm.fieldLocs frame_1_writes args s ++ Jvm.arrayLocs frame_1_arrays args s ++ Jvm.staticLocs frame_1_statics s) 16 128 → Post tb e args s (.returned v) u) :
    ArmFor flags0 classFile x code maxLocals ret World_1 tables_1 room_1 Calls_1 rest_1 Pre_1 Post := by
  intro l hfl _ _ p e ha hc hk s m args below hf hA hF happ hP
  obtain ⟨hcalls, hrest, hpre⟩ := hP
  obtain ⟨-, -, -, hnamed, -, -, -, hat⟩ := (Spec.applies_iff hf).mp happ
  obtain ⟨hg, hn⟩ := and_e (Cond.before_iff.mp (show (Jvm.Cond.and given_1 narrow_1).before args s = true from hpre))
  obtain ⟨g1a, g1b⟩ := and_e hg
  obtain ⟨g2a, g2b⟩ := and_e g1b
  obtain ⟨w0, w1, rfl⟩ : ∃ w0 w1 : Value, args = #[w0, w1] := by
    have hs : args.size = 2 := by simpa [Cond.value, given_1] using g1a
    obtain ⟨L⟩ := args
    match L, hs with
    | [w0, w1], _ => exact ⟨w0, w1, rfl⟩
  have hw := fun d (hd : d ∈ tables_1) => atoms_spec (ws := Jvm.Cond.code x code maxLocals ret :: tables_1) hat d (List.mem_cons_of_mem _ hd)
  have hfit : Fit s := fun {y c} hc i hi => by
    obtain ⟨ha, rfl⟩ := Array.getElem?_eq_some_iff.mp hc
    have q := List.all_eq_true.mp ((Array.all_eq_true_iff_forall_mem.mp hF) _ (Array.getElem_mem ha)) i (List.mem_range.mpr hi)
    simpa [Array.getElem?_eq_getElem hi] using q
  obtain ⟨i0, ei0⟩ := is_v g2a
  obtain rfl : w0 = (.int i0) := Option.some.inj ei0
  obtain ⟨i1, ei1⟩ := is_v g2b
  obtain rfl : w1 = (.int i1) := Option.some.inj ei1
  obtain ⟨n, o, h1, h2, h3, _, L, rfl, ⟨rfl, N, -⟩, hq⟩ := rm0 l s _ hw tables_1 i0 i1  s.heap s.heap.size (Nat.le_refl _)  p e ha hc hk s m _ below hf ((Spec.applies_iff_loose hf).mp happ).1 ⟨rfl, State.Warmed39.refl s, rfl⟩ trivial
  refine ⟨n, _, h1, h2, h3, hpost _ _ _ _ _ _ ⟨Cond.after_iff.mpr rfl, Cond.after_iff.mpr (eq_i res_at (Term.int_eval (1)) rfl), trivial⟩ ⟨hq.1, hq.2.1, (hq.2.2.sift fun y hy => Or.inr (N y hy)).mono (by decide) (by decide)⟩⟩
theorem main_1_1 : Claimed_1_1 := comes_1 fun _ _ _ _ _ _ h hF => ⟨h.1, hF⟩
theorem main_1_2 : Claimed_1_2 := comes_1 fun _ _ _ _ _ _ h hF => ⟨h.2.1, hF⟩
end Jvm.Pilot.@@N@@
namespace Jvm.Pilot.@@N@@
open Jvm Jvm.ClassFile Sem Op Lib Jvm.Free Jvm.Stand Jvm.Pilot.@@N@@.Jvm.D
/-! MADE BY PROGRAM (witnessworld.py) out of the Statement's table words and the real class files: 9 classes; the members and pool entries that the words name. The judged class is class 1, her method 3. -/
namespace start1
open Jvm.ClassFile
def u (s : String) : CpInfo := .utf8 (stringToUtf16 s)
/-- a pool by its gaps: so many unusable entries, then the entry; so many at the end -/
def gap : Nat → List CpInfo → List CpInfo
  | 0, r => r
  | n + 1, r => .unusable :: gap n r
def poolList (es : List (Nat × CpInfo)) (last : Nat) : List CpInfo := es.foldr (fun e r => gap e.1 (e.2 :: r)) (gap last [])
def pool (es : List (Nat × CpInfo)) (last : Nat) : Array CpInfo := ⟨poolList es last⟩
def fileOf (pool : Array CpInfo) (this : Nat) (attrs : Array Attribute := #[]) (ms : Array MethodInfo := #[]) (fl : Nat := 33) (sup : Nat := 0) (ifs : Array Nat := #[]) (fds : Array FieldInfo := #[]) : ClassFile where
  minorVersion := 0
  majorVersion := 65
  constantPool := pool
  accessFlags := fl
  thisClass := this
  superClass := sup
  interfaces := ifs
  fields := fds
  methods := ms
  attributes := attrs
def plain (name : String) (sup : Option ClassId) : Class where
  name := name
  kind := .ordinary
  loader := none
  accessFlags := 33
  super := sup
  interfaces := #[]
  cf := none
  fields := #[]
  methods := #[]
  instanceTypes := #[]
  staticTypes := #[]
  resolved := #[]
  callSites := []
  init := .initialized
  statics := none
  mirror := none

def pool0 : Array CpInfo := pool [(5, u "<init>"), (0, u "()V"), (1, .class_ 10), (1, u "java/lang/Object")] 113

def k0m0 : Method := { name := "<init>", desc := "()V", sig := { parameters := [], returnType := none }, accessFlags := 1, code := none }
/-- java/lang/Object -/
def k0 : Class := { plain "java/lang/Object" none with
  accessFlags := 33
  interfaces := #[]
  cf := some (fileOf pool0 8 #[] #[{ accessFlags := 1, nameIndex := 5, descriptorIndex := 6, attributes := #[] }] 33 0 #[] #[])
  fields := #[]
  methods := #[k0m0]
  instanceTypes := #[]
  staticTypes := #[]
  resolved := Array.replicate 124 none
  statics := none }

def pool1 : Array CpInfo := pool [(2, .class_ 4), (1, u "java/lang/Object"), (0, u "<init>"), (0, u "()V"), (0, .integer 100000), (0, .integer 1000000), (0, .integer 10000000), (0, .integer 100000000), (0, .integer 1000000000), (0, .methodref 13 14), (0, .class_ 15), (0, .nameAndType 16 17), (0, u "com/example/actorium/actorium/cli/Skynet"), (0, u "isPowerOfTen"), (0, u "(I)Z"), (0, .methodref 19 20), (0, .class_ 21), (0, .nameAndType 22 17), (0, u "com/example/actorium/actorium/cli/SkynetIsPowerOfTenPinLaw"), (0, u "ref"), (0, .integer 2147483647), (0, .methodref 19 25), (0, .nameAndType 26 17), (0, u "agrees"), (3, u "law"), (0, u "(II)Z")] 4

def k1m0 : Method := { name := "<init>", desc := "()V", sig := { parameters := [], returnType := none }, accessFlags := 2, code := none }
def k1c1 : Code := { maxStack := 2, maxLocals := 1, code := method_2_code, exceptionTable := #[], attributes := #[] }
def k1m1 : Method := { name := "ref", desc := "(I)Z", sig := { parameters := [.int], returnType := some .boolean }, accessFlags := 10, code := some k1c1 }
def k1c2 : Code := { maxStack := 2, maxLocals := 1, code := method_3_code, exceptionTable := #[], attributes := #[] }
def k1m2 : Method := { name := "agrees", desc := "(I)Z", sig := { parameters := [.int], returnType := some .boolean }, accessFlags := 10, code := some k1c2 }
def k1c3 : Code := { maxStack := 4, maxLocals := 7, code := code, exceptionTable := #[], attributes := #[] }
def k1m3 : Method := { name := "law", desc := "(II)Z", sig := { parameters := [.int, .int], returnType := some .boolean }, accessFlags := 9, code := some k1c3 }
/-- com/example/actorium/actorium/cli/SkynetIsPowerOfTenPinLaw -/
def k1 : Class := { plain "com/example/actorium/actorium/cli/SkynetIsPowerOfTenPinLaw" (some 0) with
  accessFlags := 49
  interfaces := #[]
  cf := some (fileOf pool1 19 #[] #[{ accessFlags := 2, nameIndex := 5, descriptorIndex := 6, attributes := #[] }, { accessFlags := 10, nameIndex := 22, descriptorIndex := 17, attributes := #[] }, { accessFlags := 10, nameIndex := 26, descriptorIndex := 17, attributes := #[] }, { accessFlags := 9, nameIndex := 30, descriptorIndex := 31, attributes := #[] }] 49 2 #[] #[])
  fields := #[]
  methods := #[k1m0, k1m1, k1m2, k1m3]
  instanceTypes := #[]
  staticTypes := #[]
  resolved := Array.replicate 36 none
  statics := none }

def pool2 : Array CpInfo := pool [(2, .class_ 4), (1, u "java/lang/Object"), (0, u "<init>"), (0, u "()V"), (0, .class_ 8), (0, u "com/example/actorium/actorium/cli/Skynet"), (2, u "isPowerOfTen"), (0, u "(I)Z"), (57, .class_ 71), (0, u "com/example/actorium/actorium/cli/Skynet$Node"), (7, u "NAMES"), (0, u "[Ljava/lang/String;"), (5, u "BRANCHES"), (0, u "I")] 46

def k2m0 : Method := { name := "<init>", desc := "()V", sig := { parameters := [], returnType := none }, accessFlags := 2, code := none }
def k2c1 : Code := { maxStack := 2, maxLocals := 2, code := prog_93_method_2_code, exceptionTable := #[], attributes := #[] }
def k2m1 : Method := { name := "isPowerOfTen", desc := "(I)Z", sig := { parameters := [.int], returnType := some .boolean }, accessFlags := 8, code := some k2c1 }
/-- com/example/actorium/actorium/cli/Skynet -/
def k2 : Class := { plain "com/example/actorium/actorium/cli/Skynet" (some 0) with
  accessFlags := 48
  interfaces := #[]
  cf := some (fileOf pool2 7 #[.nestMembers #[70]] #[{ accessFlags := 2, nameIndex := 5, descriptorIndex := 6, attributes := #[] }, { accessFlags := 8, nameIndex := 11, descriptorIndex := 12, attributes := #[] }] 48 2 #[] #[{ accessFlags := 26, nameIndex := 86, descriptorIndex := 87, attributes := #[] }, { accessFlags := 26, nameIndex := 79, descriptorIndex := 80, attributes := #[] }])
  fields := #[{ name := "BRANCHES", type := .int, accessFlags := 26, slot := 0, constantValue := 0 }, { name := "NAMES", type := (.array (.object "java/lang/String")), accessFlags := 26, slot := 1, constantValue := 0 }]
  methods := #[k2m0, k2m1]
  instanceTypes := #[]
  staticTypes := #[.int, (.array (.object "java/lang/String"))]
  resolved := Array.replicate 134 none
  statics := none }

def pool3 : Array CpInfo := pool [(1, u "java/lang/Cloneable"), (0, .class_ 1), (0, u "java/lang/Object"), (0, .class_ 3)] 3

/-- java/lang/Cloneable -/
def k3 : Class := { plain "java/lang/Cloneable" (some 0) with
  accessFlags := 1537
  interfaces := #[]
  cf := some (fileOf pool3 2 #[] #[] 1537 4 #[] #[])
  fields := #[]
  methods := #[]
  instanceTypes := #[]
  staticTypes := #[]
  resolved := Array.replicate 8 none
  statics := none }

def pool4 : Array CpInfo := pool [(1, u "java/io/Serializable"), (0, .class_ 1), (0, u "java/lang/Object"), (0, .class_ 3)] 3

/-- java/io/Serializable -/
def k4 : Class := { plain "java/io/Serializable" (some 0) with
  accessFlags := 1537
  interfaces := #[]
  cf := some (fileOf pool4 2 #[] #[] 1537 4 #[] #[])
  fields := #[]
  methods := #[]
  instanceTypes := #[]
  staticTypes := #[]
  resolved := Array.replicate 8 none
  statics := none }

/-- the primitive byte -/
def k5 : Class := { plain "byte" none with kind := .primitive 'B', accessFlags := 0x411 }
/-- [B -/
def k6 : Class := { plain "[B" (some 0) with kind := .array 5 .byte, interfaces := #[3, 4], accessFlags := 1041 }

/-- the primitive int -/
def k7 : Class := { plain "int" none with kind := .primitive 'I', accessFlags := 0x411 }
/-- [I -/
def k8 : Class := { plain "[I" (some 0) with kind := .array 7 .int, interfaces := #[3, 4], accessFlags := 1041 }

def heap : Heap := #[]
def classes : Array Class := #[k0, k1, k2, k3, k4, k5, k6, k7, k8]
def interned : List (Array UInt16 × Addr) := []
def slotsUsed : Nat := 0
def theMethod : MethodId := ⟨1, 3⟩
def args0 : Array Value := #[.int 7, .int 8]
def aboutOver (below : List Frame) : State where
  vm := { classes := classes, interned := interned.toArray }
  heap := heap
  slotsUsed := slotsUsed
  threads := #[{ frames := .invoking theMethod args0 :: below }]
def below0 : List Frame := [.native { method := ⟨0, 0⟩, args := #[] }]
def about1 : State := aboutOver below0
def p0 : Program := .bare "" "" ""
def e0 : Env := launch0.env 0 0 0
theorem w_frames : about1.frames = Frame.invoking theMethod args0 :: below0 := rfl
set_option maxRecDepth 65536 in
theorem w_args : argsFit about1.vm theMethod args0 = true := by decide +kernel
set_option maxRecDepth 65536 in
theorem w_heap : heapFits about1 = true := by decide +kernel
set_option maxRecDepth 65536 in
theorem w_runnable : about1.curStatus? = some .runnable := by decide +kernel
set_option maxRecDepth 65536 in
theorem w_alone : about1.alone = true := by decide +kernel
set_option maxRecDepth 65536 in
theorem w_named : about1.methodNamed? x = some theMethod := by decide +kernel
set_option maxRecDepth 65536 in
theorem w_hears : about1.hears theMethod below0 = true := by decide +kernel
set_option maxRecDepth 65536 in
theorem w_ripe : about1.ripe theMethod args0 below0 = true := by decide +kernel
theorem w_running : about1.status = .running := rfl
set_option maxRecDepth 65536 in
theorem w_room : about1.hasRoom e0.platform room_1 = true :=
  launch0.hasRoom_least _ room_1 (by decide +kernel) (by decide +kernel) (by decide +kernel) (by decide +kernel) (by decide +kernel) (by decide +kernel)
theorem allAtoms_all (ts : List Jvm.Cond) (a : Array Jvm.Value) (st : Jvm.State) : (allAtoms ts).before a st = ts.all (fun c => c.before a st) := by
  induction ts with
  | nil => rfl
  | cons c t ih =>
    show (Jvm.Cond.and c (allAtoms t)).before a st = _
    rw [Jvm.Cond.before_and, ih, List.all_cons]
def words1 : List Jvm.Cond := Jvm.Cond.code x code maxLocals ret :: tables_1
/-- a 'code' word, met by the world's own term for the bytes: nothing is compared byte by byte -/
theorem code_word {y : MethodName} {bytes : ByteArray} {mx : Nat} {rt : Option FieldType} {a : Array Value} {s : State} {m : MethodId} {meth : Method} {c : Code} (h1 : s.methodNamed? y = some m) (h2 : s.vm.method? m = some meth) (h3 : meth.code = some c) (h4 : c.code = bytes)
    (h5 : (c.maxLocals == mx && c.exceptionTable.isEmpty && decide (c.maxStack ≤ mostOperands) && decide (meth.sig.returnType = rt) && !meth.locks && decide (parseMethodDescriptor y.desc = some meth.sig)) = true) : (Jvm.Cond.code y bytes mx rt).before a s = true := by
  simp only [Bool.and_eq_true, beq_iff_eq, Bool.not_eq_true', decide_eq_true_eq] at h5
  obtain ⟨⟨⟨⟨⟨g1, g2⟩, g3⟩, g4⟩, g5⟩, g6⟩ := h5
  simp [Cond.before, Cond.holds, Cond.value, h1, h2, h3, h4, g1, g2, g3, g4, g5, g6]
def isCode : Jvm.Cond → Bool
  | .code _ _ _ _ => true
  | _ => false
theorem all_split {L : List Jvm.Cond} {P : Jvm.Cond → Bool} (h1 : L.all (fun c => isCode c || P c) = true) (h2 : ∀ c ∈ L.filter isCode, P c = true) : L.all P = true := by
  refine List.all_eq_true.mpr fun c hc => ?_
  have h := List.all_eq_true.mp h1 c hc
  rcases Bool.eq_false_or_eq_true (isCode c) with hi | hi
  · exact h2 c (List.mem_filter.mpr ⟨hc, hi⟩)
  · simpa [hi] using h
set_option maxRecDepth 65536 in
theorem w_c0 : (Jvm.Cond.code x code maxLocals ret).before args0 about1 = true := code_word (m := ⟨1, 3⟩) (meth := k1m3) (c := k1c3) (by decide +kernel) rfl rfl rfl (by decide +kernel)
set_option maxRecDepth 65536 in
theorem w_c1 : (Jvm.Cond.code ({ cls := "com/example/actorium/actorium/cli/SkynetIsPowerOfTenPinLaw", name := "agrees", desc := "(I)Z" } : Jvm.MethodName) method_3_code (1 : Nat) (Option.some Jvm.ClassFile.FieldType.boolean)).before args0 about1 = true := code_word (m := ⟨1, 2⟩) (meth := k1m2) (c := k1c2) (by decide +kernel) rfl rfl rfl (by decide +kernel)
set_option maxRecDepth 65536 in
theorem w_c2 : (Jvm.Cond.code ({ cls := "com/example/actorium/actorium/cli/Skynet", name := "isPowerOfTen", desc := "(I)Z" } : Jvm.MethodName) prog_93_method_2_code (2 : Nat) (Option.some Jvm.ClassFile.FieldType.boolean)).before args0 about1 = true := code_word (m := ⟨2, 1⟩) (meth := k2m1) (c := k2c1) (by decide +kernel) rfl rfl rfl (by decide +kernel)
set_option maxRecDepth 65536 in
theorem w_c3 : (Jvm.Cond.code ({ cls := "com/example/actorium/actorium/cli/SkynetIsPowerOfTenPinLaw", name := "ref", desc := "(I)Z" } : Jvm.MethodName) method_2_code (1 : Nat) (Option.some Jvm.ClassFile.FieldType.boolean)).before args0 about1 = true := code_word (m := ⟨1, 1⟩) (meth := k1m1) (c := k1c1) (by decide +kernel) rfl rfl rfl (by decide +kernel)
def codes1 : List Jvm.Cond := [Jvm.Cond.code x code maxLocals ret, Jvm.Cond.code ({ cls := "com/example/actorium/actorium/cli/SkynetIsPowerOfTenPinLaw", name := "agrees", desc := "(I)Z" } : Jvm.MethodName) method_3_code (1 : Nat) (Option.some Jvm.ClassFile.FieldType.boolean), Jvm.Cond.code ({ cls := "com/example/actorium/actorium/cli/Skynet", name := "isPowerOfTen", desc := "(I)Z" } : Jvm.MethodName) prog_93_method_2_code (2 : Nat) (Option.some Jvm.ClassFile.FieldType.boolean), Jvm.Cond.code ({ cls := "com/example/actorium/actorium/cli/SkynetIsPowerOfTenPinLaw", name := "ref", desc := "(I)Z" } : Jvm.MethodName) method_2_code (1 : Nat) (Option.some Jvm.ClassFile.FieldType.boolean)]
set_option maxRecDepth 65536 in
theorem codes_eq : words1.filter isCode = codes1 := rfl
theorem w_codes : ∀ c ∈ words1.filter isCode, c.before args0 about1 = true := by
  rw [codes_eq]
  intro c hc
  simp only [codes1, List.mem_cons, List.not_mem_nil, or_false] at hc
  rcases hc with rfl | rfl | rfl | rfl
  · exact w_c0
  · exact w_c1
  · exact w_c2
  · exact w_c3
set_option maxRecDepth 65536 in
theorem w_t1 : words1.all (fun c => isCode c || c.before args0 about1) = true := by decide +kernel
theorem w_tables : (allAtoms (Jvm.Cond.code x code maxLocals ret :: tables_1)).before args0 about1 = true := by
  rw [allAtoms_all]
  show words1.all (fun c => c.before args0 about1) = true
  refine all_split ?_ w_codes
  rw [w_t1]
set_option maxRecDepth 65536 in
theorem w_case : (Jvm.Cond.and given_1 narrow_1).before args0 about1 = true := by decide +kernel
theorem w_applies : (headSpec (Jvm.Cond.code x code maxLocals ret :: tables_1) room_1).applies x e0.platform about1 = true :=
  (Spec.applies_iff w_frames).mpr ⟨w_running, w_runnable, w_alone, w_named, w_hears, w_ripe, w_room, w_tables⟩
theorem atStart : AtStart classFile x code maxLocals ret World_1 tables_1 room_1 Calls_1 rest_1 Pre_1 launch0 p0 e0 about1 theMethod args0 below0 :=
  ⟨lists_1, trivial, launch0.admits_env _ _ _, launch0.least_env, fairChoices_fair.cas, fairChoices_fair.clock, w_frames, w_args, w_heap, w_applies, trivial, trivial, w_case⟩
end start1
theorem witness_1 : WitnessClaimed_1 := ⟨start1.p0, start1.e0, start1.about1, start1.theMethod, start1.args0, start1.below0, start1.atStart⟩
end Jvm.Pilot.@@N@@
