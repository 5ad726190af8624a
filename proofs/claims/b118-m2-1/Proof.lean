import JvmDerived
import JvmDerived.Pilot.@@N@@Statement
import JvmDerived.Pilot.@@N@@Code
set_option linter.unusedVariables false
set_option linter.unusedSimpArgs false
namespace Jvm.RoadKit
open Sem ClassFile Op Lib Jvm.Stand Jvm.Free Jvm.LawKit
section New
variable {p : Program} {l : Launch} {e : Env} {R : Room} {s : State} {m : MethodId} {args : Array Value} {below : List Frame} {meth : Method} {c : Code} {T : State} {locs : List Loc} {cells slots : Nat}
theorem retI (X : Stand p l e R s m args below meth c T locs cells slots) (hEX : p.tables.exec = Jvm.exec) {pc : Nat} {Ls : Array Slot} {z : Int32} {rest : List Value} (hRT : meth.sig.returnType = some .int) (hd : decode c.code pc = .ok (.ireturn, 1)) {fs : List Frame}
    (hl : ∀ (f : JFrame) (acts : List Action), f.method = m → f.locked = none → f.entered = [] → (doReturn e (T.setTop f) acts (some (.int z))).1 = T.setFrames fs) : Steps p.tables e below (T.setTop (mkF m pc Ls (.int z :: rest))) (T.setFrames fs) := by
  have hm' : T.vm.method? m = some meth := X.method'
  have hn : narrow .int (.int z) = .int z := rfl
  show Steps p.tables e below (T.setTop { method := m, pc := pc, locals := Ls, stack := _ :: rest, locked := none }) _
  jvm_step X.here [X.here.top, hEX, hd, hm', hRT, hn]
  first | (intro acts; rw [hl _ acts rfl rfl rfl]) | rw [hl _ _ rfl rfl rfl]
  exact Steps.refl _
abbrev Us : Slot := .unset
abbrev Zs : Slot := .second
abbrev Nv : Slot := .val .null
abbrev Iv (x : Int32) : Slot := .val (.int x)
abbrev Lv (x : Int64) : Slot := .val (.long x)
abbrev Rv (x : Addr) : Slot := .val (.ref x)
/-- the body comes to its end from st: it returns v, and Q holds of v, of the heap and of the places written -/
def Done (p : Program) (e : Env) (below : List Frame) (s : State) (Q : Option Value → Heap → List Loc → Prop) (kc ks : Nat) (st : State) : Prop :=
  ∃ (s₂ : State) (o : Outcome), Steps p.tables e below st s₂ ∧ s₂.status = .running ∧ Ended s₂ below o ∧ ∃ v L, o = .returned v ∧ Q v s₂.heap L ∧ FrameEnd s o s₂ L kc ks
variable {Q : Option Value → Heap → List Loc → Prop} {kc ks : Nat}
theorem Done.pre {st st' : State} (h : ∀ t, Steps p.tables e below st' t → Steps p.tables e below st t) (D : Done p e below s Q kc ks st') : Done p e below s Q kc ks st := by
  obtain ⟨s₂, o, h1, r⟩ := D
  exact ⟨s₂, o, h _ h1, r⟩
theorem Done.retI (X : Stand p l e R s m args below meth c T locs cells slots) (hEX : p.tables.exec = Jvm.exec) (hLK : meth.locks = false) {pc : Nat} {Ls : Array Slot} {z : Int32} {rest : List Value} (hRT : meth.sig.returnType = some .int) (hd : decode c.code pc = .ok (.ireturn, 1))
    (hQ : Q (some (.int z)) T.heap locs) (hc : cells ≤ kc) (hs : slots ≤ ks) : Done p e below s Q kc ks (T.setTop (mkF m pc Ls (.int z :: rest))) := by
  obtain ⟨fs, hr, hrun, hended, hW, hsame⟩ := X.leave (v := some (.int z)) (fun h => by rw [hRT] at h; cases h) hLK
  exact ⟨_, _, Jvm.RoadKit.retI X hEX hRT hd hr, hrun, hended, _, _, rfl, hQ, ⟨_, rfl⟩, hW, hsame.mono hc hs⟩
theorem Done.retN (X : Stand p l e R s m args below meth c T locs cells slots) (hEX : p.tables.exec = Jvm.exec) (hLK : meth.locks = false) {pc : Nat} {Ls : Array Slot} {z : Int32} {t : FieldType} {rest : List Value} (hRT : meth.sig.returnType = some t) (ht : t = .boolean ∨ t = .byte ∨ t = .char ∨ t = .short) (hd : decode c.code pc = .ok (.ireturn, 1))
    (hQ : Q (some (.int (nar t z))) T.heap locs) (hc : cells ≤ kc) (hs : slots ≤ ks) : Done p e below s Q kc ks (T.setTop (mkF m pc Ls (.int z :: rest))) := by
  obtain ⟨fs, hr, hrun, hended, hW, hsame⟩ := X.leave (v := some (.int (nar t z))) (fun h => by rw [hRT] at h; cases h) hLK
  exact ⟨_, _, Jvm.RoadKit.retN X hEX hRT ht hd hr, hrun, hended, _, _, rfl, hQ, ⟨_, rfl⟩, hW, hsame.mono hc hs⟩
theorem Done.retL (X : Stand p l e R s m args below meth c T locs cells slots) (hEX : p.tables.exec = Jvm.exec) (hLK : meth.locks = false) {pc : Nat} {Ls : Array Slot} {z : Int64} {rest : List Value} (hRT : meth.sig.returnType = some .long) (hd : decode c.code pc = .ok (.lreturn, 1))
    (hQ : Q (some (.long z)) T.heap locs) (hc : cells ≤ kc) (hs : slots ≤ ks) : Done p e below s Q kc ks (T.setTop (mkF m pc Ls (.long z :: rest))) := by
  obtain ⟨fs, hr, hrun, hended, hW, hsame⟩ := X.leave (v := some (.long z)) (fun h => by rw [hRT] at h; cases h) hLK
  exact ⟨_, _, retOut X hEX hRT rfl (Or.inr (Or.inl ⟨rfl, rfl, _, rfl⟩)) hd hr, hrun, hended, _, _, rfl, hQ, ⟨_, rfl⟩, hW, hsame.mono hc hs⟩
theorem Done.retA (X : Stand p l e R s m args below meth c T locs cells slots) (hEX : p.tables.exec = Jvm.exec) (hLK : meth.locks = false) {pc : Nat} {Ls : Array Slot} {w : Value} {t : FieldType} {rest : List Value} (hRT : meth.sig.returnType = some t) (ht : t.isReference = true) (hw : w.isRef = true) (hd : decode c.code pc = .ok (.areturn, 1))
    (hQ : Q (some w) T.heap locs) (hc : cells ≤ kc) (hs : slots ≤ ks) : Done p e below s Q kc ks (T.setTop (mkF m pc Ls (w :: rest))) := by
  obtain ⟨fs, hr, hrun, hended, hW, hsame⟩ := X.leave (v := some w) (fun h => by rw [hRT] at h; cases h) hLK
  have hn : narrow t w = w := by cases t <;> first | rfl | (simp [FieldType.isReference] at ht)
  exact ⟨_, _, retOut X hEX hRT hn (Or.inr (Or.inr (Or.inr (Or.inr ⟨rfl, ht, hw⟩)))) hd hr, hrun, hended, _, _, rfl, hQ, ⟨_, rfl⟩, hW, hsame.mono hc hs⟩
theorem Done.retV (X : Stand p l e R s m args below meth c T locs cells slots) (hEX : p.tables.exec = Jvm.exec) (hLK : meth.locks = false) {pc : Nat} {Ls : Array Slot} (hRT : meth.sig.returnType = none) (hd : decode c.code pc = .ok (.return_, 1))
    (hQ : Q none T.heap locs) (hc : cells ≤ kc) (hs : slots ≤ ks) : Done p e below s Q kc ks (T.setTop (mkF m pc Ls [])) := by
  obtain ⟨fs, hr, hrun, hended, hW, hsame⟩ := X.leave (v := none) (fun _ => rfl) hLK
  exact ⟨_, _, X.returnOut hEX hRT hd hr, hrun, hended, _, _, rfl, hQ, ⟨_, rfl⟩, hW, hsame.mono hc hs⟩
end New
end Jvm.RoadKit
namespace Jvm.Pilot.@@N@@
open Jvm Jvm.ClassFile Sem Op Lib Jvm.Free Jvm.Stand Jvm.LawKit Jvm.RoadKit Bundle Jvm.Pilot.@@N@@.Jvm.D

def own_max (x y : Int32) : Int32 := if x < y then y else x
def own_isp (r : Int) : Prop := ∃ k : Nat, k ≤ 30 ∧ r = ((2 ^ k : Nat) : Int)
theorem own_isp_bd {r : Int} (h : own_isp r) : 1 ≤ r ∧ r ≤ 1073741824 := by
  obtain ⟨k, hk, rfl⟩ := h
  have h1 : 2 ^ k ≤ 2 ^ 30 := Nat.pow_le_pow_right (by decide) hk
  have h2 : 0 < 2 ^ k := Nat.pow_pos (by decide)
  generalize 2 ^ k = n at *
  have e : 2 ^ 30 = 1073741824 := rfl
  rw [e] at h1
  omega
theorem own_isp_dbl {r : Int} (h : own_isp r) (hn : r ≠ 1073741824) : own_isp (r * 2) ∧ r ≤ 536870912 := by
  obtain ⟨k, hk, rfl⟩ := h
  have hk' : k ≤ 29 := by
    rcases Nat.lt_or_ge k 30 with q | q
    · omega
    · have : k = 30 := by omega
      subst this; exact absurd rfl hn
  refine ⟨⟨k + 1, by omega, by rw [Nat.pow_succ]; simp⟩, ?_⟩
  have h1 : 2 ^ k ≤ 2 ^ 29 := Nat.pow_le_pow_right (by decide) hk'
  have e : 2 ^ 29 = 536870912 := rfl
  rw [e] at h1
  generalize 2 ^ k = n at *
  omega
theorem own_isp_half {r : Int} (h : own_isp r) (hn : r ≠ 1) : r / 2 * 2 = r ∧ 1 ≤ r / 2 := by
  obtain ⟨k, hk, rfl⟩ := h
  match k, hk, hn with
  | 0, _, hn => exact absurd rfl hn
  | k + 1, _, _ =>
    have h2 : 0 < 2 ^ k := Nat.pow_pos (by decide)
    rw [Nat.pow_succ]
    generalize 2 ^ k = n at *
    omega
theorem own_isp_and (x : Int32) (h : own_isp x.toInt) : (x &&& (x - (1 : Int32))) = (0 : Int32) := by
  obtain ⟨k, hk, h⟩ := h
  have hx : x = Int32.ofInt ((2 ^ k : Nat) : Int) := by rw [← h, Int32.ofInt_toInt]
  have hd : ∀ k : Fin 31, (Int32.ofInt ((2 ^ k.val : Nat) : Int) &&& (Int32.ofInt ((2 ^ k.val : Nat) : Int) - (1 : Int32))) = (0 : Int32) := by decide +kernel
  rw [hx]; exact hd ⟨k, by omega⟩
def own_inv (P Ls sz r : Int) : Prop := own_isp r ∧ sz = (P + r - 1) / r ∧ (r ≠ 1 → Ls < (P + r / 2 - 1) / (r / 2))
def own_LC (P Ls r : Int) : Prop := own_isp r ∧ (P + r - 1) / r ≤ Ls ∧ (r ≠ 1 → Ls < (P + r / 2 - 1) / (r / 2))
theorem own_ceil (P r : Int) (hr : 1 ≤ r) : ((P + r - 1) / r + 1) / 2 = (P + r * 2 - 1) / (r * 2) := by
  have h1 : (P + r - 1) / r + 1 = (P + r - 1 + 1 * r) / r := by rw [Int.add_mul_ediv_right _ _ (by omega)]
  rw [h1, Int.ediv_ediv_of_nonneg (by omega)]
  congr 1; omega
theorem own_step (P Ls sz r : Int) (h : own_inv P Ls sz r) (h1 : 1 ≤ Ls) (h2 : Ls = 1 → P ≤ 1073741824) (hP : P < 2147483648) (hc : Ls < sz) : own_inv P Ls ((sz + 1) / 2) (r * 2) ∧ r ≤ 536870912 ∧ 2 ≤ sz ∧ sz ≤ 2147483648 := by
  obtain ⟨a, b, c⟩ := h
  have hb := own_isp_bd a
  have hn : r ≠ 1073741824 := by
    intro q; rw [q] at b
    have : sz ≤ 2 := by omega
    have : Ls = 1 := by omega
    have := h2 this
    omega
  obtain ⟨d1, d2⟩ := own_isp_dbl a hn
  have hs : sz ≤ P ∨ sz ≤ 1 := by
    rcases (by omega : P < 1 ∨ 1 ≤ P) with q | q
    · right; rw [b]
      have : (P + r - 1) / r ≤ (1 * r) / r := Int.ediv_le_ediv (by omega) (by omega)
      rw [Int.mul_ediv_cancel _ (by omega)] at this; exact this
    · left; rw [b]
      have : (P + r - 1) / r < P + 1 := by
        apply Int.ediv_lt_of_lt_mul (by omega)
        have : (P + 1) * r = P * r + r := by rw [Int.add_mul]; omega
        have : P * 1 ≤ P * r := Int.mul_le_mul_of_nonneg_left (by omega) (by omega)
        omega
      omega
  refine ⟨⟨d1, by rw [b]; exact own_ceil P r hb.1, fun _ => ?_⟩, d2, by omega, by omega⟩
  have e : r * 2 / 2 = r := by omega
  rw [e, ← b]; exact hc
theorem own_turn (pts ls rr : Int32) (sz : Int64) (h : own_inv pts.toInt ls.toInt sz.toInt rr.toInt) (h1 : 1 ≤ ls.toInt) (h2 : ls.toInt = 1 → pts.toInt ≤ 1073741824) (hc : ls.toInt64 < sz) :
    own_inv pts.toInt ls.toInt ((sz + (1 : Int64)) / (2 : Int64)).toInt (rr * (2 : Int32)).toInt ∧ 2 ≤ sz.toInt ∧ ((sz + (1 : Int64)) / (2 : Int64)).toInt = (sz.toInt + 1) / 2 := by
  rw [Int64.lt_iff_toInt_lt, c_i2l] at hc
  obtain ⟨s1, s2, s3, s4⟩ := own_step _ _ _ _ h h1 h2 (rng32 pts).2 hc
  have e1 : (1 : Int64).toInt = 1 := rfl
  have e2 : (2 : Int32).toInt = 2 := rfl
  have a1 := c_ladd sz (1 : Int64)
  have a2 := rng64 (sz + (1 : Int64))
  have a3 : (sz + (1 : Int64)).toInt = sz.toInt + 1 := by omega
  have a4 := (c_ldiv (sz + (1 : Int64)) (2 : Int64) 2 rfl (by decide)).1 (by omega)
  rw [a3] at a4
  have m1 := c_imul rr (2 : Int32)
  have m2 := rng32 (rr * (2 : Int32))
  have m0 := own_isp_bd h.1
  have m3 : (rr * (2 : Int32)).toInt = rr.toInt * 2 := by rw [e2] at m1; omega
  rw [a4, m3]; exact ⟨s1, s3, rfl⟩
theorem own_dec (sz : Int64) (kk : Nat) (h : 2 ≤ sz.toInt) (e : ((sz + (1 : Int64)) / (2 : Int64)).toInt = (sz.toInt + 1) / 2) (hkk : sz.toInt.toNat = kk) : ((sz + (1 : Int64)) / (2 : Int64)).toInt.toNat < kk := by
  rw [e]; omega
theorem own_init (pts ls : Int32) : own_inv pts.toInt ls.toInt pts.toInt64.toInt (1 : Int32).toInt := by
  rw [c_i2l]
  refine ⟨⟨0, by decide, rfl⟩, ?_, fun q => absurd rfl q⟩
  show _ = (pts.toInt + 1 - 1) / 1
  omega
theorem own_out (pts ls rr : Int32) (sz : Int64) (h : own_inv pts.toInt ls.toInt sz.toInt rr.toInt) (hc : ¬ ls.toInt64 < sz) : own_LC pts.toInt ls.toInt rr.toInt := by
  rw [Int64.lt_iff_toInt_lt, c_i2l] at hc
  exact ⟨h.1, by rw [← h.2.1]; omega, h.2.2⟩
theorem own_ls1 (x : Int32) : 1 ≤ ((1 : Int32) + (x &&& (15 : Int32))).toInt := by
  have h1 := c_mask x (15 : Int32) 4 (by decide) (by decide)
  have h2 := c_iadd (1 : Int32) (x &&& (15 : Int32))
  have h3 := rng32 ((1 : Int32) + (x &&& (15 : Int32)))
  have e1 : (1 : Int32).toInt = 1 := rfl
  omega
theorem own_ls2 (y : Int32) : 1 ≤ (own_max (1 : Int32) y).toInt := by
  have e1 : (1 : Int32).toInt = 1 := rfl
  rw [own_max]
  split
  · rename_i h; rw [Int32.lt_iff_toInt_lt] at h; omega
  · omega
theorem own_h2a (ls pts : Int32) (h : ¬ ls = (1 : Int32)) : ls.toInt = 1 → pts.toInt ≤ 1073741824 := fun q => absurd (Int32.toInt_inj.mp q) h
theorem own_h2b (ls pts : Int32) (h : ¬ (1073741824 : Int32) < pts) : ls.toInt = 1 → pts.toInt ≤ 1073741824 := fun _ => by
  rw [Int32.lt_iff_toInt_lt] at h
  have e1 : (1073741824 : Int32).toInt = 1073741824 := rfl
  omega
theorem own_l52 (pts ls r : Int32) (h : own_LC pts.toInt ls.toInt r.toInt) : ¬ r < (1 : Int32) := by
  have := own_isp_bd h.1
  have e1 : (1 : Int32).toInt = 1 := rfl
  rw [Int32.lt_iff_toInt_lt]; omega
theorem own_l59 (pts ls r : Int32) (h : own_LC pts.toInt ls.toInt r.toInt) : ¬ (1073741824 : Int32) < r := by
  have := own_isp_bd h.1
  have e1 : (1073741824 : Int32).toInt = 1073741824 := rfl
  rw [Int32.lt_iff_toInt_lt]; omega
theorem own_nzr (r : Int64) (h : 1 ≤ r.toInt) : ¬ r = (0 : Int64) ∧ r ≠ -1 := ⟨fun q => by rw [q] at h; exact absurd h (by decide), fun q => by rw [q] at h; exact absurd h (by decide)⟩
theorem own_nz1 (pts ls r : Int32) (h : own_LC pts.toInt ls.toInt r.toInt) : ¬ r.toInt64 = (0 : Int64) := (own_nzr r.toInt64 (by rw [c_i2l]; exact (own_isp_bd h.1).1)).1
theorem own_hf (r : Int32) (h : own_isp r.toInt) : (r.toInt64 / (2 : Int64)).toInt = r.toInt / 2 := by
  have := own_isp_bd h
  have := (c_ldiv r.toInt64 (2 : Int64) 2 rfl (by decide)).1 (by rw [c_i2l]; omega)
  rw [c_i2l] at this; exact this
theorem own_nz2 (pts ls r : Int32) (h : own_LC pts.toInt ls.toInt r.toInt) (h1 : ¬ r = (1 : Int32)) : ¬ (r.toInt64 / (2 : Int64)) = (0 : Int64) := by
  have e1 : (1 : Int32).toInt = 1 := rfl
  rw [← Int32.toInt_inj, e1] at h1
  exact (own_nzr _ (by rw [own_hf r h.1]; exact (own_isp_half h.1 h1).2)).1
theorem own_sum (p : Int32) (b : Int64) (h1 : 1 ≤ b.toInt) (h2 : b.toInt ≤ 1073741824) : ((p.toInt64 + b) - (1 : Int64)).toInt = p.toInt + b.toInt - 1 := by
  have e1 : (1 : Int64).toInt = 1 := rfl
  have a0 := c_i2l p
  have a1 := c_ladd p.toInt64 b
  have a2 := rng64 (p.toInt64 + b)
  have a3 := c_lsub (p.toInt64 + b) (1 : Int64)
  have a4 := rng64 ((p.toInt64 + b) - (1 : Int64))
  have a5 := rng32 p
  omega
theorem own_l93 (pts ls r : Int32) (h : own_LC pts.toInt ls.toInt r.toInt) (h1 : 1 ≤ ls.toInt) : ¬ ls.toInt64 < (((pts.toInt64 + r.toInt64) - (1 : Int64)) / r.toInt64) := by
  obtain ⟨a, b, c⟩ := h
  have hb := own_isp_bd a
  have hr : r.toInt64.toInt = r.toInt := c_i2l r
  have hs := own_sum pts r.toInt64 (by omega) (by omega)
  have hd := c_ldiv ((pts.toInt64 + r.toInt64) - (1 : Int64)) r.toInt64 r.toInt hr (own_nzr _ (by omega)).2
  rw [hs, hr] at hd
  rw [Int64.lt_iff_toInt_lt, c_i2l]
  rcases (by omega : (pts.toInt + r.toInt - 1) < 0 ∨ 0 ≤ (pts.toInt + r.toInt - 1)) with q | q
  · rw [hd.2 q]
    have : 0 ≤ -(pts.toInt + r.toInt - 1) / r.toInt := Int.ediv_nonneg (by omega) (by omega)
    omega
  · rw [hd.1 q]; omega
theorem own_l128 (pts ls r : Int32) (h : own_LC pts.toInt ls.toInt r.toInt) (h1 : 1 ≤ ls.toInt) (hn : ¬ r = (1 : Int32)) : ls.toInt64 < (((pts.toInt64 + (r.toInt64 / (2 : Int64))) - (1 : Int64)) / (r.toInt64 / (2 : Int64))) := by
  have e1 : (1 : Int32).toInt = 1 := rfl
  rw [← Int32.toInt_inj, e1] at hn
  obtain ⟨a, b, c⟩ := h
  have hb := own_isp_bd a
  have hh := own_isp_half a hn
  have hf := own_hf r a
  have hs := own_sum pts (r.toInt64 / (2 : Int64)) (by omega) (by omega)
  have hd := c_ldiv ((pts.toInt64 + (r.toInt64 / (2 : Int64))) - (1 : Int64)) (r.toInt64 / (2 : Int64)) (r.toInt / 2) hf (own_nzr _ (by omega)).2
  rw [hs, hf] at hd
  have hc := c hn
  rw [Int64.lt_iff_toInt_lt, c_i2l]
  rcases (by omega : (pts.toInt + r.toInt / 2 - 1) < 0 ∨ 0 ≤ (pts.toInt + r.toInt / 2 - 1)) with q | q
  · exfalso
    have : (pts.toInt + r.toInt / 2 - 1) / (r.toInt / 2) < 0 := Int.ediv_neg_of_neg_of_pos (by omega) (by omega)
    omega
  · rw [hd.1 q]; exact hc
theorem d_jdk_29_method_65_code_0 : decode jdk_29_method_65_code 0 = .ok (.iload_n 0, 1) := by decide +kernel
theorem d_jdk_29_method_65_code_1 : decode jdk_29_method_65_code 1 = .ok (.iload_n 1, 1) := by decide +kernel
theorem d_jdk_29_method_65_code_2 : decode jdk_29_method_65_code 2 = .ok (.if_icmp .lt 7, 3) := by decide +kernel
theorem d_jdk_29_method_65_code_9 : decode jdk_29_method_65_code 9 = .ok (.iload_n 1, 1) := by decide +kernel
theorem d_jdk_29_method_65_code_10 : decode jdk_29_method_65_code 10 = .ok (.ireturn, 1) := by decide +kernel
theorem d_jdk_29_method_65_code_5 : decode jdk_29_method_65_code 5 = .ok (.iload_n 0, 1) := by decide +kernel
theorem d_jdk_29_method_65_code_6 : decode jdk_29_method_65_code 6 = .ok (.goto 4, 3) := by decide +kernel
def Qrm_max (Z : State) (x : Int32) (y : Int32) (h0 : Heap) (n0 : Nat) (v_ : Option Value) (h_ : Heap) (L_ : List Loc) : Prop := v_ = some (.int (own_max x y)) ∧ Fr n0 L_ ∧ h_ = h0
theorem ef_rm_max (m : MethodId) (x0 : Int32) (x1 : Int32) : entryFrame m #[(.int x0), (.int x1)] 2 = mkF m 0 #[.val (.int x0), .val (.int x1)] [] := by first | (simp [entryFrame, mkF, argsToLocals, Value.category]; done) | rfl
set_option maxRecDepth 65536 in
set_option maxHeartbeats 40000000 in
theorem rm_max (l : Launch) (Z : State) (aZ : Array Value) (hw : ∀ d ∈ tables_1, d.before aZ Z = true) (ws : List Jvm.Cond) (x : Int32) (y : Int32) (h0 : Heap) (n0 : Nat) (Z0 : n0 ≤ h0.size) :
    MetFree l (⟨"java/lang/Math", "max", "(II)I"⟩ : MethodName) (head1 (Jvm.Cond.code (⟨"java/lang/Math", "max", "(II)I"⟩ : MethodName) jdk_29_method_65_code 2 (some .int) :: ws) ({ frames := 0, cells := 0, slots := 0, locals := 0 } : Room)) (fun a_ U_ => a_ = #[(.int x), (.int y)] ∧ Z.Warmed39 U_.vm ∧ U_.heap = h0) (fun _ _ _ _ _ => True) (fun _ U_ o_ U2_ => ∃ v_ L_, o_ = .returned v_ ∧ Qrm_max Z x y h0 n0 v_ U2_.heap L_ ∧ FrameEnd U_ o_ U2_ L_ ({ frames := 0, cells := 0, slots := 0, locals := 0 } : Room).cells ({ frames := 0, cells := 0, slots := 0, locals := 0 } : Room).slots) := by
  refine MetFree.of_bodySF (Jvm.Free.JP.mathPlain rfl (by decide +kernel)) hisR ?_
  intro p e s m args below meth cO s₁ Bd hml0 hP hK
  obtain ⟨rfl, hZW, hh⟩ := hP
  have hEX := Bd.exec
  have hBY := Bd.bytes
  have hMX : cO.maxLocals = 2 := hml0
  have hOW : s.vm.findClass "java/lang/Math" = some m.cls := findClass_of_methodNamed Bd.named
  have hNM := (name_of_methodNamed Bd.named Bd.method).1
  have hLK := Bd.notSynchronized
  have hRT := Bd.returns
  have X0 : Stand p l e ({ frames := 0, cells := 0, slots := 0, locals := 0 } : Room) s m #[(.int x), (.int y)] below meth cO s₁ [] 0 0 := Stand.of_body Bd
  have e0 : s₁.heap = h0 := by rw [← hh, Bd.state]; rfl
  have N0 := Fr.nil n0
  have K0 : Keep h0 h0 [] := Keep.refl _ _
  show Done p e below s (Qrm_max Z x y h0 n0) ({ frames := 0, cells := 0, slots := 0, locals := 0 } : Room).cells ({ frames := 0, cells := 0, slots := 0, locals := 0 } : Room).slots (s₁.setTop (entryFrame m #[(.int x), (.int y)] 2))
  refine Done.pre (fun t_ k_ => castTop (ef_rm_max m x y) k_) ?_
  show Done _ _ _ _ _ _ _ (s₁.setTop (mkF m 0 #[Iv x, Iv y] []))
  have sg_1 : ∀ tt_, Steps p.tables e below (s₁.setTop (mkF m 2 #[Iv x, Iv y] [(.int y), (.int x)])) tt_ → Steps p.tables e below (s₁.setTop (mkF m 0 #[Iv x, Iv y] [])) tt_ := by
    intro tt_ kt_
    refine XS.iloadN X0.here hEX rfl (hb hBY d_jdk_29_method_65_code_0) rfl ?_
    show Steps p.tables e below (s₁.setTop (mkF m 1 #[Iv x, Iv y] [(.int x)])) tt_
    refine XS.iloadN X0.here hEX rfl (hb hBY d_jdk_29_method_65_code_1) rfl ?_
    exact kt_
  refine Done.pre sg_1 ?_
  by_cases hc2 : x < y
  · skip
    have sg_2 : ∀ tt_, Steps p.tables e below (s₁.setTop (mkF m 10 #[Iv x, Iv y] [(.int y)])) tt_ → Steps p.tables e below (s₁.setTop (mkF m 2 #[Iv x, Iv y] [(.int y), (.int x)])) tt_ := by
      intro tt_ kt_
      refine XS.icmpYes X0.here hEX rfl (pc0 := 2) (pc' := 9) rfl (hb hBY d_jdk_29_method_65_code_2) rfl (tlt hc2).1 (by decide) (by decide) ?_
      show Steps p.tables e below (s₁.setTop (mkF m 9 #[Iv x, Iv y] [])) tt_
      refine XS.iloadN X0.here hEX rfl (hb hBY d_jdk_29_method_65_code_9) rfl ?_
      exact kt_
    refine Done.pre sg_2 ?_
    exact Done.retI X0 hEX hLK hRT (hb hBY d_jdk_29_method_65_code_10) (by rw [e0]; exact ⟨(by rw [own_max, if_pos hc2]), N0, rfl⟩) (by decide) (by decide)
  · skip
    have sg_3 : ∀ tt_, Steps p.tables e below (s₁.setTop (mkF m 10 #[Iv x, Iv y] [(.int x)])) tt_ → Steps p.tables e below (s₁.setTop (mkF m 2 #[Iv x, Iv y] [(.int y), (.int x)])) tt_ := by
      intro tt_ kt_
      refine XS.icmpNo X0.here hEX rfl (hb hBY d_jdk_29_method_65_code_2) rfl (flt hc2).1 ?_
      show Steps p.tables e below (s₁.setTop (mkF m 5 #[Iv x, Iv y] [])) tt_
      refine XS.iloadN X0.here hEX rfl (hb hBY d_jdk_29_method_65_code_5) rfl ?_
      show Steps p.tables e below (s₁.setTop (mkF m 6 #[Iv x, Iv y] [(.int x)])) tt_
      refine XS.goto X0.here hEX rfl (pc0 := 6) (pc' := 10) rfl (hb hBY d_jdk_29_method_65_code_6) (by decide) (by decide) ?_
      exact kt_
    refine Done.pre sg_3 ?_
    exact Done.retI X0 hEX hLK hRT (hb hBY d_jdk_29_method_65_code_10) (by rw [e0]; exact ⟨(by rw [own_max, if_neg hc2]), N0, rfl⟩) (by decide) (by decide)
theorem d_prog_47_method_2_code_0 : decode prog_47_method_2_code 0 = .ok (.iload_n 0, 1) := by decide +kernel
theorem d_prog_47_method_2_code_1 : decode prog_47_method_2_code 1 = .ok (.i2l, 1) := by decide +kernel
theorem d_prog_47_method_2_code_2 : decode prog_47_method_2_code 2 = .ok (.lstore_n 2, 1) := by decide +kernel
theorem d_prog_47_method_2_code_3 : decode prog_47_method_2_code 3 = .ok (.iconst 1, 1) := by decide +kernel
theorem d_prog_47_method_2_code_4 : decode prog_47_method_2_code 4 = .ok (.istore 4, 2) := by decide +kernel
theorem d_prog_47_method_2_code_6 : decode prog_47_method_2_code 6 = .ok (.lload_n 2, 1) := by decide +kernel
theorem d_prog_47_method_2_code_7 : decode prog_47_method_2_code 7 = .ok (.iload_n 1, 1) := by decide +kernel
theorem d_prog_47_method_2_code_8 : decode prog_47_method_2_code 8 = .ok (.i2l, 1) := by decide +kernel
theorem d_prog_47_method_2_code_9 : decode prog_47_method_2_code 9 = .ok (.lcmp, 1) := by decide +kernel
theorem d_prog_47_method_2_code_10 : decode prog_47_method_2_code 10 = .ok (.ifCond .le 20, 3) := by decide +kernel
theorem d_prog_47_method_2_code_13 : decode prog_47_method_2_code 13 = .ok (.lload_n 2, 1) := by decide +kernel
theorem d_prog_47_method_2_code_14 : decode prog_47_method_2_code 14 = .ok (.lconst 1, 1) := by decide +kernel
theorem d_prog_47_method_2_code_15 : decode prog_47_method_2_code 15 = .ok (.ladd, 1) := by decide +kernel
theorem d_prog_47_method_2_code_16 : decode prog_47_method_2_code 16 = .ok (.ldc2_w 7, 3) := by decide +kernel
theorem d_prog_47_method_2_code_19 : decode prog_47_method_2_code 19 = .ok (.ldiv, 1) := by decide +kernel
theorem d_prog_47_method_2_code_20 : decode prog_47_method_2_code 20 = .ok (.lstore_n 2, 1) := by decide +kernel
theorem d_prog_47_method_2_code_21 : decode prog_47_method_2_code 21 = .ok (.iload 4, 2) := by decide +kernel
theorem d_prog_47_method_2_code_23 : decode prog_47_method_2_code 23 = .ok (.iconst 2, 1) := by decide +kernel
theorem d_prog_47_method_2_code_24 : decode prog_47_method_2_code 24 = .ok (.imul, 1) := by decide +kernel
theorem d_prog_47_method_2_code_25 : decode prog_47_method_2_code 25 = .ok (.istore 4, 2) := by decide +kernel
theorem d_prog_47_method_2_code_27 : decode prog_47_method_2_code 27 = .ok (.goto (-21), 3) := by decide +kernel
theorem d_prog_47_method_2_code_30 : decode prog_47_method_2_code 30 = .ok (.iload 4, 2) := by decide +kernel
theorem d_prog_47_method_2_code_32 : decode prog_47_method_2_code 32 = .ok (.ireturn, 1) := by decide +kernel
def Qrm_lc (Z : State) (pts : Int32) (ls : Int32) (h0 : Heap) (n0 : Nat) (v_ : Option Value) (h_ : Heap) (L_ : List Loc) : Prop := ∃ (r : Int32), v_ = some (.int r) ∧ Fr n0 L_ ∧ h_ = h0 ∧ own_LC pts.toInt ls.toInt r.toInt
theorem ef_rm_lc (m : MethodId) (x0 : Int32) (x1 : Int32) : entryFrame m #[(.int x0), (.int x1)] 5 = mkF m 0 #[.val (.int x0), .val (.int x1), .unset, .unset, .unset] [] := by first | (simp [entryFrame, mkF, argsToLocals, Value.category]; done) | rfl
theorem pn_com_example_pointcell_pointcell_TreeShape : plainName "com/example/pointcell/pointcell/TreeShape" = true := by first | (simp [plainName, overriddenIn]; done) | decide +kernel
set_option maxRecDepth 65536 in
set_option maxHeartbeats 40000000 in
theorem rm_lc (l : Launch) (Z : State) (aZ : Array Value) (hw : ∀ d ∈ tables_1, d.before aZ Z = true) (ws : List Jvm.Cond) (pts : Int32) (ls : Int32) (h0 : Heap) (n0 : Nat) (Z0 : n0 ≤ h0.size) (h1 : 1 ≤ ls.toInt) (h2 : ls.toInt = 1 → pts.toInt ≤ 1073741824) :
    MetFree l (⟨"com/example/pointcell/pointcell/TreeShape", "leafCount", "(II)I"⟩ : MethodName) (head1 (Jvm.Cond.code (⟨"com/example/pointcell/pointcell/TreeShape", "leafCount", "(II)I"⟩ : MethodName) prog_47_method_2_code 5 (some .int) :: ws) ({ frames := 0, cells := 0, slots := 0, locals := 0 } : Room)) (fun a_ U_ => a_ = #[(.int pts), (.int ls)] ∧ Z.Warmed39 U_.vm ∧ U_.heap = h0) (fun _ _ _ _ _ => True) (fun _ U_ o_ U2_ => ∃ v_ L_, o_ = .returned v_ ∧ Qrm_lc Z pts ls h0 n0 v_ U2_.heap L_ ∧ FrameEnd U_ o_ U2_ L_ ({ frames := 0, cells := 0, slots := 0, locals := 0 } : Room).cells ({ frames := 0, cells := 0, slots := 0, locals := 0 } : Room).slots) := by
  refine MetFree.of_bodySF (plainFor_of_name pn_com_example_pointcell_pointcell_TreeShape) hisR ?_
  intro p e s m args below meth cO s₁ Bd hml0 hP hK
  obtain ⟨rfl, hZW, hh⟩ := hP
  have hEX := Bd.exec
  have hBY := Bd.bytes
  have hMX : cO.maxLocals = 5 := hml0
  have hOW : s.vm.findClass "com/example/pointcell/pointcell/TreeShape" = some m.cls := findClass_of_methodNamed Bd.named
  have hNM := (name_of_methodNamed Bd.named Bd.method).1
  have hLK := Bd.notSynchronized
  have hRT := Bd.returns
  have X0 : Stand p l e ({ frames := 0, cells := 0, slots := 0, locals := 0 } : Room) s m #[(.int pts), (.int ls)] below meth cO s₁ [] 0 0 := Stand.of_body Bd
  have e0 : s₁.heap = h0 := by rw [← hh, Bd.state]; rfl
  have N0 := Fr.nil n0
  have K0 : Keep h0 h0 [] := Keep.refl _ _
  show Done p e below s (Qrm_lc Z pts ls h0 n0) ({ frames := 0, cells := 0, slots := 0, locals := 0 } : Room).cells ({ frames := 0, cells := 0, slots := 0, locals := 0 } : Room).slots (s₁.setTop (entryFrame m #[(.int pts), (.int ls)] 5))
  refine Done.pre (fun t_ k_ => castTop (ef_rm_lc m pts ls) k_) ?_
  show Done _ _ _ _ _ _ _ (s₁.setTop (mkF m 0 #[Iv pts, Iv ls, Us, Us, Us] []))
  have sg_1 : ∀ tt_, Steps p.tables e below (s₁.setTop (mkF m 6 #[Iv pts, Iv ls, Lv (pts.toInt64), Zs, Iv (1 : Int32)] [])) tt_ → Steps p.tables e below (s₁.setTop (mkF m 0 #[Iv pts, Iv ls, Us, Us, Us] [])) tt_ := by
    intro tt_ kt_
    refine XS.iloadN X0.here hEX rfl (hb hBY d_prog_47_method_2_code_0) rfl ?_
    show Steps p.tables e below (s₁.setTop (mkF m 1 #[Iv pts, Iv ls, Us, Us, Us] [(.int pts)])) tt_
    refine XS.i2l X0.here hEX rfl (hb hBY d_prog_47_method_2_code_1) rfl ?_
    show Steps p.tables e below (s₁.setTop (mkF m 2 #[Iv pts, Iv ls, Us, Us, Us] [(.long (pts.toInt64))])) tt_
    refine XS.lstoreN X0.here hEX rfl (hb hBY d_prog_47_method_2_code_2) rfl (l' := #[Iv pts, Iv ls, Lv (pts.toInt64), Zs, Us]) rfl ?_
    show Steps p.tables e below (s₁.setTop (mkF m 3 #[Iv pts, Iv ls, Lv (pts.toInt64), Zs, Us] [])) tt_
    refine XS.iconst X0.here hEX rfl (hb hBY d_prog_47_method_2_code_3) ?_
    show Steps p.tables e below (s₁.setTop (mkF m 4 #[Iv pts, Iv ls, Lv (pts.toInt64), Zs, Us] [(.int (1 : Int32))])) tt_
    refine XS.istore X0.here hEX rfl (hb hBY d_prog_47_method_2_code_4) rfl (l' := #[Iv pts, Iv ls, Lv (pts.toInt64), Zs, Iv (1 : Int32)]) rfl ?_
    exact kt_
  refine Done.pre sg_1 ?_
  have jn_2 : ∀ (kk : Nat) (sz : Int64) (rr : Int32) (hi : own_inv pts.toInt ls.toInt sz.toInt rr.toInt) (hkk : sz.toInt.toNat = kk), Done p e below s (Qrm_lc Z pts ls h0 n0) ({ frames := 0, cells := 0, slots := 0, locals := 0 } : Room).cells ({ frames := 0, cells := 0, slots := 0, locals := 0 } : Room).slots (s₁.setTop (mkF m 6 #[Iv pts, Iv ls, Lv sz, Zs, Iv rr] [])) := by
    intro kk
    induction kk using Nat.strongRecOn with
    | ind kk ih =>
      intro sz rr hi hkk
      show Done _ _ _ _ _ _ _ (s₁.setTop (mkF m 6 #[Iv pts, Iv ls, Lv sz, Zs, Iv rr] []))
      have sg_3 : ∀ tt_, Steps p.tables e below (s₁.setTop (mkF m 10 #[Iv pts, Iv ls, Lv sz, Zs, Iv rr] [(.int (lcmpW sz (ls.toInt64)))])) tt_ → Steps p.tables e below (s₁.setTop (mkF m 6 #[Iv pts, Iv ls, Lv sz, Zs, Iv rr] [])) tt_ := by
        intro tt_ kt_
        refine XS.lloadN X0.here hEX rfl (hb hBY d_prog_47_method_2_code_6) rfl ?_
        show Steps p.tables e below (s₁.setTop (mkF m 7 #[Iv pts, Iv ls, Lv sz, Zs, Iv rr] [(.long sz)])) tt_
        refine XS.iloadN X0.here hEX rfl (hb hBY d_prog_47_method_2_code_7) rfl ?_
        show Steps p.tables e below (s₁.setTop (mkF m 8 #[Iv pts, Iv ls, Lv sz, Zs, Iv rr] [(.int ls), (.long sz)])) tt_
        refine XS.i2l X0.here hEX rfl (hb hBY d_prog_47_method_2_code_8) rfl ?_
        show Steps p.tables e below (s₁.setTop (mkF m 9 #[Iv pts, Iv ls, Lv sz, Zs, Iv rr] [(.long (ls.toInt64)), (.long sz)])) tt_
        refine XS.lcmp X0.here hEX rfl (hb hBY d_prog_47_method_2_code_9) rfl ?_
        exact kt_
      refine Done.pre sg_3 ?_
      by_cases hc10 : (ls.toInt64) < sz
      · skip
        have sg_4 : ∀ tt_, Steps p.tables e below (s₁.setTop (mkF m 6 #[Iv pts, Iv ls, Lv ((sz + (1 : Int64)) / (2 : Int64)), Zs, Iv (rr * (2 : Int32))] [])) tt_ → Steps p.tables e below (s₁.setTop (mkF m 10 #[Iv pts, Iv ls, Lv sz, Zs, Iv rr] [(.int (lcmpW sz (ls.toInt64)))])) tt_ := by
          intro tt_ kt_
          refine XS.ifNo X0.here hEX rfl (hb hBY d_prog_47_method_2_code_10) rfl ((if0 _ _).trans (tlt ((lw_gt _ _).mpr hc10)).2.2.2) ?_
          show Steps p.tables e below (s₁.setTop (mkF m 13 #[Iv pts, Iv ls, Lv sz, Zs, Iv rr] [])) tt_
          refine XS.lloadN X0.here hEX rfl (hb hBY d_prog_47_method_2_code_13) rfl ?_
          show Steps p.tables e below (s₁.setTop (mkF m 14 #[Iv pts, Iv ls, Lv sz, Zs, Iv rr] [(.long sz)])) tt_
          refine XS.lconst X0.here hEX rfl (hb hBY d_prog_47_method_2_code_14) ?_
          show Steps p.tables e below (s₁.setTop (mkF m 15 #[Iv pts, Iv ls, Lv sz, Zs, Iv rr] [(.long (1 : Int64)), (.long sz)])) tt_
          refine XS.ladd X0.here hEX rfl (hb hBY d_prog_47_method_2_code_15) rfl ?_
          show Steps p.tables e below (s₁.setTop (mkF m 16 #[Iv pts, Iv ls, Lv sz, Zs, Iv rr] [(.long (sz + (1 : Int64)))])) tt_
          refine X0.ldc2Long hEX hOW (mvT hZW (hw _ (List.mem_of_getElem? (i := 10) rfl))) (g := (mkF m 16 #[Iv pts, Iv ls, Lv sz, Zs, Iv rr] [(.long (sz + (1 : Int64)))])) rfl (hb hBY d_prog_47_method_2_code_16) _ ?_
          show Steps p.tables e below (s₁.setTop (mkF m 19 #[Iv pts, Iv ls, Lv sz, Zs, Iv rr] [(.long (2 : Int64)), (.long (sz + (1 : Int64)))])) tt_
          refine XS.ldiv X0.here hEX rfl (hb hBY d_prog_47_method_2_code_19) rfl (by decide) ?_
          show Steps p.tables e below (s₁.setTop (mkF m 20 #[Iv pts, Iv ls, Lv sz, Zs, Iv rr] [(.long ((sz + (1 : Int64)) / (2 : Int64)))])) tt_
          refine XS.lstoreN X0.here hEX rfl (hb hBY d_prog_47_method_2_code_20) rfl (l' := #[Iv pts, Iv ls, Lv ((sz + (1 : Int64)) / (2 : Int64)), Zs, Iv rr]) rfl ?_
          show Steps p.tables e below (s₁.setTop (mkF m 21 #[Iv pts, Iv ls, Lv ((sz + (1 : Int64)) / (2 : Int64)), Zs, Iv rr] [])) tt_
          refine XS.iload X0.here hEX rfl (hb hBY d_prog_47_method_2_code_21) rfl ?_
          show Steps p.tables e below (s₁.setTop (mkF m 23 #[Iv pts, Iv ls, Lv ((sz + (1 : Int64)) / (2 : Int64)), Zs, Iv rr] [(.int rr)])) tt_
          refine XS.iconst X0.here hEX rfl (hb hBY d_prog_47_method_2_code_23) ?_
          show Steps p.tables e below (s₁.setTop (mkF m 24 #[Iv pts, Iv ls, Lv ((sz + (1 : Int64)) / (2 : Int64)), Zs, Iv rr] [(.int (2 : Int32)), (.int rr)])) tt_
          refine XS.imul X0.here hEX rfl (hb hBY d_prog_47_method_2_code_24) rfl ?_
          show Steps p.tables e below (s₁.setTop (mkF m 25 #[Iv pts, Iv ls, Lv ((sz + (1 : Int64)) / (2 : Int64)), Zs, Iv rr] [(.int (rr * (2 : Int32)))])) tt_
          refine XS.istore X0.here hEX rfl (hb hBY d_prog_47_method_2_code_25) rfl (l' := #[Iv pts, Iv ls, Lv ((sz + (1 : Int64)) / (2 : Int64)), Zs, Iv (rr * (2 : Int32))]) rfl ?_
          show Steps p.tables e below (s₁.setTop (mkF m 27 #[Iv pts, Iv ls, Lv ((sz + (1 : Int64)) / (2 : Int64)), Zs, Iv (rr * (2 : Int32))] [])) tt_
          refine XS.goto X0.here hEX rfl (pc0 := 27) (pc' := 6) rfl (hb hBY d_prog_47_method_2_code_27) (by decide) (by decide) ?_
          exact kt_
        refine Done.pre sg_4 ?_
        exact ih _ (own_dec sz kk (own_turn pts ls rr sz hi h1 h2 hc10).2.1 (own_turn pts ls rr sz hi h1 h2 hc10).2.2 hkk) (((sz + (1 : Int64)) / (2 : Int64))) ((rr * (2 : Int32))) (by first | exact (own_turn pts ls rr sz hi h1 h2 hc10).1 | exact own_init pts ls) rfl
      · skip
        have sg_5 : ∀ tt_, Steps p.tables e below (s₁.setTop (mkF m 32 #[Iv pts, Iv ls, Lv sz, Zs, Iv rr] [(.int rr)])) tt_ → Steps p.tables e below (s₁.setTop (mkF m 10 #[Iv pts, Iv ls, Lv sz, Zs, Iv rr] [(.int (lcmpW sz (ls.toInt64)))])) tt_ := by
          intro tt_ kt_
          refine XS.ifYes X0.here hEX rfl (pc0 := 10) (pc' := 30) rfl (hb hBY d_prog_47_method_2_code_10) rfl ((if0 _ _).trans (flt (fun q => hc10 ((lw_gt _ _).mp q))).2.2.2) (by decide) (by decide) ?_
          show Steps p.tables e below (s₁.setTop (mkF m 30 #[Iv pts, Iv ls, Lv sz, Zs, Iv rr] [])) tt_
          refine XS.iload X0.here hEX rfl (hb hBY d_prog_47_method_2_code_30) rfl ?_
          exact kt_
        refine Done.pre sg_5 ?_
        exact Done.retI X0 hEX hLK hRT (hb hBY d_prog_47_method_2_code_32) (by rw [e0]; exact ⟨rr, rfl, N0, rfl, (own_out pts ls rr sz hi hc10)⟩) (by decide) (by decide)
  show Done _ _ _ _ _ _ _ (s₁.setTop (mkF m 6 #[Iv pts, Iv ls, Lv (pts.toInt64), Zs, Iv (1 : Int32)] []))
  exact jn_2 _ ((pts.toInt64)) ((1 : Int32)) (by first | exact (own_turn pts ls rr sz hi h1 h2 hc10).1 | exact own_init pts ls) rfl
theorem pd__II_I_0 : parseMethodDescriptor "(II)I" = some ⟨[.int, .int], some .int⟩ := by decide +kernel
def Qrm0 (Z : State) (p1 : Int32) (p2 : Int32) (p3 : Int32) (h0 : Heap) (n0 : Nat) (v_ : Option Value) (h_ : Heap) (L_ : List Loc) : Prop := v_ = some (.int (1 : Int32)) ∧ Fr n0 L_ ∧ Keep h0 h_ []
theorem ef_rm0 (m : MethodId) (x0 : Int32) (x1 : Int32) (x2 : Int32) : entryFrame m #[(.int x0), (.int x1), (.int x2)] maxLocals = mkF m 0 #[.val (.int x0), .val (.int x1), .val (.int x2), .unset, .unset, .unset, .unset, .unset, .unset, .unset] [] := by first | (simp [entryFrame, mkF, argsToLocals, Value.category, maxLocals]; done) | rfl
theorem pn_com_example_pointcell_pointcell_TreeShapeLeafCountPinLaw : plainName "com/example/pointcell/pointcell/TreeShapeLeafCountPinLaw" = true := by first | (simp [plainName, overriddenIn]; done) | decide +kernel
set_option maxRecDepth 65536 in
set_option maxHeartbeats 40000000 in
theorem rm0 (l : Launch) (Z : State) (aZ : Array Value) (hw : ∀ d ∈ tables_1, d.before aZ Z = true) (ws : List Jvm.Cond) (p1 : Int32) (p2 : Int32) (p3 : Int32) (h0 : Heap) (n0 : Nat) (Z0 : n0 ≤ h0.size) :
    MetFree l x (head1 (Jvm.Cond.code x code maxLocals ret :: ws) room_1) (fun a_ U_ => a_ = #[(.int p1), (.int p2), (.int p3)] ∧ Z.Warmed39 U_.vm ∧ U_.heap = h0) (fun _ _ _ _ _ => True) (fun _ U_ o_ U2_ => ∃ v_ L_, o_ = .returned v_ ∧ Qrm0 Z p1 p2 p3 h0 n0 v_ U2_.heap L_ ∧ FrameEnd U_ o_ U2_ L_ room_1.cells room_1.slots) := by
  refine MetFree.of_bodySF (plainFor_of_name pn_com_example_pointcell_pointcell_TreeShapeLeafCountPinLaw) hisR ?_
  intro p e s m args below meth cO s₁ Bd hml0 hP hK
  obtain ⟨rfl, hZW, hh⟩ := hP
  have hEX := Bd.exec
  have hBY := Bd.bytes
  have hMX : cO.maxLocals = 10 := hml0
  have hOW : s.vm.findClass "com/example/pointcell/pointcell/TreeShapeLeafCountPinLaw" = some m.cls := findClass_of_methodNamed Bd.named
  have hNM := (name_of_methodNamed Bd.named Bd.method).1
  have hLK := Bd.notSynchronized
  have hRT := Bd.returns
  have X0 : Stand p l e room_1 s m #[(.int p1), (.int p2), (.int p3)] below meth cO s₁ [] 0 0 := Stand.of_body Bd
  have e0 : s₁.heap = h0 := by rw [← hh, Bd.state]; rfl
  have N0 := Fr.nil n0
  have K0 : Keep h0 h0 [] := Keep.refl _ _
  show Done p e below s (Qrm0 Z p1 p2 p3 h0 n0) room_1.cells room_1.slots (s₁.setTop (entryFrame m #[(.int p1), (.int p2), (.int p3)] maxLocals))
  refine Done.pre (fun t_ k_ => castTop (ef_rm0 m p1 p2 p3) k_) ?_
  show Done _ _ _ _ _ _ _ (s₁.setTop (mkF m 0 #[Iv p1, Iv p2, Iv p3, Us, Us, Us, Us, Us, Us, Us] []))
  have jn_1 : ∀ (T_2 : State) (h_3 : Heap) (L_4 : List Loc) (X_5 : Stand p l e room_1 s m #[(.int p1), (.int p2), (.int p3)] below meth cO T_2 L_4 0 0) (e_6 : T_2.heap = h_3) (N_7 : Fr n0 L_4) (K__8 : Keep h0 h_3 []) (ls : Int32) (hls : 1 ≤ ls.toInt), Done p e below s (Qrm0 Z p1 p2 p3 h0 n0) room_1.cells room_1.slots (T_2.setTop (mkF m 23 #[Iv p1, Iv p2, Iv p3, Us, Us, Us, Us, Us, Us, Us] [(.int ls)])) := by
    intro T_2 h_3 L_4 X_5 e_6 N_7 K__8 ls hls
    show Done _ _ _ _ _ _ _ (T_2.setTop (mkF m 23 #[Iv p1, Iv p2, Iv p3, Us, Us, Us, Us, Us, Us, Us] [(.int ls)]))
    have sg_9 : ∀ tt_, Steps p.tables e below (T_2.setTop (mkF m 27 #[Iv p1, Iv p2, Iv p3, Iv ls, Iv p1, Us, Us, Us, Us, Us] [])) tt_ → Steps p.tables e below (T_2.setTop (mkF m 23 #[Iv p1, Iv p2, Iv p3, Us, Us, Us, Us, Us, Us, Us] [(.int ls)])) tt_ := by
      intro tt_ kt_
      refine XS.istoreN X_5.here hEX rfl (hb hBY at_23) rfl (l' := #[Iv p1, Iv p2, Iv p3, Iv ls, Us, Us, Us, Us, Us, Us]) rfl ?_
      show Steps p.tables e below (T_2.setTop (mkF m 24 #[Iv p1, Iv p2, Iv p3, Iv ls, Us, Us, Us, Us, Us, Us] [])) tt_
      refine XS.iloadN X_5.here hEX rfl (hb hBY at_24) rfl ?_
      show Steps p.tables e below (T_2.setTop (mkF m 25 #[Iv p1, Iv p2, Iv p3, Iv ls, Us, Us, Us, Us, Us, Us] [(.int p1)])) tt_
      refine XS.istore X_5.here hEX rfl (hb hBY at_25) rfl (l' := #[Iv p1, Iv p2, Iv p3, Iv ls, Iv p1, Us, Us, Us, Us, Us]) rfl ?_
      exact kt_
    refine Done.pre sg_9 ?_
    have jn_10 : ∀ (h2 : ls.toInt = 1 → p1.toInt ≤ 1073741824), Done p e below s (Qrm0 Z p1 p2 p3 h0 n0) room_1.cells room_1.slots (T_2.setTop (mkF m 41 #[Iv p1, Iv p2, Iv p3, Iv ls, Iv p1, Us, Us, Us, Us, Us] [])) := by
      intro h2
      show Done _ _ _ _ _ _ _ (T_2.setTop (mkF m 41 #[Iv p1, Iv p2, Iv p3, Iv ls, Iv p1, Us, Us, Us, Us, Us] []))
      have sg_11 : ∀ tt_, Steps p.tables e below (T_2.setTop (mkF m 44 #[Iv p1, Iv p2, Iv p3, Iv ls, Iv p1, Us, Us, Us, Us, Us] [(.int ls), (.int p1)])) tt_ → Steps p.tables e below (T_2.setTop (mkF m 41 #[Iv p1, Iv p2, Iv p3, Iv ls, Iv p1, Us, Us, Us, Us, Us] [])) tt_ := by
        intro tt_ kt_
        refine XS.iload X_5.here hEX rfl (hb hBY at_41) rfl ?_
        show Steps p.tables e below (T_2.setTop (mkF m 43 #[Iv p1, Iv p2, Iv p3, Iv ls, Iv p1, Us, Us, Us, Us, Us] [(.int p1)])) tt_
        refine XS.iloadN X_5.here hEX rfl (hb hBY at_43) rfl ?_
        exact kt_
      refine Done.pre sg_11 ?_
      obtain ⟨_, _, ⟨T_12, L_12, k_12, n_12⟩, -, X_12, ⟨Lc_12, hQ_12, l_12, y_12, z_12⟩, st_12⟩ := Jvm.LawKit.callS X_5 hEX (y := (⟨"com/example/pointcell/pointcell/TreeShape", "leafCount", "(II)I"⟩ : MethodName)) hOW (mvT hZW (hw _ (List.mem_of_getElem? (i := 5) rfl))) (mvT hZW (hw _ (List.mem_of_getElem? (i := 6) rfl))) (mvT hZW (hw _ (List.mem_of_getElem? (i := 7) rfl))) (mvT hZW (hw _ (List.mem_of_getElem? (i := 8) rfl))) (by decide) (backOf (W := 0) (rm_lc l Z aZ hw [] p1 ls h_3 n0 (Nat.le_trans Z0 K__8.1) hls h2) hZW (hw _ (List.mem_of_getElem? (i := 8) rfl)) (hw _ (List.mem_of_getElem? (i := 7) rfl)) (by decide) (by decide)) (g := (mkF m 44 #[Iv p1, Iv p2, Iv p3, Iv ls, Iv p1, Us, Us, Us, Us, Us] [(.int ls), (.int p1)])) rfl (by rw [hMX]; rfl) (argsL := [(.int p1), (.int ls)]) (rest := []) (lenOf pd__II_I_0 rfl) rfl (by show 2 * 0 + _ ≤ _; exact Nat.le_of_eq rfl) (hb hBY at_44) (fun _ _ => ⟨rfl, e_6, (by decide : 0 + 0 ≤ _), (by decide : 0 + 0 ≤ _)⟩)
      dsimp only [Pt.U, Pt.locs, Pt.cells, Pt.slots] at X_12 l_12 y_12 z_12 st_12 hQ_12
      subst l_12 y_12 z_12
      obtain ⟨r, rfl, N_12q, e_12, hq_12_0⟩ := hQ_12
      have N_12 := Fr.app N_7 N_12q
      refine Done.pre (fun _ k_ => st_12 _ k_) ?_
      show Done _ _ _ _ _ _ _ (T_12.setTop (mkF m 47 #[Iv p1, Iv p2, Iv p3, Iv ls, Iv p1, Us, Us, Us, Us, Us] [(.int r)]))
      have hr := hq_12_0
      have sg_13 : ∀ tt_, Steps p.tables e below (T_12.setTop (mkF m 101 #[Iv p1, Iv p2, Iv p3, Iv ls, Iv p1, Iv r, Lv (r.toInt64), Zs, Us, Us] [(.int (1 : Int32)), (.int r)])) tt_ → Steps p.tables e below (T_12.setTop (mkF m 47 #[Iv p1, Iv p2, Iv p3, Iv ls, Iv p1, Us, Us, Us, Us, Us] [(.int r)])) tt_ := by
        intro tt_ kt_
        refine XS.istore X_12.here hEX rfl (hb hBY at_47) rfl (l' := #[Iv p1, Iv p2, Iv p3, Iv ls, Iv p1, Iv r, Us, Us, Us, Us]) rfl ?_
        show Steps p.tables e below (T_12.setTop (mkF m 49 #[Iv p1, Iv p2, Iv p3, Iv ls, Iv p1, Iv r, Us, Us, Us, Us] [])) tt_
        refine XS.iload X_12.here hEX rfl (hb hBY at_49) rfl ?_
        show Steps p.tables e below (T_12.setTop (mkF m 51 #[Iv p1, Iv p2, Iv p3, Iv ls, Iv p1, Iv r, Us, Us, Us, Us] [(.int r)])) tt_
        refine XS.iconst X_12.here hEX rfl (hb hBY at_51) ?_
        show Steps p.tables e below (T_12.setTop (mkF m 52 #[Iv p1, Iv p2, Iv p3, Iv ls, Iv p1, Iv r, Us, Us, Us, Us] [(.int (1 : Int32)), (.int r)])) tt_
        refine XS.icmpNo X_12.here hEX rfl (hb hBY at_52) rfl (flt (own_l52 p1 ls r hr : ¬ (r < (1 : Int32)))).1 ?_
        show Steps p.tables e below (T_12.setTop (mkF m 55 #[Iv p1, Iv p2, Iv p3, Iv ls, Iv p1, Iv r, Us, Us, Us, Us] [])) tt_
        refine XS.iload X_12.here hEX rfl (hb hBY at_55) rfl ?_
        show Steps p.tables e below (T_12.setTop (mkF m 57 #[Iv p1, Iv p2, Iv p3, Iv ls, Iv p1, Iv r, Us, Us, Us, Us] [(.int r)])) tt_
        refine X_12.ldcInt hEX hOW (mvT hZW (hw _ (List.mem_of_getElem? (i := 9) rfl))) (g := (mkF m 57 #[Iv p1, Iv p2, Iv p3, Iv ls, Iv p1, Iv r, Us, Us, Us, Us] [(.int r)])) rfl (hb hBY at_57) _ ?_
        show Steps p.tables e below (T_12.setTop (mkF m 59 #[Iv p1, Iv p2, Iv p3, Iv ls, Iv p1, Iv r, Us, Us, Us, Us] [(.int (1073741824 : Int32)), (.int r)])) tt_
        refine XS.icmpNo X_12.here hEX rfl (hb hBY at_59) rfl (flt (own_l59 p1 ls r hr : ¬ ((1073741824 : Int32) < r))).2.2.1 ?_
        show Steps p.tables e below (T_12.setTop (mkF m 62 #[Iv p1, Iv p2, Iv p3, Iv ls, Iv p1, Iv r, Us, Us, Us, Us] [])) tt_
        refine XS.iload X_12.here hEX rfl (hb hBY at_62) rfl ?_
        show Steps p.tables e below (T_12.setTop (mkF m 64 #[Iv p1, Iv p2, Iv p3, Iv ls, Iv p1, Iv r, Us, Us, Us, Us] [(.int r)])) tt_
        refine XS.iload X_12.here hEX rfl (hb hBY at_64) rfl ?_
        show Steps p.tables e below (T_12.setTop (mkF m 66 #[Iv p1, Iv p2, Iv p3, Iv ls, Iv p1, Iv r, Us, Us, Us, Us] [(.int r), (.int r)])) tt_
        refine XS.iconst X_12.here hEX rfl (hb hBY at_66) ?_
        show Steps p.tables e below (T_12.setTop (mkF m 67 #[Iv p1, Iv p2, Iv p3, Iv ls, Iv p1, Iv r, Us, Us, Us, Us] [(.int (1 : Int32)), (.int r), (.int r)])) tt_
        refine XS.isub X_12.here hEX rfl (hb hBY at_67) rfl ?_
        show Steps p.tables e below (T_12.setTop (mkF m 68 #[Iv p1, Iv p2, Iv p3, Iv ls, Iv p1, Iv r, Us, Us, Us, Us] [(.int (r - (1 : Int32))), (.int r)])) tt_
        refine XS.iand X_12.here hEX rfl (hb hBY at_68) rfl ?_
        show Steps p.tables e below (T_12.setTop (mkF m 69 #[Iv p1, Iv p2, Iv p3, Iv ls, Iv p1, Iv r, Us, Us, Us, Us] [(.int (r &&& (r - (1 : Int32))))])) tt_
        refine XS.ifYes X_12.here hEX rfl (pc0 := 69) (pc' := 74) rfl (hb hBY at_69) rfl ((if0 _ _).trans (teq (own_isp_and r hr.1 : (r &&& (r - (1 : Int32))) = (0 : Int32))).1) (by decide) (by decide) ?_
        show Steps p.tables e below (T_12.setTop (mkF m 74 #[Iv p1, Iv p2, Iv p3, Iv ls, Iv p1, Iv r, Us, Us, Us, Us] [])) tt_
        refine XS.iload X_12.here hEX rfl (hb hBY at_74) rfl ?_
        show Steps p.tables e below (T_12.setTop (mkF m 76 #[Iv p1, Iv p2, Iv p3, Iv ls, Iv p1, Iv r, Us, Us, Us, Us] [(.int r)])) tt_
        refine XS.i2l X_12.here hEX rfl (hb hBY at_76) rfl ?_
        show Steps p.tables e below (T_12.setTop (mkF m 77 #[Iv p1, Iv p2, Iv p3, Iv ls, Iv p1, Iv r, Us, Us, Us, Us] [(.long (r.toInt64))])) tt_
        refine XS.lstore X_12.here hEX rfl (hb hBY at_77) rfl (l' := #[Iv p1, Iv p2, Iv p3, Iv ls, Iv p1, Iv r, Lv (r.toInt64), Zs, Us, Us]) rfl ?_
        show Steps p.tables e below (T_12.setTop (mkF m 79 #[Iv p1, Iv p2, Iv p3, Iv ls, Iv p1, Iv r, Lv (r.toInt64), Zs, Us, Us] [])) tt_
        refine XS.iload X_12.here hEX rfl (hb hBY at_79) rfl ?_
        show Steps p.tables e below (T_12.setTop (mkF m 81 #[Iv p1, Iv p2, Iv p3, Iv ls, Iv p1, Iv r, Lv (r.toInt64), Zs, Us, Us] [(.int p1)])) tt_
        refine XS.i2l X_12.here hEX rfl (hb hBY at_81) rfl ?_
        show Steps p.tables e below (T_12.setTop (mkF m 82 #[Iv p1, Iv p2, Iv p3, Iv ls, Iv p1, Iv r, Lv (r.toInt64), Zs, Us, Us] [(.long (p1.toInt64))])) tt_
        refine XS.lload X_12.here hEX rfl (hb hBY at_82) rfl ?_
        show Steps p.tables e below (T_12.setTop (mkF m 84 #[Iv p1, Iv p2, Iv p3, Iv ls, Iv p1, Iv r, Lv (r.toInt64), Zs, Us, Us] [(.long (r.toInt64)), (.long (p1.toInt64))])) tt_
        refine XS.ladd X_12.here hEX rfl (hb hBY at_84) rfl ?_
        show Steps p.tables e below (T_12.setTop (mkF m 85 #[Iv p1, Iv p2, Iv p3, Iv ls, Iv p1, Iv r, Lv (r.toInt64), Zs, Us, Us] [(.long ((p1.toInt64) + (r.toInt64)))])) tt_
        refine XS.lconst X_12.here hEX rfl (hb hBY at_85) ?_
        show Steps p.tables e below (T_12.setTop (mkF m 86 #[Iv p1, Iv p2, Iv p3, Iv ls, Iv p1, Iv r, Lv (r.toInt64), Zs, Us, Us] [(.long (1 : Int64)), (.long ((p1.toInt64) + (r.toInt64)))])) tt_
        refine XS.lsub X_12.here hEX rfl (hb hBY at_86) rfl ?_
        show Steps p.tables e below (T_12.setTop (mkF m 87 #[Iv p1, Iv p2, Iv p3, Iv ls, Iv p1, Iv r, Lv (r.toInt64), Zs, Us, Us] [(.long (((p1.toInt64) + (r.toInt64)) - (1 : Int64)))])) tt_
        refine XS.lload X_12.here hEX rfl (hb hBY at_87) rfl ?_
        show Steps p.tables e below (T_12.setTop (mkF m 89 #[Iv p1, Iv p2, Iv p3, Iv ls, Iv p1, Iv r, Lv (r.toInt64), Zs, Us, Us] [(.long (r.toInt64)), (.long (((p1.toInt64) + (r.toInt64)) - (1 : Int64)))])) tt_
        refine XS.ldiv X_12.here hEX rfl (hb hBY at_89) rfl (own_nz1 p1 ls r hr) ?_
        show Steps p.tables e below (T_12.setTop (mkF m 90 #[Iv p1, Iv p2, Iv p3, Iv ls, Iv p1, Iv r, Lv (r.toInt64), Zs, Us, Us] [(.long ((((p1.toInt64) + (r.toInt64)) - (1 : Int64)) / (r.toInt64)))])) tt_
        refine XS.iloadN X_12.here hEX rfl (hb hBY at_90) rfl ?_
        show Steps p.tables e below (T_12.setTop (mkF m 91 #[Iv p1, Iv p2, Iv p3, Iv ls, Iv p1, Iv r, Lv (r.toInt64), Zs, Us, Us] [(.int ls), (.long ((((p1.toInt64) + (r.toInt64)) - (1 : Int64)) / (r.toInt64)))])) tt_
        refine XS.i2l X_12.here hEX rfl (hb hBY at_91) rfl ?_
        show Steps p.tables e below (T_12.setTop (mkF m 92 #[Iv p1, Iv p2, Iv p3, Iv ls, Iv p1, Iv r, Lv (r.toInt64), Zs, Us, Us] [(.long (ls.toInt64)), (.long ((((p1.toInt64) + (r.toInt64)) - (1 : Int64)) / (r.toInt64)))])) tt_
        refine XS.lcmp X_12.here hEX rfl (hb hBY at_92) rfl ?_
        show Steps p.tables e below (T_12.setTop (mkF m 93 #[Iv p1, Iv p2, Iv p3, Iv ls, Iv p1, Iv r, Lv (r.toInt64), Zs, Us, Us] [(.int (lcmpW ((((p1.toInt64) + (r.toInt64)) - (1 : Int64)) / (r.toInt64)) (ls.toInt64)))])) tt_
        refine XS.ifYes X_12.here hEX rfl (pc0 := 93) (pc' := 98) rfl (hb hBY at_93) rfl ((if0 _ _).trans (flt (fun q => (own_l93 p1 ls r hr hls : ¬ ((ls.toInt64) < ((((p1.toInt64) + (r.toInt64)) - (1 : Int64)) / (r.toInt64)))) ((lw_gt _ _).mp q))).2.2.2) (by decide) (by decide) ?_
        show Steps p.tables e below (T_12.setTop (mkF m 98 #[Iv p1, Iv p2, Iv p3, Iv ls, Iv p1, Iv r, Lv (r.toInt64), Zs, Us, Us] [])) tt_
        refine XS.iload X_12.here hEX rfl (hb hBY at_98) rfl ?_
        show Steps p.tables e below (T_12.setTop (mkF m 100 #[Iv p1, Iv p2, Iv p3, Iv ls, Iv p1, Iv r, Lv (r.toInt64), Zs, Us, Us] [(.int r)])) tt_
        refine XS.iconst X_12.here hEX rfl (hb hBY at_100) ?_
        exact kt_
      refine Done.pre sg_13 ?_
      by_cases hc101 : r = (1 : Int32)
      · skip
        have sg_14 : ∀ tt_, Steps p.tables e below (T_12.setTop (mkF m 105 #[Iv p1, Iv p2, Iv p3, Iv ls, Iv p1, Iv r, Lv (r.toInt64), Zs, Us, Us] [(.int (1 : Int32))])) tt_ → Steps p.tables e below (T_12.setTop (mkF m 101 #[Iv p1, Iv p2, Iv p3, Iv ls, Iv p1, Iv r, Lv (r.toInt64), Zs, Us, Us] [(.int (1 : Int32)), (.int r)])) tt_ := by
          intro tt_ kt_
          refine XS.icmpNo X_12.here hEX rfl (hb hBY at_101) rfl (teq hc101).2 ?_
          show Steps p.tables e below (T_12.setTop (mkF m 104 #[Iv p1, Iv p2, Iv p3, Iv ls, Iv p1, Iv r, Lv (r.toInt64), Zs, Us, Us] [])) tt_
          refine XS.iconst X_12.here hEX rfl (hb hBY at_104) ?_
          exact kt_
        refine Done.pre sg_14 ?_
        exact Done.retN X_12 hEX hLK (t := .boolean) hRT (by simp) (hb hBY at_105) (by rw [e_12]; exact ⟨rfl, N_12, K__8⟩) (by decide) (by decide)
      · skip
        have sg_15 : ∀ tt_, Steps p.tables e below (T_12.setTop (mkF m 136 #[Iv p1, Iv p2, Iv p3, Iv ls, Iv p1, Iv r, Lv (r.toInt64), Zs, Lv ((r.toInt64) / (2 : Int64)), Zs] [(.int (1 : Int32))])) tt_ → Steps p.tables e below (T_12.setTop (mkF m 101 #[Iv p1, Iv p2, Iv p3, Iv ls, Iv p1, Iv r, Lv (r.toInt64), Zs, Us, Us] [(.int (1 : Int32)), (.int r)])) tt_ := by
          intro tt_ kt_
          refine XS.icmpYes X_12.here hEX rfl (pc0 := 101) (pc' := 106) rfl (hb hBY at_101) rfl (feq hc101).2 (by decide) (by decide) ?_
          show Steps p.tables e below (T_12.setTop (mkF m 106 #[Iv p1, Iv p2, Iv p3, Iv ls, Iv p1, Iv r, Lv (r.toInt64), Zs, Us, Us] [])) tt_
          refine XS.lload X_12.here hEX rfl (hb hBY at_106) rfl ?_
          show Steps p.tables e below (T_12.setTop (mkF m 108 #[Iv p1, Iv p2, Iv p3, Iv ls, Iv p1, Iv r, Lv (r.toInt64), Zs, Us, Us] [(.long (r.toInt64))])) tt_
          refine X_12.ldc2Long hEX hOW (mvT hZW (hw _ (List.mem_of_getElem? (i := 11) rfl))) (g := (mkF m 108 #[Iv p1, Iv p2, Iv p3, Iv ls, Iv p1, Iv r, Lv (r.toInt64), Zs, Us, Us] [(.long (r.toInt64))])) rfl (hb hBY at_108) _ ?_
          show Steps p.tables e below (T_12.setTop (mkF m 111 #[Iv p1, Iv p2, Iv p3, Iv ls, Iv p1, Iv r, Lv (r.toInt64), Zs, Us, Us] [(.long (2 : Int64)), (.long (r.toInt64))])) tt_
          refine XS.ldiv X_12.here hEX rfl (hb hBY at_111) rfl (by decide) ?_
          show Steps p.tables e below (T_12.setTop (mkF m 112 #[Iv p1, Iv p2, Iv p3, Iv ls, Iv p1, Iv r, Lv (r.toInt64), Zs, Us, Us] [(.long ((r.toInt64) / (2 : Int64)))])) tt_
          refine XS.lstore X_12.here hEX rfl (hb hBY at_112) rfl (l' := #[Iv p1, Iv p2, Iv p3, Iv ls, Iv p1, Iv r, Lv (r.toInt64), Zs, Lv ((r.toInt64) / (2 : Int64)), Zs]) rfl ?_
          show Steps p.tables e below (T_12.setTop (mkF m 114 #[Iv p1, Iv p2, Iv p3, Iv ls, Iv p1, Iv r, Lv (r.toInt64), Zs, Lv ((r.toInt64) / (2 : Int64)), Zs] [])) tt_
          refine XS.iload X_12.here hEX rfl (hb hBY at_114) rfl ?_
          show Steps p.tables e below (T_12.setTop (mkF m 116 #[Iv p1, Iv p2, Iv p3, Iv ls, Iv p1, Iv r, Lv (r.toInt64), Zs, Lv ((r.toInt64) / (2 : Int64)), Zs] [(.int p1)])) tt_
          refine XS.i2l X_12.here hEX rfl (hb hBY at_116) rfl ?_
          show Steps p.tables e below (T_12.setTop (mkF m 117 #[Iv p1, Iv p2, Iv p3, Iv ls, Iv p1, Iv r, Lv (r.toInt64), Zs, Lv ((r.toInt64) / (2 : Int64)), Zs] [(.long (p1.toInt64))])) tt_
          refine XS.lload X_12.here hEX rfl (hb hBY at_117) rfl ?_
          show Steps p.tables e below (T_12.setTop (mkF m 119 #[Iv p1, Iv p2, Iv p3, Iv ls, Iv p1, Iv r, Lv (r.toInt64), Zs, Lv ((r.toInt64) / (2 : Int64)), Zs] [(.long ((r.toInt64) / (2 : Int64))), (.long (p1.toInt64))])) tt_
          refine XS.ladd X_12.here hEX rfl (hb hBY at_119) rfl ?_
          show Steps p.tables e below (T_12.setTop (mkF m 120 #[Iv p1, Iv p2, Iv p3, Iv ls, Iv p1, Iv r, Lv (r.toInt64), Zs, Lv ((r.toInt64) / (2 : Int64)), Zs] [(.long ((p1.toInt64) + ((r.toInt64) / (2 : Int64))))])) tt_
          refine XS.lconst X_12.here hEX rfl (hb hBY at_120) ?_
          show Steps p.tables e below (T_12.setTop (mkF m 121 #[Iv p1, Iv p2, Iv p3, Iv ls, Iv p1, Iv r, Lv (r.toInt64), Zs, Lv ((r.toInt64) / (2 : Int64)), Zs] [(.long (1 : Int64)), (.long ((p1.toInt64) + ((r.toInt64) / (2 : Int64))))])) tt_
          refine XS.lsub X_12.here hEX rfl (hb hBY at_121) rfl ?_
          show Steps p.tables e below (T_12.setTop (mkF m 122 #[Iv p1, Iv p2, Iv p3, Iv ls, Iv p1, Iv r, Lv (r.toInt64), Zs, Lv ((r.toInt64) / (2 : Int64)), Zs] [(.long (((p1.toInt64) + ((r.toInt64) / (2 : Int64))) - (1 : Int64)))])) tt_
          refine XS.lload X_12.here hEX rfl (hb hBY at_122) rfl ?_
          show Steps p.tables e below (T_12.setTop (mkF m 124 #[Iv p1, Iv p2, Iv p3, Iv ls, Iv p1, Iv r, Lv (r.toInt64), Zs, Lv ((r.toInt64) / (2 : Int64)), Zs] [(.long ((r.toInt64) / (2 : Int64))), (.long (((p1.toInt64) + ((r.toInt64) / (2 : Int64))) - (1 : Int64)))])) tt_
          refine XS.ldiv X_12.here hEX rfl (hb hBY at_124) rfl (own_nz2 p1 ls r hr hc101) ?_
          show Steps p.tables e below (T_12.setTop (mkF m 125 #[Iv p1, Iv p2, Iv p3, Iv ls, Iv p1, Iv r, Lv (r.toInt64), Zs, Lv ((r.toInt64) / (2 : Int64)), Zs] [(.long ((((p1.toInt64) + ((r.toInt64) / (2 : Int64))) - (1 : Int64)) / ((r.toInt64) / (2 : Int64))))])) tt_
          refine XS.iloadN X_12.here hEX rfl (hb hBY at_125) rfl ?_
          show Steps p.tables e below (T_12.setTop (mkF m 126 #[Iv p1, Iv p2, Iv p3, Iv ls, Iv p1, Iv r, Lv (r.toInt64), Zs, Lv ((r.toInt64) / (2 : Int64)), Zs] [(.int ls), (.long ((((p1.toInt64) + ((r.toInt64) / (2 : Int64))) - (1 : Int64)) / ((r.toInt64) / (2 : Int64))))])) tt_
          refine XS.i2l X_12.here hEX rfl (hb hBY at_126) rfl ?_
          show Steps p.tables e below (T_12.setTop (mkF m 127 #[Iv p1, Iv p2, Iv p3, Iv ls, Iv p1, Iv r, Lv (r.toInt64), Zs, Lv ((r.toInt64) / (2 : Int64)), Zs] [(.long (ls.toInt64)), (.long ((((p1.toInt64) + ((r.toInt64) / (2 : Int64))) - (1 : Int64)) / ((r.toInt64) / (2 : Int64))))])) tt_
          refine XS.lcmp X_12.here hEX rfl (hb hBY at_127) rfl ?_
          show Steps p.tables e below (T_12.setTop (mkF m 128 #[Iv p1, Iv p2, Iv p3, Iv ls, Iv p1, Iv r, Lv (r.toInt64), Zs, Lv ((r.toInt64) / (2 : Int64)), Zs] [(.int (lcmpW ((((p1.toInt64) + ((r.toInt64) / (2 : Int64))) - (1 : Int64)) / ((r.toInt64) / (2 : Int64))) (ls.toInt64)))])) tt_
          refine XS.ifNo X_12.here hEX rfl (hb hBY at_128) rfl ((if0 _ _).trans (tlt ((lw_gt _ _).mpr (own_l128 p1 ls r hr hls hc101 : (ls.toInt64) < ((((p1.toInt64) + ((r.toInt64) / (2 : Int64))) - (1 : Int64)) / ((r.toInt64) / (2 : Int64)))))).2.2.2) ?_
          show Steps p.tables e below (T_12.setTop (mkF m 131 #[Iv p1, Iv p2, Iv p3, Iv ls, Iv p1, Iv r, Lv (r.toInt64), Zs, Lv ((r.toInt64) / (2 : Int64)), Zs] [])) tt_
          refine XS.iconst X_12.here hEX rfl (hb hBY at_131) ?_
          show Steps p.tables e below (T_12.setTop (mkF m 132 #[Iv p1, Iv p2, Iv p3, Iv ls, Iv p1, Iv r, Lv (r.toInt64), Zs, Lv ((r.toInt64) / (2 : Int64)), Zs] [(.int (1 : Int32))])) tt_
          refine XS.goto X_12.here hEX rfl (pc0 := 132) (pc' := 136) rfl (hb hBY at_132) (by decide) (by decide) ?_
          exact kt_
        refine Done.pre sg_15 ?_
        exact Done.retN X_12 hEX hLK (t := .boolean) hRT (by simp) (hb hBY at_136) (by rw [e_12]; exact ⟨rfl, N_12, K__8⟩) (by decide) (by decide)
    show Done _ _ _ _ _ _ _ (T_2.setTop (mkF m 27 #[Iv p1, Iv p2, Iv p3, Iv ls, Iv p1, Us, Us, Us, Us, Us] []))
    have sg_16 : ∀ tt_, Steps p.tables e below (T_2.setTop (mkF m 29 #[Iv p1, Iv p2, Iv p3, Iv ls, Iv p1, Us, Us, Us, Us, Us] [(.int (1 : Int32)), (.int ls)])) tt_ → Steps p.tables e below (T_2.setTop (mkF m 27 #[Iv p1, Iv p2, Iv p3, Iv ls, Iv p1, Us, Us, Us, Us, Us] [])) tt_ := by
      intro tt_ kt_
      refine XS.iloadN X_5.here hEX rfl (hb hBY at_27) rfl ?_
      show Steps p.tables e below (T_2.setTop (mkF m 28 #[Iv p1, Iv p2, Iv p3, Iv ls, Iv p1, Us, Us, Us, Us, Us] [(.int ls)])) tt_
      refine XS.iconst X_5.here hEX rfl (hb hBY at_28) ?_
      exact kt_
    refine Done.pre sg_16 ?_
    by_cases hc29 : ls = (1 : Int32)
    · skip
      have sg_17 : ∀ tt_, Steps p.tables e below (T_2.setTop (mkF m 36 #[Iv p1, Iv p2, Iv p3, Iv ls, Iv p1, Us, Us, Us, Us, Us] [(.int (1073741824 : Int32)), (.int p1)])) tt_ → Steps p.tables e below (T_2.setTop (mkF m 29 #[Iv p1, Iv p2, Iv p3, Iv ls, Iv p1, Us, Us, Us, Us, Us] [(.int (1 : Int32)), (.int ls)])) tt_ := by
        intro tt_ kt_
        refine XS.icmpNo X_5.here hEX rfl (hb hBY at_29) rfl (teq hc29).2 ?_
        show Steps p.tables e below (T_2.setTop (mkF m 32 #[Iv p1, Iv p2, Iv p3, Iv ls, Iv p1, Us, Us, Us, Us, Us] [])) tt_
        refine XS.iload X_5.here hEX rfl (hb hBY at_32) rfl ?_
        show Steps p.tables e below (T_2.setTop (mkF m 34 #[Iv p1, Iv p2, Iv p3, Iv ls, Iv p1, Us, Us, Us, Us, Us] [(.int p1)])) tt_
        refine X_5.ldcInt hEX hOW (mvT hZW (hw _ (List.mem_of_getElem? (i := 9) rfl))) (g := (mkF m 34 #[Iv p1, Iv p2, Iv p3, Iv ls, Iv p1, Us, Us, Us, Us, Us] [(.int p1)])) rfl (hb hBY at_34) _ ?_
        exact kt_
      refine Done.pre sg_17 ?_
      by_cases hc36 : (1073741824 : Int32) < p1
      · skip
        have sg_18 : ∀ tt_, Steps p.tables e below (T_2.setTop (mkF m 40 #[Iv p1, Iv p2, Iv p3, Iv ls, Iv p1, Us, Us, Us, Us, Us] [(.int (1 : Int32))])) tt_ → Steps p.tables e below (T_2.setTop (mkF m 36 #[Iv p1, Iv p2, Iv p3, Iv ls, Iv p1, Us, Us, Us, Us, Us] [(.int (1073741824 : Int32)), (.int p1)])) tt_ := by
          intro tt_ kt_
          refine XS.icmpNo X_5.here hEX rfl (hb hBY at_36) rfl (tlt hc36).2.2.2 ?_
          show Steps p.tables e below (T_2.setTop (mkF m 39 #[Iv p1, Iv p2, Iv p3, Iv ls, Iv p1, Us, Us, Us, Us, Us] [])) tt_
          refine XS.iconst X_5.here hEX rfl (hb hBY at_39) ?_
          exact kt_
        refine Done.pre sg_18 ?_
        exact Done.retN X_5 hEX hLK (t := .boolean) hRT (by simp) (hb hBY at_40) (by rw [e_6]; exact ⟨rfl, N_7, K__8⟩) (by decide) (by decide)
      · skip
        have sg_19 : ∀ tt_, Steps p.tables e below (T_2.setTop (mkF m 41 #[Iv p1, Iv p2, Iv p3, Iv ls, Iv p1, Us, Us, Us, Us, Us] [])) tt_ → Steps p.tables e below (T_2.setTop (mkF m 36 #[Iv p1, Iv p2, Iv p3, Iv ls, Iv p1, Us, Us, Us, Us, Us] [(.int (1073741824 : Int32)), (.int p1)])) tt_ := by
          intro tt_ kt_
          refine XS.icmpYes X_5.here hEX rfl (pc0 := 36) (pc' := 41) rfl (hb hBY at_36) rfl (flt hc36).2.2.2 (by decide) (by decide) ?_
          exact kt_
        refine Done.pre sg_19 ?_
        exact jn_10 (by first | exact own_h2a ls p1 hc29 | exact own_h2b ls p1 hc36)
    · skip
      have sg_20 : ∀ tt_, Steps p.tables e below (T_2.setTop (mkF m 41 #[Iv p1, Iv p2, Iv p3, Iv ls, Iv p1, Us, Us, Us, Us, Us] [])) tt_ → Steps p.tables e below (T_2.setTop (mkF m 29 #[Iv p1, Iv p2, Iv p3, Iv ls, Iv p1, Us, Us, Us, Us, Us] [(.int (1 : Int32)), (.int ls)])) tt_ := by
        intro tt_ kt_
        refine XS.icmpYes X_5.here hEX rfl (pc0 := 29) (pc' := 41) rfl (hb hBY at_29) rfl (feq hc29).2 (by decide) (by decide) ?_
        exact kt_
      refine Done.pre sg_20 ?_
      exact jn_10 (by first | exact own_h2a ls p1 hc29 | exact own_h2b ls p1 hc36)
  show Done _ _ _ _ _ _ _ (s₁.setTop (mkF m 0 #[Iv p1, Iv p2, Iv p3, Us, Us, Us, Us, Us, Us, Us] []))
  have sg_21 : ∀ tt_, Steps p.tables e below (s₁.setTop (mkF m 3 #[Iv p1, Iv p2, Iv p3, Us, Us, Us, Us, Us, Us, Us] [(.int (p3 &&& (1 : Int32)))])) tt_ → Steps p.tables e below (s₁.setTop (mkF m 0 #[Iv p1, Iv p2, Iv p3, Us, Us, Us, Us, Us, Us, Us] [])) tt_ := by
    intro tt_ kt_
    refine XS.iloadN X0.here hEX rfl (hb hBY at_0) rfl ?_
    show Steps p.tables e below (s₁.setTop (mkF m 1 #[Iv p1, Iv p2, Iv p3, Us, Us, Us, Us, Us, Us, Us] [(.int p3)])) tt_
    refine XS.iconst X0.here hEX rfl (hb hBY at_1) ?_
    show Steps p.tables e below (s₁.setTop (mkF m 2 #[Iv p1, Iv p2, Iv p3, Us, Us, Us, Us, Us, Us, Us] [(.int (1 : Int32)), (.int p3)])) tt_
    refine XS.iand X0.here hEX rfl (hb hBY at_2) rfl ?_
    exact kt_
  refine Done.pre sg_21 ?_
  by_cases hc3 : (p3 &&& (1 : Int32)) = (0 : Int32)
  · skip
    have sg_22 : ∀ tt_, Steps p.tables e below (s₁.setTop (mkF m 20 #[Iv p1, Iv p2, Iv p3, Us, Us, Us, Us, Us, Us, Us] [(.int (p2 &&& (2147483647 : Int32))), (.int (1 : Int32))])) tt_ → Steps p.tables e below (s₁.setTop (mkF m 3 #[Iv p1, Iv p2, Iv p3, Us, Us, Us, Us, Us, Us, Us] [(.int (p3 &&& (1 : Int32)))])) tt_ := by
      intro tt_ kt_
      refine XS.ifYes X0.here hEX rfl (pc0 := 3) (pc' := 15) rfl (hb hBY at_3) rfl ((if0 _ _).trans (teq hc3).1) (by decide) (by decide) ?_
      show Steps p.tables e below (s₁.setTop (mkF m 15 #[Iv p1, Iv p2, Iv p3, Us, Us, Us, Us, Us, Us, Us] [])) tt_
      refine XS.iconst X0.here hEX rfl (hb hBY at_15) ?_
      show Steps p.tables e below (s₁.setTop (mkF m 16 #[Iv p1, Iv p2, Iv p3, Us, Us, Us, Us, Us, Us, Us] [(.int (1 : Int32))])) tt_
      refine XS.iloadN X0.here hEX rfl (hb hBY at_16) rfl ?_
      show Steps p.tables e below (s₁.setTop (mkF m 17 #[Iv p1, Iv p2, Iv p3, Us, Us, Us, Us, Us, Us, Us] [(.int p2), (.int (1 : Int32))])) tt_
      refine X0.ldcInt hEX hOW (mvT hZW (hw _ (List.mem_of_getElem? (i := 0) rfl))) (g := (mkF m 17 #[Iv p1, Iv p2, Iv p3, Us, Us, Us, Us, Us, Us, Us] [(.int p2), (.int (1 : Int32))])) rfl (hb hBY at_17) _ ?_
      show Steps p.tables e below (s₁.setTop (mkF m 19 #[Iv p1, Iv p2, Iv p3, Us, Us, Us, Us, Us, Us, Us] [(.int (2147483647 : Int32)), (.int p2), (.int (1 : Int32))])) tt_
      refine XS.iand X0.here hEX rfl (hb hBY at_19) rfl ?_
      exact kt_
    refine Done.pre sg_22 ?_
    obtain ⟨_, _, ⟨T_23, L_23, k_23, n_23⟩, -, X_23, ⟨Lc_23, hQ_23, l_23, y_23, z_23⟩, st_23⟩ := Jvm.LawKit.callS X0 hEX (y := (⟨"java/lang/Math", "max", "(II)I"⟩ : MethodName)) hOW (mvT hZW (hw _ (List.mem_of_getElem? (i := 1) rfl))) (mvT hZW (hw _ (List.mem_of_getElem? (i := 2) rfl))) (mvT hZW (hw _ (List.mem_of_getElem? (i := 3) rfl))) (mvT hZW (hw _ (List.mem_of_getElem? (i := 4) rfl))) (by decide) (backOf (W := 0) (rm_max l Z aZ hw [] (1 : Int32) (p2 &&& (2147483647 : Int32)) h0 n0 (Nat.le_trans Z0 K0.1) ) hZW (hw _ (List.mem_of_getElem? (i := 4) rfl)) (hw _ (List.mem_of_getElem? (i := 3) rfl)) (by decide) (by decide)) (g := (mkF m 20 #[Iv p1, Iv p2, Iv p3, Us, Us, Us, Us, Us, Us, Us] [(.int (p2 &&& (2147483647 : Int32))), (.int (1 : Int32))])) rfl (by rw [hMX]; rfl) (argsL := [(.int (1 : Int32)), (.int (p2 &&& (2147483647 : Int32)))]) (rest := []) (lenOf pd__II_I_0 rfl) rfl (by show 2 * 0 + _ ≤ _; exact Nat.le_of_eq rfl) (hb hBY at_20) (fun _ _ => ⟨rfl, e0, (by decide : 0 + 0 ≤ _), (by decide : 0 + 0 ≤ _)⟩)
    dsimp only [Pt.U, Pt.locs, Pt.cells, Pt.slots] at X_23 l_23 y_23 z_23 st_23 hQ_23
    subst l_23 y_23 z_23
    obtain ⟨rfl, N_23q, e_23⟩ := hQ_23
    have N_23 := Fr.app N0 N_23q
    refine Done.pre (fun _ k_ => st_23 _ k_) ?_
    show Done _ _ _ _ _ _ _ (T_23.setTop (mkF m 23 #[Iv p1, Iv p2, Iv p3, Us, Us, Us, Us, Us, Us, Us] [(.int (own_max (1 : Int32) (p2 &&& (2147483647 : Int32))))]))
    exact jn_1 T_23 h0 _ X_23 e_23 N_23 K0 ((own_max (1 : Int32) (p2 &&& (2147483647 : Int32)))) (by first | exact own_ls1 _ | exact own_ls2 _)
  · skip
    have sg_24 : ∀ tt_, Steps p.tables e below (s₁.setTop (mkF m 23 #[Iv p1, Iv p2, Iv p3, Us, Us, Us, Us, Us, Us, Us] [(.int ((1 : Int32) + (p2 &&& (15 : Int32))))])) tt_ → Steps p.tables e below (s₁.setTop (mkF m 3 #[Iv p1, Iv p2, Iv p3, Us, Us, Us, Us, Us, Us, Us] [(.int (p3 &&& (1 : Int32)))])) tt_ := by
      intro tt_ kt_
      refine XS.ifNo X0.here hEX rfl (hb hBY at_3) rfl ((if0 _ _).trans (feq hc3).1) ?_
      show Steps p.tables e below (s₁.setTop (mkF m 6 #[Iv p1, Iv p2, Iv p3, Us, Us, Us, Us, Us, Us, Us] [])) tt_
      refine XS.iconst X0.here hEX rfl (hb hBY at_6) ?_
      show Steps p.tables e below (s₁.setTop (mkF m 7 #[Iv p1, Iv p2, Iv p3, Us, Us, Us, Us, Us, Us, Us] [(.int (1 : Int32))])) tt_
      refine XS.iloadN X0.here hEX rfl (hb hBY at_7) rfl ?_
      show Steps p.tables e below (s₁.setTop (mkF m 8 #[Iv p1, Iv p2, Iv p3, Us, Us, Us, Us, Us, Us, Us] [(.int p2), (.int (1 : Int32))])) tt_
      refine XS.bipush X0.here hEX rfl (hb hBY at_8) ?_
      show Steps p.tables e below (s₁.setTop (mkF m 10 #[Iv p1, Iv p2, Iv p3, Us, Us, Us, Us, Us, Us, Us] [(.int (15 : Int32)), (.int p2), (.int (1 : Int32))])) tt_
      refine XS.iand X0.here hEX rfl (hb hBY at_10) rfl ?_
      show Steps p.tables e below (s₁.setTop (mkF m 11 #[Iv p1, Iv p2, Iv p3, Us, Us, Us, Us, Us, Us, Us] [(.int (p2 &&& (15 : Int32))), (.int (1 : Int32))])) tt_
      refine XS.iadd X0.here hEX rfl (hb hBY at_11) rfl ?_
      show Steps p.tables e below (s₁.setTop (mkF m 12 #[Iv p1, Iv p2, Iv p3, Us, Us, Us, Us, Us, Us, Us] [(.int ((1 : Int32) + (p2 &&& (15 : Int32))))])) tt_
      refine XS.goto X0.here hEX rfl (pc0 := 12) (pc' := 23) rfl (hb hBY at_12) (by decide) (by decide) ?_
      exact kt_
    refine Done.pre sg_24 ?_
    exact jn_1 s₁ h0 _ X0 e0 N0 K0 (((1 : Int32) + (p2 &&& (15 : Int32)))) (by first | exact own_ls1 _ | exact own_ls2 _)
set_option maxRecDepth 65536 in
set_option maxHeartbeats 40000000 in
theorem comes_1 {Post : Tables → Env → Array Value → State → Outcome → State → Prop} (hpost : ∀ tb e args s v u, (limb_1_1.after args s (.returned v) u = true ∧ limb_1_2.after args s (.returned v) u = true ∧ True) → FrameEnd s (.returned v) u (Jvm.fieldLocs frame_1_writes args s ++ Jvm.arrayLocs frame_1_arrays args s ++ Jvm.staticLocs frame_1_statics s) 0 0 → Post tb e args s (.returned v) u) :
    ArmFor flags0 classFile x code maxLocals ret World_1 tables_1 room_1 Calls_1 rest_1 Pre_1 Post := by
  intro l hfl _ _ p e ha hc hk s m args below hf hA hF happ hP
  obtain ⟨hcalls, hrest, hpre⟩ := hP
  obtain ⟨-, -, -, hnamed, -, -, -, hat⟩ := (Spec.applies_iff hf).mp happ
  obtain ⟨hg, hn⟩ := and_e (Cond.before_iff.mp (show (Jvm.Cond.and given_1 narrow_1).before args s = true from hpre))
  obtain ⟨g1a, g1b⟩ := and_e hg
  obtain ⟨g2a, g2b⟩ := and_e g1b
  obtain ⟨g3a, g3b⟩ := and_e g2b
  obtain ⟨w0, w1, w2, rfl⟩ : ∃ w0 w1 w2 : Value, args = #[w0, w1, w2] := by
    have hs : args.size = 3 := by simpa [Cond.value, given_1] using g1a
    obtain ⟨L⟩ := args
    match L, hs with
    | [w0, w1, w2], _ => exact ⟨w0, w1, w2, rfl⟩
  have hw := fun d (hd : d ∈ tables_1) => atoms_spec (ws := Jvm.Cond.code x code maxLocals ret :: tables_1) hat d (List.mem_cons_of_mem _ hd)
  have hfit : Fit s := fun {y c} hc i hi => by
    obtain ⟨ha, rfl⟩ := Array.getElem?_eq_some_iff.mp hc
    have q := List.all_eq_true.mp ((Array.all_eq_true_iff_forall_mem.mp hF) _ (Array.getElem_mem ha)) i (List.mem_range.mpr hi)
    simpa [Array.getElem?_eq_getElem hi] using q
  obtain ⟨i0, ei0⟩ := is_v g2a
  obtain rfl : w0 = (.int i0) := Option.some.inj ei0
  obtain ⟨i1, ei1⟩ := is_v g3a
  obtain rfl : w1 = (.int i1) := Option.some.inj ei1
  obtain ⟨i2, ei2⟩ := is_v g3b
  obtain rfl : w2 = (.int i2) := Option.some.inj ei2
  obtain ⟨n, o, h1, h2, h3, _, L, rfl, ⟨rfl, N, -⟩, hq⟩ := rm0 l s _ hw tables_1 i0 i1 i2  s.heap s.heap.size (Nat.le_refl _)  p e ha hc hk s m _ below hf ((Spec.applies_iff_loose hf).mp happ).1 ⟨rfl, State.Warmed39.refl s, rfl⟩ trivial
  refine ⟨n, _, h1, h2, h3, hpost _ _ _ _ _ _ ⟨Cond.after_iff.mpr rfl, Cond.after_iff.mpr (eq_i res_at (Term.int_eval (1)) rfl), trivial⟩ ⟨hq.1, hq.2.1, (hq.2.2.sift fun y hy => Or.inr (N y hy)).mono (by decide) (by decide)⟩⟩
theorem main_1_1 : Claimed_1_1 := comes_1 fun _ _ _ _ _ _ h hF => ⟨h.1, hF⟩
theorem main_1_2 : Claimed_1_2 := comes_1 fun _ _ _ _ _ _ h hF => ⟨h.2.1, hF⟩
end Jvm.Pilot.@@N@@
namespace Jvm.Pilot.@@N@@
open Jvm Jvm.ClassFile Sem Op Lib Jvm.Free Jvm.Stand Jvm.Pilot.@@N@@.Jvm.D
/-! MADE BY PROGRAM (witnessworld.py) out of the Statement's table words and the real class files: 10 classes; the members and pool entries that the words name. The judged class is class 1, her method 1. -/
namespace start1
open Jvm.ClassFile
def u (s : String) : CpInfo := .utf8 (stringToUtf16 s)
/-- a pool by its gaps: so many unusable entries, then the entry; so many at the end -/
def gap : Nat → List CpInfo → List CpInfo
  | 0, r => r
  | n + 1, r => .unusable :: gap n r
def poolList (es : List (Nat × CpInfo)) (last : Nat) : List CpInfo := es.foldr (fun e r => gap e.1 (e.2 :: r)) (gap last [])
def pool (es : List (Nat × CpInfo)) (last : Nat) : Array CpInfo := ⟨poolList es last⟩
def fileOf (pool : Array CpInfo) (this : Nat) (attrs : Array Attribute := #[]) (ms : Array MethodInfo := #[]) (fl : Nat := 33) (sup : Nat := 0) (ifs : Array Nat := #[]) (fds : Array FieldInfo := #[]) : ClassFile where
  minorVersion := 0
  majorVersion := 65
  constantPool := pool
  accessFlags := fl
  thisClass := this
  superClass := sup
  interfaces := ifs
  fields := fds
  methods := ms
  attributes := attrs
def plain (name : String) (sup : Option ClassId) : Class where
  name := name
  kind := .ordinary
  loader := none
  accessFlags := 33
  super := sup
  interfaces := #[]
  cf := none
  fields := #[]
  methods := #[]
  instanceTypes := #[]
  staticTypes := #[]
  resolved := #[]
  callSites := []
  init := .initialized
  statics := none
  mirror := none

def pool0 : Array CpInfo := pool [(5, u "<init>"), (0, u "()V"), (1, .class_ 10), (1, u "java/lang/Object")] 113

def k0m0 : Method := { name := "<init>", desc := "()V", sig := { parameters := [], returnType := none }, accessFlags := 1, code := none }
/-- java/lang/Object -/
def k0 : Class := { plain "java/lang/Object" none with
  accessFlags := 33
  interfaces := #[]
  cf := some (fileOf pool0 8 #[] #[{ accessFlags := 1, nameIndex := 5, descriptorIndex := 6, attributes := #[] }] 33 0 #[] #[])
  fields := #[]
  methods := #[k0m0]
  instanceTypes := #[]
  staticTypes := #[]
  resolved := Array.replicate 124 none
  statics := none }

def pool1 : Array CpInfo := pool [(2, .class_ 4), (1, u "java/lang/Object"), (0, u "<init>"), (0, u "()V"), (0, .integer 2147483647), (0, .methodref 9 10), (0, .class_ 11), (0, .nameAndType 12 13), (0, u "java/lang/Math"), (0, u "max"), (0, u "(II)I"), (0, .integer 1073741824), (0, .methodref 16 17), (0, .class_ 18), (0, .nameAndType 19 13), (0, u "com/example/pointcell/pointcell/TreeShape"), (0, u "leafCount"), (0, .long 2), (1, .class_ 23), (0, u "com/example/pointcell/pointcell/TreeShapeLeafCountPinLaw"), (2, u "law"), (0, u "(III)Z")] 3

def k1m0 : Method := { name := "<init>", desc := "()V", sig := { parameters := [], returnType := none }, accessFlags := 2, code := none }
def k1c1 : Code := { maxStack := 4, maxLocals := 10, code := code, exceptionTable := #[], attributes := #[] }
def k1m1 : Method := { name := "law", desc := "(III)Z", sig := { parameters := [.int, .int, .int], returnType := some .boolean }, accessFlags := 9, code := some k1c1 }
/-- com/example/pointcell/pointcell/TreeShapeLeafCountPinLaw -/
def k1 : Class := { plain "com/example/pointcell/pointcell/TreeShapeLeafCountPinLaw" (some 0) with
  accessFlags := 49
  interfaces := #[]
  cf := some (fileOf pool1 22 #[] #[{ accessFlags := 2, nameIndex := 5, descriptorIndex := 6, attributes := #[] }, { accessFlags := 9, nameIndex := 26, descriptorIndex := 27, attributes := #[] }] 49 2 #[] #[])
  fields := #[]
  methods := #[k1m0, k1m1]
  instanceTypes := #[]
  staticTypes := #[]
  resolved := Array.replicate 31 none
  statics := none }

def pool2 : Array CpInfo := pool [(1, .class_ 2), (0, u "java/lang/Math"), (1, .class_ 6), (1, u "java/lang/Object"), (0, u "<init>"), (0, u "()V"), (89, .class_ 100), (1, u "java/lang/Math$RandomNumberGeneratorHolder"), (71, u "negativeZeroFloatBits"), (0, u "J"), (2, u "negativeZeroDoubleBits"), (21, u "max"), (46, u "$assertionsDisabled"), (0, u "Z"), (88, u "(II)I"), (2, u "twoToTheDoubleScaleDown"), (0, u "D"), (4, u "twoToTheDoubleScaleUp"), (9, u "E"), (3, u "PI"), (2, u "TAU"), (2, u "DEGREES_TO_RADIANS"), (0, u "RADIANS_TO_DEGREES")] 94

def k2m0 : Method := { name := "<init>", desc := "()V", sig := { parameters := [], returnType := none }, accessFlags := 2, code := none }
def k2c1 : Code := { maxStack := 2, maxLocals := 2, code := jdk_29_method_65_code, exceptionTable := #[], attributes := #[] }
def k2m1 : Method := { name := "max", desc := "(II)I", sig := { parameters := [.int, .int], returnType := some .int }, accessFlags := 9, code := some k2c1 }
/-- java/lang/Math -/
def k2 : Class := { plain "java/lang/Math" (some 0) with
  accessFlags := 49
  interfaces := #[]
  cf := some (fileOf pool2 1 #[.nestMembers #[98]] #[{ accessFlags := 2, nameIndex := 7, descriptorIndex := 8, attributes := #[] }, { accessFlags := 9, nameIndex := 198, descriptorIndex := 335, attributes := #[] }] 49 4 #[] #[{ accessFlags := 25, nameIndex := 354, descriptorIndex := 339, attributes := #[] }, { accessFlags := 25, nameIndex := 358, descriptorIndex := 339, attributes := #[] }, { accessFlags := 25, nameIndex := 361, descriptorIndex := 339, attributes := #[] }, { accessFlags := 26, nameIndex := 364, descriptorIndex := 339, attributes := #[] }, { accessFlags := 26, nameIndex := 365, descriptorIndex := 339, attributes := #[] }, { accessFlags := 26, nameIndex := 172, descriptorIndex := 173, attributes := #[] }, { accessFlags := 26, nameIndex := 176, descriptorIndex := 173, attributes := #[] }, { accessFlags := 8, nameIndex := 344, descriptorIndex := 339, attributes := #[] }, { accessFlags := 8, nameIndex := 338, descriptorIndex := 339, attributes := #[] }, { accessFlags := 4120, nameIndex := 245, descriptorIndex := 246, attributes := #[] }])
  fields := #[{ name := "E", type := .double, accessFlags := 25, slot := 0, constantValue := 0 }, { name := "PI", type := .double, accessFlags := 25, slot := 1, constantValue := 0 }, { name := "TAU", type := .double, accessFlags := 25, slot := 2, constantValue := 0 }, { name := "DEGREES_TO_RADIANS", type := .double, accessFlags := 26, slot := 3, constantValue := 0 }, { name := "RADIANS_TO_DEGREES", type := .double, accessFlags := 26, slot := 4, constantValue := 0 }, { name := "negativeZeroFloatBits", type := .long, accessFlags := 26, slot := 5, constantValue := 0 }, { name := "negativeZeroDoubleBits", type := .long, accessFlags := 26, slot := 6, constantValue := 0 }, { name := "twoToTheDoubleScaleUp", type := .double, accessFlags := 8, slot := 7, constantValue := 0 }, { name := "twoToTheDoubleScaleDown", type := .double, accessFlags := 8, slot := 8, constantValue := 0 }, { name := "$assertionsDisabled", type := .boolean, accessFlags := 4120, slot := 9, constantValue := 0 }]
  methods := #[k2m0, k2m1]
  instanceTypes := #[]
  staticTypes := #[.double, .double, .double, .double, .double, .long, .long, .double, .double, .boolean]
  resolved := Array.replicate 460 none
  statics := none }

def pool3 : Array CpInfo := pool [(2, .class_ 4), (1, u "java/lang/Object"), (0, u "<init>"), (0, u "()V"), (0, .long 2), (2, .class_ 12), (1, u "com/example/pointcell/pointcell/TreeShape"), (9, u "leafCount"), (0, u "(II)I")] 5

def k3m0 : Method := { name := "<init>", desc := "()V", sig := { parameters := [], returnType := none }, accessFlags := 2, code := none }
def k3c1 : Code := { maxStack := 4, maxLocals := 5, code := prog_47_method_2_code, exceptionTable := #[], attributes := #[] }
def k3m1 : Method := { name := "leafCount", desc := "(II)I", sig := { parameters := [.int, .int], returnType := some .int }, accessFlags := 8, code := some k3c1 }
/-- com/example/pointcell/pointcell/TreeShape -/
def k3 : Class := { plain "com/example/pointcell/pointcell/TreeShape" (some 0) with
  accessFlags := 48
  interfaces := #[]
  cf := some (fileOf pool3 10 #[] #[{ accessFlags := 2, nameIndex := 5, descriptorIndex := 6, attributes := #[] }, { accessFlags := 8, nameIndex := 22, descriptorIndex := 23, attributes := #[] }] 48 2 #[] #[])
  fields := #[]
  methods := #[k3m0, k3m1]
  instanceTypes := #[]
  staticTypes := #[]
  resolved := Array.replicate 29 none
  statics := none }

def pool4 : Array CpInfo := pool [(1, u "java/lang/Cloneable"), (0, .class_ 1), (0, u "java/lang/Object"), (0, .class_ 3)] 3

/-- java/lang/Cloneable -/
def k4 : Class := { plain "java/lang/Cloneable" (some 0) with
  accessFlags := 1537
  interfaces := #[]
  cf := some (fileOf pool4 2 #[] #[] 1537 4 #[] #[])
  fields := #[]
  methods := #[]
  instanceTypes := #[]
  staticTypes := #[]
  resolved := Array.replicate 8 none
  statics := none }

def pool5 : Array CpInfo := pool [(1, u "java/io/Serializable"), (0, .class_ 1), (0, u "java/lang/Object"), (0, .class_ 3)] 3

/-- java/io/Serializable -/
def k5 : Class := { plain "java/io/Serializable" (some 0) with
  accessFlags := 1537
  interfaces := #[]
  cf := some (fileOf pool5 2 #[] #[] 1537 4 #[] #[])
  fields := #[]
  methods := #[]
  instanceTypes := #[]
  staticTypes := #[]
  resolved := Array.replicate 8 none
  statics := none }

/-- the primitive byte -/
def k6 : Class := { plain "byte" none with kind := .primitive 'B', accessFlags := 0x411 }
/-- [B -/
def k7 : Class := { plain "[B" (some 0) with kind := .array 6 .byte, interfaces := #[4, 5], accessFlags := 1041 }

/-- the primitive int -/
def k8 : Class := { plain "int" none with kind := .primitive 'I', accessFlags := 0x411 }
/-- [I -/
def k9 : Class := { plain "[I" (some 0) with kind := .array 8 .int, interfaces := #[4, 5], accessFlags := 1041 }

def heap : Heap := #[]
def classes : Array Class := #[k0, k1, k2, k3, k4, k5, k6, k7, k8, k9]
def interned : List (Array UInt16 × Addr) := []
def slotsUsed : Nat := 0
def theMethod : MethodId := ⟨1, 1⟩
def args0 : Array Value := #[.int 7, .int 8, .int 9]
def aboutOver (below : List Frame) : State where
  vm := { classes := classes, interned := interned.toArray }
  heap := heap
  slotsUsed := slotsUsed
  threads := #[{ frames := .invoking theMethod args0 :: below }]
def below0 : List Frame := [.native { method := ⟨0, 0⟩, args := #[] }]
def about1 : State := aboutOver below0
def p0 : Program := .bare "" "" ""
def e0 : Env := launch0.env 0 0 0
theorem w_frames : about1.frames = Frame.invoking theMethod args0 :: below0 := rfl
set_option maxRecDepth 65536 in
theorem w_args : argsFit about1.vm theMethod args0 = true := by decide +kernel
set_option maxRecDepth 65536 in
theorem w_heap : heapFits about1 = true := by decide +kernel
set_option maxRecDepth 65536 in
theorem w_runnable : about1.curStatus? = some .runnable := by decide +kernel
set_option maxRecDepth 65536 in
theorem w_alone : about1.alone = true := by decide +kernel
set_option maxRecDepth 65536 in
theorem w_named : about1.methodNamed? x = some theMethod := by decide +kernel
set_option maxRecDepth 65536 in
theorem w_hears : about1.hears theMethod below0 = true := by decide +kernel
set_option maxRecDepth 65536 in
theorem w_ripe : about1.ripe theMethod args0 below0 = true := by decide +kernel
theorem w_running : about1.status = .running := rfl
set_option maxRecDepth 65536 in
theorem w_room : about1.hasRoom e0.platform room_1 = true :=
  launch0.hasRoom_least _ room_1 (by decide +kernel) (by decide +kernel) (by decide +kernel) (by decide +kernel) (by decide +kernel) (by decide +kernel)
theorem allAtoms_all (ts : List Jvm.Cond) (a : Array Jvm.Value) (st : Jvm.State) : (allAtoms ts).before a st = ts.all (fun c => c.before a st) := by
  induction ts with
  | nil => rfl
  | cons c t ih =>
    show (Jvm.Cond.and c (allAtoms t)).before a st = _
    rw [Jvm.Cond.before_and, ih, List.all_cons]
def words1 : List Jvm.Cond := Jvm.Cond.code x code maxLocals ret :: tables_1
/-- a 'code' word, met by the world's own term for the bytes: nothing is compared byte by byte -/
theorem code_word {y : MethodName} {bytes : ByteArray} {mx : Nat} {rt : Option FieldType} {a : Array Value} {s : State} {m : MethodId} {meth : Method} {c : Code} (h1 : s.methodNamed? y = some m) (h2 : s.vm.method? m = some meth) (h3 : meth.code = some c) (h4 : c.code = bytes)
    (h5 : (c.maxLocals == mx && c.exceptionTable.isEmpty && decide (c.maxStack ≤ mostOperands) && decide (meth.sig.returnType = rt) && !meth.locks && decide (parseMethodDescriptor y.desc = some meth.sig)) = true) : (Jvm.Cond.code y bytes mx rt).before a s = true := by
  simp only [Bool.and_eq_true, beq_iff_eq, Bool.not_eq_true', decide_eq_true_eq] at h5
  obtain ⟨⟨⟨⟨⟨g1, g2⟩, g3⟩, g4⟩, g5⟩, g6⟩ := h5
  simp [Cond.before, Cond.holds, Cond.value, h1, h2, h3, h4, g1, g2, g3, g4, g5, g6]
def isCode : Jvm.Cond → Bool
  | .code _ _ _ _ => true
  | _ => false
theorem all_split {L : List Jvm.Cond} {P : Jvm.Cond → Bool} (h1 : L.all (fun c => isCode c || P c) = true) (h2 : ∀ c ∈ L.filter isCode, P c = true) : L.all P = true := by
  refine List.all_eq_true.mpr fun c hc => ?_
  have h := List.all_eq_true.mp h1 c hc
  rcases Bool.eq_false_or_eq_true (isCode c) with hi | hi
  · exact h2 c (List.mem_filter.mpr ⟨hc, hi⟩)
  · simpa [hi] using h
set_option maxRecDepth 65536 in
theorem w_c0 : (Jvm.Cond.code x code maxLocals ret).before args0 about1 = true := code_word (m := ⟨1, 1⟩) (meth := k1m1) (c := k1c1) (by decide +kernel) rfl rfl rfl (by decide +kernel)
set_option maxRecDepth 65536 in
theorem w_c1 : (Jvm.Cond.code ({ cls := "java/lang/Math", name := "max", desc := "(II)I" } : Jvm.MethodName) jdk_29_method_65_code (2 : Nat) (Option.some Jvm.ClassFile.FieldType.int)).before args0 about1 = true := code_word (m := ⟨2, 1⟩) (meth := k2m1) (c := k2c1) (by decide +kernel) rfl rfl rfl (by decide +kernel)
set_option maxRecDepth 65536 in
theorem w_c2 : (Jvm.Cond.code ({ cls := "com/example/pointcell/pointcell/TreeShape", name := "leafCount", desc := "(II)I" } : Jvm.MethodName) prog_47_method_2_code (5 : Nat) (Option.some Jvm.ClassFile.FieldType.int)).before args0 about1 = true := code_word (m := ⟨3, 1⟩) (meth := k3m1) (c := k3c1) (by decide +kernel) rfl rfl rfl (by decide +kernel)
def codes1 : List Jvm.Cond := [Jvm.Cond.code x code maxLocals ret, Jvm.Cond.code ({ cls := "java/lang/Math", name := "max", desc := "(II)I" } : Jvm.MethodName) jdk_29_method_65_code (2 : Nat) (Option.some Jvm.ClassFile.FieldType.int), Jvm.Cond.code ({ cls := "com/example/pointcell/pointcell/TreeShape", name := "leafCount", desc := "(II)I" } : Jvm.MethodName) prog_47_method_2_code (5 : Nat) (Option.some Jvm.ClassFile.FieldType.int)]
set_option maxRecDepth 65536 in
theorem codes_eq : words1.filter isCode = codes1 := rfl
theorem w_codes : ∀ c ∈ words1.filter isCode, c.before args0 about1 = true := by
  rw [codes_eq]
  intro c hc
  simp only [codes1, List.mem_cons, List.not_mem_nil, or_false] at hc
  rcases hc with rfl | rfl | rfl
  · exact w_c0
  · exact w_c1
  · exact w_c2
set_option maxRecDepth 65536 in
theorem w_t1 : words1.all (fun c => isCode c || c.before args0 about1) = true := by decide +kernel
theorem w_tables : (allAtoms (Jvm.Cond.code x code maxLocals ret :: tables_1)).before args0 about1 = true := by
  rw [allAtoms_all]
  show words1.all (fun c => c.before args0 about1) = true
  refine all_split ?_ w_codes
  rw [w_t1]
set_option maxRecDepth 65536 in
theorem w_case : (Jvm.Cond.and given_1 narrow_1).before args0 about1 = true := by decide +kernel
theorem w_applies : (headSpec (Jvm.Cond.code x code maxLocals ret :: tables_1) room_1).applies x e0.platform about1 = true :=
  (Spec.applies_iff w_frames).mpr ⟨w_running, w_runnable, w_alone, w_named, w_hears, w_ripe, w_room, w_tables⟩
theorem atStart : AtStart classFile x code maxLocals ret World_1 tables_1 room_1 Calls_1 rest_1 Pre_1 launch0 p0 e0 about1 theMethod args0 below0 :=
  ⟨lists_1, trivial, launch0.admits_env _ _ _, launch0.least_env, fairChoices_fair.cas, fairChoices_fair.clock, w_frames, w_args, w_heap, w_applies, trivial, trivial, w_case⟩
end start1
theorem witness_1 : WitnessClaimed_1 := ⟨start1.p0, start1.e0, start1.about1, start1.theMethod, start1.args0, start1.below0, start1.atStart⟩
end Jvm.Pilot.@@N@@
