import JvmDerived
import JvmDerived.Pilot.@@N@@Statement
import JvmDerived.Pilot.@@N@@Code
set_option linter.unusedVariables false
set_option linter.unusedSimpArgs false
namespace Jvm.RoadKit
open Sem ClassFile Op Lib Jvm.Stand Jvm.Free Jvm.LawKit
section New
variable {p : Program} {l : Launch} {e : Env} {R : Room} {s : State} {m : MethodId} {args : Array Value} {below : List Frame} {meth : Method} {c : Code} {T : State} {locs : List Loc} {cells slots : Nat}
theorem retI (X : Stand p l e R s m args below meth c T locs cells slots) (hEX : p.tables.exec = Jvm.exec) {pc : Nat} {Ls : Array Slot} {z : Int32} {rest : List Value} (hRT : meth.sig.returnType = some .int) (hd : decode c.code pc = .ok (.ireturn, 1)) {fs : List Frame}
    (hl : ∀ (f : JFrame) (acts : List Action), f.method = m → f.locked = none → f.entered = [] → (doReturn e (T.setTop f) acts (some (.int z))).1 = T.setFrames fs) : Steps p.tables e below (T.setTop (mkF m pc Ls (.int z :: rest))) (T.setFrames fs) := by
  have hm' : T.vm.method? m = some meth := X.method'
  have hn : narrow .int (.int z) = .int z := rfl
  show Steps p.tables e below (T.setTop { method := m, pc := pc, locals := Ls, stack := _ :: rest, locked := none }) _
  jvm_step X.here [X.here.top, hEX, hd, hm', hRT, hn]
  first | (intro acts; rw [hl _ acts rfl rfl rfl]) | rw [hl _ _ rfl rfl rfl]
  exact Steps.refl _
abbrev Us : Slot := .unset
abbrev Zs : Slot := .second
abbrev Nv : Slot := .val .null
abbrev Iv (x : Int32) : Slot := .val (.int x)
abbrev Lv (x : Int64) : Slot := .val (.long x)
abbrev Rv (x : Addr) : Slot := .val (.ref x)
/-- the body comes to its end from st: it returns v, and Q holds of v, of the heap and of the places written -/
def Done (p : Program) (e : Env) (below : List Frame) (s : State) (Q : Option Value → Heap → List Loc → Prop) (kc ks : Nat) (st : State) : Prop :=
  ∃ (s₂ : State) (o : Outcome), Steps p.tables e below st s₂ ∧ s₂.status = .running ∧ Ended s₂ below o ∧ ∃ v L, o = .returned v ∧ Q v s₂.heap L ∧ FrameEnd s o s₂ L kc ks
variable {Q : Option Value → Heap → List Loc → Prop} {kc ks : Nat}
theorem Done.pre {st st' : State} (h : ∀ t, Steps p.tables e below st' t → Steps p.tables e below st t) (D : Done p e below s Q kc ks st') : Done p e below s Q kc ks st := by
  obtain ⟨s₂, o, h1, r⟩ := D
  exact ⟨s₂, o, h _ h1, r⟩
theorem Done.retI (X : Stand p l e R s m args below meth c T locs cells slots) (hEX : p.tables.exec = Jvm.exec) (hLK : meth.locks = false) {pc : Nat} {Ls : Array Slot} {z : Int32} {rest : List Value} (hRT : meth.sig.returnType = some .int) (hd : decode c.code pc = .ok (.ireturn, 1))
    (hQ : Q (some (.int z)) T.heap locs) (hc : cells ≤ kc) (hs : slots ≤ ks) : Done p e below s Q kc ks (T.setTop (mkF m pc Ls (.int z :: rest))) := by
  obtain ⟨fs, hr, hrun, hended, hW, hsame⟩ := X.leave (v := some (.int z)) (fun h => by rw [hRT] at h; cases h) hLK
  exact ⟨_, _, Jvm.RoadKit.retI X hEX hRT hd hr, hrun, hended, _, _, rfl, hQ, ⟨_, rfl⟩, hW, hsame.mono hc hs⟩
theorem Done.retN (X : Stand p l e R s m args below meth c T locs cells slots) (hEX : p.tables.exec = Jvm.exec) (hLK : meth.locks = false) {pc : Nat} {Ls : Array Slot} {z : Int32} {t : FieldType} {rest : List Value} (hRT : meth.sig.returnType = some t) (ht : t = .boolean ∨ t = .byte ∨ t = .char ∨ t = .short) (hd : decode c.code pc = .ok (.ireturn, 1))
    (hQ : Q (some (.int (nar t z))) T.heap locs) (hc : cells ≤ kc) (hs : slots ≤ ks) : Done p e below s Q kc ks (T.setTop (mkF m pc Ls (.int z :: rest))) := by
  obtain ⟨fs, hr, hrun, hended, hW, hsame⟩ := X.leave (v := some (.int (nar t z))) (fun h => by rw [hRT] at h; cases h) hLK
  exact ⟨_, _, Jvm.RoadKit.retN X hEX hRT ht hd hr, hrun, hended, _, _, rfl, hQ, ⟨_, rfl⟩, hW, hsame.mono hc hs⟩
theorem Done.retL (X : Stand p l e R s m args below meth c T locs cells slots) (hEX : p.tables.exec = Jvm.exec) (hLK : meth.locks = false) {pc : Nat} {Ls : Array Slot} {z : Int64} {rest : List Value} (hRT : meth.sig.returnType = some .long) (hd : decode c.code pc = .ok (.lreturn, 1))
    (hQ : Q (some (.long z)) T.heap locs) (hc : cells ≤ kc) (hs : slots ≤ ks) : Done p e below s Q kc ks (T.setTop (mkF m pc Ls (.long z :: rest))) := by
  obtain ⟨fs, hr, hrun, hended, hW, hsame⟩ := X.leave (v := some (.long z)) (fun h => by rw [hRT] at h; cases h) hLK
  exact ⟨_, _, retOut X hEX hRT rfl (Or.inr (Or.inl ⟨rfl, rfl, _, rfl⟩)) hd hr, hrun, hended, _, _, rfl, hQ, ⟨_, rfl⟩, hW, hsame.mono hc hs⟩
theorem Done.retA (X : Stand p l e R s m args below meth c T locs cells slots) (hEX : p.tables.exec = Jvm.exec) (hLK : meth.locks = false) {pc : Nat} {Ls : Array Slot} {w : Value} {t : FieldType} {rest : List Value} (hRT : meth.sig.returnType = some t) (ht : t.isReference = true) (hw : w.isRef = true) (hd : decode c.code pc = .ok (.areturn, 1))
    (hQ : Q (some w) T.heap locs) (hc : cells ≤ kc) (hs : slots ≤ ks) : Done p e below s Q kc ks (T.setTop (mkF m pc Ls (w :: rest))) := by
  obtain ⟨fs, hr, hrun, hended, hW, hsame⟩ := X.leave (v := some w) (fun h => by rw [hRT] at h; cases h) hLK
  have hn : narrow t w = w := by cases t <;> first | rfl | (simp [FieldType.isReference] at ht)
  exact ⟨_, _, retOut X hEX hRT hn (Or.inr (Or.inr (Or.inr (Or.inr ⟨rfl, ht, hw⟩)))) hd hr, hrun, hended, _, _, rfl, hQ, ⟨_, rfl⟩, hW, hsame.mono hc hs⟩
theorem Done.retV (X : Stand p l e R s m args below meth c T locs cells slots) (hEX : p.tables.exec = Jvm.exec) (hLK : meth.locks = false) {pc : Nat} {Ls : Array Slot} (hRT : meth.sig.returnType = none) (hd : decode c.code pc = .ok (.return_, 1))
    (hQ : Q none T.heap locs) (hc : cells ≤ kc) (hs : slots ≤ ks) : Done p e below s Q kc ks (T.setTop (mkF m pc Ls [])) := by
  obtain ⟨fs, hr, hrun, hended, hW, hsame⟩ := X.leave (v := none) (fun _ => rfl) hLK
  exact ⟨_, _, X.returnOut hEX hRT hd hr, hrun, hended, _, _, rfl, hQ, ⟨_, rfl⟩, hW, hsame.mono hc hs⟩
end New
end Jvm.RoadKit
namespace Jvm.Pilot.@@N@@
open Jvm Jvm.ClassFile Sem Op Lib Jvm.Free Jvm.Stand Jvm.LawKit Jvm.RoadKit Bundle Jvm.Pilot.@@N@@.Jvm.D

def own_dru (x y : Int64) : Int64 := (x / y) + (if x % y = (0 : Int64) then (0 : Int32).toInt64 else (1 : Int32).toInt64)
theorem own_m63 (x : Int64) : 0 ≤ (x &&& (9223372036854775807 : Int64)).toInt := by
  rw [c_maskL x _ 63 (by decide) (by decide +kernel)]; omega
theorem own_pos (x : Int64) (h : 0 ≤ x.toInt) (hn : ¬ x = (0 : Int64)) : 1 ≤ x.toInt := by
  rw [← Int64.toInt_inj] at hn
  have e : (0 : Int64).toInt = 0 := rfl
  omega
theorem own_d1 (x : Int64) (hn : ¬ (x &&& (9223372036854775807 : Int64)) = (0 : Int64)) : 1 ≤ (x &&& (9223372036854775807 : Int64)).toInt := own_pos _ (own_m63 x) hn
theorem own_d2 (x : Int64) : 1 ≤ ((x &&& (4095 : Int64)) + (1 : Int64)).toInt := by
  have h1 := c_maskL x (4095 : Int64) 12 (by decide) (by decide +kernel)
  have h2 := c_ladd (x &&& (4095 : Int64)) (1 : Int64)
  have h3 := rng64 ((x &&& (4095 : Int64)) + (1 : Int64))
  have e : (1 : Int64).toInt = 1 := rfl
  omega
theorem own_nz (dv : Int64) (h : 1 ≤ dv.toInt) : ¬ dv = (0 : Int64) := fun q => by
  rw [q] at h; exact absurd h (by decide)
theorem own_nm (dv : Int64) (h : 1 ≤ dv.toInt) : dv ≠ -1 := fun q => by
  rw [q] at h; exact absurd h (by decide)
theorem own_div (x dv : Int64) (hx : 0 ≤ x.toInt) (h : 1 ≤ dv.toInt) : (x / dv).toInt = x.toInt / dv.toInt := (c_ldiv x dv _ rfl (own_nm dv h)).1 hx
theorem own_rem (x dv : Int64) (hx : 0 ≤ x.toInt) : (x % dv).toInt = x.toInt % dv.toInt := by
  rw [Int64.toInt_mod]; exact (tr _ _).1 hx
theorem own_floor (a d : Int) (ha : 0 ≤ a) (hd : 1 ≤ d) : 0 ≤ a / d * d ∧ a / d * d ≤ a := by
  have h1 := Int.ediv_mul_le a (b := d) (by omega)
  have h2 : 0 ≤ a / d := Int.ediv_nonneg ha (by omega)
  exact ⟨Int.mul_nonneg h2 (by omega), h1⟩
theorem own_dd (x dv : Int64) (h : 1 ≤ dv.toInt) : 0 ≤ (((x &&& (9223372036854775807 : Int64)) / dv) * dv).toInt := by
  have h0 := own_m63 x
  generalize (x &&& (9223372036854775807 : Int64)) = z at h0
  have h1 := c_lmul (z / dv) dv
  have h2 := rng64 ((z / dv) * dv)
  rw [own_div z dv h0 h] at h1
  have h3 := own_floor z.toInt dv.toInt h0 h
  have h4 := rng64 z
  omega
theorem own_int (a d : Int) (ha : 1 ≤ a) (hd : 1 ≤ d) (q : Int) (hq : q = a / d + (if a % d = 0 then 0 else 1)) : q = (a - 1) / d + 1 ∧ 1 ≤ q ∧ q ≤ a ∧ 1 ≤ a - (q - 1) * d ∧ a - (q - 1) * d ≤ d := by
  have e1 := Int.emod_add_mul_ediv a d
  have e2 := Int.emod_nonneg a (b := d) (by omega)
  have e3 := Int.emod_lt_of_pos a (b := d) (by omega)
  generalize hk : a / d = k at *
  generalize hr : a % d = r at *
  have hq1 : (a - 1) / d = q - 1 := by
    by_cases h : r = 0
    · rw [if_pos h] at hq
      have : a - 1 = (d - 1) + d * (k - 1) := by rw [← e1, Int.mul_sub]; omega
      rw [this, Int.add_mul_ediv_left _ _ (by omega), Int.ediv_eq_zero_of_lt (by omega) (by omega)]; omega
    · rw [if_neg h] at hq
      have : a - 1 = (r - 1) + d * k := by omega
      rw [this, Int.add_mul_ediv_left _ _ (by omega), Int.ediv_eq_zero_of_lt (by omega) (by omega)]; omega
  have h0 : 0 ≤ (a - 1) / d := Int.ediv_nonneg (by omega) (by omega)
  have f1 := Int.emod_add_mul_ediv (a - 1) d
  have f2 := Int.emod_nonneg (a - 1) (b := d) (by omega)
  have f3 := Int.emod_lt_of_pos (a - 1) (b := d) (by omega)
  have f4 := Int.ediv_le_self (b := d) (a := a - 1) (by omega)
  rw [hq1] at f1 h0 f4
  have : d * (q - 1) = (q - 1) * d := Int.mul_comm _ _
  refine ⟨by omega, by omega, by omega, by omega, by omega⟩
theorem own_q (dd dv : Int64) (h0 : 0 ≤ dd.toInt) (h : 1 ≤ dv.toInt) : (own_dru dd dv).toInt = dd.toInt / dv.toInt + (if dd.toInt % dv.toInt = 0 then 0 else 1) := by
  have h1 := own_div dd dv h0 h
  have h2 := own_rem dd dv h0
  have h3 := own_floor dd.toInt dv.toInt h0 h
  have h4 := rng64 dd
  have h5 : 0 ≤ dd.toInt / dv.toInt := Int.ediv_nonneg h0 (by omega)
  have h6 : dd.toInt / dv.toInt ≤ dd.toInt := Int.ediv_le_self _ h0
  have e0 : (0 : Int64).toInt = 0 := rfl
  have e1 : ((0 : Int32).toInt64).toInt = 0 := rfl
  have e2 : ((1 : Int32).toInt64).toInt = 1 := rfl
  rw [own_dru]
  by_cases hc : dd % dv = (0 : Int64)
  · have hc' : dd.toInt % dv.toInt = 0 := by rw [← h2, hc]; rfl
    rw [if_pos hc, if_pos hc']
    have a1 := c_ladd (dd / dv) (0 : Int32).toInt64
    have a2 := rng64 (dd / dv + (0 : Int32).toInt64)
    rw [h1, e1] at a1; omega
  · have hc' : ¬ dd.toInt % dv.toInt = 0 := fun q => hc (by rw [← Int64.toInt_inj, h2, q]; rfl)
    rw [if_neg hc, if_neg hc']
    have a1 := c_ladd (dd / dv) (1 : Int32).toInt64
    have a2 := rng64 (dd / dv + (1 : Int32).toInt64)
    have a3 : dd.toInt / dv.toInt < dd.toInt ∨ dv.toInt = 1 := by
      rcases (by omega : 1 < dv.toInt ∨ dv.toInt ≤ 1) with q | q
      · left
        have := Int.ediv_mul_le dd.toInt (b := dv.toInt) (by omega)
        rcases (by omega : 0 < (dd.toInt / dv.toInt) ∨ (dd.toInt / dv.toInt) ≤ 0) with z | z
        · have : dd.toInt / dv.toInt * 2 ≤ dd.toInt / dv.toInt * dv.toInt := Int.mul_le_mul_of_nonneg_left (by omega) (by omega)
          omega
        · have : dd.toInt ≠ 0 := fun q => hc' (by rw [q]; simp)
          omega
      · right; omega
    rcases a3 with a3 | a3
    · rw [h1, e2] at a1; omega
    · exact absurd (by rw [a3]; simp) hc'
theorem own_law0 (dd dv : Int64) (hz : dd = (0 : Int64)) (h : 1 ≤ dv.toInt) : own_dru dd dv = (0 : Int64) := by
  rw [← Int64.toInt_inj, own_q dd dv (by rw [hz]; decide) h, hz]; simp
theorem own_law (dd dv : Int64) (h0 : 0 ≤ dd.toInt) (hz : ¬ dd = (0 : Int64)) (h : 1 ≤ dv.toInt) : own_dru dd dv = ((dd - (1 : Int64)) / dv) + (1 : Int64) ∧ ¬ own_dru dd dv < (1 : Int64) ∧ ¬ dd < own_dru dd dv ∧ ¬ dd - ((own_dru dd dv - (1 : Int64)) * dv) < (1 : Int64) ∧ ¬ dv < dd - ((own_dru dd dv - (1 : Int64)) * dv) := by
  have ha := own_pos dd h0 hz
  have hq := own_q dd dv h0 h
  have e1 : (1 : Int64).toInt = 1 := rfl
  obtain ⟨i1, i2, i3, i4, i5⟩ := own_int dd.toInt dv.toInt ha h _ hq
  have r1 := rng64 dd
  have s1 := c_lsub dd (1 : Int64)
  have s2 := rng64 (dd - (1 : Int64))
  have s3 : (dd - (1 : Int64)).toInt = dd.toInt - 1 := by omega
  have d1 := own_div (dd - (1 : Int64)) dv (by omega) h
  rw [s3] at d1
  have d2 := c_ladd ((dd - (1 : Int64)) / dv) (1 : Int64)
  have d3 := rng64 (((dd - (1 : Int64)) / dv) + (1 : Int64))
  have m1 := c_lsub (own_dru dd dv) (1 : Int64)
  have m2 := rng64 (own_dru dd dv - (1 : Int64))
  have m3 : (own_dru dd dv - (1 : Int64)).toInt = (own_dru dd dv).toInt - 1 := by omega
  have m4 := c_lmul (own_dru dd dv - (1 : Int64)) dv
  rw [m3] at m4
  have m5 := rng64 ((own_dru dd dv - (1 : Int64)) * dv)
  have m6 := c_lsub dd ((own_dru dd dv - (1 : Int64)) * dv)
  have m7 := rng64 (dd - ((own_dru dd dv - (1 : Int64)) * dv))
  have r2 := rng64 dv
  have p0 : 0 ≤ ((own_dru dd dv).toInt - 1) * dv.toInt := Int.mul_nonneg (by omega) (by omega)
  refine ⟨?_, ?_, ?_, ?_, ?_⟩
  · rw [← Int64.toInt_inj]; omega
  all_goals (rw [Int64.lt_iff_toInt_lt]; omega)
theorem d_prog_6_method_6_code_0 : decode prog_6_method_6_code 0 = .ok (.lload_n 0, 1) := by decide +kernel
theorem d_prog_6_method_6_code_1 : decode prog_6_method_6_code 1 = .ok (.lload_n 2, 1) := by decide +kernel
theorem d_prog_6_method_6_code_2 : decode prog_6_method_6_code 2 = .ok (.ldiv, 1) := by decide +kernel
theorem d_prog_6_method_6_code_3 : decode prog_6_method_6_code 3 = .ok (.lload_n 0, 1) := by decide +kernel
theorem d_prog_6_method_6_code_4 : decode prog_6_method_6_code 4 = .ok (.lload_n 2, 1) := by decide +kernel
theorem d_prog_6_method_6_code_5 : decode prog_6_method_6_code 5 = .ok (.lrem, 1) := by decide +kernel
theorem d_prog_6_method_6_code_6 : decode prog_6_method_6_code 6 = .ok (.lconst 0, 1) := by decide +kernel
theorem d_prog_6_method_6_code_7 : decode prog_6_method_6_code 7 = .ok (.lcmp, 1) := by decide +kernel
theorem d_prog_6_method_6_code_8 : decode prog_6_method_6_code 8 = .ok (.ifCond .ne 7, 3) := by decide +kernel
theorem d_prog_6_method_6_code_11 : decode prog_6_method_6_code 11 = .ok (.iconst 0, 1) := by decide +kernel
theorem d_prog_6_method_6_code_12 : decode prog_6_method_6_code 12 = .ok (.goto 4, 3) := by decide +kernel
theorem d_prog_6_method_6_code_16 : decode prog_6_method_6_code 16 = .ok (.i2l, 1) := by decide +kernel
theorem d_prog_6_method_6_code_17 : decode prog_6_method_6_code 17 = .ok (.ladd, 1) := by decide +kernel
theorem d_prog_6_method_6_code_18 : decode prog_6_method_6_code 18 = .ok (.lreturn, 1) := by decide +kernel
theorem d_prog_6_method_6_code_15 : decode prog_6_method_6_code 15 = .ok (.iconst 1, 1) := by decide +kernel
def Qrm_dru (Z : State) (x : Int64) (y : Int64) (h0 : Heap) (n0 : Nat) (v_ : Option Value) (h_ : Heap) (L_ : List Loc) : Prop := v_ = some (.long (own_dru x y)) ∧ Fr n0 L_ ∧ h_ = h0
theorem ef_rm_dru (m : MethodId) (x0 : Int64) (x1 : Int64) : entryFrame m #[(.long x0), (.long x1)] 4 = mkF m 0 #[.val (.long x0), .second, .val (.long x1), .second] [] := by first | (simp [entryFrame, mkF, argsToLocals, Value.category]; done) | rfl
theorem pn_com_example_lean_limiter_leanlimiter_Algorithm : plainName "com/example/lean_limiter/leanlimiter/Algorithm" = true := by first | (simp [plainName, overriddenIn]; done) | decide +kernel
set_option maxRecDepth 65536 in
set_option maxHeartbeats 40000000 in
theorem rm_dru (l : Launch) (Z : State) (aZ : Array Value) (hw : ∀ d ∈ tables_1, d.before aZ Z = true) (ws : List Jvm.Cond) (x : Int64) (y : Int64) (h0 : Heap) (n0 : Nat) (Z0 : n0 ≤ h0.size) (hy : ¬ y = (0 : Int64)) :
    MetFree l (⟨"com/example/lean_limiter/leanlimiter/Algorithm", "divideRoundingUp", "(JJ)J"⟩ : MethodName) (head1 (Jvm.Cond.code (⟨"com/example/lean_limiter/leanlimiter/Algorithm", "divideRoundingUp", "(JJ)J"⟩ : MethodName) prog_6_method_6_code 4 (some .long) :: ws) ({ frames := 0, cells := 0, slots := 0, locals := 0 } : Room)) (fun a_ U_ => a_ = #[(.long x), (.long y)] ∧ Z.Warmed39 U_.vm ∧ U_.heap = h0) (fun _ _ _ _ _ => True) (fun _ U_ o_ U2_ => ∃ v_ L_, o_ = .returned v_ ∧ Qrm_dru Z x y h0 n0 v_ U2_.heap L_ ∧ FrameEnd U_ o_ U2_ L_ ({ frames := 0, cells := 0, slots := 0, locals := 0 } : Room).cells ({ frames := 0, cells := 0, slots := 0, locals := 0 } : Room).slots) := by
  refine MetFree.of_bodySF (plainFor_of_name pn_com_example_lean_limiter_leanlimiter_Algorithm) hisR ?_
  intro p e s m args below meth cO s₁ Bd hml0 hP hK
  obtain ⟨rfl, hZW, hh⟩ := hP
  have hEX := Bd.exec
  have hBY := Bd.bytes
  have hMX : cO.maxLocals = 4 := hml0
  have hOW : s.vm.findClass "com/example/lean_limiter/leanlimiter/Algorithm" = some m.cls := findClass_of_methodNamed Bd.named
  have hNM := (name_of_methodNamed Bd.named Bd.method).1
  have hLK := Bd.notSynchronized
  have hRT := Bd.returns
  have X0 : Stand p l e ({ frames := 0, cells := 0, slots := 0, locals := 0 } : Room) s m #[(.long x), (.long y)] below meth cO s₁ [] 0 0 := Stand.of_body Bd
  have e0 : s₁.heap = h0 := by rw [← hh, Bd.state]; rfl
  have N0 := Fr.nil n0
  have K0 : Keep h0 h0 [] := Keep.refl _ _
  show Done p e below s (Qrm_dru Z x y h0 n0) ({ frames := 0, cells := 0, slots := 0, locals := 0 } : Room).cells ({ frames := 0, cells := 0, slots := 0, locals := 0 } : Room).slots (s₁.setTop (entryFrame m #[(.long x), (.long y)] 4))
  refine Done.pre (fun t_ k_ => castTop (ef_rm_dru m x y) k_) ?_
  show Done _ _ _ _ _ _ _ (s₁.setTop (mkF m 0 #[Lv x, Zs, Lv y, Zs] []))
  have sg_1 : ∀ tt_, Steps p.tables e below (s₁.setTop (mkF m 8 #[Lv x, Zs, Lv y, Zs] [(.int (lcmpW (x % y) (0 : Int64))), (.long (x / y))])) tt_ → Steps p.tables e below (s₁.setTop (mkF m 0 #[Lv x, Zs, Lv y, Zs] [])) tt_ := by
    intro tt_ kt_
    refine XS.lloadN X0.here hEX rfl (hb hBY d_prog_6_method_6_code_0) rfl ?_
    show Steps p.tables e below (s₁.setTop (mkF m 1 #[Lv x, Zs, Lv y, Zs] [(.long x)])) tt_
    refine XS.lloadN X0.here hEX rfl (hb hBY d_prog_6_method_6_code_1) rfl ?_
    show Steps p.tables e below (s₁.setTop (mkF m 2 #[Lv x, Zs, Lv y, Zs] [(.long y), (.long x)])) tt_
    refine XS.ldiv X0.here hEX rfl (hb hBY d_prog_6_method_6_code_2) rfl hy ?_
    show Steps p.tables e below (s₁.setTop (mkF m 3 #[Lv x, Zs, Lv y, Zs] [(.long (x / y))])) tt_
    refine XS.lloadN X0.here hEX rfl (hb hBY d_prog_6_method_6_code_3) rfl ?_
    show Steps p.tables e below (s₁.setTop (mkF m 4 #[Lv x, Zs, Lv y, Zs] [(.long x), (.long (x / y))])) tt_
    refine XS.lloadN X0.here hEX rfl (hb hBY d_prog_6_method_6_code_4) rfl ?_
    show Steps p.tables e below (s₁.setTop (mkF m 5 #[Lv x, Zs, Lv y, Zs] [(.long y), (.long x), (.long (x / y))])) tt_
    refine XS.lrem X0.here hEX rfl (hb hBY d_prog_6_method_6_code_5) rfl hy ?_
    rw [lrem_mod x y]
    show Steps p.tables e below (s₁.setTop (mkF m 6 #[Lv x, Zs, Lv y, Zs] [(.long (x % y)), (.long (x / y))])) tt_
    refine XS.lconst X0.here hEX rfl (hb hBY d_prog_6_method_6_code_6) ?_
    show Steps p.tables e below (s₁.setTop (mkF m 7 #[Lv x, Zs, Lv y, Zs] [(.long (0 : Int64)), (.long (x % y)), (.long (x / y))])) tt_
    refine XS.lcmp X0.here hEX rfl (hb hBY d_prog_6_method_6_code_7) rfl ?_
    exact kt_
  refine Done.pre sg_1 ?_
  by_cases hc8 : (x % y) = (0 : Int64)
  · skip
    have sg_2 : ∀ tt_, Steps p.tables e below (s₁.setTop (mkF m 18 #[Lv x, Zs, Lv y, Zs] [(.long ((x / y) + ((0 : Int32).toInt64)))])) tt_ → Steps p.tables e below (s₁.setTop (mkF m 8 #[Lv x, Zs, Lv y, Zs] [(.int (lcmpW (x % y) (0 : Int64))), (.long (x / y))])) tt_ := by
      intro tt_ kt_
      refine XS.ifNo X0.here hEX rfl (hb hBY d_prog_6_method_6_code_8) rfl ((if0 _ _).trans (teq ((lw_eq _ _).mpr hc8)).2) ?_
      show Steps p.tables e below (s₁.setTop (mkF m 11 #[Lv x, Zs, Lv y, Zs] [(.long (x / y))])) tt_
      refine XS.iconst X0.here hEX rfl (hb hBY d_prog_6_method_6_code_11) ?_
      show Steps p.tables e below (s₁.setTop (mkF m 12 #[Lv x, Zs, Lv y, Zs] [(.int (0 : Int32)), (.long (x / y))])) tt_
      refine XS.goto X0.here hEX rfl (pc0 := 12) (pc' := 16) rfl (hb hBY d_prog_6_method_6_code_12) (by decide) (by decide) ?_
      show Steps p.tables e below (s₁.setTop (mkF m 16 #[Lv x, Zs, Lv y, Zs] [(.int (0 : Int32)), (.long (x / y))])) tt_
      refine XS.i2l X0.here hEX rfl (hb hBY d_prog_6_method_6_code_16) rfl ?_
      show Steps p.tables e below (s₁.setTop (mkF m 17 #[Lv x, Zs, Lv y, Zs] [(.long ((0 : Int32).toInt64)), (.long (x / y))])) tt_
      refine XS.ladd X0.here hEX rfl (hb hBY d_prog_6_method_6_code_17) rfl ?_
      exact kt_
    refine Done.pre sg_2 ?_
    exact Done.retL X0 hEX hLK hRT (hb hBY d_prog_6_method_6_code_18) (by rw [e0]; exact ⟨(by rw [own_dru, if_pos hc8]), N0, rfl⟩) (by decide) (by decide)
  · skip
    have sg_3 : ∀ tt_, Steps p.tables e below (s₁.setTop (mkF m 18 #[Lv x, Zs, Lv y, Zs] [(.long ((x / y) + ((1 : Int32).toInt64)))])) tt_ → Steps p.tables e below (s₁.setTop (mkF m 8 #[Lv x, Zs, Lv y, Zs] [(.int (lcmpW (x % y) (0 : Int64))), (.long (x / y))])) tt_ := by
      intro tt_ kt_
      refine XS.ifYes X0.here hEX rfl (pc0 := 8) (pc' := 15) rfl (hb hBY d_prog_6_method_6_code_8) rfl ((if0 _ _).trans (feq (fun q => hc8 ((lw_eq _ _).mp q))).2) (by decide) (by decide) ?_
      show Steps p.tables e below (s₁.setTop (mkF m 15 #[Lv x, Zs, Lv y, Zs] [(.long (x / y))])) tt_
      refine XS.iconst X0.here hEX rfl (hb hBY d_prog_6_method_6_code_15) ?_
      show Steps p.tables e below (s₁.setTop (mkF m 16 #[Lv x, Zs, Lv y, Zs] [(.int (1 : Int32)), (.long (x / y))])) tt_
      refine XS.i2l X0.here hEX rfl (hb hBY d_prog_6_method_6_code_16) rfl ?_
      show Steps p.tables e below (s₁.setTop (mkF m 17 #[Lv x, Zs, Lv y, Zs] [(.long ((1 : Int32).toInt64)), (.long (x / y))])) tt_
      refine XS.ladd X0.here hEX rfl (hb hBY d_prog_6_method_6_code_17) rfl ?_
      exact kt_
    refine Done.pre sg_3 ?_
    exact Done.retL X0 hEX hLK hRT (hb hBY d_prog_6_method_6_code_18) (by rw [e0]; exact ⟨(by rw [own_dru, if_neg hc8]), N0, rfl⟩) (by decide) (by decide)
theorem pd__JJ_J_0 : parseMethodDescriptor "(JJ)J" = some ⟨[.long, .long], some .long⟩ := by decide +kernel
def Qrm0 (Z : State) (q1 : Int64) (q2 : Int64) (p3 : Int32) (h0 : Heap) (n0 : Nat) (v_ : Option Value) (h_ : Heap) (L_ : List Loc) : Prop := v_ = some (.int (1 : Int32)) ∧ Fr n0 L_ ∧ h_ = h0
theorem ef_rm0 (m : MethodId) (x0 : Int64) (x1 : Int64) (x2 : Int32) : entryFrame m #[(.long x0), (.long x1), (.int x2)] maxLocals = mkF m 0 #[.val (.long x0), .second, .val (.long x1), .second, .val (.int x2), .unset, .unset, .unset, .unset, .unset, .unset, .unset, .unset, .unset, .unset] [] := by first | (simp [entryFrame, mkF, argsToLocals, Value.category, maxLocals]; done) | rfl
theorem pn_com_example_lean_limiter_leanlimiter_AlgorithmDivideRoundingUpPinLaw : plainName "com/example/lean_limiter/leanlimiter/AlgorithmDivideRoundingUpPinLaw" = true := by first | (simp [plainName, overriddenIn]; done) | decide +kernel
set_option maxRecDepth 65536 in
set_option maxHeartbeats 40000000 in
theorem rm0 (l : Launch) (Z : State) (aZ : Array Value) (hw : ∀ d ∈ tables_1, d.before aZ Z = true) (ws : List Jvm.Cond) (q1 : Int64) (q2 : Int64) (p3 : Int32) (h0 : Heap) (n0 : Nat) (Z0 : n0 ≤ h0.size) :
    MetFree l x (head1 (Jvm.Cond.code x code maxLocals ret :: ws) room_1) (fun a_ U_ => a_ = #[(.long q1), (.long q2), (.int p3)] ∧ Z.Warmed39 U_.vm ∧ U_.heap = h0) (fun _ _ _ _ _ => True) (fun _ U_ o_ U2_ => ∃ v_ L_, o_ = .returned v_ ∧ Qrm0 Z q1 q2 p3 h0 n0 v_ U2_.heap L_ ∧ FrameEnd U_ o_ U2_ L_ room_1.cells room_1.slots) := by
  refine MetFree.of_bodySF (plainFor_of_name pn_com_example_lean_limiter_leanlimiter_AlgorithmDivideRoundingUpPinLaw) hisR ?_
  intro p e s m args below meth cO s₁ Bd hml0 hP hK
  obtain ⟨rfl, hZW, hh⟩ := hP
  have hEX := Bd.exec
  have hBY := Bd.bytes
  have hMX : cO.maxLocals = 15 := hml0
  have hOW : s.vm.findClass "com/example/lean_limiter/leanlimiter/AlgorithmDivideRoundingUpPinLaw" = some m.cls := findClass_of_methodNamed Bd.named
  have hNM := (name_of_methodNamed Bd.named Bd.method).1
  have hLK := Bd.notSynchronized
  have hRT := Bd.returns
  have X0 : Stand p l e room_1 s m #[(.long q1), (.long q2), (.int p3)] below meth cO s₁ [] 0 0 := Stand.of_body Bd
  have e0 : s₁.heap = h0 := by rw [← hh, Bd.state]; rfl
  have N0 := Fr.nil n0
  have K0 : Keep h0 h0 [] := Keep.refl _ _
  show Done p e below s (Qrm0 Z q1 q2 p3 h0 n0) room_1.cells room_1.slots (s₁.setTop (entryFrame m #[(.long q1), (.long q2), (.int p3)] maxLocals))
  refine Done.pre (fun t_ k_ => castTop (ef_rm0 m q1 q2 p3) k_) ?_
  show Done _ _ _ _ _ _ _ (s₁.setTop (mkF m 0 #[Lv q1, Zs, Lv q2, Zs, Iv p3, Us, Us, Us, Us, Us, Us, Us, Us, Us, Us] []))
  have sg_1 : ∀ tt_, Steps p.tables e below (s₁.setTop (mkF m 7 #[Lv q1, Zs, Lv q2, Zs, Iv p3, Lv (q2 &&& (9223372036854775807 : Int64)), Zs, Us, Us, Us, Us, Us, Us, Us, Us] [])) tt_ → Steps p.tables e below (s₁.setTop (mkF m 0 #[Lv q1, Zs, Lv q2, Zs, Iv p3, Us, Us, Us, Us, Us, Us, Us, Us, Us, Us] [])) tt_ := by
    intro tt_ kt_
    refine XS.lloadN X0.here hEX rfl (hb hBY at_0) rfl ?_
    show Steps p.tables e below (s₁.setTop (mkF m 1 #[Lv q1, Zs, Lv q2, Zs, Iv p3, Us, Us, Us, Us, Us, Us, Us, Us, Us, Us] [(.long q2)])) tt_
    refine X0.ldc2Long hEX hOW (mvT hZW (hw _ (List.mem_of_getElem? (i := 0) rfl))) (g := (mkF m 1 #[Lv q1, Zs, Lv q2, Zs, Iv p3, Us, Us, Us, Us, Us, Us, Us, Us, Us, Us] [(.long q2)])) rfl (hb hBY at_1) _ ?_
    show Steps p.tables e below (s₁.setTop (mkF m 4 #[Lv q1, Zs, Lv q2, Zs, Iv p3, Us, Us, Us, Us, Us, Us, Us, Us, Us, Us] [(.long (9223372036854775807 : Int64)), (.long q2)])) tt_
    refine XS.land X0.here hEX rfl (hb hBY at_4) rfl ?_
    show Steps p.tables e below (s₁.setTop (mkF m 5 #[Lv q1, Zs, Lv q2, Zs, Iv p3, Us, Us, Us, Us, Us, Us, Us, Us, Us, Us] [(.long (q2 &&& (9223372036854775807 : Int64)))])) tt_
    refine XS.lstore X0.here hEX rfl (hb hBY at_5) rfl (l' := #[Lv q1, Zs, Lv q2, Zs, Iv p3, Lv (q2 &&& (9223372036854775807 : Int64)), Zs, Us, Us, Us, Us, Us, Us, Us, Us]) rfl ?_
    exact kt_
  refine Done.pre sg_1 ?_
  have jn_2 : ∀ (dv : Int64) (hdv : 1 ≤ dv.toInt), Done p e below s (Qrm0 Z q1 q2 p3 h0 n0) room_1.cells room_1.slots (s₁.setTop (mkF m 33 #[Lv q1, Zs, Lv q2, Zs, Iv p3, Lv dv, Zs, Us, Us, Us, Us, Us, Us, Us, Us] [])) := by
    intro dv hdv
    show Done _ _ _ _ _ _ _ (s₁.setTop (mkF m 33 #[Lv q1, Zs, Lv q2, Zs, Iv p3, Lv dv, Zs, Us, Us, Us, Us, Us, Us, Us, Us] []))
    have sg_3 : ∀ tt_, Steps p.tables e below (s₁.setTop (mkF m 40 #[Lv q1, Zs, Lv q2, Zs, Iv p3, Lv dv, Zs, Lv (q1 &&& (9223372036854775807 : Int64)), Zs, Us, Us, Us, Us, Us, Us] [])) tt_ → Steps p.tables e below (s₁.setTop (mkF m 33 #[Lv q1, Zs, Lv q2, Zs, Iv p3, Lv dv, Zs, Us, Us, Us, Us, Us, Us, Us, Us] [])) tt_ := by
      intro tt_ kt_
      refine XS.lloadN X0.here hEX rfl (hb hBY at_33) rfl ?_
      show Steps p.tables e below (s₁.setTop (mkF m 34 #[Lv q1, Zs, Lv q2, Zs, Iv p3, Lv dv, Zs, Us, Us, Us, Us, Us, Us, Us, Us] [(.long q1)])) tt_
      refine X0.ldc2Long hEX hOW (mvT hZW (hw _ (List.mem_of_getElem? (i := 0) rfl))) (g := (mkF m 34 #[Lv q1, Zs, Lv q2, Zs, Iv p3, Lv dv, Zs, Us, Us, Us, Us, Us, Us, Us, Us] [(.long q1)])) rfl (hb hBY at_34) _ ?_
      show Steps p.tables e below (s₁.setTop (mkF m 37 #[Lv q1, Zs, Lv q2, Zs, Iv p3, Lv dv, Zs, Us, Us, Us, Us, Us, Us, Us, Us] [(.long (9223372036854775807 : Int64)), (.long q1)])) tt_
      refine XS.land X0.here hEX rfl (hb hBY at_37) rfl ?_
      show Steps p.tables e below (s₁.setTop (mkF m 38 #[Lv q1, Zs, Lv q2, Zs, Iv p3, Lv dv, Zs, Us, Us, Us, Us, Us, Us, Us, Us] [(.long (q1 &&& (9223372036854775807 : Int64)))])) tt_
      refine XS.lstore X0.here hEX rfl (hb hBY at_38) rfl (l' := #[Lv q1, Zs, Lv q2, Zs, Iv p3, Lv dv, Zs, Lv (q1 &&& (9223372036854775807 : Int64)), Zs, Us, Us, Us, Us, Us, Us]) rfl ?_
      exact kt_
    refine Done.pre sg_3 ?_
    have jn_4 : ∀ (dd : Int64) (hdd : 0 ≤ dd.toInt), Done p e below s (Qrm0 Z q1 q2 p3 h0 n0) room_1.cells room_1.slots (s₁.setTop (mkF m 57 #[Lv q1, Zs, Lv q2, Zs, Iv p3, Lv dv, Zs, Lv dd, Zs, Us, Us, Us, Us, Us, Us] [])) := by
      intro dd hdd
      show Done _ _ _ _ _ _ _ (s₁.setTop (mkF m 57 #[Lv q1, Zs, Lv q2, Zs, Iv p3, Lv dv, Zs, Lv dd, Zs, Us, Us, Us, Us, Us, Us] []))
      have sg_5 : ∀ tt_, Steps p.tables e below (s₁.setTop (mkF m 61 #[Lv q1, Zs, Lv q2, Zs, Iv p3, Lv dv, Zs, Lv dd, Zs, Us, Us, Us, Us, Us, Us] [(.long dv), (.long dd)])) tt_ → Steps p.tables e below (s₁.setTop (mkF m 57 #[Lv q1, Zs, Lv q2, Zs, Iv p3, Lv dv, Zs, Lv dd, Zs, Us, Us, Us, Us, Us, Us] [])) tt_ := by
        intro tt_ kt_
        refine XS.lload X0.here hEX rfl (hb hBY at_57) rfl ?_
        show Steps p.tables e below (s₁.setTop (mkF m 59 #[Lv q1, Zs, Lv q2, Zs, Iv p3, Lv dv, Zs, Lv dd, Zs, Us, Us, Us, Us, Us, Us] [(.long dd)])) tt_
        refine XS.lload X0.here hEX rfl (hb hBY at_59) rfl ?_
        exact kt_
      refine Done.pre sg_5 ?_
      obtain ⟨_, _, ⟨T_6, L_6, k_6, n_6⟩, -, X_6, ⟨Lc_6, hQ_6, l_6, y_6, z_6⟩, st_6⟩ := Jvm.LawKit.callS X0 hEX (y := (⟨"com/example/lean_limiter/leanlimiter/Algorithm", "divideRoundingUp", "(JJ)J"⟩ : MethodName)) hOW (mvT hZW (hw _ (List.mem_of_getElem? (i := 1) rfl))) (mvT hZW (hw _ (List.mem_of_getElem? (i := 2) rfl))) (mvT hZW (hw _ (List.mem_of_getElem? (i := 3) rfl))) (mvT hZW (hw _ (List.mem_of_getElem? (i := 4) rfl))) (by decide) (backOf (W := 0) (rm_dru l Z aZ hw [] dd dv h0 n0 (Nat.le_trans Z0 K0.1) (own_nz dv hdv)) hZW (hw _ (List.mem_of_getElem? (i := 4) rfl)) (hw _ (List.mem_of_getElem? (i := 3) rfl)) (by decide) (by decide)) (g := (mkF m 61 #[Lv q1, Zs, Lv q2, Zs, Iv p3, Lv dv, Zs, Lv dd, Zs, Us, Us, Us, Us, Us, Us] [(.long dv), (.long dd)])) rfl (by rw [hMX]; rfl) (argsL := [(.long dd), (.long dv)]) (rest := []) (lenOf pd__JJ_J_0 rfl) rfl (by show 2 * 0 + _ ≤ _; exact Nat.le_of_eq rfl) (hb hBY at_61) (fun _ _ => ⟨rfl, e0, (by decide : 0 + 0 ≤ _), (by decide : 0 + 0 ≤ _)⟩)
      dsimp only [Pt.U, Pt.locs, Pt.cells, Pt.slots] at X_6 l_6 y_6 z_6 st_6 hQ_6
      subst l_6 y_6 z_6
      obtain ⟨rfl, N_6q, e_6⟩ := hQ_6
      have N_6 := Fr.app N0 N_6q
      refine Done.pre (fun _ k_ => st_6 _ k_) ?_
      show Done _ _ _ _ _ _ _ (T_6.setTop (mkF m 64 #[Lv q1, Zs, Lv q2, Zs, Iv p3, Lv dv, Zs, Lv dd, Zs, Us, Us, Us, Us, Us, Us] [(.long (own_dru dd dv))]))
      have sg_7 : ∀ tt_, Steps p.tables e below (T_6.setTop (mkF m 70 #[Lv q1, Zs, Lv q2, Zs, Iv p3, Lv dv, Zs, Lv dd, Zs, Lv (own_dru dd dv), Zs, Us, Us, Us, Us] [(.int (lcmpW dd (0 : Int64)))])) tt_ → Steps p.tables e below (T_6.setTop (mkF m 64 #[Lv q1, Zs, Lv q2, Zs, Iv p3, Lv dv, Zs, Lv dd, Zs, Us, Us, Us, Us, Us, Us] [(.long (own_dru dd dv))])) tt_ := by
        intro tt_ kt_
        refine XS.lstore X_6.here hEX rfl (hb hBY at_64) rfl (l' := #[Lv q1, Zs, Lv q2, Zs, Iv p3, Lv dv, Zs, Lv dd, Zs, Lv (own_dru dd dv), Zs, Us, Us, Us, Us]) rfl ?_
        show Steps p.tables e below (T_6.setTop (mkF m 66 #[Lv q1, Zs, Lv q2, Zs, Iv p3, Lv dv, Zs, Lv dd, Zs, Lv (own_dru dd dv), Zs, Us, Us, Us, Us] [])) tt_
        refine XS.lload X_6.here hEX rfl (hb hBY at_66) rfl ?_
        show Steps p.tables e below (T_6.setTop (mkF m 68 #[Lv q1, Zs, Lv q2, Zs, Iv p3, Lv dv, Zs, Lv dd, Zs, Lv (own_dru dd dv), Zs, Us, Us, Us, Us] [(.long dd)])) tt_
        refine XS.lconst X_6.here hEX rfl (hb hBY at_68) ?_
        show Steps p.tables e below (T_6.setTop (mkF m 69 #[Lv q1, Zs, Lv q2, Zs, Iv p3, Lv dv, Zs, Lv dd, Zs, Lv (own_dru dd dv), Zs, Us, Us, Us, Us] [(.long (0 : Int64)), (.long dd)])) tt_
        refine XS.lcmp X_6.here hEX rfl (hb hBY at_69) rfl ?_
        exact kt_
      refine Done.pre sg_7 ?_
      by_cases hc70 : dd = (0 : Int64)
      · skip
        have sg_8 : ∀ tt_, Steps p.tables e below (T_6.setTop (mkF m 85 #[Lv q1, Zs, Lv q2, Zs, Iv p3, Lv dv, Zs, Lv dd, Zs, Lv (own_dru dd dv), Zs, Us, Us, Us, Us] [(.int (1 : Int32))])) tt_ → Steps p.tables e below (T_6.setTop (mkF m 70 #[Lv q1, Zs, Lv q2, Zs, Iv p3, Lv dv, Zs, Lv dd, Zs, Lv (own_dru dd dv), Zs, Us, Us, Us, Us] [(.int (lcmpW dd (0 : Int64)))])) tt_ := by
          intro tt_ kt_
          refine XS.ifNo X_6.here hEX rfl (hb hBY at_70) rfl ((if0 _ _).trans (teq ((lw_eq _ _).mpr hc70)).2) ?_
          show Steps p.tables e below (T_6.setTop (mkF m 73 #[Lv q1, Zs, Lv q2, Zs, Iv p3, Lv dv, Zs, Lv dd, Zs, Lv (own_dru dd dv), Zs, Us, Us, Us, Us] [])) tt_
          refine XS.lload X_6.here hEX rfl (hb hBY at_73) rfl ?_
          show Steps p.tables e below (T_6.setTop (mkF m 75 #[Lv q1, Zs, Lv q2, Zs, Iv p3, Lv dv, Zs, Lv dd, Zs, Lv (own_dru dd dv), Zs, Us, Us, Us, Us] [(.long (own_dru dd dv))])) tt_
          refine XS.lconst X_6.here hEX rfl (hb hBY at_75) ?_
          show Steps p.tables e below (T_6.setTop (mkF m 76 #[Lv q1, Zs, Lv q2, Zs, Iv p3, Lv dv, Zs, Lv dd, Zs, Lv (own_dru dd dv), Zs, Us, Us, Us, Us] [(.long (0 : Int64)), (.long (own_dru dd dv))])) tt_
          refine XS.lcmp X_6.here hEX rfl (hb hBY at_76) rfl ?_
          show Steps p.tables e below (T_6.setTop (mkF m 77 #[Lv q1, Zs, Lv q2, Zs, Iv p3, Lv dv, Zs, Lv dd, Zs, Lv (own_dru dd dv), Zs, Us, Us, Us, Us] [(.int (lcmpW (own_dru dd dv) (0 : Int64)))])) tt_
          refine XS.ifNo X_6.here hEX rfl (hb hBY at_77) rfl ((if0 _ _).trans (teq ((lw_eq _ _).mpr (own_law0 dd dv hc70 hdv : (own_dru dd dv) = (0 : Int64)))).2) ?_
          show Steps p.tables e below (T_6.setTop (mkF m 80 #[Lv q1, Zs, Lv q2, Zs, Iv p3, Lv dv, Zs, Lv dd, Zs, Lv (own_dru dd dv), Zs, Us, Us, Us, Us] [])) tt_
          refine XS.iconst X_6.here hEX rfl (hb hBY at_80) ?_
          show Steps p.tables e below (T_6.setTop (mkF m 81 #[Lv q1, Zs, Lv q2, Zs, Iv p3, Lv dv, Zs, Lv dd, Zs, Lv (own_dru dd dv), Zs, Us, Us, Us, Us] [(.int (1 : Int32))])) tt_
          refine XS.goto X_6.here hEX rfl (pc0 := 81) (pc' := 85) rfl (hb hBY at_81) (by decide) (by decide) ?_
          exact kt_
        refine Done.pre sg_8 ?_
        exact Done.retN X_6 hEX hLK (t := .boolean) hRT (by simp) (hb hBY at_85) (by rw [e_6]; exact ⟨rfl, N_6, rfl⟩) (by decide) (by decide)
      · skip
        have sg_9 : ∀ tt_, Steps p.tables e below (T_6.setTop (mkF m 154 #[Lv q1, Zs, Lv q2, Zs, Iv p3, Lv dv, Zs, Lv dd, Zs, Lv (own_dru dd dv), Zs, Lv (((dd - (1 : Int64)) / dv) + (1 : Int64)), Zs, Lv (dd - (((own_dru dd dv) - (1 : Int64)) * dv)), Zs] [(.int (1 : Int32))])) tt_ → Steps p.tables e below (T_6.setTop (mkF m 70 #[Lv q1, Zs, Lv q2, Zs, Iv p3, Lv dv, Zs, Lv dd, Zs, Lv (own_dru dd dv), Zs, Us, Us, Us, Us] [(.int (lcmpW dd (0 : Int64)))])) tt_ := by
          intro tt_ kt_
          refine XS.ifYes X_6.here hEX rfl (pc0 := 70) (pc' := 86) rfl (hb hBY at_70) rfl ((if0 _ _).trans (feq (fun q => hc70 ((lw_eq _ _).mp q))).2) (by decide) (by decide) ?_
          show Steps p.tables e below (T_6.setTop (mkF m 86 #[Lv q1, Zs, Lv q2, Zs, Iv p3, Lv dv, Zs, Lv dd, Zs, Lv (own_dru dd dv), Zs, Us, Us, Us, Us] [])) tt_
          refine XS.lload X_6.here hEX rfl (hb hBY at_86) rfl ?_
          show Steps p.tables e below (T_6.setTop (mkF m 88 #[Lv q1, Zs, Lv q2, Zs, Iv p3, Lv dv, Zs, Lv dd, Zs, Lv (own_dru dd dv), Zs, Us, Us, Us, Us] [(.long dd)])) tt_
          refine XS.lconst X_6.here hEX rfl (hb hBY at_88) ?_
          show Steps p.tables e below (T_6.setTop (mkF m 89 #[Lv q1, Zs, Lv q2, Zs, Iv p3, Lv dv, Zs, Lv dd, Zs, Lv (own_dru dd dv), Zs, Us, Us, Us, Us] [(.long (1 : Int64)), (.long dd)])) tt_
          refine XS.lsub X_6.here hEX rfl (hb hBY at_89) rfl ?_
          show Steps p.tables e below (T_6.setTop (mkF m 90 #[Lv q1, Zs, Lv q2, Zs, Iv p3, Lv dv, Zs, Lv dd, Zs, Lv (own_dru dd dv), Zs, Us, Us, Us, Us] [(.long (dd - (1 : Int64)))])) tt_
          refine XS.lload X_6.here hEX rfl (hb hBY at_90) rfl ?_
          show Steps p.tables e below (T_6.setTop (mkF m 92 #[Lv q1, Zs, Lv q2, Zs, Iv p3, Lv dv, Zs, Lv dd, Zs, Lv (own_dru dd dv), Zs, Us, Us, Us, Us] [(.long dv), (.long (dd - (1 : Int64)))])) tt_
          refine XS.ldiv X_6.here hEX rfl (hb hBY at_92) rfl (own_nz dv hdv) ?_
          show Steps p.tables e below (T_6.setTop (mkF m 93 #[Lv q1, Zs, Lv q2, Zs, Iv p3, Lv dv, Zs, Lv dd, Zs, Lv (own_dru dd dv), Zs, Us, Us, Us, Us] [(.long ((dd - (1 : Int64)) / dv))])) tt_
          refine XS.lconst X_6.here hEX rfl (hb hBY at_93) ?_
          show Steps p.tables e below (T_6.setTop (mkF m 94 #[Lv q1, Zs, Lv q2, Zs, Iv p3, Lv dv, Zs, Lv dd, Zs, Lv (own_dru dd dv), Zs, Us, Us, Us, Us] [(.long (1 : Int64)), (.long ((dd - (1 : Int64)) / dv))])) tt_
          refine XS.ladd X_6.here hEX rfl (hb hBY at_94) rfl ?_
          show Steps p.tables e below (T_6.setTop (mkF m 95 #[Lv q1, Zs, Lv q2, Zs, Iv p3, Lv dv, Zs, Lv dd, Zs, Lv (own_dru dd dv), Zs, Us, Us, Us, Us] [(.long (((dd - (1 : Int64)) / dv) + (1 : Int64)))])) tt_
          refine XS.lstore X_6.here hEX rfl (hb hBY at_95) rfl (l' := #[Lv q1, Zs, Lv q2, Zs, Iv p3, Lv dv, Zs, Lv dd, Zs, Lv (own_dru dd dv), Zs, Lv (((dd - (1 : Int64)) / dv) + (1 : Int64)), Zs, Us, Us]) rfl ?_
          show Steps p.tables e below (T_6.setTop (mkF m 97 #[Lv q1, Zs, Lv q2, Zs, Iv p3, Lv dv, Zs, Lv dd, Zs, Lv (own_dru dd dv), Zs, Lv (((dd - (1 : Int64)) / dv) + (1 : Int64)), Zs, Us, Us] [])) tt_
          refine XS.lload X_6.here hEX rfl (hb hBY at_97) rfl ?_
          show Steps p.tables e below (T_6.setTop (mkF m 99 #[Lv q1, Zs, Lv q2, Zs, Iv p3, Lv dv, Zs, Lv dd, Zs, Lv (own_dru dd dv), Zs, Lv (((dd - (1 : Int64)) / dv) + (1 : Int64)), Zs, Us, Us] [(.long (own_dru dd dv))])) tt_
          refine XS.lload X_6.here hEX rfl (hb hBY at_99) rfl ?_
          show Steps p.tables e below (T_6.setTop (mkF m 101 #[Lv q1, Zs, Lv q2, Zs, Iv p3, Lv dv, Zs, Lv dd, Zs, Lv (own_dru dd dv), Zs, Lv (((dd - (1 : Int64)) / dv) + (1 : Int64)), Zs, Us, Us] [(.long (((dd - (1 : Int64)) / dv) + (1 : Int64))), (.long (own_dru dd dv))])) tt_
          refine XS.lcmp X_6.here hEX rfl (hb hBY at_101) rfl ?_
          show Steps p.tables e below (T_6.setTop (mkF m 102 #[Lv q1, Zs, Lv q2, Zs, Iv p3, Lv dv, Zs, Lv dd, Zs, Lv (own_dru dd dv), Zs, Lv (((dd - (1 : Int64)) / dv) + (1 : Int64)), Zs, Us, Us] [(.int (lcmpW (own_dru dd dv) (((dd - (1 : Int64)) / dv) + (1 : Int64))))])) tt_
          refine XS.ifYes X_6.here hEX rfl (pc0 := 102) (pc' := 107) rfl (hb hBY at_102) rfl ((if0 _ _).trans (teq ((lw_eq _ _).mpr ((own_law dd dv hdd hc70 hdv).1 : (own_dru dd dv) = (((dd - (1 : Int64)) / dv) + (1 : Int64))))).1) (by decide) (by decide) ?_
          show Steps p.tables e below (T_6.setTop (mkF m 107 #[Lv q1, Zs, Lv q2, Zs, Iv p3, Lv dv, Zs, Lv dd, Zs, Lv (own_dru dd dv), Zs, Lv (((dd - (1 : Int64)) / dv) + (1 : Int64)), Zs, Us, Us] [])) tt_
          refine XS.lload X_6.here hEX rfl (hb hBY at_107) rfl ?_
          show Steps p.tables e below (T_6.setTop (mkF m 109 #[Lv q1, Zs, Lv q2, Zs, Iv p3, Lv dv, Zs, Lv dd, Zs, Lv (own_dru dd dv), Zs, Lv (((dd - (1 : Int64)) / dv) + (1 : Int64)), Zs, Us, Us] [(.long dd)])) tt_
          refine XS.lload X_6.here hEX rfl (hb hBY at_109) rfl ?_
          show Steps p.tables e below (T_6.setTop (mkF m 111 #[Lv q1, Zs, Lv q2, Zs, Iv p3, Lv dv, Zs, Lv dd, Zs, Lv (own_dru dd dv), Zs, Lv (((dd - (1 : Int64)) / dv) + (1 : Int64)), Zs, Us, Us] [(.long (own_dru dd dv)), (.long dd)])) tt_
          refine XS.lconst X_6.here hEX rfl (hb hBY at_111) ?_
          show Steps p.tables e below (T_6.setTop (mkF m 112 #[Lv q1, Zs, Lv q2, Zs, Iv p3, Lv dv, Zs, Lv dd, Zs, Lv (own_dru dd dv), Zs, Lv (((dd - (1 : Int64)) / dv) + (1 : Int64)), Zs, Us, Us] [(.long (1 : Int64)), (.long (own_dru dd dv)), (.long dd)])) tt_
          refine XS.lsub X_6.here hEX rfl (hb hBY at_112) rfl ?_
          show Steps p.tables e below (T_6.setTop (mkF m 113 #[Lv q1, Zs, Lv q2, Zs, Iv p3, Lv dv, Zs, Lv dd, Zs, Lv (own_dru dd dv), Zs, Lv (((dd - (1 : Int64)) / dv) + (1 : Int64)), Zs, Us, Us] [(.long ((own_dru dd dv) - (1 : Int64))), (.long dd)])) tt_
          refine XS.lload X_6.here hEX rfl (hb hBY at_113) rfl ?_
          show Steps p.tables e below (T_6.setTop (mkF m 115 #[Lv q1, Zs, Lv q2, Zs, Iv p3, Lv dv, Zs, Lv dd, Zs, Lv (own_dru dd dv), Zs, Lv (((dd - (1 : Int64)) / dv) + (1 : Int64)), Zs, Us, Us] [(.long dv), (.long ((own_dru dd dv) - (1 : Int64))), (.long dd)])) tt_
          refine XS.lmul X_6.here hEX rfl (hb hBY at_115) rfl ?_
          show Steps p.tables e below (T_6.setTop (mkF m 116 #[Lv q1, Zs, Lv q2, Zs, Iv p3, Lv dv, Zs, Lv dd, Zs, Lv (own_dru dd dv), Zs, Lv (((dd - (1 : Int64)) / dv) + (1 : Int64)), Zs, Us, Us] [(.long (((own_dru dd dv) - (1 : Int64)) * dv)), (.long dd)])) tt_
          refine XS.lsub X_6.here hEX rfl (hb hBY at_116) rfl ?_
          show Steps p.tables e below (T_6.setTop (mkF m 117 #[Lv q1, Zs, Lv q2, Zs, Iv p3, Lv dv, Zs, Lv dd, Zs, Lv (own_dru dd dv), Zs, Lv (((dd - (1 : Int64)) / dv) + (1 : Int64)), Zs, Us, Us] [(.long (dd - (((own_dru dd dv) - (1 : Int64)) * dv)))])) tt_
          refine XS.lstore X_6.here hEX rfl (hb hBY at_117) rfl (l' := #[Lv q1, Zs, Lv q2, Zs, Iv p3, Lv dv, Zs, Lv dd, Zs, Lv (own_dru dd dv), Zs, Lv (((dd - (1 : Int64)) / dv) + (1 : Int64)), Zs, Lv (dd - (((own_dru dd dv) - (1 : Int64)) * dv)), Zs]) rfl ?_
          show Steps p.tables e below (T_6.setTop (mkF m 119 #[Lv q1, Zs, Lv q2, Zs, Iv p3, Lv dv, Zs, Lv dd, Zs, Lv (own_dru dd dv), Zs, Lv (((dd - (1 : Int64)) / dv) + (1 : Int64)), Zs, Lv (dd - (((own_dru dd dv) - (1 : Int64)) * dv)), Zs] [])) tt_
          refine XS.lload X_6.here hEX rfl (hb hBY at_119) rfl ?_
          show Steps p.tables e below (T_6.setTop (mkF m 121 #[Lv q1, Zs, Lv q2, Zs, Iv p3, Lv dv, Zs, Lv dd, Zs, Lv (own_dru dd dv), Zs, Lv (((dd - (1 : Int64)) / dv) + (1 : Int64)), Zs, Lv (dd - (((own_dru dd dv) - (1 : Int64)) * dv)), Zs] [(.long (own_dru dd dv))])) tt_
          refine XS.lconst X_6.here hEX rfl (hb hBY at_121) ?_
          show Steps p.tables e below (T_6.setTop (mkF m 122 #[Lv q1, Zs, Lv q2, Zs, Iv p3, Lv dv, Zs, Lv dd, Zs, Lv (own_dru dd dv), Zs, Lv (((dd - (1 : Int64)) / dv) + (1 : Int64)), Zs, Lv (dd - (((own_dru dd dv) - (1 : Int64)) * dv)), Zs] [(.long (1 : Int64)), (.long (own_dru dd dv))])) tt_
          refine XS.lcmp X_6.here hEX rfl (hb hBY at_122) rfl ?_
          show Steps p.tables e below (T_6.setTop (mkF m 123 #[Lv q1, Zs, Lv q2, Zs, Iv p3, Lv dv, Zs, Lv dd, Zs, Lv (own_dru dd dv), Zs, Lv (((dd - (1 : Int64)) / dv) + (1 : Int64)), Zs, Lv (dd - (((own_dru dd dv) - (1 : Int64)) * dv)), Zs] [(.int (lcmpW (own_dru dd dv) (1 : Int64)))])) tt_
          refine XS.ifNo X_6.here hEX rfl (hb hBY at_123) rfl ((if0 _ _).trans (flt (fun q => ((own_law dd dv hdd hc70 hdv).2.1 : ¬ ((own_dru dd dv) < (1 : Int64))) ((lw_lt _ _).mp q))).1) ?_
          show Steps p.tables e below (T_6.setTop (mkF m 126 #[Lv q1, Zs, Lv q2, Zs, Iv p3, Lv dv, Zs, Lv dd, Zs, Lv (own_dru dd dv), Zs, Lv (((dd - (1 : Int64)) / dv) + (1 : Int64)), Zs, Lv (dd - (((own_dru dd dv) - (1 : Int64)) * dv)), Zs] [])) tt_
          refine XS.lload X_6.here hEX rfl (hb hBY at_126) rfl ?_
          show Steps p.tables e below (T_6.setTop (mkF m 128 #[Lv q1, Zs, Lv q2, Zs, Iv p3, Lv dv, Zs, Lv dd, Zs, Lv (own_dru dd dv), Zs, Lv (((dd - (1 : Int64)) / dv) + (1 : Int64)), Zs, Lv (dd - (((own_dru dd dv) - (1 : Int64)) * dv)), Zs] [(.long (own_dru dd dv))])) tt_
          refine XS.lload X_6.here hEX rfl (hb hBY at_128) rfl ?_
          show Steps p.tables e below (T_6.setTop (mkF m 130 #[Lv q1, Zs, Lv q2, Zs, Iv p3, Lv dv, Zs, Lv dd, Zs, Lv (own_dru dd dv), Zs, Lv (((dd - (1 : Int64)) / dv) + (1 : Int64)), Zs, Lv (dd - (((own_dru dd dv) - (1 : Int64)) * dv)), Zs] [(.long dd), (.long (own_dru dd dv))])) tt_
          refine XS.lcmp X_6.here hEX rfl (hb hBY at_130) rfl ?_
          show Steps p.tables e below (T_6.setTop (mkF m 131 #[Lv q1, Zs, Lv q2, Zs, Iv p3, Lv dv, Zs, Lv dd, Zs, Lv (own_dru dd dv), Zs, Lv (((dd - (1 : Int64)) / dv) + (1 : Int64)), Zs, Lv (dd - (((own_dru dd dv) - (1 : Int64)) * dv)), Zs] [(.int (lcmpW (own_dru dd dv) dd))])) tt_
          refine XS.ifNo X_6.here hEX rfl (hb hBY at_131) rfl ((if0 _ _).trans (flt (fun q => ((own_law dd dv hdd hc70 hdv).2.2.1 : ¬ (dd < (own_dru dd dv))) ((lw_gt _ _).mp q))).2.2.1) ?_
          show Steps p.tables e below (T_6.setTop (mkF m 134 #[Lv q1, Zs, Lv q2, Zs, Iv p3, Lv dv, Zs, Lv dd, Zs, Lv (own_dru dd dv), Zs, Lv (((dd - (1 : Int64)) / dv) + (1 : Int64)), Zs, Lv (dd - (((own_dru dd dv) - (1 : Int64)) * dv)), Zs] [])) tt_
          refine XS.lload X_6.here hEX rfl (hb hBY at_134) rfl ?_
          show Steps p.tables e below (T_6.setTop (mkF m 136 #[Lv q1, Zs, Lv q2, Zs, Iv p3, Lv dv, Zs, Lv dd, Zs, Lv (own_dru dd dv), Zs, Lv (((dd - (1 : Int64)) / dv) + (1 : Int64)), Zs, Lv (dd - (((own_dru dd dv) - (1 : Int64)) * dv)), Zs] [(.long (dd - (((own_dru dd dv) - (1 : Int64)) * dv)))])) tt_
          refine XS.lconst X_6.here hEX rfl (hb hBY at_136) ?_
          show Steps p.tables e below (T_6.setTop (mkF m 137 #[Lv q1, Zs, Lv q2, Zs, Iv p3, Lv dv, Zs, Lv dd, Zs, Lv (own_dru dd dv), Zs, Lv (((dd - (1 : Int64)) / dv) + (1 : Int64)), Zs, Lv (dd - (((own_dru dd dv) - (1 : Int64)) * dv)), Zs] [(.long (1 : Int64)), (.long (dd - (((own_dru dd dv) - (1 : Int64)) * dv)))])) tt_
          refine XS.lcmp X_6.here hEX rfl (hb hBY at_137) rfl ?_
          show Steps p.tables e below (T_6.setTop (mkF m 138 #[Lv q1, Zs, Lv q2, Zs, Iv p3, Lv dv, Zs, Lv dd, Zs, Lv (own_dru dd dv), Zs, Lv (((dd - (1 : Int64)) / dv) + (1 : Int64)), Zs, Lv (dd - (((own_dru dd dv) - (1 : Int64)) * dv)), Zs] [(.int (lcmpW (dd - (((own_dru dd dv) - (1 : Int64)) * dv)) (1 : Int64)))])) tt_
          refine XS.ifNo X_6.here hEX rfl (hb hBY at_138) rfl ((if0 _ _).trans (flt (fun q => ((own_law dd dv hdd hc70 hdv).2.2.2.1 : ¬ ((dd - (((own_dru dd dv) - (1 : Int64)) * dv)) < (1 : Int64))) ((lw_lt _ _).mp q))).1) ?_
          show Steps p.tables e below (T_6.setTop (mkF m 141 #[Lv q1, Zs, Lv q2, Zs, Iv p3, Lv dv, Zs, Lv dd, Zs, Lv (own_dru dd dv), Zs, Lv (((dd - (1 : Int64)) / dv) + (1 : Int64)), Zs, Lv (dd - (((own_dru dd dv) - (1 : Int64)) * dv)), Zs] [])) tt_
          refine XS.lload X_6.here hEX rfl (hb hBY at_141) rfl ?_
          show Steps p.tables e below (T_6.setTop (mkF m 143 #[Lv q1, Zs, Lv q2, Zs, Iv p3, Lv dv, Zs, Lv dd, Zs, Lv (own_dru dd dv), Zs, Lv (((dd - (1 : Int64)) / dv) + (1 : Int64)), Zs, Lv (dd - (((own_dru dd dv) - (1 : Int64)) * dv)), Zs] [(.long (dd - (((own_dru dd dv) - (1 : Int64)) * dv)))])) tt_
          refine XS.lload X_6.here hEX rfl (hb hBY at_143) rfl ?_
          show Steps p.tables e below (T_6.setTop (mkF m 145 #[Lv q1, Zs, Lv q2, Zs, Iv p3, Lv dv, Zs, Lv dd, Zs, Lv (own_dru dd dv), Zs, Lv (((dd - (1 : Int64)) / dv) + (1 : Int64)), Zs, Lv (dd - (((own_dru dd dv) - (1 : Int64)) * dv)), Zs] [(.long dv), (.long (dd - (((own_dru dd dv) - (1 : Int64)) * dv)))])) tt_
          refine XS.lcmp X_6.here hEX rfl (hb hBY at_145) rfl ?_
          show Steps p.tables e below (T_6.setTop (mkF m 146 #[Lv q1, Zs, Lv q2, Zs, Iv p3, Lv dv, Zs, Lv dd, Zs, Lv (own_dru dd dv), Zs, Lv (((dd - (1 : Int64)) / dv) + (1 : Int64)), Zs, Lv (dd - (((own_dru dd dv) - (1 : Int64)) * dv)), Zs] [(.int (lcmpW (dd - (((own_dru dd dv) - (1 : Int64)) * dv)) dv))])) tt_
          refine XS.ifNo X_6.here hEX rfl (hb hBY at_146) rfl ((if0 _ _).trans (flt (fun q => ((own_law dd dv hdd hc70 hdv).2.2.2.2 : ¬ (dv < (dd - (((own_dru dd dv) - (1 : Int64)) * dv)))) ((lw_gt _ _).mp q))).2.2.1) ?_
          show Steps p.tables e below (T_6.setTop (mkF m 149 #[Lv q1, Zs, Lv q2, Zs, Iv p3, Lv dv, Zs, Lv dd, Zs, Lv (own_dru dd dv), Zs, Lv (((dd - (1 : Int64)) / dv) + (1 : Int64)), Zs, Lv (dd - (((own_dru dd dv) - (1 : Int64)) * dv)), Zs] [])) tt_
          refine XS.iconst X_6.here hEX rfl (hb hBY at_149) ?_
          show Steps p.tables e below (T_6.setTop (mkF m 150 #[Lv q1, Zs, Lv q2, Zs, Iv p3, Lv dv, Zs, Lv dd, Zs, Lv (own_dru dd dv), Zs, Lv (((dd - (1 : Int64)) / dv) + (1 : Int64)), Zs, Lv (dd - (((own_dru dd dv) - (1 : Int64)) * dv)), Zs] [(.int (1 : Int32))])) tt_
          refine XS.goto X_6.here hEX rfl (pc0 := 150) (pc' := 154) rfl (hb hBY at_150) (by decide) (by decide) ?_
          exact kt_
        refine Done.pre sg_9 ?_
        exact Done.retN X_6 hEX hLK (t := .boolean) hRT (by simp) (hb hBY at_154) (by rw [e_6]; exact ⟨rfl, N_6, rfl⟩) (by decide) (by decide)
    show Done _ _ _ _ _ _ _ (s₁.setTop (mkF m 40 #[Lv q1, Zs, Lv q2, Zs, Iv p3, Lv dv, Zs, Lv (q1 &&& (9223372036854775807 : Int64)), Zs, Us, Us, Us, Us, Us, Us] []))
    have sg_10 : ∀ tt_, Steps p.tables e below (s₁.setTop (mkF m 44 #[Lv q1, Zs, Lv q2, Zs, Iv p3, Lv dv, Zs, Lv (q1 &&& (9223372036854775807 : Int64)), Zs, Us, Us, Us, Us, Us, Us] [(.int (p3 &&& (1 : Int32)))])) tt_ → Steps p.tables e below (s₁.setTop (mkF m 40 #[Lv q1, Zs, Lv q2, Zs, Iv p3, Lv dv, Zs, Lv (q1 &&& (9223372036854775807 : Int64)), Zs, Us, Us, Us, Us, Us, Us] [])) tt_ := by
      intro tt_ kt_
      refine XS.iload X0.here hEX rfl (hb hBY at_40) rfl ?_
      show Steps p.tables e below (s₁.setTop (mkF m 42 #[Lv q1, Zs, Lv q2, Zs, Iv p3, Lv dv, Zs, Lv (q1 &&& (9223372036854775807 : Int64)), Zs, Us, Us, Us, Us, Us, Us] [(.int p3)])) tt_
      refine XS.iconst X0.here hEX rfl (hb hBY at_42) ?_
      show Steps p.tables e below (s₁.setTop (mkF m 43 #[Lv q1, Zs, Lv q2, Zs, Iv p3, Lv dv, Zs, Lv (q1 &&& (9223372036854775807 : Int64)), Zs, Us, Us, Us, Us, Us, Us] [(.int (1 : Int32)), (.int p3)])) tt_
      refine XS.iand X0.here hEX rfl (hb hBY at_43) rfl ?_
      exact kt_
    refine Done.pre sg_10 ?_
    by_cases hc44 : (p3 &&& (1 : Int32)) = (0 : Int32)
    · skip
      have sg_11 : ∀ tt_, Steps p.tables e below (s₁.setTop (mkF m 57 #[Lv q1, Zs, Lv q2, Zs, Iv p3, Lv dv, Zs, Lv (q1 &&& (9223372036854775807 : Int64)), Zs, Us, Us, Us, Us, Us, Us] [])) tt_ → Steps p.tables e below (s₁.setTop (mkF m 44 #[Lv q1, Zs, Lv q2, Zs, Iv p3, Lv dv, Zs, Lv (q1 &&& (9223372036854775807 : Int64)), Zs, Us, Us, Us, Us, Us, Us] [(.int (p3 &&& (1 : Int32)))])) tt_ := by
        intro tt_ kt_
        refine XS.ifYes X0.here hEX rfl (pc0 := 44) (pc' := 57) rfl (hb hBY at_44) rfl ((if0 _ _).trans (teq hc44).1) (by decide) (by decide) ?_
        exact kt_
      refine Done.pre sg_11 ?_
      exact jn_4 ((q1 &&& (9223372036854775807 : Int64))) (by first | exact own_dd _ _ (by assumption) | exact own_m63 _)
    · skip
      have sg_12 : ∀ tt_, Steps p.tables e below (s₁.setTop (mkF m 57 #[Lv q1, Zs, Lv q2, Zs, Iv p3, Lv dv, Zs, Lv (((q1 &&& (9223372036854775807 : Int64)) / dv) * dv), Zs, Us, Us, Us, Us, Us, Us] [])) tt_ → Steps p.tables e below (s₁.setTop (mkF m 44 #[Lv q1, Zs, Lv q2, Zs, Iv p3, Lv dv, Zs, Lv (q1 &&& (9223372036854775807 : Int64)), Zs, Us, Us, Us, Us, Us, Us] [(.int (p3 &&& (1 : Int32)))])) tt_ := by
        intro tt_ kt_
        refine XS.ifNo X0.here hEX rfl (hb hBY at_44) rfl ((if0 _ _).trans (feq hc44).1) ?_
        show Steps p.tables e below (s₁.setTop (mkF m 47 #[Lv q1, Zs, Lv q2, Zs, Iv p3, Lv dv, Zs, Lv (q1 &&& (9223372036854775807 : Int64)), Zs, Us, Us, Us, Us, Us, Us] [])) tt_
        refine XS.lload X0.here hEX rfl (hb hBY at_47) rfl ?_
        show Steps p.tables e below (s₁.setTop (mkF m 49 #[Lv q1, Zs, Lv q2, Zs, Iv p3, Lv dv, Zs, Lv (q1 &&& (9223372036854775807 : Int64)), Zs, Us, Us, Us, Us, Us, Us] [(.long (q1 &&& (9223372036854775807 : Int64)))])) tt_
        refine XS.lload X0.here hEX rfl (hb hBY at_49) rfl ?_
        show Steps p.tables e below (s₁.setTop (mkF m 51 #[Lv q1, Zs, Lv q2, Zs, Iv p3, Lv dv, Zs, Lv (q1 &&& (9223372036854775807 : Int64)), Zs, Us, Us, Us, Us, Us, Us] [(.long dv), (.long (q1 &&& (9223372036854775807 : Int64)))])) tt_
        refine XS.ldiv X0.here hEX rfl (hb hBY at_51) rfl (own_nz dv hdv) ?_
        show Steps p.tables e below (s₁.setTop (mkF m 52 #[Lv q1, Zs, Lv q2, Zs, Iv p3, Lv dv, Zs, Lv (q1 &&& (9223372036854775807 : Int64)), Zs, Us, Us, Us, Us, Us, Us] [(.long ((q1 &&& (9223372036854775807 : Int64)) / dv))])) tt_
        refine XS.lload X0.here hEX rfl (hb hBY at_52) rfl ?_
        show Steps p.tables e below (s₁.setTop (mkF m 54 #[Lv q1, Zs, Lv q2, Zs, Iv p3, Lv dv, Zs, Lv (q1 &&& (9223372036854775807 : Int64)), Zs, Us, Us, Us, Us, Us, Us] [(.long dv), (.long ((q1 &&& (9223372036854775807 : Int64)) / dv))])) tt_
        refine XS.lmul X0.here hEX rfl (hb hBY at_54) rfl ?_
        show Steps p.tables e below (s₁.setTop (mkF m 55 #[Lv q1, Zs, Lv q2, Zs, Iv p3, Lv dv, Zs, Lv (q1 &&& (9223372036854775807 : Int64)), Zs, Us, Us, Us, Us, Us, Us] [(.long (((q1 &&& (9223372036854775807 : Int64)) / dv) * dv))])) tt_
        refine XS.lstore X0.here hEX rfl (hb hBY at_55) rfl (l' := #[Lv q1, Zs, Lv q2, Zs, Iv p3, Lv dv, Zs, Lv (((q1 &&& (9223372036854775807 : Int64)) / dv) * dv), Zs, Us, Us, Us, Us, Us, Us]) rfl ?_
        exact kt_
      refine Done.pre sg_12 ?_
      exact jn_4 ((((q1 &&& (9223372036854775807 : Int64)) / dv) * dv)) (by first | exact own_dd _ _ (by assumption) | exact own_m63 _)
  show Done _ _ _ _ _ _ _ (s₁.setTop (mkF m 7 #[Lv q1, Zs, Lv q2, Zs, Iv p3, Lv (q2 &&& (9223372036854775807 : Int64)), Zs, Us, Us, Us, Us, Us, Us, Us, Us] []))
  have sg_13 : ∀ tt_, Steps p.tables e below (s₁.setTop (mkF m 11 #[Lv q1, Zs, Lv q2, Zs, Iv p3, Lv (q2 &&& (9223372036854775807 : Int64)), Zs, Us, Us, Us, Us, Us, Us, Us, Us] [(.int (p3 &&& (4 : Int32)))])) tt_ → Steps p.tables e below (s₁.setTop (mkF m 7 #[Lv q1, Zs, Lv q2, Zs, Iv p3, Lv (q2 &&& (9223372036854775807 : Int64)), Zs, Us, Us, Us, Us, Us, Us, Us, Us] [])) tt_ := by
    intro tt_ kt_
    refine XS.iload X0.here hEX rfl (hb hBY at_7) rfl ?_
    show Steps p.tables e below (s₁.setTop (mkF m 9 #[Lv q1, Zs, Lv q2, Zs, Iv p3, Lv (q2 &&& (9223372036854775807 : Int64)), Zs, Us, Us, Us, Us, Us, Us, Us, Us] [(.int p3)])) tt_
    refine XS.iconst X0.here hEX rfl (hb hBY at_9) ?_
    show Steps p.tables e below (s₁.setTop (mkF m 10 #[Lv q1, Zs, Lv q2, Zs, Iv p3, Lv (q2 &&& (9223372036854775807 : Int64)), Zs, Us, Us, Us, Us, Us, Us, Us, Us] [(.int (4 : Int32)), (.int p3)])) tt_
    refine XS.iand X0.here hEX rfl (hb hBY at_10) rfl ?_
    exact kt_
  refine Done.pre sg_13 ?_
  by_cases hc11 : (p3 &&& (4 : Int32)) = (0 : Int32)
  · skip
    have sg_14 : ∀ tt_, Steps p.tables e below (s₁.setTop (mkF m 27 #[Lv q1, Zs, Lv q2, Zs, Iv p3, Lv (q2 &&& (9223372036854775807 : Int64)), Zs, Us, Us, Us, Us, Us, Us, Us, Us] [(.int (lcmpW (q2 &&& (9223372036854775807 : Int64)) (0 : Int64)))])) tt_ → Steps p.tables e below (s₁.setTop (mkF m 11 #[Lv q1, Zs, Lv q2, Zs, Iv p3, Lv (q2 &&& (9223372036854775807 : Int64)), Zs, Us, Us, Us, Us, Us, Us, Us, Us] [(.int (p3 &&& (4 : Int32)))])) tt_ := by
      intro tt_ kt_
      refine XS.ifYes X0.here hEX rfl (pc0 := 11) (pc' := 23) rfl (hb hBY at_11) rfl ((if0 _ _).trans (teq hc11).1) (by decide) (by decide) ?_
      show Steps p.tables e below (s₁.setTop (mkF m 23 #[Lv q1, Zs, Lv q2, Zs, Iv p3, Lv (q2 &&& (9223372036854775807 : Int64)), Zs, Us, Us, Us, Us, Us, Us, Us, Us] [])) tt_
      refine XS.lload X0.here hEX rfl (hb hBY at_23) rfl ?_
      show Steps p.tables e below (s₁.setTop (mkF m 25 #[Lv q1, Zs, Lv q2, Zs, Iv p3, Lv (q2 &&& (9223372036854775807 : Int64)), Zs, Us, Us, Us, Us, Us, Us, Us, Us] [(.long (q2 &&& (9223372036854775807 : Int64)))])) tt_
      refine XS.lconst X0.here hEX rfl (hb hBY at_25) ?_
      show Steps p.tables e below (s₁.setTop (mkF m 26 #[Lv q1, Zs, Lv q2, Zs, Iv p3, Lv (q2 &&& (9223372036854775807 : Int64)), Zs, Us, Us, Us, Us, Us, Us, Us, Us] [(.long (0 : Int64)), (.long (q2 &&& (9223372036854775807 : Int64)))])) tt_
      refine XS.lcmp X0.here hEX rfl (hb hBY at_26) rfl ?_
      exact kt_
    refine Done.pre sg_14 ?_
    by_cases hc27 : (q2 &&& (9223372036854775807 : Int64)) = (0 : Int64)
    · skip
      have sg_15 : ∀ tt_, Steps p.tables e below (s₁.setTop (mkF m 33 #[Lv q1, Zs, Lv q2, Zs, Iv p3, Lv (1 : Int64), Zs, Us, Us, Us, Us, Us, Us, Us, Us] [])) tt_ → Steps p.tables e below (s₁.setTop (mkF m 27 #[Lv q1, Zs, Lv q2, Zs, Iv p3, Lv (q2 &&& (9223372036854775807 : Int64)), Zs, Us, Us, Us, Us, Us, Us, Us, Us] [(.int (lcmpW (q2 &&& (9223372036854775807 : Int64)) (0 : Int64)))])) tt_ := by
        intro tt_ kt_
        refine XS.ifNo X0.here hEX rfl (hb hBY at_27) rfl ((if0 _ _).trans (teq ((lw_eq _ _).mpr hc27)).2) ?_
        show Steps p.tables e below (s₁.setTop (mkF m 30 #[Lv q1, Zs, Lv q2, Zs, Iv p3, Lv (q2 &&& (9223372036854775807 : Int64)), Zs, Us, Us, Us, Us, Us, Us, Us, Us] [])) tt_
        refine XS.lconst X0.here hEX rfl (hb hBY at_30) ?_
        show Steps p.tables e below (s₁.setTop (mkF m 31 #[Lv q1, Zs, Lv q2, Zs, Iv p3, Lv (q2 &&& (9223372036854775807 : Int64)), Zs, Us, Us, Us, Us, Us, Us, Us, Us] [(.long (1 : Int64))])) tt_
        refine XS.lstore X0.here hEX rfl (hb hBY at_31) rfl (l' := #[Lv q1, Zs, Lv q2, Zs, Iv p3, Lv (1 : Int64), Zs, Us, Us, Us, Us, Us, Us, Us, Us]) rfl ?_
        exact kt_
      refine Done.pre sg_15 ?_
      exact jn_2 ((1 : Int64)) (by first | exact own_d2 _ | exact own_d1 _ (by assumption) | decide)
    · skip
      have sg_16 : ∀ tt_, Steps p.tables e below (s₁.setTop (mkF m 33 #[Lv q1, Zs, Lv q2, Zs, Iv p3, Lv (q2 &&& (9223372036854775807 : Int64)), Zs, Us, Us, Us, Us, Us, Us, Us, Us] [])) tt_ → Steps p.tables e below (s₁.setTop (mkF m 27 #[Lv q1, Zs, Lv q2, Zs, Iv p3, Lv (q2 &&& (9223372036854775807 : Int64)), Zs, Us, Us, Us, Us, Us, Us, Us, Us] [(.int (lcmpW (q2 &&& (9223372036854775807 : Int64)) (0 : Int64)))])) tt_ := by
        intro tt_ kt_
        refine XS.ifYes X0.here hEX rfl (pc0 := 27) (pc' := 33) rfl (hb hBY at_27) rfl ((if0 _ _).trans (feq (fun q => hc27 ((lw_eq _ _).mp q))).2) (by decide) (by decide) ?_
        exact kt_
      refine Done.pre sg_16 ?_
      exact jn_2 ((q2 &&& (9223372036854775807 : Int64))) (by first | exact own_d2 _ | exact own_d1 _ (by assumption) | decide)
  · skip
    have sg_17 : ∀ tt_, Steps p.tables e below (s₁.setTop (mkF m 27 #[Lv q1, Zs, Lv q2, Zs, Iv p3, Lv ((q2 &&& (4095 : Int64)) + (1 : Int64)), Zs, Us, Us, Us, Us, Us, Us, Us, Us] [(.int (lcmpW ((q2 &&& (4095 : Int64)) + (1 : Int64)) (0 : Int64)))])) tt_ → Steps p.tables e below (s₁.setTop (mkF m 11 #[Lv q1, Zs, Lv q2, Zs, Iv p3, Lv (q2 &&& (9223372036854775807 : Int64)), Zs, Us, Us, Us, Us, Us, Us, Us, Us] [(.int (p3 &&& (4 : Int32)))])) tt_ := by
      intro tt_ kt_
      refine XS.ifNo X0.here hEX rfl (hb hBY at_11) rfl ((if0 _ _).trans (feq hc11).1) ?_
      show Steps p.tables e below (s₁.setTop (mkF m 14 #[Lv q1, Zs, Lv q2, Zs, Iv p3, Lv (q2 &&& (9223372036854775807 : Int64)), Zs, Us, Us, Us, Us, Us, Us, Us, Us] [])) tt_
      refine XS.lloadN X0.here hEX rfl (hb hBY at_14) rfl ?_
      show Steps p.tables e below (s₁.setTop (mkF m 15 #[Lv q1, Zs, Lv q2, Zs, Iv p3, Lv (q2 &&& (9223372036854775807 : Int64)), Zs, Us, Us, Us, Us, Us, Us, Us, Us] [(.long q2)])) tt_
      refine X0.ldc2Long hEX hOW (mvT hZW (hw _ (List.mem_of_getElem? (i := 5) rfl))) (g := (mkF m 15 #[Lv q1, Zs, Lv q2, Zs, Iv p3, Lv (q2 &&& (9223372036854775807 : Int64)), Zs, Us, Us, Us, Us, Us, Us, Us, Us] [(.long q2)])) rfl (hb hBY at_15) _ ?_
      show Steps p.tables e below (s₁.setTop (mkF m 18 #[Lv q1, Zs, Lv q2, Zs, Iv p3, Lv (q2 &&& (9223372036854775807 : Int64)), Zs, Us, Us, Us, Us, Us, Us, Us, Us] [(.long (4095 : Int64)), (.long q2)])) tt_
      refine XS.land X0.here hEX rfl (hb hBY at_18) rfl ?_
      show Steps p.tables e below (s₁.setTop (mkF m 19 #[Lv q1, Zs, Lv q2, Zs, Iv p3, Lv (q2 &&& (9223372036854775807 : Int64)), Zs, Us, Us, Us, Us, Us, Us, Us, Us] [(.long (q2 &&& (4095 : Int64)))])) tt_
      refine XS.lconst X0.here hEX rfl (hb hBY at_19) ?_
      show Steps p.tables e below (s₁.setTop (mkF m 20 #[Lv q1, Zs, Lv q2, Zs, Iv p3, Lv (q2 &&& (9223372036854775807 : Int64)), Zs, Us, Us, Us, Us, Us, Us, Us, Us] [(.long (1 : Int64)), (.long (q2 &&& (4095 : Int64)))])) tt_
      refine XS.ladd X0.here hEX rfl (hb hBY at_20) rfl ?_
      show Steps p.tables e below (s₁.setTop (mkF m 21 #[Lv q1, Zs, Lv q2, Zs, Iv p3, Lv (q2 &&& (9223372036854775807 : Int64)), Zs, Us, Us, Us, Us, Us, Us, Us, Us] [(.long ((q2 &&& (4095 : Int64)) + (1 : Int64)))])) tt_
      refine XS.lstore X0.here hEX rfl (hb hBY at_21) rfl (l' := #[Lv q1, Zs, Lv q2, Zs, Iv p3, Lv ((q2 &&& (4095 : Int64)) + (1 : Int64)), Zs, Us, Us, Us, Us, Us, Us, Us, Us]) rfl ?_
      show Steps p.tables e below (s₁.setTop (mkF m 23 #[Lv q1, Zs, Lv q2, Zs, Iv p3, Lv ((q2 &&& (4095 : Int64)) + (1 : Int64)), Zs, Us, Us, Us, Us, Us, Us, Us, Us] [])) tt_
      refine XS.lload X0.here hEX rfl (hb hBY at_23) rfl ?_
      show Steps p.tables e below (s₁.setTop (mkF m 25 #[Lv q1, Zs, Lv q2, Zs, Iv p3, Lv ((q2 &&& (4095 : Int64)) + (1 : Int64)), Zs, Us, Us, Us, Us, Us, Us, Us, Us] [(.long ((q2 &&& (4095 : Int64)) + (1 : Int64)))])) tt_
      refine XS.lconst X0.here hEX rfl (hb hBY at_25) ?_
      show Steps p.tables e below (s₁.setTop (mkF m 26 #[Lv q1, Zs, Lv q2, Zs, Iv p3, Lv ((q2 &&& (4095 : Int64)) + (1 : Int64)), Zs, Us, Us, Us, Us, Us, Us, Us, Us] [(.long (0 : Int64)), (.long ((q2 &&& (4095 : Int64)) + (1 : Int64)))])) tt_
      refine XS.lcmp X0.here hEX rfl (hb hBY at_26) rfl ?_
      exact kt_
    refine Done.pre sg_17 ?_
    by_cases hc27 : ((q2 &&& (4095 : Int64)) + (1 : Int64)) = (0 : Int64)
    · skip
      have sg_18 : ∀ tt_, Steps p.tables e below (s₁.setTop (mkF m 33 #[Lv q1, Zs, Lv q2, Zs, Iv p3, Lv (1 : Int64), Zs, Us, Us, Us, Us, Us, Us, Us, Us] [])) tt_ → Steps p.tables e below (s₁.setTop (mkF m 27 #[Lv q1, Zs, Lv q2, Zs, Iv p3, Lv ((q2 &&& (4095 : Int64)) + (1 : Int64)), Zs, Us, Us, Us, Us, Us, Us, Us, Us] [(.int (lcmpW ((q2 &&& (4095 : Int64)) + (1 : Int64)) (0 : Int64)))])) tt_ := by
        intro tt_ kt_
        refine XS.ifNo X0.here hEX rfl (hb hBY at_27) rfl ((if0 _ _).trans (teq ((lw_eq _ _).mpr hc27)).2) ?_
        show Steps p.tables e below (s₁.setTop (mkF m 30 #[Lv q1, Zs, Lv q2, Zs, Iv p3, Lv ((q2 &&& (4095 : Int64)) + (1 : Int64)), Zs, Us, Us, Us, Us, Us, Us, Us, Us] [])) tt_
        refine XS.lconst X0.here hEX rfl (hb hBY at_30) ?_
        show Steps p.tables e below (s₁.setTop (mkF m 31 #[Lv q1, Zs, Lv q2, Zs, Iv p3, Lv ((q2 &&& (4095 : Int64)) + (1 : Int64)), Zs, Us, Us, Us, Us, Us, Us, Us, Us] [(.long (1 : Int64))])) tt_
        refine XS.lstore X0.here hEX rfl (hb hBY at_31) rfl (l' := #[Lv q1, Zs, Lv q2, Zs, Iv p3, Lv (1 : Int64), Zs, Us, Us, Us, Us, Us, Us, Us, Us]) rfl ?_
        exact kt_
      refine Done.pre sg_18 ?_
      exact jn_2 ((1 : Int64)) (by first | exact own_d2 _ | exact own_d1 _ (by assumption) | decide)
    · skip
      have sg_19 : ∀ tt_, Steps p.tables e below (s₁.setTop (mkF m 33 #[Lv q1, Zs, Lv q2, Zs, Iv p3, Lv ((q2 &&& (4095 : Int64)) + (1 : Int64)), Zs, Us, Us, Us, Us, Us, Us, Us, Us] [])) tt_ → Steps p.tables e below (s₁.setTop (mkF m 27 #[Lv q1, Zs, Lv q2, Zs, Iv p3, Lv ((q2 &&& (4095 : Int64)) + (1 : Int64)), Zs, Us, Us, Us, Us, Us, Us, Us, Us] [(.int (lcmpW ((q2 &&& (4095 : Int64)) + (1 : Int64)) (0 : Int64)))])) tt_ := by
        intro tt_ kt_
        refine XS.ifYes X0.here hEX rfl (pc0 := 27) (pc' := 33) rfl (hb hBY at_27) rfl ((if0 _ _).trans (feq (fun q => hc27 ((lw_eq _ _).mp q))).2) (by decide) (by decide) ?_
        exact kt_
      refine Done.pre sg_19 ?_
      exact jn_2 (((q2 &&& (4095 : Int64)) + (1 : Int64))) (by first | exact own_d2 _ | exact own_d1 _ (by assumption) | decide)
set_option maxRecDepth 65536 in
set_option maxHeartbeats 40000000 in
theorem comes_1 {Post : Tables → Env → Array Value → State → Outcome → State → Prop} (hpost : ∀ tb e args s v u, (limb_1_1.after args s (.returned v) u = true ∧ limb_1_2.after args s (.returned v) u = true ∧ True) → FrameEnd s (.returned v) u (Jvm.fieldLocs frame_1_writes args s ++ Jvm.arrayLocs frame_1_arrays args s ++ Jvm.staticLocs frame_1_statics s) 0 0 → Post tb e args s (.returned v) u) :
    ArmFor flags0 classFile x code maxLocals ret World_1 tables_1 room_1 Calls_1 rest_1 Pre_1 Post := by
  intro l hfl _ _ p e ha hc hk s m args below hf hA hF happ hP
  obtain ⟨hcalls, hrest, hpre⟩ := hP
  obtain ⟨-, -, -, hnamed, -, -, -, hat⟩ := (Spec.applies_iff hf).mp happ
  obtain ⟨hg, hn⟩ := and_e (Cond.before_iff.mp (show (Jvm.Cond.and given_1 narrow_1).before args s = true from hpre))
  obtain ⟨g1a, g1b⟩ := and_e hg
  obtain ⟨g2a, g2b⟩ := and_e g1b
  obtain ⟨g3a, g3b⟩ := and_e g2b
  obtain ⟨w0, w1, w2, rfl⟩ : ∃ w0 w1 w2 : Value, args = #[w0, w1, w2] := by
    have hs : args.size = 3 := by simpa [Cond.value, given_1] using g1a
    obtain ⟨L⟩ := args
    match L, hs with
    | [w0, w1, w2], _ => exact ⟨w0, w1, w2, rfl⟩
  have hw := fun d (hd : d ∈ tables_1) => atoms_spec (ws := Jvm.Cond.code x code maxLocals ret :: tables_1) hat d (List.mem_cons_of_mem _ hd)
  have hfit : Fit s := fun {y c} hc i hi => by
    obtain ⟨ha, rfl⟩ := Array.getElem?_eq_some_iff.mp hc
    have q := List.all_eq_true.mp ((Array.all_eq_true_iff_forall_mem.mp hF) _ (Array.getElem_mem ha)) i (List.mem_range.mpr hi)
    simpa [Array.getElem?_eq_getElem hi] using q
  obtain ⟨i0, ei0⟩ := isL_v g2a
  obtain rfl : w0 = (.long i0) := Option.some.inj ei0
  obtain ⟨i1, ei1⟩ := isL_v g3a
  obtain rfl : w1 = (.long i1) := Option.some.inj ei1
  obtain ⟨i2, ei2⟩ := is_v g3b
  obtain rfl : w2 = (.int i2) := Option.some.inj ei2
  obtain ⟨n, o, h1, h2, h3, _, L, rfl, ⟨rfl, N, -⟩, hq⟩ := rm0 l s _ hw tables_1 i0 i1 i2  s.heap s.heap.size (Nat.le_refl _)  p e ha hc hk s m _ below hf ((Spec.applies_iff_loose hf).mp happ).1 ⟨rfl, State.Warmed39.refl s, rfl⟩ trivial
  refine ⟨n, _, h1, h2, h3, hpost _ _ _ _ _ _ ⟨Cond.after_iff.mpr rfl, Cond.after_iff.mpr (eq_i res_at (Term.int_eval (1)) rfl), trivial⟩ ⟨hq.1, hq.2.1, (hq.2.2.sift fun y hy => Or.inr (N y hy)).mono (by decide) (by decide)⟩⟩
theorem main_1_1 : Claimed_1_1 := comes_1 fun _ _ _ _ _ _ h hF => ⟨h.1, hF⟩
theorem main_1_2 : Claimed_1_2 := comes_1 fun _ _ _ _ _ _ h hF => ⟨h.2.1, hF⟩
end Jvm.Pilot.@@N@@
namespace Jvm.Pilot.@@N@@
open Jvm Jvm.ClassFile Sem Op Lib Jvm.Free Jvm.Stand Jvm.Pilot.@@N@@.Jvm.D
/-! MADE BY PROGRAM (witnessworld.py) out of the Statement's table words and the real class files: 9 classes; the members and pool entries that the words name. The judged class is class 1, her method 1. -/
namespace start1
open Jvm.ClassFile
def u (s : String) : CpInfo := .utf8 (stringToUtf16 s)
/-- a pool by its gaps: so many unusable entries, then the entry; so many at the end -/
def gap : Nat → List CpInfo → List CpInfo
  | 0, r => r
  | n + 1, r => .unusable :: gap n r
def poolList (es : List (Nat × CpInfo)) (last : Nat) : List CpInfo := es.foldr (fun e r => gap e.1 (e.2 :: r)) (gap last [])
def pool (es : List (Nat × CpInfo)) (last : Nat) : Array CpInfo := ⟨poolList es last⟩
def fileOf (pool : Array CpInfo) (this : Nat) (attrs : Array Attribute := #[]) (ms : Array MethodInfo := #[]) (fl : Nat := 33) (sup : Nat := 0) (ifs : Array Nat := #[]) (fds : Array FieldInfo := #[]) : ClassFile where
  minorVersion := 0
  majorVersion := 65
  constantPool := pool
  accessFlags := fl
  thisClass := this
  superClass := sup
  interfaces := ifs
  fields := fds
  methods := ms
  attributes := attrs
def plain (name : String) (sup : Option ClassId) : Class where
  name := name
  kind := .ordinary
  loader := none
  accessFlags := 33
  super := sup
  interfaces := #[]
  cf := none
  fields := #[]
  methods := #[]
  instanceTypes := #[]
  staticTypes := #[]
  resolved := #[]
  callSites := []
  init := .initialized
  statics := none
  mirror := none

def pool0 : Array CpInfo := pool [(5, u "<init>"), (0, u "()V"), (1, .class_ 10), (1, u "java/lang/Object")] 113

def k0m0 : Method := { name := "<init>", desc := "()V", sig := { parameters := [], returnType := none }, accessFlags := 1, code := none }
/-- java/lang/Object -/
def k0 : Class := { plain "java/lang/Object" none with
  accessFlags := 33
  interfaces := #[]
  cf := some (fileOf pool0 8 #[] #[{ accessFlags := 1, nameIndex := 5, descriptorIndex := 6, attributes := #[] }] 33 0 #[] #[])
  fields := #[]
  methods := #[k0m0]
  instanceTypes := #[]
  staticTypes := #[]
  resolved := Array.replicate 124 none
  statics := none }

def pool1 : Array CpInfo := pool [(2, .class_ 4), (1, u "java/lang/Object"), (0, u "<init>"), (0, u "()V"), (2, .long 9223372036854775807), (1, .long 4095), (1, .interfaceMethodref 14 15), (0, .class_ 16), (0, .nameAndType 17 18), (0, u "com/example/lean_limiter/leanlimiter/Algorithm"), (0, u "divideRoundingUp"), (0, u "(JJ)J"), (0, .class_ 20), (0, u "com/example/lean_limiter/leanlimiter/AlgorithmDivideRoundingUpPinLaw"), (2, u "law"), (0, u "(JJI)Z")] 3

def k1m0 : Method := { name := "<init>", desc := "()V", sig := { parameters := [], returnType := none }, accessFlags := 1, code := none }
def k1c1 : Code := { maxStack := 6, maxLocals := 15, code := code, exceptionTable := #[], attributes := #[] }
def k1m1 : Method := { name := "law", desc := "(JJI)Z", sig := { parameters := [.long, .long, .int], returnType := some .boolean }, accessFlags := 9, code := some k1c1 }
/-- com/example/lean_limiter/leanlimiter/AlgorithmDivideRoundingUpPinLaw -/
def k1 : Class := { plain "com/example/lean_limiter/leanlimiter/AlgorithmDivideRoundingUpPinLaw" (some 0) with
  accessFlags := 49
  interfaces := #[]
  cf := some (fileOf pool1 19 #[] #[{ accessFlags := 1, nameIndex := 5, descriptorIndex := 6, attributes := #[] }, { accessFlags := 9, nameIndex := 23, descriptorIndex := 24, attributes := #[] }] 49 2 #[] #[])
  fields := #[]
  methods := #[k1m0, k1m1]
  instanceTypes := #[]
  staticTypes := #[]
  resolved := Array.replicate 28 none
  statics := none }

def pool2 : Array CpInfo := pool [(9, .class_ 10), (0, u "com/example/lean_limiter/leanlimiter/Algorithm"), (0, .class_ 12), (0, u "java/lang/Object"), (16, u "divideRoundingUp"), (0, u "(JJ)J"), (5, .class_ 37), (0, u "com/example/lean_limiter/leanlimiter/Algorithm$Kind"), (0, .class_ 39), (0, u "com/example/lean_limiter/leanlimiter/Algorithm$Look"), (0, .class_ 41), (0, u "com/example/lean_limiter/leanlimiter/Algorithm$Outcome")] 4

def k2c0 : Code := { maxStack := 6, maxLocals := 4, code := prog_6_method_6_code, exceptionTable := #[], attributes := #[] }
def k2m0 : Method := { name := "divideRoundingUp", desc := "(JJ)J", sig := { parameters := [.long, .long], returnType := some .long }, accessFlags := 9, code := some k2c0 }
/-- com/example/lean_limiter/leanlimiter/Algorithm -/
def k2 : Class := { plain "com/example/lean_limiter/leanlimiter/Algorithm" (some 0) with
  accessFlags := 1536
  interfaces := #[]
  cf := some (fileOf pool2 9 #[.nestMembers #[36, 38, 40]] #[{ accessFlags := 9, nameIndex := 29, descriptorIndex := 30, attributes := #[] }] 1536 11 #[] #[])
  fields := #[]
  methods := #[k2m0]
  instanceTypes := #[]
  staticTypes := #[]
  resolved := Array.replicate 46 none
  statics := none }

def pool3 : Array CpInfo := pool [(1, u "java/lang/Cloneable"), (0, .class_ 1), (0, u "java/lang/Object"), (0, .class_ 3)] 3

/-- java/lang/Cloneable -/
def k3 : Class := { plain "java/lang/Cloneable" (some 0) with
  accessFlags := 1537
  interfaces := #[]
  cf := some (fileOf pool3 2 #[] #[] 1537 4 #[] #[])
  fields := #[]
  methods := #[]
  instanceTypes := #[]
  staticTypes := #[]
  resolved := Array.replicate 8 none
  statics := none }

def pool4 : Array CpInfo := pool [(1, u "java/io/Serializable"), (0, .class_ 1), (0, u "java/lang/Object"), (0, .class_ 3)] 3

/-- java/io/Serializable -/
def k4 : Class := { plain "java/io/Serializable" (some 0) with
  accessFlags := 1537
  interfaces := #[]
  cf := some (fileOf pool4 2 #[] #[] 1537 4 #[] #[])
  fields := #[]
  methods := #[]
  instanceTypes := #[]
  staticTypes := #[]
  resolved := Array.replicate 8 none
  statics := none }

/-- the primitive byte -/
def k5 : Class := { plain "byte" none with kind := .primitive 'B', accessFlags := 0x411 }
/-- [B -/
def k6 : Class := { plain "[B" (some 0) with kind := .array 5 .byte, interfaces := #[3, 4], accessFlags := 1041 }

/-- the primitive int -/
def k7 : Class := { plain "int" none with kind := .primitive 'I', accessFlags := 0x411 }
/-- [I -/
def k8 : Class := { plain "[I" (some 0) with kind := .array 7 .int, interfaces := #[3, 4], accessFlags := 1041 }

def heap : Heap := #[]
def classes : Array Class := #[k0, k1, k2, k3, k4, k5, k6, k7, k8]
def interned : List (Array UInt16 × Addr) := []
def slotsUsed : Nat := 0
def theMethod : MethodId := ⟨1, 1⟩
def args0 : Array Value := #[.long 5, .long 3, .int 5]
def aboutOver (below : List Frame) : State where
  vm := { classes := classes, interned := interned.toArray }
  heap := heap
  slotsUsed := slotsUsed
  threads := #[{ frames := .invoking theMethod args0 :: below }]
def below0 : List Frame := [.native { method := ⟨0, 0⟩, args := #[] }]
def about1 : State := aboutOver below0
def p0 : Program := .bare "" "" ""
def e0 : Env := launch0.env 0 0 0
theorem w_frames : about1.frames = Frame.invoking theMethod args0 :: below0 := rfl
set_option maxRecDepth 65536 in
theorem w_args : argsFit about1.vm theMethod args0 = true := by decide +kernel
set_option maxRecDepth 65536 in
theorem w_heap : heapFits about1 = true := by decide +kernel
set_option maxRecDepth 65536 in
theorem w_runnable : about1.curStatus? = some .runnable := by decide +kernel
set_option maxRecDepth 65536 in
theorem w_alone : about1.alone = true := by decide +kernel
set_option maxRecDepth 65536 in
theorem w_named : about1.methodNamed? x = some theMethod := by decide +kernel
set_option maxRecDepth 65536 in
theorem w_hears : about1.hears theMethod below0 = true := by decide +kernel
set_option maxRecDepth 65536 in
theorem w_ripe : about1.ripe theMethod args0 below0 = true := by decide +kernel
theorem w_running : about1.status = .running := rfl
set_option maxRecDepth 65536 in
theorem w_room : about1.hasRoom e0.platform room_1 = true :=
  launch0.hasRoom_least _ room_1 (by decide +kernel) (by decide +kernel) (by decide +kernel) (by decide +kernel) (by decide +kernel) (by decide +kernel)
theorem allAtoms_all (ts : List Jvm.Cond) (a : Array Jvm.Value) (st : Jvm.State) : (allAtoms ts).before a st = ts.all (fun c => c.before a st) := by
  induction ts with
  | nil => rfl
  | cons c t ih =>
    show (Jvm.Cond.and c (allAtoms t)).before a st = _
    rw [Jvm.Cond.before_and, ih, List.all_cons]
def words1 : List Jvm.Cond := Jvm.Cond.code x code maxLocals ret :: tables_1
/-- a 'code' word, met by the world's own term for the bytes: nothing is compared byte by byte -/
theorem code_word {y : MethodName} {bytes : ByteArray} {mx : Nat} {rt : Option FieldType} {a : Array Value} {s : State} {m : MethodId} {meth : Method} {c : Code} (h1 : s.methodNamed? y = some m) (h2 : s.vm.method? m = some meth) (h3 : meth.code = some c) (h4 : c.code = bytes)
    (h5 : (c.maxLocals == mx && c.exceptionTable.isEmpty && decide (c.maxStack ≤ mostOperands) && decide (meth.sig.returnType = rt) && !meth.locks && decide (parseMethodDescriptor y.desc = some meth.sig)) = true) : (Jvm.Cond.code y bytes mx rt).before a s = true := by
  simp only [Bool.and_eq_true, beq_iff_eq, Bool.not_eq_true', decide_eq_true_eq] at h5
  obtain ⟨⟨⟨⟨⟨g1, g2⟩, g3⟩, g4⟩, g5⟩, g6⟩ := h5
  simp [Cond.before, Cond.holds, Cond.value, h1, h2, h3, h4, g1, g2, g3, g4, g5, g6]
def isCode : Jvm.Cond → Bool
  | .code _ _ _ _ => true
  | _ => false
theorem all_split {L : List Jvm.Cond} {P : Jvm.Cond → Bool} (h1 : L.all (fun c => isCode c || P c) = true) (h2 : ∀ c ∈ L.filter isCode, P c = true) : L.all P = true := by
  refine List.all_eq_true.mpr fun c hc => ?_
  have h := List.all_eq_true.mp h1 c hc
  rcases Bool.eq_false_or_eq_true (isCode c) with hi | hi
  · exact h2 c (List.mem_filter.mpr ⟨hc, hi⟩)
  · simpa [hi] using h
set_option maxRecDepth 65536 in
theorem w_c0 : (Jvm.Cond.code x code maxLocals ret).before args0 about1 = true := code_word (m := ⟨1, 1⟩) (meth := k1m1) (c := k1c1) (by decide +kernel) rfl rfl rfl (by decide +kernel)
set_option maxRecDepth 65536 in
theorem w_c1 : (Jvm.Cond.code ({ cls := "com/example/lean_limiter/leanlimiter/Algorithm", name := "divideRoundingUp", desc := "(JJ)J" } : Jvm.MethodName) prog_6_method_6_code (4 : Nat) (Option.some Jvm.ClassFile.FieldType.long)).before args0 about1 = true := code_word (m := ⟨2, 0⟩) (meth := k2m0) (c := k2c0) (by decide +kernel) rfl rfl rfl (by decide +kernel)
def codes1 : List Jvm.Cond := [Jvm.Cond.code x code maxLocals ret, Jvm.Cond.code ({ cls := "com/example/lean_limiter/leanlimiter/Algorithm", name := "divideRoundingUp", desc := "(JJ)J" } : Jvm.MethodName) prog_6_method_6_code (4 : Nat) (Option.some Jvm.ClassFile.FieldType.long)]
set_option maxRecDepth 65536 in
theorem codes_eq : words1.filter isCode = codes1 := rfl
theorem w_codes : ∀ c ∈ words1.filter isCode, c.before args0 about1 = true := by
  rw [codes_eq]
  intro c hc
  simp only [codes1, List.mem_cons, List.not_mem_nil, or_false] at hc
  rcases hc with rfl | rfl
  · exact w_c0
  · exact w_c1
set_option maxRecDepth 65536 in
theorem w_t1 : words1.all (fun c => isCode c || c.before args0 about1) = true := by decide +kernel
theorem w_tables : (allAtoms (Jvm.Cond.code x code maxLocals ret :: tables_1)).before args0 about1 = true := by
  rw [allAtoms_all]
  show words1.all (fun c => c.before args0 about1) = true
  refine all_split ?_ w_codes
  rw [w_t1]
set_option maxRecDepth 65536 in
theorem w_case : (Jvm.Cond.and given_1 narrow_1).before args0 about1 = true := by decide +kernel
theorem w_applies : (headSpec (Jvm.Cond.code x code maxLocals ret :: tables_1) room_1).applies x e0.platform about1 = true :=
  (Spec.applies_iff w_frames).mpr ⟨w_running, w_runnable, w_alone, w_named, w_hears, w_ripe, w_room, w_tables⟩
theorem atStart : AtStart classFile x code maxLocals ret World_1 tables_1 room_1 Calls_1 rest_1 Pre_1 launch0 p0 e0 about1 theMethod args0 below0 :=
  ⟨lists_1, trivial, launch0.admits_env _ _ _, launch0.least_env, fairChoices_fair.cas, fairChoices_fair.clock, w_frames, w_args, w_heap, w_applies, trivial, trivial, w_case⟩
end start1
theorem witness_1 : WitnessClaimed_1 := ⟨start1.p0, start1.e0, start1.about1, start1.theMethod, start1.args0, start1.below0, start1.atStart⟩
end Jvm.Pilot.@@N@@
