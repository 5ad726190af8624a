import JvmDerived
import JvmDerived.Pilot.@@N@@Statement
import JvmDerived.Pilot.@@N@@Code
set_option linter.unusedVariables false
set_option linter.unusedSimpArgs false
namespace Jvm.RoadKit
open Sem ClassFile Op Lib Jvm.Stand Jvm.Free Jvm.LawKit
section New
variable {p : Program} {l : Launch} {e : Env} {R : Room} {s : State} {m : MethodId} {args : Array Value} {below : List Frame} {meth : Method} {c : Code} {T : State} {locs : List Loc} {cells slots : Nat}
theorem retI (X : Stand p l e R s m args below meth c T locs cells slots) (hEX : p.tables.exec = Jvm.exec) {pc : Nat} {Ls : Array Slot} {z : Int32} {rest : List Value} (hRT : meth.sig.returnType = some .int) (hd : decode c.code pc = .ok (.ireturn, 1)) {fs : List Frame}
    (hl : ∀ (f : JFrame) (acts : List Action), f.method = m → f.locked = none → f.entered = [] → (doReturn e (T.setTop f) acts (some (.int z))).1 = T.setFrames fs) : Steps p.tables e below (T.setTop (mkF m pc Ls (.int z :: rest))) (T.setFrames fs) := by
  have hm' : T.vm.method? m = some meth := X.method'
  have hn : narrow .int (.int z) = .int z := rfl
  show Steps p.tables e below (T.setTop { method := m, pc := pc, locals := Ls, stack := _ :: rest, locked := none }) _
  jvm_step X.here [X.here.top, hEX, hd, hm', hRT, hn]
  first | (intro acts; rw [hl _ acts rfl rfl rfl]) | rw [hl _ _ rfl rfl rfl]
  exact Steps.refl _
abbrev Us : Slot := .unset
abbrev Zs : Slot := .second
abbrev Nv : Slot := .val .null
abbrev Iv (x : Int32) : Slot := .val (.int x)
abbrev Lv (x : Int64) : Slot := .val (.long x)
abbrev Rv (x : Addr) : Slot := .val (.ref x)
/-- the body comes to its end from st: it returns v, and Q holds of v, of the heap and of the places written -/
def Done (p : Program) (e : Env) (below : List Frame) (s : State) (Q : Option Value → Heap → List Loc → Prop) (kc ks : Nat) (st : State) : Prop :=
  ∃ (s₂ : State) (o : Outcome), Steps p.tables e below st s₂ ∧ s₂.status = .running ∧ Ended s₂ below o ∧ ∃ v L, o = .returned v ∧ Q v s₂.heap L ∧ FrameEnd s o s₂ L kc ks
variable {Q : Option Value → Heap → List Loc → Prop} {kc ks : Nat}
theorem Done.pre {st st' : State} (h : ∀ t, Steps p.tables e below st' t → Steps p.tables e below st t) (D : Done p e below s Q kc ks st') : Done p e below s Q kc ks st := by
  obtain ⟨s₂, o, h1, r⟩ := D
  exact ⟨s₂, o, h _ h1, r⟩
theorem Done.retI (X : Stand p l e R s m args below meth c T locs cells slots) (hEX : p.tables.exec = Jvm.exec) (hLK : meth.locks = false) {pc : Nat} {Ls : Array Slot} {z : Int32} {rest : List Value} (hRT : meth.sig.returnType = some .int) (hd : decode c.code pc = .ok (.ireturn, 1))
    (hQ : Q (some (.int z)) T.heap locs) (hc : cells ≤ kc) (hs : slots ≤ ks) : Done p e below s Q kc ks (T.setTop (mkF m pc Ls (.int z :: rest))) := by
  obtain ⟨fs, hr, hrun, hended, hW, hsame⟩ := X.leave (v := some (.int z)) (fun h => by rw [hRT] at h; cases h) hLK
  exact ⟨_, _, Jvm.RoadKit.retI X hEX hRT hd hr, hrun, hended, _, _, rfl, hQ, ⟨_, rfl⟩, hW, hsame.mono hc hs⟩
theorem Done.retN (X : Stand p l e R s m args below meth c T locs cells slots) (hEX : p.tables.exec = Jvm.exec) (hLK : meth.locks = false) {pc : Nat} {Ls : Array Slot} {z : Int32} {t : FieldType} {rest : List Value} (hRT : meth.sig.returnType = some t) (ht : t = .boolean ∨ t = .byte ∨ t = .char ∨ t = .short) (hd : decode c.code pc = .ok (.ireturn, 1))
    (hQ : Q (some (.int (nar t z))) T.heap locs) (hc : cells ≤ kc) (hs : slots ≤ ks) : Done p e below s Q kc ks (T.setTop (mkF m pc Ls (.int z :: rest))) := by
  obtain ⟨fs, hr, hrun, hended, hW, hsame⟩ := X.leave (v := some (.int (nar t z))) (fun h => by rw [hRT] at h; cases h) hLK
  exact ⟨_, _, Jvm.RoadKit.retN X hEX hRT ht hd hr, hrun, hended, _, _, rfl, hQ, ⟨_, rfl⟩, hW, hsame.mono hc hs⟩
theorem Done.retL (X : Stand p l e R s m args below meth c T locs cells slots) (hEX : p.tables.exec = Jvm.exec) (hLK : meth.locks = false) {pc : Nat} {Ls : Array Slot} {z : Int64} {rest : List Value} (hRT : meth.sig.returnType = some .long) (hd : decode c.code pc = .ok (.lreturn, 1))
    (hQ : Q (some (.long z)) T.heap locs) (hc : cells ≤ kc) (hs : slots ≤ ks) : Done p e below s Q kc ks (T.setTop (mkF m pc Ls (.long z :: rest))) := by
  obtain ⟨fs, hr, hrun, hended, hW, hsame⟩ := X.leave (v := some (.long z)) (fun h => by rw [hRT] at h; cases h) hLK
  exact ⟨_, _, retOut X hEX hRT rfl (Or.inr (Or.inl ⟨rfl, rfl, _, rfl⟩)) hd hr, hrun, hended, _, _, rfl, hQ, ⟨_, rfl⟩, hW, hsame.mono hc hs⟩
theorem Done.retA (X : Stand p l e R s m args below meth c T locs cells slots) (hEX : p.tables.exec = Jvm.exec) (hLK : meth.locks = false) {pc : Nat} {Ls : Array Slot} {w : Value} {t : FieldType} {rest : List Value} (hRT : meth.sig.returnType = some t) (ht : t.isReference = true) (hw : w.isRef = true) (hd : decode c.code pc = .ok (.areturn, 1))
    (hQ : Q (some w) T.heap locs) (hc : cells ≤ kc) (hs : slots ≤ ks) : Done p e below s Q kc ks (T.setTop (mkF m pc Ls (w :: rest))) := by
  obtain ⟨fs, hr, hrun, hended, hW, hsame⟩ := X.leave (v := some w) (fun h => by rw [hRT] at h; cases h) hLK
  have hn : narrow t w = w := by cases t <;> first | rfl | (simp [FieldType.isReference] at ht)
  exact ⟨_, _, retOut X hEX hRT hn (Or.inr (Or.inr (Or.inr (Or.inr ⟨rfl, ht, hw⟩)))) hd hr, hrun, hended, _, _, rfl, hQ, ⟨_, rfl⟩, hW, hsame.mono hc hs⟩
theorem Done.retV (X : Stand p l e R s m args below meth c T locs cells slots) (hEX : p.tables.exec = Jvm.exec) (hLK : meth.locks = false) {pc : Nat} {Ls : Array Slot} (hRT : meth.sig.returnType = none) (hd : decode c.code pc = .ok (.return_, 1))
    (hQ : Q none T.heap locs) (hc : cells ≤ kc) (hs : slots ≤ ks) : Done p e below s Q kc ks (T.setTop (mkF m pc Ls [])) := by
  obtain ⟨fs, hr, hrun, hended, hW, hsame⟩ := X.leave (v := none) (fun _ => rfl) hLK
  exact ⟨_, _, X.returnOut hEX hRT hd hr, hrun, hended, _, _, rfl, hQ, ⟨_, rfl⟩, hW, hsame.mono hc hs⟩
end New
end Jvm.RoadKit
namespace Jvm.Pilot.@@N@@
open Jvm Jvm.ClassFile Sem Op Lib Jvm.Free Jvm.Stand Jvm.LawKit Jvm.RoadKit Bundle Jvm.Pilot.@@N@@.Jvm.D

def own_min (x y : Int32) : Int32 := if y < x then y else x
def own_full (s c : Int32) : Int32 := if s = c then (1 : Int32) else (0 : Int32)
theorem own_c0 : (0 : Int32).toInt = 0 := rfl
theorem own_c1 : (1 : Int32).toInt = 1 := rfl
theorem own_minc (cap : Int32) (h : 0 ≤ cap.toInt ∧ cap.toInt ≤ 4) : own_min cap (64 : Int32) = cap := by
  rw [own_min, if_neg]
  rw [Int32.lt_iff_toInt_lt]
  have e : (64 : Int32).toInt = 64 := rfl
  omega
theorem own_nn (x : Int32) (h : 0 ≤ x.toInt) : ¬ x < 0 := by
  rw [Int32.lt_iff_toInt_lt]; have := own_c0; omega
theorem own_prod (s d : Int32) (hs : 0 ≤ s.toInt ∧ s.toInt ≤ 4) (hd : d.toInt = 1 ∨ d.toInt = 2) : (s * d).toInt = s.toInt * d.toInt ∧ 0 ≤ s.toInt * d.toInt ∧ s.toInt * d.toInt ≤ 8 := by
  have h1 := c_imul s d
  have h2 := rng32 (s * d)
  rcases hd with q | q <;> rw [q] at h1 ⊢ <;> omega
theorem own_pn (s d : Int32) (hs : 0 ≤ s.toInt ∧ s.toInt ≤ 4) (hd : d.toInt = 1 ∨ d.toInt = 2) : ¬ (s * d) < 0 := own_nn _ (by have := own_prod s d hs hd; omega)
theorem own_p8 (s d : Int32) (hs : 0 ≤ s.toInt ∧ s.toInt ≤ 4) (hd : d.toInt = 1 ∨ d.toInt = 2) : (s * d).toNatClampNeg ≤ 8 := by
  have := own_prod s d hs hd
  simp only [Int32.toNatClampNeg]; omega
theorem own_n4 (s : Int32) (hs : 0 ≤ s.toInt ∧ s.toInt ≤ 4) : s.toNatClampNeg ≤ 4 := by
  simp only [Int32.toNatClampNeg]; omega
theorem own_inc (s : Int32) (h : 0 ≤ s.toInt ∧ s.toInt ≤ 4) : (s + (1 : Int32)).toInt = s.toInt + 1 := by
  have h1 := c_iadd s (1 : Int32)
  have h2 := rng32 (s + (1 : Int32))
  have := own_c1; omega
theorem own_f0 (s c : Int32) (h : 0 ≤ s.toInt ∧ s.toInt < c.toInt ∧ c.toInt ≤ 4) : own_full s c = (0 : Int32) := by
  rw [own_full, if_neg (fun q => by rw [q] at h; omega)]
theorem own_ne (s c : Int32) (h : 0 ≤ s.toInt ∧ s.toInt < c.toInt ∧ c.toInt ≤ 4) : ¬ s = c := fun q => by rw [q] at h; omega
theorem own_b40 (s c d : Int32) (h : 0 ≤ s.toInt ∧ s.toInt < c.toInt ∧ c.toInt ≤ 4) (hd : d.toInt = 1 ∨ d.toInt = 2) : ¬ (c * d) < ((s + (1 : Int32)) * d) := by
  have h1 := own_prod c d (by omega) hd
  have h2 := own_inc s (by omega)
  have h3 := own_prod (s + (1 : Int32)) d (by omega) hd
  rw [Int32.lt_iff_toInt_lt, h1.1, h3.1, h2]
  rcases hd with q | q <;> rw [q] <;> omega
theorem own_h5 (s c d : Int32) (h : 0 ≤ s.toInt ∧ s.toInt < c.toInt ∧ c.toInt ≤ 4) (hd : d.toInt = 1 ∨ d.toInt = 2) : (s * d).toNatClampNeg + d.toNatClampNeg ≤ (c * d).toNatClampNeg := by
  have h1 := own_prod c d (by omega) hd
  have h2 := own_prod s d (by omega) hd
  simp only [Int32.toNatClampNeg]
  rw [h1.1, h2.1]
  rcases hd with q | q <;> rw [q] at h1 h2 ⊢ <;> omega
theorem own_h8 (s c d : Int32) (h : 0 ≤ s.toInt ∧ s.toInt < c.toInt ∧ c.toInt ≤ 4) (hd : d.toInt = 1 ∨ d.toInt = 2) : (s * d).toNatClampNeg + d.toNatClampNeg ≤ 8 := Nat.le_trans (own_h5 s c d h hd) (own_p8 c d (by omega) hd)
theorem own_ix (s c : Int32) (h : 0 ≤ s.toInt ∧ s.toInt < c.toInt ∧ c.toInt ≤ 4) : ¬ s < 0 ∧ s < c := ⟨own_nn s h.1, by rw [Int32.lt_iff_toInt_lt]; omega⟩
theorem own_i4 (s c : Int32) (h : 0 ≤ s.toInt ∧ s.toInt < c.toInt ∧ c.toInt ≤ 4) (vs : List Value) (hl : vs.length = 4) : s.toNatClampNeg < vs.length := by
  rw [hl]; simp only [Int32.toNatClampNeg]; omega
theorem own_len (vs us : List Value) (p n : Nat) (hv : vs.length = 8) (hu : us.length = n) (h : p + n ≤ 8) : (vs.take p ++ us ++ vs.drop (p + n)).length = 8 := by
  rw [List.length_append, List.length_append, List.length_take, List.length_drop, hv, hu]; omega
theorem own_cap (a : Int32) : 0 ≤ ((a &&& (7 : Int32)) % (5 : Int32)).toInt ∧ ((a &&& (7 : Int32)) % (5 : Int32)).toInt ≤ 4 := by
  have h1 := c_mask a (7 : Int32) 3 (by decide) (by decide)
  have h2 := (c_irem (a &&& (7 : Int32)) (5 : Int32) 5 rfl).1 (by omega)
  omega
theorem own_capnz (cap : Int32) (h : 0 ≤ cap.toInt ∧ cap.toInt ≤ 4) : (cap + (1 : Int32)) ≠ 0 := fun q => by
  have := own_inc cap h
  rw [q] at this; have := own_c0; omega
theorem own_cnt (b cap : Int32) (h : 0 ≤ cap.toInt ∧ cap.toInt ≤ 4) : 0 ≤ ((b &&& (7 : Int32)) % (cap + (1 : Int32))).toInt ∧ ((b &&& (7 : Int32)) % (cap + (1 : Int32))).toInt ≤ cap.toInt := by
  have h1 := c_mask b (7 : Int32) 3 (by decide) (by decide)
  have h2 := own_inc cap h
  have h3 := (c_iremV (b &&& (7 : Int32)) (cap + (1 : Int32))).1 (by omega) (by omega)
  omega
theorem own_dm (d : Int32) : ((1 : Int32) + (d &&& (1 : Int32))).toInt = 1 ∨ ((1 : Int32) + (d &&& (1 : Int32))).toInt = 2 := by
  have h1 := c_mask d (1 : Int32) 1 (by decide) (by decide)
  have h2 := c_iadd (1 : Int32) (d &&& (1 : Int32))
  have h3 := rng32 ((1 : Int32) + (d &&& (1 : Int32)))
  have := own_c1; omega
theorem own_five (c cap : Int32) (h : 0 ≤ c.toInt ∧ c.toInt ≤ cap.toInt) (hc : cap.toInt ≤ 4) : c = (0 : Int32) ∨ c = (1 : Int32) ∨ c = (2 : Int32) ∨ c = (3 : Int32) ∨ c = (4 : Int32) := by
  have e0 : (0 : Int32).toInt = 0 := rfl
  have e1 : (1 : Int32).toInt = 1 := rfl
  have e2 : (2 : Int32).toInt = 2 := rfl
  have e3 : (3 : Int32).toInt = 3 := rfl
  have e4 : (4 : Int32).toInt = 4 := rfl
  rw [← Int32.toInt_inj, ← Int32.toInt_inj, ← Int32.toInt_inj, ← Int32.toInt_inj, ← Int32.toInt_inj]
  omega
theorem own_d0 (d : Int32) (hd : d.toInt = 1 ∨ d.toInt = 2) : (0 : Int32) < d := by rw [Int32.lt_iff_toInt_lt]; have := own_c0; omega
theorem own_dpos (d : Int32) (hd : d.toInt = 1 ∨ d.toInt = 2) : ¬ d < 0 := own_nn d (by omega)
theorem own_d2 (d : Int32) (hd : d.toInt = 1 ∨ d.toInt = 2) : d.toNatClampNeg ≤ 2 := by simp only [Int32.toNatClampNeg]; omega
theorem own_dm1 (d : Int32) (hd : d.toInt = 1 ∨ d.toInt = 2) : (d - (1 : Int32)).toInt = d.toInt - 1 := by
  have h1 := c_isub d (1 : Int32)
  have h2 := rng32 (d - (1 : Int32))
  have := own_c1; omega
theorem own_dix (d : Int32) (hd : d.toInt = 1 ∨ d.toInt = 2) : ¬ (d - (1 : Int32)) < 0 ∧ (d - (1 : Int32)) < d := by
  have := own_dm1 d hd
  exact ⟨own_nn _ (by omega), by rw [Int32.lt_iff_toInt_lt]; omega⟩
theorem own_di2 (d : Int32) (hd : d.toInt = 1 ∨ d.toInt = 2) : (d - (1 : Int32)).toNatClampNeg < 2 := by
  have := own_dm1 d hd
  simp only [Int32.toNatClampNeg]; omega
theorem d_jdk_29_method_69_code_0 : decode jdk_29_method_69_code 0 = .ok (.iload_n 0, 1) := by decide +kernel
theorem d_jdk_29_method_69_code_1 : decode jdk_29_method_69_code 1 = .ok (.iload_n 1, 1) := by decide +kernel
theorem d_jdk_29_method_69_code_2 : decode jdk_29_method_69_code 2 = .ok (.if_icmp .gt 7, 3) := by decide +kernel
theorem d_jdk_29_method_69_code_9 : decode jdk_29_method_69_code 9 = .ok (.iload_n 1, 1) := by decide +kernel
theorem d_jdk_29_method_69_code_10 : decode jdk_29_method_69_code 10 = .ok (.ireturn, 1) := by decide +kernel
theorem d_jdk_29_method_69_code_5 : decode jdk_29_method_69_code 5 = .ok (.iload_n 0, 1) := by decide +kernel
theorem d_jdk_29_method_69_code_6 : decode jdk_29_method_69_code 6 = .ok (.goto 4, 3) := by decide +kernel
def Qrm_min (Z : State) (x : Int32) (y : Int32) (h0 : Heap) (n0 : Nat) (v_ : Option Value) (h_ : Heap) (L_ : List Loc) : Prop := v_ = some (.int (own_min x y)) ∧ Fr n0 L_ ∧ h_ = h0
theorem ef_rm_min (m : MethodId) (x0 : Int32) (x1 : Int32) : entryFrame m #[(.int x0), (.int x1)] 2 = mkF m 0 #[.val (.int x0), .val (.int x1)] [] := by first | (simp [entryFrame, mkF, argsToLocals, Value.category]; done) | rfl
set_option maxRecDepth 65536 in
set_option maxHeartbeats 40000000 in
theorem rm_min (l : Launch) (Z : State) (aZ : Array Value) (hw : ∀ d ∈ tables_1, d.before aZ Z = true) (ws : List Jvm.Cond) (x : Int32) (y : Int32) (h0 : Heap) (n0 : Nat) (Z0 : n0 ≤ h0.size) :
    MetFree l (⟨"java/lang/Math", "min", "(II)I"⟩ : MethodName) (head1 (Jvm.Cond.code (⟨"java/lang/Math", "min", "(II)I"⟩ : MethodName) jdk_29_method_69_code 2 (some .int) :: ws) ({ frames := 0, cells := 0, slots := 0, locals := 0 } : Room)) (fun a_ U_ => a_ = #[(.int x), (.int y)] ∧ Z.Warmed39 U_.vm ∧ U_.heap = h0) (fun _ _ _ _ _ => True) (fun _ U_ o_ U2_ => ∃ v_ L_, o_ = .returned v_ ∧ Qrm_min Z x y h0 n0 v_ U2_.heap L_ ∧ FrameEnd U_ o_ U2_ L_ ({ frames := 0, cells := 0, slots := 0, locals := 0 } : Room).cells ({ frames := 0, cells := 0, slots := 0, locals := 0 } : Room).slots) := by
  refine MetFree.of_bodySF (Jvm.Free.JP.mathPlain rfl (by decide +kernel)) hisR ?_
  intro p e s m args below meth cO s₁ Bd hml0 hP hK
  obtain ⟨rfl, hZW, hh⟩ := hP
  have hEX := Bd.exec
  have hBY := Bd.bytes
  have hMX : cO.maxLocals = 2 := hml0
  have hOW : s.vm.findClass "java/lang/Math" = some m.cls := findClass_of_methodNamed Bd.named
  have hNM := (name_of_methodNamed Bd.named Bd.method).1
  have hLK := Bd.notSynchronized
  have hRT := Bd.returns
  have X0 : Stand p l e ({ frames := 0, cells := 0, slots := 0, locals := 0 } : Room) s m #[(.int x), (.int y)] below meth cO s₁ [] 0 0 := Stand.of_body Bd
  have e0 : s₁.heap = h0 := by rw [← hh, Bd.state]; rfl
  have N0 := Fr.nil n0
  have K0 : Keep h0 h0 [] := Keep.refl _ _
  show Done p e below s (Qrm_min Z x y h0 n0) ({ frames := 0, cells := 0, slots := 0, locals := 0 } : Room).cells ({ frames := 0, cells := 0, slots := 0, locals := 0 } : Room).slots (s₁.setTop (entryFrame m #[(.int x), (.int y)] 2))
  refine Done.pre (fun t_ k_ => castTop (ef_rm_min m x y) k_) ?_
  show Done _ _ _ _ _ _ _ (s₁.setTop (mkF m 0 #[Iv x, Iv y] []))
  have sg_1 : ∀ tt_, Steps p.tables e below (s₁.setTop (mkF m 2 #[Iv x, Iv y] [(.int y), (.int x)])) tt_ → Steps p.tables e below (s₁.setTop (mkF m 0 #[Iv x, Iv y] [])) tt_ := by
    intro tt_ kt_
    refine XS.iloadN X0.here hEX rfl (hb hBY d_jdk_29_method_69_code_0) rfl ?_
    show Steps p.tables e below (s₁.setTop (mkF m 1 #[Iv x, Iv y] [(.int x)])) tt_
    refine XS.iloadN X0.here hEX rfl (hb hBY d_jdk_29_method_69_code_1) rfl ?_
    exact kt_
  refine Done.pre sg_1 ?_
  by_cases hc2 : y < x
  · skip
    have sg_2 : ∀ tt_, Steps p.tables e below (s₁.setTop (mkF m 10 #[Iv x, Iv y] [(.int y)])) tt_ → Steps p.tables e below (s₁.setTop (mkF m 2 #[Iv x, Iv y] [(.int y), (.int x)])) tt_ := by
      intro tt_ kt_
      refine XS.icmpYes X0.here hEX rfl (pc0 := 2) (pc' := 9) rfl (hb hBY d_jdk_29_method_69_code_2) rfl (tlt hc2).2.2.1 (by decide) (by decide) ?_
      show Steps p.tables e below (s₁.setTop (mkF m 9 #[Iv x, Iv y] [])) tt_
      refine XS.iloadN X0.here hEX rfl (hb hBY d_jdk_29_method_69_code_9) rfl ?_
      exact kt_
    refine Done.pre sg_2 ?_
    exact Done.retI X0 hEX hLK hRT (hb hBY d_jdk_29_method_69_code_10) (by rw [e0]; exact ⟨(by rw [own_min, if_pos hc2]), N0, rfl⟩) (by decide) (by decide)
  · skip
    have sg_3 : ∀ tt_, Steps p.tables e below (s₁.setTop (mkF m 10 #[Iv x, Iv y] [(.int x)])) tt_ → Steps p.tables e below (s₁.setTop (mkF m 2 #[Iv x, Iv y] [(.int y), (.int x)])) tt_ := by
      intro tt_ kt_
      refine XS.icmpNo X0.here hEX rfl (hb hBY d_jdk_29_method_69_code_2) rfl (flt hc2).2.2.1 ?_
      show Steps p.tables e below (s₁.setTop (mkF m 5 #[Iv x, Iv y] [])) tt_
      refine XS.iloadN X0.here hEX rfl (hb hBY d_jdk_29_method_69_code_5) rfl ?_
      show Steps p.tables e below (s₁.setTop (mkF m 6 #[Iv x, Iv y] [(.int x)])) tt_
      refine XS.goto X0.here hEX rfl (pc0 := 6) (pc' := 10) rfl (hb hBY d_jdk_29_method_69_code_6) (by decide) (by decide) ?_
      exact kt_
    refine Done.pre sg_3 ?_
    exact Done.retI X0 hEX hLK hRT (hb hBY d_jdk_29_method_69_code_10) (by rw [e0]; exact ⟨(by rw [own_min, if_neg hc2]), N0, rfl⟩) (by decide) (by decide)
theorem d_prog_25_method_1_code_0 : decode prog_25_method_1_code 0 = .ok (.aload_n 0, 1) := by decide +kernel
theorem d_prog_25_method_1_code_1 : decode prog_25_method_1_code 1 = .ok (.invokespecial 1, 3) := by decide +kernel
theorem d_prog_25_method_1_code_4 : decode prog_25_method_1_code 4 = .ok (.iload_n 2, 1) := by decide +kernel
theorem d_prog_25_method_1_code_5 : decode prog_25_method_1_code 5 = .ok (.bipush 64, 2) := by decide +kernel
theorem d_prog_25_method_1_code_7 : decode prog_25_method_1_code 7 = .ok (.invokestatic 7, 3) := by decide +kernel
theorem pd__II_I_2 : parseMethodDescriptor "(II)I" = some ⟨[.int, .int], some .int⟩ := by decide +kernel
theorem d_prog_25_method_1_code_10 : decode prog_25_method_1_code 10 = .ok (.istore_n 3, 1) := by decide +kernel
theorem d_prog_25_method_1_code_11 : decode prog_25_method_1_code 11 = .ok (.aload_n 0, 1) := by decide +kernel
theorem d_prog_25_method_1_code_12 : decode prog_25_method_1_code 12 = .ok (.iload_n 1, 1) := by decide +kernel
theorem d_prog_25_method_1_code_13 : decode prog_25_method_1_code 13 = .ok (.putfield 13, 3) := by decide +kernel
theorem d_prog_25_method_1_code_16 : decode prog_25_method_1_code 16 = .ok (.aload_n 0, 1) := by decide +kernel
theorem d_prog_25_method_1_code_17 : decode prog_25_method_1_code 17 = .ok (.iload_n 2, 1) := by decide +kernel
theorem d_prog_25_method_1_code_18 : decode prog_25_method_1_code 18 = .ok (.putfield 19, 3) := by decide +kernel
theorem d_prog_25_method_1_code_21 : decode prog_25_method_1_code 21 = .ok (.aload_n 0, 1) := by decide +kernel
theorem d_prog_25_method_1_code_22 : decode prog_25_method_1_code 22 = .ok (.iload_n 3, 1) := by decide +kernel
theorem d_prog_25_method_1_code_23 : decode prog_25_method_1_code 23 = .ok (.iload_n 1, 1) := by decide +kernel
theorem d_prog_25_method_1_code_24 : decode prog_25_method_1_code 24 = .ok (.imul, 1) := by decide +kernel
theorem d_prog_25_method_1_code_25 : decode prog_25_method_1_code 25 = .ok (.newarray .long, 2) := by decide +kernel
theorem d_prog_25_method_1_code_27 : decode prog_25_method_1_code 27 = .ok (.putfield 22, 3) := by decide +kernel
theorem d_prog_25_method_1_code_30 : decode prog_25_method_1_code 30 = .ok (.aload_n 0, 1) := by decide +kernel
theorem d_prog_25_method_1_code_31 : decode prog_25_method_1_code 31 = .ok (.iload_n 3, 1) := by decide +kernel
theorem d_prog_25_method_1_code_32 : decode prog_25_method_1_code 32 = .ok (.newarray .int, 2) := by decide +kernel
theorem d_prog_25_method_1_code_34 : decode prog_25_method_1_code 34 = .ok (.putfield 26, 3) := by decide +kernel
theorem d_prog_25_method_1_code_37 : decode prog_25_method_1_code 37 = .ok (.aload_n 0, 1) := by decide +kernel
theorem d_prog_25_method_1_code_38 : decode prog_25_method_1_code 38 = .ok (.iload_n 3, 1) := by decide +kernel
theorem d_prog_25_method_1_code_39 : decode prog_25_method_1_code 39 = .ok (.newarray .int, 2) := by decide +kernel
theorem d_prog_25_method_1_code_41 : decode prog_25_method_1_code 41 = .ok (.putfield 30, 3) := by decide +kernel
theorem d_prog_25_method_1_code_44 : decode prog_25_method_1_code 44 = .ok (.return_, 1) := by decide +kernel
def Qrm_init (Z : State) (a : Addr) (dims : Int32) (cap : Int32) (sz : Int32) (u0 : Value) (u1 : Value) (u2 : Value) (u3 : Value) (u4 : Value) (h0 : Heap) (n0 : Nat) (v_ : Option Value) (h_ : Heap) (L_ : List Loc) : Prop := ∃ (kb : Addr), ∃ (kk : ClassId), ∃ (db : Addr), ∃ (kd : ClassId), ∃ (ob : Addr), ∃ (ko : ClassId), ∃ (vK : List Value), ∃ (vD : List Value), ∃ (vO : List Value), v_ = none ∧ Fr n0 L_ ∧ Keep h0 h_ [a] ∧ Exa Z h_ a "com/example/pointcell/pointcell/PointArrays" ∧ Fld Z h_ a "com/example/pointcell/pointcell/PointArrays" "size" "I" (.int sz) ∧ Fld Z h_ a "com/example/pointcell/pointcell/PointArrays" "dimensions" "I" (.int dims) ∧ Fld Z h_ a "com/example/pointcell/pointcell/PointArrays" "capacity" "I" (.int cap) ∧ Fld Z h_ a "com/example/pointcell/pointcell/PointArrays" "keys" "[J" (.ref kb) ∧ Fld Z h_ a "com/example/pointcell/pointcell/PointArrays" "docIds" "[I" (.ref db) ∧ Fld Z h_ a "com/example/pointcell/pointcell/PointArrays" "ordinals" "[I" (.ref ob) ∧ Arv Z h_ kb kk .long (cap * dims) vK (.long (0 : Int64)) ∧ Arv Z h_ db kd .int cap vD (.int (0 : Int32)) ∧ Arv Z h_ ob ko .int cap vO (.int (0 : Int32)) ∧ h0.size ≤ kb ∧ h0.size ≤ db ∧ h0.size ≤ ob ∧ kb ≠ db ∧ kb ≠ ob ∧ db ≠ ob ∧ vK.length = 8 ∧ vD.length = 4 ∧ vO.length = 4
theorem ef_rm_init (m : MethodId) (x0 : Addr) (x1 : Int32) (x2 : Int32) : entryFrame m #[(.ref x0), (.int x1), (.int x2)] 4 = mkF m 0 #[.val (.ref x0), .val (.int x1), .val (.int x2), .unset] [] := by first | (simp [entryFrame, mkF, argsToLocals, Value.category]; done) | rfl
theorem pn_com_example_pointcell_pointcell_PointArrays : plainName "com/example/pointcell/pointcell/PointArrays" = true := by first | (simp [plainName, overriddenIn]; done) | decide +kernel
set_option maxRecDepth 65536 in
set_option maxHeartbeats 40000000 in
theorem rm_init (l : Launch) (Z : State) (aZ : Array Value) (hw : ∀ d ∈ tables_1, d.before aZ Z = true) (ws : List Jvm.Cond) (a : Addr) (dims : Int32) (cap : Int32) (sz : Int32) (u0 : Value) (u1 : Value) (u2 : Value) (u3 : Value) (u4 : Value) (h0 : Heap) (n0 : Nat) (Z0 : n0 ≤ h0.size) (Ex : Exa Z h0 a "com/example/pointcell/pointcell/PointArrays") (Fs : Fld Z h0 a "com/example/pointcell/pointcell/PointArrays" "size" "I" (.int sz)) (F0 : Fld Z h0 a "com/example/pointcell/pointcell/PointArrays" "dimensions" "I" u0) (F1 : Fld Z h0 a "com/example/pointcell/pointcell/PointArrays" "capacity" "I" u1) (F2 : Fld Z h0 a "com/example/pointcell/pointcell/PointArrays" "keys" "[J" u2) (F3 : Fld Z h0 a "com/example/pointcell/pointcell/PointArrays" "docIds" "[I" u3) (F4 : Fld Z h0 a "com/example/pointcell/pointcell/PointArrays" "ordinals" "[I" u4) (ga : n0 ≤ a) (hdm : dims.toInt = 1 ∨ dims.toInt = 2) (hcap : 0 ≤ cap.toInt ∧ cap.toInt ≤ 4) :
    MetFree l (⟨"com/example/pointcell/pointcell/PointArrays", "<init>", "(II)V"⟩ : MethodName) (head1 (Jvm.Cond.code (⟨"com/example/pointcell/pointcell/PointArrays", "<init>", "(II)V"⟩ : MethodName) prog_25_method_1_code 4 none :: ws) ({ frames := 1, cells := 3, slots := 16, locals := 13 } : Room)) (fun a_ U_ => a_ = #[(.ref a), (.int dims), (.int cap)] ∧ Z.Warmed39 U_.vm ∧ U_.heap = h0) (fun _ _ _ _ _ => True) (fun _ U_ o_ U2_ => ∃ v_ L_, o_ = .returned v_ ∧ Qrm_init Z a dims cap sz u0 u1 u2 u3 u4 h0 n0 v_ U2_.heap L_ ∧ FrameEnd U_ o_ U2_ L_ ({ frames := 1, cells := 3, slots := 16, locals := 13 } : Room).cells ({ frames := 1, cells := 3, slots := 16, locals := 13 } : Room).slots) := by
  refine MetFree.of_bodySF (plainFor_of_name pn_com_example_pointcell_pointcell_PointArrays) hisR ?_
  intro p e s m args below meth cO s₁ Bd hml0 hP hK
  obtain ⟨rfl, hZW, hh⟩ := hP
  have hEX := Bd.exec
  have hBY := Bd.bytes
  have hMX : cO.maxLocals = 4 := hml0
  have hOW : s.vm.findClass "com/example/pointcell/pointcell/PointArrays" = some m.cls := findClass_of_methodNamed Bd.named
  have hNM := (name_of_methodNamed Bd.named Bd.method).1
  have hLK := Bd.notSynchronized
  have hRT := Bd.returns
  have X0 : Stand p l e ({ frames := 1, cells := 3, slots := 16, locals := 13 } : Room) s m #[(.ref a), (.int dims), (.int cap)] below meth cO s₁ [] 0 0 := Stand.of_body Bd
  have e0 : s₁.heap = h0 := by rw [← hh, Bd.state]; rfl
  have N0 := Fr.nil n0
  have K0 : Keep h0 h0 [a] := Keep.refl _ _
  show Done p e below s (Qrm_init Z a dims cap sz u0 u1 u2 u3 u4 h0 n0) ({ frames := 1, cells := 3, slots := 16, locals := 13 } : Room).cells ({ frames := 1, cells := 3, slots := 16, locals := 13 } : Room).slots (s₁.setTop (entryFrame m #[(.ref a), (.int dims), (.int cap)] 4))
  refine Done.pre (fun t_ k_ => castTop (ef_rm_init m a dims cap) k_) ?_
  show Done _ _ _ _ _ _ _ (s₁.setTop (mkF m 0 #[Rv a, Iv dims, Iv cap, Us] []))
  have sg_1 : ∀ tt_, Steps p.tables e below (s₁.setTop (mkF m 1 #[Rv a, Iv dims, Iv cap, Us] [(.ref a)])) tt_ → Steps p.tables e below (s₁.setTop (mkF m 0 #[Rv a, Iv dims, Iv cap, Us] [])) tt_ := by
    intro tt_ kt_
    refine XS.aloadN X0.here hEX rfl (hb hBY d_prog_25_method_1_code_0) rfl rfl ?_
    exact kt_
  refine Done.pre sg_1 ?_
  obtain ⟨T_2, X_2, e_2, st_2⟩ := initO X0 hEX hZW hOW (hw _ (List.mem_of_getElem? (i := 7) rfl)) (hw _ (List.mem_of_getElem? (i := 8) rfl)) (hw _ (List.mem_of_getElem? (i := 9) rfl)) e0 (g := (mkF m 1 #[Rv a, Iv dims, Iv cap, Us] [(.ref a)])) rfl (by rw [hMX]; rfl) rfl (hb hBY d_prog_25_method_1_code_1) (by decide) (W := 0) (by show 2 * 0 + _ ≤ _; exact Nat.le_of_eq rfl) (by decide)
  refine Done.pre st_2 ?_
  show Done _ _ _ _ _ _ _ (T_2.setTop (mkF m 4 #[Rv a, Iv dims, Iv cap, Us] []))
  have sg_3 : ∀ tt_, Steps p.tables e below (T_2.setTop (mkF m 7 #[Rv a, Iv dims, Iv cap, Us] [(.int (64 : Int32)), (.int cap)])) tt_ → Steps p.tables e below (T_2.setTop (mkF m 4 #[Rv a, Iv dims, Iv cap, Us] [])) tt_ := by
    intro tt_ kt_
    refine XS.iloadN X_2.here hEX rfl (hb hBY d_prog_25_method_1_code_4) rfl ?_
    show Steps p.tables e below (T_2.setTop (mkF m 5 #[Rv a, Iv dims, Iv cap, Us] [(.int cap)])) tt_
    refine XS.bipush X_2.here hEX rfl (hb hBY d_prog_25_method_1_code_5) ?_
    exact kt_
  refine Done.pre sg_3 ?_
  obtain ⟨_, _, ⟨T_4, L_4, k_4, n_4⟩, -, X_4, ⟨Lc_4, hQ_4, l_4, y_4, z_4⟩, st_4⟩ := Jvm.LawKit.callS X_2 hEX (y := (⟨"java/lang/Math", "min", "(II)I"⟩ : MethodName)) hOW (mvT hZW (hw _ (List.mem_of_getElem? (i := 10) rfl))) (mvT hZW (hw _ (List.mem_of_getElem? (i := 11) rfl))) (mvT hZW (hw _ (List.mem_of_getElem? (i := 12) rfl))) (mvT hZW (hw _ (List.mem_of_getElem? (i := 13) rfl))) (by decide) (backOf (W := 0) (rm_min l Z aZ hw [] cap (64 : Int32) h0 n0 (Nat.le_trans Z0 K0.1) ) hZW (hw _ (List.mem_of_getElem? (i := 13) rfl)) (hw _ (List.mem_of_getElem? (i := 12) rfl)) (by decide) (by decide)) (g := (mkF m 7 #[Rv a, Iv dims, Iv cap, Us] [(.int (64 : Int32)), (.int cap)])) rfl (by rw [hMX]; rfl) (argsL := [(.int cap), (.int (64 : Int32))]) (rest := []) (lenOf pd__II_I_2 rfl) rfl (by show 2 * 0 + _ ≤ _; exact Nat.le_of_eq rfl) (hb hBY d_prog_25_method_1_code_7) (fun _ _ => ⟨rfl, e_2, (by decide : 0 + 0 ≤ _), (by decide : 0 + 0 ≤ _)⟩)
  dsimp only [Pt.U, Pt.locs, Pt.cells, Pt.slots] at X_4 l_4 y_4 z_4 st_4 hQ_4
  subst l_4 y_4 z_4
  obtain ⟨rfl, N_4q, e_4⟩ := hQ_4
  have N_4 := Fr.app N0 N_4q
  refine Done.pre (fun _ k_ => st_4 _ k_) ?_
  show Done _ _ _ _ _ _ _ (T_4.setTop (mkF m 10 #[Rv a, Iv dims, Iv cap, Us] [(.int (own_min cap (64 : Int32)))]))
  show Done _ _ _ _ _ _ _ (T_4.setTop (mkF m 10 #[Rv a, Iv dims, Iv cap, Us] [(.int (own_min cap (64 : Int32)))]))
  rw [own_minc cap hcap]
  show Done _ _ _ _ _ _ _ (T_4.setTop (mkF m 10 #[Rv a, Iv dims, Iv cap, Us] [(.int cap)]))
  have sg_5 : ∀ tt_, Steps p.tables e below (T_4.setTop (mkF m 13 #[Rv a, Iv dims, Iv cap, Iv cap] [(.int dims), (.ref a)])) tt_ → Steps p.tables e below (T_4.setTop (mkF m 10 #[Rv a, Iv dims, Iv cap, Us] [(.int cap)])) tt_ := by
    intro tt_ kt_
    refine XS.istoreN X_4.here hEX rfl (hb hBY d_prog_25_method_1_code_10) rfl (l' := #[Rv a, Iv dims, Iv cap, Iv cap]) rfl ?_
    show Steps p.tables e below (T_4.setTop (mkF m 11 #[Rv a, Iv dims, Iv cap, Iv cap] [])) tt_
    refine XS.aloadN X_4.here hEX rfl (hb hBY d_prog_25_method_1_code_11) rfl rfl ?_
    show Steps p.tables e below (T_4.setTop (mkF m 12 #[Rv a, Iv dims, Iv cap, Iv cap] [(.ref a)])) tt_
    refine XS.iloadN X_4.here hEX rfl (hb hBY d_prog_25_method_1_code_12) rfl ?_
    exact kt_
  refine Done.pre sg_5 ?_
  obtain ⟨T_6, h_6, X_6, e_6, W_6, st_6⟩ := putF X_4 hEX hZW hOW (host := "") (Or.inl (hw _ (List.mem_of_getElem? (i := 14) rfl))) Via.refl e_4 F0 Ex (Or.inr ⟨(hw _ (List.mem_of_getElem? (i := 15) rfl)), rfl, hNM⟩) (hw _ (List.mem_of_getElem? (i := 2) rfl)) (ty := .int) (by decide) rfl rfl (g := (mkF m 13 #[Rv a, Iv dims, Iv cap, Iv cap] [(.int dims), (.ref a)])) rfl rfl (hb hBY d_prog_25_method_1_code_13)
  have N_6 := Fr.snoc X_6 N_4 ga
  have K__7 : Keep h0 h_6 [a] := K0.wr W_6 (Or.inl (List.mem_of_getElem? (i := 0) rfl))
  have f_8 : Exa Z h_6 a "com/example/pointcell/pointcell/PointArrays" := Ex.wr W_6
  have f_9 : Fld Z h_6 a "com/example/pointcell/pointcell/PointArrays" "size" "I" (.int sz) := Fs.other W_6 (Or.inr (slot_ne (Or.inl (hw _ (List.mem_of_getElem? (i := 31) rfl))) (Or.inr (hw _ (List.mem_of_getElem? (i := 15) rfl))) (by decide) (t := .int) (t' := .int) (by decide) (by decide)))
  have f_10 : Fld Z h_6 a "com/example/pointcell/pointcell/PointArrays" "capacity" "I" u1 := F1.other W_6 (Or.inr (slot_ne (Or.inr (hw _ (List.mem_of_getElem? (i := 17) rfl))) (Or.inr (hw _ (List.mem_of_getElem? (i := 15) rfl))) (by decide) (t := .int) (t' := .int) (by decide) (by decide)))
  have f_11 : Fld Z h_6 a "com/example/pointcell/pointcell/PointArrays" "keys" "[J" u2 := F2.other W_6 (Or.inr (slot_ne (Or.inl (hw _ (List.mem_of_getElem? (i := 19) rfl))) (Or.inr (hw _ (List.mem_of_getElem? (i := 15) rfl))) (by decide) (t := (.array .long)) (t' := .int) (by decide) (by decide)))
  have f_12 : Fld Z h_6 a "com/example/pointcell/pointcell/PointArrays" "docIds" "[I" u3 := F3.other W_6 (Or.inr (slot_ne (Or.inl (hw _ (List.mem_of_getElem? (i := 22) rfl))) (Or.inr (hw _ (List.mem_of_getElem? (i := 15) rfl))) (by decide) (t := (.array .int)) (t' := .int) (by decide) (by decide)))
  have f_13 : Fld Z h_6 a "com/example/pointcell/pointcell/PointArrays" "ordinals" "[I" u4 := F4.other W_6 (Or.inr (slot_ne (Or.inl (hw _ (List.mem_of_getElem? (i := 24) rfl))) (Or.inr (hw _ (List.mem_of_getElem? (i := 15) rfl))) (by decide) (t := (.array .int)) (t' := .int) (by decide) (by decide)))
  have f_14 : Fld Z h_6 a "com/example/pointcell/pointcell/PointArrays" "dimensions" "I" (.int dims) := F0.same W_6
  refine Done.pre st_6 ?_
  show Done _ _ _ _ _ _ _ (T_6.setTop (mkF m 16 #[Rv a, Iv dims, Iv cap, Iv cap] []))
  have sg_15 : ∀ tt_, Steps p.tables e below (T_6.setTop (mkF m 18 #[Rv a, Iv dims, Iv cap, Iv cap] [(.int cap), (.ref a)])) tt_ → Steps p.tables e below (T_6.setTop (mkF m 16 #[Rv a, Iv dims, Iv cap, Iv cap] [])) tt_ := by
    intro tt_ kt_
    refine XS.aloadN X_6.here hEX rfl (hb hBY d_prog_25_method_1_code_16) rfl rfl ?_
    show Steps p.tables e below (T_6.setTop (mkF m 17 #[Rv a, Iv dims, Iv cap, Iv cap] [(.ref a)])) tt_
    refine XS.iloadN X_6.here hEX rfl (hb hBY d_prog_25_method_1_code_17) rfl ?_
    exact kt_
  refine Done.pre sg_15 ?_
  obtain ⟨T_16, h_16, X_16, e_16, W_16, st_16⟩ := putF X_6 hEX hZW hOW (host := "") (Or.inl (hw _ (List.mem_of_getElem? (i := 16) rfl))) Via.refl e_6 f_10 f_8 (Or.inr ⟨(hw _ (List.mem_of_getElem? (i := 17) rfl)), rfl, hNM⟩) (hw _ (List.mem_of_getElem? (i := 2) rfl)) (ty := .int) (by decide) rfl rfl (g := (mkF m 18 #[Rv a, Iv dims, Iv cap, Iv cap] [(.int cap), (.ref a)])) rfl rfl (hb hBY d_prog_25_method_1_code_18)
  have N_16 := Fr.snoc X_16 N_6 ga
  have K__17 : Keep h0 h_16 [a] := K__7.wr W_16 (Or.inl (List.mem_of_getElem? (i := 0) rfl))
  have f_18 : Exa Z h_16 a "com/example/pointcell/pointcell/PointArrays" := f_8.wr W_16
  have f_19 : Fld Z h_16 a "com/example/pointcell/pointcell/PointArrays" "size" "I" (.int sz) := f_9.other W_16 (Or.inr (slot_ne (Or.inl (hw _ (List.mem_of_getElem? (i := 31) rfl))) (Or.inr (hw _ (List.mem_of_getElem? (i := 17) rfl))) (by decide) (t := .int) (t' := .int) (by decide) (by decide)))
  have f_20 : Fld Z h_16 a "com/example/pointcell/pointcell/PointArrays" "keys" "[J" u2 := f_11.other W_16 (Or.inr (slot_ne (Or.inl (hw _ (List.mem_of_getElem? (i := 19) rfl))) (Or.inr (hw _ (List.mem_of_getElem? (i := 17) rfl))) (by decide) (t := (.array .long)) (t' := .int) (by decide) (by decide)))
  have f_21 : Fld Z h_16 a "com/example/pointcell/pointcell/PointArrays" "docIds" "[I" u3 := f_12.other W_16 (Or.inr (slot_ne (Or.inl (hw _ (List.mem_of_getElem? (i := 22) rfl))) (Or.inr (hw _ (List.mem_of_getElem? (i := 17) rfl))) (by decide) (t := (.array .int)) (t' := .int) (by decide) (by decide)))
  have f_22 : Fld Z h_16 a "com/example/pointcell/pointcell/PointArrays" "ordinals" "[I" u4 := f_13.other W_16 (Or.inr (slot_ne (Or.inl (hw _ (List.mem_of_getElem? (i := 24) rfl))) (Or.inr (hw _ (List.mem_of_getElem? (i := 17) rfl))) (by decide) (t := (.array .int)) (t' := .int) (by decide) (by decide)))
  have f_23 : Fld Z h_16 a "com/example/pointcell/pointcell/PointArrays" "dimensions" "I" (.int dims) := f_14.other W_16 (Or.inr (slot_ne (Or.inr (hw _ (List.mem_of_getElem? (i := 15) rfl))) (Or.inr (hw _ (List.mem_of_getElem? (i := 17) rfl))) (by decide) (t := .int) (t' := .int) (by decide) (by decide)))
  have f_24 : Fld Z h_16 a "com/example/pointcell/pointcell/PointArrays" "capacity" "I" (.int cap) := f_10.same W_16
  refine Done.pre st_16 ?_
  show Done _ _ _ _ _ _ _ (T_16.setTop (mkF m 21 #[Rv a, Iv dims, Iv cap, Iv cap] []))
  have sg_25 : ∀ tt_, Steps p.tables e below (T_16.setTop (mkF m 25 #[Rv a, Iv dims, Iv cap, Iv cap] [(.int (cap * dims)), (.ref a)])) tt_ → Steps p.tables e below (T_16.setTop (mkF m 21 #[Rv a, Iv dims, Iv cap, Iv cap] [])) tt_ := by
    intro tt_ kt_
    refine XS.aloadN X_16.here hEX rfl (hb hBY d_prog_25_method_1_code_21) rfl rfl ?_
    show Steps p.tables e below (T_16.setTop (mkF m 22 #[Rv a, Iv dims, Iv cap, Iv cap] [(.ref a)])) tt_
    refine XS.iloadN X_16.here hEX rfl (hb hBY d_prog_25_method_1_code_22) rfl ?_
    show Steps p.tables e below (T_16.setTop (mkF m 23 #[Rv a, Iv dims, Iv cap, Iv cap] [(.int cap), (.ref a)])) tt_
    refine XS.iloadN X_16.here hEX rfl (hb hBY d_prog_25_method_1_code_23) rfl ?_
    show Steps p.tables e below (T_16.setTop (mkF m 24 #[Rv a, Iv dims, Iv cap, Iv cap] [(.int dims), (.int cap), (.ref a)])) tt_
    refine XS.imul X_16.here hEX rfl (hb hBY d_prog_25_method_1_code_24) rfl ?_
    exact kt_
  refine Done.pre sg_25 ?_
  obtain ⟨T_26, h_26, k_26, X_26, e_26, E_26, A_26, st_26⟩ := newP X_16 hEX hZW (hw _ (List.mem_of_getElem? (i := 0) rfl)) e_16 (g := (mkF m 25 #[Rv a, Iv dims, Iv cap, Iv cap] [(.int (cap * dims)), (.ref a)])) rfl (hb hBY d_prog_25_method_1_code_25) rfl (own_pn cap dims hcap hdm) (cap := 8) (own_p8 cap dims hcap hdm) (by decide) (by decide) (by decide)
  obtain ⟨b_26, g_26⟩ : ∃ z, z = h_16.size := ⟨_, rfl⟩
  rw [← g_26] at A_26 st_26
  have sz_b_26 : h0.size ≤ b_26 := Nat.le_trans K__17.1 (Nat.le_of_eq g_26.symm)
  have ge_b_26 : n0 ≤ b_26 := Nat.le_trans Z0 sz_b_26
  have ne_a_b_26 : a ≠ b_26 := Nat.ne_of_lt (Nat.lt_of_lt_of_le f_18.lt (Nat.le_of_eq g_26.symm))
  have K__27 : Keep h0 h_26 [a] := K__17.ext E_26
  have f_28 : Exa Z h_26 a "com/example/pointcell/pointcell/PointArrays" := f_18.ext E_26
  have f_29 : Fld Z h_26 a "com/example/pointcell/pointcell/PointArrays" "size" "I" (.int sz) := f_19.ext E_26
  have f_30 : Fld Z h_26 a "com/example/pointcell/pointcell/PointArrays" "keys" "[J" u2 := f_20.ext E_26
  have f_31 : Fld Z h_26 a "com/example/pointcell/pointcell/PointArrays" "docIds" "[I" u3 := f_21.ext E_26
  have f_32 : Fld Z h_26 a "com/example/pointcell/pointcell/PointArrays" "ordinals" "[I" u4 := f_22.ext E_26
  have f_33 : Fld Z h_26 a "com/example/pointcell/pointcell/PointArrays" "dimensions" "I" (.int dims) := f_23.ext E_26
  have f_34 : Fld Z h_26 a "com/example/pointcell/pointcell/PointArrays" "capacity" "I" (.int cap) := f_24.ext E_26
  have f_35 : Arv Z h_26 b_26 k_26 .long (cap * dims) [(.long (0 : Int64)), (.long (0 : Int64)), (.long (0 : Int64)), (.long (0 : Int64)), (.long (0 : Int64)), (.long (0 : Int64)), (.long (0 : Int64)), (.long (0 : Int64))] (.long (0 : Int64)) := (Arv.new A_26 (own_pn cap dims hcap hdm)).pad (pad_rep [] (.long (0 : Int64)) 8)
  refine Done.pre st_26 ?_
  show Done _ _ _ _ _ _ _ (T_26.setTop (mkF m 27 #[Rv a, Iv dims, Iv cap, Iv cap] [(.ref b_26), (.ref a)]))
  obtain ⟨T_36, h_36, X_36, e_36, W_36, st_36⟩ := putF X_26 hEX hZW hOW (host := "") (Or.inl (hw _ (List.mem_of_getElem? (i := 18) rfl))) Via.refl e_26 f_30 f_28 (Or.inl (hw _ (List.mem_of_getElem? (i := 19) rfl))) (hw _ (List.mem_of_getElem? (i := 2) rfl)) (ty := (.array .long)) (by decide) rfl rfl (g := (mkF m 27 #[Rv a, Iv dims, Iv cap, Iv cap] [(.ref b_26), (.ref a)])) rfl rfl (hb hBY d_prog_25_method_1_code_27)
  have N_36 := Fr.snoc X_36 N_16 ga
  have K__37 : Keep h0 h_36 [a] := K__27.wr W_36 (Or.inl (List.mem_of_getElem? (i := 0) rfl))
  have f_38 : Exa Z h_36 a "com/example/pointcell/pointcell/PointArrays" := f_28.wr W_36
  have f_39 : Fld Z h_36 a "com/example/pointcell/pointcell/PointArrays" "size" "I" (.int sz) := f_29.other W_36 (Or.inr (slot_ne (Or.inl (hw _ (List.mem_of_getElem? (i := 31) rfl))) (Or.inl (hw _ (List.mem_of_getElem? (i := 19) rfl))) (by decide) (t := .int) (t' := (.array .long)) (by decide) (by decide)))
  have f_40 : Fld Z h_36 a "com/example/pointcell/pointcell/PointArrays" "docIds" "[I" u3 := f_31.other W_36 (Or.inr (slot_ne (Or.inl (hw _ (List.mem_of_getElem? (i := 22) rfl))) (Or.inl (hw _ (List.mem_of_getElem? (i := 19) rfl))) (by decide) (t := (.array .int)) (t' := (.array .long)) (by decide) (by decide)))
  have f_41 : Fld Z h_36 a "com/example/pointcell/pointcell/PointArrays" "ordinals" "[I" u4 := f_32.other W_36 (Or.inr (slot_ne (Or.inl (hw _ (List.mem_of_getElem? (i := 24) rfl))) (Or.inl (hw _ (List.mem_of_getElem? (i := 19) rfl))) (by decide) (t := (.array .int)) (t' := (.array .long)) (by decide) (by decide)))
  have f_42 : Fld Z h_36 a "com/example/pointcell/pointcell/PointArrays" "dimensions" "I" (.int dims) := f_33.other W_36 (Or.inr (slot_ne (Or.inr (hw _ (List.mem_of_getElem? (i := 15) rfl))) (Or.inl (hw _ (List.mem_of_getElem? (i := 19) rfl))) (by decide) (t := .int) (t' := (.array .long)) (by decide) (by decide)))
  have f_43 : Fld Z h_36 a "com/example/pointcell/pointcell/PointArrays" "capacity" "I" (.int cap) := f_34.other W_36 (Or.inr (slot_ne (Or.inr (hw _ (List.mem_of_getElem? (i := 17) rfl))) (Or.inl (hw _ (List.mem_of_getElem? (i := 19) rfl))) (by decide) (t := .int) (t' := (.array .long)) (by decide) (by decide)))
  have f_44 : Arv Z h_36 b_26 k_26 .long (cap * dims) [(.long (0 : Int64)), (.long (0 : Int64)), (.long (0 : Int64)), (.long (0 : Int64)), (.long (0 : Int64)), (.long (0 : Int64)), (.long (0 : Int64)), (.long (0 : Int64))] (.long (0 : Int64)) := f_35.other W_36 (Ne.symm ne_a_b_26)
  have f_45 : Fld Z h_36 a "com/example/pointcell/pointcell/PointArrays" "keys" "[J" (.ref b_26) := f_30.same W_36
  refine Done.pre st_36 ?_
  show Done _ _ _ _ _ _ _ (T_36.setTop (mkF m 30 #[Rv a, Iv dims, Iv cap, Iv cap] []))
  have sg_46 : ∀ tt_, Steps p.tables e below (T_36.setTop (mkF m 32 #[Rv a, Iv dims, Iv cap, Iv cap] [(.int cap), (.ref a)])) tt_ → Steps p.tables e below (T_36.setTop (mkF m 30 #[Rv a, Iv dims, Iv cap, Iv cap] [])) tt_ := by
    intro tt_ kt_
    refine XS.aloadN X_36.here hEX rfl (hb hBY d_prog_25_method_1_code_30) rfl rfl ?_
    show Steps p.tables e below (T_36.setTop (mkF m 31 #[Rv a, Iv dims, Iv cap, Iv cap] [(.ref a)])) tt_
    refine XS.iloadN X_36.here hEX rfl (hb hBY d_prog_25_method_1_code_31) rfl ?_
    exact kt_
  refine Done.pre sg_46 ?_
  obtain ⟨T_47, h_47, k_47, X_47, e_47, E_47, A_47, st_47⟩ := newP X_36 hEX hZW (hw _ (List.mem_of_getElem? (i := 20) rfl)) e_36 (g := (mkF m 32 #[Rv a, Iv dims, Iv cap, Iv cap] [(.int cap), (.ref a)])) rfl (hb hBY d_prog_25_method_1_code_32) rfl (own_nn cap hcap.1) (cap := 4) (own_n4 cap hcap) (by decide) (by decide) (by decide)
  obtain ⟨b_47, g_47⟩ : ∃ z, z = h_36.size := ⟨_, rfl⟩
  rw [← g_47] at A_47 st_47
  have sz_b_47 : h0.size ≤ b_47 := Nat.le_trans K__37.1 (Nat.le_of_eq g_47.symm)
  have ge_b_47 : n0 ≤ b_47 := Nat.le_trans Z0 sz_b_47
  have ne_a_b_47 : a ≠ b_47 := Nat.ne_of_lt (Nat.lt_of_lt_of_le f_38.lt (Nat.le_of_eq g_47.symm))
  have ne_b_26_b_47 : b_26 ≠ b_47 := Nat.ne_of_lt (Nat.lt_of_lt_of_le f_44.lt (Nat.le_of_eq g_47.symm))
  have K__48 : Keep h0 h_47 [a] := K__37.ext E_47
  have f_49 : Exa Z h_47 a "com/example/pointcell/pointcell/PointArrays" := f_38.ext E_47
  have f_50 : Fld Z h_47 a "com/example/pointcell/pointcell/PointArrays" "size" "I" (.int sz) := f_39.ext E_47
  have f_51 : Fld Z h_47 a "com/example/pointcell/pointcell/PointArrays" "docIds" "[I" u3 := f_40.ext E_47
  have f_52 : Fld Z h_47 a "com/example/pointcell/pointcell/PointArrays" "ordinals" "[I" u4 := f_41.ext E_47
  have f_53 : Fld Z h_47 a "com/example/pointcell/pointcell/PointArrays" "dimensions" "I" (.int dims) := f_42.ext E_47
  have f_54 : Fld Z h_47 a "com/example/pointcell/pointcell/PointArrays" "capacity" "I" (.int cap) := f_43.ext E_47
  have f_55 : Arv Z h_47 b_26 k_26 .long (cap * dims) [(.long (0 : Int64)), (.long (0 : Int64)), (.long (0 : Int64)), (.long (0 : Int64)), (.long (0 : Int64)), (.long (0 : Int64)), (.long (0 : Int64)), (.long (0 : Int64))] (.long (0 : Int64)) := f_44.ext E_47
  have f_56 : Fld Z h_47 a "com/example/pointcell/pointcell/PointArrays" "keys" "[J" (.ref b_26) := f_45.ext E_47
  have f_57 : Arv Z h_47 b_47 k_47 .int cap [(.int (0 : Int32)), (.int (0 : Int32)), (.int (0 : Int32)), (.int (0 : Int32))] (.int (0 : Int32)) := (Arv.new A_47 (own_nn cap hcap.1)).pad (pad_rep [] (.int (0 : Int32)) 4)
  refine Done.pre st_47 ?_
  show Done _ _ _ _ _ _ _ (T_47.setTop (mkF m 34 #[Rv a, Iv dims, Iv cap, Iv cap] [(.ref b_47), (.ref a)]))
  obtain ⟨T_58, h_58, X_58, e_58, W_58, st_58⟩ := putF X_47 hEX hZW hOW (host := "") (Or.inl (hw _ (List.mem_of_getElem? (i := 21) rfl))) Via.refl e_47 f_51 f_49 (Or.inl (hw _ (List.mem_of_getElem? (i := 22) rfl))) (hw _ (List.mem_of_getElem? (i := 2) rfl)) (ty := (.array .int)) (by decide) rfl rfl (g := (mkF m 34 #[Rv a, Iv dims, Iv cap, Iv cap] [(.ref b_47), (.ref a)])) rfl rfl (hb hBY d_prog_25_method_1_code_34)
  have N_58 := Fr.snoc X_58 N_36 ga
  have K__59 : Keep h0 h_58 [a] := K__48.wr W_58 (Or.inl (List.mem_of_getElem? (i := 0) rfl))
  have f_60 : Exa Z h_58 a "com/example/pointcell/pointcell/PointArrays" := f_49.wr W_58
  have f_61 : Fld Z h_58 a "com/example/pointcell/pointcell/PointArrays" "size" "I" (.int sz) := f_50.other W_58 (Or.inr (slot_ne (Or.inl (hw _ (List.mem_of_getElem? (i := 31) rfl))) (Or.inl (hw _ (List.mem_of_getElem? (i := 22) rfl))) (by decide) (t := .int) (t' := (.array .int)) (by decide) (by decide)))
  have f_62 : Fld Z h_58 a "com/example/pointcell/pointcell/PointArrays" "ordinals" "[I" u4 := f_52.other W_58 (Or.inr (slot_ne (Or.inl (hw _ (List.mem_of_getElem? (i := 24) rfl))) (Or.inl (hw _ (List.mem_of_getElem? (i := 22) rfl))) (by decide) (t := (.array .int)) (t' := (.array .int)) (by decide) (by decide)))
  have f_63 : Fld Z h_58 a "com/example/pointcell/pointcell/PointArrays" "dimensions" "I" (.int dims) := f_53.other W_58 (Or.inr (slot_ne (Or.inr (hw _ (List.mem_of_getElem? (i := 15) rfl))) (Or.inl (hw _ (List.mem_of_getElem? (i := 22) rfl))) (by decide) (t := .int) (t' := (.array .int)) (by decide) (by decide)))
  have f_64 : Fld Z h_58 a "com/example/pointcell/pointcell/PointArrays" "capacity" "I" (.int cap) := f_54.other W_58 (Or.inr (slot_ne (Or.inr (hw _ (List.mem_of_getElem? (i := 17) rfl))) (Or.inl (hw _ (List.mem_of_getElem? (i := 22) rfl))) (by decide) (t := .int) (t' := (.array .int)) (by decide) (by decide)))
  have f_65 : Arv Z h_58 b_26 k_26 .long (cap * dims) [(.long (0 : Int64)), (.long (0 : Int64)), (.long (0 : Int64)), (.long (0 : Int64)), (.long (0 : Int64)), (.long (0 : Int64)), (.long (0 : Int64)), (.long (0 : Int64))] (.long (0 : Int64)) := f_55.other W_58 (Ne.symm ne_a_b_26)
  have f_66 : Fld Z h_58 a "com/example/pointcell/pointcell/PointArrays" "keys" "[J" (.ref b_26) := f_56.other W_58 (Or.inr (slot_ne (Or.inl (hw _ (List.mem_of_getElem? (i := 19) rfl))) (Or.inl (hw _ (List.mem_of_getElem? (i := 22) rfl))) (by decide) (t := (.array .long)) (t' := (.array .int)) (by decide) (by decide)))
  have f_67 : Arv Z h_58 b_47 k_47 .int cap [(.int (0 : Int32)), (.int (0 : Int32)), (.int (0 : Int32)), (.int (0 : Int32))] (.int (0 : Int32)) := f_57.other W_58 (Ne.symm ne_a_b_47)
  have f_68 : Fld Z h_58 a "com/example/pointcell/pointcell/PointArrays" "docIds" "[I" (.ref b_47) := f_51.same W_58
  refine Done.pre st_58 ?_
  show Done _ _ _ _ _ _ _ (T_58.setTop (mkF m 37 #[Rv a, Iv dims, Iv cap, Iv cap] []))
  have sg_69 : ∀ tt_, Steps p.tables e below (T_58.setTop (mkF m 39 #[Rv a, Iv dims, Iv cap, Iv cap] [(.int cap), (.ref a)])) tt_ → Steps p.tables e below (T_58.setTop (mkF m 37 #[Rv a, Iv dims, Iv cap, Iv cap] [])) tt_ := by
    intro tt_ kt_
    refine XS.aloadN X_58.here hEX rfl (hb hBY d_prog_25_method_1_code_37) rfl rfl ?_
    show Steps p.tables e below (T_58.setTop (mkF m 38 #[Rv a, Iv dims, Iv cap, Iv cap] [(.ref a)])) tt_
    refine XS.iloadN X_58.here hEX rfl (hb hBY d_prog_25_method_1_code_38) rfl ?_
    exact kt_
  refine Done.pre sg_69 ?_
  obtain ⟨T_70, h_70, k_70, X_70, e_70, E_70, A_70, st_70⟩ := newP X_58 hEX hZW (hw _ (List.mem_of_getElem? (i := 20) rfl)) e_58 (g := (mkF m 39 #[Rv a, Iv dims, Iv cap, Iv cap] [(.int cap), (.ref a)])) rfl (hb hBY d_prog_25_method_1_code_39) rfl (own_nn cap hcap.1) (cap := 4) (own_n4 cap hcap) (by decide) (by decide) (by decide)
  obtain ⟨b_70, g_70⟩ : ∃ z, z = h_58.size := ⟨_, rfl⟩
  rw [← g_70] at A_70 st_70
  have sz_b_70 : h0.size ≤ b_70 := Nat.le_trans K__59.1 (Nat.le_of_eq g_70.symm)
  have ge_b_70 : n0 ≤ b_70 := Nat.le_trans Z0 sz_b_70
  have ne_a_b_70 : a ≠ b_70 := Nat.ne_of_lt (Nat.lt_of_lt_of_le f_60.lt (Nat.le_of_eq g_70.symm))
  have ne_b_26_b_70 : b_26 ≠ b_70 := Nat.ne_of_lt (Nat.lt_of_lt_of_le f_65.lt (Nat.le_of_eq g_70.symm))
  have ne_b_47_b_70 : b_47 ≠ b_70 := Nat.ne_of_lt (Nat.lt_of_lt_of_le f_67.lt (Nat.le_of_eq g_70.symm))
  have K__71 : Keep h0 h_70 [a] := K__59.ext E_70
  have f_72 : Exa Z h_70 a "com/example/pointcell/pointcell/PointArrays" := f_60.ext E_70
  have f_73 : Fld Z h_70 a "com/example/pointcell/pointcell/PointArrays" "size" "I" (.int sz) := f_61.ext E_70
  have f_74 : Fld Z h_70 a "com/example/pointcell/pointcell/PointArrays" "ordinals" "[I" u4 := f_62.ext E_70
  have f_75 : Fld Z h_70 a "com/example/pointcell/pointcell/PointArrays" "dimensions" "I" (.int dims) := f_63.ext E_70
  have f_76 : Fld Z h_70 a "com/example/pointcell/pointcell/PointArrays" "capacity" "I" (.int cap) := f_64.ext E_70
  have f_77 : Arv Z h_70 b_26 k_26 .long (cap * dims) [(.long (0 : Int64)), (.long (0 : Int64)), (.long (0 : Int64)), (.long (0 : Int64)), (.long (0 : Int64)), (.long (0 : Int64)), (.long (0 : Int64)), (.long (0 : Int64))] (.long (0 : Int64)) := f_65.ext E_70
  have f_78 : Fld Z h_70 a "com/example/pointcell/pointcell/PointArrays" "keys" "[J" (.ref b_26) := f_66.ext E_70
  have f_79 : Arv Z h_70 b_47 k_47 .int cap [(.int (0 : Int32)), (.int (0 : Int32)), (.int (0 : Int32)), (.int (0 : Int32))] (.int (0 : Int32)) := f_67.ext E_70
  have f_80 : Fld Z h_70 a "com/example/pointcell/pointcell/PointArrays" "docIds" "[I" (.ref b_47) := f_68.ext E_70
  have f_81 : Arv Z h_70 b_70 k_70 .int cap [(.int (0 : Int32)), (.int (0 : Int32)), (.int (0 : Int32)), (.int (0 : Int32))] (.int (0 : Int32)) := (Arv.new A_70 (own_nn cap hcap.1)).pad (pad_rep [] (.int (0 : Int32)) 4)
  refine Done.pre st_70 ?_
  show Done _ _ _ _ _ _ _ (T_70.setTop (mkF m 41 #[Rv a, Iv dims, Iv cap, Iv cap] [(.ref b_70), (.ref a)]))
  obtain ⟨T_82, h_82, X_82, e_82, W_82, st_82⟩ := putF X_70 hEX hZW hOW (host := "") (Or.inl (hw _ (List.mem_of_getElem? (i := 23) rfl))) Via.refl e_70 f_74 f_72 (Or.inl (hw _ (List.mem_of_getElem? (i := 24) rfl))) (hw _ (List.mem_of_getElem? (i := 2) rfl)) (ty := (.array .int)) (by decide) rfl rfl (g := (mkF m 41 #[Rv a, Iv dims, Iv cap, Iv cap] [(.ref b_70), (.ref a)])) rfl rfl (hb hBY d_prog_25_method_1_code_41)
  have N_82 := Fr.snoc X_82 N_58 ga
  have K__83 : Keep h0 h_82 [a] := K__71.wr W_82 (Or.inl (List.mem_of_getElem? (i := 0) rfl))
  have f_84 : Exa Z h_82 a "com/example/pointcell/pointcell/PointArrays" := f_72.wr W_82
  have f_85 : Fld Z h_82 a "com/example/pointcell/pointcell/PointArrays" "size" "I" (.int sz) := f_73.other W_82 (Or.inr (slot_ne (Or.inl (hw _ (List.mem_of_getElem? (i := 31) rfl))) (Or.inl (hw _ (List.mem_of_getElem? (i := 24) rfl))) (by decide) (t := .int) (t' := (.array .int)) (by decide) (by decide)))
  have f_86 : Fld Z h_82 a "com/example/pointcell/pointcell/PointArrays" "dimensions" "I" (.int dims) := f_75.other W_82 (Or.inr (slot_ne (Or.inr (hw _ (List.mem_of_getElem? (i := 15) rfl))) (Or.inl (hw _ (List.mem_of_getElem? (i := 24) rfl))) (by decide) (t := .int) (t' := (.array .int)) (by decide) (by decide)))
  have f_87 : Fld Z h_82 a "com/example/pointcell/pointcell/PointArrays" "capacity" "I" (.int cap) := f_76.other W_82 (Or.inr (slot_ne (Or.inr (hw _ (List.mem_of_getElem? (i := 17) rfl))) (Or.inl (hw _ (List.mem_of_getElem? (i := 24) rfl))) (by decide) (t := .int) (t' := (.array .int)) (by decide) (by decide)))
  have f_88 : Arv Z h_82 b_26 k_26 .long (cap * dims) [(.long (0 : Int64)), (.long (0 : Int64)), (.long (0 : Int64)), (.long (0 : Int64)), (.long (0 : Int64)), (.long (0 : Int64)), (.long (0 : Int64)), (.long (0 : Int64))] (.long (0 : Int64)) := f_77.other W_82 (Ne.symm ne_a_b_26)
  have f_89 : Fld Z h_82 a "com/example/pointcell/pointcell/PointArrays" "keys" "[J" (.ref b_26) := f_78.other W_82 (Or.inr (slot_ne (Or.inl (hw _ (List.mem_of_getElem? (i := 19) rfl))) (Or.inl (hw _ (List.mem_of_getElem? (i := 24) rfl))) (by decide) (t := (.array .long)) (t' := (.array .int)) (by decide) (by decide)))
  have f_90 : Arv Z h_82 b_47 k_47 .int cap [(.int (0 : Int32)), (.int (0 : Int32)), (.int (0 : Int32)), (.int (0 : Int32))] (.int (0 : Int32)) := f_79.other W_82 (Ne.symm ne_a_b_47)
  have f_91 : Fld Z h_82 a "com/example/pointcell/pointcell/PointArrays" "docIds" "[I" (.ref b_47) := f_80.other W_82 (Or.inr (slot_ne (Or.inl (hw _ (List.mem_of_getElem? (i := 22) rfl))) (Or.inl (hw _ (List.mem_of_getElem? (i := 24) rfl))) (by decide) (t := (.array .int)) (t' := (.array .int)) (by decide) (by decide)))
  have f_92 : Arv Z h_82 b_70 k_70 .int cap [(.int (0 : Int32)), (.int (0 : Int32)), (.int (0 : Int32)), (.int (0 : Int32))] (.int (0 : Int32)) := f_81.other W_82 (Ne.symm ne_a_b_70)
  have f_93 : Fld Z h_82 a "com/example/pointcell/pointcell/PointArrays" "ordinals" "[I" (.ref b_70) := f_74.same W_82
  refine Done.pre st_82 ?_
  show Done _ _ _ _ _ _ _ (T_82.setTop (mkF m 44 #[Rv a, Iv dims, Iv cap, Iv cap] []))
  exact Done.retV X_82 hEX hLK hRT (hb hBY d_prog_25_method_1_code_44) (by rw [e_82]; exact ⟨b_26, k_26, b_47, k_47, b_70, k_70, [(.long (0 : Int64)), (.long (0 : Int64)), (.long (0 : Int64)), (.long (0 : Int64)), (.long (0 : Int64)), (.long (0 : Int64)), (.long (0 : Int64)), (.long (0 : Int64))], [(.int (0 : Int32)), (.int (0 : Int32)), (.int (0 : Int32)), (.int (0 : Int32))], [(.int (0 : Int32)), (.int (0 : Int32)), (.int (0 : Int32)), (.int (0 : Int32))], rfl, N_82, K__83, f_84, f_85, f_86, f_87, f_89, f_91, f_93, f_88, f_90, f_92, sz_b_26, sz_b_47, sz_b_70, ne_b_26_b_47, ne_b_26_b_70, ne_b_47_b_70, rfl, rfl, rfl⟩) (by decide) (by decide)
theorem d_prog_25_method_5_code_0 : decode prog_25_method_5_code 0 = .ok (.aload_n 0, 1) := by decide +kernel
theorem d_prog_25_method_5_code_1 : decode prog_25_method_5_code 1 = .ok (.getfield 37, 3) := by decide +kernel
theorem d_prog_25_method_5_code_4 : decode prog_25_method_5_code 4 = .ok (.aload_n 0, 1) := by decide +kernel
theorem d_prog_25_method_5_code_5 : decode prog_25_method_5_code 5 = .ok (.getfield 19, 3) := by decide +kernel
theorem d_prog_25_method_5_code_8 : decode prog_25_method_5_code 8 = .ok (.if_icmp .ne 7, 3) := by decide +kernel
theorem d_prog_25_method_5_code_11 : decode prog_25_method_5_code 11 = .ok (.iconst 1, 1) := by decide +kernel
theorem d_prog_25_method_5_code_12 : decode prog_25_method_5_code 12 = .ok (.goto 4, 3) := by decide +kernel
theorem d_prog_25_method_5_code_16 : decode prog_25_method_5_code 16 = .ok (.ireturn, 1) := by decide +kernel
theorem d_prog_25_method_5_code_15 : decode prog_25_method_5_code 15 = .ok (.iconst 0, 1) := by decide +kernel
def Qrm_full (Z : State) (a : Addr) (sz : Int32) (cap : Int32) (h0 : Heap) (n0 : Nat) (v_ : Option Value) (h_ : Heap) (L_ : List Loc) : Prop := v_ = some (.int (own_full sz cap)) ∧ Fr n0 L_ ∧ h_ = h0
theorem ef_rm_full (m : MethodId) (x0 : Addr) : entryFrame m #[(.ref x0)] 1 = mkF m 0 #[.val (.ref x0)] [] := by first | (simp [entryFrame, mkF, argsToLocals, Value.category]; done) | rfl
set_option maxRecDepth 65536 in
set_option maxHeartbeats 40000000 in
theorem rm_full (l : Launch) (Z : State) (aZ : Array Value) (hw : ∀ d ∈ tables_1, d.before aZ Z = true) (ws : List Jvm.Cond) (a : Addr) (sz : Int32) (cap : Int32) (h0 : Heap) (n0 : Nat) (Z0 : n0 ≤ h0.size) (Fs : Fld Z h0 a "com/example/pointcell/pointcell/PointArrays" "size" "I" (.int sz)) (Fk : Fld Z h0 a "com/example/pointcell/pointcell/PointArrays" "capacity" "I" (.int cap)) :
    MetFree l (⟨"com/example/pointcell/pointcell/PointArrays", "isFull", "()Z"⟩ : MethodName) (head1 (Jvm.Cond.code (⟨"com/example/pointcell/pointcell/PointArrays", "isFull", "()Z"⟩ : MethodName) prog_25_method_5_code 1 (some .boolean) :: ws) ({ frames := 0, cells := 0, slots := 0, locals := 0 } : Room)) (fun a_ U_ => a_ = #[(.ref a)] ∧ Z.Warmed39 U_.vm ∧ U_.heap = h0) (fun _ _ _ _ _ => True) (fun _ U_ o_ U2_ => ∃ v_ L_, o_ = .returned v_ ∧ Qrm_full Z a sz cap h0 n0 v_ U2_.heap L_ ∧ FrameEnd U_ o_ U2_ L_ ({ frames := 0, cells := 0, slots := 0, locals := 0 } : Room).cells ({ frames := 0, cells := 0, slots := 0, locals := 0 } : Room).slots) := by
  refine MetFree.of_bodySF (plainFor_of_name pn_com_example_pointcell_pointcell_PointArrays) hisR ?_
  intro p e s m args below meth cO s₁ Bd hml0 hP hK
  obtain ⟨rfl, hZW, hh⟩ := hP
  have hEX := Bd.exec
  have hBY := Bd.bytes
  have hMX : cO.maxLocals = 1 := hml0
  have hOW : s.vm.findClass "com/example/pointcell/pointcell/PointArrays" = some m.cls := findClass_of_methodNamed Bd.named
  have hNM := (name_of_methodNamed Bd.named Bd.method).1
  have hLK := Bd.notSynchronized
  have hRT := Bd.returns
  have X0 : Stand p l e ({ frames := 0, cells := 0, slots := 0, locals := 0 } : Room) s m #[(.ref a)] below meth cO s₁ [] 0 0 := Stand.of_body Bd
  have e0 : s₁.heap = h0 := by rw [← hh, Bd.state]; rfl
  have N0 := Fr.nil n0
  have K0 : Keep h0 h0 [] := Keep.refl _ _
  show Done p e below s (Qrm_full Z a sz cap h0 n0) ({ frames := 0, cells := 0, slots := 0, locals := 0 } : Room).cells ({ frames := 0, cells := 0, slots := 0, locals := 0 } : Room).slots (s₁.setTop (entryFrame m #[(.ref a)] 1))
  refine Done.pre (fun t_ k_ => castTop (ef_rm_full m a) k_) ?_
  show Done _ _ _ _ _ _ _ (s₁.setTop (mkF m 0 #[Rv a] []))
  have sg_1 : ∀ tt_, Steps p.tables e below (s₁.setTop (mkF m 1 #[Rv a] [(.ref a)])) tt_ → Steps p.tables e below (s₁.setTop (mkF m 0 #[Rv a] [])) tt_ := by
    intro tt_ kt_
    refine XS.aloadN X0.here hEX rfl (hb hBY d_prog_25_method_5_code_0) rfl rfl ?_
    exact kt_
  refine Done.pre sg_1 ?_
  obtain ⟨T_2, X_2, e_2, st_2⟩ := getF X0 hEX hZW hOW (host := "") (Or.inl (hw _ (List.mem_of_getElem? (i := 30) rfl))) Via.refl e0 Fs (g := (mkF m 1 #[Rv a] [(.ref a)])) rfl rfl (hb hBY d_prog_25_method_5_code_1)
  refine Done.pre st_2 ?_
  show Done _ _ _ _ _ _ _ (T_2.setTop (mkF m 4 #[Rv a] [(.int sz)]))
  have sg_3 : ∀ tt_, Steps p.tables e below (T_2.setTop (mkF m 5 #[Rv a] [(.ref a), (.int sz)])) tt_ → Steps p.tables e below (T_2.setTop (mkF m 4 #[Rv a] [(.int sz)])) tt_ := by
    intro tt_ kt_
    refine XS.aloadN X_2.here hEX rfl (hb hBY d_prog_25_method_5_code_4) rfl rfl ?_
    exact kt_
  refine Done.pre sg_3 ?_
  obtain ⟨T_4, X_4, e_4, st_4⟩ := getF X_2 hEX hZW hOW (host := "") (Or.inl (hw _ (List.mem_of_getElem? (i := 16) rfl))) Via.refl e_2 Fk (g := (mkF m 5 #[Rv a] [(.ref a), (.int sz)])) rfl rfl (hb hBY d_prog_25_method_5_code_5)
  refine Done.pre st_4 ?_
  show Done _ _ _ _ _ _ _ (T_4.setTop (mkF m 8 #[Rv a] [(.int cap), (.int sz)]))
  by_cases hc8 : sz = cap
  · skip
    have sg_5 : ∀ tt_, Steps p.tables e below (T_4.setTop (mkF m 16 #[Rv a] [(.int (1 : Int32))])) tt_ → Steps p.tables e below (T_4.setTop (mkF m 8 #[Rv a] [(.int cap), (.int sz)])) tt_ := by
      intro tt_ kt_
      refine XS.icmpNo X_4.here hEX rfl (hb hBY d_prog_25_method_5_code_8) rfl (teq hc8).2 ?_
      show Steps p.tables e below (T_4.setTop (mkF m 11 #[Rv a] [])) tt_
      refine XS.iconst X_4.here hEX rfl (hb hBY d_prog_25_method_5_code_11) ?_
      show Steps p.tables e below (T_4.setTop (mkF m 12 #[Rv a] [(.int (1 : Int32))])) tt_
      refine XS.goto X_4.here hEX rfl (pc0 := 12) (pc' := 16) rfl (hb hBY d_prog_25_method_5_code_12) (by decide) (by decide) ?_
      exact kt_
    refine Done.pre sg_5 ?_
    exact Done.retN X_4 hEX hLK (t := .boolean) hRT (by simp) (hb hBY d_prog_25_method_5_code_16) (by rw [e_4]; exact ⟨(by rw [own_full, if_pos hc8]; rfl), N0, rfl⟩) (by decide) (by decide)
  · skip
    have sg_6 : ∀ tt_, Steps p.tables e below (T_4.setTop (mkF m 16 #[Rv a] [(.int (0 : Int32))])) tt_ → Steps p.tables e below (T_4.setTop (mkF m 8 #[Rv a] [(.int cap), (.int sz)])) tt_ := by
      intro tt_ kt_
      refine XS.icmpYes X_4.here hEX rfl (pc0 := 8) (pc' := 15) rfl (hb hBY d_prog_25_method_5_code_8) rfl (feq hc8).2 (by decide) (by decide) ?_
      show Steps p.tables e below (T_4.setTop (mkF m 15 #[Rv a] [])) tt_
      refine XS.iconst X_4.here hEX rfl (hb hBY d_prog_25_method_5_code_15) ?_
      exact kt_
    refine Done.pre sg_6 ?_
    exact Done.retN X_4 hEX hLK (t := .boolean) hRT (by simp) (hb hBY d_prog_25_method_5_code_16) (by rw [e_4]; exact ⟨(by rw [own_full, if_neg hc8]; rfl), N0, rfl⟩) (by decide) (by decide)
theorem d_prog_25_method_12_code_0 : decode prog_25_method_12_code 0 = .ok (.aload_n 0, 1) := by decide +kernel
theorem d_prog_25_method_12_code_1 : decode prog_25_method_12_code 1 = .ok (.iconst 0, 1) := by decide +kernel
theorem d_prog_25_method_12_code_2 : decode prog_25_method_12_code 2 = .ok (.putfield 37, 3) := by decide +kernel
theorem d_prog_25_method_12_code_5 : decode prog_25_method_12_code 5 = .ok (.return_, 1) := by decide +kernel
def Qrm_clear (Z : State) (a : Addr) (sz : Int32) (cap : Int32) (h0 : Heap) (n0 : Nat) (v_ : Option Value) (h_ : Heap) (L_ : List Loc) : Prop := v_ = none ∧ Fr n0 L_ ∧ Keep h0 h_ [a] ∧ Exa Z h_ a "com/example/pointcell/pointcell/PointArrays" ∧ Fld Z h_ a "com/example/pointcell/pointcell/PointArrays" "size" "I" (.int (0 : Int32)) ∧ Fld Z h_ a "com/example/pointcell/pointcell/PointArrays" "capacity" "I" (.int cap)
theorem ef_rm_clear (m : MethodId) (x0 : Addr) : entryFrame m #[(.ref x0)] 1 = mkF m 0 #[.val (.ref x0)] [] := by first | (simp [entryFrame, mkF, argsToLocals, Value.category]; done) | rfl
set_option maxRecDepth 65536 in
set_option maxHeartbeats 40000000 in
theorem rm_clear (l : Launch) (Z : State) (aZ : Array Value) (hw : ∀ d ∈ tables_1, d.before aZ Z = true) (ws : List Jvm.Cond) (a : Addr) (sz : Int32) (cap : Int32) (h0 : Heap) (n0 : Nat) (Z0 : n0 ≤ h0.size) (Ex : Exa Z h0 a "com/example/pointcell/pointcell/PointArrays") (Fs : Fld Z h0 a "com/example/pointcell/pointcell/PointArrays" "size" "I" (.int sz)) (Fk : Fld Z h0 a "com/example/pointcell/pointcell/PointArrays" "capacity" "I" (.int cap)) (ga : n0 ≤ a) :
    MetFree l (⟨"com/example/pointcell/pointcell/PointArrays", "clear", "()V"⟩ : MethodName) (head1 (Jvm.Cond.code (⟨"com/example/pointcell/pointcell/PointArrays", "clear", "()V"⟩ : MethodName) prog_25_method_12_code 1 none :: ws) ({ frames := 0, cells := 0, slots := 0, locals := 0 } : Room)) (fun a_ U_ => a_ = #[(.ref a)] ∧ Z.Warmed39 U_.vm ∧ U_.heap = h0) (fun _ _ _ _ _ => True) (fun _ U_ o_ U2_ => ∃ v_ L_, o_ = .returned v_ ∧ Qrm_clear Z a sz cap h0 n0 v_ U2_.heap L_ ∧ FrameEnd U_ o_ U2_ L_ ({ frames := 0, cells := 0, slots := 0, locals := 0 } : Room).cells ({ frames := 0, cells := 0, slots := 0, locals := 0 } : Room).slots) := by
  refine MetFree.of_bodySF (plainFor_of_name pn_com_example_pointcell_pointcell_PointArrays) hisR ?_
  intro p e s m args below meth cO s₁ Bd hml0 hP hK
  obtain ⟨rfl, hZW, hh⟩ := hP
  have hEX := Bd.exec
  have hBY := Bd.bytes
  have hMX : cO.maxLocals = 1 := hml0
  have hOW : s.vm.findClass "com/example/pointcell/pointcell/PointArrays" = some m.cls := findClass_of_methodNamed Bd.named
  have hNM := (name_of_methodNamed Bd.named Bd.method).1
  have hLK := Bd.notSynchronized
  have hRT := Bd.returns
  have X0 : Stand p l e ({ frames := 0, cells := 0, slots := 0, locals := 0 } : Room) s m #[(.ref a)] below meth cO s₁ [] 0 0 := Stand.of_body Bd
  have e0 : s₁.heap = h0 := by rw [← hh, Bd.state]; rfl
  have N0 := Fr.nil n0
  have K0 : Keep h0 h0 [a] := Keep.refl _ _
  show Done p e below s (Qrm_clear Z a sz cap h0 n0) ({ frames := 0, cells := 0, slots := 0, locals := 0 } : Room).cells ({ frames := 0, cells := 0, slots := 0, locals := 0 } : Room).slots (s₁.setTop (entryFrame m #[(.ref a)] 1))
  refine Done.pre (fun t_ k_ => castTop (ef_rm_clear m a) k_) ?_
  show Done _ _ _ _ _ _ _ (s₁.setTop (mkF m 0 #[Rv a] []))
  have sg_1 : ∀ tt_, Steps p.tables e below (s₁.setTop (mkF m 2 #[Rv a] [(.int (0 : Int32)), (.ref a)])) tt_ → Steps p.tables e below (s₁.setTop (mkF m 0 #[Rv a] [])) tt_ := by
    intro tt_ kt_
    refine XS.aloadN X0.here hEX rfl (hb hBY d_prog_25_method_12_code_0) rfl rfl ?_
    show Steps p.tables e below (s₁.setTop (mkF m 1 #[Rv a] [(.ref a)])) tt_
    refine XS.iconst X0.here hEX rfl (hb hBY d_prog_25_method_12_code_1) ?_
    exact kt_
  refine Done.pre sg_1 ?_
  obtain ⟨T_2, h_2, X_2, e_2, W_2, st_2⟩ := putF X0 hEX hZW hOW (host := "") (Or.inl (hw _ (List.mem_of_getElem? (i := 30) rfl))) Via.refl e0 Fs Ex (Or.inl (hw _ (List.mem_of_getElem? (i := 31) rfl))) (hw _ (List.mem_of_getElem? (i := 2) rfl)) (ty := .int) (by decide) rfl rfl (g := (mkF m 2 #[Rv a] [(.int (0 : Int32)), (.ref a)])) rfl rfl (hb hBY d_prog_25_method_12_code_2)
  have N_2 := Fr.snoc X_2 N0 ga
  have K__3 : Keep h0 h_2 [a] := K0.wr W_2 (Or.inl (List.mem_of_getElem? (i := 0) rfl))
  have f_4 : Exa Z h_2 a "com/example/pointcell/pointcell/PointArrays" := Ex.wr W_2
  have f_5 : Fld Z h_2 a "com/example/pointcell/pointcell/PointArrays" "capacity" "I" (.int cap) := Fk.other W_2 (Or.inr (slot_ne (Or.inr (hw _ (List.mem_of_getElem? (i := 17) rfl))) (Or.inl (hw _ (List.mem_of_getElem? (i := 31) rfl))) (by decide) (t := .int) (t' := .int) (by decide) (by decide)))
  have f_6 : Fld Z h_2 a "com/example/pointcell/pointcell/PointArrays" "size" "I" (.int (0 : Int32)) := Fs.same W_2
  refine Done.pre st_2 ?_
  show Done _ _ _ _ _ _ _ (T_2.setTop (mkF m 5 #[Rv a] []))
  exact Done.retV X_2 hEX hLK hRT (hb hBY d_prog_25_method_12_code_5) (by rw [e_2]; exact ⟨rfl, N_2, K__3, f_4, f_6, f_5⟩) (by decide) (by decide)
theorem d_prog_25_method_11_code_0 : decode prog_25_method_11_code 0 = .ok (.aload_n 0, 1) := by decide +kernel
theorem d_prog_25_method_11_code_1 : decode prog_25_method_11_code 1 = .ok (.invokevirtual 53, 3) := by decide +kernel
theorem pd___Z_1 : parseMethodDescriptor "()Z" = some ⟨[], some .boolean⟩ := by decide +kernel
theorem d_prog_25_method_11_code_4 : decode prog_25_method_11_code 4 = .ok (.ifCond .eq 20, 3) := by decide +kernel
theorem d_prog_25_method_11_code_24 : decode prog_25_method_11_code 24 = .ok (.aload_n 0, 1) := by decide +kernel
theorem d_prog_25_method_11_code_25 : decode prog_25_method_11_code 25 = .ok (.getfield 37, 3) := by decide +kernel
theorem d_prog_25_method_11_code_28 : decode prog_25_method_11_code 28 = .ok (.iconst 1, 1) := by decide +kernel
theorem d_prog_25_method_11_code_29 : decode prog_25_method_11_code 29 = .ok (.iadd, 1) := by decide +kernel
theorem d_prog_25_method_11_code_30 : decode prog_25_method_11_code 30 = .ok (.aload_n 0, 1) := by decide +kernel
theorem d_prog_25_method_11_code_31 : decode prog_25_method_11_code 31 = .ok (.getfield 13, 3) := by decide +kernel
theorem d_prog_25_method_11_code_34 : decode prog_25_method_11_code 34 = .ok (.imul, 1) := by decide +kernel
theorem d_prog_25_method_11_code_35 : decode prog_25_method_11_code 35 = .ok (.aload_n 0, 1) := by decide +kernel
theorem d_prog_25_method_11_code_36 : decode prog_25_method_11_code 36 = .ok (.getfield 22, 3) := by decide +kernel
theorem d_prog_25_method_11_code_39 : decode prog_25_method_11_code 39 = .ok (.arraylength, 1) := by decide +kernel
theorem d_prog_25_method_11_code_40 : decode prog_25_method_11_code 40 = .ok (.if_icmp .le 39, 3) := by decide +kernel
theorem d_prog_25_method_11_code_79 : decode prog_25_method_11_code 79 = .ok (.aload_n 0, 1) := by decide +kernel
theorem d_prog_25_method_11_code_80 : decode prog_25_method_11_code 80 = .ok (.getfield 37, 3) := by decide +kernel
theorem d_prog_25_method_11_code_83 : decode prog_25_method_11_code 83 = .ok (.aload_n 0, 1) := by decide +kernel
theorem d_prog_25_method_11_code_84 : decode prog_25_method_11_code 84 = .ok (.getfield 26, 3) := by decide +kernel
theorem d_prog_25_method_11_code_87 : decode prog_25_method_11_code 87 = .ok (.arraylength, 1) := by decide +kernel
theorem d_prog_25_method_11_code_88 : decode prog_25_method_11_code 88 = .ok (.if_icmp .ne 50, 3) := by decide +kernel
theorem d_prog_25_method_11_code_138 : decode prog_25_method_11_code 138 = .ok (.aload_n 1, 1) := by decide +kernel
theorem d_prog_25_method_11_code_139 : decode prog_25_method_11_code 139 = .ok (.iconst 0, 1) := by decide +kernel
theorem d_prog_25_method_11_code_140 : decode prog_25_method_11_code 140 = .ok (.aload_n 0, 1) := by decide +kernel
theorem d_prog_25_method_11_code_141 : decode prog_25_method_11_code 141 = .ok (.getfield 22, 3) := by decide +kernel
theorem d_prog_25_method_11_code_144 : decode prog_25_method_11_code 144 = .ok (.aload_n 0, 1) := by decide +kernel
theorem d_prog_25_method_11_code_145 : decode prog_25_method_11_code 145 = .ok (.getfield 37, 3) := by decide +kernel
theorem d_prog_25_method_11_code_148 : decode prog_25_method_11_code 148 = .ok (.aload_n 0, 1) := by decide +kernel
theorem d_prog_25_method_11_code_149 : decode prog_25_method_11_code 149 = .ok (.getfield 13, 3) := by decide +kernel
theorem d_prog_25_method_11_code_152 : decode prog_25_method_11_code 152 = .ok (.imul, 1) := by decide +kernel
theorem d_prog_25_method_11_code_153 : decode prog_25_method_11_code 153 = .ok (.aload_n 0, 1) := by decide +kernel
theorem d_prog_25_method_11_code_154 : decode prog_25_method_11_code 154 = .ok (.getfield 13, 3) := by decide +kernel
theorem d_prog_25_method_11_code_157 : decode prog_25_method_11_code 157 = .ok (.invokestatic 77, 3) := by decide +kernel
theorem d_prog_25_method_11_code_160 : decode prog_25_method_11_code 160 = .ok (.aload_n 0, 1) := by decide +kernel
theorem d_prog_25_method_11_code_161 : decode prog_25_method_11_code 161 = .ok (.getfield 26, 3) := by decide +kernel
theorem d_prog_25_method_11_code_164 : decode prog_25_method_11_code 164 = .ok (.aload_n 0, 1) := by decide +kernel
theorem d_prog_25_method_11_code_165 : decode prog_25_method_11_code 165 = .ok (.getfield 37, 3) := by decide +kernel
theorem d_prog_25_method_11_code_168 : decode prog_25_method_11_code 168 = .ok (.iload_n 2, 1) := by decide +kernel
theorem d_prog_25_method_11_code_169 : decode prog_25_method_11_code 169 = .ok (.iastore, 1) := by decide +kernel
theorem d_prog_25_method_11_code_170 : decode prog_25_method_11_code 170 = .ok (.aload_n 0, 1) := by decide +kernel
theorem d_prog_25_method_11_code_171 : decode prog_25_method_11_code 171 = .ok (.getfield 30, 3) := by decide +kernel
theorem d_prog_25_method_11_code_174 : decode prog_25_method_11_code 174 = .ok (.aload_n 0, 1) := by decide +kernel
theorem d_prog_25_method_11_code_175 : decode prog_25_method_11_code 175 = .ok (.getfield 37, 3) := by decide +kernel
theorem d_prog_25_method_11_code_178 : decode prog_25_method_11_code 178 = .ok (.iload_n 3, 1) := by decide +kernel
theorem d_prog_25_method_11_code_179 : decode prog_25_method_11_code 179 = .ok (.iastore, 1) := by decide +kernel
theorem d_prog_25_method_11_code_180 : decode prog_25_method_11_code 180 = .ok (.aload_n 0, 1) := by decide +kernel
theorem d_prog_25_method_11_code_181 : decode prog_25_method_11_code 181 = .ok (.dup, 1) := by decide +kernel
theorem d_prog_25_method_11_code_182 : decode prog_25_method_11_code 182 = .ok (.getfield 37, 3) := by decide +kernel
theorem d_prog_25_method_11_code_185 : decode prog_25_method_11_code 185 = .ok (.iconst 1, 1) := by decide +kernel
theorem d_prog_25_method_11_code_186 : decode prog_25_method_11_code 186 = .ok (.iadd, 1) := by decide +kernel
theorem d_prog_25_method_11_code_187 : decode prog_25_method_11_code 187 = .ok (.putfield 37, 3) := by decide +kernel
theorem d_prog_25_method_11_code_190 : decode prog_25_method_11_code 190 = .ok (.return_, 1) := by decide +kernel
def Qrm_add (Z : State) (a : Addr) (pt : Addr) (doc : Int32) (n : Int32) (sz : Int32) (cap : Int32) (dims : Int32) (kb : Addr) (kk : ClassId) (db : Addr) (kd : ClassId) (ob : Addr) (ko : ClassId) (vsK : List Value) (vsD : List Value) (vsO : List Value) (kp : ClassId) (vsP : List Value) (h0 : Heap) (n0 : Nat) (v_ : Option Value) (h_ : Heap) (L_ : List Loc) : Prop := ∃ (vK : List Value), ∃ (vD : List Value), ∃ (vO : List Value), v_ = none ∧ Fr n0 L_ ∧ Keep h0 h_ [a, kb, db, ob] ∧ Exa Z h_ a "com/example/pointcell/pointcell/PointArrays" ∧ Fld Z h_ a "com/example/pointcell/pointcell/PointArrays" "size" "I" (.int (sz + (1 : Int32))) ∧ Fld Z h_ a "com/example/pointcell/pointcell/PointArrays" "dimensions" "I" (.int dims) ∧ Fld Z h_ a "com/example/pointcell/pointcell/PointArrays" "capacity" "I" (.int cap) ∧ Fld Z h_ a "com/example/pointcell/pointcell/PointArrays" "keys" "[J" (.ref kb) ∧ Fld Z h_ a "com/example/pointcell/pointcell/PointArrays" "docIds" "[I" (.ref db) ∧ Fld Z h_ a "com/example/pointcell/pointcell/PointArrays" "ordinals" "[I" (.ref ob) ∧ Arv Z h_ kb kk .long (cap * dims) vK (.long (0 : Int64)) ∧ Arv Z h_ db kd .int cap vD (.int (0 : Int32)) ∧ Arv Z h_ ob ko .int cap vO (.int (0 : Int32)) ∧ vK.length = 8 ∧ vD.length = 4 ∧ vO.length = 4
theorem ef_rm_add (m : MethodId) (x0 : Addr) (x1 : Addr) (x2 : Int32) (x3 : Int32) : entryFrame m #[(.ref x0), (.ref x1), (.int x2), (.int x3)] 5 = mkF m 0 #[.val (.ref x0), .val (.ref x1), .val (.int x2), .val (.int x3), .unset] [] := by first | (simp [entryFrame, mkF, argsToLocals, Value.category]; done) | rfl
set_option maxRecDepth 65536 in
set_option maxHeartbeats 40000000 in
theorem rm_add (l : Launch) (Z : State) (aZ : Array Value) (hw : ∀ d ∈ tables_1, d.before aZ Z = true) (ws : List Jvm.Cond) (a : Addr) (pt : Addr) (doc : Int32) (n : Int32) (sz : Int32) (cap : Int32) (dims : Int32) (kb : Addr) (kk : ClassId) (db : Addr) (kd : ClassId) (ob : Addr) (ko : ClassId) (vsK : List Value) (vsD : List Value) (vsO : List Value) (kp : ClassId) (vsP : List Value) (h0 : Heap) (n0 : Nat) (Z0 : n0 ≤ h0.size) (Ex : Exa Z h0 a "com/example/pointcell/pointcell/PointArrays") (Fs : Fld Z h0 a "com/example/pointcell/pointcell/PointArrays" "size" "I" (.int sz)) (F0 : Fld Z h0 a "com/example/pointcell/pointcell/PointArrays" "dimensions" "I" (.int dims)) (F1 : Fld Z h0 a "com/example/pointcell/pointcell/PointArrays" "capacity" "I" (.int cap)) (F2 : Fld Z h0 a "com/example/pointcell/pointcell/PointArrays" "keys" "[J" (.ref kb)) (F3 : Fld Z h0 a "com/example/pointcell/pointcell/PointArrays" "docIds" "[I" (.ref db)) (F4 : Fld Z h0 a "com/example/pointcell/pointcell/PointArrays" "ordinals" "[I" (.ref ob)) (Ap : Arv Z h0 pt kp .long dims vsP (.long (0 : Int64))) (Ak : Arv Z h0 kb kk .long (cap * dims) vsK (.long (0 : Int64))) (Ad : Arv Z h0 db kd .int cap vsD (.int (0 : Int32))) (Ao : Arv Z h0 ob ko .int cap vsO (.int (0 : Int32))) (ga : n0 ≤ a) (gkb : n0 ≤ kb) (gdb : n0 ≤ db) (gob : n0 ≤ ob) (neakb : a ≠ kb) (neadb : a ≠ db) (neaob : a ≠ ob) (neptkb : pt ≠ kb) (neptdb : pt ≠ db) (neptob : pt ≠ ob) (nepta : pt ≠ a) (nekbdb : kb ≠ db) (nekbob : kb ≠ ob) (nedbob : db ≠ ob) (hdm : dims.toInt = 1 ∨ dims.toInt = 2) (hsz : 0 ≤ sz.toInt ∧ sz.toInt < cap.toInt ∧ cap.toInt ≤ 4) (hlK : vsK.length = 8) (hlD : vsD.length = 4) (hlO : vsO.length = 4) :
    MetFree l (⟨"com/example/pointcell/pointcell/PointArrays", "add", "([JII)V"⟩ : MethodName) (head1 (Jvm.Cond.code (⟨"com/example/pointcell/pointcell/PointArrays", "add", "([JII)V"⟩ : MethodName) prog_25_method_11_code 5 none :: ws) ({ frames := 1, cells := 0, slots := 0, locals := 18 } : Room)) (fun a_ U_ => a_ = #[(.ref a), (.ref pt), (.int doc), (.int n)] ∧ Z.Warmed39 U_.vm ∧ U_.heap = h0) (fun _ _ _ _ _ => True) (fun _ U_ o_ U2_ => ∃ v_ L_, o_ = .returned v_ ∧ Qrm_add Z a pt doc n sz cap dims kb kk db kd ob ko vsK vsD vsO kp vsP h0 n0 v_ U2_.heap L_ ∧ FrameEnd U_ o_ U2_ L_ ({ frames := 1, cells := 0, slots := 0, locals := 18 } : Room).cells ({ frames := 1, cells := 0, slots := 0, locals := 18 } : Room).slots) := by
  refine MetFree.of_bodySF (plainFor_of_name pn_com_example_pointcell_pointcell_PointArrays) hisR ?_
  intro p e s m args below meth cO s₁ Bd hml0 hP hK
  obtain ⟨rfl, hZW, hh⟩ := hP
  have hEX := Bd.exec
  have hBY := Bd.bytes
  have hMX : cO.maxLocals = 5 := hml0
  have hOW : s.vm.findClass "com/example/pointcell/pointcell/PointArrays" = some m.cls := findClass_of_methodNamed Bd.named
  have hNM := (name_of_methodNamed Bd.named Bd.method).1
  have hLK := Bd.notSynchronized
  have hRT := Bd.returns
  have X0 : Stand p l e ({ frames := 1, cells := 0, slots := 0, locals := 18 } : Room) s m #[(.ref a), (.ref pt), (.int doc), (.int n)] below meth cO s₁ [] 0 0 := Stand.of_body Bd
  have e0 : s₁.heap = h0 := by rw [← hh, Bd.state]; rfl
  have N0 := Fr.nil n0
  have K0 : Keep h0 h0 [a, kb, db, ob] := Keep.refl _ _
  show Done p e below s (Qrm_add Z a pt doc n sz cap dims kb kk db kd ob ko vsK vsD vsO kp vsP h0 n0) ({ frames := 1, cells := 0, slots := 0, locals := 18 } : Room).cells ({ frames := 1, cells := 0, slots := 0, locals := 18 } : Room).slots (s₁.setTop (entryFrame m #[(.ref a), (.ref pt), (.int doc), (.int n)] 5))
  refine Done.pre (fun t_ k_ => castTop (ef_rm_add m a pt doc n) k_) ?_
  show Done _ _ _ _ _ _ _ (s₁.setTop (mkF m 0 #[Rv a, Rv pt, Iv doc, Iv n, Us] []))
  have sg_1 : ∀ tt_, Steps p.tables e below (s₁.setTop (mkF m 1 #[Rv a, Rv pt, Iv doc, Iv n, Us] [(.ref a)])) tt_ → Steps p.tables e below (s₁.setTop (mkF m 0 #[Rv a, Rv pt, Iv doc, Iv n, Us] [])) tt_ := by
    intro tt_ kt_
    refine XS.aloadN X0.here hEX rfl (hb hBY d_prog_25_method_11_code_0) rfl rfl ?_
    exact kt_
  refine Done.pre sg_1 ?_
  obtain ⟨cq_2, kq_2, q_2a, q_2b, q_2c⟩ := isOf hZW e0 Ex
  obtain ⟨_, _, ⟨T_2, L_2, k_2, n_2⟩, -, X_2, ⟨Lc_2, hQ_2, l_2, y_2, z_2⟩, st_2⟩ := X0.virtualBack hEX (y := (⟨"com/example/pointcell/pointcell/PointArrays", "isFull", "()Z"⟩ : MethodName)) (z := (⟨"com/example/pointcell/pointcell/PointArrays", "isFull", "()Z"⟩ : MethodName)) hOW (mvT hZW (hw _ (List.mem_of_getElem? (i := 46) rfl))) (mvT hZW (hw _ (List.mem_of_getElem? (i := 26) rfl))) (notFace_of_selects (args := #[]) (mvT hZW (hw _ (List.mem_of_getElem? (i := 28) rfl)))) (mvT hZW (hw _ (List.mem_of_getElem? (i := 28) rfl))) (mvT hZW (hw _ (List.mem_of_getElem? (i := 27) rfl))) (by decide) (backOf (W := 0) (rm_full l Z aZ hw [] a sz cap h0 n0 (Nat.le_trans Z0 K0.1) Fs F1) hZW (hw _ (List.mem_of_getElem? (i := 29) rfl)) (hw _ (List.mem_of_getElem? (i := 3) rfl)) (by decide) (by decide)) q_2a q_2c (g := (mkF m 1 #[Rv a, Rv pt, Iv doc, Iv n, Us] [(.ref a)])) rfl (by rw [hMX]; rfl) (Steps.refl _) (argsL := []) (rest := []) (lenOf pd___Z_1 rfl) rfl (by show 2 * 0 + _ ≤ _; exact Nat.le_of_eq rfl) (hb hBY d_prog_25_method_11_code_1) (fun _ _ => ⟨rfl, e0, (by decide : 0 + 0 ≤ _), (by decide : 0 + 0 ≤ _)⟩)
  dsimp only [Pt.U, Pt.locs, Pt.cells, Pt.slots] at X_2 l_2 y_2 z_2 st_2 hQ_2
  subst l_2 y_2 z_2
  obtain ⟨rfl, N_2q, e_2⟩ := hQ_2
  have N_2 := Fr.app N0 N_2q
  refine Done.pre (fun _ k_ => st_2.trans k_) ?_
  show Done _ _ _ _ _ _ _ (T_2.setTop (mkF m 4 #[Rv a, Rv pt, Iv doc, Iv n, Us] [(.int (own_full sz cap))]))
  have sg_3 : ∀ tt_, Steps p.tables e below (T_2.setTop (mkF m 25 #[Rv a, Rv pt, Iv doc, Iv n, Us] [(.ref a)])) tt_ → Steps p.tables e below (T_2.setTop (mkF m 4 #[Rv a, Rv pt, Iv doc, Iv n, Us] [(.int (own_full sz cap))])) tt_ := by
    intro tt_ kt_
    refine XS.ifYes X_2.here hEX rfl (pc0 := 4) (pc' := 24) rfl (hb hBY d_prog_25_method_11_code_4) rfl ((if0 _ _).trans (teq (own_f0 sz cap hsz : (own_full sz cap) = (0 : Int32))).1) (by decide) (by decide) ?_
    show Steps p.tables e below (T_2.setTop (mkF m 24 #[Rv a, Rv pt, Iv doc, Iv n, Us] [])) tt_
    refine XS.aloadN X_2.here hEX rfl (hb hBY d_prog_25_method_11_code_24) rfl rfl ?_
    exact kt_
  refine Done.pre sg_3 ?_
  obtain ⟨T_4, X_4, e_4, st_4⟩ := getF X_2 hEX hZW hOW (host := "") (Or.inl (hw _ (List.mem_of_getElem? (i := 30) rfl))) Via.refl e_2 Fs (g := (mkF m 25 #[Rv a, Rv pt, Iv doc, Iv n, Us] [(.ref a)])) rfl rfl (hb hBY d_prog_25_method_11_code_25)
  refine Done.pre st_4 ?_
  show Done _ _ _ _ _ _ _ (T_4.setTop (mkF m 28 #[Rv a, Rv pt, Iv doc, Iv n, Us] [(.int sz)]))
  have sg_5 : ∀ tt_, Steps p.tables e below (T_4.setTop (mkF m 31 #[Rv a, Rv pt, Iv doc, Iv n, Us] [(.ref a), (.int (sz + (1 : Int32)))])) tt_ → Steps p.tables e below (T_4.setTop (mkF m 28 #[Rv a, Rv pt, Iv doc, Iv n, Us] [(.int sz)])) tt_ := by
    intro tt_ kt_
    refine XS.iconst X_4.here hEX rfl (hb hBY d_prog_25_method_11_code_28) ?_
    show Steps p.tables e below (T_4.setTop (mkF m 29 #[Rv a, Rv pt, Iv doc, Iv n, Us] [(.int (1 : Int32)), (.int sz)])) tt_
    refine XS.iadd X_4.here hEX rfl (hb hBY d_prog_25_method_11_code_29) rfl ?_
    show Steps p.tables e below (T_4.setTop (mkF m 30 #[Rv a, Rv pt, Iv doc, Iv n, Us] [(.int (sz + (1 : Int32)))])) tt_
    refine XS.aloadN X_4.here hEX rfl (hb hBY d_prog_25_method_11_code_30) rfl rfl ?_
    exact kt_
  refine Done.pre sg_5 ?_
  obtain ⟨T_6, X_6, e_6, st_6⟩ := getF X_4 hEX hZW hOW (host := "") (Or.inl (hw _ (List.mem_of_getElem? (i := 14) rfl))) Via.refl e_4 F0 (g := (mkF m 31 #[Rv a, Rv pt, Iv doc, Iv n, Us] [(.ref a), (.int (sz + (1 : Int32)))])) rfl rfl (hb hBY d_prog_25_method_11_code_31)
  refine Done.pre st_6 ?_
  show Done _ _ _ _ _ _ _ (T_6.setTop (mkF m 34 #[Rv a, Rv pt, Iv doc, Iv n, Us] [(.int dims), (.int (sz + (1 : Int32)))]))
  have sg_7 : ∀ tt_, Steps p.tables e below (T_6.setTop (mkF m 36 #[Rv a, Rv pt, Iv doc, Iv n, Us] [(.ref a), (.int ((sz + (1 : Int32)) * dims))])) tt_ → Steps p.tables e below (T_6.setTop (mkF m 34 #[Rv a, Rv pt, Iv doc, Iv n, Us] [(.int dims), (.int (sz + (1 : Int32)))])) tt_ := by
    intro tt_ kt_
    refine XS.imul X_6.here hEX rfl (hb hBY d_prog_25_method_11_code_34) rfl ?_
    show Steps p.tables e below (T_6.setTop (mkF m 35 #[Rv a, Rv pt, Iv doc, Iv n, Us] [(.int ((sz + (1 : Int32)) * dims))])) tt_
    refine XS.aloadN X_6.here hEX rfl (hb hBY d_prog_25_method_11_code_35) rfl rfl ?_
    exact kt_
  refine Done.pre sg_7 ?_
  obtain ⟨T_8, X_8, e_8, st_8⟩ := getF X_6 hEX hZW hOW (host := "") (Or.inl (hw _ (List.mem_of_getElem? (i := 18) rfl))) Via.refl e_6 F2 (g := (mkF m 36 #[Rv a, Rv pt, Iv doc, Iv n, Us] [(.ref a), (.int ((sz + (1 : Int32)) * dims))])) rfl rfl (hb hBY d_prog_25_method_11_code_36)
  refine Done.pre st_8 ?_
  show Done _ _ _ _ _ _ _ (T_8.setTop (mkF m 39 #[Rv a, Rv pt, Iv doc, Iv n, Us] [(.ref kb), (.int ((sz + (1 : Int32)) * dims))]))
  obtain ⟨cl_9, Ar_9, -, S_9, N__9, -, -⟩ := id Ak
  have sg_10 : ∀ tt_, Steps p.tables e below (T_8.setTop (mkF m 80 #[Rv a, Rv pt, Iv doc, Iv n, Us] [(.ref a)])) tt_ → Steps p.tables e below (T_8.setTop (mkF m 39 #[Rv a, Rv pt, Iv doc, Iv n, Us] [(.ref kb), (.int ((sz + (1 : Int32)) * dims))])) tt_ := by
    intro tt_ kt_
    refine X_8.arraylength hEX (by rw [e_8]; exact Ar_9.1) (State.isArrayOf_alike hZW.alike Ar_9.2.1) (g := (mkF m 39 #[Rv a, Rv pt, Iv doc, Iv n, Us] [(.ref kb), (.int ((sz + (1 : Int32)) * dims))])) rfl rfl (hb hBY d_prog_25_method_11_code_39) _ ?_
    rw [len_of S_9 N__9]
    show Steps p.tables e below (T_8.setTop (mkF m 40 #[Rv a, Rv pt, Iv doc, Iv n, Us] [(.int (cap * dims)), (.int ((sz + (1 : Int32)) * dims))])) tt_
    refine XS.icmpYes X_8.here hEX rfl (pc0 := 40) (pc' := 79) rfl (hb hBY d_prog_25_method_11_code_40) rfl (flt (own_b40 sz cap dims hsz hdm : ¬ ((cap * dims) < ((sz + (1 : Int32)) * dims)))).2.2.2 (by decide) (by decide) ?_
    show Steps p.tables e below (T_8.setTop (mkF m 79 #[Rv a, Rv pt, Iv doc, Iv n, Us] [])) tt_
    refine XS.aloadN X_8.here hEX rfl (hb hBY d_prog_25_method_11_code_79) rfl rfl ?_
    exact kt_
  refine Done.pre sg_10 ?_
  obtain ⟨T_11, X_11, e_11, st_11⟩ := getF X_8 hEX hZW hOW (host := "") (Or.inl (hw _ (List.mem_of_getElem? (i := 30) rfl))) Via.refl e_8 Fs (g := (mkF m 80 #[Rv a, Rv pt, Iv doc, Iv n, Us] [(.ref a)])) rfl rfl (hb hBY d_prog_25_method_11_code_80)
  refine Done.pre st_11 ?_
  show Done _ _ _ _ _ _ _ (T_11.setTop (mkF m 83 #[Rv a, Rv pt, Iv doc, Iv n, Us] [(.int sz)]))
  have sg_12 : ∀ tt_, Steps p.tables e below (T_11.setTop (mkF m 84 #[Rv a, Rv pt, Iv doc, Iv n, Us] [(.ref a), (.int sz)])) tt_ → Steps p.tables e below (T_11.setTop (mkF m 83 #[Rv a, Rv pt, Iv doc, Iv n, Us] [(.int sz)])) tt_ := by
    intro tt_ kt_
    refine XS.aloadN X_11.here hEX rfl (hb hBY d_prog_25_method_11_code_83) rfl rfl ?_
    exact kt_
  refine Done.pre sg_12 ?_
  obtain ⟨T_13, X_13, e_13, st_13⟩ := getF X_11 hEX hZW hOW (host := "") (Or.inl (hw _ (List.mem_of_getElem? (i := 21) rfl))) Via.refl e_11 F3 (g := (mkF m 84 #[Rv a, Rv pt, Iv doc, Iv n, Us] [(.ref a), (.int sz)])) rfl rfl (hb hBY d_prog_25_method_11_code_84)
  refine Done.pre st_13 ?_
  show Done _ _ _ _ _ _ _ (T_13.setTop (mkF m 87 #[Rv a, Rv pt, Iv doc, Iv n, Us] [(.ref db), (.int sz)]))
  obtain ⟨cl_14, Ar_14, -, S_14, N__14, -, -⟩ := id Ad
  have sg_15 : ∀ tt_, Steps p.tables e below (T_13.setTop (mkF m 141 #[Rv a, Rv pt, Iv doc, Iv n, Us] [(.ref a), (.int (0 : Int32)), (.ref pt)])) tt_ → Steps p.tables e below (T_13.setTop (mkF m 87 #[Rv a, Rv pt, Iv doc, Iv n, Us] [(.ref db), (.int sz)])) tt_ := by
    intro tt_ kt_
    refine X_13.arraylength hEX (by rw [e_13]; exact Ar_14.1) (State.isArrayOf_alike hZW.alike Ar_14.2.1) (g := (mkF m 87 #[Rv a, Rv pt, Iv doc, Iv n, Us] [(.ref db), (.int sz)])) rfl rfl (hb hBY d_prog_25_method_11_code_87) _ ?_
    rw [len_of S_14 N__14]
    show Steps p.tables e below (T_13.setTop (mkF m 88 #[Rv a, Rv pt, Iv doc, Iv n, Us] [(.int cap), (.int sz)])) tt_
    refine XS.icmpYes X_13.here hEX rfl (pc0 := 88) (pc' := 138) rfl (hb hBY d_prog_25_method_11_code_88) rfl (feq (own_ne sz cap hsz : ¬ (sz = cap))).2 (by decide) (by decide) ?_
    show Steps p.tables e below (T_13.setTop (mkF m 138 #[Rv a, Rv pt, Iv doc, Iv n, Us] [])) tt_
    refine XS.aloadN X_13.here hEX rfl (hb hBY d_prog_25_method_11_code_138) rfl rfl ?_
    show Steps p.tables e below (T_13.setTop (mkF m 139 #[Rv a, Rv pt, Iv doc, Iv n, Us] [(.ref pt)])) tt_
    refine XS.iconst X_13.here hEX rfl (hb hBY d_prog_25_method_11_code_139) ?_
    show Steps p.tables e below (T_13.setTop (mkF m 140 #[Rv a, Rv pt, Iv doc, Iv n, Us] [(.int (0 : Int32)), (.ref pt)])) tt_
    refine XS.aloadN X_13.here hEX rfl (hb hBY d_prog_25_method_11_code_140) rfl rfl ?_
    exact kt_
  refine Done.pre sg_15 ?_
  obtain ⟨T_16, X_16, e_16, st_16⟩ := getF X_13 hEX hZW hOW (host := "") (Or.inl (hw _ (List.mem_of_getElem? (i := 18) rfl))) Via.refl e_13 F2 (g := (mkF m 141 #[Rv a, Rv pt, Iv doc, Iv n, Us] [(.ref a), (.int (0 : Int32)), (.ref pt)])) rfl rfl (hb hBY d_prog_25_method_11_code_141)
  refine Done.pre st_16 ?_
  show Done _ _ _ _ _ _ _ (T_16.setTop (mkF m 144 #[Rv a, Rv pt, Iv doc, Iv n, Us] [(.ref kb), (.int (0 : Int32)), (.ref pt)]))
  have sg_17 : ∀ tt_, Steps p.tables e below (T_16.setTop (mkF m 145 #[Rv a, Rv pt, Iv doc, Iv n, Us] [(.ref a), (.ref kb), (.int (0 : Int32)), (.ref pt)])) tt_ → Steps p.tables e below (T_16.setTop (mkF m 144 #[Rv a, Rv pt, Iv doc, Iv n, Us] [(.ref kb), (.int (0 : Int32)), (.ref pt)])) tt_ := by
    intro tt_ kt_
    refine XS.aloadN X_16.here hEX rfl (hb hBY d_prog_25_method_11_code_144) rfl rfl ?_
    exact kt_
  refine Done.pre sg_17 ?_
  obtain ⟨T_18, X_18, e_18, st_18⟩ := getF X_16 hEX hZW hOW (host := "") (Or.inl (hw _ (List.mem_of_getElem? (i := 30) rfl))) Via.refl e_16 Fs (g := (mkF m 145 #[Rv a, Rv pt, Iv doc, Iv n, Us] [(.ref a), (.ref kb), (.int (0 : Int32)), (.ref pt)])) rfl rfl (hb hBY d_prog_25_method_11_code_145)
  refine Done.pre st_18 ?_
  show Done _ _ _ _ _ _ _ (T_18.setTop (mkF m 148 #[Rv a, Rv pt, Iv doc, Iv n, Us] [(.int sz), (.ref kb), (.int (0 : Int32)), (.ref pt)]))
  have sg_19 : ∀ tt_, Steps p.tables e below (T_18.setTop (mkF m 149 #[Rv a, Rv pt, Iv doc, Iv n, Us] [(.ref a), (.int sz), (.ref kb), (.int (0 : Int32)), (.ref pt)])) tt_ → Steps p.tables e below (T_18.setTop (mkF m 148 #[Rv a, Rv pt, Iv doc, Iv n, Us] [(.int sz), (.ref kb), (.int (0 : Int32)), (.ref pt)])) tt_ := by
    intro tt_ kt_
    refine XS.aloadN X_18.here hEX rfl (hb hBY d_prog_25_method_11_code_148) rfl rfl ?_
    exact kt_
  refine Done.pre sg_19 ?_
  obtain ⟨T_20, X_20, e_20, st_20⟩ := getF X_18 hEX hZW hOW (host := "") (Or.inl (hw _ (List.mem_of_getElem? (i := 14) rfl))) Via.refl e_18 F0 (g := (mkF m 149 #[Rv a, Rv pt, Iv doc, Iv n, Us] [(.ref a), (.int sz), (.ref kb), (.int (0 : Int32)), (.ref pt)])) rfl rfl (hb hBY d_prog_25_method_11_code_149)
  refine Done.pre st_20 ?_
  show Done _ _ _ _ _ _ _ (T_20.setTop (mkF m 152 #[Rv a, Rv pt, Iv doc, Iv n, Us] [(.int dims), (.int sz), (.ref kb), (.int (0 : Int32)), (.ref pt)]))
  have sg_21 : ∀ tt_, Steps p.tables e below (T_20.setTop (mkF m 154 #[Rv a, Rv pt, Iv doc, Iv n, Us] [(.ref a), (.int (sz * dims)), (.ref kb), (.int (0 : Int32)), (.ref pt)])) tt_ → Steps p.tables e below (T_20.setTop (mkF m 152 #[Rv a, Rv pt, Iv doc, Iv n, Us] [(.int dims), (.int sz), (.ref kb), (.int (0 : Int32)), (.ref pt)])) tt_ := by
    intro tt_ kt_
    refine XS.imul X_20.here hEX rfl (hb hBY d_prog_25_method_11_code_152) rfl ?_
    show Steps p.tables e below (T_20.setTop (mkF m 153 #[Rv a, Rv pt, Iv doc, Iv n, Us] [(.int (sz * dims)), (.ref kb), (.int (0 : Int32)), (.ref pt)])) tt_
    refine XS.aloadN X_20.here hEX rfl (hb hBY d_prog_25_method_11_code_153) rfl rfl ?_
    exact kt_
  refine Done.pre sg_21 ?_
  obtain ⟨T_22, X_22, e_22, st_22⟩ := getF X_20 hEX hZW hOW (host := "") (Or.inl (hw _ (List.mem_of_getElem? (i := 14) rfl))) Via.refl e_20 F0 (g := (mkF m 154 #[Rv a, Rv pt, Iv doc, Iv n, Us] [(.ref a), (.int (sz * dims)), (.ref kb), (.int (0 : Int32)), (.ref pt)])) rfl rfl (hb hBY d_prog_25_method_11_code_154)
  refine Done.pre st_22 ?_
  show Done _ _ _ _ _ _ _ (T_22.setTop (mkF m 157 #[Rv a, Rv pt, Iv doc, Iv n, Us] [(.int dims), (.int (sz * dims)), (.ref kb), (.int (0 : Int32)), (.ref pt)]))
  obtain ⟨T_23, h_23, L_23, X_23, e_23, N_23, K_23, A_23, st_23⟩ := cpA X_22 hEX hZW hOW (hw _ (List.mem_of_getElem? (i := 47) rfl)) (hw _ (List.mem_of_getElem? (i := 50) rfl)) (hw _ (List.mem_of_getElem? (i := 48) rfl)) (hw _ (List.mem_of_getElem? (i := 49) rfl)) e_22 Ap Ak (Or.inl ⟨rfl, rfl⟩) (by decide) (own_pn sz dims (by omega) hdm) (own_dpos dims hdm) (Nat.le_of_eq (Nat.zero_add _)) (own_h5 sz cap dims hsz hdm) rfl (by rw [hlK]; exact own_h8 sz cap dims hsz hdm) N_2 gkb (g := (mkF m 157 #[Rv a, Rv pt, Iv doc, Iv n, Us] [(.int dims), (.int (sz * dims)), (.ref kb), (.int (0 : Int32)), (.ref pt)])) rfl (by rw [hMX]; rfl) rfl (hb hBY d_prog_25_method_11_code_157) (by decide) (W := 0) (by show 2 * 0 + _ ≤ _; exact Nat.le_of_eq rfl) (by decide)
  have K__24 : Keep h0 h_23 [a, kb, db, ob] := K0.trans K_23 (allS (Or.inl (List.mem_of_getElem? (i := 1) rfl)) all0)
  have f_25 : Exa Z h_23 a "com/example/pointcell/pointcell/PointArrays" := Ex.keep K_23
  have f_26 : Fld Z h_23 a "com/example/pointcell/pointcell/PointArrays" "size" "I" (.int sz) := Fs.keep K_23 (ninS neakb nin0)
  have f_27 : Fld Z h_23 a "com/example/pointcell/pointcell/PointArrays" "dimensions" "I" (.int dims) := F0.keep K_23 (ninS neakb nin0)
  have f_28 : Fld Z h_23 a "com/example/pointcell/pointcell/PointArrays" "capacity" "I" (.int cap) := F1.keep K_23 (ninS neakb nin0)
  have f_29 : Fld Z h_23 a "com/example/pointcell/pointcell/PointArrays" "keys" "[J" (.ref kb) := F2.keep K_23 (ninS neakb nin0)
  have f_30 : Fld Z h_23 a "com/example/pointcell/pointcell/PointArrays" "docIds" "[I" (.ref db) := F3.keep K_23 (ninS neakb nin0)
  have f_31 : Fld Z h_23 a "com/example/pointcell/pointcell/PointArrays" "ordinals" "[I" (.ref ob) := F4.keep K_23 (ninS neakb nin0)
  have f_32 : Arv Z h_23 pt kp .long dims vsP (.long (0 : Int64)) := Ap.keep K_23 (ninS neptkb nin0)
  have f_33 : Arv Z h_23 db kd .int cap vsD (.int (0 : Int32)) := Ad.keep K_23 (ninS (Ne.symm nekbdb) nin0)
  have f_34 : Arv Z h_23 ob ko .int cap vsO (.int (0 : Int32)) := Ao.keep K_23 (ninS (Ne.symm nekbob) nin0)
  obtain ⟨vK2, hK2, A_23_⟩ : ∃ vs : List Value, vs.length = 8 ∧ Arv Z h_23 kb kk .long (cap * dims) vs (.long (0 : Int64)) := ⟨_, own_len _ _ _ _ hlK (by rw [List.length_map, List.length_range]) (own_h8 sz cap dims hsz hdm), A_23⟩
  refine Done.pre st_23 ?_
  show Done _ _ _ _ _ _ _ (T_23.setTop (mkF m 160 #[Rv a, Rv pt, Iv doc, Iv n, Us] []))
  have sg_35 : ∀ tt_, Steps p.tables e below (T_23.setTop (mkF m 161 #[Rv a, Rv pt, Iv doc, Iv n, Us] [(.ref a)])) tt_ → Steps p.tables e below (T_23.setTop (mkF m 160 #[Rv a, Rv pt, Iv doc, Iv n, Us] [])) tt_ := by
    intro tt_ kt_
    refine XS.aloadN X_23.here hEX rfl (hb hBY d_prog_25_method_11_code_160) rfl rfl ?_
    exact kt_
  refine Done.pre sg_35 ?_
  obtain ⟨T_36, X_36, e_36, st_36⟩ := getF X_23 hEX hZW hOW (host := "") (Or.inl (hw _ (List.mem_of_getElem? (i := 21) rfl))) Via.refl e_23 f_30 (g := (mkF m 161 #[Rv a, Rv pt, Iv doc, Iv n, Us] [(.ref a)])) rfl rfl (hb hBY d_prog_25_method_11_code_161)
  refine Done.pre st_36 ?_
  show Done _ _ _ _ _ _ _ (T_36.setTop (mkF m 164 #[Rv a, Rv pt, Iv doc, Iv n, Us] [(.ref db)]))
  have sg_37 : ∀ tt_, Steps p.tables e below (T_36.setTop (mkF m 165 #[Rv a, Rv pt, Iv doc, Iv n, Us] [(.ref a), (.ref db)])) tt_ → Steps p.tables e below (T_36.setTop (mkF m 164 #[Rv a, Rv pt, Iv doc, Iv n, Us] [(.ref db)])) tt_ := by
    intro tt_ kt_
    refine XS.aloadN X_36.here hEX rfl (hb hBY d_prog_25_method_11_code_164) rfl rfl ?_
    exact kt_
  refine Done.pre sg_37 ?_
  obtain ⟨T_38, X_38, e_38, st_38⟩ := getF X_36 hEX hZW hOW (host := "") (Or.inl (hw _ (List.mem_of_getElem? (i := 30) rfl))) Via.refl e_36 f_26 (g := (mkF m 165 #[Rv a, Rv pt, Iv doc, Iv n, Us] [(.ref a), (.ref db)])) rfl rfl (hb hBY d_prog_25_method_11_code_165)
  refine Done.pre st_38 ?_
  show Done _ _ _ _ _ _ _ (T_38.setTop (mkF m 168 #[Rv a, Rv pt, Iv doc, Iv n, Us] [(.int sz), (.ref db)]))
  have sg_40 : ∀ tt_, Steps p.tables e below (T_38.setTop (mkF m 169 #[Rv a, Rv pt, Iv doc, Iv n, Us] [(.int doc), (.int sz), (.ref db)])) tt_ → Steps p.tables e below (T_38.setTop (mkF m 168 #[Rv a, Rv pt, Iv doc, Iv n, Us] [(.int sz), (.ref db)])) tt_ := by
    intro tt_ kt_
    refine XS.iloadN X_38.here hEX rfl (hb hBY d_prog_25_method_11_code_168) rfl ?_
    exact kt_
  refine Done.pre sg_40 ?_
  obtain ⟨cl_39, Ar_39, q_39, S_39, N__39, H_39, G_39⟩ := id f_33
  have hin_39 : ¬ (sz < 0 ∨ cl_39.slots.size ≤ (sz).toNatClampNeg) := inb_of S_39 (own_ix sz cap hsz)
  obtain ⟨T_41, h_41, X_41, e_41, W_41, st_41⟩ := stI X_38 hEX hZW e_38 Ar_39 (j := sz) hin_39 (g := (mkF m 169 #[Rv a, Rv pt, Iv doc, Iv n, Us] [(.int doc), (.int sz), (.ref db)])) rfl rfl (hb hBY d_prog_25_method_11_code_169)
  have N_41 := Fr.snoc X_41 N_23 gdb
  have K__42 : Keep h0 h_41 [a, kb, db, ob] := K__24.wr W_41 (Or.inl (List.mem_of_getElem? (i := 2) rfl))
  have f_43 : Exa Z h_41 a "com/example/pointcell/pointcell/PointArrays" := f_25.wr W_41
  have f_44 : Fld Z h_41 a "com/example/pointcell/pointcell/PointArrays" "size" "I" (.int sz) := f_26.other W_41 (Or.inl neadb)
  have f_45 : Fld Z h_41 a "com/example/pointcell/pointcell/PointArrays" "dimensions" "I" (.int dims) := f_27.other W_41 (Or.inl neadb)
  have f_46 : Fld Z h_41 a "com/example/pointcell/pointcell/PointArrays" "capacity" "I" (.int cap) := f_28.other W_41 (Or.inl neadb)
  have f_47 : Fld Z h_41 a "com/example/pointcell/pointcell/PointArrays" "keys" "[J" (.ref kb) := f_29.other W_41 (Or.inl neadb)
  have f_48 : Fld Z h_41 a "com/example/pointcell/pointcell/PointArrays" "docIds" "[I" (.ref db) := f_30.other W_41 (Or.inl neadb)
  have f_49 : Fld Z h_41 a "com/example/pointcell/pointcell/PointArrays" "ordinals" "[I" (.ref ob) := f_31.other W_41 (Or.inl neadb)
  have f_50 : Arv Z h_41 pt kp .long dims vsP (.long (0 : Int64)) := f_32.other W_41 neptdb
  have f_51 : Arv Z h_41 ob ko .int cap vsO (.int (0 : Int32)) := f_34.other W_41 (Ne.symm nedbob)
  have f_52 : Arv Z h_41 kb kk .long (cap * dims) vK2 (.long (0 : Int64)) := A_23_.other W_41 nekbdb
  have f_53 : Arv Z h_41 db kd .int cap (vsD.set (sz).toNatClampNeg (.int doc)) (.int (0 : Int32)) := (Arv.set Ar_39 q_39 S_39 N__39 H_39 G_39 rfl W_41 ((sz).toNatClampNeg) rfl (own_i4 sz cap hsz vsD hlD))
  refine Done.pre st_41 ?_
  show Done _ _ _ _ _ _ _ (T_41.setTop (mkF m 170 #[Rv a, Rv pt, Iv doc, Iv n, Us] []))
  have sg_54 : ∀ tt_, Steps p.tables e below (T_41.setTop (mkF m 171 #[Rv a, Rv pt, Iv doc, Iv n, Us] [(.ref a)])) tt_ → Steps p.tables e below (T_41.setTop (mkF m 170 #[Rv a, Rv pt, Iv doc, Iv n, Us] [])) tt_ := by
    intro tt_ kt_
    refine XS.aloadN X_41.here hEX rfl (hb hBY d_prog_25_method_11_code_170) rfl rfl ?_
    exact kt_
  refine Done.pre sg_54 ?_
  obtain ⟨T_55, X_55, e_55, st_55⟩ := getF X_41 hEX hZW hOW (host := "") (Or.inl (hw _ (List.mem_of_getElem? (i := 23) rfl))) Via.refl e_41 f_49 (g := (mkF m 171 #[Rv a, Rv pt, Iv doc, Iv n, Us] [(.ref a)])) rfl rfl (hb hBY d_prog_25_method_11_code_171)
  refine Done.pre st_55 ?_
  show Done _ _ _ _ _ _ _ (T_55.setTop (mkF m 174 #[Rv a, Rv pt, Iv doc, Iv n, Us] [(.ref ob)]))
  have sg_56 : ∀ tt_, Steps p.tables e below (T_55.setTop (mkF m 175 #[Rv a, Rv pt, Iv doc, Iv n, Us] [(.ref a), (.ref ob)])) tt_ → Steps p.tables e below (T_55.setTop (mkF m 174 #[Rv a, Rv pt, Iv doc, Iv n, Us] [(.ref ob)])) tt_ := by
    intro tt_ kt_
    refine XS.aloadN X_55.here hEX rfl (hb hBY d_prog_25_method_11_code_174) rfl rfl ?_
    exact kt_
  refine Done.pre sg_56 ?_
  obtain ⟨T_57, X_57, e_57, st_57⟩ := getF X_55 hEX hZW hOW (host := "") (Or.inl (hw _ (List.mem_of_getElem? (i := 30) rfl))) Via.refl e_55 f_44 (g := (mkF m 175 #[Rv a, Rv pt, Iv doc, Iv n, Us] [(.ref a), (.ref ob)])) rfl rfl (hb hBY d_prog_25_method_11_code_175)
  refine Done.pre st_57 ?_
  show Done _ _ _ _ _ _ _ (T_57.setTop (mkF m 178 #[Rv a, Rv pt, Iv doc, Iv n, Us] [(.int sz), (.ref ob)]))
  have sg_59 : ∀ tt_, Steps p.tables e below (T_57.setTop (mkF m 179 #[Rv a, Rv pt, Iv doc, Iv n, Us] [(.int n), (.int sz), (.ref ob)])) tt_ → Steps p.tables e below (T_57.setTop (mkF m 178 #[Rv a, Rv pt, Iv doc, Iv n, Us] [(.int sz), (.ref ob)])) tt_ := by
    intro tt_ kt_
    refine XS.iloadN X_57.here hEX rfl (hb hBY d_prog_25_method_11_code_178) rfl ?_
    exact kt_
  refine Done.pre sg_59 ?_
  obtain ⟨cl_58, Ar_58, q_58, S_58, N__58, H_58, G_58⟩ := id f_51
  have hin_58 : ¬ (sz < 0 ∨ cl_58.slots.size ≤ (sz).toNatClampNeg) := inb_of S_58 (own_ix sz cap hsz)
  obtain ⟨T_60, h_60, X_60, e_60, W_60, st_60⟩ := stI X_57 hEX hZW e_57 Ar_58 (j := sz) hin_58 (g := (mkF m 179 #[Rv a, Rv pt, Iv doc, Iv n, Us] [(.int n), (.int sz), (.ref ob)])) rfl rfl (hb hBY d_prog_25_method_11_code_179)
  have N_60 := Fr.snoc X_60 N_41 gob
  have K__61 : Keep h0 h_60 [a, kb, db, ob] := K__42.wr W_60 (Or.inl (List.mem_of_getElem? (i := 3) rfl))
  have f_62 : Exa Z h_60 a "com/example/pointcell/pointcell/PointArrays" := f_43.wr W_60
  have f_63 : Fld Z h_60 a "com/example/pointcell/pointcell/PointArrays" "size" "I" (.int sz) := f_44.other W_60 (Or.inl neaob)
  have f_64 : Fld Z h_60 a "com/example/pointcell/pointcell/PointArrays" "dimensions" "I" (.int dims) := f_45.other W_60 (Or.inl neaob)
  have f_65 : Fld Z h_60 a "com/example/pointcell/pointcell/PointArrays" "capacity" "I" (.int cap) := f_46.other W_60 (Or.inl neaob)
  have f_66 : Fld Z h_60 a "com/example/pointcell/pointcell/PointArrays" "keys" "[J" (.ref kb) := f_47.other W_60 (Or.inl neaob)
  have f_67 : Fld Z h_60 a "com/example/pointcell/pointcell/PointArrays" "docIds" "[I" (.ref db) := f_48.other W_60 (Or.inl neaob)
  have f_68 : Fld Z h_60 a "com/example/pointcell/pointcell/PointArrays" "ordinals" "[I" (.ref ob) := f_49.other W_60 (Or.inl neaob)
  have f_69 : Arv Z h_60 pt kp .long dims vsP (.long (0 : Int64)) := f_50.other W_60 neptob
  have f_70 : Arv Z h_60 kb kk .long (cap * dims) vK2 (.long (0 : Int64)) := f_52.other W_60 nekbob
  have f_71 : Arv Z h_60 db kd .int cap (vsD.set (sz).toNatClampNeg (.int doc)) (.int (0 : Int32)) := f_53.other W_60 nedbob
  have f_72 : Arv Z h_60 ob ko .int cap (vsO.set (sz).toNatClampNeg (.int n)) (.int (0 : Int32)) := (Arv.set Ar_58 q_58 S_58 N__58 H_58 G_58 rfl W_60 ((sz).toNatClampNeg) rfl (own_i4 sz cap hsz vsO hlO))
  refine Done.pre st_60 ?_
  show Done _ _ _ _ _ _ _ (T_60.setTop (mkF m 180 #[Rv a, Rv pt, Iv doc, Iv n, Us] []))
  have sg_73 : ∀ tt_, Steps p.tables e below (T_60.setTop (mkF m 182 #[Rv a, Rv pt, Iv doc, Iv n, Us] [(.ref a), (.ref a)])) tt_ → Steps p.tables e below (T_60.setTop (mkF m 180 #[Rv a, Rv pt, Iv doc, Iv n, Us] [])) tt_ := by
    intro tt_ kt_
    refine XS.aloadN X_60.here hEX rfl (hb hBY d_prog_25_method_11_code_180) rfl rfl ?_
    show Steps p.tables e below (T_60.setTop (mkF m 181 #[Rv a, Rv pt, Iv doc, Iv n, Us] [(.ref a)])) tt_
    refine XS.dup X_60.here hEX rfl (hb hBY d_prog_25_method_11_code_181) rfl rfl ?_
    exact kt_
  refine Done.pre sg_73 ?_
  obtain ⟨T_74, X_74, e_74, st_74⟩ := getF X_60 hEX hZW hOW (host := "") (Or.inl (hw _ (List.mem_of_getElem? (i := 30) rfl))) Via.refl e_60 f_63 (g := (mkF m 182 #[Rv a, Rv pt, Iv doc, Iv n, Us] [(.ref a), (.ref a)])) rfl rfl (hb hBY d_prog_25_method_11_code_182)
  refine Done.pre st_74 ?_
  show Done _ _ _ _ _ _ _ (T_74.setTop (mkF m 185 #[Rv a, Rv pt, Iv doc, Iv n, Us] [(.int sz), (.ref a)]))
  have sg_75 : ∀ tt_, Steps p.tables e below (T_74.setTop (mkF m 187 #[Rv a, Rv pt, Iv doc, Iv n, Us] [(.int (sz + (1 : Int32))), (.ref a)])) tt_ → Steps p.tables e below (T_74.setTop (mkF m 185 #[Rv a, Rv pt, Iv doc, Iv n, Us] [(.int sz), (.ref a)])) tt_ := by
    intro tt_ kt_
    refine XS.iconst X_74.here hEX rfl (hb hBY d_prog_25_method_11_code_185) ?_
    show Steps p.tables e below (T_74.setTop (mkF m 186 #[Rv a, Rv pt, Iv doc, Iv n, Us] [(.int (1 : Int32)), (.int sz), (.ref a)])) tt_
    refine XS.iadd X_74.here hEX rfl (hb hBY d_prog_25_method_11_code_186) rfl ?_
    exact kt_
  refine Done.pre sg_75 ?_
  obtain ⟨T_76, h_76, X_76, e_76, W_76, st_76⟩ := putF X_74 hEX hZW hOW (host := "") (Or.inl (hw _ (List.mem_of_getElem? (i := 30) rfl))) Via.refl e_74 f_63 f_62 (Or.inl (hw _ (List.mem_of_getElem? (i := 31) rfl))) (hw _ (List.mem_of_getElem? (i := 2) rfl)) (ty := .int) (by decide) rfl rfl (g := (mkF m 187 #[Rv a, Rv pt, Iv doc, Iv n, Us] [(.int (sz + (1 : Int32))), (.ref a)])) rfl rfl (hb hBY d_prog_25_method_11_code_187)
  have N_76 := Fr.snoc X_76 N_60 ga
  have K__77 : Keep h0 h_76 [a, kb, db, ob] := K__61.wr W_76 (Or.inl (List.mem_of_getElem? (i := 0) rfl))
  have f_78 : Exa Z h_76 a "com/example/pointcell/pointcell/PointArrays" := f_62.wr W_76
  have f_79 : Fld Z h_76 a "com/example/pointcell/pointcell/PointArrays" "dimensions" "I" (.int dims) := f_64.other W_76 (Or.inr (slot_ne (Or.inr (hw _ (List.mem_of_getElem? (i := 15) rfl))) (Or.inl (hw _ (List.mem_of_getElem? (i := 31) rfl))) (by decide) (t := .int) (t' := .int) (by decide) (by decide)))
  have f_80 : Fld Z h_76 a "com/example/pointcell/pointcell/PointArrays" "capacity" "I" (.int cap) := f_65.other W_76 (Or.inr (slot_ne (Or.inr (hw _ (List.mem_of_getElem? (i := 17) rfl))) (Or.inl (hw _ (List.mem_of_getElem? (i := 31) rfl))) (by decide) (t := .int) (t' := .int) (by decide) (by decide)))
  have f_81 : Fld Z h_76 a "com/example/pointcell/pointcell/PointArrays" "keys" "[J" (.ref kb) := f_66.other W_76 (Or.inr (slot_ne (Or.inl (hw _ (List.mem_of_getElem? (i := 19) rfl))) (Or.inl (hw _ (List.mem_of_getElem? (i := 31) rfl))) (by decide) (t := (.array .long)) (t' := .int) (by decide) (by decide)))
  have f_82 : Fld Z h_76 a "com/example/pointcell/pointcell/PointArrays" "docIds" "[I" (.ref db) := f_67.other W_76 (Or.inr (slot_ne (Or.inl (hw _ (List.mem_of_getElem? (i := 22) rfl))) (Or.inl (hw _ (List.mem_of_getElem? (i := 31) rfl))) (by decide) (t := (.array .int)) (t' := .int) (by decide) (by decide)))
  have f_83 : Fld Z h_76 a "com/example/pointcell/pointcell/PointArrays" "ordinals" "[I" (.ref ob) := f_68.other W_76 (Or.inr (slot_ne (Or.inl (hw _ (List.mem_of_getElem? (i := 24) rfl))) (Or.inl (hw _ (List.mem_of_getElem? (i := 31) rfl))) (by decide) (t := (.array .int)) (t' := .int) (by decide) (by decide)))
  have f_84 : Arv Z h_76 pt kp .long dims vsP (.long (0 : Int64)) := f_69.other W_76 nepta
  have f_85 : Arv Z h_76 kb kk .long (cap * dims) vK2 (.long (0 : Int64)) := f_70.other W_76 (Ne.symm neakb)
  have f_86 : Arv Z h_76 db kd .int cap (vsD.set (sz).toNatClampNeg (.int doc)) (.int (0 : Int32)) := f_71.other W_76 (Ne.symm neadb)
  have f_87 : Arv Z h_76 ob ko .int cap (vsO.set (sz).toNatClampNeg (.int n)) (.int (0 : Int32)) := f_72.other W_76 (Ne.symm neaob)
  have f_88 : Fld Z h_76 a "com/example/pointcell/pointcell/PointArrays" "size" "I" (.int (sz + (1 : Int32))) := f_63.same W_76
  refine Done.pre st_76 ?_
  show Done _ _ _ _ _ _ _ (T_76.setTop (mkF m 190 #[Rv a, Rv pt, Iv doc, Iv n, Us] []))
  exact Done.retV X_76 hEX hLK hRT (hb hBY d_prog_25_method_11_code_190) (by rw [e_76]; exact ⟨vK2, (vsD.set (sz).toNatClampNeg (.int doc)), (vsO.set (sz).toNatClampNeg (.int n)), rfl, N_76, K__77, f_78, f_88, f_79, f_80, f_81, f_82, f_83, f_85, f_86, f_87, (by first | exact hK2 | (rw [List.length_set]; assumption)), (by first | exact hK2 | (rw [List.length_set]; assumption)), (by first | exact hK2 | (rw [List.length_set]; assumption))⟩) (by decide) (by decide)
theorem d_method_3_code_0 : decode method_3_code 0 = .ok (.aload_n 0, 1) := by decide +kernel
theorem d_method_3_code_1 : decode method_3_code 1 = .ok (.aload_n 1, 1) := by decide +kernel
theorem d_method_3_code_2 : decode method_3_code 2 = .ok (.iload_n 2, 1) := by decide +kernel
theorem d_method_3_code_3 : decode method_3_code 3 = .ok (.iload_n 3, 1) := by decide +kernel
theorem d_method_3_code_4 : decode method_3_code 4 = .ok (.invokevirtual 25, 3) := by decide +kernel
theorem pd___JII_V_6 : parseMethodDescriptor "([JII)V" = some ⟨[(.array .long), .int, .int], none⟩ := by decide +kernel
theorem d_method_3_code_7 : decode method_3_code 7 = .ok (.aload_n 0, 1) := by decide +kernel
theorem d_method_3_code_8 : decode method_3_code 8 = .ok (.invokevirtual 12, 3) := by decide +kernel
theorem d_method_3_code_30 : decode method_3_code 30 = .ok (.ireturn, 1) := by decide +kernel
theorem d_method_3_code_11 : decode method_3_code 11 = .ok (.iload_n 3, 1) := by decide +kernel
theorem d_method_3_code_12 : decode method_3_code 12 = .ok (.iload 4, 2) := by decide +kernel
theorem d_method_3_code_14 : decode method_3_code 14 = .ok (.if_icmp .ne 7, 3) := by decide +kernel
theorem d_method_3_code_17 : decode method_3_code 17 = .ok (.iconst 1, 1) := by decide +kernel
theorem d_method_3_code_18 : decode method_3_code 18 = .ok (.goto 4, 3) := by decide +kernel
theorem d_method_3_code_22 : decode method_3_code 22 = .ok (.if_icmp .ne 7, 3) := by decide +kernel
theorem d_method_3_code_25 : decode method_3_code 25 = .ok (.iconst 1, 1) := by decide +kernel
theorem d_method_3_code_26 : decode method_3_code 26 = .ok (.goto 4, 3) := by decide +kernel
theorem d_method_3_code_21 : decode method_3_code 21 = .ok (.iconst 0, 1) := by decide +kernel
def Qrm_step (Z : State) (a : Addr) (pt : Addr) (doc : Int32) (n : Int32) (cap : Int32) (sz : Int32) (dims : Int32) (kb : Addr) (kk : ClassId) (db : Addr) (kd : ClassId) (ob : Addr) (ko : ClassId) (vsK : List Value) (vsD : List Value) (vsO : List Value) (kp : ClassId) (vsP : List Value) (h0 : Heap) (n0 : Nat) (v_ : Option Value) (h_ : Heap) (L_ : List Loc) : Prop := ∃ (vK : List Value), ∃ (vD : List Value), ∃ (vO : List Value), v_ = some (.int (1 : Int32)) ∧ Fr n0 L_ ∧ Keep h0 h_ [a, kb, db, ob] ∧ Exa Z h_ a "com/example/pointcell/pointcell/PointArrays" ∧ Fld Z h_ a "com/example/pointcell/pointcell/PointArrays" "size" "I" (.int (sz + (1 : Int32))) ∧ Fld Z h_ a "com/example/pointcell/pointcell/PointArrays" "dimensions" "I" (.int dims) ∧ Fld Z h_ a "com/example/pointcell/pointcell/PointArrays" "capacity" "I" (.int cap) ∧ Fld Z h_ a "com/example/pointcell/pointcell/PointArrays" "keys" "[J" (.ref kb) ∧ Fld Z h_ a "com/example/pointcell/pointcell/PointArrays" "docIds" "[I" (.ref db) ∧ Fld Z h_ a "com/example/pointcell/pointcell/PointArrays" "ordinals" "[I" (.ref ob) ∧ Arv Z h_ kb kk .long (cap * dims) vK (.long (0 : Int64)) ∧ Arv Z h_ db kd .int cap vD (.int (0 : Int32)) ∧ Arv Z h_ ob ko .int cap vO (.int (0 : Int32)) ∧ vK.length = 8 ∧ vD.length = 4 ∧ vO.length = 4
theorem ef_rm_step (m : MethodId) (x0 : Addr) (x1 : Addr) (x2 : Int32) (x3 : Int32) (x4 : Int32) : entryFrame m #[(.ref x0), (.ref x1), (.int x2), (.int x3), (.int x4)] 5 = mkF m 0 #[.val (.ref x0), .val (.ref x1), .val (.int x2), .val (.int x3), .val (.int x4)] [] := by first | (simp [entryFrame, mkF, argsToLocals, Value.category]; done) | rfl
theorem pn_com_example_pointcell_pointcell_PointArraysIsFullPinLaw : plainName "com/example/pointcell/pointcell/PointArraysIsFullPinLaw" = true := by first | (simp [plainName, overriddenIn]; done) | decide +kernel
set_option maxRecDepth 65536 in
set_option maxHeartbeats 40000000 in
theorem rm_step (l : Launch) (Z : State) (aZ : Array Value) (hw : ∀ d ∈ tables_1, d.before aZ Z = true) (ws : List Jvm.Cond) (a : Addr) (pt : Addr) (doc : Int32) (n : Int32) (cap : Int32) (sz : Int32) (dims : Int32) (kb : Addr) (kk : ClassId) (db : Addr) (kd : ClassId) (ob : Addr) (ko : ClassId) (vsK : List Value) (vsD : List Value) (vsO : List Value) (kp : ClassId) (vsP : List Value) (h0 : Heap) (n0 : Nat) (Z0 : n0 ≤ h0.size) (Ex : Exa Z h0 a "com/example/pointcell/pointcell/PointArrays") (Fs : Fld Z h0 a "com/example/pointcell/pointcell/PointArrays" "size" "I" (.int sz)) (F0 : Fld Z h0 a "com/example/pointcell/pointcell/PointArrays" "dimensions" "I" (.int dims)) (F1 : Fld Z h0 a "com/example/pointcell/pointcell/PointArrays" "capacity" "I" (.int cap)) (F2 : Fld Z h0 a "com/example/pointcell/pointcell/PointArrays" "keys" "[J" (.ref kb)) (F3 : Fld Z h0 a "com/example/pointcell/pointcell/PointArrays" "docIds" "[I" (.ref db)) (F4 : Fld Z h0 a "com/example/pointcell/pointcell/PointArrays" "ordinals" "[I" (.ref ob)) (Ap : Arv Z h0 pt kp .long dims vsP (.long (0 : Int64))) (Ak : Arv Z h0 kb kk .long (cap * dims) vsK (.long (0 : Int64))) (Ad : Arv Z h0 db kd .int cap vsD (.int (0 : Int32))) (Ao : Arv Z h0 ob ko .int cap vsO (.int (0 : Int32))) (ga : n0 ≤ a) (gkb : n0 ≤ kb) (gdb : n0 ≤ db) (gob : n0 ≤ ob) (neakb : a ≠ kb) (neadb : a ≠ db) (neaob : a ≠ ob) (neptkb : pt ≠ kb) (neptdb : pt ≠ db) (neptob : pt ≠ ob) (nepta : pt ≠ a) (nekbdb : kb ≠ db) (nekbob : kb ≠ ob) (nedbob : db ≠ ob) (hdm : dims.toInt = 1 ∨ dims.toInt = 2) (hsz : 0 ≤ sz.toInt ∧ sz.toInt < cap.toInt ∧ cap.toInt ≤ 4) (hlK : vsK.length = 8) (hlD : vsD.length = 4) (hlO : vsO.length = 4) (hn : n = sz + (1 : Int32)) :
    MetFree l (⟨"com/example/pointcell/pointcell/PointArraysIsFullPinLaw", "step", "(Lcom/example/pointcell/pointcell/PointArrays;[JIII)Z"⟩ : MethodName) (head1 (Jvm.Cond.code (⟨"com/example/pointcell/pointcell/PointArraysIsFullPinLaw", "step", "(Lcom/example/pointcell/pointcell/PointArrays;[JIII)Z"⟩ : MethodName) method_3_code 5 (some .boolean) :: ws) ({ frames := 2, cells := 0, slots := 0, locals := 34 } : Room)) (fun a_ U_ => a_ = #[(.ref a), (.ref pt), (.int doc), (.int n), (.int cap)] ∧ Z.Warmed39 U_.vm ∧ U_.heap = h0) (fun _ _ _ _ _ => True) (fun _ U_ o_ U2_ => ∃ v_ L_, o_ = .returned v_ ∧ Qrm_step Z a pt doc n cap sz dims kb kk db kd ob ko vsK vsD vsO kp vsP h0 n0 v_ U2_.heap L_ ∧ FrameEnd U_ o_ U2_ L_ ({ frames := 2, cells := 0, slots := 0, locals := 34 } : Room).cells ({ frames := 2, cells := 0, slots := 0, locals := 34 } : Room).slots) := by
  refine MetFree.of_bodySF (plainFor_of_name pn_com_example_pointcell_pointcell_PointArraysIsFullPinLaw) hisR ?_
  intro p e s m args below meth cO s₁ Bd hml0 hP hK
  obtain ⟨rfl, hZW, hh⟩ := hP
  have hEX := Bd.exec
  have hBY := Bd.bytes
  have hMX : cO.maxLocals = 5 := hml0
  have hOW : s.vm.findClass "com/example/pointcell/pointcell/PointArraysIsFullPinLaw" = some m.cls := findClass_of_methodNamed Bd.named
  have hNM := (name_of_methodNamed Bd.named Bd.method).1
  have hLK := Bd.notSynchronized
  have hRT := Bd.returns
  have X0 : Stand p l e ({ frames := 2, cells := 0, slots := 0, locals := 34 } : Room) s m #[(.ref a), (.ref pt), (.int doc), (.int n), (.int cap)] below meth cO s₁ [] 0 0 := Stand.of_body Bd
  have e0 : s₁.heap = h0 := by rw [← hh, Bd.state]; rfl
  have N0 := Fr.nil n0
  have K0 : Keep h0 h0 [a, kb, db, ob] := Keep.refl _ _
  show Done p e below s (Qrm_step Z a pt doc n cap sz dims kb kk db kd ob ko vsK vsD vsO kp vsP h0 n0) ({ frames := 2, cells := 0, slots := 0, locals := 34 } : Room).cells ({ frames := 2, cells := 0, slots := 0, locals := 34 } : Room).slots (s₁.setTop (entryFrame m #[(.ref a), (.ref pt), (.int doc), (.int n), (.int cap)] 5))
  refine Done.pre (fun t_ k_ => castTop (ef_rm_step m a pt doc n cap) k_) ?_
  show Done _ _ _ _ _ _ _ (s₁.setTop (mkF m 0 #[Rv a, Rv pt, Iv doc, Iv n, Iv cap] []))
  have sg_1 : ∀ tt_, Steps p.tables e below (s₁.setTop (mkF m 4 #[Rv a, Rv pt, Iv doc, Iv n, Iv cap] [(.int n), (.int doc), (.ref pt), (.ref a)])) tt_ → Steps p.tables e below (s₁.setTop (mkF m 0 #[Rv a, Rv pt, Iv doc, Iv n, Iv cap] [])) tt_ := by
    intro tt_ kt_
    refine XS.aloadN X0.here hEX rfl (hb hBY d_method_3_code_0) rfl rfl ?_
    show Steps p.tables e below (s₁.setTop (mkF m 1 #[Rv a, Rv pt, Iv doc, Iv n, Iv cap] [(.ref a)])) tt_
    refine XS.aloadN X0.here hEX rfl (hb hBY d_method_3_code_1) rfl rfl ?_
    show Steps p.tables e below (s₁.setTop (mkF m 2 #[Rv a, Rv pt, Iv doc, Iv n, Iv cap] [(.ref pt), (.ref a)])) tt_
    refine XS.iloadN X0.here hEX rfl (hb hBY d_method_3_code_2) rfl ?_
    show Steps p.tables e below (s₁.setTop (mkF m 3 #[Rv a, Rv pt, Iv doc, Iv n, Iv cap] [(.int doc), (.ref pt), (.ref a)])) tt_
    refine XS.iloadN X0.here hEX rfl (hb hBY d_method_3_code_3) rfl ?_
    exact kt_
  refine Done.pre sg_1 ?_
  obtain ⟨cq_2, kq_2, q_2a, q_2b, q_2c⟩ := isOf hZW e0 Ex
  obtain ⟨_, _, ⟨T_2, L_2, k_2, n_2⟩, -, X_2, ⟨Lc_2, hQ_2, l_2, y_2, z_2⟩, st_2⟩ := X0.virtualBack hEX (y := (⟨"com/example/pointcell/pointcell/PointArrays", "add", "([JII)V"⟩ : MethodName)) (z := (⟨"com/example/pointcell/pointcell/PointArrays", "add", "([JII)V"⟩ : MethodName)) hOW (mvT hZW (hw _ (List.mem_of_getElem? (i := 41) rfl))) (mvT hZW (hw _ (List.mem_of_getElem? (i := 42) rfl))) (notFace_of_selects (args := #[]) (mvT hZW (hw _ (List.mem_of_getElem? (i := 44) rfl)))) (mvT hZW (hw _ (List.mem_of_getElem? (i := 44) rfl))) (mvT hZW (hw _ (List.mem_of_getElem? (i := 43) rfl))) (by decide) (backOf (W := 0) (rm_add l Z aZ hw [] a pt doc n sz cap dims kb kk db kd ob ko vsK vsD vsO kp vsP h0 n0 (Nat.le_trans Z0 K0.1) Ex Fs F0 F1 F2 F3 F4 Ap Ak Ad Ao ga gkb gdb gob neakb neadb neaob neptkb neptdb neptob nepta nekbdb nekbob nedbob hdm hsz hlK hlD hlO) hZW (hw _ (List.mem_of_getElem? (i := 45) rfl)) (hw _ (List.mem_of_getElem? (i := 3) rfl)) (by decide) (by decide)) q_2a q_2c (g := (mkF m 4 #[Rv a, Rv pt, Iv doc, Iv n, Iv cap] [(.int n), (.int doc), (.ref pt), (.ref a)])) rfl (by rw [hMX]; rfl) (Steps.refl _) (argsL := [(.ref pt), (.int doc), (.int n)]) (rest := []) (lenOf pd___JII_V_6 rfl) rfl (by show 2 * 0 + _ ≤ _; exact Nat.le_of_eq rfl) (hb hBY d_method_3_code_4) (fun _ _ => ⟨rfl, e0, (by decide : 0 + 0 ≤ _), (by decide : 0 + 0 ≤ _)⟩)
  dsimp only [Pt.U, Pt.locs, Pt.cells, Pt.slots] at X_2 l_2 y_2 z_2 st_2 hQ_2
  subst l_2 y_2 z_2
  obtain ⟨vK__2, vD__2, vO__2, rfl, N_2q, K_2, hq_2_0, hq_2_1, hq_2_2, hq_2_3, hq_2_4, hq_2_5, hq_2_6, hq_2_7, hq_2_8, hq_2_9, hq_2_10, hq_2_11, hq_2_12⟩ := hQ_2
  have N_2 := Fr.app N0 N_2q
  have K__3 : Keep h0 T_2.heap [a, kb, db, ob] := K0.trans K_2 (allS (Or.inl (List.mem_of_getElem? (i := 0) rfl)) (allS (Or.inl (List.mem_of_getElem? (i := 1) rfl)) (allS (Or.inl (List.mem_of_getElem? (i := 2) rfl)) (allS (Or.inl (List.mem_of_getElem? (i := 3) rfl)) all0))))
  have f_4 : Exa Z T_2.heap a "com/example/pointcell/pointcell/PointArrays" := Ex.keep K_2
  have f_5 : Arv Z T_2.heap pt kp .long dims vsP (.long (0 : Int64)) := Ap.keep K_2 (ninS nepta (ninS neptkb (ninS neptdb (ninS neptob nin0))))
  refine Done.pre (fun _ k_ => st_2.trans k_) ?_
  show Done _ _ _ _ _ _ _ (T_2.setTop (mkF m 7 #[Rv a, Rv pt, Iv doc, Iv n, Iv cap] []))
  have sg_6 : ∀ tt_, Steps p.tables e below (T_2.setTop (mkF m 8 #[Rv a, Rv pt, Iv doc, Iv n, Iv cap] [(.ref a)])) tt_ → Steps p.tables e below (T_2.setTop (mkF m 7 #[Rv a, Rv pt, Iv doc, Iv n, Iv cap] [])) tt_ := by
    intro tt_ kt_
    refine XS.aloadN X_2.here hEX rfl (hb hBY d_method_3_code_7) rfl rfl ?_
    exact kt_
  refine Done.pre sg_6 ?_
  obtain ⟨cq_7, kq_7, q_7a, q_7b, q_7c⟩ := isOf hZW rfl hq_2_0
  obtain ⟨_, _, ⟨T_7, L_7, k_7, n_7⟩, -, X_7, ⟨Lc_7, hQ_7, l_7, y_7, z_7⟩, st_7⟩ := X_2.virtualBack hEX (y := (⟨"com/example/pointcell/pointcell/PointArrays", "isFull", "()Z"⟩ : MethodName)) (z := (⟨"com/example/pointcell/pointcell/PointArrays", "isFull", "()Z"⟩ : MethodName)) hOW (mvT hZW (hw _ (List.mem_of_getElem? (i := 25) rfl))) (mvT hZW (hw _ (List.mem_of_getElem? (i := 26) rfl))) (notFace_of_selects (args := #[]) (mvT hZW (hw _ (List.mem_of_getElem? (i := 28) rfl)))) (mvT hZW (hw _ (List.mem_of_getElem? (i := 28) rfl))) (mvT hZW (hw _ (List.mem_of_getElem? (i := 27) rfl))) (by decide) (backOf (W := 0) (rm_full l Z aZ hw [] a (sz + (1 : Int32)) cap T_2.heap n0 (Nat.le_trans Z0 K__3.1) hq_2_1 hq_2_3) hZW (hw _ (List.mem_of_getElem? (i := 29) rfl)) (hw _ (List.mem_of_getElem? (i := 3) rfl)) (by decide) (by decide)) q_7a q_7c (g := (mkF m 8 #[Rv a, Rv pt, Iv doc, Iv n, Iv cap] [(.ref a)])) rfl (by rw [hMX]; rfl) (Steps.refl _) (argsL := []) (rest := []) (lenOf pd___Z_1 rfl) rfl (by show 2 * 0 + _ ≤ _; exact Nat.le_of_eq rfl) (hb hBY d_method_3_code_8) (fun _ _ => ⟨rfl, rfl, (by decide : 0 + 0 ≤ _), (by decide : 0 + 0 ≤ _)⟩)
  dsimp only [Pt.U, Pt.locs, Pt.cells, Pt.slots] at X_7 l_7 y_7 z_7 st_7 hQ_7
  subst l_7 y_7 z_7
  obtain ⟨rfl, N_7q, e_7⟩ := hQ_7
  have N_7 := Fr.app N_2 N_7q
  refine Done.pre (fun _ k_ => st_7.trans k_) ?_
  show Done _ _ _ _ _ _ _ (T_7.setTop (mkF m 11 #[Rv a, Rv pt, Iv doc, Iv n, Iv cap] [(.int (own_full (sz + (1 : Int32)) cap))]))
  have jn_8 : Done p e below s (Qrm_step Z a pt doc n cap sz dims kb kk db kd ob ko vsK vsD vsO kp vsP h0 n0) ({ frames := 2, cells := 0, slots := 0, locals := 34 } : Room).cells ({ frames := 2, cells := 0, slots := 0, locals := 34 } : Room).slots (T_7.setTop (mkF m 30 #[Rv a, Rv pt, Iv doc, Iv n, Iv cap] [(.int (1 : Int32))])) := by
    show Done _ _ _ _ _ _ _ (T_7.setTop (mkF m 30 #[Rv a, Rv pt, Iv doc, Iv n, Iv cap] [(.int (1 : Int32))]))
    exact Done.retN X_7 hEX hLK (t := .boolean) hRT (by simp) (hb hBY d_method_3_code_30) (by rw [e_7]; exact ⟨vK__2, vD__2, vO__2, rfl, N_7, K__3, hq_2_0, hq_2_1, hq_2_2, hq_2_3, hq_2_4, hq_2_5, hq_2_6, hq_2_7, hq_2_8, hq_2_9, (by assumption), (by assumption), (by assumption)⟩) (by decide) (by decide)
  show Done _ _ _ _ _ _ _ (T_7.setTop (mkF m 11 #[Rv a, Rv pt, Iv doc, Iv n, Iv cap] [(.int (own_full (sz + (1 : Int32)) cap))]))
  have sg_9 : ∀ tt_, Steps p.tables e below (T_7.setTop (mkF m 14 #[Rv a, Rv pt, Iv doc, Iv n, Iv cap] [(.int cap), (.int n), (.int (own_full (sz + (1 : Int32)) cap))])) tt_ → Steps p.tables e below (T_7.setTop (mkF m 11 #[Rv a, Rv pt, Iv doc, Iv n, Iv cap] [(.int (own_full (sz + (1 : Int32)) cap))])) tt_ := by
    intro tt_ kt_
    refine XS.iloadN X_7.here hEX rfl (hb hBY d_method_3_code_11) rfl ?_
    show Steps p.tables e below (T_7.setTop (mkF m 12 #[Rv a, Rv pt, Iv doc, Iv n, Iv cap] [(.int n), (.int (own_full (sz + (1 : Int32)) cap))])) tt_
    refine XS.iload X_7.here hEX rfl (hb hBY d_method_3_code_12) rfl ?_
    exact kt_
  refine Done.pre sg_9 ?_
  by_cases hc14 : n = cap
  · skip
    have sg_10 : ∀ tt_, Steps p.tables e below (T_7.setTop (mkF m 30 #[Rv a, Rv pt, Iv doc, Iv n, Iv cap] [(.int (1 : Int32))])) tt_ → Steps p.tables e below (T_7.setTop (mkF m 14 #[Rv a, Rv pt, Iv doc, Iv n, Iv cap] [(.int cap), (.int n), (.int (own_full (sz + (1 : Int32)) cap))])) tt_ := by
      intro tt_ kt_
      refine XS.icmpNo X_7.here hEX rfl (hb hBY d_method_3_code_14) rfl (teq hc14).2 ?_
      show Steps p.tables e below (T_7.setTop (mkF m 17 #[Rv a, Rv pt, Iv doc, Iv n, Iv cap] [(.int (own_full (sz + (1 : Int32)) cap))])) tt_
      refine XS.iconst X_7.here hEX rfl (hb hBY d_method_3_code_17) ?_
      show Steps p.tables e below (T_7.setTop (mkF m 18 #[Rv a, Rv pt, Iv doc, Iv n, Iv cap] [(.int (1 : Int32)), (.int (own_full (sz + (1 : Int32)) cap))])) tt_
      refine XS.goto X_7.here hEX rfl (pc0 := 18) (pc' := 22) rfl (hb hBY d_method_3_code_18) (by decide) (by decide) ?_
      show Steps p.tables e below (T_7.setTop (mkF m 22 #[Rv a, Rv pt, Iv doc, Iv n, Iv cap] [(.int (1 : Int32)), (.int (own_full (sz + (1 : Int32)) cap))])) tt_
      refine XS.icmpNo X_7.here hEX rfl (hb hBY d_method_3_code_22) rfl (teq ((by rw [own_full, if_pos (hn.symm.trans hc14)]) : (own_full (sz + (1 : Int32)) cap) = (1 : Int32))).2 ?_
      show Steps p.tables e below (T_7.setTop (mkF m 25 #[Rv a, Rv pt, Iv doc, Iv n, Iv cap] [])) tt_
      refine XS.iconst X_7.here hEX rfl (hb hBY d_method_3_code_25) ?_
      show Steps p.tables e below (T_7.setTop (mkF m 26 #[Rv a, Rv pt, Iv doc, Iv n, Iv cap] [(.int (1 : Int32))])) tt_
      refine XS.goto X_7.here hEX rfl (pc0 := 26) (pc' := 30) rfl (hb hBY d_method_3_code_26) (by decide) (by decide) ?_
      exact kt_
    refine Done.pre sg_10 ?_
    exact jn_8 
  · skip
    have sg_11 : ∀ tt_, Steps p.tables e below (T_7.setTop (mkF m 30 #[Rv a, Rv pt, Iv doc, Iv n, Iv cap] [(.int (1 : Int32))])) tt_ → Steps p.tables e below (T_7.setTop (mkF m 14 #[Rv a, Rv pt, Iv doc, Iv n, Iv cap] [(.int cap), (.int n), (.int (own_full (sz + (1 : Int32)) cap))])) tt_ := by
      intro tt_ kt_
      refine XS.icmpYes X_7.here hEX rfl (pc0 := 14) (pc' := 21) rfl (hb hBY d_method_3_code_14) rfl (feq hc14).2 (by decide) (by decide) ?_
      show Steps p.tables e below (T_7.setTop (mkF m 21 #[Rv a, Rv pt, Iv doc, Iv n, Iv cap] [(.int (own_full (sz + (1 : Int32)) cap))])) tt_
      refine XS.iconst X_7.here hEX rfl (hb hBY d_method_3_code_21) ?_
      show Steps p.tables e below (T_7.setTop (mkF m 22 #[Rv a, Rv pt, Iv doc, Iv n, Iv cap] [(.int (0 : Int32)), (.int (own_full (sz + (1 : Int32)) cap))])) tt_
      refine XS.icmpNo X_7.here hEX rfl (hb hBY d_method_3_code_22) rfl (teq ((by rw [own_full, if_neg (fun q => hc14 (hn.trans q))]) : (own_full (sz + (1 : Int32)) cap) = (0 : Int32))).2 ?_
      show Steps p.tables e below (T_7.setTop (mkF m 25 #[Rv a, Rv pt, Iv doc, Iv n, Iv cap] [])) tt_
      refine XS.iconst X_7.here hEX rfl (hb hBY d_method_3_code_25) ?_
      show Steps p.tables e below (T_7.setTop (mkF m 26 #[Rv a, Rv pt, Iv doc, Iv n, Iv cap] [(.int (1 : Int32))])) tt_
      refine XS.goto X_7.here hEX rfl (pc0 := 26) (pc' := 30) rfl (hb hBY d_method_3_code_26) (by decide) (by decide) ?_
      exact kt_
    refine Done.pre sg_11 ?_
    exact jn_8 
theorem pd__II_V_3 : parseMethodDescriptor "(II)V" = some ⟨[.int, .int], none⟩ := by decide +kernel
theorem pd___V_0 : parseMethodDescriptor "()V" = some ⟨[], none⟩ := by decide +kernel
theorem pd__Lcom_example_pointcell_pointcell_PointArrays__JIII_Z_4 : parseMethodDescriptor "(Lcom/example/pointcell/pointcell/PointArrays;[JIII)Z" = some ⟨[(.object "com/example/pointcell/pointcell/PointArrays"), (.array .long), .int, .int, .int], some .boolean⟩ := by decide +kernel
def Qrm0 (Z : State) (p1 : Int32) (p2 : Int32) (p3 : Int32) (q4 : Int64) (p5 : Int32) (h0 : Heap) (n0 : Nat) (v_ : Option Value) (h_ : Heap) (L_ : List Loc) : Prop := v_ = some (.int (1 : Int32)) ∧ Fr n0 L_ ∧ Keep h0 h_ []
theorem ef_rm0 (m : MethodId) (x0 : Int32) (x1 : Int32) (x2 : Int32) (x3 : Int64) (x4 : Int32) : entryFrame m #[(.int x0), (.int x1), (.int x2), (.long x3), (.int x4)] maxLocals = mkF m 0 #[.val (.int x0), .val (.int x1), .val (.int x2), .val (.long x3), .second, .val (.int x4), .unset, .unset, .unset, .unset, .unset, .unset] [] := by first | (simp [entryFrame, mkF, argsToLocals, Value.category, maxLocals]; done) | rfl
set_option maxRecDepth 65536 in
set_option maxHeartbeats 40000000 in
theorem rm0 (l : Launch) (Z : State) (aZ : Array Value) (hw : ∀ d ∈ tables_1, d.before aZ Z = true) (ws : List Jvm.Cond) (p1 : Int32) (p2 : Int32) (p3 : Int32) (q4 : Int64) (p5 : Int32) (h0 : Heap) (n0 : Nat) (Z0 : n0 ≤ h0.size) :
    MetFree l x (head1 (Jvm.Cond.code x code maxLocals ret :: ws) room_1) (fun a_ U_ => a_ = #[(.int p1), (.int p2), (.int p3), (.long q4), (.int p5)] ∧ Z.Warmed39 U_.vm ∧ U_.heap = h0) (fun _ _ _ _ _ => True) (fun _ U_ o_ U2_ => ∃ v_ L_, o_ = .returned v_ ∧ Qrm0 Z p1 p2 p3 q4 p5 h0 n0 v_ U2_.heap L_ ∧ FrameEnd U_ o_ U2_ L_ room_1.cells room_1.slots) := by
  refine MetFree.of_bodySF (plainFor_of_name pn_com_example_pointcell_pointcell_PointArraysIsFullPinLaw) hisR ?_
  intro p e s m args below meth cO s₁ Bd hml0 hP hK
  obtain ⟨rfl, hZW, hh⟩ := hP
  have hEX := Bd.exec
  have hBY := Bd.bytes
  have hMX : cO.maxLocals = 12 := hml0
  have hOW : s.vm.findClass "com/example/pointcell/pointcell/PointArraysIsFullPinLaw" = some m.cls := findClass_of_methodNamed Bd.named
  have hNM := (name_of_methodNamed Bd.named Bd.method).1
  have hLK := Bd.notSynchronized
  have hRT := Bd.returns
  have X0 : Stand p l e room_1 s m #[(.int p1), (.int p2), (.int p3), (.long q4), (.int p5)] below meth cO s₁ [] 0 0 := Stand.of_body Bd
  have e0 : s₁.heap = h0 := by rw [← hh, Bd.state]; rfl
  have N0 := Fr.nil n0
  have K0 : Keep h0 h0 [] := Keep.refl _ _
  show Done p e below s (Qrm0 Z p1 p2 p3 q4 p5 h0 n0) room_1.cells room_1.slots (s₁.setTop (entryFrame m #[(.int p1), (.int p2), (.int p3), (.long q4), (.int p5)] maxLocals))
  refine Done.pre (fun t_ k_ => castTop (ef_rm0 m p1 p2 p3 q4 p5) k_) ?_
  show Done _ _ _ _ _ _ _ (s₁.setTop (mkF m 0 #[Iv p1, Iv p2, Iv p3, Lv q4, Zs, Iv p5, Us, Us, Us, Us, Us, Us] []))
  have sg_1 : ∀ tt_, Steps p.tables e below (s₁.setTop (mkF m 6 #[Iv p1, Iv p2, Iv p3, Lv q4, Zs, Iv p5, Us, Us, Us, Us, Us, Us] [(.int ((p1 &&& (7 : Int32)) % (5 : Int32)))])) tt_ → Steps p.tables e below (s₁.setTop (mkF m 0 #[Iv p1, Iv p2, Iv p3, Lv q4, Zs, Iv p5, Us, Us, Us, Us, Us, Us] [])) tt_ := by
    intro tt_ kt_
    refine XS.iloadN X0.here hEX rfl (hb hBY at_0) rfl ?_
    show Steps p.tables e below (s₁.setTop (mkF m 1 #[Iv p1, Iv p2, Iv p3, Lv q4, Zs, Iv p5, Us, Us, Us, Us, Us, Us] [(.int p1)])) tt_
    refine XS.bipush X0.here hEX rfl (hb hBY at_1) ?_
    show Steps p.tables e below (s₁.setTop (mkF m 3 #[Iv p1, Iv p2, Iv p3, Lv q4, Zs, Iv p5, Us, Us, Us, Us, Us, Us] [(.int (7 : Int32)), (.int p1)])) tt_
    refine XS.iand X0.here hEX rfl (hb hBY at_3) rfl ?_
    show Steps p.tables e below (s₁.setTop (mkF m 4 #[Iv p1, Iv p2, Iv p3, Lv q4, Zs, Iv p5, Us, Us, Us, Us, Us, Us] [(.int (p1 &&& (7 : Int32)))])) tt_
    refine XS.iconst X0.here hEX rfl (hb hBY at_4) ?_
    show Steps p.tables e below (s₁.setTop (mkF m 5 #[Iv p1, Iv p2, Iv p3, Lv q4, Zs, Iv p5, Us, Us, Us, Us, Us, Us] [(.int (5 : Int32)), (.int (p1 &&& (7 : Int32)))])) tt_
    refine iremM X0 hEX rfl (hb hBY at_5) rfl (by decide) ?_
    exact kt_
  refine Done.pre sg_1 ?_
  show Done _ _ _ _ _ _ _ (s₁.setTop (mkF m 6 #[Iv p1, Iv p2, Iv p3, Lv q4, Zs, Iv p5, Us, Us, Us, Us, Us, Us] [(.int ((p1 &&& (7 : Int32)) % (5 : Int32)))]))
  obtain ⟨cap, hcap⟩ : ∃ z : Int32, z = ((p1 &&& (7 : Int32)) % (5 : Int32)) := ⟨_, rfl⟩
  rw [← hcap]
  show Done _ _ _ _ _ _ _ (s₁.setTop (mkF m 6 #[Iv p1, Iv p2, Iv p3, Lv q4, Zs, Iv p5, Us, Us, Us, Us, Us, Us] [(.int cap)]))
  have hcp : 0 ≤ cap.toInt ∧ cap.toInt ≤ 4 := by rw [hcap]; exact own_cap _
  have sg_2 : ∀ tt_, Steps p.tables e below (s₁.setTop (mkF m 17 #[Iv p1, Iv p2, Iv p3, Lv q4, Zs, Iv p5, Iv cap, Us, Us, Us, Us, Us] [(.int ((p2 &&& (7 : Int32)) % (cap + (1 : Int32))))])) tt_ → Steps p.tables e below (s₁.setTop (mkF m 6 #[Iv p1, Iv p2, Iv p3, Lv q4, Zs, Iv p5, Us, Us, Us, Us, Us, Us] [(.int cap)])) tt_ := by
    intro tt_ kt_
    refine XS.istore X0.here hEX rfl (hb hBY at_6) rfl (l' := #[Iv p1, Iv p2, Iv p3, Lv q4, Zs, Iv p5, Iv cap, Us, Us, Us, Us, Us]) rfl ?_
    show Steps p.tables e below (s₁.setTop (mkF m 8 #[Iv p1, Iv p2, Iv p3, Lv q4, Zs, Iv p5, Iv cap, Us, Us, Us, Us, Us] [])) tt_
    refine XS.iloadN X0.here hEX rfl (hb hBY at_8) rfl ?_
    show Steps p.tables e below (s₁.setTop (mkF m 9 #[Iv p1, Iv p2, Iv p3, Lv q4, Zs, Iv p5, Iv cap, Us, Us, Us, Us, Us] [(.int p2)])) tt_
    refine XS.bipush X0.here hEX rfl (hb hBY at_9) ?_
    show Steps p.tables e below (s₁.setTop (mkF m 11 #[Iv p1, Iv p2, Iv p3, Lv q4, Zs, Iv p5, Iv cap, Us, Us, Us, Us, Us] [(.int (7 : Int32)), (.int p2)])) tt_
    refine XS.iand X0.here hEX rfl (hb hBY at_11) rfl ?_
    show Steps p.tables e below (s₁.setTop (mkF m 12 #[Iv p1, Iv p2, Iv p3, Lv q4, Zs, Iv p5, Iv cap, Us, Us, Us, Us, Us] [(.int (p2 &&& (7 : Int32)))])) tt_
    refine XS.iload X0.here hEX rfl (hb hBY at_12) rfl ?_
    show Steps p.tables e below (s₁.setTop (mkF m 14 #[Iv p1, Iv p2, Iv p3, Lv q4, Zs, Iv p5, Iv cap, Us, Us, Us, Us, Us] [(.int cap), (.int (p2 &&& (7 : Int32)))])) tt_
    refine XS.iconst X0.here hEX rfl (hb hBY at_14) ?_
    show Steps p.tables e below (s₁.setTop (mkF m 15 #[Iv p1, Iv p2, Iv p3, Lv q4, Zs, Iv p5, Iv cap, Us, Us, Us, Us, Us] [(.int (1 : Int32)), (.int cap), (.int (p2 &&& (7 : Int32)))])) tt_
    refine XS.iadd X0.here hEX rfl (hb hBY at_15) rfl ?_
    show Steps p.tables e below (s₁.setTop (mkF m 16 #[Iv p1, Iv p2, Iv p3, Lv q4, Zs, Iv p5, Iv cap, Us, Us, Us, Us, Us] [(.int (cap + (1 : Int32))), (.int (p2 &&& (7 : Int32)))])) tt_
    refine iremM X0 hEX rfl (hb hBY at_16) rfl (own_capnz cap hcp) ?_
    exact kt_
  refine Done.pre sg_2 ?_
  show Done _ _ _ _ _ _ _ (s₁.setTop (mkF m 17 #[Iv p1, Iv p2, Iv p3, Lv q4, Zs, Iv p5, Iv cap, Us, Us, Us, Us, Us] [(.int ((p2 &&& (7 : Int32)) % (cap + (1 : Int32))))]))
  obtain ⟨cnt, hcnt⟩ : ∃ z : Int32, z = ((p2 &&& (7 : Int32)) % (cap + (1 : Int32))) := ⟨_, rfl⟩
  rw [← hcnt]
  show Done _ _ _ _ _ _ _ (s₁.setTop (mkF m 17 #[Iv p1, Iv p2, Iv p3, Lv q4, Zs, Iv p5, Iv cap, Us, Us, Us, Us, Us] [(.int cnt)]))
  have hct : 0 ≤ cnt.toInt ∧ cnt.toInt ≤ cap.toInt := by rw [hcnt]; exact own_cnt _ _ hcp
  have sg_3 : ∀ tt_, Steps p.tables e below (s₁.setTop (mkF m 24 #[Iv p1, Iv p2, Iv p3, Lv q4, Zs, Iv p5, Iv cap, Iv cnt, Us, Us, Us, Us] [(.int ((1 : Int32) + (p3 &&& (1 : Int32))))])) tt_ → Steps p.tables e below (s₁.setTop (mkF m 17 #[Iv p1, Iv p2, Iv p3, Lv q4, Zs, Iv p5, Iv cap, Us, Us, Us, Us, Us] [(.int cnt)])) tt_ := by
    intro tt_ kt_
    refine XS.istore X0.here hEX rfl (hb hBY at_17) rfl (l' := #[Iv p1, Iv p2, Iv p3, Lv q4, Zs, Iv p5, Iv cap, Iv cnt, Us, Us, Us, Us]) rfl ?_
    show Steps p.tables e below (s₁.setTop (mkF m 19 #[Iv p1, Iv p2, Iv p3, Lv q4, Zs, Iv p5, Iv cap, Iv cnt, Us, Us, Us, Us] [])) tt_
    refine XS.iconst X0.here hEX rfl (hb hBY at_19) ?_
    show Steps p.tables e below (s₁.setTop (mkF m 20 #[Iv p1, Iv p2, Iv p3, Lv q4, Zs, Iv p5, Iv cap, Iv cnt, Us, Us, Us, Us] [(.int (1 : Int32))])) tt_
    refine XS.iloadN X0.here hEX rfl (hb hBY at_20) rfl ?_
    show Steps p.tables e below (s₁.setTop (mkF m 21 #[Iv p1, Iv p2, Iv p3, Lv q4, Zs, Iv p5, Iv cap, Iv cnt, Us, Us, Us, Us] [(.int p3), (.int (1 : Int32))])) tt_
    refine XS.iconst X0.here hEX rfl (hb hBY at_21) ?_
    show Steps p.tables e below (s₁.setTop (mkF m 22 #[Iv p1, Iv p2, Iv p3, Lv q4, Zs, Iv p5, Iv cap, Iv cnt, Us, Us, Us, Us] [(.int (1 : Int32)), (.int p3), (.int (1 : Int32))])) tt_
    refine XS.iand X0.here hEX rfl (hb hBY at_22) rfl ?_
    show Steps p.tables e below (s₁.setTop (mkF m 23 #[Iv p1, Iv p2, Iv p3, Lv q4, Zs, Iv p5, Iv cap, Iv cnt, Us, Us, Us, Us] [(.int (p3 &&& (1 : Int32))), (.int (1 : Int32))])) tt_
    refine XS.iadd X0.here hEX rfl (hb hBY at_23) rfl ?_
    exact kt_
  refine Done.pre sg_3 ?_
  show Done _ _ _ _ _ _ _ (s₁.setTop (mkF m 24 #[Iv p1, Iv p2, Iv p3, Lv q4, Zs, Iv p5, Iv cap, Iv cnt, Us, Us, Us, Us] [(.int ((1 : Int32) + (p3 &&& (1 : Int32))))]))
  obtain ⟨dm, hdm⟩ : ∃ z : Int32, z = ((1 : Int32) + (p3 &&& (1 : Int32))) := ⟨_, rfl⟩
  rw [← hdm]
  show Done _ _ _ _ _ _ _ (s₁.setTop (mkF m 24 #[Iv p1, Iv p2, Iv p3, Lv q4, Zs, Iv p5, Iv cap, Iv cnt, Us, Us, Us, Us] [(.int dm)]))
  have hdd : dm.toInt = 1 ∨ dm.toInt = 2 := by rw [hdm]; exact own_dm _
  have sg_4 : ∀ tt_, Steps p.tables e below (s₁.setTop (mkF m 28 #[Iv p1, Iv p2, Iv p3, Lv q4, Zs, Iv p5, Iv cap, Iv cnt, Iv dm, Us, Us, Us] [(.int dm)])) tt_ → Steps p.tables e below (s₁.setTop (mkF m 24 #[Iv p1, Iv p2, Iv p3, Lv q4, Zs, Iv p5, Iv cap, Iv cnt, Us, Us, Us, Us] [(.int dm)])) tt_ := by
    intro tt_ kt_
    refine XS.istore X0.here hEX rfl (hb hBY at_24) rfl (l' := #[Iv p1, Iv p2, Iv p3, Lv q4, Zs, Iv p5, Iv cap, Iv cnt, Iv dm, Us, Us, Us]) rfl ?_
    show Steps p.tables e below (s₁.setTop (mkF m 26 #[Iv p1, Iv p2, Iv p3, Lv q4, Zs, Iv p5, Iv cap, Iv cnt, Iv dm, Us, Us, Us] [])) tt_
    refine XS.iload X0.here hEX rfl (hb hBY at_26) rfl ?_
    exact kt_
  refine Done.pre sg_4 ?_
  obtain ⟨T_5, h_5, k_5, X_5, e_5, E_5, A_5, st_5⟩ := newP X0 hEX hZW (hw _ (List.mem_of_getElem? (i := 0) rfl)) e0 (g := (mkF m 28 #[Iv p1, Iv p2, Iv p3, Lv q4, Zs, Iv p5, Iv cap, Iv cnt, Iv dm, Us, Us, Us] [(.int dm)])) rfl (hb hBY at_28) rfl (own_dpos dm hdd) (cap := 2) (own_d2 dm hdd) (by decide) (by decide) (by decide)
  obtain ⟨b_5, g_5⟩ : ∃ z, z = h0.size := ⟨_, rfl⟩
  rw [← g_5] at A_5 st_5
  have sz_b_5 : h0.size ≤ b_5 := Nat.le_trans K0.1 (Nat.le_of_eq g_5.symm)
  have ge_b_5 : n0 ≤ b_5 := Nat.le_trans Z0 sz_b_5
  have K__6 : Keep h0 h_5 [] := K0.ext E_5
  have f_7 : Arv Z h_5 b_5 k_5 .long dm [(.long (0 : Int64)), (.long (0 : Int64))] (.long (0 : Int64)) := (Arv.new A_5 (own_dpos dm hdd)).pad (pad_rep [] (.long (0 : Int64)) 2)
  refine Done.pre st_5 ?_
  show Done _ _ _ _ _ _ _ (T_5.setTop (mkF m 30 #[Iv p1, Iv p2, Iv p3, Lv q4, Zs, Iv p5, Iv cap, Iv cnt, Iv dm, Us, Us, Us] [(.ref b_5)]))
  have sg_9 : ∀ tt_, Steps p.tables e below (T_5.setTop (mkF m 36 #[Iv p1, Iv p2, Iv p3, Lv q4, Zs, Iv p5, Iv cap, Iv cnt, Iv dm, Rv b_5, Us, Us] [(.long q4), (.int (0 : Int32)), (.ref b_5)])) tt_ → Steps p.tables e below (T_5.setTop (mkF m 30 #[Iv p1, Iv p2, Iv p3, Lv q4, Zs, Iv p5, Iv cap, Iv cnt, Iv dm, Us, Us, Us] [(.ref b_5)])) tt_ := by
    intro tt_ kt_
    refine XS.astore X_5.here hEX rfl (hb hBY at_30) rfl rfl (l' := #[Iv p1, Iv p2, Iv p3, Lv q4, Zs, Iv p5, Iv cap, Iv cnt, Iv dm, Rv b_5, Us, Us]) rfl ?_
    show Steps p.tables e below (T_5.setTop (mkF m 32 #[Iv p1, Iv p2, Iv p3, Lv q4, Zs, Iv p5, Iv cap, Iv cnt, Iv dm, Rv b_5, Us, Us] [])) tt_
    refine XS.aload X_5.here hEX rfl (hb hBY at_32) rfl rfl ?_
    show Steps p.tables e below (T_5.setTop (mkF m 34 #[Iv p1, Iv p2, Iv p3, Lv q4, Zs, Iv p5, Iv cap, Iv cnt, Iv dm, Rv b_5, Us, Us] [(.ref b_5)])) tt_
    refine XS.iconst X_5.here hEX rfl (hb hBY at_34) ?_
    show Steps p.tables e below (T_5.setTop (mkF m 35 #[Iv p1, Iv p2, Iv p3, Lv q4, Zs, Iv p5, Iv cap, Iv cnt, Iv dm, Rv b_5, Us, Us] [(.int (0 : Int32)), (.ref b_5)])) tt_
    refine XS.lloadN X_5.here hEX rfl (hb hBY at_35) rfl ?_
    exact kt_
  refine Done.pre sg_9 ?_
  obtain ⟨cl_8, Ar_8, q_8, S_8, N__8, H_8, G_8⟩ := id f_7
  have hin_8 : ¬ ((0 : Int32) < 0 ∨ cl_8.slots.size ≤ ((0 : Int32)).toNatClampNeg) := inb_of S_8 ⟨by decide, own_d0 dm hdd⟩
  obtain ⟨T_10, h_10, X_10, e_10, W_10, st_10⟩ := stJ X_5 hEX hZW e_5 Ar_8 (j := (0 : Int32)) hin_8 (g := (mkF m 36 #[Iv p1, Iv p2, Iv p3, Lv q4, Zs, Iv p5, Iv cap, Iv cnt, Iv dm, Rv b_5, Us, Us] [(.long q4), (.int (0 : Int32)), (.ref b_5)])) rfl rfl (hb hBY at_36)
  have N_10 := Fr.snoc X_10 N0 ge_b_5
  have K__11 : Keep h0 h_10 [] := K__6.wr W_10 (Or.inr sz_b_5)
  have f_12 : Arv Z h_10 b_5 k_5 .long dm [(.long q4), (.long (0 : Int64))] (.long (0 : Int64)) := Arv.set Ar_8 q_8 S_8 N__8 H_8 G_8 rfl W_10 0 rfl (Nat.le_of_ble_eq_true rfl)
  refine Done.pre st_10 ?_
  show Done _ _ _ _ _ _ _ (T_10.setTop (mkF m 37 #[Iv p1, Iv p2, Iv p3, Lv q4, Zs, Iv p5, Iv cap, Iv cnt, Iv dm, Rv b_5, Us, Us] []))
  have sg_14 : ∀ tt_, Steps p.tables e below (T_10.setTop (mkF m 44 #[Iv p1, Iv p2, Iv p3, Lv q4, Zs, Iv p5, Iv cap, Iv cnt, Iv dm, Rv b_5, Us, Us] [(.long q4), (.int (dm - (1 : Int32))), (.ref b_5)])) tt_ → Steps p.tables e below (T_10.setTop (mkF m 37 #[Iv p1, Iv p2, Iv p3, Lv q4, Zs, Iv p5, Iv cap, Iv cnt, Iv dm, Rv b_5, Us, Us] [])) tt_ := by
    intro tt_ kt_
    refine XS.aload X_10.here hEX rfl (hb hBY at_37) rfl rfl ?_
    show Steps p.tables e below (T_10.setTop (mkF m 39 #[Iv p1, Iv p2, Iv p3, Lv q4, Zs, Iv p5, Iv cap, Iv cnt, Iv dm, Rv b_5, Us, Us] [(.ref b_5)])) tt_
    refine XS.iload X_10.here hEX rfl (hb hBY at_39) rfl ?_
    show Steps p.tables e below (T_10.setTop (mkF m 41 #[Iv p1, Iv p2, Iv p3, Lv q4, Zs, Iv p5, Iv cap, Iv cnt, Iv dm, Rv b_5, Us, Us] [(.int dm), (.ref b_5)])) tt_
    refine XS.iconst X_10.here hEX rfl (hb hBY at_41) ?_
    show Steps p.tables e below (T_10.setTop (mkF m 42 #[Iv p1, Iv p2, Iv p3, Lv q4, Zs, Iv p5, Iv cap, Iv cnt, Iv dm, Rv b_5, Us, Us] [(.int (1 : Int32)), (.int dm), (.ref b_5)])) tt_
    refine XS.isub X_10.here hEX rfl (hb hBY at_42) rfl ?_
    show Steps p.tables e below (T_10.setTop (mkF m 43 #[Iv p1, Iv p2, Iv p3, Lv q4, Zs, Iv p5, Iv cap, Iv cnt, Iv dm, Rv b_5, Us, Us] [(.int (dm - (1 : Int32))), (.ref b_5)])) tt_
    refine XS.lloadN X_10.here hEX rfl (hb hBY at_43) rfl ?_
    exact kt_
  refine Done.pre sg_14 ?_
  obtain ⟨cl_13, Ar_13, q_13, S_13, N__13, H_13, G_13⟩ := id f_12
  have hin_13 : ¬ ((dm - (1 : Int32)) < 0 ∨ cl_13.slots.size ≤ ((dm - (1 : Int32))).toNatClampNeg) := inb_of S_13 (own_dix dm hdd)
  obtain ⟨T_15, h_15, X_15, e_15, W_15, st_15⟩ := stJ X_10 hEX hZW e_10 Ar_13 (j := (dm - (1 : Int32))) hin_13 (g := (mkF m 44 #[Iv p1, Iv p2, Iv p3, Lv q4, Zs, Iv p5, Iv cap, Iv cnt, Iv dm, Rv b_5, Us, Us] [(.long q4), (.int (dm - (1 : Int32))), (.ref b_5)])) rfl rfl (hb hBY at_44)
  have N_15 := Fr.snoc X_15 N_10 ge_b_5
  have K__16 : Keep h0 h_15 [] := K__11.wr W_15 (Or.inr sz_b_5)
  have f_17 : Arv Z h_15 b_5 k_5 .long dm ([(.long q4), (.long (0 : Int64))].set (dm - (1 : Int32)).toNatClampNeg (.long q4)) (.long (0 : Int64)) := (Arv.set Ar_13 q_13 S_13 N__13 H_13 G_13 rfl W_15 ((dm - (1 : Int32)).toNatClampNeg) rfl (own_di2 dm hdd))
  refine Done.pre st_15 ?_
  show Done _ _ _ _ _ _ _ (T_15.setTop (mkF m 45 #[Iv p1, Iv p2, Iv p3, Lv q4, Zs, Iv p5, Iv cap, Iv cnt, Iv dm, Rv b_5, Us, Us] []))
  obtain ⟨T_18, h_18, X_18, e_18, E_18, A_18, D_18, -, st_18⟩ := newO X_15 hEX hZW hOW (hw _ (List.mem_of_getElem? (i := 1) rfl)) (hw _ (List.mem_of_getElem? (i := 2) rfl)) (hw _ (List.mem_of_getElem? (i := 3) rfl)) e_15 (g := (mkF m 45 #[Iv p1, Iv p2, Iv p3, Lv q4, Zs, Iv p5, Iv cap, Iv cnt, Iv dm, Rv b_5, Us, Us] [])) rfl (hb hBY at_45) (by decide) (by decide)
  obtain ⟨b_18, g_18⟩ : ∃ z, z = h_15.size := ⟨_, rfl⟩
  rw [← g_18] at A_18 D_18 st_18
  have sz_b_18 : h0.size ≤ b_18 := Nat.le_trans K__16.1 (Nat.le_of_eq g_18.symm)
  have ge_b_18 : n0 ≤ b_18 := Nat.le_trans Z0 sz_b_18
  have ne_b_5_b_18 : b_5 ≠ b_18 := Nat.ne_of_lt (Nat.lt_of_lt_of_le f_17.lt (Nat.le_of_eq g_18.symm))
  have K__19 : Keep h0 h_18 [] := K__16.ext E_18
  have f_20 : Arv Z h_18 b_5 k_5 .long dm ([(.long q4), (.long (0 : Int64))].set (dm - (1 : Int32)).toNatClampNeg (.long q4)) (.long (0 : Int64)) := f_17.ext E_18
  have f_21 : Exa Z h_18 b_18 "com/example/pointcell/pointcell/PointArrays" := A_18
  have f_22 : Fld Z h_18 b_18 "com/example/pointcell/pointcell/PointArrays" "dimensions" "I" (.int (0 : Int32)) := D_18 (Or.inr (hw _ (List.mem_of_getElem? (i := 15) rfl))) (ty := .int) (by decide)
  have f_23 : Fld Z h_18 b_18 "com/example/pointcell/pointcell/PointArrays" "capacity" "I" (.int (0 : Int32)) := D_18 (Or.inr (hw _ (List.mem_of_getElem? (i := 17) rfl))) (ty := .int) (by decide)
  have f_24 : Fld Z h_18 b_18 "com/example/pointcell/pointcell/PointArrays" "keys" "[J" .null := D_18 (Or.inl (hw _ (List.mem_of_getElem? (i := 19) rfl))) (ty := (.array .long)) (by decide)
  have f_25 : Fld Z h_18 b_18 "com/example/pointcell/pointcell/PointArrays" "docIds" "[I" .null := D_18 (Or.inl (hw _ (List.mem_of_getElem? (i := 22) rfl))) (ty := (.array .int)) (by decide)
  have f_26 : Fld Z h_18 b_18 "com/example/pointcell/pointcell/PointArrays" "ordinals" "[I" .null := D_18 (Or.inl (hw _ (List.mem_of_getElem? (i := 24) rfl))) (ty := (.array .int)) (by decide)
  have f_27 : Fld Z h_18 b_18 "com/example/pointcell/pointcell/PointArrays" "size" "I" (.int (0 : Int32)) := D_18 (Or.inl (hw _ (List.mem_of_getElem? (i := 31) rfl))) (ty := .int) (by decide)
  refine Done.pre st_18 ?_
  show Done _ _ _ _ _ _ _ (T_18.setTop (mkF m 48 #[Iv p1, Iv p2, Iv p3, Lv q4, Zs, Iv p5, Iv cap, Iv cnt, Iv dm, Rv b_5, Us, Us] [(.ref b_18)]))
  have sg_28 : ∀ tt_, Steps p.tables e below (T_18.setTop (mkF m 53 #[Iv p1, Iv p2, Iv p3, Lv q4, Zs, Iv p5, Iv cap, Iv cnt, Iv dm, Rv b_5, Us, Us] [(.int cap), (.int dm), (.ref b_18), (.ref b_18)])) tt_ → Steps p.tables e below (T_18.setTop (mkF m 48 #[Iv p1, Iv p2, Iv p3, Lv q4, Zs, Iv p5, Iv cap, Iv cnt, Iv dm, Rv b_5, Us, Us] [(.ref b_18)])) tt_ := by
    intro tt_ kt_
    refine XS.dup X_18.here hEX rfl (hb hBY at_48) rfl rfl ?_
    show Steps p.tables e below (T_18.setTop (mkF m 49 #[Iv p1, Iv p2, Iv p3, Lv q4, Zs, Iv p5, Iv cap, Iv cnt, Iv dm, Rv b_5, Us, Us] [(.ref b_18), (.ref b_18)])) tt_
    refine XS.iload X_18.here hEX rfl (hb hBY at_49) rfl ?_
    show Steps p.tables e below (T_18.setTop (mkF m 51 #[Iv p1, Iv p2, Iv p3, Lv q4, Zs, Iv p5, Iv cap, Iv cnt, Iv dm, Rv b_5, Us, Us] [(.int dm), (.ref b_18), (.ref b_18)])) tt_
    refine XS.iload X_18.here hEX rfl (hb hBY at_51) rfl ?_
    exact kt_
  refine Done.pre sg_28 ?_
  obtain ⟨_, _, ⟨T_29, L_29, k_29, n_29⟩, -, X_29, ⟨Lc_29, hQ_29, l_29, y_29, z_29⟩, st_29⟩ := X_18.specialBack hEX (y := (⟨"com/example/pointcell/pointcell/PointArrays", "<init>", "(II)V"⟩ : MethodName)) rfl hOW (mvT hZW (hw _ (List.mem_of_getElem? (i := 4) rfl))) (mvT hZW (hw _ (List.mem_of_getElem? (i := 5) rfl))) (mvT hZW (hw _ (List.mem_of_getElem? (i := 6) rfl))) (by decide) (backOf (W := 1) (rm_init l Z aZ hw [] b_18 dm cap (0 : Int32) (.int (0 : Int32)) (.int (0 : Int32)) .null .null .null h_18 n0 (Nat.le_trans Z0 K__19.1) f_21 f_27 f_22 f_23 f_24 f_25 f_26 ge_b_18 hdd hcp) hZW (hw _ (List.mem_of_getElem? (i := 6) rfl)) (hw _ (List.mem_of_getElem? (i := 3) rfl)) (by decide) (by decide)) (g := (mkF m 53 #[Iv p1, Iv p2, Iv p3, Lv q4, Zs, Iv p5, Iv cap, Iv cnt, Iv dm, Rv b_5, Us, Us] [(.int cap), (.int dm), (.ref b_18), (.ref b_18)])) rfl (by rw [hMX]; rfl) (Steps.refl _) (a := b_18) (argsL := [(.int dm), (.int cap)]) (rest := [(.ref b_18)]) (lenOf pd__II_V_3 rfl) rfl (by show 2 * 0 + _ ≤ _; exact Nat.le_of_eq rfl) (hb hBY at_53) (fun _ _ => ⟨rfl, e_18, (by decide : 2 + 3 ≤ _), (by decide : 8 + 16 ≤ _)⟩)
  dsimp only [Pt.U, Pt.locs, Pt.cells, Pt.slots] at X_29 l_29 y_29 z_29 st_29 hQ_29
  subst l_29 y_29 z_29
  obtain ⟨kb__29, kk__29, db__29, kd__29, ob__29, ko__29, vK__29, vD__29, vO__29, rfl, N_29q, K_29, hq_29_0, hq_29_1, hq_29_2, hq_29_3, hq_29_4, hq_29_5, hq_29_6, hq_29_7, hq_29_8, hq_29_9, hq_29_10, hq_29_11, hq_29_12, hq_29_13, hq_29_14, hq_29_15, hq_29_16, hq_29_17, hq_29_18⟩ := hQ_29
  have N_29 := Fr.app N_15 N_29q
  have K__30 : Keep h0 T_29.heap [] := K__19.trans K_29 (allS (Or.inr sz_b_18) all0)
  have f_31 : Arv Z T_29.heap b_5 k_5 .long dm ([(.long q4), (.long (0 : Int64))].set (dm - (1 : Int32)).toNatClampNeg (.long q4)) (.long (0 : Int64)) := f_20.keep K_29 (ninS ne_b_5_b_18 nin0)
  have f_32 : Exa Z T_29.heap b_18 "com/example/pointcell/pointcell/PointArrays" := f_21.keep K_29
  have sz_kb__29 : h0.size ≤ kb__29 := Nat.le_trans K__19.1 hq_29_10
  have ne_b_5_kb__29 : b_5 ≠ kb__29 := Nat.ne_of_lt (Nat.lt_of_lt_of_le f_20.lt hq_29_10)
  have ne_b_18_kb__29 : b_18 ≠ kb__29 := Nat.ne_of_lt (Nat.lt_of_lt_of_le f_21.lt hq_29_10)
  have sz_db__29 : h0.size ≤ db__29 := Nat.le_trans K__19.1 hq_29_11
  have ne_b_5_db__29 : b_5 ≠ db__29 := Nat.ne_of_lt (Nat.lt_of_lt_of_le f_20.lt hq_29_11)
  have ne_b_18_db__29 : b_18 ≠ db__29 := Nat.ne_of_lt (Nat.lt_of_lt_of_le f_21.lt hq_29_11)
  have sz_ob__29 : h0.size ≤ ob__29 := Nat.le_trans K__19.1 hq_29_12
  have ne_b_5_ob__29 : b_5 ≠ ob__29 := Nat.ne_of_lt (Nat.lt_of_lt_of_le f_20.lt hq_29_12)
  have ne_b_18_ob__29 : b_18 ≠ ob__29 := Nat.ne_of_lt (Nat.lt_of_lt_of_le f_21.lt hq_29_12)
  refine Done.pre (fun _ k_ => st_29.trans k_) ?_
  show Done _ _ _ _ _ _ _ (T_29.setTop (mkF m 56 #[Iv p1, Iv p2, Iv p3, Lv q4, Zs, Iv p5, Iv cap, Iv cnt, Iv dm, Rv b_5, Us, Us] [(.ref b_18)]))
  have sg_33 : ∀ tt_, Steps p.tables e below (T_29.setTop (mkF m 60 #[Iv p1, Iv p2, Iv p3, Lv q4, Zs, Iv p5, Iv cap, Iv cnt, Iv dm, Rv b_5, Rv b_18, Us] [(.ref b_18)])) tt_ → Steps p.tables e below (T_29.setTop (mkF m 56 #[Iv p1, Iv p2, Iv p3, Lv q4, Zs, Iv p5, Iv cap, Iv cnt, Iv dm, Rv b_5, Us, Us] [(.ref b_18)])) tt_ := by
    intro tt_ kt_
    refine XS.astore X_29.here hEX rfl (hb hBY at_56) rfl rfl (l' := #[Iv p1, Iv p2, Iv p3, Lv q4, Zs, Iv p5, Iv cap, Iv cnt, Iv dm, Rv b_5, Rv b_18, Us]) rfl ?_
    show Steps p.tables e below (T_29.setTop (mkF m 58 #[Iv p1, Iv p2, Iv p3, Lv q4, Zs, Iv p5, Iv cap, Iv cnt, Iv dm, Rv b_5, Rv b_18, Us] [])) tt_
    refine XS.aload X_29.here hEX rfl (hb hBY at_58) rfl rfl ?_
    exact kt_
  refine Done.pre sg_33 ?_
  obtain ⟨cq_34, kq_34, q_34a, q_34b, q_34c⟩ := isOf hZW rfl hq_29_0
  obtain ⟨_, _, ⟨T_34, L_34, k_34, n_34⟩, -, X_34, ⟨Lc_34, hQ_34, l_34, y_34, z_34⟩, st_34⟩ := X_29.virtualBack hEX (y := (⟨"com/example/pointcell/pointcell/PointArrays", "isFull", "()Z"⟩ : MethodName)) (z := (⟨"com/example/pointcell/pointcell/PointArrays", "isFull", "()Z"⟩ : MethodName)) hOW (mvT hZW (hw _ (List.mem_of_getElem? (i := 25) rfl))) (mvT hZW (hw _ (List.mem_of_getElem? (i := 26) rfl))) (notFace_of_selects (args := #[]) (mvT hZW (hw _ (List.mem_of_getElem? (i := 28) rfl)))) (mvT hZW (hw _ (List.mem_of_getElem? (i := 28) rfl))) (mvT hZW (hw _ (List.mem_of_getElem? (i := 27) rfl))) (by decide) (backOf (W := 0) (rm_full l Z aZ hw [] b_18 (0 : Int32) cap T_29.heap n0 (Nat.le_trans Z0 K__30.1) hq_29_1 hq_29_3) hZW (hw _ (List.mem_of_getElem? (i := 29) rfl)) (hw _ (List.mem_of_getElem? (i := 3) rfl)) (by decide) (by decide)) q_34a q_34c (g := (mkF m 60 #[Iv p1, Iv p2, Iv p3, Lv q4, Zs, Iv p5, Iv cap, Iv cnt, Iv dm, Rv b_5, Rv b_18, Us] [(.ref b_18)])) rfl (by rw [hMX]; rfl) (Steps.refl _) (argsL := []) (rest := []) (lenOf pd___Z_1 rfl) rfl (by show 2 * 0 + _ ≤ _; exact Nat.le_of_eq rfl) (hb hBY at_60) (fun _ _ => ⟨rfl, rfl, (by decide : 5 + 0 ≤ _), (by decide : 24 + 0 ≤ _)⟩)
  dsimp only [Pt.U, Pt.locs, Pt.cells, Pt.slots] at X_34 l_34 y_34 z_34 st_34 hQ_34
  subst l_34 y_34 z_34
  obtain ⟨rfl, N_34q, e_34⟩ := hQ_34
  have N_34 := Fr.app N_29 N_34q
  refine Done.pre (fun _ k_ => st_34.trans k_) ?_
  show Done _ _ _ _ _ _ _ (T_34.setTop (mkF m 63 #[Iv p1, Iv p2, Iv p3, Lv q4, Zs, Iv p5, Iv cap, Iv cnt, Iv dm, Rv b_5, Rv b_18, Us] [(.int (own_full (0 : Int32) cap))]))
  have jn_35 : Done p e below s (Qrm0 Z p1 p2 p3 q4 p5 h0 n0) room_1.cells room_1.slots (T_34.setTop (mkF m 81 #[Iv p1, Iv p2, Iv p3, Lv q4, Zs, Iv p5, Iv cap, Iv cnt, Iv dm, Rv b_5, Rv b_18, Us] [(.int (1 : Int32))])) := by
    show Done _ _ _ _ _ _ _ (T_34.setTop (mkF m 81 #[Iv p1, Iv p2, Iv p3, Lv q4, Zs, Iv p5, Iv cap, Iv cnt, Iv dm, Rv b_5, Rv b_18, Us] [(.int (1 : Int32))]))
    have sg_36 : ∀ tt_, Steps p.tables e below (T_34.setTop (mkF m 83 #[Iv p1, Iv p2, Iv p3, Lv q4, Zs, Iv p5, Iv cap, Iv cnt, Iv dm, Rv b_5, Rv b_18, Iv (1 : Int32)] [])) tt_ → Steps p.tables e below (T_34.setTop (mkF m 81 #[Iv p1, Iv p2, Iv p3, Lv q4, Zs, Iv p5, Iv cap, Iv cnt, Iv dm, Rv b_5, Rv b_18, Us] [(.int (1 : Int32))])) tt_ := by
      intro tt_ kt_
      refine XS.istore X_34.here hEX rfl (hb hBY at_81) rfl (l' := #[Iv p1, Iv p2, Iv p3, Lv q4, Zs, Iv p5, Iv cap, Iv cnt, Iv dm, Rv b_5, Rv b_18, Iv (1 : Int32)]) rfl ?_
      exact kt_
    refine Done.pre sg_36 ?_
    have jn_37 : ∀ (T_38 : State) (h_39 : Heap) (L_40 : List Loc) (X_41 : Stand p l e room_1 s m #[(.int p1), (.int p2), (.int p3), (.long q4), (.int p5)] below meth cO T_38 L_40 5 24) (e_42 : T_38.heap = h_39) (N_43 : Fr n0 L_40) (K__44 : Keep h0 h_39 []) (szz : Int32) (f_45 : Exa Z h_39 b_18 "com/example/pointcell/pointcell/PointArrays") (f_46 : Fld Z h_39 b_18 "com/example/pointcell/pointcell/PointArrays" "size" "I" (.int szz)) (f_47 : Fld Z h_39 b_18 "com/example/pointcell/pointcell/PointArrays" "capacity" "I" (.int cap)), Done p e below s (Qrm0 Z p1 p2 p3 q4 p5 h0 n0) room_1.cells room_1.slots (T_38.setTop (mkF m 175 #[Iv p1, Iv p2, Iv p3, Lv q4, Zs, Iv p5, Iv cap, Iv cnt, Iv dm, Rv b_5, Rv b_18, Iv (1 : Int32)] [])) := by
      intro T_38 h_39 L_40 X_41 e_42 N_43 K__44 szz f_45 f_46 f_47
      show Done _ _ _ _ _ _ _ (T_38.setTop (mkF m 175 #[Iv p1, Iv p2, Iv p3, Lv q4, Zs, Iv p5, Iv cap, Iv cnt, Iv dm, Rv b_5, Rv b_18, Iv (1 : Int32)] []))
      have sg_48 : ∀ tt_, Steps p.tables e below (T_38.setTop (mkF m 178 #[Iv p1, Iv p2, Iv p3, Lv q4, Zs, Iv p5, Iv cap, Iv cnt, Iv dm, Rv b_5, Rv b_18, Iv (1 : Int32)] [(.int (p3 &&& (2 : Int32)))])) tt_ → Steps p.tables e below (T_38.setTop (mkF m 175 #[Iv p1, Iv p2, Iv p3, Lv q4, Zs, Iv p5, Iv cap, Iv cnt, Iv dm, Rv b_5, Rv b_18, Iv (1 : Int32)] [])) tt_ := by
        intro tt_ kt_
        refine XS.iloadN X_41.here hEX rfl (hb hBY at_175) rfl ?_
        show Steps p.tables e below (T_38.setTop (mkF m 176 #[Iv p1, Iv p2, Iv p3, Lv q4, Zs, Iv p5, Iv cap, Iv cnt, Iv dm, Rv b_5, Rv b_18, Iv (1 : Int32)] [(.int p3)])) tt_
        refine XS.iconst X_41.here hEX rfl (hb hBY at_176) ?_
        show Steps p.tables e below (T_38.setTop (mkF m 177 #[Iv p1, Iv p2, Iv p3, Lv q4, Zs, Iv p5, Iv cap, Iv cnt, Iv dm, Rv b_5, Rv b_18, Iv (1 : Int32)] [(.int (2 : Int32)), (.int p3)])) tt_
        refine XS.iand X_41.here hEX rfl (hb hBY at_177) rfl ?_
        exact kt_
      refine Done.pre sg_48 ?_
      by_cases hc178 : (p3 &&& (2 : Int32)) = (0 : Int32)
      · skip
        have sg_49 : ∀ tt_, Steps p.tables e below (T_38.setTop (mkF m 216 #[Iv p1, Iv p2, Iv p3, Lv q4, Zs, Iv p5, Iv cap, Iv cnt, Iv dm, Rv b_5, Rv b_18, Iv (1 : Int32)] [(.int (1 : Int32))])) tt_ → Steps p.tables e below (T_38.setTop (mkF m 178 #[Iv p1, Iv p2, Iv p3, Lv q4, Zs, Iv p5, Iv cap, Iv cnt, Iv dm, Rv b_5, Rv b_18, Iv (1 : Int32)] [(.int (p3 &&& (2 : Int32)))])) tt_ := by
          intro tt_ kt_
          refine XS.ifYes X_41.here hEX rfl (pc0 := 178) (pc' := 214) rfl (hb hBY at_178) rfl ((if0 _ _).trans (teq hc178).1) (by decide) (by decide) ?_
          show Steps p.tables e below (T_38.setTop (mkF m 214 #[Iv p1, Iv p2, Iv p3, Lv q4, Zs, Iv p5, Iv cap, Iv cnt, Iv dm, Rv b_5, Rv b_18, Iv (1 : Int32)] [])) tt_
          refine XS.iload X_41.here hEX rfl (hb hBY at_214) rfl ?_
          exact kt_
        refine Done.pre sg_49 ?_
        exact Done.retN X_41 hEX hLK (t := .boolean) hRT (by simp) (hb hBY at_216) (by rw [e_42]; exact ⟨rfl, N_43, K__44⟩) (by decide) (by decide)
      · skip
        have sg_50 : ∀ tt_, Steps p.tables e below (T_38.setTop (mkF m 183 #[Iv p1, Iv p2, Iv p3, Lv q4, Zs, Iv p5, Iv cap, Iv cnt, Iv dm, Rv b_5, Rv b_18, Iv (1 : Int32)] [(.ref b_18)])) tt_ → Steps p.tables e below (T_38.setTop (mkF m 178 #[Iv p1, Iv p2, Iv p3, Lv q4, Zs, Iv p5, Iv cap, Iv cnt, Iv dm, Rv b_5, Rv b_18, Iv (1 : Int32)] [(.int (p3 &&& (2 : Int32)))])) tt_ := by
          intro tt_ kt_
          refine XS.ifNo X_41.here hEX rfl (hb hBY at_178) rfl ((if0 _ _).trans (feq hc178).1) ?_
          show Steps p.tables e below (T_38.setTop (mkF m 181 #[Iv p1, Iv p2, Iv p3, Lv q4, Zs, Iv p5, Iv cap, Iv cnt, Iv dm, Rv b_5, Rv b_18, Iv (1 : Int32)] [])) tt_
          refine XS.aload X_41.here hEX rfl (hb hBY at_181) rfl rfl ?_
          exact kt_
        refine Done.pre sg_50 ?_
        obtain ⟨cq_51, kq_51, q_51a, q_51b, q_51c⟩ := isOf hZW e_42 f_45
        obtain ⟨_, _, ⟨T_51, L_51, k_51, n_51⟩, -, X_51, ⟨Lc_51, hQ_51, l_51, y_51, z_51⟩, st_51⟩ := X_41.virtualBack hEX (y := (⟨"com/example/pointcell/pointcell/PointArrays", "clear", "()V"⟩ : MethodName)) (z := (⟨"com/example/pointcell/pointcell/PointArrays", "clear", "()V"⟩ : MethodName)) hOW (mvT hZW (hw _ (List.mem_of_getElem? (i := 32) rfl))) (mvT hZW (hw _ (List.mem_of_getElem? (i := 33) rfl))) (notFace_of_selects (args := #[]) (mvT hZW (hw _ (List.mem_of_getElem? (i := 35) rfl)))) (mvT hZW (hw _ (List.mem_of_getElem? (i := 35) rfl))) (mvT hZW (hw _ (List.mem_of_getElem? (i := 34) rfl))) (by decide) (backOf (W := 0) (rm_clear l Z aZ hw [] b_18 szz cap h_39 n0 (Nat.le_trans Z0 K__44.1) f_45 f_46 f_47 ge_b_18) hZW (hw _ (List.mem_of_getElem? (i := 36) rfl)) (hw _ (List.mem_of_getElem? (i := 3) rfl)) (by decide) (by decide)) q_51a q_51c (g := (mkF m 183 #[Iv p1, Iv p2, Iv p3, Lv q4, Zs, Iv p5, Iv cap, Iv cnt, Iv dm, Rv b_5, Rv b_18, Iv (1 : Int32)] [(.ref b_18)])) rfl (by rw [hMX]; rfl) (Steps.refl _) (argsL := []) (rest := []) (lenOf pd___V_0 rfl) rfl (by show 2 * 0 + _ ≤ _; exact Nat.le_of_eq rfl) (hb hBY at_183) (fun _ _ => ⟨rfl, e_42, (by decide : 5 + 0 ≤ _), (by decide : 24 + 0 ≤ _)⟩)
        dsimp only [Pt.U, Pt.locs, Pt.cells, Pt.slots] at X_51 l_51 y_51 z_51 st_51 hQ_51
        subst l_51 y_51 z_51
        obtain ⟨rfl, N_51q, K_51, hq_51_0, hq_51_1, hq_51_2⟩ := hQ_51
        have N_51 := Fr.app N_43 N_51q
        have K__52 : Keep h0 T_51.heap [] := K__44.trans K_51 (allS (Or.inr sz_b_18) all0)
        have f_53 : Exa Z T_51.heap b_18 "com/example/pointcell/pointcell/PointArrays" := f_45.keep K_51
        refine Done.pre (fun _ k_ => st_51.trans k_) ?_
        show Done _ _ _ _ _ _ _ (T_51.setTop (mkF m 186 #[Iv p1, Iv p2, Iv p3, Lv q4, Zs, Iv p5, Iv cap, Iv cnt, Iv dm, Rv b_5, Rv b_18, Iv (1 : Int32)] []))
        have sg_54 : ∀ tt_, Steps p.tables e below (T_51.setTop (mkF m 190 #[Iv p1, Iv p2, Iv p3, Lv q4, Zs, Iv p5, Iv cap, Iv cnt, Iv dm, Rv b_5, Rv b_18, Iv (1 : Int32)] [(.ref b_18), (.int (1 : Int32))])) tt_ → Steps p.tables e below (T_51.setTop (mkF m 186 #[Iv p1, Iv p2, Iv p3, Lv q4, Zs, Iv p5, Iv cap, Iv cnt, Iv dm, Rv b_5, Rv b_18, Iv (1 : Int32)] [])) tt_ := by
          intro tt_ kt_
          refine XS.iload X_51.here hEX rfl (hb hBY at_186) rfl ?_
          show Steps p.tables e below (T_51.setTop (mkF m 188 #[Iv p1, Iv p2, Iv p3, Lv q4, Zs, Iv p5, Iv cap, Iv cnt, Iv dm, Rv b_5, Rv b_18, Iv (1 : Int32)] [(.int (1 : Int32))])) tt_
          refine XS.aload X_51.here hEX rfl (hb hBY at_188) rfl rfl ?_
          exact kt_
        refine Done.pre sg_54 ?_
        obtain ⟨cq_55, kq_55, q_55a, q_55b, q_55c⟩ := isOf hZW rfl hq_51_0
        obtain ⟨_, _, ⟨T_55, L_55, k_55, n_55⟩, -, X_55, ⟨Lc_55, hQ_55, l_55, y_55, z_55⟩, st_55⟩ := X_51.virtualBack hEX (y := (⟨"com/example/pointcell/pointcell/PointArrays", "isFull", "()Z"⟩ : MethodName)) (z := (⟨"com/example/pointcell/pointcell/PointArrays", "isFull", "()Z"⟩ : MethodName)) hOW (mvT hZW (hw _ (List.mem_of_getElem? (i := 25) rfl))) (mvT hZW (hw _ (List.mem_of_getElem? (i := 26) rfl))) (notFace_of_selects (args := #[]) (mvT hZW (hw _ (List.mem_of_getElem? (i := 28) rfl)))) (mvT hZW (hw _ (List.mem_of_getElem? (i := 28) rfl))) (mvT hZW (hw _ (List.mem_of_getElem? (i := 27) rfl))) (by decide) (backOf (W := 1) (rm_full l Z aZ hw [] b_18 (0 : Int32) cap T_51.heap n0 (Nat.le_trans Z0 K__52.1) hq_51_1 hq_51_2) hZW (hw _ (List.mem_of_getElem? (i := 29) rfl)) (hw _ (List.mem_of_getElem? (i := 3) rfl)) (by decide) (by decide)) q_55a q_55c (g := (mkF m 190 #[Iv p1, Iv p2, Iv p3, Lv q4, Zs, Iv p5, Iv cap, Iv cnt, Iv dm, Rv b_5, Rv b_18, Iv (1 : Int32)] [(.ref b_18), (.int (1 : Int32))])) rfl (by rw [hMX]; rfl) (Steps.refl _) (argsL := []) (rest := [(.int (1 : Int32))]) (lenOf pd___Z_1 rfl) rfl (by show 2 * 0 + _ ≤ _; exact Nat.le_of_eq rfl) (hb hBY at_190) (fun _ _ => ⟨rfl, rfl, (by decide : 5 + 0 ≤ _), (by decide : 24 + 0 ≤ _)⟩)
        dsimp only [Pt.U, Pt.locs, Pt.cells, Pt.slots] at X_55 l_55 y_55 z_55 st_55 hQ_55
        subst l_55 y_55 z_55
        obtain ⟨rfl, N_55q, e_55⟩ := hQ_55
        have N_55 := Fr.app N_51 N_55q
        refine Done.pre (fun _ k_ => st_55.trans k_) ?_
        show Done _ _ _ _ _ _ _ (T_55.setTop (mkF m 193 #[Iv p1, Iv p2, Iv p3, Lv q4, Zs, Iv p5, Iv cap, Iv cnt, Iv dm, Rv b_5, Rv b_18, Iv (1 : Int32)] [(.int (own_full (0 : Int32) cap)), (.int (1 : Int32))]))
        have jn_56 : Done p e below s (Qrm0 Z p1 p2 p3 q4 p5 h0 n0) room_1.cells room_1.slots (T_55.setTop (mkF m 211 #[Iv p1, Iv p2, Iv p3, Lv q4, Zs, Iv p5, Iv cap, Iv cnt, Iv dm, Rv b_5, Rv b_18, Iv (1 : Int32)] [(.int (1 : Int32)), (.int (1 : Int32))])) := by
          show Done _ _ _ _ _ _ _ (T_55.setTop (mkF m 211 #[Iv p1, Iv p2, Iv p3, Lv q4, Zs, Iv p5, Iv cap, Iv cnt, Iv dm, Rv b_5, Rv b_18, Iv (1 : Int32)] [(.int (1 : Int32)), (.int (1 : Int32))]))
          have sg_57 : ∀ tt_, Steps p.tables e below (T_55.setTop (mkF m 216 #[Iv p1, Iv p2, Iv p3, Lv q4, Zs, Iv p5, Iv cap, Iv cnt, Iv dm, Rv b_5, Rv b_18, Iv (1 : Int32)] [(.int (1 : Int32))])) tt_ → Steps p.tables e below (T_55.setTop (mkF m 211 #[Iv p1, Iv p2, Iv p3, Lv q4, Zs, Iv p5, Iv cap, Iv cnt, Iv dm, Rv b_5, Rv b_18, Iv (1 : Int32)] [(.int (1 : Int32)), (.int (1 : Int32))])) tt_ := by
            intro tt_ kt_
            refine XS.iand X_55.here hEX rfl (hb hBY at_211) rfl ?_
            show Steps p.tables e below (T_55.setTop (mkF m 212 #[Iv p1, Iv p2, Iv p3, Lv q4, Zs, Iv p5, Iv cap, Iv cnt, Iv dm, Rv b_5, Rv b_18, Iv (1 : Int32)] [(.int (1 : Int32))])) tt_
            refine XS.istore X_55.here hEX rfl (hb hBY at_212) rfl (l' := #[Iv p1, Iv p2, Iv p3, Lv q4, Zs, Iv p5, Iv cap, Iv cnt, Iv dm, Rv b_5, Rv b_18, Iv (1 : Int32)]) rfl ?_
            show Steps p.tables e below (T_55.setTop (mkF m 214 #[Iv p1, Iv p2, Iv p3, Lv q4, Zs, Iv p5, Iv cap, Iv cnt, Iv dm, Rv b_5, Rv b_18, Iv (1 : Int32)] [])) tt_
            refine XS.iload X_55.here hEX rfl (hb hBY at_214) rfl ?_
            exact kt_
          refine Done.pre sg_57 ?_
          exact Done.retN X_55 hEX hLK (t := .boolean) hRT (by simp) (hb hBY at_216) (by rw [e_55]; exact ⟨rfl, N_55, K__52⟩) (by decide) (by decide)
        show Done _ _ _ _ _ _ _ (T_55.setTop (mkF m 193 #[Iv p1, Iv p2, Iv p3, Lv q4, Zs, Iv p5, Iv cap, Iv cnt, Iv dm, Rv b_5, Rv b_18, Iv (1 : Int32)] [(.int (own_full (0 : Int32) cap)), (.int (1 : Int32))]))
        have sg_58 : ∀ tt_, Steps p.tables e below (T_55.setTop (mkF m 195 #[Iv p1, Iv p2, Iv p3, Lv q4, Zs, Iv p5, Iv cap, Iv cnt, Iv dm, Rv b_5, Rv b_18, Iv (1 : Int32)] [(.int cap), (.int (own_full (0 : Int32) cap)), (.int (1 : Int32))])) tt_ → Steps p.tables e below (T_55.setTop (mkF m 193 #[Iv p1, Iv p2, Iv p3, Lv q4, Zs, Iv p5, Iv cap, Iv cnt, Iv dm, Rv b_5, Rv b_18, Iv (1 : Int32)] [(.int (own_full (0 : Int32) cap)), (.int (1 : Int32))])) tt_ := by
          intro tt_ kt_
          refine XS.iload X_55.here hEX rfl (hb hBY at_193) rfl ?_
          exact kt_
        refine Done.pre sg_58 ?_
        by_cases hc195 : cap = (0 : Int32)
        · skip
          have sg_59 : ∀ tt_, Steps p.tables e below (T_55.setTop (mkF m 211 #[Iv p1, Iv p2, Iv p3, Lv q4, Zs, Iv p5, Iv cap, Iv cnt, Iv dm, Rv b_5, Rv b_18, Iv (1 : Int32)] [(.int (1 : Int32)), (.int (1 : Int32))])) tt_ → Steps p.tables e below (T_55.setTop (mkF m 195 #[Iv p1, Iv p2, Iv p3, Lv q4, Zs, Iv p5, Iv cap, Iv cnt, Iv dm, Rv b_5, Rv b_18, Iv (1 : Int32)] [(.int cap), (.int (own_full (0 : Int32) cap)), (.int (1 : Int32))])) tt_ := by
            intro tt_ kt_
            refine XS.ifNo X_55.here hEX rfl (hb hBY at_195) rfl ((if0 _ _).trans (teq hc195).2) ?_
            show Steps p.tables e below (T_55.setTop (mkF m 198 #[Iv p1, Iv p2, Iv p3, Lv q4, Zs, Iv p5, Iv cap, Iv cnt, Iv dm, Rv b_5, Rv b_18, Iv (1 : Int32)] [(.int (own_full (0 : Int32) cap)), (.int (1 : Int32))])) tt_
            refine XS.iconst X_55.here hEX rfl (hb hBY at_198) ?_
            show Steps p.tables e below (T_55.setTop (mkF m 199 #[Iv p1, Iv p2, Iv p3, Lv q4, Zs, Iv p5, Iv cap, Iv cnt, Iv dm, Rv b_5, Rv b_18, Iv (1 : Int32)] [(.int (1 : Int32)), (.int (own_full (0 : Int32) cap)), (.int (1 : Int32))])) tt_
            refine XS.goto X_55.here hEX rfl (pc0 := 199) (pc' := 203) rfl (hb hBY at_199) (by decide) (by decide) ?_
            show Steps p.tables e below (T_55.setTop (mkF m 203 #[Iv p1, Iv p2, Iv p3, Lv q4, Zs, Iv p5, Iv cap, Iv cnt, Iv dm, Rv b_5, Rv b_18, Iv (1 : Int32)] [(.int (1 : Int32)), (.int (own_full (0 : Int32) cap)), (.int (1 : Int32))])) tt_
            refine XS.icmpNo X_55.here hEX rfl (hb hBY at_203) rfl (teq ((by rw [own_full, if_pos hc195.symm]) : (own_full (0 : Int32) cap) = (1 : Int32))).2 ?_
            show Steps p.tables e below (T_55.setTop (mkF m 206 #[Iv p1, Iv p2, Iv p3, Lv q4, Zs, Iv p5, Iv cap, Iv cnt, Iv dm, Rv b_5, Rv b_18, Iv (1 : Int32)] [(.int (1 : Int32))])) tt_
            refine XS.iconst X_55.here hEX rfl (hb hBY at_206) ?_
            show Steps p.tables e below (T_55.setTop (mkF m 207 #[Iv p1, Iv p2, Iv p3, Lv q4, Zs, Iv p5, Iv cap, Iv cnt, Iv dm, Rv b_5, Rv b_18, Iv (1 : Int32)] [(.int (1 : Int32)), (.int (1 : Int32))])) tt_
            refine XS.goto X_55.here hEX rfl (pc0 := 207) (pc' := 211) rfl (hb hBY at_207) (by decide) (by decide) ?_
            exact kt_
          refine Done.pre sg_59 ?_
          exact jn_56 
        · skip
          have sg_60 : ∀ tt_, Steps p.tables e below (T_55.setTop (mkF m 211 #[Iv p1, Iv p2, Iv p3, Lv q4, Zs, Iv p5, Iv cap, Iv cnt, Iv dm, Rv b_5, Rv b_18, Iv (1 : Int32)] [(.int (1 : Int32)), (.int (1 : Int32))])) tt_ → Steps p.tables e below (T_55.setTop (mkF m 195 #[Iv p1, Iv p2, Iv p3, Lv q4, Zs, Iv p5, Iv cap, Iv cnt, Iv dm, Rv b_5, Rv b_18, Iv (1 : Int32)] [(.int cap), (.int (own_full (0 : Int32) cap)), (.int (1 : Int32))])) tt_ := by
            intro tt_ kt_
            refine XS.ifYes X_55.here hEX rfl (pc0 := 195) (pc' := 202) rfl (hb hBY at_195) rfl ((if0 _ _).trans (feq hc195).2) (by decide) (by decide) ?_
            show Steps p.tables e below (T_55.setTop (mkF m 202 #[Iv p1, Iv p2, Iv p3, Lv q4, Zs, Iv p5, Iv cap, Iv cnt, Iv dm, Rv b_5, Rv b_18, Iv (1 : Int32)] [(.int (own_full (0 : Int32) cap)), (.int (1 : Int32))])) tt_
            refine XS.iconst X_55.here hEX rfl (hb hBY at_202) ?_
            show Steps p.tables e below (T_55.setTop (mkF m 203 #[Iv p1, Iv p2, Iv p3, Lv q4, Zs, Iv p5, Iv cap, Iv cnt, Iv dm, Rv b_5, Rv b_18, Iv (1 : Int32)] [(.int (0 : Int32)), (.int (own_full (0 : Int32) cap)), (.int (1 : Int32))])) tt_
            refine XS.icmpNo X_55.here hEX rfl (hb hBY at_203) rfl (teq ((by rw [own_full, if_neg (fun q => hc195 q.symm)]) : (own_full (0 : Int32) cap) = (0 : Int32))).2 ?_
            show Steps p.tables e below (T_55.setTop (mkF m 206 #[Iv p1, Iv p2, Iv p3, Lv q4, Zs, Iv p5, Iv cap, Iv cnt, Iv dm, Rv b_5, Rv b_18, Iv (1 : Int32)] [(.int (1 : Int32))])) tt_
            refine XS.iconst X_55.here hEX rfl (hb hBY at_206) ?_
            show Steps p.tables e below (T_55.setTop (mkF m 207 #[Iv p1, Iv p2, Iv p3, Lv q4, Zs, Iv p5, Iv cap, Iv cnt, Iv dm, Rv b_5, Rv b_18, Iv (1 : Int32)] [(.int (1 : Int32)), (.int (1 : Int32))])) tt_
            refine XS.goto X_55.here hEX rfl (pc0 := 207) (pc' := 211) rfl (hb hBY at_207) (by decide) (by decide) ?_
            exact kt_
          refine Done.pre sg_60 ?_
          exact jn_56 
    show Done _ _ _ _ _ _ _ (T_34.setTop (mkF m 83 #[Iv p1, Iv p2, Iv p3, Lv q4, Zs, Iv p5, Iv cap, Iv cnt, Iv dm, Rv b_5, Rv b_18, Iv (1 : Int32)] []))
    rcases own_five cnt cap hct hcp.2 with rfl | rfl | rfl | rfl | rfl
    · skip
      show Done _ _ _ _ _ _ _ (T_34.setTop (mkF m 83 #[Iv p1, Iv p2, Iv p3, Lv q4, Zs, Iv p5, Iv cap, Iv (0 : Int32), Iv dm, Rv b_5, Rv b_18, Iv (1 : Int32)] []))
      have sg_61 : ∀ tt_, Steps p.tables e below (T_34.setTop (mkF m 175 #[Iv p1, Iv p2, Iv p3, Lv q4, Zs, Iv p5, Iv cap, Iv (0 : Int32), Iv dm, Rv b_5, Rv b_18, Iv (1 : Int32)] [])) tt_ → Steps p.tables e below (T_34.setTop (mkF m 83 #[Iv p1, Iv p2, Iv p3, Lv q4, Zs, Iv p5, Iv cap, Iv (0 : Int32), Iv dm, Rv b_5, Rv b_18, Iv (1 : Int32)] [])) tt_ := by
        intro tt_ kt_
        refine XS.iload X_34.here hEX rfl (hb hBY at_83) rfl ?_
        show Steps p.tables e below (T_34.setTop (mkF m 85 #[Iv p1, Iv p2, Iv p3, Lv q4, Zs, Iv p5, Iv cap, Iv (0 : Int32), Iv dm, Rv b_5, Rv b_18, Iv (1 : Int32)] [(.int (0 : Int32))])) tt_
        refine XS.iconst X_34.here hEX rfl (hb hBY at_85) ?_
        show Steps p.tables e below (T_34.setTop (mkF m 86 #[Iv p1, Iv p2, Iv p3, Lv q4, Zs, Iv p5, Iv cap, Iv (0 : Int32), Iv dm, Rv b_5, Rv b_18, Iv (1 : Int32)] [(.int (1 : Int32)), (.int (0 : Int32))])) tt_
        refine XS.icmpYes X_34.here hEX rfl (pc0 := 86) (pc' := 106) rfl (hb hBY at_86) rfl (tlt (by decide : (0 : Int32) < (1 : Int32))).1 (by decide) (by decide) ?_
        show Steps p.tables e below (T_34.setTop (mkF m 106 #[Iv p1, Iv p2, Iv p3, Lv q4, Zs, Iv p5, Iv cap, Iv (0 : Int32), Iv dm, Rv b_5, Rv b_18, Iv (1 : Int32)] [])) tt_
        refine XS.iload X_34.here hEX rfl (hb hBY at_106) rfl ?_
        show Steps p.tables e below (T_34.setTop (mkF m 108 #[Iv p1, Iv p2, Iv p3, Lv q4, Zs, Iv p5, Iv cap, Iv (0 : Int32), Iv dm, Rv b_5, Rv b_18, Iv (1 : Int32)] [(.int (0 : Int32))])) tt_
        refine XS.iconst X_34.here hEX rfl (hb hBY at_108) ?_
        show Steps p.tables e below (T_34.setTop (mkF m 109 #[Iv p1, Iv p2, Iv p3, Lv q4, Zs, Iv p5, Iv cap, Iv (0 : Int32), Iv dm, Rv b_5, Rv b_18, Iv (1 : Int32)] [(.int (2 : Int32)), (.int (0 : Int32))])) tt_
        refine XS.icmpYes X_34.here hEX rfl (pc0 := 109) (pc' := 129) rfl (hb hBY at_109) rfl (tlt (by decide : (0 : Int32) < (2 : Int32))).1 (by decide) (by decide) ?_
        show Steps p.tables e below (T_34.setTop (mkF m 129 #[Iv p1, Iv p2, Iv p3, Lv q4, Zs, Iv p5, Iv cap, Iv (0 : Int32), Iv dm, Rv b_5, Rv b_18, Iv (1 : Int32)] [])) tt_
        refine XS.iload X_34.here hEX rfl (hb hBY at_129) rfl ?_
        show Steps p.tables e below (T_34.setTop (mkF m 131 #[Iv p1, Iv p2, Iv p3, Lv q4, Zs, Iv p5, Iv cap, Iv (0 : Int32), Iv dm, Rv b_5, Rv b_18, Iv (1 : Int32)] [(.int (0 : Int32))])) tt_
        refine XS.iconst X_34.here hEX rfl (hb hBY at_131) ?_
        show Steps p.tables e below (T_34.setTop (mkF m 132 #[Iv p1, Iv p2, Iv p3, Lv q4, Zs, Iv p5, Iv cap, Iv (0 : Int32), Iv dm, Rv b_5, Rv b_18, Iv (1 : Int32)] [(.int (3 : Int32)), (.int (0 : Int32))])) tt_
        refine XS.icmpYes X_34.here hEX rfl (pc0 := 132) (pc' := 152) rfl (hb hBY at_132) rfl (tlt (by decide : (0 : Int32) < (3 : Int32))).1 (by decide) (by decide) ?_
        show Steps p.tables e below (T_34.setTop (mkF m 152 #[Iv p1, Iv p2, Iv p3, Lv q4, Zs, Iv p5, Iv cap, Iv (0 : Int32), Iv dm, Rv b_5, Rv b_18, Iv (1 : Int32)] [])) tt_
        refine XS.iload X_34.here hEX rfl (hb hBY at_152) rfl ?_
        show Steps p.tables e below (T_34.setTop (mkF m 154 #[Iv p1, Iv p2, Iv p3, Lv q4, Zs, Iv p5, Iv cap, Iv (0 : Int32), Iv dm, Rv b_5, Rv b_18, Iv (1 : Int32)] [(.int (0 : Int32))])) tt_
        refine XS.iconst X_34.here hEX rfl (hb hBY at_154) ?_
        show Steps p.tables e below (T_34.setTop (mkF m 155 #[Iv p1, Iv p2, Iv p3, Lv q4, Zs, Iv p5, Iv cap, Iv (0 : Int32), Iv dm, Rv b_5, Rv b_18, Iv (1 : Int32)] [(.int (4 : Int32)), (.int (0 : Int32))])) tt_
        refine XS.icmpYes X_34.here hEX rfl (pc0 := 155) (pc' := 175) rfl (hb hBY at_155) rfl (tlt (by decide : (0 : Int32) < (4 : Int32))).1 (by decide) (by decide) ?_
        exact kt_
      refine Done.pre sg_61 ?_
      exact jn_37 T_34 T_29.heap _ X_34 e_34 N_34 K__30 ((0 : Int32)) hq_29_0 hq_29_1 hq_29_3
    · skip
      show Done _ _ _ _ _ _ _ (T_34.setTop (mkF m 83 #[Iv p1, Iv p2, Iv p3, Lv q4, Zs, Iv p5, Iv cap, Iv (1 : Int32), Iv dm, Rv b_5, Rv b_18, Iv (1 : Int32)] []))
      have sg_62 : ∀ tt_, Steps p.tables e below (T_34.setTop (mkF m 100 #[Iv p1, Iv p2, Iv p3, Lv q4, Zs, Iv p5, Iv cap, Iv (1 : Int32), Iv dm, Rv b_5, Rv b_18, Iv (1 : Int32)] [(.int cap), (.int (1 : Int32)), (.int p5), (.ref b_5), (.ref b_18), (.int (1 : Int32))])) tt_ → Steps p.tables e below (T_34.setTop (mkF m 83 #[Iv p1, Iv p2, Iv p3, Lv q4, Zs, Iv p5, Iv cap, Iv (1 : Int32), Iv dm, Rv b_5, Rv b_18, Iv (1 : Int32)] [])) tt_ := by
        intro tt_ kt_
        refine XS.iload X_34.here hEX rfl (hb hBY at_83) rfl ?_
        show Steps p.tables e below (T_34.setTop (mkF m 85 #[Iv p1, Iv p2, Iv p3, Lv q4, Zs, Iv p5, Iv cap, Iv (1 : Int32), Iv dm, Rv b_5, Rv b_18, Iv (1 : Int32)] [(.int (1 : Int32))])) tt_
        refine XS.iconst X_34.here hEX rfl (hb hBY at_85) ?_
        show Steps p.tables e below (T_34.setTop (mkF m 86 #[Iv p1, Iv p2, Iv p3, Lv q4, Zs, Iv p5, Iv cap, Iv (1 : Int32), Iv dm, Rv b_5, Rv b_18, Iv (1 : Int32)] [(.int (1 : Int32)), (.int (1 : Int32))])) tt_
        refine XS.icmpNo X_34.here hEX rfl (hb hBY at_86) rfl (flt (by decide : ¬ ((1 : Int32) < (1 : Int32)))).1 ?_
        show Steps p.tables e below (T_34.setTop (mkF m 89 #[Iv p1, Iv p2, Iv p3, Lv q4, Zs, Iv p5, Iv cap, Iv (1 : Int32), Iv dm, Rv b_5, Rv b_18, Iv (1 : Int32)] [])) tt_
        refine XS.iload X_34.here hEX rfl (hb hBY at_89) rfl ?_
        show Steps p.tables e below (T_34.setTop (mkF m 91 #[Iv p1, Iv p2, Iv p3, Lv q4, Zs, Iv p5, Iv cap, Iv (1 : Int32), Iv dm, Rv b_5, Rv b_18, Iv (1 : Int32)] [(.int (1 : Int32))])) tt_
        refine XS.aload X_34.here hEX rfl (hb hBY at_91) rfl rfl ?_
        show Steps p.tables e below (T_34.setTop (mkF m 93 #[Iv p1, Iv p2, Iv p3, Lv q4, Zs, Iv p5, Iv cap, Iv (1 : Int32), Iv dm, Rv b_5, Rv b_18, Iv (1 : Int32)] [(.ref b_18), (.int (1 : Int32))])) tt_
        refine XS.aload X_34.here hEX rfl (hb hBY at_93) rfl rfl ?_
        show Steps p.tables e below (T_34.setTop (mkF m 95 #[Iv p1, Iv p2, Iv p3, Lv q4, Zs, Iv p5, Iv cap, Iv (1 : Int32), Iv dm, Rv b_5, Rv b_18, Iv (1 : Int32)] [(.ref b_5), (.ref b_18), (.int (1 : Int32))])) tt_
        refine XS.iload X_34.here hEX rfl (hb hBY at_95) rfl ?_
        show Steps p.tables e below (T_34.setTop (mkF m 97 #[Iv p1, Iv p2, Iv p3, Lv q4, Zs, Iv p5, Iv cap, Iv (1 : Int32), Iv dm, Rv b_5, Rv b_18, Iv (1 : Int32)] [(.int p5), (.ref b_5), (.ref b_18), (.int (1 : Int32))])) tt_
        refine XS.iconst X_34.here hEX rfl (hb hBY at_97) ?_
        show Steps p.tables e below (T_34.setTop (mkF m 98 #[Iv p1, Iv p2, Iv p3, Lv q4, Zs, Iv p5, Iv cap, Iv (1 : Int32), Iv dm, Rv b_5, Rv b_18, Iv (1 : Int32)] [(.int (1 : Int32)), (.int p5), (.ref b_5), (.ref b_18), (.int (1 : Int32))])) tt_
        refine XS.iload X_34.here hEX rfl (hb hBY at_98) rfl ?_
        exact kt_
      refine Done.pre sg_62 ?_
      obtain ⟨_, _, ⟨T_63, L_63, k_63, n_63⟩, -, X_63, ⟨Lc_63, hQ_63, l_63, y_63, z_63⟩, st_63⟩ := Jvm.LawKit.callS X_34 hEX (y := (⟨"com/example/pointcell/pointcell/PointArraysIsFullPinLaw", "step", "(Lcom/example/pointcell/pointcell/PointArrays;[JIII)Z"⟩ : MethodName)) hOW (mvT hZW (hw _ (List.mem_of_getElem? (i := 37) rfl))) (mvT hZW (hw _ (List.mem_of_getElem? (i := 38) rfl))) (mvT hZW (hw _ (List.mem_of_getElem? (i := 39) rfl))) (mvT hZW (hw _ (List.mem_of_getElem? (i := 40) rfl))) (by decide) (backOf (W := 1) (rm_step l Z aZ hw [] b_18 b_5 p5 (1 : Int32) cap (0 : Int32) dm kb__29 kk__29 db__29 kd__29 ob__29 ko__29 vK__29 vD__29 vO__29 k_5 ([(.long q4), (.long (0 : Int64))].set (dm - (1 : Int32)).toNatClampNeg (.long q4)) T_29.heap n0 (Nat.le_trans Z0 K__30.1) hq_29_0 hq_29_1 hq_29_2 hq_29_3 hq_29_4 hq_29_5 hq_29_6 f_31 hq_29_7 hq_29_8 hq_29_9 ge_b_18 (Nat.le_trans Z0 sz_kb__29) (Nat.le_trans Z0 sz_db__29) (Nat.le_trans Z0 sz_ob__29) ne_b_18_kb__29 ne_b_18_db__29 ne_b_18_ob__29 ne_b_5_kb__29 ne_b_5_db__29 ne_b_5_ob__29 ne_b_5_b_18 hq_29_13 hq_29_14 hq_29_15 hdd ⟨by decide, Int.lt_of_lt_of_le (by decide : ((0 : Int32)).toInt < ((1 : Int32)).toInt) hct.2, hcp.2⟩ (by assumption) (by assumption) (by assumption) (by decide)) hZW (hw _ (List.mem_of_getElem? (i := 40) rfl)) (hw _ (List.mem_of_getElem? (i := 39) rfl)) (by decide) (by decide)) (g := (mkF m 100 #[Iv p1, Iv p2, Iv p3, Lv q4, Zs, Iv p5, Iv cap, Iv (1 : Int32), Iv dm, Rv b_5, Rv b_18, Iv (1 : Int32)] [(.int cap), (.int (1 : Int32)), (.int p5), (.ref b_5), (.ref b_18), (.int (1 : Int32))])) rfl (by rw [hMX]; rfl) (argsL := [(.ref b_18), (.ref b_5), (.int p5), (.int (1 : Int32)), (.int cap)]) (rest := [(.int (1 : Int32))]) (lenOf pd__Lcom_example_pointcell_pointcell_PointArrays__JIII_Z_4 rfl) rfl (by show 2 * 0 + _ ≤ _; exact Nat.le_of_eq rfl) (hb hBY at_100) (fun _ _ => ⟨rfl, e_34, (by decide : 5 + 0 ≤ _), (by decide : 24 + 0 ≤ _)⟩)
      dsimp only [Pt.U, Pt.locs, Pt.cells, Pt.slots] at X_63 l_63 y_63 z_63 st_63 hQ_63
      subst l_63 y_63 z_63
      obtain ⟨vK__63, vD__63, vO__63, rfl, N_63q, K_63, hq_63_0, hq_63_1, hq_63_2, hq_63_3, hq_63_4, hq_63_5, hq_63_6, hq_63_7, hq_63_8, hq_63_9, hq_63_10, hq_63_11, hq_63_12⟩ := hQ_63
      have N_63 := Fr.app N_34 N_63q
      have K__64 : Keep h0 T_63.heap [] := K__30.trans K_63 (allS (Or.inr sz_b_18) (allS (Or.inr sz_kb__29) (allS (Or.inr sz_db__29) (allS (Or.inr sz_ob__29) all0))))
      have f_65 : Arv Z T_63.heap b_5 k_5 .long dm ([(.long q4), (.long (0 : Int64))].set (dm - (1 : Int32)).toNatClampNeg (.long q4)) (.long (0 : Int64)) := f_31.keep K_63 (ninS ne_b_5_b_18 (ninS ne_b_5_kb__29 (ninS ne_b_5_db__29 (ninS ne_b_5_ob__29 nin0))))
      have f_66 : Exa Z T_63.heap b_18 "com/example/pointcell/pointcell/PointArrays" := hq_29_0.keep K_63
      refine Done.pre (fun _ k_ => st_63 _ k_) ?_
      show Done _ _ _ _ _ _ _ (T_63.setTop (mkF m 103 #[Iv p1, Iv p2, Iv p3, Lv q4, Zs, Iv p5, Iv cap, Iv (1 : Int32), Iv dm, Rv b_5, Rv b_18, Iv (1 : Int32)] [(.int (1 : Int32)), (.int (1 : Int32))]))
      have f_67 : Fld Z T_63.heap b_18 "com/example/pointcell/pointcell/PointArrays" "size" "I" (.int (1 : Int32)) := by have q := hq_63_1; rw [show (0 : Int32) + (1 : Int32) = (1 : Int32) from by decide] at q; exact q
      have sg_68 : ∀ tt_, Steps p.tables e below (T_63.setTop (mkF m 175 #[Iv p1, Iv p2, Iv p3, Lv q4, Zs, Iv p5, Iv cap, Iv (1 : Int32), Iv dm, Rv b_5, Rv b_18, Iv (1 : Int32)] [])) tt_ → Steps p.tables e below (T_63.setTop (mkF m 103 #[Iv p1, Iv p2, Iv p3, Lv q4, Zs, Iv p5, Iv cap, Iv (1 : Int32), Iv dm, Rv b_5, Rv b_18, Iv (1 : Int32)] [(.int (1 : Int32)), (.int (1 : Int32))])) tt_ := by
        intro tt_ kt_
        refine XS.iand X_63.here hEX rfl (hb hBY at_103) rfl ?_
        show Steps p.tables e below (T_63.setTop (mkF m 104 #[Iv p1, Iv p2, Iv p3, Lv q4, Zs, Iv p5, Iv cap, Iv (1 : Int32), Iv dm, Rv b_5, Rv b_18, Iv (1 : Int32)] [(.int (1 : Int32))])) tt_
        refine XS.istore X_63.here hEX rfl (hb hBY at_104) rfl (l' := #[Iv p1, Iv p2, Iv p3, Lv q4, Zs, Iv p5, Iv cap, Iv (1 : Int32), Iv dm, Rv b_5, Rv b_18, Iv (1 : Int32)]) rfl ?_
        show Steps p.tables e below (T_63.setTop (mkF m 106 #[Iv p1, Iv p2, Iv p3, Lv q4, Zs, Iv p5, Iv cap, Iv (1 : Int32), Iv dm, Rv b_5, Rv b_18, Iv (1 : Int32)] [])) tt_
        refine XS.iload X_63.here hEX rfl (hb hBY at_106) rfl ?_
        show Steps p.tables e below (T_63.setTop (mkF m 108 #[Iv p1, Iv p2, Iv p3, Lv q4, Zs, Iv p5, Iv cap, Iv (1 : Int32), Iv dm, Rv b_5, Rv b_18, Iv (1 : Int32)] [(.int (1 : Int32))])) tt_
        refine XS.iconst X_63.here hEX rfl (hb hBY at_108) ?_
        show Steps p.tables e below (T_63.setTop (mkF m 109 #[Iv p1, Iv p2, Iv p3, Lv q4, Zs, Iv p5, Iv cap, Iv (1 : Int32), Iv dm, Rv b_5, Rv b_18, Iv (1 : Int32)] [(.int (2 : Int32)), (.int (1 : Int32))])) tt_
        refine XS.icmpYes X_63.here hEX rfl (pc0 := 109) (pc' := 129) rfl (hb hBY at_109) rfl (tlt (by decide : (1 : Int32) < (2 : Int32))).1 (by decide) (by decide) ?_
        show Steps p.tables e below (T_63.setTop (mkF m 129 #[Iv p1, Iv p2, Iv p3, Lv q4, Zs, Iv p5, Iv cap, Iv (1 : Int32), Iv dm, Rv b_5, Rv b_18, Iv (1 : Int32)] [])) tt_
        refine XS.iload X_63.here hEX rfl (hb hBY at_129) rfl ?_
        show Steps p.tables e below (T_63.setTop (mkF m 131 #[Iv p1, Iv p2, Iv p3, Lv q4, Zs, Iv p5, Iv cap, Iv (1 : Int32), Iv dm, Rv b_5, Rv b_18, Iv (1 : Int32)] [(.int (1 : Int32))])) tt_
        refine XS.iconst X_63.here hEX rfl (hb hBY at_131) ?_
        show Steps p.tables e below (T_63.setTop (mkF m 132 #[Iv p1, Iv p2, Iv p3, Lv q4, Zs, Iv p5, Iv cap, Iv (1 : Int32), Iv dm, Rv b_5, Rv b_18, Iv (1 : Int32)] [(.int (3 : Int32)), (.int (1 : Int32))])) tt_
        refine XS.icmpYes X_63.here hEX rfl (pc0 := 132) (pc' := 152) rfl (hb hBY at_132) rfl (tlt (by decide : (1 : Int32) < (3 : Int32))).1 (by decide) (by decide) ?_
        show Steps p.tables e below (T_63.setTop (mkF m 152 #[Iv p1, Iv p2, Iv p3, Lv q4, Zs, Iv p5, Iv cap, Iv (1 : Int32), Iv dm, Rv b_5, Rv b_18, Iv (1 : Int32)] [])) tt_
        refine XS.iload X_63.here hEX rfl (hb hBY at_152) rfl ?_
        show Steps p.tables e below (T_63.setTop (mkF m 154 #[Iv p1, Iv p2, Iv p3, Lv q4, Zs, Iv p5, Iv cap, Iv (1 : Int32), Iv dm, Rv b_5, Rv b_18, Iv (1 : Int32)] [(.int (1 : Int32))])) tt_
        refine XS.iconst X_63.here hEX rfl (hb hBY at_154) ?_
        show Steps p.tables e below (T_63.setTop (mkF m 155 #[Iv p1, Iv p2, Iv p3, Lv q4, Zs, Iv p5, Iv cap, Iv (1 : Int32), Iv dm, Rv b_5, Rv b_18, Iv (1 : Int32)] [(.int (4 : Int32)), (.int (1 : Int32))])) tt_
        refine XS.icmpYes X_63.here hEX rfl (pc0 := 155) (pc' := 175) rfl (hb hBY at_155) rfl (tlt (by decide : (1 : Int32) < (4 : Int32))).1 (by decide) (by decide) ?_
        exact kt_
      refine Done.pre sg_68 ?_
      exact jn_37 T_63 T_63.heap _ X_63 rfl N_63 K__64 ((1 : Int32)) hq_63_0 f_67 hq_63_3
    · skip
      show Done _ _ _ _ _ _ _ (T_34.setTop (mkF m 83 #[Iv p1, Iv p2, Iv p3, Lv q4, Zs, Iv p5, Iv cap, Iv (2 : Int32), Iv dm, Rv b_5, Rv b_18, Iv (1 : Int32)] []))
      have sg_69 : ∀ tt_, Steps p.tables e below (T_34.setTop (mkF m 100 #[Iv p1, Iv p2, Iv p3, Lv q4, Zs, Iv p5, Iv cap, Iv (2 : Int32), Iv dm, Rv b_5, Rv b_18, Iv (1 : Int32)] [(.int cap), (.int (1 : Int32)), (.int p5), (.ref b_5), (.ref b_18), (.int (1 : Int32))])) tt_ → Steps p.tables e below (T_34.setTop (mkF m 83 #[Iv p1, Iv p2, Iv p3, Lv q4, Zs, Iv p5, Iv cap, Iv (2 : Int32), Iv dm, Rv b_5, Rv b_18, Iv (1 : Int32)] [])) tt_ := by
        intro tt_ kt_
        refine XS.iload X_34.here hEX rfl (hb hBY at_83) rfl ?_
        show Steps p.tables e below (T_34.setTop (mkF m 85 #[Iv p1, Iv p2, Iv p3, Lv q4, Zs, Iv p5, Iv cap, Iv (2 : Int32), Iv dm, Rv b_5, Rv b_18, Iv (1 : Int32)] [(.int (2 : Int32))])) tt_
        refine XS.iconst X_34.here hEX rfl (hb hBY at_85) ?_
        show Steps p.tables e below (T_34.setTop (mkF m 86 #[Iv p1, Iv p2, Iv p3, Lv q4, Zs, Iv p5, Iv cap, Iv (2 : Int32), Iv dm, Rv b_5, Rv b_18, Iv (1 : Int32)] [(.int (1 : Int32)), (.int (2 : Int32))])) tt_
        refine XS.icmpNo X_34.here hEX rfl (hb hBY at_86) rfl (flt (by decide : ¬ ((2 : Int32) < (1 : Int32)))).1 ?_
        show Steps p.tables e below (T_34.setTop (mkF m 89 #[Iv p1, Iv p2, Iv p3, Lv q4, Zs, Iv p5, Iv cap, Iv (2 : Int32), Iv dm, Rv b_5, Rv b_18, Iv (1 : Int32)] [])) tt_
        refine XS.iload X_34.here hEX rfl (hb hBY at_89) rfl ?_
        show Steps p.tables e below (T_34.setTop (mkF m 91 #[Iv p1, Iv p2, Iv p3, Lv q4, Zs, Iv p5, Iv cap, Iv (2 : Int32), Iv dm, Rv b_5, Rv b_18, Iv (1 : Int32)] [(.int (1 : Int32))])) tt_
        refine XS.aload X_34.here hEX rfl (hb hBY at_91) rfl rfl ?_
        show Steps p.tables e below (T_34.setTop (mkF m 93 #[Iv p1, Iv p2, Iv p3, Lv q4, Zs, Iv p5, Iv cap, Iv (2 : Int32), Iv dm, Rv b_5, Rv b_18, Iv (1 : Int32)] [(.ref b_18), (.int (1 : Int32))])) tt_
        refine XS.aload X_34.here hEX rfl (hb hBY at_93) rfl rfl ?_
        show Steps p.tables e below (T_34.setTop (mkF m 95 #[Iv p1, Iv p2, Iv p3, Lv q4, Zs, Iv p5, Iv cap, Iv (2 : Int32), Iv dm, Rv b_5, Rv b_18, Iv (1 : Int32)] [(.ref b_5), (.ref b_18), (.int (1 : Int32))])) tt_
        refine XS.iload X_34.here hEX rfl (hb hBY at_95) rfl ?_
        show Steps p.tables e below (T_34.setTop (mkF m 97 #[Iv p1, Iv p2, Iv p3, Lv q4, Zs, Iv p5, Iv cap, Iv (2 : Int32), Iv dm, Rv b_5, Rv b_18, Iv (1 : Int32)] [(.int p5), (.ref b_5), (.ref b_18), (.int (1 : Int32))])) tt_
        refine XS.iconst X_34.here hEX rfl (hb hBY at_97) ?_
        show Steps p.tables e below (T_34.setTop (mkF m 98 #[Iv p1, Iv p2, Iv p3, Lv q4, Zs, Iv p5, Iv cap, Iv (2 : Int32), Iv dm, Rv b_5, Rv b_18, Iv (1 : Int32)] [(.int (1 : Int32)), (.int p5), (.ref b_5), (.ref b_18), (.int (1 : Int32))])) tt_
        refine XS.iload X_34.here hEX rfl (hb hBY at_98) rfl ?_
        exact kt_
      refine Done.pre sg_69 ?_
      obtain ⟨_, _, ⟨T_70, L_70, k_70, n_70⟩, -, X_70, ⟨Lc_70, hQ_70, l_70, y_70, z_70⟩, st_70⟩ := Jvm.LawKit.callS X_34 hEX (y := (⟨"com/example/pointcell/pointcell/PointArraysIsFullPinLaw", "step", "(Lcom/example/pointcell/pointcell/PointArrays;[JIII)Z"⟩ : MethodName)) hOW (mvT hZW (hw _ (List.mem_of_getElem? (i := 37) rfl))) (mvT hZW (hw _ (List.mem_of_getElem? (i := 38) rfl))) (mvT hZW (hw _ (List.mem_of_getElem? (i := 39) rfl))) (mvT hZW (hw _ (List.mem_of_getElem? (i := 40) rfl))) (by decide) (backOf (W := 1) (rm_step l Z aZ hw [] b_18 b_5 p5 (1 : Int32) cap (0 : Int32) dm kb__29 kk__29 db__29 kd__29 ob__29 ko__29 vK__29 vD__29 vO__29 k_5 ([(.long q4), (.long (0 : Int64))].set (dm - (1 : Int32)).toNatClampNeg (.long q4)) T_29.heap n0 (Nat.le_trans Z0 K__30.1) hq_29_0 hq_29_1 hq_29_2 hq_29_3 hq_29_4 hq_29_5 hq_29_6 f_31 hq_29_7 hq_29_8 hq_29_9 ge_b_18 (Nat.le_trans Z0 sz_kb__29) (Nat.le_trans Z0 sz_db__29) (Nat.le_trans Z0 sz_ob__29) ne_b_18_kb__29 ne_b_18_db__29 ne_b_18_ob__29 ne_b_5_kb__29 ne_b_5_db__29 ne_b_5_ob__29 ne_b_5_b_18 hq_29_13 hq_29_14 hq_29_15 hdd ⟨by decide, Int.lt_of_lt_of_le (by decide : ((0 : Int32)).toInt < ((2 : Int32)).toInt) hct.2, hcp.2⟩ (by assumption) (by assumption) (by assumption) (by decide)) hZW (hw _ (List.mem_of_getElem? (i := 40) rfl)) (hw _ (List.mem_of_getElem? (i := 39) rfl)) (by decide) (by decide)) (g := (mkF m 100 #[Iv p1, Iv p2, Iv p3, Lv q4, Zs, Iv p5, Iv cap, Iv (2 : Int32), Iv dm, Rv b_5, Rv b_18, Iv (1 : Int32)] [(.int cap), (.int (1 : Int32)), (.int p5), (.ref b_5), (.ref b_18), (.int (1 : Int32))])) rfl (by rw [hMX]; rfl) (argsL := [(.ref b_18), (.ref b_5), (.int p5), (.int (1 : Int32)), (.int cap)]) (rest := [(.int (1 : Int32))]) (lenOf pd__Lcom_example_pointcell_pointcell_PointArrays__JIII_Z_4 rfl) rfl (by show 2 * 0 + _ ≤ _; exact Nat.le_of_eq rfl) (hb hBY at_100) (fun _ _ => ⟨rfl, e_34, (by decide : 5 + 0 ≤ _), (by decide : 24 + 0 ≤ _)⟩)
      dsimp only [Pt.U, Pt.locs, Pt.cells, Pt.slots] at X_70 l_70 y_70 z_70 st_70 hQ_70
      subst l_70 y_70 z_70
      obtain ⟨vK__70, vD__70, vO__70, rfl, N_70q, K_70, hq_70_0, hq_70_1, hq_70_2, hq_70_3, hq_70_4, hq_70_5, hq_70_6, hq_70_7, hq_70_8, hq_70_9, hq_70_10, hq_70_11, hq_70_12⟩ := hQ_70
      have N_70 := Fr.app N_34 N_70q
      have K__71 : Keep h0 T_70.heap [] := K__30.trans K_70 (allS (Or.inr sz_b_18) (allS (Or.inr sz_kb__29) (allS (Or.inr sz_db__29) (allS (Or.inr sz_ob__29) all0))))
      have f_72 : Arv Z T_70.heap b_5 k_5 .long dm ([(.long q4), (.long (0 : Int64))].set (dm - (1 : Int32)).toNatClampNeg (.long q4)) (.long (0 : Int64)) := f_31.keep K_70 (ninS ne_b_5_b_18 (ninS ne_b_5_kb__29 (ninS ne_b_5_db__29 (ninS ne_b_5_ob__29 nin0))))
      have f_73 : Exa Z T_70.heap b_18 "com/example/pointcell/pointcell/PointArrays" := hq_29_0.keep K_70
      refine Done.pre (fun _ k_ => st_70 _ k_) ?_
      show Done _ _ _ _ _ _ _ (T_70.setTop (mkF m 103 #[Iv p1, Iv p2, Iv p3, Lv q4, Zs, Iv p5, Iv cap, Iv (2 : Int32), Iv dm, Rv b_5, Rv b_18, Iv (1 : Int32)] [(.int (1 : Int32)), (.int (1 : Int32))]))
      have f_74 : Fld Z T_70.heap b_18 "com/example/pointcell/pointcell/PointArrays" "size" "I" (.int (1 : Int32)) := by have q := hq_70_1; rw [show (0 : Int32) + (1 : Int32) = (1 : Int32) from by decide] at q; exact q
      have sg_75 : ∀ tt_, Steps p.tables e below (T_70.setTop (mkF m 123 #[Iv p1, Iv p2, Iv p3, Lv q4, Zs, Iv p5, Iv cap, Iv (2 : Int32), Iv dm, Rv b_5, Rv b_18, Iv (1 : Int32)] [(.int cap), (.int (2 : Int32)), (.int p5), (.ref b_5), (.ref b_18), (.int (1 : Int32))])) tt_ → Steps p.tables e below (T_70.setTop (mkF m 103 #[Iv p1, Iv p2, Iv p3, Lv q4, Zs, Iv p5, Iv cap, Iv (2 : Int32), Iv dm, Rv b_5, Rv b_18, Iv (1 : Int32)] [(.int (1 : Int32)), (.int (1 : Int32))])) tt_ := by
        intro tt_ kt_
        refine XS.iand X_70.here hEX rfl (hb hBY at_103) rfl ?_
        show Steps p.tables e below (T_70.setTop (mkF m 104 #[Iv p1, Iv p2, Iv p3, Lv q4, Zs, Iv p5, Iv cap, Iv (2 : Int32), Iv dm, Rv b_5, Rv b_18, Iv (1 : Int32)] [(.int (1 : Int32))])) tt_
        refine XS.istore X_70.here hEX rfl (hb hBY at_104) rfl (l' := #[Iv p1, Iv p2, Iv p3, Lv q4, Zs, Iv p5, Iv cap, Iv (2 : Int32), Iv dm, Rv b_5, Rv b_18, Iv (1 : Int32)]) rfl ?_
        show Steps p.tables e below (T_70.setTop (mkF m 106 #[Iv p1, Iv p2, Iv p3, Lv q4, Zs, Iv p5, Iv cap, Iv (2 : Int32), Iv dm, Rv b_5, Rv b_18, Iv (1 : Int32)] [])) tt_
        refine XS.iload X_70.here hEX rfl (hb hBY at_106) rfl ?_
        show Steps p.tables e below (T_70.setTop (mkF m 108 #[Iv p1, Iv p2, Iv p3, Lv q4, Zs, Iv p5, Iv cap, Iv (2 : Int32), Iv dm, Rv b_5, Rv b_18, Iv (1 : Int32)] [(.int (2 : Int32))])) tt_
        refine XS.iconst X_70.here hEX rfl (hb hBY at_108) ?_
        show Steps p.tables e below (T_70.setTop (mkF m 109 #[Iv p1, Iv p2, Iv p3, Lv q4, Zs, Iv p5, Iv cap, Iv (2 : Int32), Iv dm, Rv b_5, Rv b_18, Iv (1 : Int32)] [(.int (2 : Int32)), (.int (2 : Int32))])) tt_
        refine XS.icmpNo X_70.here hEX rfl (hb hBY at_109) rfl (flt (by decide : ¬ ((2 : Int32) < (2 : Int32)))).1 ?_
        show Steps p.tables e below (T_70.setTop (mkF m 112 #[Iv p1, Iv p2, Iv p3, Lv q4, Zs, Iv p5, Iv cap, Iv (2 : Int32), Iv dm, Rv b_5, Rv b_18, Iv (1 : Int32)] [])) tt_
        refine XS.iload X_70.here hEX rfl (hb hBY at_112) rfl ?_
        show Steps p.tables e below (T_70.setTop (mkF m 114 #[Iv p1, Iv p2, Iv p3, Lv q4, Zs, Iv p5, Iv cap, Iv (2 : Int32), Iv dm, Rv b_5, Rv b_18, Iv (1 : Int32)] [(.int (1 : Int32))])) tt_
        refine XS.aload X_70.here hEX rfl (hb hBY at_114) rfl rfl ?_
        show Steps p.tables e below (T_70.setTop (mkF m 116 #[Iv p1, Iv p2, Iv p3, Lv q4, Zs, Iv p5, Iv cap, Iv (2 : Int32), Iv dm, Rv b_5, Rv b_18, Iv (1 : Int32)] [(.ref b_18), (.int (1 : Int32))])) tt_
        refine XS.aload X_70.here hEX rfl (hb hBY at_116) rfl rfl ?_
        show Steps p.tables e below (T_70.setTop (mkF m 118 #[Iv p1, Iv p2, Iv p3, Lv q4, Zs, Iv p5, Iv cap, Iv (2 : Int32), Iv dm, Rv b_5, Rv b_18, Iv (1 : Int32)] [(.ref b_5), (.ref b_18), (.int (1 : Int32))])) tt_
        refine XS.iload X_70.here hEX rfl (hb hBY at_118) rfl ?_
        show Steps p.tables e below (T_70.setTop (mkF m 120 #[Iv p1, Iv p2, Iv p3, Lv q4, Zs, Iv p5, Iv cap, Iv (2 : Int32), Iv dm, Rv b_5, Rv b_18, Iv (1 : Int32)] [(.int p5), (.ref b_5), (.ref b_18), (.int (1 : Int32))])) tt_
        refine XS.iconst X_70.here hEX rfl (hb hBY at_120) ?_
        show Steps p.tables e below (T_70.setTop (mkF m 121 #[Iv p1, Iv p2, Iv p3, Lv q4, Zs, Iv p5, Iv cap, Iv (2 : Int32), Iv dm, Rv b_5, Rv b_18, Iv (1 : Int32)] [(.int (2 : Int32)), (.int p5), (.ref b_5), (.ref b_18), (.int (1 : Int32))])) tt_
        refine XS.iload X_70.here hEX rfl (hb hBY at_121) rfl ?_
        exact kt_
      refine Done.pre sg_75 ?_
      obtain ⟨_, _, ⟨T_76, L_76, k_76, n_76⟩, -, X_76, ⟨Lc_76, hQ_76, l_76, y_76, z_76⟩, st_76⟩ := Jvm.LawKit.callS X_70 hEX (y := (⟨"com/example/pointcell/pointcell/PointArraysIsFullPinLaw", "step", "(Lcom/example/pointcell/pointcell/PointArrays;[JIII)Z"⟩ : MethodName)) hOW (mvT hZW (hw _ (List.mem_of_getElem? (i := 37) rfl))) (mvT hZW (hw _ (List.mem_of_getElem? (i := 38) rfl))) (mvT hZW (hw _ (List.mem_of_getElem? (i := 39) rfl))) (mvT hZW (hw _ (List.mem_of_getElem? (i := 40) rfl))) (by decide) (backOf (W := 1) (rm_step l Z aZ hw [] b_18 b_5 p5 (2 : Int32) cap (1 : Int32) dm kb__29 kk__29 db__29 kd__29 ob__29 ko__29 vK__70 vD__70 vO__70 k_5 ([(.long q4), (.long (0 : Int64))].set (dm - (1 : Int32)).toNatClampNeg (.long q4)) T_70.heap n0 (Nat.le_trans Z0 K__71.1) hq_70_0 f_74 hq_70_2 hq_70_3 hq_70_4 hq_70_5 hq_70_6 f_72 hq_70_7 hq_70_8 hq_70_9 ge_b_18 (Nat.le_trans Z0 sz_kb__29) (Nat.le_trans Z0 sz_db__29) (Nat.le_trans Z0 sz_ob__29) ne_b_18_kb__29 ne_b_18_db__29 ne_b_18_ob__29 ne_b_5_kb__29 ne_b_5_db__29 ne_b_5_ob__29 ne_b_5_b_18 hq_29_13 hq_29_14 hq_29_15 hdd ⟨by decide, Int.lt_of_lt_of_le (by decide : ((1 : Int32)).toInt < ((2 : Int32)).toInt) hct.2, hcp.2⟩ (by assumption) (by assumption) (by assumption) (by decide)) hZW (hw _ (List.mem_of_getElem? (i := 40) rfl)) (hw _ (List.mem_of_getElem? (i := 39) rfl)) (by decide) (by decide)) (g := (mkF m 123 #[Iv p1, Iv p2, Iv p3, Lv q4, Zs, Iv p5, Iv cap, Iv (2 : Int32), Iv dm, Rv b_5, Rv b_18, Iv (1 : Int32)] [(.int cap), (.int (2 : Int32)), (.int p5), (.ref b_5), (.ref b_18), (.int (1 : Int32))])) rfl (by rw [hMX]; rfl) (argsL := [(.ref b_18), (.ref b_5), (.int p5), (.int (2 : Int32)), (.int cap)]) (rest := [(.int (1 : Int32))]) (lenOf pd__Lcom_example_pointcell_pointcell_PointArrays__JIII_Z_4 rfl) rfl (by show 2 * 0 + _ ≤ _; exact Nat.le_of_eq rfl) (hb hBY at_123) (fun _ _ => ⟨rfl, rfl, (by decide : 5 + 0 ≤ _), (by decide : 24 + 0 ≤ _)⟩)
      dsimp only [Pt.U, Pt.locs, Pt.cells, Pt.slots] at X_76 l_76 y_76 z_76 st_76 hQ_76
      subst l_76 y_76 z_76
      obtain ⟨vK__76, vD__76, vO__76, rfl, N_76q, K_76, hq_76_0, hq_76_1, hq_76_2, hq_76_3, hq_76_4, hq_76_5, hq_76_6, hq_76_7, hq_76_8, hq_76_9, hq_76_10, hq_76_11, hq_76_12⟩ := hQ_76
      have N_76 := Fr.app N_70 N_76q
      have K__77 : Keep h0 T_76.heap [] := K__71.trans K_76 (allS (Or.inr sz_b_18) (allS (Or.inr sz_kb__29) (allS (Or.inr sz_db__29) (allS (Or.inr sz_ob__29) all0))))
      have f_78 : Arv Z T_76.heap b_5 k_5 .long dm ([(.long q4), (.long (0 : Int64))].set (dm - (1 : Int32)).toNatClampNeg (.long q4)) (.long (0 : Int64)) := f_72.keep K_76 (ninS ne_b_5_b_18 (ninS ne_b_5_kb__29 (ninS ne_b_5_db__29 (ninS ne_b_5_ob__29 nin0))))
      have f_79 : Exa Z T_76.heap b_18 "com/example/pointcell/pointcell/PointArrays" := hq_70_0.keep K_76
      refine Done.pre (fun _ k_ => st_76 _ k_) ?_
      show Done _ _ _ _ _ _ _ (T_76.setTop (mkF m 126 #[Iv p1, Iv p2, Iv p3, Lv q4, Zs, Iv p5, Iv cap, Iv (2 : Int32), Iv dm, Rv b_5, Rv b_18, Iv (1 : Int32)] [(.int (1 : Int32)), (.int (1 : Int32))]))
      have f_80 : Fld Z T_76.heap b_18 "com/example/pointcell/pointcell/PointArrays" "size" "I" (.int (2 : Int32)) := by have q := hq_76_1; rw [show (1 : Int32) + (1 : Int32) = (2 : Int32) from by decide] at q; exact q
      have sg_81 : ∀ tt_, Steps p.tables e below (T_76.setTop (mkF m 175 #[Iv p1, Iv p2, Iv p3, Lv q4, Zs, Iv p5, Iv cap, Iv (2 : Int32), Iv dm, Rv b_5, Rv b_18, Iv (1 : Int32)] [])) tt_ → Steps p.tables e below (T_76.setTop (mkF m 126 #[Iv p1, Iv p2, Iv p3, Lv q4, Zs, Iv p5, Iv cap, Iv (2 : Int32), Iv dm, Rv b_5, Rv b_18, Iv (1 : Int32)] [(.int (1 : Int32)), (.int (1 : Int32))])) tt_ := by
        intro tt_ kt_
        refine XS.iand X_76.here hEX rfl (hb hBY at_126) rfl ?_
        show Steps p.tables e below (T_76.setTop (mkF m 127 #[Iv p1, Iv p2, Iv p3, Lv q4, Zs, Iv p5, Iv cap, Iv (2 : Int32), Iv dm, Rv b_5, Rv b_18, Iv (1 : Int32)] [(.int (1 : Int32))])) tt_
        refine XS.istore X_76.here hEX rfl (hb hBY at_127) rfl (l' := #[Iv p1, Iv p2, Iv p3, Lv q4, Zs, Iv p5, Iv cap, Iv (2 : Int32), Iv dm, Rv b_5, Rv b_18, Iv (1 : Int32)]) rfl ?_
        show Steps p.tables e below (T_76.setTop (mkF m 129 #[Iv p1, Iv p2, Iv p3, Lv q4, Zs, Iv p5, Iv cap, Iv (2 : Int32), Iv dm, Rv b_5, Rv b_18, Iv (1 : Int32)] [])) tt_
        refine XS.iload X_76.here hEX rfl (hb hBY at_129) rfl ?_
        show Steps p.tables e below (T_76.setTop (mkF m 131 #[Iv p1, Iv p2, Iv p3, Lv q4, Zs, Iv p5, Iv cap, Iv (2 : Int32), Iv dm, Rv b_5, Rv b_18, Iv (1 : Int32)] [(.int (2 : Int32))])) tt_
        refine XS.iconst X_76.here hEX rfl (hb hBY at_131) ?_
        show Steps p.tables e below (T_76.setTop (mkF m 132 #[Iv p1, Iv p2, Iv p3, Lv q4, Zs, Iv p5, Iv cap, Iv (2 : Int32), Iv dm, Rv b_5, Rv b_18, Iv (1 : Int32)] [(.int (3 : Int32)), (.int (2 : Int32))])) tt_
        refine XS.icmpYes X_76.here hEX rfl (pc0 := 132) (pc' := 152) rfl (hb hBY at_132) rfl (tlt (by decide : (2 : Int32) < (3 : Int32))).1 (by decide) (by decide) ?_
        show Steps p.tables e below (T_76.setTop (mkF m 152 #[Iv p1, Iv p2, Iv p3, Lv q4, Zs, Iv p5, Iv cap, Iv (2 : Int32), Iv dm, Rv b_5, Rv b_18, Iv (1 : Int32)] [])) tt_
        refine XS.iload X_76.here hEX rfl (hb hBY at_152) rfl ?_
        show Steps p.tables e below (T_76.setTop (mkF m 154 #[Iv p1, Iv p2, Iv p3, Lv q4, Zs, Iv p5, Iv cap, Iv (2 : Int32), Iv dm, Rv b_5, Rv b_18, Iv (1 : Int32)] [(.int (2 : Int32))])) tt_
        refine XS.iconst X_76.here hEX rfl (hb hBY at_154) ?_
        show Steps p.tables e below (T_76.setTop (mkF m 155 #[Iv p1, Iv p2, Iv p3, Lv q4, Zs, Iv p5, Iv cap, Iv (2 : Int32), Iv dm, Rv b_5, Rv b_18, Iv (1 : Int32)] [(.int (4 : Int32)), (.int (2 : Int32))])) tt_
        refine XS.icmpYes X_76.here hEX rfl (pc0 := 155) (pc' := 175) rfl (hb hBY at_155) rfl (tlt (by decide : (2 : Int32) < (4 : Int32))).1 (by decide) (by decide) ?_
        exact kt_
      refine Done.pre sg_81 ?_
      exact jn_37 T_76 T_76.heap _ X_76 rfl N_76 K__77 ((2 : Int32)) hq_76_0 f_80 hq_76_3
    · skip
      show Done _ _ _ _ _ _ _ (T_34.setTop (mkF m 83 #[Iv p1, Iv p2, Iv p3, Lv q4, Zs, Iv p5, Iv cap, Iv (3 : Int32), Iv dm, Rv b_5, Rv b_18, Iv (1 : Int32)] []))
      have sg_82 : ∀ tt_, Steps p.tables e below (T_34.setTop (mkF m 100 #[Iv p1, Iv p2, Iv p3, Lv q4, Zs, Iv p5, Iv cap, Iv (3 : Int32), Iv dm, Rv b_5, Rv b_18, Iv (1 : Int32)] [(.int cap), (.int (1 : Int32)), (.int p5), (.ref b_5), (.ref b_18), (.int (1 : Int32))])) tt_ → Steps p.tables e below (T_34.setTop (mkF m 83 #[Iv p1, Iv p2, Iv p3, Lv q4, Zs, Iv p5, Iv cap, Iv (3 : Int32), Iv dm, Rv b_5, Rv b_18, Iv (1 : Int32)] [])) tt_ := by
        intro tt_ kt_
        refine XS.iload X_34.here hEX rfl (hb hBY at_83) rfl ?_
        show Steps p.tables e below (T_34.setTop (mkF m 85 #[Iv p1, Iv p2, Iv p3, Lv q4, Zs, Iv p5, Iv cap, Iv (3 : Int32), Iv dm, Rv b_5, Rv b_18, Iv (1 : Int32)] [(.int (3 : Int32))])) tt_
        refine XS.iconst X_34.here hEX rfl (hb hBY at_85) ?_
        show Steps p.tables e below (T_34.setTop (mkF m 86 #[Iv p1, Iv p2, Iv p3, Lv q4, Zs, Iv p5, Iv cap, Iv (3 : Int32), Iv dm, Rv b_5, Rv b_18, Iv (1 : Int32)] [(.int (1 : Int32)), (.int (3 : Int32))])) tt_
        refine XS.icmpNo X_34.here hEX rfl (hb hBY at_86) rfl (flt (by decide : ¬ ((3 : Int32) < (1 : Int32)))).1 ?_
        show Steps p.tables e below (T_34.setTop (mkF m 89 #[Iv p1, Iv p2, Iv p3, Lv q4, Zs, Iv p5, Iv cap, Iv (3 : Int32), Iv dm, Rv b_5, Rv b_18, Iv (1 : Int32)] [])) tt_
        refine XS.iload X_34.here hEX rfl (hb hBY at_89) rfl ?_
        show Steps p.tables e below (T_34.setTop (mkF m 91 #[Iv p1, Iv p2, Iv p3, Lv q4, Zs, Iv p5, Iv cap, Iv (3 : Int32), Iv dm, Rv b_5, Rv b_18, Iv (1 : Int32)] [(.int (1 : Int32))])) tt_
        refine XS.aload X_34.here hEX rfl (hb hBY at_91) rfl rfl ?_
        show Steps p.tables e below (T_34.setTop (mkF m 93 #[Iv p1, Iv p2, Iv p3, Lv q4, Zs, Iv p5, Iv cap, Iv (3 : Int32), Iv dm, Rv b_5, Rv b_18, Iv (1 : Int32)] [(.ref b_18), (.int (1 : Int32))])) tt_
        refine XS.aload X_34.here hEX rfl (hb hBY at_93) rfl rfl ?_
        show Steps p.tables e below (T_34.setTop (mkF m 95 #[Iv p1, Iv p2, Iv p3, Lv q4, Zs, Iv p5, Iv cap, Iv (3 : Int32), Iv dm, Rv b_5, Rv b_18, Iv (1 : Int32)] [(.ref b_5), (.ref b_18), (.int (1 : Int32))])) tt_
        refine XS.iload X_34.here hEX rfl (hb hBY at_95) rfl ?_
        show Steps p.tables e below (T_34.setTop (mkF m 97 #[Iv p1, Iv p2, Iv p3, Lv q4, Zs, Iv p5, Iv cap, Iv (3 : Int32), Iv dm, Rv b_5, Rv b_18, Iv (1 : Int32)] [(.int p5), (.ref b_5), (.ref b_18), (.int (1 : Int32))])) tt_
        refine XS.iconst X_34.here hEX rfl (hb hBY at_97) ?_
        show Steps p.tables e below (T_34.setTop (mkF m 98 #[Iv p1, Iv p2, Iv p3, Lv q4, Zs, Iv p5, Iv cap, Iv (3 : Int32), Iv dm, Rv b_5, Rv b_18, Iv (1 : Int32)] [(.int (1 : Int32)), (.int p5), (.ref b_5), (.ref b_18), (.int (1 : Int32))])) tt_
        refine XS.iload X_34.here hEX rfl (hb hBY at_98) rfl ?_
        exact kt_
      refine Done.pre sg_82 ?_
      obtain ⟨_, _, ⟨T_83, L_83, k_83, n_83⟩, -, X_83, ⟨Lc_83, hQ_83, l_83, y_83, z_83⟩, st_83⟩ := Jvm.LawKit.callS X_34 hEX (y := (⟨"com/example/pointcell/pointcell/PointArraysIsFullPinLaw", "step", "(Lcom/example/pointcell/pointcell/PointArrays;[JIII)Z"⟩ : MethodName)) hOW (mvT hZW (hw _ (List.mem_of_getElem? (i := 37) rfl))) (mvT hZW (hw _ (List.mem_of_getElem? (i := 38) rfl))) (mvT hZW (hw _ (List.mem_of_getElem? (i := 39) rfl))) (mvT hZW (hw _ (List.mem_of_getElem? (i := 40) rfl))) (by decide) (backOf (W := 1) (rm_step l Z aZ hw [] b_18 b_5 p5 (1 : Int32) cap (0 : Int32) dm kb__29 kk__29 db__29 kd__29 ob__29 ko__29 vK__29 vD__29 vO__29 k_5 ([(.long q4), (.long (0 : Int64))].set (dm - (1 : Int32)).toNatClampNeg (.long q4)) T_29.heap n0 (Nat.le_trans Z0 K__30.1) hq_29_0 hq_29_1 hq_29_2 hq_29_3 hq_29_4 hq_29_5 hq_29_6 f_31 hq_29_7 hq_29_8 hq_29_9 ge_b_18 (Nat.le_trans Z0 sz_kb__29) (Nat.le_trans Z0 sz_db__29) (Nat.le_trans Z0 sz_ob__29) ne_b_18_kb__29 ne_b_18_db__29 ne_b_18_ob__29 ne_b_5_kb__29 ne_b_5_db__29 ne_b_5_ob__29 ne_b_5_b_18 hq_29_13 hq_29_14 hq_29_15 hdd ⟨by decide, Int.lt_of_lt_of_le (by decide : ((0 : Int32)).toInt < ((3 : Int32)).toInt) hct.2, hcp.2⟩ (by assumption) (by assumption) (by assumption) (by decide)) hZW (hw _ (List.mem_of_getElem? (i := 40) rfl)) (hw _ (List.mem_of_getElem? (i := 39) rfl)) (by decide) (by decide)) (g := (mkF m 100 #[Iv p1, Iv p2, Iv p3, Lv q4, Zs, Iv p5, Iv cap, Iv (3 : Int32), Iv dm, Rv b_5, Rv b_18, Iv (1 : Int32)] [(.int cap), (.int (1 : Int32)), (.int p5), (.ref b_5), (.ref b_18), (.int (1 : Int32))])) rfl (by rw [hMX]; rfl) (argsL := [(.ref b_18), (.ref b_5), (.int p5), (.int (1 : Int32)), (.int cap)]) (rest := [(.int (1 : Int32))]) (lenOf pd__Lcom_example_pointcell_pointcell_PointArrays__JIII_Z_4 rfl) rfl (by show 2 * 0 + _ ≤ _; exact Nat.le_of_eq rfl) (hb hBY at_100) (fun _ _ => ⟨rfl, e_34, (by decide : 5 + 0 ≤ _), (by decide : 24 + 0 ≤ _)⟩)
      dsimp only [Pt.U, Pt.locs, Pt.cells, Pt.slots] at X_83 l_83 y_83 z_83 st_83 hQ_83
      subst l_83 y_83 z_83
      obtain ⟨vK__83, vD__83, vO__83, rfl, N_83q, K_83, hq_83_0, hq_83_1, hq_83_2, hq_83_3, hq_83_4, hq_83_5, hq_83_6, hq_83_7, hq_83_8, hq_83_9, hq_83_10, hq_83_11, hq_83_12⟩ := hQ_83
      have N_83 := Fr.app N_34 N_83q
      have K__84 : Keep h0 T_83.heap [] := K__30.trans K_83 (allS (Or.inr sz_b_18) (allS (Or.inr sz_kb__29) (allS (Or.inr sz_db__29) (allS (Or.inr sz_ob__29) all0))))
      have f_85 : Arv Z T_83.heap b_5 k_5 .long dm ([(.long q4), (.long (0 : Int64))].set (dm - (1 : Int32)).toNatClampNeg (.long q4)) (.long (0 : Int64)) := f_31.keep K_83 (ninS ne_b_5_b_18 (ninS ne_b_5_kb__29 (ninS ne_b_5_db__29 (ninS ne_b_5_ob__29 nin0))))
      have f_86 : Exa Z T_83.heap b_18 "com/example/pointcell/pointcell/PointArrays" := hq_29_0.keep K_83
      refine Done.pre (fun _ k_ => st_83 _ k_) ?_
      show Done _ _ _ _ _ _ _ (T_83.setTop (mkF m 103 #[Iv p1, Iv p2, Iv p3, Lv q4, Zs, Iv p5, Iv cap, Iv (3 : Int32), Iv dm, Rv b_5, Rv b_18, Iv (1 : Int32)] [(.int (1 : Int32)), (.int (1 : Int32))]))
      have f_87 : Fld Z T_83.heap b_18 "com/example/pointcell/pointcell/PointArrays" "size" "I" (.int (1 : Int32)) := by have q := hq_83_1; rw [show (0 : Int32) + (1 : Int32) = (1 : Int32) from by decide] at q; exact q
      have sg_88 : ∀ tt_, Steps p.tables e below (T_83.setTop (mkF m 123 #[Iv p1, Iv p2, Iv p3, Lv q4, Zs, Iv p5, Iv cap, Iv (3 : Int32), Iv dm, Rv b_5, Rv b_18, Iv (1 : Int32)] [(.int cap), (.int (2 : Int32)), (.int p5), (.ref b_5), (.ref b_18), (.int (1 : Int32))])) tt_ → Steps p.tables e below (T_83.setTop (mkF m 103 #[Iv p1, Iv p2, Iv p3, Lv q4, Zs, Iv p5, Iv cap, Iv (3 : Int32), Iv dm, Rv b_5, Rv b_18, Iv (1 : Int32)] [(.int (1 : Int32)), (.int (1 : Int32))])) tt_ := by
        intro tt_ kt_
        refine XS.iand X_83.here hEX rfl (hb hBY at_103) rfl ?_
        show Steps p.tables e below (T_83.setTop (mkF m 104 #[Iv p1, Iv p2, Iv p3, Lv q4, Zs, Iv p5, Iv cap, Iv (3 : Int32), Iv dm, Rv b_5, Rv b_18, Iv (1 : Int32)] [(.int (1 : Int32))])) tt_
        refine XS.istore X_83.here hEX rfl (hb hBY at_104) rfl (l' := #[Iv p1, Iv p2, Iv p3, Lv q4, Zs, Iv p5, Iv cap, Iv (3 : Int32), Iv dm, Rv b_5, Rv b_18, Iv (1 : Int32)]) rfl ?_
        show Steps p.tables e below (T_83.setTop (mkF m 106 #[Iv p1, Iv p2, Iv p3, Lv q4, Zs, Iv p5, Iv cap, Iv (3 : Int32), Iv dm, Rv b_5, Rv b_18, Iv (1 : Int32)] [])) tt_
        refine XS.iload X_83.here hEX rfl (hb hBY at_106) rfl ?_
        show Steps p.tables e below (T_83.setTop (mkF m 108 #[Iv p1, Iv p2, Iv p3, Lv q4, Zs, Iv p5, Iv cap, Iv (3 : Int32), Iv dm, Rv b_5, Rv b_18, Iv (1 : Int32)] [(.int (3 : Int32))])) tt_
        refine XS.iconst X_83.here hEX rfl (hb hBY at_108) ?_
        show Steps p.tables e below (T_83.setTop (mkF m 109 #[Iv p1, Iv p2, Iv p3, Lv q4, Zs, Iv p5, Iv cap, Iv (3 : Int32), Iv dm, Rv b_5, Rv b_18, Iv (1 : Int32)] [(.int (2 : Int32)), (.int (3 : Int32))])) tt_
        refine XS.icmpNo X_83.here hEX rfl (hb hBY at_109) rfl (flt (by decide : ¬ ((3 : Int32) < (2 : Int32)))).1 ?_
        show Steps p.tables e below (T_83.setTop (mkF m 112 #[Iv p1, Iv p2, Iv p3, Lv q4, Zs, Iv p5, Iv cap, Iv (3 : Int32), Iv dm, Rv b_5, Rv b_18, Iv (1 : Int32)] [])) tt_
        refine XS.iload X_83.here hEX rfl (hb hBY at_112) rfl ?_
        show Steps p.tables e below (T_83.setTop (mkF m 114 #[Iv p1, Iv p2, Iv p3, Lv q4, Zs, Iv p5, Iv cap, Iv (3 : Int32), Iv dm, Rv b_5, Rv b_18, Iv (1 : Int32)] [(.int (1 : Int32))])) tt_
        refine XS.aload X_83.here hEX rfl (hb hBY at_114) rfl rfl ?_
        show Steps p.tables e below (T_83.setTop (mkF m 116 #[Iv p1, Iv p2, Iv p3, Lv q4, Zs, Iv p5, Iv cap, Iv (3 : Int32), Iv dm, Rv b_5, Rv b_18, Iv (1 : Int32)] [(.ref b_18), (.int (1 : Int32))])) tt_
        refine XS.aload X_83.here hEX rfl (hb hBY at_116) rfl rfl ?_
        show Steps p.tables e below (T_83.setTop (mkF m 118 #[Iv p1, Iv p2, Iv p3, Lv q4, Zs, Iv p5, Iv cap, Iv (3 : Int32), Iv dm, Rv b_5, Rv b_18, Iv (1 : Int32)] [(.ref b_5), (.ref b_18), (.int (1 : Int32))])) tt_
        refine XS.iload X_83.here hEX rfl (hb hBY at_118) rfl ?_
        show Steps p.tables e below (T_83.setTop (mkF m 120 #[Iv p1, Iv p2, Iv p3, Lv q4, Zs, Iv p5, Iv cap, Iv (3 : Int32), Iv dm, Rv b_5, Rv b_18, Iv (1 : Int32)] [(.int p5), (.ref b_5), (.ref b_18), (.int (1 : Int32))])) tt_
        refine XS.iconst X_83.here hEX rfl (hb hBY at_120) ?_
        show Steps p.tables e below (T_83.setTop (mkF m 121 #[Iv p1, Iv p2, Iv p3, Lv q4, Zs, Iv p5, Iv cap, Iv (3 : Int32), Iv dm, Rv b_5, Rv b_18, Iv (1 : Int32)] [(.int (2 : Int32)), (.int p5), (.ref b_5), (.ref b_18), (.int (1 : Int32))])) tt_
        refine XS.iload X_83.here hEX rfl (hb hBY at_121) rfl ?_
        exact kt_
      refine Done.pre sg_88 ?_
      obtain ⟨_, _, ⟨T_89, L_89, k_89, n_89⟩, -, X_89, ⟨Lc_89, hQ_89, l_89, y_89, z_89⟩, st_89⟩ := Jvm.LawKit.callS X_83 hEX (y := (⟨"com/example/pointcell/pointcell/PointArraysIsFullPinLaw", "step", "(Lcom/example/pointcell/pointcell/PointArrays;[JIII)Z"⟩ : MethodName)) hOW (mvT hZW (hw _ (List.mem_of_getElem? (i := 37) rfl))) (mvT hZW (hw _ (List.mem_of_getElem? (i := 38) rfl))) (mvT hZW (hw _ (List.mem_of_getElem? (i := 39) rfl))) (mvT hZW (hw _ (List.mem_of_getElem? (i := 40) rfl))) (by decide) (backOf (W := 1) (rm_step l Z aZ hw [] b_18 b_5 p5 (2 : Int32) cap (1 : Int32) dm kb__29 kk__29 db__29 kd__29 ob__29 ko__29 vK__83 vD__83 vO__83 k_5 ([(.long q4), (.long (0 : Int64))].set (dm - (1 : Int32)).toNatClampNeg (.long q4)) T_83.heap n0 (Nat.le_trans Z0 K__84.1) hq_83_0 f_87 hq_83_2 hq_83_3 hq_83_4 hq_83_5 hq_83_6 f_85 hq_83_7 hq_83_8 hq_83_9 ge_b_18 (Nat.le_trans Z0 sz_kb__29) (Nat.le_trans Z0 sz_db__29) (Nat.le_trans Z0 sz_ob__29) ne_b_18_kb__29 ne_b_18_db__29 ne_b_18_ob__29 ne_b_5_kb__29 ne_b_5_db__29 ne_b_5_ob__29 ne_b_5_b_18 hq_29_13 hq_29_14 hq_29_15 hdd ⟨by decide, Int.lt_of_lt_of_le (by decide : ((1 : Int32)).toInt < ((3 : Int32)).toInt) hct.2, hcp.2⟩ (by assumption) (by assumption) (by assumption) (by decide)) hZW (hw _ (List.mem_of_getElem? (i := 40) rfl)) (hw _ (List.mem_of_getElem? (i := 39) rfl)) (by decide) (by decide)) (g := (mkF m 123 #[Iv p1, Iv p2, Iv p3, Lv q4, Zs, Iv p5, Iv cap, Iv (3 : Int32), Iv dm, Rv b_5, Rv b_18, Iv (1 : Int32)] [(.int cap), (.int (2 : Int32)), (.int p5), (.ref b_5), (.ref b_18), (.int (1 : Int32))])) rfl (by rw [hMX]; rfl) (argsL := [(.ref b_18), (.ref b_5), (.int p5), (.int (2 : Int32)), (.int cap)]) (rest := [(.int (1 : Int32))]) (lenOf pd__Lcom_example_pointcell_pointcell_PointArrays__JIII_Z_4 rfl) rfl (by show 2 * 0 + _ ≤ _; exact Nat.le_of_eq rfl) (hb hBY at_123) (fun _ _ => ⟨rfl, rfl, (by decide : 5 + 0 ≤ _), (by decide : 24 + 0 ≤ _)⟩)
      dsimp only [Pt.U, Pt.locs, Pt.cells, Pt.slots] at X_89 l_89 y_89 z_89 st_89 hQ_89
      subst l_89 y_89 z_89
      obtain ⟨vK__89, vD__89, vO__89, rfl, N_89q, K_89, hq_89_0, hq_89_1, hq_89_2, hq_89_3, hq_89_4, hq_89_5, hq_89_6, hq_89_7, hq_89_8, hq_89_9, hq_89_10, hq_89_11, hq_89_12⟩ := hQ_89
      have N_89 := Fr.app N_83 N_89q
      have K__90 : Keep h0 T_89.heap [] := K__84.trans K_89 (allS (Or.inr sz_b_18) (allS (Or.inr sz_kb__29) (allS (Or.inr sz_db__29) (allS (Or.inr sz_ob__29) all0))))
      have f_91 : Arv Z T_89.heap b_5 k_5 .long dm ([(.long q4), (.long (0 : Int64))].set (dm - (1 : Int32)).toNatClampNeg (.long q4)) (.long (0 : Int64)) := f_85.keep K_89 (ninS ne_b_5_b_18 (ninS ne_b_5_kb__29 (ninS ne_b_5_db__29 (ninS ne_b_5_ob__29 nin0))))
      have f_92 : Exa Z T_89.heap b_18 "com/example/pointcell/pointcell/PointArrays" := hq_83_0.keep K_89
      refine Done.pre (fun _ k_ => st_89 _ k_) ?_
      show Done _ _ _ _ _ _ _ (T_89.setTop (mkF m 126 #[Iv p1, Iv p2, Iv p3, Lv q4, Zs, Iv p5, Iv cap, Iv (3 : Int32), Iv dm, Rv b_5, Rv b_18, Iv (1 : Int32)] [(.int (1 : Int32)), (.int (1 : Int32))]))
      have f_93 : Fld Z T_89.heap b_18 "com/example/pointcell/pointcell/PointArrays" "size" "I" (.int (2 : Int32)) := by have q := hq_89_1; rw [show (1 : Int32) + (1 : Int32) = (2 : Int32) from by decide] at q; exact q
      have sg_94 : ∀ tt_, Steps p.tables e below (T_89.setTop (mkF m 146 #[Iv p1, Iv p2, Iv p3, Lv q4, Zs, Iv p5, Iv cap, Iv (3 : Int32), Iv dm, Rv b_5, Rv b_18, Iv (1 : Int32)] [(.int cap), (.int (3 : Int32)), (.int p5), (.ref b_5), (.ref b_18), (.int (1 : Int32))])) tt_ → Steps p.tables e below (T_89.setTop (mkF m 126 #[Iv p1, Iv p2, Iv p3, Lv q4, Zs, Iv p5, Iv cap, Iv (3 : Int32), Iv dm, Rv b_5, Rv b_18, Iv (1 : Int32)] [(.int (1 : Int32)), (.int (1 : Int32))])) tt_ := by
        intro tt_ kt_
        refine XS.iand X_89.here hEX rfl (hb hBY at_126) rfl ?_
        show Steps p.tables e below (T_89.setTop (mkF m 127 #[Iv p1, Iv p2, Iv p3, Lv q4, Zs, Iv p5, Iv cap, Iv (3 : Int32), Iv dm, Rv b_5, Rv b_18, Iv (1 : Int32)] [(.int (1 : Int32))])) tt_
        refine XS.istore X_89.here hEX rfl (hb hBY at_127) rfl (l' := #[Iv p1, Iv p2, Iv p3, Lv q4, Zs, Iv p5, Iv cap, Iv (3 : Int32), Iv dm, Rv b_5, Rv b_18, Iv (1 : Int32)]) rfl ?_
        show Steps p.tables e below (T_89.setTop (mkF m 129 #[Iv p1, Iv p2, Iv p3, Lv q4, Zs, Iv p5, Iv cap, Iv (3 : Int32), Iv dm, Rv b_5, Rv b_18, Iv (1 : Int32)] [])) tt_
        refine XS.iload X_89.here hEX rfl (hb hBY at_129) rfl ?_
        show Steps p.tables e below (T_89.setTop (mkF m 131 #[Iv p1, Iv p2, Iv p3, Lv q4, Zs, Iv p5, Iv cap, Iv (3 : Int32), Iv dm, Rv b_5, Rv b_18, Iv (1 : Int32)] [(.int (3 : Int32))])) tt_
        refine XS.iconst X_89.here hEX rfl (hb hBY at_131) ?_
        show Steps p.tables e below (T_89.setTop (mkF m 132 #[Iv p1, Iv p2, Iv p3, Lv q4, Zs, Iv p5, Iv cap, Iv (3 : Int32), Iv dm, Rv b_5, Rv b_18, Iv (1 : Int32)] [(.int (3 : Int32)), (.int (3 : Int32))])) tt_
        refine XS.icmpNo X_89.here hEX rfl (hb hBY at_132) rfl (flt (by decide : ¬ ((3 : Int32) < (3 : Int32)))).1 ?_
        show Steps p.tables e below (T_89.setTop (mkF m 135 #[Iv p1, Iv p2, Iv p3, Lv q4, Zs, Iv p5, Iv cap, Iv (3 : Int32), Iv dm, Rv b_5, Rv b_18, Iv (1 : Int32)] [])) tt_
        refine XS.iload X_89.here hEX rfl (hb hBY at_135) rfl ?_
        show Steps p.tables e below (T_89.setTop (mkF m 137 #[Iv p1, Iv p2, Iv p3, Lv q4, Zs, Iv p5, Iv cap, Iv (3 : Int32), Iv dm, Rv b_5, Rv b_18, Iv (1 : Int32)] [(.int (1 : Int32))])) tt_
        refine XS.aload X_89.here hEX rfl (hb hBY at_137) rfl rfl ?_
        show Steps p.tables e below (T_89.setTop (mkF m 139 #[Iv p1, Iv p2, Iv p3, Lv q4, Zs, Iv p5, Iv cap, Iv (3 : Int32), Iv dm, Rv b_5, Rv b_18, Iv (1 : Int32)] [(.ref b_18), (.int (1 : Int32))])) tt_
        refine XS.aload X_89.here hEX rfl (hb hBY at_139) rfl rfl ?_
        show Steps p.tables e below (T_89.setTop (mkF m 141 #[Iv p1, Iv p2, Iv p3, Lv q4, Zs, Iv p5, Iv cap, Iv (3 : Int32), Iv dm, Rv b_5, Rv b_18, Iv (1 : Int32)] [(.ref b_5), (.ref b_18), (.int (1 : Int32))])) tt_
        refine XS.iload X_89.here hEX rfl (hb hBY at_141) rfl ?_
        show Steps p.tables e below (T_89.setTop (mkF m 143 #[Iv p1, Iv p2, Iv p3, Lv q4, Zs, Iv p5, Iv cap, Iv (3 : Int32), Iv dm, Rv b_5, Rv b_18, Iv (1 : Int32)] [(.int p5), (.ref b_5), (.ref b_18), (.int (1 : Int32))])) tt_
        refine XS.iconst X_89.here hEX rfl (hb hBY at_143) ?_
        show Steps p.tables e below (T_89.setTop (mkF m 144 #[Iv p1, Iv p2, Iv p3, Lv q4, Zs, Iv p5, Iv cap, Iv (3 : Int32), Iv dm, Rv b_5, Rv b_18, Iv (1 : Int32)] [(.int (3 : Int32)), (.int p5), (.ref b_5), (.ref b_18), (.int (1 : Int32))])) tt_
        refine XS.iload X_89.here hEX rfl (hb hBY at_144) rfl ?_
        exact kt_
      refine Done.pre sg_94 ?_
      obtain ⟨_, _, ⟨T_95, L_95, k_95, n_95⟩, -, X_95, ⟨Lc_95, hQ_95, l_95, y_95, z_95⟩, st_95⟩ := Jvm.LawKit.callS X_89 hEX (y := (⟨"com/example/pointcell/pointcell/PointArraysIsFullPinLaw", "step", "(Lcom/example/pointcell/pointcell/PointArrays;[JIII)Z"⟩ : MethodName)) hOW (mvT hZW (hw _ (List.mem_of_getElem? (i := 37) rfl))) (mvT hZW (hw _ (List.mem_of_getElem? (i := 38) rfl))) (mvT hZW (hw _ (List.mem_of_getElem? (i := 39) rfl))) (mvT hZW (hw _ (List.mem_of_getElem? (i := 40) rfl))) (by decide) (backOf (W := 1) (rm_step l Z aZ hw [] b_18 b_5 p5 (3 : Int32) cap (2 : Int32) dm kb__29 kk__29 db__29 kd__29 ob__29 ko__29 vK__89 vD__89 vO__89 k_5 ([(.long q4), (.long (0 : Int64))].set (dm - (1 : Int32)).toNatClampNeg (.long q4)) T_89.heap n0 (Nat.le_trans Z0 K__90.1) hq_89_0 f_93 hq_89_2 hq_89_3 hq_89_4 hq_89_5 hq_89_6 f_91 hq_89_7 hq_89_8 hq_89_9 ge_b_18 (Nat.le_trans Z0 sz_kb__29) (Nat.le_trans Z0 sz_db__29) (Nat.le_trans Z0 sz_ob__29) ne_b_18_kb__29 ne_b_18_db__29 ne_b_18_ob__29 ne_b_5_kb__29 ne_b_5_db__29 ne_b_5_ob__29 ne_b_5_b_18 hq_29_13 hq_29_14 hq_29_15 hdd ⟨by decide, Int.lt_of_lt_of_le (by decide : ((2 : Int32)).toInt < ((3 : Int32)).toInt) hct.2, hcp.2⟩ (by assumption) (by assumption) (by assumption) (by decide)) hZW (hw _ (List.mem_of_getElem? (i := 40) rfl)) (hw _ (List.mem_of_getElem? (i := 39) rfl)) (by decide) (by decide)) (g := (mkF m 146 #[Iv p1, Iv p2, Iv p3, Lv q4, Zs, Iv p5, Iv cap, Iv (3 : Int32), Iv dm, Rv b_5, Rv b_18, Iv (1 : Int32)] [(.int cap), (.int (3 : Int32)), (.int p5), (.ref b_5), (.ref b_18), (.int (1 : Int32))])) rfl (by rw [hMX]; rfl) (argsL := [(.ref b_18), (.ref b_5), (.int p5), (.int (3 : Int32)), (.int cap)]) (rest := [(.int (1 : Int32))]) (lenOf pd__Lcom_example_pointcell_pointcell_PointArrays__JIII_Z_4 rfl) rfl (by show 2 * 0 + _ ≤ _; exact Nat.le_of_eq rfl) (hb hBY at_146) (fun _ _ => ⟨rfl, rfl, (by decide : 5 + 0 ≤ _), (by decide : 24 + 0 ≤ _)⟩)
      dsimp only [Pt.U, Pt.locs, Pt.cells, Pt.slots] at X_95 l_95 y_95 z_95 st_95 hQ_95
      subst l_95 y_95 z_95
      obtain ⟨vK__95, vD__95, vO__95, rfl, N_95q, K_95, hq_95_0, hq_95_1, hq_95_2, hq_95_3, hq_95_4, hq_95_5, hq_95_6, hq_95_7, hq_95_8, hq_95_9, hq_95_10, hq_95_11, hq_95_12⟩ := hQ_95
      have N_95 := Fr.app N_89 N_95q
      have K__96 : Keep h0 T_95.heap [] := K__90.trans K_95 (allS (Or.inr sz_b_18) (allS (Or.inr sz_kb__29) (allS (Or.inr sz_db__29) (allS (Or.inr sz_ob__29) all0))))
      have f_97 : Arv Z T_95.heap b_5 k_5 .long dm ([(.long q4), (.long (0 : Int64))].set (dm - (1 : Int32)).toNatClampNeg (.long q4)) (.long (0 : Int64)) := f_91.keep K_95 (ninS ne_b_5_b_18 (ninS ne_b_5_kb__29 (ninS ne_b_5_db__29 (ninS ne_b_5_ob__29 nin0))))
      have f_98 : Exa Z T_95.heap b_18 "com/example/pointcell/pointcell/PointArrays" := hq_89_0.keep K_95
      refine Done.pre (fun _ k_ => st_95 _ k_) ?_
      show Done _ _ _ _ _ _ _ (T_95.setTop (mkF m 149 #[Iv p1, Iv p2, Iv p3, Lv q4, Zs, Iv p5, Iv cap, Iv (3 : Int32), Iv dm, Rv b_5, Rv b_18, Iv (1 : Int32)] [(.int (1 : Int32)), (.int (1 : Int32))]))
      have f_99 : Fld Z T_95.heap b_18 "com/example/pointcell/pointcell/PointArrays" "size" "I" (.int (3 : Int32)) := by have q := hq_95_1; rw [show (2 : Int32) + (1 : Int32) = (3 : Int32) from by decide] at q; exact q
      have sg_100 : ∀ tt_, Steps p.tables e below (T_95.setTop (mkF m 175 #[Iv p1, Iv p2, Iv p3, Lv q4, Zs, Iv p5, Iv cap, Iv (3 : Int32), Iv dm, Rv b_5, Rv b_18, Iv (1 : Int32)] [])) tt_ → Steps p.tables e below (T_95.setTop (mkF m 149 #[Iv p1, Iv p2, Iv p3, Lv q4, Zs, Iv p5, Iv cap, Iv (3 : Int32), Iv dm, Rv b_5, Rv b_18, Iv (1 : Int32)] [(.int (1 : Int32)), (.int (1 : Int32))])) tt_ := by
        intro tt_ kt_
        refine XS.iand X_95.here hEX rfl (hb hBY at_149) rfl ?_
        show Steps p.tables e below (T_95.setTop (mkF m 150 #[Iv p1, Iv p2, Iv p3, Lv q4, Zs, Iv p5, Iv cap, Iv (3 : Int32), Iv dm, Rv b_5, Rv b_18, Iv (1 : Int32)] [(.int (1 : Int32))])) tt_
        refine XS.istore X_95.here hEX rfl (hb hBY at_150) rfl (l' := #[Iv p1, Iv p2, Iv p3, Lv q4, Zs, Iv p5, Iv cap, Iv (3 : Int32), Iv dm, Rv b_5, Rv b_18, Iv (1 : Int32)]) rfl ?_
        show Steps p.tables e below (T_95.setTop (mkF m 152 #[Iv p1, Iv p2, Iv p3, Lv q4, Zs, Iv p5, Iv cap, Iv (3 : Int32), Iv dm, Rv b_5, Rv b_18, Iv (1 : Int32)] [])) tt_
        refine XS.iload X_95.here hEX rfl (hb hBY at_152) rfl ?_
        show Steps p.tables e below (T_95.setTop (mkF m 154 #[Iv p1, Iv p2, Iv p3, Lv q4, Zs, Iv p5, Iv cap, Iv (3 : Int32), Iv dm, Rv b_5, Rv b_18, Iv (1 : Int32)] [(.int (3 : Int32))])) tt_
        refine XS.iconst X_95.here hEX rfl (hb hBY at_154) ?_
        show Steps p.tables e below (T_95.setTop (mkF m 155 #[Iv p1, Iv p2, Iv p3, Lv q4, Zs, Iv p5, Iv cap, Iv (3 : Int32), Iv dm, Rv b_5, Rv b_18, Iv (1 : Int32)] [(.int (4 : Int32)), (.int (3 : Int32))])) tt_
        refine XS.icmpYes X_95.here hEX rfl (pc0 := 155) (pc' := 175) rfl (hb hBY at_155) rfl (tlt (by decide : (3 : Int32) < (4 : Int32))).1 (by decide) (by decide) ?_
        exact kt_
      refine Done.pre sg_100 ?_
      exact jn_37 T_95 T_95.heap _ X_95 rfl N_95 K__96 ((3 : Int32)) hq_95_0 f_99 hq_95_3
    · skip
      show Done _ _ _ _ _ _ _ (T_34.setTop (mkF m 83 #[Iv p1, Iv p2, Iv p3, Lv q4, Zs, Iv p5, Iv cap, Iv (4 : Int32), Iv dm, Rv b_5, Rv b_18, Iv (1 : Int32)] []))
      have sg_101 : ∀ tt_, Steps p.tables e below (T_34.setTop (mkF m 100 #[Iv p1, Iv p2, Iv p3, Lv q4, Zs, Iv p5, Iv cap, Iv (4 : Int32), Iv dm, Rv b_5, Rv b_18, Iv (1 : Int32)] [(.int cap), (.int (1 : Int32)), (.int p5), (.ref b_5), (.ref b_18), (.int (1 : Int32))])) tt_ → Steps p.tables e below (T_34.setTop (mkF m 83 #[Iv p1, Iv p2, Iv p3, Lv q4, Zs, Iv p5, Iv cap, Iv (4 : Int32), Iv dm, Rv b_5, Rv b_18, Iv (1 : Int32)] [])) tt_ := by
        intro tt_ kt_
        refine XS.iload X_34.here hEX rfl (hb hBY at_83) rfl ?_
        show Steps p.tables e below (T_34.setTop (mkF m 85 #[Iv p1, Iv p2, Iv p3, Lv q4, Zs, Iv p5, Iv cap, Iv (4 : Int32), Iv dm, Rv b_5, Rv b_18, Iv (1 : Int32)] [(.int (4 : Int32))])) tt_
        refine XS.iconst X_34.here hEX rfl (hb hBY at_85) ?_
        show Steps p.tables e below (T_34.setTop (mkF m 86 #[Iv p1, Iv p2, Iv p3, Lv q4, Zs, Iv p5, Iv cap, Iv (4 : Int32), Iv dm, Rv b_5, Rv b_18, Iv (1 : Int32)] [(.int (1 : Int32)), (.int (4 : Int32))])) tt_
        refine XS.icmpNo X_34.here hEX rfl (hb hBY at_86) rfl (flt (by decide : ¬ ((4 : Int32) < (1 : Int32)))).1 ?_
        show Steps p.tables e below (T_34.setTop (mkF m 89 #[Iv p1, Iv p2, Iv p3, Lv q4, Zs, Iv p5, Iv cap, Iv (4 : Int32), Iv dm, Rv b_5, Rv b_18, Iv (1 : Int32)] [])) tt_
        refine XS.iload X_34.here hEX rfl (hb hBY at_89) rfl ?_
        show Steps p.tables e below (T_34.setTop (mkF m 91 #[Iv p1, Iv p2, Iv p3, Lv q4, Zs, Iv p5, Iv cap, Iv (4 : Int32), Iv dm, Rv b_5, Rv b_18, Iv (1 : Int32)] [(.int (1 : Int32))])) tt_
        refine XS.aload X_34.here hEX rfl (hb hBY at_91) rfl rfl ?_
        show Steps p.tables e below (T_34.setTop (mkF m 93 #[Iv p1, Iv p2, Iv p3, Lv q4, Zs, Iv p5, Iv cap, Iv (4 : Int32), Iv dm, Rv b_5, Rv b_18, Iv (1 : Int32)] [(.ref b_18), (.int (1 : Int32))])) tt_
        refine XS.aload X_34.here hEX rfl (hb hBY at_93) rfl rfl ?_
        show Steps p.tables e below (T_34.setTop (mkF m 95 #[Iv p1, Iv p2, Iv p3, Lv q4, Zs, Iv p5, Iv cap, Iv (4 : Int32), Iv dm, Rv b_5, Rv b_18, Iv (1 : Int32)] [(.ref b_5), (.ref b_18), (.int (1 : Int32))])) tt_
        refine XS.iload X_34.here hEX rfl (hb hBY at_95) rfl ?_
        show Steps p.tables e below (T_34.setTop (mkF m 97 #[Iv p1, Iv p2, Iv p3, Lv q4, Zs, Iv p5, Iv cap, Iv (4 : Int32), Iv dm, Rv b_5, Rv b_18, Iv (1 : Int32)] [(.int p5), (.ref b_5), (.ref b_18), (.int (1 : Int32))])) tt_
        refine XS.iconst X_34.here hEX rfl (hb hBY at_97) ?_
        show Steps p.tables e below (T_34.setTop (mkF m 98 #[Iv p1, Iv p2, Iv p3, Lv q4, Zs, Iv p5, Iv cap, Iv (4 : Int32), Iv dm, Rv b_5, Rv b_18, Iv (1 : Int32)] [(.int (1 : Int32)), (.int p5), (.ref b_5), (.ref b_18), (.int (1 : Int32))])) tt_
        refine XS.iload X_34.here hEX rfl (hb hBY at_98) rfl ?_
        exact kt_
      refine Done.pre sg_101 ?_
      obtain ⟨_, _, ⟨T_102, L_102, k_102, n_102⟩, -, X_102, ⟨Lc_102, hQ_102, l_102, y_102, z_102⟩, st_102⟩ := Jvm.LawKit.callS X_34 hEX (y := (⟨"com/example/pointcell/pointcell/PointArraysIsFullPinLaw", "step", "(Lcom/example/pointcell/pointcell/PointArrays;[JIII)Z"⟩ : MethodName)) hOW (mvT hZW (hw _ (List.mem_of_getElem? (i := 37) rfl))) (mvT hZW (hw _ (List.mem_of_getElem? (i := 38) rfl))) (mvT hZW (hw _ (List.mem_of_getElem? (i := 39) rfl))) (mvT hZW (hw _ (List.mem_of_getElem? (i := 40) rfl))) (by decide) (backOf (W := 1) (rm_step l Z aZ hw [] b_18 b_5 p5 (1 : Int32) cap (0 : Int32) dm kb__29 kk__29 db__29 kd__29 ob__29 ko__29 vK__29 vD__29 vO__29 k_5 ([(.long q4), (.long (0 : Int64))].set (dm - (1 : Int32)).toNatClampNeg (.long q4)) T_29.heap n0 (Nat.le_trans Z0 K__30.1) hq_29_0 hq_29_1 hq_29_2 hq_29_3 hq_29_4 hq_29_5 hq_29_6 f_31 hq_29_7 hq_29_8 hq_29_9 ge_b_18 (Nat.le_trans Z0 sz_kb__29) (Nat.le_trans Z0 sz_db__29) (Nat.le_trans Z0 sz_ob__29) ne_b_18_kb__29 ne_b_18_db__29 ne_b_18_ob__29 ne_b_5_kb__29 ne_b_5_db__29 ne_b_5_ob__29 ne_b_5_b_18 hq_29_13 hq_29_14 hq_29_15 hdd ⟨by decide, Int.lt_of_lt_of_le (by decide : ((0 : Int32)).toInt < ((4 : Int32)).toInt) hct.2, hcp.2⟩ (by assumption) (by assumption) (by assumption) (by decide)) hZW (hw _ (List.mem_of_getElem? (i := 40) rfl)) (hw _ (List.mem_of_getElem? (i := 39) rfl)) (by decide) (by decide)) (g := (mkF m 100 #[Iv p1, Iv p2, Iv p3, Lv q4, Zs, Iv p5, Iv cap, Iv (4 : Int32), Iv dm, Rv b_5, Rv b_18, Iv (1 : Int32)] [(.int cap), (.int (1 : Int32)), (.int p5), (.ref b_5), (.ref b_18), (.int (1 : Int32))])) rfl (by rw [hMX]; rfl) (argsL := [(.ref b_18), (.ref b_5), (.int p5), (.int (1 : Int32)), (.int cap)]) (rest := [(.int (1 : Int32))]) (lenOf pd__Lcom_example_pointcell_pointcell_PointArrays__JIII_Z_4 rfl) rfl (by show 2 * 0 + _ ≤ _; exact Nat.le_of_eq rfl) (hb hBY at_100) (fun _ _ => ⟨rfl, e_34, (by decide : 5 + 0 ≤ _), (by decide : 24 + 0 ≤ _)⟩)
      dsimp only [Pt.U, Pt.locs, Pt.cells, Pt.slots] at X_102 l_102 y_102 z_102 st_102 hQ_102
      subst l_102 y_102 z_102
      obtain ⟨vK__102, vD__102, vO__102, rfl, N_102q, K_102, hq_102_0, hq_102_1, hq_102_2, hq_102_3, hq_102_4, hq_102_5, hq_102_6, hq_102_7, hq_102_8, hq_102_9, hq_102_10, hq_102_11, hq_102_12⟩ := hQ_102
      have N_102 := Fr.app N_34 N_102q
      have K__103 : Keep h0 T_102.heap [] := K__30.trans K_102 (allS (Or.inr sz_b_18) (allS (Or.inr sz_kb__29) (allS (Or.inr sz_db__29) (allS (Or.inr sz_ob__29) all0))))
      have f_104 : Arv Z T_102.heap b_5 k_5 .long dm ([(.long q4), (.long (0 : Int64))].set (dm - (1 : Int32)).toNatClampNeg (.long q4)) (.long (0 : Int64)) := f_31.keep K_102 (ninS ne_b_5_b_18 (ninS ne_b_5_kb__29 (ninS ne_b_5_db__29 (ninS ne_b_5_ob__29 nin0))))
      have f_105 : Exa Z T_102.heap b_18 "com/example/pointcell/pointcell/PointArrays" := hq_29_0.keep K_102
      refine Done.pre (fun _ k_ => st_102 _ k_) ?_
      show Done _ _ _ _ _ _ _ (T_102.setTop (mkF m 103 #[Iv p1, Iv p2, Iv p3, Lv q4, Zs, Iv p5, Iv cap, Iv (4 : Int32), Iv dm, Rv b_5, Rv b_18, Iv (1 : Int32)] [(.int (1 : Int32)), (.int (1 : Int32))]))
      have f_106 : Fld Z T_102.heap b_18 "com/example/pointcell/pointcell/PointArrays" "size" "I" (.int (1 : Int32)) := by have q := hq_102_1; rw [show (0 : Int32) + (1 : Int32) = (1 : Int32) from by decide] at q; exact q
      have sg_107 : ∀ tt_, Steps p.tables e below (T_102.setTop (mkF m 123 #[Iv p1, Iv p2, Iv p3, Lv q4, Zs, Iv p5, Iv cap, Iv (4 : Int32), Iv dm, Rv b_5, Rv b_18, Iv (1 : Int32)] [(.int cap), (.int (2 : Int32)), (.int p5), (.ref b_5), (.ref b_18), (.int (1 : Int32))])) tt_ → Steps p.tables e below (T_102.setTop (mkF m 103 #[Iv p1, Iv p2, Iv p3, Lv q4, Zs, Iv p5, Iv cap, Iv (4 : Int32), Iv dm, Rv b_5, Rv b_18, Iv (1 : Int32)] [(.int (1 : Int32)), (.int (1 : Int32))])) tt_ := by
        intro tt_ kt_
        refine XS.iand X_102.here hEX rfl (hb hBY at_103) rfl ?_
        show Steps p.tables e below (T_102.setTop (mkF m 104 #[Iv p1, Iv p2, Iv p3, Lv q4, Zs, Iv p5, Iv cap, Iv (4 : Int32), Iv dm, Rv b_5, Rv b_18, Iv (1 : Int32)] [(.int (1 : Int32))])) tt_
        refine XS.istore X_102.here hEX rfl (hb hBY at_104) rfl (l' := #[Iv p1, Iv p2, Iv p3, Lv q4, Zs, Iv p5, Iv cap, Iv (4 : Int32), Iv dm, Rv b_5, Rv b_18, Iv (1 : Int32)]) rfl ?_
        show Steps p.tables e below (T_102.setTop (mkF m 106 #[Iv p1, Iv p2, Iv p3, Lv q4, Zs, Iv p5, Iv cap, Iv (4 : Int32), Iv dm, Rv b_5, Rv b_18, Iv (1 : Int32)] [])) tt_
        refine XS.iload X_102.here hEX rfl (hb hBY at_106) rfl ?_
        show Steps p.tables e below (T_102.setTop (mkF m 108 #[Iv p1, Iv p2, Iv p3, Lv q4, Zs, Iv p5, Iv cap, Iv (4 : Int32), Iv dm, Rv b_5, Rv b_18, Iv (1 : Int32)] [(.int (4 : Int32))])) tt_
        refine XS.iconst X_102.here hEX rfl (hb hBY at_108) ?_
        show Steps p.tables e below (T_102.setTop (mkF m 109 #[Iv p1, Iv p2, Iv p3, Lv q4, Zs, Iv p5, Iv cap, Iv (4 : Int32), Iv dm, Rv b_5, Rv b_18, Iv (1 : Int32)] [(.int (2 : Int32)), (.int (4 : Int32))])) tt_
        refine XS.icmpNo X_102.here hEX rfl (hb hBY at_109) rfl (flt (by decide : ¬ ((4 : Int32) < (2 : Int32)))).1 ?_
        show Steps p.tables e below (T_102.setTop (mkF m 112 #[Iv p1, Iv p2, Iv p3, Lv q4, Zs, Iv p5, Iv cap, Iv (4 : Int32), Iv dm, Rv b_5, Rv b_18, Iv (1 : Int32)] [])) tt_
        refine XS.iload X_102.here hEX rfl (hb hBY at_112) rfl ?_
        show Steps p.tables e below (T_102.setTop (mkF m 114 #[Iv p1, Iv p2, Iv p3, Lv q4, Zs, Iv p5, Iv cap, Iv (4 : Int32), Iv dm, Rv b_5, Rv b_18, Iv (1 : Int32)] [(.int (1 : Int32))])) tt_
        refine XS.aload X_102.here hEX rfl (hb hBY at_114) rfl rfl ?_
        show Steps p.tables e below (T_102.setTop (mkF m 116 #[Iv p1, Iv p2, Iv p3, Lv q4, Zs, Iv p5, Iv cap, Iv (4 : Int32), Iv dm, Rv b_5, Rv b_18, Iv (1 : Int32)] [(.ref b_18), (.int (1 : Int32))])) tt_
        refine XS.aload X_102.here hEX rfl (hb hBY at_116) rfl rfl ?_
        show Steps p.tables e below (T_102.setTop (mkF m 118 #[Iv p1, Iv p2, Iv p3, Lv q4, Zs, Iv p5, Iv cap, Iv (4 : Int32), Iv dm, Rv b_5, Rv b_18, Iv (1 : Int32)] [(.ref b_5), (.ref b_18), (.int (1 : Int32))])) tt_
        refine XS.iload X_102.here hEX rfl (hb hBY at_118) rfl ?_
        show Steps p.tables e below (T_102.setTop (mkF m 120 #[Iv p1, Iv p2, Iv p3, Lv q4, Zs, Iv p5, Iv cap, Iv (4 : Int32), Iv dm, Rv b_5, Rv b_18, Iv (1 : Int32)] [(.int p5), (.ref b_5), (.ref b_18), (.int (1 : Int32))])) tt_
        refine XS.iconst X_102.here hEX rfl (hb hBY at_120) ?_
        show Steps p.tables e below (T_102.setTop (mkF m 121 #[Iv p1, Iv p2, Iv p3, Lv q4, Zs, Iv p5, Iv cap, Iv (4 : Int32), Iv dm, Rv b_5, Rv b_18, Iv (1 : Int32)] [(.int (2 : Int32)), (.int p5), (.ref b_5), (.ref b_18), (.int (1 : Int32))])) tt_
        refine XS.iload X_102.here hEX rfl (hb hBY at_121) rfl ?_
        exact kt_
      refine Done.pre sg_107 ?_
      obtain ⟨_, _, ⟨T_108, L_108, k_108, n_108⟩, -, X_108, ⟨Lc_108, hQ_108, l_108, y_108, z_108⟩, st_108⟩ := Jvm.LawKit.callS X_102 hEX (y := (⟨"com/example/pointcell/pointcell/PointArraysIsFullPinLaw", "step", "(Lcom/example/pointcell/pointcell/PointArrays;[JIII)Z"⟩ : MethodName)) hOW (mvT hZW (hw _ (List.mem_of_getElem? (i := 37) rfl))) (mvT hZW (hw _ (List.mem_of_getElem? (i := 38) rfl))) (mvT hZW (hw _ (List.mem_of_getElem? (i := 39) rfl))) (mvT hZW (hw _ (List.mem_of_getElem? (i := 40) rfl))) (by decide) (backOf (W := 1) (rm_step l Z aZ hw [] b_18 b_5 p5 (2 : Int32) cap (1 : Int32) dm kb__29 kk__29 db__29 kd__29 ob__29 ko__29 vK__102 vD__102 vO__102 k_5 ([(.long q4), (.long (0 : Int64))].set (dm - (1 : Int32)).toNatClampNeg (.long q4)) T_102.heap n0 (Nat.le_trans Z0 K__103.1) hq_102_0 f_106 hq_102_2 hq_102_3 hq_102_4 hq_102_5 hq_102_6 f_104 hq_102_7 hq_102_8 hq_102_9 ge_b_18 (Nat.le_trans Z0 sz_kb__29) (Nat.le_trans Z0 sz_db__29) (Nat.le_trans Z0 sz_ob__29) ne_b_18_kb__29 ne_b_18_db__29 ne_b_18_ob__29 ne_b_5_kb__29 ne_b_5_db__29 ne_b_5_ob__29 ne_b_5_b_18 hq_29_13 hq_29_14 hq_29_15 hdd ⟨by decide, Int.lt_of_lt_of_le (by decide : ((1 : Int32)).toInt < ((4 : Int32)).toInt) hct.2, hcp.2⟩ (by assumption) (by assumption) (by assumption) (by decide)) hZW (hw _ (List.mem_of_getElem? (i := 40) rfl)) (hw _ (List.mem_of_getElem? (i := 39) rfl)) (by decide) (by decide)) (g := (mkF m 123 #[Iv p1, Iv p2, Iv p3, Lv q4, Zs, Iv p5, Iv cap, Iv (4 : Int32), Iv dm, Rv b_5, Rv b_18, Iv (1 : Int32)] [(.int cap), (.int (2 : Int32)), (.int p5), (.ref b_5), (.ref b_18), (.int (1 : Int32))])) rfl (by rw [hMX]; rfl) (argsL := [(.ref b_18), (.ref b_5), (.int p5), (.int (2 : Int32)), (.int cap)]) (rest := [(.int (1 : Int32))]) (lenOf pd__Lcom_example_pointcell_pointcell_PointArrays__JIII_Z_4 rfl) rfl (by show 2 * 0 + _ ≤ _; exact Nat.le_of_eq rfl) (hb hBY at_123) (fun _ _ => ⟨rfl, rfl, (by decide : 5 + 0 ≤ _), (by decide : 24 + 0 ≤ _)⟩)
      dsimp only [Pt.U, Pt.locs, Pt.cells, Pt.slots] at X_108 l_108 y_108 z_108 st_108 hQ_108
      subst l_108 y_108 z_108
      obtain ⟨vK__108, vD__108, vO__108, rfl, N_108q, K_108, hq_108_0, hq_108_1, hq_108_2, hq_108_3, hq_108_4, hq_108_5, hq_108_6, hq_108_7, hq_108_8, hq_108_9, hq_108_10, hq_108_11, hq_108_12⟩ := hQ_108
      have N_108 := Fr.app N_102 N_108q
      have K__109 : Keep h0 T_108.heap [] := K__103.trans K_108 (allS (Or.inr sz_b_18) (allS (Or.inr sz_kb__29) (allS (Or.inr sz_db__29) (allS (Or.inr sz_ob__29) all0))))
      have f_110 : Arv Z T_108.heap b_5 k_5 .long dm ([(.long q4), (.long (0 : Int64))].set (dm - (1 : Int32)).toNatClampNeg (.long q4)) (.long (0 : Int64)) := f_104.keep K_108 (ninS ne_b_5_b_18 (ninS ne_b_5_kb__29 (ninS ne_b_5_db__29 (ninS ne_b_5_ob__29 nin0))))
      have f_111 : Exa Z T_108.heap b_18 "com/example/pointcell/pointcell/PointArrays" := hq_102_0.keep K_108
      refine Done.pre (fun _ k_ => st_108 _ k_) ?_
      show Done _ _ _ _ _ _ _ (T_108.setTop (mkF m 126 #[Iv p1, Iv p2, Iv p3, Lv q4, Zs, Iv p5, Iv cap, Iv (4 : Int32), Iv dm, Rv b_5, Rv b_18, Iv (1 : Int32)] [(.int (1 : Int32)), (.int (1 : Int32))]))
      have f_112 : Fld Z T_108.heap b_18 "com/example/pointcell/pointcell/PointArrays" "size" "I" (.int (2 : Int32)) := by have q := hq_108_1; rw [show (1 : Int32) + (1 : Int32) = (2 : Int32) from by decide] at q; exact q
      have sg_113 : ∀ tt_, Steps p.tables e below (T_108.setTop (mkF m 146 #[Iv p1, Iv p2, Iv p3, Lv q4, Zs, Iv p5, Iv cap, Iv (4 : Int32), Iv dm, Rv b_5, Rv b_18, Iv (1 : Int32)] [(.int cap), (.int (3 : Int32)), (.int p5), (.ref b_5), (.ref b_18), (.int (1 : Int32))])) tt_ → Steps p.tables e below (T_108.setTop (mkF m 126 #[Iv p1, Iv p2, Iv p3, Lv q4, Zs, Iv p5, Iv cap, Iv (4 : Int32), Iv dm, Rv b_5, Rv b_18, Iv (1 : Int32)] [(.int (1 : Int32)), (.int (1 : Int32))])) tt_ := by
        intro tt_ kt_
        refine XS.iand X_108.here hEX rfl (hb hBY at_126) rfl ?_
        show Steps p.tables e below (T_108.setTop (mkF m 127 #[Iv p1, Iv p2, Iv p3, Lv q4, Zs, Iv p5, Iv cap, Iv (4 : Int32), Iv dm, Rv b_5, Rv b_18, Iv (1 : Int32)] [(.int (1 : Int32))])) tt_
        refine XS.istore X_108.here hEX rfl (hb hBY at_127) rfl (l' := #[Iv p1, Iv p2, Iv p3, Lv q4, Zs, Iv p5, Iv cap, Iv (4 : Int32), Iv dm, Rv b_5, Rv b_18, Iv (1 : Int32)]) rfl ?_
        show Steps p.tables e below (T_108.setTop (mkF m 129 #[Iv p1, Iv p2, Iv p3, Lv q4, Zs, Iv p5, Iv cap, Iv (4 : Int32), Iv dm, Rv b_5, Rv b_18, Iv (1 : Int32)] [])) tt_
        refine XS.iload X_108.here hEX rfl (hb hBY at_129) rfl ?_
        show Steps p.tables e below (T_108.setTop (mkF m 131 #[Iv p1, Iv p2, Iv p3, Lv q4, Zs, Iv p5, Iv cap, Iv (4 : Int32), Iv dm, Rv b_5, Rv b_18, Iv (1 : Int32)] [(.int (4 : Int32))])) tt_
        refine XS.iconst X_108.here hEX rfl (hb hBY at_131) ?_
        show Steps p.tables e below (T_108.setTop (mkF m 132 #[Iv p1, Iv p2, Iv p3, Lv q4, Zs, Iv p5, Iv cap, Iv (4 : Int32), Iv dm, Rv b_5, Rv b_18, Iv (1 : Int32)] [(.int (3 : Int32)), (.int (4 : Int32))])) tt_
        refine XS.icmpNo X_108.here hEX rfl (hb hBY at_132) rfl (flt (by decide : ¬ ((4 : Int32) < (3 : Int32)))).1 ?_
        show Steps p.tables e below (T_108.setTop (mkF m 135 #[Iv p1, Iv p2, Iv p3, Lv q4, Zs, Iv p5, Iv cap, Iv (4 : Int32), Iv dm, Rv b_5, Rv b_18, Iv (1 : Int32)] [])) tt_
        refine XS.iload X_108.here hEX rfl (hb hBY at_135) rfl ?_
        show Steps p.tables e below (T_108.setTop (mkF m 137 #[Iv p1, Iv p2, Iv p3, Lv q4, Zs, Iv p5, Iv cap, Iv (4 : Int32), Iv dm, Rv b_5, Rv b_18, Iv (1 : Int32)] [(.int (1 : Int32))])) tt_
        refine XS.aload X_108.here hEX rfl (hb hBY at_137) rfl rfl ?_
        show Steps p.tables e below (T_108.setTop (mkF m 139 #[Iv p1, Iv p2, Iv p3, Lv q4, Zs, Iv p5, Iv cap, Iv (4 : Int32), Iv dm, Rv b_5, Rv b_18, Iv (1 : Int32)] [(.ref b_18), (.int (1 : Int32))])) tt_
        refine XS.aload X_108.here hEX rfl (hb hBY at_139) rfl rfl ?_
        show Steps p.tables e below (T_108.setTop (mkF m 141 #[Iv p1, Iv p2, Iv p3, Lv q4, Zs, Iv p5, Iv cap, Iv (4 : Int32), Iv dm, Rv b_5, Rv b_18, Iv (1 : Int32)] [(.ref b_5), (.ref b_18), (.int (1 : Int32))])) tt_
        refine XS.iload X_108.here hEX rfl (hb hBY at_141) rfl ?_
        show Steps p.tables e below (T_108.setTop (mkF m 143 #[Iv p1, Iv p2, Iv p3, Lv q4, Zs, Iv p5, Iv cap, Iv (4 : Int32), Iv dm, Rv b_5, Rv b_18, Iv (1 : Int32)] [(.int p5), (.ref b_5), (.ref b_18), (.int (1 : Int32))])) tt_
        refine XS.iconst X_108.here hEX rfl (hb hBY at_143) ?_
        show Steps p.tables e below (T_108.setTop (mkF m 144 #[Iv p1, Iv p2, Iv p3, Lv q4, Zs, Iv p5, Iv cap, Iv (4 : Int32), Iv dm, Rv b_5, Rv b_18, Iv (1 : Int32)] [(.int (3 : Int32)), (.int p5), (.ref b_5), (.ref b_18), (.int (1 : Int32))])) tt_
        refine XS.iload X_108.here hEX rfl (hb hBY at_144) rfl ?_
        exact kt_
      refine Done.pre sg_113 ?_
      obtain ⟨_, _, ⟨T_114, L_114, k_114, n_114⟩, -, X_114, ⟨Lc_114, hQ_114, l_114, y_114, z_114⟩, st_114⟩ := Jvm.LawKit.callS X_108 hEX (y := (⟨"com/example/pointcell/pointcell/PointArraysIsFullPinLaw", "step", "(Lcom/example/pointcell/pointcell/PointArrays;[JIII)Z"⟩ : MethodName)) hOW (mvT hZW (hw _ (List.mem_of_getElem? (i := 37) rfl))) (mvT hZW (hw _ (List.mem_of_getElem? (i := 38) rfl))) (mvT hZW (hw _ (List.mem_of_getElem? (i := 39) rfl))) (mvT hZW (hw _ (List.mem_of_getElem? (i := 40) rfl))) (by decide) (backOf (W := 1) (rm_step l Z aZ hw [] b_18 b_5 p5 (3 : Int32) cap (2 : Int32) dm kb__29 kk__29 db__29 kd__29 ob__29 ko__29 vK__108 vD__108 vO__108 k_5 ([(.long q4), (.long (0 : Int64))].set (dm - (1 : Int32)).toNatClampNeg (.long q4)) T_108.heap n0 (Nat.le_trans Z0 K__109.1) hq_108_0 f_112 hq_108_2 hq_108_3 hq_108_4 hq_108_5 hq_108_6 f_110 hq_108_7 hq_108_8 hq_108_9 ge_b_18 (Nat.le_trans Z0 sz_kb__29) (Nat.le_trans Z0 sz_db__29) (Nat.le_trans Z0 sz_ob__29) ne_b_18_kb__29 ne_b_18_db__29 ne_b_18_ob__29 ne_b_5_kb__29 ne_b_5_db__29 ne_b_5_ob__29 ne_b_5_b_18 hq_29_13 hq_29_14 hq_29_15 hdd ⟨by decide, Int.lt_of_lt_of_le (by decide : ((2 : Int32)).toInt < ((4 : Int32)).toInt) hct.2, hcp.2⟩ (by assumption) (by assumption) (by assumption) (by decide)) hZW (hw _ (List.mem_of_getElem? (i := 40) rfl)) (hw _ (List.mem_of_getElem? (i := 39) rfl)) (by decide) (by decide)) (g := (mkF m 146 #[Iv p1, Iv p2, Iv p3, Lv q4, Zs, Iv p5, Iv cap, Iv (4 : Int32), Iv dm, Rv b_5, Rv b_18, Iv (1 : Int32)] [(.int cap), (.int (3 : Int32)), (.int p5), (.ref b_5), (.ref b_18), (.int (1 : Int32))])) rfl (by rw [hMX]; rfl) (argsL := [(.ref b_18), (.ref b_5), (.int p5), (.int (3 : Int32)), (.int cap)]) (rest := [(.int (1 : Int32))]) (lenOf pd__Lcom_example_pointcell_pointcell_PointArrays__JIII_Z_4 rfl) rfl (by show 2 * 0 + _ ≤ _; exact Nat.le_of_eq rfl) (hb hBY at_146) (fun _ _ => ⟨rfl, rfl, (by decide : 5 + 0 ≤ _), (by decide : 24 + 0 ≤ _)⟩)
      dsimp only [Pt.U, Pt.locs, Pt.cells, Pt.slots] at X_114 l_114 y_114 z_114 st_114 hQ_114
      subst l_114 y_114 z_114
      obtain ⟨vK__114, vD__114, vO__114, rfl, N_114q, K_114, hq_114_0, hq_114_1, hq_114_2, hq_114_3, hq_114_4, hq_114_5, hq_114_6, hq_114_7, hq_114_8, hq_114_9, hq_114_10, hq_114_11, hq_114_12⟩ := hQ_114
      have N_114 := Fr.app N_108 N_114q
      have K__115 : Keep h0 T_114.heap [] := K__109.trans K_114 (allS (Or.inr sz_b_18) (allS (Or.inr sz_kb__29) (allS (Or.inr sz_db__29) (allS (Or.inr sz_ob__29) all0))))
      have f_116 : Arv Z T_114.heap b_5 k_5 .long dm ([(.long q4), (.long (0 : Int64))].set (dm - (1 : Int32)).toNatClampNeg (.long q4)) (.long (0 : Int64)) := f_110.keep K_114 (ninS ne_b_5_b_18 (ninS ne_b_5_kb__29 (ninS ne_b_5_db__29 (ninS ne_b_5_ob__29 nin0))))
      have f_117 : Exa Z T_114.heap b_18 "com/example/pointcell/pointcell/PointArrays" := hq_108_0.keep K_114
      refine Done.pre (fun _ k_ => st_114 _ k_) ?_
      show Done _ _ _ _ _ _ _ (T_114.setTop (mkF m 149 #[Iv p1, Iv p2, Iv p3, Lv q4, Zs, Iv p5, Iv cap, Iv (4 : Int32), Iv dm, Rv b_5, Rv b_18, Iv (1 : Int32)] [(.int (1 : Int32)), (.int (1 : Int32))]))
      have f_118 : Fld Z T_114.heap b_18 "com/example/pointcell/pointcell/PointArrays" "size" "I" (.int (3 : Int32)) := by have q := hq_114_1; rw [show (2 : Int32) + (1 : Int32) = (3 : Int32) from by decide] at q; exact q
      have sg_119 : ∀ tt_, Steps p.tables e below (T_114.setTop (mkF m 169 #[Iv p1, Iv p2, Iv p3, Lv q4, Zs, Iv p5, Iv cap, Iv (4 : Int32), Iv dm, Rv b_5, Rv b_18, Iv (1 : Int32)] [(.int cap), (.int (4 : Int32)), (.int p5), (.ref b_5), (.ref b_18), (.int (1 : Int32))])) tt_ → Steps p.tables e below (T_114.setTop (mkF m 149 #[Iv p1, Iv p2, Iv p3, Lv q4, Zs, Iv p5, Iv cap, Iv (4 : Int32), Iv dm, Rv b_5, Rv b_18, Iv (1 : Int32)] [(.int (1 : Int32)), (.int (1 : Int32))])) tt_ := by
        intro tt_ kt_
        refine XS.iand X_114.here hEX rfl (hb hBY at_149) rfl ?_
        show Steps p.tables e below (T_114.setTop (mkF m 150 #[Iv p1, Iv p2, Iv p3, Lv q4, Zs, Iv p5, Iv cap, Iv (4 : Int32), Iv dm, Rv b_5, Rv b_18, Iv (1 : Int32)] [(.int (1 : Int32))])) tt_
        refine XS.istore X_114.here hEX rfl (hb hBY at_150) rfl (l' := #[Iv p1, Iv p2, Iv p3, Lv q4, Zs, Iv p5, Iv cap, Iv (4 : Int32), Iv dm, Rv b_5, Rv b_18, Iv (1 : Int32)]) rfl ?_
        show Steps p.tables e below (T_114.setTop (mkF m 152 #[Iv p1, Iv p2, Iv p3, Lv q4, Zs, Iv p5, Iv cap, Iv (4 : Int32), Iv dm, Rv b_5, Rv b_18, Iv (1 : Int32)] [])) tt_
        refine XS.iload X_114.here hEX rfl (hb hBY at_152) rfl ?_
        show Steps p.tables e below (T_114.setTop (mkF m 154 #[Iv p1, Iv p2, Iv p3, Lv q4, Zs, Iv p5, Iv cap, Iv (4 : Int32), Iv dm, Rv b_5, Rv b_18, Iv (1 : Int32)] [(.int (4 : Int32))])) tt_
        refine XS.iconst X_114.here hEX rfl (hb hBY at_154) ?_
        show Steps p.tables e below (T_114.setTop (mkF m 155 #[Iv p1, Iv p2, Iv p3, Lv q4, Zs, Iv p5, Iv cap, Iv (4 : Int32), Iv dm, Rv b_5, Rv b_18, Iv (1 : Int32)] [(.int (4 : Int32)), (.int (4 : Int32))])) tt_
        refine XS.icmpNo X_114.here hEX rfl (hb hBY at_155) rfl (flt (by decide : ¬ ((4 : Int32) < (4 : Int32)))).1 ?_
        show Steps p.tables e below (T_114.setTop (mkF m 158 #[Iv p1, Iv p2, Iv p3, Lv q4, Zs, Iv p5, Iv cap, Iv (4 : Int32), Iv dm, Rv b_5, Rv b_18, Iv (1 : Int32)] [])) tt_
        refine XS.iload X_114.here hEX rfl (hb hBY at_158) rfl ?_
        show Steps p.tables e below (T_114.setTop (mkF m 160 #[Iv p1, Iv p2, Iv p3, Lv q4, Zs, Iv p5, Iv cap, Iv (4 : Int32), Iv dm, Rv b_5, Rv b_18, Iv (1 : Int32)] [(.int (1 : Int32))])) tt_
        refine XS.aload X_114.here hEX rfl (hb hBY at_160) rfl rfl ?_
        show Steps p.tables e below (T_114.setTop (mkF m 162 #[Iv p1, Iv p2, Iv p3, Lv q4, Zs, Iv p5, Iv cap, Iv (4 : Int32), Iv dm, Rv b_5, Rv b_18, Iv (1 : Int32)] [(.ref b_18), (.int (1 : Int32))])) tt_
        refine XS.aload X_114.here hEX rfl (hb hBY at_162) rfl rfl ?_
        show Steps p.tables e below (T_114.setTop (mkF m 164 #[Iv p1, Iv p2, Iv p3, Lv q4, Zs, Iv p5, Iv cap, Iv (4 : Int32), Iv dm, Rv b_5, Rv b_18, Iv (1 : Int32)] [(.ref b_5), (.ref b_18), (.int (1 : Int32))])) tt_
        refine XS.iload X_114.here hEX rfl (hb hBY at_164) rfl ?_
        show Steps p.tables e below (T_114.setTop (mkF m 166 #[Iv p1, Iv p2, Iv p3, Lv q4, Zs, Iv p5, Iv cap, Iv (4 : Int32), Iv dm, Rv b_5, Rv b_18, Iv (1 : Int32)] [(.int p5), (.ref b_5), (.ref b_18), (.int (1 : Int32))])) tt_
        refine XS.iconst X_114.here hEX rfl (hb hBY at_166) ?_
        show Steps p.tables e below (T_114.setTop (mkF m 167 #[Iv p1, Iv p2, Iv p3, Lv q4, Zs, Iv p5, Iv cap, Iv (4 : Int32), Iv dm, Rv b_5, Rv b_18, Iv (1 : Int32)] [(.int (4 : Int32)), (.int p5), (.ref b_5), (.ref b_18), (.int (1 : Int32))])) tt_
        refine XS.iload X_114.here hEX rfl (hb hBY at_167) rfl ?_
        exact kt_
      refine Done.pre sg_119 ?_
      obtain ⟨_, _, ⟨T_120, L_120, k_120, n_120⟩, -, X_120, ⟨Lc_120, hQ_120, l_120, y_120, z_120⟩, st_120⟩ := Jvm.LawKit.callS X_114 hEX (y := (⟨"com/example/pointcell/pointcell/PointArraysIsFullPinLaw", "step", "(Lcom/example/pointcell/pointcell/PointArrays;[JIII)Z"⟩ : MethodName)) hOW (mvT hZW (hw _ (List.mem_of_getElem? (i := 37) rfl))) (mvT hZW (hw _ (List.mem_of_getElem? (i := 38) rfl))) (mvT hZW (hw _ (List.mem_of_getElem? (i := 39) rfl))) (mvT hZW (hw _ (List.mem_of_getElem? (i := 40) rfl))) (by decide) (backOf (W := 1) (rm_step l Z aZ hw [] b_18 b_5 p5 (4 : Int32) cap (3 : Int32) dm kb__29 kk__29 db__29 kd__29 ob__29 ko__29 vK__114 vD__114 vO__114 k_5 ([(.long q4), (.long (0 : Int64))].set (dm - (1 : Int32)).toNatClampNeg (.long q4)) T_114.heap n0 (Nat.le_trans Z0 K__115.1) hq_114_0 f_118 hq_114_2 hq_114_3 hq_114_4 hq_114_5 hq_114_6 f_116 hq_114_7 hq_114_8 hq_114_9 ge_b_18 (Nat.le_trans Z0 sz_kb__29) (Nat.le_trans Z0 sz_db__29) (Nat.le_trans Z0 sz_ob__29) ne_b_18_kb__29 ne_b_18_db__29 ne_b_18_ob__29 ne_b_5_kb__29 ne_b_5_db__29 ne_b_5_ob__29 ne_b_5_b_18 hq_29_13 hq_29_14 hq_29_15 hdd ⟨by decide, Int.lt_of_lt_of_le (by decide : ((3 : Int32)).toInt < ((4 : Int32)).toInt) hct.2, hcp.2⟩ (by assumption) (by assumption) (by assumption) (by decide)) hZW (hw _ (List.mem_of_getElem? (i := 40) rfl)) (hw _ (List.mem_of_getElem? (i := 39) rfl)) (by decide) (by decide)) (g := (mkF m 169 #[Iv p1, Iv p2, Iv p3, Lv q4, Zs, Iv p5, Iv cap, Iv (4 : Int32), Iv dm, Rv b_5, Rv b_18, Iv (1 : Int32)] [(.int cap), (.int (4 : Int32)), (.int p5), (.ref b_5), (.ref b_18), (.int (1 : Int32))])) rfl (by rw [hMX]; rfl) (argsL := [(.ref b_18), (.ref b_5), (.int p5), (.int (4 : Int32)), (.int cap)]) (rest := [(.int (1 : Int32))]) (lenOf pd__Lcom_example_pointcell_pointcell_PointArrays__JIII_Z_4 rfl) rfl (by show 2 * 0 + _ ≤ _; exact Nat.le_of_eq rfl) (hb hBY at_169) (fun _ _ => ⟨rfl, rfl, (by decide : 5 + 0 ≤ _), (by decide : 24 + 0 ≤ _)⟩)
      dsimp only [Pt.U, Pt.locs, Pt.cells, Pt.slots] at X_120 l_120 y_120 z_120 st_120 hQ_120
      subst l_120 y_120 z_120
      obtain ⟨vK__120, vD__120, vO__120, rfl, N_120q, K_120, hq_120_0, hq_120_1, hq_120_2, hq_120_3, hq_120_4, hq_120_5, hq_120_6, hq_120_7, hq_120_8, hq_120_9, hq_120_10, hq_120_11, hq_120_12⟩ := hQ_120
      have N_120 := Fr.app N_114 N_120q
      have K__121 : Keep h0 T_120.heap [] := K__115.trans K_120 (allS (Or.inr sz_b_18) (allS (Or.inr sz_kb__29) (allS (Or.inr sz_db__29) (allS (Or.inr sz_ob__29) all0))))
      have f_122 : Arv Z T_120.heap b_5 k_5 .long dm ([(.long q4), (.long (0 : Int64))].set (dm - (1 : Int32)).toNatClampNeg (.long q4)) (.long (0 : Int64)) := f_116.keep K_120 (ninS ne_b_5_b_18 (ninS ne_b_5_kb__29 (ninS ne_b_5_db__29 (ninS ne_b_5_ob__29 nin0))))
      have f_123 : Exa Z T_120.heap b_18 "com/example/pointcell/pointcell/PointArrays" := hq_114_0.keep K_120
      refine Done.pre (fun _ k_ => st_120 _ k_) ?_
      show Done _ _ _ _ _ _ _ (T_120.setTop (mkF m 172 #[Iv p1, Iv p2, Iv p3, Lv q4, Zs, Iv p5, Iv cap, Iv (4 : Int32), Iv dm, Rv b_5, Rv b_18, Iv (1 : Int32)] [(.int (1 : Int32)), (.int (1 : Int32))]))
      have f_124 : Fld Z T_120.heap b_18 "com/example/pointcell/pointcell/PointArrays" "size" "I" (.int (4 : Int32)) := by have q := hq_120_1; rw [show (3 : Int32) + (1 : Int32) = (4 : Int32) from by decide] at q; exact q
      have sg_125 : ∀ tt_, Steps p.tables e below (T_120.setTop (mkF m 175 #[Iv p1, Iv p2, Iv p3, Lv q4, Zs, Iv p5, Iv cap, Iv (4 : Int32), Iv dm, Rv b_5, Rv b_18, Iv (1 : Int32)] [])) tt_ → Steps p.tables e below (T_120.setTop (mkF m 172 #[Iv p1, Iv p2, Iv p3, Lv q4, Zs, Iv p5, Iv cap, Iv (4 : Int32), Iv dm, Rv b_5, Rv b_18, Iv (1 : Int32)] [(.int (1 : Int32)), (.int (1 : Int32))])) tt_ := by
        intro tt_ kt_
        refine XS.iand X_120.here hEX rfl (hb hBY at_172) rfl ?_
        show Steps p.tables e below (T_120.setTop (mkF m 173 #[Iv p1, Iv p2, Iv p3, Lv q4, Zs, Iv p5, Iv cap, Iv (4 : Int32), Iv dm, Rv b_5, Rv b_18, Iv (1 : Int32)] [(.int (1 : Int32))])) tt_
        refine XS.istore X_120.here hEX rfl (hb hBY at_173) rfl (l' := #[Iv p1, Iv p2, Iv p3, Lv q4, Zs, Iv p5, Iv cap, Iv (4 : Int32), Iv dm, Rv b_5, Rv b_18, Iv (1 : Int32)]) rfl ?_
        exact kt_
      refine Done.pre sg_125 ?_
      exact jn_37 T_120 T_120.heap _ X_120 rfl N_120 K__121 ((4 : Int32)) hq_120_0 f_124 hq_120_3
  show Done _ _ _ _ _ _ _ (T_34.setTop (mkF m 63 #[Iv p1, Iv p2, Iv p3, Lv q4, Zs, Iv p5, Iv cap, Iv cnt, Iv dm, Rv b_5, Rv b_18, Us] [(.int (own_full (0 : Int32) cap))]))
  have sg_126 : ∀ tt_, Steps p.tables e below (T_34.setTop (mkF m 65 #[Iv p1, Iv p2, Iv p3, Lv q4, Zs, Iv p5, Iv cap, Iv cnt, Iv dm, Rv b_5, Rv b_18, Us] [(.int cap), (.int (own_full (0 : Int32) cap))])) tt_ → Steps p.tables e below (T_34.setTop (mkF m 63 #[Iv p1, Iv p2, Iv p3, Lv q4, Zs, Iv p5, Iv cap, Iv cnt, Iv dm, Rv b_5, Rv b_18, Us] [(.int (own_full (0 : Int32) cap))])) tt_ := by
    intro tt_ kt_
    refine XS.iload X_34.here hEX rfl (hb hBY at_63) rfl ?_
    exact kt_
  refine Done.pre sg_126 ?_
  by_cases hc65 : cap = (0 : Int32)
  · skip
    have sg_127 : ∀ tt_, Steps p.tables e below (T_34.setTop (mkF m 81 #[Iv p1, Iv p2, Iv p3, Lv q4, Zs, Iv p5, Iv cap, Iv cnt, Iv dm, Rv b_5, Rv b_18, Us] [(.int (1 : Int32))])) tt_ → Steps p.tables e below (T_34.setTop (mkF m 65 #[Iv p1, Iv p2, Iv p3, Lv q4, Zs, Iv p5, Iv cap, Iv cnt, Iv dm, Rv b_5, Rv b_18, Us] [(.int cap), (.int (own_full (0 : Int32) cap))])) tt_ := by
      intro tt_ kt_
      refine XS.ifNo X_34.here hEX rfl (hb hBY at_65) rfl ((if0 _ _).trans (teq hc65).2) ?_
      show Steps p.tables e below (T_34.setTop (mkF m 68 #[Iv p1, Iv p2, Iv p3, Lv q4, Zs, Iv p5, Iv cap, Iv cnt, Iv dm, Rv b_5, Rv b_18, Us] [(.int (own_full (0 : Int32) cap))])) tt_
      refine XS.iconst X_34.here hEX rfl (hb hBY at_68) ?_
      show Steps p.tables e below (T_34.setTop (mkF m 69 #[Iv p1, Iv p2, Iv p3, Lv q4, Zs, Iv p5, Iv cap, Iv cnt, Iv dm, Rv b_5, Rv b_18, Us] [(.int (1 : Int32)), (.int (own_full (0 : Int32) cap))])) tt_
      refine XS.goto X_34.here hEX rfl (pc0 := 69) (pc' := 73) rfl (hb hBY at_69) (by decide) (by decide) ?_
      show Steps p.tables e below (T_34.setTop (mkF m 73 #[Iv p1, Iv p2, Iv p3, Lv q4, Zs, Iv p5, Iv cap, Iv cnt, Iv dm, Rv b_5, Rv b_18, Us] [(.int (1 : Int32)), (.int (own_full (0 : Int32) cap))])) tt_
      refine XS.icmpNo X_34.here hEX rfl (hb hBY at_73) rfl (teq ((by rw [own_full, if_pos hc65.symm]) : (own_full (0 : Int32) cap) = (1 : Int32))).2 ?_
      show Steps p.tables e below (T_34.setTop (mkF m 76 #[Iv p1, Iv p2, Iv p3, Lv q4, Zs, Iv p5, Iv cap, Iv cnt, Iv dm, Rv b_5, Rv b_18, Us] [])) tt_
      refine XS.iconst X_34.here hEX rfl (hb hBY at_76) ?_
      show Steps p.tables e below (T_34.setTop (mkF m 77 #[Iv p1, Iv p2, Iv p3, Lv q4, Zs, Iv p5, Iv cap, Iv cnt, Iv dm, Rv b_5, Rv b_18, Us] [(.int (1 : Int32))])) tt_
      refine XS.goto X_34.here hEX rfl (pc0 := 77) (pc' := 81) rfl (hb hBY at_77) (by decide) (by decide) ?_
      exact kt_
    refine Done.pre sg_127 ?_
    exact jn_35 
  · skip
    have sg_128 : ∀ tt_, Steps p.tables e below (T_34.setTop (mkF m 81 #[Iv p1, Iv p2, Iv p3, Lv q4, Zs, Iv p5, Iv cap, Iv cnt, Iv dm, Rv b_5, Rv b_18, Us] [(.int (1 : Int32))])) tt_ → Steps p.tables e below (T_34.setTop (mkF m 65 #[Iv p1, Iv p2, Iv p3, Lv q4, Zs, Iv p5, Iv cap, Iv cnt, Iv dm, Rv b_5, Rv b_18, Us] [(.int cap), (.int (own_full (0 : Int32) cap))])) tt_ := by
      intro tt_ kt_
      refine XS.ifYes X_34.here hEX rfl (pc0 := 65) (pc' := 72) rfl (hb hBY at_65) rfl ((if0 _ _).trans (feq hc65).2) (by decide) (by decide) ?_
      show Steps p.tables e below (T_34.setTop (mkF m 72 #[Iv p1, Iv p2, Iv p3, Lv q4, Zs, Iv p5, Iv cap, Iv cnt, Iv dm, Rv b_5, Rv b_18, Us] [(.int (own_full (0 : Int32) cap))])) tt_
      refine XS.iconst X_34.here hEX rfl (hb hBY at_72) ?_
      show Steps p.tables e below (T_34.setTop (mkF m 73 #[Iv p1, Iv p2, Iv p3, Lv q4, Zs, Iv p5, Iv cap, Iv cnt, Iv dm, Rv b_5, Rv b_18, Us] [(.int (0 : Int32)), (.int (own_full (0 : Int32) cap))])) tt_
      refine XS.icmpNo X_34.here hEX rfl (hb hBY at_73) rfl (teq ((by rw [own_full, if_neg (fun q => hc65 q.symm)]) : (own_full (0 : Int32) cap) = (0 : Int32))).2 ?_
      show Steps p.tables e below (T_34.setTop (mkF m 76 #[Iv p1, Iv p2, Iv p3, Lv q4, Zs, Iv p5, Iv cap, Iv cnt, Iv dm, Rv b_5, Rv b_18, Us] [])) tt_
      refine XS.iconst X_34.here hEX rfl (hb hBY at_76) ?_
      show Steps p.tables e below (T_34.setTop (mkF m 77 #[Iv p1, Iv p2, Iv p3, Lv q4, Zs, Iv p5, Iv cap, Iv cnt, Iv dm, Rv b_5, Rv b_18, Us] [(.int (1 : Int32))])) tt_
      refine XS.goto X_34.here hEX rfl (pc0 := 77) (pc' := 81) rfl (hb hBY at_77) (by decide) (by decide) ?_
      exact kt_
    refine Done.pre sg_128 ?_
    exact jn_35 
set_option maxRecDepth 65536 in
set_option maxHeartbeats 40000000 in
theorem comes_1 {Post : Tables → Env → Array Value → State → Outcome → State → Prop} (hpost : ∀ tb e args s v u, (limb_1_1.after args s (.returned v) u = true ∧ limb_1_2.after args s (.returned v) u = true ∧ True) → FrameEnd s (.returned v) u (Jvm.fieldLocs frame_1_writes args s ++ Jvm.arrayLocs frame_1_arrays args s ++ Jvm.staticLocs frame_1_statics s) 24 128 → Post tb e args s (.returned v) u) :
    ArmFor flags0 classFile x code maxLocals ret World_1 tables_1 room_1 Calls_1 rest_1 Pre_1 Post := by
  intro l hfl _ _ p e ha hc hk s m args below hf hA hF happ hP
  obtain ⟨hcalls, hrest, hpre⟩ := hP
  obtain ⟨-, -, -, hnamed, -, -, -, hat⟩ := (Spec.applies_iff hf).mp happ
  obtain ⟨hg, hn⟩ := and_e (Cond.before_iff.mp (show (Jvm.Cond.and given_1 narrow_1).before args s = true from hpre))
  obtain ⟨g1a, g1b⟩ := and_e hg
  obtain ⟨g2a, g2b⟩ := and_e g1b
  obtain ⟨g3a, g3b⟩ := and_e g2b
  obtain ⟨g4a, g4b⟩ := and_e g3b
  obtain ⟨g5a, g5b⟩ := and_e g4b
  obtain ⟨w0, w1, w2, w3, w4, rfl⟩ : ∃ w0 w1 w2 w3 w4 : Value, args = #[w0, w1, w2, w3, w4] := by
    have hs : args.size = 5 := by simpa [Cond.value, given_1] using g1a
    obtain ⟨L⟩ := args
    match L, hs with
    | [w0, w1, w2, w3, w4], _ => exact ⟨w0, w1, w2, w3, w4, rfl⟩
  have hw := fun d (hd : d ∈ tables_1) => atoms_spec (ws := Jvm.Cond.code x code maxLocals ret :: tables_1) hat d (List.mem_cons_of_mem _ hd)
  have hfit : Fit s := fun {y c} hc i hi => by
    obtain ⟨ha, rfl⟩ := Array.getElem?_eq_some_iff.mp hc
    have q := List.all_eq_true.mp ((Array.all_eq_true_iff_forall_mem.mp hF) _ (Array.getElem_mem ha)) i (List.mem_range.mpr hi)
    simpa [Array.getElem?_eq_getElem hi] using q
  obtain ⟨i0, ei0⟩ := is_v g2a
  obtain rfl : w0 = (.int i0) := Option.some.inj ei0
  obtain ⟨i1, ei1⟩ := is_v g3a
  obtain rfl : w1 = (.int i1) := Option.some.inj ei1
  obtain ⟨i2, ei2⟩ := is_v g4a
  obtain rfl : w2 = (.int i2) := Option.some.inj ei2
  obtain ⟨i3, ei3⟩ := isL_v g5a
  obtain rfl : w3 = (.long i3) := Option.some.inj ei3
  obtain ⟨i4, ei4⟩ := is_v g5b
  obtain rfl : w4 = (.int i4) := Option.some.inj ei4
  obtain ⟨n, o, h1, h2, h3, _, L, rfl, ⟨rfl, N, -⟩, hq⟩ := rm0 l s _ hw tables_1 i0 i1 i2 i3 i4  s.heap s.heap.size (Nat.le_refl _)  p e ha hc hk s m _ below hf ((Spec.applies_iff_loose hf).mp happ).1 ⟨rfl, State.Warmed39.refl s, rfl⟩ trivial
  refine ⟨n, _, h1, h2, h3, hpost _ _ _ _ _ _ ⟨Cond.after_iff.mpr rfl, Cond.after_iff.mpr (eq_i res_at (Term.int_eval (1)) rfl), trivial⟩ ⟨hq.1, hq.2.1, (hq.2.2.sift fun y hy => Or.inr (N y hy)).mono (by decide) (by decide)⟩⟩
theorem main_1_1 : Claimed_1_1 := comes_1 fun _ _ _ _ _ _ h hF => ⟨h.1, hF⟩
theorem main_1_2 : Claimed_1_2 := comes_1 fun _ _ _ _ _ _ h hF => ⟨h.2.1, hF⟩
end Jvm.Pilot.@@N@@
namespace Jvm.Pilot.@@N@@
open Jvm Jvm.ClassFile Sem Op Lib Jvm.Free Jvm.Stand Jvm.Pilot.@@N@@.Jvm.D
/-! MADE BY PROGRAM (witnessworld.py) out of the Statement's table words and the real class files: 13 classes; the members and pool entries that the words name. The judged class is class 1, her method 1. -/
namespace start1
open Jvm.ClassFile
def u (s : String) : CpInfo := .utf8 (stringToUtf16 s)
/-- a pool by its gaps: so many unusable entries, then the entry; so many at the end -/
def gap : Nat → List CpInfo → List CpInfo
  | 0, r => r
  | n + 1, r => .unusable :: gap n r
def poolList (es : List (Nat × CpInfo)) (last : Nat) : List CpInfo := es.foldr (fun e r => gap e.1 (e.2 :: r)) (gap last [])
def pool (es : List (Nat × CpInfo)) (last : Nat) : Array CpInfo := ⟨poolList es last⟩
def fileOf (pool : Array CpInfo) (this : Nat) (attrs : Array Attribute := #[]) (ms : Array MethodInfo := #[]) (fl : Nat := 33) (sup : Nat := 0) (ifs : Array Nat := #[]) (fds : Array FieldInfo := #[]) : ClassFile where
  minorVersion := 0
  majorVersion := 65
  constantPool := pool
  accessFlags := fl
  thisClass := this
  superClass := sup
  interfaces := ifs
  fields := fds
  methods := ms
  attributes := attrs
def plain (name : String) (sup : Option ClassId) : Class where
  name := name
  kind := .ordinary
  loader := none
  accessFlags := 33
  super := sup
  interfaces := #[]
  cf := none
  fields := #[]
  methods := #[]
  instanceTypes := #[]
  staticTypes := #[]
  resolved := #[]
  callSites := []
  init := .initialized
  statics := none
  mirror := none

def pool0 : Array CpInfo := pool [(5, u "<init>"), (0, u "()V"), (1, .class_ 10), (1, u "java/lang/Object")] 113

def k0c0 : Code := { maxStack := 0, maxLocals := 1, code := object_method_1_code, exceptionTable := #[], attributes := #[] }
def k0m0 : Method := { name := "<init>", desc := "()V", sig := { parameters := [], returnType := none }, accessFlags := 1, code := some k0c0 }
/-- java/lang/Object -/
def k0 : Class := { plain "java/lang/Object" none with
  accessFlags := 33
  interfaces := #[]
  cf := some (fileOf pool0 8 #[] #[{ accessFlags := 1, nameIndex := 5, descriptorIndex := 6, attributes := #[] }] 33 0 #[] #[])
  fields := #[]
  methods := #[k0m0]
  instanceTypes := #[]
  staticTypes := #[]
  resolved := Array.replicate 124 none
  statics := none }

def pool1 : Array CpInfo := pool [(2, .class_ 4), (1, u "java/lang/Object"), (0, u "<init>"), (0, u "()V"), (0, .class_ 8), (0, u "com/example/pointcell/pointcell/PointArrays"), (0, .methodref 7 10), (0, .nameAndType 5 11), (0, u "(II)V"), (0, .methodref 7 13), (0, .nameAndType 14 15), (0, u "isFull"), (0, u "()Z"), (0, .methodref 17 18), (0, .class_ 19), (0, .nameAndType 20 21), (0, u "com/example/pointcell/pointcell/PointArraysIsFullPinLaw"), (0, u "step"), (0, u "(Lcom/example/pointcell/pointcell/PointArrays;[JIII)Z"), (0, .methodref 7 23), (0, .nameAndType 24 6), (0, u "clear"), (0, .methodref 7 26), (0, .nameAndType 27 28), (0, u "add"), (0, u "([JII)V"), (2, u "law"), (0, u "(IIIJI)Z")] 5

def k1m0 : Method := { name := "<init>", desc := "()V", sig := { parameters := [], returnType := none }, accessFlags := 1, code := none }
def k1c1 : Code := { maxStack := 6, maxLocals := 12, code := code, exceptionTable := #[], attributes := #[] }
def k1m1 : Method := { name := "law", desc := "(IIIJI)Z", sig := { parameters := [.int, .int, .int, .long, .int], returnType := some .boolean }, accessFlags := 9, code := some k1c1 }
def k1c2 : Code := { maxStack := 4, maxLocals := 5, code := method_3_code, exceptionTable := #[], attributes := #[] }
def k1m2 : Method := { name := "step", desc := "(Lcom/example/pointcell/pointcell/PointArrays;[JIII)Z", sig := { parameters := [(.object "com/example/pointcell/pointcell/PointArrays"), (.array .long), .int, .int, .int], returnType := some .boolean }, accessFlags := 10, code := some k1c2 }
/-- com/example/pointcell/pointcell/PointArraysIsFullPinLaw -/
def k1 : Class := { plain "com/example/pointcell/pointcell/PointArraysIsFullPinLaw" (some 0) with
  accessFlags := 49
  interfaces := #[]
  cf := some (fileOf pool1 17 #[] #[{ accessFlags := 1, nameIndex := 5, descriptorIndex := 6, attributes := #[] }, { accessFlags := 9, nameIndex := 31, descriptorIndex := 32, attributes := #[] }, { accessFlags := 10, nameIndex := 20, descriptorIndex := 21, attributes := #[] }] 49 2 #[] #[])
  fields := #[]
  methods := #[k1m0, k1m1, k1m2]
  instanceTypes := #[]
  staticTypes := #[]
  resolved := Array.replicate 38 none
  statics := none }

def pool2 : Array CpInfo := pool [(1, .methodref 2 3), (0, .class_ 4), (0, .nameAndType 5 6), (0, u "java/lang/Object"), (0, u "<init>"), (0, u "()V"), (0, .methodref 8 9), (0, .class_ 10), (0, .nameAndType 11 12), (0, u "java/lang/Math"), (0, u "min"), (0, u "(II)I"), (0, .fieldref 14 15), (0, .class_ 16), (0, .nameAndType 17 18), (0, u "com/example/pointcell/pointcell/PointArrays"), (0, u "dimensions"), (0, u "I"), (0, .fieldref 14 20), (0, .nameAndType 21 18), (0, u "capacity"), (0, .fieldref 14 23), (0, .nameAndType 24 25), (0, u "keys"), (0, u "[J"), (0, .fieldref 14 27), (0, .nameAndType 28 29), (0, u "docIds"), (0, u "[I"), (0, .fieldref 14 31), (0, .nameAndType 32 29), (0, u "ordinals"), (4, .fieldref 14 38), (0, .nameAndType 39 18), (0, u "size"), (13, .methodref 14 54), (0, .nameAndType 55 56), (0, u "isFull"), (0, u "()Z"), (9, .long 2), (10, .methodref 78 79), (0, .class_ 80), (0, .nameAndType 81 82), (0, u "java/lang/System"), (0, u "arraycopy"), (0, u "(Ljava/lang/Object;ILjava/lang/Object;II)V"), (24, u "BY_DOCUMENT"), (2, u "(II)V"), (11, u "add"), (0, u "([JII)V"), (0, u "clear")] 20

def k2c0 : Code := { maxStack := 3, maxLocals := 4, code := prog_25_method_1_code, exceptionTable := #[], attributes := #[] }
def k2m0 : Method := { name := "<init>", desc := "(II)V", sig := { parameters := [.int, .int], returnType := none }, accessFlags := 0, code := some k2c0 }
def k2c1 : Code := { maxStack := 2, maxLocals := 1, code := prog_25_method_5_code, exceptionTable := #[], attributes := #[] }
def k2m1 : Method := { name := "isFull", desc := "()Z", sig := { parameters := [], returnType := some .boolean }, accessFlags := 0, code := some k2c1 }
def k2c2 : Code := { maxStack := 8, maxLocals := 5, code := prog_25_method_11_code, exceptionTable := #[], attributes := #[] }
def k2m2 : Method := { name := "add", desc := "([JII)V", sig := { parameters := [(.array .long), .int, .int], returnType := none }, accessFlags := 0, code := some k2c2 }
def k2c3 : Code := { maxStack := 2, maxLocals := 1, code := prog_25_method_12_code, exceptionTable := #[], attributes := #[] }
def k2m3 : Method := { name := "clear", desc := "()V", sig := { parameters := [], returnType := none }, accessFlags := 0, code := some k2c3 }
/-- com/example/pointcell/pointcell/PointArrays -/
def k2 : Class := { plain "com/example/pointcell/pointcell/PointArrays" (some 0) with
  accessFlags := 48
  interfaces := #[]
  cf := some (fileOf pool2 14 #[] #[{ accessFlags := 0, nameIndex := 5, descriptorIndex := 110, attributes := #[] }, { accessFlags := 0, nameIndex := 55, descriptorIndex := 56, attributes := #[] }, { accessFlags := 0, nameIndex := 122, descriptorIndex := 123, attributes := #[] }, { accessFlags := 0, nameIndex := 124, descriptorIndex := 6, attributes := #[] }] 48 2 #[] #[{ accessFlags := 24, nameIndex := 107, descriptorIndex := 18, attributes := #[] }, { accessFlags := 18, nameIndex := 17, descriptorIndex := 18, attributes := #[] }, { accessFlags := 18, nameIndex := 21, descriptorIndex := 18, attributes := #[] }, { accessFlags := 2, nameIndex := 24, descriptorIndex := 25, attributes := #[] }, { accessFlags := 2, nameIndex := 28, descriptorIndex := 29, attributes := #[] }, { accessFlags := 2, nameIndex := 32, descriptorIndex := 29, attributes := #[] }, { accessFlags := 2, nameIndex := 39, descriptorIndex := 18, attributes := #[] }])
  fields := #[{ name := "BY_DOCUMENT", type := .int, accessFlags := 24, slot := 0, constantValue := 0 }, { name := "dimensions", type := .int, accessFlags := 18, slot := 0, constantValue := 0 }, { name := "capacity", type := .int, accessFlags := 18, slot := 1, constantValue := 0 }, { name := "keys", type := (.array .long), accessFlags := 2, slot := 2, constantValue := 0 }, { name := "docIds", type := (.array .int), accessFlags := 2, slot := 3, constantValue := 0 }, { name := "ordinals", type := (.array .int), accessFlags := 2, slot := 4, constantValue := 0 }, { name := "size", type := .int, accessFlags := 2, slot := 5, constantValue := 0 }]
  methods := #[k2m0, k2m1, k2m2, k2m3]
  instanceTypes := #[.int, .int, (.array .long), (.array .int), (.array .int), .int]
  staticTypes := #[.int]
  resolved := Array.replicate 145 none
  statics := none }

def pool3 : Array CpInfo := pool [(1, .class_ 2), (0, u "java/lang/Math"), (1, .class_ 6), (1, u "java/lang/Object"), (0, u "<init>"), (0, u "()V"), (89, .class_ 100), (1, u "java/lang/Math$RandomNumberGeneratorHolder"), (71, u "negativeZeroFloatBits"), (0, u "J"), (2, u "negativeZeroDoubleBits"), (24, u "min"), (43, u "$assertionsDisabled"), (0, u "Z"), (88, u "(II)I"), (2, u "twoToTheDoubleScaleDown"), (0, u "D"), (4, u "twoToTheDoubleScaleUp"), (9, u "E"), (3, u "PI"), (2, u "TAU"), (2, u "DEGREES_TO_RADIANS"), (0, u "RADIANS_TO_DEGREES")] 94

def k3m0 : Method := { name := "<init>", desc := "()V", sig := { parameters := [], returnType := none }, accessFlags := 2, code := none }
def k3c1 : Code := { maxStack := 2, maxLocals := 2, code := jdk_29_method_69_code, exceptionTable := #[], attributes := #[] }
def k3m1 : Method := { name := "min", desc := "(II)I", sig := { parameters := [.int, .int], returnType := some .int }, accessFlags := 9, code := some k3c1 }
/-- java/lang/Math -/
def k3 : Class := { plain "java/lang/Math" (some 0) with
  accessFlags := 49
  interfaces := #[]
  cf := some (fileOf pool3 1 #[.nestMembers #[98]] #[{ accessFlags := 2, nameIndex := 7, descriptorIndex := 8, attributes := #[] }, { accessFlags := 9, nameIndex := 201, descriptorIndex := 335, attributes := #[] }] 49 4 #[] #[{ accessFlags := 25, nameIndex := 354, descriptorIndex := 339, attributes := #[] }, { accessFlags := 25, nameIndex := 358, descriptorIndex := 339, attributes := #[] }, { accessFlags := 25, nameIndex := 361, descriptorIndex := 339, attributes := #[] }, { accessFlags := 26, nameIndex := 364, descriptorIndex := 339, attributes := #[] }, { accessFlags := 26, nameIndex := 365, descriptorIndex := 339, attributes := #[] }, { accessFlags := 26, nameIndex := 172, descriptorIndex := 173, attributes := #[] }, { accessFlags := 26, nameIndex := 176, descriptorIndex := 173, attributes := #[] }, { accessFlags := 8, nameIndex := 344, descriptorIndex := 339, attributes := #[] }, { accessFlags := 8, nameIndex := 338, descriptorIndex := 339, attributes := #[] }, { accessFlags := 4120, nameIndex := 245, descriptorIndex := 246, attributes := #[] }])
  fields := #[{ name := "E", type := .double, accessFlags := 25, slot := 0, constantValue := 0 }, { name := "PI", type := .double, accessFlags := 25, slot := 1, constantValue := 0 }, { name := "TAU", type := .double, accessFlags := 25, slot := 2, constantValue := 0 }, { name := "DEGREES_TO_RADIANS", type := .double, accessFlags := 26, slot := 3, constantValue := 0 }, { name := "RADIANS_TO_DEGREES", type := .double, accessFlags := 26, slot := 4, constantValue := 0 }, { name := "negativeZeroFloatBits", type := .long, accessFlags := 26, slot := 5, constantValue := 0 }, { name := "negativeZeroDoubleBits", type := .long, accessFlags := 26, slot := 6, constantValue := 0 }, { name := "twoToTheDoubleScaleUp", type := .double, accessFlags := 8, slot := 7, constantValue := 0 }, { name := "twoToTheDoubleScaleDown", type := .double, accessFlags := 8, slot := 8, constantValue := 0 }, { name := "$assertionsDisabled", type := .boolean, accessFlags := 4120, slot := 9, constantValue := 0 }]
  methods := #[k3m0, k3m1]
  instanceTypes := #[]
  staticTypes := #[.double, .double, .double, .double, .double, .long, .long, .double, .double, .boolean]
  resolved := Array.replicate 460 none
  statics := none }

def pool4 : Array CpInfo := pool [(2, .class_ 4), (1, u "java/lang/Object"), (0, u "<init>"), (0, u "()V"), (1, .class_ 10), (1, u "java/lang/System"), (0, u "allowSecurityManager"), (0, u "I"), (16, u "cons"), (0, u "Ljava/io/Console;"), (77, .class_ 110), (1, u "java/lang/System$CallersHolder"), (43, u "initialErrStream"), (0, u "Ljava/io/PrintStream;"), (19, u "security"), (0, u "Ljava/lang/SecurityManager;"), (31, .class_ 209), (0, u "java/lang/System$1"), (7, u "props"), (0, u "Ljava/util/Properties;"), (2, u "lineSeparator"), (0, u "Ljava/lang/String;"), (96, .class_ 321), (1, u "java/lang/System$LoggerFinder"), (5, .class_ 328), (0, u "java/lang/System$Logger"), (67, u "err"), (2, u "out"), (91, u "notSupportedJnuEncoding"), (15, u "in"), (17, u "initialIn"), (0, u "Ljava/io/InputStream;"), (35, u "bootLayer"), (0, u "Ljava/lang/ModuleLayer;"), (99, .class_ 664), (0, u "java/lang/System$2"), (9, u "NEVER"), (2, u "MAYBE"), (49, u "arraycopy"), (0, u "(Ljava/lang/Object;ILjava/lang/Object;II)V"), (72, .class_ 802), (0, u "java/lang/System$Logger$Level")] 31

def k4m0 : Method := { name := "<init>", desc := "()V", sig := { parameters := [], returnType := none }, accessFlags := 2, code := none }
def k4m1 : Method := { name := "arraycopy", desc := "(Ljava/lang/Object;ILjava/lang/Object;II)V", sig := { parameters := [(.object "java/lang/Object"), .int, (.object "java/lang/Object"), .int, .int], returnType := none }, accessFlags := 265, code := none }
/-- java/lang/System -/
def k4 : Class := { plain "java/lang/System" (some 0) with
  accessFlags := 49
  interfaces := #[]
  cf := some (fileOf pool4 8 #[.nestMembers #[319, 327, 801, 108, 663, 208]] #[{ accessFlags := 2, nameIndex := 5, descriptorIndex := 6, attributes := #[] }, { accessFlags := 265, nameIndex := 727, descriptorIndex := 728, attributes := #[] }] 49 2 #[] #[{ accessFlags := 25, nameIndex := 507, descriptorIndex := 526, attributes := #[] }, { accessFlags := 25, nameIndex := 399, descriptorIndex := 155, attributes := #[] }, { accessFlags := 25, nameIndex := 396, descriptorIndex := 155, attributes := #[] }, { accessFlags := 10, nameIndex := 525, descriptorIndex := 526, attributes := #[] }, { accessFlags := 26, nameIndex := 674, descriptorIndex := 12, attributes := #[] }, { accessFlags := 26, nameIndex := 677, descriptorIndex := 12, attributes := #[] }, { accessFlags := 10, nameIndex := 11, descriptorIndex := 12, attributes := #[] }, { accessFlags := 74, nameIndex := 175, descriptorIndex := 176, attributes := #[] }, { accessFlags := 10, nameIndex := 491, descriptorIndex := 222, attributes := #[] }, { accessFlags := 74, nameIndex := 29, descriptorIndex := 30, attributes := #[] }, { accessFlags := 74, nameIndex := 154, descriptorIndex := 155, attributes := #[] }, { accessFlags := 10, nameIndex := 217, descriptorIndex := 218, attributes := #[] }, { accessFlags := 10, nameIndex := 221, descriptorIndex := 222, attributes := #[] }, { accessFlags := 8, nameIndex := 562, descriptorIndex := 563, attributes := #[] }])
  fields := #[{ name := "in", type := (.object "java/io/InputStream"), accessFlags := 25, slot := 0, constantValue := 0 }, { name := "out", type := (.object "java/io/PrintStream"), accessFlags := 25, slot := 1, constantValue := 0 }, { name := "err", type := (.object "java/io/PrintStream"), accessFlags := 25, slot := 2, constantValue := 0 }, { name := "initialIn", type := (.object "java/io/InputStream"), accessFlags := 10, slot := 3, constantValue := 0 }, { name := "NEVER", type := .int, accessFlags := 26, slot := 4, constantValue := 0 }, { name := "MAYBE", type := .int, accessFlags := 26, slot := 5, constantValue := 0 }, { name := "allowSecurityManager", type := .int, accessFlags := 10, slot := 6, constantValue := 0 }, { name := "security", type := (.object "java/lang/SecurityManager"), accessFlags := 74, slot := 7, constantValue := 0 }, { name := "notSupportedJnuEncoding", type := (.object "java/lang/String"), accessFlags := 10, slot := 8, constantValue := 0 }, { name := "cons", type := (.object "java/io/Console"), accessFlags := 74, slot := 9, constantValue := 0 }, { name := "initialErrStream", type := (.object "java/io/PrintStream"), accessFlags := 74, slot := 10, constantValue := 0 }, { name := "props", type := (.object "java/util/Properties"), accessFlags := 10, slot := 11, constantValue := 0 }, { name := "lineSeparator", type := (.object "java/lang/String"), accessFlags := 10, slot := 12, constantValue := 0 }, { name := "bootLayer", type := (.object "java/lang/ModuleLayer"), accessFlags := 8, slot := 13, constantValue := 0 }]
  methods := #[k4m0, k4m1]
  instanceTypes := #[]
  staticTypes := #[(.object "java/io/InputStream"), (.object "java/io/PrintStream"), (.object "java/io/PrintStream"), (.object "java/io/InputStream"), .int, .int, .int, (.object "java/lang/SecurityManager"), (.object "java/lang/String"), (.object "java/io/Console"), (.object "java/io/PrintStream"), (.object "java/util/Properties"), (.object "java/lang/String"), (.object "java/lang/ModuleLayer")]
  resolved := Array.replicate 834 none
  statics := none }

def pool5 : Array CpInfo := pool [(1, u "java/lang/Cloneable"), (0, .class_ 1), (0, u "java/lang/Object"), (0, .class_ 3)] 3

/-- java/lang/Cloneable -/
def k5 : Class := { plain "java/lang/Cloneable" (some 0) with
  accessFlags := 1537
  interfaces := #[]
  cf := some (fileOf pool5 2 #[] #[] 1537 4 #[] #[])
  fields := #[]
  methods := #[]
  instanceTypes := #[]
  staticTypes := #[]
  resolved := Array.replicate 8 none
  statics := none }

def pool6 : Array CpInfo := pool [(1, u "java/io/Serializable"), (0, .class_ 1), (0, u "java/lang/Object"), (0, .class_ 3)] 3

/-- java/io/Serializable -/
def k6 : Class := { plain "java/io/Serializable" (some 0) with
  accessFlags := 1537
  interfaces := #[]
  cf := some (fileOf pool6 2 #[] #[] 1537 4 #[] #[])
  fields := #[]
  methods := #[]
  instanceTypes := #[]
  staticTypes := #[]
  resolved := Array.replicate 8 none
  statics := none }

/-- the primitive byte -/
def k7 : Class := { plain "byte" none with kind := .primitive 'B', accessFlags := 0x411 }
/-- [B -/
def k8 : Class := { plain "[B" (some 0) with kind := .array 7 .byte, interfaces := #[5, 6], accessFlags := 1041 }

/-- the primitive int -/
def k9 : Class := { plain "int" none with kind := .primitive 'I', accessFlags := 0x411 }
/-- [I -/
def k10 : Class := { plain "[I" (some 0) with kind := .array 9 .int, interfaces := #[5, 6], accessFlags := 1041 }

/-- the primitive long -/
def k11 : Class := { plain "long" none with kind := .primitive 'J', accessFlags := 0x411 }
/-- [J -/
def k12 : Class := { plain "[J" (some 0) with kind := .array 11 .long, interfaces := #[5, 6], accessFlags := 1041 }

def heap : Heap := #[]
def classes : Array Class := #[k0, k1, k2, k3, k4, k5, k6, k7, k8, k9, k10, k11, k12]
def interned : List (Array UInt16 × Addr) := []
def slotsUsed : Nat := 0
def theMethod : MethodId := ⟨1, 1⟩
def args0 : Array Value := #[.int 7, .int 8, .int 9, .long 3, .int 2]
def aboutOver (below : List Frame) : State where
  vm := { classes := classes, interned := interned.toArray }
  heap := heap
  slotsUsed := slotsUsed
  threads := #[{ frames := .invoking theMethod args0 :: below }]
def below0 : List Frame := [.native { method := ⟨0, 0⟩, args := #[] }]
def about1 : State := aboutOver below0
def p0 : Program := .bare "" "" ""
def e0 : Env := launch0.env 0 0 0
theorem w_frames : about1.frames = Frame.invoking theMethod args0 :: below0 := rfl
set_option maxRecDepth 65536 in
theorem w_args : argsFit about1.vm theMethod args0 = true := by decide +kernel
set_option maxRecDepth 65536 in
theorem w_heap : heapFits about1 = true := by decide +kernel
set_option maxRecDepth 65536 in
theorem w_runnable : about1.curStatus? = some .runnable := by decide +kernel
set_option maxRecDepth 65536 in
theorem w_alone : about1.alone = true := by decide +kernel
set_option maxRecDepth 65536 in
theorem w_named : about1.methodNamed? x = some theMethod := by decide +kernel
set_option maxRecDepth 65536 in
theorem w_hears : about1.hears theMethod below0 = true := by decide +kernel
set_option maxRecDepth 65536 in
theorem w_ripe : about1.ripe theMethod args0 below0 = true := by decide +kernel
theorem w_running : about1.status = .running := rfl
set_option maxRecDepth 65536 in
theorem w_room : about1.hasRoom e0.platform room_1 = true :=
  launch0.hasRoom_least _ room_1 (by decide +kernel) (by decide +kernel) (by decide +kernel) (by decide +kernel) (by decide +kernel) (by decide +kernel)
theorem allAtoms_all (ts : List Jvm.Cond) (a : Array Jvm.Value) (st : Jvm.State) : (allAtoms ts).before a st = ts.all (fun c => c.before a st) := by
  induction ts with
  | nil => rfl
  | cons c t ih =>
    show (Jvm.Cond.and c (allAtoms t)).before a st = _
    rw [Jvm.Cond.before_and, ih, List.all_cons]
def words1 : List Jvm.Cond := Jvm.Cond.code x code maxLocals ret :: tables_1
/-- a 'code' word, met by the world's own term for the bytes: nothing is compared byte by byte -/
theorem code_word {y : MethodName} {bytes : ByteArray} {mx : Nat} {rt : Option FieldType} {a : Array Value} {s : State} {m : MethodId} {meth : Method} {c : Code} (h1 : s.methodNamed? y = some m) (h2 : s.vm.method? m = some meth) (h3 : meth.code = some c) (h4 : c.code = bytes)
    (h5 : (c.maxLocals == mx && c.exceptionTable.isEmpty && decide (c.maxStack ≤ mostOperands) && decide (meth.sig.returnType = rt) && !meth.locks && decide (parseMethodDescriptor y.desc = some meth.sig)) = true) : (Jvm.Cond.code y bytes mx rt).before a s = true := by
  simp only [Bool.and_eq_true, beq_iff_eq, Bool.not_eq_true', decide_eq_true_eq] at h5
  obtain ⟨⟨⟨⟨⟨g1, g2⟩, g3⟩, g4⟩, g5⟩, g6⟩ := h5
  simp [Cond.before, Cond.holds, Cond.value, h1, h2, h3, h4, g1, g2, g3, g4, g5, g6]
def isCode : Jvm.Cond → Bool
  | .code _ _ _ _ => true
  | _ => false
theorem all_split {L : List Jvm.Cond} {P : Jvm.Cond → Bool} (h1 : L.all (fun c => isCode c || P c) = true) (h2 : ∀ c ∈ L.filter isCode, P c = true) : L.all P = true := by
  refine List.all_eq_true.mpr fun c hc => ?_
  have h := List.all_eq_true.mp h1 c hc
  rcases Bool.eq_false_or_eq_true (isCode c) with hi | hi
  · exact h2 c (List.mem_filter.mpr ⟨hc, hi⟩)
  · simpa [hi] using h
set_option maxRecDepth 65536 in
theorem w_c0 : (Jvm.Cond.code x code maxLocals ret).before args0 about1 = true := code_word (m := ⟨1, 1⟩) (meth := k1m1) (c := k1c1) (by decide +kernel) rfl rfl rfl (by decide +kernel)
set_option maxRecDepth 65536 in
theorem w_c1 : (Jvm.Cond.code ({ cls := "com/example/pointcell/pointcell/PointArrays", name := "<init>", desc := "(II)V" } : Jvm.MethodName) prog_25_method_1_code (4 : Nat) (Option.none : Option Jvm.ClassFile.FieldType)).before args0 about1 = true := code_word (m := ⟨2, 0⟩) (meth := k2m0) (c := k2c0) (by decide +kernel) rfl rfl rfl (by decide +kernel)
set_option maxRecDepth 65536 in
theorem w_c2 : (Jvm.Cond.code ({ cls := "java/lang/Object", name := "<init>", desc := "()V" } : Jvm.MethodName) object_method_1_code (1 : Nat) (Option.none : Option Jvm.ClassFile.FieldType)).before args0 about1 = true := code_word (m := ⟨0, 0⟩) (meth := k0m0) (c := k0c0) (by decide +kernel) rfl rfl rfl (by decide +kernel)
set_option maxRecDepth 65536 in
theorem w_c3 : (Jvm.Cond.code ({ cls := "java/lang/Math", name := "min", desc := "(II)I" } : Jvm.MethodName) jdk_29_method_69_code (2 : Nat) (Option.some Jvm.ClassFile.FieldType.int)).before args0 about1 = true := code_word (m := ⟨3, 1⟩) (meth := k3m1) (c := k3c1) (by decide +kernel) rfl rfl rfl (by decide +kernel)
set_option maxRecDepth 65536 in
theorem w_c4 : (Jvm.Cond.code ({ cls := "com/example/pointcell/pointcell/PointArrays", name := "isFull", desc := "()Z" } : Jvm.MethodName) prog_25_method_5_code (1 : Nat) (Option.some Jvm.ClassFile.FieldType.boolean)).before args0 about1 = true := code_word (m := ⟨2, 1⟩) (meth := k2m1) (c := k2c1) (by decide +kernel) rfl rfl rfl (by decide +kernel)
set_option maxRecDepth 65536 in
theorem w_c5 : (Jvm.Cond.code ({ cls := "com/example/pointcell/pointcell/PointArrays", name := "clear", desc := "()V" } : Jvm.MethodName) prog_25_method_12_code (1 : Nat) (Option.none : Option Jvm.ClassFile.FieldType)).before args0 about1 = true := code_word (m := ⟨2, 3⟩) (meth := k2m3) (c := k2c3) (by decide +kernel) rfl rfl rfl (by decide +kernel)
set_option maxRecDepth 65536 in
theorem w_c6 : (Jvm.Cond.code ({ cls := "com/example/pointcell/pointcell/PointArraysIsFullPinLaw", name := "step", desc := "(Lcom/example/pointcell/pointcell/PointArrays;[JIII)Z" } : Jvm.MethodName) method_3_code (5 : Nat) (Option.some Jvm.ClassFile.FieldType.boolean)).before args0 about1 = true := code_word (m := ⟨1, 2⟩) (meth := k1m2) (c := k1c2) (by decide +kernel) rfl rfl rfl (by decide +kernel)
set_option maxRecDepth 65536 in
theorem w_c7 : (Jvm.Cond.code ({ cls := "com/example/pointcell/pointcell/PointArrays", name := "add", desc := "([JII)V" } : Jvm.MethodName) prog_25_method_11_code (5 : Nat) (Option.none : Option Jvm.ClassFile.FieldType)).before args0 about1 = true := code_word (m := ⟨2, 2⟩) (meth := k2m2) (c := k2c2) (by decide +kernel) rfl rfl rfl (by decide +kernel)
def codes1 : List Jvm.Cond := [Jvm.Cond.code x code maxLocals ret, Jvm.Cond.code ({ cls := "com/example/pointcell/pointcell/PointArrays", name := "<init>", desc := "(II)V" } : Jvm.MethodName) prog_25_method_1_code (4 : Nat) (Option.none : Option Jvm.ClassFile.FieldType), Jvm.Cond.code ({ cls := "java/lang/Object", name := "<init>", desc := "()V" } : Jvm.MethodName) object_method_1_code (1 : Nat) (Option.none : Option Jvm.ClassFile.FieldType), Jvm.Cond.code ({ cls := "java/lang/Math", name := "min", desc := "(II)I" } : Jvm.MethodName) jdk_29_method_69_code (2 : Nat) (Option.some Jvm.ClassFile.FieldType.int), Jvm.Cond.code ({ cls := "com/example/pointcell/pointcell/PointArrays", name := "isFull", desc := "()Z" } : Jvm.MethodName) prog_25_method_5_code (1 : Nat) (Option.some Jvm.ClassFile.FieldType.boolean), Jvm.Cond.code ({ cls := "com/example/pointcell/pointcell/PointArrays", name := "clear", desc := "()V" } : Jvm.MethodName) prog_25_method_12_code (1 : Nat) (Option.none : Option Jvm.ClassFile.FieldType), Jvm.Cond.code ({ cls := "com/example/pointcell/pointcell/PointArraysIsFullPinLaw", name := "step", desc := "(Lcom/example/pointcell/pointcell/PointArrays;[JIII)Z" } : Jvm.MethodName) method_3_code (5 : Nat) (Option.some Jvm.ClassFile.FieldType.boolean), Jvm.Cond.code ({ cls := "com/example/pointcell/pointcell/PointArrays", name := "add", desc := "([JII)V" } : Jvm.MethodName) prog_25_method_11_code (5 : Nat) (Option.none : Option Jvm.ClassFile.FieldType)]
set_option maxRecDepth 65536 in
theorem codes_eq : words1.filter isCode = codes1 := rfl
theorem w_codes : ∀ c ∈ words1.filter isCode, c.before args0 about1 = true := by
  rw [codes_eq]
  intro c hc
  simp only [codes1, List.mem_cons, List.not_mem_nil, or_false] at hc
  rcases hc with rfl | rfl | rfl | rfl | rfl | rfl | rfl | rfl
  · exact w_c0
  · exact w_c1
  · exact w_c2
  · exact w_c3
  · exact w_c4
  · exact w_c5
  · exact w_c6
  · exact w_c7
set_option maxRecDepth 65536 in
theorem w_t1 : (words1.take 24).all (fun c => isCode c || c.before args0 about1) = true := by decide +kernel
set_option maxRecDepth 65536 in
theorem w_t2 : ((words1.drop 24).take 24).all (fun c => isCode c || c.before args0 about1) = true := by decide +kernel
set_option maxRecDepth 65536 in
theorem w_t3 : ((words1.drop 24).drop 24).all (fun c => isCode c || c.before args0 about1) = true := by decide +kernel
theorem w_tables : (allAtoms (Jvm.Cond.code x code maxLocals ret :: tables_1)).before args0 about1 = true := by
  rw [allAtoms_all]
  show words1.all (fun c => c.before args0 about1) = true
  refine all_split ?_ w_codes
  rw [← List.take_append_drop 24 words1, List.all_append, w_t1, ← List.take_append_drop 24 (words1.drop 24), List.all_append, w_t2, w_t3]
  rfl
set_option maxRecDepth 65536 in
theorem w_case : (Jvm.Cond.and given_1 narrow_1).before args0 about1 = true := by decide +kernel
theorem w_applies : (headSpec (Jvm.Cond.code x code maxLocals ret :: tables_1) room_1).applies x e0.platform about1 = true :=
  (Spec.applies_iff w_frames).mpr ⟨w_running, w_runnable, w_alone, w_named, w_hears, w_ripe, w_room, w_tables⟩
theorem atStart : AtStart classFile x code maxLocals ret World_1 tables_1 room_1 Calls_1 rest_1 Pre_1 launch0 p0 e0 about1 theMethod args0 below0 :=
  ⟨lists_1, trivial, launch0.admits_env _ _ _, launch0.least_env, fairChoices_fair.cas, fairChoices_fair.clock, w_frames, w_args, w_heap, w_applies, trivial, trivial, w_case⟩
end start1
theorem witness_1 : WitnessClaimed_1 := ⟨start1.p0, start1.e0, start1.about1, start1.theMethod, start1.args0, start1.below0, start1.atStart⟩
end Jvm.Pilot.@@N@@
