import JvmDerived
import JvmDerived.Pilot.@@N@@Statement
import JvmDerived.Pilot.@@N@@Code
set_option linter.unusedVariables false
set_option linter.unusedSimpArgs false
namespace Jvm.RoadKit
open Sem ClassFile Op Lib Jvm.Stand Jvm.Free Jvm.LawKit
section New
variable {p : Program} {l : Launch} {e : Env} {R : Room} {s : State} {m : MethodId} {args : Array Value} {below : List Frame} {meth : Method} {c : Code} {T : State} {locs : List Loc} {cells slots : Nat}
theorem retI (X : Stand p l e R s m args below meth c T locs cells slots) (hEX : p.tables.exec = Jvm.exec) {pc : Nat} {Ls : Array Slot} {z : Int32} {rest : List Value} (hRT : meth.sig.returnType = some .int) (hd : decode c.code pc = .ok (.ireturn, 1)) {fs : List Frame}
    (hl : ∀ (f : JFrame) (acts : List Action), f.method = m → f.locked = none → f.entered = [] → (doReturn e (T.setTop f) acts (some (.int z))).1 = T.setFrames fs) : Steps p.tables e below (T.setTop (mkF m pc Ls (.int z :: rest))) (T.setFrames fs) := by
  have hm' : T.vm.method? m = some meth := X.method'
  have hn : narrow .int (.int z) = .int z := rfl
  show Steps p.tables e below (T.setTop { method := m, pc := pc, locals := Ls, stack := _ :: rest, locked := none }) _
  jvm_step X.here [X.here.top, hEX, hd, hm', hRT, hn]
  first | (intro acts; rw [hl _ acts rfl rfl rfl]) | rw [hl _ _ rfl rfl rfl]
  exact Steps.refl _
abbrev Us : Slot := .unset
abbrev Zs : Slot := .second
abbrev Nv : Slot := .val .null
abbrev Iv (x : Int32) : Slot := .val (.int x)
abbrev Lv (x : Int64) : Slot := .val (.long x)
abbrev Rv (x : Addr) : Slot := .val (.ref x)
/-- the body comes to its end from st: it returns v, and Q holds of v, of the heap and of the places written -/
def Done (p : Program) (e : Env) (below : List Frame) (s : State) (Q : Option Value → Heap → List Loc → Prop) (kc ks : Nat) (st : State) : Prop :=
  ∃ (s₂ : State) (o : Outcome), Steps p.tables e below st s₂ ∧ s₂.status = .running ∧ Ended s₂ below o ∧ ∃ v L, o = .returned v ∧ Q v s₂.heap L ∧ FrameEnd s o s₂ L kc ks
variable {Q : Option Value → Heap → List Loc → Prop} {kc ks : Nat}
theorem Done.pre {st st' : State} (h : ∀ t, Steps p.tables e below st' t → Steps p.tables e below st t) (D : Done p e below s Q kc ks st') : Done p e below s Q kc ks st := by
  obtain ⟨s₂, o, h1, r⟩ := D
  exact ⟨s₂, o, h _ h1, r⟩
theorem Done.retI (X : Stand p l e R s m args below meth c T locs cells slots) (hEX : p.tables.exec = Jvm.exec) (hLK : meth.locks = false) {pc : Nat} {Ls : Array Slot} {z : Int32} {rest : List Value} (hRT : meth.sig.returnType = some .int) (hd : decode c.code pc = .ok (.ireturn, 1))
    (hQ : Q (some (.int z)) T.heap locs) (hc : cells ≤ kc) (hs : slots ≤ ks) : Done p e below s Q kc ks (T.setTop (mkF m pc Ls (.int z :: rest))) := by
  obtain ⟨fs, hr, hrun, hended, hW, hsame⟩ := X.leave (v := some (.int z)) (fun h => by rw [hRT] at h; cases h) hLK
  exact ⟨_, _, Jvm.RoadKit.retI X hEX hRT hd hr, hrun, hended, _, _, rfl, hQ, ⟨_, rfl⟩, hW, hsame.mono hc hs⟩
theorem Done.retN (X : Stand p l e R s m args below meth c T locs cells slots) (hEX : p.tables.exec = Jvm.exec) (hLK : meth.locks = false) {pc : Nat} {Ls : Array Slot} {z : Int32} {t : FieldType} {rest : List Value} (hRT : meth.sig.returnType = some t) (ht : t = .boolean ∨ t = .byte ∨ t = .char ∨ t = .short) (hd : decode c.code pc = .ok (.ireturn, 1))
    (hQ : Q (some (.int (nar t z))) T.heap locs) (hc : cells ≤ kc) (hs : slots ≤ ks) : Done p e below s Q kc ks (T.setTop (mkF m pc Ls (.int z :: rest))) := by
  obtain ⟨fs, hr, hrun, hended, hW, hsame⟩ := X.leave (v := some (.int (nar t z))) (fun h => by rw [hRT] at h; cases h) hLK
  exact ⟨_, _, Jvm.RoadKit.retN X hEX hRT ht hd hr, hrun, hended, _, _, rfl, hQ, ⟨_, rfl⟩, hW, hsame.mono hc hs⟩
theorem Done.retL (X : Stand p l e R s m args below meth c T locs cells slots) (hEX : p.tables.exec = Jvm.exec) (hLK : meth.locks = false) {pc : Nat} {Ls : Array Slot} {z : Int64} {rest : List Value} (hRT : meth.sig.returnType = some .long) (hd : decode c.code pc = .ok (.lreturn, 1))
    (hQ : Q (some (.long z)) T.heap locs) (hc : cells ≤ kc) (hs : slots ≤ ks) : Done p e below s Q kc ks (T.setTop (mkF m pc Ls (.long z :: rest))) := by
  obtain ⟨fs, hr, hrun, hended, hW, hsame⟩ := X.leave (v := some (.long z)) (fun h => by rw [hRT] at h; cases h) hLK
  exact ⟨_, _, retOut X hEX hRT rfl (Or.inr (Or.inl ⟨rfl, rfl, _, rfl⟩)) hd hr, hrun, hended, _, _, rfl, hQ, ⟨_, rfl⟩, hW, hsame.mono hc hs⟩
theorem Done.retA (X : Stand p l e R s m args below meth c T locs cells slots) (hEX : p.tables.exec = Jvm.exec) (hLK : meth.locks = false) {pc : Nat} {Ls : Array Slot} {w : Value} {t : FieldType} {rest : List Value} (hRT : meth.sig.returnType = some t) (ht : t.isReference = true) (hw : w.isRef = true) (hd : decode c.code pc = .ok (.areturn, 1))
    (hQ : Q (some w) T.heap locs) (hc : cells ≤ kc) (hs : slots ≤ ks) : Done p e below s Q kc ks (T.setTop (mkF m pc Ls (w :: rest))) := by
  obtain ⟨fs, hr, hrun, hended, hW, hsame⟩ := X.leave (v := some w) (fun h => by rw [hRT] at h; cases h) hLK
  have hn : narrow t w = w := by cases t <;> first | rfl | (simp [FieldType.isReference] at ht)
  exact ⟨_, _, retOut X hEX hRT hn (Or.inr (Or.inr (Or.inr (Or.inr ⟨rfl, ht, hw⟩)))) hd hr, hrun, hended, _, _, rfl, hQ, ⟨_, rfl⟩, hW, hsame.mono hc hs⟩
theorem Done.retV (X : Stand p l e R s m args below meth c T locs cells slots) (hEX : p.tables.exec = Jvm.exec) (hLK : meth.locks = false) {pc : Nat} {Ls : Array Slot} (hRT : meth.sig.returnType = none) (hd : decode c.code pc = .ok (.return_, 1))
    (hQ : Q none T.heap locs) (hc : cells ≤ kc) (hs : slots ≤ ks) : Done p e below s Q kc ks (T.setTop (mkF m pc Ls [])) := by
  obtain ⟨fs, hr, hrun, hended, hW, hsame⟩ := X.leave (v := none) (fun _ => rfl) hLK
  exact ⟨_, _, X.returnOut hEX hRT hd hr, hrun, hended, _, _, rfl, hQ, ⟨_, rfl⟩, hW, hsame.mono hc hs⟩
end New
end Jvm.RoadKit
namespace Jvm.Pilot.@@N@@
open Jvm Jvm.ClassFile Sem Op Lib Jvm.Free Jvm.Stand Jvm.LawKit Jvm.RoadKit Bundle Jvm.Pilot.@@N@@.Jvm.D

def own_most (q : Int64) : Int64 := if q < (((4294967294 : Int64) - (1048576 : Int64)) / (1000 : Int64)) then ((1000 : Int64) * q) + (1048576 : Int64) else (4294967294 : Int64)
def own_minL (x y : Int64) : Int64 := if y < x then y else x
theorem own_K : ((4294967294 : Int64) - (1048576 : Int64)) / (1000 : Int64) = 4293918 := by decide +kernel
theorem own_m63 (x : Int64) : 0 ≤ (x &&& (9223372036854775807 : Int64)).toInt := by
  rw [c_maskL x _ 63 (by decide) (by decide +kernel)]; omega
theorem own_m24 (x : Int64) : 0 ≤ (x &&& (16777215 : Int64)).toInt := by
  rw [c_maskL x _ 24 (by decide) (by decide +kernel)]; omega
theorem own_law1 (len : Int64) (h : (4294967296 : Int64) < len) : own_most len = (4294967294 : Int64) := by
  rw [own_most, if_neg]
  rw [own_K, Int64.lt_iff_toInt_lt]; rw [Int64.lt_iff_toInt_lt] at h
  have e1 : (4293918 : Int64).toInt = 4293918 := rfl
  have e2 : (4294967296 : Int64).toInt = 4294967296 := rfl
  omega
theorem own_lin (len : Int64) (h0 : 0 ≤ len.toInt) (h : ¬ (4294967296 : Int64) < len) : (((1000 : Int64) * len) + (1048576 : Int64)).toInt = 1000 * len.toInt + 1048576 := by
  rw [Int64.lt_iff_toInt_lt] at h
  have e2 : (4294967296 : Int64).toInt = 4294967296 := rfl
  have e3 : (1000 : Int64).toInt = 1000 := rfl
  have e4 : (1048576 : Int64).toInt = 1048576 := rfl
  have a1 := c_lmul (1000 : Int64) len
  have a2 := c_ladd ((1000 : Int64) * len) (1048576 : Int64)
  have a3 := rng64 ((1000 : Int64) * len)
  have a4 := rng64 (((1000 : Int64) * len) + (1048576 : Int64))
  rw [e3] at a1; rw [e4] at a2
  omega
theorem own_law2 (len : Int64) (h0 : 0 ≤ len.toInt) (h : ¬ (4294967296 : Int64) < len) (hne : ¬ own_most len = own_minL (((1000 : Int64) * len) + (1048576 : Int64)) (4294967294 : Int64)) :
    own_most len = (4294967294 : Int64) ∧ (4294967294 : Int64) < (((1000 : Int64) * len) + (1048576 : Int64)) + (1000 : Int64) := by
  have hl := own_lin len h0 h
  have e1 : (4293918 : Int64).toInt = 4293918 := rfl
  have e2 : (4294967294 : Int64).toInt = 4294967294 := rfl
  have e3 : (1000 : Int64).toInt = 1000 := rfl
  have e5 : (4294967296 : Int64).toInt = 4294967296 := rfl
  rw [Int64.lt_iff_toInt_lt] at h
  by_cases hq : len < (((4294967294 : Int64) - (1048576 : Int64)) / (1000 : Int64))
  · exfalso; apply hne
    rw [own_most, if_pos hq, own_minL, if_neg]
    rw [own_K, Int64.lt_iff_toInt_lt] at hq; rw [Int64.lt_iff_toInt_lt, hl]; omega
  · have hm : own_most len = (4294967294 : Int64) := by rw [own_most, if_neg hq]
    refine ⟨hm, ?_⟩
    rw [own_K, Int64.lt_iff_toInt_lt] at hq
    have a2 := c_ladd (((1000 : Int64) * len) + (1048576 : Int64)) (1000 : Int64)
    have a4 := rng64 ((((1000 : Int64) * len) + (1048576 : Int64)) + (1000 : Int64))
    have a5 : ((((1000 : Int64) * len) + (1048576 : Int64)) + (1000 : Int64)).toInt = 1000 * len.toInt + 1048576 + 1000 := by clear hq hne hm; omega
    rw [Int64.lt_iff_toInt_lt, a5]
    omega
theorem d_prog_67_method_2_code_0 : decode prog_67_method_2_code 0 = .ok (.ldc2_w 9, 3) := by decide +kernel
theorem d_prog_67_method_2_code_3 : decode prog_67_method_2_code 3 = .ok (.lstore_n 2, 1) := by decide +kernel
theorem d_prog_67_method_2_code_4 : decode prog_67_method_2_code 4 = .ok (.lload_n 0, 1) := by decide +kernel
theorem d_prog_67_method_2_code_5 : decode prog_67_method_2_code 5 = .ok (.lload_n 2, 1) := by decide +kernel
theorem d_prog_67_method_2_code_6 : decode prog_67_method_2_code 6 = .ok (.ldc2_w 11, 3) := by decide +kernel
theorem d_prog_67_method_2_code_9 : decode prog_67_method_2_code 9 = .ok (.lsub, 1) := by decide +kernel
theorem d_prog_67_method_2_code_10 : decode prog_67_method_2_code 10 = .ok (.ldc2_w 13, 3) := by decide +kernel
theorem d_prog_67_method_2_code_13 : decode prog_67_method_2_code 13 = .ok (.ldiv, 1) := by decide +kernel
theorem d_prog_67_method_2_code_14 : decode prog_67_method_2_code 14 = .ok (.lcmp, 1) := by decide +kernel
theorem d_prog_67_method_2_code_15 : decode prog_67_method_2_code 15 = .ok (.ifCond .lt 5, 3) := by decide +kernel
theorem d_prog_67_method_2_code_20 : decode prog_67_method_2_code 20 = .ok (.ldc2_w 13, 3) := by decide +kernel
theorem d_prog_67_method_2_code_23 : decode prog_67_method_2_code 23 = .ok (.lload_n 0, 1) := by decide +kernel
theorem d_prog_67_method_2_code_24 : decode prog_67_method_2_code 24 = .ok (.lmul, 1) := by decide +kernel
theorem d_prog_67_method_2_code_25 : decode prog_67_method_2_code 25 = .ok (.ldc2_w 11, 3) := by decide +kernel
theorem d_prog_67_method_2_code_28 : decode prog_67_method_2_code 28 = .ok (.ladd, 1) := by decide +kernel
theorem d_prog_67_method_2_code_29 : decode prog_67_method_2_code 29 = .ok (.lreturn, 1) := by decide +kernel
theorem d_prog_67_method_2_code_18 : decode prog_67_method_2_code 18 = .ok (.lload_n 2, 1) := by decide +kernel
theorem d_prog_67_method_2_code_19 : decode prog_67_method_2_code 19 = .ok (.lreturn, 1) := by decide +kernel
def Qrm_most (Z : State) (q : Int64) (h0 : Heap) (n0 : Nat) (v_ : Option Value) (h_ : Heap) (L_ : List Loc) : Prop := v_ = some (.long (own_most q)) ∧ Fr n0 L_ ∧ h_ = h0
theorem ef_rm_most (m : MethodId) (x0 : Int64) : entryFrame m #[(.long x0)] 4 = mkF m 0 #[.val (.long x0), .second, .unset, .unset] [] := by first | (simp [entryFrame, mkF, argsToLocals, Value.category]; done) | rfl
theorem pn_com_example_guard3_guard3_Part15Zip : plainName "com/example/guard3/guard3/Part15Zip" = true := by first | (simp [plainName, overriddenIn]; done) | decide +kernel
set_option maxRecDepth 65536 in
set_option maxHeartbeats 40000000 in
theorem rm_most (l : Launch) (Z : State) (aZ : Array Value) (hw : ∀ d ∈ tables_1, d.before aZ Z = true) (ws : List Jvm.Cond) (q : Int64) (h0 : Heap) (n0 : Nat) (Z0 : n0 ≤ h0.size) :
    MetFree l (⟨"com/example/guard3/guard3/Part15Zip", "mostExtracted", "(J)J"⟩ : MethodName) (head1 (Jvm.Cond.code (⟨"com/example/guard3/guard3/Part15Zip", "mostExtracted", "(J)J"⟩ : MethodName) prog_67_method_2_code 4 (some .long) :: ws) ({ frames := 0, cells := 0, slots := 0, locals := 0 } : Room)) (fun a_ U_ => a_ = #[(.long q)] ∧ Z.Warmed39 U_.vm ∧ U_.heap = h0) (fun _ _ _ _ _ => True) (fun _ U_ o_ U2_ => ∃ v_ L_, o_ = .returned v_ ∧ Qrm_most Z q h0 n0 v_ U2_.heap L_ ∧ FrameEnd U_ o_ U2_ L_ ({ frames := 0, cells := 0, slots := 0, locals := 0 } : Room).cells ({ frames := 0, cells := 0, slots := 0, locals := 0 } : Room).slots) := by
  refine MetFree.of_bodySF (plainFor_of_name pn_com_example_guard3_guard3_Part15Zip) hisR ?_
  intro p e s m args below meth cO s₁ Bd hml0 hP hK
  obtain ⟨rfl, hZW, hh⟩ := hP
  have hEX := Bd.exec
  have hBY := Bd.bytes
  have hMX : cO.maxLocals = 4 := hml0
  have hOW : s.vm.findClass "com/example/guard3/guard3/Part15Zip" = some m.cls := findClass_of_methodNamed Bd.named
  have hNM := (name_of_methodNamed Bd.named Bd.method).1
  have hLK := Bd.notSynchronized
  have hRT := Bd.returns
  have X0 : Stand p l e ({ frames := 0, cells := 0, slots := 0, locals := 0 } : Room) s m #[(.long q)] below meth cO s₁ [] 0 0 := Stand.of_body Bd
  have e0 : s₁.heap = h0 := by rw [← hh, Bd.state]; rfl
  have N0 := Fr.nil n0
  have K0 : Keep h0 h0 [] := Keep.refl _ _
  show Done p e below s (Qrm_most Z q h0 n0) ({ frames := 0, cells := 0, slots := 0, locals := 0 } : Room).cells ({ frames := 0, cells := 0, slots := 0, locals := 0 } : Room).slots (s₁.setTop (entryFrame m #[(.long q)] 4))
  refine Done.pre (fun t_ k_ => castTop (ef_rm_most m q) k_) ?_
  show Done _ _ _ _ _ _ _ (s₁.setTop (mkF m 0 #[Lv q, Zs, Us, Us] []))
  have sg_1 : ∀ tt_, Steps p.tables e below (s₁.setTop (mkF m 15 #[Lv q, Zs, Lv (4294967294 : Int64), Zs] [(.int (lcmpW q (((4294967294 : Int64) - (1048576 : Int64)) / (1000 : Int64))))])) tt_ → Steps p.tables e below (s₁.setTop (mkF m 0 #[Lv q, Zs, Us, Us] [])) tt_ := by
    intro tt_ kt_
    refine X0.ldc2Long hEX hOW (mvT hZW (hw _ (List.mem_of_getElem? (i := 6) rfl))) (g := (mkF m 0 #[Lv q, Zs, Us, Us] [])) rfl (hb hBY d_prog_67_method_2_code_0) _ ?_
    show Steps p.tables e below (s₁.setTop (mkF m 3 #[Lv q, Zs, Us, Us] [(.long (4294967294 : Int64))])) tt_
    refine XS.lstoreN X0.here hEX rfl (hb hBY d_prog_67_method_2_code_3) rfl (l' := #[Lv q, Zs, Lv (4294967294 : Int64), Zs]) rfl ?_
    show Steps p.tables e below (s₁.setTop (mkF m 4 #[Lv q, Zs, Lv (4294967294 : Int64), Zs] [])) tt_
    refine XS.lloadN X0.here hEX rfl (hb hBY d_prog_67_method_2_code_4) rfl ?_
    show Steps p.tables e below (s₁.setTop (mkF m 5 #[Lv q, Zs, Lv (4294967294 : Int64), Zs] [(.long q)])) tt_
    refine XS.lloadN X0.here hEX rfl (hb hBY d_prog_67_method_2_code_5) rfl ?_
    show Steps p.tables e below (s₁.setTop (mkF m 6 #[Lv q, Zs, Lv (4294967294 : Int64), Zs] [(.long (4294967294 : Int64)), (.long q)])) tt_
    refine X0.ldc2Long hEX hOW (mvT hZW (hw _ (List.mem_of_getElem? (i := 7) rfl))) (g := (mkF m 6 #[Lv q, Zs, Lv (4294967294 : Int64), Zs] [(.long (4294967294 : Int64)), (.long q)])) rfl (hb hBY d_prog_67_method_2_code_6) _ ?_
    show Steps p.tables e below (s₁.setTop (mkF m 9 #[Lv q, Zs, Lv (4294967294 : Int64), Zs] [(.long (1048576 : Int64)), (.long (4294967294 : Int64)), (.long q)])) tt_
    refine XS.lsub X0.here hEX rfl (hb hBY d_prog_67_method_2_code_9) rfl ?_
    show Steps p.tables e below (s₁.setTop (mkF m 10 #[Lv q, Zs, Lv (4294967294 : Int64), Zs] [(.long ((4294967294 : Int64) - (1048576 : Int64))), (.long q)])) tt_
    refine X0.ldc2Long hEX hOW (mvT hZW (hw _ (List.mem_of_getElem? (i := 8) rfl))) (g := (mkF m 10 #[Lv q, Zs, Lv (4294967294 : Int64), Zs] [(.long ((4294967294 : Int64) - (1048576 : Int64))), (.long q)])) rfl (hb hBY d_prog_67_method_2_code_10) _ ?_
    show Steps p.tables e below (s₁.setTop (mkF m 13 #[Lv q, Zs, Lv (4294967294 : Int64), Zs] [(.long (1000 : Int64)), (.long ((4294967294 : Int64) - (1048576 : Int64))), (.long q)])) tt_
    refine XS.ldiv X0.here hEX rfl (hb hBY d_prog_67_method_2_code_13) rfl (by decide) ?_
    show Steps p.tables e below (s₁.setTop (mkF m 14 #[Lv q, Zs, Lv (4294967294 : Int64), Zs] [(.long (((4294967294 : Int64) - (1048576 : Int64)) / (1000 : Int64))), (.long q)])) tt_
    refine XS.lcmp X0.here hEX rfl (hb hBY d_prog_67_method_2_code_14) rfl ?_
    exact kt_
  refine Done.pre sg_1 ?_
  by_cases hc15 : q < (((4294967294 : Int64) - (1048576 : Int64)) / (1000 : Int64))
  · skip
    have sg_2 : ∀ tt_, Steps p.tables e below (s₁.setTop (mkF m 29 #[Lv q, Zs, Lv (4294967294 : Int64), Zs] [(.long (((1000 : Int64) * q) + (1048576 : Int64)))])) tt_ → Steps p.tables e below (s₁.setTop (mkF m 15 #[Lv q, Zs, Lv (4294967294 : Int64), Zs] [(.int (lcmpW q (((4294967294 : Int64) - (1048576 : Int64)) / (1000 : Int64))))])) tt_ := by
      intro tt_ kt_
      refine XS.ifYes X0.here hEX rfl (pc0 := 15) (pc' := 20) rfl (hb hBY d_prog_67_method_2_code_15) rfl ((if0 _ _).trans (tlt ((lw_lt _ _).mpr hc15)).1) (by decide) (by decide) ?_
      show Steps p.tables e below (s₁.setTop (mkF m 20 #[Lv q, Zs, Lv (4294967294 : Int64), Zs] [])) tt_
      refine X0.ldc2Long hEX hOW (mvT hZW (hw _ (List.mem_of_getElem? (i := 8) rfl))) (g := (mkF m 20 #[Lv q, Zs, Lv (4294967294 : Int64), Zs] [])) rfl (hb hBY d_prog_67_method_2_code_20) _ ?_
      show Steps p.tables e below (s₁.setTop (mkF m 23 #[Lv q, Zs, Lv (4294967294 : Int64), Zs] [(.long (1000 : Int64))])) tt_
      refine XS.lloadN X0.here hEX rfl (hb hBY d_prog_67_method_2_code_23) rfl ?_
      show Steps p.tables e below (s₁.setTop (mkF m 24 #[Lv q, Zs, Lv (4294967294 : Int64), Zs] [(.long q), (.long (1000 : Int64))])) tt_
      refine XS.lmul X0.here hEX rfl (hb hBY d_prog_67_method_2_code_24) rfl ?_
      show Steps p.tables e below (s₁.setTop (mkF m 25 #[Lv q, Zs, Lv (4294967294 : Int64), Zs] [(.long ((1000 : Int64) * q))])) tt_
      refine X0.ldc2Long hEX hOW (mvT hZW (hw _ (List.mem_of_getElem? (i := 7) rfl))) (g := (mkF m 25 #[Lv q, Zs, Lv (4294967294 : Int64), Zs] [(.long ((1000 : Int64) * q))])) rfl (hb hBY d_prog_67_method_2_code_25) _ ?_
      show Steps p.tables e below (s₁.setTop (mkF m 28 #[Lv q, Zs, Lv (4294967294 : Int64), Zs] [(.long (1048576 : Int64)), (.long ((1000 : Int64) * q))])) tt_
      refine XS.ladd X0.here hEX rfl (hb hBY d_prog_67_method_2_code_28) rfl ?_
      exact kt_
    refine Done.pre sg_2 ?_
    exact Done.retL X0 hEX hLK hRT (hb hBY d_prog_67_method_2_code_29) (by rw [e0]; exact ⟨(by rw [own_most, if_pos hc15]), N0, rfl⟩) (by decide) (by decide)
  · skip
    have sg_3 : ∀ tt_, Steps p.tables e below (s₁.setTop (mkF m 19 #[Lv q, Zs, Lv (4294967294 : Int64), Zs] [(.long (4294967294 : Int64))])) tt_ → Steps p.tables e below (s₁.setTop (mkF m 15 #[Lv q, Zs, Lv (4294967294 : Int64), Zs] [(.int (lcmpW q (((4294967294 : Int64) - (1048576 : Int64)) / (1000 : Int64))))])) tt_ := by
      intro tt_ kt_
      refine XS.ifNo X0.here hEX rfl (hb hBY d_prog_67_method_2_code_15) rfl ((if0 _ _).trans (flt (fun q => hc15 ((lw_lt _ _).mp q))).1) ?_
      show Steps p.tables e below (s₁.setTop (mkF m 18 #[Lv q, Zs, Lv (4294967294 : Int64), Zs] [])) tt_
      refine XS.lloadN X0.here hEX rfl (hb hBY d_prog_67_method_2_code_18) rfl ?_
      exact kt_
    refine Done.pre sg_3 ?_
    exact Done.retL X0 hEX hLK hRT (hb hBY d_prog_67_method_2_code_19) (by rw [e0]; exact ⟨(by rw [own_most, if_neg hc15]), N0, rfl⟩) (by decide) (by decide)
theorem d_jdk_29_method_70_code_0 : decode jdk_29_method_70_code 0 = .ok (.lload_n 0, 1) := by decide +kernel
theorem d_jdk_29_method_70_code_1 : decode jdk_29_method_70_code 1 = .ok (.lload_n 2, 1) := by decide +kernel
theorem d_jdk_29_method_70_code_2 : decode jdk_29_method_70_code 2 = .ok (.lcmp, 1) := by decide +kernel
theorem d_jdk_29_method_70_code_3 : decode jdk_29_method_70_code 3 = .ok (.ifCond .gt 7, 3) := by decide +kernel
theorem d_jdk_29_method_70_code_10 : decode jdk_29_method_70_code 10 = .ok (.lload_n 2, 1) := by decide +kernel
theorem d_jdk_29_method_70_code_11 : decode jdk_29_method_70_code 11 = .ok (.lreturn, 1) := by decide +kernel
theorem d_jdk_29_method_70_code_6 : decode jdk_29_method_70_code 6 = .ok (.lload_n 0, 1) := by decide +kernel
theorem d_jdk_29_method_70_code_7 : decode jdk_29_method_70_code 7 = .ok (.goto 4, 3) := by decide +kernel
def Qrm_min (Z : State) (x : Int64) (y : Int64) (h0 : Heap) (n0 : Nat) (v_ : Option Value) (h_ : Heap) (L_ : List Loc) : Prop := v_ = some (.long (own_minL x y)) ∧ Fr n0 L_ ∧ h_ = h0
theorem ef_rm_min (m : MethodId) (x0 : Int64) (x1 : Int64) : entryFrame m #[(.long x0), (.long x1)] 4 = mkF m 0 #[.val (.long x0), .second, .val (.long x1), .second] [] := by first | (simp [entryFrame, mkF, argsToLocals, Value.category]; done) | rfl
set_option maxRecDepth 65536 in
set_option maxHeartbeats 40000000 in
theorem rm_min (l : Launch) (Z : State) (aZ : Array Value) (hw : ∀ d ∈ tables_1, d.before aZ Z = true) (ws : List Jvm.Cond) (x : Int64) (y : Int64) (h0 : Heap) (n0 : Nat) (Z0 : n0 ≤ h0.size) :
    MetFree l (⟨"java/lang/Math", "min", "(JJ)J"⟩ : MethodName) (head1 (Jvm.Cond.code (⟨"java/lang/Math", "min", "(JJ)J"⟩ : MethodName) jdk_29_method_70_code 4 (some .long) :: ws) ({ frames := 0, cells := 0, slots := 0, locals := 0 } : Room)) (fun a_ U_ => a_ = #[(.long x), (.long y)] ∧ Z.Warmed39 U_.vm ∧ U_.heap = h0) (fun _ _ _ _ _ => True) (fun _ U_ o_ U2_ => ∃ v_ L_, o_ = .returned v_ ∧ Qrm_min Z x y h0 n0 v_ U2_.heap L_ ∧ FrameEnd U_ o_ U2_ L_ ({ frames := 0, cells := 0, slots := 0, locals := 0 } : Room).cells ({ frames := 0, cells := 0, slots := 0, locals := 0 } : Room).slots) := by
  refine MetFree.of_bodySF (Jvm.Free.JP.mathPlain rfl (by decide +kernel)) hisR ?_
  intro p e s m args below meth cO s₁ Bd hml0 hP hK
  obtain ⟨rfl, hZW, hh⟩ := hP
  have hEX := Bd.exec
  have hBY := Bd.bytes
  have hMX : cO.maxLocals = 4 := hml0
  have hOW : s.vm.findClass "java/lang/Math" = some m.cls := findClass_of_methodNamed Bd.named
  have hNM := (name_of_methodNamed Bd.named Bd.method).1
  have hLK := Bd.notSynchronized
  have hRT := Bd.returns
  have X0 : Stand p l e ({ frames := 0, cells := 0, slots := 0, locals := 0 } : Room) s m #[(.long x), (.long y)] below meth cO s₁ [] 0 0 := Stand.of_body Bd
  have e0 : s₁.heap = h0 := by rw [← hh, Bd.state]; rfl
  have N0 := Fr.nil n0
  have K0 : Keep h0 h0 [] := Keep.refl _ _
  show Done p e below s (Qrm_min Z x y h0 n0) ({ frames := 0, cells := 0, slots := 0, locals := 0 } : Room).cells ({ frames := 0, cells := 0, slots := 0, locals := 0 } : Room).slots (s₁.setTop (entryFrame m #[(.long x), (.long y)] 4))
  refine Done.pre (fun t_ k_ => castTop (ef_rm_min m x y) k_) ?_
  show Done _ _ _ _ _ _ _ (s₁.setTop (mkF m 0 #[Lv x, Zs, Lv y, Zs] []))
  have sg_1 : ∀ tt_, Steps p.tables e below (s₁.setTop (mkF m 3 #[Lv x, Zs, Lv y, Zs] [(.int (lcmpW x y))])) tt_ → Steps p.tables e below (s₁.setTop (mkF m 0 #[Lv x, Zs, Lv y, Zs] [])) tt_ := by
    intro tt_ kt_
    refine XS.lloadN X0.here hEX rfl (hb hBY d_jdk_29_method_70_code_0) rfl ?_
    show Steps p.tables e below (s₁.setTop (mkF m 1 #[Lv x, Zs, Lv y, Zs] [(.long x)])) tt_
    refine XS.lloadN X0.here hEX rfl (hb hBY d_jdk_29_method_70_code_1) rfl ?_
    show Steps p.tables e below (s₁.setTop (mkF m 2 #[Lv x, Zs, Lv y, Zs] [(.long y), (.long x)])) tt_
    refine XS.lcmp X0.here hEX rfl (hb hBY d_jdk_29_method_70_code_2) rfl ?_
    exact kt_
  refine Done.pre sg_1 ?_
  by_cases hc3 : y < x
  · skip
    have sg_2 : ∀ tt_, Steps p.tables e below (s₁.setTop (mkF m 11 #[Lv x, Zs, Lv y, Zs] [(.long y)])) tt_ → Steps p.tables e below (s₁.setTop (mkF m 3 #[Lv x, Zs, Lv y, Zs] [(.int (lcmpW x y))])) tt_ := by
      intro tt_ kt_
      refine XS.ifYes X0.here hEX rfl (pc0 := 3) (pc' := 10) rfl (hb hBY d_jdk_29_method_70_code_3) rfl ((if0 _ _).trans (tlt ((lw_gt _ _).mpr hc3)).2.2.1) (by decide) (by decide) ?_
      show Steps p.tables e below (s₁.setTop (mkF m 10 #[Lv x, Zs, Lv y, Zs] [])) tt_
      refine XS.lloadN X0.here hEX rfl (hb hBY d_jdk_29_method_70_code_10) rfl ?_
      exact kt_
    refine Done.pre sg_2 ?_
    exact Done.retL X0 hEX hLK hRT (hb hBY d_jdk_29_method_70_code_11) (by rw [e0]; exact ⟨(by rw [own_minL, if_pos hc3]), N0, rfl⟩) (by decide) (by decide)
  · skip
    have sg_3 : ∀ tt_, Steps p.tables e below (s₁.setTop (mkF m 11 #[Lv x, Zs, Lv y, Zs] [(.long x)])) tt_ → Steps p.tables e below (s₁.setTop (mkF m 3 #[Lv x, Zs, Lv y, Zs] [(.int (lcmpW x y))])) tt_ := by
      intro tt_ kt_
      refine XS.ifNo X0.here hEX rfl (hb hBY d_jdk_29_method_70_code_3) rfl ((if0 _ _).trans (flt (fun q => hc3 ((lw_gt _ _).mp q))).2.2.1) ?_
      show Steps p.tables e below (s₁.setTop (mkF m 6 #[Lv x, Zs, Lv y, Zs] [])) tt_
      refine XS.lloadN X0.here hEX rfl (hb hBY d_jdk_29_method_70_code_6) rfl ?_
      show Steps p.tables e below (s₁.setTop (mkF m 7 #[Lv x, Zs, Lv y, Zs] [(.long x)])) tt_
      refine XS.goto X0.here hEX rfl (pc0 := 7) (pc' := 11) rfl (hb hBY d_jdk_29_method_70_code_7) (by decide) (by decide) ?_
      exact kt_
    refine Done.pre sg_3 ?_
    exact Done.retL X0 hEX hLK hRT (hb hBY d_jdk_29_method_70_code_11) (by rw [e0]; exact ⟨(by rw [own_minL, if_neg hc3]), N0, rfl⟩) (by decide) (by decide)
theorem pd__J_J_0 : parseMethodDescriptor "(J)J" = some ⟨[.long], some .long⟩ := by decide +kernel
theorem pd__JJ_J_1 : parseMethodDescriptor "(JJ)J" = some ⟨[.long, .long], some .long⟩ := by decide +kernel
def Qrm0 (Z : State) (q1 : Int64) (p2 : Int32) (h0 : Heap) (n0 : Nat) (v_ : Option Value) (h_ : Heap) (L_ : List Loc) : Prop := v_ = some (.int (1 : Int32)) ∧ Fr n0 L_ ∧ h_ = h0
theorem ef_rm0 (m : MethodId) (x0 : Int64) (x1 : Int32) : entryFrame m #[(.long x0), (.int x1)] maxLocals = mkF m 0 #[.val (.long x0), .second, .val (.int x1), .unset, .unset, .unset, .unset, .unset, .unset, .unset, .unset, .unset, .unset] [] := by first | (simp [entryFrame, mkF, argsToLocals, Value.category, maxLocals]; done) | rfl
theorem pn_com_example_guard3_guard3_Part15ZipMostExtractedPinLaw : plainName "com/example/guard3/guard3/Part15ZipMostExtractedPinLaw" = true := by first | (simp [plainName, overriddenIn]; done) | decide +kernel
set_option maxRecDepth 65536 in
set_option maxHeartbeats 40000000 in
theorem rm0 (l : Launch) (Z : State) (aZ : Array Value) (hw : ∀ d ∈ tables_1, d.before aZ Z = true) (ws : List Jvm.Cond) (q1 : Int64) (p2 : Int32) (h0 : Heap) (n0 : Nat) (Z0 : n0 ≤ h0.size) :
    MetFree l x (head1 (Jvm.Cond.code x code maxLocals ret :: ws) room_1) (fun a_ U_ => a_ = #[(.long q1), (.int p2)] ∧ Z.Warmed39 U_.vm ∧ U_.heap = h0) (fun _ _ _ _ _ => True) (fun _ U_ o_ U2_ => ∃ v_ L_, o_ = .returned v_ ∧ Qrm0 Z q1 p2 h0 n0 v_ U2_.heap L_ ∧ FrameEnd U_ o_ U2_ L_ room_1.cells room_1.slots) := by
  refine MetFree.of_bodySF (plainFor_of_name pn_com_example_guard3_guard3_Part15ZipMostExtractedPinLaw) hisR ?_
  intro p e s m args below meth cO s₁ Bd hml0 hP hK
  obtain ⟨rfl, hZW, hh⟩ := hP
  have hEX := Bd.exec
  have hBY := Bd.bytes
  have hMX : cO.maxLocals = 13 := hml0
  have hOW : s.vm.findClass "com/example/guard3/guard3/Part15ZipMostExtractedPinLaw" = some m.cls := findClass_of_methodNamed Bd.named
  have hNM := (name_of_methodNamed Bd.named Bd.method).1
  have hLK := Bd.notSynchronized
  have hRT := Bd.returns
  have X0 : Stand p l e room_1 s m #[(.long q1), (.int p2)] below meth cO s₁ [] 0 0 := Stand.of_body Bd
  have e0 : s₁.heap = h0 := by rw [← hh, Bd.state]; rfl
  have N0 := Fr.nil n0
  have K0 : Keep h0 h0 [] := Keep.refl _ _
  show Done p e below s (Qrm0 Z q1 p2 h0 n0) room_1.cells room_1.slots (s₁.setTop (entryFrame m #[(.long q1), (.int p2)] maxLocals))
  refine Done.pre (fun t_ k_ => castTop (ef_rm0 m q1 p2) k_) ?_
  show Done _ _ _ _ _ _ _ (s₁.setTop (mkF m 0 #[Lv q1, Zs, Iv p2, Us, Us, Us, Us, Us, Us, Us, Us, Us, Us] []))
  have jn_1 : ∀ (len : Int64) (hlen : 0 ≤ len.toInt), Done p e below s (Qrm0 Z q1 p2 h0 n0) room_1.cells room_1.slots (s₁.setTop (mkF m 19 #[Lv q1, Zs, Iv p2, Us, Us, Us, Us, Us, Us, Us, Us, Us, Us] [(.long len)])) := by
    intro len hlen
    show Done _ _ _ _ _ _ _ (s₁.setTop (mkF m 19 #[Lv q1, Zs, Iv p2, Us, Us, Us, Us, Us, Us, Us, Us, Us, Us] [(.long len)]))
    have sg_2 : ∀ tt_, Steps p.tables e below (s₁.setTop (mkF m 26 #[Lv q1, Zs, Iv p2, Lv len, Zs, Lv (4294967294 : Int64), Zs, Us, Us, Us, Us, Us, Us] [(.long len)])) tt_ → Steps p.tables e below (s₁.setTop (mkF m 19 #[Lv q1, Zs, Iv p2, Us, Us, Us, Us, Us, Us, Us, Us, Us, Us] [(.long len)])) tt_ := by
      intro tt_ kt_
      refine XS.lstoreN X0.here hEX rfl (hb hBY at_19) rfl (l' := #[Lv q1, Zs, Iv p2, Lv len, Zs, Us, Us, Us, Us, Us, Us, Us, Us]) rfl ?_
      show Steps p.tables e below (s₁.setTop (mkF m 20 #[Lv q1, Zs, Iv p2, Lv len, Zs, Us, Us, Us, Us, Us, Us, Us, Us] [])) tt_
      refine X0.ldc2Long hEX hOW (mvT hZW (hw _ (List.mem_of_getElem? (i := 1) rfl))) (g := (mkF m 20 #[Lv q1, Zs, Iv p2, Lv len, Zs, Us, Us, Us, Us, Us, Us, Us, Us] [])) rfl (hb hBY at_20) _ ?_
      show Steps p.tables e below (s₁.setTop (mkF m 23 #[Lv q1, Zs, Iv p2, Lv len, Zs, Us, Us, Us, Us, Us, Us, Us, Us] [(.long (4294967294 : Int64))])) tt_
      refine XS.lstore X0.here hEX rfl (hb hBY at_23) rfl (l' := #[Lv q1, Zs, Iv p2, Lv len, Zs, Lv (4294967294 : Int64), Zs, Us, Us, Us, Us, Us, Us]) rfl ?_
      show Steps p.tables e below (s₁.setTop (mkF m 25 #[Lv q1, Zs, Iv p2, Lv len, Zs, Lv (4294967294 : Int64), Zs, Us, Us, Us, Us, Us, Us] [])) tt_
      refine XS.lloadN X0.here hEX rfl (hb hBY at_25) rfl ?_
      exact kt_
    refine Done.pre sg_2 ?_
    obtain ⟨_, _, ⟨T_3, L_3, k_3, n_3⟩, -, X_3, ⟨Lc_3, hQ_3, l_3, y_3, z_3⟩, st_3⟩ := Jvm.LawKit.callS X0 hEX (y := (⟨"com/example/guard3/guard3/Part15Zip", "mostExtracted", "(J)J"⟩ : MethodName)) hOW (mvT hZW (hw _ (List.mem_of_getElem? (i := 2) rfl))) (mvT hZW (hw _ (List.mem_of_getElem? (i := 3) rfl))) (mvT hZW (hw _ (List.mem_of_getElem? (i := 4) rfl))) (mvT hZW (hw _ (List.mem_of_getElem? (i := 5) rfl))) (by decide) (backOf (W := 0) (rm_most l Z aZ hw [] len h0 n0 (Nat.le_trans Z0 K0.1) ) hZW (hw _ (List.mem_of_getElem? (i := 5) rfl)) (hw _ (List.mem_of_getElem? (i := 4) rfl)) (by decide) (by decide)) (g := (mkF m 26 #[Lv q1, Zs, Iv p2, Lv len, Zs, Lv (4294967294 : Int64), Zs, Us, Us, Us, Us, Us, Us] [(.long len)])) rfl (by rw [hMX]; rfl) (argsL := [(.long len)]) (rest := []) (lenOf pd__J_J_0 rfl) rfl (by show 2 * 0 + _ ≤ _; exact Nat.le_of_eq rfl) (hb hBY at_26) (fun _ _ => ⟨rfl, e0, (by decide : 0 + 0 ≤ _), (by decide : 0 + 0 ≤ _)⟩)
    dsimp only [Pt.U, Pt.locs, Pt.cells, Pt.slots] at X_3 l_3 y_3 z_3 st_3 hQ_3
    subst l_3 y_3 z_3
    obtain ⟨rfl, N_3q, e_3⟩ := hQ_3
    have N_3 := Fr.app N0 N_3q
    refine Done.pre (fun _ k_ => st_3 _ k_) ?_
    show Done _ _ _ _ _ _ _ (T_3.setTop (mkF m 29 #[Lv q1, Zs, Iv p2, Lv len, Zs, Lv (4294967294 : Int64), Zs, Us, Us, Us, Us, Us, Us] [(.long (own_most len))]))
    have sg_4 : ∀ tt_, Steps p.tables e below (T_3.setTop (mkF m 36 #[Lv q1, Zs, Iv p2, Lv len, Zs, Lv (4294967294 : Int64), Zs, Lv (own_most len), Zs, Us, Us, Us, Us] [(.int (lcmpW len (4294967296 : Int64)))])) tt_ → Steps p.tables e below (T_3.setTop (mkF m 29 #[Lv q1, Zs, Iv p2, Lv len, Zs, Lv (4294967294 : Int64), Zs, Us, Us, Us, Us, Us, Us] [(.long (own_most len))])) tt_ := by
      intro tt_ kt_
      refine XS.lstore X_3.here hEX rfl (hb hBY at_29) rfl (l' := #[Lv q1, Zs, Iv p2, Lv len, Zs, Lv (4294967294 : Int64), Zs, Lv (own_most len), Zs, Us, Us, Us, Us]) rfl ?_
      show Steps p.tables e below (T_3.setTop (mkF m 31 #[Lv q1, Zs, Iv p2, Lv len, Zs, Lv (4294967294 : Int64), Zs, Lv (own_most len), Zs, Us, Us, Us, Us] [])) tt_
      refine XS.lloadN X_3.here hEX rfl (hb hBY at_31) rfl ?_
      show Steps p.tables e below (T_3.setTop (mkF m 32 #[Lv q1, Zs, Iv p2, Lv len, Zs, Lv (4294967294 : Int64), Zs, Lv (own_most len), Zs, Us, Us, Us, Us] [(.long len)])) tt_
      refine X_3.ldc2Long hEX hOW (mvT hZW (hw _ (List.mem_of_getElem? (i := 9) rfl))) (g := (mkF m 32 #[Lv q1, Zs, Iv p2, Lv len, Zs, Lv (4294967294 : Int64), Zs, Lv (own_most len), Zs, Us, Us, Us, Us] [(.long len)])) rfl (hb hBY at_32) _ ?_
      show Steps p.tables e below (T_3.setTop (mkF m 35 #[Lv q1, Zs, Iv p2, Lv len, Zs, Lv (4294967294 : Int64), Zs, Lv (own_most len), Zs, Us, Us, Us, Us] [(.long (4294967296 : Int64)), (.long len)])) tt_
      refine XS.lcmp X_3.here hEX rfl (hb hBY at_35) rfl ?_
      exact kt_
    refine Done.pre sg_4 ?_
    by_cases hc36 : (4294967296 : Int64) < len
    · skip
      have sg_5 : ∀ tt_, Steps p.tables e below (T_3.setTop (mkF m 52 #[Lv q1, Zs, Iv p2, Lv len, Zs, Lv (4294967294 : Int64), Zs, Lv (own_most len), Zs, Us, Us, Us, Us] [(.int (1 : Int32))])) tt_ → Steps p.tables e below (T_3.setTop (mkF m 36 #[Lv q1, Zs, Iv p2, Lv len, Zs, Lv (4294967294 : Int64), Zs, Lv (own_most len), Zs, Us, Us, Us, Us] [(.int (lcmpW len (4294967296 : Int64)))])) tt_ := by
        intro tt_ kt_
        refine XS.ifNo X_3.here hEX rfl (hb hBY at_36) rfl ((if0 _ _).trans (tlt ((lw_gt _ _).mpr hc36)).2.2.2) ?_
        show Steps p.tables e below (T_3.setTop (mkF m 39 #[Lv q1, Zs, Iv p2, Lv len, Zs, Lv (4294967294 : Int64), Zs, Lv (own_most len), Zs, Us, Us, Us, Us] [])) tt_
        refine XS.lload X_3.here hEX rfl (hb hBY at_39) rfl ?_
        show Steps p.tables e below (T_3.setTop (mkF m 41 #[Lv q1, Zs, Iv p2, Lv len, Zs, Lv (4294967294 : Int64), Zs, Lv (own_most len), Zs, Us, Us, Us, Us] [(.long (own_most len))])) tt_
        refine XS.lload X_3.here hEX rfl (hb hBY at_41) rfl ?_
        show Steps p.tables e below (T_3.setTop (mkF m 43 #[Lv q1, Zs, Iv p2, Lv len, Zs, Lv (4294967294 : Int64), Zs, Lv (own_most len), Zs, Us, Us, Us, Us] [(.long (4294967294 : Int64)), (.long (own_most len))])) tt_
        refine XS.lcmp X_3.here hEX rfl (hb hBY at_43) rfl ?_
        show Steps p.tables e below (T_3.setTop (mkF m 44 #[Lv q1, Zs, Iv p2, Lv len, Zs, Lv (4294967294 : Int64), Zs, Lv (own_most len), Zs, Us, Us, Us, Us] [(.int (lcmpW (own_most len) (4294967294 : Int64)))])) tt_
        refine XS.ifNo X_3.here hEX rfl (hb hBY at_44) rfl ((if0 _ _).trans (teq ((lw_eq _ _).mpr (own_law1 len hc36 : (own_most len) = (4294967294 : Int64)))).2) ?_
        show Steps p.tables e below (T_3.setTop (mkF m 47 #[Lv q1, Zs, Iv p2, Lv len, Zs, Lv (4294967294 : Int64), Zs, Lv (own_most len), Zs, Us, Us, Us, Us] [])) tt_
        refine XS.iconst X_3.here hEX rfl (hb hBY at_47) ?_
        show Steps p.tables e below (T_3.setTop (mkF m 48 #[Lv q1, Zs, Iv p2, Lv len, Zs, Lv (4294967294 : Int64), Zs, Lv (own_most len), Zs, Us, Us, Us, Us] [(.int (1 : Int32))])) tt_
        refine XS.goto X_3.here hEX rfl (pc0 := 48) (pc' := 52) rfl (hb hBY at_48) (by decide) (by decide) ?_
        exact kt_
      refine Done.pre sg_5 ?_
      exact Done.retN X_3 hEX hLK (t := .boolean) hRT (by simp) (hb hBY at_52) (by rw [e_3]; exact ⟨rfl, N_3, rfl⟩) (by decide) (by decide)
    · skip
      have sg_6 : ∀ tt_, Steps p.tables e below (T_3.setTop (mkF m 68 #[Lv q1, Zs, Iv p2, Lv len, Zs, Lv (4294967294 : Int64), Zs, Lv (own_most len), Zs, Lv (((1000 : Int64) * len) + (1048576 : Int64)), Zs, Us, Us] [(.long (4294967294 : Int64)), (.long (((1000 : Int64) * len) + (1048576 : Int64)))])) tt_ → Steps p.tables e below (T_3.setTop (mkF m 36 #[Lv q1, Zs, Iv p2, Lv len, Zs, Lv (4294967294 : Int64), Zs, Lv (own_most len), Zs, Us, Us, Us, Us] [(.int (lcmpW len (4294967296 : Int64)))])) tt_ := by
        intro tt_ kt_
        refine XS.ifYes X_3.here hEX rfl (pc0 := 36) (pc' := 53) rfl (hb hBY at_36) rfl ((if0 _ _).trans (flt (fun q => hc36 ((lw_gt _ _).mp q))).2.2.2) (by decide) (by decide) ?_
        show Steps p.tables e below (T_3.setTop (mkF m 53 #[Lv q1, Zs, Iv p2, Lv len, Zs, Lv (4294967294 : Int64), Zs, Lv (own_most len), Zs, Us, Us, Us, Us] [])) tt_
        refine X_3.ldc2Long hEX hOW (mvT hZW (hw _ (List.mem_of_getElem? (i := 10) rfl))) (g := (mkF m 53 #[Lv q1, Zs, Iv p2, Lv len, Zs, Lv (4294967294 : Int64), Zs, Lv (own_most len), Zs, Us, Us, Us, Us] [])) rfl (hb hBY at_53) _ ?_
        show Steps p.tables e below (T_3.setTop (mkF m 56 #[Lv q1, Zs, Iv p2, Lv len, Zs, Lv (4294967294 : Int64), Zs, Lv (own_most len), Zs, Us, Us, Us, Us] [(.long (1000 : Int64))])) tt_
        refine XS.lloadN X_3.here hEX rfl (hb hBY at_56) rfl ?_
        show Steps p.tables e below (T_3.setTop (mkF m 57 #[Lv q1, Zs, Iv p2, Lv len, Zs, Lv (4294967294 : Int64), Zs, Lv (own_most len), Zs, Us, Us, Us, Us] [(.long len), (.long (1000 : Int64))])) tt_
        refine XS.lmul X_3.here hEX rfl (hb hBY at_57) rfl ?_
        show Steps p.tables e below (T_3.setTop (mkF m 58 #[Lv q1, Zs, Iv p2, Lv len, Zs, Lv (4294967294 : Int64), Zs, Lv (own_most len), Zs, Us, Us, Us, Us] [(.long ((1000 : Int64) * len))])) tt_
        refine X_3.ldc2Long hEX hOW (mvT hZW (hw _ (List.mem_of_getElem? (i := 11) rfl))) (g := (mkF m 58 #[Lv q1, Zs, Iv p2, Lv len, Zs, Lv (4294967294 : Int64), Zs, Lv (own_most len), Zs, Us, Us, Us, Us] [(.long ((1000 : Int64) * len))])) rfl (hb hBY at_58) _ ?_
        show Steps p.tables e below (T_3.setTop (mkF m 61 #[Lv q1, Zs, Iv p2, Lv len, Zs, Lv (4294967294 : Int64), Zs, Lv (own_most len), Zs, Us, Us, Us, Us] [(.long (1048576 : Int64)), (.long ((1000 : Int64) * len))])) tt_
        refine XS.ladd X_3.here hEX rfl (hb hBY at_61) rfl ?_
        show Steps p.tables e below (T_3.setTop (mkF m 62 #[Lv q1, Zs, Iv p2, Lv len, Zs, Lv (4294967294 : Int64), Zs, Lv (own_most len), Zs, Us, Us, Us, Us] [(.long (((1000 : Int64) * len) + (1048576 : Int64)))])) tt_
        refine XS.lstore X_3.here hEX rfl (hb hBY at_62) rfl (l' := #[Lv q1, Zs, Iv p2, Lv len, Zs, Lv (4294967294 : Int64), Zs, Lv (own_most len), Zs, Lv (((1000 : Int64) * len) + (1048576 : Int64)), Zs, Us, Us]) rfl ?_
        show Steps p.tables e below (T_3.setTop (mkF m 64 #[Lv q1, Zs, Iv p2, Lv len, Zs, Lv (4294967294 : Int64), Zs, Lv (own_most len), Zs, Lv (((1000 : Int64) * len) + (1048576 : Int64)), Zs, Us, Us] [])) tt_
        refine XS.lload X_3.here hEX rfl (hb hBY at_64) rfl ?_
        show Steps p.tables e below (T_3.setTop (mkF m 66 #[Lv q1, Zs, Iv p2, Lv len, Zs, Lv (4294967294 : Int64), Zs, Lv (own_most len), Zs, Lv (((1000 : Int64) * len) + (1048576 : Int64)), Zs, Us, Us] [(.long (((1000 : Int64) * len) + (1048576 : Int64)))])) tt_
        refine XS.lload X_3.here hEX rfl (hb hBY at_66) rfl ?_
        exact kt_
      refine Done.pre sg_6 ?_
      obtain ⟨_, _, ⟨T_7, L_7, k_7, n_7⟩, -, X_7, ⟨Lc_7, hQ_7, l_7, y_7, z_7⟩, st_7⟩ := Jvm.LawKit.callS X_3 hEX (y := (⟨"java/lang/Math", "min", "(JJ)J"⟩ : MethodName)) hOW (mvT hZW (hw _ (List.mem_of_getElem? (i := 12) rfl))) (mvT hZW (hw _ (List.mem_of_getElem? (i := 13) rfl))) (mvT hZW (hw _ (List.mem_of_getElem? (i := 14) rfl))) (mvT hZW (hw _ (List.mem_of_getElem? (i := 15) rfl))) (by decide) (backOf (W := 0) (rm_min l Z aZ hw [] (((1000 : Int64) * len) + (1048576 : Int64)) (4294967294 : Int64) h0 n0 (Nat.le_trans Z0 K0.1) ) hZW (hw _ (List.mem_of_getElem? (i := 15) rfl)) (hw _ (List.mem_of_getElem? (i := 14) rfl)) (by decide) (by decide)) (g := (mkF m 68 #[Lv q1, Zs, Iv p2, Lv len, Zs, Lv (4294967294 : Int64), Zs, Lv (own_most len), Zs, Lv (((1000 : Int64) * len) + (1048576 : Int64)), Zs, Us, Us] [(.long (4294967294 : Int64)), (.long (((1000 : Int64) * len) + (1048576 : Int64)))])) rfl (by rw [hMX]; rfl) (argsL := [(.long (((1000 : Int64) * len) + (1048576 : Int64))), (.long (4294967294 : Int64))]) (rest := []) (lenOf pd__JJ_J_1 rfl) rfl (by show 2 * 0 + _ ≤ _; exact Nat.le_of_eq rfl) (hb hBY at_68) (fun _ _ => ⟨rfl, e_3, (by decide : 0 + 0 ≤ _), (by decide : 0 + 0 ≤ _)⟩)
      dsimp only [Pt.U, Pt.locs, Pt.cells, Pt.slots] at X_7 l_7 y_7 z_7 st_7 hQ_7
      subst l_7 y_7 z_7
      obtain ⟨rfl, N_7q, e_7⟩ := hQ_7
      have N_7 := Fr.app N_3 N_7q
      refine Done.pre (fun _ k_ => st_7 _ k_) ?_
      show Done _ _ _ _ _ _ _ (T_7.setTop (mkF m 71 #[Lv q1, Zs, Iv p2, Lv len, Zs, Lv (4294967294 : Int64), Zs, Lv (own_most len), Zs, Lv (((1000 : Int64) * len) + (1048576 : Int64)), Zs, Us, Us] [(.long (own_minL (((1000 : Int64) * len) + (1048576 : Int64)) (4294967294 : Int64)))]))
      have sg_8 : ∀ tt_, Steps p.tables e below (T_7.setTop (mkF m 78 #[Lv q1, Zs, Iv p2, Lv len, Zs, Lv (4294967294 : Int64), Zs, Lv (own_most len), Zs, Lv (((1000 : Int64) * len) + (1048576 : Int64)), Zs, Lv (own_minL (((1000 : Int64) * len) + (1048576 : Int64)) (4294967294 : Int64)), Zs] [(.int (lcmpW (own_most len) (own_minL (((1000 : Int64) * len) + (1048576 : Int64)) (4294967294 : Int64))))])) tt_ → Steps p.tables e below (T_7.setTop (mkF m 71 #[Lv q1, Zs, Iv p2, Lv len, Zs, Lv (4294967294 : Int64), Zs, Lv (own_most len), Zs, Lv (((1000 : Int64) * len) + (1048576 : Int64)), Zs, Us, Us] [(.long (own_minL (((1000 : Int64) * len) + (1048576 : Int64)) (4294967294 : Int64)))])) tt_ := by
        intro tt_ kt_
        refine XS.lstore X_7.here hEX rfl (hb hBY at_71) rfl (l' := #[Lv q1, Zs, Iv p2, Lv len, Zs, Lv (4294967294 : Int64), Zs, Lv (own_most len), Zs, Lv (((1000 : Int64) * len) + (1048576 : Int64)), Zs, Lv (own_minL (((1000 : Int64) * len) + (1048576 : Int64)) (4294967294 : Int64)), Zs]) rfl ?_
        show Steps p.tables e below (T_7.setTop (mkF m 73 #[Lv q1, Zs, Iv p2, Lv len, Zs, Lv (4294967294 : Int64), Zs, Lv (own_most len), Zs, Lv (((1000 : Int64) * len) + (1048576 : Int64)), Zs, Lv (own_minL (((1000 : Int64) * len) + (1048576 : Int64)) (4294967294 : Int64)), Zs] [])) tt_
        refine XS.lload X_7.here hEX rfl (hb hBY at_73) rfl ?_
        show Steps p.tables e below (T_7.setTop (mkF m 75 #[Lv q1, Zs, Iv p2, Lv len, Zs, Lv (4294967294 : Int64), Zs, Lv (own_most len), Zs, Lv (((1000 : Int64) * len) + (1048576 : Int64)), Zs, Lv (own_minL (((1000 : Int64) * len) + (1048576 : Int64)) (4294967294 : Int64)), Zs] [(.long (own_most len))])) tt_
        refine XS.lload X_7.here hEX rfl (hb hBY at_75) rfl ?_
        show Steps p.tables e below (T_7.setTop (mkF m 77 #[Lv q1, Zs, Iv p2, Lv len, Zs, Lv (4294967294 : Int64), Zs, Lv (own_most len), Zs, Lv (((1000 : Int64) * len) + (1048576 : Int64)), Zs, Lv (own_minL (((1000 : Int64) * len) + (1048576 : Int64)) (4294967294 : Int64)), Zs] [(.long (own_minL (((1000 : Int64) * len) + (1048576 : Int64)) (4294967294 : Int64))), (.long (own_most len))])) tt_
        refine XS.lcmp X_7.here hEX rfl (hb hBY at_77) rfl ?_
        exact kt_
      refine Done.pre sg_8 ?_
      by_cases hc78 : (own_most len) = (own_minL (((1000 : Int64) * len) + (1048576 : Int64)) (4294967294 : Int64))
      · skip
        have sg_9 : ∀ tt_, Steps p.tables e below (T_7.setTop (mkF m 106 #[Lv q1, Zs, Iv p2, Lv len, Zs, Lv (4294967294 : Int64), Zs, Lv (own_most len), Zs, Lv (((1000 : Int64) * len) + (1048576 : Int64)), Zs, Lv (own_minL (((1000 : Int64) * len) + (1048576 : Int64)) (4294967294 : Int64)), Zs] [(.int (1 : Int32))])) tt_ → Steps p.tables e below (T_7.setTop (mkF m 78 #[Lv q1, Zs, Iv p2, Lv len, Zs, Lv (4294967294 : Int64), Zs, Lv (own_most len), Zs, Lv (((1000 : Int64) * len) + (1048576 : Int64)), Zs, Lv (own_minL (((1000 : Int64) * len) + (1048576 : Int64)) (4294967294 : Int64)), Zs] [(.int (lcmpW (own_most len) (own_minL (((1000 : Int64) * len) + (1048576 : Int64)) (4294967294 : Int64))))])) tt_ := by
          intro tt_ kt_
          refine XS.ifYes X_7.here hEX rfl (pc0 := 78) (pc' := 101) rfl (hb hBY at_78) rfl ((if0 _ _).trans (teq ((lw_eq _ _).mpr hc78)).1) (by decide) (by decide) ?_
          show Steps p.tables e below (T_7.setTop (mkF m 101 #[Lv q1, Zs, Iv p2, Lv len, Zs, Lv (4294967294 : Int64), Zs, Lv (own_most len), Zs, Lv (((1000 : Int64) * len) + (1048576 : Int64)), Zs, Lv (own_minL (((1000 : Int64) * len) + (1048576 : Int64)) (4294967294 : Int64)), Zs] [])) tt_
          refine XS.iconst X_7.here hEX rfl (hb hBY at_101) ?_
          show Steps p.tables e below (T_7.setTop (mkF m 102 #[Lv q1, Zs, Iv p2, Lv len, Zs, Lv (4294967294 : Int64), Zs, Lv (own_most len), Zs, Lv (((1000 : Int64) * len) + (1048576 : Int64)), Zs, Lv (own_minL (((1000 : Int64) * len) + (1048576 : Int64)) (4294967294 : Int64)), Zs] [(.int (1 : Int32))])) tt_
          refine XS.goto X_7.here hEX rfl (pc0 := 102) (pc' := 106) rfl (hb hBY at_102) (by decide) (by decide) ?_
          exact kt_
        refine Done.pre sg_9 ?_
        exact Done.retN X_7 hEX hLK (t := .boolean) hRT (by simp) (hb hBY at_106) (by rw [e_7]; exact ⟨rfl, N_7, rfl⟩) (by decide) (by decide)
      · skip
        have sg_10 : ∀ tt_, Steps p.tables e below (T_7.setTop (mkF m 106 #[Lv q1, Zs, Iv p2, Lv len, Zs, Lv (4294967294 : Int64), Zs, Lv (own_most len), Zs, Lv (((1000 : Int64) * len) + (1048576 : Int64)), Zs, Lv (own_minL (((1000 : Int64) * len) + (1048576 : Int64)) (4294967294 : Int64)), Zs] [(.int (1 : Int32))])) tt_ → Steps p.tables e below (T_7.setTop (mkF m 78 #[Lv q1, Zs, Iv p2, Lv len, Zs, Lv (4294967294 : Int64), Zs, Lv (own_most len), Zs, Lv (((1000 : Int64) * len) + (1048576 : Int64)), Zs, Lv (own_minL (((1000 : Int64) * len) + (1048576 : Int64)) (4294967294 : Int64)), Zs] [(.int (lcmpW (own_most len) (own_minL (((1000 : Int64) * len) + (1048576 : Int64)) (4294967294 : Int64))))])) tt_ := by
          intro tt_ kt_
          refine XS.ifNo X_7.here hEX rfl (hb hBY at_78) rfl ((if0 _ _).trans (feq (fun q => hc78 ((lw_eq _ _).mp q))).1) ?_
          show Steps p.tables e below (T_7.setTop (mkF m 81 #[Lv q1, Zs, Iv p2, Lv len, Zs, Lv (4294967294 : Int64), Zs, Lv (own_most len), Zs, Lv (((1000 : Int64) * len) + (1048576 : Int64)), Zs, Lv (own_minL (((1000 : Int64) * len) + (1048576 : Int64)) (4294967294 : Int64)), Zs] [])) tt_
          refine XS.lload X_7.here hEX rfl (hb hBY at_81) rfl ?_
          show Steps p.tables e below (T_7.setTop (mkF m 83 #[Lv q1, Zs, Iv p2, Lv len, Zs, Lv (4294967294 : Int64), Zs, Lv (own_most len), Zs, Lv (((1000 : Int64) * len) + (1048576 : Int64)), Zs, Lv (own_minL (((1000 : Int64) * len) + (1048576 : Int64)) (4294967294 : Int64)), Zs] [(.long (own_most len))])) tt_
          refine XS.lload X_7.here hEX rfl (hb hBY at_83) rfl ?_
          show Steps p.tables e below (T_7.setTop (mkF m 85 #[Lv q1, Zs, Iv p2, Lv len, Zs, Lv (4294967294 : Int64), Zs, Lv (own_most len), Zs, Lv (((1000 : Int64) * len) + (1048576 : Int64)), Zs, Lv (own_minL (((1000 : Int64) * len) + (1048576 : Int64)) (4294967294 : Int64)), Zs] [(.long (4294967294 : Int64)), (.long (own_most len))])) tt_
          refine XS.lcmp X_7.here hEX rfl (hb hBY at_85) rfl ?_
          show Steps p.tables e below (T_7.setTop (mkF m 86 #[Lv q1, Zs, Iv p2, Lv len, Zs, Lv (4294967294 : Int64), Zs, Lv (own_most len), Zs, Lv (((1000 : Int64) * len) + (1048576 : Int64)), Zs, Lv (own_minL (((1000 : Int64) * len) + (1048576 : Int64)) (4294967294 : Int64)), Zs] [(.int (lcmpW (own_most len) (4294967294 : Int64)))])) tt_
          refine XS.ifNo X_7.here hEX rfl (hb hBY at_86) rfl ((if0 _ _).trans (teq ((lw_eq _ _).mpr ((own_law2 len hlen hc36 hc78).1 : (own_most len) = (4294967294 : Int64)))).2) ?_
          show Steps p.tables e below (T_7.setTop (mkF m 89 #[Lv q1, Zs, Iv p2, Lv len, Zs, Lv (4294967294 : Int64), Zs, Lv (own_most len), Zs, Lv (((1000 : Int64) * len) + (1048576 : Int64)), Zs, Lv (own_minL (((1000 : Int64) * len) + (1048576 : Int64)) (4294967294 : Int64)), Zs] [])) tt_
          refine XS.lload X_7.here hEX rfl (hb hBY at_89) rfl ?_
          show Steps p.tables e below (T_7.setTop (mkF m 91 #[Lv q1, Zs, Iv p2, Lv len, Zs, Lv (4294967294 : Int64), Zs, Lv (own_most len), Zs, Lv (((1000 : Int64) * len) + (1048576 : Int64)), Zs, Lv (own_minL (((1000 : Int64) * len) + (1048576 : Int64)) (4294967294 : Int64)), Zs] [(.long (((1000 : Int64) * len) + (1048576 : Int64)))])) tt_
          refine X_7.ldc2Long hEX hOW (mvT hZW (hw _ (List.mem_of_getElem? (i := 10) rfl))) (g := (mkF m 91 #[Lv q1, Zs, Iv p2, Lv len, Zs, Lv (4294967294 : Int64), Zs, Lv (own_most len), Zs, Lv (((1000 : Int64) * len) + (1048576 : Int64)), Zs, Lv (own_minL (((1000 : Int64) * len) + (1048576 : Int64)) (4294967294 : Int64)), Zs] [(.long (((1000 : Int64) * len) + (1048576 : Int64)))])) rfl (hb hBY at_91) _ ?_
          show Steps p.tables e below (T_7.setTop (mkF m 94 #[Lv q1, Zs, Iv p2, Lv len, Zs, Lv (4294967294 : Int64), Zs, Lv (own_most len), Zs, Lv (((1000 : Int64) * len) + (1048576 : Int64)), Zs, Lv (own_minL (((1000 : Int64) * len) + (1048576 : Int64)) (4294967294 : Int64)), Zs] [(.long (1000 : Int64)), (.long (((1000 : Int64) * len) + (1048576 : Int64)))])) tt_
          refine XS.ladd X_7.here hEX rfl (hb hBY at_94) rfl ?_
          show Steps p.tables e below (T_7.setTop (mkF m 95 #[Lv q1, Zs, Iv p2, Lv len, Zs, Lv (4294967294 : Int64), Zs, Lv (own_most len), Zs, Lv (((1000 : Int64) * len) + (1048576 : Int64)), Zs, Lv (own_minL (((1000 : Int64) * len) + (1048576 : Int64)) (4294967294 : Int64)), Zs] [(.long ((((1000 : Int64) * len) + (1048576 : Int64)) + (1000 : Int64)))])) tt_
          refine XS.lload X_7.here hEX rfl (hb hBY at_95) rfl ?_
          show Steps p.tables e below (T_7.setTop (mkF m 97 #[Lv q1, Zs, Iv p2, Lv len, Zs, Lv (4294967294 : Int64), Zs, Lv (own_most len), Zs, Lv (((1000 : Int64) * len) + (1048576 : Int64)), Zs, Lv (own_minL (((1000 : Int64) * len) + (1048576 : Int64)) (4294967294 : Int64)), Zs] [(.long (4294967294 : Int64)), (.long ((((1000 : Int64) * len) + (1048576 : Int64)) + (1000 : Int64)))])) tt_
          refine XS.lcmp X_7.here hEX rfl (hb hBY at_97) rfl ?_
          show Steps p.tables e below (T_7.setTop (mkF m 98 #[Lv q1, Zs, Iv p2, Lv len, Zs, Lv (4294967294 : Int64), Zs, Lv (own_most len), Zs, Lv (((1000 : Int64) * len) + (1048576 : Int64)), Zs, Lv (own_minL (((1000 : Int64) * len) + (1048576 : Int64)) (4294967294 : Int64)), Zs] [(.int (lcmpW ((((1000 : Int64) * len) + (1048576 : Int64)) + (1000 : Int64)) (4294967294 : Int64)))])) tt_
          refine XS.ifNo X_7.here hEX rfl (hb hBY at_98) rfl ((if0 _ _).trans (tlt ((lw_gt _ _).mpr ((own_law2 len hlen hc36 hc78).2 : (4294967294 : Int64) < ((((1000 : Int64) * len) + (1048576 : Int64)) + (1000 : Int64))))).2.2.2) ?_
          show Steps p.tables e below (T_7.setTop (mkF m 101 #[Lv q1, Zs, Iv p2, Lv len, Zs, Lv (4294967294 : Int64), Zs, Lv (own_most len), Zs, Lv (((1000 : Int64) * len) + (1048576 : Int64)), Zs, Lv (own_minL (((1000 : Int64) * len) + (1048576 : Int64)) (4294967294 : Int64)), Zs] [])) tt_
          refine XS.iconst X_7.here hEX rfl (hb hBY at_101) ?_
          show Steps p.tables e below (T_7.setTop (mkF m 102 #[Lv q1, Zs, Iv p2, Lv len, Zs, Lv (4294967294 : Int64), Zs, Lv (own_most len), Zs, Lv (((1000 : Int64) * len) + (1048576 : Int64)), Zs, Lv (own_minL (((1000 : Int64) * len) + (1048576 : Int64)) (4294967294 : Int64)), Zs] [(.int (1 : Int32))])) tt_
          refine XS.goto X_7.here hEX rfl (pc0 := 102) (pc' := 106) rfl (hb hBY at_102) (by decide) (by decide) ?_
          exact kt_
        refine Done.pre sg_10 ?_
        exact Done.retN X_7 hEX hLK (t := .boolean) hRT (by simp) (hb hBY at_106) (by rw [e_7]; exact ⟨rfl, N_7, rfl⟩) (by decide) (by decide)
  show Done _ _ _ _ _ _ _ (s₁.setTop (mkF m 0 #[Lv q1, Zs, Iv p2, Us, Us, Us, Us, Us, Us, Us, Us, Us, Us] []))
  have sg_11 : ∀ tt_, Steps p.tables e below (s₁.setTop (mkF m 3 #[Lv q1, Zs, Iv p2, Us, Us, Us, Us, Us, Us, Us, Us, Us, Us] [(.int (p2 &&& (1 : Int32)))])) tt_ → Steps p.tables e below (s₁.setTop (mkF m 0 #[Lv q1, Zs, Iv p2, Us, Us, Us, Us, Us, Us, Us, Us, Us, Us] [])) tt_ := by
    intro tt_ kt_
    refine XS.iloadN X0.here hEX rfl (hb hBY at_0) rfl ?_
    show Steps p.tables e below (s₁.setTop (mkF m 1 #[Lv q1, Zs, Iv p2, Us, Us, Us, Us, Us, Us, Us, Us, Us, Us] [(.int p2)])) tt_
    refine XS.iconst X0.here hEX rfl (hb hBY at_1) ?_
    show Steps p.tables e below (s₁.setTop (mkF m 2 #[Lv q1, Zs, Iv p2, Us, Us, Us, Us, Us, Us, Us, Us, Us, Us] [(.int (1 : Int32)), (.int p2)])) tt_
    refine XS.iand X0.here hEX rfl (hb hBY at_2) rfl ?_
    exact kt_
  refine Done.pre sg_11 ?_
  by_cases hc3 : (p2 &&& (1 : Int32)) = (0 : Int32)
  · skip
    have sg_12 : ∀ tt_, Steps p.tables e below (s₁.setTop (mkF m 19 #[Lv q1, Zs, Iv p2, Us, Us, Us, Us, Us, Us, Us, Us, Us, Us] [(.long (q1 &&& (16777215 : Int64)))])) tt_ → Steps p.tables e below (s₁.setTop (mkF m 3 #[Lv q1, Zs, Iv p2, Us, Us, Us, Us, Us, Us, Us, Us, Us, Us] [(.int (p2 &&& (1 : Int32)))])) tt_ := by
      intro tt_ kt_
      refine XS.ifYes X0.here hEX rfl (pc0 := 3) (pc' := 14) rfl (hb hBY at_3) rfl ((if0 _ _).trans (teq hc3).1) (by decide) (by decide) ?_
      show Steps p.tables e below (s₁.setTop (mkF m 14 #[Lv q1, Zs, Iv p2, Us, Us, Us, Us, Us, Us, Us, Us, Us, Us] [])) tt_
      refine XS.lloadN X0.here hEX rfl (hb hBY at_14) rfl ?_
      show Steps p.tables e below (s₁.setTop (mkF m 15 #[Lv q1, Zs, Iv p2, Us, Us, Us, Us, Us, Us, Us, Us, Us, Us] [(.long q1)])) tt_
      refine X0.ldc2Long hEX hOW (mvT hZW (hw _ (List.mem_of_getElem? (i := 0) rfl))) (g := (mkF m 15 #[Lv q1, Zs, Iv p2, Us, Us, Us, Us, Us, Us, Us, Us, Us, Us] [(.long q1)])) rfl (hb hBY at_15) _ ?_
      show Steps p.tables e below (s₁.setTop (mkF m 18 #[Lv q1, Zs, Iv p2, Us, Us, Us, Us, Us, Us, Us, Us, Us, Us] [(.long (16777215 : Int64)), (.long q1)])) tt_
      refine XS.land X0.here hEX rfl (hb hBY at_18) rfl ?_
      exact kt_
    refine Done.pre sg_12 ?_
    exact jn_1 ((q1 &&& (16777215 : Int64))) (by first | exact own_m63 _ | exact own_m24 _)
  · skip
    have sg_13 : ∀ tt_, Steps p.tables e below (s₁.setTop (mkF m 19 #[Lv q1, Zs, Iv p2, Us, Us, Us, Us, Us, Us, Us, Us, Us, Us] [(.long (q1 &&& (9223372036854775807 : Int64)))])) tt_ → Steps p.tables e below (s₁.setTop (mkF m 3 #[Lv q1, Zs, Iv p2, Us, Us, Us, Us, Us, Us, Us, Us, Us, Us] [(.int (p2 &&& (1 : Int32)))])) tt_ := by
      intro tt_ kt_
      refine XS.ifNo X0.here hEX rfl (hb hBY at_3) rfl ((if0 _ _).trans (feq hc3).1) ?_
      show Steps p.tables e below (s₁.setTop (mkF m 6 #[Lv q1, Zs, Iv p2, Us, Us, Us, Us, Us, Us, Us, Us, Us, Us] [])) tt_
      refine XS.lloadN X0.here hEX rfl (hb hBY at_6) rfl ?_
      show Steps p.tables e below (s₁.setTop (mkF m 7 #[Lv q1, Zs, Iv p2, Us, Us, Us, Us, Us, Us, Us, Us, Us, Us] [(.long q1)])) tt_
      refine X0.ldc2Long hEX hOW (mvT hZW (hw _ (List.mem_of_getElem? (i := 16) rfl))) (g := (mkF m 7 #[Lv q1, Zs, Iv p2, Us, Us, Us, Us, Us, Us, Us, Us, Us, Us] [(.long q1)])) rfl (hb hBY at_7) _ ?_
      show Steps p.tables e below (s₁.setTop (mkF m 10 #[Lv q1, Zs, Iv p2, Us, Us, Us, Us, Us, Us, Us, Us, Us, Us] [(.long (9223372036854775807 : Int64)), (.long q1)])) tt_
      refine XS.land X0.here hEX rfl (hb hBY at_10) rfl ?_
      show Steps p.tables e below (s₁.setTop (mkF m 11 #[Lv q1, Zs, Iv p2, Us, Us, Us, Us, Us, Us, Us, Us, Us, Us] [(.long (q1 &&& (9223372036854775807 : Int64)))])) tt_
      refine XS.goto X0.here hEX rfl (pc0 := 11) (pc' := 19) rfl (hb hBY at_11) (by decide) (by decide) ?_
      exact kt_
    refine Done.pre sg_13 ?_
    exact jn_1 ((q1 &&& (9223372036854775807 : Int64))) (by first | exact own_m63 _ | exact own_m24 _)
set_option maxRecDepth 65536 in
set_option maxHeartbeats 40000000 in
theorem comes_1 {Post : Tables → Env → Array Value → State → Outcome → State → Prop} (hpost : ∀ tb e args s v u, (limb_1_1.after args s (.returned v) u = true ∧ limb_1_2.after args s (.returned v) u = true ∧ True) → FrameEnd s (.returned v) u (Jvm.fieldLocs frame_1_writes args s ++ Jvm.arrayLocs frame_1_arrays args s ++ Jvm.staticLocs frame_1_statics s) 0 0 → Post tb e args s (.returned v) u) :
    ArmFor flags0 classFile x code maxLocals ret World_1 tables_1 room_1 Calls_1 rest_1 Pre_1 Post := by
  intro l hfl _ _ p e ha hc hk s m args below hf hA hF happ hP
  obtain ⟨hcalls, hrest, hpre⟩ := hP
  obtain ⟨-, -, -, hnamed, -, -, -, hat⟩ := (Spec.applies_iff hf).mp happ
  obtain ⟨hg, hn⟩ := and_e (Cond.before_iff.mp (show (Jvm.Cond.and given_1 narrow_1).before args s = true from hpre))
  obtain ⟨g1a, g1b⟩ := and_e hg
  obtain ⟨g2a, g2b⟩ := and_e g1b
  obtain ⟨w0, w1, rfl⟩ : ∃ w0 w1 : Value, args = #[w0, w1] := by
    have hs : args.size = 2 := by simpa [Cond.value, given_1] using g1a
    obtain ⟨L⟩ := args
    match L, hs with
    | [w0, w1], _ => exact ⟨w0, w1, rfl⟩
  have hw := fun d (hd : d ∈ tables_1) => atoms_spec (ws := Jvm.Cond.code x code maxLocals ret :: tables_1) hat d (List.mem_cons_of_mem _ hd)
  have hfit : Fit s := fun {y c} hc i hi => by
    obtain ⟨ha, rfl⟩ := Array.getElem?_eq_some_iff.mp hc
    have q := List.all_eq_true.mp ((Array.all_eq_true_iff_forall_mem.mp hF) _ (Array.getElem_mem ha)) i (List.mem_range.mpr hi)
    simpa [Array.getElem?_eq_getElem hi] using q
  obtain ⟨i0, ei0⟩ := isL_v g2a
  obtain rfl : w0 = (.long i0) := Option.some.inj ei0
  obtain ⟨i1, ei1⟩ := is_v g2b
  obtain rfl : w1 = (.int i1) := Option.some.inj ei1
  obtain ⟨n, o, h1, h2, h3, _, L, rfl, ⟨rfl, N, -⟩, hq⟩ := rm0 l s _ hw tables_1 i0 i1  s.heap s.heap.size (Nat.le_refl _)  p e ha hc hk s m _ below hf ((Spec.applies_iff_loose hf).mp happ).1 ⟨rfl, State.Warmed39.refl s, rfl⟩ trivial
  refine ⟨n, _, h1, h2, h3, hpost _ _ _ _ _ _ ⟨Cond.after_iff.mpr rfl, Cond.after_iff.mpr (eq_i res_at (Term.int_eval (1)) rfl), trivial⟩ ⟨hq.1, hq.2.1, (hq.2.2.sift fun y hy => Or.inr (N y hy)).mono (by decide) (by decide)⟩⟩
theorem main_1_1 : Claimed_1_1 := comes_1 fun _ _ _ _ _ _ h hF => ⟨h.1, hF⟩
theorem main_1_2 : Claimed_1_2 := comes_1 fun _ _ _ _ _ _ h hF => ⟨h.2.1, hF⟩
end Jvm.Pilot.@@N@@
namespace Jvm.Pilot.@@N@@
open Jvm Jvm.ClassFile Sem Op Lib Jvm.Free Jvm.Stand Jvm.Pilot.@@N@@.Jvm.D
/-! MADE BY PROGRAM (witnessworld.py) out of the Statement's table words and the real class files: 10 classes; the members and pool entries that the words name. The judged class is class 1, her method 1. -/
namespace start1
open Jvm.ClassFile
def u (s : String) : CpInfo := .utf8 (stringToUtf16 s)
/-- a pool by its gaps: so many unusable entries, then the entry; so many at the end -/
def gap : Nat → List CpInfo → List CpInfo
  | 0, r => r
  | n + 1, r => .unusable :: gap n r
def poolList (es : List (Nat × CpInfo)) (last : Nat) : List CpInfo := es.foldr (fun e r => gap e.1 (e.2 :: r)) (gap last [])
def pool (es : List (Nat × CpInfo)) (last : Nat) : Array CpInfo := ⟨poolList es last⟩
def fileOf (pool : Array CpInfo) (this : Nat) (attrs : Array Attribute := #[]) (ms : Array MethodInfo := #[]) (fl : Nat := 33) (sup : Nat := 0) (ifs : Array Nat := #[]) (fds : Array FieldInfo := #[]) : ClassFile where
  minorVersion := 0
  majorVersion := 65
  constantPool := pool
  accessFlags := fl
  thisClass := this
  superClass := sup
  interfaces := ifs
  fields := fds
  methods := ms
  attributes := attrs
def plain (name : String) (sup : Option ClassId) : Class where
  name := name
  kind := .ordinary
  loader := none
  accessFlags := 33
  super := sup
  interfaces := #[]
  cf := none
  fields := #[]
  methods := #[]
  instanceTypes := #[]
  staticTypes := #[]
  resolved := #[]
  callSites := []
  init := .initialized
  statics := none
  mirror := none

def pool0 : Array CpInfo := pool [(5, u "<init>"), (0, u "()V"), (1, .class_ 10), (1, u "java/lang/Object")] 113

def k0m0 : Method := { name := "<init>", desc := "()V", sig := { parameters := [], returnType := none }, accessFlags := 1, code := none }
/-- java/lang/Object -/
def k0 : Class := { plain "java/lang/Object" none with
  accessFlags := 33
  interfaces := #[]
  cf := some (fileOf pool0 8 #[] #[{ accessFlags := 1, nameIndex := 5, descriptorIndex := 6, attributes := #[] }] 33 0 #[] #[])
  fields := #[]
  methods := #[k0m0]
  instanceTypes := #[]
  staticTypes := #[]
  resolved := Array.replicate 124 none
  statics := none }

def pool1 : Array CpInfo := pool [(2, .class_ 4), (1, u "java/lang/Object"), (0, u "<init>"), (0, u "()V"), (2, .long 9223372036854775807), (1, .long 16777215), (1, .long 4294967294), (1, .methodref 16 17), (0, .class_ 18), (0, .nameAndType 19 20), (0, u "com/example/guard3/guard3/Part15Zip"), (0, u "mostExtracted"), (0, u "(J)J"), (0, .long 4294967296), (1, .long 1000), (1, .long 1048576), (1, .methodref 28 29), (0, .class_ 30), (0, .nameAndType 31 32), (0, u "java/lang/Math"), (0, u "min"), (0, u "(JJ)J"), (0, .class_ 34), (0, u "com/example/guard3/guard3/Part15ZipMostExtractedPinLaw"), (2, u "law"), (0, u "(JI)Z")] 3

def k1m0 : Method := { name := "<init>", desc := "()V", sig := { parameters := [], returnType := none }, accessFlags := 2, code := none }
def k1c1 : Code := { maxStack := 4, maxLocals := 13, code := code, exceptionTable := #[], attributes := #[] }
def k1m1 : Method := { name := "law", desc := "(JI)Z", sig := { parameters := [.long, .int], returnType := some .boolean }, accessFlags := 9, code := some k1c1 }
/-- com/example/guard3/guard3/Part15ZipMostExtractedPinLaw -/
def k1 : Class := { plain "com/example/guard3/guard3/Part15ZipMostExtractedPinLaw" (some 0) with
  accessFlags := 49
  interfaces := #[]
  cf := some (fileOf pool1 33 #[] #[{ accessFlags := 2, nameIndex := 5, descriptorIndex := 6, attributes := #[] }, { accessFlags := 9, nameIndex := 37, descriptorIndex := 38, attributes := #[] }] 49 2 #[] #[])
  fields := #[]
  methods := #[k1m0, k1m1]
  instanceTypes := #[]
  staticTypes := #[]
  resolved := Array.replicate 42 none
  statics := none }

def pool2 : Array CpInfo := pool [(1, .class_ 2), (0, u "com/example/guard3/guard3/Part15Zip"), (1, .class_ 6), (1, u "java/lang/Object"), (0, u "<init>"), (0, u "()V"), (0, .long 4294967294), (1, .long 1048576), (1, .long 1000), (21, .class_ 36), (0, u "com/example/guard3/guard3/Part15Zip$ArchiveInput"), (15, .class_ 54), (1, u "com/example/guard3/guard3/Part15Zip$Listing"), (2, .class_ 58), (0, u "com/example/guard3/guard3/Part15Zip$HeaderFields"), (6, u "I"), (17, u "J"), (40, .class_ 125), (0, u "com/example/guard3/guard3/Part15Zip$Contents"), (19, .class_ 146), (0, u "com/example/guard3/guard3/Part15Zip$CentralHeader"), (36, .class_ 184), (0, u "com/example/guard3/guard3/Part15Zip$EndRecord"), (107, u "LOCAL_HEADER"), (1, u "DATA_DESCRIPTOR"), (0, u "CENTRAL_HEADER"), (0, u "END_OF_CENTRAL_DIRECTORY"), (0, u "STORED"), (1, u "DEFLATED"), (1, u "VERSION_NEEDED"), (1, u "ENCRYPTION_FLAGS"), (1, u "DESCRIPTOR_FLAG"), (0, u "PATCH_FLAG"), (1, u "UTF8_FLAG"), (1, u "FILE_TYPE"), (1, u "REGULAR_FILE"), (1, u "ZIP64_SIZE"), (2, u "END_RECORD_LENGTH"), (1, u "MAX_COMMENT_LENGTH"), (1, u "MAX_RATIO"), (0, u "RATIO_ALLOWANCE"), (0, u "BUFFER_SIZE"), (0, u "DAMAGED"), (0, u "Ljava/lang/String;"), (0, u "ENDS_EARLY"), (0, u "MORE_THAN_ONE_FILE"), (0, u "MAX_WRITTEN_SIZE"), (4, u "mostExtracted"), (0, u "(J)J")] 37

def k2m0 : Method := { name := "<init>", desc := "()V", sig := { parameters := [], returnType := none }, accessFlags := 2, code := none }
def k2c1 : Code := { maxStack := 6, maxLocals := 4, code := prog_67_method_2_code, exceptionTable := #[], attributes := #[] }
def k2m1 : Method := { name := "mostExtracted", desc := "(J)J", sig := { parameters := [.long], returnType := some .long }, accessFlags := 8, code := some k2c1 }
/-- com/example/guard3/guard3/Part15Zip -/
def k2 : Class := { plain "com/example/guard3/guard3/Part15Zip" (some 0) with
  accessFlags := 32
  interfaces := #[]
  cf := some (fileOf pool2 1 #[.nestMembers #[35, 124, 183, 145, 57, 52]] #[{ accessFlags := 2, nameIndex := 7, descriptorIndex := 8, attributes := #[] }, { accessFlags := 8, nameIndex := 333, descriptorIndex := 334, attributes := #[] }] 32 4 #[] #[{ accessFlags := 26, nameIndex := 292, descriptorIndex := 83, attributes := #[] }, { accessFlags := 26, nameIndex := 294, descriptorIndex := 83, attributes := #[] }, { accessFlags := 26, nameIndex := 295, descriptorIndex := 83, attributes := #[] }, { accessFlags := 26, nameIndex := 296, descriptorIndex := 83, attributes := #[] }, { accessFlags := 26, nameIndex := 297, descriptorIndex := 65, attributes := #[] }, { accessFlags := 26, nameIndex := 299, descriptorIndex := 65, attributes := #[] }, { accessFlags := 26, nameIndex := 301, descriptorIndex := 65, attributes := #[] }, { accessFlags := 26, nameIndex := 303, descriptorIndex := 65, attributes := #[] }, { accessFlags := 26, nameIndex := 305, descriptorIndex := 65, attributes := #[] }, { accessFlags := 26, nameIndex := 306, descriptorIndex := 65, attributes := #[] }, { accessFlags := 26, nameIndex := 308, descriptorIndex := 65, attributes := #[] }, { accessFlags := 26, nameIndex := 310, descriptorIndex := 65, attributes := #[] }, { accessFlags := 26, nameIndex := 312, descriptorIndex := 65, attributes := #[] }, { accessFlags := 26, nameIndex := 314, descriptorIndex := 83, attributes := #[] }, { accessFlags := 26, nameIndex := 317, descriptorIndex := 65, attributes := #[] }, { accessFlags := 26, nameIndex := 319, descriptorIndex := 65, attributes := #[] }, { accessFlags := 26, nameIndex := 321, descriptorIndex := 83, attributes := #[] }, { accessFlags := 26, nameIndex := 322, descriptorIndex := 83, attributes := #[] }, { accessFlags := 26, nameIndex := 323, descriptorIndex := 65, attributes := #[] }, { accessFlags := 26, nameIndex := 324, descriptorIndex := 325, attributes := #[] }, { accessFlags := 26, nameIndex := 326, descriptorIndex := 325, attributes := #[] }, { accessFlags := 26, nameIndex := 327, descriptorIndex := 325, attributes := #[] }, { accessFlags := 24, nameIndex := 328, descriptorIndex := 83, attributes := #[] }])
  fields := #[{ name := "LOCAL_HEADER", type := .long, accessFlags := 26, slot := 0, constantValue := 0 }, { name := "DATA_DESCRIPTOR", type := .long, accessFlags := 26, slot := 1, constantValue := 0 }, { name := "CENTRAL_HEADER", type := .long, accessFlags := 26, slot := 2, constantValue := 0 }, { name := "END_OF_CENTRAL_DIRECTORY", type := .long, accessFlags := 26, slot := 3, constantValue := 0 }, { name := "STORED", type := .int, accessFlags := 26, slot := 4, constantValue := 0 }, { name := "DEFLATED", type := .int, accessFlags := 26, slot := 5, constantValue := 0 }, { name := "VERSION_NEEDED", type := .int, accessFlags := 26, slot := 6, constantValue := 0 }, { name := "ENCRYPTION_FLAGS", type := .int, accessFlags := 26, slot := 7, constantValue := 0 }, { name := "DESCRIPTOR_FLAG", type := .int, accessFlags := 26, slot := 8, constantValue := 0 }, { name := "PATCH_FLAG", type := .int, accessFlags := 26, slot := 9, constantValue := 0 }, { name := "UTF8_FLAG", type := .int, accessFlags := 26, slot := 10, constantValue := 0 }, { name := "FILE_TYPE", type := .int, accessFlags := 26, slot := 11, constantValue := 0 }, { name := "REGULAR_FILE", type := .int, accessFlags := 26, slot := 12, constantValue := 0 }, { name := "ZIP64_SIZE", type := .long, accessFlags := 26, slot := 13, constantValue := 0 }, { name := "END_RECORD_LENGTH", type := .int, accessFlags := 26, slot := 14, constantValue := 0 }, { name := "MAX_COMMENT_LENGTH", type := .int, accessFlags := 26, slot := 15, constantValue := 0 }, { name := "MAX_RATIO", type := .long, accessFlags := 26, slot := 16, constantValue := 0 }, { name := "RATIO_ALLOWANCE", type := .long, accessFlags := 26, slot := 17, constantValue := 0 }, { name := "BUFFER_SIZE", type := .int, accessFlags := 26, slot := 18, constantValue := 0 }, { name := "DAMAGED", type := (.object "java/lang/String"), accessFlags := 26, slot := 19, constantValue := 0 }, { name := "ENDS_EARLY", type := (.object "java/lang/String"), accessFlags := 26, slot := 20, constantValue := 0 }, { name := "MORE_THAN_ONE_FILE", type := (.object "java/lang/String"), accessFlags := 26, slot := 21, constantValue := 0 }, { name := "MAX_WRITTEN_SIZE", type := .long, accessFlags := 24, slot := 22, constantValue := 0 }]
  methods := #[k2m0, k2m1]
  instanceTypes := #[]
  staticTypes := #[.long, .long, .long, .long, .int, .int, .int, .int, .int, .int, .int, .int, .int, .long, .int, .int, .long, .long, .int, (.object "java/lang/String"), (.object "java/lang/String"), (.object "java/lang/String"), .long]
  resolved := Array.replicate 372 none
  statics := none }

def pool3 : Array CpInfo := pool [(1, .class_ 2), (0, u "java/lang/Math"), (1, .class_ 6), (1, u "java/lang/Object"), (0, u "<init>"), (0, u "()V"), (89, .class_ 100), (1, u "java/lang/Math$RandomNumberGeneratorHolder"), (20, u "(JJ)J"), (50, u "negativeZeroFloatBits"), (0, u "J"), (2, u "negativeZeroDoubleBits"), (24, u "min"), (43, u "$assertionsDisabled"), (0, u "Z"), (91, u "twoToTheDoubleScaleDown"), (0, u "D"), (4, u "twoToTheDoubleScaleUp"), (9, u "E"), (3, u "PI"), (2, u "TAU"), (2, u "DEGREES_TO_RADIANS"), (0, u "RADIANS_TO_DEGREES")] 94

def k3m0 : Method := { name := "<init>", desc := "()V", sig := { parameters := [], returnType := none }, accessFlags := 2, code := none }
def k3c1 : Code := { maxStack := 4, maxLocals := 4, code := jdk_29_method_70_code, exceptionTable := #[], attributes := #[] }
def k3m1 : Method := { name := "min", desc := "(JJ)J", sig := { parameters := [.long, .long], returnType := some .long }, accessFlags := 9, code := some k3c1 }
/-- java/lang/Math -/
def k3 : Class := { plain "java/lang/Math" (some 0) with
  accessFlags := 49
  interfaces := #[]
  cf := some (fileOf pool3 1 #[.nestMembers #[98]] #[{ accessFlags := 2, nameIndex := 7, descriptorIndex := 8, attributes := #[] }, { accessFlags := 9, nameIndex := 201, descriptorIndex := 121, attributes := #[] }] 49 4 #[] #[{ accessFlags := 25, nameIndex := 354, descriptorIndex := 339, attributes := #[] }, { accessFlags := 25, nameIndex := 358, descriptorIndex := 339, attributes := #[] }, { accessFlags := 25, nameIndex := 361, descriptorIndex := 339, attributes := #[] }, { accessFlags := 26, nameIndex := 364, descriptorIndex := 339, attributes := #[] }, { accessFlags := 26, nameIndex := 365, descriptorIndex := 339, attributes := #[] }, { accessFlags := 26, nameIndex := 172, descriptorIndex := 173, attributes := #[] }, { accessFlags := 26, nameIndex := 176, descriptorIndex := 173, attributes := #[] }, { accessFlags := 8, nameIndex := 344, descriptorIndex := 339, attributes := #[] }, { accessFlags := 8, nameIndex := 338, descriptorIndex := 339, attributes := #[] }, { accessFlags := 4120, nameIndex := 245, descriptorIndex := 246, attributes := #[] }])
  fields := #[{ name := "E", type := .double, accessFlags := 25, slot := 0, constantValue := 0 }, { name := "PI", type := .double, accessFlags := 25, slot := 1, constantValue := 0 }, { name := "TAU", type := .double, accessFlags := 25, slot := 2, constantValue := 0 }, { name := "DEGREES_TO_RADIANS", type := .double, accessFlags := 26, slot := 3, constantValue := 0 }, { name := "RADIANS_TO_DEGREES", type := .double, accessFlags := 26, slot := 4, constantValue := 0 }, { name := "negativeZeroFloatBits", type := .long, accessFlags := 26, slot := 5, constantValue := 0 }, { name := "negativeZeroDoubleBits", type := .long, accessFlags := 26, slot := 6, constantValue := 0 }, { name := "twoToTheDoubleScaleUp", type := .double, accessFlags := 8, slot := 7, constantValue := 0 }, { name := "twoToTheDoubleScaleDown", type := .double, accessFlags := 8, slot := 8, constantValue := 0 }, { name := "$assertionsDisabled", type := .boolean, accessFlags := 4120, slot := 9, constantValue := 0 }]
  methods := #[k3m0, k3m1]
  instanceTypes := #[]
  staticTypes := #[.double, .double, .double, .double, .double, .long, .long, .double, .double, .boolean]
  resolved := Array.replicate 460 none
  statics := none }

def pool4 : Array CpInfo := pool [(1, u "java/lang/Cloneable"), (0, .class_ 1), (0, u "java/lang/Object"), (0, .class_ 3)] 3

/-- java/lang/Cloneable -/
def k4 : Class := { plain "java/lang/Cloneable" (some 0) with
  accessFlags := 1537
  interfaces := #[]
  cf := some (fileOf pool4 2 #[] #[] 1537 4 #[] #[])
  fields := #[]
  methods := #[]
  instanceTypes := #[]
  staticTypes := #[]
  resolved := Array.replicate 8 none
  statics := none }

def pool5 : Array CpInfo := pool [(1, u "java/io/Serializable"), (0, .class_ 1), (0, u "java/lang/Object"), (0, .class_ 3)] 3

/-- java/io/Serializable -/
def k5 : Class := { plain "java/io/Serializable" (some 0) with
  accessFlags := 1537
  interfaces := #[]
  cf := some (fileOf pool5 2 #[] #[] 1537 4 #[] #[])
  fields := #[]
  methods := #[]
  instanceTypes := #[]
  staticTypes := #[]
  resolved := Array.replicate 8 none
  statics := none }

/-- the primitive byte -/
def k6 : Class := { plain "byte" none with kind := .primitive 'B', accessFlags := 0x411 }
/-- [B -/
def k7 : Class := { plain "[B" (some 0) with kind := .array 6 .byte, interfaces := #[4, 5], accessFlags := 1041 }

/-- the primitive int -/
def k8 : Class := { plain "int" none with kind := .primitive 'I', accessFlags := 0x411 }
/-- [I -/
def k9 : Class := { plain "[I" (some 0) with kind := .array 8 .int, interfaces := #[4, 5], accessFlags := 1041 }

def heap : Heap := #[]
def classes : Array Class := #[k0, k1, k2, k3, k4, k5, k6, k7, k8, k9]
def interned : List (Array UInt16 × Addr) := []
def slotsUsed : Nat := 0
def theMethod : MethodId := ⟨1, 1⟩
def args0 : Array Value := #[.long 5, .int 5]
def aboutOver (below : List Frame) : State where
  vm := { classes := classes, interned := interned.toArray }
  heap := heap
  slotsUsed := slotsUsed
  threads := #[{ frames := .invoking theMethod args0 :: below }]
def below0 : List Frame := [.native { method := ⟨0, 0⟩, args := #[] }]
def about1 : State := aboutOver below0
def p0 : Program := .bare "" "" ""
def e0 : Env := launch0.env 0 0 0
theorem w_frames : about1.frames = Frame.invoking theMethod args0 :: below0 := rfl
set_option maxRecDepth 65536 in
theorem w_args : argsFit about1.vm theMethod args0 = true := by decide +kernel
set_option maxRecDepth 65536 in
theorem w_heap : heapFits about1 = true := by decide +kernel
set_option maxRecDepth 65536 in
theorem w_runnable : about1.curStatus? = some .runnable := by decide +kernel
set_option maxRecDepth 65536 in
theorem w_alone : about1.alone = true := by decide +kernel
set_option maxRecDepth 65536 in
theorem w_named : about1.methodNamed? x = some theMethod := by decide +kernel
set_option maxRecDepth 65536 in
theorem w_hears : about1.hears theMethod below0 = true := by decide +kernel
set_option maxRecDepth 65536 in
theorem w_ripe : about1.ripe theMethod args0 below0 = true := by decide +kernel
theorem w_running : about1.status = .running := rfl
set_option maxRecDepth 65536 in
theorem w_room : about1.hasRoom e0.platform room_1 = true :=
  launch0.hasRoom_least _ room_1 (by decide +kernel) (by decide +kernel) (by decide +kernel) (by decide +kernel) (by decide +kernel) (by decide +kernel)
theorem allAtoms_all (ts : List Jvm.Cond) (a : Array Jvm.Value) (st : Jvm.State) : (allAtoms ts).before a st = ts.all (fun c => c.before a st) := by
  induction ts with
  | nil => rfl
  | cons c t ih =>
    show (Jvm.Cond.and c (allAtoms t)).before a st = _
    rw [Jvm.Cond.before_and, ih, List.all_cons]
def words1 : List Jvm.Cond := Jvm.Cond.code x code maxLocals ret :: tables_1
/-- a 'code' word, met by the world's own term for the bytes: nothing is compared byte by byte -/
theorem code_word {y : MethodName} {bytes : ByteArray} {mx : Nat} {rt : Option FieldType} {a : Array Value} {s : State} {m : MethodId} {meth : Method} {c : Code} (h1 : s.methodNamed? y = some m) (h2 : s.vm.method? m = some meth) (h3 : meth.code = some c) (h4 : c.code = bytes)
    (h5 : (c.maxLocals == mx && c.exceptionTable.isEmpty && decide (c.maxStack ≤ mostOperands) && decide (meth.sig.returnType = rt) && !meth.locks && decide (parseMethodDescriptor y.desc = some meth.sig)) = true) : (Jvm.Cond.code y bytes mx rt).before a s = true := by
  simp only [Bool.and_eq_true, beq_iff_eq, Bool.not_eq_true', decide_eq_true_eq] at h5
  obtain ⟨⟨⟨⟨⟨g1, g2⟩, g3⟩, g4⟩, g5⟩, g6⟩ := h5
  simp [Cond.before, Cond.holds, Cond.value, h1, h2, h3, h4, g1, g2, g3, g4, g5, g6]
def isCode : Jvm.Cond → Bool
  | .code _ _ _ _ => true
  | _ => false
theorem all_split {L : List Jvm.Cond} {P : Jvm.Cond → Bool} (h1 : L.all (fun c => isCode c || P c) = true) (h2 : ∀ c ∈ L.filter isCode, P c = true) : L.all P = true := by
  refine List.all_eq_true.mpr fun c hc => ?_
  have h := List.all_eq_true.mp h1 c hc
  rcases Bool.eq_false_or_eq_true (isCode c) with hi | hi
  · exact h2 c (List.mem_filter.mpr ⟨hc, hi⟩)
  · simpa [hi] using h
set_option maxRecDepth 65536 in
theorem w_c0 : (Jvm.Cond.code x code maxLocals ret).before args0 about1 = true := code_word (m := ⟨1, 1⟩) (meth := k1m1) (c := k1c1) (by decide +kernel) rfl rfl rfl (by decide +kernel)
set_option maxRecDepth 65536 in
theorem w_c1 : (Jvm.Cond.code ({ cls := "com/example/guard3/guard3/Part15Zip", name := "mostExtracted", desc := "(J)J" } : Jvm.MethodName) prog_67_method_2_code (4 : Nat) (Option.some Jvm.ClassFile.FieldType.long)).before args0 about1 = true := code_word (m := ⟨2, 1⟩) (meth := k2m1) (c := k2c1) (by decide +kernel) rfl rfl rfl (by decide +kernel)
set_option maxRecDepth 65536 in
theorem w_c2 : (Jvm.Cond.code ({ cls := "java/lang/Math", name := "min", desc := "(JJ)J" } : Jvm.MethodName) jdk_29_method_70_code (4 : Nat) (Option.some Jvm.ClassFile.FieldType.long)).before args0 about1 = true := code_word (m := ⟨3, 1⟩) (meth := k3m1) (c := k3c1) (by decide +kernel) rfl rfl rfl (by decide +kernel)
def codes1 : List Jvm.Cond := [Jvm.Cond.code x code maxLocals ret, Jvm.Cond.code ({ cls := "com/example/guard3/guard3/Part15Zip", name := "mostExtracted", desc := "(J)J" } : Jvm.MethodName) prog_67_method_2_code (4 : Nat) (Option.some Jvm.ClassFile.FieldType.long), Jvm.Cond.code ({ cls := "java/lang/Math", name := "min", desc := "(JJ)J" } : Jvm.MethodName) jdk_29_method_70_code (4 : Nat) (Option.some Jvm.ClassFile.FieldType.long)]
set_option maxRecDepth 65536 in
theorem codes_eq : words1.filter isCode = codes1 := rfl
theorem w_codes : ∀ c ∈ words1.filter isCode, c.before args0 about1 = true := by
  rw [codes_eq]
  intro c hc
  simp only [codes1, List.mem_cons, List.not_mem_nil, or_false] at hc
  rcases hc with rfl | rfl | rfl
  · exact w_c0
  · exact w_c1
  · exact w_c2
set_option maxRecDepth 65536 in
theorem w_t1 : words1.all (fun c => isCode c || c.before args0 about1) = true := by decide +kernel
theorem w_tables : (allAtoms (Jvm.Cond.code x code maxLocals ret :: tables_1)).before args0 about1 = true := by
  rw [allAtoms_all]
  show words1.all (fun c => c.before args0 about1) = true
  refine all_split ?_ w_codes
  rw [w_t1]
set_option maxRecDepth 65536 in
theorem w_case : (Jvm.Cond.and given_1 narrow_1).before args0 about1 = true := by decide +kernel
theorem w_applies : (headSpec (Jvm.Cond.code x code maxLocals ret :: tables_1) room_1).applies x e0.platform about1 = true :=
  (Spec.applies_iff w_frames).mpr ⟨w_running, w_runnable, w_alone, w_named, w_hears, w_ripe, w_room, w_tables⟩
theorem atStart : AtStart classFile x code maxLocals ret World_1 tables_1 room_1 Calls_1 rest_1 Pre_1 launch0 p0 e0 about1 theMethod args0 below0 :=
  ⟨lists_1, trivial, launch0.admits_env _ _ _, launch0.least_env, fairChoices_fair.cas, fairChoices_fair.clock, w_frames, w_args, w_heap, w_applies, trivial, trivial, w_case⟩
end start1
theorem witness_1 : WitnessClaimed_1 := ⟨start1.p0, start1.e0, start1.about1, start1.theMethod, start1.args0, start1.below0, start1.atStart⟩
end Jvm.Pilot.@@N@@
