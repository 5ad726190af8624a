import JvmDerived
import JvmDerived.Pilot.@@N@@Statement
import JvmDerived.Pilot.@@N@@Code
set_option linter.unusedVariables false
set_option linter.unusedSimpArgs false
namespace Jvm.RoadKit
open Sem ClassFile Op Lib Jvm.Stand Jvm.Free Jvm.LawKit
section New
variable {p : Program} {l : Launch} {e : Env} {R : Room} {s : State} {m : MethodId} {args : Array Value} {below : List Frame} {meth : Method} {c : Code} {T : State} {locs : List Loc} {cells slots : Nat}
theorem retI (X : Stand p l e R s m args below meth c T locs cells slots) (hEX : p.tables.exec = Jvm.exec) {pc : Nat} {Ls : Array Slot} {z : Int32} {rest : List Value} (hRT : meth.sig.returnType = some .int) (hd : decode c.code pc = .ok (.ireturn, 1)) {fs : List Frame}
    (hl : ∀ (f : JFrame) (acts : List Action), f.method = m → f.locked = none → f.entered = [] → (doReturn e (T.setTop f) acts (some (.int z))).1 = T.setFrames fs) : Steps p.tables e below (T.setTop (mkF m pc Ls (.int z :: rest))) (T.setFrames fs) := by
  have hm' : T.vm.method? m = some meth := X.method'
  have hn : narrow .int (.int z) = .int z := rfl
  show Steps p.tables e below (T.setTop { method := m, pc := pc, locals := Ls, stack := _ :: rest, locked := none }) _
  jvm_step X.here [X.here.top, hEX, hd, hm', hRT, hn]
  first | (intro acts; rw [hl _ acts rfl rfl rfl]) | rw [hl _ _ rfl rfl rfl]
  exact Steps.refl _
abbrev Us : Slot := .unset
abbrev Zs : Slot := .second
abbrev Nv : Slot := .val .null
abbrev Iv (x : Int32) : Slot := .val (.int x)
abbrev Lv (x : Int64) : Slot := .val (.long x)
abbrev Rv (x : Addr) : Slot := .val (.ref x)
/-- the body comes to its end from st: it returns v, and Q holds of v, of the heap and of the places written -/
def Done (p : Program) (e : Env) (below : List Frame) (s : State) (Q : Option Value → Heap → List Loc → Prop) (kc ks : Nat) (st : State) : Prop :=
  ∃ (s₂ : State) (o : Outcome), Steps p.tables e below st s₂ ∧ s₂.status = .running ∧ Ended s₂ below o ∧ ∃ v L, o = .returned v ∧ Q v s₂.heap L ∧ FrameEnd s o s₂ L kc ks
variable {Q : Option Value → Heap → List Loc → Prop} {kc ks : Nat}
theorem Done.pre {st st' : State} (h : ∀ t, Steps p.tables e below st' t → Steps p.tables e below st t) (D : Done p e below s Q kc ks st') : Done p e below s Q kc ks st := by
  obtain ⟨s₂, o, h1, r⟩ := D
  exact ⟨s₂, o, h _ h1, r⟩
theorem Done.retI (X : Stand p l e R s m args below meth c T locs cells slots) (hEX : p.tables.exec = Jvm.exec) (hLK : meth.locks = false) {pc : Nat} {Ls : Array Slot} {z : Int32} {rest : List Value} (hRT : meth.sig.returnType = some .int) (hd : decode c.code pc = .ok (.ireturn, 1))
    (hQ : Q (some (.int z)) T.heap locs) (hc : cells ≤ kc) (hs : slots ≤ ks) : Done p e below s Q kc ks (T.setTop (mkF m pc Ls (.int z :: rest))) := by
  obtain ⟨fs, hr, hrun, hended, hW, hsame⟩ := X.leave (v := some (.int z)) (fun h => by rw [hRT] at h; cases h) hLK
  exact ⟨_, _, Jvm.RoadKit.retI X hEX hRT hd hr, hrun, hended, _, _, rfl, hQ, ⟨_, rfl⟩, hW, hsame.mono hc hs⟩
theorem Done.retN (X : Stand p l e R s m args below meth c T locs cells slots) (hEX : p.tables.exec = Jvm.exec) (hLK : meth.locks = false) {pc : Nat} {Ls : Array Slot} {z : Int32} {t : FieldType} {rest : List Value} (hRT : meth.sig.returnType = some t) (ht : t = .boolean ∨ t = .byte ∨ t = .char ∨ t = .short) (hd : decode c.code pc = .ok (.ireturn, 1))
    (hQ : Q (some (.int (nar t z))) T.heap locs) (hc : cells ≤ kc) (hs : slots ≤ ks) : Done p e below s Q kc ks (T.setTop (mkF m pc Ls (.int z :: rest))) := by
  obtain ⟨fs, hr, hrun, hended, hW, hsame⟩ := X.leave (v := some (.int (nar t z))) (fun h => by rw [hRT] at h; cases h) hLK
  exact ⟨_, _, Jvm.RoadKit.retN X hEX hRT ht hd hr, hrun, hended, _, _, rfl, hQ, ⟨_, rfl⟩, hW, hsame.mono hc hs⟩
theorem Done.retL (X : Stand p l e R s m args below meth c T locs cells slots) (hEX : p.tables.exec = Jvm.exec) (hLK : meth.locks = false) {pc : Nat} {Ls : Array Slot} {z : Int64} {rest : List Value} (hRT : meth.sig.returnType = some .long) (hd : decode c.code pc = .ok (.lreturn, 1))
    (hQ : Q (some (.long z)) T.heap locs) (hc : cells ≤ kc) (hs : slots ≤ ks) : Done p e below s Q kc ks (T.setTop (mkF m pc Ls (.long z :: rest))) := by
  obtain ⟨fs, hr, hrun, hended, hW, hsame⟩ := X.leave (v := some (.long z)) (fun h => by rw [hRT] at h; cases h) hLK
  exact ⟨_, _, retOut X hEX hRT rfl (Or.inr (Or.inl ⟨rfl, rfl, _, rfl⟩)) hd hr, hrun, hended, _, _, rfl, hQ, ⟨_, rfl⟩, hW, hsame.mono hc hs⟩
theorem Done.retA (X : Stand p l e R s m args below meth c T locs cells slots) (hEX : p.tables.exec = Jvm.exec) (hLK : meth.locks = false) {pc : Nat} {Ls : Array Slot} {w : Value} {t : FieldType} {rest : List Value} (hRT : meth.sig.returnType = some t) (ht : t.isReference = true) (hw : w.isRef = true) (hd : decode c.code pc = .ok (.areturn, 1))
    (hQ : Q (some w) T.heap locs) (hc : cells ≤ kc) (hs : slots ≤ ks) : Done p e below s Q kc ks (T.setTop (mkF m pc Ls (w :: rest))) := by
  obtain ⟨fs, hr, hrun, hended, hW, hsame⟩ := X.leave (v := some w) (fun h => by rw [hRT] at h; cases h) hLK
  have hn : narrow t w = w := by cases t <;> first | rfl | (simp [FieldType.isReference] at ht)
  exact ⟨_, _, retOut X hEX hRT hn (Or.inr (Or.inr (Or.inr (Or.inr ⟨rfl, ht, hw⟩)))) hd hr, hrun, hended, _, _, rfl, hQ, ⟨_, rfl⟩, hW, hsame.mono hc hs⟩
theorem Done.retV (X : Stand p l e R s m args below meth c T locs cells slots) (hEX : p.tables.exec = Jvm.exec) (hLK : meth.locks = false) {pc : Nat} {Ls : Array Slot} (hRT : meth.sig.returnType = none) (hd : decode c.code pc = .ok (.return_, 1))
    (hQ : Q none T.heap locs) (hc : cells ≤ kc) (hs : slots ≤ ks) : Done p e below s Q kc ks (T.setTop (mkF m pc Ls [])) := by
  obtain ⟨fs, hr, hrun, hended, hW, hsame⟩ := X.leave (v := none) (fun _ => rfl) hLK
  exact ⟨_, _, X.returnOut hEX hRT hd hr, hrun, hended, _, _, rfl, hQ, ⟨_, rfl⟩, hW, hsame.mono hc hs⟩
end New
end Jvm.RoadKit
namespace Jvm.Pilot.@@N@@
open Jvm Jvm.ClassFile Sem Op Lib Jvm.Free Jvm.Stand Jvm.LawKit Jvm.RoadKit Bundle Jvm.Pilot.@@N@@.Jvm.D

def own_pick (c : Int32) (free key : Int64) : Int64 := if c = (0 : Int32) then free else if c = (1 : Int32) then key else if c = (2 : Int32) then (-9223372036854775808 : Int64) else (9223372036854775807 : Int64)
def own_in1 (k lo hi : Int64) : Int32 := if k < lo then (0 : Int32) else if hi < k then (0 : Int32) else (1 : Int32)
def own_in2 (k lo hi k' lo' hi' : Int64) : Int32 := if k < lo then (0 : Int32) else if hi < k then (0 : Int32) else if k' < lo' then (0 : Int32) else if hi' < k' then (0 : Int32) else (1 : Int32)
theorem own_in2_eq (k lo hi k' lo' hi' : Int64) : own_in2 k lo hi k' lo' hi' = if own_in1 k lo hi = (0 : Int32) then (0 : Int32) else (if own_in1 k' lo' hi' = (0 : Int32) then (0 : Int32) else (1 : Int32)) := by
  by_cases h1 : k < lo <;> by_cases h2 : hi < k <;> by_cases h3 : k' < lo' <;> by_cases h4 : hi' < k' <;> simp [own_in2, own_in1, h1, h2, h3, h4]
theorem own_i01 (s : Int32) : (s &&& (1 : Int32)) = (0 : Int32) ∨ (s &&& (1 : Int32)) = (1 : Int32) := by
  have h1 := c_mask s (1 : Int32) 1 (by decide) (by decide)
  have e0 : (0 : Int32).toInt = 0 := rfl
  have e1 : (1 : Int32).toInt = 1 := rfl
  rw [← Int32.toInt_inj, ← Int32.toInt_inj]; omega
theorem own_d12 (s : Int32) : ((1 : Int32) + (s &&& (1 : Int32))) = (1 : Int32) ∨ ((1 : Int32) + (s &&& (1 : Int32))) = (2 : Int32) := by
  rcases own_i01 s with h | h <;> rw [h]
  · left; rfl
  · right; rfl
theorem d_method_2_code_0 : decode method_2_code 0 = .ok (.iload_n 0, 1) := by decide +kernel
theorem d_method_2_code_1 : decode method_2_code 1 = .ok (.ifCond .ne 5, 3) := by decide +kernel
theorem d_method_2_code_4 : decode method_2_code 4 = .ok (.lload_n 1, 1) := by decide +kernel
theorem d_method_2_code_5 : decode method_2_code 5 = .ok (.lreturn, 1) := by decide +kernel
theorem d_method_2_code_6 : decode method_2_code 6 = .ok (.iload_n 0, 1) := by decide +kernel
theorem d_method_2_code_7 : decode method_2_code 7 = .ok (.iconst 1, 1) := by decide +kernel
theorem d_method_2_code_8 : decode method_2_code 8 = .ok (.if_icmp .ne 5, 3) := by decide +kernel
theorem d_method_2_code_11 : decode method_2_code 11 = .ok (.lload_n 3, 1) := by decide +kernel
theorem d_method_2_code_12 : decode method_2_code 12 = .ok (.lreturn, 1) := by decide +kernel
theorem d_method_2_code_13 : decode method_2_code 13 = .ok (.iload_n 0, 1) := by decide +kernel
theorem d_method_2_code_14 : decode method_2_code 14 = .ok (.iconst 2, 1) := by decide +kernel
theorem d_method_2_code_15 : decode method_2_code 15 = .ok (.if_icmp .ne 7, 3) := by decide +kernel
theorem d_method_2_code_18 : decode method_2_code 18 = .ok (.ldc2_w 9, 3) := by decide +kernel
theorem d_method_2_code_21 : decode method_2_code 21 = .ok (.lreturn, 1) := by decide +kernel
theorem d_method_2_code_22 : decode method_2_code 22 = .ok (.ldc2_w 11, 3) := by decide +kernel
theorem d_method_2_code_25 : decode method_2_code 25 = .ok (.lreturn, 1) := by decide +kernel
def Qrm_pick (Z : State) (c : Int32) (free : Int64) (key : Int64) (h0 : Heap) (n0 : Nat) (v_ : Option Value) (h_ : Heap) (L_ : List Loc) : Prop := v_ = some (.long (own_pick c free key)) ∧ Fr n0 L_ ∧ h_ = h0
theorem ef_rm_pick (m : MethodId) (x0 : Int32) (x1 : Int64) (x2 : Int64) : entryFrame m #[(.int x0), (.long x1), (.long x2)] 5 = mkF m 0 #[.val (.int x0), .val (.long x1), .second, .val (.long x2), .second] [] := by first | (simp [entryFrame, mkF, argsToLocals, Value.category]; done) | rfl
theorem pn_com_example_pointcell_pointcell_LeafIsInsidePinLaw : plainName "com/example/pointcell/pointcell/LeafIsInsidePinLaw" = true := by first | (simp [plainName, overriddenIn]; done) | decide +kernel
set_option maxRecDepth 65536 in
set_option maxHeartbeats 40000000 in
theorem rm_pick (l : Launch) (Z : State) (aZ : Array Value) (hw : ∀ d ∈ tables_1, d.before aZ Z = true) (ws : List Jvm.Cond) (c : Int32) (free : Int64) (key : Int64) (h0 : Heap) (n0 : Nat) (Z0 : n0 ≤ h0.size) :
    MetFree l (⟨"com/example/pointcell/pointcell/LeafIsInsidePinLaw", "pick", "(IJJ)J"⟩ : MethodName) (head1 (Jvm.Cond.code (⟨"com/example/pointcell/pointcell/LeafIsInsidePinLaw", "pick", "(IJJ)J"⟩ : MethodName) method_2_code 5 (some .long) :: ws) ({ frames := 0, cells := 0, slots := 0, locals := 0 } : Room)) (fun a_ U_ => a_ = #[(.int c), (.long free), (.long key)] ∧ Z.Warmed39 U_.vm ∧ U_.heap = h0) (fun _ _ _ _ _ => True) (fun _ U_ o_ U2_ => ∃ v_ L_, o_ = .returned v_ ∧ Qrm_pick Z c free key h0 n0 v_ U2_.heap L_ ∧ FrameEnd U_ o_ U2_ L_ ({ frames := 0, cells := 0, slots := 0, locals := 0 } : Room).cells ({ frames := 0, cells := 0, slots := 0, locals := 0 } : Room).slots) := by
  refine MetFree.of_bodySF (plainFor_of_name pn_com_example_pointcell_pointcell_LeafIsInsidePinLaw) hisR ?_
  intro p e s m args below meth cO s₁ Bd hml0 hP hK
  obtain ⟨rfl, hZW, hh⟩ := hP
  have hEX := Bd.exec
  have hBY := Bd.bytes
  have hMX : cO.maxLocals = 5 := hml0
  have hOW : s.vm.findClass "com/example/pointcell/pointcell/LeafIsInsidePinLaw" = some m.cls := findClass_of_methodNamed Bd.named
  have hNM := (name_of_methodNamed Bd.named Bd.method).1
  have hLK := Bd.notSynchronized
  have hRT := Bd.returns
  have X0 : Stand p l e ({ frames := 0, cells := 0, slots := 0, locals := 0 } : Room) s m #[(.int c), (.long free), (.long key)] below meth cO s₁ [] 0 0 := Stand.of_body Bd
  have e0 : s₁.heap = h0 := by rw [← hh, Bd.state]; rfl
  have N0 := Fr.nil n0
  have K0 : Keep h0 h0 [] := Keep.refl _ _
  show Done p e below s (Qrm_pick Z c free key h0 n0) ({ frames := 0, cells := 0, slots := 0, locals := 0 } : Room).cells ({ frames := 0, cells := 0, slots := 0, locals := 0 } : Room).slots (s₁.setTop (entryFrame m #[(.int c), (.long free), (.long key)] 5))
  refine Done.pre (fun t_ k_ => castTop (ef_rm_pick m c free key) k_) ?_
  show Done _ _ _ _ _ _ _ (s₁.setTop (mkF m 0 #[Iv c, Lv free, Zs, Lv key, Zs] []))
  have sg_1 : ∀ tt_, Steps p.tables e below (s₁.setTop (mkF m 1 #[Iv c, Lv free, Zs, Lv key, Zs] [(.int c)])) tt_ → Steps p.tables e below (s₁.setTop (mkF m 0 #[Iv c, Lv free, Zs, Lv key, Zs] [])) tt_ := by
    intro tt_ kt_
    refine XS.iloadN X0.here hEX rfl (hb hBY d_method_2_code_0) rfl ?_
    exact kt_
  refine Done.pre sg_1 ?_
  by_cases hc1 : c = (0 : Int32)
  · skip
    have sg_2 : ∀ tt_, Steps p.tables e below (s₁.setTop (mkF m 5 #[Iv c, Lv free, Zs, Lv key, Zs] [(.long free)])) tt_ → Steps p.tables e below (s₁.setTop (mkF m 1 #[Iv c, Lv free, Zs, Lv key, Zs] [(.int c)])) tt_ := by
      intro tt_ kt_
      refine XS.ifNo X0.here hEX rfl (hb hBY d_method_2_code_1) rfl ((if0 _ _).trans (teq hc1).2) ?_
      show Steps p.tables e below (s₁.setTop (mkF m 4 #[Iv c, Lv free, Zs, Lv key, Zs] [])) tt_
      refine XS.lloadN X0.here hEX rfl (hb hBY d_method_2_code_4) rfl ?_
      exact kt_
    refine Done.pre sg_2 ?_
    exact Done.retL X0 hEX hLK hRT (hb hBY d_method_2_code_5) (by rw [e0]; exact ⟨(by rw [own_pick, if_pos hc1]), N0, rfl⟩) (by decide) (by decide)
  · skip
    have sg_3 : ∀ tt_, Steps p.tables e below (s₁.setTop (mkF m 8 #[Iv c, Lv free, Zs, Lv key, Zs] [(.int (1 : Int32)), (.int c)])) tt_ → Steps p.tables e below (s₁.setTop (mkF m 1 #[Iv c, Lv free, Zs, Lv key, Zs] [(.int c)])) tt_ := by
      intro tt_ kt_
      refine XS.ifYes X0.here hEX rfl (pc0 := 1) (pc' := 6) rfl (hb hBY d_method_2_code_1) rfl ((if0 _ _).trans (feq hc1).2) (by decide) (by decide) ?_
      show Steps p.tables e below (s₁.setTop (mkF m 6 #[Iv c, Lv free, Zs, Lv key, Zs] [])) tt_
      refine XS.iloadN X0.here hEX rfl (hb hBY d_method_2_code_6) rfl ?_
      show Steps p.tables e below (s₁.setTop (mkF m 7 #[Iv c, Lv free, Zs, Lv key, Zs] [(.int c)])) tt_
      refine XS.iconst X0.here hEX rfl (hb hBY d_method_2_code_7) ?_
      exact kt_
    refine Done.pre sg_3 ?_
    by_cases hc8 : c = (1 : Int32)
    · skip
      have sg_4 : ∀ tt_, Steps p.tables e below (s₁.setTop (mkF m 12 #[Iv c, Lv free, Zs, Lv key, Zs] [(.long key)])) tt_ → Steps p.tables e below (s₁.setTop (mkF m 8 #[Iv c, Lv free, Zs, Lv key, Zs] [(.int (1 : Int32)), (.int c)])) tt_ := by
        intro tt_ kt_
        refine XS.icmpNo X0.here hEX rfl (hb hBY d_method_2_code_8) rfl (teq hc8).2 ?_
        show Steps p.tables e below (s₁.setTop (mkF m 11 #[Iv c, Lv free, Zs, Lv key, Zs] [])) tt_
        refine XS.lloadN X0.here hEX rfl (hb hBY d_method_2_code_11) rfl ?_
        exact kt_
      refine Done.pre sg_4 ?_
      exact Done.retL X0 hEX hLK hRT (hb hBY d_method_2_code_12) (by rw [e0]; exact ⟨(by rw [own_pick, if_neg hc1, if_pos hc8]), N0, rfl⟩) (by decide) (by decide)
    · skip
      have sg_5 : ∀ tt_, Steps p.tables e below (s₁.setTop (mkF m 15 #[Iv c, Lv free, Zs, Lv key, Zs] [(.int (2 : Int32)), (.int c)])) tt_ → Steps p.tables e below (s₁.setTop (mkF m 8 #[Iv c, Lv free, Zs, Lv key, Zs] [(.int (1 : Int32)), (.int c)])) tt_ := by
        intro tt_ kt_
        refine XS.icmpYes X0.here hEX rfl (pc0 := 8) (pc' := 13) rfl (hb hBY d_method_2_code_8) rfl (feq hc8).2 (by decide) (by decide) ?_
        show Steps p.tables e below (s₁.setTop (mkF m 13 #[Iv c, Lv free, Zs, Lv key, Zs] [])) tt_
        refine XS.iloadN X0.here hEX rfl (hb hBY d_method_2_code_13) rfl ?_
        show Steps p.tables e below (s₁.setTop (mkF m 14 #[Iv c, Lv free, Zs, Lv key, Zs] [(.int c)])) tt_
        refine XS.iconst X0.here hEX rfl (hb hBY d_method_2_code_14) ?_
        exact kt_
      refine Done.pre sg_5 ?_
      by_cases hc15 : c = (2 : Int32)
      · skip
        have sg_6 : ∀ tt_, Steps p.tables e below (s₁.setTop (mkF m 21 #[Iv c, Lv free, Zs, Lv key, Zs] [(.long (-9223372036854775808 : Int64))])) tt_ → Steps p.tables e below (s₁.setTop (mkF m 15 #[Iv c, Lv free, Zs, Lv key, Zs] [(.int (2 : Int32)), (.int c)])) tt_ := by
          intro tt_ kt_
          refine XS.icmpNo X0.here hEX rfl (hb hBY d_method_2_code_15) rfl (teq hc15).2 ?_
          show Steps p.tables e below (s₁.setTop (mkF m 18 #[Iv c, Lv free, Zs, Lv key, Zs] [])) tt_
          refine X0.ldc2Long hEX hOW (mvT hZW (hw _ (List.mem_of_getElem? (i := 27) rfl))) (g := (mkF m 18 #[Iv c, Lv free, Zs, Lv key, Zs] [])) rfl (hb hBY d_method_2_code_18) _ ?_
          exact kt_
        refine Done.pre sg_6 ?_
        exact Done.retL X0 hEX hLK hRT (hb hBY d_method_2_code_21) (by rw [e0]; exact ⟨(by rw [own_pick, if_neg hc1, if_neg hc8, if_pos hc15]), N0, rfl⟩) (by decide) (by decide)
      · skip
        have sg_7 : ∀ tt_, Steps p.tables e below (s₁.setTop (mkF m 25 #[Iv c, Lv free, Zs, Lv key, Zs] [(.long (9223372036854775807 : Int64))])) tt_ → Steps p.tables e below (s₁.setTop (mkF m 15 #[Iv c, Lv free, Zs, Lv key, Zs] [(.int (2 : Int32)), (.int c)])) tt_ := by
          intro tt_ kt_
          refine XS.icmpYes X0.here hEX rfl (pc0 := 15) (pc' := 22) rfl (hb hBY d_method_2_code_15) rfl (feq hc15).2 (by decide) (by decide) ?_
          show Steps p.tables e below (s₁.setTop (mkF m 22 #[Iv c, Lv free, Zs, Lv key, Zs] [])) tt_
          refine X0.ldc2Long hEX hOW (mvT hZW (hw _ (List.mem_of_getElem? (i := 26) rfl))) (g := (mkF m 22 #[Iv c, Lv free, Zs, Lv key, Zs] [])) rfl (hb hBY d_method_2_code_22) _ ?_
          exact kt_
        refine Done.pre sg_7 ?_
        exact Done.retL X0 hEX hLK hRT (hb hBY d_method_2_code_25) (by rw [e0]; exact ⟨(by rw [own_pick, if_neg hc1, if_neg hc8, if_neg hc15]), N0, rfl⟩) (by decide) (by decide)
theorem d_prog_18_method_1_code_0 : decode prog_18_method_1_code 0 = .ok (.aload_n 0, 1) := by decide +kernel
theorem d_prog_18_method_1_code_1 : decode prog_18_method_1_code 1 = .ok (.invokespecial 1, 3) := by decide +kernel
theorem d_prog_18_method_1_code_4 : decode prog_18_method_1_code 4 = .ok (.aload_n 0, 1) := by decide +kernel
theorem d_prog_18_method_1_code_5 : decode prog_18_method_1_code 5 = .ok (.iload_n 1, 1) := by decide +kernel
theorem d_prog_18_method_1_code_6 : decode prog_18_method_1_code 6 = .ok (.putfield 7, 3) := by decide +kernel
theorem d_prog_18_method_1_code_9 : decode prog_18_method_1_code 9 = .ok (.aload_n 0, 1) := by decide +kernel
theorem d_prog_18_method_1_code_10 : decode prog_18_method_1_code 10 = .ok (.aload_n 2, 1) := by decide +kernel
theorem d_prog_18_method_1_code_11 : decode prog_18_method_1_code 11 = .ok (.putfield 13, 3) := by decide +kernel
theorem d_prog_18_method_1_code_14 : decode prog_18_method_1_code 14 = .ok (.aload_n 0, 1) := by decide +kernel
theorem d_prog_18_method_1_code_15 : decode prog_18_method_1_code 15 = .ok (.aload_n 3, 1) := by decide +kernel
theorem d_prog_18_method_1_code_16 : decode prog_18_method_1_code 16 = .ok (.putfield 17, 3) := by decide +kernel
theorem d_prog_18_method_1_code_19 : decode prog_18_method_1_code 19 = .ok (.return_, 1) := by decide +kernel
def Qrm_init (Z : State) (a : Addr) (dm : Int32) (ids : Addr) (kb : Addr) (u0 : Value) (u1 : Value) (u2 : Value) (h0 : Heap) (n0 : Nat) (v_ : Option Value) (h_ : Heap) (L_ : List Loc) : Prop := v_ = none ∧ Fr n0 L_ ∧ Keep h0 h_ [a] ∧ Exa Z h_ a "com/example/pointcell/pointcell/Leaf" ∧ Fld Z h_ a "com/example/pointcell/pointcell/Leaf" "dimensions" "I" (.int dm) ∧ Fld Z h_ a "com/example/pointcell/pointcell/Leaf" "docIds" "[I" (.ref ids) ∧ Fld Z h_ a "com/example/pointcell/pointcell/Leaf" "keys" "[J" (.ref kb)
theorem ef_rm_init (m : MethodId) (x0 : Addr) (x1 : Int32) (x2 : Addr) (x3 : Addr) : entryFrame m #[(.ref x0), (.int x1), (.ref x2), (.ref x3)] 4 = mkF m 0 #[.val (.ref x0), .val (.int x1), .val (.ref x2), .val (.ref x3)] [] := by first | (simp [entryFrame, mkF, argsToLocals, Value.category]; done) | rfl
theorem pn_com_example_pointcell_pointcell_Leaf : plainName "com/example/pointcell/pointcell/Leaf" = true := by first | (simp [plainName, overriddenIn]; done) | decide +kernel
set_option maxRecDepth 65536 in
set_option maxHeartbeats 40000000 in
theorem rm_init (l : Launch) (Z : State) (aZ : Array Value) (hw : ∀ d ∈ tables_1, d.before aZ Z = true) (ws : List Jvm.Cond) (a : Addr) (dm : Int32) (ids : Addr) (kb : Addr) (u0 : Value) (u1 : Value) (u2 : Value) (h0 : Heap) (n0 : Nat) (Z0 : n0 ≤ h0.size) (Ex : Exa Z h0 a "com/example/pointcell/pointcell/Leaf") (F0 : Fld Z h0 a "com/example/pointcell/pointcell/Leaf" "dimensions" "I" u0) (F1 : Fld Z h0 a "com/example/pointcell/pointcell/Leaf" "docIds" "[I" u1) (F2 : Fld Z h0 a "com/example/pointcell/pointcell/Leaf" "keys" "[J" u2) (ga : n0 ≤ a) :
    MetFree l (⟨"com/example/pointcell/pointcell/Leaf", "<init>", "(I[I[J)V"⟩ : MethodName) (head1 (Jvm.Cond.code (⟨"com/example/pointcell/pointcell/Leaf", "<init>", "(I[I[J)V"⟩ : MethodName) prog_18_method_1_code 4 none :: ws) ({ frames := 1, cells := 0, slots := 0, locals := 12 } : Room)) (fun a_ U_ => a_ = #[(.ref a), (.int dm), (.ref ids), (.ref kb)] ∧ Z.Warmed39 U_.vm ∧ U_.heap = h0) (fun _ _ _ _ _ => True) (fun _ U_ o_ U2_ => ∃ v_ L_, o_ = .returned v_ ∧ Qrm_init Z a dm ids kb u0 u1 u2 h0 n0 v_ U2_.heap L_ ∧ FrameEnd U_ o_ U2_ L_ ({ frames := 1, cells := 0, slots := 0, locals := 12 } : Room).cells ({ frames := 1, cells := 0, slots := 0, locals := 12 } : Room).slots) := by
  refine MetFree.of_bodySF (plainFor_of_name pn_com_example_pointcell_pointcell_Leaf) hisR ?_
  intro p e s m args below meth cO s₁ Bd hml0 hP hK
  obtain ⟨rfl, hZW, hh⟩ := hP
  have hEX := Bd.exec
  have hBY := Bd.bytes
  have hMX : cO.maxLocals = 4 := hml0
  have hOW : s.vm.findClass "com/example/pointcell/pointcell/Leaf" = some m.cls := findClass_of_methodNamed Bd.named
  have hNM := (name_of_methodNamed Bd.named Bd.method).1
  have hLK := Bd.notSynchronized
  have hRT := Bd.returns
  have X0 : Stand p l e ({ frames := 1, cells := 0, slots := 0, locals := 12 } : Room) s m #[(.ref a), (.int dm), (.ref ids), (.ref kb)] below meth cO s₁ [] 0 0 := Stand.of_body Bd
  have e0 : s₁.heap = h0 := by rw [← hh, Bd.state]; rfl
  have N0 := Fr.nil n0
  have K0 : Keep h0 h0 [a] := Keep.refl _ _
  show Done p e below s (Qrm_init Z a dm ids kb u0 u1 u2 h0 n0) ({ frames := 1, cells := 0, slots := 0, locals := 12 } : Room).cells ({ frames := 1, cells := 0, slots := 0, locals := 12 } : Room).slots (s₁.setTop (entryFrame m #[(.ref a), (.int dm), (.ref ids), (.ref kb)] 4))
  refine Done.pre (fun t_ k_ => castTop (ef_rm_init m a dm ids kb) k_) ?_
  show Done _ _ _ _ _ _ _ (s₁.setTop (mkF m 0 #[Rv a, Iv dm, Rv ids, Rv kb] []))
  have sg_1 : ∀ tt_, Steps p.tables e below (s₁.setTop (mkF m 1 #[Rv a, Iv dm, Rv ids, Rv kb] [(.ref a)])) tt_ → Steps p.tables e below (s₁.setTop (mkF m 0 #[Rv a, Iv dm, Rv ids, Rv kb] [])) tt_ := by
    intro tt_ kt_
    refine XS.aloadN X0.here hEX rfl (hb hBY d_prog_18_method_1_code_0) rfl rfl ?_
    exact kt_
  refine Done.pre sg_1 ?_
  obtain ⟨T_2, X_2, e_2, st_2⟩ := initO X0 hEX hZW hOW (hw _ (List.mem_of_getElem? (i := 12) rfl)) (hw _ (List.mem_of_getElem? (i := 13) rfl)) (hw _ (List.mem_of_getElem? (i := 14) rfl)) e0 (g := (mkF m 1 #[Rv a, Iv dm, Rv ids, Rv kb] [(.ref a)])) rfl (by rw [hMX]; rfl) rfl (hb hBY d_prog_18_method_1_code_1) (by decide) (W := 0) (by show 2 * 0 + _ ≤ _; exact Nat.le_of_eq rfl) (by decide)
  refine Done.pre st_2 ?_
  show Done _ _ _ _ _ _ _ (T_2.setTop (mkF m 4 #[Rv a, Iv dm, Rv ids, Rv kb] []))
  have sg_3 : ∀ tt_, Steps p.tables e below (T_2.setTop (mkF m 6 #[Rv a, Iv dm, Rv ids, Rv kb] [(.int dm), (.ref a)])) tt_ → Steps p.tables e below (T_2.setTop (mkF m 4 #[Rv a, Iv dm, Rv ids, Rv kb] [])) tt_ := by
    intro tt_ kt_
    refine XS.aloadN X_2.here hEX rfl (hb hBY d_prog_18_method_1_code_4) rfl rfl ?_
    show Steps p.tables e below (T_2.setTop (mkF m 5 #[Rv a, Iv dm, Rv ids, Rv kb] [(.ref a)])) tt_
    refine XS.iloadN X_2.here hEX rfl (hb hBY d_prog_18_method_1_code_5) rfl ?_
    exact kt_
  refine Done.pre sg_3 ?_
  obtain ⟨T_4, h_4, X_4, e_4, W_4, st_4⟩ := putF X_2 hEX hZW hOW (host := "") (Or.inl (hw _ (List.mem_of_getElem? (i := 15) rfl))) Via.refl e_2 F0 Ex (Or.inr ⟨(hw _ (List.mem_of_getElem? (i := 16) rfl)), rfl, hNM⟩) (hw _ (List.mem_of_getElem? (i := 6) rfl)) (ty := .int) (by decide) rfl rfl (g := (mkF m 6 #[Rv a, Iv dm, Rv ids, Rv kb] [(.int dm), (.ref a)])) rfl rfl (hb hBY d_prog_18_method_1_code_6)
  have N_4 := Fr.snoc X_4 N0 ga
  have K__5 : Keep h0 h_4 [a] := K0.wr W_4 (Or.inl (List.mem_of_getElem? (i := 0) rfl))
  have f_6 : Exa Z h_4 a "com/example/pointcell/pointcell/Leaf" := Ex.wr W_4
  have f_7 : Fld Z h_4 a "com/example/pointcell/pointcell/Leaf" "docIds" "[I" u1 := F1.other W_4 (Or.inr (slot_ne (Or.inr (hw _ (List.mem_of_getElem? (i := 18) rfl))) (Or.inr (hw _ (List.mem_of_getElem? (i := 16) rfl))) (by decide) (t := (.array .int)) (t' := .int) (by decide) (by decide)))
  have f_8 : Fld Z h_4 a "com/example/pointcell/pointcell/Leaf" "keys" "[J" u2 := F2.other W_4 (Or.inr (slot_ne (Or.inr (hw _ (List.mem_of_getElem? (i := 20) rfl))) (Or.inr (hw _ (List.mem_of_getElem? (i := 16) rfl))) (by decide) (t := (.array .long)) (t' := .int) (by decide) (by decide)))
  have f_9 : Fld Z h_4 a "com/example/pointcell/pointcell/Leaf" "dimensions" "I" (.int dm) := F0.same W_4
  refine Done.pre st_4 ?_
  show Done _ _ _ _ _ _ _ (T_4.setTop (mkF m 9 #[Rv a, Iv dm, Rv ids, Rv kb] []))
  have sg_10 : ∀ tt_, Steps p.tables e below (T_4.setTop (mkF m 11 #[Rv a, Iv dm, Rv ids, Rv kb] [(.ref ids), (.ref a)])) tt_ → Steps p.tables e below (T_4.setTop (mkF m 9 #[Rv a, Iv dm, Rv ids, Rv kb] [])) tt_ := by
    intro tt_ kt_
    refine XS.aloadN X_4.here hEX rfl (hb hBY d_prog_18_method_1_code_9) rfl rfl ?_
    show Steps p.tables e below (T_4.setTop (mkF m 10 #[Rv a, Iv dm, Rv ids, Rv kb] [(.ref a)])) tt_
    refine XS.aloadN X_4.here hEX rfl (hb hBY d_prog_18_method_1_code_10) rfl rfl ?_
    exact kt_
  refine Done.pre sg_10 ?_
  obtain ⟨T_11, h_11, X_11, e_11, W_11, st_11⟩ := putF X_4 hEX hZW hOW (host := "") (Or.inl (hw _ (List.mem_of_getElem? (i := 17) rfl))) Via.refl e_4 f_7 f_6 (Or.inr ⟨(hw _ (List.mem_of_getElem? (i := 18) rfl)), rfl, hNM⟩) (hw _ (List.mem_of_getElem? (i := 6) rfl)) (ty := (.array .int)) (by decide) rfl rfl (g := (mkF m 11 #[Rv a, Iv dm, Rv ids, Rv kb] [(.ref ids), (.ref a)])) rfl rfl (hb hBY d_prog_18_method_1_code_11)
  have N_11 := Fr.snoc X_11 N_4 ga
  have K__12 : Keep h0 h_11 [a] := K__5.wr W_11 (Or.inl (List.mem_of_getElem? (i := 0) rfl))
  have f_13 : Exa Z h_11 a "com/example/pointcell/pointcell/Leaf" := f_6.wr W_11
  have f_14 : Fld Z h_11 a "com/example/pointcell/pointcell/Leaf" "keys" "[J" u2 := f_8.other W_11 (Or.inr (slot_ne (Or.inr (hw _ (List.mem_of_getElem? (i := 20) rfl))) (Or.inr (hw _ (List.mem_of_getElem? (i := 18) rfl))) (by decide) (t := (.array .long)) (t' := (.array .int)) (by decide) (by decide)))
  have f_15 : Fld Z h_11 a "com/example/pointcell/pointcell/Leaf" "dimensions" "I" (.int dm) := f_9.other W_11 (Or.inr (slot_ne (Or.inr (hw _ (List.mem_of_getElem? (i := 16) rfl))) (Or.inr (hw _ (List.mem_of_getElem? (i := 18) rfl))) (by decide) (t := .int) (t' := (.array .int)) (by decide) (by decide)))
  have f_16 : Fld Z h_11 a "com/example/pointcell/pointcell/Leaf" "docIds" "[I" (.ref ids) := f_7.same W_11
  refine Done.pre st_11 ?_
  show Done _ _ _ _ _ _ _ (T_11.setTop (mkF m 14 #[Rv a, Iv dm, Rv ids, Rv kb] []))
  have sg_17 : ∀ tt_, Steps p.tables e below (T_11.setTop (mkF m 16 #[Rv a, Iv dm, Rv ids, Rv kb] [(.ref kb), (.ref a)])) tt_ → Steps p.tables e below (T_11.setTop (mkF m 14 #[Rv a, Iv dm, Rv ids, Rv kb] [])) tt_ := by
    intro tt_ kt_
    refine XS.aloadN X_11.here hEX rfl (hb hBY d_prog_18_method_1_code_14) rfl rfl ?_
    show Steps p.tables e below (T_11.setTop (mkF m 15 #[Rv a, Iv dm, Rv ids, Rv kb] [(.ref a)])) tt_
    refine XS.aloadN X_11.here hEX rfl (hb hBY d_prog_18_method_1_code_15) rfl rfl ?_
    exact kt_
  refine Done.pre sg_17 ?_
  obtain ⟨T_18, h_18, X_18, e_18, W_18, st_18⟩ := putF X_11 hEX hZW hOW (host := "") (Or.inl (hw _ (List.mem_of_getElem? (i := 19) rfl))) Via.refl e_11 f_14 f_13 (Or.inr ⟨(hw _ (List.mem_of_getElem? (i := 20) rfl)), rfl, hNM⟩) (hw _ (List.mem_of_getElem? (i := 6) rfl)) (ty := (.array .long)) (by decide) rfl rfl (g := (mkF m 16 #[Rv a, Iv dm, Rv ids, Rv kb] [(.ref kb), (.ref a)])) rfl rfl (hb hBY d_prog_18_method_1_code_16)
  have N_18 := Fr.snoc X_18 N_11 ga
  have K__19 : Keep h0 h_18 [a] := K__12.wr W_18 (Or.inl (List.mem_of_getElem? (i := 0) rfl))
  have f_20 : Exa Z h_18 a "com/example/pointcell/pointcell/Leaf" := f_13.wr W_18
  have f_21 : Fld Z h_18 a "com/example/pointcell/pointcell/Leaf" "dimensions" "I" (.int dm) := f_15.other W_18 (Or.inr (slot_ne (Or.inr (hw _ (List.mem_of_getElem? (i := 16) rfl))) (Or.inr (hw _ (List.mem_of_getElem? (i := 20) rfl))) (by decide) (t := .int) (t' := (.array .long)) (by decide) (by decide)))
  have f_22 : Fld Z h_18 a "com/example/pointcell/pointcell/Leaf" "docIds" "[I" (.ref ids) := f_16.other W_18 (Or.inr (slot_ne (Or.inr (hw _ (List.mem_of_getElem? (i := 18) rfl))) (Or.inr (hw _ (List.mem_of_getElem? (i := 20) rfl))) (by decide) (t := (.array .int)) (t' := (.array .long)) (by decide) (by decide)))
  have f_23 : Fld Z h_18 a "com/example/pointcell/pointcell/Leaf" "keys" "[J" (.ref kb) := f_14.same W_18
  refine Done.pre st_18 ?_
  show Done _ _ _ _ _ _ _ (T_18.setTop (mkF m 19 #[Rv a, Iv dm, Rv ids, Rv kb] []))
  exact Done.retV X_18 hEX hLK hRT (hb hBY d_prog_18_method_1_code_19) (by rw [e_18]; exact ⟨rfl, N_18, K__19, f_20, f_21, f_22, f_23⟩) (by decide) (by decide)
theorem d_prog_18_method_6_code_0 : decode prog_18_method_6_code 0 = .ok (.iload_n 1, 1) := by decide +kernel
theorem d_prog_18_method_6_code_1 : decode prog_18_method_6_code 1 = .ok (.aload_n 0, 1) := by decide +kernel
theorem d_prog_18_method_6_code_2 : decode prog_18_method_6_code 2 = .ok (.getfield 7, 3) := by decide +kernel
theorem d_prog_18_method_6_code_5 : decode prog_18_method_6_code 5 = .ok (.imul, 1) := by decide +kernel
theorem d_prog_18_method_6_code_6 : decode prog_18_method_6_code 6 = .ok (.istore 4, 2) := by decide +kernel
theorem d_prog_18_method_6_code_8 : decode prog_18_method_6_code 8 = .ok (.iconst 0, 1) := by decide +kernel
theorem d_prog_18_method_6_code_9 : decode prog_18_method_6_code 9 = .ok (.istore 5, 2) := by decide +kernel
theorem d_prog_18_method_6_code_11 : decode prog_18_method_6_code 11 = .ok (.iload 5, 2) := by decide +kernel
theorem d_prog_18_method_6_code_13 : decode prog_18_method_6_code 13 = .ok (.aload_n 0, 1) := by decide +kernel
theorem d_prog_18_method_6_code_14 : decode prog_18_method_6_code 14 = .ok (.getfield 7, 3) := by decide +kernel
theorem d_prog_18_method_6_code_17 : decode prog_18_method_6_code 17 = .ok (.if_icmp .ge 43, 3) := by decide +kernel
theorem d_prog_18_method_6_code_20 : decode prog_18_method_6_code 20 = .ok (.aload_n 0, 1) := by decide +kernel
theorem d_prog_18_method_6_code_21 : decode prog_18_method_6_code 21 = .ok (.getfield 17, 3) := by decide +kernel
theorem d_prog_18_method_6_code_24 : decode prog_18_method_6_code 24 = .ok (.iload 4, 2) := by decide +kernel
theorem d_prog_18_method_6_code_26 : decode prog_18_method_6_code 26 = .ok (.iload 5, 2) := by decide +kernel
theorem d_prog_18_method_6_code_28 : decode prog_18_method_6_code 28 = .ok (.iadd, 1) := by decide +kernel
theorem d_prog_18_method_6_code_29 : decode prog_18_method_6_code 29 = .ok (.laload, 1) := by decide +kernel
theorem d_prog_18_method_6_code_30 : decode prog_18_method_6_code 30 = .ok (.lstore 6, 2) := by decide +kernel
theorem d_prog_18_method_6_code_32 : decode prog_18_method_6_code 32 = .ok (.lload 6, 2) := by decide +kernel
theorem d_prog_18_method_6_code_34 : decode prog_18_method_6_code 34 = .ok (.aload_n 2, 1) := by decide +kernel
theorem d_prog_18_method_6_code_35 : decode prog_18_method_6_code 35 = .ok (.iload 5, 2) := by decide +kernel
theorem d_prog_18_method_6_code_37 : decode prog_18_method_6_code 37 = .ok (.laload, 1) := by decide +kernel
theorem d_prog_18_method_6_code_38 : decode prog_18_method_6_code 38 = .ok (.lcmp, 1) := by decide +kernel
theorem d_prog_18_method_6_code_39 : decode prog_18_method_6_code 39 = .ok (.ifCond .lt 13, 3) := by decide +kernel
theorem d_prog_18_method_6_code_52 : decode prog_18_method_6_code 52 = .ok (.iconst 0, 1) := by decide +kernel
theorem d_prog_18_method_6_code_53 : decode prog_18_method_6_code 53 = .ok (.ireturn, 1) := by decide +kernel
theorem d_prog_18_method_6_code_42 : decode prog_18_method_6_code 42 = .ok (.lload 6, 2) := by decide +kernel
theorem d_prog_18_method_6_code_44 : decode prog_18_method_6_code 44 = .ok (.aload_n 3, 1) := by decide +kernel
theorem d_prog_18_method_6_code_45 : decode prog_18_method_6_code 45 = .ok (.iload 5, 2) := by decide +kernel
theorem d_prog_18_method_6_code_47 : decode prog_18_method_6_code 47 = .ok (.laload, 1) := by decide +kernel
theorem d_prog_18_method_6_code_48 : decode prog_18_method_6_code 48 = .ok (.lcmp, 1) := by decide +kernel
theorem d_prog_18_method_6_code_49 : decode prog_18_method_6_code 49 = .ok (.ifCond .le 5, 3) := by decide +kernel
theorem d_prog_18_method_6_code_54 : decode prog_18_method_6_code 54 = .ok (.iinc 5 1, 3) := by decide +kernel
theorem d_prog_18_method_6_code_57 : decode prog_18_method_6_code 57 = .ok (.goto (-46), 3) := by decide +kernel
theorem d_prog_18_method_6_code_60 : decode prog_18_method_6_code 60 = .ok (.iconst 1, 1) := by decide +kernel
theorem d_prog_18_method_6_code_61 : decode prog_18_method_6_code 61 = .ok (.ireturn, 1) := by decide +kernel
def Qrm_in1 (Z : State) (a : Addr) (i : Int32) (mn : Addr) (mx : Addr) (kb : Addr) (kk : ClassId) (nK : Int32) (vsK : List Value) (kn : ClassId) (kx : ClassId) (m0 : Int64) (m1 : Int64) (M0 : Int64) (M1 : Int64) (k0 : Int64) (h0 : Heap) (n0 : Nat) (v_ : Option Value) (h_ : Heap) (L_ : List Loc) : Prop := v_ = some (.int (own_in1 k0 m0 M0)) ∧ Fr n0 L_ ∧ h_ = h0
theorem ef_rm_in1 (m : MethodId) (x0 : Addr) (x1 : Int32) (x2 : Addr) (x3 : Addr) : entryFrame m #[(.ref x0), (.int x1), (.ref x2), (.ref x3)] 8 = mkF m 0 #[.val (.ref x0), .val (.int x1), .val (.ref x2), .val (.ref x3), .unset, .unset, .unset, .unset] [] := by first | (simp [entryFrame, mkF, argsToLocals, Value.category]; done) | rfl
set_option maxRecDepth 65536 in
set_option maxHeartbeats 40000000 in
theorem rm_in1 (l : Launch) (Z : State) (aZ : Array Value) (hw : ∀ d ∈ tables_1, d.before aZ Z = true) (ws : List Jvm.Cond) (a : Addr) (i : Int32) (mn : Addr) (mx : Addr) (kb : Addr) (kk : ClassId) (nK : Int32) (vsK : List Value) (kn : ClassId) (kx : ClassId) (m0 : Int64) (m1 : Int64) (M0 : Int64) (M1 : Int64) (k0 : Int64) (h0 : Heap) (n0 : Nat) (Z0 : n0 ≤ h0.size) (Fd : Fld Z h0 a "com/example/pointcell/pointcell/Leaf" "dimensions" "I" (.int (1 : Int32))) (Fk : Fld Z h0 a "com/example/pointcell/pointcell/Leaf" "keys" "[J" (.ref kb)) (Ak : Arv Z h0 kb kk .long nK vsK (.long (0 : Int64))) (An : Arv Z h0 mn kn .long (2 : Int32) [(.long m0), (.long m1)] (.long (0 : Int64))) (Ax : Arv Z h0 mx kx .long (2 : Int32) [(.long M0), (.long M1)] (.long (0 : Int64))) (hb0 : ¬ ((i * (1 : Int32)) + (0 : Int32)) < 0 ∧ ((i * (1 : Int32)) + (0 : Int32)) < nK) (hv0 : vsK.getD ((i * (1 : Int32)) + (0 : Int32)).toNatClampNeg (.long (0 : Int64)) = .long k0) :
    MetFree l (⟨"com/example/pointcell/pointcell/Leaf", "isInside", "(I[J[J)Z"⟩ : MethodName) (head1 (Jvm.Cond.code (⟨"com/example/pointcell/pointcell/Leaf", "isInside", "(I[J[J)Z"⟩ : MethodName) prog_18_method_6_code 8 (some .boolean) :: ws) ({ frames := 0, cells := 0, slots := 0, locals := 0 } : Room)) (fun a_ U_ => a_ = #[(.ref a), (.int i), (.ref mn), (.ref mx)] ∧ Z.Warmed39 U_.vm ∧ U_.heap = h0) (fun _ _ _ _ _ => True) (fun _ U_ o_ U2_ => ∃ v_ L_, o_ = .returned v_ ∧ Qrm_in1 Z a i mn mx kb kk nK vsK kn kx m0 m1 M0 M1 k0 h0 n0 v_ U2_.heap L_ ∧ FrameEnd U_ o_ U2_ L_ ({ frames := 0, cells := 0, slots := 0, locals := 0 } : Room).cells ({ frames := 0, cells := 0, slots := 0, locals := 0 } : Room).slots) := by
  refine MetFree.of_bodySF (plainFor_of_name pn_com_example_pointcell_pointcell_Leaf) hisR ?_
  intro p e s m args below meth cO s₁ Bd hml0 hP hK
  obtain ⟨rfl, hZW, hh⟩ := hP
  have hEX := Bd.exec
  have hBY := Bd.bytes
  have hMX : cO.maxLocals = 8 := hml0
  have hOW : s.vm.findClass "com/example/pointcell/pointcell/Leaf" = some m.cls := findClass_of_methodNamed Bd.named
  have hNM := (name_of_methodNamed Bd.named Bd.method).1
  have hLK := Bd.notSynchronized
  have hRT := Bd.returns
  have X0 : Stand p l e ({ frames := 0, cells := 0, slots := 0, locals := 0 } : Room) s m #[(.ref a), (.int i), (.ref mn), (.ref mx)] below meth cO s₁ [] 0 0 := Stand.of_body Bd
  have e0 : s₁.heap = h0 := by rw [← hh, Bd.state]; rfl
  have N0 := Fr.nil n0
  have K0 : Keep h0 h0 [] := Keep.refl _ _
  show Done p e below s (Qrm_in1 Z a i mn mx kb kk nK vsK kn kx m0 m1 M0 M1 k0 h0 n0) ({ frames := 0, cells := 0, slots := 0, locals := 0 } : Room).cells ({ frames := 0, cells := 0, slots := 0, locals := 0 } : Room).slots (s₁.setTop (entryFrame m #[(.ref a), (.int i), (.ref mn), (.ref mx)] 8))
  refine Done.pre (fun t_ k_ => castTop (ef_rm_in1 m a i mn mx) k_) ?_
  show Done _ _ _ _ _ _ _ (s₁.setTop (mkF m 0 #[Rv a, Iv i, Rv mn, Rv mx, Us, Us, Us, Us] []))
  have sg_1 : ∀ tt_, Steps p.tables e below (s₁.setTop (mkF m 2 #[Rv a, Iv i, Rv mn, Rv mx, Us, Us, Us, Us] [(.ref a), (.int i)])) tt_ → Steps p.tables e below (s₁.setTop (mkF m 0 #[Rv a, Iv i, Rv mn, Rv mx, Us, Us, Us, Us] [])) tt_ := by
    intro tt_ kt_
    refine XS.iloadN X0.here hEX rfl (hb hBY d_prog_18_method_6_code_0) rfl ?_
    show Steps p.tables e below (s₁.setTop (mkF m 1 #[Rv a, Iv i, Rv mn, Rv mx, Us, Us, Us, Us] [(.int i)])) tt_
    refine XS.aloadN X0.here hEX rfl (hb hBY d_prog_18_method_6_code_1) rfl rfl ?_
    exact kt_
  refine Done.pre sg_1 ?_
  obtain ⟨T_2, X_2, e_2, st_2⟩ := getF X0 hEX hZW hOW (host := "") (Or.inl (hw _ (List.mem_of_getElem? (i := 15) rfl))) Via.refl e0 Fd (g := (mkF m 2 #[Rv a, Iv i, Rv mn, Rv mx, Us, Us, Us, Us] [(.ref a), (.int i)])) rfl rfl (hb hBY d_prog_18_method_6_code_2)
  refine Done.pre st_2 ?_
  show Done _ _ _ _ _ _ _ (T_2.setTop (mkF m 5 #[Rv a, Iv i, Rv mn, Rv mx, Us, Us, Us, Us] [(.int (1 : Int32)), (.int i)]))
  have sg_3 : ∀ tt_, Steps p.tables e below (T_2.setTop (mkF m 14 #[Rv a, Iv i, Rv mn, Rv mx, Iv (i * (1 : Int32)), Iv (0 : Int32), Us, Us] [(.ref a), (.int (0 : Int32))])) tt_ → Steps p.tables e below (T_2.setTop (mkF m 5 #[Rv a, Iv i, Rv mn, Rv mx, Us, Us, Us, Us] [(.int (1 : Int32)), (.int i)])) tt_ := by
    intro tt_ kt_
    refine XS.imul X_2.here hEX rfl (hb hBY d_prog_18_method_6_code_5) rfl ?_
    show Steps p.tables e below (T_2.setTop (mkF m 6 #[Rv a, Iv i, Rv mn, Rv mx, Us, Us, Us, Us] [(.int (i * (1 : Int32)))])) tt_
    refine XS.istore X_2.here hEX rfl (hb hBY d_prog_18_method_6_code_6) rfl (l' := #[Rv a, Iv i, Rv mn, Rv mx, Iv (i * (1 : Int32)), Us, Us, Us]) rfl ?_
    show Steps p.tables e below (T_2.setTop (mkF m 8 #[Rv a, Iv i, Rv mn, Rv mx, Iv (i * (1 : Int32)), Us, Us, Us] [])) tt_
    refine XS.iconst X_2.here hEX rfl (hb hBY d_prog_18_method_6_code_8) ?_
    show Steps p.tables e below (T_2.setTop (mkF m 9 #[Rv a, Iv i, Rv mn, Rv mx, Iv (i * (1 : Int32)), Us, Us, Us] [(.int (0 : Int32))])) tt_
    refine XS.istore X_2.here hEX rfl (hb hBY d_prog_18_method_6_code_9) rfl (l' := #[Rv a, Iv i, Rv mn, Rv mx, Iv (i * (1 : Int32)), Iv (0 : Int32), Us, Us]) rfl ?_
    show Steps p.tables e below (T_2.setTop (mkF m 11 #[Rv a, Iv i, Rv mn, Rv mx, Iv (i * (1 : Int32)), Iv (0 : Int32), Us, Us] [])) tt_
    refine XS.iload X_2.here hEX rfl (hb hBY d_prog_18_method_6_code_11) rfl ?_
    show Steps p.tables e below (T_2.setTop (mkF m 13 #[Rv a, Iv i, Rv mn, Rv mx, Iv (i * (1 : Int32)), Iv (0 : Int32), Us, Us] [(.int (0 : Int32))])) tt_
    refine XS.aloadN X_2.here hEX rfl (hb hBY d_prog_18_method_6_code_13) rfl rfl ?_
    exact kt_
  refine Done.pre sg_3 ?_
  obtain ⟨T_4, X_4, e_4, st_4⟩ := getF X_2 hEX hZW hOW (host := "") (Or.inl (hw _ (List.mem_of_getElem? (i := 15) rfl))) Via.refl e_2 Fd (g := (mkF m 14 #[Rv a, Iv i, Rv mn, Rv mx, Iv (i * (1 : Int32)), Iv (0 : Int32), Us, Us] [(.ref a), (.int (0 : Int32))])) rfl rfl (hb hBY d_prog_18_method_6_code_14)
  refine Done.pre st_4 ?_
  show Done _ _ _ _ _ _ _ (T_4.setTop (mkF m 17 #[Rv a, Iv i, Rv mn, Rv mx, Iv (i * (1 : Int32)), Iv (0 : Int32), Us, Us] [(.int (1 : Int32)), (.int (0 : Int32))]))
  have sg_5 : ∀ tt_, Steps p.tables e below (T_4.setTop (mkF m 21 #[Rv a, Iv i, Rv mn, Rv mx, Iv (i * (1 : Int32)), Iv (0 : Int32), Us, Us] [(.ref a)])) tt_ → Steps p.tables e below (T_4.setTop (mkF m 17 #[Rv a, Iv i, Rv mn, Rv mx, Iv (i * (1 : Int32)), Iv (0 : Int32), Us, Us] [(.int (1 : Int32)), (.int (0 : Int32))])) tt_ := by
    intro tt_ kt_
    refine XS.icmpNo X_4.here hEX rfl (hb hBY d_prog_18_method_6_code_17) rfl (tlt (by decide : (0 : Int32) < (1 : Int32))).2.1 ?_
    show Steps p.tables e below (T_4.setTop (mkF m 20 #[Rv a, Iv i, Rv mn, Rv mx, Iv (i * (1 : Int32)), Iv (0 : Int32), Us, Us] [])) tt_
    refine XS.aloadN X_4.here hEX rfl (hb hBY d_prog_18_method_6_code_20) rfl rfl ?_
    exact kt_
  refine Done.pre sg_5 ?_
  obtain ⟨T_6, X_6, e_6, st_6⟩ := getF X_4 hEX hZW hOW (host := "") (Or.inl (hw _ (List.mem_of_getElem? (i := 19) rfl))) Via.refl e_4 Fk (g := (mkF m 21 #[Rv a, Iv i, Rv mn, Rv mx, Iv (i * (1 : Int32)), Iv (0 : Int32), Us, Us] [(.ref a)])) rfl rfl (hb hBY d_prog_18_method_6_code_21)
  refine Done.pre st_6 ?_
  show Done _ _ _ _ _ _ _ (T_6.setTop (mkF m 24 #[Rv a, Iv i, Rv mn, Rv mx, Iv (i * (1 : Int32)), Iv (0 : Int32), Us, Us] [(.ref kb)]))
  obtain ⟨cl_7, Ar_7, q_7, S_7, N__7, H_7, G_7⟩ := id Ak
  have hin_7 : ¬ (((i * (1 : Int32)) + (0 : Int32)) < 0 ∨ cl_7.slots.size ≤ (((i * (1 : Int32)) + (0 : Int32))).toNatClampNeg) := inb_of S_7 hb0
  have hat_7 : cl_7.slots[(((i * (1 : Int32)) + (0 : Int32))).toNatClampNeg]? = some (.long k0) := H_7.at hin_7 hv0
  obtain ⟨cl_8, Ar_8, q_8, S_8, N__8, H_8, G_8⟩ := id An
  have hin_8 : ¬ ((0 : Int32) < 0 ∨ cl_8.slots.size ≤ ((0 : Int32)).toNatClampNeg) := inb_of S_8 ⟨by decide, by decide⟩
  have hat_8 : cl_8.slots[((0 : Int32)).toNatClampNeg]? = some (.long m0) := H_8.at hin_8 rfl
  have sg_9 : ∀ tt_, Steps p.tables e below (T_6.setTop (mkF m 39 #[Rv a, Iv i, Rv mn, Rv mx, Iv (i * (1 : Int32)), Iv (0 : Int32), Lv k0, Zs] [(.int (lcmpW k0 m0))])) tt_ → Steps p.tables e below (T_6.setTop (mkF m 24 #[Rv a, Iv i, Rv mn, Rv mx, Iv (i * (1 : Int32)), Iv (0 : Int32), Us, Us] [(.ref kb)])) tt_ := by
    intro tt_ kt_
    refine XS.iload X_6.here hEX rfl (hb hBY d_prog_18_method_6_code_24) rfl ?_
    show Steps p.tables e below (T_6.setTop (mkF m 26 #[Rv a, Iv i, Rv mn, Rv mx, Iv (i * (1 : Int32)), Iv (0 : Int32), Us, Us] [(.int (i * (1 : Int32))), (.ref kb)])) tt_
    refine XS.iload X_6.here hEX rfl (hb hBY d_prog_18_method_6_code_26) rfl ?_
    show Steps p.tables e below (T_6.setTop (mkF m 28 #[Rv a, Iv i, Rv mn, Rv mx, Iv (i * (1 : Int32)), Iv (0 : Int32), Us, Us] [(.int (0 : Int32)), (.int (i * (1 : Int32))), (.ref kb)])) tt_
    refine XS.iadd X_6.here hEX rfl (hb hBY d_prog_18_method_6_code_28) rfl ?_
    show Steps p.tables e below (T_6.setTop (mkF m 29 #[Rv a, Iv i, Rv mn, Rv mx, Iv (i * (1 : Int32)), Iv (0 : Int32), Us, Us] [(.int ((i * (1 : Int32)) + (0 : Int32))), (.ref kb)])) tt_
    refine X_6.laload hEX (j := ((i * (1 : Int32)) + (0 : Int32))) (v := (.long k0)) (by rw [e_6]; exact Ar_7.1) (State.isArrayOf_alike hZW.alike Ar_7.2.1) Ar_7.2.2 hin_7 hat_7 (g := (mkF m 29 #[Rv a, Iv i, Rv mn, Rv mx, Iv (i * (1 : Int32)), Iv (0 : Int32), Us, Us] [(.int ((i * (1 : Int32)) + (0 : Int32))), (.ref kb)])) rfl rfl (hb hBY d_prog_18_method_6_code_29) _ ?_
    show Steps p.tables e below (T_6.setTop (mkF m 30 #[Rv a, Iv i, Rv mn, Rv mx, Iv (i * (1 : Int32)), Iv (0 : Int32), Us, Us] [(.long k0)])) tt_
    refine XS.lstore X_6.here hEX rfl (hb hBY d_prog_18_method_6_code_30) rfl (l' := #[Rv a, Iv i, Rv mn, Rv mx, Iv (i * (1 : Int32)), Iv (0 : Int32), Lv k0, Zs]) rfl ?_
    show Steps p.tables e below (T_6.setTop (mkF m 32 #[Rv a, Iv i, Rv mn, Rv mx, Iv (i * (1 : Int32)), Iv (0 : Int32), Lv k0, Zs] [])) tt_
    refine XS.lload X_6.here hEX rfl (hb hBY d_prog_18_method_6_code_32) rfl ?_
    show Steps p.tables e below (T_6.setTop (mkF m 34 #[Rv a, Iv i, Rv mn, Rv mx, Iv (i * (1 : Int32)), Iv (0 : Int32), Lv k0, Zs] [(.long k0)])) tt_
    refine XS.aloadN X_6.here hEX rfl (hb hBY d_prog_18_method_6_code_34) rfl rfl ?_
    show Steps p.tables e below (T_6.setTop (mkF m 35 #[Rv a, Iv i, Rv mn, Rv mx, Iv (i * (1 : Int32)), Iv (0 : Int32), Lv k0, Zs] [(.ref mn), (.long k0)])) tt_
    refine XS.iload X_6.here hEX rfl (hb hBY d_prog_18_method_6_code_35) rfl ?_
    show Steps p.tables e below (T_6.setTop (mkF m 37 #[Rv a, Iv i, Rv mn, Rv mx, Iv (i * (1 : Int32)), Iv (0 : Int32), Lv k0, Zs] [(.int (0 : Int32)), (.ref mn), (.long k0)])) tt_
    refine X_6.laload hEX (j := (0 : Int32)) (v := (.long m0)) (by rw [e_6]; exact Ar_8.1) (State.isArrayOf_alike hZW.alike Ar_8.2.1) Ar_8.2.2 hin_8 hat_8 (g := (mkF m 37 #[Rv a, Iv i, Rv mn, Rv mx, Iv (i * (1 : Int32)), Iv (0 : Int32), Lv k0, Zs] [(.int (0 : Int32)), (.ref mn), (.long k0)])) rfl rfl (hb hBY d_prog_18_method_6_code_37) _ ?_
    show Steps p.tables e below (T_6.setTop (mkF m 38 #[Rv a, Iv i, Rv mn, Rv mx, Iv (i * (1 : Int32)), Iv (0 : Int32), Lv k0, Zs] [(.long m0), (.long k0)])) tt_
    refine XS.lcmp X_6.here hEX rfl (hb hBY d_prog_18_method_6_code_38) rfl ?_
    exact kt_
  refine Done.pre sg_9 ?_
  by_cases hc39 : k0 < m0
  · skip
    have sg_10 : ∀ tt_, Steps p.tables e below (T_6.setTop (mkF m 53 #[Rv a, Iv i, Rv mn, Rv mx, Iv (i * (1 : Int32)), Iv (0 : Int32), Lv k0, Zs] [(.int (0 : Int32))])) tt_ → Steps p.tables e below (T_6.setTop (mkF m 39 #[Rv a, Iv i, Rv mn, Rv mx, Iv (i * (1 : Int32)), Iv (0 : Int32), Lv k0, Zs] [(.int (lcmpW k0 m0))])) tt_ := by
      intro tt_ kt_
      refine XS.ifYes X_6.here hEX rfl (pc0 := 39) (pc' := 52) rfl (hb hBY d_prog_18_method_6_code_39) rfl ((if0 _ _).trans (tlt ((lw_lt _ _).mpr hc39)).1) (by decide) (by decide) ?_
      show Steps p.tables e below (T_6.setTop (mkF m 52 #[Rv a, Iv i, Rv mn, Rv mx, Iv (i * (1 : Int32)), Iv (0 : Int32), Lv k0, Zs] [])) tt_
      refine XS.iconst X_6.here hEX rfl (hb hBY d_prog_18_method_6_code_52) ?_
      exact kt_
    refine Done.pre sg_10 ?_
    exact Done.retN X_6 hEX hLK (t := .boolean) hRT (by simp) (hb hBY d_prog_18_method_6_code_53) (by rw [e_6]; exact ⟨(by rw [own_in1, if_pos hc39]; rfl), N0, rfl⟩) (by decide) (by decide)
  · skip
    obtain ⟨cl_11, Ar_11, q_11, S_11, N__11, H_11, G_11⟩ := id Ax
    have hin_11 : ¬ ((0 : Int32) < 0 ∨ cl_11.slots.size ≤ ((0 : Int32)).toNatClampNeg) := inb_of S_11 ⟨by decide, by decide⟩
    have hat_11 : cl_11.slots[((0 : Int32)).toNatClampNeg]? = some (.long M0) := H_11.at hin_11 rfl
    have sg_12 : ∀ tt_, Steps p.tables e below (T_6.setTop (mkF m 49 #[Rv a, Iv i, Rv mn, Rv mx, Iv (i * (1 : Int32)), Iv (0 : Int32), Lv k0, Zs] [(.int (lcmpW k0 M0))])) tt_ → Steps p.tables e below (T_6.setTop (mkF m 39 #[Rv a, Iv i, Rv mn, Rv mx, Iv (i * (1 : Int32)), Iv (0 : Int32), Lv k0, Zs] [(.int (lcmpW k0 m0))])) tt_ := by
      intro tt_ kt_
      refine XS.ifNo X_6.here hEX rfl (hb hBY d_prog_18_method_6_code_39) rfl ((if0 _ _).trans (flt (fun q => hc39 ((lw_lt _ _).mp q))).1) ?_
      show Steps p.tables e below (T_6.setTop (mkF m 42 #[Rv a, Iv i, Rv mn, Rv mx, Iv (i * (1 : Int32)), Iv (0 : Int32), Lv k0, Zs] [])) tt_
      refine XS.lload X_6.here hEX rfl (hb hBY d_prog_18_method_6_code_42) rfl ?_
      show Steps p.tables e below (T_6.setTop (mkF m 44 #[Rv a, Iv i, Rv mn, Rv mx, Iv (i * (1 : Int32)), Iv (0 : Int32), Lv k0, Zs] [(.long k0)])) tt_
      refine XS.aloadN X_6.here hEX rfl (hb hBY d_prog_18_method_6_code_44) rfl rfl ?_
      show Steps p.tables e below (T_6.setTop (mkF m 45 #[Rv a, Iv i, Rv mn, Rv mx, Iv (i * (1 : Int32)), Iv (0 : Int32), Lv k0, Zs] [(.ref mx), (.long k0)])) tt_
      refine XS.iload X_6.here hEX rfl (hb hBY d_prog_18_method_6_code_45) rfl ?_
      show Steps p.tables e below (T_6.setTop (mkF m 47 #[Rv a, Iv i, Rv mn, Rv mx, Iv (i * (1 : Int32)), Iv (0 : Int32), Lv k0, Zs] [(.int (0 : Int32)), (.ref mx), (.long k0)])) tt_
      refine X_6.laload hEX (j := (0 : Int32)) (v := (.long M0)) (by rw [e_6]; exact Ar_11.1) (State.isArrayOf_alike hZW.alike Ar_11.2.1) Ar_11.2.2 hin_11 hat_11 (g := (mkF m 47 #[Rv a, Iv i, Rv mn, Rv mx, Iv (i * (1 : Int32)), Iv (0 : Int32), Lv k0, Zs] [(.int (0 : Int32)), (.ref mx), (.long k0)])) rfl rfl (hb hBY d_prog_18_method_6_code_47) _ ?_
      show Steps p.tables e below (T_6.setTop (mkF m 48 #[Rv a, Iv i, Rv mn, Rv mx, Iv (i * (1 : Int32)), Iv (0 : Int32), Lv k0, Zs] [(.long M0), (.long k0)])) tt_
      refine XS.lcmp X_6.here hEX rfl (hb hBY d_prog_18_method_6_code_48) rfl ?_
      exact kt_
    refine Done.pre sg_12 ?_
    by_cases hc49 : M0 < k0
    · skip
      have sg_13 : ∀ tt_, Steps p.tables e below (T_6.setTop (mkF m 53 #[Rv a, Iv i, Rv mn, Rv mx, Iv (i * (1 : Int32)), Iv (0 : Int32), Lv k0, Zs] [(.int (0 : Int32))])) tt_ → Steps p.tables e below (T_6.setTop (mkF m 49 #[Rv a, Iv i, Rv mn, Rv mx, Iv (i * (1 : Int32)), Iv (0 : Int32), Lv k0, Zs] [(.int (lcmpW k0 M0))])) tt_ := by
        intro tt_ kt_
        refine XS.ifNo X_6.here hEX rfl (hb hBY d_prog_18_method_6_code_49) rfl ((if0 _ _).trans (tlt ((lw_gt _ _).mpr hc49)).2.2.2) ?_
        show Steps p.tables e below (T_6.setTop (mkF m 52 #[Rv a, Iv i, Rv mn, Rv mx, Iv (i * (1 : Int32)), Iv (0 : Int32), Lv k0, Zs] [])) tt_
        refine XS.iconst X_6.here hEX rfl (hb hBY d_prog_18_method_6_code_52) ?_
        exact kt_
      refine Done.pre sg_13 ?_
      exact Done.retN X_6 hEX hLK (t := .boolean) hRT (by simp) (hb hBY d_prog_18_method_6_code_53) (by rw [e_6]; exact ⟨(by rw [own_in1, if_neg hc39, if_pos hc49]; rfl), N0, rfl⟩) (by decide) (by decide)
    · skip
      have sg_14 : ∀ tt_, Steps p.tables e below (T_6.setTop (mkF m 14 #[Rv a, Iv i, Rv mn, Rv mx, Iv (i * (1 : Int32)), Iv (1 : Int32), Lv k0, Zs] [(.ref a), (.int (1 : Int32))])) tt_ → Steps p.tables e below (T_6.setTop (mkF m 49 #[Rv a, Iv i, Rv mn, Rv mx, Iv (i * (1 : Int32)), Iv (0 : Int32), Lv k0, Zs] [(.int (lcmpW k0 M0))])) tt_ := by
        intro tt_ kt_
        refine XS.ifYes X_6.here hEX rfl (pc0 := 49) (pc' := 54) rfl (hb hBY d_prog_18_method_6_code_49) rfl ((if0 _ _).trans (flt (fun q => hc49 ((lw_gt _ _).mp q))).2.2.2) (by decide) (by decide) ?_
        show Steps p.tables e below (T_6.setTop (mkF m 54 #[Rv a, Iv i, Rv mn, Rv mx, Iv (i * (1 : Int32)), Iv (0 : Int32), Lv k0, Zs] [])) tt_
        refine XS.iinc X_6.here hEX rfl (hb hBY d_prog_18_method_6_code_54) rfl (l' := #[Rv a, Iv i, Rv mn, Rv mx, Iv (i * (1 : Int32)), Iv (1 : Int32), Lv k0, Zs]) rfl ?_
        show Steps p.tables e below (T_6.setTop (mkF m 57 #[Rv a, Iv i, Rv mn, Rv mx, Iv (i * (1 : Int32)), Iv (1 : Int32), Lv k0, Zs] [])) tt_
        refine XS.goto X_6.here hEX rfl (pc0 := 57) (pc' := 11) rfl (hb hBY d_prog_18_method_6_code_57) (by decide) (by decide) ?_
        show Steps p.tables e below (T_6.setTop (mkF m 11 #[Rv a, Iv i, Rv mn, Rv mx, Iv (i * (1 : Int32)), Iv (1 : Int32), Lv k0, Zs] [])) tt_
        refine XS.iload X_6.here hEX rfl (hb hBY d_prog_18_method_6_code_11) rfl ?_
        show Steps p.tables e below (T_6.setTop (mkF m 13 #[Rv a, Iv i, Rv mn, Rv mx, Iv (i * (1 : Int32)), Iv (1 : Int32), Lv k0, Zs] [(.int (1 : Int32))])) tt_
        refine XS.aloadN X_6.here hEX rfl (hb hBY d_prog_18_method_6_code_13) rfl rfl ?_
        exact kt_
      refine Done.pre sg_14 ?_
      obtain ⟨T_15, X_15, e_15, st_15⟩ := getF X_6 hEX hZW hOW (host := "") (Or.inl (hw _ (List.mem_of_getElem? (i := 15) rfl))) Via.refl e_6 Fd (g := (mkF m 14 #[Rv a, Iv i, Rv mn, Rv mx, Iv (i * (1 : Int32)), Iv (1 : Int32), Lv k0, Zs] [(.ref a), (.int (1 : Int32))])) rfl rfl (hb hBY d_prog_18_method_6_code_14)
      refine Done.pre st_15 ?_
      show Done _ _ _ _ _ _ _ (T_15.setTop (mkF m 17 #[Rv a, Iv i, Rv mn, Rv mx, Iv (i * (1 : Int32)), Iv (1 : Int32), Lv k0, Zs] [(.int (1 : Int32)), (.int (1 : Int32))]))
      have sg_16 : ∀ tt_, Steps p.tables e below (T_15.setTop (mkF m 61 #[Rv a, Iv i, Rv mn, Rv mx, Iv (i * (1 : Int32)), Iv (1 : Int32), Lv k0, Zs] [(.int (1 : Int32))])) tt_ → Steps p.tables e below (T_15.setTop (mkF m 17 #[Rv a, Iv i, Rv mn, Rv mx, Iv (i * (1 : Int32)), Iv (1 : Int32), Lv k0, Zs] [(.int (1 : Int32)), (.int (1 : Int32))])) tt_ := by
        intro tt_ kt_
        refine XS.icmpYes X_15.here hEX rfl (pc0 := 17) (pc' := 60) rfl (hb hBY d_prog_18_method_6_code_17) rfl (flt (by decide : ¬ ((1 : Int32) < (1 : Int32)))).2.1 (by decide) (by decide) ?_
        show Steps p.tables e below (T_15.setTop (mkF m 60 #[Rv a, Iv i, Rv mn, Rv mx, Iv (i * (1 : Int32)), Iv (1 : Int32), Lv k0, Zs] [])) tt_
        refine XS.iconst X_15.here hEX rfl (hb hBY d_prog_18_method_6_code_60) ?_
        exact kt_
      refine Done.pre sg_16 ?_
      exact Done.retN X_15 hEX hLK (t := .boolean) hRT (by simp) (hb hBY d_prog_18_method_6_code_61) (by rw [e_15]; exact ⟨(by rw [own_in1, if_neg hc39, if_neg hc49]; rfl), N0, rfl⟩) (by decide) (by decide)
def Qrm_in2 (Z : State) (a : Addr) (i : Int32) (mn : Addr) (mx : Addr) (kb : Addr) (kk : ClassId) (nK : Int32) (vsK : List Value) (kn : ClassId) (kx : ClassId) (m0 : Int64) (m1 : Int64) (M0 : Int64) (M1 : Int64) (k0 : Int64) (k1 : Int64) (h0 : Heap) (n0 : Nat) (v_ : Option Value) (h_ : Heap) (L_ : List Loc) : Prop := v_ = some (.int (own_in2 k0 m0 M0 k1 m1 M1)) ∧ Fr n0 L_ ∧ h_ = h0
theorem ef_rm_in2 (m : MethodId) (x0 : Addr) (x1 : Int32) (x2 : Addr) (x3 : Addr) : entryFrame m #[(.ref x0), (.int x1), (.ref x2), (.ref x3)] 8 = mkF m 0 #[.val (.ref x0), .val (.int x1), .val (.ref x2), .val (.ref x3), .unset, .unset, .unset, .unset] [] := by first | (simp [entryFrame, mkF, argsToLocals, Value.category]; done) | rfl
set_option maxRecDepth 65536 in
set_option maxHeartbeats 40000000 in
theorem rm_in2 (l : Launch) (Z : State) (aZ : Array Value) (hw : ∀ d ∈ tables_1, d.before aZ Z = true) (ws : List Jvm.Cond) (a : Addr) (i : Int32) (mn : Addr) (mx : Addr) (kb : Addr) (kk : ClassId) (nK : Int32) (vsK : List Value) (kn : ClassId) (kx : ClassId) (m0 : Int64) (m1 : Int64) (M0 : Int64) (M1 : Int64) (k0 : Int64) (k1 : Int64) (h0 : Heap) (n0 : Nat) (Z0 : n0 ≤ h0.size) (Fd : Fld Z h0 a "com/example/pointcell/pointcell/Leaf" "dimensions" "I" (.int (2 : Int32))) (Fk : Fld Z h0 a "com/example/pointcell/pointcell/Leaf" "keys" "[J" (.ref kb)) (Ak : Arv Z h0 kb kk .long nK vsK (.long (0 : Int64))) (An : Arv Z h0 mn kn .long (2 : Int32) [(.long m0), (.long m1)] (.long (0 : Int64))) (Ax : Arv Z h0 mx kx .long (2 : Int32) [(.long M0), (.long M1)] (.long (0 : Int64))) (hb0 : ¬ ((i * (2 : Int32)) + (0 : Int32)) < 0 ∧ ((i * (2 : Int32)) + (0 : Int32)) < nK) (hb1 : ¬ ((i * (2 : Int32)) + (1 : Int32)) < 0 ∧ ((i * (2 : Int32)) + (1 : Int32)) < nK) (hv0 : vsK.getD ((i * (2 : Int32)) + (0 : Int32)).toNatClampNeg (.long (0 : Int64)) = .long k0) (hv1 : vsK.getD ((i * (2 : Int32)) + (1 : Int32)).toNatClampNeg (.long (0 : Int64)) = .long k1) :
    MetFree l (⟨"com/example/pointcell/pointcell/Leaf", "isInside", "(I[J[J)Z"⟩ : MethodName) (head1 (Jvm.Cond.code (⟨"com/example/pointcell/pointcell/Leaf", "isInside", "(I[J[J)Z"⟩ : MethodName) prog_18_method_6_code 8 (some .boolean) :: ws) ({ frames := 0, cells := 0, slots := 0, locals := 0 } : Room)) (fun a_ U_ => a_ = #[(.ref a), (.int i), (.ref mn), (.ref mx)] ∧ Z.Warmed39 U_.vm ∧ U_.heap = h0) (fun _ _ _ _ _ => True) (fun _ U_ o_ U2_ => ∃ v_ L_, o_ = .returned v_ ∧ Qrm_in2 Z a i mn mx kb kk nK vsK kn kx m0 m1 M0 M1 k0 k1 h0 n0 v_ U2_.heap L_ ∧ FrameEnd U_ o_ U2_ L_ ({ frames := 0, cells := 0, slots := 0, locals := 0 } : Room).cells ({ frames := 0, cells := 0, slots := 0, locals := 0 } : Room).slots) := by
  refine MetFree.of_bodySF (plainFor_of_name pn_com_example_pointcell_pointcell_Leaf) hisR ?_
  intro p e s m args below meth cO s₁ Bd hml0 hP hK
  obtain ⟨rfl, hZW, hh⟩ := hP
  have hEX := Bd.exec
  have hBY := Bd.bytes
  have hMX : cO.maxLocals = 8 := hml0
  have hOW : s.vm.findClass "com/example/pointcell/pointcell/Leaf" = some m.cls := findClass_of_methodNamed Bd.named
  have hNM := (name_of_methodNamed Bd.named Bd.method).1
  have hLK := Bd.notSynchronized
  have hRT := Bd.returns
  have X0 : Stand p l e ({ frames := 0, cells := 0, slots := 0, locals := 0 } : Room) s m #[(.ref a), (.int i), (.ref mn), (.ref mx)] below meth cO s₁ [] 0 0 := Stand.of_body Bd
  have e0 : s₁.heap = h0 := by rw [← hh, Bd.state]; rfl
  have N0 := Fr.nil n0
  have K0 : Keep h0 h0 [] := Keep.refl _ _
  show Done p e below s (Qrm_in2 Z a i mn mx kb kk nK vsK kn kx m0 m1 M0 M1 k0 k1 h0 n0) ({ frames := 0, cells := 0, slots := 0, locals := 0 } : Room).cells ({ frames := 0, cells := 0, slots := 0, locals := 0 } : Room).slots (s₁.setTop (entryFrame m #[(.ref a), (.int i), (.ref mn), (.ref mx)] 8))
  refine Done.pre (fun t_ k_ => castTop (ef_rm_in2 m a i mn mx) k_) ?_
  show Done _ _ _ _ _ _ _ (s₁.setTop (mkF m 0 #[Rv a, Iv i, Rv mn, Rv mx, Us, Us, Us, Us] []))
  have sg_1 : ∀ tt_, Steps p.tables e below (s₁.setTop (mkF m 2 #[Rv a, Iv i, Rv mn, Rv mx, Us, Us, Us, Us] [(.ref a), (.int i)])) tt_ → Steps p.tables e below (s₁.setTop (mkF m 0 #[Rv a, Iv i, Rv mn, Rv mx, Us, Us, Us, Us] [])) tt_ := by
    intro tt_ kt_
    refine XS.iloadN X0.here hEX rfl (hb hBY d_prog_18_method_6_code_0) rfl ?_
    show Steps p.tables e below (s₁.setTop (mkF m 1 #[Rv a, Iv i, Rv mn, Rv mx, Us, Us, Us, Us] [(.int i)])) tt_
    refine XS.aloadN X0.here hEX rfl (hb hBY d_prog_18_method_6_code_1) rfl rfl ?_
    exact kt_
  refine Done.pre sg_1 ?_
  obtain ⟨T_2, X_2, e_2, st_2⟩ := getF X0 hEX hZW hOW (host := "") (Or.inl (hw _ (List.mem_of_getElem? (i := 15) rfl))) Via.refl e0 Fd (g := (mkF m 2 #[Rv a, Iv i, Rv mn, Rv mx, Us, Us, Us, Us] [(.ref a), (.int i)])) rfl rfl (hb hBY d_prog_18_method_6_code_2)
  refine Done.pre st_2 ?_
  show Done _ _ _ _ _ _ _ (T_2.setTop (mkF m 5 #[Rv a, Iv i, Rv mn, Rv mx, Us, Us, Us, Us] [(.int (2 : Int32)), (.int i)]))
  have sg_3 : ∀ tt_, Steps p.tables e below (T_2.setTop (mkF m 14 #[Rv a, Iv i, Rv mn, Rv mx, Iv (i * (2 : Int32)), Iv (0 : Int32), Us, Us] [(.ref a), (.int (0 : Int32))])) tt_ → Steps p.tables e below (T_2.setTop (mkF m 5 #[Rv a, Iv i, Rv mn, Rv mx, Us, Us, Us, Us] [(.int (2 : Int32)), (.int i)])) tt_ := by
    intro tt_ kt_
    refine XS.imul X_2.here hEX rfl (hb hBY d_prog_18_method_6_code_5) rfl ?_
    show Steps p.tables e below (T_2.setTop (mkF m 6 #[Rv a, Iv i, Rv mn, Rv mx, Us, Us, Us, Us] [(.int (i * (2 : Int32)))])) tt_
    refine XS.istore X_2.here hEX rfl (hb hBY d_prog_18_method_6_code_6) rfl (l' := #[Rv a, Iv i, Rv mn, Rv mx, Iv (i * (2 : Int32)), Us, Us, Us]) rfl ?_
    show Steps p.tables e below (T_2.setTop (mkF m 8 #[Rv a, Iv i, Rv mn, Rv mx, Iv (i * (2 : Int32)), Us, Us, Us] [])) tt_
    refine XS.iconst X_2.here hEX rfl (hb hBY d_prog_18_method_6_code_8) ?_
    show Steps p.tables e below (T_2.setTop (mkF m 9 #[Rv a, Iv i, Rv mn, Rv mx, Iv (i * (2 : Int32)), Us, Us, Us] [(.int (0 : Int32))])) tt_
    refine XS.istore X_2.here hEX rfl (hb hBY d_prog_18_method_6_code_9) rfl (l' := #[Rv a, Iv i, Rv mn, Rv mx, Iv (i * (2 : Int32)), Iv (0 : Int32), Us, Us]) rfl ?_
    show Steps p.tables e below (T_2.setTop (mkF m 11 #[Rv a, Iv i, Rv mn, Rv mx, Iv (i * (2 : Int32)), Iv (0 : Int32), Us, Us] [])) tt_
    refine XS.iload X_2.here hEX rfl (hb hBY d_prog_18_method_6_code_11) rfl ?_
    show Steps p.tables e below (T_2.setTop (mkF m 13 #[Rv a, Iv i, Rv mn, Rv mx, Iv (i * (2 : Int32)), Iv (0 : Int32), Us, Us] [(.int (0 : Int32))])) tt_
    refine XS.aloadN X_2.here hEX rfl (hb hBY d_prog_18_method_6_code_13) rfl rfl ?_
    exact kt_
  refine Done.pre sg_3 ?_
  obtain ⟨T_4, X_4, e_4, st_4⟩ := getF X_2 hEX hZW hOW (host := "") (Or.inl (hw _ (List.mem_of_getElem? (i := 15) rfl))) Via.refl e_2 Fd (g := (mkF m 14 #[Rv a, Iv i, Rv mn, Rv mx, Iv (i * (2 : Int32)), Iv (0 : Int32), Us, Us] [(.ref a), (.int (0 : Int32))])) rfl rfl (hb hBY d_prog_18_method_6_code_14)
  refine Done.pre st_4 ?_
  show Done _ _ _ _ _ _ _ (T_4.setTop (mkF m 17 #[Rv a, Iv i, Rv mn, Rv mx, Iv (i * (2 : Int32)), Iv (0 : Int32), Us, Us] [(.int (2 : Int32)), (.int (0 : Int32))]))
  have sg_5 : ∀ tt_, Steps p.tables e below (T_4.setTop (mkF m 21 #[Rv a, Iv i, Rv mn, Rv mx, Iv (i * (2 : Int32)), Iv (0 : Int32), Us, Us] [(.ref a)])) tt_ → Steps p.tables e below (T_4.setTop (mkF m 17 #[Rv a, Iv i, Rv mn, Rv mx, Iv (i * (2 : Int32)), Iv (0 : Int32), Us, Us] [(.int (2 : Int32)), (.int (0 : Int32))])) tt_ := by
    intro tt_ kt_
    refine XS.icmpNo X_4.here hEX rfl (hb hBY d_prog_18_method_6_code_17) rfl (tlt (by decide : (0 : Int32) < (2 : Int32))).2.1 ?_
    show Steps p.tables e below (T_4.setTop (mkF m 20 #[Rv a, Iv i, Rv mn, Rv mx, Iv (i * (2 : Int32)), Iv (0 : Int32), Us, Us] [])) tt_
    refine XS.aloadN X_4.here hEX rfl (hb hBY d_prog_18_method_6_code_20) rfl rfl ?_
    exact kt_
  refine Done.pre sg_5 ?_
  obtain ⟨T_6, X_6, e_6, st_6⟩ := getF X_4 hEX hZW hOW (host := "") (Or.inl (hw _ (List.mem_of_getElem? (i := 19) rfl))) Via.refl e_4 Fk (g := (mkF m 21 #[Rv a, Iv i, Rv mn, Rv mx, Iv (i * (2 : Int32)), Iv (0 : Int32), Us, Us] [(.ref a)])) rfl rfl (hb hBY d_prog_18_method_6_code_21)
  refine Done.pre st_6 ?_
  show Done _ _ _ _ _ _ _ (T_6.setTop (mkF m 24 #[Rv a, Iv i, Rv mn, Rv mx, Iv (i * (2 : Int32)), Iv (0 : Int32), Us, Us] [(.ref kb)]))
  obtain ⟨cl_7, Ar_7, q_7, S_7, N__7, H_7, G_7⟩ := id Ak
  have hin_7 : ¬ (((i * (2 : Int32)) + (0 : Int32)) < 0 ∨ cl_7.slots.size ≤ (((i * (2 : Int32)) + (0 : Int32))).toNatClampNeg) := inb_of S_7 hb0
  have hat_7 : cl_7.slots[(((i * (2 : Int32)) + (0 : Int32))).toNatClampNeg]? = some (.long k0) := H_7.at hin_7 hv0
  obtain ⟨cl_8, Ar_8, q_8, S_8, N__8, H_8, G_8⟩ := id An
  have hin_8 : ¬ ((0 : Int32) < 0 ∨ cl_8.slots.size ≤ ((0 : Int32)).toNatClampNeg) := inb_of S_8 ⟨by decide, by decide⟩
  have hat_8 : cl_8.slots[((0 : Int32)).toNatClampNeg]? = some (.long m0) := H_8.at hin_8 rfl
  have sg_9 : ∀ tt_, Steps p.tables e below (T_6.setTop (mkF m 39 #[Rv a, Iv i, Rv mn, Rv mx, Iv (i * (2 : Int32)), Iv (0 : Int32), Lv k0, Zs] [(.int (lcmpW k0 m0))])) tt_ → Steps p.tables e below (T_6.setTop (mkF m 24 #[Rv a, Iv i, Rv mn, Rv mx, Iv (i * (2 : Int32)), Iv (0 : Int32), Us, Us] [(.ref kb)])) tt_ := by
    intro tt_ kt_
    refine XS.iload X_6.here hEX rfl (hb hBY d_prog_18_method_6_code_24) rfl ?_
    show Steps p.tables e below (T_6.setTop (mkF m 26 #[Rv a, Iv i, Rv mn, Rv mx, Iv (i * (2 : Int32)), Iv (0 : Int32), Us, Us] [(.int (i * (2 : Int32))), (.ref kb)])) tt_
    refine XS.iload X_6.here hEX rfl (hb hBY d_prog_18_method_6_code_26) rfl ?_
    show Steps p.tables e below (T_6.setTop (mkF m 28 #[Rv a, Iv i, Rv mn, Rv mx, Iv (i * (2 : Int32)), Iv (0 : Int32), Us, Us] [(.int (0 : Int32)), (.int (i * (2 : Int32))), (.ref kb)])) tt_
    refine XS.iadd X_6.here hEX rfl (hb hBY d_prog_18_method_6_code_28) rfl ?_
    show Steps p.tables e below (T_6.setTop (mkF m 29 #[Rv a, Iv i, Rv mn, Rv mx, Iv (i * (2 : Int32)), Iv (0 : Int32), Us, Us] [(.int ((i * (2 : Int32)) + (0 : Int32))), (.ref kb)])) tt_
    refine X_6.laload hEX (j := ((i * (2 : Int32)) + (0 : Int32))) (v := (.long k0)) (by rw [e_6]; exact Ar_7.1) (State.isArrayOf_alike hZW.alike Ar_7.2.1) Ar_7.2.2 hin_7 hat_7 (g := (mkF m 29 #[Rv a, Iv i, Rv mn, Rv mx, Iv (i * (2 : Int32)), Iv (0 : Int32), Us, Us] [(.int ((i * (2 : Int32)) + (0 : Int32))), (.ref kb)])) rfl rfl (hb hBY d_prog_18_method_6_code_29) _ ?_
    show Steps p.tables e below (T_6.setTop (mkF m 30 #[Rv a, Iv i, Rv mn, Rv mx, Iv (i * (2 : Int32)), Iv (0 : Int32), Us, Us] [(.long k0)])) tt_
    refine XS.lstore X_6.here hEX rfl (hb hBY d_prog_18_method_6_code_30) rfl (l' := #[Rv a, Iv i, Rv mn, Rv mx, Iv (i * (2 : Int32)), Iv (0 : Int32), Lv k0, Zs]) rfl ?_
    show Steps p.tables e below (T_6.setTop (mkF m 32 #[Rv a, Iv i, Rv mn, Rv mx, Iv (i * (2 : Int32)), Iv (0 : Int32), Lv k0, Zs] [])) tt_
    refine XS.lload X_6.here hEX rfl (hb hBY d_prog_18_method_6_code_32) rfl ?_
    show Steps p.tables e below (T_6.setTop (mkF m 34 #[Rv a, Iv i, Rv mn, Rv mx, Iv (i * (2 : Int32)), Iv (0 : Int32), Lv k0, Zs] [(.long k0)])) tt_
    refine XS.aloadN X_6.here hEX rfl (hb hBY d_prog_18_method_6_code_34) rfl rfl ?_
    show Steps p.tables e below (T_6.setTop (mkF m 35 #[Rv a, Iv i, Rv mn, Rv mx, Iv (i * (2 : Int32)), Iv (0 : Int32), Lv k0, Zs] [(.ref mn), (.long k0)])) tt_
    refine XS.iload X_6.here hEX rfl (hb hBY d_prog_18_method_6_code_35) rfl ?_
    show Steps p.tables e below (T_6.setTop (mkF m 37 #[Rv a, Iv i, Rv mn, Rv mx, Iv (i * (2 : Int32)), Iv (0 : Int32), Lv k0, Zs] [(.int (0 : Int32)), (.ref mn), (.long k0)])) tt_
    refine X_6.laload hEX (j := (0 : Int32)) (v := (.long m0)) (by rw [e_6]; exact Ar_8.1) (State.isArrayOf_alike hZW.alike Ar_8.2.1) Ar_8.2.2 hin_8 hat_8 (g := (mkF m 37 #[Rv a, Iv i, Rv mn, Rv mx, Iv (i * (2 : Int32)), Iv (0 : Int32), Lv k0, Zs] [(.int (0 : Int32)), (.ref mn), (.long k0)])) rfl rfl (hb hBY d_prog_18_method_6_code_37) _ ?_
    show Steps p.tables e below (T_6.setTop (mkF m 38 #[Rv a, Iv i, Rv mn, Rv mx, Iv (i * (2 : Int32)), Iv (0 : Int32), Lv k0, Zs] [(.long m0), (.long k0)])) tt_
    refine XS.lcmp X_6.here hEX rfl (hb hBY d_prog_18_method_6_code_38) rfl ?_
    exact kt_
  refine Done.pre sg_9 ?_
  by_cases hc39 : k0 < m0
  · skip
    have sg_10 : ∀ tt_, Steps p.tables e below (T_6.setTop (mkF m 53 #[Rv a, Iv i, Rv mn, Rv mx, Iv (i * (2 : Int32)), Iv (0 : Int32), Lv k0, Zs] [(.int (0 : Int32))])) tt_ → Steps p.tables e below (T_6.setTop (mkF m 39 #[Rv a, Iv i, Rv mn, Rv mx, Iv (i * (2 : Int32)), Iv (0 : Int32), Lv k0, Zs] [(.int (lcmpW k0 m0))])) tt_ := by
      intro tt_ kt_
      refine XS.ifYes X_6.here hEX rfl (pc0 := 39) (pc' := 52) rfl (hb hBY d_prog_18_method_6_code_39) rfl ((if0 _ _).trans (tlt ((lw_lt _ _).mpr hc39)).1) (by decide) (by decide) ?_
      show Steps p.tables e below (T_6.setTop (mkF m 52 #[Rv a, Iv i, Rv mn, Rv mx, Iv (i * (2 : Int32)), Iv (0 : Int32), Lv k0, Zs] [])) tt_
      refine XS.iconst X_6.here hEX rfl (hb hBY d_prog_18_method_6_code_52) ?_
      exact kt_
    refine Done.pre sg_10 ?_
    exact Done.retN X_6 hEX hLK (t := .boolean) hRT (by simp) (hb hBY d_prog_18_method_6_code_53) (by rw [e_6]; exact ⟨(by rw [own_in2, if_pos hc39]; rfl), N0, rfl⟩) (by decide) (by decide)
  · skip
    obtain ⟨cl_11, Ar_11, q_11, S_11, N__11, H_11, G_11⟩ := id Ax
    have hin_11 : ¬ ((0 : Int32) < 0 ∨ cl_11.slots.size ≤ ((0 : Int32)).toNatClampNeg) := inb_of S_11 ⟨by decide, by decide⟩
    have hat_11 : cl_11.slots[((0 : Int32)).toNatClampNeg]? = some (.long M0) := H_11.at hin_11 rfl
    have sg_12 : ∀ tt_, Steps p.tables e below (T_6.setTop (mkF m 49 #[Rv a, Iv i, Rv mn, Rv mx, Iv (i * (2 : Int32)), Iv (0 : Int32), Lv k0, Zs] [(.int (lcmpW k0 M0))])) tt_ → Steps p.tables e below (T_6.setTop (mkF m 39 #[Rv a, Iv i, Rv mn, Rv mx, Iv (i * (2 : Int32)), Iv (0 : Int32), Lv k0, Zs] [(.int (lcmpW k0 m0))])) tt_ := by
      intro tt_ kt_
      refine XS.ifNo X_6.here hEX rfl (hb hBY d_prog_18_method_6_code_39) rfl ((if0 _ _).trans (flt (fun q => hc39 ((lw_lt _ _).mp q))).1) ?_
      show Steps p.tables e below (T_6.setTop (mkF m 42 #[Rv a, Iv i, Rv mn, Rv mx, Iv (i * (2 : Int32)), Iv (0 : Int32), Lv k0, Zs] [])) tt_
      refine XS.lload X_6.here hEX rfl (hb hBY d_prog_18_method_6_code_42) rfl ?_
      show Steps p.tables e below (T_6.setTop (mkF m 44 #[Rv a, Iv i, Rv mn, Rv mx, Iv (i * (2 : Int32)), Iv (0 : Int32), Lv k0, Zs] [(.long k0)])) tt_
      refine XS.aloadN X_6.here hEX rfl (hb hBY d_prog_18_method_6_code_44) rfl rfl ?_
      show Steps p.tables e below (T_6.setTop (mkF m 45 #[Rv a, Iv i, Rv mn, Rv mx, Iv (i * (2 : Int32)), Iv (0 : Int32), Lv k0, Zs] [(.ref mx), (.long k0)])) tt_
      refine XS.iload X_6.here hEX rfl (hb hBY d_prog_18_method_6_code_45) rfl ?_
      show Steps p.tables e below (T_6.setTop (mkF m 47 #[Rv a, Iv i, Rv mn, Rv mx, Iv (i * (2 : Int32)), Iv (0 : Int32), Lv k0, Zs] [(.int (0 : Int32)), (.ref mx), (.long k0)])) tt_
      refine X_6.laload hEX (j := (0 : Int32)) (v := (.long M0)) (by rw [e_6]; exact Ar_11.1) (State.isArrayOf_alike hZW.alike Ar_11.2.1) Ar_11.2.2 hin_11 hat_11 (g := (mkF m 47 #[Rv a, Iv i, Rv mn, Rv mx, Iv (i * (2 : Int32)), Iv (0 : Int32), Lv k0, Zs] [(.int (0 : Int32)), (.ref mx), (.long k0)])) rfl rfl (hb hBY d_prog_18_method_6_code_47) _ ?_
      show Steps p.tables e below (T_6.setTop (mkF m 48 #[Rv a, Iv i, Rv mn, Rv mx, Iv (i * (2 : Int32)), Iv (0 : Int32), Lv k0, Zs] [(.long M0), (.long k0)])) tt_
      refine XS.lcmp X_6.here hEX rfl (hb hBY d_prog_18_method_6_code_48) rfl ?_
      exact kt_
    refine Done.pre sg_12 ?_
    by_cases hc49 : M0 < k0
    · skip
      have sg_13 : ∀ tt_, Steps p.tables e below (T_6.setTop (mkF m 53 #[Rv a, Iv i, Rv mn, Rv mx, Iv (i * (2 : Int32)), Iv (0 : Int32), Lv k0, Zs] [(.int (0 : Int32))])) tt_ → Steps p.tables e below (T_6.setTop (mkF m 49 #[Rv a, Iv i, Rv mn, Rv mx, Iv (i * (2 : Int32)), Iv (0 : Int32), Lv k0, Zs] [(.int (lcmpW k0 M0))])) tt_ := by
        intro tt_ kt_
        refine XS.ifNo X_6.here hEX rfl (hb hBY d_prog_18_method_6_code_49) rfl ((if0 _ _).trans (tlt ((lw_gt _ _).mpr hc49)).2.2.2) ?_
        show Steps p.tables e below (T_6.setTop (mkF m 52 #[Rv a, Iv i, Rv mn, Rv mx, Iv (i * (2 : Int32)), Iv (0 : Int32), Lv k0, Zs] [])) tt_
        refine XS.iconst X_6.here hEX rfl (hb hBY d_prog_18_method_6_code_52) ?_
        exact kt_
      refine Done.pre sg_13 ?_
      exact Done.retN X_6 hEX hLK (t := .boolean) hRT (by simp) (hb hBY d_prog_18_method_6_code_53) (by rw [e_6]; exact ⟨(by rw [own_in2, if_neg hc39, if_pos hc49]; rfl), N0, rfl⟩) (by decide) (by decide)
    · skip
      have sg_14 : ∀ tt_, Steps p.tables e below (T_6.setTop (mkF m 14 #[Rv a, Iv i, Rv mn, Rv mx, Iv (i * (2 : Int32)), Iv (1 : Int32), Lv k0, Zs] [(.ref a), (.int (1 : Int32))])) tt_ → Steps p.tables e below (T_6.setTop (mkF m 49 #[Rv a, Iv i, Rv mn, Rv mx, Iv (i * (2 : Int32)), Iv (0 : Int32), Lv k0, Zs] [(.int (lcmpW k0 M0))])) tt_ := by
        intro tt_ kt_
        refine XS.ifYes X_6.here hEX rfl (pc0 := 49) (pc' := 54) rfl (hb hBY d_prog_18_method_6_code_49) rfl ((if0 _ _).trans (flt (fun q => hc49 ((lw_gt _ _).mp q))).2.2.2) (by decide) (by decide) ?_
        show Steps p.tables e below (T_6.setTop (mkF m 54 #[Rv a, Iv i, Rv mn, Rv mx, Iv (i * (2 : Int32)), Iv (0 : Int32), Lv k0, Zs] [])) tt_
        refine XS.iinc X_6.here hEX rfl (hb hBY d_prog_18_method_6_code_54) rfl (l' := #[Rv a, Iv i, Rv mn, Rv mx, Iv (i * (2 : Int32)), Iv (1 : Int32), Lv k0, Zs]) rfl ?_
        show Steps p.tables e below (T_6.setTop (mkF m 57 #[Rv a, Iv i, Rv mn, Rv mx, Iv (i * (2 : Int32)), Iv (1 : Int32), Lv k0, Zs] [])) tt_
        refine XS.goto X_6.here hEX rfl (pc0 := 57) (pc' := 11) rfl (hb hBY d_prog_18_method_6_code_57) (by decide) (by decide) ?_
        show Steps p.tables e below (T_6.setTop (mkF m 11 #[Rv a, Iv i, Rv mn, Rv mx, Iv (i * (2 : Int32)), Iv (1 : Int32), Lv k0, Zs] [])) tt_
        refine XS.iload X_6.here hEX rfl (hb hBY d_prog_18_method_6_code_11) rfl ?_
        show Steps p.tables e below (T_6.setTop (mkF m 13 #[Rv a, Iv i, Rv mn, Rv mx, Iv (i * (2 : Int32)), Iv (1 : Int32), Lv k0, Zs] [(.int (1 : Int32))])) tt_
        refine XS.aloadN X_6.here hEX rfl (hb hBY d_prog_18_method_6_code_13) rfl rfl ?_
        exact kt_
      refine Done.pre sg_14 ?_
      obtain ⟨T_15, X_15, e_15, st_15⟩ := getF X_6 hEX hZW hOW (host := "") (Or.inl (hw _ (List.mem_of_getElem? (i := 15) rfl))) Via.refl e_6 Fd (g := (mkF m 14 #[Rv a, Iv i, Rv mn, Rv mx, Iv (i * (2 : Int32)), Iv (1 : Int32), Lv k0, Zs] [(.ref a), (.int (1 : Int32))])) rfl rfl (hb hBY d_prog_18_method_6_code_14)
      refine Done.pre st_15 ?_
      show Done _ _ _ _ _ _ _ (T_15.setTop (mkF m 17 #[Rv a, Iv i, Rv mn, Rv mx, Iv (i * (2 : Int32)), Iv (1 : Int32), Lv k0, Zs] [(.int (2 : Int32)), (.int (1 : Int32))]))
      have sg_16 : ∀ tt_, Steps p.tables e below (T_15.setTop (mkF m 21 #[Rv a, Iv i, Rv mn, Rv mx, Iv (i * (2 : Int32)), Iv (1 : Int32), Lv k0, Zs] [(.ref a)])) tt_ → Steps p.tables e below (T_15.setTop (mkF m 17 #[Rv a, Iv i, Rv mn, Rv mx, Iv (i * (2 : Int32)), Iv (1 : Int32), Lv k0, Zs] [(.int (2 : Int32)), (.int (1 : Int32))])) tt_ := by
        intro tt_ kt_
        refine XS.icmpNo X_15.here hEX rfl (hb hBY d_prog_18_method_6_code_17) rfl (tlt (by decide : (1 : Int32) < (2 : Int32))).2.1 ?_
        show Steps p.tables e below (T_15.setTop (mkF m 20 #[Rv a, Iv i, Rv mn, Rv mx, Iv (i * (2 : Int32)), Iv (1 : Int32), Lv k0, Zs] [])) tt_
        refine XS.aloadN X_15.here hEX rfl (hb hBY d_prog_18_method_6_code_20) rfl rfl ?_
        exact kt_
      refine Done.pre sg_16 ?_
      obtain ⟨T_17, X_17, e_17, st_17⟩ := getF X_15 hEX hZW hOW (host := "") (Or.inl (hw _ (List.mem_of_getElem? (i := 19) rfl))) Via.refl e_15 Fk (g := (mkF m 21 #[Rv a, Iv i, Rv mn, Rv mx, Iv (i * (2 : Int32)), Iv (1 : Int32), Lv k0, Zs] [(.ref a)])) rfl rfl (hb hBY d_prog_18_method_6_code_21)
      refine Done.pre st_17 ?_
      show Done _ _ _ _ _ _ _ (T_17.setTop (mkF m 24 #[Rv a, Iv i, Rv mn, Rv mx, Iv (i * (2 : Int32)), Iv (1 : Int32), Lv k0, Zs] [(.ref kb)]))
      obtain ⟨cl_18, Ar_18, q_18, S_18, N__18, H_18, G_18⟩ := id Ak
      have hin_18 : ¬ (((i * (2 : Int32)) + (1 : Int32)) < 0 ∨ cl_18.slots.size ≤ (((i * (2 : Int32)) + (1 : Int32))).toNatClampNeg) := inb_of S_18 hb1
      have hat_18 : cl_18.slots[(((i * (2 : Int32)) + (1 : Int32))).toNatClampNeg]? = some (.long k1) := H_18.at hin_18 hv1
      obtain ⟨cl_19, Ar_19, q_19, S_19, N__19, H_19, G_19⟩ := id An
      have hin_19 : ¬ ((1 : Int32) < 0 ∨ cl_19.slots.size ≤ ((1 : Int32)).toNatClampNeg) := inb_of S_19 ⟨by decide, by decide⟩
      have hat_19 : cl_19.slots[((1 : Int32)).toNatClampNeg]? = some (.long m1) := H_19.at hin_19 rfl
      have sg_21 : ∀ tt_, Steps p.tables e below (T_17.setTop (mkF m 39 #[Rv a, Iv i, Rv mn, Rv mx, Iv (i * (2 : Int32)), Iv (1 : Int32), Lv k1, Zs] [(.int (lcmpW k1 m1))])) tt_ → Steps p.tables e below (T_17.setTop (mkF m 24 #[Rv a, Iv i, Rv mn, Rv mx, Iv (i * (2 : Int32)), Iv (1 : Int32), Lv k0, Zs] [(.ref kb)])) tt_ := by
        intro tt_ kt_
        refine XS.iload X_17.here hEX rfl (hb hBY d_prog_18_method_6_code_24) rfl ?_
        show Steps p.tables e below (T_17.setTop (mkF m 26 #[Rv a, Iv i, Rv mn, Rv mx, Iv (i * (2 : Int32)), Iv (1 : Int32), Lv k0, Zs] [(.int (i * (2 : Int32))), (.ref kb)])) tt_
        refine XS.iload X_17.here hEX rfl (hb hBY d_prog_18_method_6_code_26) rfl ?_
        show Steps p.tables e below (T_17.setTop (mkF m 28 #[Rv a, Iv i, Rv mn, Rv mx, Iv (i * (2 : Int32)), Iv (1 : Int32), Lv k0, Zs] [(.int (1 : Int32)), (.int (i * (2 : Int32))), (.ref kb)])) tt_
        refine XS.iadd X_17.here hEX rfl (hb hBY d_prog_18_method_6_code_28) rfl ?_
        show Steps p.tables e below (T_17.setTop (mkF m 29 #[Rv a, Iv i, Rv mn, Rv mx, Iv (i * (2 : Int32)), Iv (1 : Int32), Lv k0, Zs] [(.int ((i * (2 : Int32)) + (1 : Int32))), (.ref kb)])) tt_
        refine X_17.laload hEX (j := ((i * (2 : Int32)) + (1 : Int32))) (v := (.long k1)) (by rw [e_17]; exact Ar_18.1) (State.isArrayOf_alike hZW.alike Ar_18.2.1) Ar_18.2.2 hin_18 hat_18 (g := (mkF m 29 #[Rv a, Iv i, Rv mn, Rv mx, Iv (i * (2 : Int32)), Iv (1 : Int32), Lv k0, Zs] [(.int ((i * (2 : Int32)) + (1 : Int32))), (.ref kb)])) rfl rfl (hb hBY d_prog_18_method_6_code_29) _ ?_
        show Steps p.tables e below (T_17.setTop (mkF m 30 #[Rv a, Iv i, Rv mn, Rv mx, Iv (i * (2 : Int32)), Iv (1 : Int32), Lv k0, Zs] [(.long k1)])) tt_
        refine XS.lstore X_17.here hEX rfl (hb hBY d_prog_18_method_6_code_30) rfl (l' := #[Rv a, Iv i, Rv mn, Rv mx, Iv (i * (2 : Int32)), Iv (1 : Int32), Lv k1, Zs]) rfl ?_
        show Steps p.tables e below (T_17.setTop (mkF m 32 #[Rv a, Iv i, Rv mn, Rv mx, Iv (i * (2 : Int32)), Iv (1 : Int32), Lv k1, Zs] [])) tt_
        refine XS.lload X_17.here hEX rfl (hb hBY d_prog_18_method_6_code_32) rfl ?_
        show Steps p.tables e below (T_17.setTop (mkF m 34 #[Rv a, Iv i, Rv mn, Rv mx, Iv (i * (2 : Int32)), Iv (1 : Int32), Lv k1, Zs] [(.long k1)])) tt_
        refine XS.aloadN X_17.here hEX rfl (hb hBY d_prog_18_method_6_code_34) rfl rfl ?_
        show Steps p.tables e below (T_17.setTop (mkF m 35 #[Rv a, Iv i, Rv mn, Rv mx, Iv (i * (2 : Int32)), Iv (1 : Int32), Lv k1, Zs] [(.ref mn), (.long k1)])) tt_
        refine XS.iload X_17.here hEX rfl (hb hBY d_prog_18_method_6_code_35) rfl ?_
        show Steps p.tables e below (T_17.setTop (mkF m 37 #[Rv a, Iv i, Rv mn, Rv mx, Iv (i * (2 : Int32)), Iv (1 : Int32), Lv k1, Zs] [(.int (1 : Int32)), (.ref mn), (.long k1)])) tt_
        refine X_17.laload hEX (j := (1 : Int32)) (v := (.long m1)) (by rw [e_17]; exact Ar_19.1) (State.isArrayOf_alike hZW.alike Ar_19.2.1) Ar_19.2.2 hin_19 hat_19 (g := (mkF m 37 #[Rv a, Iv i, Rv mn, Rv mx, Iv (i * (2 : Int32)), Iv (1 : Int32), Lv k1, Zs] [(.int (1 : Int32)), (.ref mn), (.long k1)])) rfl rfl (hb hBY d_prog_18_method_6_code_37) _ ?_
        show Steps p.tables e below (T_17.setTop (mkF m 38 #[Rv a, Iv i, Rv mn, Rv mx, Iv (i * (2 : Int32)), Iv (1 : Int32), Lv k1, Zs] [(.long m1), (.long k1)])) tt_
        refine XS.lcmp X_17.here hEX rfl (hb hBY d_prog_18_method_6_code_38) rfl ?_
        exact kt_
      refine Done.pre sg_21 ?_
      by_cases hc39__20 : k1 < m1
      · skip
        have sg_22 : ∀ tt_, Steps p.tables e below (T_17.setTop (mkF m 53 #[Rv a, Iv i, Rv mn, Rv mx, Iv (i * (2 : Int32)), Iv (1 : Int32), Lv k1, Zs] [(.int (0 : Int32))])) tt_ → Steps p.tables e below (T_17.setTop (mkF m 39 #[Rv a, Iv i, Rv mn, Rv mx, Iv (i * (2 : Int32)), Iv (1 : Int32), Lv k1, Zs] [(.int (lcmpW k1 m1))])) tt_ := by
          intro tt_ kt_
          refine XS.ifYes X_17.here hEX rfl (pc0 := 39) (pc' := 52) rfl (hb hBY d_prog_18_method_6_code_39) rfl ((if0 _ _).trans (tlt ((lw_lt _ _).mpr hc39__20)).1) (by decide) (by decide) ?_
          show Steps p.tables e below (T_17.setTop (mkF m 52 #[Rv a, Iv i, Rv mn, Rv mx, Iv (i * (2 : Int32)), Iv (1 : Int32), Lv k1, Zs] [])) tt_
          refine XS.iconst X_17.here hEX rfl (hb hBY d_prog_18_method_6_code_52) ?_
          exact kt_
        refine Done.pre sg_22 ?_
        exact Done.retN X_17 hEX hLK (t := .boolean) hRT (by simp) (hb hBY d_prog_18_method_6_code_53) (by rw [e_17]; exact ⟨(by rw [own_in2, if_neg hc39, if_neg hc49, if_pos hc39__20]; rfl), N0, rfl⟩) (by decide) (by decide)
      · skip
        obtain ⟨cl_23, Ar_23, q_23, S_23, N__23, H_23, G_23⟩ := id Ax
        have hin_23 : ¬ ((1 : Int32) < 0 ∨ cl_23.slots.size ≤ ((1 : Int32)).toNatClampNeg) := inb_of S_23 ⟨by decide, by decide⟩
        have hat_23 : cl_23.slots[((1 : Int32)).toNatClampNeg]? = some (.long M1) := H_23.at hin_23 rfl
        have sg_25 : ∀ tt_, Steps p.tables e below (T_17.setTop (mkF m 49 #[Rv a, Iv i, Rv mn, Rv mx, Iv (i * (2 : Int32)), Iv (1 : Int32), Lv k1, Zs] [(.int (lcmpW k1 M1))])) tt_ → Steps p.tables e below (T_17.setTop (mkF m 39 #[Rv a, Iv i, Rv mn, Rv mx, Iv (i * (2 : Int32)), Iv (1 : Int32), Lv k1, Zs] [(.int (lcmpW k1 m1))])) tt_ := by
          intro tt_ kt_
          refine XS.ifNo X_17.here hEX rfl (hb hBY d_prog_18_method_6_code_39) rfl ((if0 _ _).trans (flt (fun q => hc39__20 ((lw_lt _ _).mp q))).1) ?_
          show Steps p.tables e below (T_17.setTop (mkF m 42 #[Rv a, Iv i, Rv mn, Rv mx, Iv (i * (2 : Int32)), Iv (1 : Int32), Lv k1, Zs] [])) tt_
          refine XS.lload X_17.here hEX rfl (hb hBY d_prog_18_method_6_code_42) rfl ?_
          show Steps p.tables e below (T_17.setTop (mkF m 44 #[Rv a, Iv i, Rv mn, Rv mx, Iv (i * (2 : Int32)), Iv (1 : Int32), Lv k1, Zs] [(.long k1)])) tt_
          refine XS.aloadN X_17.here hEX rfl (hb hBY d_prog_18_method_6_code_44) rfl rfl ?_
          show Steps p.tables e below (T_17.setTop (mkF m 45 #[Rv a, Iv i, Rv mn, Rv mx, Iv (i * (2 : Int32)), Iv (1 : Int32), Lv k1, Zs] [(.ref mx), (.long k1)])) tt_
          refine XS.iload X_17.here hEX rfl (hb hBY d_prog_18_method_6_code_45) rfl ?_
          show Steps p.tables e below (T_17.setTop (mkF m 47 #[Rv a, Iv i, Rv mn, Rv mx, Iv (i * (2 : Int32)), Iv (1 : Int32), Lv k1, Zs] [(.int (1 : Int32)), (.ref mx), (.long k1)])) tt_
          refine X_17.laload hEX (j := (1 : Int32)) (v := (.long M1)) (by rw [e_17]; exact Ar_23.1) (State.isArrayOf_alike hZW.alike Ar_23.2.1) Ar_23.2.2 hin_23 hat_23 (g := (mkF m 47 #[Rv a, Iv i, Rv mn, Rv mx, Iv (i * (2 : Int32)), Iv (1 : Int32), Lv k1, Zs] [(.int (1 : Int32)), (.ref mx), (.long k1)])) rfl rfl (hb hBY d_prog_18_method_6_code_47) _ ?_
          show Steps p.tables e below (T_17.setTop (mkF m 48 #[Rv a, Iv i, Rv mn, Rv mx, Iv (i * (2 : Int32)), Iv (1 : Int32), Lv k1, Zs] [(.long M1), (.long k1)])) tt_
          refine XS.lcmp X_17.here hEX rfl (hb hBY d_prog_18_method_6_code_48) rfl ?_
          exact kt_
        refine Done.pre sg_25 ?_
        by_cases hc49__24 : M1 < k1
        · skip
          have sg_26 : ∀ tt_, Steps p.tables e below (T_17.setTop (mkF m 53 #[Rv a, Iv i, Rv mn, Rv mx, Iv (i * (2 : Int32)), Iv (1 : Int32), Lv k1, Zs] [(.int (0 : Int32))])) tt_ → Steps p.tables e below (T_17.setTop (mkF m 49 #[Rv a, Iv i, Rv mn, Rv mx, Iv (i * (2 : Int32)), Iv (1 : Int32), Lv k1, Zs] [(.int (lcmpW k1 M1))])) tt_ := by
            intro tt_ kt_
            refine XS.ifNo X_17.here hEX rfl (hb hBY d_prog_18_method_6_code_49) rfl ((if0 _ _).trans (tlt ((lw_gt _ _).mpr hc49__24)).2.2.2) ?_
            show Steps p.tables e below (T_17.setTop (mkF m 52 #[Rv a, Iv i, Rv mn, Rv mx, Iv (i * (2 : Int32)), Iv (1 : Int32), Lv k1, Zs] [])) tt_
            refine XS.iconst X_17.here hEX rfl (hb hBY d_prog_18_method_6_code_52) ?_
            exact kt_
          refine Done.pre sg_26 ?_
          exact Done.retN X_17 hEX hLK (t := .boolean) hRT (by simp) (hb hBY d_prog_18_method_6_code_53) (by rw [e_17]; exact ⟨(by rw [own_in2, if_neg hc39, if_neg hc49, if_neg hc39__20, if_pos hc49__24]; rfl), N0, rfl⟩) (by decide) (by decide)
        · skip
          have sg_27 : ∀ tt_, Steps p.tables e below (T_17.setTop (mkF m 14 #[Rv a, Iv i, Rv mn, Rv mx, Iv (i * (2 : Int32)), Iv (2 : Int32), Lv k1, Zs] [(.ref a), (.int (2 : Int32))])) tt_ → Steps p.tables e below (T_17.setTop (mkF m 49 #[Rv a, Iv i, Rv mn, Rv mx, Iv (i * (2 : Int32)), Iv (1 : Int32), Lv k1, Zs] [(.int (lcmpW k1 M1))])) tt_ := by
            intro tt_ kt_
            refine XS.ifYes X_17.here hEX rfl (pc0 := 49) (pc' := 54) rfl (hb hBY d_prog_18_method_6_code_49) rfl ((if0 _ _).trans (flt (fun q => hc49__24 ((lw_gt _ _).mp q))).2.2.2) (by decide) (by decide) ?_
            show Steps p.tables e below (T_17.setTop (mkF m 54 #[Rv a, Iv i, Rv mn, Rv mx, Iv (i * (2 : Int32)), Iv (1 : Int32), Lv k1, Zs] [])) tt_
            refine XS.iinc X_17.here hEX rfl (hb hBY d_prog_18_method_6_code_54) rfl (l' := #[Rv a, Iv i, Rv mn, Rv mx, Iv (i * (2 : Int32)), Iv (2 : Int32), Lv k1, Zs]) rfl ?_
            show Steps p.tables e below (T_17.setTop (mkF m 57 #[Rv a, Iv i, Rv mn, Rv mx, Iv (i * (2 : Int32)), Iv (2 : Int32), Lv k1, Zs] [])) tt_
            refine XS.goto X_17.here hEX rfl (pc0 := 57) (pc' := 11) rfl (hb hBY d_prog_18_method_6_code_57) (by decide) (by decide) ?_
            show Steps p.tables e below (T_17.setTop (mkF m 11 #[Rv a, Iv i, Rv mn, Rv mx, Iv (i * (2 : Int32)), Iv (2 : Int32), Lv k1, Zs] [])) tt_
            refine XS.iload X_17.here hEX rfl (hb hBY d_prog_18_method_6_code_11) rfl ?_
            show Steps p.tables e below (T_17.setTop (mkF m 13 #[Rv a, Iv i, Rv mn, Rv mx, Iv (i * (2 : Int32)), Iv (2 : Int32), Lv k1, Zs] [(.int (2 : Int32))])) tt_
            refine XS.aloadN X_17.here hEX rfl (hb hBY d_prog_18_method_6_code_13) rfl rfl ?_
            exact kt_
          refine Done.pre sg_27 ?_
          obtain ⟨T_28, X_28, e_28, st_28⟩ := getF X_17 hEX hZW hOW (host := "") (Or.inl (hw _ (List.mem_of_getElem? (i := 15) rfl))) Via.refl e_17 Fd (g := (mkF m 14 #[Rv a, Iv i, Rv mn, Rv mx, Iv (i * (2 : Int32)), Iv (2 : Int32), Lv k1, Zs] [(.ref a), (.int (2 : Int32))])) rfl rfl (hb hBY d_prog_18_method_6_code_14)
          refine Done.pre st_28 ?_
          show Done _ _ _ _ _ _ _ (T_28.setTop (mkF m 17 #[Rv a, Iv i, Rv mn, Rv mx, Iv (i * (2 : Int32)), Iv (2 : Int32), Lv k1, Zs] [(.int (2 : Int32)), (.int (2 : Int32))]))
          have sg_29 : ∀ tt_, Steps p.tables e below (T_28.setTop (mkF m 61 #[Rv a, Iv i, Rv mn, Rv mx, Iv (i * (2 : Int32)), Iv (2 : Int32), Lv k1, Zs] [(.int (1 : Int32))])) tt_ → Steps p.tables e below (T_28.setTop (mkF m 17 #[Rv a, Iv i, Rv mn, Rv mx, Iv (i * (2 : Int32)), Iv (2 : Int32), Lv k1, Zs] [(.int (2 : Int32)), (.int (2 : Int32))])) tt_ := by
            intro tt_ kt_
            refine XS.icmpYes X_28.here hEX rfl (pc0 := 17) (pc' := 60) rfl (hb hBY d_prog_18_method_6_code_17) rfl (flt (by decide : ¬ ((2 : Int32) < (2 : Int32)))).2.1 (by decide) (by decide) ?_
            show Steps p.tables e below (T_28.setTop (mkF m 60 #[Rv a, Iv i, Rv mn, Rv mx, Iv (i * (2 : Int32)), Iv (2 : Int32), Lv k1, Zs] [])) tt_
            refine XS.iconst X_28.here hEX rfl (hb hBY d_prog_18_method_6_code_60) ?_
            exact kt_
          refine Done.pre sg_29 ?_
          exact Done.retN X_28 hEX hLK (t := .boolean) hRT (by simp) (hb hBY d_prog_18_method_6_code_61) (by rw [e_28]; exact ⟨(by rw [own_in2, if_neg hc39, if_neg hc49, if_neg hc39__20, if_neg hc49__24]; rfl), N0, rfl⟩) (by decide) (by decide)
theorem pd__IJJ_J_1 : parseMethodDescriptor "(IJJ)J" = some ⟨[.int, .long, .long], some .long⟩ := by decide +kernel
theorem pd__I_I_J_V_2 : parseMethodDescriptor "(I[I[J)V" = some ⟨[.int, (.array .int), (.array .long)], none⟩ := by decide +kernel
theorem pd__I_J_J_Z_3 : parseMethodDescriptor "(I[J[J)Z" = some ⟨[.int, (.array .long), (.array .long)], some .boolean⟩ := by decide +kernel
def Qrm0 (Z : State) (q1 : Int64) (q2 : Int64) (q3 : Int64) (q4 : Int64) (q5 : Int64) (p6 : Int32) (h0 : Heap) (n0 : Nat) (v_ : Option Value) (h_ : Heap) (L_ : List Loc) : Prop := v_ = some (.int (1 : Int32)) ∧ Fr n0 L_ ∧ Keep h0 h_ []
theorem ef_rm0 (m : MethodId) (x0 : Int64) (x1 : Int64) (x2 : Int64) (x3 : Int64) (x4 : Int64) (x5 : Int32) : entryFrame m #[(.long x0), (.long x1), (.long x2), (.long x3), (.long x4), (.int x5)] maxLocals = mkF m 0 #[.val (.long x0), .second, .val (.long x1), .second, .val (.long x2), .second, .val (.long x3), .second, .val (.long x4), .second, .val (.int x5), .unset, .unset, .unset, .unset, .unset, .unset, .unset, .unset, .unset, .unset, .unset, .unset, .unset] [] := by first | (simp [entryFrame, mkF, argsToLocals, Value.category, maxLocals]; done) | rfl
set_option maxRecDepth 65536 in
set_option maxHeartbeats 40000000 in
theorem rm0 (l : Launch) (Z : State) (aZ : Array Value) (hw : ∀ d ∈ tables_1, d.before aZ Z = true) (ws : List Jvm.Cond) (q1 : Int64) (q2 : Int64) (q3 : Int64) (q4 : Int64) (q5 : Int64) (p6 : Int32) (h0 : Heap) (n0 : Nat) (Z0 : n0 ≤ h0.size) :
    MetFree l x (head1 (Jvm.Cond.code x code maxLocals ret :: ws) room_1) (fun a_ U_ => a_ = #[(.long q1), (.long q2), (.long q3), (.long q4), (.long q5), (.int p6)] ∧ Z.Warmed39 U_.vm ∧ U_.heap = h0) (fun _ _ _ _ _ => True) (fun _ U_ o_ U2_ => ∃ v_ L_, o_ = .returned v_ ∧ Qrm0 Z q1 q2 q3 q4 q5 p6 h0 n0 v_ U2_.heap L_ ∧ FrameEnd U_ o_ U2_ L_ room_1.cells room_1.slots) := by
  refine MetFree.of_bodySF (plainFor_of_name pn_com_example_pointcell_pointcell_LeafIsInsidePinLaw) hisR ?_
  intro p e s m args below meth cO s₁ Bd hml0 hP hK
  obtain ⟨rfl, hZW, hh⟩ := hP
  have hEX := Bd.exec
  have hBY := Bd.bytes
  have hMX : cO.maxLocals = 24 := hml0
  have hOW : s.vm.findClass "com/example/pointcell/pointcell/LeafIsInsidePinLaw" = some m.cls := findClass_of_methodNamed Bd.named
  have hNM := (name_of_methodNamed Bd.named Bd.method).1
  have hLK := Bd.notSynchronized
  have hRT := Bd.returns
  have X0 : Stand p l e room_1 s m #[(.long q1), (.long q2), (.long q3), (.long q4), (.long q5), (.int p6)] below meth cO s₁ [] 0 0 := Stand.of_body Bd
  have e0 : s₁.heap = h0 := by rw [← hh, Bd.state]; rfl
  have N0 := Fr.nil n0
  have K0 : Keep h0 h0 [] := Keep.refl _ _
  show Done p e below s (Qrm0 Z q1 q2 q3 q4 q5 p6 h0 n0) room_1.cells room_1.slots (s₁.setTop (entryFrame m #[(.long q1), (.long q2), (.long q3), (.long q4), (.long q5), (.int p6)] maxLocals))
  refine Done.pre (fun t_ k_ => castTop (ef_rm0 m q1 q2 q3 q4 q5 p6) k_) ?_
  show Done _ _ _ _ _ _ _ (s₁.setTop (mkF m 0 #[Lv q1, Zs, Lv q2, Zs, Lv q3, Zs, Lv q4, Zs, Lv q5, Zs, Iv p6, Us, Us, Us, Us, Us, Us, Us, Us, Us, Us, Us, Us, Us] []))
  have sg_1 : ∀ tt_, Steps p.tables e below (s₁.setTop (mkF m 4 #[Lv q1, Zs, Lv q2, Zs, Lv q3, Zs, Lv q4, Zs, Lv q5, Zs, Iv p6, Us, Us, Us, Us, Us, Us, Us, Us, Us, Us, Us, Us, Us] [(.int (p6 &&& (1 : Int32)))])) tt_ → Steps p.tables e below (s₁.setTop (mkF m 0 #[Lv q1, Zs, Lv q2, Zs, Lv q3, Zs, Lv q4, Zs, Lv q5, Zs, Iv p6, Us, Us, Us, Us, Us, Us, Us, Us, Us, Us, Us, Us, Us] [])) tt_ := by
    intro tt_ kt_
    refine XS.iload X0.here hEX rfl (hb hBY at_0) rfl ?_
    show Steps p.tables e below (s₁.setTop (mkF m 2 #[Lv q1, Zs, Lv q2, Zs, Lv q3, Zs, Lv q4, Zs, Lv q5, Zs, Iv p6, Us, Us, Us, Us, Us, Us, Us, Us, Us, Us, Us, Us, Us] [(.int p6)])) tt_
    refine XS.iconst X0.here hEX rfl (hb hBY at_2) ?_
    show Steps p.tables e below (s₁.setTop (mkF m 3 #[Lv q1, Zs, Lv q2, Zs, Lv q3, Zs, Lv q4, Zs, Lv q5, Zs, Iv p6, Us, Us, Us, Us, Us, Us, Us, Us, Us, Us, Us, Us, Us] [(.int (1 : Int32)), (.int p6)])) tt_
    refine XS.iand X0.here hEX rfl (hb hBY at_3) rfl ?_
    exact kt_
  refine Done.pre sg_1 ?_
  show Done _ _ _ _ _ _ _ (s₁.setTop (mkF m 4 #[Lv q1, Zs, Lv q2, Zs, Lv q3, Zs, Lv q4, Zs, Lv q5, Zs, Iv p6, Us, Us, Us, Us, Us, Us, Us, Us, Us, Us, Us, Us, Us] [(.int (p6 &&& (1 : Int32)))]))
  obtain ⟨ii, hii⟩ : ∃ z : Int32, z = (p6 &&& (1 : Int32)) := ⟨_, rfl⟩
  rw [← hii]
  show Done _ _ _ _ _ _ _ (s₁.setTop (mkF m 4 #[Lv q1, Zs, Lv q2, Zs, Lv q3, Zs, Lv q4, Zs, Lv q5, Zs, Iv p6, Us, Us, Us, Us, Us, Us, Us, Us, Us, Us, Us, Us, Us] [(.int ii)]))
  have hi01 : ii = (0 : Int32) ∨ ii = (1 : Int32) := by rw [hii]; exact own_i01 _
  have sg_2 : ∀ tt_, Steps p.tables e below (s₁.setTop (mkF m 14 #[Lv q1, Zs, Lv q2, Zs, Lv q3, Zs, Lv q4, Zs, Lv q5, Zs, Iv p6, Iv ii, Us, Us, Us, Us, Us, Us, Us, Us, Us, Us, Us, Us] [(.int ((1 : Int32) + (((p6.toUInt32 >>> ((1 : Int32) &&& 31).toUInt32).toInt32) &&& (1 : Int32))))])) tt_ → Steps p.tables e below (s₁.setTop (mkF m 4 #[Lv q1, Zs, Lv q2, Zs, Lv q3, Zs, Lv q4, Zs, Lv q5, Zs, Iv p6, Us, Us, Us, Us, Us, Us, Us, Us, Us, Us, Us, Us, Us] [(.int ii)])) tt_ := by
    intro tt_ kt_
    refine XS.istore X0.here hEX rfl (hb hBY at_4) rfl (l' := #[Lv q1, Zs, Lv q2, Zs, Lv q3, Zs, Lv q4, Zs, Lv q5, Zs, Iv p6, Iv ii, Us, Us, Us, Us, Us, Us, Us, Us, Us, Us, Us, Us]) rfl ?_
    show Steps p.tables e below (s₁.setTop (mkF m 6 #[Lv q1, Zs, Lv q2, Zs, Lv q3, Zs, Lv q4, Zs, Lv q5, Zs, Iv p6, Iv ii, Us, Us, Us, Us, Us, Us, Us, Us, Us, Us, Us, Us] [])) tt_
    refine XS.iconst X0.here hEX rfl (hb hBY at_6) ?_
    show Steps p.tables e below (s₁.setTop (mkF m 7 #[Lv q1, Zs, Lv q2, Zs, Lv q3, Zs, Lv q4, Zs, Lv q5, Zs, Iv p6, Iv ii, Us, Us, Us, Us, Us, Us, Us, Us, Us, Us, Us, Us] [(.int (1 : Int32))])) tt_
    refine XS.iload X0.here hEX rfl (hb hBY at_7) rfl ?_
    show Steps p.tables e below (s₁.setTop (mkF m 9 #[Lv q1, Zs, Lv q2, Zs, Lv q3, Zs, Lv q4, Zs, Lv q5, Zs, Iv p6, Iv ii, Us, Us, Us, Us, Us, Us, Us, Us, Us, Us, Us, Us] [(.int p6), (.int (1 : Int32))])) tt_
    refine XS.iconst X0.here hEX rfl (hb hBY at_9) ?_
    show Steps p.tables e below (s₁.setTop (mkF m 10 #[Lv q1, Zs, Lv q2, Zs, Lv q3, Zs, Lv q4, Zs, Lv q5, Zs, Iv p6, Iv ii, Us, Us, Us, Us, Us, Us, Us, Us, Us, Us, Us, Us] [(.int (1 : Int32)), (.int p6), (.int (1 : Int32))])) tt_
    refine XS.iushr X0.here hEX rfl (hb hBY at_10) rfl ?_
    show Steps p.tables e below (s₁.setTop (mkF m 11 #[Lv q1, Zs, Lv q2, Zs, Lv q3, Zs, Lv q4, Zs, Lv q5, Zs, Iv p6, Iv ii, Us, Us, Us, Us, Us, Us, Us, Us, Us, Us, Us, Us] [(.int ((p6.toUInt32 >>> ((1 : Int32) &&& 31).toUInt32).toInt32)), (.int (1 : Int32))])) tt_
    refine XS.iconst X0.here hEX rfl (hb hBY at_11) ?_
    show Steps p.tables e below (s₁.setTop (mkF m 12 #[Lv q1, Zs, Lv q2, Zs, Lv q3, Zs, Lv q4, Zs, Lv q5, Zs, Iv p6, Iv ii, Us, Us, Us, Us, Us, Us, Us, Us, Us, Us, Us, Us] [(.int (1 : Int32)), (.int ((p6.toUInt32 >>> ((1 : Int32) &&& 31).toUInt32).toInt32)), (.int (1 : Int32))])) tt_
    refine XS.iand X0.here hEX rfl (hb hBY at_12) rfl ?_
    show Steps p.tables e below (s₁.setTop (mkF m 13 #[Lv q1, Zs, Lv q2, Zs, Lv q3, Zs, Lv q4, Zs, Lv q5, Zs, Iv p6, Iv ii, Us, Us, Us, Us, Us, Us, Us, Us, Us, Us, Us, Us] [(.int (((p6.toUInt32 >>> ((1 : Int32) &&& 31).toUInt32).toInt32) &&& (1 : Int32))), (.int (1 : Int32))])) tt_
    refine XS.iadd X0.here hEX rfl (hb hBY at_13) rfl ?_
    exact kt_
  refine Done.pre sg_2 ?_
  show Done _ _ _ _ _ _ _ (s₁.setTop (mkF m 14 #[Lv q1, Zs, Lv q2, Zs, Lv q3, Zs, Lv q4, Zs, Lv q5, Zs, Iv p6, Iv ii, Us, Us, Us, Us, Us, Us, Us, Us, Us, Us, Us, Us] [(.int ((1 : Int32) + (((p6.toUInt32 >>> ((1 : Int32) &&& 31).toUInt32).toInt32) &&& (1 : Int32))))]))
  obtain ⟨dd, hdd⟩ : ∃ z : Int32, z = ((1 : Int32) + (((p6.toUInt32 >>> ((1 : Int32) &&& 31).toUInt32).toInt32) &&& (1 : Int32))) := ⟨_, rfl⟩
  rw [← hdd]
  show Done _ _ _ _ _ _ _ (s₁.setTop (mkF m 14 #[Lv q1, Zs, Lv q2, Zs, Lv q3, Zs, Lv q4, Zs, Lv q5, Zs, Iv p6, Iv ii, Us, Us, Us, Us, Us, Us, Us, Us, Us, Us, Us, Us] [(.int dd)]))
  have hd12 : dd = (1 : Int32) ∨ dd = (2 : Int32) := by rw [hdd]; exact own_d12 _
  have sg_3 : ∀ tt_, Steps p.tables e below (s₁.setTop (mkF m 25 #[Lv q1, Zs, Lv q2, Zs, Lv q3, Zs, Lv q4, Zs, Lv q5, Zs, Iv p6, Iv ii, Iv dd, Us, Us, Us, Us, Us, Us, Us, Us, Us, Us, Us] [(.long q2), (.long q5), (.int (((p6.toUInt32 >>> ((2 : Int32) &&& 31).toUInt32).toInt32) &&& (3 : Int32)))])) tt_ → Steps p.tables e below (s₁.setTop (mkF m 14 #[Lv q1, Zs, Lv q2, Zs, Lv q3, Zs, Lv q4, Zs, Lv q5, Zs, Iv p6, Iv ii, Us, Us, Us, Us, Us, Us, Us, Us, Us, Us, Us, Us] [(.int dd)])) tt_ := by
    intro tt_ kt_
    refine XS.istore X0.here hEX rfl (hb hBY at_14) rfl (l' := #[Lv q1, Zs, Lv q2, Zs, Lv q3, Zs, Lv q4, Zs, Lv q5, Zs, Iv p6, Iv ii, Iv dd, Us, Us, Us, Us, Us, Us, Us, Us, Us, Us, Us]) rfl ?_
    show Steps p.tables e below (s₁.setTop (mkF m 16 #[Lv q1, Zs, Lv q2, Zs, Lv q3, Zs, Lv q4, Zs, Lv q5, Zs, Iv p6, Iv ii, Iv dd, Us, Us, Us, Us, Us, Us, Us, Us, Us, Us, Us] [])) tt_
    refine XS.iload X0.here hEX rfl (hb hBY at_16) rfl ?_
    show Steps p.tables e below (s₁.setTop (mkF m 18 #[Lv q1, Zs, Lv q2, Zs, Lv q3, Zs, Lv q4, Zs, Lv q5, Zs, Iv p6, Iv ii, Iv dd, Us, Us, Us, Us, Us, Us, Us, Us, Us, Us, Us] [(.int p6)])) tt_
    refine XS.iconst X0.here hEX rfl (hb hBY at_18) ?_
    show Steps p.tables e below (s₁.setTop (mkF m 19 #[Lv q1, Zs, Lv q2, Zs, Lv q3, Zs, Lv q4, Zs, Lv q5, Zs, Iv p6, Iv ii, Iv dd, Us, Us, Us, Us, Us, Us, Us, Us, Us, Us, Us] [(.int (2 : Int32)), (.int p6)])) tt_
    refine XS.iushr X0.here hEX rfl (hb hBY at_19) rfl ?_
    show Steps p.tables e below (s₁.setTop (mkF m 20 #[Lv q1, Zs, Lv q2, Zs, Lv q3, Zs, Lv q4, Zs, Lv q5, Zs, Iv p6, Iv ii, Iv dd, Us, Us, Us, Us, Us, Us, Us, Us, Us, Us, Us] [(.int ((p6.toUInt32 >>> ((2 : Int32) &&& 31).toUInt32).toInt32))])) tt_
    refine XS.iconst X0.here hEX rfl (hb hBY at_20) ?_
    show Steps p.tables e below (s₁.setTop (mkF m 21 #[Lv q1, Zs, Lv q2, Zs, Lv q3, Zs, Lv q4, Zs, Lv q5, Zs, Iv p6, Iv ii, Iv dd, Us, Us, Us, Us, Us, Us, Us, Us, Us, Us, Us] [(.int (3 : Int32)), (.int ((p6.toUInt32 >>> ((2 : Int32) &&& 31).toUInt32).toInt32))])) tt_
    refine XS.iand X0.here hEX rfl (hb hBY at_21) rfl ?_
    show Steps p.tables e below (s₁.setTop (mkF m 22 #[Lv q1, Zs, Lv q2, Zs, Lv q3, Zs, Lv q4, Zs, Lv q5, Zs, Iv p6, Iv ii, Iv dd, Us, Us, Us, Us, Us, Us, Us, Us, Us, Us, Us] [(.int (((p6.toUInt32 >>> ((2 : Int32) &&& 31).toUInt32).toInt32) &&& (3 : Int32)))])) tt_
    refine XS.lload X0.here hEX rfl (hb hBY at_22) rfl ?_
    show Steps p.tables e below (s₁.setTop (mkF m 24 #[Lv q1, Zs, Lv q2, Zs, Lv q3, Zs, Lv q4, Zs, Lv q5, Zs, Iv p6, Iv ii, Iv dd, Us, Us, Us, Us, Us, Us, Us, Us, Us, Us, Us] [(.long q5), (.int (((p6.toUInt32 >>> ((2 : Int32) &&& 31).toUInt32).toInt32) &&& (3 : Int32)))])) tt_
    refine XS.lloadN X0.here hEX rfl (hb hBY at_24) rfl ?_
    exact kt_
  refine Done.pre sg_3 ?_
  obtain ⟨_, _, ⟨T_4, L_4, k_4, n_4⟩, -, X_4, ⟨Lc_4, hQ_4, l_4, y_4, z_4⟩, st_4⟩ := Jvm.LawKit.callS X0 hEX (y := (⟨"com/example/pointcell/pointcell/LeafIsInsidePinLaw", "pick", "(IJJ)J"⟩ : MethodName)) hOW (mvT hZW (hw _ (List.mem_of_getElem? (i := 0) rfl))) (mvT hZW (hw _ (List.mem_of_getElem? (i := 1) rfl))) (mvT hZW (hw _ (List.mem_of_getElem? (i := 2) rfl))) (mvT hZW (hw _ (List.mem_of_getElem? (i := 3) rfl))) (by decide) (backOf (W := 0) (rm_pick l Z aZ hw [] (((p6.toUInt32 >>> ((2 : Int32) &&& 31).toUInt32).toInt32) &&& (3 : Int32)) q5 q2 h0 n0 (Nat.le_trans Z0 K0.1) ) hZW (hw _ (List.mem_of_getElem? (i := 3) rfl)) (hw _ (List.mem_of_getElem? (i := 2) rfl)) (by decide) (by decide)) (g := (mkF m 25 #[Lv q1, Zs, Lv q2, Zs, Lv q3, Zs, Lv q4, Zs, Lv q5, Zs, Iv p6, Iv ii, Iv dd, Us, Us, Us, Us, Us, Us, Us, Us, Us, Us, Us] [(.long q2), (.long q5), (.int (((p6.toUInt32 >>> ((2 : Int32) &&& 31).toUInt32).toInt32) &&& (3 : Int32)))])) rfl (by rw [hMX]; rfl) (argsL := [(.int (((p6.toUInt32 >>> ((2 : Int32) &&& 31).toUInt32).toInt32) &&& (3 : Int32))), (.long q5), (.long q2)]) (rest := []) (lenOf pd__IJJ_J_1 rfl) rfl (by show 2 * 0 + _ ≤ _; exact Nat.le_of_eq rfl) (hb hBY at_25) (fun _ _ => ⟨rfl, e0, (by decide : 0 + 0 ≤ _), (by decide : 0 + 0 ≤ _)⟩)
  dsimp only [Pt.U, Pt.locs, Pt.cells, Pt.slots] at X_4 l_4 y_4 z_4 st_4 hQ_4
  subst l_4 y_4 z_4
  obtain ⟨rfl, N_4q, e_4⟩ := hQ_4
  have N_4 := Fr.app N0 N_4q
  refine Done.pre (fun _ k_ => st_4 _ k_) ?_
  show Done _ _ _ _ _ _ _ (T_4.setTop (mkF m 28 #[Lv q1, Zs, Lv q2, Zs, Lv q3, Zs, Lv q4, Zs, Lv q5, Zs, Iv p6, Iv ii, Iv dd, Us, Us, Us, Us, Us, Us, Us, Us, Us, Us, Us] [(.long (own_pick (((p6.toUInt32 >>> ((2 : Int32) &&& 31).toUInt32).toInt32) &&& (3 : Int32)) q5 q2))]))
  show Done _ _ _ _ _ _ _ (T_4.setTop (mkF m 28 #[Lv q1, Zs, Lv q2, Zs, Lv q3, Zs, Lv q4, Zs, Lv q5, Zs, Iv p6, Iv ii, Iv dd, Us, Us, Us, Us, Us, Us, Us, Us, Us, Us, Us] [(.long (own_pick (((p6.toUInt32 >>> ((2 : Int32) &&& 31).toUInt32).toInt32) &&& (3 : Int32)) q5 q2))]))
  obtain ⟨mi1, hmi1⟩ : ∃ z : Int64, z = (own_pick (((p6.toUInt32 >>> ((2 : Int32) &&& 31).toUInt32).toInt32) &&& (3 : Int32)) q5 q2) := ⟨_, rfl⟩
  rw [← hmi1]
  show Done _ _ _ _ _ _ _ (T_4.setTop (mkF m 28 #[Lv q1, Zs, Lv q2, Zs, Lv q3, Zs, Lv q4, Zs, Lv q5, Zs, Iv p6, Iv ii, Iv dd, Us, Us, Us, Us, Us, Us, Us, Us, Us, Us, Us] [(.long mi1)]))
  have sg_5 : ∀ tt_, Steps p.tables e below (T_4.setTop (mkF m 39 #[Lv q1, Zs, Lv q2, Zs, Lv q3, Zs, Lv q4, Zs, Lv q5, Zs, Iv p6, Iv ii, Iv dd, Lv mi1, Zs, Us, Us, Us, Us, Us, Us, Us, Us, Us] [(.long q2), (.long q5), (.int (((p6.toUInt32 >>> ((4 : Int32) &&& 31).toUInt32).toInt32) &&& (3 : Int32)))])) tt_ → Steps p.tables e below (T_4.setTop (mkF m 28 #[Lv q1, Zs, Lv q2, Zs, Lv q3, Zs, Lv q4, Zs, Lv q5, Zs, Iv p6, Iv ii, Iv dd, Us, Us, Us, Us, Us, Us, Us, Us, Us, Us, Us] [(.long mi1)])) tt_ := by
    intro tt_ kt_
    refine XS.lstore X_4.here hEX rfl (hb hBY at_28) rfl (l' := #[Lv q1, Zs, Lv q2, Zs, Lv q3, Zs, Lv q4, Zs, Lv q5, Zs, Iv p6, Iv ii, Iv dd, Lv mi1, Zs, Us, Us, Us, Us, Us, Us, Us, Us, Us]) rfl ?_
    show Steps p.tables e below (T_4.setTop (mkF m 30 #[Lv q1, Zs, Lv q2, Zs, Lv q3, Zs, Lv q4, Zs, Lv q5, Zs, Iv p6, Iv ii, Iv dd, Lv mi1, Zs, Us, Us, Us, Us, Us, Us, Us, Us, Us] [])) tt_
    refine XS.iload X_4.here hEX rfl (hb hBY at_30) rfl ?_
    show Steps p.tables e below (T_4.setTop (mkF m 32 #[Lv q1, Zs, Lv q2, Zs, Lv q3, Zs, Lv q4, Zs, Lv q5, Zs, Iv p6, Iv ii, Iv dd, Lv mi1, Zs, Us, Us, Us, Us, Us, Us, Us, Us, Us] [(.int p6)])) tt_
    refine XS.iconst X_4.here hEX rfl (hb hBY at_32) ?_
    show Steps p.tables e below (T_4.setTop (mkF m 33 #[Lv q1, Zs, Lv q2, Zs, Lv q3, Zs, Lv q4, Zs, Lv q5, Zs, Iv p6, Iv ii, Iv dd, Lv mi1, Zs, Us, Us, Us, Us, Us, Us, Us, Us, Us] [(.int (4 : Int32)), (.int p6)])) tt_
    refine XS.iushr X_4.here hEX rfl (hb hBY at_33) rfl ?_
    show Steps p.tables e below (T_4.setTop (mkF m 34 #[Lv q1, Zs, Lv q2, Zs, Lv q3, Zs, Lv q4, Zs, Lv q5, Zs, Iv p6, Iv ii, Iv dd, Lv mi1, Zs, Us, Us, Us, Us, Us, Us, Us, Us, Us] [(.int ((p6.toUInt32 >>> ((4 : Int32) &&& 31).toUInt32).toInt32))])) tt_
    refine XS.iconst X_4.here hEX rfl (hb hBY at_34) ?_
    show Steps p.tables e below (T_4.setTop (mkF m 35 #[Lv q1, Zs, Lv q2, Zs, Lv q3, Zs, Lv q4, Zs, Lv q5, Zs, Iv p6, Iv ii, Iv dd, Lv mi1, Zs, Us, Us, Us, Us, Us, Us, Us, Us, Us] [(.int (3 : Int32)), (.int ((p6.toUInt32 >>> ((4 : Int32) &&& 31).toUInt32).toInt32))])) tt_
    refine XS.iand X_4.here hEX rfl (hb hBY at_35) rfl ?_
    show Steps p.tables e below (T_4.setTop (mkF m 36 #[Lv q1, Zs, Lv q2, Zs, Lv q3, Zs, Lv q4, Zs, Lv q5, Zs, Iv p6, Iv ii, Iv dd, Lv mi1, Zs, Us, Us, Us, Us, Us, Us, Us, Us, Us] [(.int (((p6.toUInt32 >>> ((4 : Int32) &&& 31).toUInt32).toInt32) &&& (3 : Int32)))])) tt_
    refine XS.lload X_4.here hEX rfl (hb hBY at_36) rfl ?_
    show Steps p.tables e below (T_4.setTop (mkF m 38 #[Lv q1, Zs, Lv q2, Zs, Lv q3, Zs, Lv q4, Zs, Lv q5, Zs, Iv p6, Iv ii, Iv dd, Lv mi1, Zs, Us, Us, Us, Us, Us, Us, Us, Us, Us] [(.long q5), (.int (((p6.toUInt32 >>> ((4 : Int32) &&& 31).toUInt32).toInt32) &&& (3 : Int32)))])) tt_
    refine XS.lloadN X_4.here hEX rfl (hb hBY at_38) rfl ?_
    exact kt_
  refine Done.pre sg_5 ?_
  obtain ⟨_, _, ⟨T_6, L_6, k_6, n_6⟩, -, X_6, ⟨Lc_6, hQ_6, l_6, y_6, z_6⟩, st_6⟩ := Jvm.LawKit.callS X_4 hEX (y := (⟨"com/example/pointcell/pointcell/LeafIsInsidePinLaw", "pick", "(IJJ)J"⟩ : MethodName)) hOW (mvT hZW (hw _ (List.mem_of_getElem? (i := 0) rfl))) (mvT hZW (hw _ (List.mem_of_getElem? (i := 1) rfl))) (mvT hZW (hw _ (List.mem_of_getElem? (i := 2) rfl))) (mvT hZW (hw _ (List.mem_of_getElem? (i := 3) rfl))) (by decide) (backOf (W := 0) (rm_pick l Z aZ hw [] (((p6.toUInt32 >>> ((4 : Int32) &&& 31).toUInt32).toInt32) &&& (3 : Int32)) q5 q2 h0 n0 (Nat.le_trans Z0 K0.1) ) hZW (hw _ (List.mem_of_getElem? (i := 3) rfl)) (hw _ (List.mem_of_getElem? (i := 2) rfl)) (by decide) (by decide)) (g := (mkF m 39 #[Lv q1, Zs, Lv q2, Zs, Lv q3, Zs, Lv q4, Zs, Lv q5, Zs, Iv p6, Iv ii, Iv dd, Lv mi1, Zs, Us, Us, Us, Us, Us, Us, Us, Us, Us] [(.long q2), (.long q5), (.int (((p6.toUInt32 >>> ((4 : Int32) &&& 31).toUInt32).toInt32) &&& (3 : Int32)))])) rfl (by rw [hMX]; rfl) (argsL := [(.int (((p6.toUInt32 >>> ((4 : Int32) &&& 31).toUInt32).toInt32) &&& (3 : Int32))), (.long q5), (.long q2)]) (rest := []) (lenOf pd__IJJ_J_1 rfl) rfl (by show 2 * 0 + _ ≤ _; exact Nat.le_of_eq rfl) (hb hBY at_39) (fun _ _ => ⟨rfl, e_4, (by decide : 0 + 0 ≤ _), (by decide : 0 + 0 ≤ _)⟩)
  dsimp only [Pt.U, Pt.locs, Pt.cells, Pt.slots] at X_6 l_6 y_6 z_6 st_6 hQ_6
  subst l_6 y_6 z_6
  obtain ⟨rfl, N_6q, e_6⟩ := hQ_6
  have N_6 := Fr.app N_4 N_6q
  refine Done.pre (fun _ k_ => st_6 _ k_) ?_
  show Done _ _ _ _ _ _ _ (T_6.setTop (mkF m 42 #[Lv q1, Zs, Lv q2, Zs, Lv q3, Zs, Lv q4, Zs, Lv q5, Zs, Iv p6, Iv ii, Iv dd, Lv mi1, Zs, Us, Us, Us, Us, Us, Us, Us, Us, Us] [(.long (own_pick (((p6.toUInt32 >>> ((4 : Int32) &&& 31).toUInt32).toInt32) &&& (3 : Int32)) q5 q2))]))
  show Done _ _ _ _ _ _ _ (T_6.setTop (mkF m 42 #[Lv q1, Zs, Lv q2, Zs, Lv q3, Zs, Lv q4, Zs, Lv q5, Zs, Iv p6, Iv ii, Iv dd, Lv mi1, Zs, Us, Us, Us, Us, Us, Us, Us, Us, Us] [(.long (own_pick (((p6.toUInt32 >>> ((4 : Int32) &&& 31).toUInt32).toInt32) &&& (3 : Int32)) q5 q2))]))
  obtain ⟨ma1, hma1⟩ : ∃ z : Int64, z = (own_pick (((p6.toUInt32 >>> ((4 : Int32) &&& 31).toUInt32).toInt32) &&& (3 : Int32)) q5 q2) := ⟨_, rfl⟩
  rw [← hma1]
  show Done _ _ _ _ _ _ _ (T_6.setTop (mkF m 42 #[Lv q1, Zs, Lv q2, Zs, Lv q3, Zs, Lv q4, Zs, Lv q5, Zs, Iv p6, Iv ii, Iv dd, Lv mi1, Zs, Us, Us, Us, Us, Us, Us, Us, Us, Us] [(.long ma1)]))
  have sg_7 : ∀ tt_, Steps p.tables e below (T_6.setTop (mkF m 44 #[Lv q1, Zs, Lv q2, Zs, Lv q3, Zs, Lv q4, Zs, Lv q5, Zs, Iv p6, Iv ii, Iv dd, Lv mi1, Zs, Lv ma1, Zs, Us, Us, Us, Us, Us, Us, Us] [])) tt_ → Steps p.tables e below (T_6.setTop (mkF m 42 #[Lv q1, Zs, Lv q2, Zs, Lv q3, Zs, Lv q4, Zs, Lv q5, Zs, Iv p6, Iv ii, Iv dd, Lv mi1, Zs, Us, Us, Us, Us, Us, Us, Us, Us, Us] [(.long ma1)])) tt_ := by
    intro tt_ kt_
    refine XS.lstore X_6.here hEX rfl (hb hBY at_42) rfl (l' := #[Lv q1, Zs, Lv q2, Zs, Lv q3, Zs, Lv q4, Zs, Lv q5, Zs, Iv p6, Iv ii, Iv dd, Lv mi1, Zs, Lv ma1, Zs, Us, Us, Us, Us, Us, Us, Us]) rfl ?_
    exact kt_
  refine Done.pre sg_7 ?_
  rcases hd12 with rfl | rfl <;> rcases hi01 with rfl | rfl
  · skip
    show Done _ _ _ _ _ _ _ (T_6.setTop (mkF m 44 #[Lv q1, Zs, Lv q2, Zs, Lv q3, Zs, Lv q4, Zs, Lv q5, Zs, Iv p6, Iv (0 : Int32), Iv (1 : Int32), Lv mi1, Zs, Lv ma1, Zs, Us, Us, Us, Us, Us, Us, Us] []))
    have sg_8 : ∀ tt_, Steps p.tables e below (T_6.setTop (mkF m 109 #[Lv q1, Zs, Lv q2, Zs, Lv q3, Zs, Lv q4, Zs, Lv q5, Zs, Iv p6, Iv (0 : Int32), Iv (1 : Int32), Lv mi1, Zs, Lv ma1, Zs, Us, Us, Us, Us, Us, Us, Us] [(.int (2 : Int32))])) tt_ → Steps p.tables e below (T_6.setTop (mkF m 44 #[Lv q1, Zs, Lv q2, Zs, Lv q3, Zs, Lv q4, Zs, Lv q5, Zs, Iv p6, Iv (0 : Int32), Iv (1 : Int32), Lv mi1, Zs, Lv ma1, Zs, Us, Us, Us, Us, Us, Us, Us] [])) tt_ := by
      intro tt_ kt_
      refine XS.iload X_6.here hEX rfl (hb hBY at_44) rfl ?_
      show Steps p.tables e below (T_6.setTop (mkF m 46 #[Lv q1, Zs, Lv q2, Zs, Lv q3, Zs, Lv q4, Zs, Lv q5, Zs, Iv p6, Iv (0 : Int32), Iv (1 : Int32), Lv mi1, Zs, Lv ma1, Zs, Us, Us, Us, Us, Us, Us, Us] [(.int (1 : Int32))])) tt_
      refine XS.iconst X_6.here hEX rfl (hb hBY at_46) ?_
      show Steps p.tables e below (T_6.setTop (mkF m 47 #[Lv q1, Zs, Lv q2, Zs, Lv q3, Zs, Lv q4, Zs, Lv q5, Zs, Iv p6, Iv (0 : Int32), Iv (1 : Int32), Lv mi1, Zs, Lv ma1, Zs, Us, Us, Us, Us, Us, Us, Us] [(.int (2 : Int32)), (.int (1 : Int32))])) tt_
      refine XS.icmpYes X_6.here hEX rfl (pc0 := 47) (pc' := 103) rfl (hb hBY at_47) rfl (feq (by decide : ¬ ((1 : Int32) = (2 : Int32)))).2 (by decide) (by decide) ?_
      show Steps p.tables e below (T_6.setTop (mkF m 103 #[Lv q1, Zs, Lv q2, Zs, Lv q3, Zs, Lv q4, Zs, Lv q5, Zs, Iv p6, Iv (0 : Int32), Iv (1 : Int32), Lv mi1, Zs, Lv ma1, Zs, Us, Us, Us, Us, Us, Us, Us] [])) tt_
      refine XS.iload X_6.here hEX rfl (hb hBY at_103) rfl ?_
      show Steps p.tables e below (T_6.setTop (mkF m 105 #[Lv q1, Zs, Lv q2, Zs, Lv q3, Zs, Lv q4, Zs, Lv q5, Zs, Iv p6, Iv (0 : Int32), Iv (1 : Int32), Lv mi1, Zs, Lv ma1, Zs, Us, Us, Us, Us, Us, Us, Us] [(.int (0 : Int32))])) tt_
      refine XS.ifNo X_6.here hEX rfl (hb hBY at_105) rfl ((if0 _ _).trans (teq (by decide : (0 : Int32) = (0 : Int32))).2) ?_
      show Steps p.tables e below (T_6.setTop (mkF m 108 #[Lv q1, Zs, Lv q2, Zs, Lv q3, Zs, Lv q4, Zs, Lv q5, Zs, Iv p6, Iv (0 : Int32), Iv (1 : Int32), Lv mi1, Zs, Lv ma1, Zs, Us, Us, Us, Us, Us, Us, Us] [])) tt_
      refine XS.iconst X_6.here hEX rfl (hb hBY at_108) ?_
      exact kt_
    refine Done.pre sg_8 ?_
    obtain ⟨T_9, h_9, k_9, X_9, e_9, E_9, A_9, st_9⟩ := newP X_6 hEX hZW (hw _ (List.mem_of_getElem? (i := 4) rfl)) e_6 (g := (mkF m 109 #[Lv q1, Zs, Lv q2, Zs, Lv q3, Zs, Lv q4, Zs, Lv q5, Zs, Iv p6, Iv (0 : Int32), Iv (1 : Int32), Lv mi1, Zs, Lv ma1, Zs, Us, Us, Us, Us, Us, Us, Us] [(.int (2 : Int32))])) rfl (hb hBY at_109) rfl (by decide) (cap := 2) (by decide) (by decide) (by decide) (by decide)
    obtain ⟨b_9, g_9⟩ : ∃ z, z = h0.size := ⟨_, rfl⟩
    rw [← g_9] at A_9 st_9
    have sz_b_9 : h0.size ≤ b_9 := Nat.le_trans K0.1 (Nat.le_of_eq g_9.symm)
    have ge_b_9 : n0 ≤ b_9 := Nat.le_trans Z0 sz_b_9
    have K__10 : Keep h0 h_9 [] := K0.ext E_9
    have f_11 : Arv Z h_9 b_9 k_9 .long (2 : Int32) [(.long (0 : Int64)), (.long (0 : Int64))] (.long (0 : Int64)) := (Arv.new A_9 (by decide)).pad (pad_rep [] (.long (0 : Int64)) 2)
    refine Done.pre st_9 ?_
    show Done _ _ _ _ _ _ _ (T_9.setTop (mkF m 111 #[Lv q1, Zs, Lv q2, Zs, Lv q3, Zs, Lv q4, Zs, Lv q5, Zs, Iv p6, Iv (0 : Int32), Iv (1 : Int32), Lv mi1, Zs, Lv ma1, Zs, Us, Us, Us, Us, Us, Us, Us] [(.ref b_9)]))
    have sg_13 : ∀ tt_, Steps p.tables e below (T_9.setTop (mkF m 114 #[Lv q1, Zs, Lv q2, Zs, Lv q3, Zs, Lv q4, Zs, Lv q5, Zs, Iv p6, Iv (0 : Int32), Iv (1 : Int32), Lv mi1, Zs, Lv ma1, Zs, Us, Us, Us, Us, Us, Us, Us] [(.long q1), (.int (0 : Int32)), (.ref b_9), (.ref b_9)])) tt_ → Steps p.tables e below (T_9.setTop (mkF m 111 #[Lv q1, Zs, Lv q2, Zs, Lv q3, Zs, Lv q4, Zs, Lv q5, Zs, Iv p6, Iv (0 : Int32), Iv (1 : Int32), Lv mi1, Zs, Lv ma1, Zs, Us, Us, Us, Us, Us, Us, Us] [(.ref b_9)])) tt_ := by
      intro tt_ kt_
      refine XS.dup X_9.here hEX rfl (hb hBY at_111) rfl rfl ?_
      show Steps p.tables e below (T_9.setTop (mkF m 112 #[Lv q1, Zs, Lv q2, Zs, Lv q3, Zs, Lv q4, Zs, Lv q5, Zs, Iv p6, Iv (0 : Int32), Iv (1 : Int32), Lv mi1, Zs, Lv ma1, Zs, Us, Us, Us, Us, Us, Us, Us] [(.ref b_9), (.ref b_9)])) tt_
      refine XS.iconst X_9.here hEX rfl (hb hBY at_112) ?_
      show Steps p.tables e below (T_9.setTop (mkF m 113 #[Lv q1, Zs, Lv q2, Zs, Lv q3, Zs, Lv q4, Zs, Lv q5, Zs, Iv p6, Iv (0 : Int32), Iv (1 : Int32), Lv mi1, Zs, Lv ma1, Zs, Us, Us, Us, Us, Us, Us, Us] [(.int (0 : Int32)), (.ref b_9), (.ref b_9)])) tt_
      refine XS.lloadN X_9.here hEX rfl (hb hBY at_113) rfl ?_
      exact kt_
    refine Done.pre sg_13 ?_
    obtain ⟨cl_12, Ar_12, q_12, S_12, N__12, H_12, G_12⟩ := id f_11
    have hin_12 : ¬ ((0 : Int32) < 0 ∨ cl_12.slots.size ≤ ((0 : Int32)).toNatClampNeg) := inb_of S_12 ⟨by decide, by decide⟩
    obtain ⟨T_14, h_14, X_14, e_14, W_14, st_14⟩ := stJ X_9 hEX hZW e_9 Ar_12 (j := (0 : Int32)) hin_12 (g := (mkF m 114 #[Lv q1, Zs, Lv q2, Zs, Lv q3, Zs, Lv q4, Zs, Lv q5, Zs, Iv p6, Iv (0 : Int32), Iv (1 : Int32), Lv mi1, Zs, Lv ma1, Zs, Us, Us, Us, Us, Us, Us, Us] [(.long q1), (.int (0 : Int32)), (.ref b_9), (.ref b_9)])) rfl rfl (hb hBY at_114)
    have N_14 := Fr.snoc X_14 N_6 ge_b_9
    have K__15 : Keep h0 h_14 [] := K__10.wr W_14 (Or.inr sz_b_9)
    have f_16 : Arv Z h_14 b_9 k_9 .long (2 : Int32) [(.long q1), (.long (0 : Int64))] (.long (0 : Int64)) := Arv.set Ar_12 q_12 S_12 N__12 H_12 G_12 rfl W_14 0 rfl (Nat.le_of_ble_eq_true rfl)
    refine Done.pre st_14 ?_
    show Done _ _ _ _ _ _ _ (T_14.setTop (mkF m 115 #[Lv q1, Zs, Lv q2, Zs, Lv q3, Zs, Lv q4, Zs, Lv q5, Zs, Iv p6, Iv (0 : Int32), Iv (1 : Int32), Lv mi1, Zs, Lv ma1, Zs, Us, Us, Us, Us, Us, Us, Us] [(.ref b_9)]))
    have sg_18 : ∀ tt_, Steps p.tables e below (T_14.setTop (mkF m 118 #[Lv q1, Zs, Lv q2, Zs, Lv q3, Zs, Lv q4, Zs, Lv q5, Zs, Iv p6, Iv (0 : Int32), Iv (1 : Int32), Lv mi1, Zs, Lv ma1, Zs, Us, Us, Us, Us, Us, Us, Us] [(.long q2), (.int (1 : Int32)), (.ref b_9), (.ref b_9)])) tt_ → Steps p.tables e below (T_14.setTop (mkF m 115 #[Lv q1, Zs, Lv q2, Zs, Lv q3, Zs, Lv q4, Zs, Lv q5, Zs, Iv p6, Iv (0 : Int32), Iv (1 : Int32), Lv mi1, Zs, Lv ma1, Zs, Us, Us, Us, Us, Us, Us, Us] [(.ref b_9)])) tt_ := by
      intro tt_ kt_
      refine XS.dup X_14.here hEX rfl (hb hBY at_115) rfl rfl ?_
      show Steps p.tables e below (T_14.setTop (mkF m 116 #[Lv q1, Zs, Lv q2, Zs, Lv q3, Zs, Lv q4, Zs, Lv q5, Zs, Iv p6, Iv (0 : Int32), Iv (1 : Int32), Lv mi1, Zs, Lv ma1, Zs, Us, Us, Us, Us, Us, Us, Us] [(.ref b_9), (.ref b_9)])) tt_
      refine XS.iconst X_14.here hEX rfl (hb hBY at_116) ?_
      show Steps p.tables e below (T_14.setTop (mkF m 117 #[Lv q1, Zs, Lv q2, Zs, Lv q3, Zs, Lv q4, Zs, Lv q5, Zs, Iv p6, Iv (0 : Int32), Iv (1 : Int32), Lv mi1, Zs, Lv ma1, Zs, Us, Us, Us, Us, Us, Us, Us] [(.int (1 : Int32)), (.ref b_9), (.ref b_9)])) tt_
      refine XS.lloadN X_14.here hEX rfl (hb hBY at_117) rfl ?_
      exact kt_
    refine Done.pre sg_18 ?_
    obtain ⟨cl_17, Ar_17, q_17, S_17, N__17, H_17, G_17⟩ := id f_16
    have hin_17 : ¬ ((1 : Int32) < 0 ∨ cl_17.slots.size ≤ ((1 : Int32)).toNatClampNeg) := inb_of S_17 ⟨by decide, by decide⟩
    obtain ⟨T_19, h_19, X_19, e_19, W_19, st_19⟩ := stJ X_14 hEX hZW e_14 Ar_17 (j := (1 : Int32)) hin_17 (g := (mkF m 118 #[Lv q1, Zs, Lv q2, Zs, Lv q3, Zs, Lv q4, Zs, Lv q5, Zs, Iv p6, Iv (0 : Int32), Iv (1 : Int32), Lv mi1, Zs, Lv ma1, Zs, Us, Us, Us, Us, Us, Us, Us] [(.long q2), (.int (1 : Int32)), (.ref b_9), (.ref b_9)])) rfl rfl (hb hBY at_118)
    have N_19 := Fr.snoc X_19 N_14 ge_b_9
    have K__20 : Keep h0 h_19 [] := K__15.wr W_19 (Or.inr sz_b_9)
    have f_21 : Arv Z h_19 b_9 k_9 .long (2 : Int32) [(.long q1), (.long q2)] (.long (0 : Int64)) := Arv.set Ar_17 q_17 S_17 N__17 H_17 G_17 rfl W_19 1 rfl (Nat.le_of_ble_eq_true rfl)
    refine Done.pre st_19 ?_
    show Done _ _ _ _ _ _ _ (T_19.setTop (mkF m 119 #[Lv q1, Zs, Lv q2, Zs, Lv q3, Zs, Lv q4, Zs, Lv q5, Zs, Iv p6, Iv (0 : Int32), Iv (1 : Int32), Lv mi1, Zs, Lv ma1, Zs, Us, Us, Us, Us, Us, Us, Us] [(.ref b_9)]))
    have sg_22 : ∀ tt_, Steps p.tables e below (T_19.setTop (mkF m 137 #[Lv q1, Zs, Lv q2, Zs, Lv q3, Zs, Lv q4, Zs, Lv q5, Zs, Iv p6, Iv (0 : Int32), Iv (1 : Int32), Lv mi1, Zs, Lv ma1, Zs, Rv b_9, Us, Us, Us, Us, Us, Us] [])) tt_ → Steps p.tables e below (T_19.setTop (mkF m 119 #[Lv q1, Zs, Lv q2, Zs, Lv q3, Zs, Lv q4, Zs, Lv q5, Zs, Iv p6, Iv (0 : Int32), Iv (1 : Int32), Lv mi1, Zs, Lv ma1, Zs, Us, Us, Us, Us, Us, Us, Us] [(.ref b_9)])) tt_ := by
      intro tt_ kt_
      refine XS.astore X_19.here hEX rfl (hb hBY at_119) rfl rfl (l' := #[Lv q1, Zs, Lv q2, Zs, Lv q3, Zs, Lv q4, Zs, Lv q5, Zs, Iv p6, Iv (0 : Int32), Iv (1 : Int32), Lv mi1, Zs, Lv ma1, Zs, Rv b_9, Us, Us, Us, Us, Us, Us]) rfl ?_
      show Steps p.tables e below (T_19.setTop (mkF m 121 #[Lv q1, Zs, Lv q2, Zs, Lv q3, Zs, Lv q4, Zs, Lv q5, Zs, Iv p6, Iv (0 : Int32), Iv (1 : Int32), Lv mi1, Zs, Lv ma1, Zs, Rv b_9, Us, Us, Us, Us, Us, Us] [])) tt_
      refine XS.goto X_19.here hEX rfl (pc0 := 121) (pc' := 137) rfl (hb hBY at_121) (by decide) (by decide) ?_
      exact kt_
    refine Done.pre sg_22 ?_
    obtain ⟨T_23, h_23, X_23, e_23, E_23, A_23, D_23, -, st_23⟩ := newO X_19 hEX hZW hOW (hw _ (List.mem_of_getElem? (i := 5) rfl)) (hw _ (List.mem_of_getElem? (i := 6) rfl)) (hw _ (List.mem_of_getElem? (i := 7) rfl)) e_19 (g := (mkF m 137 #[Lv q1, Zs, Lv q2, Zs, Lv q3, Zs, Lv q4, Zs, Lv q5, Zs, Iv p6, Iv (0 : Int32), Iv (1 : Int32), Lv mi1, Zs, Lv ma1, Zs, Rv b_9, Us, Us, Us, Us, Us, Us] [])) rfl (hb hBY at_137) (by decide) (by decide)
    obtain ⟨b_23, g_23⟩ : ∃ z, z = h_19.size := ⟨_, rfl⟩
    rw [← g_23] at A_23 D_23 st_23
    have sz_b_23 : h0.size ≤ b_23 := Nat.le_trans K__20.1 (Nat.le_of_eq g_23.symm)
    have ge_b_23 : n0 ≤ b_23 := Nat.le_trans Z0 sz_b_23
    have ne_b_9_b_23 : b_9 ≠ b_23 := Nat.ne_of_lt (Nat.lt_of_lt_of_le f_21.lt (Nat.le_of_eq g_23.symm))
    have K__24 : Keep h0 h_23 [] := K__20.ext E_23
    have f_25 : Arv Z h_23 b_9 k_9 .long (2 : Int32) [(.long q1), (.long q2)] (.long (0 : Int64)) := f_21.ext E_23
    have f_26 : Exa Z h_23 b_23 "com/example/pointcell/pointcell/Leaf" := A_23
    have f_27 : Fld Z h_23 b_23 "com/example/pointcell/pointcell/Leaf" "dimensions" "I" (.int (0 : Int32)) := D_23 (Or.inr (hw _ (List.mem_of_getElem? (i := 16) rfl))) (ty := .int) (by decide)
    have f_28 : Fld Z h_23 b_23 "com/example/pointcell/pointcell/Leaf" "docIds" "[I" .null := D_23 (Or.inr (hw _ (List.mem_of_getElem? (i := 18) rfl))) (ty := (.array .int)) (by decide)
    have f_29 : Fld Z h_23 b_23 "com/example/pointcell/pointcell/Leaf" "keys" "[J" .null := D_23 (Or.inr (hw _ (List.mem_of_getElem? (i := 20) rfl))) (ty := (.array .long)) (by decide)
    refine Done.pre st_23 ?_
    show Done _ _ _ _ _ _ _ (T_23.setTop (mkF m 140 #[Lv q1, Zs, Lv q2, Zs, Lv q3, Zs, Lv q4, Zs, Lv q5, Zs, Iv p6, Iv (0 : Int32), Iv (1 : Int32), Lv mi1, Zs, Lv ma1, Zs, Rv b_9, Us, Us, Us, Us, Us, Us] [(.ref b_23)]))
    have sg_30 : ∀ tt_, Steps p.tables e below (T_23.setTop (mkF m 144 #[Lv q1, Zs, Lv q2, Zs, Lv q3, Zs, Lv q4, Zs, Lv q5, Zs, Iv p6, Iv (0 : Int32), Iv (1 : Int32), Lv mi1, Zs, Lv ma1, Zs, Rv b_9, Us, Us, Us, Us, Us, Us] [(.int (2 : Int32)), (.int (1 : Int32)), (.ref b_23), (.ref b_23)])) tt_ → Steps p.tables e below (T_23.setTop (mkF m 140 #[Lv q1, Zs, Lv q2, Zs, Lv q3, Zs, Lv q4, Zs, Lv q5, Zs, Iv p6, Iv (0 : Int32), Iv (1 : Int32), Lv mi1, Zs, Lv ma1, Zs, Rv b_9, Us, Us, Us, Us, Us, Us] [(.ref b_23)])) tt_ := by
      intro tt_ kt_
      refine XS.dup X_23.here hEX rfl (hb hBY at_140) rfl rfl ?_
      show Steps p.tables e below (T_23.setTop (mkF m 141 #[Lv q1, Zs, Lv q2, Zs, Lv q3, Zs, Lv q4, Zs, Lv q5, Zs, Iv p6, Iv (0 : Int32), Iv (1 : Int32), Lv mi1, Zs, Lv ma1, Zs, Rv b_9, Us, Us, Us, Us, Us, Us] [(.ref b_23), (.ref b_23)])) tt_
      refine XS.iload X_23.here hEX rfl (hb hBY at_141) rfl ?_
      show Steps p.tables e below (T_23.setTop (mkF m 143 #[Lv q1, Zs, Lv q2, Zs, Lv q3, Zs, Lv q4, Zs, Lv q5, Zs, Iv p6, Iv (0 : Int32), Iv (1 : Int32), Lv mi1, Zs, Lv ma1, Zs, Rv b_9, Us, Us, Us, Us, Us, Us] [(.int (1 : Int32)), (.ref b_23), (.ref b_23)])) tt_
      refine XS.iconst X_23.here hEX rfl (hb hBY at_143) ?_
      exact kt_
    refine Done.pre sg_30 ?_
    obtain ⟨T_31, h_31, k_31, X_31, e_31, E_31, A_31, st_31⟩ := newP X_23 hEX hZW (hw _ (List.mem_of_getElem? (i := 8) rfl)) e_23 (g := (mkF m 144 #[Lv q1, Zs, Lv q2, Zs, Lv q3, Zs, Lv q4, Zs, Lv q5, Zs, Iv p6, Iv (0 : Int32), Iv (1 : Int32), Lv mi1, Zs, Lv ma1, Zs, Rv b_9, Us, Us, Us, Us, Us, Us] [(.int (2 : Int32)), (.int (1 : Int32)), (.ref b_23), (.ref b_23)])) rfl (hb hBY at_144) rfl (by decide) (cap := 2) (by decide) (by decide) (by decide) (by decide)
    obtain ⟨b_31, g_31⟩ : ∃ z, z = h_23.size := ⟨_, rfl⟩
    rw [← g_31] at A_31 st_31
    have sz_b_31 : h0.size ≤ b_31 := Nat.le_trans K__24.1 (Nat.le_of_eq g_31.symm)
    have ge_b_31 : n0 ≤ b_31 := Nat.le_trans Z0 sz_b_31
    have ne_b_9_b_31 : b_9 ≠ b_31 := Nat.ne_of_lt (Nat.lt_of_lt_of_le f_25.lt (Nat.le_of_eq g_31.symm))
    have ne_b_23_b_31 : b_23 ≠ b_31 := Nat.ne_of_lt (Nat.lt_of_lt_of_le f_26.lt (Nat.le_of_eq g_31.symm))
    have K__32 : Keep h0 h_31 [] := K__24.ext E_31
    have f_33 : Arv Z h_31 b_9 k_9 .long (2 : Int32) [(.long q1), (.long q2)] (.long (0 : Int64)) := f_25.ext E_31
    have f_34 : Exa Z h_31 b_23 "com/example/pointcell/pointcell/Leaf" := f_26.ext E_31
    have f_35 : Fld Z h_31 b_23 "com/example/pointcell/pointcell/Leaf" "dimensions" "I" (.int (0 : Int32)) := f_27.ext E_31
    have f_36 : Fld Z h_31 b_23 "com/example/pointcell/pointcell/Leaf" "docIds" "[I" .null := f_28.ext E_31
    have f_37 : Fld Z h_31 b_23 "com/example/pointcell/pointcell/Leaf" "keys" "[J" .null := f_29.ext E_31
    have f_38 : Arv Z h_31 b_31 k_31 .int (2 : Int32) [(.int (0 : Int32)), (.int (0 : Int32))] (.int (0 : Int32)) := (Arv.new A_31 (by decide)).pad (pad_rep [] (.int (0 : Int32)) 2)
    refine Done.pre st_31 ?_
    show Done _ _ _ _ _ _ _ (T_31.setTop (mkF m 146 #[Lv q1, Zs, Lv q2, Zs, Lv q3, Zs, Lv q4, Zs, Lv q5, Zs, Iv p6, Iv (0 : Int32), Iv (1 : Int32), Lv mi1, Zs, Lv ma1, Zs, Rv b_9, Us, Us, Us, Us, Us, Us] [(.ref b_31), (.int (1 : Int32)), (.ref b_23), (.ref b_23)]))
    have sg_40 : ∀ tt_, Steps p.tables e below (T_31.setTop (mkF m 149 #[Lv q1, Zs, Lv q2, Zs, Lv q3, Zs, Lv q4, Zs, Lv q5, Zs, Iv p6, Iv (0 : Int32), Iv (1 : Int32), Lv mi1, Zs, Lv ma1, Zs, Rv b_9, Us, Us, Us, Us, Us, Us] [(.int (0 : Int32)), (.int (0 : Int32)), (.ref b_31), (.ref b_31), (.int (1 : Int32)), (.ref b_23), (.ref b_23)])) tt_ → Steps p.tables e below (T_31.setTop (mkF m 146 #[Lv q1, Zs, Lv q2, Zs, Lv q3, Zs, Lv q4, Zs, Lv q5, Zs, Iv p6, Iv (0 : Int32), Iv (1 : Int32), Lv mi1, Zs, Lv ma1, Zs, Rv b_9, Us, Us, Us, Us, Us, Us] [(.ref b_31), (.int (1 : Int32)), (.ref b_23), (.ref b_23)])) tt_ := by
      intro tt_ kt_
      refine XS.dup X_31.here hEX rfl (hb hBY at_146) rfl rfl ?_
      show Steps p.tables e below (T_31.setTop (mkF m 147 #[Lv q1, Zs, Lv q2, Zs, Lv q3, Zs, Lv q4, Zs, Lv q5, Zs, Iv p6, Iv (0 : Int32), Iv (1 : Int32), Lv mi1, Zs, Lv ma1, Zs, Rv b_9, Us, Us, Us, Us, Us, Us] [(.ref b_31), (.ref b_31), (.int (1 : Int32)), (.ref b_23), (.ref b_23)])) tt_
      refine XS.iconst X_31.here hEX rfl (hb hBY at_147) ?_
      show Steps p.tables e below (T_31.setTop (mkF m 148 #[Lv q1, Zs, Lv q2, Zs, Lv q3, Zs, Lv q4, Zs, Lv q5, Zs, Iv p6, Iv (0 : Int32), Iv (1 : Int32), Lv mi1, Zs, Lv ma1, Zs, Rv b_9, Us, Us, Us, Us, Us, Us] [(.int (0 : Int32)), (.ref b_31), (.ref b_31), (.int (1 : Int32)), (.ref b_23), (.ref b_23)])) tt_
      refine XS.iconst X_31.here hEX rfl (hb hBY at_148) ?_
      exact kt_
    refine Done.pre sg_40 ?_
    obtain ⟨cl_39, Ar_39, q_39, S_39, N__39, H_39, G_39⟩ := id f_38
    have hin_39 : ¬ ((0 : Int32) < 0 ∨ cl_39.slots.size ≤ ((0 : Int32)).toNatClampNeg) := inb_of S_39 ⟨by decide, by decide⟩
    obtain ⟨T_41, h_41, X_41, e_41, W_41, st_41⟩ := stI X_31 hEX hZW e_31 Ar_39 (j := (0 : Int32)) hin_39 (g := (mkF m 149 #[Lv q1, Zs, Lv q2, Zs, Lv q3, Zs, Lv q4, Zs, Lv q5, Zs, Iv p6, Iv (0 : Int32), Iv (1 : Int32), Lv mi1, Zs, Lv ma1, Zs, Rv b_9, Us, Us, Us, Us, Us, Us] [(.int (0 : Int32)), (.int (0 : Int32)), (.ref b_31), (.ref b_31), (.int (1 : Int32)), (.ref b_23), (.ref b_23)])) rfl rfl (hb hBY at_149)
    have N_41 := Fr.snoc X_41 N_19 ge_b_31
    have K__42 : Keep h0 h_41 [] := K__32.wr W_41 (Or.inr sz_b_31)
    have f_43 : Arv Z h_41 b_9 k_9 .long (2 : Int32) [(.long q1), (.long q2)] (.long (0 : Int64)) := f_33.other W_41 ne_b_9_b_31
    have f_44 : Exa Z h_41 b_23 "com/example/pointcell/pointcell/Leaf" := f_34.wr W_41
    have f_45 : Fld Z h_41 b_23 "com/example/pointcell/pointcell/Leaf" "dimensions" "I" (.int (0 : Int32)) := f_35.other W_41 (Or.inl ne_b_23_b_31)
    have f_46 : Fld Z h_41 b_23 "com/example/pointcell/pointcell/Leaf" "docIds" "[I" .null := f_36.other W_41 (Or.inl ne_b_23_b_31)
    have f_47 : Fld Z h_41 b_23 "com/example/pointcell/pointcell/Leaf" "keys" "[J" .null := f_37.other W_41 (Or.inl ne_b_23_b_31)
    have f_48 : Arv Z h_41 b_31 k_31 .int (2 : Int32) [(.int (0 : Int32)), (.int (0 : Int32))] (.int (0 : Int32)) := Arv.set Ar_39 q_39 S_39 N__39 H_39 G_39 rfl W_41 0 rfl (Nat.le_of_ble_eq_true rfl)
    refine Done.pre st_41 ?_
    show Done _ _ _ _ _ _ _ (T_41.setTop (mkF m 150 #[Lv q1, Zs, Lv q2, Zs, Lv q3, Zs, Lv q4, Zs, Lv q5, Zs, Iv p6, Iv (0 : Int32), Iv (1 : Int32), Lv mi1, Zs, Lv ma1, Zs, Rv b_9, Us, Us, Us, Us, Us, Us] [(.ref b_31), (.int (1 : Int32)), (.ref b_23), (.ref b_23)]))
    have sg_50 : ∀ tt_, Steps p.tables e below (T_41.setTop (mkF m 153 #[Lv q1, Zs, Lv q2, Zs, Lv q3, Zs, Lv q4, Zs, Lv q5, Zs, Iv p6, Iv (0 : Int32), Iv (1 : Int32), Lv mi1, Zs, Lv ma1, Zs, Rv b_9, Us, Us, Us, Us, Us, Us] [(.int (1 : Int32)), (.int (1 : Int32)), (.ref b_31), (.ref b_31), (.int (1 : Int32)), (.ref b_23), (.ref b_23)])) tt_ → Steps p.tables e below (T_41.setTop (mkF m 150 #[Lv q1, Zs, Lv q2, Zs, Lv q3, Zs, Lv q4, Zs, Lv q5, Zs, Iv p6, Iv (0 : Int32), Iv (1 : Int32), Lv mi1, Zs, Lv ma1, Zs, Rv b_9, Us, Us, Us, Us, Us, Us] [(.ref b_31), (.int (1 : Int32)), (.ref b_23), (.ref b_23)])) tt_ := by
      intro tt_ kt_
      refine XS.dup X_41.here hEX rfl (hb hBY at_150) rfl rfl ?_
      show Steps p.tables e below (T_41.setTop (mkF m 151 #[Lv q1, Zs, Lv q2, Zs, Lv q3, Zs, Lv q4, Zs, Lv q5, Zs, Iv p6, Iv (0 : Int32), Iv (1 : Int32), Lv mi1, Zs, Lv ma1, Zs, Rv b_9, Us, Us, Us, Us, Us, Us] [(.ref b_31), (.ref b_31), (.int (1 : Int32)), (.ref b_23), (.ref b_23)])) tt_
      refine XS.iconst X_41.here hEX rfl (hb hBY at_151) ?_
      show Steps p.tables e below (T_41.setTop (mkF m 152 #[Lv q1, Zs, Lv q2, Zs, Lv q3, Zs, Lv q4, Zs, Lv q5, Zs, Iv p6, Iv (0 : Int32), Iv (1 : Int32), Lv mi1, Zs, Lv ma1, Zs, Rv b_9, Us, Us, Us, Us, Us, Us] [(.int (1 : Int32)), (.ref b_31), (.ref b_31), (.int (1 : Int32)), (.ref b_23), (.ref b_23)])) tt_
      refine XS.iconst X_41.here hEX rfl (hb hBY at_152) ?_
      exact kt_
    refine Done.pre sg_50 ?_
    obtain ⟨cl_49, Ar_49, q_49, S_49, N__49, H_49, G_49⟩ := id f_48
    have hin_49 : ¬ ((1 : Int32) < 0 ∨ cl_49.slots.size ≤ ((1 : Int32)).toNatClampNeg) := inb_of S_49 ⟨by decide, by decide⟩
    obtain ⟨T_51, h_51, X_51, e_51, W_51, st_51⟩ := stI X_41 hEX hZW e_41 Ar_49 (j := (1 : Int32)) hin_49 (g := (mkF m 153 #[Lv q1, Zs, Lv q2, Zs, Lv q3, Zs, Lv q4, Zs, Lv q5, Zs, Iv p6, Iv (0 : Int32), Iv (1 : Int32), Lv mi1, Zs, Lv ma1, Zs, Rv b_9, Us, Us, Us, Us, Us, Us] [(.int (1 : Int32)), (.int (1 : Int32)), (.ref b_31), (.ref b_31), (.int (1 : Int32)), (.ref b_23), (.ref b_23)])) rfl rfl (hb hBY at_153)
    have N_51 := Fr.snoc X_51 N_41 ge_b_31
    have K__52 : Keep h0 h_51 [] := K__42.wr W_51 (Or.inr sz_b_31)
    have f_53 : Arv Z h_51 b_9 k_9 .long (2 : Int32) [(.long q1), (.long q2)] (.long (0 : Int64)) := f_43.other W_51 ne_b_9_b_31
    have f_54 : Exa Z h_51 b_23 "com/example/pointcell/pointcell/Leaf" := f_44.wr W_51
    have f_55 : Fld Z h_51 b_23 "com/example/pointcell/pointcell/Leaf" "dimensions" "I" (.int (0 : Int32)) := f_45.other W_51 (Or.inl ne_b_23_b_31)
    have f_56 : Fld Z h_51 b_23 "com/example/pointcell/pointcell/Leaf" "docIds" "[I" .null := f_46.other W_51 (Or.inl ne_b_23_b_31)
    have f_57 : Fld Z h_51 b_23 "com/example/pointcell/pointcell/Leaf" "keys" "[J" .null := f_47.other W_51 (Or.inl ne_b_23_b_31)
    have f_58 : Arv Z h_51 b_31 k_31 .int (2 : Int32) [(.int (0 : Int32)), (.int (1 : Int32))] (.int (0 : Int32)) := Arv.set Ar_49 q_49 S_49 N__49 H_49 G_49 rfl W_51 1 rfl (Nat.le_of_ble_eq_true rfl)
    refine Done.pre st_51 ?_
    show Done _ _ _ _ _ _ _ (T_51.setTop (mkF m 154 #[Lv q1, Zs, Lv q2, Zs, Lv q3, Zs, Lv q4, Zs, Lv q5, Zs, Iv p6, Iv (0 : Int32), Iv (1 : Int32), Lv mi1, Zs, Lv ma1, Zs, Rv b_9, Us, Us, Us, Us, Us, Us] [(.ref b_31), (.int (1 : Int32)), (.ref b_23), (.ref b_23)]))
    have sg_59 : ∀ tt_, Steps p.tables e below (T_51.setTop (mkF m 156 #[Lv q1, Zs, Lv q2, Zs, Lv q3, Zs, Lv q4, Zs, Lv q5, Zs, Iv p6, Iv (0 : Int32), Iv (1 : Int32), Lv mi1, Zs, Lv ma1, Zs, Rv b_9, Us, Us, Us, Us, Us, Us] [(.ref b_9), (.ref b_31), (.int (1 : Int32)), (.ref b_23), (.ref b_23)])) tt_ → Steps p.tables e below (T_51.setTop (mkF m 154 #[Lv q1, Zs, Lv q2, Zs, Lv q3, Zs, Lv q4, Zs, Lv q5, Zs, Iv p6, Iv (0 : Int32), Iv (1 : Int32), Lv mi1, Zs, Lv ma1, Zs, Rv b_9, Us, Us, Us, Us, Us, Us] [(.ref b_31), (.int (1 : Int32)), (.ref b_23), (.ref b_23)])) tt_ := by
      intro tt_ kt_
      refine XS.aload X_51.here hEX rfl (hb hBY at_154) rfl rfl ?_
      exact kt_
    refine Done.pre sg_59 ?_
    obtain ⟨_, _, ⟨T_60, L_60, k_60, n_60⟩, -, X_60, ⟨Lc_60, hQ_60, l_60, y_60, z_60⟩, st_60⟩ := X_51.specialBack hEX (y := (⟨"com/example/pointcell/pointcell/Leaf", "<init>", "(I[I[J)V"⟩ : MethodName)) rfl hOW (mvT hZW (hw _ (List.mem_of_getElem? (i := 9) rfl))) (mvT hZW (hw _ (List.mem_of_getElem? (i := 10) rfl))) (mvT hZW (hw _ (List.mem_of_getElem? (i := 11) rfl))) (by decide) (backOf (W := 1) (rm_init l Z aZ hw [] b_23 (1 : Int32) b_31 b_9 (.int (0 : Int32)) .null .null h_51 n0 (Nat.le_trans Z0 K__52.1) f_54 f_55 f_56 f_57 ge_b_23) hZW (hw _ (List.mem_of_getElem? (i := 11) rfl)) (hw _ (List.mem_of_getElem? (i := 7) rfl)) (by decide) (by decide)) (g := (mkF m 156 #[Lv q1, Zs, Lv q2, Zs, Lv q3, Zs, Lv q4, Zs, Lv q5, Zs, Iv p6, Iv (0 : Int32), Iv (1 : Int32), Lv mi1, Zs, Lv ma1, Zs, Rv b_9, Us, Us, Us, Us, Us, Us] [(.ref b_9), (.ref b_31), (.int (1 : Int32)), (.ref b_23), (.ref b_23)])) rfl (by rw [hMX]; rfl) (Steps.refl _) (a := b_23) (argsL := [(.int (1 : Int32)), (.ref b_31), (.ref b_9)]) (rest := [(.ref b_23)]) (lenOf pd__I_I_J_V_2 rfl) rfl (by show 2 * 0 + _ ≤ _; exact Nat.le_of_eq rfl) (hb hBY at_156) (fun _ _ => ⟨rfl, e_51, (by decide : 3 + 0 ≤ _), (by decide : 7 + 0 ≤ _)⟩)
    dsimp only [Pt.U, Pt.locs, Pt.cells, Pt.slots] at X_60 l_60 y_60 z_60 st_60 hQ_60
    subst l_60 y_60 z_60
    obtain ⟨rfl, N_60q, K_60, hq_60_0, hq_60_1, hq_60_2, hq_60_3⟩ := hQ_60
    have N_60 := Fr.app N_51 N_60q
    have K__61 : Keep h0 T_60.heap [] := K__52.trans K_60 (allS (Or.inr sz_b_23) all0)
    have f_62 : Arv Z T_60.heap b_9 k_9 .long (2 : Int32) [(.long q1), (.long q2)] (.long (0 : Int64)) := f_53.keep K_60 (ninS ne_b_9_b_23 nin0)
    have f_63 : Exa Z T_60.heap b_23 "com/example/pointcell/pointcell/Leaf" := f_54.keep K_60
    have f_64 : Arv Z T_60.heap b_31 k_31 .int (2 : Int32) [(.int (0 : Int32)), (.int (1 : Int32))] (.int (0 : Int32)) := f_58.keep K_60 (ninS (Ne.symm ne_b_23_b_31) nin0)
    refine Done.pre (fun _ k_ => st_60.trans k_) ?_
    show Done _ _ _ _ _ _ _ (T_60.setTop (mkF m 159 #[Lv q1, Zs, Lv q2, Zs, Lv q3, Zs, Lv q4, Zs, Lv q5, Zs, Iv p6, Iv (0 : Int32), Iv (1 : Int32), Lv mi1, Zs, Lv ma1, Zs, Rv b_9, Us, Us, Us, Us, Us, Us] [(.ref b_23)]))
    have sg_65 : ∀ tt_, Steps p.tables e below (T_60.setTop (mkF m 162 #[Lv q1, Zs, Lv q2, Zs, Lv q3, Zs, Lv q4, Zs, Lv q5, Zs, Iv p6, Iv (0 : Int32), Iv (1 : Int32), Lv mi1, Zs, Lv ma1, Zs, Rv b_9, Rv b_23, Us, Us, Us, Us, Us] [(.int (2 : Int32))])) tt_ → Steps p.tables e below (T_60.setTop (mkF m 159 #[Lv q1, Zs, Lv q2, Zs, Lv q3, Zs, Lv q4, Zs, Lv q5, Zs, Iv p6, Iv (0 : Int32), Iv (1 : Int32), Lv mi1, Zs, Lv ma1, Zs, Rv b_9, Us, Us, Us, Us, Us, Us] [(.ref b_23)])) tt_ := by
      intro tt_ kt_
      refine XS.astore X_60.here hEX rfl (hb hBY at_159) rfl rfl (l' := #[Lv q1, Zs, Lv q2, Zs, Lv q3, Zs, Lv q4, Zs, Lv q5, Zs, Iv p6, Iv (0 : Int32), Iv (1 : Int32), Lv mi1, Zs, Lv ma1, Zs, Rv b_9, Rv b_23, Us, Us, Us, Us, Us]) rfl ?_
      show Steps p.tables e below (T_60.setTop (mkF m 161 #[Lv q1, Zs, Lv q2, Zs, Lv q3, Zs, Lv q4, Zs, Lv q5, Zs, Iv p6, Iv (0 : Int32), Iv (1 : Int32), Lv mi1, Zs, Lv ma1, Zs, Rv b_9, Rv b_23, Us, Us, Us, Us, Us] [])) tt_
      refine XS.iconst X_60.here hEX rfl (hb hBY at_161) ?_
      exact kt_
    refine Done.pre sg_65 ?_
    obtain ⟨T_66, h_66, k_66, X_66, e_66, E_66, A_66, st_66⟩ := newP X_60 hEX hZW (hw _ (List.mem_of_getElem? (i := 4) rfl)) rfl (g := (mkF m 162 #[Lv q1, Zs, Lv q2, Zs, Lv q3, Zs, Lv q4, Zs, Lv q5, Zs, Iv p6, Iv (0 : Int32), Iv (1 : Int32), Lv mi1, Zs, Lv ma1, Zs, Rv b_9, Rv b_23, Us, Us, Us, Us, Us] [(.int (2 : Int32))])) rfl (hb hBY at_162) rfl (by decide) (cap := 2) (by decide) (by decide) (by decide) (by decide)
    obtain ⟨b_66, g_66⟩ : ∃ z, z = T_60.heap.size := ⟨_, rfl⟩
    rw [← g_66] at A_66 st_66
    have sz_b_66 : h0.size ≤ b_66 := Nat.le_trans K__61.1 (Nat.le_of_eq g_66.symm)
    have ge_b_66 : n0 ≤ b_66 := Nat.le_trans Z0 sz_b_66
    have ne_b_9_b_66 : b_9 ≠ b_66 := Nat.ne_of_lt (Nat.lt_of_lt_of_le f_62.lt (Nat.le_of_eq g_66.symm))
    have ne_b_23_b_66 : b_23 ≠ b_66 := Nat.ne_of_lt (Nat.lt_of_lt_of_le hq_60_0.lt (Nat.le_of_eq g_66.symm))
    have ne_b_31_b_66 : b_31 ≠ b_66 := Nat.ne_of_lt (Nat.lt_of_lt_of_le f_64.lt (Nat.le_of_eq g_66.symm))
    have K__67 : Keep h0 h_66 [] := K__61.ext E_66
    have f_68 : Arv Z h_66 b_9 k_9 .long (2 : Int32) [(.long q1), (.long q2)] (.long (0 : Int64)) := f_62.ext E_66
    have f_69 : Exa Z h_66 b_23 "com/example/pointcell/pointcell/Leaf" := hq_60_0.ext E_66
    have f_70 : Arv Z h_66 b_31 k_31 .int (2 : Int32) [(.int (0 : Int32)), (.int (1 : Int32))] (.int (0 : Int32)) := f_64.ext E_66
    have f_71 : Fld Z h_66 b_23 "com/example/pointcell/pointcell/Leaf" "dimensions" "I" (.int (1 : Int32)) := hq_60_1.ext E_66
    have f_72 : Fld Z h_66 b_23 "com/example/pointcell/pointcell/Leaf" "docIds" "[I" (.ref b_31) := hq_60_2.ext E_66
    have f_73 : Fld Z h_66 b_23 "com/example/pointcell/pointcell/Leaf" "keys" "[J" (.ref b_9) := hq_60_3.ext E_66
    have f_74 : Arv Z h_66 b_66 k_66 .long (2 : Int32) [(.long (0 : Int64)), (.long (0 : Int64))] (.long (0 : Int64)) := (Arv.new A_66 (by decide)).pad (pad_rep [] (.long (0 : Int64)) 2)
    refine Done.pre st_66 ?_
    show Done _ _ _ _ _ _ _ (T_66.setTop (mkF m 164 #[Lv q1, Zs, Lv q2, Zs, Lv q3, Zs, Lv q4, Zs, Lv q5, Zs, Iv p6, Iv (0 : Int32), Iv (1 : Int32), Lv mi1, Zs, Lv ma1, Zs, Rv b_9, Rv b_23, Us, Us, Us, Us, Us] [(.ref b_66)]))
    have sg_76 : ∀ tt_, Steps p.tables e below (T_66.setTop (mkF m 168 #[Lv q1, Zs, Lv q2, Zs, Lv q3, Zs, Lv q4, Zs, Lv q5, Zs, Iv p6, Iv (0 : Int32), Iv (1 : Int32), Lv mi1, Zs, Lv ma1, Zs, Rv b_9, Rv b_23, Us, Us, Us, Us, Us] [(.long q3), (.int (0 : Int32)), (.ref b_66), (.ref b_66)])) tt_ → Steps p.tables e below (T_66.setTop (mkF m 164 #[Lv q1, Zs, Lv q2, Zs, Lv q3, Zs, Lv q4, Zs, Lv q5, Zs, Iv p6, Iv (0 : Int32), Iv (1 : Int32), Lv mi1, Zs, Lv ma1, Zs, Rv b_9, Rv b_23, Us, Us, Us, Us, Us] [(.ref b_66)])) tt_ := by
      intro tt_ kt_
      refine XS.dup X_66.here hEX rfl (hb hBY at_164) rfl rfl ?_
      show Steps p.tables e below (T_66.setTop (mkF m 165 #[Lv q1, Zs, Lv q2, Zs, Lv q3, Zs, Lv q4, Zs, Lv q5, Zs, Iv p6, Iv (0 : Int32), Iv (1 : Int32), Lv mi1, Zs, Lv ma1, Zs, Rv b_9, Rv b_23, Us, Us, Us, Us, Us] [(.ref b_66), (.ref b_66)])) tt_
      refine XS.iconst X_66.here hEX rfl (hb hBY at_165) ?_
      show Steps p.tables e below (T_66.setTop (mkF m 166 #[Lv q1, Zs, Lv q2, Zs, Lv q3, Zs, Lv q4, Zs, Lv q5, Zs, Iv p6, Iv (0 : Int32), Iv (1 : Int32), Lv mi1, Zs, Lv ma1, Zs, Rv b_9, Rv b_23, Us, Us, Us, Us, Us] [(.int (0 : Int32)), (.ref b_66), (.ref b_66)])) tt_
      refine XS.lload X_66.here hEX rfl (hb hBY at_166) rfl ?_
      exact kt_
    refine Done.pre sg_76 ?_
    obtain ⟨cl_75, Ar_75, q_75, S_75, N__75, H_75, G_75⟩ := id f_74
    have hin_75 : ¬ ((0 : Int32) < 0 ∨ cl_75.slots.size ≤ ((0 : Int32)).toNatClampNeg) := inb_of S_75 ⟨by decide, by decide⟩
    obtain ⟨T_77, h_77, X_77, e_77, W_77, st_77⟩ := stJ X_66 hEX hZW e_66 Ar_75 (j := (0 : Int32)) hin_75 (g := (mkF m 168 #[Lv q1, Zs, Lv q2, Zs, Lv q3, Zs, Lv q4, Zs, Lv q5, Zs, Iv p6, Iv (0 : Int32), Iv (1 : Int32), Lv mi1, Zs, Lv ma1, Zs, Rv b_9, Rv b_23, Us, Us, Us, Us, Us] [(.long q3), (.int (0 : Int32)), (.ref b_66), (.ref b_66)])) rfl rfl (hb hBY at_168)
    have N_77 := Fr.snoc X_77 N_60 ge_b_66
    have K__78 : Keep h0 h_77 [] := K__67.wr W_77 (Or.inr sz_b_66)
    have f_79 : Arv Z h_77 b_9 k_9 .long (2 : Int32) [(.long q1), (.long q2)] (.long (0 : Int64)) := f_68.other W_77 ne_b_9_b_66
    have f_80 : Exa Z h_77 b_23 "com/example/pointcell/pointcell/Leaf" := f_69.wr W_77
    have f_81 : Arv Z h_77 b_31 k_31 .int (2 : Int32) [(.int (0 : Int32)), (.int (1 : Int32))] (.int (0 : Int32)) := f_70.other W_77 ne_b_31_b_66
    have f_82 : Fld Z h_77 b_23 "com/example/pointcell/pointcell/Leaf" "dimensions" "I" (.int (1 : Int32)) := f_71.other W_77 (Or.inl ne_b_23_b_66)
    have f_83 : Fld Z h_77 b_23 "com/example/pointcell/pointcell/Leaf" "docIds" "[I" (.ref b_31) := f_72.other W_77 (Or.inl ne_b_23_b_66)
    have f_84 : Fld Z h_77 b_23 "com/example/pointcell/pointcell/Leaf" "keys" "[J" (.ref b_9) := f_73.other W_77 (Or.inl ne_b_23_b_66)
    have f_85 : Arv Z h_77 b_66 k_66 .long (2 : Int32) [(.long q3), (.long (0 : Int64))] (.long (0 : Int64)) := Arv.set Ar_75 q_75 S_75 N__75 H_75 G_75 rfl W_77 0 rfl (Nat.le_of_ble_eq_true rfl)
    refine Done.pre st_77 ?_
    show Done _ _ _ _ _ _ _ (T_77.setTop (mkF m 169 #[Lv q1, Zs, Lv q2, Zs, Lv q3, Zs, Lv q4, Zs, Lv q5, Zs, Iv p6, Iv (0 : Int32), Iv (1 : Int32), Lv mi1, Zs, Lv ma1, Zs, Rv b_9, Rv b_23, Us, Us, Us, Us, Us] [(.ref b_66)]))
    have sg_87 : ∀ tt_, Steps p.tables e below (T_77.setTop (mkF m 173 #[Lv q1, Zs, Lv q2, Zs, Lv q3, Zs, Lv q4, Zs, Lv q5, Zs, Iv p6, Iv (0 : Int32), Iv (1 : Int32), Lv mi1, Zs, Lv ma1, Zs, Rv b_9, Rv b_23, Us, Us, Us, Us, Us] [(.long mi1), (.int (1 : Int32)), (.ref b_66), (.ref b_66)])) tt_ → Steps p.tables e below (T_77.setTop (mkF m 169 #[Lv q1, Zs, Lv q2, Zs, Lv q3, Zs, Lv q4, Zs, Lv q5, Zs, Iv p6, Iv (0 : Int32), Iv (1 : Int32), Lv mi1, Zs, Lv ma1, Zs, Rv b_9, Rv b_23, Us, Us, Us, Us, Us] [(.ref b_66)])) tt_ := by
      intro tt_ kt_
      refine XS.dup X_77.here hEX rfl (hb hBY at_169) rfl rfl ?_
      show Steps p.tables e below (T_77.setTop (mkF m 170 #[Lv q1, Zs, Lv q2, Zs, Lv q3, Zs, Lv q4, Zs, Lv q5, Zs, Iv p6, Iv (0 : Int32), Iv (1 : Int32), Lv mi1, Zs, Lv ma1, Zs, Rv b_9, Rv b_23, Us, Us, Us, Us, Us] [(.ref b_66), (.ref b_66)])) tt_
      refine XS.iconst X_77.here hEX rfl (hb hBY at_170) ?_
      show Steps p.tables e below (T_77.setTop (mkF m 171 #[Lv q1, Zs, Lv q2, Zs, Lv q3, Zs, Lv q4, Zs, Lv q5, Zs, Iv p6, Iv (0 : Int32), Iv (1 : Int32), Lv mi1, Zs, Lv ma1, Zs, Rv b_9, Rv b_23, Us, Us, Us, Us, Us] [(.int (1 : Int32)), (.ref b_66), (.ref b_66)])) tt_
      refine XS.lload X_77.here hEX rfl (hb hBY at_171) rfl ?_
      exact kt_
    refine Done.pre sg_87 ?_
    obtain ⟨cl_86, Ar_86, q_86, S_86, N__86, H_86, G_86⟩ := id f_85
    have hin_86 : ¬ ((1 : Int32) < 0 ∨ cl_86.slots.size ≤ ((1 : Int32)).toNatClampNeg) := inb_of S_86 ⟨by decide, by decide⟩
    obtain ⟨T_88, h_88, X_88, e_88, W_88, st_88⟩ := stJ X_77 hEX hZW e_77 Ar_86 (j := (1 : Int32)) hin_86 (g := (mkF m 173 #[Lv q1, Zs, Lv q2, Zs, Lv q3, Zs, Lv q4, Zs, Lv q5, Zs, Iv p6, Iv (0 : Int32), Iv (1 : Int32), Lv mi1, Zs, Lv ma1, Zs, Rv b_9, Rv b_23, Us, Us, Us, Us, Us] [(.long mi1), (.int (1 : Int32)), (.ref b_66), (.ref b_66)])) rfl rfl (hb hBY at_173)
    have N_88 := Fr.snoc X_88 N_77 ge_b_66
    have K__89 : Keep h0 h_88 [] := K__78.wr W_88 (Or.inr sz_b_66)
    have f_90 : Arv Z h_88 b_9 k_9 .long (2 : Int32) [(.long q1), (.long q2)] (.long (0 : Int64)) := f_79.other W_88 ne_b_9_b_66
    have f_91 : Exa Z h_88 b_23 "com/example/pointcell/pointcell/Leaf" := f_80.wr W_88
    have f_92 : Arv Z h_88 b_31 k_31 .int (2 : Int32) [(.int (0 : Int32)), (.int (1 : Int32))] (.int (0 : Int32)) := f_81.other W_88 ne_b_31_b_66
    have f_93 : Fld Z h_88 b_23 "com/example/pointcell/pointcell/Leaf" "dimensions" "I" (.int (1 : Int32)) := f_82.other W_88 (Or.inl ne_b_23_b_66)
    have f_94 : Fld Z h_88 b_23 "com/example/pointcell/pointcell/Leaf" "docIds" "[I" (.ref b_31) := f_83.other W_88 (Or.inl ne_b_23_b_66)
    have f_95 : Fld Z h_88 b_23 "com/example/pointcell/pointcell/Leaf" "keys" "[J" (.ref b_9) := f_84.other W_88 (Or.inl ne_b_23_b_66)
    have f_96 : Arv Z h_88 b_66 k_66 .long (2 : Int32) [(.long q3), (.long mi1)] (.long (0 : Int64)) := Arv.set Ar_86 q_86 S_86 N__86 H_86 G_86 rfl W_88 1 rfl (Nat.le_of_ble_eq_true rfl)
    refine Done.pre st_88 ?_
    show Done _ _ _ _ _ _ _ (T_88.setTop (mkF m 174 #[Lv q1, Zs, Lv q2, Zs, Lv q3, Zs, Lv q4, Zs, Lv q5, Zs, Iv p6, Iv (0 : Int32), Iv (1 : Int32), Lv mi1, Zs, Lv ma1, Zs, Rv b_9, Rv b_23, Us, Us, Us, Us, Us] [(.ref b_66)]))
    have sg_97 : ∀ tt_, Steps p.tables e below (T_88.setTop (mkF m 177 #[Lv q1, Zs, Lv q2, Zs, Lv q3, Zs, Lv q4, Zs, Lv q5, Zs, Iv p6, Iv (0 : Int32), Iv (1 : Int32), Lv mi1, Zs, Lv ma1, Zs, Rv b_9, Rv b_23, Rv b_66, Us, Us, Us, Us] [(.int (2 : Int32))])) tt_ → Steps p.tables e below (T_88.setTop (mkF m 174 #[Lv q1, Zs, Lv q2, Zs, Lv q3, Zs, Lv q4, Zs, Lv q5, Zs, Iv p6, Iv (0 : Int32), Iv (1 : Int32), Lv mi1, Zs, Lv ma1, Zs, Rv b_9, Rv b_23, Us, Us, Us, Us, Us] [(.ref b_66)])) tt_ := by
      intro tt_ kt_
      refine XS.astore X_88.here hEX rfl (hb hBY at_174) rfl rfl (l' := #[Lv q1, Zs, Lv q2, Zs, Lv q3, Zs, Lv q4, Zs, Lv q5, Zs, Iv p6, Iv (0 : Int32), Iv (1 : Int32), Lv mi1, Zs, Lv ma1, Zs, Rv b_9, Rv b_23, Rv b_66, Us, Us, Us, Us]) rfl ?_
      show Steps p.tables e below (T_88.setTop (mkF m 176 #[Lv q1, Zs, Lv q2, Zs, Lv q3, Zs, Lv q4, Zs, Lv q5, Zs, Iv p6, Iv (0 : Int32), Iv (1 : Int32), Lv mi1, Zs, Lv ma1, Zs, Rv b_9, Rv b_23, Rv b_66, Us, Us, Us, Us] [])) tt_
      refine XS.iconst X_88.here hEX rfl (hb hBY at_176) ?_
      exact kt_
    refine Done.pre sg_97 ?_
    obtain ⟨T_98, h_98, k_98, X_98, e_98, E_98, A_98, st_98⟩ := newP X_88 hEX hZW (hw _ (List.mem_of_getElem? (i := 4) rfl)) e_88 (g := (mkF m 177 #[Lv q1, Zs, Lv q2, Zs, Lv q3, Zs, Lv q4, Zs, Lv q5, Zs, Iv p6, Iv (0 : Int32), Iv (1 : Int32), Lv mi1, Zs, Lv ma1, Zs, Rv b_9, Rv b_23, Rv b_66, Us, Us, Us, Us] [(.int (2 : Int32))])) rfl (hb hBY at_177) rfl (by decide) (cap := 2) (by decide) (by decide) (by decide) (by decide)
    obtain ⟨b_98, g_98⟩ : ∃ z, z = h_88.size := ⟨_, rfl⟩
    rw [← g_98] at A_98 st_98
    have sz_b_98 : h0.size ≤ b_98 := Nat.le_trans K__89.1 (Nat.le_of_eq g_98.symm)
    have ge_b_98 : n0 ≤ b_98 := Nat.le_trans Z0 sz_b_98
    have ne_b_9_b_98 : b_9 ≠ b_98 := Nat.ne_of_lt (Nat.lt_of_lt_of_le f_90.lt (Nat.le_of_eq g_98.symm))
    have ne_b_23_b_98 : b_23 ≠ b_98 := Nat.ne_of_lt (Nat.lt_of_lt_of_le f_91.lt (Nat.le_of_eq g_98.symm))
    have ne_b_31_b_98 : b_31 ≠ b_98 := Nat.ne_of_lt (Nat.lt_of_lt_of_le f_92.lt (Nat.le_of_eq g_98.symm))
    have ne_b_66_b_98 : b_66 ≠ b_98 := Nat.ne_of_lt (Nat.lt_of_lt_of_le f_96.lt (Nat.le_of_eq g_98.symm))
    have K__99 : Keep h0 h_98 [] := K__89.ext E_98
    have f_100 : Arv Z h_98 b_9 k_9 .long (2 : Int32) [(.long q1), (.long q2)] (.long (0 : Int64)) := f_90.ext E_98
    have f_101 : Exa Z h_98 b_23 "com/example/pointcell/pointcell/Leaf" := f_91.ext E_98
    have f_102 : Arv Z h_98 b_31 k_31 .int (2 : Int32) [(.int (0 : Int32)), (.int (1 : Int32))] (.int (0 : Int32)) := f_92.ext E_98
    have f_103 : Fld Z h_98 b_23 "com/example/pointcell/pointcell/Leaf" "dimensions" "I" (.int (1 : Int32)) := f_93.ext E_98
    have f_104 : Fld Z h_98 b_23 "com/example/pointcell/pointcell/Leaf" "docIds" "[I" (.ref b_31) := f_94.ext E_98
    have f_105 : Fld Z h_98 b_23 "com/example/pointcell/pointcell/Leaf" "keys" "[J" (.ref b_9) := f_95.ext E_98
    have f_106 : Arv Z h_98 b_66 k_66 .long (2 : Int32) [(.long q3), (.long mi1)] (.long (0 : Int64)) := f_96.ext E_98
    have f_107 : Arv Z h_98 b_98 k_98 .long (2 : Int32) [(.long (0 : Int64)), (.long (0 : Int64))] (.long (0 : Int64)) := (Arv.new A_98 (by decide)).pad (pad_rep [] (.long (0 : Int64)) 2)
    refine Done.pre st_98 ?_
    show Done _ _ _ _ _ _ _ (T_98.setTop (mkF m 179 #[Lv q1, Zs, Lv q2, Zs, Lv q3, Zs, Lv q4, Zs, Lv q5, Zs, Iv p6, Iv (0 : Int32), Iv (1 : Int32), Lv mi1, Zs, Lv ma1, Zs, Rv b_9, Rv b_23, Rv b_66, Us, Us, Us, Us] [(.ref b_98)]))
    have sg_109 : ∀ tt_, Steps p.tables e below (T_98.setTop (mkF m 183 #[Lv q1, Zs, Lv q2, Zs, Lv q3, Zs, Lv q4, Zs, Lv q5, Zs, Iv p6, Iv (0 : Int32), Iv (1 : Int32), Lv mi1, Zs, Lv ma1, Zs, Rv b_9, Rv b_23, Rv b_66, Us, Us, Us, Us] [(.long q4), (.int (0 : Int32)), (.ref b_98), (.ref b_98)])) tt_ → Steps p.tables e below (T_98.setTop (mkF m 179 #[Lv q1, Zs, Lv q2, Zs, Lv q3, Zs, Lv q4, Zs, Lv q5, Zs, Iv p6, Iv (0 : Int32), Iv (1 : Int32), Lv mi1, Zs, Lv ma1, Zs, Rv b_9, Rv b_23, Rv b_66, Us, Us, Us, Us] [(.ref b_98)])) tt_ := by
      intro tt_ kt_
      refine XS.dup X_98.here hEX rfl (hb hBY at_179) rfl rfl ?_
      show Steps p.tables e below (T_98.setTop (mkF m 180 #[Lv q1, Zs, Lv q2, Zs, Lv q3, Zs, Lv q4, Zs, Lv q5, Zs, Iv p6, Iv (0 : Int32), Iv (1 : Int32), Lv mi1, Zs, Lv ma1, Zs, Rv b_9, Rv b_23, Rv b_66, Us, Us, Us, Us] [(.ref b_98), (.ref b_98)])) tt_
      refine XS.iconst X_98.here hEX rfl (hb hBY at_180) ?_
      show Steps p.tables e below (T_98.setTop (mkF m 181 #[Lv q1, Zs, Lv q2, Zs, Lv q3, Zs, Lv q4, Zs, Lv q5, Zs, Iv p6, Iv (0 : Int32), Iv (1 : Int32), Lv mi1, Zs, Lv ma1, Zs, Rv b_9, Rv b_23, Rv b_66, Us, Us, Us, Us] [(.int (0 : Int32)), (.ref b_98), (.ref b_98)])) tt_
      refine XS.lload X_98.here hEX rfl (hb hBY at_181) rfl ?_
      exact kt_
    refine Done.pre sg_109 ?_
    obtain ⟨cl_108, Ar_108, q_108, S_108, N__108, H_108, G_108⟩ := id f_107
    have hin_108 : ¬ ((0 : Int32) < 0 ∨ cl_108.slots.size ≤ ((0 : Int32)).toNatClampNeg) := inb_of S_108 ⟨by decide, by decide⟩
    obtain ⟨T_110, h_110, X_110, e_110, W_110, st_110⟩ := stJ X_98 hEX hZW e_98 Ar_108 (j := (0 : Int32)) hin_108 (g := (mkF m 183 #[Lv q1, Zs, Lv q2, Zs, Lv q3, Zs, Lv q4, Zs, Lv q5, Zs, Iv p6, Iv (0 : Int32), Iv (1 : Int32), Lv mi1, Zs, Lv ma1, Zs, Rv b_9, Rv b_23, Rv b_66, Us, Us, Us, Us] [(.long q4), (.int (0 : Int32)), (.ref b_98), (.ref b_98)])) rfl rfl (hb hBY at_183)
    have N_110 := Fr.snoc X_110 N_88 ge_b_98
    have K__111 : Keep h0 h_110 [] := K__99.wr W_110 (Or.inr sz_b_98)
    have f_112 : Arv Z h_110 b_9 k_9 .long (2 : Int32) [(.long q1), (.long q2)] (.long (0 : Int64)) := f_100.other W_110 ne_b_9_b_98
    have f_113 : Exa Z h_110 b_23 "com/example/pointcell/pointcell/Leaf" := f_101.wr W_110
    have f_114 : Arv Z h_110 b_31 k_31 .int (2 : Int32) [(.int (0 : Int32)), (.int (1 : Int32))] (.int (0 : Int32)) := f_102.other W_110 ne_b_31_b_98
    have f_115 : Fld Z h_110 b_23 "com/example/pointcell/pointcell/Leaf" "dimensions" "I" (.int (1 : Int32)) := f_103.other W_110 (Or.inl ne_b_23_b_98)
    have f_116 : Fld Z h_110 b_23 "com/example/pointcell/pointcell/Leaf" "docIds" "[I" (.ref b_31) := f_104.other W_110 (Or.inl ne_b_23_b_98)
    have f_117 : Fld Z h_110 b_23 "com/example/pointcell/pointcell/Leaf" "keys" "[J" (.ref b_9) := f_105.other W_110 (Or.inl ne_b_23_b_98)
    have f_118 : Arv Z h_110 b_66 k_66 .long (2 : Int32) [(.long q3), (.long mi1)] (.long (0 : Int64)) := f_106.other W_110 ne_b_66_b_98
    have f_119 : Arv Z h_110 b_98 k_98 .long (2 : Int32) [(.long q4), (.long (0 : Int64))] (.long (0 : Int64)) := Arv.set Ar_108 q_108 S_108 N__108 H_108 G_108 rfl W_110 0 rfl (Nat.le_of_ble_eq_true rfl)
    refine Done.pre st_110 ?_
    show Done _ _ _ _ _ _ _ (T_110.setTop (mkF m 184 #[Lv q1, Zs, Lv q2, Zs, Lv q3, Zs, Lv q4, Zs, Lv q5, Zs, Iv p6, Iv (0 : Int32), Iv (1 : Int32), Lv mi1, Zs, Lv ma1, Zs, Rv b_9, Rv b_23, Rv b_66, Us, Us, Us, Us] [(.ref b_98)]))
    have sg_121 : ∀ tt_, Steps p.tables e below (T_110.setTop (mkF m 188 #[Lv q1, Zs, Lv q2, Zs, Lv q3, Zs, Lv q4, Zs, Lv q5, Zs, Iv p6, Iv (0 : Int32), Iv (1 : Int32), Lv mi1, Zs, Lv ma1, Zs, Rv b_9, Rv b_23, Rv b_66, Us, Us, Us, Us] [(.long ma1), (.int (1 : Int32)), (.ref b_98), (.ref b_98)])) tt_ → Steps p.tables e below (T_110.setTop (mkF m 184 #[Lv q1, Zs, Lv q2, Zs, Lv q3, Zs, Lv q4, Zs, Lv q5, Zs, Iv p6, Iv (0 : Int32), Iv (1 : Int32), Lv mi1, Zs, Lv ma1, Zs, Rv b_9, Rv b_23, Rv b_66, Us, Us, Us, Us] [(.ref b_98)])) tt_ := by
      intro tt_ kt_
      refine XS.dup X_110.here hEX rfl (hb hBY at_184) rfl rfl ?_
      show Steps p.tables e below (T_110.setTop (mkF m 185 #[Lv q1, Zs, Lv q2, Zs, Lv q3, Zs, Lv q4, Zs, Lv q5, Zs, Iv p6, Iv (0 : Int32), Iv (1 : Int32), Lv mi1, Zs, Lv ma1, Zs, Rv b_9, Rv b_23, Rv b_66, Us, Us, Us, Us] [(.ref b_98), (.ref b_98)])) tt_
      refine XS.iconst X_110.here hEX rfl (hb hBY at_185) ?_
      show Steps p.tables e below (T_110.setTop (mkF m 186 #[Lv q1, Zs, Lv q2, Zs, Lv q3, Zs, Lv q4, Zs, Lv q5, Zs, Iv p6, Iv (0 : Int32), Iv (1 : Int32), Lv mi1, Zs, Lv ma1, Zs, Rv b_9, Rv b_23, Rv b_66, Us, Us, Us, Us] [(.int (1 : Int32)), (.ref b_98), (.ref b_98)])) tt_
      refine XS.lload X_110.here hEX rfl (hb hBY at_186) rfl ?_
      exact kt_
    refine Done.pre sg_121 ?_
    obtain ⟨cl_120, Ar_120, q_120, S_120, N__120, H_120, G_120⟩ := id f_119
    have hin_120 : ¬ ((1 : Int32) < 0 ∨ cl_120.slots.size ≤ ((1 : Int32)).toNatClampNeg) := inb_of S_120 ⟨by decide, by decide⟩
    obtain ⟨T_122, h_122, X_122, e_122, W_122, st_122⟩ := stJ X_110 hEX hZW e_110 Ar_120 (j := (1 : Int32)) hin_120 (g := (mkF m 188 #[Lv q1, Zs, Lv q2, Zs, Lv q3, Zs, Lv q4, Zs, Lv q5, Zs, Iv p6, Iv (0 : Int32), Iv (1 : Int32), Lv mi1, Zs, Lv ma1, Zs, Rv b_9, Rv b_23, Rv b_66, Us, Us, Us, Us] [(.long ma1), (.int (1 : Int32)), (.ref b_98), (.ref b_98)])) rfl rfl (hb hBY at_188)
    have N_122 := Fr.snoc X_122 N_110 ge_b_98
    have K__123 : Keep h0 h_122 [] := K__111.wr W_122 (Or.inr sz_b_98)
    have f_124 : Arv Z h_122 b_9 k_9 .long (2 : Int32) [(.long q1), (.long q2)] (.long (0 : Int64)) := f_112.other W_122 ne_b_9_b_98
    have f_125 : Exa Z h_122 b_23 "com/example/pointcell/pointcell/Leaf" := f_113.wr W_122
    have f_126 : Arv Z h_122 b_31 k_31 .int (2 : Int32) [(.int (0 : Int32)), (.int (1 : Int32))] (.int (0 : Int32)) := f_114.other W_122 ne_b_31_b_98
    have f_127 : Fld Z h_122 b_23 "com/example/pointcell/pointcell/Leaf" "dimensions" "I" (.int (1 : Int32)) := f_115.other W_122 (Or.inl ne_b_23_b_98)
    have f_128 : Fld Z h_122 b_23 "com/example/pointcell/pointcell/Leaf" "docIds" "[I" (.ref b_31) := f_116.other W_122 (Or.inl ne_b_23_b_98)
    have f_129 : Fld Z h_122 b_23 "com/example/pointcell/pointcell/Leaf" "keys" "[J" (.ref b_9) := f_117.other W_122 (Or.inl ne_b_23_b_98)
    have f_130 : Arv Z h_122 b_66 k_66 .long (2 : Int32) [(.long q3), (.long mi1)] (.long (0 : Int64)) := f_118.other W_122 ne_b_66_b_98
    have f_131 : Arv Z h_122 b_98 k_98 .long (2 : Int32) [(.long q4), (.long ma1)] (.long (0 : Int64)) := Arv.set Ar_120 q_120 S_120 N__120 H_120 G_120 rfl W_122 1 rfl (Nat.le_of_ble_eq_true rfl)
    refine Done.pre st_122 ?_
    show Done _ _ _ _ _ _ _ (T_122.setTop (mkF m 189 #[Lv q1, Zs, Lv q2, Zs, Lv q3, Zs, Lv q4, Zs, Lv q5, Zs, Iv p6, Iv (0 : Int32), Iv (1 : Int32), Lv mi1, Zs, Lv ma1, Zs, Rv b_9, Rv b_23, Rv b_66, Us, Us, Us, Us] [(.ref b_98)]))
    have sg_132 : ∀ tt_, Steps p.tables e below (T_122.setTop (mkF m 191 #[Lv q1, Zs, Lv q2, Zs, Lv q3, Zs, Lv q4, Zs, Lv q5, Zs, Iv p6, Iv (0 : Int32), Iv (1 : Int32), Lv mi1, Zs, Lv ma1, Zs, Rv b_9, Rv b_23, Rv b_66, Rv b_98, Us, Us, Us] [])) tt_ → Steps p.tables e below (T_122.setTop (mkF m 189 #[Lv q1, Zs, Lv q2, Zs, Lv q3, Zs, Lv q4, Zs, Lv q5, Zs, Iv p6, Iv (0 : Int32), Iv (1 : Int32), Lv mi1, Zs, Lv ma1, Zs, Rv b_9, Rv b_23, Rv b_66, Us, Us, Us, Us] [(.ref b_98)])) tt_ := by
      intro tt_ kt_
      refine XS.astore X_122.here hEX rfl (hb hBY at_189) rfl rfl (l' := #[Lv q1, Zs, Lv q2, Zs, Lv q3, Zs, Lv q4, Zs, Lv q5, Zs, Iv p6, Iv (0 : Int32), Iv (1 : Int32), Lv mi1, Zs, Lv ma1, Zs, Rv b_9, Rv b_23, Rv b_66, Rv b_98, Us, Us, Us]) rfl ?_
      exact kt_
    refine Done.pre sg_132 ?_
    have jn_133 : ∀ (in0 : Int32) (hin0 : in0 = own_in1 q1 q3 q4), Done p e below s (Qrm0 Z q1 q2 q3 q4 q5 p6 h0 n0) room_1.cells room_1.slots (T_122.setTop (mkF m 210 #[Lv q1, Zs, Lv q2, Zs, Lv q3, Zs, Lv q4, Zs, Lv q5, Zs, Iv p6, Iv (0 : Int32), Iv (1 : Int32), Lv mi1, Zs, Lv ma1, Zs, Rv b_9, Rv b_23, Rv b_66, Rv b_98, Us, Us, Us] [(.int in0)])) := by
      intro in0 hin0
      show Done _ _ _ _ _ _ _ (T_122.setTop (mkF m 210 #[Lv q1, Zs, Lv q2, Zs, Lv q3, Zs, Lv q4, Zs, Lv q5, Zs, Iv p6, Iv (0 : Int32), Iv (1 : Int32), Lv mi1, Zs, Lv ma1, Zs, Rv b_9, Rv b_23, Rv b_66, Rv b_98, Us, Us, Us] [(.int in0)]))
      have sg_134 : ∀ tt_, Steps p.tables e below (T_122.setTop (mkF m 212 #[Lv q1, Zs, Lv q2, Zs, Lv q3, Zs, Lv q4, Zs, Lv q5, Zs, Iv p6, Iv (0 : Int32), Iv (1 : Int32), Lv mi1, Zs, Lv ma1, Zs, Rv b_9, Rv b_23, Rv b_66, Rv b_98, Iv in0, Us, Us] [])) tt_ → Steps p.tables e below (T_122.setTop (mkF m 210 #[Lv q1, Zs, Lv q2, Zs, Lv q3, Zs, Lv q4, Zs, Lv q5, Zs, Iv p6, Iv (0 : Int32), Iv (1 : Int32), Lv mi1, Zs, Lv ma1, Zs, Rv b_9, Rv b_23, Rv b_66, Rv b_98, Us, Us, Us] [(.int in0)])) tt_ := by
        intro tt_ kt_
        refine XS.istore X_122.here hEX rfl (hb hBY at_210) rfl (l' := #[Lv q1, Zs, Lv q2, Zs, Lv q3, Zs, Lv q4, Zs, Lv q5, Zs, Iv p6, Iv (0 : Int32), Iv (1 : Int32), Lv mi1, Zs, Lv ma1, Zs, Rv b_9, Rv b_23, Rv b_66, Rv b_98, Iv in0, Us, Us]) rfl ?_
        exact kt_
      refine Done.pre sg_134 ?_
      have jn_135 : ∀ (in1 : Int32) (hin1 : in1 = own_in1 q2 mi1 ma1), Done p e below s (Qrm0 Z q1 q2 q3 q4 q5 p6 h0 n0) room_1.cells room_1.slots (T_122.setTop (mkF m 231 #[Lv q1, Zs, Lv q2, Zs, Lv q3, Zs, Lv q4, Zs, Lv q5, Zs, Iv p6, Iv (0 : Int32), Iv (1 : Int32), Lv mi1, Zs, Lv ma1, Zs, Rv b_9, Rv b_23, Rv b_66, Rv b_98, Iv in0, Us, Us] [(.int in1)])) := by
        intro in1 hin1
        show Done _ _ _ _ _ _ _ (T_122.setTop (mkF m 231 #[Lv q1, Zs, Lv q2, Zs, Lv q3, Zs, Lv q4, Zs, Lv q5, Zs, Iv p6, Iv (0 : Int32), Iv (1 : Int32), Lv mi1, Zs, Lv ma1, Zs, Rv b_9, Rv b_23, Rv b_66, Rv b_98, Iv in0, Us, Us] [(.int in1)]))
        have sg_136 : ∀ tt_, Steps p.tables e below (T_122.setTop (mkF m 271 #[Lv q1, Zs, Lv q2, Zs, Lv q3, Zs, Lv q4, Zs, Lv q5, Zs, Iv p6, Iv (0 : Int32), Iv (1 : Int32), Lv mi1, Zs, Lv ma1, Zs, Rv b_9, Rv b_23, Rv b_66, Rv b_98, Iv in0, Iv in1, Iv in0] [(.ref b_98), (.ref b_66), (.int (0 : Int32)), (.ref b_23)])) tt_ → Steps p.tables e below (T_122.setTop (mkF m 231 #[Lv q1, Zs, Lv q2, Zs, Lv q3, Zs, Lv q4, Zs, Lv q5, Zs, Iv p6, Iv (0 : Int32), Iv (1 : Int32), Lv mi1, Zs, Lv ma1, Zs, Rv b_9, Rv b_23, Rv b_66, Rv b_98, Iv in0, Us, Us] [(.int in1)])) tt_ := by
          intro tt_ kt_
          refine XS.istore X_122.here hEX rfl (hb hBY at_231) rfl (l' := #[Lv q1, Zs, Lv q2, Zs, Lv q3, Zs, Lv q4, Zs, Lv q5, Zs, Iv p6, Iv (0 : Int32), Iv (1 : Int32), Lv mi1, Zs, Lv ma1, Zs, Rv b_9, Rv b_23, Rv b_66, Rv b_98, Iv in0, Iv in1, Us]) rfl ?_
          show Steps p.tables e below (T_122.setTop (mkF m 233 #[Lv q1, Zs, Lv q2, Zs, Lv q3, Zs, Lv q4, Zs, Lv q5, Zs, Iv p6, Iv (0 : Int32), Iv (1 : Int32), Lv mi1, Zs, Lv ma1, Zs, Rv b_9, Rv b_23, Rv b_66, Rv b_98, Iv in0, Iv in1, Us] [])) tt_
          refine XS.iload X_122.here hEX rfl (hb hBY at_233) rfl ?_
          show Steps p.tables e below (T_122.setTop (mkF m 235 #[Lv q1, Zs, Lv q2, Zs, Lv q3, Zs, Lv q4, Zs, Lv q5, Zs, Iv p6, Iv (0 : Int32), Iv (1 : Int32), Lv mi1, Zs, Lv ma1, Zs, Rv b_9, Rv b_23, Rv b_66, Rv b_98, Iv in0, Iv in1, Us] [(.int (1 : Int32))])) tt_
          refine XS.iconst X_122.here hEX rfl (hb hBY at_235) ?_
          show Steps p.tables e below (T_122.setTop (mkF m 236 #[Lv q1, Zs, Lv q2, Zs, Lv q3, Zs, Lv q4, Zs, Lv q5, Zs, Iv p6, Iv (0 : Int32), Iv (1 : Int32), Lv mi1, Zs, Lv ma1, Zs, Rv b_9, Rv b_23, Rv b_66, Rv b_98, Iv in0, Iv in1, Us] [(.int (1 : Int32)), (.int (1 : Int32))])) tt_
          refine XS.icmpNo X_122.here hEX rfl (hb hBY at_236) rfl (teq (by decide : (1 : Int32) = (1 : Int32))).2 ?_
          show Steps p.tables e below (T_122.setTop (mkF m 239 #[Lv q1, Zs, Lv q2, Zs, Lv q3, Zs, Lv q4, Zs, Lv q5, Zs, Iv p6, Iv (0 : Int32), Iv (1 : Int32), Lv mi1, Zs, Lv ma1, Zs, Rv b_9, Rv b_23, Rv b_66, Rv b_98, Iv in0, Iv in1, Us] [])) tt_
          refine XS.iload X_122.here hEX rfl (hb hBY at_239) rfl ?_
          show Steps p.tables e below (T_122.setTop (mkF m 241 #[Lv q1, Zs, Lv q2, Zs, Lv q3, Zs, Lv q4, Zs, Lv q5, Zs, Iv p6, Iv (0 : Int32), Iv (1 : Int32), Lv mi1, Zs, Lv ma1, Zs, Rv b_9, Rv b_23, Rv b_66, Rv b_98, Iv in0, Iv in1, Us] [(.int in0)])) tt_
          refine XS.istore X_122.here hEX rfl (hb hBY at_241) rfl (l' := #[Lv q1, Zs, Lv q2, Zs, Lv q3, Zs, Lv q4, Zs, Lv q5, Zs, Iv p6, Iv (0 : Int32), Iv (1 : Int32), Lv mi1, Zs, Lv ma1, Zs, Rv b_9, Rv b_23, Rv b_66, Rv b_98, Iv in0, Iv in1, Iv in0]) rfl ?_
          show Steps p.tables e below (T_122.setTop (mkF m 243 #[Lv q1, Zs, Lv q2, Zs, Lv q3, Zs, Lv q4, Zs, Lv q5, Zs, Iv p6, Iv (0 : Int32), Iv (1 : Int32), Lv mi1, Zs, Lv ma1, Zs, Rv b_9, Rv b_23, Rv b_66, Rv b_98, Iv in0, Iv in1, Iv in0] [])) tt_
          refine XS.goto X_122.here hEX rfl (pc0 := 243) (pc' := 263) rfl (hb hBY at_243) (by decide) (by decide) ?_
          show Steps p.tables e below (T_122.setTop (mkF m 263 #[Lv q1, Zs, Lv q2, Zs, Lv q3, Zs, Lv q4, Zs, Lv q5, Zs, Iv p6, Iv (0 : Int32), Iv (1 : Int32), Lv mi1, Zs, Lv ma1, Zs, Rv b_9, Rv b_23, Rv b_66, Rv b_98, Iv in0, Iv in1, Iv in0] [])) tt_
          refine XS.aload X_122.here hEX rfl (hb hBY at_263) rfl rfl ?_
          show Steps p.tables e below (T_122.setTop (mkF m 265 #[Lv q1, Zs, Lv q2, Zs, Lv q3, Zs, Lv q4, Zs, Lv q5, Zs, Iv p6, Iv (0 : Int32), Iv (1 : Int32), Lv mi1, Zs, Lv ma1, Zs, Rv b_9, Rv b_23, Rv b_66, Rv b_98, Iv in0, Iv in1, Iv in0] [(.ref b_23)])) tt_
          refine XS.iload X_122.here hEX rfl (hb hBY at_265) rfl ?_
          show Steps p.tables e below (T_122.setTop (mkF m 267 #[Lv q1, Zs, Lv q2, Zs, Lv q3, Zs, Lv q4, Zs, Lv q5, Zs, Iv p6, Iv (0 : Int32), Iv (1 : Int32), Lv mi1, Zs, Lv ma1, Zs, Rv b_9, Rv b_23, Rv b_66, Rv b_98, Iv in0, Iv in1, Iv in0] [(.int (0 : Int32)), (.ref b_23)])) tt_
          refine XS.aload X_122.here hEX rfl (hb hBY at_267) rfl rfl ?_
          show Steps p.tables e below (T_122.setTop (mkF m 269 #[Lv q1, Zs, Lv q2, Zs, Lv q3, Zs, Lv q4, Zs, Lv q5, Zs, Iv p6, Iv (0 : Int32), Iv (1 : Int32), Lv mi1, Zs, Lv ma1, Zs, Rv b_9, Rv b_23, Rv b_66, Rv b_98, Iv in0, Iv in1, Iv in0] [(.ref b_66), (.int (0 : Int32)), (.ref b_23)])) tt_
          refine XS.aload X_122.here hEX rfl (hb hBY at_269) rfl rfl ?_
          exact kt_
        refine Done.pre sg_136 ?_
        obtain ⟨cq_137, kq_137, q_137a, q_137b, q_137c⟩ := isOf hZW e_122 f_125
        obtain ⟨_, _, ⟨T_137, L_137, k_137, n_137⟩, -, X_137, ⟨Lc_137, hQ_137, l_137, y_137, z_137⟩, st_137⟩ := X_122.virtualBack hEX (y := (⟨"com/example/pointcell/pointcell/Leaf", "isInside", "(I[J[J)Z"⟩ : MethodName)) (z := (⟨"com/example/pointcell/pointcell/Leaf", "isInside", "(I[J[J)Z"⟩ : MethodName)) hOW (mvT hZW (hw _ (List.mem_of_getElem? (i := 21) rfl))) (mvT hZW (hw _ (List.mem_of_getElem? (i := 22) rfl))) (notFace_of_selects (args := #[]) (mvT hZW (hw _ (List.mem_of_getElem? (i := 24) rfl)))) (mvT hZW (hw _ (List.mem_of_getElem? (i := 24) rfl))) (mvT hZW (hw _ (List.mem_of_getElem? (i := 23) rfl))) (by decide) (backOf (W := 0) (rm_in1 l Z aZ hw [] b_23 (0 : Int32) b_66 b_98 b_9 k_9 (2 : Int32) [(.long q1), (.long q2)] k_66 k_98 q3 mi1 q4 ma1 q1 h_122 n0 (Nat.le_trans Z0 K__123.1) f_127 f_129 f_124 f_130 f_131 (by decide) rfl) hZW (hw _ (List.mem_of_getElem? (i := 25) rfl)) (hw _ (List.mem_of_getElem? (i := 7) rfl)) (by decide) (by decide)) q_137a q_137c (g := (mkF m 271 #[Lv q1, Zs, Lv q2, Zs, Lv q3, Zs, Lv q4, Zs, Lv q5, Zs, Iv p6, Iv (0 : Int32), Iv (1 : Int32), Lv mi1, Zs, Lv ma1, Zs, Rv b_9, Rv b_23, Rv b_66, Rv b_98, Iv in0, Iv in1, Iv in0] [(.ref b_98), (.ref b_66), (.int (0 : Int32)), (.ref b_23)])) rfl (by rw [hMX]; rfl) (Steps.refl _) (argsL := [(.int (0 : Int32)), (.ref b_66), (.ref b_98)]) (rest := []) (lenOf pd__I_J_J_Z_3 rfl) rfl (by show 2 * 0 + _ ≤ _; exact Nat.le_of_eq rfl) (hb hBY at_271) (fun _ _ => ⟨rfl, e_122, (by decide : 5 + 0 ≤ _), (by decide : 11 + 0 ≤ _)⟩)
        dsimp only [Pt.U, Pt.locs, Pt.cells, Pt.slots] at X_137 l_137 y_137 z_137 st_137 hQ_137
        subst l_137 y_137 z_137
        obtain ⟨rfl, N_137q, e_137⟩ := hQ_137
        have N_137 := Fr.app N_122 N_137q
        refine Done.pre (fun _ k_ => st_137.trans k_) ?_
        show Done _ _ _ _ _ _ _ (T_137.setTop (mkF m 274 #[Lv q1, Zs, Lv q2, Zs, Lv q3, Zs, Lv q4, Zs, Lv q5, Zs, Iv p6, Iv (0 : Int32), Iv (1 : Int32), Lv mi1, Zs, Lv ma1, Zs, Rv b_9, Rv b_23, Rv b_66, Rv b_98, Iv in0, Iv in1, Iv in0] [(.int (own_in1 q1 q3 q4))]))
        have sg_138 : ∀ tt_, Steps p.tables e below (T_137.setTop (mkF m 284 #[Lv q1, Zs, Lv q2, Zs, Lv q3, Zs, Lv q4, Zs, Lv q5, Zs, Iv p6, Iv (0 : Int32), Iv (1 : Int32), Lv mi1, Zs, Lv ma1, Zs, Rv b_9, Rv b_23, Rv b_66, Rv b_98, Iv in0, Iv in1, Iv in0] [(.int (1 : Int32))])) tt_ → Steps p.tables e below (T_137.setTop (mkF m 274 #[Lv q1, Zs, Lv q2, Zs, Lv q3, Zs, Lv q4, Zs, Lv q5, Zs, Iv p6, Iv (0 : Int32), Iv (1 : Int32), Lv mi1, Zs, Lv ma1, Zs, Rv b_9, Rv b_23, Rv b_66, Rv b_98, Iv in0, Iv in1, Iv in0] [(.int (own_in1 q1 q3 q4))])) tt_ := by
          intro tt_ kt_
          refine XS.iload X_137.here hEX rfl (hb hBY at_274) rfl ?_
          show Steps p.tables e below (T_137.setTop (mkF m 276 #[Lv q1, Zs, Lv q2, Zs, Lv q3, Zs, Lv q4, Zs, Lv q5, Zs, Iv p6, Iv (0 : Int32), Iv (1 : Int32), Lv mi1, Zs, Lv ma1, Zs, Rv b_9, Rv b_23, Rv b_66, Rv b_98, Iv in0, Iv in1, Iv in0] [(.int in0), (.int (own_in1 q1 q3 q4))])) tt_
          refine XS.icmpNo X_137.here hEX rfl (hb hBY at_276) rfl (teq (hin0.symm : (own_in1 q1 q3 q4) = in0)).2 ?_
          show Steps p.tables e below (T_137.setTop (mkF m 279 #[Lv q1, Zs, Lv q2, Zs, Lv q3, Zs, Lv q4, Zs, Lv q5, Zs, Iv p6, Iv (0 : Int32), Iv (1 : Int32), Lv mi1, Zs, Lv ma1, Zs, Rv b_9, Rv b_23, Rv b_66, Rv b_98, Iv in0, Iv in1, Iv in0] [])) tt_
          refine XS.iconst X_137.here hEX rfl (hb hBY at_279) ?_
          show Steps p.tables e below (T_137.setTop (mkF m 280 #[Lv q1, Zs, Lv q2, Zs, Lv q3, Zs, Lv q4, Zs, Lv q5, Zs, Iv p6, Iv (0 : Int32), Iv (1 : Int32), Lv mi1, Zs, Lv ma1, Zs, Rv b_9, Rv b_23, Rv b_66, Rv b_98, Iv in0, Iv in1, Iv in0] [(.int (1 : Int32))])) tt_
          refine XS.goto X_137.here hEX rfl (pc0 := 280) (pc' := 284) rfl (hb hBY at_280) (by decide) (by decide) ?_
          exact kt_
        refine Done.pre sg_138 ?_
        exact Done.retN X_137 hEX hLK (t := .boolean) hRT (by simp) (hb hBY at_284) (by rw [e_137]; exact ⟨rfl, N_137, K__123⟩) (by decide) (by decide)
      show Done _ _ _ _ _ _ _ (T_122.setTop (mkF m 212 #[Lv q1, Zs, Lv q2, Zs, Lv q3, Zs, Lv q4, Zs, Lv q5, Zs, Iv p6, Iv (0 : Int32), Iv (1 : Int32), Lv mi1, Zs, Lv ma1, Zs, Rv b_9, Rv b_23, Rv b_66, Rv b_98, Iv in0, Us, Us] []))
      have sg_139 : ∀ tt_, Steps p.tables e below (T_122.setTop (mkF m 216 #[Lv q1, Zs, Lv q2, Zs, Lv q3, Zs, Lv q4, Zs, Lv q5, Zs, Iv p6, Iv (0 : Int32), Iv (1 : Int32), Lv mi1, Zs, Lv ma1, Zs, Rv b_9, Rv b_23, Rv b_66, Rv b_98, Iv in0, Us, Us] [(.int (lcmpW mi1 q2))])) tt_ → Steps p.tables e below (T_122.setTop (mkF m 212 #[Lv q1, Zs, Lv q2, Zs, Lv q3, Zs, Lv q4, Zs, Lv q5, Zs, Iv p6, Iv (0 : Int32), Iv (1 : Int32), Lv mi1, Zs, Lv ma1, Zs, Rv b_9, Rv b_23, Rv b_66, Rv b_98, Iv in0, Us, Us] [])) tt_ := by
        intro tt_ kt_
        refine XS.lload X_122.here hEX rfl (hb hBY at_212) rfl ?_
        show Steps p.tables e below (T_122.setTop (mkF m 214 #[Lv q1, Zs, Lv q2, Zs, Lv q3, Zs, Lv q4, Zs, Lv q5, Zs, Iv p6, Iv (0 : Int32), Iv (1 : Int32), Lv mi1, Zs, Lv ma1, Zs, Rv b_9, Rv b_23, Rv b_66, Rv b_98, Iv in0, Us, Us] [(.long mi1)])) tt_
        refine XS.lloadN X_122.here hEX rfl (hb hBY at_214) rfl ?_
        show Steps p.tables e below (T_122.setTop (mkF m 215 #[Lv q1, Zs, Lv q2, Zs, Lv q3, Zs, Lv q4, Zs, Lv q5, Zs, Iv p6, Iv (0 : Int32), Iv (1 : Int32), Lv mi1, Zs, Lv ma1, Zs, Rv b_9, Rv b_23, Rv b_66, Rv b_98, Iv in0, Us, Us] [(.long q2), (.long mi1)])) tt_
        refine XS.lcmp X_122.here hEX rfl (hb hBY at_215) rfl ?_
        exact kt_
      refine Done.pre sg_139 ?_
      by_cases hc216 : q2 < mi1
      · skip
        have sg_140 : ∀ tt_, Steps p.tables e below (T_122.setTop (mkF m 231 #[Lv q1, Zs, Lv q2, Zs, Lv q3, Zs, Lv q4, Zs, Lv q5, Zs, Iv p6, Iv (0 : Int32), Iv (1 : Int32), Lv mi1, Zs, Lv ma1, Zs, Rv b_9, Rv b_23, Rv b_66, Rv b_98, Iv in0, Us, Us] [(.int (0 : Int32))])) tt_ → Steps p.tables e below (T_122.setTop (mkF m 216 #[Lv q1, Zs, Lv q2, Zs, Lv q3, Zs, Lv q4, Zs, Lv q5, Zs, Iv p6, Iv (0 : Int32), Iv (1 : Int32), Lv mi1, Zs, Lv ma1, Zs, Rv b_9, Rv b_23, Rv b_66, Rv b_98, Iv in0, Us, Us] [(.int (lcmpW mi1 q2))])) tt_ := by
          intro tt_ kt_
          refine XS.ifYes X_122.here hEX rfl (pc0 := 216) (pc' := 230) rfl (hb hBY at_216) rfl ((if0 _ _).trans (tlt ((lw_gt _ _).mpr hc216)).2.2.1) (by decide) (by decide) ?_
          show Steps p.tables e below (T_122.setTop (mkF m 230 #[Lv q1, Zs, Lv q2, Zs, Lv q3, Zs, Lv q4, Zs, Lv q5, Zs, Iv p6, Iv (0 : Int32), Iv (1 : Int32), Lv mi1, Zs, Lv ma1, Zs, Rv b_9, Rv b_23, Rv b_66, Rv b_98, Iv in0, Us, Us] [])) tt_
          refine XS.iconst X_122.here hEX rfl (hb hBY at_230) ?_
          exact kt_
        refine Done.pre sg_140 ?_
        exact jn_135 ((0 : Int32)) (by rw [own_in1]; first | rw [if_pos hc216] | rw [if_neg hc216, if_pos hc223] | rw [if_neg hc216, if_neg hc223])
      · skip
        have sg_141 : ∀ tt_, Steps p.tables e below (T_122.setTop (mkF m 223 #[Lv q1, Zs, Lv q2, Zs, Lv q3, Zs, Lv q4, Zs, Lv q5, Zs, Iv p6, Iv (0 : Int32), Iv (1 : Int32), Lv mi1, Zs, Lv ma1, Zs, Rv b_9, Rv b_23, Rv b_66, Rv b_98, Iv in0, Us, Us] [(.int (lcmpW q2 ma1))])) tt_ → Steps p.tables e below (T_122.setTop (mkF m 216 #[Lv q1, Zs, Lv q2, Zs, Lv q3, Zs, Lv q4, Zs, Lv q5, Zs, Iv p6, Iv (0 : Int32), Iv (1 : Int32), Lv mi1, Zs, Lv ma1, Zs, Rv b_9, Rv b_23, Rv b_66, Rv b_98, Iv in0, Us, Us] [(.int (lcmpW mi1 q2))])) tt_ := by
          intro tt_ kt_
          refine XS.ifNo X_122.here hEX rfl (hb hBY at_216) rfl ((if0 _ _).trans (flt (fun q => hc216 ((lw_gt _ _).mp q))).2.2.1) ?_
          show Steps p.tables e below (T_122.setTop (mkF m 219 #[Lv q1, Zs, Lv q2, Zs, Lv q3, Zs, Lv q4, Zs, Lv q5, Zs, Iv p6, Iv (0 : Int32), Iv (1 : Int32), Lv mi1, Zs, Lv ma1, Zs, Rv b_9, Rv b_23, Rv b_66, Rv b_98, Iv in0, Us, Us] [])) tt_
          refine XS.lloadN X_122.here hEX rfl (hb hBY at_219) rfl ?_
          show Steps p.tables e below (T_122.setTop (mkF m 220 #[Lv q1, Zs, Lv q2, Zs, Lv q3, Zs, Lv q4, Zs, Lv q5, Zs, Iv p6, Iv (0 : Int32), Iv (1 : Int32), Lv mi1, Zs, Lv ma1, Zs, Rv b_9, Rv b_23, Rv b_66, Rv b_98, Iv in0, Us, Us] [(.long q2)])) tt_
          refine XS.lload X_122.here hEX rfl (hb hBY at_220) rfl ?_
          show Steps p.tables e below (T_122.setTop (mkF m 222 #[Lv q1, Zs, Lv q2, Zs, Lv q3, Zs, Lv q4, Zs, Lv q5, Zs, Iv p6, Iv (0 : Int32), Iv (1 : Int32), Lv mi1, Zs, Lv ma1, Zs, Rv b_9, Rv b_23, Rv b_66, Rv b_98, Iv in0, Us, Us] [(.long ma1), (.long q2)])) tt_
          refine XS.lcmp X_122.here hEX rfl (hb hBY at_222) rfl ?_
          exact kt_
        refine Done.pre sg_141 ?_
        by_cases hc223 : ma1 < q2
        · skip
          have sg_142 : ∀ tt_, Steps p.tables e below (T_122.setTop (mkF m 231 #[Lv q1, Zs, Lv q2, Zs, Lv q3, Zs, Lv q4, Zs, Lv q5, Zs, Iv p6, Iv (0 : Int32), Iv (1 : Int32), Lv mi1, Zs, Lv ma1, Zs, Rv b_9, Rv b_23, Rv b_66, Rv b_98, Iv in0, Us, Us] [(.int (0 : Int32))])) tt_ → Steps p.tables e below (T_122.setTop (mkF m 223 #[Lv q1, Zs, Lv q2, Zs, Lv q3, Zs, Lv q4, Zs, Lv q5, Zs, Iv p6, Iv (0 : Int32), Iv (1 : Int32), Lv mi1, Zs, Lv ma1, Zs, Rv b_9, Rv b_23, Rv b_66, Rv b_98, Iv in0, Us, Us] [(.int (lcmpW q2 ma1))])) tt_ := by
            intro tt_ kt_
            refine XS.ifYes X_122.here hEX rfl (pc0 := 223) (pc' := 230) rfl (hb hBY at_223) rfl ((if0 _ _).trans (tlt ((lw_gt _ _).mpr hc223)).2.2.1) (by decide) (by decide) ?_
            show Steps p.tables e below (T_122.setTop (mkF m 230 #[Lv q1, Zs, Lv q2, Zs, Lv q3, Zs, Lv q4, Zs, Lv q5, Zs, Iv p6, Iv (0 : Int32), Iv (1 : Int32), Lv mi1, Zs, Lv ma1, Zs, Rv b_9, Rv b_23, Rv b_66, Rv b_98, Iv in0, Us, Us] [])) tt_
            refine XS.iconst X_122.here hEX rfl (hb hBY at_230) ?_
            exact kt_
          refine Done.pre sg_142 ?_
          exact jn_135 ((0 : Int32)) (by rw [own_in1]; first | rw [if_pos hc216] | rw [if_neg hc216, if_pos hc223] | rw [if_neg hc216, if_neg hc223])
        · skip
          have sg_143 : ∀ tt_, Steps p.tables e below (T_122.setTop (mkF m 231 #[Lv q1, Zs, Lv q2, Zs, Lv q3, Zs, Lv q4, Zs, Lv q5, Zs, Iv p6, Iv (0 : Int32), Iv (1 : Int32), Lv mi1, Zs, Lv ma1, Zs, Rv b_9, Rv b_23, Rv b_66, Rv b_98, Iv in0, Us, Us] [(.int (1 : Int32))])) tt_ → Steps p.tables e below (T_122.setTop (mkF m 223 #[Lv q1, Zs, Lv q2, Zs, Lv q3, Zs, Lv q4, Zs, Lv q5, Zs, Iv p6, Iv (0 : Int32), Iv (1 : Int32), Lv mi1, Zs, Lv ma1, Zs, Rv b_9, Rv b_23, Rv b_66, Rv b_98, Iv in0, Us, Us] [(.int (lcmpW q2 ma1))])) tt_ := by
            intro tt_ kt_
            refine XS.ifNo X_122.here hEX rfl (hb hBY at_223) rfl ((if0 _ _).trans (flt (fun q => hc223 ((lw_gt _ _).mp q))).2.2.1) ?_
            show Steps p.tables e below (T_122.setTop (mkF m 226 #[Lv q1, Zs, Lv q2, Zs, Lv q3, Zs, Lv q4, Zs, Lv q5, Zs, Iv p6, Iv (0 : Int32), Iv (1 : Int32), Lv mi1, Zs, Lv ma1, Zs, Rv b_9, Rv b_23, Rv b_66, Rv b_98, Iv in0, Us, Us] [])) tt_
            refine XS.iconst X_122.here hEX rfl (hb hBY at_226) ?_
            show Steps p.tables e below (T_122.setTop (mkF m 227 #[Lv q1, Zs, Lv q2, Zs, Lv q3, Zs, Lv q4, Zs, Lv q5, Zs, Iv p6, Iv (0 : Int32), Iv (1 : Int32), Lv mi1, Zs, Lv ma1, Zs, Rv b_9, Rv b_23, Rv b_66, Rv b_98, Iv in0, Us, Us] [(.int (1 : Int32))])) tt_
            refine XS.goto X_122.here hEX rfl (pc0 := 227) (pc' := 231) rfl (hb hBY at_227) (by decide) (by decide) ?_
            exact kt_
          refine Done.pre sg_143 ?_
          exact jn_135 ((1 : Int32)) (by rw [own_in1]; first | rw [if_pos hc216] | rw [if_neg hc216, if_pos hc223] | rw [if_neg hc216, if_neg hc223])
    show Done _ _ _ _ _ _ _ (T_122.setTop (mkF m 191 #[Lv q1, Zs, Lv q2, Zs, Lv q3, Zs, Lv q4, Zs, Lv q5, Zs, Iv p6, Iv (0 : Int32), Iv (1 : Int32), Lv mi1, Zs, Lv ma1, Zs, Rv b_9, Rv b_23, Rv b_66, Rv b_98, Us, Us, Us] []))
    have sg_144 : ∀ tt_, Steps p.tables e below (T_122.setTop (mkF m 195 #[Lv q1, Zs, Lv q2, Zs, Lv q3, Zs, Lv q4, Zs, Lv q5, Zs, Iv p6, Iv (0 : Int32), Iv (1 : Int32), Lv mi1, Zs, Lv ma1, Zs, Rv b_9, Rv b_23, Rv b_66, Rv b_98, Us, Us, Us] [(.int (lcmpW q3 q1))])) tt_ → Steps p.tables e below (T_122.setTop (mkF m 191 #[Lv q1, Zs, Lv q2, Zs, Lv q3, Zs, Lv q4, Zs, Lv q5, Zs, Iv p6, Iv (0 : Int32), Iv (1 : Int32), Lv mi1, Zs, Lv ma1, Zs, Rv b_9, Rv b_23, Rv b_66, Rv b_98, Us, Us, Us] [])) tt_ := by
      intro tt_ kt_
      refine XS.lload X_122.here hEX rfl (hb hBY at_191) rfl ?_
      show Steps p.tables e below (T_122.setTop (mkF m 193 #[Lv q1, Zs, Lv q2, Zs, Lv q3, Zs, Lv q4, Zs, Lv q5, Zs, Iv p6, Iv (0 : Int32), Iv (1 : Int32), Lv mi1, Zs, Lv ma1, Zs, Rv b_9, Rv b_23, Rv b_66, Rv b_98, Us, Us, Us] [(.long q3)])) tt_
      refine XS.lloadN X_122.here hEX rfl (hb hBY at_193) rfl ?_
      show Steps p.tables e below (T_122.setTop (mkF m 194 #[Lv q1, Zs, Lv q2, Zs, Lv q3, Zs, Lv q4, Zs, Lv q5, Zs, Iv p6, Iv (0 : Int32), Iv (1 : Int32), Lv mi1, Zs, Lv ma1, Zs, Rv b_9, Rv b_23, Rv b_66, Rv b_98, Us, Us, Us] [(.long q1), (.long q3)])) tt_
      refine XS.lcmp X_122.here hEX rfl (hb hBY at_194) rfl ?_
      exact kt_
    refine Done.pre sg_144 ?_
    by_cases hc195 : q1 < q3
    · skip
      have sg_145 : ∀ tt_, Steps p.tables e below (T_122.setTop (mkF m 210 #[Lv q1, Zs, Lv q2, Zs, Lv q3, Zs, Lv q4, Zs, Lv q5, Zs, Iv p6, Iv (0 : Int32), Iv (1 : Int32), Lv mi1, Zs, Lv ma1, Zs, Rv b_9, Rv b_23, Rv b_66, Rv b_98, Us, Us, Us] [(.int (0 : Int32))])) tt_ → Steps p.tables e below (T_122.setTop (mkF m 195 #[Lv q1, Zs, Lv q2, Zs, Lv q3, Zs, Lv q4, Zs, Lv q5, Zs, Iv p6, Iv (0 : Int32), Iv (1 : Int32), Lv mi1, Zs, Lv ma1, Zs, Rv b_9, Rv b_23, Rv b_66, Rv b_98, Us, Us, Us] [(.int (lcmpW q3 q1))])) tt_ := by
        intro tt_ kt_
        refine XS.ifYes X_122.here hEX rfl (pc0 := 195) (pc' := 209) rfl (hb hBY at_195) rfl ((if0 _ _).trans (tlt ((lw_gt _ _).mpr hc195)).2.2.1) (by decide) (by decide) ?_
        show Steps p.tables e below (T_122.setTop (mkF m 209 #[Lv q1, Zs, Lv q2, Zs, Lv q3, Zs, Lv q4, Zs, Lv q5, Zs, Iv p6, Iv (0 : Int32), Iv (1 : Int32), Lv mi1, Zs, Lv ma1, Zs, Rv b_9, Rv b_23, Rv b_66, Rv b_98, Us, Us, Us] [])) tt_
        refine XS.iconst X_122.here hEX rfl (hb hBY at_209) ?_
        exact kt_
      refine Done.pre sg_145 ?_
      exact jn_133 ((0 : Int32)) (by rw [own_in1]; first | rw [if_pos hc195] | rw [if_neg hc195, if_pos hc202] | rw [if_neg hc195, if_neg hc202])
    · skip
      have sg_146 : ∀ tt_, Steps p.tables e below (T_122.setTop (mkF m 202 #[Lv q1, Zs, Lv q2, Zs, Lv q3, Zs, Lv q4, Zs, Lv q5, Zs, Iv p6, Iv (0 : Int32), Iv (1 : Int32), Lv mi1, Zs, Lv ma1, Zs, Rv b_9, Rv b_23, Rv b_66, Rv b_98, Us, Us, Us] [(.int (lcmpW q1 q4))])) tt_ → Steps p.tables e below (T_122.setTop (mkF m 195 #[Lv q1, Zs, Lv q2, Zs, Lv q3, Zs, Lv q4, Zs, Lv q5, Zs, Iv p6, Iv (0 : Int32), Iv (1 : Int32), Lv mi1, Zs, Lv ma1, Zs, Rv b_9, Rv b_23, Rv b_66, Rv b_98, Us, Us, Us] [(.int (lcmpW q3 q1))])) tt_ := by
        intro tt_ kt_
        refine XS.ifNo X_122.here hEX rfl (hb hBY at_195) rfl ((if0 _ _).trans (flt (fun q => hc195 ((lw_gt _ _).mp q))).2.2.1) ?_
        show Steps p.tables e below (T_122.setTop (mkF m 198 #[Lv q1, Zs, Lv q2, Zs, Lv q3, Zs, Lv q4, Zs, Lv q5, Zs, Iv p6, Iv (0 : Int32), Iv (1 : Int32), Lv mi1, Zs, Lv ma1, Zs, Rv b_9, Rv b_23, Rv b_66, Rv b_98, Us, Us, Us] [])) tt_
        refine XS.lloadN X_122.here hEX rfl (hb hBY at_198) rfl ?_
        show Steps p.tables e below (T_122.setTop (mkF m 199 #[Lv q1, Zs, Lv q2, Zs, Lv q3, Zs, Lv q4, Zs, Lv q5, Zs, Iv p6, Iv (0 : Int32), Iv (1 : Int32), Lv mi1, Zs, Lv ma1, Zs, Rv b_9, Rv b_23, Rv b_66, Rv b_98, Us, Us, Us] [(.long q1)])) tt_
        refine XS.lload X_122.here hEX rfl (hb hBY at_199) rfl ?_
        show Steps p.tables e below (T_122.setTop (mkF m 201 #[Lv q1, Zs, Lv q2, Zs, Lv q3, Zs, Lv q4, Zs, Lv q5, Zs, Iv p6, Iv (0 : Int32), Iv (1 : Int32), Lv mi1, Zs, Lv ma1, Zs, Rv b_9, Rv b_23, Rv b_66, Rv b_98, Us, Us, Us] [(.long q4), (.long q1)])) tt_
        refine XS.lcmp X_122.here hEX rfl (hb hBY at_201) rfl ?_
        exact kt_
      refine Done.pre sg_146 ?_
      by_cases hc202 : q4 < q1
      · skip
        have sg_147 : ∀ tt_, Steps p.tables e below (T_122.setTop (mkF m 210 #[Lv q1, Zs, Lv q2, Zs, Lv q3, Zs, Lv q4, Zs, Lv q5, Zs, Iv p6, Iv (0 : Int32), Iv (1 : Int32), Lv mi1, Zs, Lv ma1, Zs, Rv b_9, Rv b_23, Rv b_66, Rv b_98, Us, Us, Us] [(.int (0 : Int32))])) tt_ → Steps p.tables e below (T_122.setTop (mkF m 202 #[Lv q1, Zs, Lv q2, Zs, Lv q3, Zs, Lv q4, Zs, Lv q5, Zs, Iv p6, Iv (0 : Int32), Iv (1 : Int32), Lv mi1, Zs, Lv ma1, Zs, Rv b_9, Rv b_23, Rv b_66, Rv b_98, Us, Us, Us] [(.int (lcmpW q1 q4))])) tt_ := by
          intro tt_ kt_
          refine XS.ifYes X_122.here hEX rfl (pc0 := 202) (pc' := 209) rfl (hb hBY at_202) rfl ((if0 _ _).trans (tlt ((lw_gt _ _).mpr hc202)).2.2.1) (by decide) (by decide) ?_
          show Steps p.tables e below (T_122.setTop (mkF m 209 #[Lv q1, Zs, Lv q2, Zs, Lv q3, Zs, Lv q4, Zs, Lv q5, Zs, Iv p6, Iv (0 : Int32), Iv (1 : Int32), Lv mi1, Zs, Lv ma1, Zs, Rv b_9, Rv b_23, Rv b_66, Rv b_98, Us, Us, Us] [])) tt_
          refine XS.iconst X_122.here hEX rfl (hb hBY at_209) ?_
          exact kt_
        refine Done.pre sg_147 ?_
        exact jn_133 ((0 : Int32)) (by rw [own_in1]; first | rw [if_pos hc195] | rw [if_neg hc195, if_pos hc202] | rw [if_neg hc195, if_neg hc202])
      · skip
        have sg_148 : ∀ tt_, Steps p.tables e below (T_122.setTop (mkF m 210 #[Lv q1, Zs, Lv q2, Zs, Lv q3, Zs, Lv q4, Zs, Lv q5, Zs, Iv p6, Iv (0 : Int32), Iv (1 : Int32), Lv mi1, Zs, Lv ma1, Zs, Rv b_9, Rv b_23, Rv b_66, Rv b_98, Us, Us, Us] [(.int (1 : Int32))])) tt_ → Steps p.tables e below (T_122.setTop (mkF m 202 #[Lv q1, Zs, Lv q2, Zs, Lv q3, Zs, Lv q4, Zs, Lv q5, Zs, Iv p6, Iv (0 : Int32), Iv (1 : Int32), Lv mi1, Zs, Lv ma1, Zs, Rv b_9, Rv b_23, Rv b_66, Rv b_98, Us, Us, Us] [(.int (lcmpW q1 q4))])) tt_ := by
          intro tt_ kt_
          refine XS.ifNo X_122.here hEX rfl (hb hBY at_202) rfl ((if0 _ _).trans (flt (fun q => hc202 ((lw_gt _ _).mp q))).2.2.1) ?_
          show Steps p.tables e below (T_122.setTop (mkF m 205 #[Lv q1, Zs, Lv q2, Zs, Lv q3, Zs, Lv q4, Zs, Lv q5, Zs, Iv p6, Iv (0 : Int32), Iv (1 : Int32), Lv mi1, Zs, Lv ma1, Zs, Rv b_9, Rv b_23, Rv b_66, Rv b_98, Us, Us, Us] [])) tt_
          refine XS.iconst X_122.here hEX rfl (hb hBY at_205) ?_
          show Steps p.tables e below (T_122.setTop (mkF m 206 #[Lv q1, Zs, Lv q2, Zs, Lv q3, Zs, Lv q4, Zs, Lv q5, Zs, Iv p6, Iv (0 : Int32), Iv (1 : Int32), Lv mi1, Zs, Lv ma1, Zs, Rv b_9, Rv b_23, Rv b_66, Rv b_98, Us, Us, Us] [(.int (1 : Int32))])) tt_
          refine XS.goto X_122.here hEX rfl (pc0 := 206) (pc' := 210) rfl (hb hBY at_206) (by decide) (by decide) ?_
          exact kt_
        refine Done.pre sg_148 ?_
        exact jn_133 ((1 : Int32)) (by rw [own_in1]; first | rw [if_pos hc195] | rw [if_neg hc195, if_pos hc202] | rw [if_neg hc195, if_neg hc202])
  · skip
    show Done _ _ _ _ _ _ _ (T_6.setTop (mkF m 44 #[Lv q1, Zs, Lv q2, Zs, Lv q3, Zs, Lv q4, Zs, Lv q5, Zs, Iv p6, Iv (1 : Int32), Iv (1 : Int32), Lv mi1, Zs, Lv ma1, Zs, Us, Us, Us, Us, Us, Us, Us] []))
    have sg_149 : ∀ tt_, Steps p.tables e below (T_6.setTop (mkF m 125 #[Lv q1, Zs, Lv q2, Zs, Lv q3, Zs, Lv q4, Zs, Lv q5, Zs, Iv p6, Iv (1 : Int32), Iv (1 : Int32), Lv mi1, Zs, Lv ma1, Zs, Us, Us, Us, Us, Us, Us, Us] [(.int (2 : Int32))])) tt_ → Steps p.tables e below (T_6.setTop (mkF m 44 #[Lv q1, Zs, Lv q2, Zs, Lv q3, Zs, Lv q4, Zs, Lv q5, Zs, Iv p6, Iv (1 : Int32), Iv (1 : Int32), Lv mi1, Zs, Lv ma1, Zs, Us, Us, Us, Us, Us, Us, Us] [])) tt_ := by
      intro tt_ kt_
      refine XS.iload X_6.here hEX rfl (hb hBY at_44) rfl ?_
      show Steps p.tables e below (T_6.setTop (mkF m 46 #[Lv q1, Zs, Lv q2, Zs, Lv q3, Zs, Lv q4, Zs, Lv q5, Zs, Iv p6, Iv (1 : Int32), Iv (1 : Int32), Lv mi1, Zs, Lv ma1, Zs, Us, Us, Us, Us, Us, Us, Us] [(.int (1 : Int32))])) tt_
      refine XS.iconst X_6.here hEX rfl (hb hBY at_46) ?_
      show Steps p.tables e below (T_6.setTop (mkF m 47 #[Lv q1, Zs, Lv q2, Zs, Lv q3, Zs, Lv q4, Zs, Lv q5, Zs, Iv p6, Iv (1 : Int32), Iv (1 : Int32), Lv mi1, Zs, Lv ma1, Zs, Us, Us, Us, Us, Us, Us, Us] [(.int (2 : Int32)), (.int (1 : Int32))])) tt_
      refine XS.icmpYes X_6.here hEX rfl (pc0 := 47) (pc' := 103) rfl (hb hBY at_47) rfl (feq (by decide : ¬ ((1 : Int32) = (2 : Int32)))).2 (by decide) (by decide) ?_
      show Steps p.tables e below (T_6.setTop (mkF m 103 #[Lv q1, Zs, Lv q2, Zs, Lv q3, Zs, Lv q4, Zs, Lv q5, Zs, Iv p6, Iv (1 : Int32), Iv (1 : Int32), Lv mi1, Zs, Lv ma1, Zs, Us, Us, Us, Us, Us, Us, Us] [])) tt_
      refine XS.iload X_6.here hEX rfl (hb hBY at_103) rfl ?_
      show Steps p.tables e below (T_6.setTop (mkF m 105 #[Lv q1, Zs, Lv q2, Zs, Lv q3, Zs, Lv q4, Zs, Lv q5, Zs, Iv p6, Iv (1 : Int32), Iv (1 : Int32), Lv mi1, Zs, Lv ma1, Zs, Us, Us, Us, Us, Us, Us, Us] [(.int (1 : Int32))])) tt_
      refine XS.ifYes X_6.here hEX rfl (pc0 := 105) (pc' := 124) rfl (hb hBY at_105) rfl ((if0 _ _).trans (feq (by decide : ¬ ((1 : Int32) = (0 : Int32)))).2) (by decide) (by decide) ?_
      show Steps p.tables e below (T_6.setTop (mkF m 124 #[Lv q1, Zs, Lv q2, Zs, Lv q3, Zs, Lv q4, Zs, Lv q5, Zs, Iv p6, Iv (1 : Int32), Iv (1 : Int32), Lv mi1, Zs, Lv ma1, Zs, Us, Us, Us, Us, Us, Us, Us] [])) tt_
      refine XS.iconst X_6.here hEX rfl (hb hBY at_124) ?_
      exact kt_
    refine Done.pre sg_149 ?_
    obtain ⟨T_150, h_150, k_150, X_150, e_150, E_150, A_150, st_150⟩ := newP X_6 hEX hZW (hw _ (List.mem_of_getElem? (i := 4) rfl)) e_6 (g := (mkF m 125 #[Lv q1, Zs, Lv q2, Zs, Lv q3, Zs, Lv q4, Zs, Lv q5, Zs, Iv p6, Iv (1 : Int32), Iv (1 : Int32), Lv mi1, Zs, Lv ma1, Zs, Us, Us, Us, Us, Us, Us, Us] [(.int (2 : Int32))])) rfl (hb hBY at_125) rfl (by decide) (cap := 2) (by decide) (by decide) (by decide) (by decide)
    obtain ⟨b_150, g_150⟩ : ∃ z, z = h0.size := ⟨_, rfl⟩
    rw [← g_150] at A_150 st_150
    have sz_b_150 : h0.size ≤ b_150 := Nat.le_trans K0.1 (Nat.le_of_eq g_150.symm)
    have ge_b_150 : n0 ≤ b_150 := Nat.le_trans Z0 sz_b_150
    have K__151 : Keep h0 h_150 [] := K0.ext E_150
    have f_152 : Arv Z h_150 b_150 k_150 .long (2 : Int32) [(.long (0 : Int64)), (.long (0 : Int64))] (.long (0 : Int64)) := (Arv.new A_150 (by decide)).pad (pad_rep [] (.long (0 : Int64)) 2)
    refine Done.pre st_150 ?_
    show Done _ _ _ _ _ _ _ (T_150.setTop (mkF m 127 #[Lv q1, Zs, Lv q2, Zs, Lv q3, Zs, Lv q4, Zs, Lv q5, Zs, Iv p6, Iv (1 : Int32), Iv (1 : Int32), Lv mi1, Zs, Lv ma1, Zs, Us, Us, Us, Us, Us, Us, Us] [(.ref b_150)]))
    have sg_154 : ∀ tt_, Steps p.tables e below (T_150.setTop (mkF m 130 #[Lv q1, Zs, Lv q2, Zs, Lv q3, Zs, Lv q4, Zs, Lv q5, Zs, Iv p6, Iv (1 : Int32), Iv (1 : Int32), Lv mi1, Zs, Lv ma1, Zs, Us, Us, Us, Us, Us, Us, Us] [(.long q2), (.int (0 : Int32)), (.ref b_150), (.ref b_150)])) tt_ → Steps p.tables e below (T_150.setTop (mkF m 127 #[Lv q1, Zs, Lv q2, Zs, Lv q3, Zs, Lv q4, Zs, Lv q5, Zs, Iv p6, Iv (1 : Int32), Iv (1 : Int32), Lv mi1, Zs, Lv ma1, Zs, Us, Us, Us, Us, Us, Us, Us] [(.ref b_150)])) tt_ := by
      intro tt_ kt_
      refine XS.dup X_150.here hEX rfl (hb hBY at_127) rfl rfl ?_
      show Steps p.tables e below (T_150.setTop (mkF m 128 #[Lv q1, Zs, Lv q2, Zs, Lv q3, Zs, Lv q4, Zs, Lv q5, Zs, Iv p6, Iv (1 : Int32), Iv (1 : Int32), Lv mi1, Zs, Lv ma1, Zs, Us, Us, Us, Us, Us, Us, Us] [(.ref b_150), (.ref b_150)])) tt_
      refine XS.iconst X_150.here hEX rfl (hb hBY at_128) ?_
      show Steps p.tables e below (T_150.setTop (mkF m 129 #[Lv q1, Zs, Lv q2, Zs, Lv q3, Zs, Lv q4, Zs, Lv q5, Zs, Iv p6, Iv (1 : Int32), Iv (1 : Int32), Lv mi1, Zs, Lv ma1, Zs, Us, Us, Us, Us, Us, Us, Us] [(.int (0 : Int32)), (.ref b_150), (.ref b_150)])) tt_
      refine XS.lloadN X_150.here hEX rfl (hb hBY at_129) rfl ?_
      exact kt_
    refine Done.pre sg_154 ?_
    obtain ⟨cl_153, Ar_153, q_153, S_153, N__153, H_153, G_153⟩ := id f_152
    have hin_153 : ¬ ((0 : Int32) < 0 ∨ cl_153.slots.size ≤ ((0 : Int32)).toNatClampNeg) := inb_of S_153 ⟨by decide, by decide⟩
    obtain ⟨T_155, h_155, X_155, e_155, W_155, st_155⟩ := stJ X_150 hEX hZW e_150 Ar_153 (j := (0 : Int32)) hin_153 (g := (mkF m 130 #[Lv q1, Zs, Lv q2, Zs, Lv q3, Zs, Lv q4, Zs, Lv q5, Zs, Iv p6, Iv (1 : Int32), Iv (1 : Int32), Lv mi1, Zs, Lv ma1, Zs, Us, Us, Us, Us, Us, Us, Us] [(.long q2), (.int (0 : Int32)), (.ref b_150), (.ref b_150)])) rfl rfl (hb hBY at_130)
    have N_155 := Fr.snoc X_155 N_6 ge_b_150
    have K__156 : Keep h0 h_155 [] := K__151.wr W_155 (Or.inr sz_b_150)
    have f_157 : Arv Z h_155 b_150 k_150 .long (2 : Int32) [(.long q2), (.long (0 : Int64))] (.long (0 : Int64)) := Arv.set Ar_153 q_153 S_153 N__153 H_153 G_153 rfl W_155 0 rfl (Nat.le_of_ble_eq_true rfl)
    refine Done.pre st_155 ?_
    show Done _ _ _ _ _ _ _ (T_155.setTop (mkF m 131 #[Lv q1, Zs, Lv q2, Zs, Lv q3, Zs, Lv q4, Zs, Lv q5, Zs, Iv p6, Iv (1 : Int32), Iv (1 : Int32), Lv mi1, Zs, Lv ma1, Zs, Us, Us, Us, Us, Us, Us, Us] [(.ref b_150)]))
    have sg_159 : ∀ tt_, Steps p.tables e below (T_155.setTop (mkF m 134 #[Lv q1, Zs, Lv q2, Zs, Lv q3, Zs, Lv q4, Zs, Lv q5, Zs, Iv p6, Iv (1 : Int32), Iv (1 : Int32), Lv mi1, Zs, Lv ma1, Zs, Us, Us, Us, Us, Us, Us, Us] [(.long q1), (.int (1 : Int32)), (.ref b_150), (.ref b_150)])) tt_ → Steps p.tables e below (T_155.setTop (mkF m 131 #[Lv q1, Zs, Lv q2, Zs, Lv q3, Zs, Lv q4, Zs, Lv q5, Zs, Iv p6, Iv (1 : Int32), Iv (1 : Int32), Lv mi1, Zs, Lv ma1, Zs, Us, Us, Us, Us, Us, Us, Us] [(.ref b_150)])) tt_ := by
      intro tt_ kt_
      refine XS.dup X_155.here hEX rfl (hb hBY at_131) rfl rfl ?_
      show Steps p.tables e below (T_155.setTop (mkF m 132 #[Lv q1, Zs, Lv q2, Zs, Lv q3, Zs, Lv q4, Zs, Lv q5, Zs, Iv p6, Iv (1 : Int32), Iv (1 : Int32), Lv mi1, Zs, Lv ma1, Zs, Us, Us, Us, Us, Us, Us, Us] [(.ref b_150), (.ref b_150)])) tt_
      refine XS.iconst X_155.here hEX rfl (hb hBY at_132) ?_
      show Steps p.tables e below (T_155.setTop (mkF m 133 #[Lv q1, Zs, Lv q2, Zs, Lv q3, Zs, Lv q4, Zs, Lv q5, Zs, Iv p6, Iv (1 : Int32), Iv (1 : Int32), Lv mi1, Zs, Lv ma1, Zs, Us, Us, Us, Us, Us, Us, Us] [(.int (1 : Int32)), (.ref b_150), (.ref b_150)])) tt_
      refine XS.lloadN X_155.here hEX rfl (hb hBY at_133) rfl ?_
      exact kt_
    refine Done.pre sg_159 ?_
    obtain ⟨cl_158, Ar_158, q_158, S_158, N__158, H_158, G_158⟩ := id f_157
    have hin_158 : ¬ ((1 : Int32) < 0 ∨ cl_158.slots.size ≤ ((1 : Int32)).toNatClampNeg) := inb_of S_158 ⟨by decide, by decide⟩
    obtain ⟨T_160, h_160, X_160, e_160, W_160, st_160⟩ := stJ X_155 hEX hZW e_155 Ar_158 (j := (1 : Int32)) hin_158 (g := (mkF m 134 #[Lv q1, Zs, Lv q2, Zs, Lv q3, Zs, Lv q4, Zs, Lv q5, Zs, Iv p6, Iv (1 : Int32), Iv (1 : Int32), Lv mi1, Zs, Lv ma1, Zs, Us, Us, Us, Us, Us, Us, Us] [(.long q1), (.int (1 : Int32)), (.ref b_150), (.ref b_150)])) rfl rfl (hb hBY at_134)
    have N_160 := Fr.snoc X_160 N_155 ge_b_150
    have K__161 : Keep h0 h_160 [] := K__156.wr W_160 (Or.inr sz_b_150)
    have f_162 : Arv Z h_160 b_150 k_150 .long (2 : Int32) [(.long q2), (.long q1)] (.long (0 : Int64)) := Arv.set Ar_158 q_158 S_158 N__158 H_158 G_158 rfl W_160 1 rfl (Nat.le_of_ble_eq_true rfl)
    refine Done.pre st_160 ?_
    show Done _ _ _ _ _ _ _ (T_160.setTop (mkF m 135 #[Lv q1, Zs, Lv q2, Zs, Lv q3, Zs, Lv q4, Zs, Lv q5, Zs, Iv p6, Iv (1 : Int32), Iv (1 : Int32), Lv mi1, Zs, Lv ma1, Zs, Us, Us, Us, Us, Us, Us, Us] [(.ref b_150)]))
    have sg_163 : ∀ tt_, Steps p.tables e below (T_160.setTop (mkF m 137 #[Lv q1, Zs, Lv q2, Zs, Lv q3, Zs, Lv q4, Zs, Lv q5, Zs, Iv p6, Iv (1 : Int32), Iv (1 : Int32), Lv mi1, Zs, Lv ma1, Zs, Rv b_150, Us, Us, Us, Us, Us, Us] [])) tt_ → Steps p.tables e below (T_160.setTop (mkF m 135 #[Lv q1, Zs, Lv q2, Zs, Lv q3, Zs, Lv q4, Zs, Lv q5, Zs, Iv p6, Iv (1 : Int32), Iv (1 : Int32), Lv mi1, Zs, Lv ma1, Zs, Us, Us, Us, Us, Us, Us, Us] [(.ref b_150)])) tt_ := by
      intro tt_ kt_
      refine XS.astore X_160.here hEX rfl (hb hBY at_135) rfl rfl (l' := #[Lv q1, Zs, Lv q2, Zs, Lv q3, Zs, Lv q4, Zs, Lv q5, Zs, Iv p6, Iv (1 : Int32), Iv (1 : Int32), Lv mi1, Zs, Lv ma1, Zs, Rv b_150, Us, Us, Us, Us, Us, Us]) rfl ?_
      exact kt_
    refine Done.pre sg_163 ?_
    obtain ⟨T_164, h_164, X_164, e_164, E_164, A_164, D_164, -, st_164⟩ := newO X_160 hEX hZW hOW (hw _ (List.mem_of_getElem? (i := 5) rfl)) (hw _ (List.mem_of_getElem? (i := 6) rfl)) (hw _ (List.mem_of_getElem? (i := 7) rfl)) e_160 (g := (mkF m 137 #[Lv q1, Zs, Lv q2, Zs, Lv q3, Zs, Lv q4, Zs, Lv q5, Zs, Iv p6, Iv (1 : Int32), Iv (1 : Int32), Lv mi1, Zs, Lv ma1, Zs, Rv b_150, Us, Us, Us, Us, Us, Us] [])) rfl (hb hBY at_137) (by decide) (by decide)
    obtain ⟨b_164, g_164⟩ : ∃ z, z = h_160.size := ⟨_, rfl⟩
    rw [← g_164] at A_164 D_164 st_164
    have sz_b_164 : h0.size ≤ b_164 := Nat.le_trans K__161.1 (Nat.le_of_eq g_164.symm)
    have ge_b_164 : n0 ≤ b_164 := Nat.le_trans Z0 sz_b_164
    have ne_b_150_b_164 : b_150 ≠ b_164 := Nat.ne_of_lt (Nat.lt_of_lt_of_le f_162.lt (Nat.le_of_eq g_164.symm))
    have K__165 : Keep h0 h_164 [] := K__161.ext E_164
    have f_166 : Arv Z h_164 b_150 k_150 .long (2 : Int32) [(.long q2), (.long q1)] (.long (0 : Int64)) := f_162.ext E_164
    have f_167 : Exa Z h_164 b_164 "com/example/pointcell/pointcell/Leaf" := A_164
    have f_168 : Fld Z h_164 b_164 "com/example/pointcell/pointcell/Leaf" "dimensions" "I" (.int (0 : Int32)) := D_164 (Or.inr (hw _ (List.mem_of_getElem? (i := 16) rfl))) (ty := .int) (by decide)
    have f_169 : Fld Z h_164 b_164 "com/example/pointcell/pointcell/Leaf" "docIds" "[I" .null := D_164 (Or.inr (hw _ (List.mem_of_getElem? (i := 18) rfl))) (ty := (.array .int)) (by decide)
    have f_170 : Fld Z h_164 b_164 "com/example/pointcell/pointcell/Leaf" "keys" "[J" .null := D_164 (Or.inr (hw _ (List.mem_of_getElem? (i := 20) rfl))) (ty := (.array .long)) (by decide)
    refine Done.pre st_164 ?_
    show Done _ _ _ _ _ _ _ (T_164.setTop (mkF m 140 #[Lv q1, Zs, Lv q2, Zs, Lv q3, Zs, Lv q4, Zs, Lv q5, Zs, Iv p6, Iv (1 : Int32), Iv (1 : Int32), Lv mi1, Zs, Lv ma1, Zs, Rv b_150, Us, Us, Us, Us, Us, Us] [(.ref b_164)]))
    have sg_171 : ∀ tt_, Steps p.tables e below (T_164.setTop (mkF m 144 #[Lv q1, Zs, Lv q2, Zs, Lv q3, Zs, Lv q4, Zs, Lv q5, Zs, Iv p6, Iv (1 : Int32), Iv (1 : Int32), Lv mi1, Zs, Lv ma1, Zs, Rv b_150, Us, Us, Us, Us, Us, Us] [(.int (2 : Int32)), (.int (1 : Int32)), (.ref b_164), (.ref b_164)])) tt_ → Steps p.tables e below (T_164.setTop (mkF m 140 #[Lv q1, Zs, Lv q2, Zs, Lv q3, Zs, Lv q4, Zs, Lv q5, Zs, Iv p6, Iv (1 : Int32), Iv (1 : Int32), Lv mi1, Zs, Lv ma1, Zs, Rv b_150, Us, Us, Us, Us, Us, Us] [(.ref b_164)])) tt_ := by
      intro tt_ kt_
      refine XS.dup X_164.here hEX rfl (hb hBY at_140) rfl rfl ?_
      show Steps p.tables e below (T_164.setTop (mkF m 141 #[Lv q1, Zs, Lv q2, Zs, Lv q3, Zs, Lv q4, Zs, Lv q5, Zs, Iv p6, Iv (1 : Int32), Iv (1 : Int32), Lv mi1, Zs, Lv ma1, Zs, Rv b_150, Us, Us, Us, Us, Us, Us] [(.ref b_164), (.ref b_164)])) tt_
      refine XS.iload X_164.here hEX rfl (hb hBY at_141) rfl ?_
      show Steps p.tables e below (T_164.setTop (mkF m 143 #[Lv q1, Zs, Lv q2, Zs, Lv q3, Zs, Lv q4, Zs, Lv q5, Zs, Iv p6, Iv (1 : Int32), Iv (1 : Int32), Lv mi1, Zs, Lv ma1, Zs, Rv b_150, Us, Us, Us, Us, Us, Us] [(.int (1 : Int32)), (.ref b_164), (.ref b_164)])) tt_
      refine XS.iconst X_164.here hEX rfl (hb hBY at_143) ?_
      exact kt_
    refine Done.pre sg_171 ?_
    obtain ⟨T_172, h_172, k_172, X_172, e_172, E_172, A_172, st_172⟩ := newP X_164 hEX hZW (hw _ (List.mem_of_getElem? (i := 8) rfl)) e_164 (g := (mkF m 144 #[Lv q1, Zs, Lv q2, Zs, Lv q3, Zs, Lv q4, Zs, Lv q5, Zs, Iv p6, Iv (1 : Int32), Iv (1 : Int32), Lv mi1, Zs, Lv ma1, Zs, Rv b_150, Us, Us, Us, Us, Us, Us] [(.int (2 : Int32)), (.int (1 : Int32)), (.ref b_164), (.ref b_164)])) rfl (hb hBY at_144) rfl (by decide) (cap := 2) (by decide) (by decide) (by decide) (by decide)
    obtain ⟨b_172, g_172⟩ : ∃ z, z = h_164.size := ⟨_, rfl⟩
    rw [← g_172] at A_172 st_172
    have sz_b_172 : h0.size ≤ b_172 := Nat.le_trans K__165.1 (Nat.le_of_eq g_172.symm)
    have ge_b_172 : n0 ≤ b_172 := Nat.le_trans Z0 sz_b_172
    have ne_b_150_b_172 : b_150 ≠ b_172 := Nat.ne_of_lt (Nat.lt_of_lt_of_le f_166.lt (Nat.le_of_eq g_172.symm))
    have ne_b_164_b_172 : b_164 ≠ b_172 := Nat.ne_of_lt (Nat.lt_of_lt_of_le f_167.lt (Nat.le_of_eq g_172.symm))
    have K__173 : Keep h0 h_172 [] := K__165.ext E_172
    have f_174 : Arv Z h_172 b_150 k_150 .long (2 : Int32) [(.long q2), (.long q1)] (.long (0 : Int64)) := f_166.ext E_172
    have f_175 : Exa Z h_172 b_164 "com/example/pointcell/pointcell/Leaf" := f_167.ext E_172
    have f_176 : Fld Z h_172 b_164 "com/example/pointcell/pointcell/Leaf" "dimensions" "I" (.int (0 : Int32)) := f_168.ext E_172
    have f_177 : Fld Z h_172 b_164 "com/example/pointcell/pointcell/Leaf" "docIds" "[I" .null := f_169.ext E_172
    have f_178 : Fld Z h_172 b_164 "com/example/pointcell/pointcell/Leaf" "keys" "[J" .null := f_170.ext E_172
    have f_179 : Arv Z h_172 b_172 k_172 .int (2 : Int32) [(.int (0 : Int32)), (.int (0 : Int32))] (.int (0 : Int32)) := (Arv.new A_172 (by decide)).pad (pad_rep [] (.int (0 : Int32)) 2)
    refine Done.pre st_172 ?_
    show Done _ _ _ _ _ _ _ (T_172.setTop (mkF m 146 #[Lv q1, Zs, Lv q2, Zs, Lv q3, Zs, Lv q4, Zs, Lv q5, Zs, Iv p6, Iv (1 : Int32), Iv (1 : Int32), Lv mi1, Zs, Lv ma1, Zs, Rv b_150, Us, Us, Us, Us, Us, Us] [(.ref b_172), (.int (1 : Int32)), (.ref b_164), (.ref b_164)]))
    have sg_181 : ∀ tt_, Steps p.tables e below (T_172.setTop (mkF m 149 #[Lv q1, Zs, Lv q2, Zs, Lv q3, Zs, Lv q4, Zs, Lv q5, Zs, Iv p6, Iv (1 : Int32), Iv (1 : Int32), Lv mi1, Zs, Lv ma1, Zs, Rv b_150, Us, Us, Us, Us, Us, Us] [(.int (0 : Int32)), (.int (0 : Int32)), (.ref b_172), (.ref b_172), (.int (1 : Int32)), (.ref b_164), (.ref b_164)])) tt_ → Steps p.tables e below (T_172.setTop (mkF m 146 #[Lv q1, Zs, Lv q2, Zs, Lv q3, Zs, Lv q4, Zs, Lv q5, Zs, Iv p6, Iv (1 : Int32), Iv (1 : Int32), Lv mi1, Zs, Lv ma1, Zs, Rv b_150, Us, Us, Us, Us, Us, Us] [(.ref b_172), (.int (1 : Int32)), (.ref b_164), (.ref b_164)])) tt_ := by
      intro tt_ kt_
      refine XS.dup X_172.here hEX rfl (hb hBY at_146) rfl rfl ?_
      show Steps p.tables e below (T_172.setTop (mkF m 147 #[Lv q1, Zs, Lv q2, Zs, Lv q3, Zs, Lv q4, Zs, Lv q5, Zs, Iv p6, Iv (1 : Int32), Iv (1 : Int32), Lv mi1, Zs, Lv ma1, Zs, Rv b_150, Us, Us, Us, Us, Us, Us] [(.ref b_172), (.ref b_172), (.int (1 : Int32)), (.ref b_164), (.ref b_164)])) tt_
      refine XS.iconst X_172.here hEX rfl (hb hBY at_147) ?_
      show Steps p.tables e below (T_172.setTop (mkF m 148 #[Lv q1, Zs, Lv q2, Zs, Lv q3, Zs, Lv q4, Zs, Lv q5, Zs, Iv p6, Iv (1 : Int32), Iv (1 : Int32), Lv mi1, Zs, Lv ma1, Zs, Rv b_150, Us, Us, Us, Us, Us, Us] [(.int (0 : Int32)), (.ref b_172), (.ref b_172), (.int (1 : Int32)), (.ref b_164), (.ref b_164)])) tt_
      refine XS.iconst X_172.here hEX rfl (hb hBY at_148) ?_
      exact kt_
    refine Done.pre sg_181 ?_
    obtain ⟨cl_180, Ar_180, q_180, S_180, N__180, H_180, G_180⟩ := id f_179
    have hin_180 : ¬ ((0 : Int32) < 0 ∨ cl_180.slots.size ≤ ((0 : Int32)).toNatClampNeg) := inb_of S_180 ⟨by decide, by decide⟩
    obtain ⟨T_182, h_182, X_182, e_182, W_182, st_182⟩ := stI X_172 hEX hZW e_172 Ar_180 (j := (0 : Int32)) hin_180 (g := (mkF m 149 #[Lv q1, Zs, Lv q2, Zs, Lv q3, Zs, Lv q4, Zs, Lv q5, Zs, Iv p6, Iv (1 : Int32), Iv (1 : Int32), Lv mi1, Zs, Lv ma1, Zs, Rv b_150, Us, Us, Us, Us, Us, Us] [(.int (0 : Int32)), (.int (0 : Int32)), (.ref b_172), (.ref b_172), (.int (1 : Int32)), (.ref b_164), (.ref b_164)])) rfl rfl (hb hBY at_149)
    have N_182 := Fr.snoc X_182 N_160 ge_b_172
    have K__183 : Keep h0 h_182 [] := K__173.wr W_182 (Or.inr sz_b_172)
    have f_184 : Arv Z h_182 b_150 k_150 .long (2 : Int32) [(.long q2), (.long q1)] (.long (0 : Int64)) := f_174.other W_182 ne_b_150_b_172
    have f_185 : Exa Z h_182 b_164 "com/example/pointcell/pointcell/Leaf" := f_175.wr W_182
    have f_186 : Fld Z h_182 b_164 "com/example/pointcell/pointcell/Leaf" "dimensions" "I" (.int (0 : Int32)) := f_176.other W_182 (Or.inl ne_b_164_b_172)
    have f_187 : Fld Z h_182 b_164 "com/example/pointcell/pointcell/Leaf" "docIds" "[I" .null := f_177.other W_182 (Or.inl ne_b_164_b_172)
    have f_188 : Fld Z h_182 b_164 "com/example/pointcell/pointcell/Leaf" "keys" "[J" .null := f_178.other W_182 (Or.inl ne_b_164_b_172)
    have f_189 : Arv Z h_182 b_172 k_172 .int (2 : Int32) [(.int (0 : Int32)), (.int (0 : Int32))] (.int (0 : Int32)) := Arv.set Ar_180 q_180 S_180 N__180 H_180 G_180 rfl W_182 0 rfl (Nat.le_of_ble_eq_true rfl)
    refine Done.pre st_182 ?_
    show Done _ _ _ _ _ _ _ (T_182.setTop (mkF m 150 #[Lv q1, Zs, Lv q2, Zs, Lv q3, Zs, Lv q4, Zs, Lv q5, Zs, Iv p6, Iv (1 : Int32), Iv (1 : Int32), Lv mi1, Zs, Lv ma1, Zs, Rv b_150, Us, Us, Us, Us, Us, Us] [(.ref b_172), (.int (1 : Int32)), (.ref b_164), (.ref b_164)]))
    have sg_191 : ∀ tt_, Steps p.tables e below (T_182.setTop (mkF m 153 #[Lv q1, Zs, Lv q2, Zs, Lv q3, Zs, Lv q4, Zs, Lv q5, Zs, Iv p6, Iv (1 : Int32), Iv (1 : Int32), Lv mi1, Zs, Lv ma1, Zs, Rv b_150, Us, Us, Us, Us, Us, Us] [(.int (1 : Int32)), (.int (1 : Int32)), (.ref b_172), (.ref b_172), (.int (1 : Int32)), (.ref b_164), (.ref b_164)])) tt_ → Steps p.tables e below (T_182.setTop (mkF m 150 #[Lv q1, Zs, Lv q2, Zs, Lv q3, Zs, Lv q4, Zs, Lv q5, Zs, Iv p6, Iv (1 : Int32), Iv (1 : Int32), Lv mi1, Zs, Lv ma1, Zs, Rv b_150, Us, Us, Us, Us, Us, Us] [(.ref b_172), (.int (1 : Int32)), (.ref b_164), (.ref b_164)])) tt_ := by
      intro tt_ kt_
      refine XS.dup X_182.here hEX rfl (hb hBY at_150) rfl rfl ?_
      show Steps p.tables e below (T_182.setTop (mkF m 151 #[Lv q1, Zs, Lv q2, Zs, Lv q3, Zs, Lv q4, Zs, Lv q5, Zs, Iv p6, Iv (1 : Int32), Iv (1 : Int32), Lv mi1, Zs, Lv ma1, Zs, Rv b_150, Us, Us, Us, Us, Us, Us] [(.ref b_172), (.ref b_172), (.int (1 : Int32)), (.ref b_164), (.ref b_164)])) tt_
      refine XS.iconst X_182.here hEX rfl (hb hBY at_151) ?_
      show Steps p.tables e below (T_182.setTop (mkF m 152 #[Lv q1, Zs, Lv q2, Zs, Lv q3, Zs, Lv q4, Zs, Lv q5, Zs, Iv p6, Iv (1 : Int32), Iv (1 : Int32), Lv mi1, Zs, Lv ma1, Zs, Rv b_150, Us, Us, Us, Us, Us, Us] [(.int (1 : Int32)), (.ref b_172), (.ref b_172), (.int (1 : Int32)), (.ref b_164), (.ref b_164)])) tt_
      refine XS.iconst X_182.here hEX rfl (hb hBY at_152) ?_
      exact kt_
    refine Done.pre sg_191 ?_
    obtain ⟨cl_190, Ar_190, q_190, S_190, N__190, H_190, G_190⟩ := id f_189
    have hin_190 : ¬ ((1 : Int32) < 0 ∨ cl_190.slots.size ≤ ((1 : Int32)).toNatClampNeg) := inb_of S_190 ⟨by decide, by decide⟩
    obtain ⟨T_192, h_192, X_192, e_192, W_192, st_192⟩ := stI X_182 hEX hZW e_182 Ar_190 (j := (1 : Int32)) hin_190 (g := (mkF m 153 #[Lv q1, Zs, Lv q2, Zs, Lv q3, Zs, Lv q4, Zs, Lv q5, Zs, Iv p6, Iv (1 : Int32), Iv (1 : Int32), Lv mi1, Zs, Lv ma1, Zs, Rv b_150, Us, Us, Us, Us, Us, Us] [(.int (1 : Int32)), (.int (1 : Int32)), (.ref b_172), (.ref b_172), (.int (1 : Int32)), (.ref b_164), (.ref b_164)])) rfl rfl (hb hBY at_153)
    have N_192 := Fr.snoc X_192 N_182 ge_b_172
    have K__193 : Keep h0 h_192 [] := K__183.wr W_192 (Or.inr sz_b_172)
    have f_194 : Arv Z h_192 b_150 k_150 .long (2 : Int32) [(.long q2), (.long q1)] (.long (0 : Int64)) := f_184.other W_192 ne_b_150_b_172
    have f_195 : Exa Z h_192 b_164 "com/example/pointcell/pointcell/Leaf" := f_185.wr W_192
    have f_196 : Fld Z h_192 b_164 "com/example/pointcell/pointcell/Leaf" "dimensions" "I" (.int (0 : Int32)) := f_186.other W_192 (Or.inl ne_b_164_b_172)
    have f_197 : Fld Z h_192 b_164 "com/example/pointcell/pointcell/Leaf" "docIds" "[I" .null := f_187.other W_192 (Or.inl ne_b_164_b_172)
    have f_198 : Fld Z h_192 b_164 "com/example/pointcell/pointcell/Leaf" "keys" "[J" .null := f_188.other W_192 (Or.inl ne_b_164_b_172)
    have f_199 : Arv Z h_192 b_172 k_172 .int (2 : Int32) [(.int (0 : Int32)), (.int (1 : Int32))] (.int (0 : Int32)) := Arv.set Ar_190 q_190 S_190 N__190 H_190 G_190 rfl W_192 1 rfl (Nat.le_of_ble_eq_true rfl)
    refine Done.pre st_192 ?_
    show Done _ _ _ _ _ _ _ (T_192.setTop (mkF m 154 #[Lv q1, Zs, Lv q2, Zs, Lv q3, Zs, Lv q4, Zs, Lv q5, Zs, Iv p6, Iv (1 : Int32), Iv (1 : Int32), Lv mi1, Zs, Lv ma1, Zs, Rv b_150, Us, Us, Us, Us, Us, Us] [(.ref b_172), (.int (1 : Int32)), (.ref b_164), (.ref b_164)]))
    have sg_200 : ∀ tt_, Steps p.tables e below (T_192.setTop (mkF m 156 #[Lv q1, Zs, Lv q2, Zs, Lv q3, Zs, Lv q4, Zs, Lv q5, Zs, Iv p6, Iv (1 : Int32), Iv (1 : Int32), Lv mi1, Zs, Lv ma1, Zs, Rv b_150, Us, Us, Us, Us, Us, Us] [(.ref b_150), (.ref b_172), (.int (1 : Int32)), (.ref b_164), (.ref b_164)])) tt_ → Steps p.tables e below (T_192.setTop (mkF m 154 #[Lv q1, Zs, Lv q2, Zs, Lv q3, Zs, Lv q4, Zs, Lv q5, Zs, Iv p6, Iv (1 : Int32), Iv (1 : Int32), Lv mi1, Zs, Lv ma1, Zs, Rv b_150, Us, Us, Us, Us, Us, Us] [(.ref b_172), (.int (1 : Int32)), (.ref b_164), (.ref b_164)])) tt_ := by
      intro tt_ kt_
      refine XS.aload X_192.here hEX rfl (hb hBY at_154) rfl rfl ?_
      exact kt_
    refine Done.pre sg_200 ?_
    obtain ⟨_, _, ⟨T_201, L_201, k_201, n_201⟩, -, X_201, ⟨Lc_201, hQ_201, l_201, y_201, z_201⟩, st_201⟩ := X_192.specialBack hEX (y := (⟨"com/example/pointcell/pointcell/Leaf", "<init>", "(I[I[J)V"⟩ : MethodName)) rfl hOW (mvT hZW (hw _ (List.mem_of_getElem? (i := 9) rfl))) (mvT hZW (hw _ (List.mem_of_getElem? (i := 10) rfl))) (mvT hZW (hw _ (List.mem_of_getElem? (i := 11) rfl))) (by decide) (backOf (W := 1) (rm_init l Z aZ hw [] b_164 (1 : Int32) b_172 b_150 (.int (0 : Int32)) .null .null h_192 n0 (Nat.le_trans Z0 K__193.1) f_195 f_196 f_197 f_198 ge_b_164) hZW (hw _ (List.mem_of_getElem? (i := 11) rfl)) (hw _ (List.mem_of_getElem? (i := 7) rfl)) (by decide) (by decide)) (g := (mkF m 156 #[Lv q1, Zs, Lv q2, Zs, Lv q3, Zs, Lv q4, Zs, Lv q5, Zs, Iv p6, Iv (1 : Int32), Iv (1 : Int32), Lv mi1, Zs, Lv ma1, Zs, Rv b_150, Us, Us, Us, Us, Us, Us] [(.ref b_150), (.ref b_172), (.int (1 : Int32)), (.ref b_164), (.ref b_164)])) rfl (by rw [hMX]; rfl) (Steps.refl _) (a := b_164) (argsL := [(.int (1 : Int32)), (.ref b_172), (.ref b_150)]) (rest := [(.ref b_164)]) (lenOf pd__I_I_J_V_2 rfl) rfl (by show 2 * 0 + _ ≤ _; exact Nat.le_of_eq rfl) (hb hBY at_156) (fun _ _ => ⟨rfl, e_192, (by decide : 3 + 0 ≤ _), (by decide : 7 + 0 ≤ _)⟩)
    dsimp only [Pt.U, Pt.locs, Pt.cells, Pt.slots] at X_201 l_201 y_201 z_201 st_201 hQ_201
    subst l_201 y_201 z_201
    obtain ⟨rfl, N_201q, K_201, hq_201_0, hq_201_1, hq_201_2, hq_201_3⟩ := hQ_201
    have N_201 := Fr.app N_192 N_201q
    have K__202 : Keep h0 T_201.heap [] := K__193.trans K_201 (allS (Or.inr sz_b_164) all0)
    have f_203 : Arv Z T_201.heap b_150 k_150 .long (2 : Int32) [(.long q2), (.long q1)] (.long (0 : Int64)) := f_194.keep K_201 (ninS ne_b_150_b_164 nin0)
    have f_204 : Exa Z T_201.heap b_164 "com/example/pointcell/pointcell/Leaf" := f_195.keep K_201
    have f_205 : Arv Z T_201.heap b_172 k_172 .int (2 : Int32) [(.int (0 : Int32)), (.int (1 : Int32))] (.int (0 : Int32)) := f_199.keep K_201 (ninS (Ne.symm ne_b_164_b_172) nin0)
    refine Done.pre (fun _ k_ => st_201.trans k_) ?_
    show Done _ _ _ _ _ _ _ (T_201.setTop (mkF m 159 #[Lv q1, Zs, Lv q2, Zs, Lv q3, Zs, Lv q4, Zs, Lv q5, Zs, Iv p6, Iv (1 : Int32), Iv (1 : Int32), Lv mi1, Zs, Lv ma1, Zs, Rv b_150, Us, Us, Us, Us, Us, Us] [(.ref b_164)]))
    have sg_206 : ∀ tt_, Steps p.tables e below (T_201.setTop (mkF m 162 #[Lv q1, Zs, Lv q2, Zs, Lv q3, Zs, Lv q4, Zs, Lv q5, Zs, Iv p6, Iv (1 : Int32), Iv (1 : Int32), Lv mi1, Zs, Lv ma1, Zs, Rv b_150, Rv b_164, Us, Us, Us, Us, Us] [(.int (2 : Int32))])) tt_ → Steps p.tables e below (T_201.setTop (mkF m 159 #[Lv q1, Zs, Lv q2, Zs, Lv q3, Zs, Lv q4, Zs, Lv q5, Zs, Iv p6, Iv (1 : Int32), Iv (1 : Int32), Lv mi1, Zs, Lv ma1, Zs, Rv b_150, Us, Us, Us, Us, Us, Us] [(.ref b_164)])) tt_ := by
      intro tt_ kt_
      refine XS.astore X_201.here hEX rfl (hb hBY at_159) rfl rfl (l' := #[Lv q1, Zs, Lv q2, Zs, Lv q3, Zs, Lv q4, Zs, Lv q5, Zs, Iv p6, Iv (1 : Int32), Iv (1 : Int32), Lv mi1, Zs, Lv ma1, Zs, Rv b_150, Rv b_164, Us, Us, Us, Us, Us]) rfl ?_
      show Steps p.tables e below (T_201.setTop (mkF m 161 #[Lv q1, Zs, Lv q2, Zs, Lv q3, Zs, Lv q4, Zs, Lv q5, Zs, Iv p6, Iv (1 : Int32), Iv (1 : Int32), Lv mi1, Zs, Lv ma1, Zs, Rv b_150, Rv b_164, Us, Us, Us, Us, Us] [])) tt_
      refine XS.iconst X_201.here hEX rfl (hb hBY at_161) ?_
      exact kt_
    refine Done.pre sg_206 ?_
    obtain ⟨T_207, h_207, k_207, X_207, e_207, E_207, A_207, st_207⟩ := newP X_201 hEX hZW (hw _ (List.mem_of_getElem? (i := 4) rfl)) rfl (g := (mkF m 162 #[Lv q1, Zs, Lv q2, Zs, Lv q3, Zs, Lv q4, Zs, Lv q5, Zs, Iv p6, Iv (1 : Int32), Iv (1 : Int32), Lv mi1, Zs, Lv ma1, Zs, Rv b_150, Rv b_164, Us, Us, Us, Us, Us] [(.int (2 : Int32))])) rfl (hb hBY at_162) rfl (by decide) (cap := 2) (by decide) (by decide) (by decide) (by decide)
    obtain ⟨b_207, g_207⟩ : ∃ z, z = T_201.heap.size := ⟨_, rfl⟩
    rw [← g_207] at A_207 st_207
    have sz_b_207 : h0.size ≤ b_207 := Nat.le_trans K__202.1 (Nat.le_of_eq g_207.symm)
    have ge_b_207 : n0 ≤ b_207 := Nat.le_trans Z0 sz_b_207
    have ne_b_150_b_207 : b_150 ≠ b_207 := Nat.ne_of_lt (Nat.lt_of_lt_of_le f_203.lt (Nat.le_of_eq g_207.symm))
    have ne_b_164_b_207 : b_164 ≠ b_207 := Nat.ne_of_lt (Nat.lt_of_lt_of_le hq_201_0.lt (Nat.le_of_eq g_207.symm))
    have ne_b_172_b_207 : b_172 ≠ b_207 := Nat.ne_of_lt (Nat.lt_of_lt_of_le f_205.lt (Nat.le_of_eq g_207.symm))
    have K__208 : Keep h0 h_207 [] := K__202.ext E_207
    have f_209 : Arv Z h_207 b_150 k_150 .long (2 : Int32) [(.long q2), (.long q1)] (.long (0 : Int64)) := f_203.ext E_207
    have f_210 : Exa Z h_207 b_164 "com/example/pointcell/pointcell/Leaf" := hq_201_0.ext E_207
    have f_211 : Arv Z h_207 b_172 k_172 .int (2 : Int32) [(.int (0 : Int32)), (.int (1 : Int32))] (.int (0 : Int32)) := f_205.ext E_207
    have f_212 : Fld Z h_207 b_164 "com/example/pointcell/pointcell/Leaf" "dimensions" "I" (.int (1 : Int32)) := hq_201_1.ext E_207
    have f_213 : Fld Z h_207 b_164 "com/example/pointcell/pointcell/Leaf" "docIds" "[I" (.ref b_172) := hq_201_2.ext E_207
    have f_214 : Fld Z h_207 b_164 "com/example/pointcell/pointcell/Leaf" "keys" "[J" (.ref b_150) := hq_201_3.ext E_207
    have f_215 : Arv Z h_207 b_207 k_207 .long (2 : Int32) [(.long (0 : Int64)), (.long (0 : Int64))] (.long (0 : Int64)) := (Arv.new A_207 (by decide)).pad (pad_rep [] (.long (0 : Int64)) 2)
    refine Done.pre st_207 ?_
    show Done _ _ _ _ _ _ _ (T_207.setTop (mkF m 164 #[Lv q1, Zs, Lv q2, Zs, Lv q3, Zs, Lv q4, Zs, Lv q5, Zs, Iv p6, Iv (1 : Int32), Iv (1 : Int32), Lv mi1, Zs, Lv ma1, Zs, Rv b_150, Rv b_164, Us, Us, Us, Us, Us] [(.ref b_207)]))
    have sg_217 : ∀ tt_, Steps p.tables e below (T_207.setTop (mkF m 168 #[Lv q1, Zs, Lv q2, Zs, Lv q3, Zs, Lv q4, Zs, Lv q5, Zs, Iv p6, Iv (1 : Int32), Iv (1 : Int32), Lv mi1, Zs, Lv ma1, Zs, Rv b_150, Rv b_164, Us, Us, Us, Us, Us] [(.long q3), (.int (0 : Int32)), (.ref b_207), (.ref b_207)])) tt_ → Steps p.tables e below (T_207.setTop (mkF m 164 #[Lv q1, Zs, Lv q2, Zs, Lv q3, Zs, Lv q4, Zs, Lv q5, Zs, Iv p6, Iv (1 : Int32), Iv (1 : Int32), Lv mi1, Zs, Lv ma1, Zs, Rv b_150, Rv b_164, Us, Us, Us, Us, Us] [(.ref b_207)])) tt_ := by
      intro tt_ kt_
      refine XS.dup X_207.here hEX rfl (hb hBY at_164) rfl rfl ?_
      show Steps p.tables e below (T_207.setTop (mkF m 165 #[Lv q1, Zs, Lv q2, Zs, Lv q3, Zs, Lv q4, Zs, Lv q5, Zs, Iv p6, Iv (1 : Int32), Iv (1 : Int32), Lv mi1, Zs, Lv ma1, Zs, Rv b_150, Rv b_164, Us, Us, Us, Us, Us] [(.ref b_207), (.ref b_207)])) tt_
      refine XS.iconst X_207.here hEX rfl (hb hBY at_165) ?_
      show Steps p.tables e below (T_207.setTop (mkF m 166 #[Lv q1, Zs, Lv q2, Zs, Lv q3, Zs, Lv q4, Zs, Lv q5, Zs, Iv p6, Iv (1 : Int32), Iv (1 : Int32), Lv mi1, Zs, Lv ma1, Zs, Rv b_150, Rv b_164, Us, Us, Us, Us, Us] [(.int (0 : Int32)), (.ref b_207), (.ref b_207)])) tt_
      refine XS.lload X_207.here hEX rfl (hb hBY at_166) rfl ?_
      exact kt_
    refine Done.pre sg_217 ?_
    obtain ⟨cl_216, Ar_216, q_216, S_216, N__216, H_216, G_216⟩ := id f_215
    have hin_216 : ¬ ((0 : Int32) < 0 ∨ cl_216.slots.size ≤ ((0 : Int32)).toNatClampNeg) := inb_of S_216 ⟨by decide, by decide⟩
    obtain ⟨T_218, h_218, X_218, e_218, W_218, st_218⟩ := stJ X_207 hEX hZW e_207 Ar_216 (j := (0 : Int32)) hin_216 (g := (mkF m 168 #[Lv q1, Zs, Lv q2, Zs, Lv q3, Zs, Lv q4, Zs, Lv q5, Zs, Iv p6, Iv (1 : Int32), Iv (1 : Int32), Lv mi1, Zs, Lv ma1, Zs, Rv b_150, Rv b_164, Us, Us, Us, Us, Us] [(.long q3), (.int (0 : Int32)), (.ref b_207), (.ref b_207)])) rfl rfl (hb hBY at_168)
    have N_218 := Fr.snoc X_218 N_201 ge_b_207
    have K__219 : Keep h0 h_218 [] := K__208.wr W_218 (Or.inr sz_b_207)
    have f_220 : Arv Z h_218 b_150 k_150 .long (2 : Int32) [(.long q2), (.long q1)] (.long (0 : Int64)) := f_209.other W_218 ne_b_150_b_207
    have f_221 : Exa Z h_218 b_164 "com/example/pointcell/pointcell/Leaf" := f_210.wr W_218
    have f_222 : Arv Z h_218 b_172 k_172 .int (2 : Int32) [(.int (0 : Int32)), (.int (1 : Int32))] (.int (0 : Int32)) := f_211.other W_218 ne_b_172_b_207
    have f_223 : Fld Z h_218 b_164 "com/example/pointcell/pointcell/Leaf" "dimensions" "I" (.int (1 : Int32)) := f_212.other W_218 (Or.inl ne_b_164_b_207)
    have f_224 : Fld Z h_218 b_164 "com/example/pointcell/pointcell/Leaf" "docIds" "[I" (.ref b_172) := f_213.other W_218 (Or.inl ne_b_164_b_207)
    have f_225 : Fld Z h_218 b_164 "com/example/pointcell/pointcell/Leaf" "keys" "[J" (.ref b_150) := f_214.other W_218 (Or.inl ne_b_164_b_207)
    have f_226 : Arv Z h_218 b_207 k_207 .long (2 : Int32) [(.long q3), (.long (0 : Int64))] (.long (0 : Int64)) := Arv.set Ar_216 q_216 S_216 N__216 H_216 G_216 rfl W_218 0 rfl (Nat.le_of_ble_eq_true rfl)
    refine Done.pre st_218 ?_
    show Done _ _ _ _ _ _ _ (T_218.setTop (mkF m 169 #[Lv q1, Zs, Lv q2, Zs, Lv q3, Zs, Lv q4, Zs, Lv q5, Zs, Iv p6, Iv (1 : Int32), Iv (1 : Int32), Lv mi1, Zs, Lv ma1, Zs, Rv b_150, Rv b_164, Us, Us, Us, Us, Us] [(.ref b_207)]))
    have sg_228 : ∀ tt_, Steps p.tables e below (T_218.setTop (mkF m 173 #[Lv q1, Zs, Lv q2, Zs, Lv q3, Zs, Lv q4, Zs, Lv q5, Zs, Iv p6, Iv (1 : Int32), Iv (1 : Int32), Lv mi1, Zs, Lv ma1, Zs, Rv b_150, Rv b_164, Us, Us, Us, Us, Us] [(.long mi1), (.int (1 : Int32)), (.ref b_207), (.ref b_207)])) tt_ → Steps p.tables e below (T_218.setTop (mkF m 169 #[Lv q1, Zs, Lv q2, Zs, Lv q3, Zs, Lv q4, Zs, Lv q5, Zs, Iv p6, Iv (1 : Int32), Iv (1 : Int32), Lv mi1, Zs, Lv ma1, Zs, Rv b_150, Rv b_164, Us, Us, Us, Us, Us] [(.ref b_207)])) tt_ := by
      intro tt_ kt_
      refine XS.dup X_218.here hEX rfl (hb hBY at_169) rfl rfl ?_
      show Steps p.tables e below (T_218.setTop (mkF m 170 #[Lv q1, Zs, Lv q2, Zs, Lv q3, Zs, Lv q4, Zs, Lv q5, Zs, Iv p6, Iv (1 : Int32), Iv (1 : Int32), Lv mi1, Zs, Lv ma1, Zs, Rv b_150, Rv b_164, Us, Us, Us, Us, Us] [(.ref b_207), (.ref b_207)])) tt_
      refine XS.iconst X_218.here hEX rfl (hb hBY at_170) ?_
      show Steps p.tables e below (T_218.setTop (mkF m 171 #[Lv q1, Zs, Lv q2, Zs, Lv q3, Zs, Lv q4, Zs, Lv q5, Zs, Iv p6, Iv (1 : Int32), Iv (1 : Int32), Lv mi1, Zs, Lv ma1, Zs, Rv b_150, Rv b_164, Us, Us, Us, Us, Us] [(.int (1 : Int32)), (.ref b_207), (.ref b_207)])) tt_
      refine XS.lload X_218.here hEX rfl (hb hBY at_171) rfl ?_
      exact kt_
    refine Done.pre sg_228 ?_
    obtain ⟨cl_227, Ar_227, q_227, S_227, N__227, H_227, G_227⟩ := id f_226
    have hin_227 : ¬ ((1 : Int32) < 0 ∨ cl_227.slots.size ≤ ((1 : Int32)).toNatClampNeg) := inb_of S_227 ⟨by decide, by decide⟩
    obtain ⟨T_229, h_229, X_229, e_229, W_229, st_229⟩ := stJ X_218 hEX hZW e_218 Ar_227 (j := (1 : Int32)) hin_227 (g := (mkF m 173 #[Lv q1, Zs, Lv q2, Zs, Lv q3, Zs, Lv q4, Zs, Lv q5, Zs, Iv p6, Iv (1 : Int32), Iv (1 : Int32), Lv mi1, Zs, Lv ma1, Zs, Rv b_150, Rv b_164, Us, Us, Us, Us, Us] [(.long mi1), (.int (1 : Int32)), (.ref b_207), (.ref b_207)])) rfl rfl (hb hBY at_173)
    have N_229 := Fr.snoc X_229 N_218 ge_b_207
    have K__230 : Keep h0 h_229 [] := K__219.wr W_229 (Or.inr sz_b_207)
    have f_231 : Arv Z h_229 b_150 k_150 .long (2 : Int32) [(.long q2), (.long q1)] (.long (0 : Int64)) := f_220.other W_229 ne_b_150_b_207
    have f_232 : Exa Z h_229 b_164 "com/example/pointcell/pointcell/Leaf" := f_221.wr W_229
    have f_233 : Arv Z h_229 b_172 k_172 .int (2 : Int32) [(.int (0 : Int32)), (.int (1 : Int32))] (.int (0 : Int32)) := f_222.other W_229 ne_b_172_b_207
    have f_234 : Fld Z h_229 b_164 "com/example/pointcell/pointcell/Leaf" "dimensions" "I" (.int (1 : Int32)) := f_223.other W_229 (Or.inl ne_b_164_b_207)
    have f_235 : Fld Z h_229 b_164 "com/example/pointcell/pointcell/Leaf" "docIds" "[I" (.ref b_172) := f_224.other W_229 (Or.inl ne_b_164_b_207)
    have f_236 : Fld Z h_229 b_164 "com/example/pointcell/pointcell/Leaf" "keys" "[J" (.ref b_150) := f_225.other W_229 (Or.inl ne_b_164_b_207)
    have f_237 : Arv Z h_229 b_207 k_207 .long (2 : Int32) [(.long q3), (.long mi1)] (.long (0 : Int64)) := Arv.set Ar_227 q_227 S_227 N__227 H_227 G_227 rfl W_229 1 rfl (Nat.le_of_ble_eq_true rfl)
    refine Done.pre st_229 ?_
    show Done _ _ _ _ _ _ _ (T_229.setTop (mkF m 174 #[Lv q1, Zs, Lv q2, Zs, Lv q3, Zs, Lv q4, Zs, Lv q5, Zs, Iv p6, Iv (1 : Int32), Iv (1 : Int32), Lv mi1, Zs, Lv ma1, Zs, Rv b_150, Rv b_164, Us, Us, Us, Us, Us] [(.ref b_207)]))
    have sg_238 : ∀ tt_, Steps p.tables e below (T_229.setTop (mkF m 177 #[Lv q1, Zs, Lv q2, Zs, Lv q3, Zs, Lv q4, Zs, Lv q5, Zs, Iv p6, Iv (1 : Int32), Iv (1 : Int32), Lv mi1, Zs, Lv ma1, Zs, Rv b_150, Rv b_164, Rv b_207, Us, Us, Us, Us] [(.int (2 : Int32))])) tt_ → Steps p.tables e below (T_229.setTop (mkF m 174 #[Lv q1, Zs, Lv q2, Zs, Lv q3, Zs, Lv q4, Zs, Lv q5, Zs, Iv p6, Iv (1 : Int32), Iv (1 : Int32), Lv mi1, Zs, Lv ma1, Zs, Rv b_150, Rv b_164, Us, Us, Us, Us, Us] [(.ref b_207)])) tt_ := by
      intro tt_ kt_
      refine XS.astore X_229.here hEX rfl (hb hBY at_174) rfl rfl (l' := #[Lv q1, Zs, Lv q2, Zs, Lv q3, Zs, Lv q4, Zs, Lv q5, Zs, Iv p6, Iv (1 : Int32), Iv (1 : Int32), Lv mi1, Zs, Lv ma1, Zs, Rv b_150, Rv b_164, Rv b_207, Us, Us, Us, Us]) rfl ?_
      show Steps p.tables e below (T_229.setTop (mkF m 176 #[Lv q1, Zs, Lv q2, Zs, Lv q3, Zs, Lv q4, Zs, Lv q5, Zs, Iv p6, Iv (1 : Int32), Iv (1 : Int32), Lv mi1, Zs, Lv ma1, Zs, Rv b_150, Rv b_164, Rv b_207, Us, Us, Us, Us] [])) tt_
      refine XS.iconst X_229.here hEX rfl (hb hBY at_176) ?_
      exact kt_
    refine Done.pre sg_238 ?_
    obtain ⟨T_239, h_239, k_239, X_239, e_239, E_239, A_239, st_239⟩ := newP X_229 hEX hZW (hw _ (List.mem_of_getElem? (i := 4) rfl)) e_229 (g := (mkF m 177 #[Lv q1, Zs, Lv q2, Zs, Lv q3, Zs, Lv q4, Zs, Lv q5, Zs, Iv p6, Iv (1 : Int32), Iv (1 : Int32), Lv mi1, Zs, Lv ma1, Zs, Rv b_150, Rv b_164, Rv b_207, Us, Us, Us, Us] [(.int (2 : Int32))])) rfl (hb hBY at_177) rfl (by decide) (cap := 2) (by decide) (by decide) (by decide) (by decide)
    obtain ⟨b_239, g_239⟩ : ∃ z, z = h_229.size := ⟨_, rfl⟩
    rw [← g_239] at A_239 st_239
    have sz_b_239 : h0.size ≤ b_239 := Nat.le_trans K__230.1 (Nat.le_of_eq g_239.symm)
    have ge_b_239 : n0 ≤ b_239 := Nat.le_trans Z0 sz_b_239
    have ne_b_150_b_239 : b_150 ≠ b_239 := Nat.ne_of_lt (Nat.lt_of_lt_of_le f_231.lt (Nat.le_of_eq g_239.symm))
    have ne_b_164_b_239 : b_164 ≠ b_239 := Nat.ne_of_lt (Nat.lt_of_lt_of_le f_232.lt (Nat.le_of_eq g_239.symm))
    have ne_b_172_b_239 : b_172 ≠ b_239 := Nat.ne_of_lt (Nat.lt_of_lt_of_le f_233.lt (Nat.le_of_eq g_239.symm))
    have ne_b_207_b_239 : b_207 ≠ b_239 := Nat.ne_of_lt (Nat.lt_of_lt_of_le f_237.lt (Nat.le_of_eq g_239.symm))
    have K__240 : Keep h0 h_239 [] := K__230.ext E_239
    have f_241 : Arv Z h_239 b_150 k_150 .long (2 : Int32) [(.long q2), (.long q1)] (.long (0 : Int64)) := f_231.ext E_239
    have f_242 : Exa Z h_239 b_164 "com/example/pointcell/pointcell/Leaf" := f_232.ext E_239
    have f_243 : Arv Z h_239 b_172 k_172 .int (2 : Int32) [(.int (0 : Int32)), (.int (1 : Int32))] (.int (0 : Int32)) := f_233.ext E_239
    have f_244 : Fld Z h_239 b_164 "com/example/pointcell/pointcell/Leaf" "dimensions" "I" (.int (1 : Int32)) := f_234.ext E_239
    have f_245 : Fld Z h_239 b_164 "com/example/pointcell/pointcell/Leaf" "docIds" "[I" (.ref b_172) := f_235.ext E_239
    have f_246 : Fld Z h_239 b_164 "com/example/pointcell/pointcell/Leaf" "keys" "[J" (.ref b_150) := f_236.ext E_239
    have f_247 : Arv Z h_239 b_207 k_207 .long (2 : Int32) [(.long q3), (.long mi1)] (.long (0 : Int64)) := f_237.ext E_239
    have f_248 : Arv Z h_239 b_239 k_239 .long (2 : Int32) [(.long (0 : Int64)), (.long (0 : Int64))] (.long (0 : Int64)) := (Arv.new A_239 (by decide)).pad (pad_rep [] (.long (0 : Int64)) 2)
    refine Done.pre st_239 ?_
    show Done _ _ _ _ _ _ _ (T_239.setTop (mkF m 179 #[Lv q1, Zs, Lv q2, Zs, Lv q3, Zs, Lv q4, Zs, Lv q5, Zs, Iv p6, Iv (1 : Int32), Iv (1 : Int32), Lv mi1, Zs, Lv ma1, Zs, Rv b_150, Rv b_164, Rv b_207, Us, Us, Us, Us] [(.ref b_239)]))
    have sg_250 : ∀ tt_, Steps p.tables e below (T_239.setTop (mkF m 183 #[Lv q1, Zs, Lv q2, Zs, Lv q3, Zs, Lv q4, Zs, Lv q5, Zs, Iv p6, Iv (1 : Int32), Iv (1 : Int32), Lv mi1, Zs, Lv ma1, Zs, Rv b_150, Rv b_164, Rv b_207, Us, Us, Us, Us] [(.long q4), (.int (0 : Int32)), (.ref b_239), (.ref b_239)])) tt_ → Steps p.tables e below (T_239.setTop (mkF m 179 #[Lv q1, Zs, Lv q2, Zs, Lv q3, Zs, Lv q4, Zs, Lv q5, Zs, Iv p6, Iv (1 : Int32), Iv (1 : Int32), Lv mi1, Zs, Lv ma1, Zs, Rv b_150, Rv b_164, Rv b_207, Us, Us, Us, Us] [(.ref b_239)])) tt_ := by
      intro tt_ kt_
      refine XS.dup X_239.here hEX rfl (hb hBY at_179) rfl rfl ?_
      show Steps p.tables e below (T_239.setTop (mkF m 180 #[Lv q1, Zs, Lv q2, Zs, Lv q3, Zs, Lv q4, Zs, Lv q5, Zs, Iv p6, Iv (1 : Int32), Iv (1 : Int32), Lv mi1, Zs, Lv ma1, Zs, Rv b_150, Rv b_164, Rv b_207, Us, Us, Us, Us] [(.ref b_239), (.ref b_239)])) tt_
      refine XS.iconst X_239.here hEX rfl (hb hBY at_180) ?_
      show Steps p.tables e below (T_239.setTop (mkF m 181 #[Lv q1, Zs, Lv q2, Zs, Lv q3, Zs, Lv q4, Zs, Lv q5, Zs, Iv p6, Iv (1 : Int32), Iv (1 : Int32), Lv mi1, Zs, Lv ma1, Zs, Rv b_150, Rv b_164, Rv b_207, Us, Us, Us, Us] [(.int (0 : Int32)), (.ref b_239), (.ref b_239)])) tt_
      refine XS.lload X_239.here hEX rfl (hb hBY at_181) rfl ?_
      exact kt_
    refine Done.pre sg_250 ?_
    obtain ⟨cl_249, Ar_249, q_249, S_249, N__249, H_249, G_249⟩ := id f_248
    have hin_249 : ¬ ((0 : Int32) < 0 ∨ cl_249.slots.size ≤ ((0 : Int32)).toNatClampNeg) := inb_of S_249 ⟨by decide, by decide⟩
    obtain ⟨T_251, h_251, X_251, e_251, W_251, st_251⟩ := stJ X_239 hEX hZW e_239 Ar_249 (j := (0 : Int32)) hin_249 (g := (mkF m 183 #[Lv q1, Zs, Lv q2, Zs, Lv q3, Zs, Lv q4, Zs, Lv q5, Zs, Iv p6, Iv (1 : Int32), Iv (1 : Int32), Lv mi1, Zs, Lv ma1, Zs, Rv b_150, Rv b_164, Rv b_207, Us, Us, Us, Us] [(.long q4), (.int (0 : Int32)), (.ref b_239), (.ref b_239)])) rfl rfl (hb hBY at_183)
    have N_251 := Fr.snoc X_251 N_229 ge_b_239
    have K__252 : Keep h0 h_251 [] := K__240.wr W_251 (Or.inr sz_b_239)
    have f_253 : Arv Z h_251 b_150 k_150 .long (2 : Int32) [(.long q2), (.long q1)] (.long (0 : Int64)) := f_241.other W_251 ne_b_150_b_239
    have f_254 : Exa Z h_251 b_164 "com/example/pointcell/pointcell/Leaf" := f_242.wr W_251
    have f_255 : Arv Z h_251 b_172 k_172 .int (2 : Int32) [(.int (0 : Int32)), (.int (1 : Int32))] (.int (0 : Int32)) := f_243.other W_251 ne_b_172_b_239
    have f_256 : Fld Z h_251 b_164 "com/example/pointcell/pointcell/Leaf" "dimensions" "I" (.int (1 : Int32)) := f_244.other W_251 (Or.inl ne_b_164_b_239)
    have f_257 : Fld Z h_251 b_164 "com/example/pointcell/pointcell/Leaf" "docIds" "[I" (.ref b_172) := f_245.other W_251 (Or.inl ne_b_164_b_239)
    have f_258 : Fld Z h_251 b_164 "com/example/pointcell/pointcell/Leaf" "keys" "[J" (.ref b_150) := f_246.other W_251 (Or.inl ne_b_164_b_239)
    have f_259 : Arv Z h_251 b_207 k_207 .long (2 : Int32) [(.long q3), (.long mi1)] (.long (0 : Int64)) := f_247.other W_251 ne_b_207_b_239
    have f_260 : Arv Z h_251 b_239 k_239 .long (2 : Int32) [(.long q4), (.long (0 : Int64))] (.long (0 : Int64)) := Arv.set Ar_249 q_249 S_249 N__249 H_249 G_249 rfl W_251 0 rfl (Nat.le_of_ble_eq_true rfl)
    refine Done.pre st_251 ?_
    show Done _ _ _ _ _ _ _ (T_251.setTop (mkF m 184 #[Lv q1, Zs, Lv q2, Zs, Lv q3, Zs, Lv q4, Zs, Lv q5, Zs, Iv p6, Iv (1 : Int32), Iv (1 : Int32), Lv mi1, Zs, Lv ma1, Zs, Rv b_150, Rv b_164, Rv b_207, Us, Us, Us, Us] [(.ref b_239)]))
    have sg_262 : ∀ tt_, Steps p.tables e below (T_251.setTop (mkF m 188 #[Lv q1, Zs, Lv q2, Zs, Lv q3, Zs, Lv q4, Zs, Lv q5, Zs, Iv p6, Iv (1 : Int32), Iv (1 : Int32), Lv mi1, Zs, Lv ma1, Zs, Rv b_150, Rv b_164, Rv b_207, Us, Us, Us, Us] [(.long ma1), (.int (1 : Int32)), (.ref b_239), (.ref b_239)])) tt_ → Steps p.tables e below (T_251.setTop (mkF m 184 #[Lv q1, Zs, Lv q2, Zs, Lv q3, Zs, Lv q4, Zs, Lv q5, Zs, Iv p6, Iv (1 : Int32), Iv (1 : Int32), Lv mi1, Zs, Lv ma1, Zs, Rv b_150, Rv b_164, Rv b_207, Us, Us, Us, Us] [(.ref b_239)])) tt_ := by
      intro tt_ kt_
      refine XS.dup X_251.here hEX rfl (hb hBY at_184) rfl rfl ?_
      show Steps p.tables e below (T_251.setTop (mkF m 185 #[Lv q1, Zs, Lv q2, Zs, Lv q3, Zs, Lv q4, Zs, Lv q5, Zs, Iv p6, Iv (1 : Int32), Iv (1 : Int32), Lv mi1, Zs, Lv ma1, Zs, Rv b_150, Rv b_164, Rv b_207, Us, Us, Us, Us] [(.ref b_239), (.ref b_239)])) tt_
      refine XS.iconst X_251.here hEX rfl (hb hBY at_185) ?_
      show Steps p.tables e below (T_251.setTop (mkF m 186 #[Lv q1, Zs, Lv q2, Zs, Lv q3, Zs, Lv q4, Zs, Lv q5, Zs, Iv p6, Iv (1 : Int32), Iv (1 : Int32), Lv mi1, Zs, Lv ma1, Zs, Rv b_150, Rv b_164, Rv b_207, Us, Us, Us, Us] [(.int (1 : Int32)), (.ref b_239), (.ref b_239)])) tt_
      refine XS.lload X_251.here hEX rfl (hb hBY at_186) rfl ?_
      exact kt_
    refine Done.pre sg_262 ?_
    obtain ⟨cl_261, Ar_261, q_261, S_261, N__261, H_261, G_261⟩ := id f_260
    have hin_261 : ¬ ((1 : Int32) < 0 ∨ cl_261.slots.size ≤ ((1 : Int32)).toNatClampNeg) := inb_of S_261 ⟨by decide, by decide⟩
    obtain ⟨T_263, h_263, X_263, e_263, W_263, st_263⟩ := stJ X_251 hEX hZW e_251 Ar_261 (j := (1 : Int32)) hin_261 (g := (mkF m 188 #[Lv q1, Zs, Lv q2, Zs, Lv q3, Zs, Lv q4, Zs, Lv q5, Zs, Iv p6, Iv (1 : Int32), Iv (1 : Int32), Lv mi1, Zs, Lv ma1, Zs, Rv b_150, Rv b_164, Rv b_207, Us, Us, Us, Us] [(.long ma1), (.int (1 : Int32)), (.ref b_239), (.ref b_239)])) rfl rfl (hb hBY at_188)
    have N_263 := Fr.snoc X_263 N_251 ge_b_239
    have K__264 : Keep h0 h_263 [] := K__252.wr W_263 (Or.inr sz_b_239)
    have f_265 : Arv Z h_263 b_150 k_150 .long (2 : Int32) [(.long q2), (.long q1)] (.long (0 : Int64)) := f_253.other W_263 ne_b_150_b_239
    have f_266 : Exa Z h_263 b_164 "com/example/pointcell/pointcell/Leaf" := f_254.wr W_263
    have f_267 : Arv Z h_263 b_172 k_172 .int (2 : Int32) [(.int (0 : Int32)), (.int (1 : Int32))] (.int (0 : Int32)) := f_255.other W_263 ne_b_172_b_239
    have f_268 : Fld Z h_263 b_164 "com/example/pointcell/pointcell/Leaf" "dimensions" "I" (.int (1 : Int32)) := f_256.other W_263 (Or.inl ne_b_164_b_239)
    have f_269 : Fld Z h_263 b_164 "com/example/pointcell/pointcell/Leaf" "docIds" "[I" (.ref b_172) := f_257.other W_263 (Or.inl ne_b_164_b_239)
    have f_270 : Fld Z h_263 b_164 "com/example/pointcell/pointcell/Leaf" "keys" "[J" (.ref b_150) := f_258.other W_263 (Or.inl ne_b_164_b_239)
    have f_271 : Arv Z h_263 b_207 k_207 .long (2 : Int32) [(.long q3), (.long mi1)] (.long (0 : Int64)) := f_259.other W_263 ne_b_207_b_239
    have f_272 : Arv Z h_263 b_239 k_239 .long (2 : Int32) [(.long q4), (.long ma1)] (.long (0 : Int64)) := Arv.set Ar_261 q_261 S_261 N__261 H_261 G_261 rfl W_263 1 rfl (Nat.le_of_ble_eq_true rfl)
    refine Done.pre st_263 ?_
    show Done _ _ _ _ _ _ _ (T_263.setTop (mkF m 189 #[Lv q1, Zs, Lv q2, Zs, Lv q3, Zs, Lv q4, Zs, Lv q5, Zs, Iv p6, Iv (1 : Int32), Iv (1 : Int32), Lv mi1, Zs, Lv ma1, Zs, Rv b_150, Rv b_164, Rv b_207, Us, Us, Us, Us] [(.ref b_239)]))
    have sg_273 : ∀ tt_, Steps p.tables e below (T_263.setTop (mkF m 191 #[Lv q1, Zs, Lv q2, Zs, Lv q3, Zs, Lv q4, Zs, Lv q5, Zs, Iv p6, Iv (1 : Int32), Iv (1 : Int32), Lv mi1, Zs, Lv ma1, Zs, Rv b_150, Rv b_164, Rv b_207, Rv b_239, Us, Us, Us] [])) tt_ → Steps p.tables e below (T_263.setTop (mkF m 189 #[Lv q1, Zs, Lv q2, Zs, Lv q3, Zs, Lv q4, Zs, Lv q5, Zs, Iv p6, Iv (1 : Int32), Iv (1 : Int32), Lv mi1, Zs, Lv ma1, Zs, Rv b_150, Rv b_164, Rv b_207, Us, Us, Us, Us] [(.ref b_239)])) tt_ := by
      intro tt_ kt_
      refine XS.astore X_263.here hEX rfl (hb hBY at_189) rfl rfl (l' := #[Lv q1, Zs, Lv q2, Zs, Lv q3, Zs, Lv q4, Zs, Lv q5, Zs, Iv p6, Iv (1 : Int32), Iv (1 : Int32), Lv mi1, Zs, Lv ma1, Zs, Rv b_150, Rv b_164, Rv b_207, Rv b_239, Us, Us, Us]) rfl ?_
      exact kt_
    refine Done.pre sg_273 ?_
    have jn_274 : ∀ (in0 : Int32) (hin0 : in0 = own_in1 q1 q3 q4), Done p e below s (Qrm0 Z q1 q2 q3 q4 q5 p6 h0 n0) room_1.cells room_1.slots (T_263.setTop (mkF m 210 #[Lv q1, Zs, Lv q2, Zs, Lv q3, Zs, Lv q4, Zs, Lv q5, Zs, Iv p6, Iv (1 : Int32), Iv (1 : Int32), Lv mi1, Zs, Lv ma1, Zs, Rv b_150, Rv b_164, Rv b_207, Rv b_239, Us, Us, Us] [(.int in0)])) := by
      intro in0 hin0
      show Done _ _ _ _ _ _ _ (T_263.setTop (mkF m 210 #[Lv q1, Zs, Lv q2, Zs, Lv q3, Zs, Lv q4, Zs, Lv q5, Zs, Iv p6, Iv (1 : Int32), Iv (1 : Int32), Lv mi1, Zs, Lv ma1, Zs, Rv b_150, Rv b_164, Rv b_207, Rv b_239, Us, Us, Us] [(.int in0)]))
      have sg_275 : ∀ tt_, Steps p.tables e below (T_263.setTop (mkF m 212 #[Lv q1, Zs, Lv q2, Zs, Lv q3, Zs, Lv q4, Zs, Lv q5, Zs, Iv p6, Iv (1 : Int32), Iv (1 : Int32), Lv mi1, Zs, Lv ma1, Zs, Rv b_150, Rv b_164, Rv b_207, Rv b_239, Iv in0, Us, Us] [])) tt_ → Steps p.tables e below (T_263.setTop (mkF m 210 #[Lv q1, Zs, Lv q2, Zs, Lv q3, Zs, Lv q4, Zs, Lv q5, Zs, Iv p6, Iv (1 : Int32), Iv (1 : Int32), Lv mi1, Zs, Lv ma1, Zs, Rv b_150, Rv b_164, Rv b_207, Rv b_239, Us, Us, Us] [(.int in0)])) tt_ := by
        intro tt_ kt_
        refine XS.istore X_263.here hEX rfl (hb hBY at_210) rfl (l' := #[Lv q1, Zs, Lv q2, Zs, Lv q3, Zs, Lv q4, Zs, Lv q5, Zs, Iv p6, Iv (1 : Int32), Iv (1 : Int32), Lv mi1, Zs, Lv ma1, Zs, Rv b_150, Rv b_164, Rv b_207, Rv b_239, Iv in0, Us, Us]) rfl ?_
        exact kt_
      refine Done.pre sg_275 ?_
      have jn_276 : ∀ (in1 : Int32) (hin1 : in1 = own_in1 q2 mi1 ma1), Done p e below s (Qrm0 Z q1 q2 q3 q4 q5 p6 h0 n0) room_1.cells room_1.slots (T_263.setTop (mkF m 231 #[Lv q1, Zs, Lv q2, Zs, Lv q3, Zs, Lv q4, Zs, Lv q5, Zs, Iv p6, Iv (1 : Int32), Iv (1 : Int32), Lv mi1, Zs, Lv ma1, Zs, Rv b_150, Rv b_164, Rv b_207, Rv b_239, Iv in0, Us, Us] [(.int in1)])) := by
        intro in1 hin1
        show Done _ _ _ _ _ _ _ (T_263.setTop (mkF m 231 #[Lv q1, Zs, Lv q2, Zs, Lv q3, Zs, Lv q4, Zs, Lv q5, Zs, Iv p6, Iv (1 : Int32), Iv (1 : Int32), Lv mi1, Zs, Lv ma1, Zs, Rv b_150, Rv b_164, Rv b_207, Rv b_239, Iv in0, Us, Us] [(.int in1)]))
        have sg_277 : ∀ tt_, Steps p.tables e below (T_263.setTop (mkF m 271 #[Lv q1, Zs, Lv q2, Zs, Lv q3, Zs, Lv q4, Zs, Lv q5, Zs, Iv p6, Iv (1 : Int32), Iv (1 : Int32), Lv mi1, Zs, Lv ma1, Zs, Rv b_150, Rv b_164, Rv b_207, Rv b_239, Iv in0, Iv in1, Iv in0] [(.ref b_239), (.ref b_207), (.int (1 : Int32)), (.ref b_164)])) tt_ → Steps p.tables e below (T_263.setTop (mkF m 231 #[Lv q1, Zs, Lv q2, Zs, Lv q3, Zs, Lv q4, Zs, Lv q5, Zs, Iv p6, Iv (1 : Int32), Iv (1 : Int32), Lv mi1, Zs, Lv ma1, Zs, Rv b_150, Rv b_164, Rv b_207, Rv b_239, Iv in0, Us, Us] [(.int in1)])) tt_ := by
          intro tt_ kt_
          refine XS.istore X_263.here hEX rfl (hb hBY at_231) rfl (l' := #[Lv q1, Zs, Lv q2, Zs, Lv q3, Zs, Lv q4, Zs, Lv q5, Zs, Iv p6, Iv (1 : Int32), Iv (1 : Int32), Lv mi1, Zs, Lv ma1, Zs, Rv b_150, Rv b_164, Rv b_207, Rv b_239, Iv in0, Iv in1, Us]) rfl ?_
          show Steps p.tables e below (T_263.setTop (mkF m 233 #[Lv q1, Zs, Lv q2, Zs, Lv q3, Zs, Lv q4, Zs, Lv q5, Zs, Iv p6, Iv (1 : Int32), Iv (1 : Int32), Lv mi1, Zs, Lv ma1, Zs, Rv b_150, Rv b_164, Rv b_207, Rv b_239, Iv in0, Iv in1, Us] [])) tt_
          refine XS.iload X_263.here hEX rfl (hb hBY at_233) rfl ?_
          show Steps p.tables e below (T_263.setTop (mkF m 235 #[Lv q1, Zs, Lv q2, Zs, Lv q3, Zs, Lv q4, Zs, Lv q5, Zs, Iv p6, Iv (1 : Int32), Iv (1 : Int32), Lv mi1, Zs, Lv ma1, Zs, Rv b_150, Rv b_164, Rv b_207, Rv b_239, Iv in0, Iv in1, Us] [(.int (1 : Int32))])) tt_
          refine XS.iconst X_263.here hEX rfl (hb hBY at_235) ?_
          show Steps p.tables e below (T_263.setTop (mkF m 236 #[Lv q1, Zs, Lv q2, Zs, Lv q3, Zs, Lv q4, Zs, Lv q5, Zs, Iv p6, Iv (1 : Int32), Iv (1 : Int32), Lv mi1, Zs, Lv ma1, Zs, Rv b_150, Rv b_164, Rv b_207, Rv b_239, Iv in0, Iv in1, Us] [(.int (1 : Int32)), (.int (1 : Int32))])) tt_
          refine XS.icmpNo X_263.here hEX rfl (hb hBY at_236) rfl (teq (by decide : (1 : Int32) = (1 : Int32))).2 ?_
          show Steps p.tables e below (T_263.setTop (mkF m 239 #[Lv q1, Zs, Lv q2, Zs, Lv q3, Zs, Lv q4, Zs, Lv q5, Zs, Iv p6, Iv (1 : Int32), Iv (1 : Int32), Lv mi1, Zs, Lv ma1, Zs, Rv b_150, Rv b_164, Rv b_207, Rv b_239, Iv in0, Iv in1, Us] [])) tt_
          refine XS.iload X_263.here hEX rfl (hb hBY at_239) rfl ?_
          show Steps p.tables e below (T_263.setTop (mkF m 241 #[Lv q1, Zs, Lv q2, Zs, Lv q3, Zs, Lv q4, Zs, Lv q5, Zs, Iv p6, Iv (1 : Int32), Iv (1 : Int32), Lv mi1, Zs, Lv ma1, Zs, Rv b_150, Rv b_164, Rv b_207, Rv b_239, Iv in0, Iv in1, Us] [(.int in0)])) tt_
          refine XS.istore X_263.here hEX rfl (hb hBY at_241) rfl (l' := #[Lv q1, Zs, Lv q2, Zs, Lv q3, Zs, Lv q4, Zs, Lv q5, Zs, Iv p6, Iv (1 : Int32), Iv (1 : Int32), Lv mi1, Zs, Lv ma1, Zs, Rv b_150, Rv b_164, Rv b_207, Rv b_239, Iv in0, Iv in1, Iv in0]) rfl ?_
          show Steps p.tables e below (T_263.setTop (mkF m 243 #[Lv q1, Zs, Lv q2, Zs, Lv q3, Zs, Lv q4, Zs, Lv q5, Zs, Iv p6, Iv (1 : Int32), Iv (1 : Int32), Lv mi1, Zs, Lv ma1, Zs, Rv b_150, Rv b_164, Rv b_207, Rv b_239, Iv in0, Iv in1, Iv in0] [])) tt_
          refine XS.goto X_263.here hEX rfl (pc0 := 243) (pc' := 263) rfl (hb hBY at_243) (by decide) (by decide) ?_
          show Steps p.tables e below (T_263.setTop (mkF m 263 #[Lv q1, Zs, Lv q2, Zs, Lv q3, Zs, Lv q4, Zs, Lv q5, Zs, Iv p6, Iv (1 : Int32), Iv (1 : Int32), Lv mi1, Zs, Lv ma1, Zs, Rv b_150, Rv b_164, Rv b_207, Rv b_239, Iv in0, Iv in1, Iv in0] [])) tt_
          refine XS.aload X_263.here hEX rfl (hb hBY at_263) rfl rfl ?_
          show Steps p.tables e below (T_263.setTop (mkF m 265 #[Lv q1, Zs, Lv q2, Zs, Lv q3, Zs, Lv q4, Zs, Lv q5, Zs, Iv p6, Iv (1 : Int32), Iv (1 : Int32), Lv mi1, Zs, Lv ma1, Zs, Rv b_150, Rv b_164, Rv b_207, Rv b_239, Iv in0, Iv in1, Iv in0] [(.ref b_164)])) tt_
          refine XS.iload X_263.here hEX rfl (hb hBY at_265) rfl ?_
          show Steps p.tables e below (T_263.setTop (mkF m 267 #[Lv q1, Zs, Lv q2, Zs, Lv q3, Zs, Lv q4, Zs, Lv q5, Zs, Iv p6, Iv (1 : Int32), Iv (1 : Int32), Lv mi1, Zs, Lv ma1, Zs, Rv b_150, Rv b_164, Rv b_207, Rv b_239, Iv in0, Iv in1, Iv in0] [(.int (1 : Int32)), (.ref b_164)])) tt_
          refine XS.aload X_263.here hEX rfl (hb hBY at_267) rfl rfl ?_
          show Steps p.tables e below (T_263.setTop (mkF m 269 #[Lv q1, Zs, Lv q2, Zs, Lv q3, Zs, Lv q4, Zs, Lv q5, Zs, Iv p6, Iv (1 : Int32), Iv (1 : Int32), Lv mi1, Zs, Lv ma1, Zs, Rv b_150, Rv b_164, Rv b_207, Rv b_239, Iv in0, Iv in1, Iv in0] [(.ref b_207), (.int (1 : Int32)), (.ref b_164)])) tt_
          refine XS.aload X_263.here hEX rfl (hb hBY at_269) rfl rfl ?_
          exact kt_
        refine Done.pre sg_277 ?_
        obtain ⟨cq_278, kq_278, q_278a, q_278b, q_278c⟩ := isOf hZW e_263 f_266
        obtain ⟨_, _, ⟨T_278, L_278, k_278, n_278⟩, -, X_278, ⟨Lc_278, hQ_278, l_278, y_278, z_278⟩, st_278⟩ := X_263.virtualBack hEX (y := (⟨"com/example/pointcell/pointcell/Leaf", "isInside", "(I[J[J)Z"⟩ : MethodName)) (z := (⟨"com/example/pointcell/pointcell/Leaf", "isInside", "(I[J[J)Z"⟩ : MethodName)) hOW (mvT hZW (hw _ (List.mem_of_getElem? (i := 21) rfl))) (mvT hZW (hw _ (List.mem_of_getElem? (i := 22) rfl))) (notFace_of_selects (args := #[]) (mvT hZW (hw _ (List.mem_of_getElem? (i := 24) rfl)))) (mvT hZW (hw _ (List.mem_of_getElem? (i := 24) rfl))) (mvT hZW (hw _ (List.mem_of_getElem? (i := 23) rfl))) (by decide) (backOf (W := 0) (rm_in1 l Z aZ hw [] b_164 (1 : Int32) b_207 b_239 b_150 k_150 (2 : Int32) [(.long q2), (.long q1)] k_207 k_239 q3 mi1 q4 ma1 q1 h_263 n0 (Nat.le_trans Z0 K__264.1) f_268 f_270 f_265 f_271 f_272 (by decide) rfl) hZW (hw _ (List.mem_of_getElem? (i := 25) rfl)) (hw _ (List.mem_of_getElem? (i := 7) rfl)) (by decide) (by decide)) q_278a q_278c (g := (mkF m 271 #[Lv q1, Zs, Lv q2, Zs, Lv q3, Zs, Lv q4, Zs, Lv q5, Zs, Iv p6, Iv (1 : Int32), Iv (1 : Int32), Lv mi1, Zs, Lv ma1, Zs, Rv b_150, Rv b_164, Rv b_207, Rv b_239, Iv in0, Iv in1, Iv in0] [(.ref b_239), (.ref b_207), (.int (1 : Int32)), (.ref b_164)])) rfl (by rw [hMX]; rfl) (Steps.refl _) (argsL := [(.int (1 : Int32)), (.ref b_207), (.ref b_239)]) (rest := []) (lenOf pd__I_J_J_Z_3 rfl) rfl (by show 2 * 0 + _ ≤ _; exact Nat.le_of_eq rfl) (hb hBY at_271) (fun _ _ => ⟨rfl, e_263, (by decide : 5 + 0 ≤ _), (by decide : 11 + 0 ≤ _)⟩)
        dsimp only [Pt.U, Pt.locs, Pt.cells, Pt.slots] at X_278 l_278 y_278 z_278 st_278 hQ_278
        subst l_278 y_278 z_278
        obtain ⟨rfl, N_278q, e_278⟩ := hQ_278
        have N_278 := Fr.app N_263 N_278q
        refine Done.pre (fun _ k_ => st_278.trans k_) ?_
        show Done _ _ _ _ _ _ _ (T_278.setTop (mkF m 274 #[Lv q1, Zs, Lv q2, Zs, Lv q3, Zs, Lv q4, Zs, Lv q5, Zs, Iv p6, Iv (1 : Int32), Iv (1 : Int32), Lv mi1, Zs, Lv ma1, Zs, Rv b_150, Rv b_164, Rv b_207, Rv b_239, Iv in0, Iv in1, Iv in0] [(.int (own_in1 q1 q3 q4))]))
        have sg_279 : ∀ tt_, Steps p.tables e below (T_278.setTop (mkF m 284 #[Lv q1, Zs, Lv q2, Zs, Lv q3, Zs, Lv q4, Zs, Lv q5, Zs, Iv p6, Iv (1 : Int32), Iv (1 : Int32), Lv mi1, Zs, Lv ma1, Zs, Rv b_150, Rv b_164, Rv b_207, Rv b_239, Iv in0, Iv in1, Iv in0] [(.int (1 : Int32))])) tt_ → Steps p.tables e below (T_278.setTop (mkF m 274 #[Lv q1, Zs, Lv q2, Zs, Lv q3, Zs, Lv q4, Zs, Lv q5, Zs, Iv p6, Iv (1 : Int32), Iv (1 : Int32), Lv mi1, Zs, Lv ma1, Zs, Rv b_150, Rv b_164, Rv b_207, Rv b_239, Iv in0, Iv in1, Iv in0] [(.int (own_in1 q1 q3 q4))])) tt_ := by
          intro tt_ kt_
          refine XS.iload X_278.here hEX rfl (hb hBY at_274) rfl ?_
          show Steps p.tables e below (T_278.setTop (mkF m 276 #[Lv q1, Zs, Lv q2, Zs, Lv q3, Zs, Lv q4, Zs, Lv q5, Zs, Iv p6, Iv (1 : Int32), Iv (1 : Int32), Lv mi1, Zs, Lv ma1, Zs, Rv b_150, Rv b_164, Rv b_207, Rv b_239, Iv in0, Iv in1, Iv in0] [(.int in0), (.int (own_in1 q1 q3 q4))])) tt_
          refine XS.icmpNo X_278.here hEX rfl (hb hBY at_276) rfl (teq (hin0.symm : (own_in1 q1 q3 q4) = in0)).2 ?_
          show Steps p.tables e below (T_278.setTop (mkF m 279 #[Lv q1, Zs, Lv q2, Zs, Lv q3, Zs, Lv q4, Zs, Lv q5, Zs, Iv p6, Iv (1 : Int32), Iv (1 : Int32), Lv mi1, Zs, Lv ma1, Zs, Rv b_150, Rv b_164, Rv b_207, Rv b_239, Iv in0, Iv in1, Iv in0] [])) tt_
          refine XS.iconst X_278.here hEX rfl (hb hBY at_279) ?_
          show Steps p.tables e below (T_278.setTop (mkF m 280 #[Lv q1, Zs, Lv q2, Zs, Lv q3, Zs, Lv q4, Zs, Lv q5, Zs, Iv p6, Iv (1 : Int32), Iv (1 : Int32), Lv mi1, Zs, Lv ma1, Zs, Rv b_150, Rv b_164, Rv b_207, Rv b_239, Iv in0, Iv in1, Iv in0] [(.int (1 : Int32))])) tt_
          refine XS.goto X_278.here hEX rfl (pc0 := 280) (pc' := 284) rfl (hb hBY at_280) (by decide) (by decide) ?_
          exact kt_
        refine Done.pre sg_279 ?_
        exact Done.retN X_278 hEX hLK (t := .boolean) hRT (by simp) (hb hBY at_284) (by rw [e_278]; exact ⟨rfl, N_278, K__264⟩) (by decide) (by decide)
      show Done _ _ _ _ _ _ _ (T_263.setTop (mkF m 212 #[Lv q1, Zs, Lv q2, Zs, Lv q3, Zs, Lv q4, Zs, Lv q5, Zs, Iv p6, Iv (1 : Int32), Iv (1 : Int32), Lv mi1, Zs, Lv ma1, Zs, Rv b_150, Rv b_164, Rv b_207, Rv b_239, Iv in0, Us, Us] []))
      have sg_280 : ∀ tt_, Steps p.tables e below (T_263.setTop (mkF m 216 #[Lv q1, Zs, Lv q2, Zs, Lv q3, Zs, Lv q4, Zs, Lv q5, Zs, Iv p6, Iv (1 : Int32), Iv (1 : Int32), Lv mi1, Zs, Lv ma1, Zs, Rv b_150, Rv b_164, Rv b_207, Rv b_239, Iv in0, Us, Us] [(.int (lcmpW mi1 q2))])) tt_ → Steps p.tables e below (T_263.setTop (mkF m 212 #[Lv q1, Zs, Lv q2, Zs, Lv q3, Zs, Lv q4, Zs, Lv q5, Zs, Iv p6, Iv (1 : Int32), Iv (1 : Int32), Lv mi1, Zs, Lv ma1, Zs, Rv b_150, Rv b_164, Rv b_207, Rv b_239, Iv in0, Us, Us] [])) tt_ := by
        intro tt_ kt_
        refine XS.lload X_263.here hEX rfl (hb hBY at_212) rfl ?_
        show Steps p.tables e below (T_263.setTop (mkF m 214 #[Lv q1, Zs, Lv q2, Zs, Lv q3, Zs, Lv q4, Zs, Lv q5, Zs, Iv p6, Iv (1 : Int32), Iv (1 : Int32), Lv mi1, Zs, Lv ma1, Zs, Rv b_150, Rv b_164, Rv b_207, Rv b_239, Iv in0, Us, Us] [(.long mi1)])) tt_
        refine XS.lloadN X_263.here hEX rfl (hb hBY at_214) rfl ?_
        show Steps p.tables e below (T_263.setTop (mkF m 215 #[Lv q1, Zs, Lv q2, Zs, Lv q3, Zs, Lv q4, Zs, Lv q5, Zs, Iv p6, Iv (1 : Int32), Iv (1 : Int32), Lv mi1, Zs, Lv ma1, Zs, Rv b_150, Rv b_164, Rv b_207, Rv b_239, Iv in0, Us, Us] [(.long q2), (.long mi1)])) tt_
        refine XS.lcmp X_263.here hEX rfl (hb hBY at_215) rfl ?_
        exact kt_
      refine Done.pre sg_280 ?_
      by_cases hc216 : q2 < mi1
      · skip
        have sg_281 : ∀ tt_, Steps p.tables e below (T_263.setTop (mkF m 231 #[Lv q1, Zs, Lv q2, Zs, Lv q3, Zs, Lv q4, Zs, Lv q5, Zs, Iv p6, Iv (1 : Int32), Iv (1 : Int32), Lv mi1, Zs, Lv ma1, Zs, Rv b_150, Rv b_164, Rv b_207, Rv b_239, Iv in0, Us, Us] [(.int (0 : Int32))])) tt_ → Steps p.tables e below (T_263.setTop (mkF m 216 #[Lv q1, Zs, Lv q2, Zs, Lv q3, Zs, Lv q4, Zs, Lv q5, Zs, Iv p6, Iv (1 : Int32), Iv (1 : Int32), Lv mi1, Zs, Lv ma1, Zs, Rv b_150, Rv b_164, Rv b_207, Rv b_239, Iv in0, Us, Us] [(.int (lcmpW mi1 q2))])) tt_ := by
          intro tt_ kt_
          refine XS.ifYes X_263.here hEX rfl (pc0 := 216) (pc' := 230) rfl (hb hBY at_216) rfl ((if0 _ _).trans (tlt ((lw_gt _ _).mpr hc216)).2.2.1) (by decide) (by decide) ?_
          show Steps p.tables e below (T_263.setTop (mkF m 230 #[Lv q1, Zs, Lv q2, Zs, Lv q3, Zs, Lv q4, Zs, Lv q5, Zs, Iv p6, Iv (1 : Int32), Iv (1 : Int32), Lv mi1, Zs, Lv ma1, Zs, Rv b_150, Rv b_164, Rv b_207, Rv b_239, Iv in0, Us, Us] [])) tt_
          refine XS.iconst X_263.here hEX rfl (hb hBY at_230) ?_
          exact kt_
        refine Done.pre sg_281 ?_
        exact jn_276 ((0 : Int32)) (by rw [own_in1]; first | rw [if_pos hc216] | rw [if_neg hc216, if_pos hc223] | rw [if_neg hc216, if_neg hc223])
      · skip
        have sg_282 : ∀ tt_, Steps p.tables e below (T_263.setTop (mkF m 223 #[Lv q1, Zs, Lv q2, Zs, Lv q3, Zs, Lv q4, Zs, Lv q5, Zs, Iv p6, Iv (1 : Int32), Iv (1 : Int32), Lv mi1, Zs, Lv ma1, Zs, Rv b_150, Rv b_164, Rv b_207, Rv b_239, Iv in0, Us, Us] [(.int (lcmpW q2 ma1))])) tt_ → Steps p.tables e below (T_263.setTop (mkF m 216 #[Lv q1, Zs, Lv q2, Zs, Lv q3, Zs, Lv q4, Zs, Lv q5, Zs, Iv p6, Iv (1 : Int32), Iv (1 : Int32), Lv mi1, Zs, Lv ma1, Zs, Rv b_150, Rv b_164, Rv b_207, Rv b_239, Iv in0, Us, Us] [(.int (lcmpW mi1 q2))])) tt_ := by
          intro tt_ kt_
          refine XS.ifNo X_263.here hEX rfl (hb hBY at_216) rfl ((if0 _ _).trans (flt (fun q => hc216 ((lw_gt _ _).mp q))).2.2.1) ?_
          show Steps p.tables e below (T_263.setTop (mkF m 219 #[Lv q1, Zs, Lv q2, Zs, Lv q3, Zs, Lv q4, Zs, Lv q5, Zs, Iv p6, Iv (1 : Int32), Iv (1 : Int32), Lv mi1, Zs, Lv ma1, Zs, Rv b_150, Rv b_164, Rv b_207, Rv b_239, Iv in0, Us, Us] [])) tt_
          refine XS.lloadN X_263.here hEX rfl (hb hBY at_219) rfl ?_
          show Steps p.tables e below (T_263.setTop (mkF m 220 #[Lv q1, Zs, Lv q2, Zs, Lv q3, Zs, Lv q4, Zs, Lv q5, Zs, Iv p6, Iv (1 : Int32), Iv (1 : Int32), Lv mi1, Zs, Lv ma1, Zs, Rv b_150, Rv b_164, Rv b_207, Rv b_239, Iv in0, Us, Us] [(.long q2)])) tt_
          refine XS.lload X_263.here hEX rfl (hb hBY at_220) rfl ?_
          show Steps p.tables e below (T_263.setTop (mkF m 222 #[Lv q1, Zs, Lv q2, Zs, Lv q3, Zs, Lv q4, Zs, Lv q5, Zs, Iv p6, Iv (1 : Int32), Iv (1 : Int32), Lv mi1, Zs, Lv ma1, Zs, Rv b_150, Rv b_164, Rv b_207, Rv b_239, Iv in0, Us, Us] [(.long ma1), (.long q2)])) tt_
          refine XS.lcmp X_263.here hEX rfl (hb hBY at_222) rfl ?_
          exact kt_
        refine Done.pre sg_282 ?_
        by_cases hc223 : ma1 < q2
        · skip
          have sg_283 : ∀ tt_, Steps p.tables e below (T_263.setTop (mkF m 231 #[Lv q1, Zs, Lv q2, Zs, Lv q3, Zs, Lv q4, Zs, Lv q5, Zs, Iv p6, Iv (1 : Int32), Iv (1 : Int32), Lv mi1, Zs, Lv ma1, Zs, Rv b_150, Rv b_164, Rv b_207, Rv b_239, Iv in0, Us, Us] [(.int (0 : Int32))])) tt_ → Steps p.tables e below (T_263.setTop (mkF m 223 #[Lv q1, Zs, Lv q2, Zs, Lv q3, Zs, Lv q4, Zs, Lv q5, Zs, Iv p6, Iv (1 : Int32), Iv (1 : Int32), Lv mi1, Zs, Lv ma1, Zs, Rv b_150, Rv b_164, Rv b_207, Rv b_239, Iv in0, Us, Us] [(.int (lcmpW q2 ma1))])) tt_ := by
            intro tt_ kt_
            refine XS.ifYes X_263.here hEX rfl (pc0 := 223) (pc' := 230) rfl (hb hBY at_223) rfl ((if0 _ _).trans (tlt ((lw_gt _ _).mpr hc223)).2.2.1) (by decide) (by decide) ?_
            show Steps p.tables e below (T_263.setTop (mkF m 230 #[Lv q1, Zs, Lv q2, Zs, Lv q3, Zs, Lv q4, Zs, Lv q5, Zs, Iv p6, Iv (1 : Int32), Iv (1 : Int32), Lv mi1, Zs, Lv ma1, Zs, Rv b_150, Rv b_164, Rv b_207, Rv b_239, Iv in0, Us, Us] [])) tt_
            refine XS.iconst X_263.here hEX rfl (hb hBY at_230) ?_
            exact kt_
          refine Done.pre sg_283 ?_
          exact jn_276 ((0 : Int32)) (by rw [own_in1]; first | rw [if_pos hc216] | rw [if_neg hc216, if_pos hc223] | rw [if_neg hc216, if_neg hc223])
        · skip
          have sg_284 : ∀ tt_, Steps p.tables e below (T_263.setTop (mkF m 231 #[Lv q1, Zs, Lv q2, Zs, Lv q3, Zs, Lv q4, Zs, Lv q5, Zs, Iv p6, Iv (1 : Int32), Iv (1 : Int32), Lv mi1, Zs, Lv ma1, Zs, Rv b_150, Rv b_164, Rv b_207, Rv b_239, Iv in0, Us, Us] [(.int (1 : Int32))])) tt_ → Steps p.tables e below (T_263.setTop (mkF m 223 #[Lv q1, Zs, Lv q2, Zs, Lv q3, Zs, Lv q4, Zs, Lv q5, Zs, Iv p6, Iv (1 : Int32), Iv (1 : Int32), Lv mi1, Zs, Lv ma1, Zs, Rv b_150, Rv b_164, Rv b_207, Rv b_239, Iv in0, Us, Us] [(.int (lcmpW q2 ma1))])) tt_ := by
            intro tt_ kt_
            refine XS.ifNo X_263.here hEX rfl (hb hBY at_223) rfl ((if0 _ _).trans (flt (fun q => hc223 ((lw_gt _ _).mp q))).2.2.1) ?_
            show Steps p.tables e below (T_263.setTop (mkF m 226 #[Lv q1, Zs, Lv q2, Zs, Lv q3, Zs, Lv q4, Zs, Lv q5, Zs, Iv p6, Iv (1 : Int32), Iv (1 : Int32), Lv mi1, Zs, Lv ma1, Zs, Rv b_150, Rv b_164, Rv b_207, Rv b_239, Iv in0, Us, Us] [])) tt_
            refine XS.iconst X_263.here hEX rfl (hb hBY at_226) ?_
            show Steps p.tables e below (T_263.setTop (mkF m 227 #[Lv q1, Zs, Lv q2, Zs, Lv q3, Zs, Lv q4, Zs, Lv q5, Zs, Iv p6, Iv (1 : Int32), Iv (1 : Int32), Lv mi1, Zs, Lv ma1, Zs, Rv b_150, Rv b_164, Rv b_207, Rv b_239, Iv in0, Us, Us] [(.int (1 : Int32))])) tt_
            refine XS.goto X_263.here hEX rfl (pc0 := 227) (pc' := 231) rfl (hb hBY at_227) (by decide) (by decide) ?_
            exact kt_
          refine Done.pre sg_284 ?_
          exact jn_276 ((1 : Int32)) (by rw [own_in1]; first | rw [if_pos hc216] | rw [if_neg hc216, if_pos hc223] | rw [if_neg hc216, if_neg hc223])
    show Done _ _ _ _ _ _ _ (T_263.setTop (mkF m 191 #[Lv q1, Zs, Lv q2, Zs, Lv q3, Zs, Lv q4, Zs, Lv q5, Zs, Iv p6, Iv (1 : Int32), Iv (1 : Int32), Lv mi1, Zs, Lv ma1, Zs, Rv b_150, Rv b_164, Rv b_207, Rv b_239, Us, Us, Us] []))
    have sg_285 : ∀ tt_, Steps p.tables e below (T_263.setTop (mkF m 195 #[Lv q1, Zs, Lv q2, Zs, Lv q3, Zs, Lv q4, Zs, Lv q5, Zs, Iv p6, Iv (1 : Int32), Iv (1 : Int32), Lv mi1, Zs, Lv ma1, Zs, Rv b_150, Rv b_164, Rv b_207, Rv b_239, Us, Us, Us] [(.int (lcmpW q3 q1))])) tt_ → Steps p.tables e below (T_263.setTop (mkF m 191 #[Lv q1, Zs, Lv q2, Zs, Lv q3, Zs, Lv q4, Zs, Lv q5, Zs, Iv p6, Iv (1 : Int32), Iv (1 : Int32), Lv mi1, Zs, Lv ma1, Zs, Rv b_150, Rv b_164, Rv b_207, Rv b_239, Us, Us, Us] [])) tt_ := by
      intro tt_ kt_
      refine XS.lload X_263.here hEX rfl (hb hBY at_191) rfl ?_
      show Steps p.tables e below (T_263.setTop (mkF m 193 #[Lv q1, Zs, Lv q2, Zs, Lv q3, Zs, Lv q4, Zs, Lv q5, Zs, Iv p6, Iv (1 : Int32), Iv (1 : Int32), Lv mi1, Zs, Lv ma1, Zs, Rv b_150, Rv b_164, Rv b_207, Rv b_239, Us, Us, Us] [(.long q3)])) tt_
      refine XS.lloadN X_263.here hEX rfl (hb hBY at_193) rfl ?_
      show Steps p.tables e below (T_263.setTop (mkF m 194 #[Lv q1, Zs, Lv q2, Zs, Lv q3, Zs, Lv q4, Zs, Lv q5, Zs, Iv p6, Iv (1 : Int32), Iv (1 : Int32), Lv mi1, Zs, Lv ma1, Zs, Rv b_150, Rv b_164, Rv b_207, Rv b_239, Us, Us, Us] [(.long q1), (.long q3)])) tt_
      refine XS.lcmp X_263.here hEX rfl (hb hBY at_194) rfl ?_
      exact kt_
    refine Done.pre sg_285 ?_
    by_cases hc195 : q1 < q3
    · skip
      have sg_286 : ∀ tt_, Steps p.tables e below (T_263.setTop (mkF m 210 #[Lv q1, Zs, Lv q2, Zs, Lv q3, Zs, Lv q4, Zs, Lv q5, Zs, Iv p6, Iv (1 : Int32), Iv (1 : Int32), Lv mi1, Zs, Lv ma1, Zs, Rv b_150, Rv b_164, Rv b_207, Rv b_239, Us, Us, Us] [(.int (0 : Int32))])) tt_ → Steps p.tables e below (T_263.setTop (mkF m 195 #[Lv q1, Zs, Lv q2, Zs, Lv q3, Zs, Lv q4, Zs, Lv q5, Zs, Iv p6, Iv (1 : Int32), Iv (1 : Int32), Lv mi1, Zs, Lv ma1, Zs, Rv b_150, Rv b_164, Rv b_207, Rv b_239, Us, Us, Us] [(.int (lcmpW q3 q1))])) tt_ := by
        intro tt_ kt_
        refine XS.ifYes X_263.here hEX rfl (pc0 := 195) (pc' := 209) rfl (hb hBY at_195) rfl ((if0 _ _).trans (tlt ((lw_gt _ _).mpr hc195)).2.2.1) (by decide) (by decide) ?_
        show Steps p.tables e below (T_263.setTop (mkF m 209 #[Lv q1, Zs, Lv q2, Zs, Lv q3, Zs, Lv q4, Zs, Lv q5, Zs, Iv p6, Iv (1 : Int32), Iv (1 : Int32), Lv mi1, Zs, Lv ma1, Zs, Rv b_150, Rv b_164, Rv b_207, Rv b_239, Us, Us, Us] [])) tt_
        refine XS.iconst X_263.here hEX rfl (hb hBY at_209) ?_
        exact kt_
      refine Done.pre sg_286 ?_
      exact jn_274 ((0 : Int32)) (by rw [own_in1]; first | rw [if_pos hc195] | rw [if_neg hc195, if_pos hc202] | rw [if_neg hc195, if_neg hc202])
    · skip
      have sg_287 : ∀ tt_, Steps p.tables e below (T_263.setTop (mkF m 202 #[Lv q1, Zs, Lv q2, Zs, Lv q3, Zs, Lv q4, Zs, Lv q5, Zs, Iv p6, Iv (1 : Int32), Iv (1 : Int32), Lv mi1, Zs, Lv ma1, Zs, Rv b_150, Rv b_164, Rv b_207, Rv b_239, Us, Us, Us] [(.int (lcmpW q1 q4))])) tt_ → Steps p.tables e below (T_263.setTop (mkF m 195 #[Lv q1, Zs, Lv q2, Zs, Lv q3, Zs, Lv q4, Zs, Lv q5, Zs, Iv p6, Iv (1 : Int32), Iv (1 : Int32), Lv mi1, Zs, Lv ma1, Zs, Rv b_150, Rv b_164, Rv b_207, Rv b_239, Us, Us, Us] [(.int (lcmpW q3 q1))])) tt_ := by
        intro tt_ kt_
        refine XS.ifNo X_263.here hEX rfl (hb hBY at_195) rfl ((if0 _ _).trans (flt (fun q => hc195 ((lw_gt _ _).mp q))).2.2.1) ?_
        show Steps p.tables e below (T_263.setTop (mkF m 198 #[Lv q1, Zs, Lv q2, Zs, Lv q3, Zs, Lv q4, Zs, Lv q5, Zs, Iv p6, Iv (1 : Int32), Iv (1 : Int32), Lv mi1, Zs, Lv ma1, Zs, Rv b_150, Rv b_164, Rv b_207, Rv b_239, Us, Us, Us] [])) tt_
        refine XS.lloadN X_263.here hEX rfl (hb hBY at_198) rfl ?_
        show Steps p.tables e below (T_263.setTop (mkF m 199 #[Lv q1, Zs, Lv q2, Zs, Lv q3, Zs, Lv q4, Zs, Lv q5, Zs, Iv p6, Iv (1 : Int32), Iv (1 : Int32), Lv mi1, Zs, Lv ma1, Zs, Rv b_150, Rv b_164, Rv b_207, Rv b_239, Us, Us, Us] [(.long q1)])) tt_
        refine XS.lload X_263.here hEX rfl (hb hBY at_199) rfl ?_
        show Steps p.tables e below (T_263.setTop (mkF m 201 #[Lv q1, Zs, Lv q2, Zs, Lv q3, Zs, Lv q4, Zs, Lv q5, Zs, Iv p6, Iv (1 : Int32), Iv (1 : Int32), Lv mi1, Zs, Lv ma1, Zs, Rv b_150, Rv b_164, Rv b_207, Rv b_239, Us, Us, Us] [(.long q4), (.long q1)])) tt_
        refine XS.lcmp X_263.here hEX rfl (hb hBY at_201) rfl ?_
        exact kt_
      refine Done.pre sg_287 ?_
      by_cases hc202 : q4 < q1
      · skip
        have sg_288 : ∀ tt_, Steps p.tables e below (T_263.setTop (mkF m 210 #[Lv q1, Zs, Lv q2, Zs, Lv q3, Zs, Lv q4, Zs, Lv q5, Zs, Iv p6, Iv (1 : Int32), Iv (1 : Int32), Lv mi1, Zs, Lv ma1, Zs, Rv b_150, Rv b_164, Rv b_207, Rv b_239, Us, Us, Us] [(.int (0 : Int32))])) tt_ → Steps p.tables e below (T_263.setTop (mkF m 202 #[Lv q1, Zs, Lv q2, Zs, Lv q3, Zs, Lv q4, Zs, Lv q5, Zs, Iv p6, Iv (1 : Int32), Iv (1 : Int32), Lv mi1, Zs, Lv ma1, Zs, Rv b_150, Rv b_164, Rv b_207, Rv b_239, Us, Us, Us] [(.int (lcmpW q1 q4))])) tt_ := by
          intro tt_ kt_
          refine XS.ifYes X_263.here hEX rfl (pc0 := 202) (pc' := 209) rfl (hb hBY at_202) rfl ((if0 _ _).trans (tlt ((lw_gt _ _).mpr hc202)).2.2.1) (by decide) (by decide) ?_
          show Steps p.tables e below (T_263.setTop (mkF m 209 #[Lv q1, Zs, Lv q2, Zs, Lv q3, Zs, Lv q4, Zs, Lv q5, Zs, Iv p6, Iv (1 : Int32), Iv (1 : Int32), Lv mi1, Zs, Lv ma1, Zs, Rv b_150, Rv b_164, Rv b_207, Rv b_239, Us, Us, Us] [])) tt_
          refine XS.iconst X_263.here hEX rfl (hb hBY at_209) ?_
          exact kt_
        refine Done.pre sg_288 ?_
        exact jn_274 ((0 : Int32)) (by rw [own_in1]; first | rw [if_pos hc195] | rw [if_neg hc195, if_pos hc202] | rw [if_neg hc195, if_neg hc202])
      · skip
        have sg_289 : ∀ tt_, Steps p.tables e below (T_263.setTop (mkF m 210 #[Lv q1, Zs, Lv q2, Zs, Lv q3, Zs, Lv q4, Zs, Lv q5, Zs, Iv p6, Iv (1 : Int32), Iv (1 : Int32), Lv mi1, Zs, Lv ma1, Zs, Rv b_150, Rv b_164, Rv b_207, Rv b_239, Us, Us, Us] [(.int (1 : Int32))])) tt_ → Steps p.tables e below (T_263.setTop (mkF m 202 #[Lv q1, Zs, Lv q2, Zs, Lv q3, Zs, Lv q4, Zs, Lv q5, Zs, Iv p6, Iv (1 : Int32), Iv (1 : Int32), Lv mi1, Zs, Lv ma1, Zs, Rv b_150, Rv b_164, Rv b_207, Rv b_239, Us, Us, Us] [(.int (lcmpW q1 q4))])) tt_ := by
          intro tt_ kt_
          refine XS.ifNo X_263.here hEX rfl (hb hBY at_202) rfl ((if0 _ _).trans (flt (fun q => hc202 ((lw_gt _ _).mp q))).2.2.1) ?_
          show Steps p.tables e below (T_263.setTop (mkF m 205 #[Lv q1, Zs, Lv q2, Zs, Lv q3, Zs, Lv q4, Zs, Lv q5, Zs, Iv p6, Iv (1 : Int32), Iv (1 : Int32), Lv mi1, Zs, Lv ma1, Zs, Rv b_150, Rv b_164, Rv b_207, Rv b_239, Us, Us, Us] [])) tt_
          refine XS.iconst X_263.here hEX rfl (hb hBY at_205) ?_
          show Steps p.tables e below (T_263.setTop (mkF m 206 #[Lv q1, Zs, Lv q2, Zs, Lv q3, Zs, Lv q4, Zs, Lv q5, Zs, Iv p6, Iv (1 : Int32), Iv (1 : Int32), Lv mi1, Zs, Lv ma1, Zs, Rv b_150, Rv b_164, Rv b_207, Rv b_239, Us, Us, Us] [(.int (1 : Int32))])) tt_
          refine XS.goto X_263.here hEX rfl (pc0 := 206) (pc' := 210) rfl (hb hBY at_206) (by decide) (by decide) ?_
          exact kt_
        refine Done.pre sg_289 ?_
        exact jn_274 ((1 : Int32)) (by rw [own_in1]; first | rw [if_pos hc195] | rw [if_neg hc195, if_pos hc202] | rw [if_neg hc195, if_neg hc202])
  · skip
    show Done _ _ _ _ _ _ _ (T_6.setTop (mkF m 44 #[Lv q1, Zs, Lv q2, Zs, Lv q3, Zs, Lv q4, Zs, Lv q5, Zs, Iv p6, Iv (0 : Int32), Iv (2 : Int32), Lv mi1, Zs, Lv ma1, Zs, Us, Us, Us, Us, Us, Us, Us] []))
    have sg_290 : ∀ tt_, Steps p.tables e below (T_6.setTop (mkF m 56 #[Lv q1, Zs, Lv q2, Zs, Lv q3, Zs, Lv q4, Zs, Lv q5, Zs, Iv p6, Iv (0 : Int32), Iv (2 : Int32), Lv mi1, Zs, Lv ma1, Zs, Us, Us, Us, Us, Us, Us, Us] [(.int (4 : Int32))])) tt_ → Steps p.tables e below (T_6.setTop (mkF m 44 #[Lv q1, Zs, Lv q2, Zs, Lv q3, Zs, Lv q4, Zs, Lv q5, Zs, Iv p6, Iv (0 : Int32), Iv (2 : Int32), Lv mi1, Zs, Lv ma1, Zs, Us, Us, Us, Us, Us, Us, Us] [])) tt_ := by
      intro tt_ kt_
      refine XS.iload X_6.here hEX rfl (hb hBY at_44) rfl ?_
      show Steps p.tables e below (T_6.setTop (mkF m 46 #[Lv q1, Zs, Lv q2, Zs, Lv q3, Zs, Lv q4, Zs, Lv q5, Zs, Iv p6, Iv (0 : Int32), Iv (2 : Int32), Lv mi1, Zs, Lv ma1, Zs, Us, Us, Us, Us, Us, Us, Us] [(.int (2 : Int32))])) tt_
      refine XS.iconst X_6.here hEX rfl (hb hBY at_46) ?_
      show Steps p.tables e below (T_6.setTop (mkF m 47 #[Lv q1, Zs, Lv q2, Zs, Lv q3, Zs, Lv q4, Zs, Lv q5, Zs, Iv p6, Iv (0 : Int32), Iv (2 : Int32), Lv mi1, Zs, Lv ma1, Zs, Us, Us, Us, Us, Us, Us, Us] [(.int (2 : Int32)), (.int (2 : Int32))])) tt_
      refine XS.icmpNo X_6.here hEX rfl (hb hBY at_47) rfl (teq (by decide : (2 : Int32) = (2 : Int32))).2 ?_
      show Steps p.tables e below (T_6.setTop (mkF m 50 #[Lv q1, Zs, Lv q2, Zs, Lv q3, Zs, Lv q4, Zs, Lv q5, Zs, Iv p6, Iv (0 : Int32), Iv (2 : Int32), Lv mi1, Zs, Lv ma1, Zs, Us, Us, Us, Us, Us, Us, Us] [])) tt_
      refine XS.iload X_6.here hEX rfl (hb hBY at_50) rfl ?_
      show Steps p.tables e below (T_6.setTop (mkF m 52 #[Lv q1, Zs, Lv q2, Zs, Lv q3, Zs, Lv q4, Zs, Lv q5, Zs, Iv p6, Iv (0 : Int32), Iv (2 : Int32), Lv mi1, Zs, Lv ma1, Zs, Us, Us, Us, Us, Us, Us, Us] [(.int (0 : Int32))])) tt_
      refine XS.ifNo X_6.here hEX rfl (hb hBY at_52) rfl ((if0 _ _).trans (teq (by decide : (0 : Int32) = (0 : Int32))).2) ?_
      show Steps p.tables e below (T_6.setTop (mkF m 55 #[Lv q1, Zs, Lv q2, Zs, Lv q3, Zs, Lv q4, Zs, Lv q5, Zs, Iv p6, Iv (0 : Int32), Iv (2 : Int32), Lv mi1, Zs, Lv ma1, Zs, Us, Us, Us, Us, Us, Us, Us] [])) tt_
      refine XS.iconst X_6.here hEX rfl (hb hBY at_55) ?_
      exact kt_
    refine Done.pre sg_290 ?_
    obtain ⟨T_291, h_291, k_291, X_291, e_291, E_291, A_291, st_291⟩ := newP X_6 hEX hZW (hw _ (List.mem_of_getElem? (i := 4) rfl)) e_6 (g := (mkF m 56 #[Lv q1, Zs, Lv q2, Zs, Lv q3, Zs, Lv q4, Zs, Lv q5, Zs, Iv p6, Iv (0 : Int32), Iv (2 : Int32), Lv mi1, Zs, Lv ma1, Zs, Us, Us, Us, Us, Us, Us, Us] [(.int (4 : Int32))])) rfl (hb hBY at_56) rfl (by decide) (cap := 4) (by decide) (by decide) (by decide) (by decide)
    obtain ⟨b_291, g_291⟩ : ∃ z, z = h0.size := ⟨_, rfl⟩
    rw [← g_291] at A_291 st_291
    have sz_b_291 : h0.size ≤ b_291 := Nat.le_trans K0.1 (Nat.le_of_eq g_291.symm)
    have ge_b_291 : n0 ≤ b_291 := Nat.le_trans Z0 sz_b_291
    have K__292 : Keep h0 h_291 [] := K0.ext E_291
    have f_293 : Arv Z h_291 b_291 k_291 .long (4 : Int32) [(.long (0 : Int64)), (.long (0 : Int64)), (.long (0 : Int64)), (.long (0 : Int64))] (.long (0 : Int64)) := (Arv.new A_291 (by decide)).pad (pad_rep [] (.long (0 : Int64)) 4)
    refine Done.pre st_291 ?_
    show Done _ _ _ _ _ _ _ (T_291.setTop (mkF m 58 #[Lv q1, Zs, Lv q2, Zs, Lv q3, Zs, Lv q4, Zs, Lv q5, Zs, Iv p6, Iv (0 : Int32), Iv (2 : Int32), Lv mi1, Zs, Lv ma1, Zs, Us, Us, Us, Us, Us, Us, Us] [(.ref b_291)]))
    have sg_295 : ∀ tt_, Steps p.tables e below (T_291.setTop (mkF m 61 #[Lv q1, Zs, Lv q2, Zs, Lv q3, Zs, Lv q4, Zs, Lv q5, Zs, Iv p6, Iv (0 : Int32), Iv (2 : Int32), Lv mi1, Zs, Lv ma1, Zs, Us, Us, Us, Us, Us, Us, Us] [(.long q1), (.int (0 : Int32)), (.ref b_291), (.ref b_291)])) tt_ → Steps p.tables e below (T_291.setTop (mkF m 58 #[Lv q1, Zs, Lv q2, Zs, Lv q3, Zs, Lv q4, Zs, Lv q5, Zs, Iv p6, Iv (0 : Int32), Iv (2 : Int32), Lv mi1, Zs, Lv ma1, Zs, Us, Us, Us, Us, Us, Us, Us] [(.ref b_291)])) tt_ := by
      intro tt_ kt_
      refine XS.dup X_291.here hEX rfl (hb hBY at_58) rfl rfl ?_
      show Steps p.tables e below (T_291.setTop (mkF m 59 #[Lv q1, Zs, Lv q2, Zs, Lv q3, Zs, Lv q4, Zs, Lv q5, Zs, Iv p6, Iv (0 : Int32), Iv (2 : Int32), Lv mi1, Zs, Lv ma1, Zs, Us, Us, Us, Us, Us, Us, Us] [(.ref b_291), (.ref b_291)])) tt_
      refine XS.iconst X_291.here hEX rfl (hb hBY at_59) ?_
      show Steps p.tables e below (T_291.setTop (mkF m 60 #[Lv q1, Zs, Lv q2, Zs, Lv q3, Zs, Lv q4, Zs, Lv q5, Zs, Iv p6, Iv (0 : Int32), Iv (2 : Int32), Lv mi1, Zs, Lv ma1, Zs, Us, Us, Us, Us, Us, Us, Us] [(.int (0 : Int32)), (.ref b_291), (.ref b_291)])) tt_
      refine XS.lloadN X_291.here hEX rfl (hb hBY at_60) rfl ?_
      exact kt_
    refine Done.pre sg_295 ?_
    obtain ⟨cl_294, Ar_294, q_294, S_294, N__294, H_294, G_294⟩ := id f_293
    have hin_294 : ¬ ((0 : Int32) < 0 ∨ cl_294.slots.size ≤ ((0 : Int32)).toNatClampNeg) := inb_of S_294 ⟨by decide, by decide⟩
    obtain ⟨T_296, h_296, X_296, e_296, W_296, st_296⟩ := stJ X_291 hEX hZW e_291 Ar_294 (j := (0 : Int32)) hin_294 (g := (mkF m 61 #[Lv q1, Zs, Lv q2, Zs, Lv q3, Zs, Lv q4, Zs, Lv q5, Zs, Iv p6, Iv (0 : Int32), Iv (2 : Int32), Lv mi1, Zs, Lv ma1, Zs, Us, Us, Us, Us, Us, Us, Us] [(.long q1), (.int (0 : Int32)), (.ref b_291), (.ref b_291)])) rfl rfl (hb hBY at_61)
    have N_296 := Fr.snoc X_296 N_6 ge_b_291
    have K__297 : Keep h0 h_296 [] := K__292.wr W_296 (Or.inr sz_b_291)
    have f_298 : Arv Z h_296 b_291 k_291 .long (4 : Int32) [(.long q1), (.long (0 : Int64)), (.long (0 : Int64)), (.long (0 : Int64))] (.long (0 : Int64)) := Arv.set Ar_294 q_294 S_294 N__294 H_294 G_294 rfl W_296 0 rfl (Nat.le_of_ble_eq_true rfl)
    refine Done.pre st_296 ?_
    show Done _ _ _ _ _ _ _ (T_296.setTop (mkF m 62 #[Lv q1, Zs, Lv q2, Zs, Lv q3, Zs, Lv q4, Zs, Lv q5, Zs, Iv p6, Iv (0 : Int32), Iv (2 : Int32), Lv mi1, Zs, Lv ma1, Zs, Us, Us, Us, Us, Us, Us, Us] [(.ref b_291)]))
    have sg_300 : ∀ tt_, Steps p.tables e below (T_296.setTop (mkF m 65 #[Lv q1, Zs, Lv q2, Zs, Lv q3, Zs, Lv q4, Zs, Lv q5, Zs, Iv p6, Iv (0 : Int32), Iv (2 : Int32), Lv mi1, Zs, Lv ma1, Zs, Us, Us, Us, Us, Us, Us, Us] [(.long q2), (.int (1 : Int32)), (.ref b_291), (.ref b_291)])) tt_ → Steps p.tables e below (T_296.setTop (mkF m 62 #[Lv q1, Zs, Lv q2, Zs, Lv q3, Zs, Lv q4, Zs, Lv q5, Zs, Iv p6, Iv (0 : Int32), Iv (2 : Int32), Lv mi1, Zs, Lv ma1, Zs, Us, Us, Us, Us, Us, Us, Us] [(.ref b_291)])) tt_ := by
      intro tt_ kt_
      refine XS.dup X_296.here hEX rfl (hb hBY at_62) rfl rfl ?_
      show Steps p.tables e below (T_296.setTop (mkF m 63 #[Lv q1, Zs, Lv q2, Zs, Lv q3, Zs, Lv q4, Zs, Lv q5, Zs, Iv p6, Iv (0 : Int32), Iv (2 : Int32), Lv mi1, Zs, Lv ma1, Zs, Us, Us, Us, Us, Us, Us, Us] [(.ref b_291), (.ref b_291)])) tt_
      refine XS.iconst X_296.here hEX rfl (hb hBY at_63) ?_
      show Steps p.tables e below (T_296.setTop (mkF m 64 #[Lv q1, Zs, Lv q2, Zs, Lv q3, Zs, Lv q4, Zs, Lv q5, Zs, Iv p6, Iv (0 : Int32), Iv (2 : Int32), Lv mi1, Zs, Lv ma1, Zs, Us, Us, Us, Us, Us, Us, Us] [(.int (1 : Int32)), (.ref b_291), (.ref b_291)])) tt_
      refine XS.lloadN X_296.here hEX rfl (hb hBY at_64) rfl ?_
      exact kt_
    refine Done.pre sg_300 ?_
    obtain ⟨cl_299, Ar_299, q_299, S_299, N__299, H_299, G_299⟩ := id f_298
    have hin_299 : ¬ ((1 : Int32) < 0 ∨ cl_299.slots.size ≤ ((1 : Int32)).toNatClampNeg) := inb_of S_299 ⟨by decide, by decide⟩
    obtain ⟨T_301, h_301, X_301, e_301, W_301, st_301⟩ := stJ X_296 hEX hZW e_296 Ar_299 (j := (1 : Int32)) hin_299 (g := (mkF m 65 #[Lv q1, Zs, Lv q2, Zs, Lv q3, Zs, Lv q4, Zs, Lv q5, Zs, Iv p6, Iv (0 : Int32), Iv (2 : Int32), Lv mi1, Zs, Lv ma1, Zs, Us, Us, Us, Us, Us, Us, Us] [(.long q2), (.int (1 : Int32)), (.ref b_291), (.ref b_291)])) rfl rfl (hb hBY at_65)
    have N_301 := Fr.snoc X_301 N_296 ge_b_291
    have K__302 : Keep h0 h_301 [] := K__297.wr W_301 (Or.inr sz_b_291)
    have f_303 : Arv Z h_301 b_291 k_291 .long (4 : Int32) [(.long q1), (.long q2), (.long (0 : Int64)), (.long (0 : Int64))] (.long (0 : Int64)) := Arv.set Ar_299 q_299 S_299 N__299 H_299 G_299 rfl W_301 1 rfl (Nat.le_of_ble_eq_true rfl)
    refine Done.pre st_301 ?_
    show Done _ _ _ _ _ _ _ (T_301.setTop (mkF m 66 #[Lv q1, Zs, Lv q2, Zs, Lv q3, Zs, Lv q4, Zs, Lv q5, Zs, Iv p6, Iv (0 : Int32), Iv (2 : Int32), Lv mi1, Zs, Lv ma1, Zs, Us, Us, Us, Us, Us, Us, Us] [(.ref b_291)]))
    have sg_305 : ∀ tt_, Steps p.tables e below (T_301.setTop (mkF m 69 #[Lv q1, Zs, Lv q2, Zs, Lv q3, Zs, Lv q4, Zs, Lv q5, Zs, Iv p6, Iv (0 : Int32), Iv (2 : Int32), Lv mi1, Zs, Lv ma1, Zs, Us, Us, Us, Us, Us, Us, Us] [(.long q2), (.int (2 : Int32)), (.ref b_291), (.ref b_291)])) tt_ → Steps p.tables e below (T_301.setTop (mkF m 66 #[Lv q1, Zs, Lv q2, Zs, Lv q3, Zs, Lv q4, Zs, Lv q5, Zs, Iv p6, Iv (0 : Int32), Iv (2 : Int32), Lv mi1, Zs, Lv ma1, Zs, Us, Us, Us, Us, Us, Us, Us] [(.ref b_291)])) tt_ := by
      intro tt_ kt_
      refine XS.dup X_301.here hEX rfl (hb hBY at_66) rfl rfl ?_
      show Steps p.tables e below (T_301.setTop (mkF m 67 #[Lv q1, Zs, Lv q2, Zs, Lv q3, Zs, Lv q4, Zs, Lv q5, Zs, Iv p6, Iv (0 : Int32), Iv (2 : Int32), Lv mi1, Zs, Lv ma1, Zs, Us, Us, Us, Us, Us, Us, Us] [(.ref b_291), (.ref b_291)])) tt_
      refine XS.iconst X_301.here hEX rfl (hb hBY at_67) ?_
      show Steps p.tables e below (T_301.setTop (mkF m 68 #[Lv q1, Zs, Lv q2, Zs, Lv q3, Zs, Lv q4, Zs, Lv q5, Zs, Iv p6, Iv (0 : Int32), Iv (2 : Int32), Lv mi1, Zs, Lv ma1, Zs, Us, Us, Us, Us, Us, Us, Us] [(.int (2 : Int32)), (.ref b_291), (.ref b_291)])) tt_
      refine XS.lloadN X_301.here hEX rfl (hb hBY at_68) rfl ?_
      exact kt_
    refine Done.pre sg_305 ?_
    obtain ⟨cl_304, Ar_304, q_304, S_304, N__304, H_304, G_304⟩ := id f_303
    have hin_304 : ¬ ((2 : Int32) < 0 ∨ cl_304.slots.size ≤ ((2 : Int32)).toNatClampNeg) := inb_of S_304 ⟨by decide, by decide⟩
    obtain ⟨T_306, h_306, X_306, e_306, W_306, st_306⟩ := stJ X_301 hEX hZW e_301 Ar_304 (j := (2 : Int32)) hin_304 (g := (mkF m 69 #[Lv q1, Zs, Lv q2, Zs, Lv q3, Zs, Lv q4, Zs, Lv q5, Zs, Iv p6, Iv (0 : Int32), Iv (2 : Int32), Lv mi1, Zs, Lv ma1, Zs, Us, Us, Us, Us, Us, Us, Us] [(.long q2), (.int (2 : Int32)), (.ref b_291), (.ref b_291)])) rfl rfl (hb hBY at_69)
    have N_306 := Fr.snoc X_306 N_301 ge_b_291
    have K__307 : Keep h0 h_306 [] := K__302.wr W_306 (Or.inr sz_b_291)
    have f_308 : Arv Z h_306 b_291 k_291 .long (4 : Int32) [(.long q1), (.long q2), (.long q2), (.long (0 : Int64))] (.long (0 : Int64)) := Arv.set Ar_304 q_304 S_304 N__304 H_304 G_304 rfl W_306 2 rfl (Nat.le_of_ble_eq_true rfl)
    refine Done.pre st_306 ?_
    show Done _ _ _ _ _ _ _ (T_306.setTop (mkF m 70 #[Lv q1, Zs, Lv q2, Zs, Lv q3, Zs, Lv q4, Zs, Lv q5, Zs, Iv p6, Iv (0 : Int32), Iv (2 : Int32), Lv mi1, Zs, Lv ma1, Zs, Us, Us, Us, Us, Us, Us, Us] [(.ref b_291)]))
    have sg_310 : ∀ tt_, Steps p.tables e below (T_306.setTop (mkF m 73 #[Lv q1, Zs, Lv q2, Zs, Lv q3, Zs, Lv q4, Zs, Lv q5, Zs, Iv p6, Iv (0 : Int32), Iv (2 : Int32), Lv mi1, Zs, Lv ma1, Zs, Us, Us, Us, Us, Us, Us, Us] [(.long q1), (.int (3 : Int32)), (.ref b_291), (.ref b_291)])) tt_ → Steps p.tables e below (T_306.setTop (mkF m 70 #[Lv q1, Zs, Lv q2, Zs, Lv q3, Zs, Lv q4, Zs, Lv q5, Zs, Iv p6, Iv (0 : Int32), Iv (2 : Int32), Lv mi1, Zs, Lv ma1, Zs, Us, Us, Us, Us, Us, Us, Us] [(.ref b_291)])) tt_ := by
      intro tt_ kt_
      refine XS.dup X_306.here hEX rfl (hb hBY at_70) rfl rfl ?_
      show Steps p.tables e below (T_306.setTop (mkF m 71 #[Lv q1, Zs, Lv q2, Zs, Lv q3, Zs, Lv q4, Zs, Lv q5, Zs, Iv p6, Iv (0 : Int32), Iv (2 : Int32), Lv mi1, Zs, Lv ma1, Zs, Us, Us, Us, Us, Us, Us, Us] [(.ref b_291), (.ref b_291)])) tt_
      refine XS.iconst X_306.here hEX rfl (hb hBY at_71) ?_
      show Steps p.tables e below (T_306.setTop (mkF m 72 #[Lv q1, Zs, Lv q2, Zs, Lv q3, Zs, Lv q4, Zs, Lv q5, Zs, Iv p6, Iv (0 : Int32), Iv (2 : Int32), Lv mi1, Zs, Lv ma1, Zs, Us, Us, Us, Us, Us, Us, Us] [(.int (3 : Int32)), (.ref b_291), (.ref b_291)])) tt_
      refine XS.lloadN X_306.here hEX rfl (hb hBY at_72) rfl ?_
      exact kt_
    refine Done.pre sg_310 ?_
    obtain ⟨cl_309, Ar_309, q_309, S_309, N__309, H_309, G_309⟩ := id f_308
    have hin_309 : ¬ ((3 : Int32) < 0 ∨ cl_309.slots.size ≤ ((3 : Int32)).toNatClampNeg) := inb_of S_309 ⟨by decide, by decide⟩
    obtain ⟨T_311, h_311, X_311, e_311, W_311, st_311⟩ := stJ X_306 hEX hZW e_306 Ar_309 (j := (3 : Int32)) hin_309 (g := (mkF m 73 #[Lv q1, Zs, Lv q2, Zs, Lv q3, Zs, Lv q4, Zs, Lv q5, Zs, Iv p6, Iv (0 : Int32), Iv (2 : Int32), Lv mi1, Zs, Lv ma1, Zs, Us, Us, Us, Us, Us, Us, Us] [(.long q1), (.int (3 : Int32)), (.ref b_291), (.ref b_291)])) rfl rfl (hb hBY at_73)
    have N_311 := Fr.snoc X_311 N_306 ge_b_291
    have K__312 : Keep h0 h_311 [] := K__307.wr W_311 (Or.inr sz_b_291)
    have f_313 : Arv Z h_311 b_291 k_291 .long (4 : Int32) [(.long q1), (.long q2), (.long q2), (.long q1)] (.long (0 : Int64)) := Arv.set Ar_309 q_309 S_309 N__309 H_309 G_309 rfl W_311 3 rfl (Nat.le_of_ble_eq_true rfl)
    refine Done.pre st_311 ?_
    show Done _ _ _ _ _ _ _ (T_311.setTop (mkF m 74 #[Lv q1, Zs, Lv q2, Zs, Lv q3, Zs, Lv q4, Zs, Lv q5, Zs, Iv p6, Iv (0 : Int32), Iv (2 : Int32), Lv mi1, Zs, Lv ma1, Zs, Us, Us, Us, Us, Us, Us, Us] [(.ref b_291)]))
    have sg_314 : ∀ tt_, Steps p.tables e below (T_311.setTop (mkF m 137 #[Lv q1, Zs, Lv q2, Zs, Lv q3, Zs, Lv q4, Zs, Lv q5, Zs, Iv p6, Iv (0 : Int32), Iv (2 : Int32), Lv mi1, Zs, Lv ma1, Zs, Rv b_291, Us, Us, Us, Us, Us, Us] [])) tt_ → Steps p.tables e below (T_311.setTop (mkF m 74 #[Lv q1, Zs, Lv q2, Zs, Lv q3, Zs, Lv q4, Zs, Lv q5, Zs, Iv p6, Iv (0 : Int32), Iv (2 : Int32), Lv mi1, Zs, Lv ma1, Zs, Us, Us, Us, Us, Us, Us, Us] [(.ref b_291)])) tt_ := by
      intro tt_ kt_
      refine XS.astore X_311.here hEX rfl (hb hBY at_74) rfl rfl (l' := #[Lv q1, Zs, Lv q2, Zs, Lv q3, Zs, Lv q4, Zs, Lv q5, Zs, Iv p6, Iv (0 : Int32), Iv (2 : Int32), Lv mi1, Zs, Lv ma1, Zs, Rv b_291, Us, Us, Us, Us, Us, Us]) rfl ?_
      show Steps p.tables e below (T_311.setTop (mkF m 76 #[Lv q1, Zs, Lv q2, Zs, Lv q3, Zs, Lv q4, Zs, Lv q5, Zs, Iv p6, Iv (0 : Int32), Iv (2 : Int32), Lv mi1, Zs, Lv ma1, Zs, Rv b_291, Us, Us, Us, Us, Us, Us] [])) tt_
      refine XS.goto X_311.here hEX rfl (pc0 := 76) (pc' := 137) rfl (hb hBY at_76) (by decide) (by decide) ?_
      exact kt_
    refine Done.pre sg_314 ?_
    obtain ⟨T_315, h_315, X_315, e_315, E_315, A_315, D_315, -, st_315⟩ := newO X_311 hEX hZW hOW (hw _ (List.mem_of_getElem? (i := 5) rfl)) (hw _ (List.mem_of_getElem? (i := 6) rfl)) (hw _ (List.mem_of_getElem? (i := 7) rfl)) e_311 (g := (mkF m 137 #[Lv q1, Zs, Lv q2, Zs, Lv q3, Zs, Lv q4, Zs, Lv q5, Zs, Iv p6, Iv (0 : Int32), Iv (2 : Int32), Lv mi1, Zs, Lv ma1, Zs, Rv b_291, Us, Us, Us, Us, Us, Us] [])) rfl (hb hBY at_137) (by decide) (by decide)
    obtain ⟨b_315, g_315⟩ : ∃ z, z = h_311.size := ⟨_, rfl⟩
    rw [← g_315] at A_315 D_315 st_315
    have sz_b_315 : h0.size ≤ b_315 := Nat.le_trans K__312.1 (Nat.le_of_eq g_315.symm)
    have ge_b_315 : n0 ≤ b_315 := Nat.le_trans Z0 sz_b_315
    have ne_b_291_b_315 : b_291 ≠ b_315 := Nat.ne_of_lt (Nat.lt_of_lt_of_le f_313.lt (Nat.le_of_eq g_315.symm))
    have K__316 : Keep h0 h_315 [] := K__312.ext E_315
    have f_317 : Arv Z h_315 b_291 k_291 .long (4 : Int32) [(.long q1), (.long q2), (.long q2), (.long q1)] (.long (0 : Int64)) := f_313.ext E_315
    have f_318 : Exa Z h_315 b_315 "com/example/pointcell/pointcell/Leaf" := A_315
    have f_319 : Fld Z h_315 b_315 "com/example/pointcell/pointcell/Leaf" "dimensions" "I" (.int (0 : Int32)) := D_315 (Or.inr (hw _ (List.mem_of_getElem? (i := 16) rfl))) (ty := .int) (by decide)
    have f_320 : Fld Z h_315 b_315 "com/example/pointcell/pointcell/Leaf" "docIds" "[I" .null := D_315 (Or.inr (hw _ (List.mem_of_getElem? (i := 18) rfl))) (ty := (.array .int)) (by decide)
    have f_321 : Fld Z h_315 b_315 "com/example/pointcell/pointcell/Leaf" "keys" "[J" .null := D_315 (Or.inr (hw _ (List.mem_of_getElem? (i := 20) rfl))) (ty := (.array .long)) (by decide)
    refine Done.pre st_315 ?_
    show Done _ _ _ _ _ _ _ (T_315.setTop (mkF m 140 #[Lv q1, Zs, Lv q2, Zs, Lv q3, Zs, Lv q4, Zs, Lv q5, Zs, Iv p6, Iv (0 : Int32), Iv (2 : Int32), Lv mi1, Zs, Lv ma1, Zs, Rv b_291, Us, Us, Us, Us, Us, Us] [(.ref b_315)]))
    have sg_322 : ∀ tt_, Steps p.tables e below (T_315.setTop (mkF m 144 #[Lv q1, Zs, Lv q2, Zs, Lv q3, Zs, Lv q4, Zs, Lv q5, Zs, Iv p6, Iv (0 : Int32), Iv (2 : Int32), Lv mi1, Zs, Lv ma1, Zs, Rv b_291, Us, Us, Us, Us, Us, Us] [(.int (2 : Int32)), (.int (2 : Int32)), (.ref b_315), (.ref b_315)])) tt_ → Steps p.tables e below (T_315.setTop (mkF m 140 #[Lv q1, Zs, Lv q2, Zs, Lv q3, Zs, Lv q4, Zs, Lv q5, Zs, Iv p6, Iv (0 : Int32), Iv (2 : Int32), Lv mi1, Zs, Lv ma1, Zs, Rv b_291, Us, Us, Us, Us, Us, Us] [(.ref b_315)])) tt_ := by
      intro tt_ kt_
      refine XS.dup X_315.here hEX rfl (hb hBY at_140) rfl rfl ?_
      show Steps p.tables e below (T_315.setTop (mkF m 141 #[Lv q1, Zs, Lv q2, Zs, Lv q3, Zs, Lv q4, Zs, Lv q5, Zs, Iv p6, Iv (0 : Int32), Iv (2 : Int32), Lv mi1, Zs, Lv ma1, Zs, Rv b_291, Us, Us, Us, Us, Us, Us] [(.ref b_315), (.ref b_315)])) tt_
      refine XS.iload X_315.here hEX rfl (hb hBY at_141) rfl ?_
      show Steps p.tables e below (T_315.setTop (mkF m 143 #[Lv q1, Zs, Lv q2, Zs, Lv q3, Zs, Lv q4, Zs, Lv q5, Zs, Iv p6, Iv (0 : Int32), Iv (2 : Int32), Lv mi1, Zs, Lv ma1, Zs, Rv b_291, Us, Us, Us, Us, Us, Us] [(.int (2 : Int32)), (.ref b_315), (.ref b_315)])) tt_
      refine XS.iconst X_315.here hEX rfl (hb hBY at_143) ?_
      exact kt_
    refine Done.pre sg_322 ?_
    obtain ⟨T_323, h_323, k_323, X_323, e_323, E_323, A_323, st_323⟩ := newP X_315 hEX hZW (hw _ (List.mem_of_getElem? (i := 8) rfl)) e_315 (g := (mkF m 144 #[Lv q1, Zs, Lv q2, Zs, Lv q3, Zs, Lv q4, Zs, Lv q5, Zs, Iv p6, Iv (0 : Int32), Iv (2 : Int32), Lv mi1, Zs, Lv ma1, Zs, Rv b_291, Us, Us, Us, Us, Us, Us] [(.int (2 : Int32)), (.int (2 : Int32)), (.ref b_315), (.ref b_315)])) rfl (hb hBY at_144) rfl (by decide) (cap := 2) (by decide) (by decide) (by decide) (by decide)
    obtain ⟨b_323, g_323⟩ : ∃ z, z = h_315.size := ⟨_, rfl⟩
    rw [← g_323] at A_323 st_323
    have sz_b_323 : h0.size ≤ b_323 := Nat.le_trans K__316.1 (Nat.le_of_eq g_323.symm)
    have ge_b_323 : n0 ≤ b_323 := Nat.le_trans Z0 sz_b_323
    have ne_b_291_b_323 : b_291 ≠ b_323 := Nat.ne_of_lt (Nat.lt_of_lt_of_le f_317.lt (Nat.le_of_eq g_323.symm))
    have ne_b_315_b_323 : b_315 ≠ b_323 := Nat.ne_of_lt (Nat.lt_of_lt_of_le f_318.lt (Nat.le_of_eq g_323.symm))
    have K__324 : Keep h0 h_323 [] := K__316.ext E_323
    have f_325 : Arv Z h_323 b_291 k_291 .long (4 : Int32) [(.long q1), (.long q2), (.long q2), (.long q1)] (.long (0 : Int64)) := f_317.ext E_323
    have f_326 : Exa Z h_323 b_315 "com/example/pointcell/pointcell/Leaf" := f_318.ext E_323
    have f_327 : Fld Z h_323 b_315 "com/example/pointcell/pointcell/Leaf" "dimensions" "I" (.int (0 : Int32)) := f_319.ext E_323
    have f_328 : Fld Z h_323 b_315 "com/example/pointcell/pointcell/Leaf" "docIds" "[I" .null := f_320.ext E_323
    have f_329 : Fld Z h_323 b_315 "com/example/pointcell/pointcell/Leaf" "keys" "[J" .null := f_321.ext E_323
    have f_330 : Arv Z h_323 b_323 k_323 .int (2 : Int32) [(.int (0 : Int32)), (.int (0 : Int32))] (.int (0 : Int32)) := (Arv.new A_323 (by decide)).pad (pad_rep [] (.int (0 : Int32)) 2)
    refine Done.pre st_323 ?_
    show Done _ _ _ _ _ _ _ (T_323.setTop (mkF m 146 #[Lv q1, Zs, Lv q2, Zs, Lv q3, Zs, Lv q4, Zs, Lv q5, Zs, Iv p6, Iv (0 : Int32), Iv (2 : Int32), Lv mi1, Zs, Lv ma1, Zs, Rv b_291, Us, Us, Us, Us, Us, Us] [(.ref b_323), (.int (2 : Int32)), (.ref b_315), (.ref b_315)]))
    have sg_332 : ∀ tt_, Steps p.tables e below (T_323.setTop (mkF m 149 #[Lv q1, Zs, Lv q2, Zs, Lv q3, Zs, Lv q4, Zs, Lv q5, Zs, Iv p6, Iv (0 : Int32), Iv (2 : Int32), Lv mi1, Zs, Lv ma1, Zs, Rv b_291, Us, Us, Us, Us, Us, Us] [(.int (0 : Int32)), (.int (0 : Int32)), (.ref b_323), (.ref b_323), (.int (2 : Int32)), (.ref b_315), (.ref b_315)])) tt_ → Steps p.tables e below (T_323.setTop (mkF m 146 #[Lv q1, Zs, Lv q2, Zs, Lv q3, Zs, Lv q4, Zs, Lv q5, Zs, Iv p6, Iv (0 : Int32), Iv (2 : Int32), Lv mi1, Zs, Lv ma1, Zs, Rv b_291, Us, Us, Us, Us, Us, Us] [(.ref b_323), (.int (2 : Int32)), (.ref b_315), (.ref b_315)])) tt_ := by
      intro tt_ kt_
      refine XS.dup X_323.here hEX rfl (hb hBY at_146) rfl rfl ?_
      show Steps p.tables e below (T_323.setTop (mkF m 147 #[Lv q1, Zs, Lv q2, Zs, Lv q3, Zs, Lv q4, Zs, Lv q5, Zs, Iv p6, Iv (0 : Int32), Iv (2 : Int32), Lv mi1, Zs, Lv ma1, Zs, Rv b_291, Us, Us, Us, Us, Us, Us] [(.ref b_323), (.ref b_323), (.int (2 : Int32)), (.ref b_315), (.ref b_315)])) tt_
      refine XS.iconst X_323.here hEX rfl (hb hBY at_147) ?_
      show Steps p.tables e below (T_323.setTop (mkF m 148 #[Lv q1, Zs, Lv q2, Zs, Lv q3, Zs, Lv q4, Zs, Lv q5, Zs, Iv p6, Iv (0 : Int32), Iv (2 : Int32), Lv mi1, Zs, Lv ma1, Zs, Rv b_291, Us, Us, Us, Us, Us, Us] [(.int (0 : Int32)), (.ref b_323), (.ref b_323), (.int (2 : Int32)), (.ref b_315), (.ref b_315)])) tt_
      refine XS.iconst X_323.here hEX rfl (hb hBY at_148) ?_
      exact kt_
    refine Done.pre sg_332 ?_
    obtain ⟨cl_331, Ar_331, q_331, S_331, N__331, H_331, G_331⟩ := id f_330
    have hin_331 : ¬ ((0 : Int32) < 0 ∨ cl_331.slots.size ≤ ((0 : Int32)).toNatClampNeg) := inb_of S_331 ⟨by decide, by decide⟩
    obtain ⟨T_333, h_333, X_333, e_333, W_333, st_333⟩ := stI X_323 hEX hZW e_323 Ar_331 (j := (0 : Int32)) hin_331 (g := (mkF m 149 #[Lv q1, Zs, Lv q2, Zs, Lv q3, Zs, Lv q4, Zs, Lv q5, Zs, Iv p6, Iv (0 : Int32), Iv (2 : Int32), Lv mi1, Zs, Lv ma1, Zs, Rv b_291, Us, Us, Us, Us, Us, Us] [(.int (0 : Int32)), (.int (0 : Int32)), (.ref b_323), (.ref b_323), (.int (2 : Int32)), (.ref b_315), (.ref b_315)])) rfl rfl (hb hBY at_149)
    have N_333 := Fr.snoc X_333 N_311 ge_b_323
    have K__334 : Keep h0 h_333 [] := K__324.wr W_333 (Or.inr sz_b_323)
    have f_335 : Arv Z h_333 b_291 k_291 .long (4 : Int32) [(.long q1), (.long q2), (.long q2), (.long q1)] (.long (0 : Int64)) := f_325.other W_333 ne_b_291_b_323
    have f_336 : Exa Z h_333 b_315 "com/example/pointcell/pointcell/Leaf" := f_326.wr W_333
    have f_337 : Fld Z h_333 b_315 "com/example/pointcell/pointcell/Leaf" "dimensions" "I" (.int (0 : Int32)) := f_327.other W_333 (Or.inl ne_b_315_b_323)
    have f_338 : Fld Z h_333 b_315 "com/example/pointcell/pointcell/Leaf" "docIds" "[I" .null := f_328.other W_333 (Or.inl ne_b_315_b_323)
    have f_339 : Fld Z h_333 b_315 "com/example/pointcell/pointcell/Leaf" "keys" "[J" .null := f_329.other W_333 (Or.inl ne_b_315_b_323)
    have f_340 : Arv Z h_333 b_323 k_323 .int (2 : Int32) [(.int (0 : Int32)), (.int (0 : Int32))] (.int (0 : Int32)) := Arv.set Ar_331 q_331 S_331 N__331 H_331 G_331 rfl W_333 0 rfl (Nat.le_of_ble_eq_true rfl)
    refine Done.pre st_333 ?_
    show Done _ _ _ _ _ _ _ (T_333.setTop (mkF m 150 #[Lv q1, Zs, Lv q2, Zs, Lv q3, Zs, Lv q4, Zs, Lv q5, Zs, Iv p6, Iv (0 : Int32), Iv (2 : Int32), Lv mi1, Zs, Lv ma1, Zs, Rv b_291, Us, Us, Us, Us, Us, Us] [(.ref b_323), (.int (2 : Int32)), (.ref b_315), (.ref b_315)]))
    have sg_342 : ∀ tt_, Steps p.tables e below (T_333.setTop (mkF m 153 #[Lv q1, Zs, Lv q2, Zs, Lv q3, Zs, Lv q4, Zs, Lv q5, Zs, Iv p6, Iv (0 : Int32), Iv (2 : Int32), Lv mi1, Zs, Lv ma1, Zs, Rv b_291, Us, Us, Us, Us, Us, Us] [(.int (1 : Int32)), (.int (1 : Int32)), (.ref b_323), (.ref b_323), (.int (2 : Int32)), (.ref b_315), (.ref b_315)])) tt_ → Steps p.tables e below (T_333.setTop (mkF m 150 #[Lv q1, Zs, Lv q2, Zs, Lv q3, Zs, Lv q4, Zs, Lv q5, Zs, Iv p6, Iv (0 : Int32), Iv (2 : Int32), Lv mi1, Zs, Lv ma1, Zs, Rv b_291, Us, Us, Us, Us, Us, Us] [(.ref b_323), (.int (2 : Int32)), (.ref b_315), (.ref b_315)])) tt_ := by
      intro tt_ kt_
      refine XS.dup X_333.here hEX rfl (hb hBY at_150) rfl rfl ?_
      show Steps p.tables e below (T_333.setTop (mkF m 151 #[Lv q1, Zs, Lv q2, Zs, Lv q3, Zs, Lv q4, Zs, Lv q5, Zs, Iv p6, Iv (0 : Int32), Iv (2 : Int32), Lv mi1, Zs, Lv ma1, Zs, Rv b_291, Us, Us, Us, Us, Us, Us] [(.ref b_323), (.ref b_323), (.int (2 : Int32)), (.ref b_315), (.ref b_315)])) tt_
      refine XS.iconst X_333.here hEX rfl (hb hBY at_151) ?_
      show Steps p.tables e below (T_333.setTop (mkF m 152 #[Lv q1, Zs, Lv q2, Zs, Lv q3, Zs, Lv q4, Zs, Lv q5, Zs, Iv p6, Iv (0 : Int32), Iv (2 : Int32), Lv mi1, Zs, Lv ma1, Zs, Rv b_291, Us, Us, Us, Us, Us, Us] [(.int (1 : Int32)), (.ref b_323), (.ref b_323), (.int (2 : Int32)), (.ref b_315), (.ref b_315)])) tt_
      refine XS.iconst X_333.here hEX rfl (hb hBY at_152) ?_
      exact kt_
    refine Done.pre sg_342 ?_
    obtain ⟨cl_341, Ar_341, q_341, S_341, N__341, H_341, G_341⟩ := id f_340
    have hin_341 : ¬ ((1 : Int32) < 0 ∨ cl_341.slots.size ≤ ((1 : Int32)).toNatClampNeg) := inb_of S_341 ⟨by decide, by decide⟩
    obtain ⟨T_343, h_343, X_343, e_343, W_343, st_343⟩ := stI X_333 hEX hZW e_333 Ar_341 (j := (1 : Int32)) hin_341 (g := (mkF m 153 #[Lv q1, Zs, Lv q2, Zs, Lv q3, Zs, Lv q4, Zs, Lv q5, Zs, Iv p6, Iv (0 : Int32), Iv (2 : Int32), Lv mi1, Zs, Lv ma1, Zs, Rv b_291, Us, Us, Us, Us, Us, Us] [(.int (1 : Int32)), (.int (1 : Int32)), (.ref b_323), (.ref b_323), (.int (2 : Int32)), (.ref b_315), (.ref b_315)])) rfl rfl (hb hBY at_153)
    have N_343 := Fr.snoc X_343 N_333 ge_b_323
    have K__344 : Keep h0 h_343 [] := K__334.wr W_343 (Or.inr sz_b_323)
    have f_345 : Arv Z h_343 b_291 k_291 .long (4 : Int32) [(.long q1), (.long q2), (.long q2), (.long q1)] (.long (0 : Int64)) := f_335.other W_343 ne_b_291_b_323
    have f_346 : Exa Z h_343 b_315 "com/example/pointcell/pointcell/Leaf" := f_336.wr W_343
    have f_347 : Fld Z h_343 b_315 "com/example/pointcell/pointcell/Leaf" "dimensions" "I" (.int (0 : Int32)) := f_337.other W_343 (Or.inl ne_b_315_b_323)
    have f_348 : Fld Z h_343 b_315 "com/example/pointcell/pointcell/Leaf" "docIds" "[I" .null := f_338.other W_343 (Or.inl ne_b_315_b_323)
    have f_349 : Fld Z h_343 b_315 "com/example/pointcell/pointcell/Leaf" "keys" "[J" .null := f_339.other W_343 (Or.inl ne_b_315_b_323)
    have f_350 : Arv Z h_343 b_323 k_323 .int (2 : Int32) [(.int (0 : Int32)), (.int (1 : Int32))] (.int (0 : Int32)) := Arv.set Ar_341 q_341 S_341 N__341 H_341 G_341 rfl W_343 1 rfl (Nat.le_of_ble_eq_true rfl)
    refine Done.pre st_343 ?_
    show Done _ _ _ _ _ _ _ (T_343.setTop (mkF m 154 #[Lv q1, Zs, Lv q2, Zs, Lv q3, Zs, Lv q4, Zs, Lv q5, Zs, Iv p6, Iv (0 : Int32), Iv (2 : Int32), Lv mi1, Zs, Lv ma1, Zs, Rv b_291, Us, Us, Us, Us, Us, Us] [(.ref b_323), (.int (2 : Int32)), (.ref b_315), (.ref b_315)]))
    have sg_351 : ∀ tt_, Steps p.tables e below (T_343.setTop (mkF m 156 #[Lv q1, Zs, Lv q2, Zs, Lv q3, Zs, Lv q4, Zs, Lv q5, Zs, Iv p6, Iv (0 : Int32), Iv (2 : Int32), Lv mi1, Zs, Lv ma1, Zs, Rv b_291, Us, Us, Us, Us, Us, Us] [(.ref b_291), (.ref b_323), (.int (2 : Int32)), (.ref b_315), (.ref b_315)])) tt_ → Steps p.tables e below (T_343.setTop (mkF m 154 #[Lv q1, Zs, Lv q2, Zs, Lv q3, Zs, Lv q4, Zs, Lv q5, Zs, Iv p6, Iv (0 : Int32), Iv (2 : Int32), Lv mi1, Zs, Lv ma1, Zs, Rv b_291, Us, Us, Us, Us, Us, Us] [(.ref b_323), (.int (2 : Int32)), (.ref b_315), (.ref b_315)])) tt_ := by
      intro tt_ kt_
      refine XS.aload X_343.here hEX rfl (hb hBY at_154) rfl rfl ?_
      exact kt_
    refine Done.pre sg_351 ?_
    obtain ⟨_, _, ⟨T_352, L_352, k_352, n_352⟩, -, X_352, ⟨Lc_352, hQ_352, l_352, y_352, z_352⟩, st_352⟩ := X_343.specialBack hEX (y := (⟨"com/example/pointcell/pointcell/Leaf", "<init>", "(I[I[J)V"⟩ : MethodName)) rfl hOW (mvT hZW (hw _ (List.mem_of_getElem? (i := 9) rfl))) (mvT hZW (hw _ (List.mem_of_getElem? (i := 10) rfl))) (mvT hZW (hw _ (List.mem_of_getElem? (i := 11) rfl))) (by decide) (backOf (W := 1) (rm_init l Z aZ hw [] b_315 (2 : Int32) b_323 b_291 (.int (0 : Int32)) .null .null h_343 n0 (Nat.le_trans Z0 K__344.1) f_346 f_347 f_348 f_349 ge_b_315) hZW (hw _ (List.mem_of_getElem? (i := 11) rfl)) (hw _ (List.mem_of_getElem? (i := 7) rfl)) (by decide) (by decide)) (g := (mkF m 156 #[Lv q1, Zs, Lv q2, Zs, Lv q3, Zs, Lv q4, Zs, Lv q5, Zs, Iv p6, Iv (0 : Int32), Iv (2 : Int32), Lv mi1, Zs, Lv ma1, Zs, Rv b_291, Us, Us, Us, Us, Us, Us] [(.ref b_291), (.ref b_323), (.int (2 : Int32)), (.ref b_315), (.ref b_315)])) rfl (by rw [hMX]; rfl) (Steps.refl _) (a := b_315) (argsL := [(.int (2 : Int32)), (.ref b_323), (.ref b_291)]) (rest := [(.ref b_315)]) (lenOf pd__I_I_J_V_2 rfl) rfl (by show 2 * 0 + _ ≤ _; exact Nat.le_of_eq rfl) (hb hBY at_156) (fun _ _ => ⟨rfl, e_343, (by decide : 3 + 0 ≤ _), (by decide : 9 + 0 ≤ _)⟩)
    dsimp only [Pt.U, Pt.locs, Pt.cells, Pt.slots] at X_352 l_352 y_352 z_352 st_352 hQ_352
    subst l_352 y_352 z_352
    obtain ⟨rfl, N_352q, K_352, hq_352_0, hq_352_1, hq_352_2, hq_352_3⟩ := hQ_352
    have N_352 := Fr.app N_343 N_352q
    have K__353 : Keep h0 T_352.heap [] := K__344.trans K_352 (allS (Or.inr sz_b_315) all0)
    have f_354 : Arv Z T_352.heap b_291 k_291 .long (4 : Int32) [(.long q1), (.long q2), (.long q2), (.long q1)] (.long (0 : Int64)) := f_345.keep K_352 (ninS ne_b_291_b_315 nin0)
    have f_355 : Exa Z T_352.heap b_315 "com/example/pointcell/pointcell/Leaf" := f_346.keep K_352
    have f_356 : Arv Z T_352.heap b_323 k_323 .int (2 : Int32) [(.int (0 : Int32)), (.int (1 : Int32))] (.int (0 : Int32)) := f_350.keep K_352 (ninS (Ne.symm ne_b_315_b_323) nin0)
    refine Done.pre (fun _ k_ => st_352.trans k_) ?_
    show Done _ _ _ _ _ _ _ (T_352.setTop (mkF m 159 #[Lv q1, Zs, Lv q2, Zs, Lv q3, Zs, Lv q4, Zs, Lv q5, Zs, Iv p6, Iv (0 : Int32), Iv (2 : Int32), Lv mi1, Zs, Lv ma1, Zs, Rv b_291, Us, Us, Us, Us, Us, Us] [(.ref b_315)]))
    have sg_357 : ∀ tt_, Steps p.tables e below (T_352.setTop (mkF m 162 #[Lv q1, Zs, Lv q2, Zs, Lv q3, Zs, Lv q4, Zs, Lv q5, Zs, Iv p6, Iv (0 : Int32), Iv (2 : Int32), Lv mi1, Zs, Lv ma1, Zs, Rv b_291, Rv b_315, Us, Us, Us, Us, Us] [(.int (2 : Int32))])) tt_ → Steps p.tables e below (T_352.setTop (mkF m 159 #[Lv q1, Zs, Lv q2, Zs, Lv q3, Zs, Lv q4, Zs, Lv q5, Zs, Iv p6, Iv (0 : Int32), Iv (2 : Int32), Lv mi1, Zs, Lv ma1, Zs, Rv b_291, Us, Us, Us, Us, Us, Us] [(.ref b_315)])) tt_ := by
      intro tt_ kt_
      refine XS.astore X_352.here hEX rfl (hb hBY at_159) rfl rfl (l' := #[Lv q1, Zs, Lv q2, Zs, Lv q3, Zs, Lv q4, Zs, Lv q5, Zs, Iv p6, Iv (0 : Int32), Iv (2 : Int32), Lv mi1, Zs, Lv ma1, Zs, Rv b_291, Rv b_315, Us, Us, Us, Us, Us]) rfl ?_
      show Steps p.tables e below (T_352.setTop (mkF m 161 #[Lv q1, Zs, Lv q2, Zs, Lv q3, Zs, Lv q4, Zs, Lv q5, Zs, Iv p6, Iv (0 : Int32), Iv (2 : Int32), Lv mi1, Zs, Lv ma1, Zs, Rv b_291, Rv b_315, Us, Us, Us, Us, Us] [])) tt_
      refine XS.iconst X_352.here hEX rfl (hb hBY at_161) ?_
      exact kt_
    refine Done.pre sg_357 ?_
    obtain ⟨T_358, h_358, k_358, X_358, e_358, E_358, A_358, st_358⟩ := newP X_352 hEX hZW (hw _ (List.mem_of_getElem? (i := 4) rfl)) rfl (g := (mkF m 162 #[Lv q1, Zs, Lv q2, Zs, Lv q3, Zs, Lv q4, Zs, Lv q5, Zs, Iv p6, Iv (0 : Int32), Iv (2 : Int32), Lv mi1, Zs, Lv ma1, Zs, Rv b_291, Rv b_315, Us, Us, Us, Us, Us] [(.int (2 : Int32))])) rfl (hb hBY at_162) rfl (by decide) (cap := 2) (by decide) (by decide) (by decide) (by decide)
    obtain ⟨b_358, g_358⟩ : ∃ z, z = T_352.heap.size := ⟨_, rfl⟩
    rw [← g_358] at A_358 st_358
    have sz_b_358 : h0.size ≤ b_358 := Nat.le_trans K__353.1 (Nat.le_of_eq g_358.symm)
    have ge_b_358 : n0 ≤ b_358 := Nat.le_trans Z0 sz_b_358
    have ne_b_291_b_358 : b_291 ≠ b_358 := Nat.ne_of_lt (Nat.lt_of_lt_of_le f_354.lt (Nat.le_of_eq g_358.symm))
    have ne_b_315_b_358 : b_315 ≠ b_358 := Nat.ne_of_lt (Nat.lt_of_lt_of_le hq_352_0.lt (Nat.le_of_eq g_358.symm))
    have ne_b_323_b_358 : b_323 ≠ b_358 := Nat.ne_of_lt (Nat.lt_of_lt_of_le f_356.lt (Nat.le_of_eq g_358.symm))
    have K__359 : Keep h0 h_358 [] := K__353.ext E_358
    have f_360 : Arv Z h_358 b_291 k_291 .long (4 : Int32) [(.long q1), (.long q2), (.long q2), (.long q1)] (.long (0 : Int64)) := f_354.ext E_358
    have f_361 : Exa Z h_358 b_315 "com/example/pointcell/pointcell/Leaf" := hq_352_0.ext E_358
    have f_362 : Arv Z h_358 b_323 k_323 .int (2 : Int32) [(.int (0 : Int32)), (.int (1 : Int32))] (.int (0 : Int32)) := f_356.ext E_358
    have f_363 : Fld Z h_358 b_315 "com/example/pointcell/pointcell/Leaf" "dimensions" "I" (.int (2 : Int32)) := hq_352_1.ext E_358
    have f_364 : Fld Z h_358 b_315 "com/example/pointcell/pointcell/Leaf" "docIds" "[I" (.ref b_323) := hq_352_2.ext E_358
    have f_365 : Fld Z h_358 b_315 "com/example/pointcell/pointcell/Leaf" "keys" "[J" (.ref b_291) := hq_352_3.ext E_358
    have f_366 : Arv Z h_358 b_358 k_358 .long (2 : Int32) [(.long (0 : Int64)), (.long (0 : Int64))] (.long (0 : Int64)) := (Arv.new A_358 (by decide)).pad (pad_rep [] (.long (0 : Int64)) 2)
    refine Done.pre st_358 ?_
    show Done _ _ _ _ _ _ _ (T_358.setTop (mkF m 164 #[Lv q1, Zs, Lv q2, Zs, Lv q3, Zs, Lv q4, Zs, Lv q5, Zs, Iv p6, Iv (0 : Int32), Iv (2 : Int32), Lv mi1, Zs, Lv ma1, Zs, Rv b_291, Rv b_315, Us, Us, Us, Us, Us] [(.ref b_358)]))
    have sg_368 : ∀ tt_, Steps p.tables e below (T_358.setTop (mkF m 168 #[Lv q1, Zs, Lv q2, Zs, Lv q3, Zs, Lv q4, Zs, Lv q5, Zs, Iv p6, Iv (0 : Int32), Iv (2 : Int32), Lv mi1, Zs, Lv ma1, Zs, Rv b_291, Rv b_315, Us, Us, Us, Us, Us] [(.long q3), (.int (0 : Int32)), (.ref b_358), (.ref b_358)])) tt_ → Steps p.tables e below (T_358.setTop (mkF m 164 #[Lv q1, Zs, Lv q2, Zs, Lv q3, Zs, Lv q4, Zs, Lv q5, Zs, Iv p6, Iv (0 : Int32), Iv (2 : Int32), Lv mi1, Zs, Lv ma1, Zs, Rv b_291, Rv b_315, Us, Us, Us, Us, Us] [(.ref b_358)])) tt_ := by
      intro tt_ kt_
      refine XS.dup X_358.here hEX rfl (hb hBY at_164) rfl rfl ?_
      show Steps p.tables e below (T_358.setTop (mkF m 165 #[Lv q1, Zs, Lv q2, Zs, Lv q3, Zs, Lv q4, Zs, Lv q5, Zs, Iv p6, Iv (0 : Int32), Iv (2 : Int32), Lv mi1, Zs, Lv ma1, Zs, Rv b_291, Rv b_315, Us, Us, Us, Us, Us] [(.ref b_358), (.ref b_358)])) tt_
      refine XS.iconst X_358.here hEX rfl (hb hBY at_165) ?_
      show Steps p.tables e below (T_358.setTop (mkF m 166 #[Lv q1, Zs, Lv q2, Zs, Lv q3, Zs, Lv q4, Zs, Lv q5, Zs, Iv p6, Iv (0 : Int32), Iv (2 : Int32), Lv mi1, Zs, Lv ma1, Zs, Rv b_291, Rv b_315, Us, Us, Us, Us, Us] [(.int (0 : Int32)), (.ref b_358), (.ref b_358)])) tt_
      refine XS.lload X_358.here hEX rfl (hb hBY at_166) rfl ?_
      exact kt_
    refine Done.pre sg_368 ?_
    obtain ⟨cl_367, Ar_367, q_367, S_367, N__367, H_367, G_367⟩ := id f_366
    have hin_367 : ¬ ((0 : Int32) < 0 ∨ cl_367.slots.size ≤ ((0 : Int32)).toNatClampNeg) := inb_of S_367 ⟨by decide, by decide⟩
    obtain ⟨T_369, h_369, X_369, e_369, W_369, st_369⟩ := stJ X_358 hEX hZW e_358 Ar_367 (j := (0 : Int32)) hin_367 (g := (mkF m 168 #[Lv q1, Zs, Lv q2, Zs, Lv q3, Zs, Lv q4, Zs, Lv q5, Zs, Iv p6, Iv (0 : Int32), Iv (2 : Int32), Lv mi1, Zs, Lv ma1, Zs, Rv b_291, Rv b_315, Us, Us, Us, Us, Us] [(.long q3), (.int (0 : Int32)), (.ref b_358), (.ref b_358)])) rfl rfl (hb hBY at_168)
    have N_369 := Fr.snoc X_369 N_352 ge_b_358
    have K__370 : Keep h0 h_369 [] := K__359.wr W_369 (Or.inr sz_b_358)
    have f_371 : Arv Z h_369 b_291 k_291 .long (4 : Int32) [(.long q1), (.long q2), (.long q2), (.long q1)] (.long (0 : Int64)) := f_360.other W_369 ne_b_291_b_358
    have f_372 : Exa Z h_369 b_315 "com/example/pointcell/pointcell/Leaf" := f_361.wr W_369
    have f_373 : Arv Z h_369 b_323 k_323 .int (2 : Int32) [(.int (0 : Int32)), (.int (1 : Int32))] (.int (0 : Int32)) := f_362.other W_369 ne_b_323_b_358
    have f_374 : Fld Z h_369 b_315 "com/example/pointcell/pointcell/Leaf" "dimensions" "I" (.int (2 : Int32)) := f_363.other W_369 (Or.inl ne_b_315_b_358)
    have f_375 : Fld Z h_369 b_315 "com/example/pointcell/pointcell/Leaf" "docIds" "[I" (.ref b_323) := f_364.other W_369 (Or.inl ne_b_315_b_358)
    have f_376 : Fld Z h_369 b_315 "com/example/pointcell/pointcell/Leaf" "keys" "[J" (.ref b_291) := f_365.other W_369 (Or.inl ne_b_315_b_358)
    have f_377 : Arv Z h_369 b_358 k_358 .long (2 : Int32) [(.long q3), (.long (0 : Int64))] (.long (0 : Int64)) := Arv.set Ar_367 q_367 S_367 N__367 H_367 G_367 rfl W_369 0 rfl (Nat.le_of_ble_eq_true rfl)
    refine Done.pre st_369 ?_
    show Done _ _ _ _ _ _ _ (T_369.setTop (mkF m 169 #[Lv q1, Zs, Lv q2, Zs, Lv q3, Zs, Lv q4, Zs, Lv q5, Zs, Iv p6, Iv (0 : Int32), Iv (2 : Int32), Lv mi1, Zs, Lv ma1, Zs, Rv b_291, Rv b_315, Us, Us, Us, Us, Us] [(.ref b_358)]))
    have sg_379 : ∀ tt_, Steps p.tables e below (T_369.setTop (mkF m 173 #[Lv q1, Zs, Lv q2, Zs, Lv q3, Zs, Lv q4, Zs, Lv q5, Zs, Iv p6, Iv (0 : Int32), Iv (2 : Int32), Lv mi1, Zs, Lv ma1, Zs, Rv b_291, Rv b_315, Us, Us, Us, Us, Us] [(.long mi1), (.int (1 : Int32)), (.ref b_358), (.ref b_358)])) tt_ → Steps p.tables e below (T_369.setTop (mkF m 169 #[Lv q1, Zs, Lv q2, Zs, Lv q3, Zs, Lv q4, Zs, Lv q5, Zs, Iv p6, Iv (0 : Int32), Iv (2 : Int32), Lv mi1, Zs, Lv ma1, Zs, Rv b_291, Rv b_315, Us, Us, Us, Us, Us] [(.ref b_358)])) tt_ := by
      intro tt_ kt_
      refine XS.dup X_369.here hEX rfl (hb hBY at_169) rfl rfl ?_
      show Steps p.tables e below (T_369.setTop (mkF m 170 #[Lv q1, Zs, Lv q2, Zs, Lv q3, Zs, Lv q4, Zs, Lv q5, Zs, Iv p6, Iv (0 : Int32), Iv (2 : Int32), Lv mi1, Zs, Lv ma1, Zs, Rv b_291, Rv b_315, Us, Us, Us, Us, Us] [(.ref b_358), (.ref b_358)])) tt_
      refine XS.iconst X_369.here hEX rfl (hb hBY at_170) ?_
      show Steps p.tables e below (T_369.setTop (mkF m 171 #[Lv q1, Zs, Lv q2, Zs, Lv q3, Zs, Lv q4, Zs, Lv q5, Zs, Iv p6, Iv (0 : Int32), Iv (2 : Int32), Lv mi1, Zs, Lv ma1, Zs, Rv b_291, Rv b_315, Us, Us, Us, Us, Us] [(.int (1 : Int32)), (.ref b_358), (.ref b_358)])) tt_
      refine XS.lload X_369.here hEX rfl (hb hBY at_171) rfl ?_
      exact kt_
    refine Done.pre sg_379 ?_
    obtain ⟨cl_378, Ar_378, q_378, S_378, N__378, H_378, G_378⟩ := id f_377
    have hin_378 : ¬ ((1 : Int32) < 0 ∨ cl_378.slots.size ≤ ((1 : Int32)).toNatClampNeg) := inb_of S_378 ⟨by decide, by decide⟩
    obtain ⟨T_380, h_380, X_380, e_380, W_380, st_380⟩ := stJ X_369 hEX hZW e_369 Ar_378 (j := (1 : Int32)) hin_378 (g := (mkF m 173 #[Lv q1, Zs, Lv q2, Zs, Lv q3, Zs, Lv q4, Zs, Lv q5, Zs, Iv p6, Iv (0 : Int32), Iv (2 : Int32), Lv mi1, Zs, Lv ma1, Zs, Rv b_291, Rv b_315, Us, Us, Us, Us, Us] [(.long mi1), (.int (1 : Int32)), (.ref b_358), (.ref b_358)])) rfl rfl (hb hBY at_173)
    have N_380 := Fr.snoc X_380 N_369 ge_b_358
    have K__381 : Keep h0 h_380 [] := K__370.wr W_380 (Or.inr sz_b_358)
    have f_382 : Arv Z h_380 b_291 k_291 .long (4 : Int32) [(.long q1), (.long q2), (.long q2), (.long q1)] (.long (0 : Int64)) := f_371.other W_380 ne_b_291_b_358
    have f_383 : Exa Z h_380 b_315 "com/example/pointcell/pointcell/Leaf" := f_372.wr W_380
    have f_384 : Arv Z h_380 b_323 k_323 .int (2 : Int32) [(.int (0 : Int32)), (.int (1 : Int32))] (.int (0 : Int32)) := f_373.other W_380 ne_b_323_b_358
    have f_385 : Fld Z h_380 b_315 "com/example/pointcell/pointcell/Leaf" "dimensions" "I" (.int (2 : Int32)) := f_374.other W_380 (Or.inl ne_b_315_b_358)
    have f_386 : Fld Z h_380 b_315 "com/example/pointcell/pointcell/Leaf" "docIds" "[I" (.ref b_323) := f_375.other W_380 (Or.inl ne_b_315_b_358)
    have f_387 : Fld Z h_380 b_315 "com/example/pointcell/pointcell/Leaf" "keys" "[J" (.ref b_291) := f_376.other W_380 (Or.inl ne_b_315_b_358)
    have f_388 : Arv Z h_380 b_358 k_358 .long (2 : Int32) [(.long q3), (.long mi1)] (.long (0 : Int64)) := Arv.set Ar_378 q_378 S_378 N__378 H_378 G_378 rfl W_380 1 rfl (Nat.le_of_ble_eq_true rfl)
    refine Done.pre st_380 ?_
    show Done _ _ _ _ _ _ _ (T_380.setTop (mkF m 174 #[Lv q1, Zs, Lv q2, Zs, Lv q3, Zs, Lv q4, Zs, Lv q5, Zs, Iv p6, Iv (0 : Int32), Iv (2 : Int32), Lv mi1, Zs, Lv ma1, Zs, Rv b_291, Rv b_315, Us, Us, Us, Us, Us] [(.ref b_358)]))
    have sg_389 : ∀ tt_, Steps p.tables e below (T_380.setTop (mkF m 177 #[Lv q1, Zs, Lv q2, Zs, Lv q3, Zs, Lv q4, Zs, Lv q5, Zs, Iv p6, Iv (0 : Int32), Iv (2 : Int32), Lv mi1, Zs, Lv ma1, Zs, Rv b_291, Rv b_315, Rv b_358, Us, Us, Us, Us] [(.int (2 : Int32))])) tt_ → Steps p.tables e below (T_380.setTop (mkF m 174 #[Lv q1, Zs, Lv q2, Zs, Lv q3, Zs, Lv q4, Zs, Lv q5, Zs, Iv p6, Iv (0 : Int32), Iv (2 : Int32), Lv mi1, Zs, Lv ma1, Zs, Rv b_291, Rv b_315, Us, Us, Us, Us, Us] [(.ref b_358)])) tt_ := by
      intro tt_ kt_
      refine XS.astore X_380.here hEX rfl (hb hBY at_174) rfl rfl (l' := #[Lv q1, Zs, Lv q2, Zs, Lv q3, Zs, Lv q4, Zs, Lv q5, Zs, Iv p6, Iv (0 : Int32), Iv (2 : Int32), Lv mi1, Zs, Lv ma1, Zs, Rv b_291, Rv b_315, Rv b_358, Us, Us, Us, Us]) rfl ?_
      show Steps p.tables e below (T_380.setTop (mkF m 176 #[Lv q1, Zs, Lv q2, Zs, Lv q3, Zs, Lv q4, Zs, Lv q5, Zs, Iv p6, Iv (0 : Int32), Iv (2 : Int32), Lv mi1, Zs, Lv ma1, Zs, Rv b_291, Rv b_315, Rv b_358, Us, Us, Us, Us] [])) tt_
      refine XS.iconst X_380.here hEX rfl (hb hBY at_176) ?_
      exact kt_
    refine Done.pre sg_389 ?_
    obtain ⟨T_390, h_390, k_390, X_390, e_390, E_390, A_390, st_390⟩ := newP X_380 hEX hZW (hw _ (List.mem_of_getElem? (i := 4) rfl)) e_380 (g := (mkF m 177 #[Lv q1, Zs, Lv q2, Zs, Lv q3, Zs, Lv q4, Zs, Lv q5, Zs, Iv p6, Iv (0 : Int32), Iv (2 : Int32), Lv mi1, Zs, Lv ma1, Zs, Rv b_291, Rv b_315, Rv b_358, Us, Us, Us, Us] [(.int (2 : Int32))])) rfl (hb hBY at_177) rfl (by decide) (cap := 2) (by decide) (by decide) (by decide) (by decide)
    obtain ⟨b_390, g_390⟩ : ∃ z, z = h_380.size := ⟨_, rfl⟩
    rw [← g_390] at A_390 st_390
    have sz_b_390 : h0.size ≤ b_390 := Nat.le_trans K__381.1 (Nat.le_of_eq g_390.symm)
    have ge_b_390 : n0 ≤ b_390 := Nat.le_trans Z0 sz_b_390
    have ne_b_291_b_390 : b_291 ≠ b_390 := Nat.ne_of_lt (Nat.lt_of_lt_of_le f_382.lt (Nat.le_of_eq g_390.symm))
    have ne_b_315_b_390 : b_315 ≠ b_390 := Nat.ne_of_lt (Nat.lt_of_lt_of_le f_383.lt (Nat.le_of_eq g_390.symm))
    have ne_b_323_b_390 : b_323 ≠ b_390 := Nat.ne_of_lt (Nat.lt_of_lt_of_le f_384.lt (Nat.le_of_eq g_390.symm))
    have ne_b_358_b_390 : b_358 ≠ b_390 := Nat.ne_of_lt (Nat.lt_of_lt_of_le f_388.lt (Nat.le_of_eq g_390.symm))
    have K__391 : Keep h0 h_390 [] := K__381.ext E_390
    have f_392 : Arv Z h_390 b_291 k_291 .long (4 : Int32) [(.long q1), (.long q2), (.long q2), (.long q1)] (.long (0 : Int64)) := f_382.ext E_390
    have f_393 : Exa Z h_390 b_315 "com/example/pointcell/pointcell/Leaf" := f_383.ext E_390
    have f_394 : Arv Z h_390 b_323 k_323 .int (2 : Int32) [(.int (0 : Int32)), (.int (1 : Int32))] (.int (0 : Int32)) := f_384.ext E_390
    have f_395 : Fld Z h_390 b_315 "com/example/pointcell/pointcell/Leaf" "dimensions" "I" (.int (2 : Int32)) := f_385.ext E_390
    have f_396 : Fld Z h_390 b_315 "com/example/pointcell/pointcell/Leaf" "docIds" "[I" (.ref b_323) := f_386.ext E_390
    have f_397 : Fld Z h_390 b_315 "com/example/pointcell/pointcell/Leaf" "keys" "[J" (.ref b_291) := f_387.ext E_390
    have f_398 : Arv Z h_390 b_358 k_358 .long (2 : Int32) [(.long q3), (.long mi1)] (.long (0 : Int64)) := f_388.ext E_390
    have f_399 : Arv Z h_390 b_390 k_390 .long (2 : Int32) [(.long (0 : Int64)), (.long (0 : Int64))] (.long (0 : Int64)) := (Arv.new A_390 (by decide)).pad (pad_rep [] (.long (0 : Int64)) 2)
    refine Done.pre st_390 ?_
    show Done _ _ _ _ _ _ _ (T_390.setTop (mkF m 179 #[Lv q1, Zs, Lv q2, Zs, Lv q3, Zs, Lv q4, Zs, Lv q5, Zs, Iv p6, Iv (0 : Int32), Iv (2 : Int32), Lv mi1, Zs, Lv ma1, Zs, Rv b_291, Rv b_315, Rv b_358, Us, Us, Us, Us] [(.ref b_390)]))
    have sg_401 : ∀ tt_, Steps p.tables e below (T_390.setTop (mkF m 183 #[Lv q1, Zs, Lv q2, Zs, Lv q3, Zs, Lv q4, Zs, Lv q5, Zs, Iv p6, Iv (0 : Int32), Iv (2 : Int32), Lv mi1, Zs, Lv ma1, Zs, Rv b_291, Rv b_315, Rv b_358, Us, Us, Us, Us] [(.long q4), (.int (0 : Int32)), (.ref b_390), (.ref b_390)])) tt_ → Steps p.tables e below (T_390.setTop (mkF m 179 #[Lv q1, Zs, Lv q2, Zs, Lv q3, Zs, Lv q4, Zs, Lv q5, Zs, Iv p6, Iv (0 : Int32), Iv (2 : Int32), Lv mi1, Zs, Lv ma1, Zs, Rv b_291, Rv b_315, Rv b_358, Us, Us, Us, Us] [(.ref b_390)])) tt_ := by
      intro tt_ kt_
      refine XS.dup X_390.here hEX rfl (hb hBY at_179) rfl rfl ?_
      show Steps p.tables e below (T_390.setTop (mkF m 180 #[Lv q1, Zs, Lv q2, Zs, Lv q3, Zs, Lv q4, Zs, Lv q5, Zs, Iv p6, Iv (0 : Int32), Iv (2 : Int32), Lv mi1, Zs, Lv ma1, Zs, Rv b_291, Rv b_315, Rv b_358, Us, Us, Us, Us] [(.ref b_390), (.ref b_390)])) tt_
      refine XS.iconst X_390.here hEX rfl (hb hBY at_180) ?_
      show Steps p.tables e below (T_390.setTop (mkF m 181 #[Lv q1, Zs, Lv q2, Zs, Lv q3, Zs, Lv q4, Zs, Lv q5, Zs, Iv p6, Iv (0 : Int32), Iv (2 : Int32), Lv mi1, Zs, Lv ma1, Zs, Rv b_291, Rv b_315, Rv b_358, Us, Us, Us, Us] [(.int (0 : Int32)), (.ref b_390), (.ref b_390)])) tt_
      refine XS.lload X_390.here hEX rfl (hb hBY at_181) rfl ?_
      exact kt_
    refine Done.pre sg_401 ?_
    obtain ⟨cl_400, Ar_400, q_400, S_400, N__400, H_400, G_400⟩ := id f_399
    have hin_400 : ¬ ((0 : Int32) < 0 ∨ cl_400.slots.size ≤ ((0 : Int32)).toNatClampNeg) := inb_of S_400 ⟨by decide, by decide⟩
    obtain ⟨T_402, h_402, X_402, e_402, W_402, st_402⟩ := stJ X_390 hEX hZW e_390 Ar_400 (j := (0 : Int32)) hin_400 (g := (mkF m 183 #[Lv q1, Zs, Lv q2, Zs, Lv q3, Zs, Lv q4, Zs, Lv q5, Zs, Iv p6, Iv (0 : Int32), Iv (2 : Int32), Lv mi1, Zs, Lv ma1, Zs, Rv b_291, Rv b_315, Rv b_358, Us, Us, Us, Us] [(.long q4), (.int (0 : Int32)), (.ref b_390), (.ref b_390)])) rfl rfl (hb hBY at_183)
    have N_402 := Fr.snoc X_402 N_380 ge_b_390
    have K__403 : Keep h0 h_402 [] := K__391.wr W_402 (Or.inr sz_b_390)
    have f_404 : Arv Z h_402 b_291 k_291 .long (4 : Int32) [(.long q1), (.long q2), (.long q2), (.long q1)] (.long (0 : Int64)) := f_392.other W_402 ne_b_291_b_390
    have f_405 : Exa Z h_402 b_315 "com/example/pointcell/pointcell/Leaf" := f_393.wr W_402
    have f_406 : Arv Z h_402 b_323 k_323 .int (2 : Int32) [(.int (0 : Int32)), (.int (1 : Int32))] (.int (0 : Int32)) := f_394.other W_402 ne_b_323_b_390
    have f_407 : Fld Z h_402 b_315 "com/example/pointcell/pointcell/Leaf" "dimensions" "I" (.int (2 : Int32)) := f_395.other W_402 (Or.inl ne_b_315_b_390)
    have f_408 : Fld Z h_402 b_315 "com/example/pointcell/pointcell/Leaf" "docIds" "[I" (.ref b_323) := f_396.other W_402 (Or.inl ne_b_315_b_390)
    have f_409 : Fld Z h_402 b_315 "com/example/pointcell/pointcell/Leaf" "keys" "[J" (.ref b_291) := f_397.other W_402 (Or.inl ne_b_315_b_390)
    have f_410 : Arv Z h_402 b_358 k_358 .long (2 : Int32) [(.long q3), (.long mi1)] (.long (0 : Int64)) := f_398.other W_402 ne_b_358_b_390
    have f_411 : Arv Z h_402 b_390 k_390 .long (2 : Int32) [(.long q4), (.long (0 : Int64))] (.long (0 : Int64)) := Arv.set Ar_400 q_400 S_400 N__400 H_400 G_400 rfl W_402 0 rfl (Nat.le_of_ble_eq_true rfl)
    refine Done.pre st_402 ?_
    show Done _ _ _ _ _ _ _ (T_402.setTop (mkF m 184 #[Lv q1, Zs, Lv q2, Zs, Lv q3, Zs, Lv q4, Zs, Lv q5, Zs, Iv p6, Iv (0 : Int32), Iv (2 : Int32), Lv mi1, Zs, Lv ma1, Zs, Rv b_291, Rv b_315, Rv b_358, Us, Us, Us, Us] [(.ref b_390)]))
    have sg_413 : ∀ tt_, Steps p.tables e below (T_402.setTop (mkF m 188 #[Lv q1, Zs, Lv q2, Zs, Lv q3, Zs, Lv q4, Zs, Lv q5, Zs, Iv p6, Iv (0 : Int32), Iv (2 : Int32), Lv mi1, Zs, Lv ma1, Zs, Rv b_291, Rv b_315, Rv b_358, Us, Us, Us, Us] [(.long ma1), (.int (1 : Int32)), (.ref b_390), (.ref b_390)])) tt_ → Steps p.tables e below (T_402.setTop (mkF m 184 #[Lv q1, Zs, Lv q2, Zs, Lv q3, Zs, Lv q4, Zs, Lv q5, Zs, Iv p6, Iv (0 : Int32), Iv (2 : Int32), Lv mi1, Zs, Lv ma1, Zs, Rv b_291, Rv b_315, Rv b_358, Us, Us, Us, Us] [(.ref b_390)])) tt_ := by
      intro tt_ kt_
      refine XS.dup X_402.here hEX rfl (hb hBY at_184) rfl rfl ?_
      show Steps p.tables e below (T_402.setTop (mkF m 185 #[Lv q1, Zs, Lv q2, Zs, Lv q3, Zs, Lv q4, Zs, Lv q5, Zs, Iv p6, Iv (0 : Int32), Iv (2 : Int32), Lv mi1, Zs, Lv ma1, Zs, Rv b_291, Rv b_315, Rv b_358, Us, Us, Us, Us] [(.ref b_390), (.ref b_390)])) tt_
      refine XS.iconst X_402.here hEX rfl (hb hBY at_185) ?_
      show Steps p.tables e below (T_402.setTop (mkF m 186 #[Lv q1, Zs, Lv q2, Zs, Lv q3, Zs, Lv q4, Zs, Lv q5, Zs, Iv p6, Iv (0 : Int32), Iv (2 : Int32), Lv mi1, Zs, Lv ma1, Zs, Rv b_291, Rv b_315, Rv b_358, Us, Us, Us, Us] [(.int (1 : Int32)), (.ref b_390), (.ref b_390)])) tt_
      refine XS.lload X_402.here hEX rfl (hb hBY at_186) rfl ?_
      exact kt_
    refine Done.pre sg_413 ?_
    obtain ⟨cl_412, Ar_412, q_412, S_412, N__412, H_412, G_412⟩ := id f_411
    have hin_412 : ¬ ((1 : Int32) < 0 ∨ cl_412.slots.size ≤ ((1 : Int32)).toNatClampNeg) := inb_of S_412 ⟨by decide, by decide⟩
    obtain ⟨T_414, h_414, X_414, e_414, W_414, st_414⟩ := stJ X_402 hEX hZW e_402 Ar_412 (j := (1 : Int32)) hin_412 (g := (mkF m 188 #[Lv q1, Zs, Lv q2, Zs, Lv q3, Zs, Lv q4, Zs, Lv q5, Zs, Iv p6, Iv (0 : Int32), Iv (2 : Int32), Lv mi1, Zs, Lv ma1, Zs, Rv b_291, Rv b_315, Rv b_358, Us, Us, Us, Us] [(.long ma1), (.int (1 : Int32)), (.ref b_390), (.ref b_390)])) rfl rfl (hb hBY at_188)
    have N_414 := Fr.snoc X_414 N_402 ge_b_390
    have K__415 : Keep h0 h_414 [] := K__403.wr W_414 (Or.inr sz_b_390)
    have f_416 : Arv Z h_414 b_291 k_291 .long (4 : Int32) [(.long q1), (.long q2), (.long q2), (.long q1)] (.long (0 : Int64)) := f_404.other W_414 ne_b_291_b_390
    have f_417 : Exa Z h_414 b_315 "com/example/pointcell/pointcell/Leaf" := f_405.wr W_414
    have f_418 : Arv Z h_414 b_323 k_323 .int (2 : Int32) [(.int (0 : Int32)), (.int (1 : Int32))] (.int (0 : Int32)) := f_406.other W_414 ne_b_323_b_390
    have f_419 : Fld Z h_414 b_315 "com/example/pointcell/pointcell/Leaf" "dimensions" "I" (.int (2 : Int32)) := f_407.other W_414 (Or.inl ne_b_315_b_390)
    have f_420 : Fld Z h_414 b_315 "com/example/pointcell/pointcell/Leaf" "docIds" "[I" (.ref b_323) := f_408.other W_414 (Or.inl ne_b_315_b_390)
    have f_421 : Fld Z h_414 b_315 "com/example/pointcell/pointcell/Leaf" "keys" "[J" (.ref b_291) := f_409.other W_414 (Or.inl ne_b_315_b_390)
    have f_422 : Arv Z h_414 b_358 k_358 .long (2 : Int32) [(.long q3), (.long mi1)] (.long (0 : Int64)) := f_410.other W_414 ne_b_358_b_390
    have f_423 : Arv Z h_414 b_390 k_390 .long (2 : Int32) [(.long q4), (.long ma1)] (.long (0 : Int64)) := Arv.set Ar_412 q_412 S_412 N__412 H_412 G_412 rfl W_414 1 rfl (Nat.le_of_ble_eq_true rfl)
    refine Done.pre st_414 ?_
    show Done _ _ _ _ _ _ _ (T_414.setTop (mkF m 189 #[Lv q1, Zs, Lv q2, Zs, Lv q3, Zs, Lv q4, Zs, Lv q5, Zs, Iv p6, Iv (0 : Int32), Iv (2 : Int32), Lv mi1, Zs, Lv ma1, Zs, Rv b_291, Rv b_315, Rv b_358, Us, Us, Us, Us] [(.ref b_390)]))
    have sg_424 : ∀ tt_, Steps p.tables e below (T_414.setTop (mkF m 191 #[Lv q1, Zs, Lv q2, Zs, Lv q3, Zs, Lv q4, Zs, Lv q5, Zs, Iv p6, Iv (0 : Int32), Iv (2 : Int32), Lv mi1, Zs, Lv ma1, Zs, Rv b_291, Rv b_315, Rv b_358, Rv b_390, Us, Us, Us] [])) tt_ → Steps p.tables e below (T_414.setTop (mkF m 189 #[Lv q1, Zs, Lv q2, Zs, Lv q3, Zs, Lv q4, Zs, Lv q5, Zs, Iv p6, Iv (0 : Int32), Iv (2 : Int32), Lv mi1, Zs, Lv ma1, Zs, Rv b_291, Rv b_315, Rv b_358, Us, Us, Us, Us] [(.ref b_390)])) tt_ := by
      intro tt_ kt_
      refine XS.astore X_414.here hEX rfl (hb hBY at_189) rfl rfl (l' := #[Lv q1, Zs, Lv q2, Zs, Lv q3, Zs, Lv q4, Zs, Lv q5, Zs, Iv p6, Iv (0 : Int32), Iv (2 : Int32), Lv mi1, Zs, Lv ma1, Zs, Rv b_291, Rv b_315, Rv b_358, Rv b_390, Us, Us, Us]) rfl ?_
      exact kt_
    refine Done.pre sg_424 ?_
    have jn_425 : ∀ (in0 : Int32) (hin0 : in0 = own_in1 q1 q3 q4), Done p e below s (Qrm0 Z q1 q2 q3 q4 q5 p6 h0 n0) room_1.cells room_1.slots (T_414.setTop (mkF m 210 #[Lv q1, Zs, Lv q2, Zs, Lv q3, Zs, Lv q4, Zs, Lv q5, Zs, Iv p6, Iv (0 : Int32), Iv (2 : Int32), Lv mi1, Zs, Lv ma1, Zs, Rv b_291, Rv b_315, Rv b_358, Rv b_390, Us, Us, Us] [(.int in0)])) := by
      intro in0 hin0
      show Done _ _ _ _ _ _ _ (T_414.setTop (mkF m 210 #[Lv q1, Zs, Lv q2, Zs, Lv q3, Zs, Lv q4, Zs, Lv q5, Zs, Iv p6, Iv (0 : Int32), Iv (2 : Int32), Lv mi1, Zs, Lv ma1, Zs, Rv b_291, Rv b_315, Rv b_358, Rv b_390, Us, Us, Us] [(.int in0)]))
      have sg_426 : ∀ tt_, Steps p.tables e below (T_414.setTop (mkF m 212 #[Lv q1, Zs, Lv q2, Zs, Lv q3, Zs, Lv q4, Zs, Lv q5, Zs, Iv p6, Iv (0 : Int32), Iv (2 : Int32), Lv mi1, Zs, Lv ma1, Zs, Rv b_291, Rv b_315, Rv b_358, Rv b_390, Iv in0, Us, Us] [])) tt_ → Steps p.tables e below (T_414.setTop (mkF m 210 #[Lv q1, Zs, Lv q2, Zs, Lv q3, Zs, Lv q4, Zs, Lv q5, Zs, Iv p6, Iv (0 : Int32), Iv (2 : Int32), Lv mi1, Zs, Lv ma1, Zs, Rv b_291, Rv b_315, Rv b_358, Rv b_390, Us, Us, Us] [(.int in0)])) tt_ := by
        intro tt_ kt_
        refine XS.istore X_414.here hEX rfl (hb hBY at_210) rfl (l' := #[Lv q1, Zs, Lv q2, Zs, Lv q3, Zs, Lv q4, Zs, Lv q5, Zs, Iv p6, Iv (0 : Int32), Iv (2 : Int32), Lv mi1, Zs, Lv ma1, Zs, Rv b_291, Rv b_315, Rv b_358, Rv b_390, Iv in0, Us, Us]) rfl ?_
        exact kt_
      refine Done.pre sg_426 ?_
      have jn_427 : ∀ (in1 : Int32) (hin1 : in1 = own_in1 q2 mi1 ma1), Done p e below s (Qrm0 Z q1 q2 q3 q4 q5 p6 h0 n0) room_1.cells room_1.slots (T_414.setTop (mkF m 231 #[Lv q1, Zs, Lv q2, Zs, Lv q3, Zs, Lv q4, Zs, Lv q5, Zs, Iv p6, Iv (0 : Int32), Iv (2 : Int32), Lv mi1, Zs, Lv ma1, Zs, Rv b_291, Rv b_315, Rv b_358, Rv b_390, Iv in0, Us, Us] [(.int in1)])) := by
        intro in1 hin1
        show Done _ _ _ _ _ _ _ (T_414.setTop (mkF m 231 #[Lv q1, Zs, Lv q2, Zs, Lv q3, Zs, Lv q4, Zs, Lv q5, Zs, Iv p6, Iv (0 : Int32), Iv (2 : Int32), Lv mi1, Zs, Lv ma1, Zs, Rv b_291, Rv b_315, Rv b_358, Rv b_390, Iv in0, Us, Us] [(.int in1)]))
        have sg_428 : ∀ tt_, Steps p.tables e below (T_414.setTop (mkF m 246 #[Lv q1, Zs, Lv q2, Zs, Lv q3, Zs, Lv q4, Zs, Lv q5, Zs, Iv p6, Iv (0 : Int32), Iv (2 : Int32), Lv mi1, Zs, Lv ma1, Zs, Rv b_291, Rv b_315, Rv b_358, Rv b_390, Iv in0, Iv in1, Us] [])) tt_ → Steps p.tables e below (T_414.setTop (mkF m 231 #[Lv q1, Zs, Lv q2, Zs, Lv q3, Zs, Lv q4, Zs, Lv q5, Zs, Iv p6, Iv (0 : Int32), Iv (2 : Int32), Lv mi1, Zs, Lv ma1, Zs, Rv b_291, Rv b_315, Rv b_358, Rv b_390, Iv in0, Us, Us] [(.int in1)])) tt_ := by
          intro tt_ kt_
          refine XS.istore X_414.here hEX rfl (hb hBY at_231) rfl (l' := #[Lv q1, Zs, Lv q2, Zs, Lv q3, Zs, Lv q4, Zs, Lv q5, Zs, Iv p6, Iv (0 : Int32), Iv (2 : Int32), Lv mi1, Zs, Lv ma1, Zs, Rv b_291, Rv b_315, Rv b_358, Rv b_390, Iv in0, Iv in1, Us]) rfl ?_
          show Steps p.tables e below (T_414.setTop (mkF m 233 #[Lv q1, Zs, Lv q2, Zs, Lv q3, Zs, Lv q4, Zs, Lv q5, Zs, Iv p6, Iv (0 : Int32), Iv (2 : Int32), Lv mi1, Zs, Lv ma1, Zs, Rv b_291, Rv b_315, Rv b_358, Rv b_390, Iv in0, Iv in1, Us] [])) tt_
          refine XS.iload X_414.here hEX rfl (hb hBY at_233) rfl ?_
          show Steps p.tables e below (T_414.setTop (mkF m 235 #[Lv q1, Zs, Lv q2, Zs, Lv q3, Zs, Lv q4, Zs, Lv q5, Zs, Iv p6, Iv (0 : Int32), Iv (2 : Int32), Lv mi1, Zs, Lv ma1, Zs, Rv b_291, Rv b_315, Rv b_358, Rv b_390, Iv in0, Iv in1, Us] [(.int (2 : Int32))])) tt_
          refine XS.iconst X_414.here hEX rfl (hb hBY at_235) ?_
          show Steps p.tables e below (T_414.setTop (mkF m 236 #[Lv q1, Zs, Lv q2, Zs, Lv q3, Zs, Lv q4, Zs, Lv q5, Zs, Iv p6, Iv (0 : Int32), Iv (2 : Int32), Lv mi1, Zs, Lv ma1, Zs, Rv b_291, Rv b_315, Rv b_358, Rv b_390, Iv in0, Iv in1, Us] [(.int (1 : Int32)), (.int (2 : Int32))])) tt_
          refine XS.icmpYes X_414.here hEX rfl (pc0 := 236) (pc' := 246) rfl (hb hBY at_236) rfl (feq (by decide : ¬ ((2 : Int32) = (1 : Int32)))).2 (by decide) (by decide) ?_
          exact kt_
        refine Done.pre sg_428 ?_
        have jn_429 : ∀ (ex : Int32) (hex : ex = if in0 = (0 : Int32) then (0 : Int32) else (if in1 = (0 : Int32) then (0 : Int32) else (1 : Int32))), Done p e below s (Qrm0 Z q1 q2 q3 q4 q5 p6 h0 n0) room_1.cells room_1.slots (T_414.setTop (mkF m 261 #[Lv q1, Zs, Lv q2, Zs, Lv q3, Zs, Lv q4, Zs, Lv q5, Zs, Iv p6, Iv (0 : Int32), Iv (2 : Int32), Lv mi1, Zs, Lv ma1, Zs, Rv b_291, Rv b_315, Rv b_358, Rv b_390, Iv in0, Iv in1, Us] [(.int ex)])) := by
          intro ex hex
          show Done _ _ _ _ _ _ _ (T_414.setTop (mkF m 261 #[Lv q1, Zs, Lv q2, Zs, Lv q3, Zs, Lv q4, Zs, Lv q5, Zs, Iv p6, Iv (0 : Int32), Iv (2 : Int32), Lv mi1, Zs, Lv ma1, Zs, Rv b_291, Rv b_315, Rv b_358, Rv b_390, Iv in0, Iv in1, Us] [(.int ex)]))
          have sg_430 : ∀ tt_, Steps p.tables e below (T_414.setTop (mkF m 271 #[Lv q1, Zs, Lv q2, Zs, Lv q3, Zs, Lv q4, Zs, Lv q5, Zs, Iv p6, Iv (0 : Int32), Iv (2 : Int32), Lv mi1, Zs, Lv ma1, Zs, Rv b_291, Rv b_315, Rv b_358, Rv b_390, Iv in0, Iv in1, Iv ex] [(.ref b_390), (.ref b_358), (.int (0 : Int32)), (.ref b_315)])) tt_ → Steps p.tables e below (T_414.setTop (mkF m 261 #[Lv q1, Zs, Lv q2, Zs, Lv q3, Zs, Lv q4, Zs, Lv q5, Zs, Iv p6, Iv (0 : Int32), Iv (2 : Int32), Lv mi1, Zs, Lv ma1, Zs, Rv b_291, Rv b_315, Rv b_358, Rv b_390, Iv in0, Iv in1, Us] [(.int ex)])) tt_ := by
            intro tt_ kt_
            refine XS.istore X_414.here hEX rfl (hb hBY at_261) rfl (l' := #[Lv q1, Zs, Lv q2, Zs, Lv q3, Zs, Lv q4, Zs, Lv q5, Zs, Iv p6, Iv (0 : Int32), Iv (2 : Int32), Lv mi1, Zs, Lv ma1, Zs, Rv b_291, Rv b_315, Rv b_358, Rv b_390, Iv in0, Iv in1, Iv ex]) rfl ?_
            show Steps p.tables e below (T_414.setTop (mkF m 263 #[Lv q1, Zs, Lv q2, Zs, Lv q3, Zs, Lv q4, Zs, Lv q5, Zs, Iv p6, Iv (0 : Int32), Iv (2 : Int32), Lv mi1, Zs, Lv ma1, Zs, Rv b_291, Rv b_315, Rv b_358, Rv b_390, Iv in0, Iv in1, Iv ex] [])) tt_
            refine XS.aload X_414.here hEX rfl (hb hBY at_263) rfl rfl ?_
            show Steps p.tables e below (T_414.setTop (mkF m 265 #[Lv q1, Zs, Lv q2, Zs, Lv q3, Zs, Lv q4, Zs, Lv q5, Zs, Iv p6, Iv (0 : Int32), Iv (2 : Int32), Lv mi1, Zs, Lv ma1, Zs, Rv b_291, Rv b_315, Rv b_358, Rv b_390, Iv in0, Iv in1, Iv ex] [(.ref b_315)])) tt_
            refine XS.iload X_414.here hEX rfl (hb hBY at_265) rfl ?_
            show Steps p.tables e below (T_414.setTop (mkF m 267 #[Lv q1, Zs, Lv q2, Zs, Lv q3, Zs, Lv q4, Zs, Lv q5, Zs, Iv p6, Iv (0 : Int32), Iv (2 : Int32), Lv mi1, Zs, Lv ma1, Zs, Rv b_291, Rv b_315, Rv b_358, Rv b_390, Iv in0, Iv in1, Iv ex] [(.int (0 : Int32)), (.ref b_315)])) tt_
            refine XS.aload X_414.here hEX rfl (hb hBY at_267) rfl rfl ?_
            show Steps p.tables e below (T_414.setTop (mkF m 269 #[Lv q1, Zs, Lv q2, Zs, Lv q3, Zs, Lv q4, Zs, Lv q5, Zs, Iv p6, Iv (0 : Int32), Iv (2 : Int32), Lv mi1, Zs, Lv ma1, Zs, Rv b_291, Rv b_315, Rv b_358, Rv b_390, Iv in0, Iv in1, Iv ex] [(.ref b_358), (.int (0 : Int32)), (.ref b_315)])) tt_
            refine XS.aload X_414.here hEX rfl (hb hBY at_269) rfl rfl ?_
            exact kt_
          refine Done.pre sg_430 ?_
          obtain ⟨cq_431, kq_431, q_431a, q_431b, q_431c⟩ := isOf hZW e_414 f_417
          obtain ⟨_, _, ⟨T_431, L_431, k_431, n_431⟩, -, X_431, ⟨Lc_431, hQ_431, l_431, y_431, z_431⟩, st_431⟩ := X_414.virtualBack hEX (y := (⟨"com/example/pointcell/pointcell/Leaf", "isInside", "(I[J[J)Z"⟩ : MethodName)) (z := (⟨"com/example/pointcell/pointcell/Leaf", "isInside", "(I[J[J)Z"⟩ : MethodName)) hOW (mvT hZW (hw _ (List.mem_of_getElem? (i := 21) rfl))) (mvT hZW (hw _ (List.mem_of_getElem? (i := 22) rfl))) (notFace_of_selects (args := #[]) (mvT hZW (hw _ (List.mem_of_getElem? (i := 24) rfl)))) (mvT hZW (hw _ (List.mem_of_getElem? (i := 24) rfl))) (mvT hZW (hw _ (List.mem_of_getElem? (i := 23) rfl))) (by decide) (backOf (W := 0) (rm_in2 l Z aZ hw [] b_315 (0 : Int32) b_358 b_390 b_291 k_291 (4 : Int32) [(.long q1), (.long q2), (.long q2), (.long q1)] k_358 k_390 q3 mi1 q4 ma1 q1 q2 h_414 n0 (Nat.le_trans Z0 K__415.1) f_419 f_421 f_416 f_422 f_423 (by decide) (by decide) rfl rfl) hZW (hw _ (List.mem_of_getElem? (i := 25) rfl)) (hw _ (List.mem_of_getElem? (i := 7) rfl)) (by decide) (by decide)) q_431a q_431c (g := (mkF m 271 #[Lv q1, Zs, Lv q2, Zs, Lv q3, Zs, Lv q4, Zs, Lv q5, Zs, Iv p6, Iv (0 : Int32), Iv (2 : Int32), Lv mi1, Zs, Lv ma1, Zs, Rv b_291, Rv b_315, Rv b_358, Rv b_390, Iv in0, Iv in1, Iv ex] [(.ref b_390), (.ref b_358), (.int (0 : Int32)), (.ref b_315)])) rfl (by rw [hMX]; rfl) (Steps.refl _) (argsL := [(.int (0 : Int32)), (.ref b_358), (.ref b_390)]) (rest := []) (lenOf pd__I_J_J_Z_3 rfl) rfl (by show 2 * 0 + _ ≤ _; exact Nat.le_of_eq rfl) (hb hBY at_271) (fun _ _ => ⟨rfl, e_414, (by decide : 5 + 0 ≤ _), (by decide : 13 + 0 ≤ _)⟩)
          dsimp only [Pt.U, Pt.locs, Pt.cells, Pt.slots] at X_431 l_431 y_431 z_431 st_431 hQ_431
          subst l_431 y_431 z_431
          obtain ⟨rfl, N_431q, e_431⟩ := hQ_431
          have N_431 := Fr.app N_414 N_431q
          refine Done.pre (fun _ k_ => st_431.trans k_) ?_
          show Done _ _ _ _ _ _ _ (T_431.setTop (mkF m 274 #[Lv q1, Zs, Lv q2, Zs, Lv q3, Zs, Lv q4, Zs, Lv q5, Zs, Iv p6, Iv (0 : Int32), Iv (2 : Int32), Lv mi1, Zs, Lv ma1, Zs, Rv b_291, Rv b_315, Rv b_358, Rv b_390, Iv in0, Iv in1, Iv ex] [(.int (own_in2 q1 q3 q4 q2 mi1 ma1))]))
          have sg_432 : ∀ tt_, Steps p.tables e below (T_431.setTop (mkF m 284 #[Lv q1, Zs, Lv q2, Zs, Lv q3, Zs, Lv q4, Zs, Lv q5, Zs, Iv p6, Iv (0 : Int32), Iv (2 : Int32), Lv mi1, Zs, Lv ma1, Zs, Rv b_291, Rv b_315, Rv b_358, Rv b_390, Iv in0, Iv in1, Iv ex] [(.int (1 : Int32))])) tt_ → Steps p.tables e below (T_431.setTop (mkF m 274 #[Lv q1, Zs, Lv q2, Zs, Lv q3, Zs, Lv q4, Zs, Lv q5, Zs, Iv p6, Iv (0 : Int32), Iv (2 : Int32), Lv mi1, Zs, Lv ma1, Zs, Rv b_291, Rv b_315, Rv b_358, Rv b_390, Iv in0, Iv in1, Iv ex] [(.int (own_in2 q1 q3 q4 q2 mi1 ma1))])) tt_ := by
            intro tt_ kt_
            refine XS.iload X_431.here hEX rfl (hb hBY at_274) rfl ?_
            show Steps p.tables e below (T_431.setTop (mkF m 276 #[Lv q1, Zs, Lv q2, Zs, Lv q3, Zs, Lv q4, Zs, Lv q5, Zs, Iv p6, Iv (0 : Int32), Iv (2 : Int32), Lv mi1, Zs, Lv ma1, Zs, Rv b_291, Rv b_315, Rv b_358, Rv b_390, Iv in0, Iv in1, Iv ex] [(.int ex), (.int (own_in2 q1 q3 q4 q2 mi1 ma1))])) tt_
            refine XS.icmpNo X_431.here hEX rfl (hb hBY at_276) rfl (teq ((by rw [own_in2_eq, hex, hin0, hin1]) : (own_in2 q1 q3 q4 q2 mi1 ma1) = ex)).2 ?_
            show Steps p.tables e below (T_431.setTop (mkF m 279 #[Lv q1, Zs, Lv q2, Zs, Lv q3, Zs, Lv q4, Zs, Lv q5, Zs, Iv p6, Iv (0 : Int32), Iv (2 : Int32), Lv mi1, Zs, Lv ma1, Zs, Rv b_291, Rv b_315, Rv b_358, Rv b_390, Iv in0, Iv in1, Iv ex] [])) tt_
            refine XS.iconst X_431.here hEX rfl (hb hBY at_279) ?_
            show Steps p.tables e below (T_431.setTop (mkF m 280 #[Lv q1, Zs, Lv q2, Zs, Lv q3, Zs, Lv q4, Zs, Lv q5, Zs, Iv p6, Iv (0 : Int32), Iv (2 : Int32), Lv mi1, Zs, Lv ma1, Zs, Rv b_291, Rv b_315, Rv b_358, Rv b_390, Iv in0, Iv in1, Iv ex] [(.int (1 : Int32))])) tt_
            refine XS.goto X_431.here hEX rfl (pc0 := 280) (pc' := 284) rfl (hb hBY at_280) (by decide) (by decide) ?_
            exact kt_
          refine Done.pre sg_432 ?_
          exact Done.retN X_431 hEX hLK (t := .boolean) hRT (by simp) (hb hBY at_284) (by rw [e_431]; exact ⟨rfl, N_431, K__415⟩) (by decide) (by decide)
        show Done _ _ _ _ _ _ _ (T_414.setTop (mkF m 246 #[Lv q1, Zs, Lv q2, Zs, Lv q3, Zs, Lv q4, Zs, Lv q5, Zs, Iv p6, Iv (0 : Int32), Iv (2 : Int32), Lv mi1, Zs, Lv ma1, Zs, Rv b_291, Rv b_315, Rv b_358, Rv b_390, Iv in0, Iv in1, Us] []))
        have sg_433 : ∀ tt_, Steps p.tables e below (T_414.setTop (mkF m 248 #[Lv q1, Zs, Lv q2, Zs, Lv q3, Zs, Lv q4, Zs, Lv q5, Zs, Iv p6, Iv (0 : Int32), Iv (2 : Int32), Lv mi1, Zs, Lv ma1, Zs, Rv b_291, Rv b_315, Rv b_358, Rv b_390, Iv in0, Iv in1, Us] [(.int in0)])) tt_ → Steps p.tables e below (T_414.setTop (mkF m 246 #[Lv q1, Zs, Lv q2, Zs, Lv q3, Zs, Lv q4, Zs, Lv q5, Zs, Iv p6, Iv (0 : Int32), Iv (2 : Int32), Lv mi1, Zs, Lv ma1, Zs, Rv b_291, Rv b_315, Rv b_358, Rv b_390, Iv in0, Iv in1, Us] [])) tt_ := by
          intro tt_ kt_
          refine XS.iload X_414.here hEX rfl (hb hBY at_246) rfl ?_
          exact kt_
        refine Done.pre sg_433 ?_
        by_cases hc248 : in0 = (0 : Int32)
        · skip
          have sg_434 : ∀ tt_, Steps p.tables e below (T_414.setTop (mkF m 261 #[Lv q1, Zs, Lv q2, Zs, Lv q3, Zs, Lv q4, Zs, Lv q5, Zs, Iv p6, Iv (0 : Int32), Iv (2 : Int32), Lv mi1, Zs, Lv ma1, Zs, Rv b_291, Rv b_315, Rv b_358, Rv b_390, Iv in0, Iv in1, Us] [(.int (0 : Int32))])) tt_ → Steps p.tables e below (T_414.setTop (mkF m 248 #[Lv q1, Zs, Lv q2, Zs, Lv q3, Zs, Lv q4, Zs, Lv q5, Zs, Iv p6, Iv (0 : Int32), Iv (2 : Int32), Lv mi1, Zs, Lv ma1, Zs, Rv b_291, Rv b_315, Rv b_358, Rv b_390, Iv in0, Iv in1, Us] [(.int in0)])) tt_ := by
            intro tt_ kt_
            refine XS.ifYes X_414.here hEX rfl (pc0 := 248) (pc' := 260) rfl (hb hBY at_248) rfl ((if0 _ _).trans (teq hc248).1) (by decide) (by decide) ?_
            show Steps p.tables e below (T_414.setTop (mkF m 260 #[Lv q1, Zs, Lv q2, Zs, Lv q3, Zs, Lv q4, Zs, Lv q5, Zs, Iv p6, Iv (0 : Int32), Iv (2 : Int32), Lv mi1, Zs, Lv ma1, Zs, Rv b_291, Rv b_315, Rv b_358, Rv b_390, Iv in0, Iv in1, Us] [])) tt_
            refine XS.iconst X_414.here hEX rfl (hb hBY at_260) ?_
            exact kt_
          refine Done.pre sg_434 ?_
          exact jn_429 ((0 : Int32)) (by first | rw [if_pos hc248] | rw [if_neg hc248, if_pos hc253] | rw [if_neg hc248, if_neg hc253])
        · skip
          have sg_435 : ∀ tt_, Steps p.tables e below (T_414.setTop (mkF m 253 #[Lv q1, Zs, Lv q2, Zs, Lv q3, Zs, Lv q4, Zs, Lv q5, Zs, Iv p6, Iv (0 : Int32), Iv (2 : Int32), Lv mi1, Zs, Lv ma1, Zs, Rv b_291, Rv b_315, Rv b_358, Rv b_390, Iv in0, Iv in1, Us] [(.int in1)])) tt_ → Steps p.tables e below (T_414.setTop (mkF m 248 #[Lv q1, Zs, Lv q2, Zs, Lv q3, Zs, Lv q4, Zs, Lv q5, Zs, Iv p6, Iv (0 : Int32), Iv (2 : Int32), Lv mi1, Zs, Lv ma1, Zs, Rv b_291, Rv b_315, Rv b_358, Rv b_390, Iv in0, Iv in1, Us] [(.int in0)])) tt_ := by
            intro tt_ kt_
            refine XS.ifNo X_414.here hEX rfl (hb hBY at_248) rfl ((if0 _ _).trans (feq hc248).1) ?_
            show Steps p.tables e below (T_414.setTop (mkF m 251 #[Lv q1, Zs, Lv q2, Zs, Lv q3, Zs, Lv q4, Zs, Lv q5, Zs, Iv p6, Iv (0 : Int32), Iv (2 : Int32), Lv mi1, Zs, Lv ma1, Zs, Rv b_291, Rv b_315, Rv b_358, Rv b_390, Iv in0, Iv in1, Us] [])) tt_
            refine XS.iload X_414.here hEX rfl (hb hBY at_251) rfl ?_
            exact kt_
          refine Done.pre sg_435 ?_
          by_cases hc253 : in1 = (0 : Int32)
          · skip
            have sg_436 : ∀ tt_, Steps p.tables e below (T_414.setTop (mkF m 261 #[Lv q1, Zs, Lv q2, Zs, Lv q3, Zs, Lv q4, Zs, Lv q5, Zs, Iv p6, Iv (0 : Int32), Iv (2 : Int32), Lv mi1, Zs, Lv ma1, Zs, Rv b_291, Rv b_315, Rv b_358, Rv b_390, Iv in0, Iv in1, Us] [(.int (0 : Int32))])) tt_ → Steps p.tables e below (T_414.setTop (mkF m 253 #[Lv q1, Zs, Lv q2, Zs, Lv q3, Zs, Lv q4, Zs, Lv q5, Zs, Iv p6, Iv (0 : Int32), Iv (2 : Int32), Lv mi1, Zs, Lv ma1, Zs, Rv b_291, Rv b_315, Rv b_358, Rv b_390, Iv in0, Iv in1, Us] [(.int in1)])) tt_ := by
              intro tt_ kt_
              refine XS.ifYes X_414.here hEX rfl (pc0 := 253) (pc' := 260) rfl (hb hBY at_253) rfl ((if0 _ _).trans (teq hc253).1) (by decide) (by decide) ?_
              show Steps p.tables e below (T_414.setTop (mkF m 260 #[Lv q1, Zs, Lv q2, Zs, Lv q3, Zs, Lv q4, Zs, Lv q5, Zs, Iv p6, Iv (0 : Int32), Iv (2 : Int32), Lv mi1, Zs, Lv ma1, Zs, Rv b_291, Rv b_315, Rv b_358, Rv b_390, Iv in0, Iv in1, Us] [])) tt_
              refine XS.iconst X_414.here hEX rfl (hb hBY at_260) ?_
              exact kt_
            refine Done.pre sg_436 ?_
            exact jn_429 ((0 : Int32)) (by first | rw [if_pos hc248] | rw [if_neg hc248, if_pos hc253] | rw [if_neg hc248, if_neg hc253])
          · skip
            have sg_437 : ∀ tt_, Steps p.tables e below (T_414.setTop (mkF m 261 #[Lv q1, Zs, Lv q2, Zs, Lv q3, Zs, Lv q4, Zs, Lv q5, Zs, Iv p6, Iv (0 : Int32), Iv (2 : Int32), Lv mi1, Zs, Lv ma1, Zs, Rv b_291, Rv b_315, Rv b_358, Rv b_390, Iv in0, Iv in1, Us] [(.int (1 : Int32))])) tt_ → Steps p.tables e below (T_414.setTop (mkF m 253 #[Lv q1, Zs, Lv q2, Zs, Lv q3, Zs, Lv q4, Zs, Lv q5, Zs, Iv p6, Iv (0 : Int32), Iv (2 : Int32), Lv mi1, Zs, Lv ma1, Zs, Rv b_291, Rv b_315, Rv b_358, Rv b_390, Iv in0, Iv in1, Us] [(.int in1)])) tt_ := by
              intro tt_ kt_
              refine XS.ifNo X_414.here hEX rfl (hb hBY at_253) rfl ((if0 _ _).trans (feq hc253).1) ?_
              show Steps p.tables e below (T_414.setTop (mkF m 256 #[Lv q1, Zs, Lv q2, Zs, Lv q3, Zs, Lv q4, Zs, Lv q5, Zs, Iv p6, Iv (0 : Int32), Iv (2 : Int32), Lv mi1, Zs, Lv ma1, Zs, Rv b_291, Rv b_315, Rv b_358, Rv b_390, Iv in0, Iv in1, Us] [])) tt_
              refine XS.iconst X_414.here hEX rfl (hb hBY at_256) ?_
              show Steps p.tables e below (T_414.setTop (mkF m 257 #[Lv q1, Zs, Lv q2, Zs, Lv q3, Zs, Lv q4, Zs, Lv q5, Zs, Iv p6, Iv (0 : Int32), Iv (2 : Int32), Lv mi1, Zs, Lv ma1, Zs, Rv b_291, Rv b_315, Rv b_358, Rv b_390, Iv in0, Iv in1, Us] [(.int (1 : Int32))])) tt_
              refine XS.goto X_414.here hEX rfl (pc0 := 257) (pc' := 261) rfl (hb hBY at_257) (by decide) (by decide) ?_
              exact kt_
            refine Done.pre sg_437 ?_
            exact jn_429 ((1 : Int32)) (by first | rw [if_pos hc248] | rw [if_neg hc248, if_pos hc253] | rw [if_neg hc248, if_neg hc253])
      show Done _ _ _ _ _ _ _ (T_414.setTop (mkF m 212 #[Lv q1, Zs, Lv q2, Zs, Lv q3, Zs, Lv q4, Zs, Lv q5, Zs, Iv p6, Iv (0 : Int32), Iv (2 : Int32), Lv mi1, Zs, Lv ma1, Zs, Rv b_291, Rv b_315, Rv b_358, Rv b_390, Iv in0, Us, Us] []))
      have sg_438 : ∀ tt_, Steps p.tables e below (T_414.setTop (mkF m 216 #[Lv q1, Zs, Lv q2, Zs, Lv q3, Zs, Lv q4, Zs, Lv q5, Zs, Iv p6, Iv (0 : Int32), Iv (2 : Int32), Lv mi1, Zs, Lv ma1, Zs, Rv b_291, Rv b_315, Rv b_358, Rv b_390, Iv in0, Us, Us] [(.int (lcmpW mi1 q2))])) tt_ → Steps p.tables e below (T_414.setTop (mkF m 212 #[Lv q1, Zs, Lv q2, Zs, Lv q3, Zs, Lv q4, Zs, Lv q5, Zs, Iv p6, Iv (0 : Int32), Iv (2 : Int32), Lv mi1, Zs, Lv ma1, Zs, Rv b_291, Rv b_315, Rv b_358, Rv b_390, Iv in0, Us, Us] [])) tt_ := by
        intro tt_ kt_
        refine XS.lload X_414.here hEX rfl (hb hBY at_212) rfl ?_
        show Steps p.tables e below (T_414.setTop (mkF m 214 #[Lv q1, Zs, Lv q2, Zs, Lv q3, Zs, Lv q4, Zs, Lv q5, Zs, Iv p6, Iv (0 : Int32), Iv (2 : Int32), Lv mi1, Zs, Lv ma1, Zs, Rv b_291, Rv b_315, Rv b_358, Rv b_390, Iv in0, Us, Us] [(.long mi1)])) tt_
        refine XS.lloadN X_414.here hEX rfl (hb hBY at_214) rfl ?_
        show Steps p.tables e below (T_414.setTop (mkF m 215 #[Lv q1, Zs, Lv q2, Zs, Lv q3, Zs, Lv q4, Zs, Lv q5, Zs, Iv p6, Iv (0 : Int32), Iv (2 : Int32), Lv mi1, Zs, Lv ma1, Zs, Rv b_291, Rv b_315, Rv b_358, Rv b_390, Iv in0, Us, Us] [(.long q2), (.long mi1)])) tt_
        refine XS.lcmp X_414.here hEX rfl (hb hBY at_215) rfl ?_
        exact kt_
      refine Done.pre sg_438 ?_
      by_cases hc216 : q2 < mi1
      · skip
        have sg_439 : ∀ tt_, Steps p.tables e below (T_414.setTop (mkF m 231 #[Lv q1, Zs, Lv q2, Zs, Lv q3, Zs, Lv q4, Zs, Lv q5, Zs, Iv p6, Iv (0 : Int32), Iv (2 : Int32), Lv mi1, Zs, Lv ma1, Zs, Rv b_291, Rv b_315, Rv b_358, Rv b_390, Iv in0, Us, Us] [(.int (0 : Int32))])) tt_ → Steps p.tables e below (T_414.setTop (mkF m 216 #[Lv q1, Zs, Lv q2, Zs, Lv q3, Zs, Lv q4, Zs, Lv q5, Zs, Iv p6, Iv (0 : Int32), Iv (2 : Int32), Lv mi1, Zs, Lv ma1, Zs, Rv b_291, Rv b_315, Rv b_358, Rv b_390, Iv in0, Us, Us] [(.int (lcmpW mi1 q2))])) tt_ := by
          intro tt_ kt_
          refine XS.ifYes X_414.here hEX rfl (pc0 := 216) (pc' := 230) rfl (hb hBY at_216) rfl ((if0 _ _).trans (tlt ((lw_gt _ _).mpr hc216)).2.2.1) (by decide) (by decide) ?_
          show Steps p.tables e below (T_414.setTop (mkF m 230 #[Lv q1, Zs, Lv q2, Zs, Lv q3, Zs, Lv q4, Zs, Lv q5, Zs, Iv p6, Iv (0 : Int32), Iv (2 : Int32), Lv mi1, Zs, Lv ma1, Zs, Rv b_291, Rv b_315, Rv b_358, Rv b_390, Iv in0, Us, Us] [])) tt_
          refine XS.iconst X_414.here hEX rfl (hb hBY at_230) ?_
          exact kt_
        refine Done.pre sg_439 ?_
        exact jn_427 ((0 : Int32)) (by rw [own_in1]; first | rw [if_pos hc216] | rw [if_neg hc216, if_pos hc223] | rw [if_neg hc216, if_neg hc223])
      · skip
        have sg_440 : ∀ tt_, Steps p.tables e below (T_414.setTop (mkF m 223 #[Lv q1, Zs, Lv q2, Zs, Lv q3, Zs, Lv q4, Zs, Lv q5, Zs, Iv p6, Iv (0 : Int32), Iv (2 : Int32), Lv mi1, Zs, Lv ma1, Zs, Rv b_291, Rv b_315, Rv b_358, Rv b_390, Iv in0, Us, Us] [(.int (lcmpW q2 ma1))])) tt_ → Steps p.tables e below (T_414.setTop (mkF m 216 #[Lv q1, Zs, Lv q2, Zs, Lv q3, Zs, Lv q4, Zs, Lv q5, Zs, Iv p6, Iv (0 : Int32), Iv (2 : Int32), Lv mi1, Zs, Lv ma1, Zs, Rv b_291, Rv b_315, Rv b_358, Rv b_390, Iv in0, Us, Us] [(.int (lcmpW mi1 q2))])) tt_ := by
          intro tt_ kt_
          refine XS.ifNo X_414.here hEX rfl (hb hBY at_216) rfl ((if0 _ _).trans (flt (fun q => hc216 ((lw_gt _ _).mp q))).2.2.1) ?_
          show Steps p.tables e below (T_414.setTop (mkF m 219 #[Lv q1, Zs, Lv q2, Zs, Lv q3, Zs, Lv q4, Zs, Lv q5, Zs, Iv p6, Iv (0 : Int32), Iv (2 : Int32), Lv mi1, Zs, Lv ma1, Zs, Rv b_291, Rv b_315, Rv b_358, Rv b_390, Iv in0, Us, Us] [])) tt_
          refine XS.lloadN X_414.here hEX rfl (hb hBY at_219) rfl ?_
          show Steps p.tables e below (T_414.setTop (mkF m 220 #[Lv q1, Zs, Lv q2, Zs, Lv q3, Zs, Lv q4, Zs, Lv q5, Zs, Iv p6, Iv (0 : Int32), Iv (2 : Int32), Lv mi1, Zs, Lv ma1, Zs, Rv b_291, Rv b_315, Rv b_358, Rv b_390, Iv in0, Us, Us] [(.long q2)])) tt_
          refine XS.lload X_414.here hEX rfl (hb hBY at_220) rfl ?_
          show Steps p.tables e below (T_414.setTop (mkF m 222 #[Lv q1, Zs, Lv q2, Zs, Lv q3, Zs, Lv q4, Zs, Lv q5, Zs, Iv p6, Iv (0 : Int32), Iv (2 : Int32), Lv mi1, Zs, Lv ma1, Zs, Rv b_291, Rv b_315, Rv b_358, Rv b_390, Iv in0, Us, Us] [(.long ma1), (.long q2)])) tt_
          refine XS.lcmp X_414.here hEX rfl (hb hBY at_222) rfl ?_
          exact kt_
        refine Done.pre sg_440 ?_
        by_cases hc223 : ma1 < q2
        · skip
          have sg_441 : ∀ tt_, Steps p.tables e below (T_414.setTop (mkF m 231 #[Lv q1, Zs, Lv q2, Zs, Lv q3, Zs, Lv q4, Zs, Lv q5, Zs, Iv p6, Iv (0 : Int32), Iv (2 : Int32), Lv mi1, Zs, Lv ma1, Zs, Rv b_291, Rv b_315, Rv b_358, Rv b_390, Iv in0, Us, Us] [(.int (0 : Int32))])) tt_ → Steps p.tables e below (T_414.setTop (mkF m 223 #[Lv q1, Zs, Lv q2, Zs, Lv q3, Zs, Lv q4, Zs, Lv q5, Zs, Iv p6, Iv (0 : Int32), Iv (2 : Int32), Lv mi1, Zs, Lv ma1, Zs, Rv b_291, Rv b_315, Rv b_358, Rv b_390, Iv in0, Us, Us] [(.int (lcmpW q2 ma1))])) tt_ := by
            intro tt_ kt_
            refine XS.ifYes X_414.here hEX rfl (pc0 := 223) (pc' := 230) rfl (hb hBY at_223) rfl ((if0 _ _).trans (tlt ((lw_gt _ _).mpr hc223)).2.2.1) (by decide) (by decide) ?_
            show Steps p.tables e below (T_414.setTop (mkF m 230 #[Lv q1, Zs, Lv q2, Zs, Lv q3, Zs, Lv q4, Zs, Lv q5, Zs, Iv p6, Iv (0 : Int32), Iv (2 : Int32), Lv mi1, Zs, Lv ma1, Zs, Rv b_291, Rv b_315, Rv b_358, Rv b_390, Iv in0, Us, Us] [])) tt_
            refine XS.iconst X_414.here hEX rfl (hb hBY at_230) ?_
            exact kt_
          refine Done.pre sg_441 ?_
          exact jn_427 ((0 : Int32)) (by rw [own_in1]; first | rw [if_pos hc216] | rw [if_neg hc216, if_pos hc223] | rw [if_neg hc216, if_neg hc223])
        · skip
          have sg_442 : ∀ tt_, Steps p.tables e below (T_414.setTop (mkF m 231 #[Lv q1, Zs, Lv q2, Zs, Lv q3, Zs, Lv q4, Zs, Lv q5, Zs, Iv p6, Iv (0 : Int32), Iv (2 : Int32), Lv mi1, Zs, Lv ma1, Zs, Rv b_291, Rv b_315, Rv b_358, Rv b_390, Iv in0, Us, Us] [(.int (1 : Int32))])) tt_ → Steps p.tables e below (T_414.setTop (mkF m 223 #[Lv q1, Zs, Lv q2, Zs, Lv q3, Zs, Lv q4, Zs, Lv q5, Zs, Iv p6, Iv (0 : Int32), Iv (2 : Int32), Lv mi1, Zs, Lv ma1, Zs, Rv b_291, Rv b_315, Rv b_358, Rv b_390, Iv in0, Us, Us] [(.int (lcmpW q2 ma1))])) tt_ := by
            intro tt_ kt_
            refine XS.ifNo X_414.here hEX rfl (hb hBY at_223) rfl ((if0 _ _).trans (flt (fun q => hc223 ((lw_gt _ _).mp q))).2.2.1) ?_
            show Steps p.tables e below (T_414.setTop (mkF m 226 #[Lv q1, Zs, Lv q2, Zs, Lv q3, Zs, Lv q4, Zs, Lv q5, Zs, Iv p6, Iv (0 : Int32), Iv (2 : Int32), Lv mi1, Zs, Lv ma1, Zs, Rv b_291, Rv b_315, Rv b_358, Rv b_390, Iv in0, Us, Us] [])) tt_
            refine XS.iconst X_414.here hEX rfl (hb hBY at_226) ?_
            show Steps p.tables e below (T_414.setTop (mkF m 227 #[Lv q1, Zs, Lv q2, Zs, Lv q3, Zs, Lv q4, Zs, Lv q5, Zs, Iv p6, Iv (0 : Int32), Iv (2 : Int32), Lv mi1, Zs, Lv ma1, Zs, Rv b_291, Rv b_315, Rv b_358, Rv b_390, Iv in0, Us, Us] [(.int (1 : Int32))])) tt_
            refine XS.goto X_414.here hEX rfl (pc0 := 227) (pc' := 231) rfl (hb hBY at_227) (by decide) (by decide) ?_
            exact kt_
          refine Done.pre sg_442 ?_
          exact jn_427 ((1 : Int32)) (by rw [own_in1]; first | rw [if_pos hc216] | rw [if_neg hc216, if_pos hc223] | rw [if_neg hc216, if_neg hc223])
    show Done _ _ _ _ _ _ _ (T_414.setTop (mkF m 191 #[Lv q1, Zs, Lv q2, Zs, Lv q3, Zs, Lv q4, Zs, Lv q5, Zs, Iv p6, Iv (0 : Int32), Iv (2 : Int32), Lv mi1, Zs, Lv ma1, Zs, Rv b_291, Rv b_315, Rv b_358, Rv b_390, Us, Us, Us] []))
    have sg_443 : ∀ tt_, Steps p.tables e below (T_414.setTop (mkF m 195 #[Lv q1, Zs, Lv q2, Zs, Lv q3, Zs, Lv q4, Zs, Lv q5, Zs, Iv p6, Iv (0 : Int32), Iv (2 : Int32), Lv mi1, Zs, Lv ma1, Zs, Rv b_291, Rv b_315, Rv b_358, Rv b_390, Us, Us, Us] [(.int (lcmpW q3 q1))])) tt_ → Steps p.tables e below (T_414.setTop (mkF m 191 #[Lv q1, Zs, Lv q2, Zs, Lv q3, Zs, Lv q4, Zs, Lv q5, Zs, Iv p6, Iv (0 : Int32), Iv (2 : Int32), Lv mi1, Zs, Lv ma1, Zs, Rv b_291, Rv b_315, Rv b_358, Rv b_390, Us, Us, Us] [])) tt_ := by
      intro tt_ kt_
      refine XS.lload X_414.here hEX rfl (hb hBY at_191) rfl ?_
      show Steps p.tables e below (T_414.setTop (mkF m 193 #[Lv q1, Zs, Lv q2, Zs, Lv q3, Zs, Lv q4, Zs, Lv q5, Zs, Iv p6, Iv (0 : Int32), Iv (2 : Int32), Lv mi1, Zs, Lv ma1, Zs, Rv b_291, Rv b_315, Rv b_358, Rv b_390, Us, Us, Us] [(.long q3)])) tt_
      refine XS.lloadN X_414.here hEX rfl (hb hBY at_193) rfl ?_
      show Steps p.tables e below (T_414.setTop (mkF m 194 #[Lv q1, Zs, Lv q2, Zs, Lv q3, Zs, Lv q4, Zs, Lv q5, Zs, Iv p6, Iv (0 : Int32), Iv (2 : Int32), Lv mi1, Zs, Lv ma1, Zs, Rv b_291, Rv b_315, Rv b_358, Rv b_390, Us, Us, Us] [(.long q1), (.long q3)])) tt_
      refine XS.lcmp X_414.here hEX rfl (hb hBY at_194) rfl ?_
      exact kt_
    refine Done.pre sg_443 ?_
    by_cases hc195 : q1 < q3
    · skip
      have sg_444 : ∀ tt_, Steps p.tables e below (T_414.setTop (mkF m 210 #[Lv q1, Zs, Lv q2, Zs, Lv q3, Zs, Lv q4, Zs, Lv q5, Zs, Iv p6, Iv (0 : Int32), Iv (2 : Int32), Lv mi1, Zs, Lv ma1, Zs, Rv b_291, Rv b_315, Rv b_358, Rv b_390, Us, Us, Us] [(.int (0 : Int32))])) tt_ → Steps p.tables e below (T_414.setTop (mkF m 195 #[Lv q1, Zs, Lv q2, Zs, Lv q3, Zs, Lv q4, Zs, Lv q5, Zs, Iv p6, Iv (0 : Int32), Iv (2 : Int32), Lv mi1, Zs, Lv ma1, Zs, Rv b_291, Rv b_315, Rv b_358, Rv b_390, Us, Us, Us] [(.int (lcmpW q3 q1))])) tt_ := by
        intro tt_ kt_
        refine XS.ifYes X_414.here hEX rfl (pc0 := 195) (pc' := 209) rfl (hb hBY at_195) rfl ((if0 _ _).trans (tlt ((lw_gt _ _).mpr hc195)).2.2.1) (by decide) (by decide) ?_
        show Steps p.tables e below (T_414.setTop (mkF m 209 #[Lv q1, Zs, Lv q2, Zs, Lv q3, Zs, Lv q4, Zs, Lv q5, Zs, Iv p6, Iv (0 : Int32), Iv (2 : Int32), Lv mi1, Zs, Lv ma1, Zs, Rv b_291, Rv b_315, Rv b_358, Rv b_390, Us, Us, Us] [])) tt_
        refine XS.iconst X_414.here hEX rfl (hb hBY at_209) ?_
        exact kt_
      refine Done.pre sg_444 ?_
      exact jn_425 ((0 : Int32)) (by rw [own_in1]; first | rw [if_pos hc195] | rw [if_neg hc195, if_pos hc202] | rw [if_neg hc195, if_neg hc202])
    · skip
      have sg_445 : ∀ tt_, Steps p.tables e below (T_414.setTop (mkF m 202 #[Lv q1, Zs, Lv q2, Zs, Lv q3, Zs, Lv q4, Zs, Lv q5, Zs, Iv p6, Iv (0 : Int32), Iv (2 : Int32), Lv mi1, Zs, Lv ma1, Zs, Rv b_291, Rv b_315, Rv b_358, Rv b_390, Us, Us, Us] [(.int (lcmpW q1 q4))])) tt_ → Steps p.tables e below (T_414.setTop (mkF m 195 #[Lv q1, Zs, Lv q2, Zs, Lv q3, Zs, Lv q4, Zs, Lv q5, Zs, Iv p6, Iv (0 : Int32), Iv (2 : Int32), Lv mi1, Zs, Lv ma1, Zs, Rv b_291, Rv b_315, Rv b_358, Rv b_390, Us, Us, Us] [(.int (lcmpW q3 q1))])) tt_ := by
        intro tt_ kt_
        refine XS.ifNo X_414.here hEX rfl (hb hBY at_195) rfl ((if0 _ _).trans (flt (fun q => hc195 ((lw_gt _ _).mp q))).2.2.1) ?_
        show Steps p.tables e below (T_414.setTop (mkF m 198 #[Lv q1, Zs, Lv q2, Zs, Lv q3, Zs, Lv q4, Zs, Lv q5, Zs, Iv p6, Iv (0 : Int32), Iv (2 : Int32), Lv mi1, Zs, Lv ma1, Zs, Rv b_291, Rv b_315, Rv b_358, Rv b_390, Us, Us, Us] [])) tt_
        refine XS.lloadN X_414.here hEX rfl (hb hBY at_198) rfl ?_
        show Steps p.tables e below (T_414.setTop (mkF m 199 #[Lv q1, Zs, Lv q2, Zs, Lv q3, Zs, Lv q4, Zs, Lv q5, Zs, Iv p6, Iv (0 : Int32), Iv (2 : Int32), Lv mi1, Zs, Lv ma1, Zs, Rv b_291, Rv b_315, Rv b_358, Rv b_390, Us, Us, Us] [(.long q1)])) tt_
        refine XS.lload X_414.here hEX rfl (hb hBY at_199) rfl ?_
        show Steps p.tables e below (T_414.setTop (mkF m 201 #[Lv q1, Zs, Lv q2, Zs, Lv q3, Zs, Lv q4, Zs, Lv q5, Zs, Iv p6, Iv (0 : Int32), Iv (2 : Int32), Lv mi1, Zs, Lv ma1, Zs, Rv b_291, Rv b_315, Rv b_358, Rv b_390, Us, Us, Us] [(.long q4), (.long q1)])) tt_
        refine XS.lcmp X_414.here hEX rfl (hb hBY at_201) rfl ?_
        exact kt_
      refine Done.pre sg_445 ?_
      by_cases hc202 : q4 < q1
      · skip
        have sg_446 : ∀ tt_, Steps p.tables e below (T_414.setTop (mkF m 210 #[Lv q1, Zs, Lv q2, Zs, Lv q3, Zs, Lv q4, Zs, Lv q5, Zs, Iv p6, Iv (0 : Int32), Iv (2 : Int32), Lv mi1, Zs, Lv ma1, Zs, Rv b_291, Rv b_315, Rv b_358, Rv b_390, Us, Us, Us] [(.int (0 : Int32))])) tt_ → Steps p.tables e below (T_414.setTop (mkF m 202 #[Lv q1, Zs, Lv q2, Zs, Lv q3, Zs, Lv q4, Zs, Lv q5, Zs, Iv p6, Iv (0 : Int32), Iv (2 : Int32), Lv mi1, Zs, Lv ma1, Zs, Rv b_291, Rv b_315, Rv b_358, Rv b_390, Us, Us, Us] [(.int (lcmpW q1 q4))])) tt_ := by
          intro tt_ kt_
          refine XS.ifYes X_414.here hEX rfl (pc0 := 202) (pc' := 209) rfl (hb hBY at_202) rfl ((if0 _ _).trans (tlt ((lw_gt _ _).mpr hc202)).2.2.1) (by decide) (by decide) ?_
          show Steps p.tables e below (T_414.setTop (mkF m 209 #[Lv q1, Zs, Lv q2, Zs, Lv q3, Zs, Lv q4, Zs, Lv q5, Zs, Iv p6, Iv (0 : Int32), Iv (2 : Int32), Lv mi1, Zs, Lv ma1, Zs, Rv b_291, Rv b_315, Rv b_358, Rv b_390, Us, Us, Us] [])) tt_
          refine XS.iconst X_414.here hEX rfl (hb hBY at_209) ?_
          exact kt_
        refine Done.pre sg_446 ?_
        exact jn_425 ((0 : Int32)) (by rw [own_in1]; first | rw [if_pos hc195] | rw [if_neg hc195, if_pos hc202] | rw [if_neg hc195, if_neg hc202])
      · skip
        have sg_447 : ∀ tt_, Steps p.tables e below (T_414.setTop (mkF m 210 #[Lv q1, Zs, Lv q2, Zs, Lv q3, Zs, Lv q4, Zs, Lv q5, Zs, Iv p6, Iv (0 : Int32), Iv (2 : Int32), Lv mi1, Zs, Lv ma1, Zs, Rv b_291, Rv b_315, Rv b_358, Rv b_390, Us, Us, Us] [(.int (1 : Int32))])) tt_ → Steps p.tables e below (T_414.setTop (mkF m 202 #[Lv q1, Zs, Lv q2, Zs, Lv q3, Zs, Lv q4, Zs, Lv q5, Zs, Iv p6, Iv (0 : Int32), Iv (2 : Int32), Lv mi1, Zs, Lv ma1, Zs, Rv b_291, Rv b_315, Rv b_358, Rv b_390, Us, Us, Us] [(.int (lcmpW q1 q4))])) tt_ := by
          intro tt_ kt_
          refine XS.ifNo X_414.here hEX rfl (hb hBY at_202) rfl ((if0 _ _).trans (flt (fun q => hc202 ((lw_gt _ _).mp q))).2.2.1) ?_
          show Steps p.tables e below (T_414.setTop (mkF m 205 #[Lv q1, Zs, Lv q2, Zs, Lv q3, Zs, Lv q4, Zs, Lv q5, Zs, Iv p6, Iv (0 : Int32), Iv (2 : Int32), Lv mi1, Zs, Lv ma1, Zs, Rv b_291, Rv b_315, Rv b_358, Rv b_390, Us, Us, Us] [])) tt_
          refine XS.iconst X_414.here hEX rfl (hb hBY at_205) ?_
          show Steps p.tables e below (T_414.setTop (mkF m 206 #[Lv q1, Zs, Lv q2, Zs, Lv q3, Zs, Lv q4, Zs, Lv q5, Zs, Iv p6, Iv (0 : Int32), Iv (2 : Int32), Lv mi1, Zs, Lv ma1, Zs, Rv b_291, Rv b_315, Rv b_358, Rv b_390, Us, Us, Us] [(.int (1 : Int32))])) tt_
          refine XS.goto X_414.here hEX rfl (pc0 := 206) (pc' := 210) rfl (hb hBY at_206) (by decide) (by decide) ?_
          exact kt_
        refine Done.pre sg_447 ?_
        exact jn_425 ((1 : Int32)) (by rw [own_in1]; first | rw [if_pos hc195] | rw [if_neg hc195, if_pos hc202] | rw [if_neg hc195, if_neg hc202])
  · skip
    show Done _ _ _ _ _ _ _ (T_6.setTop (mkF m 44 #[Lv q1, Zs, Lv q2, Zs, Lv q3, Zs, Lv q4, Zs, Lv q5, Zs, Iv p6, Iv (1 : Int32), Iv (2 : Int32), Lv mi1, Zs, Lv ma1, Zs, Us, Us, Us, Us, Us, Us, Us] []))
    have sg_448 : ∀ tt_, Steps p.tables e below (T_6.setTop (mkF m 80 #[Lv q1, Zs, Lv q2, Zs, Lv q3, Zs, Lv q4, Zs, Lv q5, Zs, Iv p6, Iv (1 : Int32), Iv (2 : Int32), Lv mi1, Zs, Lv ma1, Zs, Us, Us, Us, Us, Us, Us, Us] [(.int (4 : Int32))])) tt_ → Steps p.tables e below (T_6.setTop (mkF m 44 #[Lv q1, Zs, Lv q2, Zs, Lv q3, Zs, Lv q4, Zs, Lv q5, Zs, Iv p6, Iv (1 : Int32), Iv (2 : Int32), Lv mi1, Zs, Lv ma1, Zs, Us, Us, Us, Us, Us, Us, Us] [])) tt_ := by
      intro tt_ kt_
      refine XS.iload X_6.here hEX rfl (hb hBY at_44) rfl ?_
      show Steps p.tables e below (T_6.setTop (mkF m 46 #[Lv q1, Zs, Lv q2, Zs, Lv q3, Zs, Lv q4, Zs, Lv q5, Zs, Iv p6, Iv (1 : Int32), Iv (2 : Int32), Lv mi1, Zs, Lv ma1, Zs, Us, Us, Us, Us, Us, Us, Us] [(.int (2 : Int32))])) tt_
      refine XS.iconst X_6.here hEX rfl (hb hBY at_46) ?_
      show Steps p.tables e below (T_6.setTop (mkF m 47 #[Lv q1, Zs, Lv q2, Zs, Lv q3, Zs, Lv q4, Zs, Lv q5, Zs, Iv p6, Iv (1 : Int32), Iv (2 : Int32), Lv mi1, Zs, Lv ma1, Zs, Us, Us, Us, Us, Us, Us, Us] [(.int (2 : Int32)), (.int (2 : Int32))])) tt_
      refine XS.icmpNo X_6.here hEX rfl (hb hBY at_47) rfl (teq (by decide : (2 : Int32) = (2 : Int32))).2 ?_
      show Steps p.tables e below (T_6.setTop (mkF m 50 #[Lv q1, Zs, Lv q2, Zs, Lv q3, Zs, Lv q4, Zs, Lv q5, Zs, Iv p6, Iv (1 : Int32), Iv (2 : Int32), Lv mi1, Zs, Lv ma1, Zs, Us, Us, Us, Us, Us, Us, Us] [])) tt_
      refine XS.iload X_6.here hEX rfl (hb hBY at_50) rfl ?_
      show Steps p.tables e below (T_6.setTop (mkF m 52 #[Lv q1, Zs, Lv q2, Zs, Lv q3, Zs, Lv q4, Zs, Lv q5, Zs, Iv p6, Iv (1 : Int32), Iv (2 : Int32), Lv mi1, Zs, Lv ma1, Zs, Us, Us, Us, Us, Us, Us, Us] [(.int (1 : Int32))])) tt_
      refine XS.ifYes X_6.here hEX rfl (pc0 := 52) (pc' := 79) rfl (hb hBY at_52) rfl ((if0 _ _).trans (feq (by decide : ¬ ((1 : Int32) = (0 : Int32)))).2) (by decide) (by decide) ?_
      show Steps p.tables e below (T_6.setTop (mkF m 79 #[Lv q1, Zs, Lv q2, Zs, Lv q3, Zs, Lv q4, Zs, Lv q5, Zs, Iv p6, Iv (1 : Int32), Iv (2 : Int32), Lv mi1, Zs, Lv ma1, Zs, Us, Us, Us, Us, Us, Us, Us] [])) tt_
      refine XS.iconst X_6.here hEX rfl (hb hBY at_79) ?_
      exact kt_
    refine Done.pre sg_448 ?_
    obtain ⟨T_449, h_449, k_449, X_449, e_449, E_449, A_449, st_449⟩ := newP X_6 hEX hZW (hw _ (List.mem_of_getElem? (i := 4) rfl)) e_6 (g := (mkF m 80 #[Lv q1, Zs, Lv q2, Zs, Lv q3, Zs, Lv q4, Zs, Lv q5, Zs, Iv p6, Iv (1 : Int32), Iv (2 : Int32), Lv mi1, Zs, Lv ma1, Zs, Us, Us, Us, Us, Us, Us, Us] [(.int (4 : Int32))])) rfl (hb hBY at_80) rfl (by decide) (cap := 4) (by decide) (by decide) (by decide) (by decide)
    obtain ⟨b_449, g_449⟩ : ∃ z, z = h0.size := ⟨_, rfl⟩
    rw [← g_449] at A_449 st_449
    have sz_b_449 : h0.size ≤ b_449 := Nat.le_trans K0.1 (Nat.le_of_eq g_449.symm)
    have ge_b_449 : n0 ≤ b_449 := Nat.le_trans Z0 sz_b_449
    have K__450 : Keep h0 h_449 [] := K0.ext E_449
    have f_451 : Arv Z h_449 b_449 k_449 .long (4 : Int32) [(.long (0 : Int64)), (.long (0 : Int64)), (.long (0 : Int64)), (.long (0 : Int64))] (.long (0 : Int64)) := (Arv.new A_449 (by decide)).pad (pad_rep [] (.long (0 : Int64)) 4)
    refine Done.pre st_449 ?_
    show Done _ _ _ _ _ _ _ (T_449.setTop (mkF m 82 #[Lv q1, Zs, Lv q2, Zs, Lv q3, Zs, Lv q4, Zs, Lv q5, Zs, Iv p6, Iv (1 : Int32), Iv (2 : Int32), Lv mi1, Zs, Lv ma1, Zs, Us, Us, Us, Us, Us, Us, Us] [(.ref b_449)]))
    have sg_453 : ∀ tt_, Steps p.tables e below (T_449.setTop (mkF m 85 #[Lv q1, Zs, Lv q2, Zs, Lv q3, Zs, Lv q4, Zs, Lv q5, Zs, Iv p6, Iv (1 : Int32), Iv (2 : Int32), Lv mi1, Zs, Lv ma1, Zs, Us, Us, Us, Us, Us, Us, Us] [(.long q2), (.int (0 : Int32)), (.ref b_449), (.ref b_449)])) tt_ → Steps p.tables e below (T_449.setTop (mkF m 82 #[Lv q1, Zs, Lv q2, Zs, Lv q3, Zs, Lv q4, Zs, Lv q5, Zs, Iv p6, Iv (1 : Int32), Iv (2 : Int32), Lv mi1, Zs, Lv ma1, Zs, Us, Us, Us, Us, Us, Us, Us] [(.ref b_449)])) tt_ := by
      intro tt_ kt_
      refine XS.dup X_449.here hEX rfl (hb hBY at_82) rfl rfl ?_
      show Steps p.tables e below (T_449.setTop (mkF m 83 #[Lv q1, Zs, Lv q2, Zs, Lv q3, Zs, Lv q4, Zs, Lv q5, Zs, Iv p6, Iv (1 : Int32), Iv (2 : Int32), Lv mi1, Zs, Lv ma1, Zs, Us, Us, Us, Us, Us, Us, Us] [(.ref b_449), (.ref b_449)])) tt_
      refine XS.iconst X_449.here hEX rfl (hb hBY at_83) ?_
      show Steps p.tables e below (T_449.setTop (mkF m 84 #[Lv q1, Zs, Lv q2, Zs, Lv q3, Zs, Lv q4, Zs, Lv q5, Zs, Iv p6, Iv (1 : Int32), Iv (2 : Int32), Lv mi1, Zs, Lv ma1, Zs, Us, Us, Us, Us, Us, Us, Us] [(.int (0 : Int32)), (.ref b_449), (.ref b_449)])) tt_
      refine XS.lloadN X_449.here hEX rfl (hb hBY at_84) rfl ?_
      exact kt_
    refine Done.pre sg_453 ?_
    obtain ⟨cl_452, Ar_452, q_452, S_452, N__452, H_452, G_452⟩ := id f_451
    have hin_452 : ¬ ((0 : Int32) < 0 ∨ cl_452.slots.size ≤ ((0 : Int32)).toNatClampNeg) := inb_of S_452 ⟨by decide, by decide⟩
    obtain ⟨T_454, h_454, X_454, e_454, W_454, st_454⟩ := stJ X_449 hEX hZW e_449 Ar_452 (j := (0 : Int32)) hin_452 (g := (mkF m 85 #[Lv q1, Zs, Lv q2, Zs, Lv q3, Zs, Lv q4, Zs, Lv q5, Zs, Iv p6, Iv (1 : Int32), Iv (2 : Int32), Lv mi1, Zs, Lv ma1, Zs, Us, Us, Us, Us, Us, Us, Us] [(.long q2), (.int (0 : Int32)), (.ref b_449), (.ref b_449)])) rfl rfl (hb hBY at_85)
    have N_454 := Fr.snoc X_454 N_6 ge_b_449
    have K__455 : Keep h0 h_454 [] := K__450.wr W_454 (Or.inr sz_b_449)
    have f_456 : Arv Z h_454 b_449 k_449 .long (4 : Int32) [(.long q2), (.long (0 : Int64)), (.long (0 : Int64)), (.long (0 : Int64))] (.long (0 : Int64)) := Arv.set Ar_452 q_452 S_452 N__452 H_452 G_452 rfl W_454 0 rfl (Nat.le_of_ble_eq_true rfl)
    refine Done.pre st_454 ?_
    show Done _ _ _ _ _ _ _ (T_454.setTop (mkF m 86 #[Lv q1, Zs, Lv q2, Zs, Lv q3, Zs, Lv q4, Zs, Lv q5, Zs, Iv p6, Iv (1 : Int32), Iv (2 : Int32), Lv mi1, Zs, Lv ma1, Zs, Us, Us, Us, Us, Us, Us, Us] [(.ref b_449)]))
    have sg_458 : ∀ tt_, Steps p.tables e below (T_454.setTop (mkF m 89 #[Lv q1, Zs, Lv q2, Zs, Lv q3, Zs, Lv q4, Zs, Lv q5, Zs, Iv p6, Iv (1 : Int32), Iv (2 : Int32), Lv mi1, Zs, Lv ma1, Zs, Us, Us, Us, Us, Us, Us, Us] [(.long q1), (.int (1 : Int32)), (.ref b_449), (.ref b_449)])) tt_ → Steps p.tables e below (T_454.setTop (mkF m 86 #[Lv q1, Zs, Lv q2, Zs, Lv q3, Zs, Lv q4, Zs, Lv q5, Zs, Iv p6, Iv (1 : Int32), Iv (2 : Int32), Lv mi1, Zs, Lv ma1, Zs, Us, Us, Us, Us, Us, Us, Us] [(.ref b_449)])) tt_ := by
      intro tt_ kt_
      refine XS.dup X_454.here hEX rfl (hb hBY at_86) rfl rfl ?_
      show Steps p.tables e below (T_454.setTop (mkF m 87 #[Lv q1, Zs, Lv q2, Zs, Lv q3, Zs, Lv q4, Zs, Lv q5, Zs, Iv p6, Iv (1 : Int32), Iv (2 : Int32), Lv mi1, Zs, Lv ma1, Zs, Us, Us, Us, Us, Us, Us, Us] [(.ref b_449), (.ref b_449)])) tt_
      refine XS.iconst X_454.here hEX rfl (hb hBY at_87) ?_
      show Steps p.tables e below (T_454.setTop (mkF m 88 #[Lv q1, Zs, Lv q2, Zs, Lv q3, Zs, Lv q4, Zs, Lv q5, Zs, Iv p6, Iv (1 : Int32), Iv (2 : Int32), Lv mi1, Zs, Lv ma1, Zs, Us, Us, Us, Us, Us, Us, Us] [(.int (1 : Int32)), (.ref b_449), (.ref b_449)])) tt_
      refine XS.lloadN X_454.here hEX rfl (hb hBY at_88) rfl ?_
      exact kt_
    refine Done.pre sg_458 ?_
    obtain ⟨cl_457, Ar_457, q_457, S_457, N__457, H_457, G_457⟩ := id f_456
    have hin_457 : ¬ ((1 : Int32) < 0 ∨ cl_457.slots.size ≤ ((1 : Int32)).toNatClampNeg) := inb_of S_457 ⟨by decide, by decide⟩
    obtain ⟨T_459, h_459, X_459, e_459, W_459, st_459⟩ := stJ X_454 hEX hZW e_454 Ar_457 (j := (1 : Int32)) hin_457 (g := (mkF m 89 #[Lv q1, Zs, Lv q2, Zs, Lv q3, Zs, Lv q4, Zs, Lv q5, Zs, Iv p6, Iv (1 : Int32), Iv (2 : Int32), Lv mi1, Zs, Lv ma1, Zs, Us, Us, Us, Us, Us, Us, Us] [(.long q1), (.int (1 : Int32)), (.ref b_449), (.ref b_449)])) rfl rfl (hb hBY at_89)
    have N_459 := Fr.snoc X_459 N_454 ge_b_449
    have K__460 : Keep h0 h_459 [] := K__455.wr W_459 (Or.inr sz_b_449)
    have f_461 : Arv Z h_459 b_449 k_449 .long (4 : Int32) [(.long q2), (.long q1), (.long (0 : Int64)), (.long (0 : Int64))] (.long (0 : Int64)) := Arv.set Ar_457 q_457 S_457 N__457 H_457 G_457 rfl W_459 1 rfl (Nat.le_of_ble_eq_true rfl)
    refine Done.pre st_459 ?_
    show Done _ _ _ _ _ _ _ (T_459.setTop (mkF m 90 #[Lv q1, Zs, Lv q2, Zs, Lv q3, Zs, Lv q4, Zs, Lv q5, Zs, Iv p6, Iv (1 : Int32), Iv (2 : Int32), Lv mi1, Zs, Lv ma1, Zs, Us, Us, Us, Us, Us, Us, Us] [(.ref b_449)]))
    have sg_463 : ∀ tt_, Steps p.tables e below (T_459.setTop (mkF m 93 #[Lv q1, Zs, Lv q2, Zs, Lv q3, Zs, Lv q4, Zs, Lv q5, Zs, Iv p6, Iv (1 : Int32), Iv (2 : Int32), Lv mi1, Zs, Lv ma1, Zs, Us, Us, Us, Us, Us, Us, Us] [(.long q1), (.int (2 : Int32)), (.ref b_449), (.ref b_449)])) tt_ → Steps p.tables e below (T_459.setTop (mkF m 90 #[Lv q1, Zs, Lv q2, Zs, Lv q3, Zs, Lv q4, Zs, Lv q5, Zs, Iv p6, Iv (1 : Int32), Iv (2 : Int32), Lv mi1, Zs, Lv ma1, Zs, Us, Us, Us, Us, Us, Us, Us] [(.ref b_449)])) tt_ := by
      intro tt_ kt_
      refine XS.dup X_459.here hEX rfl (hb hBY at_90) rfl rfl ?_
      show Steps p.tables e below (T_459.setTop (mkF m 91 #[Lv q1, Zs, Lv q2, Zs, Lv q3, Zs, Lv q4, Zs, Lv q5, Zs, Iv p6, Iv (1 : Int32), Iv (2 : Int32), Lv mi1, Zs, Lv ma1, Zs, Us, Us, Us, Us, Us, Us, Us] [(.ref b_449), (.ref b_449)])) tt_
      refine XS.iconst X_459.here hEX rfl (hb hBY at_91) ?_
      show Steps p.tables e below (T_459.setTop (mkF m 92 #[Lv q1, Zs, Lv q2, Zs, Lv q3, Zs, Lv q4, Zs, Lv q5, Zs, Iv p6, Iv (1 : Int32), Iv (2 : Int32), Lv mi1, Zs, Lv ma1, Zs, Us, Us, Us, Us, Us, Us, Us] [(.int (2 : Int32)), (.ref b_449), (.ref b_449)])) tt_
      refine XS.lloadN X_459.here hEX rfl (hb hBY at_92) rfl ?_
      exact kt_
    refine Done.pre sg_463 ?_
    obtain ⟨cl_462, Ar_462, q_462, S_462, N__462, H_462, G_462⟩ := id f_461
    have hin_462 : ¬ ((2 : Int32) < 0 ∨ cl_462.slots.size ≤ ((2 : Int32)).toNatClampNeg) := inb_of S_462 ⟨by decide, by decide⟩
    obtain ⟨T_464, h_464, X_464, e_464, W_464, st_464⟩ := stJ X_459 hEX hZW e_459 Ar_462 (j := (2 : Int32)) hin_462 (g := (mkF m 93 #[Lv q1, Zs, Lv q2, Zs, Lv q3, Zs, Lv q4, Zs, Lv q5, Zs, Iv p6, Iv (1 : Int32), Iv (2 : Int32), Lv mi1, Zs, Lv ma1, Zs, Us, Us, Us, Us, Us, Us, Us] [(.long q1), (.int (2 : Int32)), (.ref b_449), (.ref b_449)])) rfl rfl (hb hBY at_93)
    have N_464 := Fr.snoc X_464 N_459 ge_b_449
    have K__465 : Keep h0 h_464 [] := K__460.wr W_464 (Or.inr sz_b_449)
    have f_466 : Arv Z h_464 b_449 k_449 .long (4 : Int32) [(.long q2), (.long q1), (.long q1), (.long (0 : Int64))] (.long (0 : Int64)) := Arv.set Ar_462 q_462 S_462 N__462 H_462 G_462 rfl W_464 2 rfl (Nat.le_of_ble_eq_true rfl)
    refine Done.pre st_464 ?_
    show Done _ _ _ _ _ _ _ (T_464.setTop (mkF m 94 #[Lv q1, Zs, Lv q2, Zs, Lv q3, Zs, Lv q4, Zs, Lv q5, Zs, Iv p6, Iv (1 : Int32), Iv (2 : Int32), Lv mi1, Zs, Lv ma1, Zs, Us, Us, Us, Us, Us, Us, Us] [(.ref b_449)]))
    have sg_468 : ∀ tt_, Steps p.tables e below (T_464.setTop (mkF m 97 #[Lv q1, Zs, Lv q2, Zs, Lv q3, Zs, Lv q4, Zs, Lv q5, Zs, Iv p6, Iv (1 : Int32), Iv (2 : Int32), Lv mi1, Zs, Lv ma1, Zs, Us, Us, Us, Us, Us, Us, Us] [(.long q2), (.int (3 : Int32)), (.ref b_449), (.ref b_449)])) tt_ → Steps p.tables e below (T_464.setTop (mkF m 94 #[Lv q1, Zs, Lv q2, Zs, Lv q3, Zs, Lv q4, Zs, Lv q5, Zs, Iv p6, Iv (1 : Int32), Iv (2 : Int32), Lv mi1, Zs, Lv ma1, Zs, Us, Us, Us, Us, Us, Us, Us] [(.ref b_449)])) tt_ := by
      intro tt_ kt_
      refine XS.dup X_464.here hEX rfl (hb hBY at_94) rfl rfl ?_
      show Steps p.tables e below (T_464.setTop (mkF m 95 #[Lv q1, Zs, Lv q2, Zs, Lv q3, Zs, Lv q4, Zs, Lv q5, Zs, Iv p6, Iv (1 : Int32), Iv (2 : Int32), Lv mi1, Zs, Lv ma1, Zs, Us, Us, Us, Us, Us, Us, Us] [(.ref b_449), (.ref b_449)])) tt_
      refine XS.iconst X_464.here hEX rfl (hb hBY at_95) ?_
      show Steps p.tables e below (T_464.setTop (mkF m 96 #[Lv q1, Zs, Lv q2, Zs, Lv q3, Zs, Lv q4, Zs, Lv q5, Zs, Iv p6, Iv (1 : Int32), Iv (2 : Int32), Lv mi1, Zs, Lv ma1, Zs, Us, Us, Us, Us, Us, Us, Us] [(.int (3 : Int32)), (.ref b_449), (.ref b_449)])) tt_
      refine XS.lloadN X_464.here hEX rfl (hb hBY at_96) rfl ?_
      exact kt_
    refine Done.pre sg_468 ?_
    obtain ⟨cl_467, Ar_467, q_467, S_467, N__467, H_467, G_467⟩ := id f_466
    have hin_467 : ¬ ((3 : Int32) < 0 ∨ cl_467.slots.size ≤ ((3 : Int32)).toNatClampNeg) := inb_of S_467 ⟨by decide, by decide⟩
    obtain ⟨T_469, h_469, X_469, e_469, W_469, st_469⟩ := stJ X_464 hEX hZW e_464 Ar_467 (j := (3 : Int32)) hin_467 (g := (mkF m 97 #[Lv q1, Zs, Lv q2, Zs, Lv q3, Zs, Lv q4, Zs, Lv q5, Zs, Iv p6, Iv (1 : Int32), Iv (2 : Int32), Lv mi1, Zs, Lv ma1, Zs, Us, Us, Us, Us, Us, Us, Us] [(.long q2), (.int (3 : Int32)), (.ref b_449), (.ref b_449)])) rfl rfl (hb hBY at_97)
    have N_469 := Fr.snoc X_469 N_464 ge_b_449
    have K__470 : Keep h0 h_469 [] := K__465.wr W_469 (Or.inr sz_b_449)
    have f_471 : Arv Z h_469 b_449 k_449 .long (4 : Int32) [(.long q2), (.long q1), (.long q1), (.long q2)] (.long (0 : Int64)) := Arv.set Ar_467 q_467 S_467 N__467 H_467 G_467 rfl W_469 3 rfl (Nat.le_of_ble_eq_true rfl)
    refine Done.pre st_469 ?_
    show Done _ _ _ _ _ _ _ (T_469.setTop (mkF m 98 #[Lv q1, Zs, Lv q2, Zs, Lv q3, Zs, Lv q4, Zs, Lv q5, Zs, Iv p6, Iv (1 : Int32), Iv (2 : Int32), Lv mi1, Zs, Lv ma1, Zs, Us, Us, Us, Us, Us, Us, Us] [(.ref b_449)]))
    have sg_472 : ∀ tt_, Steps p.tables e below (T_469.setTop (mkF m 137 #[Lv q1, Zs, Lv q2, Zs, Lv q3, Zs, Lv q4, Zs, Lv q5, Zs, Iv p6, Iv (1 : Int32), Iv (2 : Int32), Lv mi1, Zs, Lv ma1, Zs, Rv b_449, Us, Us, Us, Us, Us, Us] [])) tt_ → Steps p.tables e below (T_469.setTop (mkF m 98 #[Lv q1, Zs, Lv q2, Zs, Lv q3, Zs, Lv q4, Zs, Lv q5, Zs, Iv p6, Iv (1 : Int32), Iv (2 : Int32), Lv mi1, Zs, Lv ma1, Zs, Us, Us, Us, Us, Us, Us, Us] [(.ref b_449)])) tt_ := by
      intro tt_ kt_
      refine XS.astore X_469.here hEX rfl (hb hBY at_98) rfl rfl (l' := #[Lv q1, Zs, Lv q2, Zs, Lv q3, Zs, Lv q4, Zs, Lv q5, Zs, Iv p6, Iv (1 : Int32), Iv (2 : Int32), Lv mi1, Zs, Lv ma1, Zs, Rv b_449, Us, Us, Us, Us, Us, Us]) rfl ?_
      show Steps p.tables e below (T_469.setTop (mkF m 100 #[Lv q1, Zs, Lv q2, Zs, Lv q3, Zs, Lv q4, Zs, Lv q5, Zs, Iv p6, Iv (1 : Int32), Iv (2 : Int32), Lv mi1, Zs, Lv ma1, Zs, Rv b_449, Us, Us, Us, Us, Us, Us] [])) tt_
      refine XS.goto X_469.here hEX rfl (pc0 := 100) (pc' := 137) rfl (hb hBY at_100) (by decide) (by decide) ?_
      exact kt_
    refine Done.pre sg_472 ?_
    obtain ⟨T_473, h_473, X_473, e_473, E_473, A_473, D_473, -, st_473⟩ := newO X_469 hEX hZW hOW (hw _ (List.mem_of_getElem? (i := 5) rfl)) (hw _ (List.mem_of_getElem? (i := 6) rfl)) (hw _ (List.mem_of_getElem? (i := 7) rfl)) e_469 (g := (mkF m 137 #[Lv q1, Zs, Lv q2, Zs, Lv q3, Zs, Lv q4, Zs, Lv q5, Zs, Iv p6, Iv (1 : Int32), Iv (2 : Int32), Lv mi1, Zs, Lv ma1, Zs, Rv b_449, Us, Us, Us, Us, Us, Us] [])) rfl (hb hBY at_137) (by decide) (by decide)
    obtain ⟨b_473, g_473⟩ : ∃ z, z = h_469.size := ⟨_, rfl⟩
    rw [← g_473] at A_473 D_473 st_473
    have sz_b_473 : h0.size ≤ b_473 := Nat.le_trans K__470.1 (Nat.le_of_eq g_473.symm)
    have ge_b_473 : n0 ≤ b_473 := Nat.le_trans Z0 sz_b_473
    have ne_b_449_b_473 : b_449 ≠ b_473 := Nat.ne_of_lt (Nat.lt_of_lt_of_le f_471.lt (Nat.le_of_eq g_473.symm))
    have K__474 : Keep h0 h_473 [] := K__470.ext E_473
    have f_475 : Arv Z h_473 b_449 k_449 .long (4 : Int32) [(.long q2), (.long q1), (.long q1), (.long q2)] (.long (0 : Int64)) := f_471.ext E_473
    have f_476 : Exa Z h_473 b_473 "com/example/pointcell/pointcell/Leaf" := A_473
    have f_477 : Fld Z h_473 b_473 "com/example/pointcell/pointcell/Leaf" "dimensions" "I" (.int (0 : Int32)) := D_473 (Or.inr (hw _ (List.mem_of_getElem? (i := 16) rfl))) (ty := .int) (by decide)
    have f_478 : Fld Z h_473 b_473 "com/example/pointcell/pointcell/Leaf" "docIds" "[I" .null := D_473 (Or.inr (hw _ (List.mem_of_getElem? (i := 18) rfl))) (ty := (.array .int)) (by decide)
    have f_479 : Fld Z h_473 b_473 "com/example/pointcell/pointcell/Leaf" "keys" "[J" .null := D_473 (Or.inr (hw _ (List.mem_of_getElem? (i := 20) rfl))) (ty := (.array .long)) (by decide)
    refine Done.pre st_473 ?_
    show Done _ _ _ _ _ _ _ (T_473.setTop (mkF m 140 #[Lv q1, Zs, Lv q2, Zs, Lv q3, Zs, Lv q4, Zs, Lv q5, Zs, Iv p6, Iv (1 : Int32), Iv (2 : Int32), Lv mi1, Zs, Lv ma1, Zs, Rv b_449, Us, Us, Us, Us, Us, Us] [(.ref b_473)]))
    have sg_480 : ∀ tt_, Steps p.tables e below (T_473.setTop (mkF m 144 #[Lv q1, Zs, Lv q2, Zs, Lv q3, Zs, Lv q4, Zs, Lv q5, Zs, Iv p6, Iv (1 : Int32), Iv (2 : Int32), Lv mi1, Zs, Lv ma1, Zs, Rv b_449, Us, Us, Us, Us, Us, Us] [(.int (2 : Int32)), (.int (2 : Int32)), (.ref b_473), (.ref b_473)])) tt_ → Steps p.tables e below (T_473.setTop (mkF m 140 #[Lv q1, Zs, Lv q2, Zs, Lv q3, Zs, Lv q4, Zs, Lv q5, Zs, Iv p6, Iv (1 : Int32), Iv (2 : Int32), Lv mi1, Zs, Lv ma1, Zs, Rv b_449, Us, Us, Us, Us, Us, Us] [(.ref b_473)])) tt_ := by
      intro tt_ kt_
      refine XS.dup X_473.here hEX rfl (hb hBY at_140) rfl rfl ?_
      show Steps p.tables e below (T_473.setTop (mkF m 141 #[Lv q1, Zs, Lv q2, Zs, Lv q3, Zs, Lv q4, Zs, Lv q5, Zs, Iv p6, Iv (1 : Int32), Iv (2 : Int32), Lv mi1, Zs, Lv ma1, Zs, Rv b_449, Us, Us, Us, Us, Us, Us] [(.ref b_473), (.ref b_473)])) tt_
      refine XS.iload X_473.here hEX rfl (hb hBY at_141) rfl ?_
      show Steps p.tables e below (T_473.setTop (mkF m 143 #[Lv q1, Zs, Lv q2, Zs, Lv q3, Zs, Lv q4, Zs, Lv q5, Zs, Iv p6, Iv (1 : Int32), Iv (2 : Int32), Lv mi1, Zs, Lv ma1, Zs, Rv b_449, Us, Us, Us, Us, Us, Us] [(.int (2 : Int32)), (.ref b_473), (.ref b_473)])) tt_
      refine XS.iconst X_473.here hEX rfl (hb hBY at_143) ?_
      exact kt_
    refine Done.pre sg_480 ?_
    obtain ⟨T_481, h_481, k_481, X_481, e_481, E_481, A_481, st_481⟩ := newP X_473 hEX hZW (hw _ (List.mem_of_getElem? (i := 8) rfl)) e_473 (g := (mkF m 144 #[Lv q1, Zs, Lv q2, Zs, Lv q3, Zs, Lv q4, Zs, Lv q5, Zs, Iv p6, Iv (1 : Int32), Iv (2 : Int32), Lv mi1, Zs, Lv ma1, Zs, Rv b_449, Us, Us, Us, Us, Us, Us] [(.int (2 : Int32)), (.int (2 : Int32)), (.ref b_473), (.ref b_473)])) rfl (hb hBY at_144) rfl (by decide) (cap := 2) (by decide) (by decide) (by decide) (by decide)
    obtain ⟨b_481, g_481⟩ : ∃ z, z = h_473.size := ⟨_, rfl⟩
    rw [← g_481] at A_481 st_481
    have sz_b_481 : h0.size ≤ b_481 := Nat.le_trans K__474.1 (Nat.le_of_eq g_481.symm)
    have ge_b_481 : n0 ≤ b_481 := Nat.le_trans Z0 sz_b_481
    have ne_b_449_b_481 : b_449 ≠ b_481 := Nat.ne_of_lt (Nat.lt_of_lt_of_le f_475.lt (Nat.le_of_eq g_481.symm))
    have ne_b_473_b_481 : b_473 ≠ b_481 := Nat.ne_of_lt (Nat.lt_of_lt_of_le f_476.lt (Nat.le_of_eq g_481.symm))
    have K__482 : Keep h0 h_481 [] := K__474.ext E_481
    have f_483 : Arv Z h_481 b_449 k_449 .long (4 : Int32) [(.long q2), (.long q1), (.long q1), (.long q2)] (.long (0 : Int64)) := f_475.ext E_481
    have f_484 : Exa Z h_481 b_473 "com/example/pointcell/pointcell/Leaf" := f_476.ext E_481
    have f_485 : Fld Z h_481 b_473 "com/example/pointcell/pointcell/Leaf" "dimensions" "I" (.int (0 : Int32)) := f_477.ext E_481
    have f_486 : Fld Z h_481 b_473 "com/example/pointcell/pointcell/Leaf" "docIds" "[I" .null := f_478.ext E_481
    have f_487 : Fld Z h_481 b_473 "com/example/pointcell/pointcell/Leaf" "keys" "[J" .null := f_479.ext E_481
    have f_488 : Arv Z h_481 b_481 k_481 .int (2 : Int32) [(.int (0 : Int32)), (.int (0 : Int32))] (.int (0 : Int32)) := (Arv.new A_481 (by decide)).pad (pad_rep [] (.int (0 : Int32)) 2)
    refine Done.pre st_481 ?_
    show Done _ _ _ _ _ _ _ (T_481.setTop (mkF m 146 #[Lv q1, Zs, Lv q2, Zs, Lv q3, Zs, Lv q4, Zs, Lv q5, Zs, Iv p6, Iv (1 : Int32), Iv (2 : Int32), Lv mi1, Zs, Lv ma1, Zs, Rv b_449, Us, Us, Us, Us, Us, Us] [(.ref b_481), (.int (2 : Int32)), (.ref b_473), (.ref b_473)]))
    have sg_490 : ∀ tt_, Steps p.tables e below (T_481.setTop (mkF m 149 #[Lv q1, Zs, Lv q2, Zs, Lv q3, Zs, Lv q4, Zs, Lv q5, Zs, Iv p6, Iv (1 : Int32), Iv (2 : Int32), Lv mi1, Zs, Lv ma1, Zs, Rv b_449, Us, Us, Us, Us, Us, Us] [(.int (0 : Int32)), (.int (0 : Int32)), (.ref b_481), (.ref b_481), (.int (2 : Int32)), (.ref b_473), (.ref b_473)])) tt_ → Steps p.tables e below (T_481.setTop (mkF m 146 #[Lv q1, Zs, Lv q2, Zs, Lv q3, Zs, Lv q4, Zs, Lv q5, Zs, Iv p6, Iv (1 : Int32), Iv (2 : Int32), Lv mi1, Zs, Lv ma1, Zs, Rv b_449, Us, Us, Us, Us, Us, Us] [(.ref b_481), (.int (2 : Int32)), (.ref b_473), (.ref b_473)])) tt_ := by
      intro tt_ kt_
      refine XS.dup X_481.here hEX rfl (hb hBY at_146) rfl rfl ?_
      show Steps p.tables e below (T_481.setTop (mkF m 147 #[Lv q1, Zs, Lv q2, Zs, Lv q3, Zs, Lv q4, Zs, Lv q5, Zs, Iv p6, Iv (1 : Int32), Iv (2 : Int32), Lv mi1, Zs, Lv ma1, Zs, Rv b_449, Us, Us, Us, Us, Us, Us] [(.ref b_481), (.ref b_481), (.int (2 : Int32)), (.ref b_473), (.ref b_473)])) tt_
      refine XS.iconst X_481.here hEX rfl (hb hBY at_147) ?_
      show Steps p.tables e below (T_481.setTop (mkF m 148 #[Lv q1, Zs, Lv q2, Zs, Lv q3, Zs, Lv q4, Zs, Lv q5, Zs, Iv p6, Iv (1 : Int32), Iv (2 : Int32), Lv mi1, Zs, Lv ma1, Zs, Rv b_449, Us, Us, Us, Us, Us, Us] [(.int (0 : Int32)), (.ref b_481), (.ref b_481), (.int (2 : Int32)), (.ref b_473), (.ref b_473)])) tt_
      refine XS.iconst X_481.here hEX rfl (hb hBY at_148) ?_
      exact kt_
    refine Done.pre sg_490 ?_
    obtain ⟨cl_489, Ar_489, q_489, S_489, N__489, H_489, G_489⟩ := id f_488
    have hin_489 : ¬ ((0 : Int32) < 0 ∨ cl_489.slots.size ≤ ((0 : Int32)).toNatClampNeg) := inb_of S_489 ⟨by decide, by decide⟩
    obtain ⟨T_491, h_491, X_491, e_491, W_491, st_491⟩ := stI X_481 hEX hZW e_481 Ar_489 (j := (0 : Int32)) hin_489 (g := (mkF m 149 #[Lv q1, Zs, Lv q2, Zs, Lv q3, Zs, Lv q4, Zs, Lv q5, Zs, Iv p6, Iv (1 : Int32), Iv (2 : Int32), Lv mi1, Zs, Lv ma1, Zs, Rv b_449, Us, Us, Us, Us, Us, Us] [(.int (0 : Int32)), (.int (0 : Int32)), (.ref b_481), (.ref b_481), (.int (2 : Int32)), (.ref b_473), (.ref b_473)])) rfl rfl (hb hBY at_149)
    have N_491 := Fr.snoc X_491 N_469 ge_b_481
    have K__492 : Keep h0 h_491 [] := K__482.wr W_491 (Or.inr sz_b_481)
    have f_493 : Arv Z h_491 b_449 k_449 .long (4 : Int32) [(.long q2), (.long q1), (.long q1), (.long q2)] (.long (0 : Int64)) := f_483.other W_491 ne_b_449_b_481
    have f_494 : Exa Z h_491 b_473 "com/example/pointcell/pointcell/Leaf" := f_484.wr W_491
    have f_495 : Fld Z h_491 b_473 "com/example/pointcell/pointcell/Leaf" "dimensions" "I" (.int (0 : Int32)) := f_485.other W_491 (Or.inl ne_b_473_b_481)
    have f_496 : Fld Z h_491 b_473 "com/example/pointcell/pointcell/Leaf" "docIds" "[I" .null := f_486.other W_491 (Or.inl ne_b_473_b_481)
    have f_497 : Fld Z h_491 b_473 "com/example/pointcell/pointcell/Leaf" "keys" "[J" .null := f_487.other W_491 (Or.inl ne_b_473_b_481)
    have f_498 : Arv Z h_491 b_481 k_481 .int (2 : Int32) [(.int (0 : Int32)), (.int (0 : Int32))] (.int (0 : Int32)) := Arv.set Ar_489 q_489 S_489 N__489 H_489 G_489 rfl W_491 0 rfl (Nat.le_of_ble_eq_true rfl)
    refine Done.pre st_491 ?_
    show Done _ _ _ _ _ _ _ (T_491.setTop (mkF m 150 #[Lv q1, Zs, Lv q2, Zs, Lv q3, Zs, Lv q4, Zs, Lv q5, Zs, Iv p6, Iv (1 : Int32), Iv (2 : Int32), Lv mi1, Zs, Lv ma1, Zs, Rv b_449, Us, Us, Us, Us, Us, Us] [(.ref b_481), (.int (2 : Int32)), (.ref b_473), (.ref b_473)]))
    have sg_500 : ∀ tt_, Steps p.tables e below (T_491.setTop (mkF m 153 #[Lv q1, Zs, Lv q2, Zs, Lv q3, Zs, Lv q4, Zs, Lv q5, Zs, Iv p6, Iv (1 : Int32), Iv (2 : Int32), Lv mi1, Zs, Lv ma1, Zs, Rv b_449, Us, Us, Us, Us, Us, Us] [(.int (1 : Int32)), (.int (1 : Int32)), (.ref b_481), (.ref b_481), (.int (2 : Int32)), (.ref b_473), (.ref b_473)])) tt_ → Steps p.tables e below (T_491.setTop (mkF m 150 #[Lv q1, Zs, Lv q2, Zs, Lv q3, Zs, Lv q4, Zs, Lv q5, Zs, Iv p6, Iv (1 : Int32), Iv (2 : Int32), Lv mi1, Zs, Lv ma1, Zs, Rv b_449, Us, Us, Us, Us, Us, Us] [(.ref b_481), (.int (2 : Int32)), (.ref b_473), (.ref b_473)])) tt_ := by
      intro tt_ kt_
      refine XS.dup X_491.here hEX rfl (hb hBY at_150) rfl rfl ?_
      show Steps p.tables e below (T_491.setTop (mkF m 151 #[Lv q1, Zs, Lv q2, Zs, Lv q3, Zs, Lv q4, Zs, Lv q5, Zs, Iv p6, Iv (1 : Int32), Iv (2 : Int32), Lv mi1, Zs, Lv ma1, Zs, Rv b_449, Us, Us, Us, Us, Us, Us] [(.ref b_481), (.ref b_481), (.int (2 : Int32)), (.ref b_473), (.ref b_473)])) tt_
      refine XS.iconst X_491.here hEX rfl (hb hBY at_151) ?_
      show Steps p.tables e below (T_491.setTop (mkF m 152 #[Lv q1, Zs, Lv q2, Zs, Lv q3, Zs, Lv q4, Zs, Lv q5, Zs, Iv p6, Iv (1 : Int32), Iv (2 : Int32), Lv mi1, Zs, Lv ma1, Zs, Rv b_449, Us, Us, Us, Us, Us, Us] [(.int (1 : Int32)), (.ref b_481), (.ref b_481), (.int (2 : Int32)), (.ref b_473), (.ref b_473)])) tt_
      refine XS.iconst X_491.here hEX rfl (hb hBY at_152) ?_
      exact kt_
    refine Done.pre sg_500 ?_
    obtain ⟨cl_499, Ar_499, q_499, S_499, N__499, H_499, G_499⟩ := id f_498
    have hin_499 : ¬ ((1 : Int32) < 0 ∨ cl_499.slots.size ≤ ((1 : Int32)).toNatClampNeg) := inb_of S_499 ⟨by decide, by decide⟩
    obtain ⟨T_501, h_501, X_501, e_501, W_501, st_501⟩ := stI X_491 hEX hZW e_491 Ar_499 (j := (1 : Int32)) hin_499 (g := (mkF m 153 #[Lv q1, Zs, Lv q2, Zs, Lv q3, Zs, Lv q4, Zs, Lv q5, Zs, Iv p6, Iv (1 : Int32), Iv (2 : Int32), Lv mi1, Zs, Lv ma1, Zs, Rv b_449, Us, Us, Us, Us, Us, Us] [(.int (1 : Int32)), (.int (1 : Int32)), (.ref b_481), (.ref b_481), (.int (2 : Int32)), (.ref b_473), (.ref b_473)])) rfl rfl (hb hBY at_153)
    have N_501 := Fr.snoc X_501 N_491 ge_b_481
    have K__502 : Keep h0 h_501 [] := K__492.wr W_501 (Or.inr sz_b_481)
    have f_503 : Arv Z h_501 b_449 k_449 .long (4 : Int32) [(.long q2), (.long q1), (.long q1), (.long q2)] (.long (0 : Int64)) := f_493.other W_501 ne_b_449_b_481
    have f_504 : Exa Z h_501 b_473 "com/example/pointcell/pointcell/Leaf" := f_494.wr W_501
    have f_505 : Fld Z h_501 b_473 "com/example/pointcell/pointcell/Leaf" "dimensions" "I" (.int (0 : Int32)) := f_495.other W_501 (Or.inl ne_b_473_b_481)
    have f_506 : Fld Z h_501 b_473 "com/example/pointcell/pointcell/Leaf" "docIds" "[I" .null := f_496.other W_501 (Or.inl ne_b_473_b_481)
    have f_507 : Fld Z h_501 b_473 "com/example/pointcell/pointcell/Leaf" "keys" "[J" .null := f_497.other W_501 (Or.inl ne_b_473_b_481)
    have f_508 : Arv Z h_501 b_481 k_481 .int (2 : Int32) [(.int (0 : Int32)), (.int (1 : Int32))] (.int (0 : Int32)) := Arv.set Ar_499 q_499 S_499 N__499 H_499 G_499 rfl W_501 1 rfl (Nat.le_of_ble_eq_true rfl)
    refine Done.pre st_501 ?_
    show Done _ _ _ _ _ _ _ (T_501.setTop (mkF m 154 #[Lv q1, Zs, Lv q2, Zs, Lv q3, Zs, Lv q4, Zs, Lv q5, Zs, Iv p6, Iv (1 : Int32), Iv (2 : Int32), Lv mi1, Zs, Lv ma1, Zs, Rv b_449, Us, Us, Us, Us, Us, Us] [(.ref b_481), (.int (2 : Int32)), (.ref b_473), (.ref b_473)]))
    have sg_509 : ∀ tt_, Steps p.tables e below (T_501.setTop (mkF m 156 #[Lv q1, Zs, Lv q2, Zs, Lv q3, Zs, Lv q4, Zs, Lv q5, Zs, Iv p6, Iv (1 : Int32), Iv (2 : Int32), Lv mi1, Zs, Lv ma1, Zs, Rv b_449, Us, Us, Us, Us, Us, Us] [(.ref b_449), (.ref b_481), (.int (2 : Int32)), (.ref b_473), (.ref b_473)])) tt_ → Steps p.tables e below (T_501.setTop (mkF m 154 #[Lv q1, Zs, Lv q2, Zs, Lv q3, Zs, Lv q4, Zs, Lv q5, Zs, Iv p6, Iv (1 : Int32), Iv (2 : Int32), Lv mi1, Zs, Lv ma1, Zs, Rv b_449, Us, Us, Us, Us, Us, Us] [(.ref b_481), (.int (2 : Int32)), (.ref b_473), (.ref b_473)])) tt_ := by
      intro tt_ kt_
      refine XS.aload X_501.here hEX rfl (hb hBY at_154) rfl rfl ?_
      exact kt_
    refine Done.pre sg_509 ?_
    obtain ⟨_, _, ⟨T_510, L_510, k_510, n_510⟩, -, X_510, ⟨Lc_510, hQ_510, l_510, y_510, z_510⟩, st_510⟩ := X_501.specialBack hEX (y := (⟨"com/example/pointcell/pointcell/Leaf", "<init>", "(I[I[J)V"⟩ : MethodName)) rfl hOW (mvT hZW (hw _ (List.mem_of_getElem? (i := 9) rfl))) (mvT hZW (hw _ (List.mem_of_getElem? (i := 10) rfl))) (mvT hZW (hw _ (List.mem_of_getElem? (i := 11) rfl))) (by decide) (backOf (W := 1) (rm_init l Z aZ hw [] b_473 (2 : Int32) b_481 b_449 (.int (0 : Int32)) .null .null h_501 n0 (Nat.le_trans Z0 K__502.1) f_504 f_505 f_506 f_507 ge_b_473) hZW (hw _ (List.mem_of_getElem? (i := 11) rfl)) (hw _ (List.mem_of_getElem? (i := 7) rfl)) (by decide) (by decide)) (g := (mkF m 156 #[Lv q1, Zs, Lv q2, Zs, Lv q3, Zs, Lv q4, Zs, Lv q5, Zs, Iv p6, Iv (1 : Int32), Iv (2 : Int32), Lv mi1, Zs, Lv ma1, Zs, Rv b_449, Us, Us, Us, Us, Us, Us] [(.ref b_449), (.ref b_481), (.int (2 : Int32)), (.ref b_473), (.ref b_473)])) rfl (by rw [hMX]; rfl) (Steps.refl _) (a := b_473) (argsL := [(.int (2 : Int32)), (.ref b_481), (.ref b_449)]) (rest := [(.ref b_473)]) (lenOf pd__I_I_J_V_2 rfl) rfl (by show 2 * 0 + _ ≤ _; exact Nat.le_of_eq rfl) (hb hBY at_156) (fun _ _ => ⟨rfl, e_501, (by decide : 3 + 0 ≤ _), (by decide : 9 + 0 ≤ _)⟩)
    dsimp only [Pt.U, Pt.locs, Pt.cells, Pt.slots] at X_510 l_510 y_510 z_510 st_510 hQ_510
    subst l_510 y_510 z_510
    obtain ⟨rfl, N_510q, K_510, hq_510_0, hq_510_1, hq_510_2, hq_510_3⟩ := hQ_510
    have N_510 := Fr.app N_501 N_510q
    have K__511 : Keep h0 T_510.heap [] := K__502.trans K_510 (allS (Or.inr sz_b_473) all0)
    have f_512 : Arv Z T_510.heap b_449 k_449 .long (4 : Int32) [(.long q2), (.long q1), (.long q1), (.long q2)] (.long (0 : Int64)) := f_503.keep K_510 (ninS ne_b_449_b_473 nin0)
    have f_513 : Exa Z T_510.heap b_473 "com/example/pointcell/pointcell/Leaf" := f_504.keep K_510
    have f_514 : Arv Z T_510.heap b_481 k_481 .int (2 : Int32) [(.int (0 : Int32)), (.int (1 : Int32))] (.int (0 : Int32)) := f_508.keep K_510 (ninS (Ne.symm ne_b_473_b_481) nin0)
    refine Done.pre (fun _ k_ => st_510.trans k_) ?_
    show Done _ _ _ _ _ _ _ (T_510.setTop (mkF m 159 #[Lv q1, Zs, Lv q2, Zs, Lv q3, Zs, Lv q4, Zs, Lv q5, Zs, Iv p6, Iv (1 : Int32), Iv (2 : Int32), Lv mi1, Zs, Lv ma1, Zs, Rv b_449, Us, Us, Us, Us, Us, Us] [(.ref b_473)]))
    have sg_515 : ∀ tt_, Steps p.tables e below (T_510.setTop (mkF m 162 #[Lv q1, Zs, Lv q2, Zs, Lv q3, Zs, Lv q4, Zs, Lv q5, Zs, Iv p6, Iv (1 : Int32), Iv (2 : Int32), Lv mi1, Zs, Lv ma1, Zs, Rv b_449, Rv b_473, Us, Us, Us, Us, Us] [(.int (2 : Int32))])) tt_ → Steps p.tables e below (T_510.setTop (mkF m 159 #[Lv q1, Zs, Lv q2, Zs, Lv q3, Zs, Lv q4, Zs, Lv q5, Zs, Iv p6, Iv (1 : Int32), Iv (2 : Int32), Lv mi1, Zs, Lv ma1, Zs, Rv b_449, Us, Us, Us, Us, Us, Us] [(.ref b_473)])) tt_ := by
      intro tt_ kt_
      refine XS.astore X_510.here hEX rfl (hb hBY at_159) rfl rfl (l' := #[Lv q1, Zs, Lv q2, Zs, Lv q3, Zs, Lv q4, Zs, Lv q5, Zs, Iv p6, Iv (1 : Int32), Iv (2 : Int32), Lv mi1, Zs, Lv ma1, Zs, Rv b_449, Rv b_473, Us, Us, Us, Us, Us]) rfl ?_
      show Steps p.tables e below (T_510.setTop (mkF m 161 #[Lv q1, Zs, Lv q2, Zs, Lv q3, Zs, Lv q4, Zs, Lv q5, Zs, Iv p6, Iv (1 : Int32), Iv (2 : Int32), Lv mi1, Zs, Lv ma1, Zs, Rv b_449, Rv b_473, Us, Us, Us, Us, Us] [])) tt_
      refine XS.iconst X_510.here hEX rfl (hb hBY at_161) ?_
      exact kt_
    refine Done.pre sg_515 ?_
    obtain ⟨T_516, h_516, k_516, X_516, e_516, E_516, A_516, st_516⟩ := newP X_510 hEX hZW (hw _ (List.mem_of_getElem? (i := 4) rfl)) rfl (g := (mkF m 162 #[Lv q1, Zs, Lv q2, Zs, Lv q3, Zs, Lv q4, Zs, Lv q5, Zs, Iv p6, Iv (1 : Int32), Iv (2 : Int32), Lv mi1, Zs, Lv ma1, Zs, Rv b_449, Rv b_473, Us, Us, Us, Us, Us] [(.int (2 : Int32))])) rfl (hb hBY at_162) rfl (by decide) (cap := 2) (by decide) (by decide) (by decide) (by decide)
    obtain ⟨b_516, g_516⟩ : ∃ z, z = T_510.heap.size := ⟨_, rfl⟩
    rw [← g_516] at A_516 st_516
    have sz_b_516 : h0.size ≤ b_516 := Nat.le_trans K__511.1 (Nat.le_of_eq g_516.symm)
    have ge_b_516 : n0 ≤ b_516 := Nat.le_trans Z0 sz_b_516
    have ne_b_449_b_516 : b_449 ≠ b_516 := Nat.ne_of_lt (Nat.lt_of_lt_of_le f_512.lt (Nat.le_of_eq g_516.symm))
    have ne_b_473_b_516 : b_473 ≠ b_516 := Nat.ne_of_lt (Nat.lt_of_lt_of_le hq_510_0.lt (Nat.le_of_eq g_516.symm))
    have ne_b_481_b_516 : b_481 ≠ b_516 := Nat.ne_of_lt (Nat.lt_of_lt_of_le f_514.lt (Nat.le_of_eq g_516.symm))
    have K__517 : Keep h0 h_516 [] := K__511.ext E_516
    have f_518 : Arv Z h_516 b_449 k_449 .long (4 : Int32) [(.long q2), (.long q1), (.long q1), (.long q2)] (.long (0 : Int64)) := f_512.ext E_516
    have f_519 : Exa Z h_516 b_473 "com/example/pointcell/pointcell/Leaf" := hq_510_0.ext E_516
    have f_520 : Arv Z h_516 b_481 k_481 .int (2 : Int32) [(.int (0 : Int32)), (.int (1 : Int32))] (.int (0 : Int32)) := f_514.ext E_516
    have f_521 : Fld Z h_516 b_473 "com/example/pointcell/pointcell/Leaf" "dimensions" "I" (.int (2 : Int32)) := hq_510_1.ext E_516
    have f_522 : Fld Z h_516 b_473 "com/example/pointcell/pointcell/Leaf" "docIds" "[I" (.ref b_481) := hq_510_2.ext E_516
    have f_523 : Fld Z h_516 b_473 "com/example/pointcell/pointcell/Leaf" "keys" "[J" (.ref b_449) := hq_510_3.ext E_516
    have f_524 : Arv Z h_516 b_516 k_516 .long (2 : Int32) [(.long (0 : Int64)), (.long (0 : Int64))] (.long (0 : Int64)) := (Arv.new A_516 (by decide)).pad (pad_rep [] (.long (0 : Int64)) 2)
    refine Done.pre st_516 ?_
    show Done _ _ _ _ _ _ _ (T_516.setTop (mkF m 164 #[Lv q1, Zs, Lv q2, Zs, Lv q3, Zs, Lv q4, Zs, Lv q5, Zs, Iv p6, Iv (1 : Int32), Iv (2 : Int32), Lv mi1, Zs, Lv ma1, Zs, Rv b_449, Rv b_473, Us, Us, Us, Us, Us] [(.ref b_516)]))
    have sg_526 : ∀ tt_, Steps p.tables e below (T_516.setTop (mkF m 168 #[Lv q1, Zs, Lv q2, Zs, Lv q3, Zs, Lv q4, Zs, Lv q5, Zs, Iv p6, Iv (1 : Int32), Iv (2 : Int32), Lv mi1, Zs, Lv ma1, Zs, Rv b_449, Rv b_473, Us, Us, Us, Us, Us] [(.long q3), (.int (0 : Int32)), (.ref b_516), (.ref b_516)])) tt_ → Steps p.tables e below (T_516.setTop (mkF m 164 #[Lv q1, Zs, Lv q2, Zs, Lv q3, Zs, Lv q4, Zs, Lv q5, Zs, Iv p6, Iv (1 : Int32), Iv (2 : Int32), Lv mi1, Zs, Lv ma1, Zs, Rv b_449, Rv b_473, Us, Us, Us, Us, Us] [(.ref b_516)])) tt_ := by
      intro tt_ kt_
      refine XS.dup X_516.here hEX rfl (hb hBY at_164) rfl rfl ?_
      show Steps p.tables e below (T_516.setTop (mkF m 165 #[Lv q1, Zs, Lv q2, Zs, Lv q3, Zs, Lv q4, Zs, Lv q5, Zs, Iv p6, Iv (1 : Int32), Iv (2 : Int32), Lv mi1, Zs, Lv ma1, Zs, Rv b_449, Rv b_473, Us, Us, Us, Us, Us] [(.ref b_516), (.ref b_516)])) tt_
      refine XS.iconst X_516.here hEX rfl (hb hBY at_165) ?_
      show Steps p.tables e below (T_516.setTop (mkF m 166 #[Lv q1, Zs, Lv q2, Zs, Lv q3, Zs, Lv q4, Zs, Lv q5, Zs, Iv p6, Iv (1 : Int32), Iv (2 : Int32), Lv mi1, Zs, Lv ma1, Zs, Rv b_449, Rv b_473, Us, Us, Us, Us, Us] [(.int (0 : Int32)), (.ref b_516), (.ref b_516)])) tt_
      refine XS.lload X_516.here hEX rfl (hb hBY at_166) rfl ?_
      exact kt_
    refine Done.pre sg_526 ?_
    obtain ⟨cl_525, Ar_525, q_525, S_525, N__525, H_525, G_525⟩ := id f_524
    have hin_525 : ¬ ((0 : Int32) < 0 ∨ cl_525.slots.size ≤ ((0 : Int32)).toNatClampNeg) := inb_of S_525 ⟨by decide, by decide⟩
    obtain ⟨T_527, h_527, X_527, e_527, W_527, st_527⟩ := stJ X_516 hEX hZW e_516 Ar_525 (j := (0 : Int32)) hin_525 (g := (mkF m 168 #[Lv q1, Zs, Lv q2, Zs, Lv q3, Zs, Lv q4, Zs, Lv q5, Zs, Iv p6, Iv (1 : Int32), Iv (2 : Int32), Lv mi1, Zs, Lv ma1, Zs, Rv b_449, Rv b_473, Us, Us, Us, Us, Us] [(.long q3), (.int (0 : Int32)), (.ref b_516), (.ref b_516)])) rfl rfl (hb hBY at_168)
    have N_527 := Fr.snoc X_527 N_510 ge_b_516
    have K__528 : Keep h0 h_527 [] := K__517.wr W_527 (Or.inr sz_b_516)
    have f_529 : Arv Z h_527 b_449 k_449 .long (4 : Int32) [(.long q2), (.long q1), (.long q1), (.long q2)] (.long (0 : Int64)) := f_518.other W_527 ne_b_449_b_516
    have f_530 : Exa Z h_527 b_473 "com/example/pointcell/pointcell/Leaf" := f_519.wr W_527
    have f_531 : Arv Z h_527 b_481 k_481 .int (2 : Int32) [(.int (0 : Int32)), (.int (1 : Int32))] (.int (0 : Int32)) := f_520.other W_527 ne_b_481_b_516
    have f_532 : Fld Z h_527 b_473 "com/example/pointcell/pointcell/Leaf" "dimensions" "I" (.int (2 : Int32)) := f_521.other W_527 (Or.inl ne_b_473_b_516)
    have f_533 : Fld Z h_527 b_473 "com/example/pointcell/pointcell/Leaf" "docIds" "[I" (.ref b_481) := f_522.other W_527 (Or.inl ne_b_473_b_516)
    have f_534 : Fld Z h_527 b_473 "com/example/pointcell/pointcell/Leaf" "keys" "[J" (.ref b_449) := f_523.other W_527 (Or.inl ne_b_473_b_516)
    have f_535 : Arv Z h_527 b_516 k_516 .long (2 : Int32) [(.long q3), (.long (0 : Int64))] (.long (0 : Int64)) := Arv.set Ar_525 q_525 S_525 N__525 H_525 G_525 rfl W_527 0 rfl (Nat.le_of_ble_eq_true rfl)
    refine Done.pre st_527 ?_
    show Done _ _ _ _ _ _ _ (T_527.setTop (mkF m 169 #[Lv q1, Zs, Lv q2, Zs, Lv q3, Zs, Lv q4, Zs, Lv q5, Zs, Iv p6, Iv (1 : Int32), Iv (2 : Int32), Lv mi1, Zs, Lv ma1, Zs, Rv b_449, Rv b_473, Us, Us, Us, Us, Us] [(.ref b_516)]))
    have sg_537 : ∀ tt_, Steps p.tables e below (T_527.setTop (mkF m 173 #[Lv q1, Zs, Lv q2, Zs, Lv q3, Zs, Lv q4, Zs, Lv q5, Zs, Iv p6, Iv (1 : Int32), Iv (2 : Int32), Lv mi1, Zs, Lv ma1, Zs, Rv b_449, Rv b_473, Us, Us, Us, Us, Us] [(.long mi1), (.int (1 : Int32)), (.ref b_516), (.ref b_516)])) tt_ → Steps p.tables e below (T_527.setTop (mkF m 169 #[Lv q1, Zs, Lv q2, Zs, Lv q3, Zs, Lv q4, Zs, Lv q5, Zs, Iv p6, Iv (1 : Int32), Iv (2 : Int32), Lv mi1, Zs, Lv ma1, Zs, Rv b_449, Rv b_473, Us, Us, Us, Us, Us] [(.ref b_516)])) tt_ := by
      intro tt_ kt_
      refine XS.dup X_527.here hEX rfl (hb hBY at_169) rfl rfl ?_
      show Steps p.tables e below (T_527.setTop (mkF m 170 #[Lv q1, Zs, Lv q2, Zs, Lv q3, Zs, Lv q4, Zs, Lv q5, Zs, Iv p6, Iv (1 : Int32), Iv (2 : Int32), Lv mi1, Zs, Lv ma1, Zs, Rv b_449, Rv b_473, Us, Us, Us, Us, Us] [(.ref b_516), (.ref b_516)])) tt_
      refine XS.iconst X_527.here hEX rfl (hb hBY at_170) ?_
      show Steps p.tables e below (T_527.setTop (mkF m 171 #[Lv q1, Zs, Lv q2, Zs, Lv q3, Zs, Lv q4, Zs, Lv q5, Zs, Iv p6, Iv (1 : Int32), Iv (2 : Int32), Lv mi1, Zs, Lv ma1, Zs, Rv b_449, Rv b_473, Us, Us, Us, Us, Us] [(.int (1 : Int32)), (.ref b_516), (.ref b_516)])) tt_
      refine XS.lload X_527.here hEX rfl (hb hBY at_171) rfl ?_
      exact kt_
    refine Done.pre sg_537 ?_
    obtain ⟨cl_536, Ar_536, q_536, S_536, N__536, H_536, G_536⟩ := id f_535
    have hin_536 : ¬ ((1 : Int32) < 0 ∨ cl_536.slots.size ≤ ((1 : Int32)).toNatClampNeg) := inb_of S_536 ⟨by decide, by decide⟩
    obtain ⟨T_538, h_538, X_538, e_538, W_538, st_538⟩ := stJ X_527 hEX hZW e_527 Ar_536 (j := (1 : Int32)) hin_536 (g := (mkF m 173 #[Lv q1, Zs, Lv q2, Zs, Lv q3, Zs, Lv q4, Zs, Lv q5, Zs, Iv p6, Iv (1 : Int32), Iv (2 : Int32), Lv mi1, Zs, Lv ma1, Zs, Rv b_449, Rv b_473, Us, Us, Us, Us, Us] [(.long mi1), (.int (1 : Int32)), (.ref b_516), (.ref b_516)])) rfl rfl (hb hBY at_173)
    have N_538 := Fr.snoc X_538 N_527 ge_b_516
    have K__539 : Keep h0 h_538 [] := K__528.wr W_538 (Or.inr sz_b_516)
    have f_540 : Arv Z h_538 b_449 k_449 .long (4 : Int32) [(.long q2), (.long q1), (.long q1), (.long q2)] (.long (0 : Int64)) := f_529.other W_538 ne_b_449_b_516
    have f_541 : Exa Z h_538 b_473 "com/example/pointcell/pointcell/Leaf" := f_530.wr W_538
    have f_542 : Arv Z h_538 b_481 k_481 .int (2 : Int32) [(.int (0 : Int32)), (.int (1 : Int32))] (.int (0 : Int32)) := f_531.other W_538 ne_b_481_b_516
    have f_543 : Fld Z h_538 b_473 "com/example/pointcell/pointcell/Leaf" "dimensions" "I" (.int (2 : Int32)) := f_532.other W_538 (Or.inl ne_b_473_b_516)
    have f_544 : Fld Z h_538 b_473 "com/example/pointcell/pointcell/Leaf" "docIds" "[I" (.ref b_481) := f_533.other W_538 (Or.inl ne_b_473_b_516)
    have f_545 : Fld Z h_538 b_473 "com/example/pointcell/pointcell/Leaf" "keys" "[J" (.ref b_449) := f_534.other W_538 (Or.inl ne_b_473_b_516)
    have f_546 : Arv Z h_538 b_516 k_516 .long (2 : Int32) [(.long q3), (.long mi1)] (.long (0 : Int64)) := Arv.set Ar_536 q_536 S_536 N__536 H_536 G_536 rfl W_538 1 rfl (Nat.le_of_ble_eq_true rfl)
    refine Done.pre st_538 ?_
    show Done _ _ _ _ _ _ _ (T_538.setTop (mkF m 174 #[Lv q1, Zs, Lv q2, Zs, Lv q3, Zs, Lv q4, Zs, Lv q5, Zs, Iv p6, Iv (1 : Int32), Iv (2 : Int32), Lv mi1, Zs, Lv ma1, Zs, Rv b_449, Rv b_473, Us, Us, Us, Us, Us] [(.ref b_516)]))
    have sg_547 : ∀ tt_, Steps p.tables e below (T_538.setTop (mkF m 177 #[Lv q1, Zs, Lv q2, Zs, Lv q3, Zs, Lv q4, Zs, Lv q5, Zs, Iv p6, Iv (1 : Int32), Iv (2 : Int32), Lv mi1, Zs, Lv ma1, Zs, Rv b_449, Rv b_473, Rv b_516, Us, Us, Us, Us] [(.int (2 : Int32))])) tt_ → Steps p.tables e below (T_538.setTop (mkF m 174 #[Lv q1, Zs, Lv q2, Zs, Lv q3, Zs, Lv q4, Zs, Lv q5, Zs, Iv p6, Iv (1 : Int32), Iv (2 : Int32), Lv mi1, Zs, Lv ma1, Zs, Rv b_449, Rv b_473, Us, Us, Us, Us, Us] [(.ref b_516)])) tt_ := by
      intro tt_ kt_
      refine XS.astore X_538.here hEX rfl (hb hBY at_174) rfl rfl (l' := #[Lv q1, Zs, Lv q2, Zs, Lv q3, Zs, Lv q4, Zs, Lv q5, Zs, Iv p6, Iv (1 : Int32), Iv (2 : Int32), Lv mi1, Zs, Lv ma1, Zs, Rv b_449, Rv b_473, Rv b_516, Us, Us, Us, Us]) rfl ?_
      show Steps p.tables e below (T_538.setTop (mkF m 176 #[Lv q1, Zs, Lv q2, Zs, Lv q3, Zs, Lv q4, Zs, Lv q5, Zs, Iv p6, Iv (1 : Int32), Iv (2 : Int32), Lv mi1, Zs, Lv ma1, Zs, Rv b_449, Rv b_473, Rv b_516, Us, Us, Us, Us] [])) tt_
      refine XS.iconst X_538.here hEX rfl (hb hBY at_176) ?_
      exact kt_
    refine Done.pre sg_547 ?_
    obtain ⟨T_548, h_548, k_548, X_548, e_548, E_548, A_548, st_548⟩ := newP X_538 hEX hZW (hw _ (List.mem_of_getElem? (i := 4) rfl)) e_538 (g := (mkF m 177 #[Lv q1, Zs, Lv q2, Zs, Lv q3, Zs, Lv q4, Zs, Lv q5, Zs, Iv p6, Iv (1 : Int32), Iv (2 : Int32), Lv mi1, Zs, Lv ma1, Zs, Rv b_449, Rv b_473, Rv b_516, Us, Us, Us, Us] [(.int (2 : Int32))])) rfl (hb hBY at_177) rfl (by decide) (cap := 2) (by decide) (by decide) (by decide) (by decide)
    obtain ⟨b_548, g_548⟩ : ∃ z, z = h_538.size := ⟨_, rfl⟩
    rw [← g_548] at A_548 st_548
    have sz_b_548 : h0.size ≤ b_548 := Nat.le_trans K__539.1 (Nat.le_of_eq g_548.symm)
    have ge_b_548 : n0 ≤ b_548 := Nat.le_trans Z0 sz_b_548
    have ne_b_449_b_548 : b_449 ≠ b_548 := Nat.ne_of_lt (Nat.lt_of_lt_of_le f_540.lt (Nat.le_of_eq g_548.symm))
    have ne_b_473_b_548 : b_473 ≠ b_548 := Nat.ne_of_lt (Nat.lt_of_lt_of_le f_541.lt (Nat.le_of_eq g_548.symm))
    have ne_b_481_b_548 : b_481 ≠ b_548 := Nat.ne_of_lt (Nat.lt_of_lt_of_le f_542.lt (Nat.le_of_eq g_548.symm))
    have ne_b_516_b_548 : b_516 ≠ b_548 := Nat.ne_of_lt (Nat.lt_of_lt_of_le f_546.lt (Nat.le_of_eq g_548.symm))
    have K__549 : Keep h0 h_548 [] := K__539.ext E_548
    have f_550 : Arv Z h_548 b_449 k_449 .long (4 : Int32) [(.long q2), (.long q1), (.long q1), (.long q2)] (.long (0 : Int64)) := f_540.ext E_548
    have f_551 : Exa Z h_548 b_473 "com/example/pointcell/pointcell/Leaf" := f_541.ext E_548
    have f_552 : Arv Z h_548 b_481 k_481 .int (2 : Int32) [(.int (0 : Int32)), (.int (1 : Int32))] (.int (0 : Int32)) := f_542.ext E_548
    have f_553 : Fld Z h_548 b_473 "com/example/pointcell/pointcell/Leaf" "dimensions" "I" (.int (2 : Int32)) := f_543.ext E_548
    have f_554 : Fld Z h_548 b_473 "com/example/pointcell/pointcell/Leaf" "docIds" "[I" (.ref b_481) := f_544.ext E_548
    have f_555 : Fld Z h_548 b_473 "com/example/pointcell/pointcell/Leaf" "keys" "[J" (.ref b_449) := f_545.ext E_548
    have f_556 : Arv Z h_548 b_516 k_516 .long (2 : Int32) [(.long q3), (.long mi1)] (.long (0 : Int64)) := f_546.ext E_548
    have f_557 : Arv Z h_548 b_548 k_548 .long (2 : Int32) [(.long (0 : Int64)), (.long (0 : Int64))] (.long (0 : Int64)) := (Arv.new A_548 (by decide)).pad (pad_rep [] (.long (0 : Int64)) 2)
    refine Done.pre st_548 ?_
    show Done _ _ _ _ _ _ _ (T_548.setTop (mkF m 179 #[Lv q1, Zs, Lv q2, Zs, Lv q3, Zs, Lv q4, Zs, Lv q5, Zs, Iv p6, Iv (1 : Int32), Iv (2 : Int32), Lv mi1, Zs, Lv ma1, Zs, Rv b_449, Rv b_473, Rv b_516, Us, Us, Us, Us] [(.ref b_548)]))
    have sg_559 : ∀ tt_, Steps p.tables e below (T_548.setTop (mkF m 183 #[Lv q1, Zs, Lv q2, Zs, Lv q3, Zs, Lv q4, Zs, Lv q5, Zs, Iv p6, Iv (1 : Int32), Iv (2 : Int32), Lv mi1, Zs, Lv ma1, Zs, Rv b_449, Rv b_473, Rv b_516, Us, Us, Us, Us] [(.long q4), (.int (0 : Int32)), (.ref b_548), (.ref b_548)])) tt_ → Steps p.tables e below (T_548.setTop (mkF m 179 #[Lv q1, Zs, Lv q2, Zs, Lv q3, Zs, Lv q4, Zs, Lv q5, Zs, Iv p6, Iv (1 : Int32), Iv (2 : Int32), Lv mi1, Zs, Lv ma1, Zs, Rv b_449, Rv b_473, Rv b_516, Us, Us, Us, Us] [(.ref b_548)])) tt_ := by
      intro tt_ kt_
      refine XS.dup X_548.here hEX rfl (hb hBY at_179) rfl rfl ?_
      show Steps p.tables e below (T_548.setTop (mkF m 180 #[Lv q1, Zs, Lv q2, Zs, Lv q3, Zs, Lv q4, Zs, Lv q5, Zs, Iv p6, Iv (1 : Int32), Iv (2 : Int32), Lv mi1, Zs, Lv ma1, Zs, Rv b_449, Rv b_473, Rv b_516, Us, Us, Us, Us] [(.ref b_548), (.ref b_548)])) tt_
      refine XS.iconst X_548.here hEX rfl (hb hBY at_180) ?_
      show Steps p.tables e below (T_548.setTop (mkF m 181 #[Lv q1, Zs, Lv q2, Zs, Lv q3, Zs, Lv q4, Zs, Lv q5, Zs, Iv p6, Iv (1 : Int32), Iv (2 : Int32), Lv mi1, Zs, Lv ma1, Zs, Rv b_449, Rv b_473, Rv b_516, Us, Us, Us, Us] [(.int (0 : Int32)), (.ref b_548), (.ref b_548)])) tt_
      refine XS.lload X_548.here hEX rfl (hb hBY at_181) rfl ?_
      exact kt_
    refine Done.pre sg_559 ?_
    obtain ⟨cl_558, Ar_558, q_558, S_558, N__558, H_558, G_558⟩ := id f_557
    have hin_558 : ¬ ((0 : Int32) < 0 ∨ cl_558.slots.size ≤ ((0 : Int32)).toNatClampNeg) := inb_of S_558 ⟨by decide, by decide⟩
    obtain ⟨T_560, h_560, X_560, e_560, W_560, st_560⟩ := stJ X_548 hEX hZW e_548 Ar_558 (j := (0 : Int32)) hin_558 (g := (mkF m 183 #[Lv q1, Zs, Lv q2, Zs, Lv q3, Zs, Lv q4, Zs, Lv q5, Zs, Iv p6, Iv (1 : Int32), Iv (2 : Int32), Lv mi1, Zs, Lv ma1, Zs, Rv b_449, Rv b_473, Rv b_516, Us, Us, Us, Us] [(.long q4), (.int (0 : Int32)), (.ref b_548), (.ref b_548)])) rfl rfl (hb hBY at_183)
    have N_560 := Fr.snoc X_560 N_538 ge_b_548
    have K__561 : Keep h0 h_560 [] := K__549.wr W_560 (Or.inr sz_b_548)
    have f_562 : Arv Z h_560 b_449 k_449 .long (4 : Int32) [(.long q2), (.long q1), (.long q1), (.long q2)] (.long (0 : Int64)) := f_550.other W_560 ne_b_449_b_548
    have f_563 : Exa Z h_560 b_473 "com/example/pointcell/pointcell/Leaf" := f_551.wr W_560
    have f_564 : Arv Z h_560 b_481 k_481 .int (2 : Int32) [(.int (0 : Int32)), (.int (1 : Int32))] (.int (0 : Int32)) := f_552.other W_560 ne_b_481_b_548
    have f_565 : Fld Z h_560 b_473 "com/example/pointcell/pointcell/Leaf" "dimensions" "I" (.int (2 : Int32)) := f_553.other W_560 (Or.inl ne_b_473_b_548)
    have f_566 : Fld Z h_560 b_473 "com/example/pointcell/pointcell/Leaf" "docIds" "[I" (.ref b_481) := f_554.other W_560 (Or.inl ne_b_473_b_548)
    have f_567 : Fld Z h_560 b_473 "com/example/pointcell/pointcell/Leaf" "keys" "[J" (.ref b_449) := f_555.other W_560 (Or.inl ne_b_473_b_548)
    have f_568 : Arv Z h_560 b_516 k_516 .long (2 : Int32) [(.long q3), (.long mi1)] (.long (0 : Int64)) := f_556.other W_560 ne_b_516_b_548
    have f_569 : Arv Z h_560 b_548 k_548 .long (2 : Int32) [(.long q4), (.long (0 : Int64))] (.long (0 : Int64)) := Arv.set Ar_558 q_558 S_558 N__558 H_558 G_558 rfl W_560 0 rfl (Nat.le_of_ble_eq_true rfl)
    refine Done.pre st_560 ?_
    show Done _ _ _ _ _ _ _ (T_560.setTop (mkF m 184 #[Lv q1, Zs, Lv q2, Zs, Lv q3, Zs, Lv q4, Zs, Lv q5, Zs, Iv p6, Iv (1 : Int32), Iv (2 : Int32), Lv mi1, Zs, Lv ma1, Zs, Rv b_449, Rv b_473, Rv b_516, Us, Us, Us, Us] [(.ref b_548)]))
    have sg_571 : ∀ tt_, Steps p.tables e below (T_560.setTop (mkF m 188 #[Lv q1, Zs, Lv q2, Zs, Lv q3, Zs, Lv q4, Zs, Lv q5, Zs, Iv p6, Iv (1 : Int32), Iv (2 : Int32), Lv mi1, Zs, Lv ma1, Zs, Rv b_449, Rv b_473, Rv b_516, Us, Us, Us, Us] [(.long ma1), (.int (1 : Int32)), (.ref b_548), (.ref b_548)])) tt_ → Steps p.tables e below (T_560.setTop (mkF m 184 #[Lv q1, Zs, Lv q2, Zs, Lv q3, Zs, Lv q4, Zs, Lv q5, Zs, Iv p6, Iv (1 : Int32), Iv (2 : Int32), Lv mi1, Zs, Lv ma1, Zs, Rv b_449, Rv b_473, Rv b_516, Us, Us, Us, Us] [(.ref b_548)])) tt_ := by
      intro tt_ kt_
      refine XS.dup X_560.here hEX rfl (hb hBY at_184) rfl rfl ?_
      show Steps p.tables e below (T_560.setTop (mkF m 185 #[Lv q1, Zs, Lv q2, Zs, Lv q3, Zs, Lv q4, Zs, Lv q5, Zs, Iv p6, Iv (1 : Int32), Iv (2 : Int32), Lv mi1, Zs, Lv ma1, Zs, Rv b_449, Rv b_473, Rv b_516, Us, Us, Us, Us] [(.ref b_548), (.ref b_548)])) tt_
      refine XS.iconst X_560.here hEX rfl (hb hBY at_185) ?_
      show Steps p.tables e below (T_560.setTop (mkF m 186 #[Lv q1, Zs, Lv q2, Zs, Lv q3, Zs, Lv q4, Zs, Lv q5, Zs, Iv p6, Iv (1 : Int32), Iv (2 : Int32), Lv mi1, Zs, Lv ma1, Zs, Rv b_449, Rv b_473, Rv b_516, Us, Us, Us, Us] [(.int (1 : Int32)), (.ref b_548), (.ref b_548)])) tt_
      refine XS.lload X_560.here hEX rfl (hb hBY at_186) rfl ?_
      exact kt_
    refine Done.pre sg_571 ?_
    obtain ⟨cl_570, Ar_570, q_570, S_570, N__570, H_570, G_570⟩ := id f_569
    have hin_570 : ¬ ((1 : Int32) < 0 ∨ cl_570.slots.size ≤ ((1 : Int32)).toNatClampNeg) := inb_of S_570 ⟨by decide, by decide⟩
    obtain ⟨T_572, h_572, X_572, e_572, W_572, st_572⟩ := stJ X_560 hEX hZW e_560 Ar_570 (j := (1 : Int32)) hin_570 (g := (mkF m 188 #[Lv q1, Zs, Lv q2, Zs, Lv q3, Zs, Lv q4, Zs, Lv q5, Zs, Iv p6, Iv (1 : Int32), Iv (2 : Int32), Lv mi1, Zs, Lv ma1, Zs, Rv b_449, Rv b_473, Rv b_516, Us, Us, Us, Us] [(.long ma1), (.int (1 : Int32)), (.ref b_548), (.ref b_548)])) rfl rfl (hb hBY at_188)
    have N_572 := Fr.snoc X_572 N_560 ge_b_548
    have K__573 : Keep h0 h_572 [] := K__561.wr W_572 (Or.inr sz_b_548)
    have f_574 : Arv Z h_572 b_449 k_449 .long (4 : Int32) [(.long q2), (.long q1), (.long q1), (.long q2)] (.long (0 : Int64)) := f_562.other W_572 ne_b_449_b_548
    have f_575 : Exa Z h_572 b_473 "com/example/pointcell/pointcell/Leaf" := f_563.wr W_572
    have f_576 : Arv Z h_572 b_481 k_481 .int (2 : Int32) [(.int (0 : Int32)), (.int (1 : Int32))] (.int (0 : Int32)) := f_564.other W_572 ne_b_481_b_548
    have f_577 : Fld Z h_572 b_473 "com/example/pointcell/pointcell/Leaf" "dimensions" "I" (.int (2 : Int32)) := f_565.other W_572 (Or.inl ne_b_473_b_548)
    have f_578 : Fld Z h_572 b_473 "com/example/pointcell/pointcell/Leaf" "docIds" "[I" (.ref b_481) := f_566.other W_572 (Or.inl ne_b_473_b_548)
    have f_579 : Fld Z h_572 b_473 "com/example/pointcell/pointcell/Leaf" "keys" "[J" (.ref b_449) := f_567.other W_572 (Or.inl ne_b_473_b_548)
    have f_580 : Arv Z h_572 b_516 k_516 .long (2 : Int32) [(.long q3), (.long mi1)] (.long (0 : Int64)) := f_568.other W_572 ne_b_516_b_548
    have f_581 : Arv Z h_572 b_548 k_548 .long (2 : Int32) [(.long q4), (.long ma1)] (.long (0 : Int64)) := Arv.set Ar_570 q_570 S_570 N__570 H_570 G_570 rfl W_572 1 rfl (Nat.le_of_ble_eq_true rfl)
    refine Done.pre st_572 ?_
    show Done _ _ _ _ _ _ _ (T_572.setTop (mkF m 189 #[Lv q1, Zs, Lv q2, Zs, Lv q3, Zs, Lv q4, Zs, Lv q5, Zs, Iv p6, Iv (1 : Int32), Iv (2 : Int32), Lv mi1, Zs, Lv ma1, Zs, Rv b_449, Rv b_473, Rv b_516, Us, Us, Us, Us] [(.ref b_548)]))
    have sg_582 : ∀ tt_, Steps p.tables e below (T_572.setTop (mkF m 191 #[Lv q1, Zs, Lv q2, Zs, Lv q3, Zs, Lv q4, Zs, Lv q5, Zs, Iv p6, Iv (1 : Int32), Iv (2 : Int32), Lv mi1, Zs, Lv ma1, Zs, Rv b_449, Rv b_473, Rv b_516, Rv b_548, Us, Us, Us] [])) tt_ → Steps p.tables e below (T_572.setTop (mkF m 189 #[Lv q1, Zs, Lv q2, Zs, Lv q3, Zs, Lv q4, Zs, Lv q5, Zs, Iv p6, Iv (1 : Int32), Iv (2 : Int32), Lv mi1, Zs, Lv ma1, Zs, Rv b_449, Rv b_473, Rv b_516, Us, Us, Us, Us] [(.ref b_548)])) tt_ := by
      intro tt_ kt_
      refine XS.astore X_572.here hEX rfl (hb hBY at_189) rfl rfl (l' := #[Lv q1, Zs, Lv q2, Zs, Lv q3, Zs, Lv q4, Zs, Lv q5, Zs, Iv p6, Iv (1 : Int32), Iv (2 : Int32), Lv mi1, Zs, Lv ma1, Zs, Rv b_449, Rv b_473, Rv b_516, Rv b_548, Us, Us, Us]) rfl ?_
      exact kt_
    refine Done.pre sg_582 ?_
    have jn_583 : ∀ (in0 : Int32) (hin0 : in0 = own_in1 q1 q3 q4), Done p e below s (Qrm0 Z q1 q2 q3 q4 q5 p6 h0 n0) room_1.cells room_1.slots (T_572.setTop (mkF m 210 #[Lv q1, Zs, Lv q2, Zs, Lv q3, Zs, Lv q4, Zs, Lv q5, Zs, Iv p6, Iv (1 : Int32), Iv (2 : Int32), Lv mi1, Zs, Lv ma1, Zs, Rv b_449, Rv b_473, Rv b_516, Rv b_548, Us, Us, Us] [(.int in0)])) := by
      intro in0 hin0
      show Done _ _ _ _ _ _ _ (T_572.setTop (mkF m 210 #[Lv q1, Zs, Lv q2, Zs, Lv q3, Zs, Lv q4, Zs, Lv q5, Zs, Iv p6, Iv (1 : Int32), Iv (2 : Int32), Lv mi1, Zs, Lv ma1, Zs, Rv b_449, Rv b_473, Rv b_516, Rv b_548, Us, Us, Us] [(.int in0)]))
      have sg_584 : ∀ tt_, Steps p.tables e below (T_572.setTop (mkF m 212 #[Lv q1, Zs, Lv q2, Zs, Lv q3, Zs, Lv q4, Zs, Lv q5, Zs, Iv p6, Iv (1 : Int32), Iv (2 : Int32), Lv mi1, Zs, Lv ma1, Zs, Rv b_449, Rv b_473, Rv b_516, Rv b_548, Iv in0, Us, Us] [])) tt_ → Steps p.tables e below (T_572.setTop (mkF m 210 #[Lv q1, Zs, Lv q2, Zs, Lv q3, Zs, Lv q4, Zs, Lv q5, Zs, Iv p6, Iv (1 : Int32), Iv (2 : Int32), Lv mi1, Zs, Lv ma1, Zs, Rv b_449, Rv b_473, Rv b_516, Rv b_548, Us, Us, Us] [(.int in0)])) tt_ := by
        intro tt_ kt_
        refine XS.istore X_572.here hEX rfl (hb hBY at_210) rfl (l' := #[Lv q1, Zs, Lv q2, Zs, Lv q3, Zs, Lv q4, Zs, Lv q5, Zs, Iv p6, Iv (1 : Int32), Iv (2 : Int32), Lv mi1, Zs, Lv ma1, Zs, Rv b_449, Rv b_473, Rv b_516, Rv b_548, Iv in0, Us, Us]) rfl ?_
        exact kt_
      refine Done.pre sg_584 ?_
      have jn_585 : ∀ (in1 : Int32) (hin1 : in1 = own_in1 q2 mi1 ma1), Done p e below s (Qrm0 Z q1 q2 q3 q4 q5 p6 h0 n0) room_1.cells room_1.slots (T_572.setTop (mkF m 231 #[Lv q1, Zs, Lv q2, Zs, Lv q3, Zs, Lv q4, Zs, Lv q5, Zs, Iv p6, Iv (1 : Int32), Iv (2 : Int32), Lv mi1, Zs, Lv ma1, Zs, Rv b_449, Rv b_473, Rv b_516, Rv b_548, Iv in0, Us, Us] [(.int in1)])) := by
        intro in1 hin1
        show Done _ _ _ _ _ _ _ (T_572.setTop (mkF m 231 #[Lv q1, Zs, Lv q2, Zs, Lv q3, Zs, Lv q4, Zs, Lv q5, Zs, Iv p6, Iv (1 : Int32), Iv (2 : Int32), Lv mi1, Zs, Lv ma1, Zs, Rv b_449, Rv b_473, Rv b_516, Rv b_548, Iv in0, Us, Us] [(.int in1)]))
        have sg_586 : ∀ tt_, Steps p.tables e below (T_572.setTop (mkF m 246 #[Lv q1, Zs, Lv q2, Zs, Lv q3, Zs, Lv q4, Zs, Lv q5, Zs, Iv p6, Iv (1 : Int32), Iv (2 : Int32), Lv mi1, Zs, Lv ma1, Zs, Rv b_449, Rv b_473, Rv b_516, Rv b_548, Iv in0, Iv in1, Us] [])) tt_ → Steps p.tables e below (T_572.setTop (mkF m 231 #[Lv q1, Zs, Lv q2, Zs, Lv q3, Zs, Lv q4, Zs, Lv q5, Zs, Iv p6, Iv (1 : Int32), Iv (2 : Int32), Lv mi1, Zs, Lv ma1, Zs, Rv b_449, Rv b_473, Rv b_516, Rv b_548, Iv in0, Us, Us] [(.int in1)])) tt_ := by
          intro tt_ kt_
          refine XS.istore X_572.here hEX rfl (hb hBY at_231) rfl (l' := #[Lv q1, Zs, Lv q2, Zs, Lv q3, Zs, Lv q4, Zs, Lv q5, Zs, Iv p6, Iv (1 : Int32), Iv (2 : Int32), Lv mi1, Zs, Lv ma1, Zs, Rv b_449, Rv b_473, Rv b_516, Rv b_548, Iv in0, Iv in1, Us]) rfl ?_
          show Steps p.tables e below (T_572.setTop (mkF m 233 #[Lv q1, Zs, Lv q2, Zs, Lv q3, Zs, Lv q4, Zs, Lv q5, Zs, Iv p6, Iv (1 : Int32), Iv (2 : Int32), Lv mi1, Zs, Lv ma1, Zs, Rv b_449, Rv b_473, Rv b_516, Rv b_548, Iv in0, Iv in1, Us] [])) tt_
          refine XS.iload X_572.here hEX rfl (hb hBY at_233) rfl ?_
          show Steps p.tables e below (T_572.setTop (mkF m 235 #[Lv q1, Zs, Lv q2, Zs, Lv q3, Zs, Lv q4, Zs, Lv q5, Zs, Iv p6, Iv (1 : Int32), Iv (2 : Int32), Lv mi1, Zs, Lv ma1, Zs, Rv b_449, Rv b_473, Rv b_516, Rv b_548, Iv in0, Iv in1, Us] [(.int (2 : Int32))])) tt_
          refine XS.iconst X_572.here hEX rfl (hb hBY at_235) ?_
          show Steps p.tables e below (T_572.setTop (mkF m 236 #[Lv q1, Zs, Lv q2, Zs, Lv q3, Zs, Lv q4, Zs, Lv q5, Zs, Iv p6, Iv (1 : Int32), Iv (2 : Int32), Lv mi1, Zs, Lv ma1, Zs, Rv b_449, Rv b_473, Rv b_516, Rv b_548, Iv in0, Iv in1, Us] [(.int (1 : Int32)), (.int (2 : Int32))])) tt_
          refine XS.icmpYes X_572.here hEX rfl (pc0 := 236) (pc' := 246) rfl (hb hBY at_236) rfl (feq (by decide : ¬ ((2 : Int32) = (1 : Int32)))).2 (by decide) (by decide) ?_
          exact kt_
        refine Done.pre sg_586 ?_
        have jn_587 : ∀ (ex : Int32) (hex : ex = if in0 = (0 : Int32) then (0 : Int32) else (if in1 = (0 : Int32) then (0 : Int32) else (1 : Int32))), Done p e below s (Qrm0 Z q1 q2 q3 q4 q5 p6 h0 n0) room_1.cells room_1.slots (T_572.setTop (mkF m 261 #[Lv q1, Zs, Lv q2, Zs, Lv q3, Zs, Lv q4, Zs, Lv q5, Zs, Iv p6, Iv (1 : Int32), Iv (2 : Int32), Lv mi1, Zs, Lv ma1, Zs, Rv b_449, Rv b_473, Rv b_516, Rv b_548, Iv in0, Iv in1, Us] [(.int ex)])) := by
          intro ex hex
          show Done _ _ _ _ _ _ _ (T_572.setTop (mkF m 261 #[Lv q1, Zs, Lv q2, Zs, Lv q3, Zs, Lv q4, Zs, Lv q5, Zs, Iv p6, Iv (1 : Int32), Iv (2 : Int32), Lv mi1, Zs, Lv ma1, Zs, Rv b_449, Rv b_473, Rv b_516, Rv b_548, Iv in0, Iv in1, Us] [(.int ex)]))
          have sg_588 : ∀ tt_, Steps p.tables e below (T_572.setTop (mkF m 271 #[Lv q1, Zs, Lv q2, Zs, Lv q3, Zs, Lv q4, Zs, Lv q5, Zs, Iv p6, Iv (1 : Int32), Iv (2 : Int32), Lv mi1, Zs, Lv ma1, Zs, Rv b_449, Rv b_473, Rv b_516, Rv b_548, Iv in0, Iv in1, Iv ex] [(.ref b_548), (.ref b_516), (.int (1 : Int32)), (.ref b_473)])) tt_ → Steps p.tables e below (T_572.setTop (mkF m 261 #[Lv q1, Zs, Lv q2, Zs, Lv q3, Zs, Lv q4, Zs, Lv q5, Zs, Iv p6, Iv (1 : Int32), Iv (2 : Int32), Lv mi1, Zs, Lv ma1, Zs, Rv b_449, Rv b_473, Rv b_516, Rv b_548, Iv in0, Iv in1, Us] [(.int ex)])) tt_ := by
            intro tt_ kt_
            refine XS.istore X_572.here hEX rfl (hb hBY at_261) rfl (l' := #[Lv q1, Zs, Lv q2, Zs, Lv q3, Zs, Lv q4, Zs, Lv q5, Zs, Iv p6, Iv (1 : Int32), Iv (2 : Int32), Lv mi1, Zs, Lv ma1, Zs, Rv b_449, Rv b_473, Rv b_516, Rv b_548, Iv in0, Iv in1, Iv ex]) rfl ?_
            show Steps p.tables e below (T_572.setTop (mkF m 263 #[Lv q1, Zs, Lv q2, Zs, Lv q3, Zs, Lv q4, Zs, Lv q5, Zs, Iv p6, Iv (1 : Int32), Iv (2 : Int32), Lv mi1, Zs, Lv ma1, Zs, Rv b_449, Rv b_473, Rv b_516, Rv b_548, Iv in0, Iv in1, Iv ex] [])) tt_
            refine XS.aload X_572.here hEX rfl (hb hBY at_263) rfl rfl ?_
            show Steps p.tables e below (T_572.setTop (mkF m 265 #[Lv q1, Zs, Lv q2, Zs, Lv q3, Zs, Lv q4, Zs, Lv q5, Zs, Iv p6, Iv (1 : Int32), Iv (2 : Int32), Lv mi1, Zs, Lv ma1, Zs, Rv b_449, Rv b_473, Rv b_516, Rv b_548, Iv in0, Iv in1, Iv ex] [(.ref b_473)])) tt_
            refine XS.iload X_572.here hEX rfl (hb hBY at_265) rfl ?_
            show Steps p.tables e below (T_572.setTop (mkF m 267 #[Lv q1, Zs, Lv q2, Zs, Lv q3, Zs, Lv q4, Zs, Lv q5, Zs, Iv p6, Iv (1 : Int32), Iv (2 : Int32), Lv mi1, Zs, Lv ma1, Zs, Rv b_449, Rv b_473, Rv b_516, Rv b_548, Iv in0, Iv in1, Iv ex] [(.int (1 : Int32)), (.ref b_473)])) tt_
            refine XS.aload X_572.here hEX rfl (hb hBY at_267) rfl rfl ?_
            show Steps p.tables e below (T_572.setTop (mkF m 269 #[Lv q1, Zs, Lv q2, Zs, Lv q3, Zs, Lv q4, Zs, Lv q5, Zs, Iv p6, Iv (1 : Int32), Iv (2 : Int32), Lv mi1, Zs, Lv ma1, Zs, Rv b_449, Rv b_473, Rv b_516, Rv b_548, Iv in0, Iv in1, Iv ex] [(.ref b_516), (.int (1 : Int32)), (.ref b_473)])) tt_
            refine XS.aload X_572.here hEX rfl (hb hBY at_269) rfl rfl ?_
            exact kt_
          refine Done.pre sg_588 ?_
          obtain ⟨cq_589, kq_589, q_589a, q_589b, q_589c⟩ := isOf hZW e_572 f_575
          obtain ⟨_, _, ⟨T_589, L_589, k_589, n_589⟩, -, X_589, ⟨Lc_589, hQ_589, l_589, y_589, z_589⟩, st_589⟩ := X_572.virtualBack hEX (y := (⟨"com/example/pointcell/pointcell/Leaf", "isInside", "(I[J[J)Z"⟩ : MethodName)) (z := (⟨"com/example/pointcell/pointcell/Leaf", "isInside", "(I[J[J)Z"⟩ : MethodName)) hOW (mvT hZW (hw _ (List.mem_of_getElem? (i := 21) rfl))) (mvT hZW (hw _ (List.mem_of_getElem? (i := 22) rfl))) (notFace_of_selects (args := #[]) (mvT hZW (hw _ (List.mem_of_getElem? (i := 24) rfl)))) (mvT hZW (hw _ (List.mem_of_getElem? (i := 24) rfl))) (mvT hZW (hw _ (List.mem_of_getElem? (i := 23) rfl))) (by decide) (backOf (W := 0) (rm_in2 l Z aZ hw [] b_473 (1 : Int32) b_516 b_548 b_449 k_449 (4 : Int32) [(.long q2), (.long q1), (.long q1), (.long q2)] k_516 k_548 q3 mi1 q4 ma1 q1 q2 h_572 n0 (Nat.le_trans Z0 K__573.1) f_577 f_579 f_574 f_580 f_581 (by decide) (by decide) rfl rfl) hZW (hw _ (List.mem_of_getElem? (i := 25) rfl)) (hw _ (List.mem_of_getElem? (i := 7) rfl)) (by decide) (by decide)) q_589a q_589c (g := (mkF m 271 #[Lv q1, Zs, Lv q2, Zs, Lv q3, Zs, Lv q4, Zs, Lv q5, Zs, Iv p6, Iv (1 : Int32), Iv (2 : Int32), Lv mi1, Zs, Lv ma1, Zs, Rv b_449, Rv b_473, Rv b_516, Rv b_548, Iv in0, Iv in1, Iv ex] [(.ref b_548), (.ref b_516), (.int (1 : Int32)), (.ref b_473)])) rfl (by rw [hMX]; rfl) (Steps.refl _) (argsL := [(.int (1 : Int32)), (.ref b_516), (.ref b_548)]) (rest := []) (lenOf pd__I_J_J_Z_3 rfl) rfl (by show 2 * 0 + _ ≤ _; exact Nat.le_of_eq rfl) (hb hBY at_271) (fun _ _ => ⟨rfl, e_572, (by decide : 5 + 0 ≤ _), (by decide : 13 + 0 ≤ _)⟩)
          dsimp only [Pt.U, Pt.locs, Pt.cells, Pt.slots] at X_589 l_589 y_589 z_589 st_589 hQ_589
          subst l_589 y_589 z_589
          obtain ⟨rfl, N_589q, e_589⟩ := hQ_589
          have N_589 := Fr.app N_572 N_589q
          refine Done.pre (fun _ k_ => st_589.trans k_) ?_
          show Done _ _ _ _ _ _ _ (T_589.setTop (mkF m 274 #[Lv q1, Zs, Lv q2, Zs, Lv q3, Zs, Lv q4, Zs, Lv q5, Zs, Iv p6, Iv (1 : Int32), Iv (2 : Int32), Lv mi1, Zs, Lv ma1, Zs, Rv b_449, Rv b_473, Rv b_516, Rv b_548, Iv in0, Iv in1, Iv ex] [(.int (own_in2 q1 q3 q4 q2 mi1 ma1))]))
          have sg_590 : ∀ tt_, Steps p.tables e below (T_589.setTop (mkF m 284 #[Lv q1, Zs, Lv q2, Zs, Lv q3, Zs, Lv q4, Zs, Lv q5, Zs, Iv p6, Iv (1 : Int32), Iv (2 : Int32), Lv mi1, Zs, Lv ma1, Zs, Rv b_449, Rv b_473, Rv b_516, Rv b_548, Iv in0, Iv in1, Iv ex] [(.int (1 : Int32))])) tt_ → Steps p.tables e below (T_589.setTop (mkF m 274 #[Lv q1, Zs, Lv q2, Zs, Lv q3, Zs, Lv q4, Zs, Lv q5, Zs, Iv p6, Iv (1 : Int32), Iv (2 : Int32), Lv mi1, Zs, Lv ma1, Zs, Rv b_449, Rv b_473, Rv b_516, Rv b_548, Iv in0, Iv in1, Iv ex] [(.int (own_in2 q1 q3 q4 q2 mi1 ma1))])) tt_ := by
            intro tt_ kt_
            refine XS.iload X_589.here hEX rfl (hb hBY at_274) rfl ?_
            show Steps p.tables e below (T_589.setTop (mkF m 276 #[Lv q1, Zs, Lv q2, Zs, Lv q3, Zs, Lv q4, Zs, Lv q5, Zs, Iv p6, Iv (1 : Int32), Iv (2 : Int32), Lv mi1, Zs, Lv ma1, Zs, Rv b_449, Rv b_473, Rv b_516, Rv b_548, Iv in0, Iv in1, Iv ex] [(.int ex), (.int (own_in2 q1 q3 q4 q2 mi1 ma1))])) tt_
            refine XS.icmpNo X_589.here hEX rfl (hb hBY at_276) rfl (teq ((by rw [own_in2_eq, hex, hin0, hin1]) : (own_in2 q1 q3 q4 q2 mi1 ma1) = ex)).2 ?_
            show Steps p.tables e below (T_589.setTop (mkF m 279 #[Lv q1, Zs, Lv q2, Zs, Lv q3, Zs, Lv q4, Zs, Lv q5, Zs, Iv p6, Iv (1 : Int32), Iv (2 : Int32), Lv mi1, Zs, Lv ma1, Zs, Rv b_449, Rv b_473, Rv b_516, Rv b_548, Iv in0, Iv in1, Iv ex] [])) tt_
            refine XS.iconst X_589.here hEX rfl (hb hBY at_279) ?_
            show Steps p.tables e below (T_589.setTop (mkF m 280 #[Lv q1, Zs, Lv q2, Zs, Lv q3, Zs, Lv q4, Zs, Lv q5, Zs, Iv p6, Iv (1 : Int32), Iv (2 : Int32), Lv mi1, Zs, Lv ma1, Zs, Rv b_449, Rv b_473, Rv b_516, Rv b_548, Iv in0, Iv in1, Iv ex] [(.int (1 : Int32))])) tt_
            refine XS.goto X_589.here hEX rfl (pc0 := 280) (pc' := 284) rfl (hb hBY at_280) (by decide) (by decide) ?_
            exact kt_
          refine Done.pre sg_590 ?_
          exact Done.retN X_589 hEX hLK (t := .boolean) hRT (by simp) (hb hBY at_284) (by rw [e_589]; exact ⟨rfl, N_589, K__573⟩) (by decide) (by decide)
        show Done _ _ _ _ _ _ _ (T_572.setTop (mkF m 246 #[Lv q1, Zs, Lv q2, Zs, Lv q3, Zs, Lv q4, Zs, Lv q5, Zs, Iv p6, Iv (1 : Int32), Iv (2 : Int32), Lv mi1, Zs, Lv ma1, Zs, Rv b_449, Rv b_473, Rv b_516, Rv b_548, Iv in0, Iv in1, Us] []))
        have sg_591 : ∀ tt_, Steps p.tables e below (T_572.setTop (mkF m 248 #[Lv q1, Zs, Lv q2, Zs, Lv q3, Zs, Lv q4, Zs, Lv q5, Zs, Iv p6, Iv (1 : Int32), Iv (2 : Int32), Lv mi1, Zs, Lv ma1, Zs, Rv b_449, Rv b_473, Rv b_516, Rv b_548, Iv in0, Iv in1, Us] [(.int in0)])) tt_ → Steps p.tables e below (T_572.setTop (mkF m 246 #[Lv q1, Zs, Lv q2, Zs, Lv q3, Zs, Lv q4, Zs, Lv q5, Zs, Iv p6, Iv (1 : Int32), Iv (2 : Int32), Lv mi1, Zs, Lv ma1, Zs, Rv b_449, Rv b_473, Rv b_516, Rv b_548, Iv in0, Iv in1, Us] [])) tt_ := by
          intro tt_ kt_
          refine XS.iload X_572.here hEX rfl (hb hBY at_246) rfl ?_
          exact kt_
        refine Done.pre sg_591 ?_
        by_cases hc248 : in0 = (0 : Int32)
        · skip
          have sg_592 : ∀ tt_, Steps p.tables e below (T_572.setTop (mkF m 261 #[Lv q1, Zs, Lv q2, Zs, Lv q3, Zs, Lv q4, Zs, Lv q5, Zs, Iv p6, Iv (1 : Int32), Iv (2 : Int32), Lv mi1, Zs, Lv ma1, Zs, Rv b_449, Rv b_473, Rv b_516, Rv b_548, Iv in0, Iv in1, Us] [(.int (0 : Int32))])) tt_ → Steps p.tables e below (T_572.setTop (mkF m 248 #[Lv q1, Zs, Lv q2, Zs, Lv q3, Zs, Lv q4, Zs, Lv q5, Zs, Iv p6, Iv (1 : Int32), Iv (2 : Int32), Lv mi1, Zs, Lv ma1, Zs, Rv b_449, Rv b_473, Rv b_516, Rv b_548, Iv in0, Iv in1, Us] [(.int in0)])) tt_ := by
            intro tt_ kt_
            refine XS.ifYes X_572.here hEX rfl (pc0 := 248) (pc' := 260) rfl (hb hBY at_248) rfl ((if0 _ _).trans (teq hc248).1) (by decide) (by decide) ?_
            show Steps p.tables e below (T_572.setTop (mkF m 260 #[Lv q1, Zs, Lv q2, Zs, Lv q3, Zs, Lv q4, Zs, Lv q5, Zs, Iv p6, Iv (1 : Int32), Iv (2 : Int32), Lv mi1, Zs, Lv ma1, Zs, Rv b_449, Rv b_473, Rv b_516, Rv b_548, Iv in0, Iv in1, Us] [])) tt_
            refine XS.iconst X_572.here hEX rfl (hb hBY at_260) ?_
            exact kt_
          refine Done.pre sg_592 ?_
          exact jn_587 ((0 : Int32)) (by first | rw [if_pos hc248] | rw [if_neg hc248, if_pos hc253] | rw [if_neg hc248, if_neg hc253])
        · skip
          have sg_593 : ∀ tt_, Steps p.tables e below (T_572.setTop (mkF m 253 #[Lv q1, Zs, Lv q2, Zs, Lv q3, Zs, Lv q4, Zs, Lv q5, Zs, Iv p6, Iv (1 : Int32), Iv (2 : Int32), Lv mi1, Zs, Lv ma1, Zs, Rv b_449, Rv b_473, Rv b_516, Rv b_548, Iv in0, Iv in1, Us] [(.int in1)])) tt_ → Steps p.tables e below (T_572.setTop (mkF m 248 #[Lv q1, Zs, Lv q2, Zs, Lv q3, Zs, Lv q4, Zs, Lv q5, Zs, Iv p6, Iv (1 : Int32), Iv (2 : Int32), Lv mi1, Zs, Lv ma1, Zs, Rv b_449, Rv b_473, Rv b_516, Rv b_548, Iv in0, Iv in1, Us] [(.int in0)])) tt_ := by
            intro tt_ kt_
            refine XS.ifNo X_572.here hEX rfl (hb hBY at_248) rfl ((if0 _ _).trans (feq hc248).1) ?_
            show Steps p.tables e below (T_572.setTop (mkF m 251 #[Lv q1, Zs, Lv q2, Zs, Lv q3, Zs, Lv q4, Zs, Lv q5, Zs, Iv p6, Iv (1 : Int32), Iv (2 : Int32), Lv mi1, Zs, Lv ma1, Zs, Rv b_449, Rv b_473, Rv b_516, Rv b_548, Iv in0, Iv in1, Us] [])) tt_
            refine XS.iload X_572.here hEX rfl (hb hBY at_251) rfl ?_
            exact kt_
          refine Done.pre sg_593 ?_
          by_cases hc253 : in1 = (0 : Int32)
          · skip
            have sg_594 : ∀ tt_, Steps p.tables e below (T_572.setTop (mkF m 261 #[Lv q1, Zs, Lv q2, Zs, Lv q3, Zs, Lv q4, Zs, Lv q5, Zs, Iv p6, Iv (1 : Int32), Iv (2 : Int32), Lv mi1, Zs, Lv ma1, Zs, Rv b_449, Rv b_473, Rv b_516, Rv b_548, Iv in0, Iv in1, Us] [(.int (0 : Int32))])) tt_ → Steps p.tables e below (T_572.setTop (mkF m 253 #[Lv q1, Zs, Lv q2, Zs, Lv q3, Zs, Lv q4, Zs, Lv q5, Zs, Iv p6, Iv (1 : Int32), Iv (2 : Int32), Lv mi1, Zs, Lv ma1, Zs, Rv b_449, Rv b_473, Rv b_516, Rv b_548, Iv in0, Iv in1, Us] [(.int in1)])) tt_ := by
              intro tt_ kt_
              refine XS.ifYes X_572.here hEX rfl (pc0 := 253) (pc' := 260) rfl (hb hBY at_253) rfl ((if0 _ _).trans (teq hc253).1) (by decide) (by decide) ?_
              show Steps p.tables e below (T_572.setTop (mkF m 260 #[Lv q1, Zs, Lv q2, Zs, Lv q3, Zs, Lv q4, Zs, Lv q5, Zs, Iv p6, Iv (1 : Int32), Iv (2 : Int32), Lv mi1, Zs, Lv ma1, Zs, Rv b_449, Rv b_473, Rv b_516, Rv b_548, Iv in0, Iv in1, Us] [])) tt_
              refine XS.iconst X_572.here hEX rfl (hb hBY at_260) ?_
              exact kt_
            refine Done.pre sg_594 ?_
            exact jn_587 ((0 : Int32)) (by first | rw [if_pos hc248] | rw [if_neg hc248, if_pos hc253] | rw [if_neg hc248, if_neg hc253])
          · skip
            have sg_595 : ∀ tt_, Steps p.tables e below (T_572.setTop (mkF m 261 #[Lv q1, Zs, Lv q2, Zs, Lv q3, Zs, Lv q4, Zs, Lv q5, Zs, Iv p6, Iv (1 : Int32), Iv (2 : Int32), Lv mi1, Zs, Lv ma1, Zs, Rv b_449, Rv b_473, Rv b_516, Rv b_548, Iv in0, Iv in1, Us] [(.int (1 : Int32))])) tt_ → Steps p.tables e below (T_572.setTop (mkF m 253 #[Lv q1, Zs, Lv q2, Zs, Lv q3, Zs, Lv q4, Zs, Lv q5, Zs, Iv p6, Iv (1 : Int32), Iv (2 : Int32), Lv mi1, Zs, Lv ma1, Zs, Rv b_449, Rv b_473, Rv b_516, Rv b_548, Iv in0, Iv in1, Us] [(.int in1)])) tt_ := by
              intro tt_ kt_
              refine XS.ifNo X_572.here hEX rfl (hb hBY at_253) rfl ((if0 _ _).trans (feq hc253).1) ?_
              show Steps p.tables e below (T_572.setTop (mkF m 256 #[Lv q1, Zs, Lv q2, Zs, Lv q3, Zs, Lv q4, Zs, Lv q5, Zs, Iv p6, Iv (1 : Int32), Iv (2 : Int32), Lv mi1, Zs, Lv ma1, Zs, Rv b_449, Rv b_473, Rv b_516, Rv b_548, Iv in0, Iv in1, Us] [])) tt_
              refine XS.iconst X_572.here hEX rfl (hb hBY at_256) ?_
              show Steps p.tables e below (T_572.setTop (mkF m 257 #[Lv q1, Zs, Lv q2, Zs, Lv q3, Zs, Lv q4, Zs, Lv q5, Zs, Iv p6, Iv (1 : Int32), Iv (2 : Int32), Lv mi1, Zs, Lv ma1, Zs, Rv b_449, Rv b_473, Rv b_516, Rv b_548, Iv in0, Iv in1, Us] [(.int (1 : Int32))])) tt_
              refine XS.goto X_572.here hEX rfl (pc0 := 257) (pc' := 261) rfl (hb hBY at_257) (by decide) (by decide) ?_
              exact kt_
            refine Done.pre sg_595 ?_
            exact jn_587 ((1 : Int32)) (by first | rw [if_pos hc248] | rw [if_neg hc248, if_pos hc253] | rw [if_neg hc248, if_neg hc253])
      show Done _ _ _ _ _ _ _ (T_572.setTop (mkF m 212 #[Lv q1, Zs, Lv q2, Zs, Lv q3, Zs, Lv q4, Zs, Lv q5, Zs, Iv p6, Iv (1 : Int32), Iv (2 : Int32), Lv mi1, Zs, Lv ma1, Zs, Rv b_449, Rv b_473, Rv b_516, Rv b_548, Iv in0, Us, Us] []))
      have sg_596 : ∀ tt_, Steps p.tables e below (T_572.setTop (mkF m 216 #[Lv q1, Zs, Lv q2, Zs, Lv q3, Zs, Lv q4, Zs, Lv q5, Zs, Iv p6, Iv (1 : Int32), Iv (2 : Int32), Lv mi1, Zs, Lv ma1, Zs, Rv b_449, Rv b_473, Rv b_516, Rv b_548, Iv in0, Us, Us] [(.int (lcmpW mi1 q2))])) tt_ → Steps p.tables e below (T_572.setTop (mkF m 212 #[Lv q1, Zs, Lv q2, Zs, Lv q3, Zs, Lv q4, Zs, Lv q5, Zs, Iv p6, Iv (1 : Int32), Iv (2 : Int32), Lv mi1, Zs, Lv ma1, Zs, Rv b_449, Rv b_473, Rv b_516, Rv b_548, Iv in0, Us, Us] [])) tt_ := by
        intro tt_ kt_
        refine XS.lload X_572.here hEX rfl (hb hBY at_212) rfl ?_
        show Steps p.tables e below (T_572.setTop (mkF m 214 #[Lv q1, Zs, Lv q2, Zs, Lv q3, Zs, Lv q4, Zs, Lv q5, Zs, Iv p6, Iv (1 : Int32), Iv (2 : Int32), Lv mi1, Zs, Lv ma1, Zs, Rv b_449, Rv b_473, Rv b_516, Rv b_548, Iv in0, Us, Us] [(.long mi1)])) tt_
        refine XS.lloadN X_572.here hEX rfl (hb hBY at_214) rfl ?_
        show Steps p.tables e below (T_572.setTop (mkF m 215 #[Lv q1, Zs, Lv q2, Zs, Lv q3, Zs, Lv q4, Zs, Lv q5, Zs, Iv p6, Iv (1 : Int32), Iv (2 : Int32), Lv mi1, Zs, Lv ma1, Zs, Rv b_449, Rv b_473, Rv b_516, Rv b_548, Iv in0, Us, Us] [(.long q2), (.long mi1)])) tt_
        refine XS.lcmp X_572.here hEX rfl (hb hBY at_215) rfl ?_
        exact kt_
      refine Done.pre sg_596 ?_
      by_cases hc216 : q2 < mi1
      · skip
        have sg_597 : ∀ tt_, Steps p.tables e below (T_572.setTop (mkF m 231 #[Lv q1, Zs, Lv q2, Zs, Lv q3, Zs, Lv q4, Zs, Lv q5, Zs, Iv p6, Iv (1 : Int32), Iv (2 : Int32), Lv mi1, Zs, Lv ma1, Zs, Rv b_449, Rv b_473, Rv b_516, Rv b_548, Iv in0, Us, Us] [(.int (0 : Int32))])) tt_ → Steps p.tables e below (T_572.setTop (mkF m 216 #[Lv q1, Zs, Lv q2, Zs, Lv q3, Zs, Lv q4, Zs, Lv q5, Zs, Iv p6, Iv (1 : Int32), Iv (2 : Int32), Lv mi1, Zs, Lv ma1, Zs, Rv b_449, Rv b_473, Rv b_516, Rv b_548, Iv in0, Us, Us] [(.int (lcmpW mi1 q2))])) tt_ := by
          intro tt_ kt_
          refine XS.ifYes X_572.here hEX rfl (pc0 := 216) (pc' := 230) rfl (hb hBY at_216) rfl ((if0 _ _).trans (tlt ((lw_gt _ _).mpr hc216)).2.2.1) (by decide) (by decide) ?_
          show Steps p.tables e below (T_572.setTop (mkF m 230 #[Lv q1, Zs, Lv q2, Zs, Lv q3, Zs, Lv q4, Zs, Lv q5, Zs, Iv p6, Iv (1 : Int32), Iv (2 : Int32), Lv mi1, Zs, Lv ma1, Zs, Rv b_449, Rv b_473, Rv b_516, Rv b_548, Iv in0, Us, Us] [])) tt_
          refine XS.iconst X_572.here hEX rfl (hb hBY at_230) ?_
          exact kt_
        refine Done.pre sg_597 ?_
        exact jn_585 ((0 : Int32)) (by rw [own_in1]; first | rw [if_pos hc216] | rw [if_neg hc216, if_pos hc223] | rw [if_neg hc216, if_neg hc223])
      · skip
        have sg_598 : ∀ tt_, Steps p.tables e below (T_572.setTop (mkF m 223 #[Lv q1, Zs, Lv q2, Zs, Lv q3, Zs, Lv q4, Zs, Lv q5, Zs, Iv p6, Iv (1 : Int32), Iv (2 : Int32), Lv mi1, Zs, Lv ma1, Zs, Rv b_449, Rv b_473, Rv b_516, Rv b_548, Iv in0, Us, Us] [(.int (lcmpW q2 ma1))])) tt_ → Steps p.tables e below (T_572.setTop (mkF m 216 #[Lv q1, Zs, Lv q2, Zs, Lv q3, Zs, Lv q4, Zs, Lv q5, Zs, Iv p6, Iv (1 : Int32), Iv (2 : Int32), Lv mi1, Zs, Lv ma1, Zs, Rv b_449, Rv b_473, Rv b_516, Rv b_548, Iv in0, Us, Us] [(.int (lcmpW mi1 q2))])) tt_ := by
          intro tt_ kt_
          refine XS.ifNo X_572.here hEX rfl (hb hBY at_216) rfl ((if0 _ _).trans (flt (fun q => hc216 ((lw_gt _ _).mp q))).2.2.1) ?_
          show Steps p.tables e below (T_572.setTop (mkF m 219 #[Lv q1, Zs, Lv q2, Zs, Lv q3, Zs, Lv q4, Zs, Lv q5, Zs, Iv p6, Iv (1 : Int32), Iv (2 : Int32), Lv mi1, Zs, Lv ma1, Zs, Rv b_449, Rv b_473, Rv b_516, Rv b_548, Iv in0, Us, Us] [])) tt_
          refine XS.lloadN X_572.here hEX rfl (hb hBY at_219) rfl ?_
          show Steps p.tables e below (T_572.setTop (mkF m 220 #[Lv q1, Zs, Lv q2, Zs, Lv q3, Zs, Lv q4, Zs, Lv q5, Zs, Iv p6, Iv (1 : Int32), Iv (2 : Int32), Lv mi1, Zs, Lv ma1, Zs, Rv b_449, Rv b_473, Rv b_516, Rv b_548, Iv in0, Us, Us] [(.long q2)])) tt_
          refine XS.lload X_572.here hEX rfl (hb hBY at_220) rfl ?_
          show Steps p.tables e below (T_572.setTop (mkF m 222 #[Lv q1, Zs, Lv q2, Zs, Lv q3, Zs, Lv q4, Zs, Lv q5, Zs, Iv p6, Iv (1 : Int32), Iv (2 : Int32), Lv mi1, Zs, Lv ma1, Zs, Rv b_449, Rv b_473, Rv b_516, Rv b_548, Iv in0, Us, Us] [(.long ma1), (.long q2)])) tt_
          refine XS.lcmp X_572.here hEX rfl (hb hBY at_222) rfl ?_
          exact kt_
        refine Done.pre sg_598 ?_
        by_cases hc223 : ma1 < q2
        · skip
          have sg_599 : ∀ tt_, Steps p.tables e below (T_572.setTop (mkF m 231 #[Lv q1, Zs, Lv q2, Zs, Lv q3, Zs, Lv q4, Zs, Lv q5, Zs, Iv p6, Iv (1 : Int32), Iv (2 : Int32), Lv mi1, Zs, Lv ma1, Zs, Rv b_449, Rv b_473, Rv b_516, Rv b_548, Iv in0, Us, Us] [(.int (0 : Int32))])) tt_ → Steps p.tables e below (T_572.setTop (mkF m 223 #[Lv q1, Zs, Lv q2, Zs, Lv q3, Zs, Lv q4, Zs, Lv q5, Zs, Iv p6, Iv (1 : Int32), Iv (2 : Int32), Lv mi1, Zs, Lv ma1, Zs, Rv b_449, Rv b_473, Rv b_516, Rv b_548, Iv in0, Us, Us] [(.int (lcmpW q2 ma1))])) tt_ := by
            intro tt_ kt_
            refine XS.ifYes X_572.here hEX rfl (pc0 := 223) (pc' := 230) rfl (hb hBY at_223) rfl ((if0 _ _).trans (tlt ((lw_gt _ _).mpr hc223)).2.2.1) (by decide) (by decide) ?_
            show Steps p.tables e below (T_572.setTop (mkF m 230 #[Lv q1, Zs, Lv q2, Zs, Lv q3, Zs, Lv q4, Zs, Lv q5, Zs, Iv p6, Iv (1 : Int32), Iv (2 : Int32), Lv mi1, Zs, Lv ma1, Zs, Rv b_449, Rv b_473, Rv b_516, Rv b_548, Iv in0, Us, Us] [])) tt_
            refine XS.iconst X_572.here hEX rfl (hb hBY at_230) ?_
            exact kt_
          refine Done.pre sg_599 ?_
          exact jn_585 ((0 : Int32)) (by rw [own_in1]; first | rw [if_pos hc216] | rw [if_neg hc216, if_pos hc223] | rw [if_neg hc216, if_neg hc223])
        · skip
          have sg_600 : ∀ tt_, Steps p.tables e below (T_572.setTop (mkF m 231 #[Lv q1, Zs, Lv q2, Zs, Lv q3, Zs, Lv q4, Zs, Lv q5, Zs, Iv p6, Iv (1 : Int32), Iv (2 : Int32), Lv mi1, Zs, Lv ma1, Zs, Rv b_449, Rv b_473, Rv b_516, Rv b_548, Iv in0, Us, Us] [(.int (1 : Int32))])) tt_ → Steps p.tables e below (T_572.setTop (mkF m 223 #[Lv q1, Zs, Lv q2, Zs, Lv q3, Zs, Lv q4, Zs, Lv q5, Zs, Iv p6, Iv (1 : Int32), Iv (2 : Int32), Lv mi1, Zs, Lv ma1, Zs, Rv b_449, Rv b_473, Rv b_516, Rv b_548, Iv in0, Us, Us] [(.int (lcmpW q2 ma1))])) tt_ := by
            intro tt_ kt_
            refine XS.ifNo X_572.here hEX rfl (hb hBY at_223) rfl ((if0 _ _).trans (flt (fun q => hc223 ((lw_gt _ _).mp q))).2.2.1) ?_
            show Steps p.tables e below (T_572.setTop (mkF m 226 #[Lv q1, Zs, Lv q2, Zs, Lv q3, Zs, Lv q4, Zs, Lv q5, Zs, Iv p6, Iv (1 : Int32), Iv (2 : Int32), Lv mi1, Zs, Lv ma1, Zs, Rv b_449, Rv b_473, Rv b_516, Rv b_548, Iv in0, Us, Us] [])) tt_
            refine XS.iconst X_572.here hEX rfl (hb hBY at_226) ?_
            show Steps p.tables e below (T_572.setTop (mkF m 227 #[Lv q1, Zs, Lv q2, Zs, Lv q3, Zs, Lv q4, Zs, Lv q5, Zs, Iv p6, Iv (1 : Int32), Iv (2 : Int32), Lv mi1, Zs, Lv ma1, Zs, Rv b_449, Rv b_473, Rv b_516, Rv b_548, Iv in0, Us, Us] [(.int (1 : Int32))])) tt_
            refine XS.goto X_572.here hEX rfl (pc0 := 227) (pc' := 231) rfl (hb hBY at_227) (by decide) (by decide) ?_
            exact kt_
          refine Done.pre sg_600 ?_
          exact jn_585 ((1 : Int32)) (by rw [own_in1]; first | rw [if_pos hc216] | rw [if_neg hc216, if_pos hc223] | rw [if_neg hc216, if_neg hc223])
    show Done _ _ _ _ _ _ _ (T_572.setTop (mkF m 191 #[Lv q1, Zs, Lv q2, Zs, Lv q3, Zs, Lv q4, Zs, Lv q5, Zs, Iv p6, Iv (1 : Int32), Iv (2 : Int32), Lv mi1, Zs, Lv ma1, Zs, Rv b_449, Rv b_473, Rv b_516, Rv b_548, Us, Us, Us] []))
    have sg_601 : ∀ tt_, Steps p.tables e below (T_572.setTop (mkF m 195 #[Lv q1, Zs, Lv q2, Zs, Lv q3, Zs, Lv q4, Zs, Lv q5, Zs, Iv p6, Iv (1 : Int32), Iv (2 : Int32), Lv mi1, Zs, Lv ma1, Zs, Rv b_449, Rv b_473, Rv b_516, Rv b_548, Us, Us, Us] [(.int (lcmpW q3 q1))])) tt_ → Steps p.tables e below (T_572.setTop (mkF m 191 #[Lv q1, Zs, Lv q2, Zs, Lv q3, Zs, Lv q4, Zs, Lv q5, Zs, Iv p6, Iv (1 : Int32), Iv (2 : Int32), Lv mi1, Zs, Lv ma1, Zs, Rv b_449, Rv b_473, Rv b_516, Rv b_548, Us, Us, Us] [])) tt_ := by
      intro tt_ kt_
      refine XS.lload X_572.here hEX rfl (hb hBY at_191) rfl ?_
      show Steps p.tables e below (T_572.setTop (mkF m 193 #[Lv q1, Zs, Lv q2, Zs, Lv q3, Zs, Lv q4, Zs, Lv q5, Zs, Iv p6, Iv (1 : Int32), Iv (2 : Int32), Lv mi1, Zs, Lv ma1, Zs, Rv b_449, Rv b_473, Rv b_516, Rv b_548, Us, Us, Us] [(.long q3)])) tt_
      refine XS.lloadN X_572.here hEX rfl (hb hBY at_193) rfl ?_
      show Steps p.tables e below (T_572.setTop (mkF m 194 #[Lv q1, Zs, Lv q2, Zs, Lv q3, Zs, Lv q4, Zs, Lv q5, Zs, Iv p6, Iv (1 : Int32), Iv (2 : Int32), Lv mi1, Zs, Lv ma1, Zs, Rv b_449, Rv b_473, Rv b_516, Rv b_548, Us, Us, Us] [(.long q1), (.long q3)])) tt_
      refine XS.lcmp X_572.here hEX rfl (hb hBY at_194) rfl ?_
      exact kt_
    refine Done.pre sg_601 ?_
    by_cases hc195 : q1 < q3
    · skip
      have sg_602 : ∀ tt_, Steps p.tables e below (T_572.setTop (mkF m 210 #[Lv q1, Zs, Lv q2, Zs, Lv q3, Zs, Lv q4, Zs, Lv q5, Zs, Iv p6, Iv (1 : Int32), Iv (2 : Int32), Lv mi1, Zs, Lv ma1, Zs, Rv b_449, Rv b_473, Rv b_516, Rv b_548, Us, Us, Us] [(.int (0 : Int32))])) tt_ → Steps p.tables e below (T_572.setTop (mkF m 195 #[Lv q1, Zs, Lv q2, Zs, Lv q3, Zs, Lv q4, Zs, Lv q5, Zs, Iv p6, Iv (1 : Int32), Iv (2 : Int32), Lv mi1, Zs, Lv ma1, Zs, Rv b_449, Rv b_473, Rv b_516, Rv b_548, Us, Us, Us] [(.int (lcmpW q3 q1))])) tt_ := by
        intro tt_ kt_
        refine XS.ifYes X_572.here hEX rfl (pc0 := 195) (pc' := 209) rfl (hb hBY at_195) rfl ((if0 _ _).trans (tlt ((lw_gt _ _).mpr hc195)).2.2.1) (by decide) (by decide) ?_
        show Steps p.tables e below (T_572.setTop (mkF m 209 #[Lv q1, Zs, Lv q2, Zs, Lv q3, Zs, Lv q4, Zs, Lv q5, Zs, Iv p6, Iv (1 : Int32), Iv (2 : Int32), Lv mi1, Zs, Lv ma1, Zs, Rv b_449, Rv b_473, Rv b_516, Rv b_548, Us, Us, Us] [])) tt_
        refine XS.iconst X_572.here hEX rfl (hb hBY at_209) ?_
        exact kt_
      refine Done.pre sg_602 ?_
      exact jn_583 ((0 : Int32)) (by rw [own_in1]; first | rw [if_pos hc195] | rw [if_neg hc195, if_pos hc202] | rw [if_neg hc195, if_neg hc202])
    · skip
      have sg_603 : ∀ tt_, Steps p.tables e below (T_572.setTop (mkF m 202 #[Lv q1, Zs, Lv q2, Zs, Lv q3, Zs, Lv q4, Zs, Lv q5, Zs, Iv p6, Iv (1 : Int32), Iv (2 : Int32), Lv mi1, Zs, Lv ma1, Zs, Rv b_449, Rv b_473, Rv b_516, Rv b_548, Us, Us, Us] [(.int (lcmpW q1 q4))])) tt_ → Steps p.tables e below (T_572.setTop (mkF m 195 #[Lv q1, Zs, Lv q2, Zs, Lv q3, Zs, Lv q4, Zs, Lv q5, Zs, Iv p6, Iv (1 : Int32), Iv (2 : Int32), Lv mi1, Zs, Lv ma1, Zs, Rv b_449, Rv b_473, Rv b_516, Rv b_548, Us, Us, Us] [(.int (lcmpW q3 q1))])) tt_ := by
        intro tt_ kt_
        refine XS.ifNo X_572.here hEX rfl (hb hBY at_195) rfl ((if0 _ _).trans (flt (fun q => hc195 ((lw_gt _ _).mp q))).2.2.1) ?_
        show Steps p.tables e below (T_572.setTop (mkF m 198 #[Lv q1, Zs, Lv q2, Zs, Lv q3, Zs, Lv q4, Zs, Lv q5, Zs, Iv p6, Iv (1 : Int32), Iv (2 : Int32), Lv mi1, Zs, Lv ma1, Zs, Rv b_449, Rv b_473, Rv b_516, Rv b_548, Us, Us, Us] [])) tt_
        refine XS.lloadN X_572.here hEX rfl (hb hBY at_198) rfl ?_
        show Steps p.tables e below (T_572.setTop (mkF m 199 #[Lv q1, Zs, Lv q2, Zs, Lv q3, Zs, Lv q4, Zs, Lv q5, Zs, Iv p6, Iv (1 : Int32), Iv (2 : Int32), Lv mi1, Zs, Lv ma1, Zs, Rv b_449, Rv b_473, Rv b_516, Rv b_548, Us, Us, Us] [(.long q1)])) tt_
        refine XS.lload X_572.here hEX rfl (hb hBY at_199) rfl ?_
        show Steps p.tables e below (T_572.setTop (mkF m 201 #[Lv q1, Zs, Lv q2, Zs, Lv q3, Zs, Lv q4, Zs, Lv q5, Zs, Iv p6, Iv (1 : Int32), Iv (2 : Int32), Lv mi1, Zs, Lv ma1, Zs, Rv b_449, Rv b_473, Rv b_516, Rv b_548, Us, Us, Us] [(.long q4), (.long q1)])) tt_
        refine XS.lcmp X_572.here hEX rfl (hb hBY at_201) rfl ?_
        exact kt_
      refine Done.pre sg_603 ?_
      by_cases hc202 : q4 < q1
      · skip
        have sg_604 : ∀ tt_, Steps p.tables e below (T_572.setTop (mkF m 210 #[Lv q1, Zs, Lv q2, Zs, Lv q3, Zs, Lv q4, Zs, Lv q5, Zs, Iv p6, Iv (1 : Int32), Iv (2 : Int32), Lv mi1, Zs, Lv ma1, Zs, Rv b_449, Rv b_473, Rv b_516, Rv b_548, Us, Us, Us] [(.int (0 : Int32))])) tt_ → Steps p.tables e below (T_572.setTop (mkF m 202 #[Lv q1, Zs, Lv q2, Zs, Lv q3, Zs, Lv q4, Zs, Lv q5, Zs, Iv p6, Iv (1 : Int32), Iv (2 : Int32), Lv mi1, Zs, Lv ma1, Zs, Rv b_449, Rv b_473, Rv b_516, Rv b_548, Us, Us, Us] [(.int (lcmpW q1 q4))])) tt_ := by
          intro tt_ kt_
          refine XS.ifYes X_572.here hEX rfl (pc0 := 202) (pc' := 209) rfl (hb hBY at_202) rfl ((if0 _ _).trans (tlt ((lw_gt _ _).mpr hc202)).2.2.1) (by decide) (by decide) ?_
          show Steps p.tables e below (T_572.setTop (mkF m 209 #[Lv q1, Zs, Lv q2, Zs, Lv q3, Zs, Lv q4, Zs, Lv q5, Zs, Iv p6, Iv (1 : Int32), Iv (2 : Int32), Lv mi1, Zs, Lv ma1, Zs, Rv b_449, Rv b_473, Rv b_516, Rv b_548, Us, Us, Us] [])) tt_
          refine XS.iconst X_572.here hEX rfl (hb hBY at_209) ?_
          exact kt_
        refine Done.pre sg_604 ?_
        exact jn_583 ((0 : Int32)) (by rw [own_in1]; first | rw [if_pos hc195] | rw [if_neg hc195, if_pos hc202] | rw [if_neg hc195, if_neg hc202])
      · skip
        have sg_605 : ∀ tt_, Steps p.tables e below (T_572.setTop (mkF m 210 #[Lv q1, Zs, Lv q2, Zs, Lv q3, Zs, Lv q4, Zs, Lv q5, Zs, Iv p6, Iv (1 : Int32), Iv (2 : Int32), Lv mi1, Zs, Lv ma1, Zs, Rv b_449, Rv b_473, Rv b_516, Rv b_548, Us, Us, Us] [(.int (1 : Int32))])) tt_ → Steps p.tables e below (T_572.setTop (mkF m 202 #[Lv q1, Zs, Lv q2, Zs, Lv q3, Zs, Lv q4, Zs, Lv q5, Zs, Iv p6, Iv (1 : Int32), Iv (2 : Int32), Lv mi1, Zs, Lv ma1, Zs, Rv b_449, Rv b_473, Rv b_516, Rv b_548, Us, Us, Us] [(.int (lcmpW q1 q4))])) tt_ := by
          intro tt_ kt_
          refine XS.ifNo X_572.here hEX rfl (hb hBY at_202) rfl ((if0 _ _).trans (flt (fun q => hc202 ((lw_gt _ _).mp q))).2.2.1) ?_
          show Steps p.tables e below (T_572.setTop (mkF m 205 #[Lv q1, Zs, Lv q2, Zs, Lv q3, Zs, Lv q4, Zs, Lv q5, Zs, Iv p6, Iv (1 : Int32), Iv (2 : Int32), Lv mi1, Zs, Lv ma1, Zs, Rv b_449, Rv b_473, Rv b_516, Rv b_548, Us, Us, Us] [])) tt_
          refine XS.iconst X_572.here hEX rfl (hb hBY at_205) ?_
          show Steps p.tables e below (T_572.setTop (mkF m 206 #[Lv q1, Zs, Lv q2, Zs, Lv q3, Zs, Lv q4, Zs, Lv q5, Zs, Iv p6, Iv (1 : Int32), Iv (2 : Int32), Lv mi1, Zs, Lv ma1, Zs, Rv b_449, Rv b_473, Rv b_516, Rv b_548, Us, Us, Us] [(.int (1 : Int32))])) tt_
          refine XS.goto X_572.here hEX rfl (pc0 := 206) (pc' := 210) rfl (hb hBY at_206) (by decide) (by decide) ?_
          exact kt_
        refine Done.pre sg_605 ?_
        exact jn_583 ((1 : Int32)) (by rw [own_in1]; first | rw [if_pos hc195] | rw [if_neg hc195, if_pos hc202] | rw [if_neg hc195, if_neg hc202])
set_option maxRecDepth 65536 in
set_option maxHeartbeats 40000000 in
theorem comes_1 {Post : Tables → Env → Array Value → State → Outcome → State → Prop} (hpost : ∀ tb e args s v u, (limb_1_1.after args s (.returned v) u = true ∧ limb_1_2.after args s (.returned v) u = true ∧ True) → FrameEnd s (.returned v) u (Jvm.fieldLocs frame_1_writes args s ++ Jvm.arrayLocs frame_1_arrays args s ++ Jvm.staticLocs frame_1_statics s) 24 128 → Post tb e args s (.returned v) u) :
    ArmFor flags0 classFile x code maxLocals ret World_1 tables_1 room_1 Calls_1 rest_1 Pre_1 Post := by
  intro l hfl _ _ p e ha hc hk s m args below hf hA hF happ hP
  obtain ⟨hcalls, hrest, hpre⟩ := hP
  obtain ⟨-, -, -, hnamed, -, -, -, hat⟩ := (Spec.applies_iff hf).mp happ
  obtain ⟨hg, hn⟩ := and_e (Cond.before_iff.mp (show (Jvm.Cond.and given_1 narrow_1).before args s = true from hpre))
  obtain ⟨g1a, g1b⟩ := and_e hg
  obtain ⟨g2a, g2b⟩ := and_e g1b
  obtain ⟨g3a, g3b⟩ := and_e g2b
  obtain ⟨g4a, g4b⟩ := and_e g3b
  obtain ⟨g5a, g5b⟩ := and_e g4b
  obtain ⟨g6a, g6b⟩ := and_e g5b
  obtain ⟨w0, w1, w2, w3, w4, w5, rfl⟩ : ∃ w0 w1 w2 w3 w4 w5 : Value, args = #[w0, w1, w2, w3, w4, w5] := by
    have hs : args.size = 6 := by simpa [Cond.value, given_1] using g1a
    obtain ⟨L⟩ := args
    match L, hs with
    | [w0, w1, w2, w3, w4, w5], _ => exact ⟨w0, w1, w2, w3, w4, w5, rfl⟩
  have hw := fun d (hd : d ∈ tables_1) => atoms_spec (ws := Jvm.Cond.code x code maxLocals ret :: tables_1) hat d (List.mem_cons_of_mem _ hd)
  have hfit : Fit s := fun {y c} hc i hi => by
    obtain ⟨ha, rfl⟩ := Array.getElem?_eq_some_iff.mp hc
    have q := List.all_eq_true.mp ((Array.all_eq_true_iff_forall_mem.mp hF) _ (Array.getElem_mem ha)) i (List.mem_range.mpr hi)
    simpa [Array.getElem?_eq_getElem hi] using q
  obtain ⟨i0, ei0⟩ := isL_v g2a
  obtain rfl : w0 = (.long i0) := Option.some.inj ei0
  obtain ⟨i1, ei1⟩ := isL_v g3a
  obtain rfl : w1 = (.long i1) := Option.some.inj ei1
  obtain ⟨i2, ei2⟩ := isL_v g4a
  obtain rfl : w2 = (.long i2) := Option.some.inj ei2
  obtain ⟨i3, ei3⟩ := isL_v g5a
  obtain rfl : w3 = (.long i3) := Option.some.inj ei3
  obtain ⟨i4, ei4⟩ := isL_v g6a
  obtain rfl : w4 = (.long i4) := Option.some.inj ei4
  obtain ⟨i5, ei5⟩ := is_v g6b
  obtain rfl : w5 = (.int i5) := Option.some.inj ei5
  obtain ⟨n, o, h1, h2, h3, _, L, rfl, ⟨rfl, N, -⟩, hq⟩ := rm0 l s _ hw tables_1 i0 i1 i2 i3 i4 i5  s.heap s.heap.size (Nat.le_refl _)  p e ha hc hk s m _ below hf ((Spec.applies_iff_loose hf).mp happ).1 ⟨rfl, State.Warmed39.refl s, rfl⟩ trivial
  refine ⟨n, _, h1, h2, h3, hpost _ _ _ _ _ _ ⟨Cond.after_iff.mpr rfl, Cond.after_iff.mpr (eq_i res_at (Term.int_eval (1)) rfl), trivial⟩ ⟨hq.1, hq.2.1, (hq.2.2.sift fun y hy => Or.inr (N y hy)).mono (by decide) (by decide)⟩⟩
theorem main_1_1 : Claimed_1_1 := comes_1 fun _ _ _ _ _ _ h hF => ⟨h.1, hF⟩
theorem main_1_2 : Claimed_1_2 := comes_1 fun _ _ _ _ _ _ h hF => ⟨h.2.1, hF⟩
end Jvm.Pilot.@@N@@
namespace Jvm.Pilot.@@N@@
open Jvm Jvm.ClassFile Sem Op Lib Jvm.Free Jvm.Stand Jvm.Pilot.@@N@@.Jvm.D
/-! MADE BY PROGRAM (witnessworld.py) out of the Statement's table words and the real class files: 11 classes; the members and pool entries that the words name. The judged class is class 1, her method 2. -/
namespace start1
open Jvm.ClassFile
def u (s : String) : CpInfo := .utf8 (stringToUtf16 s)
/-- a pool by its gaps: so many unusable entries, then the entry; so many at the end -/
def gap : Nat → List CpInfo → List CpInfo
  | 0, r => r
  | n + 1, r => .unusable :: gap n r
def poolList (es : List (Nat × CpInfo)) (last : Nat) : List CpInfo := es.foldr (fun e r => gap e.1 (e.2 :: r)) (gap last [])
def pool (es : List (Nat × CpInfo)) (last : Nat) : Array CpInfo := ⟨poolList es last⟩
def fileOf (pool : Array CpInfo) (this : Nat) (attrs : Array Attribute := #[]) (ms : Array MethodInfo := #[]) (fl : Nat := 33) (sup : Nat := 0) (ifs : Array Nat := #[]) (fds : Array FieldInfo := #[]) : ClassFile where
  minorVersion := 0
  majorVersion := 65
  constantPool := pool
  accessFlags := fl
  thisClass := this
  superClass := sup
  interfaces := ifs
  fields := fds
  methods := ms
  attributes := attrs
def plain (name : String) (sup : Option ClassId) : Class where
  name := name
  kind := .ordinary
  loader := none
  accessFlags := 33
  super := sup
  interfaces := #[]
  cf := none
  fields := #[]
  methods := #[]
  instanceTypes := #[]
  staticTypes := #[]
  resolved := #[]
  callSites := []
  init := .initialized
  statics := none
  mirror := none

def pool0 : Array CpInfo := pool [(5, u "<init>"), (0, u "()V"), (1, .class_ 10), (1, u "java/lang/Object")] 113

def k0c0 : Code := { maxStack := 0, maxLocals := 1, code := object_method_1_code, exceptionTable := #[], attributes := #[] }
def k0m0 : Method := { name := "<init>", desc := "()V", sig := { parameters := [], returnType := none }, accessFlags := 1, code := some k0c0 }
/-- java/lang/Object -/
def k0 : Class := { plain "java/lang/Object" none with
  accessFlags := 33
  interfaces := #[]
  cf := some (fileOf pool0 8 #[] #[{ accessFlags := 1, nameIndex := 5, descriptorIndex := 6, attributes := #[] }] 33 0 #[] #[])
  fields := #[]
  methods := #[k0m0]
  instanceTypes := #[]
  staticTypes := #[]
  resolved := Array.replicate 124 none
  statics := none }

def pool1 : Array CpInfo := pool [(2, .class_ 4), (1, u "java/lang/Object"), (0, u "<init>"), (0, u "()V"), (2, .long 9223372036854775808), (1, .long 9223372036854775807), (1, .methodref 14 15), (0, .class_ 16), (0, .nameAndType 17 18), (0, u "com/example/pointcell/pointcell/LeafIsInsidePinLaw"), (0, u "pick"), (0, u "(IJJ)J"), (0, .class_ 20), (0, u "com/example/pointcell/pointcell/Leaf"), (0, .methodref 19 22), (0, .nameAndType 5 23), (0, u "(I[I[J)V"), (0, .methodref 19 25), (0, .nameAndType 26 27), (0, u "isInside"), (0, u "(I[J[J)Z"), (3, u "law"), (0, u "(JJJJJI)Z")] 4

def k1m0 : Method := { name := "<init>", desc := "()V", sig := { parameters := [], returnType := none }, accessFlags := 1, code := none }
def k1c1 : Code := { maxStack := 2, maxLocals := 5, code := method_2_code, exceptionTable := #[], attributes := #[] }
def k1m1 : Method := { name := "pick", desc := "(IJJ)J", sig := { parameters := [.int, .long, .long], returnType := some .long }, accessFlags := 10, code := some k1c1 }
def k1c2 : Code := { maxStack := 7, maxLocals := 24, code := code, exceptionTable := #[], attributes := #[] }
def k1m2 : Method := { name := "law", desc := "(JJJJJI)Z", sig := { parameters := [.long, .long, .long, .long, .long, .int], returnType := some .boolean }, accessFlags := 9, code := some k1c2 }
/-- com/example/pointcell/pointcell/LeafIsInsidePinLaw -/
def k1 : Class := { plain "com/example/pointcell/pointcell/LeafIsInsidePinLaw" (some 0) with
  accessFlags := 49
  interfaces := #[]
  cf := some (fileOf pool1 14 #[] #[{ accessFlags := 1, nameIndex := 5, descriptorIndex := 6, attributes := #[] }, { accessFlags := 10, nameIndex := 17, descriptorIndex := 18, attributes := #[] }, { accessFlags := 9, nameIndex := 31, descriptorIndex := 32, attributes := #[] }] 49 2 #[] #[])
  fields := #[]
  methods := #[k1m0, k1m1, k1m2]
  instanceTypes := #[]
  staticTypes := #[]
  resolved := Array.replicate 37 none
  statics := none }

def pool2 : Array CpInfo := pool [(1, .methodref 2 3), (0, .class_ 4), (0, .nameAndType 5 6), (0, u "java/lang/Object"), (0, u "<init>"), (0, u "()V"), (0, .fieldref 8 9), (0, .class_ 10), (0, .nameAndType 11 12), (0, u "com/example/pointcell/pointcell/Leaf"), (0, u "dimensions"), (0, u "I"), (0, .fieldref 8 14), (0, .nameAndType 15 16), (0, u "docIds"), (0, u "[I"), (0, .fieldref 8 18), (0, .nameAndType 19 20), (0, u "keys"), (0, u "[J"), (31, u "(I[I[J)V"), (23, u "isInside"), (0, u "(I[J[J)Z")] 24

def k2c0 : Code := { maxStack := 2, maxLocals := 4, code := prog_18_method_1_code, exceptionTable := #[], attributes := #[] }
def k2m0 : Method := { name := "<init>", desc := "(I[I[J)V", sig := { parameters := [.int, (.array .int), (.array .long)], returnType := none }, accessFlags := 0, code := some k2c0 }
def k2c1 : Code := { maxStack := 4, maxLocals := 8, code := prog_18_method_6_code, exceptionTable := #[], attributes := #[] }
def k2m1 : Method := { name := "isInside", desc := "(I[J[J)Z", sig := { parameters := [.int, (.array .long), (.array .long)], returnType := some .boolean }, accessFlags := 0, code := some k2c1 }
/-- com/example/pointcell/pointcell/Leaf -/
def k2 : Class := { plain "com/example/pointcell/pointcell/Leaf" (some 0) with
  accessFlags := 49
  interfaces := #[]
  cf := some (fileOf pool2 8 #[] #[{ accessFlags := 0, nameIndex := 5, descriptorIndex := 52, attributes := #[] }, { accessFlags := 0, nameIndex := 76, descriptorIndex := 77, attributes := #[] }] 49 2 #[] #[{ accessFlags := 18, nameIndex := 11, descriptorIndex := 12, attributes := #[] }, { accessFlags := 18, nameIndex := 15, descriptorIndex := 16, attributes := #[] }, { accessFlags := 18, nameIndex := 19, descriptorIndex := 20, attributes := #[] }])
  fields := #[{ name := "dimensions", type := .int, accessFlags := 18, slot := 0, constantValue := 0 }, { name := "docIds", type := (.array .int), accessFlags := 18, slot := 1, constantValue := 0 }, { name := "keys", type := (.array .long), accessFlags := 18, slot := 2, constantValue := 0 }]
  methods := #[k2m0, k2m1]
  instanceTypes := #[.int, (.array .int), (.array .long)]
  staticTypes := #[]
  resolved := Array.replicate 102 none
  statics := none }

def pool3 : Array CpInfo := pool [(1, u "java/lang/Cloneable"), (0, .class_ 1), (0, u "java/lang/Object"), (0, .class_ 3)] 3

/-- java/lang/Cloneable -/
def k3 : Class := { plain "java/lang/Cloneable" (some 0) with
  accessFlags := 1537
  interfaces := #[]
  cf := some (fileOf pool3 2 #[] #[] 1537 4 #[] #[])
  fields := #[]
  methods := #[]
  instanceTypes := #[]
  staticTypes := #[]
  resolved := Array.replicate 8 none
  statics := none }

def pool4 : Array CpInfo := pool [(1, u "java/io/Serializable"), (0, .class_ 1), (0, u "java/lang/Object"), (0, .class_ 3)] 3

/-- java/io/Serializable -/
def k4 : Class := { plain "java/io/Serializable" (some 0) with
  accessFlags := 1537
  interfaces := #[]
  cf := some (fileOf pool4 2 #[] #[] 1537 4 #[] #[])
  fields := #[]
  methods := #[]
  instanceTypes := #[]
  staticTypes := #[]
  resolved := Array.replicate 8 none
  statics := none }

/-- the primitive byte -/
def k5 : Class := { plain "byte" none with kind := .primitive 'B', accessFlags := 0x411 }
/-- [B -/
def k6 : Class := { plain "[B" (some 0) with kind := .array 5 .byte, interfaces := #[3, 4], accessFlags := 1041 }

/-- the primitive int -/
def k7 : Class := { plain "int" none with kind := .primitive 'I', accessFlags := 0x411 }
/-- [I -/
def k8 : Class := { plain "[I" (some 0) with kind := .array 7 .int, interfaces := #[3, 4], accessFlags := 1041 }

/-- the primitive long -/
def k9 : Class := { plain "long" none with kind := .primitive 'J', accessFlags := 0x411 }
/-- [J -/
def k10 : Class := { plain "[J" (some 0) with kind := .array 9 .long, interfaces := #[3, 4], accessFlags := 1041 }

def heap : Heap := #[]
def classes : Array Class := #[k0, k1, k2, k3, k4, k5, k6, k7, k8, k9, k10]
def interned : List (Array UInt16 × Addr) := []
def slotsUsed : Nat := 0
def theMethod : MethodId := ⟨1, 2⟩
def args0 : Array Value := #[.long 7, .long 8, .long 9, .long 3, .long 2, .int 5]
def aboutOver (below : List Frame) : State where
  vm := { classes := classes, interned := interned.toArray }
  heap := heap
  slotsUsed := slotsUsed
  threads := #[{ frames := .invoking theMethod args0 :: below }]
def below0 : List Frame := [.native { method := ⟨0, 0⟩, args := #[] }]
def about1 : State := aboutOver below0
def p0 : Program := .bare "" "" ""
def e0 : Env := launch0.env 0 0 0
theorem w_frames : about1.frames = Frame.invoking theMethod args0 :: below0 := rfl
set_option maxRecDepth 65536 in
theorem w_args : argsFit about1.vm theMethod args0 = true := by decide +kernel
set_option maxRecDepth 65536 in
theorem w_heap : heapFits about1 = true := by decide +kernel
set_option maxRecDepth 65536 in
theorem w_runnable : about1.curStatus? = some .runnable := by decide +kernel
set_option maxRecDepth 65536 in
theorem w_alone : about1.alone = true := by decide +kernel
set_option maxRecDepth 65536 in
theorem w_named : about1.methodNamed? x = some theMethod := by decide +kernel
set_option maxRecDepth 65536 in
theorem w_hears : about1.hears theMethod below0 = true := by decide +kernel
set_option maxRecDepth 65536 in
theorem w_ripe : about1.ripe theMethod args0 below0 = true := by decide +kernel
theorem w_running : about1.status = .running := rfl
set_option maxRecDepth 65536 in
theorem w_room : about1.hasRoom e0.platform room_1 = true :=
  launch0.hasRoom_least _ room_1 (by decide +kernel) (by decide +kernel) (by decide +kernel) (by decide +kernel) (by decide +kernel) (by decide +kernel)
theorem allAtoms_all (ts : List Jvm.Cond) (a : Array Jvm.Value) (st : Jvm.State) : (allAtoms ts).before a st = ts.all (fun c => c.before a st) := by
  induction ts with
  | nil => rfl
  | cons c t ih =>
    show (Jvm.Cond.and c (allAtoms t)).before a st = _
    rw [Jvm.Cond.before_and, ih, List.all_cons]
def words1 : List Jvm.Cond := Jvm.Cond.code x code maxLocals ret :: tables_1
/-- a 'code' word, met by the world's own term for the bytes: nothing is compared byte by byte -/
theorem code_word {y : MethodName} {bytes : ByteArray} {mx : Nat} {rt : Option FieldType} {a : Array Value} {s : State} {m : MethodId} {meth : Method} {c : Code} (h1 : s.methodNamed? y = some m) (h2 : s.vm.method? m = some meth) (h3 : meth.code = some c) (h4 : c.code = bytes)
    (h5 : (c.maxLocals == mx && c.exceptionTable.isEmpty && decide (c.maxStack ≤ mostOperands) && decide (meth.sig.returnType = rt) && !meth.locks && decide (parseMethodDescriptor y.desc = some meth.sig)) = true) : (Jvm.Cond.code y bytes mx rt).before a s = true := by
  simp only [Bool.and_eq_true, beq_iff_eq, Bool.not_eq_true', decide_eq_true_eq] at h5
  obtain ⟨⟨⟨⟨⟨g1, g2⟩, g3⟩, g4⟩, g5⟩, g6⟩ := h5
  simp [Cond.before, Cond.holds, Cond.value, h1, h2, h3, h4, g1, g2, g3, g4, g5, g6]
def isCode : Jvm.Cond → Bool
  | .code _ _ _ _ => true
  | _ => false
theorem all_split {L : List Jvm.Cond} {P : Jvm.Cond → Bool} (h1 : L.all (fun c => isCode c || P c) = true) (h2 : ∀ c ∈ L.filter isCode, P c = true) : L.all P = true := by
  refine List.all_eq_true.mpr fun c hc => ?_
  have h := List.all_eq_true.mp h1 c hc
  rcases Bool.eq_false_or_eq_true (isCode c) with hi | hi
  · exact h2 c (List.mem_filter.mpr ⟨hc, hi⟩)
  · simpa [hi] using h
set_option maxRecDepth 65536 in
theorem w_c0 : (Jvm.Cond.code x code maxLocals ret).before args0 about1 = true := code_word (m := ⟨1, 2⟩) (meth := k1m2) (c := k1c2) (by decide +kernel) rfl rfl rfl (by decide +kernel)
set_option maxRecDepth 65536 in
theorem w_c1 : (Jvm.Cond.code ({ cls := "com/example/pointcell/pointcell/LeafIsInsidePinLaw", name := "pick", desc := "(IJJ)J" } : Jvm.MethodName) method_2_code (5 : Nat) (Option.some Jvm.ClassFile.FieldType.long)).before args0 about1 = true := code_word (m := ⟨1, 1⟩) (meth := k1m1) (c := k1c1) (by decide +kernel) rfl rfl rfl (by decide +kernel)
set_option maxRecDepth 65536 in
theorem w_c2 : (Jvm.Cond.code ({ cls := "com/example/pointcell/pointcell/Leaf", name := "<init>", desc := "(I[I[J)V" } : Jvm.MethodName) prog_18_method_1_code (4 : Nat) (Option.none : Option Jvm.ClassFile.FieldType)).before args0 about1 = true := code_word (m := ⟨2, 0⟩) (meth := k2m0) (c := k2c0) (by decide +kernel) rfl rfl rfl (by decide +kernel)
set_option maxRecDepth 65536 in
theorem w_c3 : (Jvm.Cond.code ({ cls := "java/lang/Object", name := "<init>", desc := "()V" } : Jvm.MethodName) object_method_1_code (1 : Nat) (Option.none : Option Jvm.ClassFile.FieldType)).before args0 about1 = true := code_word (m := ⟨0, 0⟩) (meth := k0m0) (c := k0c0) (by decide +kernel) rfl rfl rfl (by decide +kernel)
set_option maxRecDepth 65536 in
theorem w_c4 : (Jvm.Cond.code ({ cls := "com/example/pointcell/pointcell/Leaf", name := "isInside", desc := "(I[J[J)Z" } : Jvm.MethodName) prog_18_method_6_code (8 : Nat) (Option.some Jvm.ClassFile.FieldType.boolean)).before args0 about1 = true := code_word (m := ⟨2, 1⟩) (meth := k2m1) (c := k2c1) (by decide +kernel) rfl rfl rfl (by decide +kernel)
def codes1 : List Jvm.Cond := [Jvm.Cond.code x code maxLocals ret, Jvm.Cond.code ({ cls := "com/example/pointcell/pointcell/LeafIsInsidePinLaw", name := "pick", desc := "(IJJ)J" } : Jvm.MethodName) method_2_code (5 : Nat) (Option.some Jvm.ClassFile.FieldType.long), Jvm.Cond.code ({ cls := "com/example/pointcell/pointcell/Leaf", name := "<init>", desc := "(I[I[J)V" } : Jvm.MethodName) prog_18_method_1_code (4 : Nat) (Option.none : Option Jvm.ClassFile.FieldType), Jvm.Cond.code ({ cls := "java/lang/Object", name := "<init>", desc := "()V" } : Jvm.MethodName) object_method_1_code (1 : Nat) (Option.none : Option Jvm.ClassFile.FieldType), Jvm.Cond.code ({ cls := "com/example/pointcell/pointcell/Leaf", name := "isInside", desc := "(I[J[J)Z" } : Jvm.MethodName) prog_18_method_6_code (8 : Nat) (Option.some Jvm.ClassFile.FieldType.boolean)]
set_option maxRecDepth 65536 in
theorem codes_eq : words1.filter isCode = codes1 := rfl
theorem w_codes : ∀ c ∈ words1.filter isCode, c.before args0 about1 = true := by
  rw [codes_eq]
  intro c hc
  simp only [codes1, List.mem_cons, List.not_mem_nil, or_false] at hc
  rcases hc with rfl | rfl | rfl | rfl | rfl
  · exact w_c0
  · exact w_c1
  · exact w_c2
  · exact w_c3
  · exact w_c4
set_option maxRecDepth 65536 in
theorem w_t1 : (words1.take 24).all (fun c => isCode c || c.before args0 about1) = true := by decide +kernel
set_option maxRecDepth 65536 in
theorem w_t2 : (words1.drop 24).all (fun c => isCode c || c.before args0 about1) = true := by decide +kernel
theorem w_tables : (allAtoms (Jvm.Cond.code x code maxLocals ret :: tables_1)).before args0 about1 = true := by
  rw [allAtoms_all]
  show words1.all (fun c => c.before args0 about1) = true
  refine all_split ?_ w_codes
  rw [← List.take_append_drop 24 words1, List.all_append, w_t1, w_t2]
  rfl
set_option maxRecDepth 65536 in
theorem w_case : (Jvm.Cond.and given_1 narrow_1).before args0 about1 = true := by decide +kernel
theorem w_applies : (headSpec (Jvm.Cond.code x code maxLocals ret :: tables_1) room_1).applies x e0.platform about1 = true :=
  (Spec.applies_iff w_frames).mpr ⟨w_running, w_runnable, w_alone, w_named, w_hears, w_ripe, w_room, w_tables⟩
theorem atStart : AtStart classFile x code maxLocals ret World_1 tables_1 room_1 Calls_1 rest_1 Pre_1 launch0 p0 e0 about1 theMethod args0 below0 :=
  ⟨lists_1, trivial, launch0.admits_env _ _ _, launch0.least_env, fairChoices_fair.cas, fairChoices_fair.clock, w_frames, w_args, w_heap, w_applies, trivial, trivial, w_case⟩
end start1
theorem witness_1 : WitnessClaimed_1 := ⟨start1.p0, start1.e0, start1.about1, start1.theMethod, start1.args0, start1.below0, start1.atStart⟩
end Jvm.Pilot.@@N@@
