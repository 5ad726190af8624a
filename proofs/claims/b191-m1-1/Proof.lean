import JvmDerived
import JvmDerived.Pilot.@@N@@Statement
import JvmDerived.Pilot.@@N@@Code
set_option linter.unusedVariables false
set_option linter.unusedSimpArgs false
namespace Jvm.RoadKit
open Sem ClassFile Op Lib Jvm.Stand Jvm.Free Jvm.LawKit
section New
variable {p : Program} {l : Launch} {e : Env} {R : Room} {s : State} {m : MethodId} {args : Array Value} {below : List Frame} {meth : Method} {c : Code} {T : State} {locs : List Loc} {cells slots : Nat}
theorem retI (X : Stand p l e R s m args below meth c T locs cells slots) (hEX : p.tables.exec = Jvm.exec) {pc : Nat} {Ls : Array Slot} {z : Int32} {rest : List Value} (hRT : meth.sig.returnType = some .int) (hd : decode c.code pc = .ok (.ireturn, 1)) {fs : List Frame}
    (hl : ∀ (f : JFrame) (acts : List Action), f.method = m → f.locked = none → f.entered = [] → (doReturn e (T.setTop f) acts (some (.int z))).1 = T.setFrames fs) : Steps p.tables e below (T.setTop (mkF m pc Ls (.int z :: rest))) (T.setFrames fs) := by
  have hm' : T.vm.method? m = some meth := X.method'
  have hn : narrow .int (.int z) = .int z := rfl
  show Steps p.tables e below (T.setTop { method := m, pc := pc, locals := Ls, stack := _ :: rest, locked := none }) _
  jvm_step X.here [X.here.top, hEX, hd, hm', hRT, hn]
  first | (intro acts; rw [hl _ acts rfl rfl rfl]) | rw [hl _ _ rfl rfl rfl]
  exact Steps.refl _
abbrev Us : Slot := .unset
abbrev Zs : Slot := .second
abbrev Nv : Slot := .val .null
abbrev Iv (x : Int32) : Slot := .val (.int x)
abbrev Lv (x : Int64) : Slot := .val (.long x)
abbrev Rv (x : Addr) : Slot := .val (.ref x)
/-- the body comes to its end from st: it returns v, and Q holds of v, of the heap and of the places written -/
def Done (p : Program) (e : Env) (below : List Frame) (s : State) (Q : Option Value → Heap → List Loc → Prop) (kc ks : Nat) (st : State) : Prop :=
  ∃ (s₂ : State) (o : Outcome), Steps p.tables e below st s₂ ∧ s₂.status = .running ∧ Ended s₂ below o ∧ ∃ v L, o = .returned v ∧ Q v s₂.heap L ∧ FrameEnd s o s₂ L kc ks
variable {Q : Option Value → Heap → List Loc → Prop} {kc ks : Nat}
theorem Done.pre {st st' : State} (h : ∀ t, Steps p.tables e below st' t → Steps p.tables e below st t) (D : Done p e below s Q kc ks st') : Done p e below s Q kc ks st := by
  obtain ⟨s₂, o, h1, r⟩ := D
  exact ⟨s₂, o, h _ h1, r⟩
theorem Done.retI (X : Stand p l e R s m args below meth c T locs cells slots) (hEX : p.tables.exec = Jvm.exec) (hLK : meth.locks = false) {pc : Nat} {Ls : Array Slot} {z : Int32} {rest : List Value} (hRT : meth.sig.returnType = some .int) (hd : decode c.code pc = .ok (.ireturn, 1))
    (hQ : Q (some (.int z)) T.heap locs) (hc : cells ≤ kc) (hs : slots ≤ ks) : Done p e below s Q kc ks (T.setTop (mkF m pc Ls (.int z :: rest))) := by
  obtain ⟨fs, hr, hrun, hended, hW, hsame⟩ := X.leave (v := some (.int z)) (fun h => by rw [hRT] at h; cases h) hLK
  exact ⟨_, _, Jvm.RoadKit.retI X hEX hRT hd hr, hrun, hended, _, _, rfl, hQ, ⟨_, rfl⟩, hW, hsame.mono hc hs⟩
theorem Done.retN (X : Stand p l e R s m args below meth c T locs cells slots) (hEX : p.tables.exec = Jvm.exec) (hLK : meth.locks = false) {pc : Nat} {Ls : Array Slot} {z : Int32} {t : FieldType} {rest : List Value} (hRT : meth.sig.returnType = some t) (ht : t = .boolean ∨ t = .byte ∨ t = .char ∨ t = .short) (hd : decode c.code pc = .ok (.ireturn, 1))
    (hQ : Q (some (.int (nar t z))) T.heap locs) (hc : cells ≤ kc) (hs : slots ≤ ks) : Done p e below s Q kc ks (T.setTop (mkF m pc Ls (.int z :: rest))) := by
  obtain ⟨fs, hr, hrun, hended, hW, hsame⟩ := X.leave (v := some (.int (nar t z))) (fun h => by rw [hRT] at h; cases h) hLK
  exact ⟨_, _, Jvm.RoadKit.retN X hEX hRT ht hd hr, hrun, hended, _, _, rfl, hQ, ⟨_, rfl⟩, hW, hsame.mono hc hs⟩
theorem Done.retL (X : Stand p l e R s m args below meth c T locs cells slots) (hEX : p.tables.exec = Jvm.exec) (hLK : meth.locks = false) {pc : Nat} {Ls : Array Slot} {z : Int64} {rest : List Value} (hRT : meth.sig.returnType = some .long) (hd : decode c.code pc = .ok (.lreturn, 1))
    (hQ : Q (some (.long z)) T.heap locs) (hc : cells ≤ kc) (hs : slots ≤ ks) : Done p e below s Q kc ks (T.setTop (mkF m pc Ls (.long z :: rest))) := by
  obtain ⟨fs, hr, hrun, hended, hW, hsame⟩ := X.leave (v := some (.long z)) (fun h => by rw [hRT] at h; cases h) hLK
  exact ⟨_, _, retOut X hEX hRT rfl (Or.inr (Or.inl ⟨rfl, rfl, _, rfl⟩)) hd hr, hrun, hended, _, _, rfl, hQ, ⟨_, rfl⟩, hW, hsame.mono hc hs⟩
theorem Done.retA (X : Stand p l e R s m args below meth c T locs cells slots) (hEX : p.tables.exec = Jvm.exec) (hLK : meth.locks = false) {pc : Nat} {Ls : Array Slot} {w : Value} {t : FieldType} {rest : List Value} (hRT : meth.sig.returnType = some t) (ht : t.isReference = true) (hw : w.isRef = true) (hd : decode c.code pc = .ok (.areturn, 1))
    (hQ : Q (some w) T.heap locs) (hc : cells ≤ kc) (hs : slots ≤ ks) : Done p e below s Q kc ks (T.setTop (mkF m pc Ls (w :: rest))) := by
  obtain ⟨fs, hr, hrun, hended, hW, hsame⟩ := X.leave (v := some w) (fun h => by rw [hRT] at h; cases h) hLK
  have hn : narrow t w = w := by cases t <;> first | rfl | (simp [FieldType.isReference] at ht)
  exact ⟨_, _, retOut X hEX hRT hn (Or.inr (Or.inr (Or.inr (Or.inr ⟨rfl, ht, hw⟩)))) hd hr, hrun, hended, _, _, rfl, hQ, ⟨_, rfl⟩, hW, hsame.mono hc hs⟩
theorem Done.retV (X : Stand p l e R s m args below meth c T locs cells slots) (hEX : p.tables.exec = Jvm.exec) (hLK : meth.locks = false) {pc : Nat} {Ls : Array Slot} (hRT : meth.sig.returnType = none) (hd : decode c.code pc = .ok (.return_, 1))
    (hQ : Q none T.heap locs) (hc : cells ≤ kc) (hs : slots ≤ ks) : Done p e below s Q kc ks (T.setTop (mkF m pc Ls [])) := by
  obtain ⟨fs, hr, hrun, hended, hW, hsame⟩ := X.leave (v := none) (fun _ => rfl) hLK
  exact ⟨_, _, X.returnOut hEX hRT hd hr, hrun, hended, _, _, rfl, hQ, ⟨_, rfl⟩, hW, hsame.mono hc hs⟩
end New
end Jvm.RoadKit
namespace Jvm.Pilot.@@N@@
open Jvm Jvm.ClassFile Sem Op Lib Jvm.Free Jvm.Stand Jvm.LawKit Jvm.RoadKit Bundle Jvm.Pilot.@@N@@.Jvm.D

def own_max (x y : Int32) : Int32 := if x < y then y else x
theorem own_l63 (x : Int64) : ¬ (x &&& (9223372036854775807 : Int64)) < (0 : Int64) := by
  rw [Int64.lt_iff_toInt_lt, c_maskL x _ 63 (by decide) (by decide +kernel)]
  have e : (0 : Int64).toInt = 0 := rfl
  omega
theorem own_i31 (x : Int32) : ¬ (x &&& (2147483647 : Int32)) < (0 : Int32) := by
  rw [Int32.lt_iff_toInt_lt, c_mask x _ 31 (by decide) (by decide +kernel)]
  have e : (0 : Int32).toInt = 0 := rfl
  omega
theorem own_max1 (y : Int32) : ¬ own_max (1 : Int32) y < (1 : Int32) := by
  rw [own_max]
  split
  · rename_i h
    rw [Int32.lt_iff_toInt_lt] at *; omega
  · decide
theorem d_jdk_29_method_65_code_0 : decode jdk_29_method_65_code 0 = .ok (.iload_n 0, 1) := by decide +kernel
theorem d_jdk_29_method_65_code_1 : decode jdk_29_method_65_code 1 = .ok (.iload_n 1, 1) := by decide +kernel
theorem d_jdk_29_method_65_code_2 : decode jdk_29_method_65_code 2 = .ok (.if_icmp .lt 7, 3) := by decide +kernel
theorem d_jdk_29_method_65_code_9 : decode jdk_29_method_65_code 9 = .ok (.iload_n 1, 1) := by decide +kernel
theorem d_jdk_29_method_65_code_10 : decode jdk_29_method_65_code 10 = .ok (.ireturn, 1) := by decide +kernel
theorem d_jdk_29_method_65_code_5 : decode jdk_29_method_65_code 5 = .ok (.iload_n 0, 1) := by decide +kernel
theorem d_jdk_29_method_65_code_6 : decode jdk_29_method_65_code 6 = .ok (.goto 4, 3) := by decide +kernel
def Qrm_max (Z : State) (x : Int32) (y : Int32) (h0 : Heap) (n0 : Nat) (v_ : Option Value) (h_ : Heap) (L_ : List Loc) : Prop := v_ = some (.int (own_max x y)) ∧ Fr n0 L_ ∧ h_ = h0
theorem ef_rm_max (m : MethodId) (x0 : Int32) (x1 : Int32) : entryFrame m #[(.int x0), (.int x1)] 2 = mkF m 0 #[.val (.int x0), .val (.int x1)] [] := by first | (simp [entryFrame, mkF, argsToLocals, Value.category]; done) | rfl
set_option maxRecDepth 65536 in
set_option maxHeartbeats 40000000 in
theorem rm_max (l : Launch) (Z : State) (aZ : Array Value) (hw : ∀ d ∈ tables_1, d.before aZ Z = true) (ws : List Jvm.Cond) (x : Int32) (y : Int32) (h0 : Heap) (n0 : Nat) (Z0 : n0 ≤ h0.size) :
    MetFree l (⟨"java/lang/Math", "max", "(II)I"⟩ : MethodName) (head1 (Jvm.Cond.code (⟨"java/lang/Math", "max", "(II)I"⟩ : MethodName) jdk_29_method_65_code 2 (some .int) :: ws) ({ frames := 0, cells := 0, slots := 0, locals := 0 } : Room)) (fun a_ U_ => a_ = #[(.int x), (.int y)] ∧ Z.Warmed39 U_.vm ∧ U_.heap = h0) (fun _ _ _ _ _ => True) (fun _ U_ o_ U2_ => ∃ v_ L_, o_ = .returned v_ ∧ Qrm_max Z x y h0 n0 v_ U2_.heap L_ ∧ FrameEnd U_ o_ U2_ L_ ({ frames := 0, cells := 0, slots := 0, locals := 0 } : Room).cells ({ frames := 0, cells := 0, slots := 0, locals := 0 } : Room).slots) := by
  refine MetFree.of_bodySF (Jvm.Free.JP.mathPlain rfl (by decide +kernel)) hisR ?_
  intro p e s m args below meth cO s₁ Bd hml0 hP hK
  obtain ⟨rfl, hZW, hh⟩ := hP
  have hEX := Bd.exec
  have hBY := Bd.bytes
  have hMX : cO.maxLocals = 2 := hml0
  have hOW : s.vm.findClass "java/lang/Math" = some m.cls := findClass_of_methodNamed Bd.named
  have hNM := (name_of_methodNamed Bd.named Bd.method).1
  have hLK := Bd.notSynchronized
  have hRT := Bd.returns
  have X0 : Stand p l e ({ frames := 0, cells := 0, slots := 0, locals := 0 } : Room) s m #[(.int x), (.int y)] below meth cO s₁ [] 0 0 := Stand.of_body Bd
  have e0 : s₁.heap = h0 := by rw [← hh, Bd.state]; rfl
  have N0 := Fr.nil n0
  have K0 : Keep h0 h0 [] := Keep.refl _ _
  show Done p e below s (Qrm_max Z x y h0 n0) ({ frames := 0, cells := 0, slots := 0, locals := 0 } : Room).cells ({ frames := 0, cells := 0, slots := 0, locals := 0 } : Room).slots (s₁.setTop (entryFrame m #[(.int x), (.int y)] 2))
  refine Done.pre (fun t_ k_ => castTop (ef_rm_max m x y) k_) ?_
  show Done _ _ _ _ _ _ _ (s₁.setTop (mkF m 0 #[Iv x, Iv y] []))
  have sg_1 : ∀ tt_, Steps p.tables e below (s₁.setTop (mkF m 2 #[Iv x, Iv y] [(.int y), (.int x)])) tt_ → Steps p.tables e below (s₁.setTop (mkF m 0 #[Iv x, Iv y] [])) tt_ := by
    intro tt_ kt_
    refine XS.iloadN X0.here hEX rfl (hb hBY d_jdk_29_method_65_code_0) rfl ?_
    show Steps p.tables e below (s₁.setTop (mkF m 1 #[Iv x, Iv y] [(.int x)])) tt_
    refine XS.iloadN X0.here hEX rfl (hb hBY d_jdk_29_method_65_code_1) rfl ?_
    exact kt_
  refine Done.pre sg_1 ?_
  by_cases hc2 : x < y
  · skip
    have sg_2 : ∀ tt_, Steps p.tables e below (s₁.setTop (mkF m 10 #[Iv x, Iv y] [(.int y)])) tt_ → Steps p.tables e below (s₁.setTop (mkF m 2 #[Iv x, Iv y] [(.int y), (.int x)])) tt_ := by
      intro tt_ kt_
      refine XS.icmpYes X0.here hEX rfl (pc0 := 2) (pc' := 9) rfl (hb hBY d_jdk_29_method_65_code_2) rfl (tlt hc2).1 (by decide) (by decide) ?_
      show Steps p.tables e below (s₁.setTop (mkF m 9 #[Iv x, Iv y] [])) tt_
      refine XS.iloadN X0.here hEX rfl (hb hBY d_jdk_29_method_65_code_9) rfl ?_
      exact kt_
    refine Done.pre sg_2 ?_
    exact Done.retI X0 hEX hLK hRT (hb hBY d_jdk_29_method_65_code_10) (by rw [e0]; exact ⟨(by rw [own_max, if_pos hc2]), N0, rfl⟩) (by decide) (by decide)
  · skip
    have sg_3 : ∀ tt_, Steps p.tables e below (s₁.setTop (mkF m 10 #[Iv x, Iv y] [(.int x)])) tt_ → Steps p.tables e below (s₁.setTop (mkF m 2 #[Iv x, Iv y] [(.int y), (.int x)])) tt_ := by
      intro tt_ kt_
      refine XS.icmpNo X0.here hEX rfl (hb hBY d_jdk_29_method_65_code_2) rfl (flt hc2).1 ?_
      show Steps p.tables e below (s₁.setTop (mkF m 5 #[Iv x, Iv y] [])) tt_
      refine XS.iloadN X0.here hEX rfl (hb hBY d_jdk_29_method_65_code_5) rfl ?_
      show Steps p.tables e below (s₁.setTop (mkF m 6 #[Iv x, Iv y] [(.int x)])) tt_
      refine XS.goto X0.here hEX rfl (pc0 := 6) (pc' := 10) rfl (hb hBY d_jdk_29_method_65_code_6) (by decide) (by decide) ?_
      exact kt_
    refine Done.pre sg_3 ?_
    exact Done.retI X0 hEX hLK hRT (hb hBY d_jdk_29_method_65_code_10) (by rw [e0]; exact ⟨(by rw [own_max, if_neg hc2]), N0, rfl⟩) (by decide) (by decide)
theorem d_jdk_30_method_1_code_0 : decode jdk_30_method_1_code 0 = .ok (.aload_n 0, 1) := by decide +kernel
theorem d_jdk_30_method_1_code_1 : decode jdk_30_method_1_code 1 = .ok (.invokespecial 1, 3) := by decide +kernel
theorem d_jdk_30_method_1_code_4 : decode jdk_30_method_1_code 4 = .ok (.return_, 1) := by decide +kernel
def Qrm_rec (Z : State) (a : Addr) (h0 : Heap) (n0 : Nat) (v_ : Option Value) (h_ : Heap) (L_ : List Loc) : Prop := v_ = none ∧ Fr n0 L_ ∧ h_ = h0
theorem ef_rm_rec (m : MethodId) (x0 : Addr) : entryFrame m #[(.ref x0)] 1 = mkF m 0 #[.val (.ref x0)] [] := by first | (simp [entryFrame, mkF, argsToLocals, Value.category]; done) | rfl
theorem pn_java_lang_Record : plainName "java/lang/Record" = true := by first | (simp [plainName, overriddenIn]; done) | decide +kernel
set_option maxRecDepth 65536 in
set_option maxHeartbeats 40000000 in
theorem rm_rec (l : Launch) (Z : State) (aZ : Array Value) (hw : ∀ d ∈ tables_1, d.before aZ Z = true) (ws : List Jvm.Cond) (a : Addr) (h0 : Heap) (n0 : Nat) (Z0 : n0 ≤ h0.size) :
    MetFree l (⟨"java/lang/Record", "<init>", "()V"⟩ : MethodName) (head1 (Jvm.Cond.code (⟨"java/lang/Record", "<init>", "()V"⟩ : MethodName) jdk_30_method_1_code 1 none :: ws) ({ frames := 1, cells := 0, slots := 0, locals := 12 } : Room)) (fun a_ U_ => a_ = #[(.ref a)] ∧ Z.Warmed39 U_.vm ∧ U_.heap = h0) (fun _ _ _ _ _ => True) (fun _ U_ o_ U2_ => ∃ v_ L_, o_ = .returned v_ ∧ Qrm_rec Z a h0 n0 v_ U2_.heap L_ ∧ FrameEnd U_ o_ U2_ L_ ({ frames := 1, cells := 0, slots := 0, locals := 12 } : Room).cells ({ frames := 1, cells := 0, slots := 0, locals := 12 } : Room).slots) := by
  refine MetFree.of_bodySF (plainFor_of_name pn_java_lang_Record) hisR ?_
  intro p e s m args below meth cO s₁ Bd hml0 hP hK
  obtain ⟨rfl, hZW, hh⟩ := hP
  have hEX := Bd.exec
  have hBY := Bd.bytes
  have hMX : cO.maxLocals = 1 := hml0
  have hOW : s.vm.findClass "java/lang/Record" = some m.cls := findClass_of_methodNamed Bd.named
  have hNM := (name_of_methodNamed Bd.named Bd.method).1
  have hLK := Bd.notSynchronized
  have hRT := Bd.returns
  have X0 : Stand p l e ({ frames := 1, cells := 0, slots := 0, locals := 12 } : Room) s m #[(.ref a)] below meth cO s₁ [] 0 0 := Stand.of_body Bd
  have e0 : s₁.heap = h0 := by rw [← hh, Bd.state]; rfl
  have N0 := Fr.nil n0
  have K0 : Keep h0 h0 [] := Keep.refl _ _
  show Done p e below s (Qrm_rec Z a h0 n0) ({ frames := 1, cells := 0, slots := 0, locals := 12 } : Room).cells ({ frames := 1, cells := 0, slots := 0, locals := 12 } : Room).slots (s₁.setTop (entryFrame m #[(.ref a)] 1))
  refine Done.pre (fun t_ k_ => castTop (ef_rm_rec m a) k_) ?_
  show Done _ _ _ _ _ _ _ (s₁.setTop (mkF m 0 #[Rv a] []))
  have sg_1 : ∀ tt_, Steps p.tables e below (s₁.setTop (mkF m 1 #[Rv a] [(.ref a)])) tt_ → Steps p.tables e below (s₁.setTop (mkF m 0 #[Rv a] [])) tt_ := by
    intro tt_ kt_
    refine XS.aloadN X0.here hEX rfl (hb hBY d_jdk_30_method_1_code_0) rfl rfl ?_
    exact kt_
  refine Done.pre sg_1 ?_
  obtain ⟨T_2, X_2, e_2, st_2⟩ := initO X0 hEX hZW hOW (hw _ (List.mem_of_getElem? (i := 17) rfl)) (hw _ (List.mem_of_getElem? (i := 18) rfl)) (hw _ (List.mem_of_getElem? (i := 19) rfl)) e0 (g := (mkF m 1 #[Rv a] [(.ref a)])) rfl (by rw [hMX]; rfl) rfl (hb hBY d_jdk_30_method_1_code_1) (by decide) (W := 0) (by show 2 * 0 + _ ≤ _; exact Nat.le_of_eq rfl) (by decide)
  refine Done.pre st_2 ?_
  show Done _ _ _ _ _ _ _ (T_2.setTop (mkF m 4 #[Rv a] []))
  exact Done.retV X_2 hEX hLK hRT (hb hBY d_jdk_30_method_1_code_4) (by rw [e_2]; exact ⟨rfl, N0, rfl⟩) (by decide) (by decide)
theorem d_prog_31_method_1_code_0 : decode prog_31_method_1_code 0 = .ok (.aload_n 0, 1) := by decide +kernel
theorem d_prog_31_method_1_code_1 : decode prog_31_method_1_code 1 = .ok (.invokespecial 1, 3) := by decide +kernel
theorem pd___V_2 : parseMethodDescriptor "()V" = some ⟨[], none⟩ := by decide +kernel
theorem d_prog_31_method_1_code_4 : decode prog_31_method_1_code 4 = .ok (.lload_n 1, 1) := by decide +kernel
theorem d_prog_31_method_1_code_5 : decode prog_31_method_1_code 5 = .ok (.lconst 0, 1) := by decide +kernel
theorem d_prog_31_method_1_code_6 : decode prog_31_method_1_code 6 = .ok (.lcmp, 1) := by decide +kernel
theorem d_prog_31_method_1_code_7 : decode prog_31_method_1_code 7 = .ok (.ifCond .lt 7, 3) := by decide +kernel
theorem d_prog_31_method_1_code_10 : decode prog_31_method_1_code 10 = .ok (.iload_n 3, 1) := by decide +kernel
theorem d_prog_31_method_1_code_11 : decode prog_31_method_1_code 11 = .ok (.ifCond .ge 18, 3) := by decide +kernel
theorem d_prog_31_method_1_code_29 : decode prog_31_method_1_code 29 = .ok (.iload 4, 2) := by decide +kernel
theorem d_prog_31_method_1_code_31 : decode prog_31_method_1_code 31 = .ok (.iconst 1, 1) := by decide +kernel
theorem d_prog_31_method_1_code_32 : decode prog_31_method_1_code 32 = .ok (.if_icmp .ge 18, 3) := by decide +kernel
theorem d_prog_31_method_1_code_50 : decode prog_31_method_1_code 50 = .ok (.aload_n 0, 1) := by decide +kernel
theorem d_prog_31_method_1_code_51 : decode prog_31_method_1_code 51 = .ok (.lload_n 1, 1) := by decide +kernel
theorem d_prog_31_method_1_code_52 : decode prog_31_method_1_code 52 = .ok (.putfield 19, 3) := by decide +kernel
theorem d_prog_31_method_1_code_55 : decode prog_31_method_1_code 55 = .ok (.aload_n 0, 1) := by decide +kernel
theorem d_prog_31_method_1_code_56 : decode prog_31_method_1_code 56 = .ok (.iload_n 3, 1) := by decide +kernel
theorem d_prog_31_method_1_code_57 : decode prog_31_method_1_code 57 = .ok (.putfield 25, 3) := by decide +kernel
theorem d_prog_31_method_1_code_60 : decode prog_31_method_1_code 60 = .ok (.aload_n 0, 1) := by decide +kernel
theorem d_prog_31_method_1_code_61 : decode prog_31_method_1_code 61 = .ok (.iload 4, 2) := by decide +kernel
theorem d_prog_31_method_1_code_63 : decode prog_31_method_1_code 63 = .ok (.putfield 29, 3) := by decide +kernel
theorem d_prog_31_method_1_code_66 : decode prog_31_method_1_code 66 = .ok (.return_, 1) := by decide +kernel
def Qrm_init (Z : State) (a : Addr) (ml : Int64) (mdb : Int32) (par : Int32) (u1 : Value) (u2 : Value) (u3 : Value) (h0 : Heap) (n0 : Nat) (v_ : Option Value) (h_ : Heap) (L_ : List Loc) : Prop := v_ = none ∧ Fr n0 L_ ∧ Keep h0 h_ [a] ∧ Exa Z h_ a "com/example/traversine/traversine/web/Limits" ∧ Fld Z h_ a "com/example/traversine/traversine/web/Limits" "maxLookups" "J" (.long ml) ∧ Fld Z h_ a "com/example/traversine/traversine/web/Limits" "maxDocumentBytes" "I" (.int mdb) ∧ Fld Z h_ a "com/example/traversine/traversine/web/Limits" "parallelLookups" "I" (.int par)
theorem ef_rm_init (m : MethodId) (x0 : Addr) (x1 : Int64) (x2 : Int32) (x3 : Int32) : entryFrame m #[(.ref x0), (.long x1), (.int x2), (.int x3)] 5 = mkF m 0 #[.val (.ref x0), .val (.long x1), .second, .val (.int x2), .val (.int x3)] [] := by first | (simp [entryFrame, mkF, argsToLocals, Value.category]; done) | rfl
theorem pn_com_example_traversine_traversine_web_Limits : plainName "com/example/traversine/traversine/web/Limits" = true := by first | (simp [plainName, overriddenIn]; done) | decide +kernel
set_option maxRecDepth 65536 in
set_option maxHeartbeats 40000000 in
theorem rm_init (l : Launch) (Z : State) (aZ : Array Value) (hw : ∀ d ∈ tables_1, d.before aZ Z = true) (ws : List Jvm.Cond) (a : Addr) (ml : Int64) (mdb : Int32) (par : Int32) (u1 : Value) (u2 : Value) (u3 : Value) (h0 : Heap) (n0 : Nat) (Z0 : n0 ≤ h0.size) (Ex : Exa Z h0 a "com/example/traversine/traversine/web/Limits") (F1 : Fld Z h0 a "com/example/traversine/traversine/web/Limits" "maxLookups" "J" u1) (F2 : Fld Z h0 a "com/example/traversine/traversine/web/Limits" "maxDocumentBytes" "I" u2) (F3 : Fld Z h0 a "com/example/traversine/traversine/web/Limits" "parallelLookups" "I" u3) (ga : n0 ≤ a) (hml : ¬ ml < (0 : Int64)) (hmdb : ¬ mdb < (0 : Int32)) (hpar : ¬ par < (1 : Int32)) :
    MetFree l (⟨"com/example/traversine/traversine/web/Limits", "<init>", "(JII)V"⟩ : MethodName) (head1 (Jvm.Cond.code (⟨"com/example/traversine/traversine/web/Limits", "<init>", "(JII)V"⟩ : MethodName) prog_31_method_1_code 5 none :: ws) ({ frames := 2, cells := 0, slots := 0, locals := 24 } : Room)) (fun a_ U_ => a_ = #[(.ref a), (.long ml), (.int mdb), (.int par)] ∧ Z.Warmed39 U_.vm ∧ U_.heap = h0) (fun _ _ _ _ _ => True) (fun _ U_ o_ U2_ => ∃ v_ L_, o_ = .returned v_ ∧ Qrm_init Z a ml mdb par u1 u2 u3 h0 n0 v_ U2_.heap L_ ∧ FrameEnd U_ o_ U2_ L_ ({ frames := 2, cells := 0, slots := 0, locals := 24 } : Room).cells ({ frames := 2, cells := 0, slots := 0, locals := 24 } : Room).slots) := by
  refine MetFree.of_bodySF (plainFor_of_name pn_com_example_traversine_traversine_web_Limits) hisR ?_
  intro p e s m args below meth cO s₁ Bd hml0 hP hK
  obtain ⟨rfl, hZW, hh⟩ := hP
  have hEX := Bd.exec
  have hBY := Bd.bytes
  have hMX : cO.maxLocals = 5 := hml0
  have hOW : s.vm.findClass "com/example/traversine/traversine/web/Limits" = some m.cls := findClass_of_methodNamed Bd.named
  have hNM := (name_of_methodNamed Bd.named Bd.method).1
  have hLK := Bd.notSynchronized
  have hRT := Bd.returns
  have X0 : Stand p l e ({ frames := 2, cells := 0, slots := 0, locals := 24 } : Room) s m #[(.ref a), (.long ml), (.int mdb), (.int par)] below meth cO s₁ [] 0 0 := Stand.of_body Bd
  have e0 : s₁.heap = h0 := by rw [← hh, Bd.state]; rfl
  have N0 := Fr.nil n0
  have K0 : Keep h0 h0 [a] := Keep.refl _ _
  show Done p e below s (Qrm_init Z a ml mdb par u1 u2 u3 h0 n0) ({ frames := 2, cells := 0, slots := 0, locals := 24 } : Room).cells ({ frames := 2, cells := 0, slots := 0, locals := 24 } : Room).slots (s₁.setTop (entryFrame m #[(.ref a), (.long ml), (.int mdb), (.int par)] 5))
  refine Done.pre (fun t_ k_ => castTop (ef_rm_init m a ml mdb par) k_) ?_
  show Done _ _ _ _ _ _ _ (s₁.setTop (mkF m 0 #[Rv a, Lv ml, Zs, Iv mdb, Iv par] []))
  have sg_1 : ∀ tt_, Steps p.tables e below (s₁.setTop (mkF m 1 #[Rv a, Lv ml, Zs, Iv mdb, Iv par] [(.ref a)])) tt_ → Steps p.tables e below (s₁.setTop (mkF m 0 #[Rv a, Lv ml, Zs, Iv mdb, Iv par] [])) tt_ := by
    intro tt_ kt_
    refine XS.aloadN X0.here hEX rfl (hb hBY d_prog_31_method_1_code_0) rfl rfl ?_
    exact kt_
  refine Done.pre sg_1 ?_
  obtain ⟨_, _, ⟨T_2, L_2, k_2, n_2⟩, -, X_2, ⟨Lc_2, hQ_2, l_2, y_2, z_2⟩, st_2⟩ := X0.specialBack hEX (y := (⟨"java/lang/Record", "<init>", "()V"⟩ : MethodName)) rfl hOW (mvT hZW (hw _ (List.mem_of_getElem? (i := 12) rfl))) (mvT hZW (hw _ (List.mem_of_getElem? (i := 13) rfl))) (mvT hZW (hw _ (List.mem_of_getElem? (i := 16) rfl))) (by decide) (backOf (W := 0) (rm_rec l Z aZ hw [] a h0 n0 (Nat.le_trans Z0 K0.1) ) hZW (hw _ (List.mem_of_getElem? (i := 16) rfl)) (hw _ (List.mem_of_getElem? (i := 15) rfl)) (by decide) (by decide)) (g := (mkF m 1 #[Rv a, Lv ml, Zs, Iv mdb, Iv par] [(.ref a)])) rfl (by rw [hMX]; rfl) (Steps.refl _) (a := a) (argsL := []) (rest := []) (lenOf pd___V_2 rfl) rfl (by show 2 * 0 + _ ≤ _; exact Nat.le_of_eq rfl) (hb hBY d_prog_31_method_1_code_1) (fun _ _ => ⟨rfl, e0, (by decide : 0 + 0 ≤ _), (by decide : 0 + 0 ≤ _)⟩)
  dsimp only [Pt.U, Pt.locs, Pt.cells, Pt.slots] at X_2 l_2 y_2 z_2 st_2 hQ_2
  subst l_2 y_2 z_2
  obtain ⟨rfl, N_2q, e_2⟩ := hQ_2
  have N_2 := Fr.app N0 N_2q
  refine Done.pre (fun _ k_ => st_2.trans k_) ?_
  show Done _ _ _ _ _ _ _ (T_2.setTop (mkF m 4 #[Rv a, Lv ml, Zs, Iv mdb, Iv par] []))
  have sg_3 : ∀ tt_, Steps p.tables e below (T_2.setTop (mkF m 52 #[Rv a, Lv ml, Zs, Iv mdb, Iv par] [(.long ml), (.ref a)])) tt_ → Steps p.tables e below (T_2.setTop (mkF m 4 #[Rv a, Lv ml, Zs, Iv mdb, Iv par] [])) tt_ := by
    intro tt_ kt_
    refine XS.lloadN X_2.here hEX rfl (hb hBY d_prog_31_method_1_code_4) rfl ?_
    show Steps p.tables e below (T_2.setTop (mkF m 5 #[Rv a, Lv ml, Zs, Iv mdb, Iv par] [(.long ml)])) tt_
    refine XS.lconst X_2.here hEX rfl (hb hBY d_prog_31_method_1_code_5) ?_
    show Steps p.tables e below (T_2.setTop (mkF m 6 #[Rv a, Lv ml, Zs, Iv mdb, Iv par] [(.long (0 : Int64)), (.long ml)])) tt_
    refine XS.lcmp X_2.here hEX rfl (hb hBY d_prog_31_method_1_code_6) rfl ?_
    show Steps p.tables e below (T_2.setTop (mkF m 7 #[Rv a, Lv ml, Zs, Iv mdb, Iv par] [(.int (lcmpW ml (0 : Int64)))])) tt_
    refine XS.ifNo X_2.here hEX rfl (hb hBY d_prog_31_method_1_code_7) rfl ((if0 _ _).trans (flt (fun q => (hml : ¬ (ml < (0 : Int64))) ((lw_lt _ _).mp q))).1) ?_
    show Steps p.tables e below (T_2.setTop (mkF m 10 #[Rv a, Lv ml, Zs, Iv mdb, Iv par] [])) tt_
    refine XS.iloadN X_2.here hEX rfl (hb hBY d_prog_31_method_1_code_10) rfl ?_
    show Steps p.tables e below (T_2.setTop (mkF m 11 #[Rv a, Lv ml, Zs, Iv mdb, Iv par] [(.int mdb)])) tt_
    refine XS.ifYes X_2.here hEX rfl (pc0 := 11) (pc' := 29) rfl (hb hBY d_prog_31_method_1_code_11) rfl ((if0 _ _).trans (flt (hmdb : ¬ (mdb < (0 : Int32)))).2.1) (by decide) (by decide) ?_
    show Steps p.tables e below (T_2.setTop (mkF m 29 #[Rv a, Lv ml, Zs, Iv mdb, Iv par] [])) tt_
    refine XS.iload X_2.here hEX rfl (hb hBY d_prog_31_method_1_code_29) rfl ?_
    show Steps p.tables e below (T_2.setTop (mkF m 31 #[Rv a, Lv ml, Zs, Iv mdb, Iv par] [(.int par)])) tt_
    refine XS.iconst X_2.here hEX rfl (hb hBY d_prog_31_method_1_code_31) ?_
    show Steps p.tables e below (T_2.setTop (mkF m 32 #[Rv a, Lv ml, Zs, Iv mdb, Iv par] [(.int (1 : Int32)), (.int par)])) tt_
    refine XS.icmpYes X_2.here hEX rfl (pc0 := 32) (pc' := 50) rfl (hb hBY d_prog_31_method_1_code_32) rfl (flt (hpar : ¬ (par < (1 : Int32)))).2.1 (by decide) (by decide) ?_
    show Steps p.tables e below (T_2.setTop (mkF m 50 #[Rv a, Lv ml, Zs, Iv mdb, Iv par] [])) tt_
    refine XS.aloadN X_2.here hEX rfl (hb hBY d_prog_31_method_1_code_50) rfl rfl ?_
    show Steps p.tables e below (T_2.setTop (mkF m 51 #[Rv a, Lv ml, Zs, Iv mdb, Iv par] [(.ref a)])) tt_
    refine XS.lloadN X_2.here hEX rfl (hb hBY d_prog_31_method_1_code_51) rfl ?_
    exact kt_
  refine Done.pre sg_3 ?_
  obtain ⟨T_4, h_4, X_4, e_4, W_4, st_4⟩ := putF X_2 hEX hZW hOW (host := "") (Or.inl (hw _ (List.mem_of_getElem? (i := 20) rfl))) Via.refl e_2 F1 Ex (Or.inr ⟨(hw _ (List.mem_of_getElem? (i := 21) rfl)), rfl, hNM⟩) (hw _ (List.mem_of_getElem? (i := 7) rfl)) (ty := .long) (by decide) rfl rfl (g := (mkF m 52 #[Rv a, Lv ml, Zs, Iv mdb, Iv par] [(.long ml), (.ref a)])) rfl rfl (hb hBY d_prog_31_method_1_code_52)
  have N_4 := Fr.snoc X_4 N_2 ga
  have K__5 : Keep h0 h_4 [a] := K0.wr W_4 (Or.inl (List.mem_of_getElem? (i := 0) rfl))
  have f_6 : Exa Z h_4 a "com/example/traversine/traversine/web/Limits" := Ex.wr W_4
  have f_7 : Fld Z h_4 a "com/example/traversine/traversine/web/Limits" "maxDocumentBytes" "I" u2 := F2.other W_4 (Or.inr (slot_ne (Or.inr (hw _ (List.mem_of_getElem? (i := 23) rfl))) (Or.inr (hw _ (List.mem_of_getElem? (i := 21) rfl))) (by decide) (t := .int) (t' := .long) (by decide) (by decide)))
  have f_8 : Fld Z h_4 a "com/example/traversine/traversine/web/Limits" "parallelLookups" "I" u3 := F3.other W_4 (Or.inr (slot_ne (Or.inr (hw _ (List.mem_of_getElem? (i := 25) rfl))) (Or.inr (hw _ (List.mem_of_getElem? (i := 21) rfl))) (by decide) (t := .int) (t' := .long) (by decide) (by decide)))
  have f_9 : Fld Z h_4 a "com/example/traversine/traversine/web/Limits" "maxLookups" "J" (.long ml) := F1.same W_4
  refine Done.pre st_4 ?_
  show Done _ _ _ _ _ _ _ (T_4.setTop (mkF m 55 #[Rv a, Lv ml, Zs, Iv mdb, Iv par] []))
  have sg_10 : ∀ tt_, Steps p.tables e below (T_4.setTop (mkF m 57 #[Rv a, Lv ml, Zs, Iv mdb, Iv par] [(.int mdb), (.ref a)])) tt_ → Steps p.tables e below (T_4.setTop (mkF m 55 #[Rv a, Lv ml, Zs, Iv mdb, Iv par] [])) tt_ := by
    intro tt_ kt_
    refine XS.aloadN X_4.here hEX rfl (hb hBY d_prog_31_method_1_code_55) rfl rfl ?_
    show Steps p.tables e below (T_4.setTop (mkF m 56 #[Rv a, Lv ml, Zs, Iv mdb, Iv par] [(.ref a)])) tt_
    refine XS.iloadN X_4.here hEX rfl (hb hBY d_prog_31_method_1_code_56) rfl ?_
    exact kt_
  refine Done.pre sg_10 ?_
  obtain ⟨T_11, h_11, X_11, e_11, W_11, st_11⟩ := putF X_4 hEX hZW hOW (host := "") (Or.inl (hw _ (List.mem_of_getElem? (i := 22) rfl))) Via.refl e_4 f_7 f_6 (Or.inr ⟨(hw _ (List.mem_of_getElem? (i := 23) rfl)), rfl, hNM⟩) (hw _ (List.mem_of_getElem? (i := 7) rfl)) (ty := .int) (by decide) rfl rfl (g := (mkF m 57 #[Rv a, Lv ml, Zs, Iv mdb, Iv par] [(.int mdb), (.ref a)])) rfl rfl (hb hBY d_prog_31_method_1_code_57)
  have N_11 := Fr.snoc X_11 N_4 ga
  have K__12 : Keep h0 h_11 [a] := K__5.wr W_11 (Or.inl (List.mem_of_getElem? (i := 0) rfl))
  have f_13 : Exa Z h_11 a "com/example/traversine/traversine/web/Limits" := f_6.wr W_11
  have f_14 : Fld Z h_11 a "com/example/traversine/traversine/web/Limits" "parallelLookups" "I" u3 := f_8.other W_11 (Or.inr (slot_ne (Or.inr (hw _ (List.mem_of_getElem? (i := 25) rfl))) (Or.inr (hw _ (List.mem_of_getElem? (i := 23) rfl))) (by decide) (t := .int) (t' := .int) (by decide) (by decide)))
  have f_15 : Fld Z h_11 a "com/example/traversine/traversine/web/Limits" "maxLookups" "J" (.long ml) := f_9.other W_11 (Or.inr (slot_ne (Or.inr (hw _ (List.mem_of_getElem? (i := 21) rfl))) (Or.inr (hw _ (List.mem_of_getElem? (i := 23) rfl))) (by decide) (t := .long) (t' := .int) (by decide) (by decide)))
  have f_16 : Fld Z h_11 a "com/example/traversine/traversine/web/Limits" "maxDocumentBytes" "I" (.int mdb) := f_7.same W_11
  refine Done.pre st_11 ?_
  show Done _ _ _ _ _ _ _ (T_11.setTop (mkF m 60 #[Rv a, Lv ml, Zs, Iv mdb, Iv par] []))
  have sg_17 : ∀ tt_, Steps p.tables e below (T_11.setTop (mkF m 63 #[Rv a, Lv ml, Zs, Iv mdb, Iv par] [(.int par), (.ref a)])) tt_ → Steps p.tables e below (T_11.setTop (mkF m 60 #[Rv a, Lv ml, Zs, Iv mdb, Iv par] [])) tt_ := by
    intro tt_ kt_
    refine XS.aloadN X_11.here hEX rfl (hb hBY d_prog_31_method_1_code_60) rfl rfl ?_
    show Steps p.tables e below (T_11.setTop (mkF m 61 #[Rv a, Lv ml, Zs, Iv mdb, Iv par] [(.ref a)])) tt_
    refine XS.iload X_11.here hEX rfl (hb hBY d_prog_31_method_1_code_61) rfl ?_
    exact kt_
  refine Done.pre sg_17 ?_
  obtain ⟨T_18, h_18, X_18, e_18, W_18, st_18⟩ := putF X_11 hEX hZW hOW (host := "") (Or.inl (hw _ (List.mem_of_getElem? (i := 24) rfl))) Via.refl e_11 f_14 f_13 (Or.inr ⟨(hw _ (List.mem_of_getElem? (i := 25) rfl)), rfl, hNM⟩) (hw _ (List.mem_of_getElem? (i := 7) rfl)) (ty := .int) (by decide) rfl rfl (g := (mkF m 63 #[Rv a, Lv ml, Zs, Iv mdb, Iv par] [(.int par), (.ref a)])) rfl rfl (hb hBY d_prog_31_method_1_code_63)
  have N_18 := Fr.snoc X_18 N_11 ga
  have K__19 : Keep h0 h_18 [a] := K__12.wr W_18 (Or.inl (List.mem_of_getElem? (i := 0) rfl))
  have f_20 : Exa Z h_18 a "com/example/traversine/traversine/web/Limits" := f_13.wr W_18
  have f_21 : Fld Z h_18 a "com/example/traversine/traversine/web/Limits" "maxLookups" "J" (.long ml) := f_15.other W_18 (Or.inr (slot_ne (Or.inr (hw _ (List.mem_of_getElem? (i := 21) rfl))) (Or.inr (hw _ (List.mem_of_getElem? (i := 25) rfl))) (by decide) (t := .long) (t' := .int) (by decide) (by decide)))
  have f_22 : Fld Z h_18 a "com/example/traversine/traversine/web/Limits" "maxDocumentBytes" "I" (.int mdb) := f_16.other W_18 (Or.inr (slot_ne (Or.inr (hw _ (List.mem_of_getElem? (i := 23) rfl))) (Or.inr (hw _ (List.mem_of_getElem? (i := 25) rfl))) (by decide) (t := .int) (t' := .int) (by decide) (by decide)))
  have f_23 : Fld Z h_18 a "com/example/traversine/traversine/web/Limits" "parallelLookups" "I" (.int par) := f_14.same W_18
  refine Done.pre st_18 ?_
  show Done _ _ _ _ _ _ _ (T_18.setTop (mkF m 66 #[Rv a, Lv ml, Zs, Iv mdb, Iv par] []))
  exact Done.retV X_18 hEX hLK hRT (hb hBY d_prog_31_method_1_code_66) (by rw [e_18]; exact ⟨rfl, N_18, K__19, f_20, f_21, f_22, f_23⟩) (by decide) (by decide)
theorem d_prog_31_method_3_code_0 : decode prog_31_method_3_code 0 = .ok (.new 20, 3) := by decide +kernel
theorem d_prog_31_method_3_code_3 : decode prog_31_method_3_code 3 = .ok (.dup, 1) := by decide +kernel
theorem d_prog_31_method_3_code_4 : decode prog_31_method_3_code 4 = .ok (.aload_n 0, 1) := by decide +kernel
theorem d_prog_31_method_3_code_5 : decode prog_31_method_3_code 5 = .ok (.getfield 19, 3) := by decide +kernel
theorem d_prog_31_method_3_code_8 : decode prog_31_method_3_code 8 = .ok (.iload_n 1, 1) := by decide +kernel
theorem d_prog_31_method_3_code_9 : decode prog_31_method_3_code 9 = .ok (.aload_n 0, 1) := by decide +kernel
theorem d_prog_31_method_3_code_10 : decode prog_31_method_3_code 10 = .ok (.getfield 29, 3) := by decide +kernel
theorem d_prog_31_method_3_code_13 : decode prog_31_method_3_code 13 = .ok (.invokespecial 32, 3) := by decide +kernel
theorem pd__JII_V_5 : parseMethodDescriptor "(JII)V" = some ⟨[.long, .int, .int], none⟩ := by decide +kernel
theorem d_prog_31_method_3_code_16 : decode prog_31_method_3_code 16 = .ok (.areturn, 1) := by decide +kernel
def Qrm_with (Z : State) (a : Addr) (n : Int32) (ml : Int64) (mdb : Int32) (par : Int32) (h0 : Heap) (n0 : Nat) (v_ : Option Value) (h_ : Heap) (L_ : List Loc) : Prop := ∃ (b : Addr), v_ = some (.ref b) ∧ Fr n0 L_ ∧ Keep h0 h_ [] ∧ Exa Z h_ b "com/example/traversine/traversine/web/Limits" ∧ Fld Z h_ b "com/example/traversine/traversine/web/Limits" "maxLookups" "J" (.long ml) ∧ Fld Z h_ b "com/example/traversine/traversine/web/Limits" "maxDocumentBytes" "I" (.int n) ∧ Fld Z h_ b "com/example/traversine/traversine/web/Limits" "parallelLookups" "I" (.int par) ∧ h0.size ≤ b
theorem ef_rm_with (m : MethodId) (x0 : Addr) (x1 : Int32) : entryFrame m #[(.ref x0), (.int x1)] 2 = mkF m 0 #[.val (.ref x0), .val (.int x1)] [] := by first | (simp [entryFrame, mkF, argsToLocals, Value.category]; done) | rfl
set_option maxRecDepth 65536 in
set_option maxHeartbeats 40000000 in
theorem rm_with (l : Launch) (Z : State) (aZ : Array Value) (hw : ∀ d ∈ tables_1, d.before aZ Z = true) (ws : List Jvm.Cond) (a : Addr) (n : Int32) (ml : Int64) (mdb : Int32) (par : Int32) (h0 : Heap) (n0 : Nat) (Z0 : n0 ≤ h0.size) (F1 : Fld Z h0 a "com/example/traversine/traversine/web/Limits" "maxLookups" "J" (.long ml)) (F2 : Fld Z h0 a "com/example/traversine/traversine/web/Limits" "maxDocumentBytes" "I" (.int mdb)) (F3 : Fld Z h0 a "com/example/traversine/traversine/web/Limits" "parallelLookups" "I" (.int par)) (hml : ¬ ml < (0 : Int64)) (hmdb : ¬ mdb < (0 : Int32)) (hpar : ¬ par < (1 : Int32)) (hn : ¬ n < (0 : Int32)) :
    MetFree l (⟨"com/example/traversine/traversine/web/Limits", "withMaxDocumentBytes", "(I)Lcom/example/traversine/traversine/web/Limits;"⟩ : MethodName) (head1 (Jvm.Cond.code (⟨"com/example/traversine/traversine/web/Limits", "withMaxDocumentBytes", "(I)Lcom/example/traversine/traversine/web/Limits;"⟩ : MethodName) prog_31_method_3_code 2 (some (.object "com/example/traversine/traversine/web/Limits")) :: ws) ({ frames := 3, cells := 1, slots := 3, locals := 41 } : Room)) (fun a_ U_ => a_ = #[(.ref a), (.int n)] ∧ Z.Warmed39 U_.vm ∧ U_.heap = h0) (fun _ _ _ _ _ => True) (fun _ U_ o_ U2_ => ∃ v_ L_, o_ = .returned v_ ∧ Qrm_with Z a n ml mdb par h0 n0 v_ U2_.heap L_ ∧ FrameEnd U_ o_ U2_ L_ ({ frames := 3, cells := 1, slots := 3, locals := 41 } : Room).cells ({ frames := 3, cells := 1, slots := 3, locals := 41 } : Room).slots) := by
  refine MetFree.of_bodySF (plainFor_of_name pn_com_example_traversine_traversine_web_Limits) hisR ?_
  intro p e s m args below meth cO s₁ Bd hml0 hP hK
  obtain ⟨rfl, hZW, hh⟩ := hP
  have hEX := Bd.exec
  have hBY := Bd.bytes
  have hMX : cO.maxLocals = 2 := hml0
  have hOW : s.vm.findClass "com/example/traversine/traversine/web/Limits" = some m.cls := findClass_of_methodNamed Bd.named
  have hNM := (name_of_methodNamed Bd.named Bd.method).1
  have hLK := Bd.notSynchronized
  have hRT := Bd.returns
  have X0 : Stand p l e ({ frames := 3, cells := 1, slots := 3, locals := 41 } : Room) s m #[(.ref a), (.int n)] below meth cO s₁ [] 0 0 := Stand.of_body Bd
  have e0 : s₁.heap = h0 := by rw [← hh, Bd.state]; rfl
  have N0 := Fr.nil n0
  have K0 : Keep h0 h0 [] := Keep.refl _ _
  show Done p e below s (Qrm_with Z a n ml mdb par h0 n0) ({ frames := 3, cells := 1, slots := 3, locals := 41 } : Room).cells ({ frames := 3, cells := 1, slots := 3, locals := 41 } : Room).slots (s₁.setTop (entryFrame m #[(.ref a), (.int n)] 2))
  refine Done.pre (fun t_ k_ => castTop (ef_rm_with m a n) k_) ?_
  show Done _ _ _ _ _ _ _ (s₁.setTop (mkF m 0 #[Rv a, Iv n] []))
  obtain ⟨T_1, h_1, X_1, e_1, E_1, A_1, D_1, -, st_1⟩ := newO X0 hEX hZW hOW (hw _ (List.mem_of_getElem? (i := 31) rfl)) (hw _ (List.mem_of_getElem? (i := 7) rfl)) (hw _ (List.mem_of_getElem? (i := 8) rfl)) e0 (g := (mkF m 0 #[Rv a, Iv n] [])) rfl (hb hBY d_prog_31_method_3_code_0) (by decide) (by decide)
  obtain ⟨b_1, g_1⟩ : ∃ z, z = h0.size := ⟨_, rfl⟩
  rw [← g_1] at A_1 D_1 st_1
  have sz_b_1 : h0.size ≤ b_1 := Nat.le_trans K0.1 (Nat.le_of_eq g_1.symm)
  have ge_b_1 : n0 ≤ b_1 := Nat.le_trans Z0 sz_b_1
  have ne_a_b_1 : a ≠ b_1 := Nat.ne_of_lt (Nat.lt_of_lt_of_le F1.lt (Nat.le_of_eq g_1.symm))
  have K__2 : Keep h0 h_1 [] := K0.ext E_1
  have f_3 : Fld Z h_1 a "com/example/traversine/traversine/web/Limits" "maxLookups" "J" (.long ml) := F1.ext E_1
  have f_4 : Fld Z h_1 a "com/example/traversine/traversine/web/Limits" "maxDocumentBytes" "I" (.int mdb) := F2.ext E_1
  have f_5 : Fld Z h_1 a "com/example/traversine/traversine/web/Limits" "parallelLookups" "I" (.int par) := F3.ext E_1
  have f_6 : Exa Z h_1 b_1 "com/example/traversine/traversine/web/Limits" := A_1
  have f_7 : Fld Z h_1 b_1 "com/example/traversine/traversine/web/Limits" "maxLookups" "J" (.long (0 : Int64)) := D_1 (Or.inr (hw _ (List.mem_of_getElem? (i := 21) rfl))) (ty := .long) (by decide)
  have f_8 : Fld Z h_1 b_1 "com/example/traversine/traversine/web/Limits" "maxDocumentBytes" "I" (.int (0 : Int32)) := D_1 (Or.inr (hw _ (List.mem_of_getElem? (i := 23) rfl))) (ty := .int) (by decide)
  have f_9 : Fld Z h_1 b_1 "com/example/traversine/traversine/web/Limits" "parallelLookups" "I" (.int (0 : Int32)) := D_1 (Or.inr (hw _ (List.mem_of_getElem? (i := 25) rfl))) (ty := .int) (by decide)
  refine Done.pre st_1 ?_
  show Done _ _ _ _ _ _ _ (T_1.setTop (mkF m 3 #[Rv a, Iv n] [(.ref b_1)]))
  have sg_10 : ∀ tt_, Steps p.tables e below (T_1.setTop (mkF m 5 #[Rv a, Iv n] [(.ref a), (.ref b_1), (.ref b_1)])) tt_ → Steps p.tables e below (T_1.setTop (mkF m 3 #[Rv a, Iv n] [(.ref b_1)])) tt_ := by
    intro tt_ kt_
    refine XS.dup X_1.here hEX rfl (hb hBY d_prog_31_method_3_code_3) rfl rfl ?_
    show Steps p.tables e below (T_1.setTop (mkF m 4 #[Rv a, Iv n] [(.ref b_1), (.ref b_1)])) tt_
    refine XS.aloadN X_1.here hEX rfl (hb hBY d_prog_31_method_3_code_4) rfl rfl ?_
    exact kt_
  refine Done.pre sg_10 ?_
  obtain ⟨T_11, X_11, e_11, st_11⟩ := getF X_1 hEX hZW hOW (host := "") (Or.inl (hw _ (List.mem_of_getElem? (i := 20) rfl))) Via.refl e_1 f_3 (g := (mkF m 5 #[Rv a, Iv n] [(.ref a), (.ref b_1), (.ref b_1)])) rfl rfl (hb hBY d_prog_31_method_3_code_5)
  refine Done.pre st_11 ?_
  show Done _ _ _ _ _ _ _ (T_11.setTop (mkF m 8 #[Rv a, Iv n] [(.long ml), (.ref b_1), (.ref b_1)]))
  have sg_12 : ∀ tt_, Steps p.tables e below (T_11.setTop (mkF m 10 #[Rv a, Iv n] [(.ref a), (.int n), (.long ml), (.ref b_1), (.ref b_1)])) tt_ → Steps p.tables e below (T_11.setTop (mkF m 8 #[Rv a, Iv n] [(.long ml), (.ref b_1), (.ref b_1)])) tt_ := by
    intro tt_ kt_
    refine XS.iloadN X_11.here hEX rfl (hb hBY d_prog_31_method_3_code_8) rfl ?_
    show Steps p.tables e below (T_11.setTop (mkF m 9 #[Rv a, Iv n] [(.int n), (.long ml), (.ref b_1), (.ref b_1)])) tt_
    refine XS.aloadN X_11.here hEX rfl (hb hBY d_prog_31_method_3_code_9) rfl rfl ?_
    exact kt_
  refine Done.pre sg_12 ?_
  obtain ⟨T_13, X_13, e_13, st_13⟩ := getF X_11 hEX hZW hOW (host := "") (Or.inl (hw _ (List.mem_of_getElem? (i := 24) rfl))) Via.refl e_11 f_5 (g := (mkF m 10 #[Rv a, Iv n] [(.ref a), (.int n), (.long ml), (.ref b_1), (.ref b_1)])) rfl rfl (hb hBY d_prog_31_method_3_code_10)
  refine Done.pre st_13 ?_
  show Done _ _ _ _ _ _ _ (T_13.setTop (mkF m 13 #[Rv a, Iv n] [(.int par), (.int n), (.long ml), (.ref b_1), (.ref b_1)]))
  obtain ⟨_, _, ⟨T_14, L_14, k_14, n_14⟩, -, X_14, ⟨Lc_14, hQ_14, l_14, y_14, z_14⟩, st_14⟩ := X_13.specialBack hEX (y := (⟨"com/example/traversine/traversine/web/Limits", "<init>", "(JII)V"⟩ : MethodName)) rfl hOW (mvT hZW (hw _ (List.mem_of_getElem? (i := 32) rfl))) (mvT hZW (hw _ (List.mem_of_getElem? (i := 10) rfl))) (mvT hZW (hw _ (List.mem_of_getElem? (i := 11) rfl))) (by decide) (backOf (W := 1) (rm_init l Z aZ hw [] b_1 ml n par (.long (0 : Int64)) (.int (0 : Int32)) (.int (0 : Int32)) h_1 n0 (Nat.le_trans Z0 K__2.1) f_6 f_7 f_8 f_9 ge_b_1 (by first | assumption | decide | omega) (by first | assumption | decide | omega) (by first | assumption | decide | omega)) hZW (hw _ (List.mem_of_getElem? (i := 11) rfl)) (hw _ (List.mem_of_getElem? (i := 8) rfl)) (by decide) (by decide)) (g := (mkF m 13 #[Rv a, Iv n] [(.int par), (.int n), (.long ml), (.ref b_1), (.ref b_1)])) rfl (by rw [hMX]; rfl) (Steps.refl _) (a := b_1) (argsL := [(.long ml), (.int n), (.int par)]) (rest := [(.ref b_1)]) (lenOf pd__JII_V_5 rfl) rfl (by show 2 * 0 + _ ≤ _; exact Nat.le_of_eq rfl) (hb hBY d_prog_31_method_3_code_13) (fun _ _ => ⟨rfl, e_13, (by decide : 1 + 0 ≤ _), (by decide : 3 + 0 ≤ _)⟩)
  dsimp only [Pt.U, Pt.locs, Pt.cells, Pt.slots] at X_14 l_14 y_14 z_14 st_14 hQ_14
  subst l_14 y_14 z_14
  obtain ⟨rfl, N_14q, K_14, hq_14_0, hq_14_1, hq_14_2, hq_14_3⟩ := hQ_14
  have N_14 := Fr.app N0 N_14q
  have K__15 : Keep h0 T_14.heap [] := K__2.trans K_14 (allS (Or.inr sz_b_1) all0)
  have f_16 : Fld Z T_14.heap a "com/example/traversine/traversine/web/Limits" "maxLookups" "J" (.long ml) := f_3.keep K_14 (ninS ne_a_b_1 nin0)
  have f_17 : Fld Z T_14.heap a "com/example/traversine/traversine/web/Limits" "maxDocumentBytes" "I" (.int mdb) := f_4.keep K_14 (ninS ne_a_b_1 nin0)
  have f_18 : Fld Z T_14.heap a "com/example/traversine/traversine/web/Limits" "parallelLookups" "I" (.int par) := f_5.keep K_14 (ninS ne_a_b_1 nin0)
  have f_19 : Exa Z T_14.heap b_1 "com/example/traversine/traversine/web/Limits" := f_6.keep K_14
  refine Done.pre (fun _ k_ => st_14.trans k_) ?_
  show Done _ _ _ _ _ _ _ (T_14.setTop (mkF m 16 #[Rv a, Iv n] [(.ref b_1)]))
  exact Done.retA X_14 hEX hLK hRT rfl rfl (hb hBY d_prog_31_method_3_code_16) (by exact ⟨b_1, rfl, N_14, K__15, hq_14_0, hq_14_1, hq_14_2, hq_14_3, sz_b_1⟩) (by decide) (by decide)
theorem d_prog_31_method_9_code_0 : decode prog_31_method_9_code 0 = .ok (.aload_n 0, 1) := by decide +kernel
theorem d_prog_31_method_9_code_1 : decode prog_31_method_9_code 1 = .ok (.getfield 19, 3) := by decide +kernel
theorem d_prog_31_method_9_code_4 : decode prog_31_method_9_code 4 = .ok (.lreturn, 1) := by decide +kernel
def Qrm_maxLookups (Z : State) (a : Addr) (w : Int64) (h0 : Heap) (n0 : Nat) (v_ : Option Value) (h_ : Heap) (L_ : List Loc) : Prop := v_ = some (.long w) ∧ Fr n0 L_ ∧ h_ = h0
theorem ef_rm_maxLookups (m : MethodId) (x0 : Addr) : entryFrame m #[(.ref x0)] 1 = mkF m 0 #[.val (.ref x0)] [] := by first | (simp [entryFrame, mkF, argsToLocals, Value.category]; done) | rfl
set_option maxRecDepth 65536 in
set_option maxHeartbeats 40000000 in
theorem rm_maxLookups (l : Launch) (Z : State) (aZ : Array Value) (hw : ∀ d ∈ tables_1, d.before aZ Z = true) (ws : List Jvm.Cond) (a : Addr) (w : Int64) (h0 : Heap) (n0 : Nat) (Z0 : n0 ≤ h0.size) (F : Fld Z h0 a "com/example/traversine/traversine/web/Limits" "maxLookups" "J" (.long w)) :
    MetFree l (⟨"com/example/traversine/traversine/web/Limits", "maxLookups", "()J"⟩ : MethodName) (head1 (Jvm.Cond.code (⟨"com/example/traversine/traversine/web/Limits", "maxLookups", "()J"⟩ : MethodName) prog_31_method_9_code 1 (some .long) :: ws) ({ frames := 0, cells := 0, slots := 0, locals := 0 } : Room)) (fun a_ U_ => a_ = #[(.ref a)] ∧ Z.Warmed39 U_.vm ∧ U_.heap = h0) (fun _ _ _ _ _ => True) (fun _ U_ o_ U2_ => ∃ v_ L_, o_ = .returned v_ ∧ Qrm_maxLookups Z a w h0 n0 v_ U2_.heap L_ ∧ FrameEnd U_ o_ U2_ L_ ({ frames := 0, cells := 0, slots := 0, locals := 0 } : Room).cells ({ frames := 0, cells := 0, slots := 0, locals := 0 } : Room).slots) := by
  refine MetFree.of_bodySF (plainFor_of_name pn_com_example_traversine_traversine_web_Limits) hisR ?_
  intro p e s m args below meth cO s₁ Bd hml0 hP hK
  obtain ⟨rfl, hZW, hh⟩ := hP
  have hEX := Bd.exec
  have hBY := Bd.bytes
  have hMX : cO.maxLocals = 1 := hml0
  have hOW : s.vm.findClass "com/example/traversine/traversine/web/Limits" = some m.cls := findClass_of_methodNamed Bd.named
  have hNM := (name_of_methodNamed Bd.named Bd.method).1
  have hLK := Bd.notSynchronized
  have hRT := Bd.returns
  have X0 : Stand p l e ({ frames := 0, cells := 0, slots := 0, locals := 0 } : Room) s m #[(.ref a)] below meth cO s₁ [] 0 0 := Stand.of_body Bd
  have e0 : s₁.heap = h0 := by rw [← hh, Bd.state]; rfl
  have N0 := Fr.nil n0
  have K0 : Keep h0 h0 [] := Keep.refl _ _
  show Done p e below s (Qrm_maxLookups Z a w h0 n0) ({ frames := 0, cells := 0, slots := 0, locals := 0 } : Room).cells ({ frames := 0, cells := 0, slots := 0, locals := 0 } : Room).slots (s₁.setTop (entryFrame m #[(.ref a)] 1))
  refine Done.pre (fun t_ k_ => castTop (ef_rm_maxLookups m a) k_) ?_
  show Done _ _ _ _ _ _ _ (s₁.setTop (mkF m 0 #[Rv a] []))
  have sg_1 : ∀ tt_, Steps p.tables e below (s₁.setTop (mkF m 1 #[Rv a] [(.ref a)])) tt_ → Steps p.tables e below (s₁.setTop (mkF m 0 #[Rv a] [])) tt_ := by
    intro tt_ kt_
    refine XS.aloadN X0.here hEX rfl (hb hBY d_prog_31_method_9_code_0) rfl rfl ?_
    exact kt_
  refine Done.pre sg_1 ?_
  obtain ⟨T_2, X_2, e_2, st_2⟩ := getF X0 hEX hZW hOW (host := "") (Or.inl (hw _ (List.mem_of_getElem? (i := 20) rfl))) Via.refl e0 F (g := (mkF m 1 #[Rv a] [(.ref a)])) rfl rfl (hb hBY d_prog_31_method_9_code_1)
  refine Done.pre st_2 ?_
  show Done _ _ _ _ _ _ _ (T_2.setTop (mkF m 4 #[Rv a] [(.long w)]))
  exact Done.retL X_2 hEX hLK hRT (hb hBY d_prog_31_method_9_code_4) (by rw [e_2]; exact ⟨rfl, N0, rfl⟩) (by decide) (by decide)
theorem d_prog_31_method_10_code_0 : decode prog_31_method_10_code 0 = .ok (.aload_n 0, 1) := by decide +kernel
theorem d_prog_31_method_10_code_1 : decode prog_31_method_10_code 1 = .ok (.getfield 25, 3) := by decide +kernel
theorem d_prog_31_method_10_code_4 : decode prog_31_method_10_code 4 = .ok (.ireturn, 1) := by decide +kernel
def Qrm_maxDocumentBytes (Z : State) (a : Addr) (w : Int32) (h0 : Heap) (n0 : Nat) (v_ : Option Value) (h_ : Heap) (L_ : List Loc) : Prop := v_ = some (.int w) ∧ Fr n0 L_ ∧ h_ = h0
theorem ef_rm_maxDocumentBytes (m : MethodId) (x0 : Addr) : entryFrame m #[(.ref x0)] 1 = mkF m 0 #[.val (.ref x0)] [] := by first | (simp [entryFrame, mkF, argsToLocals, Value.category]; done) | rfl
set_option maxRecDepth 65536 in
set_option maxHeartbeats 40000000 in
theorem rm_maxDocumentBytes (l : Launch) (Z : State) (aZ : Array Value) (hw : ∀ d ∈ tables_1, d.before aZ Z = true) (ws : List Jvm.Cond) (a : Addr) (w : Int32) (h0 : Heap) (n0 : Nat) (Z0 : n0 ≤ h0.size) (F : Fld Z h0 a "com/example/traversine/traversine/web/Limits" "maxDocumentBytes" "I" (.int w)) :
    MetFree l (⟨"com/example/traversine/traversine/web/Limits", "maxDocumentBytes", "()I"⟩ : MethodName) (head1 (Jvm.Cond.code (⟨"com/example/traversine/traversine/web/Limits", "maxDocumentBytes", "()I"⟩ : MethodName) prog_31_method_10_code 1 (some .int) :: ws) ({ frames := 0, cells := 0, slots := 0, locals := 0 } : Room)) (fun a_ U_ => a_ = #[(.ref a)] ∧ Z.Warmed39 U_.vm ∧ U_.heap = h0) (fun _ _ _ _ _ => True) (fun _ U_ o_ U2_ => ∃ v_ L_, o_ = .returned v_ ∧ Qrm_maxDocumentBytes Z a w h0 n0 v_ U2_.heap L_ ∧ FrameEnd U_ o_ U2_ L_ ({ frames := 0, cells := 0, slots := 0, locals := 0 } : Room).cells ({ frames := 0, cells := 0, slots := 0, locals := 0 } : Room).slots) := by
  refine MetFree.of_bodySF (plainFor_of_name pn_com_example_traversine_traversine_web_Limits) hisR ?_
  intro p e s m args below meth cO s₁ Bd hml0 hP hK
  obtain ⟨rfl, hZW, hh⟩ := hP
  have hEX := Bd.exec
  have hBY := Bd.bytes
  have hMX : cO.maxLocals = 1 := hml0
  have hOW : s.vm.findClass "com/example/traversine/traversine/web/Limits" = some m.cls := findClass_of_methodNamed Bd.named
  have hNM := (name_of_methodNamed Bd.named Bd.method).1
  have hLK := Bd.notSynchronized
  have hRT := Bd.returns
  have X0 : Stand p l e ({ frames := 0, cells := 0, slots := 0, locals := 0 } : Room) s m #[(.ref a)] below meth cO s₁ [] 0 0 := Stand.of_body Bd
  have e0 : s₁.heap = h0 := by rw [← hh, Bd.state]; rfl
  have N0 := Fr.nil n0
  have K0 : Keep h0 h0 [] := Keep.refl _ _
  show Done p e below s (Qrm_maxDocumentBytes Z a w h0 n0) ({ frames := 0, cells := 0, slots := 0, locals := 0 } : Room).cells ({ frames := 0, cells := 0, slots := 0, locals := 0 } : Room).slots (s₁.setTop (entryFrame m #[(.ref a)] 1))
  refine Done.pre (fun t_ k_ => castTop (ef_rm_maxDocumentBytes m a) k_) ?_
  show Done _ _ _ _ _ _ _ (s₁.setTop (mkF m 0 #[Rv a] []))
  have sg_1 : ∀ tt_, Steps p.tables e below (s₁.setTop (mkF m 1 #[Rv a] [(.ref a)])) tt_ → Steps p.tables e below (s₁.setTop (mkF m 0 #[Rv a] [])) tt_ := by
    intro tt_ kt_
    refine XS.aloadN X0.here hEX rfl (hb hBY d_prog_31_method_10_code_0) rfl rfl ?_
    exact kt_
  refine Done.pre sg_1 ?_
  obtain ⟨T_2, X_2, e_2, st_2⟩ := getF X0 hEX hZW hOW (host := "") (Or.inl (hw _ (List.mem_of_getElem? (i := 22) rfl))) Via.refl e0 F (g := (mkF m 1 #[Rv a] [(.ref a)])) rfl rfl (hb hBY d_prog_31_method_10_code_1)
  refine Done.pre st_2 ?_
  show Done _ _ _ _ _ _ _ (T_2.setTop (mkF m 4 #[Rv a] [(.int w)]))
  exact Done.retI X_2 hEX hLK hRT (hb hBY d_prog_31_method_10_code_4) (by rw [e_2]; exact ⟨rfl, N0, rfl⟩) (by decide) (by decide)
theorem d_prog_31_method_11_code_0 : decode prog_31_method_11_code 0 = .ok (.aload_n 0, 1) := by decide +kernel
theorem d_prog_31_method_11_code_1 : decode prog_31_method_11_code 1 = .ok (.getfield 29, 3) := by decide +kernel
theorem d_prog_31_method_11_code_4 : decode prog_31_method_11_code 4 = .ok (.ireturn, 1) := by decide +kernel
def Qrm_parallelLookups (Z : State) (a : Addr) (w : Int32) (h0 : Heap) (n0 : Nat) (v_ : Option Value) (h_ : Heap) (L_ : List Loc) : Prop := v_ = some (.int w) ∧ Fr n0 L_ ∧ h_ = h0
theorem ef_rm_parallelLookups (m : MethodId) (x0 : Addr) : entryFrame m #[(.ref x0)] 1 = mkF m 0 #[.val (.ref x0)] [] := by first | (simp [entryFrame, mkF, argsToLocals, Value.category]; done) | rfl
set_option maxRecDepth 65536 in
set_option maxHeartbeats 40000000 in
theorem rm_parallelLookups (l : Launch) (Z : State) (aZ : Array Value) (hw : ∀ d ∈ tables_1, d.before aZ Z = true) (ws : List Jvm.Cond) (a : Addr) (w : Int32) (h0 : Heap) (n0 : Nat) (Z0 : n0 ≤ h0.size) (F : Fld Z h0 a "com/example/traversine/traversine/web/Limits" "parallelLookups" "I" (.int w)) :
    MetFree l (⟨"com/example/traversine/traversine/web/Limits", "parallelLookups", "()I"⟩ : MethodName) (head1 (Jvm.Cond.code (⟨"com/example/traversine/traversine/web/Limits", "parallelLookups", "()I"⟩ : MethodName) prog_31_method_11_code 1 (some .int) :: ws) ({ frames := 0, cells := 0, slots := 0, locals := 0 } : Room)) (fun a_ U_ => a_ = #[(.ref a)] ∧ Z.Warmed39 U_.vm ∧ U_.heap = h0) (fun _ _ _ _ _ => True) (fun _ U_ o_ U2_ => ∃ v_ L_, o_ = .returned v_ ∧ Qrm_parallelLookups Z a w h0 n0 v_ U2_.heap L_ ∧ FrameEnd U_ o_ U2_ L_ ({ frames := 0, cells := 0, slots := 0, locals := 0 } : Room).cells ({ frames := 0, cells := 0, slots := 0, locals := 0 } : Room).slots) := by
  refine MetFree.of_bodySF (plainFor_of_name pn_com_example_traversine_traversine_web_Limits) hisR ?_
  intro p e s m args below meth cO s₁ Bd hml0 hP hK
  obtain ⟨rfl, hZW, hh⟩ := hP
  have hEX := Bd.exec
  have hBY := Bd.bytes
  have hMX : cO.maxLocals = 1 := hml0
  have hOW : s.vm.findClass "com/example/traversine/traversine/web/Limits" = some m.cls := findClass_of_methodNamed Bd.named
  have hNM := (name_of_methodNamed Bd.named Bd.method).1
  have hLK := Bd.notSynchronized
  have hRT := Bd.returns
  have X0 : Stand p l e ({ frames := 0, cells := 0, slots := 0, locals := 0 } : Room) s m #[(.ref a)] below meth cO s₁ [] 0 0 := Stand.of_body Bd
  have e0 : s₁.heap = h0 := by rw [← hh, Bd.state]; rfl
  have N0 := Fr.nil n0
  have K0 : Keep h0 h0 [] := Keep.refl _ _
  show Done p e below s (Qrm_parallelLookups Z a w h0 n0) ({ frames := 0, cells := 0, slots := 0, locals := 0 } : Room).cells ({ frames := 0, cells := 0, slots := 0, locals := 0 } : Room).slots (s₁.setTop (entryFrame m #[(.ref a)] 1))
  refine Done.pre (fun t_ k_ => castTop (ef_rm_parallelLookups m a) k_) ?_
  show Done _ _ _ _ _ _ _ (s₁.setTop (mkF m 0 #[Rv a] []))
  have sg_1 : ∀ tt_, Steps p.tables e below (s₁.setTop (mkF m 1 #[Rv a] [(.ref a)])) tt_ → Steps p.tables e below (s₁.setTop (mkF m 0 #[Rv a] [])) tt_ := by
    intro tt_ kt_
    refine XS.aloadN X0.here hEX rfl (hb hBY d_prog_31_method_11_code_0) rfl rfl ?_
    exact kt_
  refine Done.pre sg_1 ?_
  obtain ⟨T_2, X_2, e_2, st_2⟩ := getF X0 hEX hZW hOW (host := "") (Or.inl (hw _ (List.mem_of_getElem? (i := 24) rfl))) Via.refl e0 F (g := (mkF m 1 #[Rv a] [(.ref a)])) rfl rfl (hb hBY d_prog_31_method_11_code_1)
  refine Done.pre st_2 ?_
  show Done _ _ _ _ _ _ _ (T_2.setTop (mkF m 4 #[Rv a] [(.int w)]))
  exact Done.retI X_2 hEX hLK hRT (hb hBY d_prog_31_method_11_code_4) (by rw [e_2]; exact ⟨rfl, N0, rfl⟩) (by decide) (by decide)
theorem pd__II_I_4 : parseMethodDescriptor "(II)I" = some ⟨[.int, .int], some .int⟩ := by decide +kernel
theorem pd__I_Lcom_example_traversine_traversine_web_Limits__3 : parseMethodDescriptor "(I)Lcom/example/traversine/traversine/web/Limits;" = some ⟨[.int], some (.object "com/example/traversine/traversine/web/Limits")⟩ := by decide +kernel
theorem pd___I_0 : parseMethodDescriptor "()I" = some ⟨[], some .int⟩ := by decide +kernel
theorem pd___J_1 : parseMethodDescriptor "()J" = some ⟨[], some .long⟩ := by decide +kernel
def Qrm0 (Z : State) (q1 : Int64) (p2 : Int32) (p3 : Int32) (p4 : Int32) (h0 : Heap) (n0 : Nat) (v_ : Option Value) (h_ : Heap) (L_ : List Loc) : Prop := v_ = some (.int (1 : Int32)) ∧ Fr n0 L_ ∧ Keep h0 h_ []
theorem ef_rm0 (m : MethodId) (x0 : Int64) (x1 : Int32) (x2 : Int32) (x3 : Int32) : entryFrame m #[(.long x0), (.int x1), (.int x2), (.int x3)] maxLocals = mkF m 0 #[.val (.long x0), .second, .val (.int x1), .val (.int x2), .val (.int x3), .unset, .unset, .unset, .unset, .unset, .unset, .unset, .unset, .unset] [] := by first | (simp [entryFrame, mkF, argsToLocals, Value.category, maxLocals]; done) | rfl
theorem pn_com_example_traversine_traversine_web_LimitsWithMaxDocumentBytesPinLaw : plainName "com/example/traversine/traversine/web/LimitsWithMaxDocumentBytesPinLaw" = true := by first | (simp [plainName, overriddenIn]; done) | decide +kernel
set_option maxRecDepth 65536 in
set_option maxHeartbeats 40000000 in
theorem rm0 (l : Launch) (Z : State) (aZ : Array Value) (hw : ∀ d ∈ tables_1, d.before aZ Z = true) (ws : List Jvm.Cond) (q1 : Int64) (p2 : Int32) (p3 : Int32) (p4 : Int32) (h0 : Heap) (n0 : Nat) (Z0 : n0 ≤ h0.size) :
    MetFree l x (head1 (Jvm.Cond.code x code maxLocals ret :: ws) room_1) (fun a_ U_ => a_ = #[(.long q1), (.int p2), (.int p3), (.int p4)] ∧ Z.Warmed39 U_.vm ∧ U_.heap = h0) (fun _ _ _ _ _ => True) (fun _ U_ o_ U2_ => ∃ v_ L_, o_ = .returned v_ ∧ Qrm0 Z q1 p2 p3 p4 h0 n0 v_ U2_.heap L_ ∧ FrameEnd U_ o_ U2_ L_ room_1.cells room_1.slots) := by
  refine MetFree.of_bodySF (plainFor_of_name pn_com_example_traversine_traversine_web_LimitsWithMaxDocumentBytesPinLaw) hisR ?_
  intro p e s m args below meth cO s₁ Bd hml0 hP hK
  obtain ⟨rfl, hZW, hh⟩ := hP
  have hEX := Bd.exec
  have hBY := Bd.bytes
  have hMX : cO.maxLocals = 14 := hml0
  have hOW : s.vm.findClass "com/example/traversine/traversine/web/LimitsWithMaxDocumentBytesPinLaw" = some m.cls := findClass_of_methodNamed Bd.named
  have hNM := (name_of_methodNamed Bd.named Bd.method).1
  have hLK := Bd.notSynchronized
  have hRT := Bd.returns
  have X0 : Stand p l e room_1 s m #[(.long q1), (.int p2), (.int p3), (.int p4)] below meth cO s₁ [] 0 0 := Stand.of_body Bd
  have e0 : s₁.heap = h0 := by rw [← hh, Bd.state]; rfl
  have N0 := Fr.nil n0
  have K0 : Keep h0 h0 [] := Keep.refl _ _
  show Done p e below s (Qrm0 Z q1 p2 p3 p4 h0 n0) room_1.cells room_1.slots (s₁.setTop (entryFrame m #[(.long q1), (.int p2), (.int p3), (.int p4)] maxLocals))
  refine Done.pre (fun t_ k_ => castTop (ef_rm0 m q1 p2 p3 p4) k_) ?_
  show Done _ _ _ _ _ _ _ (s₁.setTop (mkF m 0 #[Lv q1, Zs, Iv p2, Iv p3, Iv p4, Us, Us, Us, Us, Us, Us, Us, Us, Us] []))
  have sg_1 : ∀ tt_, Steps p.tables e below (s₁.setTop (mkF m 18 #[Lv q1, Zs, Iv p2, Iv p3, Iv p4, Lv (q1 &&& (9223372036854775807 : Int64)), Zs, Iv (p2 &&& (2147483647 : Int32)), Us, Us, Us, Us, Us, Us] [(.int (p3 &&& (2147483647 : Int32))), (.int (1 : Int32))])) tt_ → Steps p.tables e below (s₁.setTop (mkF m 0 #[Lv q1, Zs, Iv p2, Iv p3, Iv p4, Us, Us, Us, Us, Us, Us, Us, Us, Us] [])) tt_ := by
    intro tt_ kt_
    refine XS.lloadN X0.here hEX rfl (hb hBY at_0) rfl ?_
    show Steps p.tables e below (s₁.setTop (mkF m 1 #[Lv q1, Zs, Iv p2, Iv p3, Iv p4, Us, Us, Us, Us, Us, Us, Us, Us, Us] [(.long q1)])) tt_
    refine X0.ldc2Long hEX hOW (mvT hZW (hw _ (List.mem_of_getElem? (i := 0) rfl))) (g := (mkF m 1 #[Lv q1, Zs, Iv p2, Iv p3, Iv p4, Us, Us, Us, Us, Us, Us, Us, Us, Us] [(.long q1)])) rfl (hb hBY at_1) _ ?_
    show Steps p.tables e below (s₁.setTop (mkF m 4 #[Lv q1, Zs, Iv p2, Iv p3, Iv p4, Us, Us, Us, Us, Us, Us, Us, Us, Us] [(.long (9223372036854775807 : Int64)), (.long q1)])) tt_
    refine XS.land X0.here hEX rfl (hb hBY at_4) rfl ?_
    show Steps p.tables e below (s₁.setTop (mkF m 5 #[Lv q1, Zs, Iv p2, Iv p3, Iv p4, Us, Us, Us, Us, Us, Us, Us, Us, Us] [(.long (q1 &&& (9223372036854775807 : Int64)))])) tt_
    refine XS.lstore X0.here hEX rfl (hb hBY at_5) rfl (l' := #[Lv q1, Zs, Iv p2, Iv p3, Iv p4, Lv (q1 &&& (9223372036854775807 : Int64)), Zs, Us, Us, Us, Us, Us, Us, Us]) rfl ?_
    show Steps p.tables e below (s₁.setTop (mkF m 7 #[Lv q1, Zs, Iv p2, Iv p3, Iv p4, Lv (q1 &&& (9223372036854775807 : Int64)), Zs, Us, Us, Us, Us, Us, Us, Us] [])) tt_
    refine XS.iloadN X0.here hEX rfl (hb hBY at_7) rfl ?_
    show Steps p.tables e below (s₁.setTop (mkF m 8 #[Lv q1, Zs, Iv p2, Iv p3, Iv p4, Lv (q1 &&& (9223372036854775807 : Int64)), Zs, Us, Us, Us, Us, Us, Us, Us] [(.int p2)])) tt_
    refine X0.ldcInt hEX hOW (mvT hZW (hw _ (List.mem_of_getElem? (i := 1) rfl))) (g := (mkF m 8 #[Lv q1, Zs, Iv p2, Iv p3, Iv p4, Lv (q1 &&& (9223372036854775807 : Int64)), Zs, Us, Us, Us, Us, Us, Us, Us] [(.int p2)])) rfl (hb hBY at_8) _ ?_
    show Steps p.tables e below (s₁.setTop (mkF m 10 #[Lv q1, Zs, Iv p2, Iv p3, Iv p4, Lv (q1 &&& (9223372036854775807 : Int64)), Zs, Us, Us, Us, Us, Us, Us, Us] [(.int (2147483647 : Int32)), (.int p2)])) tt_
    refine XS.iand X0.here hEX rfl (hb hBY at_10) rfl ?_
    show Steps p.tables e below (s₁.setTop (mkF m 11 #[Lv q1, Zs, Iv p2, Iv p3, Iv p4, Lv (q1 &&& (9223372036854775807 : Int64)), Zs, Us, Us, Us, Us, Us, Us, Us] [(.int (p2 &&& (2147483647 : Int32)))])) tt_
    refine XS.istore X0.here hEX rfl (hb hBY at_11) rfl (l' := #[Lv q1, Zs, Iv p2, Iv p3, Iv p4, Lv (q1 &&& (9223372036854775807 : Int64)), Zs, Iv (p2 &&& (2147483647 : Int32)), Us, Us, Us, Us, Us, Us]) rfl ?_
    show Steps p.tables e below (s₁.setTop (mkF m 13 #[Lv q1, Zs, Iv p2, Iv p3, Iv p4, Lv (q1 &&& (9223372036854775807 : Int64)), Zs, Iv (p2 &&& (2147483647 : Int32)), Us, Us, Us, Us, Us, Us] [])) tt_
    refine XS.iconst X0.here hEX rfl (hb hBY at_13) ?_
    show Steps p.tables e below (s₁.setTop (mkF m 14 #[Lv q1, Zs, Iv p2, Iv p3, Iv p4, Lv (q1 &&& (9223372036854775807 : Int64)), Zs, Iv (p2 &&& (2147483647 : Int32)), Us, Us, Us, Us, Us, Us] [(.int (1 : Int32))])) tt_
    refine XS.iloadN X0.here hEX rfl (hb hBY at_14) rfl ?_
    show Steps p.tables e below (s₁.setTop (mkF m 15 #[Lv q1, Zs, Iv p2, Iv p3, Iv p4, Lv (q1 &&& (9223372036854775807 : Int64)), Zs, Iv (p2 &&& (2147483647 : Int32)), Us, Us, Us, Us, Us, Us] [(.int p3), (.int (1 : Int32))])) tt_
    refine X0.ldcInt hEX hOW (mvT hZW (hw _ (List.mem_of_getElem? (i := 1) rfl))) (g := (mkF m 15 #[Lv q1, Zs, Iv p2, Iv p3, Iv p4, Lv (q1 &&& (9223372036854775807 : Int64)), Zs, Iv (p2 &&& (2147483647 : Int32)), Us, Us, Us, Us, Us, Us] [(.int p3), (.int (1 : Int32))])) rfl (hb hBY at_15) _ ?_
    show Steps p.tables e below (s₁.setTop (mkF m 17 #[Lv q1, Zs, Iv p2, Iv p3, Iv p4, Lv (q1 &&& (9223372036854775807 : Int64)), Zs, Iv (p2 &&& (2147483647 : Int32)), Us, Us, Us, Us, Us, Us] [(.int (2147483647 : Int32)), (.int p3), (.int (1 : Int32))])) tt_
    refine XS.iand X0.here hEX rfl (hb hBY at_17) rfl ?_
    exact kt_
  refine Done.pre sg_1 ?_
  obtain ⟨_, _, ⟨T_2, L_2, k_2, n_2⟩, -, X_2, ⟨Lc_2, hQ_2, l_2, y_2, z_2⟩, st_2⟩ := Jvm.LawKit.callS X0 hEX (y := (⟨"java/lang/Math", "max", "(II)I"⟩ : MethodName)) hOW (mvT hZW (hw _ (List.mem_of_getElem? (i := 2) rfl))) (mvT hZW (hw _ (List.mem_of_getElem? (i := 3) rfl))) (mvT hZW (hw _ (List.mem_of_getElem? (i := 4) rfl))) (mvT hZW (hw _ (List.mem_of_getElem? (i := 5) rfl))) (by decide) (backOf (W := 0) (rm_max l Z aZ hw [] (1 : Int32) (p3 &&& (2147483647 : Int32)) h0 n0 (Nat.le_trans Z0 K0.1) ) hZW (hw _ (List.mem_of_getElem? (i := 5) rfl)) (hw _ (List.mem_of_getElem? (i := 4) rfl)) (by decide) (by decide)) (g := (mkF m 18 #[Lv q1, Zs, Iv p2, Iv p3, Iv p4, Lv (q1 &&& (9223372036854775807 : Int64)), Zs, Iv (p2 &&& (2147483647 : Int32)), Us, Us, Us, Us, Us, Us] [(.int (p3 &&& (2147483647 : Int32))), (.int (1 : Int32))])) rfl (by rw [hMX]; rfl) (argsL := [(.int (1 : Int32)), (.int (p3 &&& (2147483647 : Int32)))]) (rest := []) (lenOf pd__II_I_4 rfl) rfl (by show 2 * 0 + _ ≤ _; exact Nat.le_of_eq rfl) (hb hBY at_18) (fun _ _ => ⟨rfl, e0, (by decide : 0 + 0 ≤ _), (by decide : 0 + 0 ≤ _)⟩)
  dsimp only [Pt.U, Pt.locs, Pt.cells, Pt.slots] at X_2 l_2 y_2 z_2 st_2 hQ_2
  subst l_2 y_2 z_2
  obtain ⟨rfl, N_2q, e_2⟩ := hQ_2
  have N_2 := Fr.app N0 N_2q
  refine Done.pre (fun _ k_ => st_2 _ k_) ?_
  show Done _ _ _ _ _ _ _ (T_2.setTop (mkF m 21 #[Lv q1, Zs, Iv p2, Iv p3, Iv p4, Lv (q1 &&& (9223372036854775807 : Int64)), Zs, Iv (p2 &&& (2147483647 : Int32)), Us, Us, Us, Us, Us, Us] [(.int (own_max (1 : Int32) (p3 &&& (2147483647 : Int32))))]))
  have sg_3 : ∀ tt_, Steps p.tables e below (T_2.setTop (mkF m 30 #[Lv q1, Zs, Iv p2, Iv p3, Iv p4, Lv (q1 &&& (9223372036854775807 : Int64)), Zs, Iv (p2 &&& (2147483647 : Int32)), Iv (own_max (1 : Int32) (p3 &&& (2147483647 : Int32))), Iv (p4 &&& (2147483647 : Int32)), Us, Us, Us, Us] [])) tt_ → Steps p.tables e below (T_2.setTop (mkF m 21 #[Lv q1, Zs, Iv p2, Iv p3, Iv p4, Lv (q1 &&& (9223372036854775807 : Int64)), Zs, Iv (p2 &&& (2147483647 : Int32)), Us, Us, Us, Us, Us, Us] [(.int (own_max (1 : Int32) (p3 &&& (2147483647 : Int32))))])) tt_ := by
    intro tt_ kt_
    refine XS.istore X_2.here hEX rfl (hb hBY at_21) rfl (l' := #[Lv q1, Zs, Iv p2, Iv p3, Iv p4, Lv (q1 &&& (9223372036854775807 : Int64)), Zs, Iv (p2 &&& (2147483647 : Int32)), Iv (own_max (1 : Int32) (p3 &&& (2147483647 : Int32))), Us, Us, Us, Us, Us]) rfl ?_
    show Steps p.tables e below (T_2.setTop (mkF m 23 #[Lv q1, Zs, Iv p2, Iv p3, Iv p4, Lv (q1 &&& (9223372036854775807 : Int64)), Zs, Iv (p2 &&& (2147483647 : Int32)), Iv (own_max (1 : Int32) (p3 &&& (2147483647 : Int32))), Us, Us, Us, Us, Us] [])) tt_
    refine XS.iload X_2.here hEX rfl (hb hBY at_23) rfl ?_
    show Steps p.tables e below (T_2.setTop (mkF m 25 #[Lv q1, Zs, Iv p2, Iv p3, Iv p4, Lv (q1 &&& (9223372036854775807 : Int64)), Zs, Iv (p2 &&& (2147483647 : Int32)), Iv (own_max (1 : Int32) (p3 &&& (2147483647 : Int32))), Us, Us, Us, Us, Us] [(.int p4)])) tt_
    refine X_2.ldcInt hEX hOW (mvT hZW (hw _ (List.mem_of_getElem? (i := 1) rfl))) (g := (mkF m 25 #[Lv q1, Zs, Iv p2, Iv p3, Iv p4, Lv (q1 &&& (9223372036854775807 : Int64)), Zs, Iv (p2 &&& (2147483647 : Int32)), Iv (own_max (1 : Int32) (p3 &&& (2147483647 : Int32))), Us, Us, Us, Us, Us] [(.int p4)])) rfl (hb hBY at_25) _ ?_
    show Steps p.tables e below (T_2.setTop (mkF m 27 #[Lv q1, Zs, Iv p2, Iv p3, Iv p4, Lv (q1 &&& (9223372036854775807 : Int64)), Zs, Iv (p2 &&& (2147483647 : Int32)), Iv (own_max (1 : Int32) (p3 &&& (2147483647 : Int32))), Us, Us, Us, Us, Us] [(.int (2147483647 : Int32)), (.int p4)])) tt_
    refine XS.iand X_2.here hEX rfl (hb hBY at_27) rfl ?_
    show Steps p.tables e below (T_2.setTop (mkF m 28 #[Lv q1, Zs, Iv p2, Iv p3, Iv p4, Lv (q1 &&& (9223372036854775807 : Int64)), Zs, Iv (p2 &&& (2147483647 : Int32)), Iv (own_max (1 : Int32) (p3 &&& (2147483647 : Int32))), Us, Us, Us, Us, Us] [(.int (p4 &&& (2147483647 : Int32)))])) tt_
    refine XS.istore X_2.here hEX rfl (hb hBY at_28) rfl (l' := #[Lv q1, Zs, Iv p2, Iv p3, Iv p4, Lv (q1 &&& (9223372036854775807 : Int64)), Zs, Iv (p2 &&& (2147483647 : Int32)), Iv (own_max (1 : Int32) (p3 &&& (2147483647 : Int32))), Iv (p4 &&& (2147483647 : Int32)), Us, Us, Us, Us]) rfl ?_
    exact kt_
  refine Done.pre sg_3 ?_
  obtain ⟨T_4, h_4, X_4, e_4, E_4, A_4, D_4, -, st_4⟩ := newO X_2 hEX hZW hOW (hw _ (List.mem_of_getElem? (i := 6) rfl)) (hw _ (List.mem_of_getElem? (i := 7) rfl)) (hw _ (List.mem_of_getElem? (i := 8) rfl)) e_2 (g := (mkF m 30 #[Lv q1, Zs, Iv p2, Iv p3, Iv p4, Lv (q1 &&& (9223372036854775807 : Int64)), Zs, Iv (p2 &&& (2147483647 : Int32)), Iv (own_max (1 : Int32) (p3 &&& (2147483647 : Int32))), Iv (p4 &&& (2147483647 : Int32)), Us, Us, Us, Us] [])) rfl (hb hBY at_30) (by decide) (by decide)
  obtain ⟨b_4, g_4⟩ : ∃ z, z = h0.size := ⟨_, rfl⟩
  rw [← g_4] at A_4 D_4 st_4
  have sz_b_4 : h0.size ≤ b_4 := Nat.le_trans K0.1 (Nat.le_of_eq g_4.symm)
  have ge_b_4 : n0 ≤ b_4 := Nat.le_trans Z0 sz_b_4
  have K__5 : Keep h0 h_4 [] := K0.ext E_4
  have f_6 : Exa Z h_4 b_4 "com/example/traversine/traversine/web/Limits" := A_4
  have f_7 : Fld Z h_4 b_4 "com/example/traversine/traversine/web/Limits" "maxLookups" "J" (.long (0 : Int64)) := D_4 (Or.inr (hw _ (List.mem_of_getElem? (i := 21) rfl))) (ty := .long) (by decide)
  have f_8 : Fld Z h_4 b_4 "com/example/traversine/traversine/web/Limits" "maxDocumentBytes" "I" (.int (0 : Int32)) := D_4 (Or.inr (hw _ (List.mem_of_getElem? (i := 23) rfl))) (ty := .int) (by decide)
  have f_9 : Fld Z h_4 b_4 "com/example/traversine/traversine/web/Limits" "parallelLookups" "I" (.int (0 : Int32)) := D_4 (Or.inr (hw _ (List.mem_of_getElem? (i := 25) rfl))) (ty := .int) (by decide)
  refine Done.pre st_4 ?_
  show Done _ _ _ _ _ _ _ (T_4.setTop (mkF m 33 #[Lv q1, Zs, Iv p2, Iv p3, Iv p4, Lv (q1 &&& (9223372036854775807 : Int64)), Zs, Iv (p2 &&& (2147483647 : Int32)), Iv (own_max (1 : Int32) (p3 &&& (2147483647 : Int32))), Iv (p4 &&& (2147483647 : Int32)), Us, Us, Us, Us] [(.ref b_4)]))
  have sg_10 : ∀ tt_, Steps p.tables e below (T_4.setTop (mkF m 40 #[Lv q1, Zs, Iv p2, Iv p3, Iv p4, Lv (q1 &&& (9223372036854775807 : Int64)), Zs, Iv (p2 &&& (2147483647 : Int32)), Iv (own_max (1 : Int32) (p3 &&& (2147483647 : Int32))), Iv (p4 &&& (2147483647 : Int32)), Us, Us, Us, Us] [(.int (own_max (1 : Int32) (p3 &&& (2147483647 : Int32)))), (.int (p2 &&& (2147483647 : Int32))), (.long (q1 &&& (9223372036854775807 : Int64))), (.ref b_4), (.ref b_4)])) tt_ → Steps p.tables e below (T_4.setTop (mkF m 33 #[Lv q1, Zs, Iv p2, Iv p3, Iv p4, Lv (q1 &&& (9223372036854775807 : Int64)), Zs, Iv (p2 &&& (2147483647 : Int32)), Iv (own_max (1 : Int32) (p3 &&& (2147483647 : Int32))), Iv (p4 &&& (2147483647 : Int32)), Us, Us, Us, Us] [(.ref b_4)])) tt_ := by
    intro tt_ kt_
    refine XS.dup X_4.here hEX rfl (hb hBY at_33) rfl rfl ?_
    show Steps p.tables e below (T_4.setTop (mkF m 34 #[Lv q1, Zs, Iv p2, Iv p3, Iv p4, Lv (q1 &&& (9223372036854775807 : Int64)), Zs, Iv (p2 &&& (2147483647 : Int32)), Iv (own_max (1 : Int32) (p3 &&& (2147483647 : Int32))), Iv (p4 &&& (2147483647 : Int32)), Us, Us, Us, Us] [(.ref b_4), (.ref b_4)])) tt_
    refine XS.lload X_4.here hEX rfl (hb hBY at_34) rfl ?_
    show Steps p.tables e below (T_4.setTop (mkF m 36 #[Lv q1, Zs, Iv p2, Iv p3, Iv p4, Lv (q1 &&& (9223372036854775807 : Int64)), Zs, Iv (p2 &&& (2147483647 : Int32)), Iv (own_max (1 : Int32) (p3 &&& (2147483647 : Int32))), Iv (p4 &&& (2147483647 : Int32)), Us, Us, Us, Us] [(.long (q1 &&& (9223372036854775807 : Int64))), (.ref b_4), (.ref b_4)])) tt_
    refine XS.iload X_4.here hEX rfl (hb hBY at_36) rfl ?_
    show Steps p.tables e below (T_4.setTop (mkF m 38 #[Lv q1, Zs, Iv p2, Iv p3, Iv p4, Lv (q1 &&& (9223372036854775807 : Int64)), Zs, Iv (p2 &&& (2147483647 : Int32)), Iv (own_max (1 : Int32) (p3 &&& (2147483647 : Int32))), Iv (p4 &&& (2147483647 : Int32)), Us, Us, Us, Us] [(.int (p2 &&& (2147483647 : Int32))), (.long (q1 &&& (9223372036854775807 : Int64))), (.ref b_4), (.ref b_4)])) tt_
    refine XS.iload X_4.here hEX rfl (hb hBY at_38) rfl ?_
    exact kt_
  refine Done.pre sg_10 ?_
  obtain ⟨_, _, ⟨T_11, L_11, k_11, n_11⟩, -, X_11, ⟨Lc_11, hQ_11, l_11, y_11, z_11⟩, st_11⟩ := X_4.specialBack hEX (y := (⟨"com/example/traversine/traversine/web/Limits", "<init>", "(JII)V"⟩ : MethodName)) rfl hOW (mvT hZW (hw _ (List.mem_of_getElem? (i := 9) rfl))) (mvT hZW (hw _ (List.mem_of_getElem? (i := 10) rfl))) (mvT hZW (hw _ (List.mem_of_getElem? (i := 11) rfl))) (by decide) (backOf (W := 1) (rm_init l Z aZ hw [] b_4 (q1 &&& (9223372036854775807 : Int64)) (p2 &&& (2147483647 : Int32)) (own_max (1 : Int32) (p3 &&& (2147483647 : Int32))) (.long (0 : Int64)) (.int (0 : Int32)) (.int (0 : Int32)) h_4 n0 (Nat.le_trans Z0 K__5.1) f_6 f_7 f_8 f_9 ge_b_4 (own_l63 _) (own_i31 _) (own_max1 _)) hZW (hw _ (List.mem_of_getElem? (i := 11) rfl)) (hw _ (List.mem_of_getElem? (i := 8) rfl)) (by decide) (by decide)) (g := (mkF m 40 #[Lv q1, Zs, Iv p2, Iv p3, Iv p4, Lv (q1 &&& (9223372036854775807 : Int64)), Zs, Iv (p2 &&& (2147483647 : Int32)), Iv (own_max (1 : Int32) (p3 &&& (2147483647 : Int32))), Iv (p4 &&& (2147483647 : Int32)), Us, Us, Us, Us] [(.int (own_max (1 : Int32) (p3 &&& (2147483647 : Int32)))), (.int (p2 &&& (2147483647 : Int32))), (.long (q1 &&& (9223372036854775807 : Int64))), (.ref b_4), (.ref b_4)])) rfl (by rw [hMX]; rfl) (Steps.refl _) (a := b_4) (argsL := [(.long (q1 &&& (9223372036854775807 : Int64))), (.int (p2 &&& (2147483647 : Int32))), (.int (own_max (1 : Int32) (p3 &&& (2147483647 : Int32))))]) (rest := [(.ref b_4)]) (lenOf pd__JII_V_5 rfl) rfl (by show 2 * 0 + _ ≤ _; exact Nat.le_of_eq rfl) (hb hBY at_40) (fun _ _ => ⟨rfl, e_4, (by decide : 1 + 0 ≤ _), (by decide : 3 + 0 ≤ _)⟩)
  dsimp only [Pt.U, Pt.locs, Pt.cells, Pt.slots] at X_11 l_11 y_11 z_11 st_11 hQ_11
  subst l_11 y_11 z_11
  obtain ⟨rfl, N_11q, K_11, hq_11_0, hq_11_1, hq_11_2, hq_11_3⟩ := hQ_11
  have N_11 := Fr.app N_2 N_11q
  have K__12 : Keep h0 T_11.heap [] := K__5.trans K_11 (allS (Or.inr sz_b_4) all0)
  have f_13 : Exa Z T_11.heap b_4 "com/example/traversine/traversine/web/Limits" := f_6.keep K_11
  refine Done.pre (fun _ k_ => st_11.trans k_) ?_
  show Done _ _ _ _ _ _ _ (T_11.setTop (mkF m 43 #[Lv q1, Zs, Iv p2, Iv p3, Iv p4, Lv (q1 &&& (9223372036854775807 : Int64)), Zs, Iv (p2 &&& (2147483647 : Int32)), Iv (own_max (1 : Int32) (p3 &&& (2147483647 : Int32))), Iv (p4 &&& (2147483647 : Int32)), Us, Us, Us, Us] [(.ref b_4)]))
  have sg_14 : ∀ tt_, Steps p.tables e below (T_11.setTop (mkF m 49 #[Lv q1, Zs, Iv p2, Iv p3, Iv p4, Lv (q1 &&& (9223372036854775807 : Int64)), Zs, Iv (p2 &&& (2147483647 : Int32)), Iv (own_max (1 : Int32) (p3 &&& (2147483647 : Int32))), Iv (p4 &&& (2147483647 : Int32)), Rv b_4, Us, Us, Us] [(.int (p4 &&& (2147483647 : Int32))), (.ref b_4)])) tt_ → Steps p.tables e below (T_11.setTop (mkF m 43 #[Lv q1, Zs, Iv p2, Iv p3, Iv p4, Lv (q1 &&& (9223372036854775807 : Int64)), Zs, Iv (p2 &&& (2147483647 : Int32)), Iv (own_max (1 : Int32) (p3 &&& (2147483647 : Int32))), Iv (p4 &&& (2147483647 : Int32)), Us, Us, Us, Us] [(.ref b_4)])) tt_ := by
    intro tt_ kt_
    refine XS.astore X_11.here hEX rfl (hb hBY at_43) rfl rfl (l' := #[Lv q1, Zs, Iv p2, Iv p3, Iv p4, Lv (q1 &&& (9223372036854775807 : Int64)), Zs, Iv (p2 &&& (2147483647 : Int32)), Iv (own_max (1 : Int32) (p3 &&& (2147483647 : Int32))), Iv (p4 &&& (2147483647 : Int32)), Rv b_4, Us, Us, Us]) rfl ?_
    show Steps p.tables e below (T_11.setTop (mkF m 45 #[Lv q1, Zs, Iv p2, Iv p3, Iv p4, Lv (q1 &&& (9223372036854775807 : Int64)), Zs, Iv (p2 &&& (2147483647 : Int32)), Iv (own_max (1 : Int32) (p3 &&& (2147483647 : Int32))), Iv (p4 &&& (2147483647 : Int32)), Rv b_4, Us, Us, Us] [])) tt_
    refine XS.aload X_11.here hEX rfl (hb hBY at_45) rfl rfl ?_
    show Steps p.tables e below (T_11.setTop (mkF m 47 #[Lv q1, Zs, Iv p2, Iv p3, Iv p4, Lv (q1 &&& (9223372036854775807 : Int64)), Zs, Iv (p2 &&& (2147483647 : Int32)), Iv (own_max (1 : Int32) (p3 &&& (2147483647 : Int32))), Iv (p4 &&& (2147483647 : Int32)), Rv b_4, Us, Us, Us] [(.ref b_4)])) tt_
    refine XS.iload X_11.here hEX rfl (hb hBY at_47) rfl ?_
    exact kt_
  refine Done.pre sg_14 ?_
  obtain ⟨cq_15, kq_15, q_15a, q_15b, q_15c⟩ := isOf hZW rfl hq_11_0
  obtain ⟨_, _, ⟨T_15, L_15, k_15, n_15⟩, -, X_15, ⟨Lc_15, hQ_15, l_15, y_15, z_15⟩, st_15⟩ := X_11.virtualBack hEX (y := (⟨"com/example/traversine/traversine/web/Limits", "withMaxDocumentBytes", "(I)Lcom/example/traversine/traversine/web/Limits;"⟩ : MethodName)) (z := (⟨"com/example/traversine/traversine/web/Limits", "withMaxDocumentBytes", "(I)Lcom/example/traversine/traversine/web/Limits;"⟩ : MethodName)) hOW (mvT hZW (hw _ (List.mem_of_getElem? (i := 26) rfl))) (mvT hZW (hw _ (List.mem_of_getElem? (i := 27) rfl))) (notFace_of_selects (args := #[]) (mvT hZW (hw _ (List.mem_of_getElem? (i := 29) rfl)))) (mvT hZW (hw _ (List.mem_of_getElem? (i := 29) rfl))) (mvT hZW (hw _ (List.mem_of_getElem? (i := 28) rfl))) (by decide) (backOf (W := 0) (rm_with l Z aZ hw [] b_4 (p4 &&& (2147483647 : Int32)) (q1 &&& (9223372036854775807 : Int64)) (p2 &&& (2147483647 : Int32)) (own_max (1 : Int32) (p3 &&& (2147483647 : Int32))) T_11.heap n0 (Nat.le_trans Z0 K__12.1) hq_11_1 hq_11_2 hq_11_3 (own_l63 _) (own_i31 _) (own_max1 _) (own_i31 _)) hZW (hw _ (List.mem_of_getElem? (i := 30) rfl)) (hw _ (List.mem_of_getElem? (i := 8) rfl)) (by decide) (by decide)) q_15a q_15c (g := (mkF m 49 #[Lv q1, Zs, Iv p2, Iv p3, Iv p4, Lv (q1 &&& (9223372036854775807 : Int64)), Zs, Iv (p2 &&& (2147483647 : Int32)), Iv (own_max (1 : Int32) (p3 &&& (2147483647 : Int32))), Iv (p4 &&& (2147483647 : Int32)), Rv b_4, Us, Us, Us] [(.int (p4 &&& (2147483647 : Int32))), (.ref b_4)])) rfl (by rw [hMX]; rfl) (Steps.refl _) (argsL := [(.int (p4 &&& (2147483647 : Int32)))]) (rest := []) (lenOf pd__I_Lcom_example_traversine_traversine_web_Limits__3 rfl) rfl (by show 2 * 0 + _ ≤ _; exact Nat.le_of_eq rfl) (hb hBY at_49) (fun _ _ => ⟨rfl, rfl, (by decide : 1 + 1 ≤ _), (by decide : 3 + 3 ≤ _)⟩)
  dsimp only [Pt.U, Pt.locs, Pt.cells, Pt.slots] at X_15 l_15 y_15 z_15 st_15 hQ_15
  subst l_15 y_15 z_15
  obtain ⟨b__15, rfl, N_15q, K_15, hq_15_0, hq_15_1, hq_15_2, hq_15_3, hq_15_4⟩ := hQ_15
  have N_15 := Fr.app N_11 N_15q
  have K__16 : Keep h0 T_15.heap [] := K__12.trans K_15 all0
  have f_17 : Exa Z T_15.heap b_4 "com/example/traversine/traversine/web/Limits" := hq_11_0.keep K_15
  have f_18 : Fld Z T_15.heap b_4 "com/example/traversine/traversine/web/Limits" "maxLookups" "J" (.long (q1 &&& (9223372036854775807 : Int64))) := hq_11_1.keep K_15 nin0
  have f_19 : Fld Z T_15.heap b_4 "com/example/traversine/traversine/web/Limits" "maxDocumentBytes" "I" (.int (p2 &&& (2147483647 : Int32))) := hq_11_2.keep K_15 nin0
  have f_20 : Fld Z T_15.heap b_4 "com/example/traversine/traversine/web/Limits" "parallelLookups" "I" (.int (own_max (1 : Int32) (p3 &&& (2147483647 : Int32)))) := hq_11_3.keep K_15 nin0
  have sz_b__15 : h0.size ≤ b__15 := Nat.le_trans K__12.1 hq_15_4
  have ne_b_4_b__15 : b_4 ≠ b__15 := Nat.ne_of_lt (Nat.lt_of_lt_of_le hq_11_0.lt hq_15_4)
  refine Done.pre (fun _ k_ => st_15.trans k_) ?_
  show Done _ _ _ _ _ _ _ (T_15.setTop (mkF m 52 #[Lv q1, Zs, Iv p2, Iv p3, Iv p4, Lv (q1 &&& (9223372036854775807 : Int64)), Zs, Iv (p2 &&& (2147483647 : Int32)), Iv (own_max (1 : Int32) (p3 &&& (2147483647 : Int32))), Iv (p4 &&& (2147483647 : Int32)), Rv b_4, Us, Us, Us] [(.ref b__15)]))
  have sg_21 : ∀ tt_, Steps p.tables e below (T_15.setTop (mkF m 56 #[Lv q1, Zs, Iv p2, Iv p3, Iv p4, Lv (q1 &&& (9223372036854775807 : Int64)), Zs, Iv (p2 &&& (2147483647 : Int32)), Iv (own_max (1 : Int32) (p3 &&& (2147483647 : Int32))), Iv (p4 &&& (2147483647 : Int32)), Rv b_4, Rv b__15, Us, Us] [(.ref b__15)])) tt_ → Steps p.tables e below (T_15.setTop (mkF m 52 #[Lv q1, Zs, Iv p2, Iv p3, Iv p4, Lv (q1 &&& (9223372036854775807 : Int64)), Zs, Iv (p2 &&& (2147483647 : Int32)), Iv (own_max (1 : Int32) (p3 &&& (2147483647 : Int32))), Iv (p4 &&& (2147483647 : Int32)), Rv b_4, Us, Us, Us] [(.ref b__15)])) tt_ := by
    intro tt_ kt_
    refine XS.astore X_15.here hEX rfl (hb hBY at_52) rfl rfl (l' := #[Lv q1, Zs, Iv p2, Iv p3, Iv p4, Lv (q1 &&& (9223372036854775807 : Int64)), Zs, Iv (p2 &&& (2147483647 : Int32)), Iv (own_max (1 : Int32) (p3 &&& (2147483647 : Int32))), Iv (p4 &&& (2147483647 : Int32)), Rv b_4, Rv b__15, Us, Us]) rfl ?_
    show Steps p.tables e below (T_15.setTop (mkF m 54 #[Lv q1, Zs, Iv p2, Iv p3, Iv p4, Lv (q1 &&& (9223372036854775807 : Int64)), Zs, Iv (p2 &&& (2147483647 : Int32)), Iv (own_max (1 : Int32) (p3 &&& (2147483647 : Int32))), Iv (p4 &&& (2147483647 : Int32)), Rv b_4, Rv b__15, Us, Us] [])) tt_
    refine XS.aload X_15.here hEX rfl (hb hBY at_54) rfl rfl ?_
    exact kt_
  refine Done.pre sg_21 ?_
  obtain ⟨cq_22, kq_22, q_22a, q_22b, q_22c⟩ := isOf hZW rfl hq_15_0
  obtain ⟨_, _, ⟨T_22, L_22, k_22, n_22⟩, -, X_22, ⟨Lc_22, hQ_22, l_22, y_22, z_22⟩, st_22⟩ := X_15.virtualBack hEX (y := (⟨"com/example/traversine/traversine/web/Limits", "maxDocumentBytes", "()I"⟩ : MethodName)) (z := (⟨"com/example/traversine/traversine/web/Limits", "maxDocumentBytes", "()I"⟩ : MethodName)) hOW (mvT hZW (hw _ (List.mem_of_getElem? (i := 33) rfl))) (mvT hZW (hw _ (List.mem_of_getElem? (i := 34) rfl))) (notFace_of_selects (args := #[]) (mvT hZW (hw _ (List.mem_of_getElem? (i := 36) rfl)))) (mvT hZW (hw _ (List.mem_of_getElem? (i := 36) rfl))) (mvT hZW (hw _ (List.mem_of_getElem? (i := 35) rfl))) (by decide) (backOf (W := 0) (rm_maxDocumentBytes l Z aZ hw [] b__15 (p4 &&& (2147483647 : Int32)) T_15.heap n0 (Nat.le_trans Z0 K__16.1) hq_15_2) hZW (hw _ (List.mem_of_getElem? (i := 37) rfl)) (hw _ (List.mem_of_getElem? (i := 8) rfl)) (by decide) (by decide)) q_22a q_22c (g := (mkF m 56 #[Lv q1, Zs, Iv p2, Iv p3, Iv p4, Lv (q1 &&& (9223372036854775807 : Int64)), Zs, Iv (p2 &&& (2147483647 : Int32)), Iv (own_max (1 : Int32) (p3 &&& (2147483647 : Int32))), Iv (p4 &&& (2147483647 : Int32)), Rv b_4, Rv b__15, Us, Us] [(.ref b__15)])) rfl (by rw [hMX]; rfl) (Steps.refl _) (argsL := []) (rest := []) (lenOf pd___I_0 rfl) rfl (by show 2 * 0 + _ ≤ _; exact Nat.le_of_eq rfl) (hb hBY at_56) (fun _ _ => ⟨rfl, rfl, (by decide : 2 + 0 ≤ _), (by decide : 6 + 0 ≤ _)⟩)
  dsimp only [Pt.U, Pt.locs, Pt.cells, Pt.slots] at X_22 l_22 y_22 z_22 st_22 hQ_22
  subst l_22 y_22 z_22
  obtain ⟨rfl, N_22q, e_22⟩ := hQ_22
  have N_22 := Fr.app N_15 N_22q
  refine Done.pre (fun _ k_ => st_22.trans k_) ?_
  show Done _ _ _ _ _ _ _ (T_22.setTop (mkF m 59 #[Lv q1, Zs, Iv p2, Iv p3, Iv p4, Lv (q1 &&& (9223372036854775807 : Int64)), Zs, Iv (p2 &&& (2147483647 : Int32)), Iv (own_max (1 : Int32) (p3 &&& (2147483647 : Int32))), Iv (p4 &&& (2147483647 : Int32)), Rv b_4, Rv b__15, Us, Us] [(.int (p4 &&& (2147483647 : Int32)))]))
  have sg_23 : ∀ tt_, Steps p.tables e below (T_22.setTop (mkF m 66 #[Lv q1, Zs, Iv p2, Iv p3, Iv p4, Lv (q1 &&& (9223372036854775807 : Int64)), Zs, Iv (p2 &&& (2147483647 : Int32)), Iv (own_max (1 : Int32) (p3 &&& (2147483647 : Int32))), Iv (p4 &&& (2147483647 : Int32)), Rv b_4, Rv b__15, Us, Us] [(.ref b__15)])) tt_ → Steps p.tables e below (T_22.setTop (mkF m 59 #[Lv q1, Zs, Iv p2, Iv p3, Iv p4, Lv (q1 &&& (9223372036854775807 : Int64)), Zs, Iv (p2 &&& (2147483647 : Int32)), Iv (own_max (1 : Int32) (p3 &&& (2147483647 : Int32))), Iv (p4 &&& (2147483647 : Int32)), Rv b_4, Rv b__15, Us, Us] [(.int (p4 &&& (2147483647 : Int32)))])) tt_ := by
    intro tt_ kt_
    refine XS.iload X_22.here hEX rfl (hb hBY at_59) rfl ?_
    show Steps p.tables e below (T_22.setTop (mkF m 61 #[Lv q1, Zs, Iv p2, Iv p3, Iv p4, Lv (q1 &&& (9223372036854775807 : Int64)), Zs, Iv (p2 &&& (2147483647 : Int32)), Iv (own_max (1 : Int32) (p3 &&& (2147483647 : Int32))), Iv (p4 &&& (2147483647 : Int32)), Rv b_4, Rv b__15, Us, Us] [(.int (p4 &&& (2147483647 : Int32))), (.int (p4 &&& (2147483647 : Int32)))])) tt_
    refine XS.icmpNo X_22.here hEX rfl (hb hBY at_61) rfl (teq (rfl : (p4 &&& (2147483647 : Int32)) = (p4 &&& (2147483647 : Int32)))).2 ?_
    show Steps p.tables e below (T_22.setTop (mkF m 64 #[Lv q1, Zs, Iv p2, Iv p3, Iv p4, Lv (q1 &&& (9223372036854775807 : Int64)), Zs, Iv (p2 &&& (2147483647 : Int32)), Iv (own_max (1 : Int32) (p3 &&& (2147483647 : Int32))), Iv (p4 &&& (2147483647 : Int32)), Rv b_4, Rv b__15, Us, Us] [])) tt_
    refine XS.aload X_22.here hEX rfl (hb hBY at_64) rfl rfl ?_
    exact kt_
  refine Done.pre sg_23 ?_
  obtain ⟨cq_24, kq_24, q_24a, q_24b, q_24c⟩ := isOf hZW e_22 hq_15_0
  obtain ⟨_, _, ⟨T_24, L_24, k_24, n_24⟩, -, X_24, ⟨Lc_24, hQ_24, l_24, y_24, z_24⟩, st_24⟩ := X_22.virtualBack hEX (y := (⟨"com/example/traversine/traversine/web/Limits", "maxLookups", "()J"⟩ : MethodName)) (z := (⟨"com/example/traversine/traversine/web/Limits", "maxLookups", "()J"⟩ : MethodName)) hOW (mvT hZW (hw _ (List.mem_of_getElem? (i := 38) rfl))) (mvT hZW (hw _ (List.mem_of_getElem? (i := 39) rfl))) (notFace_of_selects (args := #[]) (mvT hZW (hw _ (List.mem_of_getElem? (i := 41) rfl)))) (mvT hZW (hw _ (List.mem_of_getElem? (i := 41) rfl))) (mvT hZW (hw _ (List.mem_of_getElem? (i := 40) rfl))) (by decide) (backOf (W := 0) (rm_maxLookups l Z aZ hw [] b__15 (q1 &&& (9223372036854775807 : Int64)) T_15.heap n0 (Nat.le_trans Z0 K__16.1) hq_15_1) hZW (hw _ (List.mem_of_getElem? (i := 42) rfl)) (hw _ (List.mem_of_getElem? (i := 8) rfl)) (by decide) (by decide)) q_24a q_24c (g := (mkF m 66 #[Lv q1, Zs, Iv p2, Iv p3, Iv p4, Lv (q1 &&& (9223372036854775807 : Int64)), Zs, Iv (p2 &&& (2147483647 : Int32)), Iv (own_max (1 : Int32) (p3 &&& (2147483647 : Int32))), Iv (p4 &&& (2147483647 : Int32)), Rv b_4, Rv b__15, Us, Us] [(.ref b__15)])) rfl (by rw [hMX]; rfl) (Steps.refl _) (argsL := []) (rest := []) (lenOf pd___J_1 rfl) rfl (by show 2 * 0 + _ ≤ _; exact Nat.le_of_eq rfl) (hb hBY at_66) (fun _ _ => ⟨rfl, e_22, (by decide : 2 + 0 ≤ _), (by decide : 6 + 0 ≤ _)⟩)
  dsimp only [Pt.U, Pt.locs, Pt.cells, Pt.slots] at X_24 l_24 y_24 z_24 st_24 hQ_24
  subst l_24 y_24 z_24
  obtain ⟨rfl, N_24q, e_24⟩ := hQ_24
  have N_24 := Fr.app N_22 N_24q
  refine Done.pre (fun _ k_ => st_24.trans k_) ?_
  show Done _ _ _ _ _ _ _ (T_24.setTop (mkF m 69 #[Lv q1, Zs, Iv p2, Iv p3, Iv p4, Lv (q1 &&& (9223372036854775807 : Int64)), Zs, Iv (p2 &&& (2147483647 : Int32)), Iv (own_max (1 : Int32) (p3 &&& (2147483647 : Int32))), Iv (p4 &&& (2147483647 : Int32)), Rv b_4, Rv b__15, Us, Us] [(.long (q1 &&& (9223372036854775807 : Int64)))]))
  have sg_25 : ∀ tt_, Steps p.tables e below (T_24.setTop (mkF m 77 #[Lv q1, Zs, Iv p2, Iv p3, Iv p4, Lv (q1 &&& (9223372036854775807 : Int64)), Zs, Iv (p2 &&& (2147483647 : Int32)), Iv (own_max (1 : Int32) (p3 &&& (2147483647 : Int32))), Iv (p4 &&& (2147483647 : Int32)), Rv b_4, Rv b__15, Us, Us] [(.ref b__15)])) tt_ → Steps p.tables e below (T_24.setTop (mkF m 69 #[Lv q1, Zs, Iv p2, Iv p3, Iv p4, Lv (q1 &&& (9223372036854775807 : Int64)), Zs, Iv (p2 &&& (2147483647 : Int32)), Iv (own_max (1 : Int32) (p3 &&& (2147483647 : Int32))), Iv (p4 &&& (2147483647 : Int32)), Rv b_4, Rv b__15, Us, Us] [(.long (q1 &&& (9223372036854775807 : Int64)))])) tt_ := by
    intro tt_ kt_
    refine XS.lload X_24.here hEX rfl (hb hBY at_69) rfl ?_
    show Steps p.tables e below (T_24.setTop (mkF m 71 #[Lv q1, Zs, Iv p2, Iv p3, Iv p4, Lv (q1 &&& (9223372036854775807 : Int64)), Zs, Iv (p2 &&& (2147483647 : Int32)), Iv (own_max (1 : Int32) (p3 &&& (2147483647 : Int32))), Iv (p4 &&& (2147483647 : Int32)), Rv b_4, Rv b__15, Us, Us] [(.long (q1 &&& (9223372036854775807 : Int64))), (.long (q1 &&& (9223372036854775807 : Int64)))])) tt_
    refine XS.lcmp X_24.here hEX rfl (hb hBY at_71) rfl ?_
    show Steps p.tables e below (T_24.setTop (mkF m 72 #[Lv q1, Zs, Iv p2, Iv p3, Iv p4, Lv (q1 &&& (9223372036854775807 : Int64)), Zs, Iv (p2 &&& (2147483647 : Int32)), Iv (own_max (1 : Int32) (p3 &&& (2147483647 : Int32))), Iv (p4 &&& (2147483647 : Int32)), Rv b_4, Rv b__15, Us, Us] [(.int (lcmpW (q1 &&& (9223372036854775807 : Int64)) (q1 &&& (9223372036854775807 : Int64))))])) tt_
    refine XS.ifNo X_24.here hEX rfl (hb hBY at_72) rfl ((if0 _ _).trans (teq ((lw_eq _ _).mpr (rfl : (q1 &&& (9223372036854775807 : Int64)) = (q1 &&& (9223372036854775807 : Int64))))).2) ?_
    show Steps p.tables e below (T_24.setTop (mkF m 75 #[Lv q1, Zs, Iv p2, Iv p3, Iv p4, Lv (q1 &&& (9223372036854775807 : Int64)), Zs, Iv (p2 &&& (2147483647 : Int32)), Iv (own_max (1 : Int32) (p3 &&& (2147483647 : Int32))), Iv (p4 &&& (2147483647 : Int32)), Rv b_4, Rv b__15, Us, Us] [])) tt_
    refine XS.aload X_24.here hEX rfl (hb hBY at_75) rfl rfl ?_
    exact kt_
  refine Done.pre sg_25 ?_
  obtain ⟨cq_26, kq_26, q_26a, q_26b, q_26c⟩ := isOf hZW e_24 hq_15_0
  obtain ⟨_, _, ⟨T_26, L_26, k_26, n_26⟩, -, X_26, ⟨Lc_26, hQ_26, l_26, y_26, z_26⟩, st_26⟩ := X_24.virtualBack hEX (y := (⟨"com/example/traversine/traversine/web/Limits", "parallelLookups", "()I"⟩ : MethodName)) (z := (⟨"com/example/traversine/traversine/web/Limits", "parallelLookups", "()I"⟩ : MethodName)) hOW (mvT hZW (hw _ (List.mem_of_getElem? (i := 43) rfl))) (mvT hZW (hw _ (List.mem_of_getElem? (i := 44) rfl))) (notFace_of_selects (args := #[]) (mvT hZW (hw _ (List.mem_of_getElem? (i := 46) rfl)))) (mvT hZW (hw _ (List.mem_of_getElem? (i := 46) rfl))) (mvT hZW (hw _ (List.mem_of_getElem? (i := 45) rfl))) (by decide) (backOf (W := 0) (rm_parallelLookups l Z aZ hw [] b__15 (own_max (1 : Int32) (p3 &&& (2147483647 : Int32))) T_15.heap n0 (Nat.le_trans Z0 K__16.1) hq_15_3) hZW (hw _ (List.mem_of_getElem? (i := 47) rfl)) (hw _ (List.mem_of_getElem? (i := 8) rfl)) (by decide) (by decide)) q_26a q_26c (g := (mkF m 77 #[Lv q1, Zs, Iv p2, Iv p3, Iv p4, Lv (q1 &&& (9223372036854775807 : Int64)), Zs, Iv (p2 &&& (2147483647 : Int32)), Iv (own_max (1 : Int32) (p3 &&& (2147483647 : Int32))), Iv (p4 &&& (2147483647 : Int32)), Rv b_4, Rv b__15, Us, Us] [(.ref b__15)])) rfl (by rw [hMX]; rfl) (Steps.refl _) (argsL := []) (rest := []) (lenOf pd___I_0 rfl) rfl (by show 2 * 0 + _ ≤ _; exact Nat.le_of_eq rfl) (hb hBY at_77) (fun _ _ => ⟨rfl, e_24, (by decide : 2 + 0 ≤ _), (by decide : 6 + 0 ≤ _)⟩)
  dsimp only [Pt.U, Pt.locs, Pt.cells, Pt.slots] at X_26 l_26 y_26 z_26 st_26 hQ_26
  subst l_26 y_26 z_26
  obtain ⟨rfl, N_26q, e_26⟩ := hQ_26
  have N_26 := Fr.app N_24 N_26q
  refine Done.pre (fun _ k_ => st_26.trans k_) ?_
  show Done _ _ _ _ _ _ _ (T_26.setTop (mkF m 80 #[Lv q1, Zs, Iv p2, Iv p3, Iv p4, Lv (q1 &&& (9223372036854775807 : Int64)), Zs, Iv (p2 &&& (2147483647 : Int32)), Iv (own_max (1 : Int32) (p3 &&& (2147483647 : Int32))), Iv (p4 &&& (2147483647 : Int32)), Rv b_4, Rv b__15, Us, Us] [(.int (own_max (1 : Int32) (p3 &&& (2147483647 : Int32))))]))
  have sg_27 : ∀ tt_, Steps p.tables e below (T_26.setTop (mkF m 94 #[Lv q1, Zs, Iv p2, Iv p3, Iv p4, Lv (q1 &&& (9223372036854775807 : Int64)), Zs, Iv (p2 &&& (2147483647 : Int32)), Iv (own_max (1 : Int32) (p3 &&& (2147483647 : Int32))), Iv (p4 &&& (2147483647 : Int32)), Rv b_4, Rv b__15, Iv (1 : Int32), Us] [(.ref b_4)])) tt_ → Steps p.tables e below (T_26.setTop (mkF m 80 #[Lv q1, Zs, Iv p2, Iv p3, Iv p4, Lv (q1 &&& (9223372036854775807 : Int64)), Zs, Iv (p2 &&& (2147483647 : Int32)), Iv (own_max (1 : Int32) (p3 &&& (2147483647 : Int32))), Iv (p4 &&& (2147483647 : Int32)), Rv b_4, Rv b__15, Us, Us] [(.int (own_max (1 : Int32) (p3 &&& (2147483647 : Int32))))])) tt_ := by
    intro tt_ kt_
    refine XS.iload X_26.here hEX rfl (hb hBY at_80) rfl ?_
    show Steps p.tables e below (T_26.setTop (mkF m 82 #[Lv q1, Zs, Iv p2, Iv p3, Iv p4, Lv (q1 &&& (9223372036854775807 : Int64)), Zs, Iv (p2 &&& (2147483647 : Int32)), Iv (own_max (1 : Int32) (p3 &&& (2147483647 : Int32))), Iv (p4 &&& (2147483647 : Int32)), Rv b_4, Rv b__15, Us, Us] [(.int (own_max (1 : Int32) (p3 &&& (2147483647 : Int32)))), (.int (own_max (1 : Int32) (p3 &&& (2147483647 : Int32))))])) tt_
    refine XS.icmpNo X_26.here hEX rfl (hb hBY at_82) rfl (teq (rfl : (own_max (1 : Int32) (p3 &&& (2147483647 : Int32))) = (own_max (1 : Int32) (p3 &&& (2147483647 : Int32))))).2 ?_
    show Steps p.tables e below (T_26.setTop (mkF m 85 #[Lv q1, Zs, Iv p2, Iv p3, Iv p4, Lv (q1 &&& (9223372036854775807 : Int64)), Zs, Iv (p2 &&& (2147483647 : Int32)), Iv (own_max (1 : Int32) (p3 &&& (2147483647 : Int32))), Iv (p4 &&& (2147483647 : Int32)), Rv b_4, Rv b__15, Us, Us] [])) tt_
    refine XS.iconst X_26.here hEX rfl (hb hBY at_85) ?_
    show Steps p.tables e below (T_26.setTop (mkF m 86 #[Lv q1, Zs, Iv p2, Iv p3, Iv p4, Lv (q1 &&& (9223372036854775807 : Int64)), Zs, Iv (p2 &&& (2147483647 : Int32)), Iv (own_max (1 : Int32) (p3 &&& (2147483647 : Int32))), Iv (p4 &&& (2147483647 : Int32)), Rv b_4, Rv b__15, Us, Us] [(.int (1 : Int32))])) tt_
    refine XS.goto X_26.here hEX rfl (pc0 := 86) (pc' := 90) rfl (hb hBY at_86) (by decide) (by decide) ?_
    show Steps p.tables e below (T_26.setTop (mkF m 90 #[Lv q1, Zs, Iv p2, Iv p3, Iv p4, Lv (q1 &&& (9223372036854775807 : Int64)), Zs, Iv (p2 &&& (2147483647 : Int32)), Iv (own_max (1 : Int32) (p3 &&& (2147483647 : Int32))), Iv (p4 &&& (2147483647 : Int32)), Rv b_4, Rv b__15, Us, Us] [(.int (1 : Int32))])) tt_
    refine XS.istore X_26.here hEX rfl (hb hBY at_90) rfl (l' := #[Lv q1, Zs, Iv p2, Iv p3, Iv p4, Lv (q1 &&& (9223372036854775807 : Int64)), Zs, Iv (p2 &&& (2147483647 : Int32)), Iv (own_max (1 : Int32) (p3 &&& (2147483647 : Int32))), Iv (p4 &&& (2147483647 : Int32)), Rv b_4, Rv b__15, Iv (1 : Int32), Us]) rfl ?_
    show Steps p.tables e below (T_26.setTop (mkF m 92 #[Lv q1, Zs, Iv p2, Iv p3, Iv p4, Lv (q1 &&& (9223372036854775807 : Int64)), Zs, Iv (p2 &&& (2147483647 : Int32)), Iv (own_max (1 : Int32) (p3 &&& (2147483647 : Int32))), Iv (p4 &&& (2147483647 : Int32)), Rv b_4, Rv b__15, Iv (1 : Int32), Us] [])) tt_
    refine XS.aload X_26.here hEX rfl (hb hBY at_92) rfl rfl ?_
    exact kt_
  refine Done.pre sg_27 ?_
  obtain ⟨cq_28, kq_28, q_28a, q_28b, q_28c⟩ := isOf hZW e_26 f_17
  obtain ⟨_, _, ⟨T_28, L_28, k_28, n_28⟩, -, X_28, ⟨Lc_28, hQ_28, l_28, y_28, z_28⟩, st_28⟩ := X_26.virtualBack hEX (y := (⟨"com/example/traversine/traversine/web/Limits", "maxDocumentBytes", "()I"⟩ : MethodName)) (z := (⟨"com/example/traversine/traversine/web/Limits", "maxDocumentBytes", "()I"⟩ : MethodName)) hOW (mvT hZW (hw _ (List.mem_of_getElem? (i := 33) rfl))) (mvT hZW (hw _ (List.mem_of_getElem? (i := 34) rfl))) (notFace_of_selects (args := #[]) (mvT hZW (hw _ (List.mem_of_getElem? (i := 36) rfl)))) (mvT hZW (hw _ (List.mem_of_getElem? (i := 36) rfl))) (mvT hZW (hw _ (List.mem_of_getElem? (i := 35) rfl))) (by decide) (backOf (W := 0) (rm_maxDocumentBytes l Z aZ hw [] b_4 (p2 &&& (2147483647 : Int32)) T_15.heap n0 (Nat.le_trans Z0 K__16.1) f_19) hZW (hw _ (List.mem_of_getElem? (i := 37) rfl)) (hw _ (List.mem_of_getElem? (i := 8) rfl)) (by decide) (by decide)) q_28a q_28c (g := (mkF m 94 #[Lv q1, Zs, Iv p2, Iv p3, Iv p4, Lv (q1 &&& (9223372036854775807 : Int64)), Zs, Iv (p2 &&& (2147483647 : Int32)), Iv (own_max (1 : Int32) (p3 &&& (2147483647 : Int32))), Iv (p4 &&& (2147483647 : Int32)), Rv b_4, Rv b__15, Iv (1 : Int32), Us] [(.ref b_4)])) rfl (by rw [hMX]; rfl) (Steps.refl _) (argsL := []) (rest := []) (lenOf pd___I_0 rfl) rfl (by show 2 * 0 + _ ≤ _; exact Nat.le_of_eq rfl) (hb hBY at_94) (fun _ _ => ⟨rfl, e_26, (by decide : 2 + 0 ≤ _), (by decide : 6 + 0 ≤ _)⟩)
  dsimp only [Pt.U, Pt.locs, Pt.cells, Pt.slots] at X_28 l_28 y_28 z_28 st_28 hQ_28
  subst l_28 y_28 z_28
  obtain ⟨rfl, N_28q, e_28⟩ := hQ_28
  have N_28 := Fr.app N_26 N_28q
  refine Done.pre (fun _ k_ => st_28.trans k_) ?_
  show Done _ _ _ _ _ _ _ (T_28.setTop (mkF m 97 #[Lv q1, Zs, Iv p2, Iv p3, Iv p4, Lv (q1 &&& (9223372036854775807 : Int64)), Zs, Iv (p2 &&& (2147483647 : Int32)), Iv (own_max (1 : Int32) (p3 &&& (2147483647 : Int32))), Iv (p4 &&& (2147483647 : Int32)), Rv b_4, Rv b__15, Iv (1 : Int32), Us] [(.int (p2 &&& (2147483647 : Int32)))]))
  have sg_29 : ∀ tt_, Steps p.tables e below (T_28.setTop (mkF m 104 #[Lv q1, Zs, Iv p2, Iv p3, Iv p4, Lv (q1 &&& (9223372036854775807 : Int64)), Zs, Iv (p2 &&& (2147483647 : Int32)), Iv (own_max (1 : Int32) (p3 &&& (2147483647 : Int32))), Iv (p4 &&& (2147483647 : Int32)), Rv b_4, Rv b__15, Iv (1 : Int32), Us] [(.ref b_4)])) tt_ → Steps p.tables e below (T_28.setTop (mkF m 97 #[Lv q1, Zs, Iv p2, Iv p3, Iv p4, Lv (q1 &&& (9223372036854775807 : Int64)), Zs, Iv (p2 &&& (2147483647 : Int32)), Iv (own_max (1 : Int32) (p3 &&& (2147483647 : Int32))), Iv (p4 &&& (2147483647 : Int32)), Rv b_4, Rv b__15, Iv (1 : Int32), Us] [(.int (p2 &&& (2147483647 : Int32)))])) tt_ := by
    intro tt_ kt_
    refine XS.iload X_28.here hEX rfl (hb hBY at_97) rfl ?_
    show Steps p.tables e below (T_28.setTop (mkF m 99 #[Lv q1, Zs, Iv p2, Iv p3, Iv p4, Lv (q1 &&& (9223372036854775807 : Int64)), Zs, Iv (p2 &&& (2147483647 : Int32)), Iv (own_max (1 : Int32) (p3 &&& (2147483647 : Int32))), Iv (p4 &&& (2147483647 : Int32)), Rv b_4, Rv b__15, Iv (1 : Int32), Us] [(.int (p2 &&& (2147483647 : Int32))), (.int (p2 &&& (2147483647 : Int32)))])) tt_
    refine XS.icmpNo X_28.here hEX rfl (hb hBY at_99) rfl (teq (rfl : (p2 &&& (2147483647 : Int32)) = (p2 &&& (2147483647 : Int32)))).2 ?_
    show Steps p.tables e below (T_28.setTop (mkF m 102 #[Lv q1, Zs, Iv p2, Iv p3, Iv p4, Lv (q1 &&& (9223372036854775807 : Int64)), Zs, Iv (p2 &&& (2147483647 : Int32)), Iv (own_max (1 : Int32) (p3 &&& (2147483647 : Int32))), Iv (p4 &&& (2147483647 : Int32)), Rv b_4, Rv b__15, Iv (1 : Int32), Us] [])) tt_
    refine XS.aload X_28.here hEX rfl (hb hBY at_102) rfl rfl ?_
    exact kt_
  refine Done.pre sg_29 ?_
  obtain ⟨cq_30, kq_30, q_30a, q_30b, q_30c⟩ := isOf hZW e_28 f_17
  obtain ⟨_, _, ⟨T_30, L_30, k_30, n_30⟩, -, X_30, ⟨Lc_30, hQ_30, l_30, y_30, z_30⟩, st_30⟩ := X_28.virtualBack hEX (y := (⟨"com/example/traversine/traversine/web/Limits", "maxLookups", "()J"⟩ : MethodName)) (z := (⟨"com/example/traversine/traversine/web/Limits", "maxLookups", "()J"⟩ : MethodName)) hOW (mvT hZW (hw _ (List.mem_of_getElem? (i := 38) rfl))) (mvT hZW (hw _ (List.mem_of_getElem? (i := 39) rfl))) (notFace_of_selects (args := #[]) (mvT hZW (hw _ (List.mem_of_getElem? (i := 41) rfl)))) (mvT hZW (hw _ (List.mem_of_getElem? (i := 41) rfl))) (mvT hZW (hw _ (List.mem_of_getElem? (i := 40) rfl))) (by decide) (backOf (W := 0) (rm_maxLookups l Z aZ hw [] b_4 (q1 &&& (9223372036854775807 : Int64)) T_15.heap n0 (Nat.le_trans Z0 K__16.1) f_18) hZW (hw _ (List.mem_of_getElem? (i := 42) rfl)) (hw _ (List.mem_of_getElem? (i := 8) rfl)) (by decide) (by decide)) q_30a q_30c (g := (mkF m 104 #[Lv q1, Zs, Iv p2, Iv p3, Iv p4, Lv (q1 &&& (9223372036854775807 : Int64)), Zs, Iv (p2 &&& (2147483647 : Int32)), Iv (own_max (1 : Int32) (p3 &&& (2147483647 : Int32))), Iv (p4 &&& (2147483647 : Int32)), Rv b_4, Rv b__15, Iv (1 : Int32), Us] [(.ref b_4)])) rfl (by rw [hMX]; rfl) (Steps.refl _) (argsL := []) (rest := []) (lenOf pd___J_1 rfl) rfl (by show 2 * 0 + _ ≤ _; exact Nat.le_of_eq rfl) (hb hBY at_104) (fun _ _ => ⟨rfl, e_28, (by decide : 2 + 0 ≤ _), (by decide : 6 + 0 ≤ _)⟩)
  dsimp only [Pt.U, Pt.locs, Pt.cells, Pt.slots] at X_30 l_30 y_30 z_30 st_30 hQ_30
  subst l_30 y_30 z_30
  obtain ⟨rfl, N_30q, e_30⟩ := hQ_30
  have N_30 := Fr.app N_28 N_30q
  refine Done.pre (fun _ k_ => st_30.trans k_) ?_
  show Done _ _ _ _ _ _ _ (T_30.setTop (mkF m 107 #[Lv q1, Zs, Iv p2, Iv p3, Iv p4, Lv (q1 &&& (9223372036854775807 : Int64)), Zs, Iv (p2 &&& (2147483647 : Int32)), Iv (own_max (1 : Int32) (p3 &&& (2147483647 : Int32))), Iv (p4 &&& (2147483647 : Int32)), Rv b_4, Rv b__15, Iv (1 : Int32), Us] [(.long (q1 &&& (9223372036854775807 : Int64)))]))
  have sg_31 : ∀ tt_, Steps p.tables e below (T_30.setTop (mkF m 115 #[Lv q1, Zs, Iv p2, Iv p3, Iv p4, Lv (q1 &&& (9223372036854775807 : Int64)), Zs, Iv (p2 &&& (2147483647 : Int32)), Iv (own_max (1 : Int32) (p3 &&& (2147483647 : Int32))), Iv (p4 &&& (2147483647 : Int32)), Rv b_4, Rv b__15, Iv (1 : Int32), Us] [(.ref b_4)])) tt_ → Steps p.tables e below (T_30.setTop (mkF m 107 #[Lv q1, Zs, Iv p2, Iv p3, Iv p4, Lv (q1 &&& (9223372036854775807 : Int64)), Zs, Iv (p2 &&& (2147483647 : Int32)), Iv (own_max (1 : Int32) (p3 &&& (2147483647 : Int32))), Iv (p4 &&& (2147483647 : Int32)), Rv b_4, Rv b__15, Iv (1 : Int32), Us] [(.long (q1 &&& (9223372036854775807 : Int64)))])) tt_ := by
    intro tt_ kt_
    refine XS.lload X_30.here hEX rfl (hb hBY at_107) rfl ?_
    show Steps p.tables e below (T_30.setTop (mkF m 109 #[Lv q1, Zs, Iv p2, Iv p3, Iv p4, Lv (q1 &&& (9223372036854775807 : Int64)), Zs, Iv (p2 &&& (2147483647 : Int32)), Iv (own_max (1 : Int32) (p3 &&& (2147483647 : Int32))), Iv (p4 &&& (2147483647 : Int32)), Rv b_4, Rv b__15, Iv (1 : Int32), Us] [(.long (q1 &&& (9223372036854775807 : Int64))), (.long (q1 &&& (9223372036854775807 : Int64)))])) tt_
    refine XS.lcmp X_30.here hEX rfl (hb hBY at_109) rfl ?_
    show Steps p.tables e below (T_30.setTop (mkF m 110 #[Lv q1, Zs, Iv p2, Iv p3, Iv p4, Lv (q1 &&& (9223372036854775807 : Int64)), Zs, Iv (p2 &&& (2147483647 : Int32)), Iv (own_max (1 : Int32) (p3 &&& (2147483647 : Int32))), Iv (p4 &&& (2147483647 : Int32)), Rv b_4, Rv b__15, Iv (1 : Int32), Us] [(.int (lcmpW (q1 &&& (9223372036854775807 : Int64)) (q1 &&& (9223372036854775807 : Int64))))])) tt_
    refine XS.ifNo X_30.here hEX rfl (hb hBY at_110) rfl ((if0 _ _).trans (teq ((lw_eq _ _).mpr (rfl : (q1 &&& (9223372036854775807 : Int64)) = (q1 &&& (9223372036854775807 : Int64))))).2) ?_
    show Steps p.tables e below (T_30.setTop (mkF m 113 #[Lv q1, Zs, Iv p2, Iv p3, Iv p4, Lv (q1 &&& (9223372036854775807 : Int64)), Zs, Iv (p2 &&& (2147483647 : Int32)), Iv (own_max (1 : Int32) (p3 &&& (2147483647 : Int32))), Iv (p4 &&& (2147483647 : Int32)), Rv b_4, Rv b__15, Iv (1 : Int32), Us] [])) tt_
    refine XS.aload X_30.here hEX rfl (hb hBY at_113) rfl rfl ?_
    exact kt_
  refine Done.pre sg_31 ?_
  obtain ⟨cq_32, kq_32, q_32a, q_32b, q_32c⟩ := isOf hZW e_30 f_17
  obtain ⟨_, _, ⟨T_32, L_32, k_32, n_32⟩, -, X_32, ⟨Lc_32, hQ_32, l_32, y_32, z_32⟩, st_32⟩ := X_30.virtualBack hEX (y := (⟨"com/example/traversine/traversine/web/Limits", "parallelLookups", "()I"⟩ : MethodName)) (z := (⟨"com/example/traversine/traversine/web/Limits", "parallelLookups", "()I"⟩ : MethodName)) hOW (mvT hZW (hw _ (List.mem_of_getElem? (i := 43) rfl))) (mvT hZW (hw _ (List.mem_of_getElem? (i := 44) rfl))) (notFace_of_selects (args := #[]) (mvT hZW (hw _ (List.mem_of_getElem? (i := 46) rfl)))) (mvT hZW (hw _ (List.mem_of_getElem? (i := 46) rfl))) (mvT hZW (hw _ (List.mem_of_getElem? (i := 45) rfl))) (by decide) (backOf (W := 0) (rm_parallelLookups l Z aZ hw [] b_4 (own_max (1 : Int32) (p3 &&& (2147483647 : Int32))) T_15.heap n0 (Nat.le_trans Z0 K__16.1) f_20) hZW (hw _ (List.mem_of_getElem? (i := 47) rfl)) (hw _ (List.mem_of_getElem? (i := 8) rfl)) (by decide) (by decide)) q_32a q_32c (g := (mkF m 115 #[Lv q1, Zs, Iv p2, Iv p3, Iv p4, Lv (q1 &&& (9223372036854775807 : Int64)), Zs, Iv (p2 &&& (2147483647 : Int32)), Iv (own_max (1 : Int32) (p3 &&& (2147483647 : Int32))), Iv (p4 &&& (2147483647 : Int32)), Rv b_4, Rv b__15, Iv (1 : Int32), Us] [(.ref b_4)])) rfl (by rw [hMX]; rfl) (Steps.refl _) (argsL := []) (rest := []) (lenOf pd___I_0 rfl) rfl (by show 2 * 0 + _ ≤ _; exact Nat.le_of_eq rfl) (hb hBY at_115) (fun _ _ => ⟨rfl, e_30, (by decide : 2 + 0 ≤ _), (by decide : 6 + 0 ≤ _)⟩)
  dsimp only [Pt.U, Pt.locs, Pt.cells, Pt.slots] at X_32 l_32 y_32 z_32 st_32 hQ_32
  subst l_32 y_32 z_32
  obtain ⟨rfl, N_32q, e_32⟩ := hQ_32
  have N_32 := Fr.app N_30 N_32q
  refine Done.pre (fun _ k_ => st_32.trans k_) ?_
  show Done _ _ _ _ _ _ _ (T_32.setTop (mkF m 118 #[Lv q1, Zs, Iv p2, Iv p3, Iv p4, Lv (q1 &&& (9223372036854775807 : Int64)), Zs, Iv (p2 &&& (2147483647 : Int32)), Iv (own_max (1 : Int32) (p3 &&& (2147483647 : Int32))), Iv (p4 &&& (2147483647 : Int32)), Rv b_4, Rv b__15, Iv (1 : Int32), Us] [(.int (own_max (1 : Int32) (p3 &&& (2147483647 : Int32))))]))
  have sg_33 : ∀ tt_, Steps p.tables e below (T_32.setTop (mkF m 145 #[Lv q1, Zs, Iv p2, Iv p3, Iv p4, Lv (q1 &&& (9223372036854775807 : Int64)), Zs, Iv (p2 &&& (2147483647 : Int32)), Iv (own_max (1 : Int32) (p3 &&& (2147483647 : Int32))), Iv (p4 &&& (2147483647 : Int32)), Rv b_4, Rv b__15, Iv (1 : Int32), Iv (1 : Int32)] [(.int (1 : Int32))])) tt_ → Steps p.tables e below (T_32.setTop (mkF m 118 #[Lv q1, Zs, Iv p2, Iv p3, Iv p4, Lv (q1 &&& (9223372036854775807 : Int64)), Zs, Iv (p2 &&& (2147483647 : Int32)), Iv (own_max (1 : Int32) (p3 &&& (2147483647 : Int32))), Iv (p4 &&& (2147483647 : Int32)), Rv b_4, Rv b__15, Iv (1 : Int32), Us] [(.int (own_max (1 : Int32) (p3 &&& (2147483647 : Int32))))])) tt_ := by
    intro tt_ kt_
    refine XS.iload X_32.here hEX rfl (hb hBY at_118) rfl ?_
    show Steps p.tables e below (T_32.setTop (mkF m 120 #[Lv q1, Zs, Iv p2, Iv p3, Iv p4, Lv (q1 &&& (9223372036854775807 : Int64)), Zs, Iv (p2 &&& (2147483647 : Int32)), Iv (own_max (1 : Int32) (p3 &&& (2147483647 : Int32))), Iv (p4 &&& (2147483647 : Int32)), Rv b_4, Rv b__15, Iv (1 : Int32), Us] [(.int (own_max (1 : Int32) (p3 &&& (2147483647 : Int32)))), (.int (own_max (1 : Int32) (p3 &&& (2147483647 : Int32))))])) tt_
    refine XS.icmpNo X_32.here hEX rfl (hb hBY at_120) rfl (teq (rfl : (own_max (1 : Int32) (p3 &&& (2147483647 : Int32))) = (own_max (1 : Int32) (p3 &&& (2147483647 : Int32))))).2 ?_
    show Steps p.tables e below (T_32.setTop (mkF m 123 #[Lv q1, Zs, Iv p2, Iv p3, Iv p4, Lv (q1 &&& (9223372036854775807 : Int64)), Zs, Iv (p2 &&& (2147483647 : Int32)), Iv (own_max (1 : Int32) (p3 &&& (2147483647 : Int32))), Iv (p4 &&& (2147483647 : Int32)), Rv b_4, Rv b__15, Iv (1 : Int32), Us] [])) tt_
    refine XS.iconst X_32.here hEX rfl (hb hBY at_123) ?_
    show Steps p.tables e below (T_32.setTop (mkF m 124 #[Lv q1, Zs, Iv p2, Iv p3, Iv p4, Lv (q1 &&& (9223372036854775807 : Int64)), Zs, Iv (p2 &&& (2147483647 : Int32)), Iv (own_max (1 : Int32) (p3 &&& (2147483647 : Int32))), Iv (p4 &&& (2147483647 : Int32)), Rv b_4, Rv b__15, Iv (1 : Int32), Us] [(.int (1 : Int32))])) tt_
    refine XS.goto X_32.here hEX rfl (pc0 := 124) (pc' := 128) rfl (hb hBY at_124) (by decide) (by decide) ?_
    show Steps p.tables e below (T_32.setTop (mkF m 128 #[Lv q1, Zs, Iv p2, Iv p3, Iv p4, Lv (q1 &&& (9223372036854775807 : Int64)), Zs, Iv (p2 &&& (2147483647 : Int32)), Iv (own_max (1 : Int32) (p3 &&& (2147483647 : Int32))), Iv (p4 &&& (2147483647 : Int32)), Rv b_4, Rv b__15, Iv (1 : Int32), Us] [(.int (1 : Int32))])) tt_
    refine XS.istore X_32.here hEX rfl (hb hBY at_128) rfl (l' := #[Lv q1, Zs, Iv p2, Iv p3, Iv p4, Lv (q1 &&& (9223372036854775807 : Int64)), Zs, Iv (p2 &&& (2147483647 : Int32)), Iv (own_max (1 : Int32) (p3 &&& (2147483647 : Int32))), Iv (p4 &&& (2147483647 : Int32)), Rv b_4, Rv b__15, Iv (1 : Int32), Iv (1 : Int32)]) rfl ?_
    show Steps p.tables e below (T_32.setTop (mkF m 130 #[Lv q1, Zs, Iv p2, Iv p3, Iv p4, Lv (q1 &&& (9223372036854775807 : Int64)), Zs, Iv (p2 &&& (2147483647 : Int32)), Iv (own_max (1 : Int32) (p3 &&& (2147483647 : Int32))), Iv (p4 &&& (2147483647 : Int32)), Rv b_4, Rv b__15, Iv (1 : Int32), Iv (1 : Int32)] [])) tt_
    refine XS.iload X_32.here hEX rfl (hb hBY at_130) rfl ?_
    show Steps p.tables e below (T_32.setTop (mkF m 132 #[Lv q1, Zs, Iv p2, Iv p3, Iv p4, Lv (q1 &&& (9223372036854775807 : Int64)), Zs, Iv (p2 &&& (2147483647 : Int32)), Iv (own_max (1 : Int32) (p3 &&& (2147483647 : Int32))), Iv (p4 &&& (2147483647 : Int32)), Rv b_4, Rv b__15, Iv (1 : Int32), Iv (1 : Int32)] [(.int (1 : Int32))])) tt_
    refine XS.ifNo X_32.here hEX rfl (hb hBY at_132) rfl ((if0 _ _).trans (feq (by decide : ¬ ((1 : Int32) = (0 : Int32)))).1) ?_
    show Steps p.tables e below (T_32.setTop (mkF m 135 #[Lv q1, Zs, Iv p2, Iv p3, Iv p4, Lv (q1 &&& (9223372036854775807 : Int64)), Zs, Iv (p2 &&& (2147483647 : Int32)), Iv (own_max (1 : Int32) (p3 &&& (2147483647 : Int32))), Iv (p4 &&& (2147483647 : Int32)), Rv b_4, Rv b__15, Iv (1 : Int32), Iv (1 : Int32)] [])) tt_
    refine XS.iload X_32.here hEX rfl (hb hBY at_135) rfl ?_
    show Steps p.tables e below (T_32.setTop (mkF m 137 #[Lv q1, Zs, Iv p2, Iv p3, Iv p4, Lv (q1 &&& (9223372036854775807 : Int64)), Zs, Iv (p2 &&& (2147483647 : Int32)), Iv (own_max (1 : Int32) (p3 &&& (2147483647 : Int32))), Iv (p4 &&& (2147483647 : Int32)), Rv b_4, Rv b__15, Iv (1 : Int32), Iv (1 : Int32)] [(.int (1 : Int32))])) tt_
    refine XS.ifNo X_32.here hEX rfl (hb hBY at_137) rfl ((if0 _ _).trans (feq (by decide : ¬ ((1 : Int32) = (0 : Int32)))).1) ?_
    show Steps p.tables e below (T_32.setTop (mkF m 140 #[Lv q1, Zs, Iv p2, Iv p3, Iv p4, Lv (q1 &&& (9223372036854775807 : Int64)), Zs, Iv (p2 &&& (2147483647 : Int32)), Iv (own_max (1 : Int32) (p3 &&& (2147483647 : Int32))), Iv (p4 &&& (2147483647 : Int32)), Rv b_4, Rv b__15, Iv (1 : Int32), Iv (1 : Int32)] [])) tt_
    refine XS.iconst X_32.here hEX rfl (hb hBY at_140) ?_
    show Steps p.tables e below (T_32.setTop (mkF m 141 #[Lv q1, Zs, Iv p2, Iv p3, Iv p4, Lv (q1 &&& (9223372036854775807 : Int64)), Zs, Iv (p2 &&& (2147483647 : Int32)), Iv (own_max (1 : Int32) (p3 &&& (2147483647 : Int32))), Iv (p4 &&& (2147483647 : Int32)), Rv b_4, Rv b__15, Iv (1 : Int32), Iv (1 : Int32)] [(.int (1 : Int32))])) tt_
    refine XS.goto X_32.here hEX rfl (pc0 := 141) (pc' := 145) rfl (hb hBY at_141) (by decide) (by decide) ?_
    exact kt_
  refine Done.pre sg_33 ?_
  exact Done.retN X_32 hEX hLK (t := .boolean) hRT (by simp) (hb hBY at_145) (by rw [e_32]; exact ⟨rfl, N_32, K__16⟩) (by decide) (by decide)
set_option maxRecDepth 65536 in
set_option maxHeartbeats 40000000 in
theorem comes_1 {Post : Tables → Env → Array Value → State → Outcome → State → Prop} (hpost : ∀ tb e args s v u, (limb_1_1.after args s (.returned v) u = true ∧ limb_1_2.after args s (.returned v) u = true ∧ True) → FrameEnd s (.returned v) u (Jvm.fieldLocs frame_1_writes args s ++ Jvm.arrayLocs frame_1_arrays args s ++ Jvm.staticLocs frame_1_statics s) 16 128 → Post tb e args s (.returned v) u) :
    ArmFor flags0 classFile x code maxLocals ret World_1 tables_1 room_1 Calls_1 rest_1 Pre_1 Post := by
  intro l hfl _ _ p e ha hc hk s m args below hf hA hF happ hP
  obtain ⟨hcalls, hrest, hpre⟩ := hP
  obtain ⟨-, -, -, hnamed, -, -, -, hat⟩ := (Spec.applies_iff hf).mp happ
  obtain ⟨hg, hn⟩ := and_e (Cond.before_iff.mp (show (Jvm.Cond.and given_1 narrow_1).before args s = true from hpre))
  obtain ⟨g1a, g1b⟩ := and_e hg
  obtain ⟨g2a, g2b⟩ := and_e g1b
  obtain ⟨g3a, g3b⟩ := and_e g2b
  obtain ⟨g4a, g4b⟩ := and_e g3b
  obtain ⟨w0, w1, w2, w3, rfl⟩ : ∃ w0 w1 w2 w3 : Value, args = #[w0, w1, w2, w3] := by
    have hs : args.size = 4 := by simpa [Cond.value, given_1] using g1a
    obtain ⟨L⟩ := args
    match L, hs with
    | [w0, w1, w2, w3], _ => exact ⟨w0, w1, w2, w3, rfl⟩
  have hw := fun d (hd : d ∈ tables_1) => atoms_spec (ws := Jvm.Cond.code x code maxLocals ret :: tables_1) hat d (List.mem_cons_of_mem _ hd)
  have hfit : Fit s := fun {y c} hc i hi => by
    obtain ⟨ha, rfl⟩ := Array.getElem?_eq_some_iff.mp hc
    have q := List.all_eq_true.mp ((Array.all_eq_true_iff_forall_mem.mp hF) _ (Array.getElem_mem ha)) i (List.mem_range.mpr hi)
    simpa [Array.getElem?_eq_getElem hi] using q
  obtain ⟨i0, ei0⟩ := isL_v g2a
  obtain rfl : w0 = (.long i0) := Option.some.inj ei0
  obtain ⟨i1, ei1⟩ := is_v g3a
  obtain rfl : w1 = (.int i1) := Option.some.inj ei1
  obtain ⟨i2, ei2⟩ := is_v g4a
  obtain rfl : w2 = (.int i2) := Option.some.inj ei2
  obtain ⟨i3, ei3⟩ := is_v g4b
  obtain rfl : w3 = (.int i3) := Option.some.inj ei3
  obtain ⟨n, o, h1, h2, h3, _, L, rfl, ⟨rfl, N, -⟩, hq⟩ := rm0 l s _ hw tables_1 i0 i1 i2 i3  s.heap s.heap.size (Nat.le_refl _)  p e ha hc hk s m _ below hf ((Spec.applies_iff_loose hf).mp happ).1 ⟨rfl, State.Warmed39.refl s, rfl⟩ trivial
  refine ⟨n, _, h1, h2, h3, hpost _ _ _ _ _ _ ⟨Cond.after_iff.mpr rfl, Cond.after_iff.mpr (eq_i res_at (Term.int_eval (1)) rfl), trivial⟩ ⟨hq.1, hq.2.1, (hq.2.2.sift fun y hy => Or.inr (N y hy)).mono (by decide) (by decide)⟩⟩
theorem main_1_1 : Claimed_1_1 := comes_1 fun _ _ _ _ _ _ h hF => ⟨h.1, hF⟩
theorem main_1_2 : Claimed_1_2 := comes_1 fun _ _ _ _ _ _ h hF => ⟨h.2.1, hF⟩
end Jvm.Pilot.@@N@@
namespace Jvm.Pilot.@@N@@
open Jvm Jvm.ClassFile Sem Op Lib Jvm.Free Jvm.Stand Jvm.Pilot.@@N@@.Jvm.D
/-! MADE BY PROGRAM (witnessworld.py) out of the Statement's table words and the real class files: 11 classes; the members and pool entries that the words name. The judged class is class 1, her method 1. -/
namespace start1
open Jvm.ClassFile
def u (s : String) : CpInfo := .utf8 (stringToUtf16 s)
/-- a pool by its gaps: so many unusable entries, then the entry; so many at the end -/
def gap : Nat → List CpInfo → List CpInfo
  | 0, r => r
  | n + 1, r => .unusable :: gap n r
def poolList (es : List (Nat × CpInfo)) (last : Nat) : List CpInfo := es.foldr (fun e r => gap e.1 (e.2 :: r)) (gap last [])
def pool (es : List (Nat × CpInfo)) (last : Nat) : Array CpInfo := ⟨poolList es last⟩
def fileOf (pool : Array CpInfo) (this : Nat) (attrs : Array Attribute := #[]) (ms : Array MethodInfo := #[]) (fl : Nat := 33) (sup : Nat := 0) (ifs : Array Nat := #[]) (fds : Array FieldInfo := #[]) : ClassFile where
  minorVersion := 0
  majorVersion := 65
  constantPool := pool
  accessFlags := fl
  thisClass := this
  superClass := sup
  interfaces := ifs
  fields := fds
  methods := ms
  attributes := attrs
def plain (name : String) (sup : Option ClassId) : Class where
  name := name
  kind := .ordinary
  loader := none
  accessFlags := 33
  super := sup
  interfaces := #[]
  cf := none
  fields := #[]
  methods := #[]
  instanceTypes := #[]
  staticTypes := #[]
  resolved := #[]
  callSites := []
  init := .initialized
  statics := none
  mirror := none

def pool0 : Array CpInfo := pool [(5, u "<init>"), (0, u "()V"), (1, .class_ 10), (1, u "java/lang/Object")] 113

def k0c0 : Code := { maxStack := 0, maxLocals := 1, code := object_method_1_code, exceptionTable := #[], attributes := #[] }
def k0m0 : Method := { name := "<init>", desc := "()V", sig := { parameters := [], returnType := none }, accessFlags := 1, code := some k0c0 }
/-- java/lang/Object -/
def k0 : Class := { plain "java/lang/Object" none with
  accessFlags := 33
  interfaces := #[]
  cf := some (fileOf pool0 8 #[] #[{ accessFlags := 1, nameIndex := 5, descriptorIndex := 6, attributes := #[] }] 33 0 #[] #[])
  fields := #[]
  methods := #[k0m0]
  instanceTypes := #[]
  staticTypes := #[]
  resolved := Array.replicate 124 none
  statics := none }

def pool1 : Array CpInfo := pool [(2, .class_ 4), (1, u "java/lang/Object"), (0, u "<init>"), (0, u "()V"), (2, .long 9223372036854775807), (1, .integer 2147483647), (0, .methodref 13 14), (0, .class_ 15), (0, .nameAndType 16 17), (0, u "java/lang/Math"), (0, u "max"), (0, u "(II)I"), (0, .class_ 19), (0, u "com/example/traversine/traversine/web/Limits"), (0, .methodref 18 21), (0, .nameAndType 5 22), (0, u "(JII)V"), (0, .methodref 18 24), (0, .nameAndType 25 26), (0, u "withMaxDocumentBytes"), (0, u "(I)Lcom/example/traversine/traversine/web/Limits;"), (0, .methodref 18 28), (0, .nameAndType 29 30), (0, u "maxDocumentBytes"), (0, u "()I"), (0, .methodref 18 32), (0, .nameAndType 33 34), (0, u "maxLookups"), (0, u "()J"), (0, .methodref 18 36), (0, .nameAndType 37 30), (0, u "parallelLookups"), (0, .class_ 39), (0, u "com/example/traversine/traversine/web/LimitsWithMaxDocumentBytesPinLaw"), (2, u "law"), (0, u "(JIII)Z")] 3

def k1m0 : Method := { name := "<init>", desc := "()V", sig := { parameters := [], returnType := none }, accessFlags := 1, code := none }
def k1c1 : Code := { maxStack := 6, maxLocals := 14, code := code, exceptionTable := #[], attributes := #[] }
def k1m1 : Method := { name := "law", desc := "(JIII)Z", sig := { parameters := [.long, .int, .int, .int], returnType := some .boolean }, accessFlags := 9, code := some k1c1 }
/-- com/example/traversine/traversine/web/LimitsWithMaxDocumentBytesPinLaw -/
def k1 : Class := { plain "com/example/traversine/traversine/web/LimitsWithMaxDocumentBytesPinLaw" (some 0) with
  accessFlags := 49
  interfaces := #[]
  cf := some (fileOf pool1 38 #[] #[{ accessFlags := 1, nameIndex := 5, descriptorIndex := 6, attributes := #[] }, { accessFlags := 9, nameIndex := 42, descriptorIndex := 43, attributes := #[] }] 49 2 #[] #[])
  fields := #[]
  methods := #[k1m0, k1m1]
  instanceTypes := #[]
  staticTypes := #[]
  resolved := Array.replicate 47 none
  statics := none }

def pool2 : Array CpInfo := pool [(1, .class_ 2), (0, u "java/lang/Math"), (1, .class_ 6), (1, u "java/lang/Object"), (0, u "<init>"), (0, u "()V"), (89, .class_ 100), (1, u "java/lang/Math$RandomNumberGeneratorHolder"), (71, u "negativeZeroFloatBits"), (0, u "J"), (2, u "negativeZeroDoubleBits"), (21, u "max"), (46, u "$assertionsDisabled"), (0, u "Z"), (88, u "(II)I"), (2, u "twoToTheDoubleScaleDown"), (0, u "D"), (4, u "twoToTheDoubleScaleUp"), (9, u "E"), (3, u "PI"), (2, u "TAU"), (2, u "DEGREES_TO_RADIANS"), (0, u "RADIANS_TO_DEGREES")] 94

def k2m0 : Method := { name := "<init>", desc := "()V", sig := { parameters := [], returnType := none }, accessFlags := 2, code := none }
def k2c1 : Code := { maxStack := 2, maxLocals := 2, code := jdk_29_method_65_code, exceptionTable := #[], attributes := #[] }
def k2m1 : Method := { name := "max", desc := "(II)I", sig := { parameters := [.int, .int], returnType := some .int }, accessFlags := 9, code := some k2c1 }
/-- java/lang/Math -/
def k2 : Class := { plain "java/lang/Math" (some 0) with
  accessFlags := 49
  interfaces := #[]
  cf := some (fileOf pool2 1 #[.nestMembers #[98]] #[{ accessFlags := 2, nameIndex := 7, descriptorIndex := 8, attributes := #[] }, { accessFlags := 9, nameIndex := 198, descriptorIndex := 335, attributes := #[] }] 49 4 #[] #[{ accessFlags := 25, nameIndex := 354, descriptorIndex := 339, attributes := #[] }, { accessFlags := 25, nameIndex := 358, descriptorIndex := 339, attributes := #[] }, { accessFlags := 25, nameIndex := 361, descriptorIndex := 339, attributes := #[] }, { accessFlags := 26, nameIndex := 364, descriptorIndex := 339, attributes := #[] }, { accessFlags := 26, nameIndex := 365, descriptorIndex := 339, attributes := #[] }, { accessFlags := 26, nameIndex := 172, descriptorIndex := 173, attributes := #[] }, { accessFlags := 26, nameIndex := 176, descriptorIndex := 173, attributes := #[] }, { accessFlags := 8, nameIndex := 344, descriptorIndex := 339, attributes := #[] }, { accessFlags := 8, nameIndex := 338, descriptorIndex := 339, attributes := #[] }, { accessFlags := 4120, nameIndex := 245, descriptorIndex := 246, attributes := #[] }])
  fields := #[{ name := "E", type := .double, accessFlags := 25, slot := 0, constantValue := 0 }, { name := "PI", type := .double, accessFlags := 25, slot := 1, constantValue := 0 }, { name := "TAU", type := .double, accessFlags := 25, slot := 2, constantValue := 0 }, { name := "DEGREES_TO_RADIANS", type := .double, accessFlags := 26, slot := 3, constantValue := 0 }, { name := "RADIANS_TO_DEGREES", type := .double, accessFlags := 26, slot := 4, constantValue := 0 }, { name := "negativeZeroFloatBits", type := .long, accessFlags := 26, slot := 5, constantValue := 0 }, { name := "negativeZeroDoubleBits", type := .long, accessFlags := 26, slot := 6, constantValue := 0 }, { name := "twoToTheDoubleScaleUp", type := .double, accessFlags := 8, slot := 7, constantValue := 0 }, { name := "twoToTheDoubleScaleDown", type := .double, accessFlags := 8, slot := 8, constantValue := 0 }, { name := "$assertionsDisabled", type := .boolean, accessFlags := 4120, slot := 9, constantValue := 0 }]
  methods := #[k2m0, k2m1]
  instanceTypes := #[]
  staticTypes := #[.double, .double, .double, .double, .double, .long, .long, .double, .double, .boolean]
  resolved := Array.replicate 460 none
  statics := none }

def pool3 : Array CpInfo := pool [(1, .methodref 2 3), (0, .class_ 4), (0, .nameAndType 5 6), (0, u "java/lang/Object"), (0, u "<init>"), (0, u "()V"), (0, .class_ 8), (0, u "java/lang/Record")] 13

def k3c0 : Code := { maxStack := 1, maxLocals := 1, code := jdk_30_method_1_code, exceptionTable := #[], attributes := #[] }
def k3m0 : Method := { name := "<init>", desc := "()V", sig := { parameters := [], returnType := none }, accessFlags := 4, code := some k3c0 }
/-- java/lang/Record -/
def k3 : Class := { plain "java/lang/Record" (some 0) with
  accessFlags := 1057
  interfaces := #[]
  cf := some (fileOf pool3 7 #[] #[{ accessFlags := 4, nameIndex := 5, descriptorIndex := 6, attributes := #[] }] 1057 2 #[] #[])
  fields := #[]
  methods := #[k3m0]
  instanceTypes := #[]
  staticTypes := #[]
  resolved := Array.replicate 22 none
  statics := none }

def pool4 : Array CpInfo := pool [(1, .methodref 2 3), (0, .class_ 4), (0, .nameAndType 5 6), (0, u "java/lang/Record"), (0, u "<init>"), (0, u "()V"), (12, .fieldref 20 21), (0, .class_ 22), (0, .nameAndType 23 24), (0, u "com/example/traversine/traversine/web/Limits"), (0, u "maxLookups"), (0, u "J"), (0, .fieldref 20 26), (0, .nameAndType 27 28), (0, u "maxDocumentBytes"), (0, u "I"), (0, .fieldref 20 30), (0, .nameAndType 31 28), (0, u "parallelLookups"), (0, .methodref 20 33), (0, .nameAndType 5 34), (0, u "(JII)V"), (15, u "(I)Lcom/example/traversine/traversine/web/Limits;"), (19, u "DEFAULT"), (0, u "Lcom/example/traversine/traversine/web/Limits;"), (0, u "DEFAULT_MAX_DOCUMENT_BYTES"), (1, u "DEFAULT_PARALLEL_LOOKUPS"), (1, u "URIS_PER_REQUEST"), (6, u "withMaxDocumentBytes"), (2, u "()I"), (1, u "()J")] 33

def k4c0 : Code := { maxStack := 5, maxLocals := 5, code := prog_31_method_1_code, exceptionTable := #[], attributes := #[] }
def k4m0 : Method := { name := "<init>", desc := "(JII)V", sig := { parameters := [.long, .int, .int], returnType := none }, accessFlags := 1, code := some k4c0 }
def k4c1 : Code := { maxStack := 6, maxLocals := 2, code := prog_31_method_3_code, exceptionTable := #[], attributes := #[] }
def k4m1 : Method := { name := "withMaxDocumentBytes", desc := "(I)Lcom/example/traversine/traversine/web/Limits;", sig := { parameters := [.int], returnType := some (.object "com/example/traversine/traversine/web/Limits") }, accessFlags := 1, code := some k4c1 }
def k4c2 : Code := { maxStack := 2, maxLocals := 1, code := prog_31_method_9_code, exceptionTable := #[], attributes := #[] }
def k4m2 : Method := { name := "maxLookups", desc := "()J", sig := { parameters := [], returnType := some .long }, accessFlags := 1, code := some k4c2 }
def k4c3 : Code := { maxStack := 1, maxLocals := 1, code := prog_31_method_10_code, exceptionTable := #[], attributes := #[] }
def k4m3 : Method := { name := "maxDocumentBytes", desc := "()I", sig := { parameters := [], returnType := some .int }, accessFlags := 1, code := some k4c3 }
def k4c4 : Code := { maxStack := 1, maxLocals := 1, code := prog_31_method_11_code, exceptionTable := #[], attributes := #[] }
def k4m4 : Method := { name := "parallelLookups", desc := "()I", sig := { parameters := [], returnType := some .int }, accessFlags := 1, code := some k4c4 }
/-- com/example/traversine/traversine/web/Limits -/
def k4 : Class := { plain "com/example/traversine/traversine/web/Limits" (some 3) with
  accessFlags := 49
  interfaces := #[]
  cf := some (fileOf pool4 20 #[] #[{ accessFlags := 1, nameIndex := 5, descriptorIndex := 34, attributes := #[] }, { accessFlags := 1, nameIndex := 83, descriptorIndex := 50, attributes := #[] }, { accessFlags := 1, nameIndex := 23, descriptorIndex := 88, attributes := #[] }, { accessFlags := 1, nameIndex := 27, descriptorIndex := 86, attributes := #[] }, { accessFlags := 1, nameIndex := 31, descriptorIndex := 86, attributes := #[] }] 49 2 #[] #[{ accessFlags := 18, nameIndex := 23, descriptorIndex := 24, attributes := #[] }, { accessFlags := 18, nameIndex := 27, descriptorIndex := 28, attributes := #[] }, { accessFlags := 18, nameIndex := 31, descriptorIndex := 28, attributes := #[] }, { accessFlags := 25, nameIndex := 72, descriptorIndex := 28, attributes := #[] }, { accessFlags := 25, nameIndex := 74, descriptorIndex := 28, attributes := #[] }, { accessFlags := 25, nameIndex := 76, descriptorIndex := 28, attributes := #[] }, { accessFlags := 25, nameIndex := 70, descriptorIndex := 71, attributes := #[] }])
  fields := #[{ name := "maxLookups", type := .long, accessFlags := 18, slot := 0, constantValue := 0 }, { name := "maxDocumentBytes", type := .int, accessFlags := 18, slot := 1, constantValue := 0 }, { name := "parallelLookups", type := .int, accessFlags := 18, slot := 2, constantValue := 0 }, { name := "DEFAULT_MAX_DOCUMENT_BYTES", type := .int, accessFlags := 25, slot := 0, constantValue := 0 }, { name := "DEFAULT_PARALLEL_LOOKUPS", type := .int, accessFlags := 25, slot := 1, constantValue := 0 }, { name := "URIS_PER_REQUEST", type := .int, accessFlags := 25, slot := 2, constantValue := 0 }, { name := "DEFAULT", type := (.object "com/example/traversine/traversine/web/Limits"), accessFlags := 25, slot := 3, constantValue := 0 }]
  methods := #[k4m0, k4m1, k4m2, k4m3, k4m4]
  instanceTypes := #[.long, .int, .int]
  staticTypes := #[.int, .int, .int, (.object "com/example/traversine/traversine/web/Limits")]
  resolved := Array.replicate 122 none
  statics := none }

def pool5 : Array CpInfo := pool [(1, u "java/lang/Cloneable"), (0, .class_ 1), (0, u "java/lang/Object"), (0, .class_ 3)] 3

/-- java/lang/Cloneable -/
def k5 : Class := { plain "java/lang/Cloneable" (some 0) with
  accessFlags := 1537
  interfaces := #[]
  cf := some (fileOf pool5 2 #[] #[] 1537 4 #[] #[])
  fields := #[]
  methods := #[]
  instanceTypes := #[]
  staticTypes := #[]
  resolved := Array.replicate 8 none
  statics := none }

def pool6 : Array CpInfo := pool [(1, u "java/io/Serializable"), (0, .class_ 1), (0, u "java/lang/Object"), (0, .class_ 3)] 3

/-- java/io/Serializable -/
def k6 : Class := { plain "java/io/Serializable" (some 0) with
  accessFlags := 1537
  interfaces := #[]
  cf := some (fileOf pool6 2 #[] #[] 1537 4 #[] #[])
  fields := #[]
  methods := #[]
  instanceTypes := #[]
  staticTypes := #[]
  resolved := Array.replicate 8 none
  statics := none }

/-- the primitive byte -/
def k7 : Class := { plain "byte" none with kind := .primitive 'B', accessFlags := 0x411 }
/-- [B -/
def k8 : Class := { plain "[B" (some 0) with kind := .array 7 .byte, interfaces := #[5, 6], accessFlags := 1041 }

/-- the primitive int -/
def k9 : Class := { plain "int" none with kind := .primitive 'I', accessFlags := 0x411 }
/-- [I -/
def k10 : Class := { plain "[I" (some 0) with kind := .array 9 .int, interfaces := #[5, 6], accessFlags := 1041 }

def heap : Heap := #[]
def classes : Array Class := #[k0, k1, k2, k3, k4, k5, k6, k7, k8, k9, k10]
def interned : List (Array UInt16 × Addr) := []
def slotsUsed : Nat := 0
def theMethod : MethodId := ⟨1, 1⟩
def args0 : Array Value := #[.long 5, .int 6, .int 7, .int 8]
def aboutOver (below : List Frame) : State where
  vm := { classes := classes, interned := interned.toArray }
  heap := heap
  slotsUsed := slotsUsed
  threads := #[{ frames := .invoking theMethod args0 :: below }]
def below0 : List Frame := [.native { method := ⟨0, 0⟩, args := #[] }]
def about1 : State := aboutOver below0
def p0 : Program := .bare "" "" ""
def e0 : Env := launch0.env 0 0 0
theorem w_frames : about1.frames = Frame.invoking theMethod args0 :: below0 := rfl
set_option maxRecDepth 65536 in
theorem w_args : argsFit about1.vm theMethod args0 = true := by decide +kernel
set_option maxRecDepth 65536 in
theorem w_heap : heapFits about1 = true := by decide +kernel
set_option maxRecDepth 65536 in
theorem w_runnable : about1.curStatus? = some .runnable := by decide +kernel
set_option maxRecDepth 65536 in
theorem w_alone : about1.alone = true := by decide +kernel
set_option maxRecDepth 65536 in
theorem w_named : about1.methodNamed? x = some theMethod := by decide +kernel
set_option maxRecDepth 65536 in
theorem w_hears : about1.hears theMethod below0 = true := by decide +kernel
set_option maxRecDepth 65536 in
theorem w_ripe : about1.ripe theMethod args0 below0 = true := by decide +kernel
theorem w_running : about1.status = .running := rfl
set_option maxRecDepth 65536 in
theorem w_room : about1.hasRoom e0.platform room_1 = true :=
  launch0.hasRoom_least _ room_1 (by decide +kernel) (by decide +kernel) (by decide +kernel) (by decide +kernel) (by decide +kernel) (by decide +kernel)
theorem allAtoms_all (ts : List Jvm.Cond) (a : Array Jvm.Value) (st : Jvm.State) : (allAtoms ts).before a st = ts.all (fun c => c.before a st) := by
  induction ts with
  | nil => rfl
  | cons c t ih =>
    show (Jvm.Cond.and c (allAtoms t)).before a st = _
    rw [Jvm.Cond.before_and, ih, List.all_cons]
def words1 : List Jvm.Cond := Jvm.Cond.code x code maxLocals ret :: tables_1
/-- a 'code' word, met by the world's own term for the bytes: nothing is compared byte by byte -/
theorem code_word {y : MethodName} {bytes : ByteArray} {mx : Nat} {rt : Option FieldType} {a : Array Value} {s : State} {m : MethodId} {meth : Method} {c : Code} (h1 : s.methodNamed? y = some m) (h2 : s.vm.method? m = some meth) (h3 : meth.code = some c) (h4 : c.code = bytes)
    (h5 : (c.maxLocals == mx && c.exceptionTable.isEmpty && decide (c.maxStack ≤ mostOperands) && decide (meth.sig.returnType = rt) && !meth.locks && decide (parseMethodDescriptor y.desc = some meth.sig)) = true) : (Jvm.Cond.code y bytes mx rt).before a s = true := by
  simp only [Bool.and_eq_true, beq_iff_eq, Bool.not_eq_true', decide_eq_true_eq] at h5
  obtain ⟨⟨⟨⟨⟨g1, g2⟩, g3⟩, g4⟩, g5⟩, g6⟩ := h5
  simp [Cond.before, Cond.holds, Cond.value, h1, h2, h3, h4, g1, g2, g3, g4, g5, g6]
def isCode : Jvm.Cond → Bool
  | .code _ _ _ _ => true
  | _ => false
theorem all_split {L : List Jvm.Cond} {P : Jvm.Cond → Bool} (h1 : L.all (fun c => isCode c || P c) = true) (h2 : ∀ c ∈ L.filter isCode, P c = true) : L.all P = true := by
  refine List.all_eq_true.mpr fun c hc => ?_
  have h := List.all_eq_true.mp h1 c hc
  rcases Bool.eq_false_or_eq_true (isCode c) with hi | hi
  · exact h2 c (List.mem_filter.mpr ⟨hc, hi⟩)
  · simpa [hi] using h
set_option maxRecDepth 65536 in
theorem w_c0 : (Jvm.Cond.code x code maxLocals ret).before args0 about1 = true := code_word (m := ⟨1, 1⟩) (meth := k1m1) (c := k1c1) (by decide +kernel) rfl rfl rfl (by decide +kernel)
set_option maxRecDepth 65536 in
theorem w_c1 : (Jvm.Cond.code ({ cls := "java/lang/Math", name := "max", desc := "(II)I" } : Jvm.MethodName) jdk_29_method_65_code (2 : Nat) (Option.some Jvm.ClassFile.FieldType.int)).before args0 about1 = true := code_word (m := ⟨2, 1⟩) (meth := k2m1) (c := k2c1) (by decide +kernel) rfl rfl rfl (by decide +kernel)
set_option maxRecDepth 65536 in
theorem w_c2 : (Jvm.Cond.code ({ cls := "com/example/traversine/traversine/web/Limits", name := "<init>", desc := "(JII)V" } : Jvm.MethodName) prog_31_method_1_code (5 : Nat) (Option.none : Option Jvm.ClassFile.FieldType)).before args0 about1 = true := code_word (m := ⟨4, 0⟩) (meth := k4m0) (c := k4c0) (by decide +kernel) rfl rfl rfl (by decide +kernel)
set_option maxRecDepth 65536 in
theorem w_c3 : (Jvm.Cond.code ({ cls := "java/lang/Record", name := "<init>", desc := "()V" } : Jvm.MethodName) jdk_30_method_1_code (1 : Nat) (Option.none : Option Jvm.ClassFile.FieldType)).before args0 about1 = true := code_word (m := ⟨3, 0⟩) (meth := k3m0) (c := k3c0) (by decide +kernel) rfl rfl rfl (by decide +kernel)
set_option maxRecDepth 65536 in
theorem w_c4 : (Jvm.Cond.code ({ cls := "java/lang/Object", name := "<init>", desc := "()V" } : Jvm.MethodName) object_method_1_code (1 : Nat) (Option.none : Option Jvm.ClassFile.FieldType)).before args0 about1 = true := code_word (m := ⟨0, 0⟩) (meth := k0m0) (c := k0c0) (by decide +kernel) rfl rfl rfl (by decide +kernel)
set_option maxRecDepth 65536 in
theorem w_c5 : (Jvm.Cond.code ({ cls := "com/example/traversine/traversine/web/Limits", name := "withMaxDocumentBytes", desc := "(I)Lcom/example/traversine/traversine/web/Limits;" } : Jvm.MethodName) prog_31_method_3_code (2 : Nat) (Option.some (Jvm.ClassFile.FieldType.object "com/example/traversine/traversine/web/Limits"))).before args0 about1 = true := code_word (m := ⟨4, 1⟩) (meth := k4m1) (c := k4c1) (by decide +kernel) rfl rfl rfl (by decide +kernel)
set_option maxRecDepth 65536 in
theorem w_c6 : (Jvm.Cond.code ({ cls := "com/example/traversine/traversine/web/Limits", name := "maxDocumentBytes", desc := "()I" } : Jvm.MethodName) prog_31_method_10_code (1 : Nat) (Option.some Jvm.ClassFile.FieldType.int)).before args0 about1 = true := code_word (m := ⟨4, 3⟩) (meth := k4m3) (c := k4c3) (by decide +kernel) rfl rfl rfl (by decide +kernel)
set_option maxRecDepth 65536 in
theorem w_c7 : (Jvm.Cond.code ({ cls := "com/example/traversine/traversine/web/Limits", name := "maxLookups", desc := "()J" } : Jvm.MethodName) prog_31_method_9_code (1 : Nat) (Option.some Jvm.ClassFile.FieldType.long)).before args0 about1 = true := code_word (m := ⟨4, 2⟩) (meth := k4m2) (c := k4c2) (by decide +kernel) rfl rfl rfl (by decide +kernel)
set_option maxRecDepth 65536 in
theorem w_c8 : (Jvm.Cond.code ({ cls := "com/example/traversine/traversine/web/Limits", name := "parallelLookups", desc := "()I" } : Jvm.MethodName) prog_31_method_11_code (1 : Nat) (Option.some Jvm.ClassFile.FieldType.int)).before args0 about1 = true := code_word (m := ⟨4, 4⟩) (meth := k4m4) (c := k4c4) (by decide +kernel) rfl rfl rfl (by decide +kernel)
def codes1 : List Jvm.Cond := [Jvm.Cond.code x code maxLocals ret, Jvm.Cond.code ({ cls := "java/lang/Math", name := "max", desc := "(II)I" } : Jvm.MethodName) jdk_29_method_65_code (2 : Nat) (Option.some Jvm.ClassFile.FieldType.int), Jvm.Cond.code ({ cls := "com/example/traversine/traversine/web/Limits", name := "<init>", desc := "(JII)V" } : Jvm.MethodName) prog_31_method_1_code (5 : Nat) (Option.none : Option Jvm.ClassFile.FieldType), Jvm.Cond.code ({ cls := "java/lang/Record", name := "<init>", desc := "()V" } : Jvm.MethodName) jdk_30_method_1_code (1 : Nat) (Option.none : Option Jvm.ClassFile.FieldType), Jvm.Cond.code ({ cls := "java/lang/Object", name := "<init>", desc := "()V" } : Jvm.MethodName) object_method_1_code (1 : Nat) (Option.none : Option Jvm.ClassFile.FieldType), Jvm.Cond.code ({ cls := "com/example/traversine/traversine/web/Limits", name := "withMaxDocumentBytes", desc := "(I)Lcom/example/traversine/traversine/web/Limits;" } : Jvm.MethodName) prog_31_method_3_code (2 : Nat) (Option.some (Jvm.ClassFile.FieldType.object "com/example/traversine/traversine/web/Limits")), Jvm.Cond.code ({ cls := "com/example/traversine/traversine/web/Limits", name := "maxDocumentBytes", desc := "()I" } : Jvm.MethodName) prog_31_method_10_code (1 : Nat) (Option.some Jvm.ClassFile.FieldType.int), Jvm.Cond.code ({ cls := "com/example/traversine/traversine/web/Limits", name := "maxLookups", desc := "()J" } : Jvm.MethodName) prog_31_method_9_code (1 : Nat) (Option.some Jvm.ClassFile.FieldType.long), Jvm.Cond.code ({ cls := "com/example/traversine/traversine/web/Limits", name := "parallelLookups", desc := "()I" } : Jvm.MethodName) prog_31_method_11_code (1 : Nat) (Option.some Jvm.ClassFile.FieldType.int)]
set_option maxRecDepth 65536 in
theorem codes_eq : words1.filter isCode = codes1 := rfl
theorem w_codes : ∀ c ∈ words1.filter isCode, c.before args0 about1 = true := by
  rw [codes_eq]
  intro c hc
  simp only [codes1, List.mem_cons, List.not_mem_nil, or_false] at hc
  rcases hc with rfl | rfl | rfl | rfl | rfl | rfl | rfl | rfl | rfl
  · exact w_c0
  · exact w_c1
  · exact w_c2
  · exact w_c3
  · exact w_c4
  · exact w_c5
  · exact w_c6
  · exact w_c7
  · exact w_c8
set_option maxRecDepth 65536 in
theorem w_t1 : (words1.take 24).all (fun c => isCode c || c.before args0 about1) = true := by decide +kernel
set_option maxRecDepth 65536 in
theorem w_t2 : ((words1.drop 24).take 24).all (fun c => isCode c || c.before args0 about1) = true := by decide +kernel
set_option maxRecDepth 65536 in
theorem w_t3 : ((words1.drop 24).drop 24).all (fun c => isCode c || c.before args0 about1) = true := by decide +kernel
theorem w_tables : (allAtoms (Jvm.Cond.code x code maxLocals ret :: tables_1)).before args0 about1 = true := by
  rw [allAtoms_all]
  show words1.all (fun c => c.before args0 about1) = true
  refine all_split ?_ w_codes
  rw [← List.take_append_drop 24 words1, List.all_append, w_t1, ← List.take_append_drop 24 (words1.drop 24), List.all_append, w_t2, w_t3]
  rfl
set_option maxRecDepth 65536 in
theorem w_case : (Jvm.Cond.and given_1 narrow_1).before args0 about1 = true := by decide +kernel
theorem w_applies : (headSpec (Jvm.Cond.code x code maxLocals ret :: tables_1) room_1).applies x e0.platform about1 = true :=
  (Spec.applies_iff w_frames).mpr ⟨w_running, w_runnable, w_alone, w_named, w_hears, w_ripe, w_room, w_tables⟩
theorem atStart : AtStart classFile x code maxLocals ret World_1 tables_1 room_1 Calls_1 rest_1 Pre_1 launch0 p0 e0 about1 theMethod args0 below0 :=
  ⟨lists_1, trivial, launch0.admits_env _ _ _, launch0.least_env, fairChoices_fair.cas, fairChoices_fair.clock, w_frames, w_args, w_heap, w_applies, trivial, trivial, w_case⟩
end start1
theorem witness_1 : WitnessClaimed_1 := ⟨start1.p0, start1.e0, start1.about1, start1.theMethod, start1.args0, start1.below0, start1.atStart⟩
end Jvm.Pilot.@@N@@
