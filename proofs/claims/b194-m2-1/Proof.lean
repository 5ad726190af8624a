import JvmDerived
import JvmDerived.Pilot.@@N@@Statement
import JvmDerived.Pilot.@@N@@Code
set_option linter.unusedVariables false
set_option linter.unusedSimpArgs false
namespace Jvm.RoadKit
open Sem ClassFile Op Lib Jvm.Stand Jvm.Free Jvm.LawKit
section New
variable {p : Program} {l : Launch} {e : Env} {R : Room} {s : State} {m : MethodId} {args : Array Value} {below : List Frame} {meth : Method} {c : Code} {T : State} {locs : List Loc} {cells slots : Nat}
theorem retI (X : Stand p l e R s m args below meth c T locs cells slots) (hEX : p.tables.exec = Jvm.exec) {pc : Nat} {Ls : Array Slot} {z : Int32} {rest : List Value} (hRT : meth.sig.returnType = some .int) (hd : decode c.code pc = .ok (.ireturn, 1)) {fs : List Frame}
    (hl : ∀ (f : JFrame) (acts : List Action), f.method = m → f.locked = none → f.entered = [] → (doReturn e (T.setTop f) acts (some (.int z))).1 = T.setFrames fs) : Steps p.tables e below (T.setTop (mkF m pc Ls (.int z :: rest))) (T.setFrames fs) := by
  have hm' : T.vm.method? m = some meth := X.method'
  have hn : narrow .int (.int z) = .int z := rfl
  show Steps p.tables e below (T.setTop { method := m, pc := pc, locals := Ls, stack := _ :: rest, locked := none }) _
  jvm_step X.here [X.here.top, hEX, hd, hm', hRT, hn]
  first | (intro acts; rw [hl _ acts rfl rfl rfl]) | rw [hl _ _ rfl rfl rfl]
  exact Steps.refl _
abbrev Us : Slot := .unset
abbrev Zs : Slot := .second
abbrev Nv : Slot := .val .null
abbrev Iv (x : Int32) : Slot := .val (.int x)
abbrev Lv (x : Int64) : Slot := .val (.long x)
abbrev Rv (x : Addr) : Slot := .val (.ref x)
/-- the body comes to its end from st: it returns v, and Q holds of v, of the heap and of the places written -/
def Done (p : Program) (e : Env) (below : List Frame) (s : State) (Q : Option Value → Heap → List Loc → Prop) (kc ks : Nat) (st : State) : Prop :=
  ∃ (s₂ : State) (o : Outcome), Steps p.tables e below st s₂ ∧ s₂.status = .running ∧ Ended s₂ below o ∧ ∃ v L, o = .returned v ∧ Q v s₂.heap L ∧ FrameEnd s o s₂ L kc ks
variable {Q : Option Value → Heap → List Loc → Prop} {kc ks : Nat}
theorem Done.pre {st st' : State} (h : ∀ t, Steps p.tables e below st' t → Steps p.tables e below st t) (D : Done p e below s Q kc ks st') : Done p e below s Q kc ks st := by
  obtain ⟨s₂, o, h1, r⟩ := D
  exact ⟨s₂, o, h _ h1, r⟩
theorem Done.retI (X : Stand p l e R s m args below meth c T locs cells slots) (hEX : p.tables.exec = Jvm.exec) (hLK : meth.locks = false) {pc : Nat} {Ls : Array Slot} {z : Int32} {rest : List Value} (hRT : meth.sig.returnType = some .int) (hd : decode c.code pc = .ok (.ireturn, 1))
    (hQ : Q (some (.int z)) T.heap locs) (hc : cells ≤ kc) (hs : slots ≤ ks) : Done p e below s Q kc ks (T.setTop (mkF m pc Ls (.int z :: rest))) := by
  obtain ⟨fs, hr, hrun, hended, hW, hsame⟩ := X.leave (v := some (.int z)) (fun h => by rw [hRT] at h; cases h) hLK
  exact ⟨_, _, Jvm.RoadKit.retI X hEX hRT hd hr, hrun, hended, _, _, rfl, hQ, ⟨_, rfl⟩, hW, hsame.mono hc hs⟩
theorem Done.retN (X : Stand p l e R s m args below meth c T locs cells slots) (hEX : p.tables.exec = Jvm.exec) (hLK : meth.locks = false) {pc : Nat} {Ls : Array Slot} {z : Int32} {t : FieldType} {rest : List Value} (hRT : meth.sig.returnType = some t) (ht : t = .boolean ∨ t = .byte ∨ t = .char ∨ t = .short) (hd : decode c.code pc = .ok (.ireturn, 1))
    (hQ : Q (some (.int (nar t z))) T.heap locs) (hc : cells ≤ kc) (hs : slots ≤ ks) : Done p e below s Q kc ks (T.setTop (mkF m pc Ls (.int z :: rest))) := by
  obtain ⟨fs, hr, hrun, hended, hW, hsame⟩ := X.leave (v := some (.int (nar t z))) (fun h => by rw [hRT] at h; cases h) hLK
  exact ⟨_, _, Jvm.RoadKit.retN X hEX hRT ht hd hr, hrun, hended, _, _, rfl, hQ, ⟨_, rfl⟩, hW, hsame.mono hc hs⟩
theorem Done.retL (X : Stand p l e R s m args below meth c T locs cells slots) (hEX : p.tables.exec = Jvm.exec) (hLK : meth.locks = false) {pc : Nat} {Ls : Array Slot} {z : Int64} {rest : List Value} (hRT : meth.sig.returnType = some .long) (hd : decode c.code pc = .ok (.lreturn, 1))
    (hQ : Q (some (.long z)) T.heap locs) (hc : cells ≤ kc) (hs : slots ≤ ks) : Done p e below s Q kc ks (T.setTop (mkF m pc Ls (.long z :: rest))) := by
  obtain ⟨fs, hr, hrun, hended, hW, hsame⟩ := X.leave (v := some (.long z)) (fun h => by rw [hRT] at h; cases h) hLK
  exact ⟨_, _, retOut X hEX hRT rfl (Or.inr (Or.inl ⟨rfl, rfl, _, rfl⟩)) hd hr, hrun, hended, _, _, rfl, hQ, ⟨_, rfl⟩, hW, hsame.mono hc hs⟩
theorem Done.retA (X : Stand p l e R s m args below meth c T locs cells slots) (hEX : p.tables.exec = Jvm.exec) (hLK : meth.locks = false) {pc : Nat} {Ls : Array Slot} {w : Value} {t : FieldType} {rest : List Value} (hRT : meth.sig.returnType = some t) (ht : t.isReference = true) (hw : w.isRef = true) (hd : decode c.code pc = .ok (.areturn, 1))
    (hQ : Q (some w) T.heap locs) (hc : cells ≤ kc) (hs : slots ≤ ks) : Done p e below s Q kc ks (T.setTop (mkF m pc Ls (w :: rest))) := by
  obtain ⟨fs, hr, hrun, hended, hW, hsame⟩ := X.leave (v := some w) (fun h => by rw [hRT] at h; cases h) hLK
  have hn : narrow t w = w := by cases t <;> first | rfl | (simp [FieldType.isReference] at ht)
  exact ⟨_, _, retOut X hEX hRT hn (Or.inr (Or.inr (Or.inr (Or.inr ⟨rfl, ht, hw⟩)))) hd hr, hrun, hended, _, _, rfl, hQ, ⟨_, rfl⟩, hW, hsame.mono hc hs⟩
theorem Done.retV (X : Stand p l e R s m args below meth c T locs cells slots) (hEX : p.tables.exec = Jvm.exec) (hLK : meth.locks = false) {pc : Nat} {Ls : Array Slot} (hRT : meth.sig.returnType = none) (hd : decode c.code pc = .ok (.return_, 1))
    (hQ : Q none T.heap locs) (hc : cells ≤ kc) (hs : slots ≤ ks) : Done p e below s Q kc ks (T.setTop (mkF m pc Ls [])) := by
  obtain ⟨fs, hr, hrun, hended, hW, hsame⟩ := X.leave (v := none) (fun _ => rfl) hLK
  exact ⟨_, _, X.returnOut hEX hRT hd hr, hrun, hended, _, _, rfl, hQ, ⟨_, rfl⟩, hW, hsame.mono hc hs⟩
end New
end Jvm.RoadKit
namespace Jvm.Pilot.@@N@@
open Jvm Jvm.ClassFile Sem Op Lib Jvm.Free Jvm.Stand Jvm.LawKit Jvm.RoadKit Bundle Jvm.Pilot.@@N@@.Jvm.D

def own_abv (h : Int64) (cp : Int32) : Int64 := if (65535 : Int32) < cp then h + (1 : Int64) else if cp = (-2147483648 : Int32) then h + (1 : Int64) else h

def own_pick (sel raw : Int32) : Int32 := if sel = (0 : Int32) then raw &&& (2147483647 : Int32) else if sel = (1 : Int32) then (65535 : Int32) else if sel = (2 : Int32) then (65536 : Int32) else if sel = (3 : Int32) then (-2147483648 : Int32)
  else if sel = (4 : Int32) then (0 : Int32) else if sel = (5 : Int32) then (2147483647 : Int32) else if sel = (6 : Int32) then raw &&& (65535 : Int32) else (1114111 : Int32)
def own_ac (cp : Int32) : Int64 := if cp = (-2147483648 : Int32) then (1 : Int64) else if cp.toInt64 < (65536 : Int64) then (0 : Int64) else (1 : Int64)
theorem own_abv_eq (h : Int64) (cp : Int32) : own_abv h cp = h + own_ac cp := by
  rw [own_abv, own_ac]
  have e1 : (65535 : Int32).toInt = 65535 := rfl
  have e2 : (65536 : Int64).toInt = 65536 := rfl
  have e3 : (-2147483648 : Int32).toInt = -2147483648 := rfl
  have h1 := c_i2l cp
  by_cases hc : (65535 : Int32) < cp
  · rw [if_pos hc]
    rw [Int32.lt_iff_toInt_lt] at hc
    have n1 : ¬ cp = (-2147483648 : Int32) := fun q => by rw [q] at hc; omega
    have n2 : ¬ cp.toInt64 < (65536 : Int64) := by rw [Int64.lt_iff_toInt_lt]; omega
    rw [if_neg n1, if_neg n2]
  · rw [if_neg hc]
    rw [Int32.lt_iff_toInt_lt] at hc
    by_cases hm : cp = (-2147483648 : Int32)
    · rw [if_pos hm, if_pos hm]
    · have n2 : cp.toInt64 < (65536 : Int64) := by rw [Int64.lt_iff_toInt_lt]; omega
      rw [if_neg hm, if_neg hm, if_pos n2, Int64.add_zero]
theorem own_l1 (a : Int64) : ((0 : Int64) + a) + (1 : Int64) = a + (1 : Int64) := by rw [Int64.zero_add]
theorem own_l2 (b : Int64) (c : Int32) : own_abv ((0 : Int64) + b) c = b + own_ac c := by rw [own_abv_eq, Int64.zero_add]
theorem own_l3 (a : Int64) : (((0 : Int64) + a) + (1 : Int64)) + (1 : Int64) = a + (2 : Int64) := by
  rw [Int64.zero_add, Int64.add_assoc]; rfl
theorem own_l4 (b : Int64) (c d : Int32) : own_abv (own_abv ((0 : Int64) + b) c) d = (b + own_ac c) + own_ac d := by rw [own_abv_eq, own_l2]
theorem d_prog_17_method_1_code_0 : decode prog_17_method_1_code 0 = .ok (.aload_n 0, 1) := by decide +kernel
theorem d_prog_17_method_1_code_1 : decode prog_17_method_1_code 1 = .ok (.invokespecial 1, 3) := by decide +kernel
theorem d_prog_17_method_1_code_4 : decode prog_17_method_1_code 4 = .ok (.return_, 1) := by decide +kernel
def Qrm_init (Z : State) (a : Addr) (h0 : Heap) (n0 : Nat) (v_ : Option Value) (h_ : Heap) (L_ : List Loc) : Prop := v_ = none ∧ Fr n0 L_ ∧ h_ = h0
theorem ef_rm_init (m : MethodId) (x0 : Addr) : entryFrame m #[(.ref x0)] 1 = mkF m 0 #[.val (.ref x0)] [] := by first | (simp [entryFrame, mkF, argsToLocals, Value.category]; done) | rfl
theorem pn_com_example_sutf_sutf_codec_Tally : plainName "com/example/sutf/sutf/codec/Tally" = true := by first | (simp [plainName, overriddenIn]; done) | decide +kernel
set_option maxRecDepth 65536 in
set_option maxHeartbeats 40000000 in
theorem rm_init (l : Launch) (Z : State) (aZ : Array Value) (hw : ∀ d ∈ tables_1, d.before aZ Z = true) (ws : List Jvm.Cond) (a : Addr) (h0 : Heap) (n0 : Nat) (Z0 : n0 ≤ h0.size) :
    MetFree l (⟨"com/example/sutf/sutf/codec/Tally", "<init>", "()V"⟩ : MethodName) (head1 (Jvm.Cond.code (⟨"com/example/sutf/sutf/codec/Tally", "<init>", "()V"⟩ : MethodName) prog_17_method_1_code 1 none :: ws) ({ frames := 1, cells := 0, slots := 0, locals := 12 } : Room)) (fun a_ U_ => a_ = #[(.ref a)] ∧ Z.Warmed39 U_.vm ∧ U_.heap = h0) (fun _ _ _ _ _ => True) (fun _ U_ o_ U2_ => ∃ v_ L_, o_ = .returned v_ ∧ Qrm_init Z a h0 n0 v_ U2_.heap L_ ∧ FrameEnd U_ o_ U2_ L_ ({ frames := 1, cells := 0, slots := 0, locals := 12 } : Room).cells ({ frames := 1, cells := 0, slots := 0, locals := 12 } : Room).slots) := by
  refine MetFree.of_bodySF (plainFor_of_name pn_com_example_sutf_sutf_codec_Tally) hisR ?_
  intro p e s m args below meth cO s₁ Bd hml0 hP hK
  obtain ⟨rfl, hZW, hh⟩ := hP
  have hEX := Bd.exec
  have hBY := Bd.bytes
  have hMX : cO.maxLocals = 1 := hml0
  have hOW : s.vm.findClass "com/example/sutf/sutf/codec/Tally" = some m.cls := findClass_of_methodNamed Bd.named
  have hNM := (name_of_methodNamed Bd.named Bd.method).1
  have hLK := Bd.notSynchronized
  have hRT := Bd.returns
  have X0 : Stand p l e ({ frames := 1, cells := 0, slots := 0, locals := 12 } : Room) s m #[(.ref a)] below meth cO s₁ [] 0 0 := Stand.of_body Bd
  have e0 : s₁.heap = h0 := by rw [← hh, Bd.state]; rfl
  have N0 := Fr.nil n0
  have K0 : Keep h0 h0 [] := Keep.refl _ _
  show Done p e below s (Qrm_init Z a h0 n0) ({ frames := 1, cells := 0, slots := 0, locals := 12 } : Room).cells ({ frames := 1, cells := 0, slots := 0, locals := 12 } : Room).slots (s₁.setTop (entryFrame m #[(.ref a)] 1))
  refine Done.pre (fun t_ k_ => castTop (ef_rm_init m a) k_) ?_
  show Done _ _ _ _ _ _ _ (s₁.setTop (mkF m 0 #[Rv a] []))
  have sg_1 : ∀ tt_, Steps p.tables e below (s₁.setTop (mkF m 1 #[Rv a] [(.ref a)])) tt_ → Steps p.tables e below (s₁.setTop (mkF m 0 #[Rv a] [])) tt_ := by
    intro tt_ kt_
    refine XS.aloadN X0.here hEX rfl (hb hBY d_prog_17_method_1_code_0) rfl rfl ?_
    exact kt_
  refine Done.pre sg_1 ?_
  obtain ⟨T_2, X_2, e_2, st_2⟩ := initO X0 hEX hZW hOW (hw _ (List.mem_of_getElem? (i := 11) rfl)) (hw _ (List.mem_of_getElem? (i := 12) rfl)) (hw _ (List.mem_of_getElem? (i := 13) rfl)) e0 (g := (mkF m 1 #[Rv a] [(.ref a)])) rfl (by rw [hMX]; rfl) rfl (hb hBY d_prog_17_method_1_code_1) (by decide) (W := 0) (by show 2 * 0 + _ ≤ _; exact Nat.le_of_eq rfl) (by decide)
  refine Done.pre st_2 ?_
  show Done _ _ _ _ _ _ _ (T_2.setTop (mkF m 4 #[Rv a] []))
  exact Done.retV X_2 hEX hLK hRT (hb hBY d_prog_17_method_1_code_4) (by rw [e_2]; exact ⟨rfl, N0, rfl⟩) (by decide) (by decide)
theorem d_prog_17_method_2_code_0 : decode prog_17_method_2_code 0 = .ok (.aload_n 0, 1) := by decide +kernel
theorem d_prog_17_method_2_code_1 : decode prog_17_method_2_code 1 = .ok (.dup, 1) := by decide +kernel
theorem d_prog_17_method_2_code_2 : decode prog_17_method_2_code 2 = .ok (.getfield 7, 3) := by decide +kernel
theorem d_prog_17_method_2_code_5 : decode prog_17_method_2_code 5 = .ok (.lconst 1, 1) := by decide +kernel
theorem d_prog_17_method_2_code_6 : decode prog_17_method_2_code 6 = .ok (.ladd, 1) := by decide +kernel
theorem d_prog_17_method_2_code_7 : decode prog_17_method_2_code 7 = .ok (.putfield 7, 3) := by decide +kernel
theorem d_prog_17_method_2_code_10 : decode prog_17_method_2_code 10 = .ok (.iload_n 1, 1) := by decide +kernel
theorem d_prog_17_method_2_code_11 : decode prog_17_method_2_code 11 = .ok (.ldc 13, 2) := by decide +kernel
theorem d_prog_17_method_2_code_13 : decode prog_17_method_2_code 13 = .ok (.if_icmp .gt 9, 3) := by decide +kernel
theorem d_prog_17_method_2_code_22 : decode prog_17_method_2_code 22 = .ok (.aload_n 0, 1) := by decide +kernel
theorem d_prog_17_method_2_code_23 : decode prog_17_method_2_code 23 = .ok (.dup, 1) := by decide +kernel
theorem d_prog_17_method_2_code_24 : decode prog_17_method_2_code 24 = .ok (.getfield 17, 3) := by decide +kernel
theorem d_prog_17_method_2_code_27 : decode prog_17_method_2_code 27 = .ok (.lconst 1, 1) := by decide +kernel
theorem d_prog_17_method_2_code_28 : decode prog_17_method_2_code 28 = .ok (.ladd, 1) := by decide +kernel
theorem d_prog_17_method_2_code_29 : decode prog_17_method_2_code 29 = .ok (.putfield 17, 3) := by decide +kernel
theorem d_prog_17_method_2_code_32 : decode prog_17_method_2_code 32 = .ok (.return_, 1) := by decide +kernel
theorem d_prog_17_method_2_code_16 : decode prog_17_method_2_code 16 = .ok (.iload_n 1, 1) := by decide +kernel
theorem d_prog_17_method_2_code_17 : decode prog_17_method_2_code 17 = .ok (.ldc 16, 2) := by decide +kernel
theorem d_prog_17_method_2_code_19 : decode prog_17_method_2_code 19 = .ok (.if_icmp .ne 13, 3) := by decide +kernel
def Qrm_addI (Z : State) (a : Addr) (cp : Int32) (c0 : Int64) (k0 : Int64) (h0 : Heap) (n0 : Nat) (v_ : Option Value) (h_ : Heap) (L_ : List Loc) : Prop := v_ = none ∧ Fr n0 L_ ∧ Keep h0 h_ [a] ∧ Exa Z h_ a "com/example/sutf/sutf/codec/Tally" ∧ Fld Z h_ a "com/example/sutf/sutf/codec/Tally" "codePoints" "J" (.long (c0 + (1 : Int64))) ∧ Fld Z h_ a "com/example/sutf/sutf/codec/Tally" "aboveFfff" "J" (.long (own_abv k0 cp))
theorem ef_rm_addI (m : MethodId) (x0 : Addr) (x1 : Int32) : entryFrame m #[(.ref x0), (.int x1)] 2 = mkF m 0 #[.val (.ref x0), .val (.int x1)] [] := by first | (simp [entryFrame, mkF, argsToLocals, Value.category]; done) | rfl
set_option maxRecDepth 65536 in
set_option maxHeartbeats 40000000 in
theorem rm_addI (l : Launch) (Z : State) (aZ : Array Value) (hw : ∀ d ∈ tables_1, d.before aZ Z = true) (ws : List Jvm.Cond) (a : Addr) (cp : Int32) (c0 : Int64) (k0 : Int64) (h0 : Heap) (n0 : Nat) (Z0 : n0 ≤ h0.size) (Ex : Exa Z h0 a "com/example/sutf/sutf/codec/Tally") (F1 : Fld Z h0 a "com/example/sutf/sutf/codec/Tally" "codePoints" "J" (.long c0)) (F2 : Fld Z h0 a "com/example/sutf/sutf/codec/Tally" "aboveFfff" "J" (.long k0)) (ga : n0 ≤ a) :
    MetFree l (⟨"com/example/sutf/sutf/codec/Tally", "add", "(I)V"⟩ : MethodName) (head1 (Jvm.Cond.code (⟨"com/example/sutf/sutf/codec/Tally", "add", "(I)V"⟩ : MethodName) prog_17_method_2_code 2 none :: ws) ({ frames := 0, cells := 0, slots := 0, locals := 0 } : Room)) (fun a_ U_ => a_ = #[(.ref a), (.int cp)] ∧ Z.Warmed39 U_.vm ∧ U_.heap = h0) (fun _ _ _ _ _ => True) (fun _ U_ o_ U2_ => ∃ v_ L_, o_ = .returned v_ ∧ Qrm_addI Z a cp c0 k0 h0 n0 v_ U2_.heap L_ ∧ FrameEnd U_ o_ U2_ L_ ({ frames := 0, cells := 0, slots := 0, locals := 0 } : Room).cells ({ frames := 0, cells := 0, slots := 0, locals := 0 } : Room).slots) := by
  refine MetFree.of_bodySF (plainFor_of_name pn_com_example_sutf_sutf_codec_Tally) hisR ?_
  intro p e s m args below meth cO s₁ Bd hml0 hP hK
  obtain ⟨rfl, hZW, hh⟩ := hP
  have hEX := Bd.exec
  have hBY := Bd.bytes
  have hMX : cO.maxLocals = 2 := hml0
  have hOW : s.vm.findClass "com/example/sutf/sutf/codec/Tally" = some m.cls := findClass_of_methodNamed Bd.named
  have hNM := (name_of_methodNamed Bd.named Bd.method).1
  have hLK := Bd.notSynchronized
  have hRT := Bd.returns
  have X0 : Stand p l e ({ frames := 0, cells := 0, slots := 0, locals := 0 } : Room) s m #[(.ref a), (.int cp)] below meth cO s₁ [] 0 0 := Stand.of_body Bd
  have e0 : s₁.heap = h0 := by rw [← hh, Bd.state]; rfl
  have N0 := Fr.nil n0
  have K0 : Keep h0 h0 [a] := Keep.refl _ _
  show Done p e below s (Qrm_addI Z a cp c0 k0 h0 n0) ({ frames := 0, cells := 0, slots := 0, locals := 0 } : Room).cells ({ frames := 0, cells := 0, slots := 0, locals := 0 } : Room).slots (s₁.setTop (entryFrame m #[(.ref a), (.int cp)] 2))
  refine Done.pre (fun t_ k_ => castTop (ef_rm_addI m a cp) k_) ?_
  show Done _ _ _ _ _ _ _ (s₁.setTop (mkF m 0 #[Rv a, Iv cp] []))
  have sg_1 : ∀ tt_, Steps p.tables e below (s₁.setTop (mkF m 2 #[Rv a, Iv cp] [(.ref a), (.ref a)])) tt_ → Steps p.tables e below (s₁.setTop (mkF m 0 #[Rv a, Iv cp] [])) tt_ := by
    intro tt_ kt_
    refine XS.aloadN X0.here hEX rfl (hb hBY d_prog_17_method_2_code_0) rfl rfl ?_
    show Steps p.tables e below (s₁.setTop (mkF m 1 #[Rv a, Iv cp] [(.ref a)])) tt_
    refine XS.dup X0.here hEX rfl (hb hBY d_prog_17_method_2_code_1) rfl rfl ?_
    exact kt_
  refine Done.pre sg_1 ?_
  obtain ⟨T_2, X_2, e_2, st_2⟩ := getF X0 hEX hZW hOW (host := "") (Or.inl (hw _ (List.mem_of_getElem? (i := 19) rfl))) Via.refl e0 F1 (g := (mkF m 2 #[Rv a, Iv cp] [(.ref a), (.ref a)])) rfl rfl (hb hBY d_prog_17_method_2_code_2)
  refine Done.pre st_2 ?_
  show Done _ _ _ _ _ _ _ (T_2.setTop (mkF m 5 #[Rv a, Iv cp] [(.long c0), (.ref a)]))
  have sg_3 : ∀ tt_, Steps p.tables e below (T_2.setTop (mkF m 7 #[Rv a, Iv cp] [(.long (c0 + (1 : Int64))), (.ref a)])) tt_ → Steps p.tables e below (T_2.setTop (mkF m 5 #[Rv a, Iv cp] [(.long c0), (.ref a)])) tt_ := by
    intro tt_ kt_
    refine XS.lconst X_2.here hEX rfl (hb hBY d_prog_17_method_2_code_5) ?_
    show Steps p.tables e below (T_2.setTop (mkF m 6 #[Rv a, Iv cp] [(.long (1 : Int64)), (.long c0), (.ref a)])) tt_
    refine XS.ladd X_2.here hEX rfl (hb hBY d_prog_17_method_2_code_6) rfl ?_
    exact kt_
  refine Done.pre sg_3 ?_
  obtain ⟨T_4, h_4, X_4, e_4, W_4, st_4⟩ := putF X_2 hEX hZW hOW (host := "") (Or.inl (hw _ (List.mem_of_getElem? (i := 19) rfl))) Via.refl e_2 F1 Ex (Or.inl (hw _ (List.mem_of_getElem? (i := 20) rfl))) (hw _ (List.mem_of_getElem? (i := 6) rfl)) (ty := .long) (by decide) rfl rfl (g := (mkF m 7 #[Rv a, Iv cp] [(.long (c0 + (1 : Int64))), (.ref a)])) rfl rfl (hb hBY d_prog_17_method_2_code_7)
  have N_4 := Fr.snoc X_4 N0 ga
  have K__5 : Keep h0 h_4 [a] := K0.wr W_4 (Or.inl (List.mem_of_getElem? (i := 0) rfl))
  have f_6 : Exa Z h_4 a "com/example/sutf/sutf/codec/Tally" := Ex.wr W_4
  have f_7 : Fld Z h_4 a "com/example/sutf/sutf/codec/Tally" "aboveFfff" "J" (.long k0) := F2.other W_4 (Or.inr (slot_ne (Or.inl (hw _ (List.mem_of_getElem? (i := 22) rfl))) (Or.inl (hw _ (List.mem_of_getElem? (i := 20) rfl))) (by decide) (t := .long) (t' := .long) (by decide) (by decide)))
  have f_8 : Fld Z h_4 a "com/example/sutf/sutf/codec/Tally" "codePoints" "J" (.long (c0 + (1 : Int64))) := F1.same W_4
  refine Done.pre st_4 ?_
  show Done _ _ _ _ _ _ _ (T_4.setTop (mkF m 10 #[Rv a, Iv cp] []))
  have sg_9 : ∀ tt_, Steps p.tables e below (T_4.setTop (mkF m 13 #[Rv a, Iv cp] [(.int (65535 : Int32)), (.int cp)])) tt_ → Steps p.tables e below (T_4.setTop (mkF m 10 #[Rv a, Iv cp] [])) tt_ := by
    intro tt_ kt_
    refine XS.iloadN X_4.here hEX rfl (hb hBY d_prog_17_method_2_code_10) rfl ?_
    show Steps p.tables e below (T_4.setTop (mkF m 11 #[Rv a, Iv cp] [(.int cp)])) tt_
    refine X_4.ldcInt hEX hOW (mvT hZW (hw _ (List.mem_of_getElem? (i := 28) rfl))) (g := (mkF m 11 #[Rv a, Iv cp] [(.int cp)])) rfl (hb hBY d_prog_17_method_2_code_11) _ ?_
    exact kt_
  refine Done.pre sg_9 ?_
  by_cases hc13 : (65535 : Int32) < cp
  · skip
    have sg_10 : ∀ tt_, Steps p.tables e below (T_4.setTop (mkF m 24 #[Rv a, Iv cp] [(.ref a), (.ref a)])) tt_ → Steps p.tables e below (T_4.setTop (mkF m 13 #[Rv a, Iv cp] [(.int (65535 : Int32)), (.int cp)])) tt_ := by
      intro tt_ kt_
      refine XS.icmpYes X_4.here hEX rfl (pc0 := 13) (pc' := 22) rfl (hb hBY d_prog_17_method_2_code_13) rfl (tlt hc13).2.2.1 (by decide) (by decide) ?_
      show Steps p.tables e below (T_4.setTop (mkF m 22 #[Rv a, Iv cp] [])) tt_
      refine XS.aloadN X_4.here hEX rfl (hb hBY d_prog_17_method_2_code_22) rfl rfl ?_
      show Steps p.tables e below (T_4.setTop (mkF m 23 #[Rv a, Iv cp] [(.ref a)])) tt_
      refine XS.dup X_4.here hEX rfl (hb hBY d_prog_17_method_2_code_23) rfl rfl ?_
      exact kt_
    refine Done.pre sg_10 ?_
    obtain ⟨T_11, X_11, e_11, st_11⟩ := getF X_4 hEX hZW hOW (host := "") (Or.inl (hw _ (List.mem_of_getElem? (i := 21) rfl))) Via.refl e_4 f_7 (g := (mkF m 24 #[Rv a, Iv cp] [(.ref a), (.ref a)])) rfl rfl (hb hBY d_prog_17_method_2_code_24)
    refine Done.pre st_11 ?_
    show Done _ _ _ _ _ _ _ (T_11.setTop (mkF m 27 #[Rv a, Iv cp] [(.long k0), (.ref a)]))
    have sg_12 : ∀ tt_, Steps p.tables e below (T_11.setTop (mkF m 29 #[Rv a, Iv cp] [(.long (k0 + (1 : Int64))), (.ref a)])) tt_ → Steps p.tables e below (T_11.setTop (mkF m 27 #[Rv a, Iv cp] [(.long k0), (.ref a)])) tt_ := by
      intro tt_ kt_
      refine XS.lconst X_11.here hEX rfl (hb hBY d_prog_17_method_2_code_27) ?_
      show Steps p.tables e below (T_11.setTop (mkF m 28 #[Rv a, Iv cp] [(.long (1 : Int64)), (.long k0), (.ref a)])) tt_
      refine XS.ladd X_11.here hEX rfl (hb hBY d_prog_17_method_2_code_28) rfl ?_
      exact kt_
    refine Done.pre sg_12 ?_
    obtain ⟨T_13, h_13, X_13, e_13, W_13, st_13⟩ := putF X_11 hEX hZW hOW (host := "") (Or.inl (hw _ (List.mem_of_getElem? (i := 21) rfl))) Via.refl e_11 f_7 f_6 (Or.inl (hw _ (List.mem_of_getElem? (i := 22) rfl))) (hw _ (List.mem_of_getElem? (i := 6) rfl)) (ty := .long) (by decide) rfl rfl (g := (mkF m 29 #[Rv a, Iv cp] [(.long (k0 + (1 : Int64))), (.ref a)])) rfl rfl (hb hBY d_prog_17_method_2_code_29)
    have N_13 := Fr.snoc X_13 N_4 ga
    have K__14 : Keep h0 h_13 [a] := K__5.wr W_13 (Or.inl (List.mem_of_getElem? (i := 0) rfl))
    have f_15 : Exa Z h_13 a "com/example/sutf/sutf/codec/Tally" := f_6.wr W_13
    have f_16 : Fld Z h_13 a "com/example/sutf/sutf/codec/Tally" "codePoints" "J" (.long (c0 + (1 : Int64))) := f_8.other W_13 (Or.inr (slot_ne (Or.inl (hw _ (List.mem_of_getElem? (i := 20) rfl))) (Or.inl (hw _ (List.mem_of_getElem? (i := 22) rfl))) (by decide) (t := .long) (t' := .long) (by decide) (by decide)))
    have f_17 : Fld Z h_13 a "com/example/sutf/sutf/codec/Tally" "aboveFfff" "J" (.long (k0 + (1 : Int64))) := f_7.same W_13
    refine Done.pre st_13 ?_
    show Done _ _ _ _ _ _ _ (T_13.setTop (mkF m 32 #[Rv a, Iv cp] []))
    exact Done.retV X_13 hEX hLK hRT (hb hBY d_prog_17_method_2_code_32) (by rw [e_13]; exact ⟨rfl, N_13, K__14, f_15, f_16, (by rw [own_abv]; first | (rw [if_pos hc13]; exact f_17) | (rw [if_neg hc13, if_pos hc19]; exact f_17) | (rw [if_neg hc13, if_neg hc19]; exact f_17))⟩) (by decide) (by decide)
  · skip
    have sg_18 : ∀ tt_, Steps p.tables e below (T_4.setTop (mkF m 19 #[Rv a, Iv cp] [(.int (-2147483648 : Int32)), (.int cp)])) tt_ → Steps p.tables e below (T_4.setTop (mkF m 13 #[Rv a, Iv cp] [(.int (65535 : Int32)), (.int cp)])) tt_ := by
      intro tt_ kt_
      refine XS.icmpNo X_4.here hEX rfl (hb hBY d_prog_17_method_2_code_13) rfl (flt hc13).2.2.1 ?_
      show Steps p.tables e below (T_4.setTop (mkF m 16 #[Rv a, Iv cp] [])) tt_
      refine XS.iloadN X_4.here hEX rfl (hb hBY d_prog_17_method_2_code_16) rfl ?_
      show Steps p.tables e below (T_4.setTop (mkF m 17 #[Rv a, Iv cp] [(.int cp)])) tt_
      refine X_4.ldcInt hEX hOW (mvT hZW (hw _ (List.mem_of_getElem? (i := 29) rfl))) (g := (mkF m 17 #[Rv a, Iv cp] [(.int cp)])) rfl (hb hBY d_prog_17_method_2_code_17) _ ?_
      exact kt_
    refine Done.pre sg_18 ?_
    by_cases hc19 : cp = (-2147483648 : Int32)
    · skip
      have sg_19 : ∀ tt_, Steps p.tables e below (T_4.setTop (mkF m 24 #[Rv a, Iv cp] [(.ref a), (.ref a)])) tt_ → Steps p.tables e below (T_4.setTop (mkF m 19 #[Rv a, Iv cp] [(.int (-2147483648 : Int32)), (.int cp)])) tt_ := by
        intro tt_ kt_
        refine XS.icmpNo X_4.here hEX rfl (hb hBY d_prog_17_method_2_code_19) rfl (teq hc19).2 ?_
        show Steps p.tables e below (T_4.setTop (mkF m 22 #[Rv a, Iv cp] [])) tt_
        refine XS.aloadN X_4.here hEX rfl (hb hBY d_prog_17_method_2_code_22) rfl rfl ?_
        show Steps p.tables e below (T_4.setTop (mkF m 23 #[Rv a, Iv cp] [(.ref a)])) tt_
        refine XS.dup X_4.here hEX rfl (hb hBY d_prog_17_method_2_code_23) rfl rfl ?_
        exact kt_
      refine Done.pre sg_19 ?_
      obtain ⟨T_20, X_20, e_20, st_20⟩ := getF X_4 hEX hZW hOW (host := "") (Or.inl (hw _ (List.mem_of_getElem? (i := 21) rfl))) Via.refl e_4 f_7 (g := (mkF m 24 #[Rv a, Iv cp] [(.ref a), (.ref a)])) rfl rfl (hb hBY d_prog_17_method_2_code_24)
      refine Done.pre st_20 ?_
      show Done _ _ _ _ _ _ _ (T_20.setTop (mkF m 27 #[Rv a, Iv cp] [(.long k0), (.ref a)]))
      have sg_21 : ∀ tt_, Steps p.tables e below (T_20.setTop (mkF m 29 #[Rv a, Iv cp] [(.long (k0 + (1 : Int64))), (.ref a)])) tt_ → Steps p.tables e below (T_20.setTop (mkF m 27 #[Rv a, Iv cp] [(.long k0), (.ref a)])) tt_ := by
        intro tt_ kt_
        refine XS.lconst X_20.here hEX rfl (hb hBY d_prog_17_method_2_code_27) ?_
        show Steps p.tables e below (T_20.setTop (mkF m 28 #[Rv a, Iv cp] [(.long (1 : Int64)), (.long k0), (.ref a)])) tt_
        refine XS.ladd X_20.here hEX rfl (hb hBY d_prog_17_method_2_code_28) rfl ?_
        exact kt_
      refine Done.pre sg_21 ?_
      obtain ⟨T_22, h_22, X_22, e_22, W_22, st_22⟩ := putF X_20 hEX hZW hOW (host := "") (Or.inl (hw _ (List.mem_of_getElem? (i := 21) rfl))) Via.refl e_20 f_7 f_6 (Or.inl (hw _ (List.mem_of_getElem? (i := 22) rfl))) (hw _ (List.mem_of_getElem? (i := 6) rfl)) (ty := .long) (by decide) rfl rfl (g := (mkF m 29 #[Rv a, Iv cp] [(.long (k0 + (1 : Int64))), (.ref a)])) rfl rfl (hb hBY d_prog_17_method_2_code_29)
      have N_22 := Fr.snoc X_22 N_4 ga
      have K__23 : Keep h0 h_22 [a] := K__5.wr W_22 (Or.inl (List.mem_of_getElem? (i := 0) rfl))
      have f_24 : Exa Z h_22 a "com/example/sutf/sutf/codec/Tally" := f_6.wr W_22
      have f_25 : Fld Z h_22 a "com/example/sutf/sutf/codec/Tally" "codePoints" "J" (.long (c0 + (1 : Int64))) := f_8.other W_22 (Or.inr (slot_ne (Or.inl (hw _ (List.mem_of_getElem? (i := 20) rfl))) (Or.inl (hw _ (List.mem_of_getElem? (i := 22) rfl))) (by decide) (t := .long) (t' := .long) (by decide) (by decide)))
      have f_26 : Fld Z h_22 a "com/example/sutf/sutf/codec/Tally" "aboveFfff" "J" (.long (k0 + (1 : Int64))) := f_7.same W_22
      refine Done.pre st_22 ?_
      show Done _ _ _ _ _ _ _ (T_22.setTop (mkF m 32 #[Rv a, Iv cp] []))
      exact Done.retV X_22 hEX hLK hRT (hb hBY d_prog_17_method_2_code_32) (by rw [e_22]; exact ⟨rfl, N_22, K__23, f_24, f_25, (by rw [own_abv]; first | (rw [if_pos hc13]; exact f_26) | (rw [if_neg hc13, if_pos hc19]; exact f_26) | (rw [if_neg hc13, if_neg hc19]; exact f_26))⟩) (by decide) (by decide)
    · skip
      have sg_27 : ∀ tt_, Steps p.tables e below (T_4.setTop (mkF m 32 #[Rv a, Iv cp] [])) tt_ → Steps p.tables e below (T_4.setTop (mkF m 19 #[Rv a, Iv cp] [(.int (-2147483648 : Int32)), (.int cp)])) tt_ := by
        intro tt_ kt_
        refine XS.icmpYes X_4.here hEX rfl (pc0 := 19) (pc' := 32) rfl (hb hBY d_prog_17_method_2_code_19) rfl (feq hc19).2 (by decide) (by decide) ?_
        exact kt_
      refine Done.pre sg_27 ?_
      exact Done.retV X_4 hEX hLK hRT (hb hBY d_prog_17_method_2_code_32) (by rw [e_4]; exact ⟨rfl, N_4, K__5, f_6, f_8, (by rw [own_abv]; first | (rw [if_pos hc13]; exact f_7) | (rw [if_neg hc13, if_pos hc19]; exact f_7) | (rw [if_neg hc13, if_neg hc19]; exact f_7))⟩) (by decide) (by decide)
theorem d_prog_17_method_3_code_0 : decode prog_17_method_3_code 0 = .ok (.aload_n 0, 1) := by decide +kernel
theorem d_prog_17_method_3_code_1 : decode prog_17_method_3_code 1 = .ok (.dup, 1) := by decide +kernel
theorem d_prog_17_method_3_code_2 : decode prog_17_method_3_code 2 = .ok (.getfield 7, 3) := by decide +kernel
theorem d_prog_17_method_3_code_5 : decode prog_17_method_3_code 5 = .ok (.lload_n 1, 1) := by decide +kernel
theorem d_prog_17_method_3_code_6 : decode prog_17_method_3_code 6 = .ok (.ladd, 1) := by decide +kernel
theorem d_prog_17_method_3_code_7 : decode prog_17_method_3_code 7 = .ok (.putfield 7, 3) := by decide +kernel
theorem d_prog_17_method_3_code_10 : decode prog_17_method_3_code 10 = .ok (.aload_n 0, 1) := by decide +kernel
theorem d_prog_17_method_3_code_11 : decode prog_17_method_3_code 11 = .ok (.dup, 1) := by decide +kernel
theorem d_prog_17_method_3_code_12 : decode prog_17_method_3_code 12 = .ok (.getfield 17, 3) := by decide +kernel
theorem d_prog_17_method_3_code_15 : decode prog_17_method_3_code 15 = .ok (.lload_n 3, 1) := by decide +kernel
theorem d_prog_17_method_3_code_16 : decode prog_17_method_3_code 16 = .ok (.ladd, 1) := by decide +kernel
theorem d_prog_17_method_3_code_17 : decode prog_17_method_3_code 17 = .ok (.putfield 17, 3) := by decide +kernel
theorem d_prog_17_method_3_code_20 : decode prog_17_method_3_code 20 = .ok (.return_, 1) := by decide +kernel
def Qrm_addJ (Z : State) (a : Addr) (s1 : Int64) (s2 : Int64) (c0 : Int64) (k0 : Int64) (h0 : Heap) (n0 : Nat) (v_ : Option Value) (h_ : Heap) (L_ : List Loc) : Prop := v_ = none ∧ Fr n0 L_ ∧ Keep h0 h_ [a] ∧ Exa Z h_ a "com/example/sutf/sutf/codec/Tally" ∧ Fld Z h_ a "com/example/sutf/sutf/codec/Tally" "codePoints" "J" (.long (c0 + s1)) ∧ Fld Z h_ a "com/example/sutf/sutf/codec/Tally" "aboveFfff" "J" (.long (k0 + s2))
theorem ef_rm_addJ (m : MethodId) (x0 : Addr) (x1 : Int64) (x2 : Int64) : entryFrame m #[(.ref x0), (.long x1), (.long x2)] 5 = mkF m 0 #[.val (.ref x0), .val (.long x1), .second, .val (.long x2), .second] [] := by first | (simp [entryFrame, mkF, argsToLocals, Value.category]; done) | rfl
set_option maxRecDepth 65536 in
set_option maxHeartbeats 40000000 in
theorem rm_addJ (l : Launch) (Z : State) (aZ : Array Value) (hw : ∀ d ∈ tables_1, d.before aZ Z = true) (ws : List Jvm.Cond) (a : Addr) (s1 : Int64) (s2 : Int64) (c0 : Int64) (k0 : Int64) (h0 : Heap) (n0 : Nat) (Z0 : n0 ≤ h0.size) (Ex : Exa Z h0 a "com/example/sutf/sutf/codec/Tally") (F1 : Fld Z h0 a "com/example/sutf/sutf/codec/Tally" "codePoints" "J" (.long c0)) (F2 : Fld Z h0 a "com/example/sutf/sutf/codec/Tally" "aboveFfff" "J" (.long k0)) (ga : n0 ≤ a) :
    MetFree l (⟨"com/example/sutf/sutf/codec/Tally", "add", "(JJ)V"⟩ : MethodName) (head1 (Jvm.Cond.code (⟨"com/example/sutf/sutf/codec/Tally", "add", "(JJ)V"⟩ : MethodName) prog_17_method_3_code 5 none :: ws) ({ frames := 0, cells := 0, slots := 0, locals := 0 } : Room)) (fun a_ U_ => a_ = #[(.ref a), (.long s1), (.long s2)] ∧ Z.Warmed39 U_.vm ∧ U_.heap = h0) (fun _ _ _ _ _ => True) (fun _ U_ o_ U2_ => ∃ v_ L_, o_ = .returned v_ ∧ Qrm_addJ Z a s1 s2 c0 k0 h0 n0 v_ U2_.heap L_ ∧ FrameEnd U_ o_ U2_ L_ ({ frames := 0, cells := 0, slots := 0, locals := 0 } : Room).cells ({ frames := 0, cells := 0, slots := 0, locals := 0 } : Room).slots) := by
  refine MetFree.of_bodySF (plainFor_of_name pn_com_example_sutf_sutf_codec_Tally) hisR ?_
  intro p e s m args below meth cO s₁ Bd hml0 hP hK
  obtain ⟨rfl, hZW, hh⟩ := hP
  have hEX := Bd.exec
  have hBY := Bd.bytes
  have hMX : cO.maxLocals = 5 := hml0
  have hOW : s.vm.findClass "com/example/sutf/sutf/codec/Tally" = some m.cls := findClass_of_methodNamed Bd.named
  have hNM := (name_of_methodNamed Bd.named Bd.method).1
  have hLK := Bd.notSynchronized
  have hRT := Bd.returns
  have X0 : Stand p l e ({ frames := 0, cells := 0, slots := 0, locals := 0 } : Room) s m #[(.ref a), (.long s1), (.long s2)] below meth cO s₁ [] 0 0 := Stand.of_body Bd
  have e0 : s₁.heap = h0 := by rw [← hh, Bd.state]; rfl
  have N0 := Fr.nil n0
  have K0 : Keep h0 h0 [a] := Keep.refl _ _
  show Done p e below s (Qrm_addJ Z a s1 s2 c0 k0 h0 n0) ({ frames := 0, cells := 0, slots := 0, locals := 0 } : Room).cells ({ frames := 0, cells := 0, slots := 0, locals := 0 } : Room).slots (s₁.setTop (entryFrame m #[(.ref a), (.long s1), (.long s2)] 5))
  refine Done.pre (fun t_ k_ => castTop (ef_rm_addJ m a s1 s2) k_) ?_
  show Done _ _ _ _ _ _ _ (s₁.setTop (mkF m 0 #[Rv a, Lv s1, Zs, Lv s2, Zs] []))
  have sg_1 : ∀ tt_, Steps p.tables e below (s₁.setTop (mkF m 2 #[Rv a, Lv s1, Zs, Lv s2, Zs] [(.ref a), (.ref a)])) tt_ → Steps p.tables e below (s₁.setTop (mkF m 0 #[Rv a, Lv s1, Zs, Lv s2, Zs] [])) tt_ := by
    intro tt_ kt_
    refine XS.aloadN X0.here hEX rfl (hb hBY d_prog_17_method_3_code_0) rfl rfl ?_
    show Steps p.tables e below (s₁.setTop (mkF m 1 #[Rv a, Lv s1, Zs, Lv s2, Zs] [(.ref a)])) tt_
    refine XS.dup X0.here hEX rfl (hb hBY d_prog_17_method_3_code_1) rfl rfl ?_
    exact kt_
  refine Done.pre sg_1 ?_
  obtain ⟨T_2, X_2, e_2, st_2⟩ := getF X0 hEX hZW hOW (host := "") (Or.inl (hw _ (List.mem_of_getElem? (i := 19) rfl))) Via.refl e0 F1 (g := (mkF m 2 #[Rv a, Lv s1, Zs, Lv s2, Zs] [(.ref a), (.ref a)])) rfl rfl (hb hBY d_prog_17_method_3_code_2)
  refine Done.pre st_2 ?_
  show Done _ _ _ _ _ _ _ (T_2.setTop (mkF m 5 #[Rv a, Lv s1, Zs, Lv s2, Zs] [(.long c0), (.ref a)]))
  have sg_3 : ∀ tt_, Steps p.tables e below (T_2.setTop (mkF m 7 #[Rv a, Lv s1, Zs, Lv s2, Zs] [(.long (c0 + s1)), (.ref a)])) tt_ → Steps p.tables e below (T_2.setTop (mkF m 5 #[Rv a, Lv s1, Zs, Lv s2, Zs] [(.long c0), (.ref a)])) tt_ := by
    intro tt_ kt_
    refine XS.lloadN X_2.here hEX rfl (hb hBY d_prog_17_method_3_code_5) rfl ?_
    show Steps p.tables e below (T_2.setTop (mkF m 6 #[Rv a, Lv s1, Zs, Lv s2, Zs] [(.long s1), (.long c0), (.ref a)])) tt_
    refine XS.ladd X_2.here hEX rfl (hb hBY d_prog_17_method_3_code_6) rfl ?_
    exact kt_
  refine Done.pre sg_3 ?_
  obtain ⟨T_4, h_4, X_4, e_4, W_4, st_4⟩ := putF X_2 hEX hZW hOW (host := "") (Or.inl (hw _ (List.mem_of_getElem? (i := 19) rfl))) Via.refl e_2 F1 Ex (Or.inl (hw _ (List.mem_of_getElem? (i := 20) rfl))) (hw _ (List.mem_of_getElem? (i := 6) rfl)) (ty := .long) (by decide) rfl rfl (g := (mkF m 7 #[Rv a, Lv s1, Zs, Lv s2, Zs] [(.long (c0 + s1)), (.ref a)])) rfl rfl (hb hBY d_prog_17_method_3_code_7)
  have N_4 := Fr.snoc X_4 N0 ga
  have K__5 : Keep h0 h_4 [a] := K0.wr W_4 (Or.inl (List.mem_of_getElem? (i := 0) rfl))
  have f_6 : Exa Z h_4 a "com/example/sutf/sutf/codec/Tally" := Ex.wr W_4
  have f_7 : Fld Z h_4 a "com/example/sutf/sutf/codec/Tally" "aboveFfff" "J" (.long k0) := F2.other W_4 (Or.inr (slot_ne (Or.inl (hw _ (List.mem_of_getElem? (i := 22) rfl))) (Or.inl (hw _ (List.mem_of_getElem? (i := 20) rfl))) (by decide) (t := .long) (t' := .long) (by decide) (by decide)))
  have f_8 : Fld Z h_4 a "com/example/sutf/sutf/codec/Tally" "codePoints" "J" (.long (c0 + s1)) := F1.same W_4
  refine Done.pre st_4 ?_
  show Done _ _ _ _ _ _ _ (T_4.setTop (mkF m 10 #[Rv a, Lv s1, Zs, Lv s2, Zs] []))
  have sg_9 : ∀ tt_, Steps p.tables e below (T_4.setTop (mkF m 12 #[Rv a, Lv s1, Zs, Lv s2, Zs] [(.ref a), (.ref a)])) tt_ → Steps p.tables e below (T_4.setTop (mkF m 10 #[Rv a, Lv s1, Zs, Lv s2, Zs] [])) tt_ := by
    intro tt_ kt_
    refine XS.aloadN X_4.here hEX rfl (hb hBY d_prog_17_method_3_code_10) rfl rfl ?_
    show Steps p.tables e below (T_4.setTop (mkF m 11 #[Rv a, Lv s1, Zs, Lv s2, Zs] [(.ref a)])) tt_
    refine XS.dup X_4.here hEX rfl (hb hBY d_prog_17_method_3_code_11) rfl rfl ?_
    exact kt_
  refine Done.pre sg_9 ?_
  obtain ⟨T_10, X_10, e_10, st_10⟩ := getF X_4 hEX hZW hOW (host := "") (Or.inl (hw _ (List.mem_of_getElem? (i := 21) rfl))) Via.refl e_4 f_7 (g := (mkF m 12 #[Rv a, Lv s1, Zs, Lv s2, Zs] [(.ref a), (.ref a)])) rfl rfl (hb hBY d_prog_17_method_3_code_12)
  refine Done.pre st_10 ?_
  show Done _ _ _ _ _ _ _ (T_10.setTop (mkF m 15 #[Rv a, Lv s1, Zs, Lv s2, Zs] [(.long k0), (.ref a)]))
  have sg_11 : ∀ tt_, Steps p.tables e below (T_10.setTop (mkF m 17 #[Rv a, Lv s1, Zs, Lv s2, Zs] [(.long (k0 + s2)), (.ref a)])) tt_ → Steps p.tables e below (T_10.setTop (mkF m 15 #[Rv a, Lv s1, Zs, Lv s2, Zs] [(.long k0), (.ref a)])) tt_ := by
    intro tt_ kt_
    refine XS.lloadN X_10.here hEX rfl (hb hBY d_prog_17_method_3_code_15) rfl ?_
    show Steps p.tables e below (T_10.setTop (mkF m 16 #[Rv a, Lv s1, Zs, Lv s2, Zs] [(.long s2), (.long k0), (.ref a)])) tt_
    refine XS.ladd X_10.here hEX rfl (hb hBY d_prog_17_method_3_code_16) rfl ?_
    exact kt_
  refine Done.pre sg_11 ?_
  obtain ⟨T_12, h_12, X_12, e_12, W_12, st_12⟩ := putF X_10 hEX hZW hOW (host := "") (Or.inl (hw _ (List.mem_of_getElem? (i := 21) rfl))) Via.refl e_10 f_7 f_6 (Or.inl (hw _ (List.mem_of_getElem? (i := 22) rfl))) (hw _ (List.mem_of_getElem? (i := 6) rfl)) (ty := .long) (by decide) rfl rfl (g := (mkF m 17 #[Rv a, Lv s1, Zs, Lv s2, Zs] [(.long (k0 + s2)), (.ref a)])) rfl rfl (hb hBY d_prog_17_method_3_code_17)
  have N_12 := Fr.snoc X_12 N_4 ga
  have K__13 : Keep h0 h_12 [a] := K__5.wr W_12 (Or.inl (List.mem_of_getElem? (i := 0) rfl))
  have f_14 : Exa Z h_12 a "com/example/sutf/sutf/codec/Tally" := f_6.wr W_12
  have f_15 : Fld Z h_12 a "com/example/sutf/sutf/codec/Tally" "codePoints" "J" (.long (c0 + s1)) := f_8.other W_12 (Or.inr (slot_ne (Or.inl (hw _ (List.mem_of_getElem? (i := 20) rfl))) (Or.inl (hw _ (List.mem_of_getElem? (i := 22) rfl))) (by decide) (t := .long) (t' := .long) (by decide) (by decide)))
  have f_16 : Fld Z h_12 a "com/example/sutf/sutf/codec/Tally" "aboveFfff" "J" (.long (k0 + s2)) := f_7.same W_12
  refine Done.pre st_12 ?_
  show Done _ _ _ _ _ _ _ (T_12.setTop (mkF m 20 #[Rv a, Lv s1, Zs, Lv s2, Zs] []))
  exact Done.retV X_12 hEX hLK hRT (hb hBY d_prog_17_method_3_code_20) (by rw [e_12]; exact ⟨rfl, N_12, K__13, f_14, f_15, f_16⟩) (by decide) (by decide)
theorem d_prog_17_method_4_code_0 : decode prog_17_method_4_code 0 = .ok (.aload_n 0, 1) := by decide +kernel
theorem d_prog_17_method_4_code_1 : decode prog_17_method_4_code 1 = .ok (.getfield 7, 3) := by decide +kernel
theorem d_prog_17_method_4_code_4 : decode prog_17_method_4_code 4 = .ok (.lreturn, 1) := by decide +kernel
def Qrm_codePoints (Z : State) (a : Addr) (w : Int64) (h0 : Heap) (n0 : Nat) (v_ : Option Value) (h_ : Heap) (L_ : List Loc) : Prop := v_ = some (.long w) ∧ Fr n0 L_ ∧ h_ = h0
theorem ef_rm_codePoints (m : MethodId) (x0 : Addr) : entryFrame m #[(.ref x0)] 1 = mkF m 0 #[.val (.ref x0)] [] := by first | (simp [entryFrame, mkF, argsToLocals, Value.category]; done) | rfl
set_option maxRecDepth 65536 in
set_option maxHeartbeats 40000000 in
theorem rm_codePoints (l : Launch) (Z : State) (aZ : Array Value) (hw : ∀ d ∈ tables_1, d.before aZ Z = true) (ws : List Jvm.Cond) (a : Addr) (w : Int64) (h0 : Heap) (n0 : Nat) (Z0 : n0 ≤ h0.size) (F : Fld Z h0 a "com/example/sutf/sutf/codec/Tally" "codePoints" "J" (.long w)) :
    MetFree l (⟨"com/example/sutf/sutf/codec/Tally", "codePoints", "()J"⟩ : MethodName) (head1 (Jvm.Cond.code (⟨"com/example/sutf/sutf/codec/Tally", "codePoints", "()J"⟩ : MethodName) prog_17_method_4_code 1 (some .long) :: ws) ({ frames := 0, cells := 0, slots := 0, locals := 0 } : Room)) (fun a_ U_ => a_ = #[(.ref a)] ∧ Z.Warmed39 U_.vm ∧ U_.heap = h0) (fun _ _ _ _ _ => True) (fun _ U_ o_ U2_ => ∃ v_ L_, o_ = .returned v_ ∧ Qrm_codePoints Z a w h0 n0 v_ U2_.heap L_ ∧ FrameEnd U_ o_ U2_ L_ ({ frames := 0, cells := 0, slots := 0, locals := 0 } : Room).cells ({ frames := 0, cells := 0, slots := 0, locals := 0 } : Room).slots) := by
  refine MetFree.of_bodySF (plainFor_of_name pn_com_example_sutf_sutf_codec_Tally) hisR ?_
  intro p e s m args below meth cO s₁ Bd hml0 hP hK
  obtain ⟨rfl, hZW, hh⟩ := hP
  have hEX := Bd.exec
  have hBY := Bd.bytes
  have hMX : cO.maxLocals = 1 := hml0
  have hOW : s.vm.findClass "com/example/sutf/sutf/codec/Tally" = some m.cls := findClass_of_methodNamed Bd.named
  have hNM := (name_of_methodNamed Bd.named Bd.method).1
  have hLK := Bd.notSynchronized
  have hRT := Bd.returns
  have X0 : Stand p l e ({ frames := 0, cells := 0, slots := 0, locals := 0 } : Room) s m #[(.ref a)] below meth cO s₁ [] 0 0 := Stand.of_body Bd
  have e0 : s₁.heap = h0 := by rw [← hh, Bd.state]; rfl
  have N0 := Fr.nil n0
  have K0 : Keep h0 h0 [] := Keep.refl _ _
  show Done p e below s (Qrm_codePoints Z a w h0 n0) ({ frames := 0, cells := 0, slots := 0, locals := 0 } : Room).cells ({ frames := 0, cells := 0, slots := 0, locals := 0 } : Room).slots (s₁.setTop (entryFrame m #[(.ref a)] 1))
  refine Done.pre (fun t_ k_ => castTop (ef_rm_codePoints m a) k_) ?_
  show Done _ _ _ _ _ _ _ (s₁.setTop (mkF m 0 #[Rv a] []))
  have sg_1 : ∀ tt_, Steps p.tables e below (s₁.setTop (mkF m 1 #[Rv a] [(.ref a)])) tt_ → Steps p.tables e below (s₁.setTop (mkF m 0 #[Rv a] [])) tt_ := by
    intro tt_ kt_
    refine XS.aloadN X0.here hEX rfl (hb hBY d_prog_17_method_4_code_0) rfl rfl ?_
    exact kt_
  refine Done.pre sg_1 ?_
  obtain ⟨T_2, X_2, e_2, st_2⟩ := getF X0 hEX hZW hOW (host := "") (Or.inl (hw _ (List.mem_of_getElem? (i := 19) rfl))) Via.refl e0 F (g := (mkF m 1 #[Rv a] [(.ref a)])) rfl rfl (hb hBY d_prog_17_method_4_code_1)
  refine Done.pre st_2 ?_
  show Done _ _ _ _ _ _ _ (T_2.setTop (mkF m 4 #[Rv a] [(.long w)]))
  exact Done.retL X_2 hEX hLK hRT (hb hBY d_prog_17_method_4_code_4) (by rw [e_2]; exact ⟨rfl, N0, rfl⟩) (by decide) (by decide)
theorem d_prog_17_method_5_code_0 : decode prog_17_method_5_code 0 = .ok (.aload_n 0, 1) := by decide +kernel
theorem d_prog_17_method_5_code_1 : decode prog_17_method_5_code 1 = .ok (.getfield 17, 3) := by decide +kernel
theorem d_prog_17_method_5_code_4 : decode prog_17_method_5_code 4 = .ok (.lreturn, 1) := by decide +kernel
def Qrm_aboveFfff (Z : State) (a : Addr) (w : Int64) (h0 : Heap) (n0 : Nat) (v_ : Option Value) (h_ : Heap) (L_ : List Loc) : Prop := v_ = some (.long w) ∧ Fr n0 L_ ∧ h_ = h0
theorem ef_rm_aboveFfff (m : MethodId) (x0 : Addr) : entryFrame m #[(.ref x0)] 1 = mkF m 0 #[.val (.ref x0)] [] := by first | (simp [entryFrame, mkF, argsToLocals, Value.category]; done) | rfl
set_option maxRecDepth 65536 in
set_option maxHeartbeats 40000000 in
theorem rm_aboveFfff (l : Launch) (Z : State) (aZ : Array Value) (hw : ∀ d ∈ tables_1, d.before aZ Z = true) (ws : List Jvm.Cond) (a : Addr) (w : Int64) (h0 : Heap) (n0 : Nat) (Z0 : n0 ≤ h0.size) (F : Fld Z h0 a "com/example/sutf/sutf/codec/Tally" "aboveFfff" "J" (.long w)) :
    MetFree l (⟨"com/example/sutf/sutf/codec/Tally", "aboveFfff", "()J"⟩ : MethodName) (head1 (Jvm.Cond.code (⟨"com/example/sutf/sutf/codec/Tally", "aboveFfff", "()J"⟩ : MethodName) prog_17_method_5_code 1 (some .long) :: ws) ({ frames := 0, cells := 0, slots := 0, locals := 0 } : Room)) (fun a_ U_ => a_ = #[(.ref a)] ∧ Z.Warmed39 U_.vm ∧ U_.heap = h0) (fun _ _ _ _ _ => True) (fun _ U_ o_ U2_ => ∃ v_ L_, o_ = .returned v_ ∧ Qrm_aboveFfff Z a w h0 n0 v_ U2_.heap L_ ∧ FrameEnd U_ o_ U2_ L_ ({ frames := 0, cells := 0, slots := 0, locals := 0 } : Room).cells ({ frames := 0, cells := 0, slots := 0, locals := 0 } : Room).slots) := by
  refine MetFree.of_bodySF (plainFor_of_name pn_com_example_sutf_sutf_codec_Tally) hisR ?_
  intro p e s m args below meth cO s₁ Bd hml0 hP hK
  obtain ⟨rfl, hZW, hh⟩ := hP
  have hEX := Bd.exec
  have hBY := Bd.bytes
  have hMX : cO.maxLocals = 1 := hml0
  have hOW : s.vm.findClass "com/example/sutf/sutf/codec/Tally" = some m.cls := findClass_of_methodNamed Bd.named
  have hNM := (name_of_methodNamed Bd.named Bd.method).1
  have hLK := Bd.notSynchronized
  have hRT := Bd.returns
  have X0 : Stand p l e ({ frames := 0, cells := 0, slots := 0, locals := 0 } : Room) s m #[(.ref a)] below meth cO s₁ [] 0 0 := Stand.of_body Bd
  have e0 : s₁.heap = h0 := by rw [← hh, Bd.state]; rfl
  have N0 := Fr.nil n0
  have K0 : Keep h0 h0 [] := Keep.refl _ _
  show Done p e below s (Qrm_aboveFfff Z a w h0 n0) ({ frames := 0, cells := 0, slots := 0, locals := 0 } : Room).cells ({ frames := 0, cells := 0, slots := 0, locals := 0 } : Room).slots (s₁.setTop (entryFrame m #[(.ref a)] 1))
  refine Done.pre (fun t_ k_ => castTop (ef_rm_aboveFfff m a) k_) ?_
  show Done _ _ _ _ _ _ _ (s₁.setTop (mkF m 0 #[Rv a] []))
  have sg_1 : ∀ tt_, Steps p.tables e below (s₁.setTop (mkF m 1 #[Rv a] [(.ref a)])) tt_ → Steps p.tables e below (s₁.setTop (mkF m 0 #[Rv a] [])) tt_ := by
    intro tt_ kt_
    refine XS.aloadN X0.here hEX rfl (hb hBY d_prog_17_method_5_code_0) rfl rfl ?_
    exact kt_
  refine Done.pre sg_1 ?_
  obtain ⟨T_2, X_2, e_2, st_2⟩ := getF X0 hEX hZW hOW (host := "") (Or.inl (hw _ (List.mem_of_getElem? (i := 21) rfl))) Via.refl e0 F (g := (mkF m 1 #[Rv a] [(.ref a)])) rfl rfl (hb hBY d_prog_17_method_5_code_1)
  refine Done.pre st_2 ?_
  show Done _ _ _ _ _ _ _ (T_2.setTop (mkF m 4 #[Rv a] [(.long w)]))
  exact Done.retL X_2 hEX hLK hRT (hb hBY d_prog_17_method_5_code_4) (by rw [e_2]; exact ⟨rfl, N0, rfl⟩) (by decide) (by decide)
theorem d_method_2_code_0 : decode method_2_code 0 = .ok (.iload_n 0, 1) := by decide +kernel
theorem d_method_2_code_1 : decode method_2_code 1 = .ok (.ifCond .ne 8, 3) := by decide +kernel
theorem d_method_2_code_4 : decode method_2_code 4 = .ok (.iload_n 1, 1) := by decide +kernel
theorem d_method_2_code_5 : decode method_2_code 5 = .ok (.ldc 7, 2) := by decide +kernel
theorem d_method_2_code_7 : decode method_2_code 7 = .ok (.iand, 1) := by decide +kernel
theorem d_method_2_code_8 : decode method_2_code 8 = .ok (.ireturn, 1) := by decide +kernel
theorem d_method_2_code_9 : decode method_2_code 9 = .ok (.iload_n 0, 1) := by decide +kernel
theorem d_method_2_code_10 : decode method_2_code 10 = .ok (.iconst 1, 1) := by decide +kernel
theorem d_method_2_code_11 : decode method_2_code 11 = .ok (.if_icmp .ne 6, 3) := by decide +kernel
theorem d_method_2_code_14 : decode method_2_code 14 = .ok (.ldc 8, 2) := by decide +kernel
theorem d_method_2_code_16 : decode method_2_code 16 = .ok (.ireturn, 1) := by decide +kernel
theorem d_method_2_code_17 : decode method_2_code 17 = .ok (.iload_n 0, 1) := by decide +kernel
theorem d_method_2_code_18 : decode method_2_code 18 = .ok (.iconst 2, 1) := by decide +kernel
theorem d_method_2_code_19 : decode method_2_code 19 = .ok (.if_icmp .ne 6, 3) := by decide +kernel
theorem d_method_2_code_22 : decode method_2_code 22 = .ok (.ldc 9, 2) := by decide +kernel
theorem d_method_2_code_24 : decode method_2_code 24 = .ok (.ireturn, 1) := by decide +kernel
theorem d_method_2_code_25 : decode method_2_code 25 = .ok (.iload_n 0, 1) := by decide +kernel
theorem d_method_2_code_26 : decode method_2_code 26 = .ok (.iconst 3, 1) := by decide +kernel
theorem d_method_2_code_27 : decode method_2_code 27 = .ok (.if_icmp .ne 6, 3) := by decide +kernel
theorem d_method_2_code_30 : decode method_2_code 30 = .ok (.ldc 12, 2) := by decide +kernel
theorem d_method_2_code_32 : decode method_2_code 32 = .ok (.ireturn, 1) := by decide +kernel
theorem d_method_2_code_33 : decode method_2_code 33 = .ok (.iload_n 0, 1) := by decide +kernel
theorem d_method_2_code_34 : decode method_2_code 34 = .ok (.iconst 4, 1) := by decide +kernel
theorem d_method_2_code_35 : decode method_2_code 35 = .ok (.if_icmp .ne 5, 3) := by decide +kernel
theorem d_method_2_code_38 : decode method_2_code 38 = .ok (.iconst 0, 1) := by decide +kernel
theorem d_method_2_code_39 : decode method_2_code 39 = .ok (.ireturn, 1) := by decide +kernel
theorem d_method_2_code_40 : decode method_2_code 40 = .ok (.iload_n 0, 1) := by decide +kernel
theorem d_method_2_code_41 : decode method_2_code 41 = .ok (.iconst 5, 1) := by decide +kernel
theorem d_method_2_code_42 : decode method_2_code 42 = .ok (.if_icmp .ne 6, 3) := by decide +kernel
theorem d_method_2_code_45 : decode method_2_code 45 = .ok (.ldc 7, 2) := by decide +kernel
theorem d_method_2_code_47 : decode method_2_code 47 = .ok (.ireturn, 1) := by decide +kernel
theorem d_method_2_code_48 : decode method_2_code 48 = .ok (.iload_n 0, 1) := by decide +kernel
theorem d_method_2_code_49 : decode method_2_code 49 = .ok (.bipush 6, 2) := by decide +kernel
theorem d_method_2_code_51 : decode method_2_code 51 = .ok (.if_icmp .ne 8, 3) := by decide +kernel
theorem d_method_2_code_54 : decode method_2_code 54 = .ok (.iload_n 1, 1) := by decide +kernel
theorem d_method_2_code_55 : decode method_2_code 55 = .ok (.ldc 8, 2) := by decide +kernel
theorem d_method_2_code_57 : decode method_2_code 57 = .ok (.iand, 1) := by decide +kernel
theorem d_method_2_code_58 : decode method_2_code 58 = .ok (.ireturn, 1) := by decide +kernel
theorem d_method_2_code_59 : decode method_2_code 59 = .ok (.ldc 13, 2) := by decide +kernel
theorem d_method_2_code_61 : decode method_2_code 61 = .ok (.ireturn, 1) := by decide +kernel
def Qrm_pick (Z : State) (sel : Int32) (raw : Int32) (h0 : Heap) (n0 : Nat) (v_ : Option Value) (h_ : Heap) (L_ : List Loc) : Prop := v_ = some (.int (own_pick sel raw)) ∧ Fr n0 L_ ∧ h_ = h0
theorem ef_rm_pick (m : MethodId) (x0 : Int32) (x1 : Int32) : entryFrame m #[(.int x0), (.int x1)] 2 = mkF m 0 #[.val (.int x0), .val (.int x1)] [] := by first | (simp [entryFrame, mkF, argsToLocals, Value.category]; done) | rfl
theorem pn_com_example_sutf_sutf_codec_TallyAddPinLaw : plainName "com/example/sutf/sutf/codec/TallyAddPinLaw" = true := by first | (simp [plainName, overriddenIn]; done) | decide +kernel
set_option maxRecDepth 65536 in
set_option maxHeartbeats 40000000 in
theorem rm_pick (l : Launch) (Z : State) (aZ : Array Value) (hw : ∀ d ∈ tables_1, d.before aZ Z = true) (ws : List Jvm.Cond) (sel : Int32) (raw : Int32) (h0 : Heap) (n0 : Nat) (Z0 : n0 ≤ h0.size) :
    MetFree l (⟨"com/example/sutf/sutf/codec/TallyAddPinLaw", "pick", "(II)I"⟩ : MethodName) (head1 (Jvm.Cond.code (⟨"com/example/sutf/sutf/codec/TallyAddPinLaw", "pick", "(II)I"⟩ : MethodName) method_2_code 2 (some .int) :: ws) ({ frames := 0, cells := 0, slots := 0, locals := 0 } : Room)) (fun a_ U_ => a_ = #[(.int sel), (.int raw)] ∧ Z.Warmed39 U_.vm ∧ U_.heap = h0) (fun _ _ _ _ _ => True) (fun _ U_ o_ U2_ => ∃ v_ L_, o_ = .returned v_ ∧ Qrm_pick Z sel raw h0 n0 v_ U2_.heap L_ ∧ FrameEnd U_ o_ U2_ L_ ({ frames := 0, cells := 0, slots := 0, locals := 0 } : Room).cells ({ frames := 0, cells := 0, slots := 0, locals := 0 } : Room).slots) := by
  refine MetFree.of_bodySF (plainFor_of_name pn_com_example_sutf_sutf_codec_TallyAddPinLaw) hisR ?_
  intro p e s m args below meth cO s₁ Bd hml0 hP hK
  obtain ⟨rfl, hZW, hh⟩ := hP
  have hEX := Bd.exec
  have hBY := Bd.bytes
  have hMX : cO.maxLocals = 2 := hml0
  have hOW : s.vm.findClass "com/example/sutf/sutf/codec/TallyAddPinLaw" = some m.cls := findClass_of_methodNamed Bd.named
  have hNM := (name_of_methodNamed Bd.named Bd.method).1
  have hLK := Bd.notSynchronized
  have hRT := Bd.returns
  have X0 : Stand p l e ({ frames := 0, cells := 0, slots := 0, locals := 0 } : Room) s m #[(.int sel), (.int raw)] below meth cO s₁ [] 0 0 := Stand.of_body Bd
  have e0 : s₁.heap = h0 := by rw [← hh, Bd.state]; rfl
  have N0 := Fr.nil n0
  have K0 : Keep h0 h0 [] := Keep.refl _ _
  show Done p e below s (Qrm_pick Z sel raw h0 n0) ({ frames := 0, cells := 0, slots := 0, locals := 0 } : Room).cells ({ frames := 0, cells := 0, slots := 0, locals := 0 } : Room).slots (s₁.setTop (entryFrame m #[(.int sel), (.int raw)] 2))
  refine Done.pre (fun t_ k_ => castTop (ef_rm_pick m sel raw) k_) ?_
  show Done _ _ _ _ _ _ _ (s₁.setTop (mkF m 0 #[Iv sel, Iv raw] []))
  have sg_1 : ∀ tt_, Steps p.tables e below (s₁.setTop (mkF m 1 #[Iv sel, Iv raw] [(.int sel)])) tt_ → Steps p.tables e below (s₁.setTop (mkF m 0 #[Iv sel, Iv raw] [])) tt_ := by
    intro tt_ kt_
    refine XS.iloadN X0.here hEX rfl (hb hBY d_method_2_code_0) rfl ?_
    exact kt_
  refine Done.pre sg_1 ?_
  by_cases hc1 : sel = (0 : Int32)
  · skip
    have sg_2 : ∀ tt_, Steps p.tables e below (s₁.setTop (mkF m 8 #[Iv sel, Iv raw] [(.int (raw &&& (2147483647 : Int32)))])) tt_ → Steps p.tables e below (s₁.setTop (mkF m 1 #[Iv sel, Iv raw] [(.int sel)])) tt_ := by
      intro tt_ kt_
      refine XS.ifNo X0.here hEX rfl (hb hBY d_method_2_code_1) rfl ((if0 _ _).trans (teq hc1).2) ?_
      show Steps p.tables e below (s₁.setTop (mkF m 4 #[Iv sel, Iv raw] [])) tt_
      refine XS.iloadN X0.here hEX rfl (hb hBY d_method_2_code_4) rfl ?_
      show Steps p.tables e below (s₁.setTop (mkF m 5 #[Iv sel, Iv raw] [(.int raw)])) tt_
      refine X0.ldcInt hEX hOW (mvT hZW (hw _ (List.mem_of_getElem? (i := 4) rfl))) (g := (mkF m 5 #[Iv sel, Iv raw] [(.int raw)])) rfl (hb hBY d_method_2_code_5) _ ?_
      show Steps p.tables e below (s₁.setTop (mkF m 7 #[Iv sel, Iv raw] [(.int (2147483647 : Int32)), (.int raw)])) tt_
      refine XS.iand X0.here hEX rfl (hb hBY d_method_2_code_7) rfl ?_
      exact kt_
    refine Done.pre sg_2 ?_
    exact Done.retI X0 hEX hLK hRT (hb hBY d_method_2_code_8) (by rw [e0]; exact ⟨(by rw [own_pick, if_pos hc1]), N0, rfl⟩) (by decide) (by decide)
  · skip
    have sg_3 : ∀ tt_, Steps p.tables e below (s₁.setTop (mkF m 11 #[Iv sel, Iv raw] [(.int (1 : Int32)), (.int sel)])) tt_ → Steps p.tables e below (s₁.setTop (mkF m 1 #[Iv sel, Iv raw] [(.int sel)])) tt_ := by
      intro tt_ kt_
      refine XS.ifYes X0.here hEX rfl (pc0 := 1) (pc' := 9) rfl (hb hBY d_method_2_code_1) rfl ((if0 _ _).trans (feq hc1).2) (by decide) (by decide) ?_
      show Steps p.tables e below (s₁.setTop (mkF m 9 #[Iv sel, Iv raw] [])) tt_
      refine XS.iloadN X0.here hEX rfl (hb hBY d_method_2_code_9) rfl ?_
      show Steps p.tables e below (s₁.setTop (mkF m 10 #[Iv sel, Iv raw] [(.int sel)])) tt_
      refine XS.iconst X0.here hEX rfl (hb hBY d_method_2_code_10) ?_
      exact kt_
    refine Done.pre sg_3 ?_
    by_cases hc11 : sel = (1 : Int32)
    · skip
      have sg_4 : ∀ tt_, Steps p.tables e below (s₁.setTop (mkF m 16 #[Iv sel, Iv raw] [(.int (65535 : Int32))])) tt_ → Steps p.tables e below (s₁.setTop (mkF m 11 #[Iv sel, Iv raw] [(.int (1 : Int32)), (.int sel)])) tt_ := by
        intro tt_ kt_
        refine XS.icmpNo X0.here hEX rfl (hb hBY d_method_2_code_11) rfl (teq hc11).2 ?_
        show Steps p.tables e below (s₁.setTop (mkF m 14 #[Iv sel, Iv raw] [])) tt_
        refine X0.ldcInt hEX hOW (mvT hZW (hw _ (List.mem_of_getElem? (i := 46) rfl))) (g := (mkF m 14 #[Iv sel, Iv raw] [])) rfl (hb hBY d_method_2_code_14) _ ?_
        exact kt_
      refine Done.pre sg_4 ?_
      exact Done.retI X0 hEX hLK hRT (hb hBY d_method_2_code_16) (by rw [e0]; exact ⟨(by rw [own_pick, if_neg hc1, if_pos hc11]), N0, rfl⟩) (by decide) (by decide)
    · skip
      have sg_5 : ∀ tt_, Steps p.tables e below (s₁.setTop (mkF m 19 #[Iv sel, Iv raw] [(.int (2 : Int32)), (.int sel)])) tt_ → Steps p.tables e below (s₁.setTop (mkF m 11 #[Iv sel, Iv raw] [(.int (1 : Int32)), (.int sel)])) tt_ := by
        intro tt_ kt_
        refine XS.icmpYes X0.here hEX rfl (pc0 := 11) (pc' := 17) rfl (hb hBY d_method_2_code_11) rfl (feq hc11).2 (by decide) (by decide) ?_
        show Steps p.tables e below (s₁.setTop (mkF m 17 #[Iv sel, Iv raw] [])) tt_
        refine XS.iloadN X0.here hEX rfl (hb hBY d_method_2_code_17) rfl ?_
        show Steps p.tables e below (s₁.setTop (mkF m 18 #[Iv sel, Iv raw] [(.int sel)])) tt_
        refine XS.iconst X0.here hEX rfl (hb hBY d_method_2_code_18) ?_
        exact kt_
      refine Done.pre sg_5 ?_
      by_cases hc19 : sel = (2 : Int32)
      · skip
        have sg_6 : ∀ tt_, Steps p.tables e below (s₁.setTop (mkF m 24 #[Iv sel, Iv raw] [(.int (65536 : Int32))])) tt_ → Steps p.tables e below (s₁.setTop (mkF m 19 #[Iv sel, Iv raw] [(.int (2 : Int32)), (.int sel)])) tt_ := by
          intro tt_ kt_
          refine XS.icmpNo X0.here hEX rfl (hb hBY d_method_2_code_19) rfl (teq hc19).2 ?_
          show Steps p.tables e below (s₁.setTop (mkF m 22 #[Iv sel, Iv raw] [])) tt_
          refine X0.ldcInt hEX hOW (mvT hZW (hw _ (List.mem_of_getElem? (i := 48) rfl))) (g := (mkF m 22 #[Iv sel, Iv raw] [])) rfl (hb hBY d_method_2_code_22) _ ?_
          exact kt_
        refine Done.pre sg_6 ?_
        exact Done.retI X0 hEX hLK hRT (hb hBY d_method_2_code_24) (by rw [e0]; exact ⟨(by rw [own_pick, if_neg hc1, if_neg hc11, if_pos hc19]), N0, rfl⟩) (by decide) (by decide)
      · skip
        have sg_7 : ∀ tt_, Steps p.tables e below (s₁.setTop (mkF m 27 #[Iv sel, Iv raw] [(.int (3 : Int32)), (.int sel)])) tt_ → Steps p.tables e below (s₁.setTop (mkF m 19 #[Iv sel, Iv raw] [(.int (2 : Int32)), (.int sel)])) tt_ := by
          intro tt_ kt_
          refine XS.icmpYes X0.here hEX rfl (pc0 := 19) (pc' := 25) rfl (hb hBY d_method_2_code_19) rfl (feq hc19).2 (by decide) (by decide) ?_
          show Steps p.tables e below (s₁.setTop (mkF m 25 #[Iv sel, Iv raw] [])) tt_
          refine XS.iloadN X0.here hEX rfl (hb hBY d_method_2_code_25) rfl ?_
          show Steps p.tables e below (s₁.setTop (mkF m 26 #[Iv sel, Iv raw] [(.int sel)])) tt_
          refine XS.iconst X0.here hEX rfl (hb hBY d_method_2_code_26) ?_
          exact kt_
        refine Done.pre sg_7 ?_
        by_cases hc27 : sel = (3 : Int32)
        · skip
          have sg_8 : ∀ tt_, Steps p.tables e below (s₁.setTop (mkF m 32 #[Iv sel, Iv raw] [(.int (-2147483648 : Int32))])) tt_ → Steps p.tables e below (s₁.setTop (mkF m 27 #[Iv sel, Iv raw] [(.int (3 : Int32)), (.int sel)])) tt_ := by
            intro tt_ kt_
            refine XS.icmpNo X0.here hEX rfl (hb hBY d_method_2_code_27) rfl (teq hc27).2 ?_
            show Steps p.tables e below (s₁.setTop (mkF m 30 #[Iv sel, Iv raw] [])) tt_
            refine X0.ldcInt hEX hOW (mvT hZW (hw _ (List.mem_of_getElem? (i := 33) rfl))) (g := (mkF m 30 #[Iv sel, Iv raw] [])) rfl (hb hBY d_method_2_code_30) _ ?_
            exact kt_
          refine Done.pre sg_8 ?_
          exact Done.retI X0 hEX hLK hRT (hb hBY d_method_2_code_32) (by rw [e0]; exact ⟨(by rw [own_pick, if_neg hc1, if_neg hc11, if_neg hc19, if_pos hc27]), N0, rfl⟩) (by decide) (by decide)
        · skip
          have sg_9 : ∀ tt_, Steps p.tables e below (s₁.setTop (mkF m 35 #[Iv sel, Iv raw] [(.int (4 : Int32)), (.int sel)])) tt_ → Steps p.tables e below (s₁.setTop (mkF m 27 #[Iv sel, Iv raw] [(.int (3 : Int32)), (.int sel)])) tt_ := by
            intro tt_ kt_
            refine XS.icmpYes X0.here hEX rfl (pc0 := 27) (pc' := 33) rfl (hb hBY d_method_2_code_27) rfl (feq hc27).2 (by decide) (by decide) ?_
            show Steps p.tables e below (s₁.setTop (mkF m 33 #[Iv sel, Iv raw] [])) tt_
            refine XS.iloadN X0.here hEX rfl (hb hBY d_method_2_code_33) rfl ?_
            show Steps p.tables e below (s₁.setTop (mkF m 34 #[Iv sel, Iv raw] [(.int sel)])) tt_
            refine XS.iconst X0.here hEX rfl (hb hBY d_method_2_code_34) ?_
            exact kt_
          refine Done.pre sg_9 ?_
          by_cases hc35 : sel = (4 : Int32)
          · skip
            have sg_10 : ∀ tt_, Steps p.tables e below (s₁.setTop (mkF m 39 #[Iv sel, Iv raw] [(.int (0 : Int32))])) tt_ → Steps p.tables e below (s₁.setTop (mkF m 35 #[Iv sel, Iv raw] [(.int (4 : Int32)), (.int sel)])) tt_ := by
              intro tt_ kt_
              refine XS.icmpNo X0.here hEX rfl (hb hBY d_method_2_code_35) rfl (teq hc35).2 ?_
              show Steps p.tables e below (s₁.setTop (mkF m 38 #[Iv sel, Iv raw] [])) tt_
              refine XS.iconst X0.here hEX rfl (hb hBY d_method_2_code_38) ?_
              exact kt_
            refine Done.pre sg_10 ?_
            exact Done.retI X0 hEX hLK hRT (hb hBY d_method_2_code_39) (by rw [e0]; exact ⟨(by rw [own_pick, if_neg hc1, if_neg hc11, if_neg hc19, if_neg hc27, if_pos hc35]), N0, rfl⟩) (by decide) (by decide)
          · skip
            have sg_11 : ∀ tt_, Steps p.tables e below (s₁.setTop (mkF m 42 #[Iv sel, Iv raw] [(.int (5 : Int32)), (.int sel)])) tt_ → Steps p.tables e below (s₁.setTop (mkF m 35 #[Iv sel, Iv raw] [(.int (4 : Int32)), (.int sel)])) tt_ := by
              intro tt_ kt_
              refine XS.icmpYes X0.here hEX rfl (pc0 := 35) (pc' := 40) rfl (hb hBY d_method_2_code_35) rfl (feq hc35).2 (by decide) (by decide) ?_
              show Steps p.tables e below (s₁.setTop (mkF m 40 #[Iv sel, Iv raw] [])) tt_
              refine XS.iloadN X0.here hEX rfl (hb hBY d_method_2_code_40) rfl ?_
              show Steps p.tables e below (s₁.setTop (mkF m 41 #[Iv sel, Iv raw] [(.int sel)])) tt_
              refine XS.iconst X0.here hEX rfl (hb hBY d_method_2_code_41) ?_
              exact kt_
            refine Done.pre sg_11 ?_
            by_cases hc42 : sel = (5 : Int32)
            · skip
              have sg_12 : ∀ tt_, Steps p.tables e below (s₁.setTop (mkF m 47 #[Iv sel, Iv raw] [(.int (2147483647 : Int32))])) tt_ → Steps p.tables e below (s₁.setTop (mkF m 42 #[Iv sel, Iv raw] [(.int (5 : Int32)), (.int sel)])) tt_ := by
                intro tt_ kt_
                refine XS.icmpNo X0.here hEX rfl (hb hBY d_method_2_code_42) rfl (teq hc42).2 ?_
                show Steps p.tables e below (s₁.setTop (mkF m 45 #[Iv sel, Iv raw] [])) tt_
                refine X0.ldcInt hEX hOW (mvT hZW (hw _ (List.mem_of_getElem? (i := 4) rfl))) (g := (mkF m 45 #[Iv sel, Iv raw] [])) rfl (hb hBY d_method_2_code_45) _ ?_
                exact kt_
              refine Done.pre sg_12 ?_
              exact Done.retI X0 hEX hLK hRT (hb hBY d_method_2_code_47) (by rw [e0]; exact ⟨(by rw [own_pick, if_neg hc1, if_neg hc11, if_neg hc19, if_neg hc27, if_neg hc35, if_pos hc42]), N0, rfl⟩) (by decide) (by decide)
            · skip
              have sg_13 : ∀ tt_, Steps p.tables e below (s₁.setTop (mkF m 51 #[Iv sel, Iv raw] [(.int (6 : Int32)), (.int sel)])) tt_ → Steps p.tables e below (s₁.setTop (mkF m 42 #[Iv sel, Iv raw] [(.int (5 : Int32)), (.int sel)])) tt_ := by
                intro tt_ kt_
                refine XS.icmpYes X0.here hEX rfl (pc0 := 42) (pc' := 48) rfl (hb hBY d_method_2_code_42) rfl (feq hc42).2 (by decide) (by decide) ?_
                show Steps p.tables e below (s₁.setTop (mkF m 48 #[Iv sel, Iv raw] [])) tt_
                refine XS.iloadN X0.here hEX rfl (hb hBY d_method_2_code_48) rfl ?_
                show Steps p.tables e below (s₁.setTop (mkF m 49 #[Iv sel, Iv raw] [(.int sel)])) tt_
                refine XS.bipush X0.here hEX rfl (hb hBY d_method_2_code_49) ?_
                exact kt_
              refine Done.pre sg_13 ?_
              by_cases hc51 : sel = (6 : Int32)
              · skip
                have sg_14 : ∀ tt_, Steps p.tables e below (s₁.setTop (mkF m 58 #[Iv sel, Iv raw] [(.int (raw &&& (65535 : Int32)))])) tt_ → Steps p.tables e below (s₁.setTop (mkF m 51 #[Iv sel, Iv raw] [(.int (6 : Int32)), (.int sel)])) tt_ := by
                  intro tt_ kt_
                  refine XS.icmpNo X0.here hEX rfl (hb hBY d_method_2_code_51) rfl (teq hc51).2 ?_
                  show Steps p.tables e below (s₁.setTop (mkF m 54 #[Iv sel, Iv raw] [])) tt_
                  refine XS.iloadN X0.here hEX rfl (hb hBY d_method_2_code_54) rfl ?_
                  show Steps p.tables e below (s₁.setTop (mkF m 55 #[Iv sel, Iv raw] [(.int raw)])) tt_
                  refine X0.ldcInt hEX hOW (mvT hZW (hw _ (List.mem_of_getElem? (i := 46) rfl))) (g := (mkF m 55 #[Iv sel, Iv raw] [(.int raw)])) rfl (hb hBY d_method_2_code_55) _ ?_
                  show Steps p.tables e below (s₁.setTop (mkF m 57 #[Iv sel, Iv raw] [(.int (65535 : Int32)), (.int raw)])) tt_
                  refine XS.iand X0.here hEX rfl (hb hBY d_method_2_code_57) rfl ?_
                  exact kt_
                refine Done.pre sg_14 ?_
                exact Done.retI X0 hEX hLK hRT (hb hBY d_method_2_code_58) (by rw [e0]; exact ⟨(by rw [own_pick, if_neg hc1, if_neg hc11, if_neg hc19, if_neg hc27, if_neg hc35, if_neg hc42, if_pos hc51]), N0, rfl⟩) (by decide) (by decide)
              · skip
                have sg_15 : ∀ tt_, Steps p.tables e below (s₁.setTop (mkF m 61 #[Iv sel, Iv raw] [(.int (1114111 : Int32))])) tt_ → Steps p.tables e below (s₁.setTop (mkF m 51 #[Iv sel, Iv raw] [(.int (6 : Int32)), (.int sel)])) tt_ := by
                  intro tt_ kt_
                  refine XS.icmpYes X0.here hEX rfl (pc0 := 51) (pc' := 59) rfl (hb hBY d_method_2_code_51) rfl (feq hc51).2 (by decide) (by decide) ?_
                  show Steps p.tables e below (s₁.setTop (mkF m 59 #[Iv sel, Iv raw] [])) tt_
                  refine X0.ldcInt hEX hOW (mvT hZW (hw _ (List.mem_of_getElem? (i := 47) rfl))) (g := (mkF m 59 #[Iv sel, Iv raw] [])) rfl (hb hBY d_method_2_code_59) _ ?_
                  exact kt_
                refine Done.pre sg_15 ?_
                exact Done.retI X0 hEX hLK hRT (hb hBY d_method_2_code_61) (by rw [e0]; exact ⟨(by rw [own_pick, if_neg hc1, if_neg hc11, if_neg hc19, if_neg hc27, if_neg hc35, if_neg hc42, if_neg hc51]), N0, rfl⟩) (by decide) (by decide)
theorem d_method_3_code_0 : decode method_3_code 0 = .ok (.iload_n 0, 1) := by decide +kernel
theorem d_method_3_code_1 : decode method_3_code 1 = .ok (.ldc 12, 2) := by decide +kernel
theorem d_method_3_code_3 : decode method_3_code 3 = .ok (.if_icmp .ne 5, 3) := by decide +kernel
theorem d_method_3_code_6 : decode method_3_code 6 = .ok (.lconst 1, 1) := by decide +kernel
theorem d_method_3_code_7 : decode method_3_code 7 = .ok (.lreturn, 1) := by decide +kernel
theorem d_method_3_code_8 : decode method_3_code 8 = .ok (.iload_n 0, 1) := by decide +kernel
theorem d_method_3_code_9 : decode method_3_code 9 = .ok (.i2l, 1) := by decide +kernel
theorem d_method_3_code_10 : decode method_3_code 10 = .ok (.lstore_n 1, 1) := by decide +kernel
theorem d_method_3_code_11 : decode method_3_code 11 = .ok (.lload_n 1, 1) := by decide +kernel
theorem d_method_3_code_12 : decode method_3_code 12 = .ok (.ldc2_w 14, 3) := by decide +kernel
theorem d_method_3_code_15 : decode method_3_code 15 = .ok (.lcmp, 1) := by decide +kernel
theorem d_method_3_code_16 : decode method_3_code 16 = .ok (.ifCond .lt 7, 3) := by decide +kernel
theorem d_method_3_code_23 : decode method_3_code 23 = .ok (.lconst 0, 1) := by decide +kernel
theorem d_method_3_code_24 : decode method_3_code 24 = .ok (.lreturn, 1) := by decide +kernel
theorem d_method_3_code_19 : decode method_3_code 19 = .ok (.lconst 1, 1) := by decide +kernel
theorem d_method_3_code_20 : decode method_3_code 20 = .ok (.goto 4, 3) := by decide +kernel
def Qrm_ac (Z : State) (cp : Int32) (h0 : Heap) (n0 : Nat) (v_ : Option Value) (h_ : Heap) (L_ : List Loc) : Prop := v_ = some (.long (own_ac cp)) ∧ Fr n0 L_ ∧ h_ = h0
theorem ef_rm_ac (m : MethodId) (x0 : Int32) : entryFrame m #[(.int x0)] 3 = mkF m 0 #[.val (.int x0), .unset, .unset] [] := by first | (simp [entryFrame, mkF, argsToLocals, Value.category]; done) | rfl
set_option maxRecDepth 65536 in
set_option maxHeartbeats 40000000 in
theorem rm_ac (l : Launch) (Z : State) (aZ : Array Value) (hw : ∀ d ∈ tables_1, d.before aZ Z = true) (ws : List Jvm.Cond) (cp : Int32) (h0 : Heap) (n0 : Nat) (Z0 : n0 ≤ h0.size) :
    MetFree l (⟨"com/example/sutf/sutf/codec/TallyAddPinLaw", "aboveCount", "(I)J"⟩ : MethodName) (head1 (Jvm.Cond.code (⟨"com/example/sutf/sutf/codec/TallyAddPinLaw", "aboveCount", "(I)J"⟩ : MethodName) method_3_code 3 (some .long) :: ws) ({ frames := 0, cells := 0, slots := 0, locals := 0 } : Room)) (fun a_ U_ => a_ = #[(.int cp)] ∧ Z.Warmed39 U_.vm ∧ U_.heap = h0) (fun _ _ _ _ _ => True) (fun _ U_ o_ U2_ => ∃ v_ L_, o_ = .returned v_ ∧ Qrm_ac Z cp h0 n0 v_ U2_.heap L_ ∧ FrameEnd U_ o_ U2_ L_ ({ frames := 0, cells := 0, slots := 0, locals := 0 } : Room).cells ({ frames := 0, cells := 0, slots := 0, locals := 0 } : Room).slots) := by
  refine MetFree.of_bodySF (plainFor_of_name pn_com_example_sutf_sutf_codec_TallyAddPinLaw) hisR ?_
  intro p e s m args below meth cO s₁ Bd hml0 hP hK
  obtain ⟨rfl, hZW, hh⟩ := hP
  have hEX := Bd.exec
  have hBY := Bd.bytes
  have hMX : cO.maxLocals = 3 := hml0
  have hOW : s.vm.findClass "com/example/sutf/sutf/codec/TallyAddPinLaw" = some m.cls := findClass_of_methodNamed Bd.named
  have hNM := (name_of_methodNamed Bd.named Bd.method).1
  have hLK := Bd.notSynchronized
  have hRT := Bd.returns
  have X0 : Stand p l e ({ frames := 0, cells := 0, slots := 0, locals := 0 } : Room) s m #[(.int cp)] below meth cO s₁ [] 0 0 := Stand.of_body Bd
  have e0 : s₁.heap = h0 := by rw [← hh, Bd.state]; rfl
  have N0 := Fr.nil n0
  have K0 : Keep h0 h0 [] := Keep.refl _ _
  show Done p e below s (Qrm_ac Z cp h0 n0) ({ frames := 0, cells := 0, slots := 0, locals := 0 } : Room).cells ({ frames := 0, cells := 0, slots := 0, locals := 0 } : Room).slots (s₁.setTop (entryFrame m #[(.int cp)] 3))
  refine Done.pre (fun t_ k_ => castTop (ef_rm_ac m cp) k_) ?_
  show Done _ _ _ _ _ _ _ (s₁.setTop (mkF m 0 #[Iv cp, Us, Us] []))
  have sg_1 : ∀ tt_, Steps p.tables e below (s₁.setTop (mkF m 3 #[Iv cp, Us, Us] [(.int (-2147483648 : Int32)), (.int cp)])) tt_ → Steps p.tables e below (s₁.setTop (mkF m 0 #[Iv cp, Us, Us] [])) tt_ := by
    intro tt_ kt_
    refine XS.iloadN X0.here hEX rfl (hb hBY d_method_3_code_0) rfl ?_
    show Steps p.tables e below (s₁.setTop (mkF m 1 #[Iv cp, Us, Us] [(.int cp)])) tt_
    refine X0.ldcInt hEX hOW (mvT hZW (hw _ (List.mem_of_getElem? (i := 33) rfl))) (g := (mkF m 1 #[Iv cp, Us, Us] [(.int cp)])) rfl (hb hBY d_method_3_code_1) _ ?_
    exact kt_
  refine Done.pre sg_1 ?_
  by_cases hc3 : cp = (-2147483648 : Int32)
  · skip
    have sg_2 : ∀ tt_, Steps p.tables e below (s₁.setTop (mkF m 7 #[Iv cp, Us, Us] [(.long (1 : Int64))])) tt_ → Steps p.tables e below (s₁.setTop (mkF m 3 #[Iv cp, Us, Us] [(.int (-2147483648 : Int32)), (.int cp)])) tt_ := by
      intro tt_ kt_
      refine XS.icmpNo X0.here hEX rfl (hb hBY d_method_3_code_3) rfl (teq hc3).2 ?_
      show Steps p.tables e below (s₁.setTop (mkF m 6 #[Iv cp, Us, Us] [])) tt_
      refine XS.lconst X0.here hEX rfl (hb hBY d_method_3_code_6) ?_
      exact kt_
    refine Done.pre sg_2 ?_
    exact Done.retL X0 hEX hLK hRT (hb hBY d_method_3_code_7) (by rw [e0]; exact ⟨(by rw [own_ac, if_pos hc3]), N0, rfl⟩) (by decide) (by decide)
  · skip
    have sg_3 : ∀ tt_, Steps p.tables e below (s₁.setTop (mkF m 16 #[Iv cp, Lv (cp.toInt64), Zs] [(.int (lcmpW (cp.toInt64) (65536 : Int64)))])) tt_ → Steps p.tables e below (s₁.setTop (mkF m 3 #[Iv cp, Us, Us] [(.int (-2147483648 : Int32)), (.int cp)])) tt_ := by
      intro tt_ kt_
      refine XS.icmpYes X0.here hEX rfl (pc0 := 3) (pc' := 8) rfl (hb hBY d_method_3_code_3) rfl (feq hc3).2 (by decide) (by decide) ?_
      show Steps p.tables e below (s₁.setTop (mkF m 8 #[Iv cp, Us, Us] [])) tt_
      refine XS.iloadN X0.here hEX rfl (hb hBY d_method_3_code_8) rfl ?_
      show Steps p.tables e below (s₁.setTop (mkF m 9 #[Iv cp, Us, Us] [(.int cp)])) tt_
      refine XS.i2l X0.here hEX rfl (hb hBY d_method_3_code_9) rfl ?_
      show Steps p.tables e below (s₁.setTop (mkF m 10 #[Iv cp, Us, Us] [(.long (cp.toInt64))])) tt_
      refine XS.lstoreN X0.here hEX rfl (hb hBY d_method_3_code_10) rfl (l' := #[Iv cp, Lv (cp.toInt64), Zs]) rfl ?_
      show Steps p.tables e below (s₁.setTop (mkF m 11 #[Iv cp, Lv (cp.toInt64), Zs] [])) tt_
      refine XS.lloadN X0.here hEX rfl (hb hBY d_method_3_code_11) rfl ?_
      show Steps p.tables e below (s₁.setTop (mkF m 12 #[Iv cp, Lv (cp.toInt64), Zs] [(.long (cp.toInt64))])) tt_
      refine X0.ldc2Long hEX hOW (mvT hZW (hw _ (List.mem_of_getElem? (i := 34) rfl))) (g := (mkF m 12 #[Iv cp, Lv (cp.toInt64), Zs] [(.long (cp.toInt64))])) rfl (hb hBY d_method_3_code_12) _ ?_
      show Steps p.tables e below (s₁.setTop (mkF m 15 #[Iv cp, Lv (cp.toInt64), Zs] [(.long (65536 : Int64)), (.long (cp.toInt64))])) tt_
      refine XS.lcmp X0.here hEX rfl (hb hBY d_method_3_code_15) rfl ?_
      exact kt_
    refine Done.pre sg_3 ?_
    by_cases hc16 : (cp.toInt64) < (65536 : Int64)
    · skip
      have sg_4 : ∀ tt_, Steps p.tables e below (s₁.setTop (mkF m 24 #[Iv cp, Lv (cp.toInt64), Zs] [(.long (0 : Int64))])) tt_ → Steps p.tables e below (s₁.setTop (mkF m 16 #[Iv cp, Lv (cp.toInt64), Zs] [(.int (lcmpW (cp.toInt64) (65536 : Int64)))])) tt_ := by
        intro tt_ kt_
        refine XS.ifYes X0.here hEX rfl (pc0 := 16) (pc' := 23) rfl (hb hBY d_method_3_code_16) rfl ((if0 _ _).trans (tlt ((lw_lt _ _).mpr hc16)).1) (by decide) (by decide) ?_
        show Steps p.tables e below (s₁.setTop (mkF m 23 #[Iv cp, Lv (cp.toInt64), Zs] [])) tt_
        refine XS.lconst X0.here hEX rfl (hb hBY d_method_3_code_23) ?_
        exact kt_
      refine Done.pre sg_4 ?_
      exact Done.retL X0 hEX hLK hRT (hb hBY d_method_3_code_24) (by rw [e0]; exact ⟨(by rw [own_ac, if_neg hc3, if_pos hc16]), N0, rfl⟩) (by decide) (by decide)
    · skip
      have sg_5 : ∀ tt_, Steps p.tables e below (s₁.setTop (mkF m 24 #[Iv cp, Lv (cp.toInt64), Zs] [(.long (1 : Int64))])) tt_ → Steps p.tables e below (s₁.setTop (mkF m 16 #[Iv cp, Lv (cp.toInt64), Zs] [(.int (lcmpW (cp.toInt64) (65536 : Int64)))])) tt_ := by
        intro tt_ kt_
        refine XS.ifNo X0.here hEX rfl (hb hBY d_method_3_code_16) rfl ((if0 _ _).trans (flt (fun q => hc16 ((lw_lt _ _).mp q))).1) ?_
        show Steps p.tables e below (s₁.setTop (mkF m 19 #[Iv cp, Lv (cp.toInt64), Zs] [])) tt_
        refine XS.lconst X0.here hEX rfl (hb hBY d_method_3_code_19) ?_
        show Steps p.tables e below (s₁.setTop (mkF m 20 #[Iv cp, Lv (cp.toInt64), Zs] [(.long (1 : Int64))])) tt_
        refine XS.goto X0.here hEX rfl (pc0 := 20) (pc' := 24) rfl (hb hBY d_method_3_code_20) (by decide) (by decide) ?_
        exact kt_
      refine Done.pre sg_5 ?_
      exact Done.retL X0 hEX hLK hRT (hb hBY d_method_3_code_24) (by rw [e0]; exact ⟨(by rw [own_ac, if_neg hc3, if_neg hc16]), N0, rfl⟩) (by decide) (by decide)
theorem pd__II_I_4 : parseMethodDescriptor "(II)I" = some ⟨[.int, .int], some .int⟩ := by decide +kernel
theorem pd___V_1 : parseMethodDescriptor "()V" = some ⟨[], none⟩ := by decide +kernel
theorem pd__JJ_V_5 : parseMethodDescriptor "(JJ)V" = some ⟨[.long, .long], none⟩ := by decide +kernel
theorem pd__I_V_3 : parseMethodDescriptor "(I)V" = some ⟨[.int], none⟩ := by decide +kernel
theorem pd__I_J_2 : parseMethodDescriptor "(I)J" = some ⟨[.int], some .long⟩ := by decide +kernel
theorem pd___J_0 : parseMethodDescriptor "()J" = some ⟨[], some .long⟩ := by decide +kernel
def Qrm0 (Z : State) (q1 : Int64) (q2 : Int64) (p3 : Int32) (p4 : Int32) (p5 : Int32) (h0 : Heap) (n0 : Nat) (v_ : Option Value) (h_ : Heap) (L_ : List Loc) : Prop := v_ = some (.int (1 : Int32)) ∧ Fr n0 L_ ∧ Keep h0 h_ []
theorem ef_rm0 (m : MethodId) (x0 : Int64) (x1 : Int64) (x2 : Int32) (x3 : Int32) (x4 : Int32) : entryFrame m #[(.long x0), (.long x1), (.int x2), (.int x3), (.int x4)] maxLocals = mkF m 0 #[.val (.long x0), .second, .val (.long x1), .second, .val (.int x2), .val (.int x3), .val (.int x4), .unset, .unset, .unset, .unset, .unset, .unset, .unset] [] := by first | (simp [entryFrame, mkF, argsToLocals, Value.category, maxLocals]; done) | rfl
set_option maxRecDepth 65536 in
set_option maxHeartbeats 40000000 in
theorem rm0 (l : Launch) (Z : State) (aZ : Array Value) (hw : ∀ d ∈ tables_1, d.before aZ Z = true) (ws : List Jvm.Cond) (q1 : Int64) (q2 : Int64) (p3 : Int32) (p4 : Int32) (p5 : Int32) (h0 : Heap) (n0 : Nat) (Z0 : n0 ≤ h0.size) :
    MetFree l x (head1 (Jvm.Cond.code x code maxLocals ret :: ws) room_1) (fun a_ U_ => a_ = #[(.long q1), (.long q2), (.int p3), (.int p4), (.int p5)] ∧ Z.Warmed39 U_.vm ∧ U_.heap = h0) (fun _ _ _ _ _ => True) (fun _ U_ o_ U2_ => ∃ v_ L_, o_ = .returned v_ ∧ Qrm0 Z q1 q2 p3 p4 p5 h0 n0 v_ U2_.heap L_ ∧ FrameEnd U_ o_ U2_ L_ room_1.cells room_1.slots) := by
  refine MetFree.of_bodySF (plainFor_of_name pn_com_example_sutf_sutf_codec_TallyAddPinLaw) hisR ?_
  intro p e s m args below meth cO s₁ Bd hml0 hP hK
  obtain ⟨rfl, hZW, hh⟩ := hP
  have hEX := Bd.exec
  have hBY := Bd.bytes
  have hMX : cO.maxLocals = 14 := hml0
  have hOW : s.vm.findClass "com/example/sutf/sutf/codec/TallyAddPinLaw" = some m.cls := findClass_of_methodNamed Bd.named
  have hNM := (name_of_methodNamed Bd.named Bd.method).1
  have hLK := Bd.notSynchronized
  have hRT := Bd.returns
  have X0 : Stand p l e room_1 s m #[(.long q1), (.long q2), (.int p3), (.int p4), (.int p5)] below meth cO s₁ [] 0 0 := Stand.of_body Bd
  have e0 : s₁.heap = h0 := by rw [← hh, Bd.state]; rfl
  have N0 := Fr.nil n0
  have K0 : Keep h0 h0 [] := Keep.refl _ _
  show Done p e below s (Qrm0 Z q1 q2 p3 p4 p5 h0 n0) room_1.cells room_1.slots (s₁.setTop (entryFrame m #[(.long q1), (.long q2), (.int p3), (.int p4), (.int p5)] maxLocals))
  refine Done.pre (fun t_ k_ => castTop (ef_rm0 m q1 q2 p3 p4 p5) k_) ?_
  show Done _ _ _ _ _ _ _ (s₁.setTop (mkF m 0 #[Lv q1, Zs, Lv q2, Zs, Iv p3, Iv p4, Iv p5, Us, Us, Us, Us, Us, Us, Us] []))
  have sg_1 : ∀ tt_, Steps p.tables e below (s₁.setTop (mkF m 7 #[Lv q1, Zs, Lv q2, Zs, Iv p3, Iv p4, Iv p5, Us, Us, Us, Us, Us, Us, Us] [(.int p3), (.int (p5 &&& (7 : Int32)))])) tt_ → Steps p.tables e below (s₁.setTop (mkF m 0 #[Lv q1, Zs, Lv q2, Zs, Iv p3, Iv p4, Iv p5, Us, Us, Us, Us, Us, Us, Us] [])) tt_ := by
    intro tt_ kt_
    refine XS.iload X0.here hEX rfl (hb hBY at_0) rfl ?_
    show Steps p.tables e below (s₁.setTop (mkF m 2 #[Lv q1, Zs, Lv q2, Zs, Iv p3, Iv p4, Iv p5, Us, Us, Us, Us, Us, Us, Us] [(.int p5)])) tt_
    refine XS.bipush X0.here hEX rfl (hb hBY at_2) ?_
    show Steps p.tables e below (s₁.setTop (mkF m 4 #[Lv q1, Zs, Lv q2, Zs, Iv p3, Iv p4, Iv p5, Us, Us, Us, Us, Us, Us, Us] [(.int (7 : Int32)), (.int p5)])) tt_
    refine XS.iand X0.here hEX rfl (hb hBY at_4) rfl ?_
    show Steps p.tables e below (s₁.setTop (mkF m 5 #[Lv q1, Zs, Lv q2, Zs, Iv p3, Iv p4, Iv p5, Us, Us, Us, Us, Us, Us, Us] [(.int (p5 &&& (7 : Int32)))])) tt_
    refine XS.iload X0.here hEX rfl (hb hBY at_5) rfl ?_
    exact kt_
  refine Done.pre sg_1 ?_
  obtain ⟨_, _, ⟨T_2, L_2, k_2, n_2⟩, -, X_2, ⟨Lc_2, hQ_2, l_2, y_2, z_2⟩, st_2⟩ := Jvm.LawKit.callS X0 hEX (y := (⟨"com/example/sutf/sutf/codec/TallyAddPinLaw", "pick", "(II)I"⟩ : MethodName)) hOW (mvT hZW (hw _ (List.mem_of_getElem? (i := 0) rfl))) (mvT hZW (hw _ (List.mem_of_getElem? (i := 1) rfl))) (mvT hZW (hw _ (List.mem_of_getElem? (i := 2) rfl))) (mvT hZW (hw _ (List.mem_of_getElem? (i := 3) rfl))) (by decide) (backOf (W := 0) (rm_pick l Z aZ hw [] (p5 &&& (7 : Int32)) p3 h0 n0 (Nat.le_trans Z0 K0.1) ) hZW (hw _ (List.mem_of_getElem? (i := 3) rfl)) (hw _ (List.mem_of_getElem? (i := 2) rfl)) (by decide) (by decide)) (g := (mkF m 7 #[Lv q1, Zs, Lv q2, Zs, Iv p3, Iv p4, Iv p5, Us, Us, Us, Us, Us, Us, Us] [(.int p3), (.int (p5 &&& (7 : Int32)))])) rfl (by rw [hMX]; rfl) (argsL := [(.int (p5 &&& (7 : Int32))), (.int p3)]) (rest := []) (lenOf pd__II_I_4 rfl) rfl (by show 2 * 0 + _ ≤ _; exact Nat.le_of_eq rfl) (hb hBY at_7) (fun _ _ => ⟨rfl, e0, (by decide : 0 + 0 ≤ _), (by decide : 0 + 0 ≤ _)⟩)
  dsimp only [Pt.U, Pt.locs, Pt.cells, Pt.slots] at X_2 l_2 y_2 z_2 st_2 hQ_2
  subst l_2 y_2 z_2
  obtain ⟨rfl, N_2q, e_2⟩ := hQ_2
  have N_2 := Fr.app N0 N_2q
  refine Done.pre (fun _ k_ => st_2 _ k_) ?_
  show Done _ _ _ _ _ _ _ (T_2.setTop (mkF m 10 #[Lv q1, Zs, Lv q2, Zs, Iv p3, Iv p4, Iv p5, Us, Us, Us, Us, Us, Us, Us] [(.int (own_pick (p5 &&& (7 : Int32)) p3))]))
  show Done _ _ _ _ _ _ _ (T_2.setTop (mkF m 10 #[Lv q1, Zs, Lv q2, Zs, Iv p3, Iv p4, Iv p5, Us, Us, Us, Us, Us, Us, Us] [(.int (own_pick (p5 &&& (7 : Int32)) p3))]))
  obtain ⟨c1, hc1⟩ : ∃ z : Int32, z = (own_pick (p5 &&& (7 : Int32)) p3) := ⟨_, rfl⟩
  rw [← hc1]
  show Done _ _ _ _ _ _ _ (T_2.setTop (mkF m 10 #[Lv q1, Zs, Lv q2, Zs, Iv p3, Iv p4, Iv p5, Us, Us, Us, Us, Us, Us, Us] [(.int c1)]))
  have sg_3 : ∀ tt_, Steps p.tables e below (T_2.setTop (mkF m 21 #[Lv q1, Zs, Lv q2, Zs, Iv p3, Iv p4, Iv p5, Iv c1, Us, Us, Us, Us, Us, Us] [(.int p4), (.int (((p5.toUInt32 >>> ((3 : Int32) &&& 31).toUInt32).toInt32) &&& (7 : Int32)))])) tt_ → Steps p.tables e below (T_2.setTop (mkF m 10 #[Lv q1, Zs, Lv q2, Zs, Iv p3, Iv p4, Iv p5, Us, Us, Us, Us, Us, Us, Us] [(.int c1)])) tt_ := by
    intro tt_ kt_
    refine XS.istore X_2.here hEX rfl (hb hBY at_10) rfl (l' := #[Lv q1, Zs, Lv q2, Zs, Iv p3, Iv p4, Iv p5, Iv c1, Us, Us, Us, Us, Us, Us]) rfl ?_
    show Steps p.tables e below (T_2.setTop (mkF m 12 #[Lv q1, Zs, Lv q2, Zs, Iv p3, Iv p4, Iv p5, Iv c1, Us, Us, Us, Us, Us, Us] [])) tt_
    refine XS.iload X_2.here hEX rfl (hb hBY at_12) rfl ?_
    show Steps p.tables e below (T_2.setTop (mkF m 14 #[Lv q1, Zs, Lv q2, Zs, Iv p3, Iv p4, Iv p5, Iv c1, Us, Us, Us, Us, Us, Us] [(.int p5)])) tt_
    refine XS.iconst X_2.here hEX rfl (hb hBY at_14) ?_
    show Steps p.tables e below (T_2.setTop (mkF m 15 #[Lv q1, Zs, Lv q2, Zs, Iv p3, Iv p4, Iv p5, Iv c1, Us, Us, Us, Us, Us, Us] [(.int (3 : Int32)), (.int p5)])) tt_
    refine XS.iushr X_2.here hEX rfl (hb hBY at_15) rfl ?_
    show Steps p.tables e below (T_2.setTop (mkF m 16 #[Lv q1, Zs, Lv q2, Zs, Iv p3, Iv p4, Iv p5, Iv c1, Us, Us, Us, Us, Us, Us] [(.int ((p5.toUInt32 >>> ((3 : Int32) &&& 31).toUInt32).toInt32))])) tt_
    refine XS.bipush X_2.here hEX rfl (hb hBY at_16) ?_
    show Steps p.tables e below (T_2.setTop (mkF m 18 #[Lv q1, Zs, Lv q2, Zs, Iv p3, Iv p4, Iv p5, Iv c1, Us, Us, Us, Us, Us, Us] [(.int (7 : Int32)), (.int ((p5.toUInt32 >>> ((3 : Int32) &&& 31).toUInt32).toInt32))])) tt_
    refine XS.iand X_2.here hEX rfl (hb hBY at_18) rfl ?_
    show Steps p.tables e below (T_2.setTop (mkF m 19 #[Lv q1, Zs, Lv q2, Zs, Iv p3, Iv p4, Iv p5, Iv c1, Us, Us, Us, Us, Us, Us] [(.int (((p5.toUInt32 >>> ((3 : Int32) &&& 31).toUInt32).toInt32) &&& (7 : Int32)))])) tt_
    refine XS.iload X_2.here hEX rfl (hb hBY at_19) rfl ?_
    exact kt_
  refine Done.pre sg_3 ?_
  obtain ⟨_, _, ⟨T_4, L_4, k_4, n_4⟩, -, X_4, ⟨Lc_4, hQ_4, l_4, y_4, z_4⟩, st_4⟩ := Jvm.LawKit.callS X_2 hEX (y := (⟨"com/example/sutf/sutf/codec/TallyAddPinLaw", "pick", "(II)I"⟩ : MethodName)) hOW (mvT hZW (hw _ (List.mem_of_getElem? (i := 0) rfl))) (mvT hZW (hw _ (List.mem_of_getElem? (i := 1) rfl))) (mvT hZW (hw _ (List.mem_of_getElem? (i := 2) rfl))) (mvT hZW (hw _ (List.mem_of_getElem? (i := 3) rfl))) (by decide) (backOf (W := 0) (rm_pick l Z aZ hw [] (((p5.toUInt32 >>> ((3 : Int32) &&& 31).toUInt32).toInt32) &&& (7 : Int32)) p4 h0 n0 (Nat.le_trans Z0 K0.1) ) hZW (hw _ (List.mem_of_getElem? (i := 3) rfl)) (hw _ (List.mem_of_getElem? (i := 2) rfl)) (by decide) (by decide)) (g := (mkF m 21 #[Lv q1, Zs, Lv q2, Zs, Iv p3, Iv p4, Iv p5, Iv c1, Us, Us, Us, Us, Us, Us] [(.int p4), (.int (((p5.toUInt32 >>> ((3 : Int32) &&& 31).toUInt32).toInt32) &&& (7 : Int32)))])) rfl (by rw [hMX]; rfl) (argsL := [(.int (((p5.toUInt32 >>> ((3 : Int32) &&& 31).toUInt32).toInt32) &&& (7 : Int32))), (.int p4)]) (rest := []) (lenOf pd__II_I_4 rfl) rfl (by show 2 * 0 + _ ≤ _; exact Nat.le_of_eq rfl) (hb hBY at_21) (fun _ _ => ⟨rfl, e_2, (by decide : 0 + 0 ≤ _), (by decide : 0 + 0 ≤ _)⟩)
  dsimp only [Pt.U, Pt.locs, Pt.cells, Pt.slots] at X_4 l_4 y_4 z_4 st_4 hQ_4
  subst l_4 y_4 z_4
  obtain ⟨rfl, N_4q, e_4⟩ := hQ_4
  have N_4 := Fr.app N_2 N_4q
  refine Done.pre (fun _ k_ => st_4 _ k_) ?_
  show Done _ _ _ _ _ _ _ (T_4.setTop (mkF m 24 #[Lv q1, Zs, Lv q2, Zs, Iv p3, Iv p4, Iv p5, Iv c1, Us, Us, Us, Us, Us, Us] [(.int (own_pick (((p5.toUInt32 >>> ((3 : Int32) &&& 31).toUInt32).toInt32) &&& (7 : Int32)) p4))]))
  show Done _ _ _ _ _ _ _ (T_4.setTop (mkF m 24 #[Lv q1, Zs, Lv q2, Zs, Iv p3, Iv p4, Iv p5, Iv c1, Us, Us, Us, Us, Us, Us] [(.int (own_pick (((p5.toUInt32 >>> ((3 : Int32) &&& 31).toUInt32).toInt32) &&& (7 : Int32)) p4))]))
  obtain ⟨c2, hc2⟩ : ∃ z : Int32, z = (own_pick (((p5.toUInt32 >>> ((3 : Int32) &&& 31).toUInt32).toInt32) &&& (7 : Int32)) p4) := ⟨_, rfl⟩
  rw [← hc2]
  show Done _ _ _ _ _ _ _ (T_4.setTop (mkF m 24 #[Lv q1, Zs, Lv q2, Zs, Iv p3, Iv p4, Iv p5, Iv c1, Us, Us, Us, Us, Us, Us] [(.int c2)]))
  have sg_5 : ∀ tt_, Steps p.tables e below (T_4.setTop (mkF m 26 #[Lv q1, Zs, Lv q2, Zs, Iv p3, Iv p4, Iv p5, Iv c1, Iv c2, Us, Us, Us, Us, Us] [])) tt_ → Steps p.tables e below (T_4.setTop (mkF m 24 #[Lv q1, Zs, Lv q2, Zs, Iv p3, Iv p4, Iv p5, Iv c1, Us, Us, Us, Us, Us, Us] [(.int c2)])) tt_ := by
    intro tt_ kt_
    refine XS.istore X_4.here hEX rfl (hb hBY at_24) rfl (l' := #[Lv q1, Zs, Lv q2, Zs, Iv p3, Iv p4, Iv p5, Iv c1, Iv c2, Us, Us, Us, Us, Us]) rfl ?_
    exact kt_
  refine Done.pre sg_5 ?_
  obtain ⟨T_6, h_6, X_6, e_6, E_6, A_6, D_6, -, st_6⟩ := newO X_4 hEX hZW hOW (hw _ (List.mem_of_getElem? (i := 5) rfl)) (hw _ (List.mem_of_getElem? (i := 6) rfl)) (hw _ (List.mem_of_getElem? (i := 7) rfl)) e_4 (g := (mkF m 26 #[Lv q1, Zs, Lv q2, Zs, Iv p3, Iv p4, Iv p5, Iv c1, Iv c2, Us, Us, Us, Us, Us] [])) rfl (hb hBY at_26) (by decide) (by decide)
  obtain ⟨b_6, g_6⟩ : ∃ z, z = h0.size := ⟨_, rfl⟩
  rw [← g_6] at A_6 D_6 st_6
  have sz_b_6 : h0.size ≤ b_6 := Nat.le_trans K0.1 (Nat.le_of_eq g_6.symm)
  have ge_b_6 : n0 ≤ b_6 := Nat.le_trans Z0 sz_b_6
  have K__7 : Keep h0 h_6 [] := K0.ext E_6
  have f_8 : Exa Z h_6 b_6 "com/example/sutf/sutf/codec/Tally" := A_6
  have f_9 : Fld Z h_6 b_6 "com/example/sutf/sutf/codec/Tally" "codePoints" "J" (.long (0 : Int64)) := D_6 (Or.inl (hw _ (List.mem_of_getElem? (i := 20) rfl))) (ty := .long) (by decide)
  have f_10 : Fld Z h_6 b_6 "com/example/sutf/sutf/codec/Tally" "aboveFfff" "J" (.long (0 : Int64)) := D_6 (Or.inl (hw _ (List.mem_of_getElem? (i := 22) rfl))) (ty := .long) (by decide)
  refine Done.pre st_6 ?_
  show Done _ _ _ _ _ _ _ (T_6.setTop (mkF m 29 #[Lv q1, Zs, Lv q2, Zs, Iv p3, Iv p4, Iv p5, Iv c1, Iv c2, Us, Us, Us, Us, Us] [(.ref b_6)]))
  have sg_11 : ∀ tt_, Steps p.tables e below (T_6.setTop (mkF m 30 #[Lv q1, Zs, Lv q2, Zs, Iv p3, Iv p4, Iv p5, Iv c1, Iv c2, Us, Us, Us, Us, Us] [(.ref b_6), (.ref b_6)])) tt_ → Steps p.tables e below (T_6.setTop (mkF m 29 #[Lv q1, Zs, Lv q2, Zs, Iv p3, Iv p4, Iv p5, Iv c1, Iv c2, Us, Us, Us, Us, Us] [(.ref b_6)])) tt_ := by
    intro tt_ kt_
    refine XS.dup X_6.here hEX rfl (hb hBY at_29) rfl rfl ?_
    exact kt_
  refine Done.pre sg_11 ?_
  obtain ⟨_, _, ⟨T_12, L_12, k_12, n_12⟩, -, X_12, ⟨Lc_12, hQ_12, l_12, y_12, z_12⟩, st_12⟩ := X_6.specialBack hEX (y := (⟨"com/example/sutf/sutf/codec/Tally", "<init>", "()V"⟩ : MethodName)) rfl hOW (mvT hZW (hw _ (List.mem_of_getElem? (i := 8) rfl))) (mvT hZW (hw _ (List.mem_of_getElem? (i := 9) rfl))) (mvT hZW (hw _ (List.mem_of_getElem? (i := 10) rfl))) (by decide) (backOf (W := 1) (rm_init l Z aZ hw [] b_6 h_6 n0 (Nat.le_trans Z0 K__7.1) ) hZW (hw _ (List.mem_of_getElem? (i := 10) rfl)) (hw _ (List.mem_of_getElem? (i := 7) rfl)) (by decide) (by decide)) (g := (mkF m 30 #[Lv q1, Zs, Lv q2, Zs, Iv p3, Iv p4, Iv p5, Iv c1, Iv c2, Us, Us, Us, Us, Us] [(.ref b_6), (.ref b_6)])) rfl (by rw [hMX]; rfl) (Steps.refl _) (a := b_6) (argsL := []) (rest := [(.ref b_6)]) (lenOf pd___V_1 rfl) rfl (by show 2 * 0 + _ ≤ _; exact Nat.le_of_eq rfl) (hb hBY at_30) (fun _ _ => ⟨rfl, e_6, (by decide : 1 + 0 ≤ _), (by decide : 2 + 0 ≤ _)⟩)
  dsimp only [Pt.U, Pt.locs, Pt.cells, Pt.slots] at X_12 l_12 y_12 z_12 st_12 hQ_12
  subst l_12 y_12 z_12
  obtain ⟨rfl, N_12q, e_12⟩ := hQ_12
  have N_12 := Fr.app N_4 N_12q
  refine Done.pre (fun _ k_ => st_12.trans k_) ?_
  show Done _ _ _ _ _ _ _ (T_12.setTop (mkF m 33 #[Lv q1, Zs, Lv q2, Zs, Iv p3, Iv p4, Iv p5, Iv c1, Iv c2, Us, Us, Us, Us, Us] [(.ref b_6)]))
  have sg_13 : ∀ tt_, Steps p.tables e below (T_12.setTop (mkF m 39 #[Lv q1, Zs, Lv q2, Zs, Iv p3, Iv p4, Iv p5, Iv c1, Iv c2, Rv b_6, Us, Us, Us, Us] [(.long q2), (.long q1), (.ref b_6)])) tt_ → Steps p.tables e below (T_12.setTop (mkF m 33 #[Lv q1, Zs, Lv q2, Zs, Iv p3, Iv p4, Iv p5, Iv c1, Iv c2, Us, Us, Us, Us, Us] [(.ref b_6)])) tt_ := by
    intro tt_ kt_
    refine XS.astore X_12.here hEX rfl (hb hBY at_33) rfl rfl (l' := #[Lv q1, Zs, Lv q2, Zs, Iv p3, Iv p4, Iv p5, Iv c1, Iv c2, Rv b_6, Us, Us, Us, Us]) rfl ?_
    show Steps p.tables e below (T_12.setTop (mkF m 35 #[Lv q1, Zs, Lv q2, Zs, Iv p3, Iv p4, Iv p5, Iv c1, Iv c2, Rv b_6, Us, Us, Us, Us] [])) tt_
    refine XS.aload X_12.here hEX rfl (hb hBY at_35) rfl rfl ?_
    show Steps p.tables e below (T_12.setTop (mkF m 37 #[Lv q1, Zs, Lv q2, Zs, Iv p3, Iv p4, Iv p5, Iv c1, Iv c2, Rv b_6, Us, Us, Us, Us] [(.ref b_6)])) tt_
    refine XS.lloadN X_12.here hEX rfl (hb hBY at_37) rfl ?_
    show Steps p.tables e below (T_12.setTop (mkF m 38 #[Lv q1, Zs, Lv q2, Zs, Iv p3, Iv p4, Iv p5, Iv c1, Iv c2, Rv b_6, Us, Us, Us, Us] [(.long q1), (.ref b_6)])) tt_
    refine XS.lloadN X_12.here hEX rfl (hb hBY at_38) rfl ?_
    exact kt_
  refine Done.pre sg_13 ?_
  obtain ⟨cq_14, kq_14, q_14a, q_14b, q_14c⟩ := isOf hZW e_12 f_8
  obtain ⟨_, _, ⟨T_14, L_14, k_14, n_14⟩, -, X_14, ⟨Lc_14, hQ_14, l_14, y_14, z_14⟩, st_14⟩ := X_12.virtualBack hEX (y := (⟨"com/example/sutf/sutf/codec/Tally", "add", "(JJ)V"⟩ : MethodName)) (z := (⟨"com/example/sutf/sutf/codec/Tally", "add", "(JJ)V"⟩ : MethodName)) hOW (mvT hZW (hw _ (List.mem_of_getElem? (i := 14) rfl))) (mvT hZW (hw _ (List.mem_of_getElem? (i := 15) rfl))) (notFace_of_selects (args := #[]) (mvT hZW (hw _ (List.mem_of_getElem? (i := 17) rfl)))) (mvT hZW (hw _ (List.mem_of_getElem? (i := 17) rfl))) (mvT hZW (hw _ (List.mem_of_getElem? (i := 16) rfl))) (by decide) (backOf (W := 0) (rm_addJ l Z aZ hw [] b_6 q1 q2 (0 : Int64) (0 : Int64) h_6 n0 (Nat.le_trans Z0 K__7.1) f_8 f_9 f_10 ge_b_6) hZW (hw _ (List.mem_of_getElem? (i := 18) rfl)) (hw _ (List.mem_of_getElem? (i := 7) rfl)) (by decide) (by decide)) q_14a q_14c (g := (mkF m 39 #[Lv q1, Zs, Lv q2, Zs, Iv p3, Iv p4, Iv p5, Iv c1, Iv c2, Rv b_6, Us, Us, Us, Us] [(.long q2), (.long q1), (.ref b_6)])) rfl (by rw [hMX]; rfl) (Steps.refl _) (argsL := [(.long q1), (.long q2)]) (rest := []) (lenOf pd__JJ_V_5 rfl) rfl (by show 2 * 0 + _ ≤ _; exact Nat.le_of_eq rfl) (hb hBY at_39) (fun _ _ => ⟨rfl, e_12, (by decide : 1 + 0 ≤ _), (by decide : 2 + 0 ≤ _)⟩)
  dsimp only [Pt.U, Pt.locs, Pt.cells, Pt.slots] at X_14 l_14 y_14 z_14 st_14 hQ_14
  subst l_14 y_14 z_14
  obtain ⟨rfl, N_14q, K_14, hq_14_0, hq_14_1, hq_14_2⟩ := hQ_14
  have N_14 := Fr.app N_12 N_14q
  have K__15 : Keep h0 T_14.heap [] := K__7.trans K_14 (allS (Or.inr sz_b_6) all0)
  have f_16 : Exa Z T_14.heap b_6 "com/example/sutf/sutf/codec/Tally" := f_8.keep K_14
  refine Done.pre (fun _ k_ => st_14.trans k_) ?_
  show Done _ _ _ _ _ _ _ (T_14.setTop (mkF m 42 #[Lv q1, Zs, Lv q2, Zs, Iv p3, Iv p4, Iv p5, Iv c1, Iv c2, Rv b_6, Us, Us, Us, Us] []))
  have sg_17 : ∀ tt_, Steps p.tables e below (T_14.setTop (mkF m 46 #[Lv q1, Zs, Lv q2, Zs, Iv p3, Iv p4, Iv p5, Iv c1, Iv c2, Rv b_6, Us, Us, Us, Us] [(.int c1), (.ref b_6)])) tt_ → Steps p.tables e below (T_14.setTop (mkF m 42 #[Lv q1, Zs, Lv q2, Zs, Iv p3, Iv p4, Iv p5, Iv c1, Iv c2, Rv b_6, Us, Us, Us, Us] [])) tt_ := by
    intro tt_ kt_
    refine XS.aload X_14.here hEX rfl (hb hBY at_42) rfl rfl ?_
    show Steps p.tables e below (T_14.setTop (mkF m 44 #[Lv q1, Zs, Lv q2, Zs, Iv p3, Iv p4, Iv p5, Iv c1, Iv c2, Rv b_6, Us, Us, Us, Us] [(.ref b_6)])) tt_
    refine XS.iload X_14.here hEX rfl (hb hBY at_44) rfl ?_
    exact kt_
  refine Done.pre sg_17 ?_
  obtain ⟨cq_18, kq_18, q_18a, q_18b, q_18c⟩ := isOf hZW rfl hq_14_0
  obtain ⟨_, _, ⟨T_18, L_18, k_18, n_18⟩, -, X_18, ⟨Lc_18, hQ_18, l_18, y_18, z_18⟩, st_18⟩ := X_14.virtualBack hEX (y := (⟨"com/example/sutf/sutf/codec/Tally", "add", "(I)V"⟩ : MethodName)) (z := (⟨"com/example/sutf/sutf/codec/Tally", "add", "(I)V"⟩ : MethodName)) hOW (mvT hZW (hw _ (List.mem_of_getElem? (i := 23) rfl))) (mvT hZW (hw _ (List.mem_of_getElem? (i := 24) rfl))) (notFace_of_selects (args := #[]) (mvT hZW (hw _ (List.mem_of_getElem? (i := 26) rfl)))) (mvT hZW (hw _ (List.mem_of_getElem? (i := 26) rfl))) (mvT hZW (hw _ (List.mem_of_getElem? (i := 25) rfl))) (by decide) (backOf (W := 0) (rm_addI l Z aZ hw [] b_6 c1 ((0 : Int64) + q1) ((0 : Int64) + q2) T_14.heap n0 (Nat.le_trans Z0 K__15.1) hq_14_0 hq_14_1 hq_14_2 ge_b_6) hZW (hw _ (List.mem_of_getElem? (i := 27) rfl)) (hw _ (List.mem_of_getElem? (i := 7) rfl)) (by decide) (by decide)) q_18a q_18c (g := (mkF m 46 #[Lv q1, Zs, Lv q2, Zs, Iv p3, Iv p4, Iv p5, Iv c1, Iv c2, Rv b_6, Us, Us, Us, Us] [(.int c1), (.ref b_6)])) rfl (by rw [hMX]; rfl) (Steps.refl _) (argsL := [(.int c1)]) (rest := []) (lenOf pd__I_V_3 rfl) rfl (by show 2 * 0 + _ ≤ _; exact Nat.le_of_eq rfl) (hb hBY at_46) (fun _ _ => ⟨rfl, rfl, (by decide : 1 + 0 ≤ _), (by decide : 2 + 0 ≤ _)⟩)
  dsimp only [Pt.U, Pt.locs, Pt.cells, Pt.slots] at X_18 l_18 y_18 z_18 st_18 hQ_18
  subst l_18 y_18 z_18
  obtain ⟨rfl, N_18q, K_18, hq_18_0, hq_18_1, hq_18_2⟩ := hQ_18
  have N_18 := Fr.app N_14 N_18q
  have K__19 : Keep h0 T_18.heap [] := K__15.trans K_18 (allS (Or.inr sz_b_6) all0)
  have f_20 : Exa Z T_18.heap b_6 "com/example/sutf/sutf/codec/Tally" := hq_14_0.keep K_18
  refine Done.pre (fun _ k_ => st_18.trans k_) ?_
  show Done _ _ _ _ _ _ _ (T_18.setTop (mkF m 49 #[Lv q1, Zs, Lv q2, Zs, Iv p3, Iv p4, Iv p5, Iv c1, Iv c2, Rv b_6, Us, Us, Us, Us] []))
  have sg_21 : ∀ tt_, Steps p.tables e below (T_18.setTop (mkF m 52 #[Lv q1, Zs, Lv q2, Zs, Iv p3, Iv p4, Iv p5, Iv c1, Iv c2, Rv b_6, Us, Us, Us, Us] [(.int c1), (.long q2)])) tt_ → Steps p.tables e below (T_18.setTop (mkF m 49 #[Lv q1, Zs, Lv q2, Zs, Iv p3, Iv p4, Iv p5, Iv c1, Iv c2, Rv b_6, Us, Us, Us, Us] [])) tt_ := by
    intro tt_ kt_
    refine XS.lloadN X_18.here hEX rfl (hb hBY at_49) rfl ?_
    show Steps p.tables e below (T_18.setTop (mkF m 50 #[Lv q1, Zs, Lv q2, Zs, Iv p3, Iv p4, Iv p5, Iv c1, Iv c2, Rv b_6, Us, Us, Us, Us] [(.long q2)])) tt_
    refine XS.iload X_18.here hEX rfl (hb hBY at_50) rfl ?_
    exact kt_
  refine Done.pre sg_21 ?_
  obtain ⟨_, _, ⟨T_22, L_22, k_22, n_22⟩, -, X_22, ⟨Lc_22, hQ_22, l_22, y_22, z_22⟩, st_22⟩ := Jvm.LawKit.callS X_18 hEX (y := (⟨"com/example/sutf/sutf/codec/TallyAddPinLaw", "aboveCount", "(I)J"⟩ : MethodName)) hOW (mvT hZW (hw _ (List.mem_of_getElem? (i := 30) rfl))) (mvT hZW (hw _ (List.mem_of_getElem? (i := 31) rfl))) (mvT hZW (hw _ (List.mem_of_getElem? (i := 2) rfl))) (mvT hZW (hw _ (List.mem_of_getElem? (i := 32) rfl))) (by decide) (backOf (W := 2) (rm_ac l Z aZ hw [] c1 T_18.heap n0 (Nat.le_trans Z0 K__19.1) ) hZW (hw _ (List.mem_of_getElem? (i := 32) rfl)) (hw _ (List.mem_of_getElem? (i := 2) rfl)) (by decide) (by decide)) (g := (mkF m 52 #[Lv q1, Zs, Lv q2, Zs, Iv p3, Iv p4, Iv p5, Iv c1, Iv c2, Rv b_6, Us, Us, Us, Us] [(.int c1), (.long q2)])) rfl (by rw [hMX]; rfl) (argsL := [(.int c1)]) (rest := [(.long q2)]) (lenOf pd__I_J_2 rfl) rfl (by show 2 * 0 + _ ≤ _; exact Nat.le_of_eq rfl) (hb hBY at_52) (fun _ _ => ⟨rfl, rfl, (by decide : 1 + 0 ≤ _), (by decide : 2 + 0 ≤ _)⟩)
  dsimp only [Pt.U, Pt.locs, Pt.cells, Pt.slots] at X_22 l_22 y_22 z_22 st_22 hQ_22
  subst l_22 y_22 z_22
  obtain ⟨rfl, N_22q, e_22⟩ := hQ_22
  have N_22 := Fr.app N_18 N_22q
  refine Done.pre (fun _ k_ => st_22 _ k_) ?_
  show Done _ _ _ _ _ _ _ (T_22.setTop (mkF m 55 #[Lv q1, Zs, Lv q2, Zs, Iv p3, Iv p4, Iv p5, Iv c1, Iv c2, Rv b_6, Us, Us, Us, Us] [(.long (own_ac c1)), (.long q2)]))
  have sg_23 : ∀ tt_, Steps p.tables e below (T_22.setTop (mkF m 60 #[Lv q1, Zs, Lv q2, Zs, Iv p3, Iv p4, Iv p5, Iv c1, Iv c2, Rv b_6, Lv (q2 + (own_ac c1)), Zs, Us, Us] [(.ref b_6)])) tt_ → Steps p.tables e below (T_22.setTop (mkF m 55 #[Lv q1, Zs, Lv q2, Zs, Iv p3, Iv p4, Iv p5, Iv c1, Iv c2, Rv b_6, Us, Us, Us, Us] [(.long (own_ac c1)), (.long q2)])) tt_ := by
    intro tt_ kt_
    refine XS.ladd X_22.here hEX rfl (hb hBY at_55) rfl ?_
    show Steps p.tables e below (T_22.setTop (mkF m 56 #[Lv q1, Zs, Lv q2, Zs, Iv p3, Iv p4, Iv p5, Iv c1, Iv c2, Rv b_6, Us, Us, Us, Us] [(.long (q2 + (own_ac c1)))])) tt_
    refine XS.lstore X_22.here hEX rfl (hb hBY at_56) rfl (l' := #[Lv q1, Zs, Lv q2, Zs, Iv p3, Iv p4, Iv p5, Iv c1, Iv c2, Rv b_6, Lv (q2 + (own_ac c1)), Zs, Us, Us]) rfl ?_
    show Steps p.tables e below (T_22.setTop (mkF m 58 #[Lv q1, Zs, Lv q2, Zs, Iv p3, Iv p4, Iv p5, Iv c1, Iv c2, Rv b_6, Lv (q2 + (own_ac c1)), Zs, Us, Us] [])) tt_
    refine XS.aload X_22.here hEX rfl (hb hBY at_58) rfl rfl ?_
    exact kt_
  refine Done.pre sg_23 ?_
  obtain ⟨cq_24, kq_24, q_24a, q_24b, q_24c⟩ := isOf hZW e_22 hq_18_0
  obtain ⟨_, _, ⟨T_24, L_24, k_24, n_24⟩, -, X_24, ⟨Lc_24, hQ_24, l_24, y_24, z_24⟩, st_24⟩ := X_22.virtualBack hEX (y := (⟨"com/example/sutf/sutf/codec/Tally", "codePoints", "()J"⟩ : MethodName)) (z := (⟨"com/example/sutf/sutf/codec/Tally", "codePoints", "()J"⟩ : MethodName)) hOW (mvT hZW (hw _ (List.mem_of_getElem? (i := 35) rfl))) (mvT hZW (hw _ (List.mem_of_getElem? (i := 36) rfl))) (notFace_of_selects (args := #[]) (mvT hZW (hw _ (List.mem_of_getElem? (i := 38) rfl)))) (mvT hZW (hw _ (List.mem_of_getElem? (i := 38) rfl))) (mvT hZW (hw _ (List.mem_of_getElem? (i := 37) rfl))) (by decide) (backOf (W := 0) (rm_codePoints l Z aZ hw [] b_6 (((0 : Int64) + q1) + (1 : Int64)) T_18.heap n0 (Nat.le_trans Z0 K__19.1) hq_18_1) hZW (hw _ (List.mem_of_getElem? (i := 39) rfl)) (hw _ (List.mem_of_getElem? (i := 7) rfl)) (by decide) (by decide)) q_24a q_24c (g := (mkF m 60 #[Lv q1, Zs, Lv q2, Zs, Iv p3, Iv p4, Iv p5, Iv c1, Iv c2, Rv b_6, Lv (q2 + (own_ac c1)), Zs, Us, Us] [(.ref b_6)])) rfl (by rw [hMX]; rfl) (Steps.refl _) (argsL := []) (rest := []) (lenOf pd___J_0 rfl) rfl (by show 2 * 0 + _ ≤ _; exact Nat.le_of_eq rfl) (hb hBY at_60) (fun _ _ => ⟨rfl, e_22, (by decide : 1 + 0 ≤ _), (by decide : 2 + 0 ≤ _)⟩)
  dsimp only [Pt.U, Pt.locs, Pt.cells, Pt.slots] at X_24 l_24 y_24 z_24 st_24 hQ_24
  subst l_24 y_24 z_24
  obtain ⟨rfl, N_24q, e_24⟩ := hQ_24
  have N_24 := Fr.app N_22 N_24q
  refine Done.pre (fun _ k_ => st_24.trans k_) ?_
  show Done _ _ _ _ _ _ _ (T_24.setTop (mkF m 63 #[Lv q1, Zs, Lv q2, Zs, Iv p3, Iv p4, Iv p5, Iv c1, Iv c2, Rv b_6, Lv (q2 + (own_ac c1)), Zs, Us, Us] [(.long (((0 : Int64) + q1) + (1 : Int64)))]))
  have sg_25 : ∀ tt_, Steps p.tables e below (T_24.setTop (mkF m 72 #[Lv q1, Zs, Lv q2, Zs, Iv p3, Iv p4, Iv p5, Iv c1, Iv c2, Rv b_6, Lv (q2 + (own_ac c1)), Zs, Us, Us] [(.ref b_6)])) tt_ → Steps p.tables e below (T_24.setTop (mkF m 63 #[Lv q1, Zs, Lv q2, Zs, Iv p3, Iv p4, Iv p5, Iv c1, Iv c2, Rv b_6, Lv (q2 + (own_ac c1)), Zs, Us, Us] [(.long (((0 : Int64) + q1) + (1 : Int64)))])) tt_ := by
    intro tt_ kt_
    refine XS.lloadN X_24.here hEX rfl (hb hBY at_63) rfl ?_
    show Steps p.tables e below (T_24.setTop (mkF m 64 #[Lv q1, Zs, Lv q2, Zs, Iv p3, Iv p4, Iv p5, Iv c1, Iv c2, Rv b_6, Lv (q2 + (own_ac c1)), Zs, Us, Us] [(.long q1), (.long (((0 : Int64) + q1) + (1 : Int64)))])) tt_
    refine XS.lconst X_24.here hEX rfl (hb hBY at_64) ?_
    show Steps p.tables e below (T_24.setTop (mkF m 65 #[Lv q1, Zs, Lv q2, Zs, Iv p3, Iv p4, Iv p5, Iv c1, Iv c2, Rv b_6, Lv (q2 + (own_ac c1)), Zs, Us, Us] [(.long (1 : Int64)), (.long q1), (.long (((0 : Int64) + q1) + (1 : Int64)))])) tt_
    refine XS.ladd X_24.here hEX rfl (hb hBY at_65) rfl ?_
    show Steps p.tables e below (T_24.setTop (mkF m 66 #[Lv q1, Zs, Lv q2, Zs, Iv p3, Iv p4, Iv p5, Iv c1, Iv c2, Rv b_6, Lv (q2 + (own_ac c1)), Zs, Us, Us] [(.long (q1 + (1 : Int64))), (.long (((0 : Int64) + q1) + (1 : Int64)))])) tt_
    refine XS.lcmp X_24.here hEX rfl (hb hBY at_66) rfl ?_
    show Steps p.tables e below (T_24.setTop (mkF m 67 #[Lv q1, Zs, Lv q2, Zs, Iv p3, Iv p4, Iv p5, Iv c1, Iv c2, Rv b_6, Lv (q2 + (own_ac c1)), Zs, Us, Us] [(.int (lcmpW (((0 : Int64) + q1) + (1 : Int64)) (q1 + (1 : Int64))))])) tt_
    refine XS.ifNo X_24.here hEX rfl (hb hBY at_67) rfl ((if0 _ _).trans (teq ((lw_eq _ _).mpr (own_l1 q1 : (((0 : Int64) + q1) + (1 : Int64)) = (q1 + (1 : Int64))))).2) ?_
    show Steps p.tables e below (T_24.setTop (mkF m 70 #[Lv q1, Zs, Lv q2, Zs, Iv p3, Iv p4, Iv p5, Iv c1, Iv c2, Rv b_6, Lv (q2 + (own_ac c1)), Zs, Us, Us] [])) tt_
    refine XS.aload X_24.here hEX rfl (hb hBY at_70) rfl rfl ?_
    exact kt_
  refine Done.pre sg_25 ?_
  obtain ⟨cq_26, kq_26, q_26a, q_26b, q_26c⟩ := isOf hZW e_24 hq_18_0
  obtain ⟨_, _, ⟨T_26, L_26, k_26, n_26⟩, -, X_26, ⟨Lc_26, hQ_26, l_26, y_26, z_26⟩, st_26⟩ := X_24.virtualBack hEX (y := (⟨"com/example/sutf/sutf/codec/Tally", "aboveFfff", "()J"⟩ : MethodName)) (z := (⟨"com/example/sutf/sutf/codec/Tally", "aboveFfff", "()J"⟩ : MethodName)) hOW (mvT hZW (hw _ (List.mem_of_getElem? (i := 40) rfl))) (mvT hZW (hw _ (List.mem_of_getElem? (i := 41) rfl))) (notFace_of_selects (args := #[]) (mvT hZW (hw _ (List.mem_of_getElem? (i := 43) rfl)))) (mvT hZW (hw _ (List.mem_of_getElem? (i := 43) rfl))) (mvT hZW (hw _ (List.mem_of_getElem? (i := 42) rfl))) (by decide) (backOf (W := 0) (rm_aboveFfff l Z aZ hw [] b_6 (own_abv ((0 : Int64) + q2) c1) T_18.heap n0 (Nat.le_trans Z0 K__19.1) hq_18_2) hZW (hw _ (List.mem_of_getElem? (i := 44) rfl)) (hw _ (List.mem_of_getElem? (i := 7) rfl)) (by decide) (by decide)) q_26a q_26c (g := (mkF m 72 #[Lv q1, Zs, Lv q2, Zs, Iv p3, Iv p4, Iv p5, Iv c1, Iv c2, Rv b_6, Lv (q2 + (own_ac c1)), Zs, Us, Us] [(.ref b_6)])) rfl (by rw [hMX]; rfl) (Steps.refl _) (argsL := []) (rest := []) (lenOf pd___J_0 rfl) rfl (by show 2 * 0 + _ ≤ _; exact Nat.le_of_eq rfl) (hb hBY at_72) (fun _ _ => ⟨rfl, e_24, (by decide : 1 + 0 ≤ _), (by decide : 2 + 0 ≤ _)⟩)
  dsimp only [Pt.U, Pt.locs, Pt.cells, Pt.slots] at X_26 l_26 y_26 z_26 st_26 hQ_26
  subst l_26 y_26 z_26
  obtain ⟨rfl, N_26q, e_26⟩ := hQ_26
  have N_26 := Fr.app N_24 N_26q
  refine Done.pre (fun _ k_ => st_26.trans k_) ?_
  show Done _ _ _ _ _ _ _ (T_26.setTop (mkF m 75 #[Lv q1, Zs, Lv q2, Zs, Iv p3, Iv p4, Iv p5, Iv c1, Iv c2, Rv b_6, Lv (q2 + (own_ac c1)), Zs, Us, Us] [(.long (own_abv ((0 : Int64) + q2) c1))]))
  have sg_27 : ∀ tt_, Steps p.tables e below (T_26.setTop (mkF m 92 #[Lv q1, Zs, Lv q2, Zs, Iv p3, Iv p4, Iv p5, Iv c1, Iv c2, Rv b_6, Lv (q2 + (own_ac c1)), Zs, Iv (1 : Int32), Us] [(.int c2), (.ref b_6)])) tt_ → Steps p.tables e below (T_26.setTop (mkF m 75 #[Lv q1, Zs, Lv q2, Zs, Iv p3, Iv p4, Iv p5, Iv c1, Iv c2, Rv b_6, Lv (q2 + (own_ac c1)), Zs, Us, Us] [(.long (own_abv ((0 : Int64) + q2) c1))])) tt_ := by
    intro tt_ kt_
    refine XS.lload X_26.here hEX rfl (hb hBY at_75) rfl ?_
    show Steps p.tables e below (T_26.setTop (mkF m 77 #[Lv q1, Zs, Lv q2, Zs, Iv p3, Iv p4, Iv p5, Iv c1, Iv c2, Rv b_6, Lv (q2 + (own_ac c1)), Zs, Us, Us] [(.long (q2 + (own_ac c1))), (.long (own_abv ((0 : Int64) + q2) c1))])) tt_
    refine XS.lcmp X_26.here hEX rfl (hb hBY at_77) rfl ?_
    show Steps p.tables e below (T_26.setTop (mkF m 78 #[Lv q1, Zs, Lv q2, Zs, Iv p3, Iv p4, Iv p5, Iv c1, Iv c2, Rv b_6, Lv (q2 + (own_ac c1)), Zs, Us, Us] [(.int (lcmpW (own_abv ((0 : Int64) + q2) c1) (q2 + (own_ac c1))))])) tt_
    refine XS.ifNo X_26.here hEX rfl (hb hBY at_78) rfl ((if0 _ _).trans (teq ((lw_eq _ _).mpr (own_l2 q2 c1 : (own_abv ((0 : Int64) + q2) c1) = (q2 + (own_ac c1))))).2) ?_
    show Steps p.tables e below (T_26.setTop (mkF m 81 #[Lv q1, Zs, Lv q2, Zs, Iv p3, Iv p4, Iv p5, Iv c1, Iv c2, Rv b_6, Lv (q2 + (own_ac c1)), Zs, Us, Us] [])) tt_
    refine XS.iconst X_26.here hEX rfl (hb hBY at_81) ?_
    show Steps p.tables e below (T_26.setTop (mkF m 82 #[Lv q1, Zs, Lv q2, Zs, Iv p3, Iv p4, Iv p5, Iv c1, Iv c2, Rv b_6, Lv (q2 + (own_ac c1)), Zs, Us, Us] [(.int (1 : Int32))])) tt_
    refine XS.goto X_26.here hEX rfl (pc0 := 82) (pc' := 86) rfl (hb hBY at_82) (by decide) (by decide) ?_
    show Steps p.tables e below (T_26.setTop (mkF m 86 #[Lv q1, Zs, Lv q2, Zs, Iv p3, Iv p4, Iv p5, Iv c1, Iv c2, Rv b_6, Lv (q2 + (own_ac c1)), Zs, Us, Us] [(.int (1 : Int32))])) tt_
    refine XS.istore X_26.here hEX rfl (hb hBY at_86) rfl (l' := #[Lv q1, Zs, Lv q2, Zs, Iv p3, Iv p4, Iv p5, Iv c1, Iv c2, Rv b_6, Lv (q2 + (own_ac c1)), Zs, Iv (1 : Int32), Us]) rfl ?_
    show Steps p.tables e below (T_26.setTop (mkF m 88 #[Lv q1, Zs, Lv q2, Zs, Iv p3, Iv p4, Iv p5, Iv c1, Iv c2, Rv b_6, Lv (q2 + (own_ac c1)), Zs, Iv (1 : Int32), Us] [])) tt_
    refine XS.aload X_26.here hEX rfl (hb hBY at_88) rfl rfl ?_
    show Steps p.tables e below (T_26.setTop (mkF m 90 #[Lv q1, Zs, Lv q2, Zs, Iv p3, Iv p4, Iv p5, Iv c1, Iv c2, Rv b_6, Lv (q2 + (own_ac c1)), Zs, Iv (1 : Int32), Us] [(.ref b_6)])) tt_
    refine XS.iload X_26.here hEX rfl (hb hBY at_90) rfl ?_
    exact kt_
  refine Done.pre sg_27 ?_
  obtain ⟨cq_28, kq_28, q_28a, q_28b, q_28c⟩ := isOf hZW e_26 hq_18_0
  obtain ⟨_, _, ⟨T_28, L_28, k_28, n_28⟩, -, X_28, ⟨Lc_28, hQ_28, l_28, y_28, z_28⟩, st_28⟩ := X_26.virtualBack hEX (y := (⟨"com/example/sutf/sutf/codec/Tally", "add", "(I)V"⟩ : MethodName)) (z := (⟨"com/example/sutf/sutf/codec/Tally", "add", "(I)V"⟩ : MethodName)) hOW (mvT hZW (hw _ (List.mem_of_getElem? (i := 23) rfl))) (mvT hZW (hw _ (List.mem_of_getElem? (i := 24) rfl))) (notFace_of_selects (args := #[]) (mvT hZW (hw _ (List.mem_of_getElem? (i := 26) rfl)))) (mvT hZW (hw _ (List.mem_of_getElem? (i := 26) rfl))) (mvT hZW (hw _ (List.mem_of_getElem? (i := 25) rfl))) (by decide) (backOf (W := 0) (rm_addI l Z aZ hw [] b_6 c2 (((0 : Int64) + q1) + (1 : Int64)) (own_abv ((0 : Int64) + q2) c1) T_18.heap n0 (Nat.le_trans Z0 K__19.1) hq_18_0 hq_18_1 hq_18_2 ge_b_6) hZW (hw _ (List.mem_of_getElem? (i := 27) rfl)) (hw _ (List.mem_of_getElem? (i := 7) rfl)) (by decide) (by decide)) q_28a q_28c (g := (mkF m 92 #[Lv q1, Zs, Lv q2, Zs, Iv p3, Iv p4, Iv p5, Iv c1, Iv c2, Rv b_6, Lv (q2 + (own_ac c1)), Zs, Iv (1 : Int32), Us] [(.int c2), (.ref b_6)])) rfl (by rw [hMX]; rfl) (Steps.refl _) (argsL := [(.int c2)]) (rest := []) (lenOf pd__I_V_3 rfl) rfl (by show 2 * 0 + _ ≤ _; exact Nat.le_of_eq rfl) (hb hBY at_92) (fun _ _ => ⟨rfl, e_26, (by decide : 1 + 0 ≤ _), (by decide : 2 + 0 ≤ _)⟩)
  dsimp only [Pt.U, Pt.locs, Pt.cells, Pt.slots] at X_28 l_28 y_28 z_28 st_28 hQ_28
  subst l_28 y_28 z_28
  obtain ⟨rfl, N_28q, K_28, hq_28_0, hq_28_1, hq_28_2⟩ := hQ_28
  have N_28 := Fr.app N_26 N_28q
  have K__29 : Keep h0 T_28.heap [] := K__19.trans K_28 (allS (Or.inr sz_b_6) all0)
  have f_30 : Exa Z T_28.heap b_6 "com/example/sutf/sutf/codec/Tally" := hq_18_0.keep K_28
  refine Done.pre (fun _ k_ => st_28.trans k_) ?_
  show Done _ _ _ _ _ _ _ (T_28.setTop (mkF m 95 #[Lv q1, Zs, Lv q2, Zs, Iv p3, Iv p4, Iv p5, Iv c1, Iv c2, Rv b_6, Lv (q2 + (own_ac c1)), Zs, Iv (1 : Int32), Us] []))
  have sg_31 : ∀ tt_, Steps p.tables e below (T_28.setTop (mkF m 97 #[Lv q1, Zs, Lv q2, Zs, Iv p3, Iv p4, Iv p5, Iv c1, Iv c2, Rv b_6, Lv (q2 + (own_ac c1)), Zs, Iv (1 : Int32), Us] [(.ref b_6)])) tt_ → Steps p.tables e below (T_28.setTop (mkF m 95 #[Lv q1, Zs, Lv q2, Zs, Iv p3, Iv p4, Iv p5, Iv c1, Iv c2, Rv b_6, Lv (q2 + (own_ac c1)), Zs, Iv (1 : Int32), Us] [])) tt_ := by
    intro tt_ kt_
    refine XS.aload X_28.here hEX rfl (hb hBY at_95) rfl rfl ?_
    exact kt_
  refine Done.pre sg_31 ?_
  obtain ⟨cq_32, kq_32, q_32a, q_32b, q_32c⟩ := isOf hZW rfl hq_28_0
  obtain ⟨_, _, ⟨T_32, L_32, k_32, n_32⟩, -, X_32, ⟨Lc_32, hQ_32, l_32, y_32, z_32⟩, st_32⟩ := X_28.virtualBack hEX (y := (⟨"com/example/sutf/sutf/codec/Tally", "codePoints", "()J"⟩ : MethodName)) (z := (⟨"com/example/sutf/sutf/codec/Tally", "codePoints", "()J"⟩ : MethodName)) hOW (mvT hZW (hw _ (List.mem_of_getElem? (i := 35) rfl))) (mvT hZW (hw _ (List.mem_of_getElem? (i := 36) rfl))) (notFace_of_selects (args := #[]) (mvT hZW (hw _ (List.mem_of_getElem? (i := 38) rfl)))) (mvT hZW (hw _ (List.mem_of_getElem? (i := 38) rfl))) (mvT hZW (hw _ (List.mem_of_getElem? (i := 37) rfl))) (by decide) (backOf (W := 0) (rm_codePoints l Z aZ hw [] b_6 ((((0 : Int64) + q1) + (1 : Int64)) + (1 : Int64)) T_28.heap n0 (Nat.le_trans Z0 K__29.1) hq_28_1) hZW (hw _ (List.mem_of_getElem? (i := 39) rfl)) (hw _ (List.mem_of_getElem? (i := 7) rfl)) (by decide) (by decide)) q_32a q_32c (g := (mkF m 97 #[Lv q1, Zs, Lv q2, Zs, Iv p3, Iv p4, Iv p5, Iv c1, Iv c2, Rv b_6, Lv (q2 + (own_ac c1)), Zs, Iv (1 : Int32), Us] [(.ref b_6)])) rfl (by rw [hMX]; rfl) (Steps.refl _) (argsL := []) (rest := []) (lenOf pd___J_0 rfl) rfl (by show 2 * 0 + _ ≤ _; exact Nat.le_of_eq rfl) (hb hBY at_97) (fun _ _ => ⟨rfl, rfl, (by decide : 1 + 0 ≤ _), (by decide : 2 + 0 ≤ _)⟩)
  dsimp only [Pt.U, Pt.locs, Pt.cells, Pt.slots] at X_32 l_32 y_32 z_32 st_32 hQ_32
  subst l_32 y_32 z_32
  obtain ⟨rfl, N_32q, e_32⟩ := hQ_32
  have N_32 := Fr.app N_28 N_32q
  refine Done.pre (fun _ k_ => st_32.trans k_) ?_
  show Done _ _ _ _ _ _ _ (T_32.setTop (mkF m 100 #[Lv q1, Zs, Lv q2, Zs, Iv p3, Iv p4, Iv p5, Iv c1, Iv c2, Rv b_6, Lv (q2 + (own_ac c1)), Zs, Iv (1 : Int32), Us] [(.long ((((0 : Int64) + q1) + (1 : Int64)) + (1 : Int64)))]))
  have sg_33 : ∀ tt_, Steps p.tables e below (T_32.setTop (mkF m 111 #[Lv q1, Zs, Lv q2, Zs, Iv p3, Iv p4, Iv p5, Iv c1, Iv c2, Rv b_6, Lv (q2 + (own_ac c1)), Zs, Iv (1 : Int32), Us] [(.ref b_6)])) tt_ → Steps p.tables e below (T_32.setTop (mkF m 100 #[Lv q1, Zs, Lv q2, Zs, Iv p3, Iv p4, Iv p5, Iv c1, Iv c2, Rv b_6, Lv (q2 + (own_ac c1)), Zs, Iv (1 : Int32), Us] [(.long ((((0 : Int64) + q1) + (1 : Int64)) + (1 : Int64)))])) tt_ := by
    intro tt_ kt_
    refine XS.lloadN X_32.here hEX rfl (hb hBY at_100) rfl ?_
    show Steps p.tables e below (T_32.setTop (mkF m 101 #[Lv q1, Zs, Lv q2, Zs, Iv p3, Iv p4, Iv p5, Iv c1, Iv c2, Rv b_6, Lv (q2 + (own_ac c1)), Zs, Iv (1 : Int32), Us] [(.long q1), (.long ((((0 : Int64) + q1) + (1 : Int64)) + (1 : Int64)))])) tt_
    refine X_32.ldc2Long hEX hOW (mvT hZW (hw _ (List.mem_of_getElem? (i := 45) rfl))) (g := (mkF m 101 #[Lv q1, Zs, Lv q2, Zs, Iv p3, Iv p4, Iv p5, Iv c1, Iv c2, Rv b_6, Lv (q2 + (own_ac c1)), Zs, Iv (1 : Int32), Us] [(.long q1), (.long ((((0 : Int64) + q1) + (1 : Int64)) + (1 : Int64)))])) rfl (hb hBY at_101) _ ?_
    show Steps p.tables e below (T_32.setTop (mkF m 104 #[Lv q1, Zs, Lv q2, Zs, Iv p3, Iv p4, Iv p5, Iv c1, Iv c2, Rv b_6, Lv (q2 + (own_ac c1)), Zs, Iv (1 : Int32), Us] [(.long (2 : Int64)), (.long q1), (.long ((((0 : Int64) + q1) + (1 : Int64)) + (1 : Int64)))])) tt_
    refine XS.ladd X_32.here hEX rfl (hb hBY at_104) rfl ?_
    show Steps p.tables e below (T_32.setTop (mkF m 105 #[Lv q1, Zs, Lv q2, Zs, Iv p3, Iv p4, Iv p5, Iv c1, Iv c2, Rv b_6, Lv (q2 + (own_ac c1)), Zs, Iv (1 : Int32), Us] [(.long (q1 + (2 : Int64))), (.long ((((0 : Int64) + q1) + (1 : Int64)) + (1 : Int64)))])) tt_
    refine XS.lcmp X_32.here hEX rfl (hb hBY at_105) rfl ?_
    show Steps p.tables e below (T_32.setTop (mkF m 106 #[Lv q1, Zs, Lv q2, Zs, Iv p3, Iv p4, Iv p5, Iv c1, Iv c2, Rv b_6, Lv (q2 + (own_ac c1)), Zs, Iv (1 : Int32), Us] [(.int (lcmpW ((((0 : Int64) + q1) + (1 : Int64)) + (1 : Int64)) (q1 + (2 : Int64))))])) tt_
    refine XS.ifNo X_32.here hEX rfl (hb hBY at_106) rfl ((if0 _ _).trans (teq ((lw_eq _ _).mpr (own_l3 q1 : ((((0 : Int64) + q1) + (1 : Int64)) + (1 : Int64)) = (q1 + (2 : Int64))))).2) ?_
    show Steps p.tables e below (T_32.setTop (mkF m 109 #[Lv q1, Zs, Lv q2, Zs, Iv p3, Iv p4, Iv p5, Iv c1, Iv c2, Rv b_6, Lv (q2 + (own_ac c1)), Zs, Iv (1 : Int32), Us] [])) tt_
    refine XS.aload X_32.here hEX rfl (hb hBY at_109) rfl rfl ?_
    exact kt_
  refine Done.pre sg_33 ?_
  obtain ⟨cq_34, kq_34, q_34a, q_34b, q_34c⟩ := isOf hZW e_32 hq_28_0
  obtain ⟨_, _, ⟨T_34, L_34, k_34, n_34⟩, -, X_34, ⟨Lc_34, hQ_34, l_34, y_34, z_34⟩, st_34⟩ := X_32.virtualBack hEX (y := (⟨"com/example/sutf/sutf/codec/Tally", "aboveFfff", "()J"⟩ : MethodName)) (z := (⟨"com/example/sutf/sutf/codec/Tally", "aboveFfff", "()J"⟩ : MethodName)) hOW (mvT hZW (hw _ (List.mem_of_getElem? (i := 40) rfl))) (mvT hZW (hw _ (List.mem_of_getElem? (i := 41) rfl))) (notFace_of_selects (args := #[]) (mvT hZW (hw _ (List.mem_of_getElem? (i := 43) rfl)))) (mvT hZW (hw _ (List.mem_of_getElem? (i := 43) rfl))) (mvT hZW (hw _ (List.mem_of_getElem? (i := 42) rfl))) (by decide) (backOf (W := 0) (rm_aboveFfff l Z aZ hw [] b_6 (own_abv (own_abv ((0 : Int64) + q2) c1) c2) T_28.heap n0 (Nat.le_trans Z0 K__29.1) hq_28_2) hZW (hw _ (List.mem_of_getElem? (i := 44) rfl)) (hw _ (List.mem_of_getElem? (i := 7) rfl)) (by decide) (by decide)) q_34a q_34c (g := (mkF m 111 #[Lv q1, Zs, Lv q2, Zs, Iv p3, Iv p4, Iv p5, Iv c1, Iv c2, Rv b_6, Lv (q2 + (own_ac c1)), Zs, Iv (1 : Int32), Us] [(.ref b_6)])) rfl (by rw [hMX]; rfl) (Steps.refl _) (argsL := []) (rest := []) (lenOf pd___J_0 rfl) rfl (by show 2 * 0 + _ ≤ _; exact Nat.le_of_eq rfl) (hb hBY at_111) (fun _ _ => ⟨rfl, e_32, (by decide : 1 + 0 ≤ _), (by decide : 2 + 0 ≤ _)⟩)
  dsimp only [Pt.U, Pt.locs, Pt.cells, Pt.slots] at X_34 l_34 y_34 z_34 st_34 hQ_34
  subst l_34 y_34 z_34
  obtain ⟨rfl, N_34q, e_34⟩ := hQ_34
  have N_34 := Fr.app N_32 N_34q
  refine Done.pre (fun _ k_ => st_34.trans k_) ?_
  show Done _ _ _ _ _ _ _ (T_34.setTop (mkF m 114 #[Lv q1, Zs, Lv q2, Zs, Iv p3, Iv p4, Iv p5, Iv c1, Iv c2, Rv b_6, Lv (q2 + (own_ac c1)), Zs, Iv (1 : Int32), Us] [(.long (own_abv (own_abv ((0 : Int64) + q2) c1) c2))]))
  have sg_35 : ∀ tt_, Steps p.tables e below (T_34.setTop (mkF m 118 #[Lv q1, Zs, Lv q2, Zs, Iv p3, Iv p4, Iv p5, Iv c1, Iv c2, Rv b_6, Lv (q2 + (own_ac c1)), Zs, Iv (1 : Int32), Us] [(.int c2), (.long (q2 + (own_ac c1))), (.long (own_abv (own_abv ((0 : Int64) + q2) c1) c2))])) tt_ → Steps p.tables e below (T_34.setTop (mkF m 114 #[Lv q1, Zs, Lv q2, Zs, Iv p3, Iv p4, Iv p5, Iv c1, Iv c2, Rv b_6, Lv (q2 + (own_ac c1)), Zs, Iv (1 : Int32), Us] [(.long (own_abv (own_abv ((0 : Int64) + q2) c1) c2))])) tt_ := by
    intro tt_ kt_
    refine XS.lload X_34.here hEX rfl (hb hBY at_114) rfl ?_
    show Steps p.tables e below (T_34.setTop (mkF m 116 #[Lv q1, Zs, Lv q2, Zs, Iv p3, Iv p4, Iv p5, Iv c1, Iv c2, Rv b_6, Lv (q2 + (own_ac c1)), Zs, Iv (1 : Int32), Us] [(.long (q2 + (own_ac c1))), (.long (own_abv (own_abv ((0 : Int64) + q2) c1) c2))])) tt_
    refine XS.iload X_34.here hEX rfl (hb hBY at_116) rfl ?_
    exact kt_
  refine Done.pre sg_35 ?_
  obtain ⟨_, _, ⟨T_36, L_36, k_36, n_36⟩, -, X_36, ⟨Lc_36, hQ_36, l_36, y_36, z_36⟩, st_36⟩ := Jvm.LawKit.callS X_34 hEX (y := (⟨"com/example/sutf/sutf/codec/TallyAddPinLaw", "aboveCount", "(I)J"⟩ : MethodName)) hOW (mvT hZW (hw _ (List.mem_of_getElem? (i := 30) rfl))) (mvT hZW (hw _ (List.mem_of_getElem? (i := 31) rfl))) (mvT hZW (hw _ (List.mem_of_getElem? (i := 2) rfl))) (mvT hZW (hw _ (List.mem_of_getElem? (i := 32) rfl))) (by decide) (backOf (W := 4) (rm_ac l Z aZ hw [] c2 T_28.heap n0 (Nat.le_trans Z0 K__29.1) ) hZW (hw _ (List.mem_of_getElem? (i := 32) rfl)) (hw _ (List.mem_of_getElem? (i := 2) rfl)) (by decide) (by decide)) (g := (mkF m 118 #[Lv q1, Zs, Lv q2, Zs, Iv p3, Iv p4, Iv p5, Iv c1, Iv c2, Rv b_6, Lv (q2 + (own_ac c1)), Zs, Iv (1 : Int32), Us] [(.int c2), (.long (q2 + (own_ac c1))), (.long (own_abv (own_abv ((0 : Int64) + q2) c1) c2))])) rfl (by rw [hMX]; rfl) (argsL := [(.int c2)]) (rest := [(.long (q2 + (own_ac c1))), (.long (own_abv (own_abv ((0 : Int64) + q2) c1) c2))]) (lenOf pd__I_J_2 rfl) rfl (by show 2 * 0 + _ ≤ _; exact Nat.le_of_eq rfl) (hb hBY at_118) (fun _ _ => ⟨rfl, e_34, (by decide : 1 + 0 ≤ _), (by decide : 2 + 0 ≤ _)⟩)
  dsimp only [Pt.U, Pt.locs, Pt.cells, Pt.slots] at X_36 l_36 y_36 z_36 st_36 hQ_36
  subst l_36 y_36 z_36
  obtain ⟨rfl, N_36q, e_36⟩ := hQ_36
  have N_36 := Fr.app N_34 N_36q
  refine Done.pre (fun _ k_ => st_36 _ k_) ?_
  show Done _ _ _ _ _ _ _ (T_36.setTop (mkF m 121 #[Lv q1, Zs, Lv q2, Zs, Iv p3, Iv p4, Iv p5, Iv c1, Iv c2, Rv b_6, Lv (q2 + (own_ac c1)), Zs, Iv (1 : Int32), Us] [(.long (own_ac c2)), (.long (q2 + (own_ac c1))), (.long (own_abv (own_abv ((0 : Int64) + q2) c1) c2))]))
  have sg_37 : ∀ tt_, Steps p.tables e below (T_36.setTop (mkF m 148 #[Lv q1, Zs, Lv q2, Zs, Iv p3, Iv p4, Iv p5, Iv c1, Iv c2, Rv b_6, Lv (q2 + (own_ac c1)), Zs, Iv (1 : Int32), Iv (1 : Int32)] [(.int (1 : Int32))])) tt_ → Steps p.tables e below (T_36.setTop (mkF m 121 #[Lv q1, Zs, Lv q2, Zs, Iv p3, Iv p4, Iv p5, Iv c1, Iv c2, Rv b_6, Lv (q2 + (own_ac c1)), Zs, Iv (1 : Int32), Us] [(.long (own_ac c2)), (.long (q2 + (own_ac c1))), (.long (own_abv (own_abv ((0 : Int64) + q2) c1) c2))])) tt_ := by
    intro tt_ kt_
    refine XS.ladd X_36.here hEX rfl (hb hBY at_121) rfl ?_
    show Steps p.tables e below (T_36.setTop (mkF m 122 #[Lv q1, Zs, Lv q2, Zs, Iv p3, Iv p4, Iv p5, Iv c1, Iv c2, Rv b_6, Lv (q2 + (own_ac c1)), Zs, Iv (1 : Int32), Us] [(.long ((q2 + (own_ac c1)) + (own_ac c2))), (.long (own_abv (own_abv ((0 : Int64) + q2) c1) c2))])) tt_
    refine XS.lcmp X_36.here hEX rfl (hb hBY at_122) rfl ?_
    show Steps p.tables e below (T_36.setTop (mkF m 123 #[Lv q1, Zs, Lv q2, Zs, Iv p3, Iv p4, Iv p5, Iv c1, Iv c2, Rv b_6, Lv (q2 + (own_ac c1)), Zs, Iv (1 : Int32), Us] [(.int (lcmpW (own_abv (own_abv ((0 : Int64) + q2) c1) c2) ((q2 + (own_ac c1)) + (own_ac c2))))])) tt_
    refine XS.ifNo X_36.here hEX rfl (hb hBY at_123) rfl ((if0 _ _).trans (teq ((lw_eq _ _).mpr (own_l4 q2 c1 c2 : (own_abv (own_abv ((0 : Int64) + q2) c1) c2) = ((q2 + (own_ac c1)) + (own_ac c2))))).2) ?_
    show Steps p.tables e below (T_36.setTop (mkF m 126 #[Lv q1, Zs, Lv q2, Zs, Iv p3, Iv p4, Iv p5, Iv c1, Iv c2, Rv b_6, Lv (q2 + (own_ac c1)), Zs, Iv (1 : Int32), Us] [])) tt_
    refine XS.iconst X_36.here hEX rfl (hb hBY at_126) ?_
    show Steps p.tables e below (T_36.setTop (mkF m 127 #[Lv q1, Zs, Lv q2, Zs, Iv p3, Iv p4, Iv p5, Iv c1, Iv c2, Rv b_6, Lv (q2 + (own_ac c1)), Zs, Iv (1 : Int32), Us] [(.int (1 : Int32))])) tt_
    refine XS.goto X_36.here hEX rfl (pc0 := 127) (pc' := 131) rfl (hb hBY at_127) (by decide) (by decide) ?_
    show Steps p.tables e below (T_36.setTop (mkF m 131 #[Lv q1, Zs, Lv q2, Zs, Iv p3, Iv p4, Iv p5, Iv c1, Iv c2, Rv b_6, Lv (q2 + (own_ac c1)), Zs, Iv (1 : Int32), Us] [(.int (1 : Int32))])) tt_
    refine XS.istore X_36.here hEX rfl (hb hBY at_131) rfl (l' := #[Lv q1, Zs, Lv q2, Zs, Iv p3, Iv p4, Iv p5, Iv c1, Iv c2, Rv b_6, Lv (q2 + (own_ac c1)), Zs, Iv (1 : Int32), Iv (1 : Int32)]) rfl ?_
    show Steps p.tables e below (T_36.setTop (mkF m 133 #[Lv q1, Zs, Lv q2, Zs, Iv p3, Iv p4, Iv p5, Iv c1, Iv c2, Rv b_6, Lv (q2 + (own_ac c1)), Zs, Iv (1 : Int32), Iv (1 : Int32)] [])) tt_
    refine XS.iload X_36.here hEX rfl (hb hBY at_133) rfl ?_
    show Steps p.tables e below (T_36.setTop (mkF m 135 #[Lv q1, Zs, Lv q2, Zs, Iv p3, Iv p4, Iv p5, Iv c1, Iv c2, Rv b_6, Lv (q2 + (own_ac c1)), Zs, Iv (1 : Int32), Iv (1 : Int32)] [(.int (1 : Int32))])) tt_
    refine XS.ifNo X_36.here hEX rfl (hb hBY at_135) rfl ((if0 _ _).trans (feq (by decide : ¬ ((1 : Int32) = (0 : Int32)))).1) ?_
    show Steps p.tables e below (T_36.setTop (mkF m 138 #[Lv q1, Zs, Lv q2, Zs, Iv p3, Iv p4, Iv p5, Iv c1, Iv c2, Rv b_6, Lv (q2 + (own_ac c1)), Zs, Iv (1 : Int32), Iv (1 : Int32)] [])) tt_
    refine XS.iload X_36.here hEX rfl (hb hBY at_138) rfl ?_
    show Steps p.tables e below (T_36.setTop (mkF m 140 #[Lv q1, Zs, Lv q2, Zs, Iv p3, Iv p4, Iv p5, Iv c1, Iv c2, Rv b_6, Lv (q2 + (own_ac c1)), Zs, Iv (1 : Int32), Iv (1 : Int32)] [(.int (1 : Int32))])) tt_
    refine XS.ifNo X_36.here hEX rfl (hb hBY at_140) rfl ((if0 _ _).trans (feq (by decide : ¬ ((1 : Int32) = (0 : Int32)))).1) ?_
    show Steps p.tables e below (T_36.setTop (mkF m 143 #[Lv q1, Zs, Lv q2, Zs, Iv p3, Iv p4, Iv p5, Iv c1, Iv c2, Rv b_6, Lv (q2 + (own_ac c1)), Zs, Iv (1 : Int32), Iv (1 : Int32)] [])) tt_
    refine XS.iconst X_36.here hEX rfl (hb hBY at_143) ?_
    show Steps p.tables e below (T_36.setTop (mkF m 144 #[Lv q1, Zs, Lv q2, Zs, Iv p3, Iv p4, Iv p5, Iv c1, Iv c2, Rv b_6, Lv (q2 + (own_ac c1)), Zs, Iv (1 : Int32), Iv (1 : Int32)] [(.int (1 : Int32))])) tt_
    refine XS.goto X_36.here hEX rfl (pc0 := 144) (pc' := 148) rfl (hb hBY at_144) (by decide) (by decide) ?_
    exact kt_
  refine Done.pre sg_37 ?_
  exact Done.retN X_36 hEX hLK (t := .boolean) hRT (by simp) (hb hBY at_148) (by rw [e_36]; exact ⟨rfl, N_36, K__29⟩) (by decide) (by decide)
set_option maxRecDepth 65536 in
set_option maxHeartbeats 40000000 in
theorem comes_1 {Post : Tables → Env → Array Value → State → Outcome → State → Prop} (hpost : ∀ tb e args s v u, (limb_1_1.after args s (.returned v) u = true ∧ limb_1_2.after args s (.returned v) u = true ∧ True) → FrameEnd s (.returned v) u (Jvm.fieldLocs frame_1_writes args s ++ Jvm.arrayLocs frame_1_arrays args s ++ Jvm.staticLocs frame_1_statics s) 16 128 → Post tb e args s (.returned v) u) :
    ArmFor flags0 classFile x code maxLocals ret World_1 tables_1 room_1 Calls_1 rest_1 Pre_1 Post := by
  intro l hfl _ _ p e ha hc hk s m args below hf hA hF happ hP
  obtain ⟨hcalls, hrest, hpre⟩ := hP
  obtain ⟨-, -, -, hnamed, -, -, -, hat⟩ := (Spec.applies_iff hf).mp happ
  obtain ⟨hg, hn⟩ := and_e (Cond.before_iff.mp (show (Jvm.Cond.and given_1 narrow_1).before args s = true from hpre))
  obtain ⟨g1a, g1b⟩ := and_e hg
  obtain ⟨g2a, g2b⟩ := and_e g1b
  obtain ⟨g3a, g3b⟩ := and_e g2b
  obtain ⟨g4a, g4b⟩ := and_e g3b
  obtain ⟨g5a, g5b⟩ := and_e g4b
  obtain ⟨w0, w1, w2, w3, w4, rfl⟩ : ∃ w0 w1 w2 w3 w4 : Value, args = #[w0, w1, w2, w3, w4] := by
    have hs : args.size = 5 := by simpa [Cond.value, given_1] using g1a
    obtain ⟨L⟩ := args
    match L, hs with
    | [w0, w1, w2, w3, w4], _ => exact ⟨w0, w1, w2, w3, w4, rfl⟩
  have hw := fun d (hd : d ∈ tables_1) => atoms_spec (ws := Jvm.Cond.code x code maxLocals ret :: tables_1) hat d (List.mem_cons_of_mem _ hd)
  have hfit : Fit s := fun {y c} hc i hi => by
    obtain ⟨ha, rfl⟩ := Array.getElem?_eq_some_iff.mp hc
    have q := List.all_eq_true.mp ((Array.all_eq_true_iff_forall_mem.mp hF) _ (Array.getElem_mem ha)) i (List.mem_range.mpr hi)
    simpa [Array.getElem?_eq_getElem hi] using q
  obtain ⟨i0, ei0⟩ := isL_v g2a
  obtain rfl : w0 = (.long i0) := Option.some.inj ei0
  obtain ⟨i1, ei1⟩ := isL_v g3a
  obtain rfl : w1 = (.long i1) := Option.some.inj ei1
  obtain ⟨i2, ei2⟩ := is_v g4a
  obtain rfl : w2 = (.int i2) := Option.some.inj ei2
  obtain ⟨i3, ei3⟩ := is_v g5a
  obtain rfl : w3 = (.int i3) := Option.some.inj ei3
  obtain ⟨i4, ei4⟩ := is_v g5b
  obtain rfl : w4 = (.int i4) := Option.some.inj ei4
  obtain ⟨n, o, h1, h2, h3, _, L, rfl, ⟨rfl, N, -⟩, hq⟩ := rm0 l s _ hw tables_1 i0 i1 i2 i3 i4  s.heap s.heap.size (Nat.le_refl _)  p e ha hc hk s m _ below hf ((Spec.applies_iff_loose hf).mp happ).1 ⟨rfl, State.Warmed39.refl s, rfl⟩ trivial
  refine ⟨n, _, h1, h2, h3, hpost _ _ _ _ _ _ ⟨Cond.after_iff.mpr rfl, Cond.after_iff.mpr (eq_i res_at (Term.int_eval (1)) rfl), trivial⟩ ⟨hq.1, hq.2.1, (hq.2.2.sift fun y hy => Or.inr (N y hy)).mono (by decide) (by decide)⟩⟩
theorem main_1_1 : Claimed_1_1 := comes_1 fun _ _ _ _ _ _ h hF => ⟨h.1, hF⟩
theorem main_1_2 : Claimed_1_2 := comes_1 fun _ _ _ _ _ _ h hF => ⟨h.2.1, hF⟩
end Jvm.Pilot.@@N@@
namespace Jvm.Pilot.@@N@@
open Jvm Jvm.ClassFile Sem Op Lib Jvm.Free Jvm.Stand Jvm.Pilot.@@N@@.Jvm.D
/-! MADE BY PROGRAM (witnessworld.py) out of the Statement's table words and the real class files: 9 classes; the members and pool entries that the words name. The judged class is class 1, her method 3. -/
namespace start1
open Jvm.ClassFile
def u (s : String) : CpInfo := .utf8 (stringToUtf16 s)
/-- a pool by its gaps: so many unusable entries, then the entry; so many at the end -/
def gap : Nat → List CpInfo → List CpInfo
  | 0, r => r
  | n + 1, r => .unusable :: gap n r
def poolList (es : List (Nat × CpInfo)) (last : Nat) : List CpInfo := es.foldr (fun e r => gap e.1 (e.2 :: r)) (gap last [])
def pool (es : List (Nat × CpInfo)) (last : Nat) : Array CpInfo := ⟨poolList es last⟩
def fileOf (pool : Array CpInfo) (this : Nat) (attrs : Array Attribute := #[]) (ms : Array MethodInfo := #[]) (fl : Nat := 33) (sup : Nat := 0) (ifs : Array Nat := #[]) (fds : Array FieldInfo := #[]) : ClassFile where
  minorVersion := 0
  majorVersion := 65
  constantPool := pool
  accessFlags := fl
  thisClass := this
  superClass := sup
  interfaces := ifs
  fields := fds
  methods := ms
  attributes := attrs
def plain (name : String) (sup : Option ClassId) : Class where
  name := name
  kind := .ordinary
  loader := none
  accessFlags := 33
  super := sup
  interfaces := #[]
  cf := none
  fields := #[]
  methods := #[]
  instanceTypes := #[]
  staticTypes := #[]
  resolved := #[]
  callSites := []
  init := .initialized
  statics := none
  mirror := none

def pool0 : Array CpInfo := pool [(5, u "<init>"), (0, u "()V"), (1, .class_ 10), (1, u "java/lang/Object")] 113

def k0c0 : Code := { maxStack := 0, maxLocals := 1, code := object_method_1_code, exceptionTable := #[], attributes := #[] }
def k0m0 : Method := { name := "<init>", desc := "()V", sig := { parameters := [], returnType := none }, accessFlags := 1, code := some k0c0 }
/-- java/lang/Object -/
def k0 : Class := { plain "java/lang/Object" none with
  accessFlags := 33
  interfaces := #[]
  cf := some (fileOf pool0 8 #[] #[{ accessFlags := 1, nameIndex := 5, descriptorIndex := 6, attributes := #[] }] 33 0 #[] #[])
  fields := #[]
  methods := #[k0m0]
  instanceTypes := #[]
  staticTypes := #[]
  resolved := Array.replicate 124 none
  statics := none }

def pool1 : Array CpInfo := pool [(2, .class_ 4), (0, .nameAndType 5 6), (0, u "java/lang/Object"), (0, u "<init>"), (0, u "()V"), (0, .integer 2147483647), (0, .integer 65535), (0, .integer 65536), (2, .integer 2147483648), (0, .integer 1114111), (0, .long 65536), (1, .methodref 17 18), (0, .class_ 19), (0, .nameAndType 20 21), (0, u "com/example/sutf/sutf/codec/TallyAddPinLaw"), (0, u "pick"), (0, u "(II)I"), (0, .class_ 23), (0, u "com/example/sutf/sutf/codec/Tally"), (0, .methodref 22 3), (0, .methodref 22 26), (0, .nameAndType 27 28), (0, u "add"), (0, u "(JJ)V"), (0, .methodref 22 30), (0, .nameAndType 27 31), (0, u "(I)V"), (0, .methodref 17 33), (0, .nameAndType 34 35), (0, u "aboveCount"), (0, u "(I)J"), (0, .methodref 22 37), (0, .nameAndType 38 39), (0, u "codePoints"), (0, u "()J"), (0, .methodref 22 41), (0, .nameAndType 42 39), (0, u "aboveFfff"), (0, .long 2), (4, u "law"), (0, u "(JJIII)Z")] 2

def k1m0 : Method := { name := "<init>", desc := "()V", sig := { parameters := [], returnType := none }, accessFlags := 2, code := none }
def k1c1 : Code := { maxStack := 2, maxLocals := 2, code := method_2_code, exceptionTable := #[], attributes := #[] }
def k1m1 : Method := { name := "pick", desc := "(II)I", sig := { parameters := [.int, .int], returnType := some .int }, accessFlags := 10, code := some k1c1 }
def k1c2 : Code := { maxStack := 4, maxLocals := 3, code := method_3_code, exceptionTable := #[], attributes := #[] }
def k1m2 : Method := { name := "aboveCount", desc := "(I)J", sig := { parameters := [.int], returnType := some .long }, accessFlags := 10, code := some k1c2 }
def k1c3 : Code := { maxStack := 6, maxLocals := 14, code := code, exceptionTable := #[], attributes := #[] }
def k1m3 : Method := { name := "law", desc := "(JJIII)Z", sig := { parameters := [.long, .long, .int, .int, .int], returnType := some .boolean }, accessFlags := 9, code := some k1c3 }
/-- com/example/sutf/sutf/codec/TallyAddPinLaw -/
def k1 : Class := { plain "com/example/sutf/sutf/codec/TallyAddPinLaw" (some 0) with
  accessFlags := 49
  interfaces := #[]
  cf := some (fileOf pool1 17 #[] #[{ accessFlags := 2, nameIndex := 5, descriptorIndex := 6, attributes := #[] }, { accessFlags := 10, nameIndex := 20, descriptorIndex := 21, attributes := #[] }, { accessFlags := 10, nameIndex := 34, descriptorIndex := 35, attributes := #[] }, { accessFlags := 9, nameIndex := 48, descriptorIndex := 49, attributes := #[] }] 49 2 #[] #[])
  fields := #[]
  methods := #[k1m0, k1m1, k1m2, k1m3]
  instanceTypes := #[]
  staticTypes := #[]
  resolved := Array.replicate 52 none
  statics := none }

def pool2 : Array CpInfo := pool [(1, .methodref 2 3), (0, .class_ 4), (0, .nameAndType 5 6), (0, u "java/lang/Object"), (0, u "<init>"), (0, u "()V"), (0, .fieldref 8 9), (0, .class_ 10), (0, .nameAndType 11 12), (0, u "com/example/sutf/sutf/codec/Tally"), (0, u "codePoints"), (0, u "J"), (0, .integer 65535), (2, .integer 2147483648), (0, .fieldref 8 18), (0, .nameAndType 19 12), (0, u "aboveFfff"), (2, u "add"), (0, u "(I)V"), (1, u "(JJ)V"), (0, u "()J")] 2

def k2c0 : Code := { maxStack := 1, maxLocals := 1, code := prog_17_method_1_code, exceptionTable := #[], attributes := #[] }
def k2m0 : Method := { name := "<init>", desc := "()V", sig := { parameters := [], returnType := none }, accessFlags := 1, code := some k2c0 }
def k2c1 : Code := { maxStack := 5, maxLocals := 2, code := prog_17_method_2_code, exceptionTable := #[], attributes := #[] }
def k2m1 : Method := { name := "add", desc := "(I)V", sig := { parameters := [.int], returnType := none }, accessFlags := 1, code := some k2c1 }
def k2c2 : Code := { maxStack := 5, maxLocals := 5, code := prog_17_method_3_code, exceptionTable := #[], attributes := #[] }
def k2m2 : Method := { name := "add", desc := "(JJ)V", sig := { parameters := [.long, .long], returnType := none }, accessFlags := 0, code := some k2c2 }
def k2c3 : Code := { maxStack := 2, maxLocals := 1, code := prog_17_method_4_code, exceptionTable := #[], attributes := #[] }
def k2m3 : Method := { name := "codePoints", desc := "()J", sig := { parameters := [], returnType := some .long }, accessFlags := 1, code := some k2c3 }
def k2c4 : Code := { maxStack := 2, maxLocals := 1, code := prog_17_method_5_code, exceptionTable := #[], attributes := #[] }
def k2m4 : Method := { name := "aboveFfff", desc := "()J", sig := { parameters := [], returnType := some .long }, accessFlags := 1, code := some k2c4 }
/-- com/example/sutf/sutf/codec/Tally -/
def k2 : Class := { plain "com/example/sutf/sutf/codec/Tally" (some 0) with
  accessFlags := 49
  interfaces := #[]
  cf := some (fileOf pool2 8 #[] #[{ accessFlags := 1, nameIndex := 5, descriptorIndex := 6, attributes := #[] }, { accessFlags := 1, nameIndex := 22, descriptorIndex := 23, attributes := #[] }, { accessFlags := 0, nameIndex := 22, descriptorIndex := 25, attributes := #[] }, { accessFlags := 1, nameIndex := 11, descriptorIndex := 26, attributes := #[] }, { accessFlags := 1, nameIndex := 19, descriptorIndex := 26, attributes := #[] }] 49 2 #[] #[{ accessFlags := 2, nameIndex := 11, descriptorIndex := 12, attributes := #[] }, { accessFlags := 2, nameIndex := 19, descriptorIndex := 12, attributes := #[] }])
  fields := #[{ name := "codePoints", type := .long, accessFlags := 2, slot := 0, constantValue := 0 }, { name := "aboveFfff", type := .long, accessFlags := 2, slot := 1, constantValue := 0 }]
  methods := #[k2m0, k2m1, k2m2, k2m3, k2m4]
  instanceTypes := #[.long, .long]
  staticTypes := #[]
  resolved := Array.replicate 29 none
  statics := none }

def pool3 : Array CpInfo := pool [(1, u "java/lang/Cloneable"), (0, .class_ 1), (0, u "java/lang/Object"), (0, .class_ 3)] 3

/-- java/lang/Cloneable -/
def k3 : Class := { plain "java/lang/Cloneable" (some 0) with
  accessFlags := 1537
  interfaces := #[]
  cf := some (fileOf pool3 2 #[] #[] 1537 4 #[] #[])
  fields := #[]
  methods := #[]
  instanceTypes := #[]
  staticTypes := #[]
  resolved := Array.replicate 8 none
  statics := none }

def pool4 : Array CpInfo := pool [(1, u "java/io/Serializable"), (0, .class_ 1), (0, u "java/lang/Object"), (0, .class_ 3)] 3

/-- java/io/Serializable -/
def k4 : Class := { plain "java/io/Serializable" (some 0) with
  accessFlags := 1537
  interfaces := #[]
  cf := some (fileOf pool4 2 #[] #[] 1537 4 #[] #[])
  fields := #[]
  methods := #[]
  instanceTypes := #[]
  staticTypes := #[]
  resolved := Array.replicate 8 none
  statics := none }

/-- the primitive byte -/
def k5 : Class := { plain "byte" none with kind := .primitive 'B', accessFlags := 0x411 }
/-- [B -/
def k6 : Class := { plain "[B" (some 0) with kind := .array 5 .byte, interfaces := #[3, 4], accessFlags := 1041 }

/-- the primitive int -/
def k7 : Class := { plain "int" none with kind := .primitive 'I', accessFlags := 0x411 }
/-- [I -/
def k8 : Class := { plain "[I" (some 0) with kind := .array 7 .int, interfaces := #[3, 4], accessFlags := 1041 }

def heap : Heap := #[]
def classes : Array Class := #[k0, k1, k2, k3, k4, k5, k6, k7, k8]
def interned : List (Array UInt16 × Addr) := []
def slotsUsed : Nat := 0
def theMethod : MethodId := ⟨1, 3⟩
def args0 : Array Value := #[.long 1, .long 2, .int 5, .int 6, .int 7]
def aboutOver (below : List Frame) : State where
  vm := { classes := classes, interned := interned.toArray }
  heap := heap
  slotsUsed := slotsUsed
  threads := #[{ frames := .invoking theMethod args0 :: below }]
def below0 : List Frame := [.native { method := ⟨0, 0⟩, args := #[] }]
def about1 : State := aboutOver below0
def p0 : Program := .bare "" "" ""
def e0 : Env := launch0.env 0 0 0
theorem w_frames : about1.frames = Frame.invoking theMethod args0 :: below0 := rfl
set_option maxRecDepth 65536 in
theorem w_args : argsFit about1.vm theMethod args0 = true := by decide +kernel
set_option maxRecDepth 65536 in
theorem w_heap : heapFits about1 = true := by decide +kernel
set_option maxRecDepth 65536 in
theorem w_runnable : about1.curStatus? = some .runnable := by decide +kernel
set_option maxRecDepth 65536 in
theorem w_alone : about1.alone = true := by decide +kernel
set_option maxRecDepth 65536 in
theorem w_named : about1.methodNamed? x = some theMethod := by decide +kernel
set_option maxRecDepth 65536 in
theorem w_hears : about1.hears theMethod below0 = true := by decide +kernel
set_option maxRecDepth 65536 in
theorem w_ripe : about1.ripe theMethod args0 below0 = true := by decide +kernel
theorem w_running : about1.status = .running := rfl
set_option maxRecDepth 65536 in
theorem w_room : about1.hasRoom e0.platform room_1 = true :=
  launch0.hasRoom_least _ room_1 (by decide +kernel) (by decide +kernel) (by decide +kernel) (by decide +kernel) (by decide +kernel) (by decide +kernel)
theorem allAtoms_all (ts : List Jvm.Cond) (a : Array Jvm.Value) (st : Jvm.State) : (allAtoms ts).before a st = ts.all (fun c => c.before a st) := by
  induction ts with
  | nil => rfl
  | cons c t ih =>
    show (Jvm.Cond.and c (allAtoms t)).before a st = _
    rw [Jvm.Cond.before_and, ih, List.all_cons]
def words1 : List Jvm.Cond := Jvm.Cond.code x code maxLocals ret :: tables_1
/-- a 'code' word, met by the world's own term for the bytes: nothing is compared byte by byte -/
theorem code_word {y : MethodName} {bytes : ByteArray} {mx : Nat} {rt : Option FieldType} {a : Array Value} {s : State} {m : MethodId} {meth : Method} {c : Code} (h1 : s.methodNamed? y = some m) (h2 : s.vm.method? m = some meth) (h3 : meth.code = some c) (h4 : c.code = bytes)
    (h5 : (c.maxLocals == mx && c.exceptionTable.isEmpty && decide (c.maxStack ≤ mostOperands) && decide (meth.sig.returnType = rt) && !meth.locks && decide (parseMethodDescriptor y.desc = some meth.sig)) = true) : (Jvm.Cond.code y bytes mx rt).before a s = true := by
  simp only [Bool.and_eq_true, beq_iff_eq, Bool.not_eq_true', decide_eq_true_eq] at h5
  obtain ⟨⟨⟨⟨⟨g1, g2⟩, g3⟩, g4⟩, g5⟩, g6⟩ := h5
  simp [Cond.before, Cond.holds, Cond.value, h1, h2, h3, h4, g1, g2, g3, g4, g5, g6]
def isCode : Jvm.Cond → Bool
  | .code _ _ _ _ => true
  | _ => false
theorem all_split {L : List Jvm.Cond} {P : Jvm.Cond → Bool} (h1 : L.all (fun c => isCode c || P c) = true) (h2 : ∀ c ∈ L.filter isCode, P c = true) : L.all P = true := by
  refine List.all_eq_true.mpr fun c hc => ?_
  have h := List.all_eq_true.mp h1 c hc
  rcases Bool.eq_false_or_eq_true (isCode c) with hi | hi
  · exact h2 c (List.mem_filter.mpr ⟨hc, hi⟩)
  · simpa [hi] using h
set_option maxRecDepth 65536 in
theorem w_c0 : (Jvm.Cond.code x code maxLocals ret).before args0 about1 = true := code_word (m := ⟨1, 3⟩) (meth := k1m3) (c := k1c3) (by decide +kernel) rfl rfl rfl (by decide +kernel)
set_option maxRecDepth 65536 in
theorem w_c1 : (Jvm.Cond.code ({ cls := "com/example/sutf/sutf/codec/TallyAddPinLaw", name := "pick", desc := "(II)I" } : Jvm.MethodName) method_2_code (2 : Nat) (Option.some Jvm.ClassFile.FieldType.int)).before args0 about1 = true := code_word (m := ⟨1, 1⟩) (meth := k1m1) (c := k1c1) (by decide +kernel) rfl rfl rfl (by decide +kernel)
set_option maxRecDepth 65536 in
theorem w_c2 : (Jvm.Cond.code ({ cls := "com/example/sutf/sutf/codec/Tally", name := "<init>", desc := "()V" } : Jvm.MethodName) prog_17_method_1_code (1 : Nat) (Option.none : Option Jvm.ClassFile.FieldType)).before args0 about1 = true := code_word (m := ⟨2, 0⟩) (meth := k2m0) (c := k2c0) (by decide +kernel) rfl rfl rfl (by decide +kernel)
set_option maxRecDepth 65536 in
theorem w_c3 : (Jvm.Cond.code ({ cls := "java/lang/Object", name := "<init>", desc := "()V" } : Jvm.MethodName) object_method_1_code (1 : Nat) (Option.none : Option Jvm.ClassFile.FieldType)).before args0 about1 = true := code_word (m := ⟨0, 0⟩) (meth := k0m0) (c := k0c0) (by decide +kernel) rfl rfl rfl (by decide +kernel)
set_option maxRecDepth 65536 in
theorem w_c4 : (Jvm.Cond.code ({ cls := "com/example/sutf/sutf/codec/Tally", name := "add", desc := "(JJ)V" } : Jvm.MethodName) prog_17_method_3_code (5 : Nat) (Option.none : Option Jvm.ClassFile.FieldType)).before args0 about1 = true := code_word (m := ⟨2, 2⟩) (meth := k2m2) (c := k2c2) (by decide +kernel) rfl rfl rfl (by decide +kernel)
set_option maxRecDepth 65536 in
theorem w_c5 : (Jvm.Cond.code ({ cls := "com/example/sutf/sutf/codec/Tally", name := "add", desc := "(I)V" } : Jvm.MethodName) prog_17_method_2_code (2 : Nat) (Option.none : Option Jvm.ClassFile.FieldType)).before args0 about1 = true := code_word (m := ⟨2, 1⟩) (meth := k2m1) (c := k2c1) (by decide +kernel) rfl rfl rfl (by decide +kernel)
set_option maxRecDepth 65536 in
theorem w_c6 : (Jvm.Cond.code ({ cls := "com/example/sutf/sutf/codec/TallyAddPinLaw", name := "aboveCount", desc := "(I)J" } : Jvm.MethodName) method_3_code (3 : Nat) (Option.some Jvm.ClassFile.FieldType.long)).before args0 about1 = true := code_word (m := ⟨1, 2⟩) (meth := k1m2) (c := k1c2) (by decide +kernel) rfl rfl rfl (by decide +kernel)
set_option maxRecDepth 65536 in
theorem w_c7 : (Jvm.Cond.code ({ cls := "com/example/sutf/sutf/codec/Tally", name := "codePoints", desc := "()J" } : Jvm.MethodName) prog_17_method_4_code (1 : Nat) (Option.some Jvm.ClassFile.FieldType.long)).before args0 about1 = true := code_word (m := ⟨2, 3⟩) (meth := k2m3) (c := k2c3) (by decide +kernel) rfl rfl rfl (by decide +kernel)
set_option maxRecDepth 65536 in
theorem w_c8 : (Jvm.Cond.code ({ cls := "com/example/sutf/sutf/codec/Tally", name := "aboveFfff", desc := "()J" } : Jvm.MethodName) prog_17_method_5_code (1 : Nat) (Option.some Jvm.ClassFile.FieldType.long)).before args0 about1 = true := code_word (m := ⟨2, 4⟩) (meth := k2m4) (c := k2c4) (by decide +kernel) rfl rfl rfl (by decide +kernel)
def codes1 : List Jvm.Cond := [Jvm.Cond.code x code maxLocals ret, Jvm.Cond.code ({ cls := "com/example/sutf/sutf/codec/TallyAddPinLaw", name := "pick", desc := "(II)I" } : Jvm.MethodName) method_2_code (2 : Nat) (Option.some Jvm.ClassFile.FieldType.int), Jvm.Cond.code ({ cls := "com/example/sutf/sutf/codec/Tally", name := "<init>", desc := "()V" } : Jvm.MethodName) prog_17_method_1_code (1 : Nat) (Option.none : Option Jvm.ClassFile.FieldType), Jvm.Cond.code ({ cls := "java/lang/Object", name := "<init>", desc := "()V" } : Jvm.MethodName) object_method_1_code (1 : Nat) (Option.none : Option Jvm.ClassFile.FieldType), Jvm.Cond.code ({ cls := "com/example/sutf/sutf/codec/Tally", name := "add", desc := "(JJ)V" } : Jvm.MethodName) prog_17_method_3_code (5 : Nat) (Option.none : Option Jvm.ClassFile.FieldType), Jvm.Cond.code ({ cls := "com/example/sutf/sutf/codec/Tally", name := "add", desc := "(I)V" } : Jvm.MethodName) prog_17_method_2_code (2 : Nat) (Option.none : Option Jvm.ClassFile.FieldType), Jvm.Cond.code ({ cls := "com/example/sutf/sutf/codec/TallyAddPinLaw", name := "aboveCount", desc := "(I)J" } : Jvm.MethodName) method_3_code (3 : Nat) (Option.some Jvm.ClassFile.FieldType.long), Jvm.Cond.code ({ cls := "com/example/sutf/sutf/codec/Tally", name := "codePoints", desc := "()J" } : Jvm.MethodName) prog_17_method_4_code (1 : Nat) (Option.some Jvm.ClassFile.FieldType.long), Jvm.Cond.code ({ cls := "com/example/sutf/sutf/codec/Tally", name := "aboveFfff", desc := "()J" } : Jvm.MethodName) prog_17_method_5_code (1 : Nat) (Option.some Jvm.ClassFile.FieldType.long)]
set_option maxRecDepth 65536 in
theorem codes_eq : words1.filter isCode = codes1 := rfl
theorem w_codes : ∀ c ∈ words1.filter isCode, c.before args0 about1 = true := by
  rw [codes_eq]
  intro c hc
  simp only [codes1, List.mem_cons, List.not_mem_nil, or_false] at hc
  rcases hc with rfl | rfl | rfl | rfl | rfl | rfl | rfl | rfl | rfl
  · exact w_c0
  · exact w_c1
  · exact w_c2
  · exact w_c3
  · exact w_c4
  · exact w_c5
  · exact w_c6
  · exact w_c7
  · exact w_c8
set_option maxRecDepth 65536 in
theorem w_t1 : (words1.take 24).all (fun c => isCode c || c.before args0 about1) = true := by decide +kernel
set_option maxRecDepth 65536 in
theorem w_t2 : ((words1.drop 24).take 24).all (fun c => isCode c || c.before args0 about1) = true := by decide +kernel
set_option maxRecDepth 65536 in
theorem w_t3 : ((words1.drop 24).drop 24).all (fun c => isCode c || c.before args0 about1) = true := by decide +kernel
theorem w_tables : (allAtoms (Jvm.Cond.code x code maxLocals ret :: tables_1)).before args0 about1 = true := by
  rw [allAtoms_all]
  show words1.all (fun c => c.before args0 about1) = true
  refine all_split ?_ w_codes
  rw [← List.take_append_drop 24 words1, List.all_append, w_t1, ← List.take_append_drop 24 (words1.drop 24), List.all_append, w_t2, w_t3]
  rfl
set_option maxRecDepth 65536 in
theorem w_case : (Jvm.Cond.and given_1 narrow_1).before args0 about1 = true := by decide +kernel
theorem w_applies : (headSpec (Jvm.Cond.code x code maxLocals ret :: tables_1) room_1).applies x e0.platform about1 = true :=
  (Spec.applies_iff w_frames).mpr ⟨w_running, w_runnable, w_alone, w_named, w_hears, w_ripe, w_room, w_tables⟩
theorem atStart : AtStart classFile x code maxLocals ret World_1 tables_1 room_1 Calls_1 rest_1 Pre_1 launch0 p0 e0 about1 theMethod args0 below0 :=
  ⟨lists_1, trivial, launch0.admits_env _ _ _, launch0.least_env, fairChoices_fair.cas, fairChoices_fair.clock, w_frames, w_args, w_heap, w_applies, trivial, trivial, w_case⟩
end start1
theorem witness_1 : WitnessClaimed_1 := ⟨start1.p0, start1.e0, start1.about1, start1.theMethod, start1.args0, start1.below0, start1.atStart⟩
end Jvm.Pilot.@@N@@
