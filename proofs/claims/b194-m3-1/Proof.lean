import JvmDerived
import JvmDerived.Pilot.@@N@@Statement
import JvmDerived.Pilot.@@N@@Code
set_option linter.unusedVariables false
set_option linter.unusedSimpArgs false
namespace Jvm.RoadKit
open Sem ClassFile Op Lib Jvm.Stand Jvm.Free Jvm.LawKit
section New
variable {p : Program} {l : Launch} {e : Env} {R : Room} {s : State} {m : MethodId} {args : Array Value} {below : List Frame} {meth : Method} {c : Code} {T : State} {locs : List Loc} {cells slots : Nat}
theorem retI (X : Stand p l e R s m args below meth c T locs cells slots) (hEX : p.tables.exec = Jvm.exec) {pc : Nat} {Ls : Array Slot} {z : Int32} {rest : List Value} (hRT : meth.sig.returnType = some .int) (hd : decode c.code pc = .ok (.ireturn, 1)) {fs : List Frame}
    (hl : ∀ (f : JFrame) (acts : List Action), f.method = m → f.locked = none → f.entered = [] → (doReturn e (T.setTop f) acts (some (.int z))).1 = T.setFrames fs) : Steps p.tables e below (T.setTop (mkF m pc Ls (.int z :: rest))) (T.setFrames fs) := by
  have hm' : T.vm.method? m = some meth := X.method'
  have hn : narrow .int (.int z) = .int z := rfl
  show Steps p.tables e below (T.setTop { method := m, pc := pc, locals := Ls, stack := _ :: rest, locked := none }) _
  jvm_step X.here [X.here.top, hEX, hd, hm', hRT, hn]
  first | (intro acts; rw [hl _ acts rfl rfl rfl]) | rw [hl _ _ rfl rfl rfl]
  exact Steps.refl _
abbrev Us : Slot := .unset
abbrev Zs : Slot := .second
abbrev Nv : Slot := .val .null
abbrev Iv (x : Int32) : Slot := .val (.int x)
abbrev Lv (x : Int64) : Slot := .val (.long x)
abbrev Rv (x : Addr) : Slot := .val (.ref x)
/-- the body comes to its end from st: it returns v, and Q holds of v, of the heap and of the places written -/
def Done (p : Program) (e : Env) (below : List Frame) (s : State) (Q : Option Value → Heap → List Loc → Prop) (kc ks : Nat) (st : State) : Prop :=
  ∃ (s₂ : State) (o : Outcome), Steps p.tables e below st s₂ ∧ s₂.status = .running ∧ Ended s₂ below o ∧ ∃ v L, o = .returned v ∧ Q v s₂.heap L ∧ FrameEnd s o s₂ L kc ks
variable {Q : Option Value → Heap → List Loc → Prop} {kc ks : Nat}
theorem Done.pre {st st' : State} (h : ∀ t, Steps p.tables e below st' t → Steps p.tables e below st t) (D : Done p e below s Q kc ks st') : Done p e below s Q kc ks st := by
  obtain ⟨s₂, o, h1, r⟩ := D
  exact ⟨s₂, o, h _ h1, r⟩
theorem Done.retI (X : Stand p l e R s m args below meth c T locs cells slots) (hEX : p.tables.exec = Jvm.exec) (hLK : meth.locks = false) {pc : Nat} {Ls : Array Slot} {z : Int32} {rest : List Value} (hRT : meth.sig.returnType = some .int) (hd : decode c.code pc = .ok (.ireturn, 1))
    (hQ : Q (some (.int z)) T.heap locs) (hc : cells ≤ kc) (hs : slots ≤ ks) : Done p e below s Q kc ks (T.setTop (mkF m pc Ls (.int z :: rest))) := by
  obtain ⟨fs, hr, hrun, hended, hW, hsame⟩ := X.leave (v := some (.int z)) (fun h => by rw [hRT] at h; cases h) hLK
  exact ⟨_, _, Jvm.RoadKit.retI X hEX hRT hd hr, hrun, hended, _, _, rfl, hQ, ⟨_, rfl⟩, hW, hsame.mono hc hs⟩
theorem Done.retN (X : Stand p l e R s m args below meth c T locs cells slots) (hEX : p.tables.exec = Jvm.exec) (hLK : meth.locks = false) {pc : Nat} {Ls : Array Slot} {z : Int32} {t : FieldType} {rest : List Value} (hRT : meth.sig.returnType = some t) (ht : t = .boolean ∨ t = .byte ∨ t = .char ∨ t = .short) (hd : decode c.code pc = .ok (.ireturn, 1))
    (hQ : Q (some (.int (nar t z))) T.heap locs) (hc : cells ≤ kc) (hs : slots ≤ ks) : Done p e below s Q kc ks (T.setTop (mkF m pc Ls (.int z :: rest))) := by
  obtain ⟨fs, hr, hrun, hended, hW, hsame⟩ := X.leave (v := some (.int (nar t z))) (fun h => by rw [hRT] at h; cases h) hLK
  exact ⟨_, _, Jvm.RoadKit.retN X hEX hRT ht hd hr, hrun, hended, _, _, rfl, hQ, ⟨_, rfl⟩, hW, hsame.mono hc hs⟩
theorem Done.retL (X : Stand p l e R s m args below meth c T locs cells slots) (hEX : p.tables.exec = Jvm.exec) (hLK : meth.locks = false) {pc : Nat} {Ls : Array Slot} {z : Int64} {rest : List Value} (hRT : meth.sig.returnType = some .long) (hd : decode c.code pc = .ok (.lreturn, 1))
    (hQ : Q (some (.long z)) T.heap locs) (hc : cells ≤ kc) (hs : slots ≤ ks) : Done p e below s Q kc ks (T.setTop (mkF m pc Ls (.long z :: rest))) := by
  obtain ⟨fs, hr, hrun, hended, hW, hsame⟩ := X.leave (v := some (.long z)) (fun h => by rw [hRT] at h; cases h) hLK
  exact ⟨_, _, retOut X hEX hRT rfl (Or.inr (Or.inl ⟨rfl, rfl, _, rfl⟩)) hd hr, hrun, hended, _, _, rfl, hQ, ⟨_, rfl⟩, hW, hsame.mono hc hs⟩
theorem Done.retA (X : Stand p l e R s m args below meth c T locs cells slots) (hEX : p.tables.exec = Jvm.exec) (hLK : meth.locks = false) {pc : Nat} {Ls : Array Slot} {w : Value} {t : FieldType} {rest : List Value} (hRT : meth.sig.returnType = some t) (ht : t.isReference = true) (hw : w.isRef = true) (hd : decode c.code pc = .ok (.areturn, 1))
    (hQ : Q (some w) T.heap locs) (hc : cells ≤ kc) (hs : slots ≤ ks) : Done p e below s Q kc ks (T.setTop (mkF m pc Ls (w :: rest))) := by
  obtain ⟨fs, hr, hrun, hended, hW, hsame⟩ := X.leave (v := some w) (fun h => by rw [hRT] at h; cases h) hLK
  have hn : narrow t w = w := by cases t <;> first | rfl | (simp [FieldType.isReference] at ht)
  exact ⟨_, _, retOut X hEX hRT hn (Or.inr (Or.inr (Or.inr (Or.inr ⟨rfl, ht, hw⟩)))) hd hr, hrun, hended, _, _, rfl, hQ, ⟨_, rfl⟩, hW, hsame.mono hc hs⟩
theorem Done.retV (X : Stand p l e R s m args below meth c T locs cells slots) (hEX : p.tables.exec = Jvm.exec) (hLK : meth.locks = false) {pc : Nat} {Ls : Array Slot} (hRT : meth.sig.returnType = none) (hd : decode c.code pc = .ok (.return_, 1))
    (hQ : Q none T.heap locs) (hc : cells ≤ kc) (hs : slots ≤ ks) : Done p e below s Q kc ks (T.setTop (mkF m pc Ls [])) := by
  obtain ⟨fs, hr, hrun, hended, hW, hsame⟩ := X.leave (v := none) (fun _ => rfl) hLK
  exact ⟨_, _, X.returnOut hEX hRT hd hr, hrun, hended, _, _, rfl, hQ, ⟨_, rfl⟩, hW, hsame.mono hc hs⟩
end New
end Jvm.RoadKit
namespace Jvm.Pilot.@@N@@
open Jvm Jvm.ClassFile Sem Op Lib Jvm.Free Jvm.Stand Jvm.LawKit Jvm.RoadKit Bundle Jvm.Pilot.@@N@@.Jvm.D

def own_abv (h : Int64) (cp : Int32) : Int64 := if (65535 : Int32) < cp then h + (1 : Int64) else if cp = (-2147483648 : Int32) then h + (1 : Int64) else h
theorem d_prog_17_method_1_code_0 : decode prog_17_method_1_code 0 = .ok (.aload_n 0, 1) := by decide +kernel
theorem d_prog_17_method_1_code_1 : decode prog_17_method_1_code 1 = .ok (.invokespecial 1, 3) := by decide +kernel
theorem d_prog_17_method_1_code_4 : decode prog_17_method_1_code 4 = .ok (.return_, 1) := by decide +kernel
def Qrm_init (Z : State) (a : Addr) (h0 : Heap) (n0 : Nat) (v_ : Option Value) (h_ : Heap) (L_ : List Loc) : Prop := v_ = none ∧ Fr n0 L_ ∧ h_ = h0
theorem ef_rm_init (m : MethodId) (x0 : Addr) : entryFrame m #[(.ref x0)] 1 = mkF m 0 #[.val (.ref x0)] [] := by first | (simp [entryFrame, mkF, argsToLocals, Value.category]; done) | rfl
theorem pn_com_example_sutf_sutf_codec_Tally : plainName "com/example/sutf/sutf/codec/Tally" = true := by first | (simp [plainName, overriddenIn]; done) | decide +kernel
set_option maxRecDepth 65536 in
set_option maxHeartbeats 40000000 in
theorem rm_init (l : Launch) (Z : State) (aZ : Array Value) (hw : ∀ d ∈ tables_1, d.before aZ Z = true) (ws : List Jvm.Cond) (a : Addr) (h0 : Heap) (n0 : Nat) (Z0 : n0 ≤ h0.size) :
    MetFree l (⟨"com/example/sutf/sutf/codec/Tally", "<init>", "()V"⟩ : MethodName) (head1 (Jvm.Cond.code (⟨"com/example/sutf/sutf/codec/Tally", "<init>", "()V"⟩ : MethodName) prog_17_method_1_code 1 none :: ws) ({ frames := 1, cells := 0, slots := 0, locals := 12 } : Room)) (fun a_ U_ => a_ = #[(.ref a)] ∧ Z.Warmed39 U_.vm ∧ U_.heap = h0) (fun _ _ _ _ _ => True) (fun _ U_ o_ U2_ => ∃ v_ L_, o_ = .returned v_ ∧ Qrm_init Z a h0 n0 v_ U2_.heap L_ ∧ FrameEnd U_ o_ U2_ L_ ({ frames := 1, cells := 0, slots := 0, locals := 12 } : Room).cells ({ frames := 1, cells := 0, slots := 0, locals := 12 } : Room).slots) := by
  refine MetFree.of_bodySF (plainFor_of_name pn_com_example_sutf_sutf_codec_Tally) hisR ?_
  intro p e s m args below meth cO s₁ Bd hml0 hP hK
  obtain ⟨rfl, hZW, hh⟩ := hP
  have hEX := Bd.exec
  have hBY := Bd.bytes
  have hMX : cO.maxLocals = 1 := hml0
  have hOW : s.vm.findClass "com/example/sutf/sutf/codec/Tally" = some m.cls := findClass_of_methodNamed Bd.named
  have hNM := (name_of_methodNamed Bd.named Bd.method).1
  have hLK := Bd.notSynchronized
  have hRT := Bd.returns
  have X0 : Stand p l e ({ frames := 1, cells := 0, slots := 0, locals := 12 } : Room) s m #[(.ref a)] below meth cO s₁ [] 0 0 := Stand.of_body Bd
  have e0 : s₁.heap = h0 := by rw [← hh, Bd.state]; rfl
  have N0 := Fr.nil n0
  have K0 : Keep h0 h0 [] := Keep.refl _ _
  show Done p e below s (Qrm_init Z a h0 n0) ({ frames := 1, cells := 0, slots := 0, locals := 12 } : Room).cells ({ frames := 1, cells := 0, slots := 0, locals := 12 } : Room).slots (s₁.setTop (entryFrame m #[(.ref a)] 1))
  refine Done.pre (fun t_ k_ => castTop (ef_rm_init m a) k_) ?_
  show Done _ _ _ _ _ _ _ (s₁.setTop (mkF m 0 #[Rv a] []))
  have sg_1 : ∀ tt_, Steps p.tables e below (s₁.setTop (mkF m 1 #[Rv a] [(.ref a)])) tt_ → Steps p.tables e below (s₁.setTop (mkF m 0 #[Rv a] [])) tt_ := by
    intro tt_ kt_
    refine XS.aloadN X0.here hEX rfl (hb hBY d_prog_17_method_1_code_0) rfl rfl ?_
    exact kt_
  refine Done.pre sg_1 ?_
  obtain ⟨T_2, X_2, e_2, st_2⟩ := initO X0 hEX hZW hOW (hw _ (List.mem_of_getElem? (i := 6) rfl)) (hw _ (List.mem_of_getElem? (i := 7) rfl)) (hw _ (List.mem_of_getElem? (i := 8) rfl)) e0 (g := (mkF m 1 #[Rv a] [(.ref a)])) rfl (by rw [hMX]; rfl) rfl (hb hBY d_prog_17_method_1_code_1) (by decide) (W := 0) (by show 2 * 0 + _ ≤ _; exact Nat.le_of_eq rfl) (by decide)
  refine Done.pre st_2 ?_
  show Done _ _ _ _ _ _ _ (T_2.setTop (mkF m 4 #[Rv a] []))
  exact Done.retV X_2 hEX hLK hRT (hb hBY d_prog_17_method_1_code_4) (by rw [e_2]; exact ⟨rfl, N0, rfl⟩) (by decide) (by decide)
theorem d_prog_17_method_2_code_0 : decode prog_17_method_2_code 0 = .ok (.aload_n 0, 1) := by decide +kernel
theorem d_prog_17_method_2_code_1 : decode prog_17_method_2_code 1 = .ok (.dup, 1) := by decide +kernel
theorem d_prog_17_method_2_code_2 : decode prog_17_method_2_code 2 = .ok (.getfield 7, 3) := by decide +kernel
theorem d_prog_17_method_2_code_5 : decode prog_17_method_2_code 5 = .ok (.lconst 1, 1) := by decide +kernel
theorem d_prog_17_method_2_code_6 : decode prog_17_method_2_code 6 = .ok (.ladd, 1) := by decide +kernel
theorem d_prog_17_method_2_code_7 : decode prog_17_method_2_code 7 = .ok (.putfield 7, 3) := by decide +kernel
theorem d_prog_17_method_2_code_10 : decode prog_17_method_2_code 10 = .ok (.iload_n 1, 1) := by decide +kernel
theorem d_prog_17_method_2_code_11 : decode prog_17_method_2_code 11 = .ok (.ldc 13, 2) := by decide +kernel
theorem d_prog_17_method_2_code_13 : decode prog_17_method_2_code 13 = .ok (.if_icmp .gt 9, 3) := by decide +kernel
theorem d_prog_17_method_2_code_22 : decode prog_17_method_2_code 22 = .ok (.aload_n 0, 1) := by decide +kernel
theorem d_prog_17_method_2_code_23 : decode prog_17_method_2_code 23 = .ok (.dup, 1) := by decide +kernel
theorem d_prog_17_method_2_code_24 : decode prog_17_method_2_code 24 = .ok (.getfield 17, 3) := by decide +kernel
theorem d_prog_17_method_2_code_27 : decode prog_17_method_2_code 27 = .ok (.lconst 1, 1) := by decide +kernel
theorem d_prog_17_method_2_code_28 : decode prog_17_method_2_code 28 = .ok (.ladd, 1) := by decide +kernel
theorem d_prog_17_method_2_code_29 : decode prog_17_method_2_code 29 = .ok (.putfield 17, 3) := by decide +kernel
theorem d_prog_17_method_2_code_32 : decode prog_17_method_2_code 32 = .ok (.return_, 1) := by decide +kernel
theorem d_prog_17_method_2_code_16 : decode prog_17_method_2_code 16 = .ok (.iload_n 1, 1) := by decide +kernel
theorem d_prog_17_method_2_code_17 : decode prog_17_method_2_code 17 = .ok (.ldc 16, 2) := by decide +kernel
theorem d_prog_17_method_2_code_19 : decode prog_17_method_2_code 19 = .ok (.if_icmp .ne 13, 3) := by decide +kernel
def Qrm_addI (Z : State) (a : Addr) (cp : Int32) (c0 : Int64) (k0 : Int64) (h0 : Heap) (n0 : Nat) (v_ : Option Value) (h_ : Heap) (L_ : List Loc) : Prop := v_ = none ∧ Fr n0 L_ ∧ Keep h0 h_ [a] ∧ Exa Z h_ a "com/example/sutf/sutf/codec/Tally" ∧ Fld Z h_ a "com/example/sutf/sutf/codec/Tally" "codePoints" "J" (.long (c0 + (1 : Int64))) ∧ Fld Z h_ a "com/example/sutf/sutf/codec/Tally" "aboveFfff" "J" (.long (own_abv k0 cp))
theorem ef_rm_addI (m : MethodId) (x0 : Addr) (x1 : Int32) : entryFrame m #[(.ref x0), (.int x1)] 2 = mkF m 0 #[.val (.ref x0), .val (.int x1)] [] := by first | (simp [entryFrame, mkF, argsToLocals, Value.category]; done) | rfl
set_option maxRecDepth 65536 in
set_option maxHeartbeats 40000000 in
theorem rm_addI (l : Launch) (Z : State) (aZ : Array Value) (hw : ∀ d ∈ tables_1, d.before aZ Z = true) (ws : List Jvm.Cond) (a : Addr) (cp : Int32) (c0 : Int64) (k0 : Int64) (h0 : Heap) (n0 : Nat) (Z0 : n0 ≤ h0.size) (Ex : Exa Z h0 a "com/example/sutf/sutf/codec/Tally") (F1 : Fld Z h0 a "com/example/sutf/sutf/codec/Tally" "codePoints" "J" (.long c0)) (F2 : Fld Z h0 a "com/example/sutf/sutf/codec/Tally" "aboveFfff" "J" (.long k0)) (ga : n0 ≤ a) :
    MetFree l (⟨"com/example/sutf/sutf/codec/Tally", "add", "(I)V"⟩ : MethodName) (head1 (Jvm.Cond.code (⟨"com/example/sutf/sutf/codec/Tally", "add", "(I)V"⟩ : MethodName) prog_17_method_2_code 2 none :: ws) ({ frames := 0, cells := 0, slots := 0, locals := 0 } : Room)) (fun a_ U_ => a_ = #[(.ref a), (.int cp)] ∧ Z.Warmed39 U_.vm ∧ U_.heap = h0) (fun _ _ _ _ _ => True) (fun _ U_ o_ U2_ => ∃ v_ L_, o_ = .returned v_ ∧ Qrm_addI Z a cp c0 k0 h0 n0 v_ U2_.heap L_ ∧ FrameEnd U_ o_ U2_ L_ ({ frames := 0, cells := 0, slots := 0, locals := 0 } : Room).cells ({ frames := 0, cells := 0, slots := 0, locals := 0 } : Room).slots) := by
  refine MetFree.of_bodySF (plainFor_of_name pn_com_example_sutf_sutf_codec_Tally) hisR ?_
  intro p e s m args below meth cO s₁ Bd hml0 hP hK
  obtain ⟨rfl, hZW, hh⟩ := hP
  have hEX := Bd.exec
  have hBY := Bd.bytes
  have hMX : cO.maxLocals = 2 := hml0
  have hOW : s.vm.findClass "com/example/sutf/sutf/codec/Tally" = some m.cls := findClass_of_methodNamed Bd.named
  have hNM := (name_of_methodNamed Bd.named Bd.method).1
  have hLK := Bd.notSynchronized
  have hRT := Bd.returns
  have X0 : Stand p l e ({ frames := 0, cells := 0, slots := 0, locals := 0 } : Room) s m #[(.ref a), (.int cp)] below meth cO s₁ [] 0 0 := Stand.of_body Bd
  have e0 : s₁.heap = h0 := by rw [← hh, Bd.state]; rfl
  have N0 := Fr.nil n0
  have K0 : Keep h0 h0 [a] := Keep.refl _ _
  show Done p e below s (Qrm_addI Z a cp c0 k0 h0 n0) ({ frames := 0, cells := 0, slots := 0, locals := 0 } : Room).cells ({ frames := 0, cells := 0, slots := 0, locals := 0 } : Room).slots (s₁.setTop (entryFrame m #[(.ref a), (.int cp)] 2))
  refine Done.pre (fun t_ k_ => castTop (ef_rm_addI m a cp) k_) ?_
  show Done _ _ _ _ _ _ _ (s₁.setTop (mkF m 0 #[Rv a, Iv cp] []))
  have sg_1 : ∀ tt_, Steps p.tables e below (s₁.setTop (mkF m 2 #[Rv a, Iv cp] [(.ref a), (.ref a)])) tt_ → Steps p.tables e below (s₁.setTop (mkF m 0 #[Rv a, Iv cp] [])) tt_ := by
    intro tt_ kt_
    refine XS.aloadN X0.here hEX rfl (hb hBY d_prog_17_method_2_code_0) rfl rfl ?_
    show Steps p.tables e below (s₁.setTop (mkF m 1 #[Rv a, Iv cp] [(.ref a)])) tt_
    refine XS.dup X0.here hEX rfl (hb hBY d_prog_17_method_2_code_1) rfl rfl ?_
    exact kt_
  refine Done.pre sg_1 ?_
  obtain ⟨T_2, X_2, e_2, st_2⟩ := getF X0 hEX hZW hOW (host := "") (Or.inl (hw _ (List.mem_of_getElem? (i := 14) rfl))) Via.refl e0 F1 (g := (mkF m 2 #[Rv a, Iv cp] [(.ref a), (.ref a)])) rfl rfl (hb hBY d_prog_17_method_2_code_2)
  refine Done.pre st_2 ?_
  show Done _ _ _ _ _ _ _ (T_2.setTop (mkF m 5 #[Rv a, Iv cp] [(.long c0), (.ref a)]))
  have sg_3 : ∀ tt_, Steps p.tables e below (T_2.setTop (mkF m 7 #[Rv a, Iv cp] [(.long (c0 + (1 : Int64))), (.ref a)])) tt_ → Steps p.tables e below (T_2.setTop (mkF m 5 #[Rv a, Iv cp] [(.long c0), (.ref a)])) tt_ := by
    intro tt_ kt_
    refine XS.lconst X_2.here hEX rfl (hb hBY d_prog_17_method_2_code_5) ?_
    show Steps p.tables e below (T_2.setTop (mkF m 6 #[Rv a, Iv cp] [(.long (1 : Int64)), (.long c0), (.ref a)])) tt_
    refine XS.ladd X_2.here hEX rfl (hb hBY d_prog_17_method_2_code_6) rfl ?_
    exact kt_
  refine Done.pre sg_3 ?_
  obtain ⟨T_4, h_4, X_4, e_4, W_4, st_4⟩ := putF X_2 hEX hZW hOW (host := "") (Or.inl (hw _ (List.mem_of_getElem? (i := 14) rfl))) Via.refl e_2 F1 Ex (Or.inl (hw _ (List.mem_of_getElem? (i := 15) rfl))) (hw _ (List.mem_of_getElem? (i := 1) rfl)) (ty := .long) (by decide) rfl rfl (g := (mkF m 7 #[Rv a, Iv cp] [(.long (c0 + (1 : Int64))), (.ref a)])) rfl rfl (hb hBY d_prog_17_method_2_code_7)
  have N_4 := Fr.snoc X_4 N0 ga
  have K__5 : Keep h0 h_4 [a] := K0.wr W_4 (Or.inl (List.mem_of_getElem? (i := 0) rfl))
  have f_6 : Exa Z h_4 a "com/example/sutf/sutf/codec/Tally" := Ex.wr W_4
  have f_7 : Fld Z h_4 a "com/example/sutf/sutf/codec/Tally" "aboveFfff" "J" (.long k0) := F2.other W_4 (Or.inr (slot_ne (Or.inl (hw _ (List.mem_of_getElem? (i := 29) rfl))) (Or.inl (hw _ (List.mem_of_getElem? (i := 15) rfl))) (by decide) (t := .long) (t' := .long) (by decide) (by decide)))
  have f_8 : Fld Z h_4 a "com/example/sutf/sutf/codec/Tally" "codePoints" "J" (.long (c0 + (1 : Int64))) := F1.same W_4
  refine Done.pre st_4 ?_
  show Done _ _ _ _ _ _ _ (T_4.setTop (mkF m 10 #[Rv a, Iv cp] []))
  have sg_9 : ∀ tt_, Steps p.tables e below (T_4.setTop (mkF m 13 #[Rv a, Iv cp] [(.int (65535 : Int32)), (.int cp)])) tt_ → Steps p.tables e below (T_4.setTop (mkF m 10 #[Rv a, Iv cp] [])) tt_ := by
    intro tt_ kt_
    refine XS.iloadN X_4.here hEX rfl (hb hBY d_prog_17_method_2_code_10) rfl ?_
    show Steps p.tables e below (T_4.setTop (mkF m 11 #[Rv a, Iv cp] [(.int cp)])) tt_
    refine X_4.ldcInt hEX hOW (mvT hZW (hw _ (List.mem_of_getElem? (i := 16) rfl))) (g := (mkF m 11 #[Rv a, Iv cp] [(.int cp)])) rfl (hb hBY d_prog_17_method_2_code_11) _ ?_
    exact kt_
  refine Done.pre sg_9 ?_
  by_cases hc13 : (65535 : Int32) < cp
  · skip
    have sg_10 : ∀ tt_, Steps p.tables e below (T_4.setTop (mkF m 24 #[Rv a, Iv cp] [(.ref a), (.ref a)])) tt_ → Steps p.tables e below (T_4.setTop (mkF m 13 #[Rv a, Iv cp] [(.int (65535 : Int32)), (.int cp)])) tt_ := by
      intro tt_ kt_
      refine XS.icmpYes X_4.here hEX rfl (pc0 := 13) (pc' := 22) rfl (hb hBY d_prog_17_method_2_code_13) rfl (tlt hc13).2.2.1 (by decide) (by decide) ?_
      show Steps p.tables e below (T_4.setTop (mkF m 22 #[Rv a, Iv cp] [])) tt_
      refine XS.aloadN X_4.here hEX rfl (hb hBY d_prog_17_method_2_code_22) rfl rfl ?_
      show Steps p.tables e below (T_4.setTop (mkF m 23 #[Rv a, Iv cp] [(.ref a)])) tt_
      refine XS.dup X_4.here hEX rfl (hb hBY d_prog_17_method_2_code_23) rfl rfl ?_
      exact kt_
    refine Done.pre sg_10 ?_
    obtain ⟨T_11, X_11, e_11, st_11⟩ := getF X_4 hEX hZW hOW (host := "") (Or.inl (hw _ (List.mem_of_getElem? (i := 28) rfl))) Via.refl e_4 f_7 (g := (mkF m 24 #[Rv a, Iv cp] [(.ref a), (.ref a)])) rfl rfl (hb hBY d_prog_17_method_2_code_24)
    refine Done.pre st_11 ?_
    show Done _ _ _ _ _ _ _ (T_11.setTop (mkF m 27 #[Rv a, Iv cp] [(.long k0), (.ref a)]))
    have sg_12 : ∀ tt_, Steps p.tables e below (T_11.setTop (mkF m 29 #[Rv a, Iv cp] [(.long (k0 + (1 : Int64))), (.ref a)])) tt_ → Steps p.tables e below (T_11.setTop (mkF m 27 #[Rv a, Iv cp] [(.long k0), (.ref a)])) tt_ := by
      intro tt_ kt_
      refine XS.lconst X_11.here hEX rfl (hb hBY d_prog_17_method_2_code_27) ?_
      show Steps p.tables e below (T_11.setTop (mkF m 28 #[Rv a, Iv cp] [(.long (1 : Int64)), (.long k0), (.ref a)])) tt_
      refine XS.ladd X_11.here hEX rfl (hb hBY d_prog_17_method_2_code_28) rfl ?_
      exact kt_
    refine Done.pre sg_12 ?_
    obtain ⟨T_13, h_13, X_13, e_13, W_13, st_13⟩ := putF X_11 hEX hZW hOW (host := "") (Or.inl (hw _ (List.mem_of_getElem? (i := 28) rfl))) Via.refl e_11 f_7 f_6 (Or.inl (hw _ (List.mem_of_getElem? (i := 29) rfl))) (hw _ (List.mem_of_getElem? (i := 1) rfl)) (ty := .long) (by decide) rfl rfl (g := (mkF m 29 #[Rv a, Iv cp] [(.long (k0 + (1 : Int64))), (.ref a)])) rfl rfl (hb hBY d_prog_17_method_2_code_29)
    have N_13 := Fr.snoc X_13 N_4 ga
    have K__14 : Keep h0 h_13 [a] := K__5.wr W_13 (Or.inl (List.mem_of_getElem? (i := 0) rfl))
    have f_15 : Exa Z h_13 a "com/example/sutf/sutf/codec/Tally" := f_6.wr W_13
    have f_16 : Fld Z h_13 a "com/example/sutf/sutf/codec/Tally" "codePoints" "J" (.long (c0 + (1 : Int64))) := f_8.other W_13 (Or.inr (slot_ne (Or.inl (hw _ (List.mem_of_getElem? (i := 15) rfl))) (Or.inl (hw _ (List.mem_of_getElem? (i := 29) rfl))) (by decide) (t := .long) (t' := .long) (by decide) (by decide)))
    have f_17 : Fld Z h_13 a "com/example/sutf/sutf/codec/Tally" "aboveFfff" "J" (.long (k0 + (1 : Int64))) := f_7.same W_13
    refine Done.pre st_13 ?_
    show Done _ _ _ _ _ _ _ (T_13.setTop (mkF m 32 #[Rv a, Iv cp] []))
    exact Done.retV X_13 hEX hLK hRT (hb hBY d_prog_17_method_2_code_32) (by rw [e_13]; exact ⟨rfl, N_13, K__14, f_15, f_16, (by rw [own_abv]; first | (rw [if_pos hc13]; exact f_17) | (rw [if_neg hc13, if_pos hc19]; exact f_17) | (rw [if_neg hc13, if_neg hc19]; exact f_17))⟩) (by decide) (by decide)
  · skip
    have sg_18 : ∀ tt_, Steps p.tables e below (T_4.setTop (mkF m 19 #[Rv a, Iv cp] [(.int (-2147483648 : Int32)), (.int cp)])) tt_ → Steps p.tables e below (T_4.setTop (mkF m 13 #[Rv a, Iv cp] [(.int (65535 : Int32)), (.int cp)])) tt_ := by
      intro tt_ kt_
      refine XS.icmpNo X_4.here hEX rfl (hb hBY d_prog_17_method_2_code_13) rfl (flt hc13).2.2.1 ?_
      show Steps p.tables e below (T_4.setTop (mkF m 16 #[Rv a, Iv cp] [])) tt_
      refine XS.iloadN X_4.here hEX rfl (hb hBY d_prog_17_method_2_code_16) rfl ?_
      show Steps p.tables e below (T_4.setTop (mkF m 17 #[Rv a, Iv cp] [(.int cp)])) tt_
      refine X_4.ldcInt hEX hOW (mvT hZW (hw _ (List.mem_of_getElem? (i := 17) rfl))) (g := (mkF m 17 #[Rv a, Iv cp] [(.int cp)])) rfl (hb hBY d_prog_17_method_2_code_17) _ ?_
      exact kt_
    refine Done.pre sg_18 ?_
    by_cases hc19 : cp = (-2147483648 : Int32)
    · skip
      have sg_19 : ∀ tt_, Steps p.tables e below (T_4.setTop (mkF m 24 #[Rv a, Iv cp] [(.ref a), (.ref a)])) tt_ → Steps p.tables e below (T_4.setTop (mkF m 19 #[Rv a, Iv cp] [(.int (-2147483648 : Int32)), (.int cp)])) tt_ := by
        intro tt_ kt_
        refine XS.icmpNo X_4.here hEX rfl (hb hBY d_prog_17_method_2_code_19) rfl (teq hc19).2 ?_
        show Steps p.tables e below (T_4.setTop (mkF m 22 #[Rv a, Iv cp] [])) tt_
        refine XS.aloadN X_4.here hEX rfl (hb hBY d_prog_17_method_2_code_22) rfl rfl ?_
        show Steps p.tables e below (T_4.setTop (mkF m 23 #[Rv a, Iv cp] [(.ref a)])) tt_
        refine XS.dup X_4.here hEX rfl (hb hBY d_prog_17_method_2_code_23) rfl rfl ?_
        exact kt_
      refine Done.pre sg_19 ?_
      obtain ⟨T_20, X_20, e_20, st_20⟩ := getF X_4 hEX hZW hOW (host := "") (Or.inl (hw _ (List.mem_of_getElem? (i := 28) rfl))) Via.refl e_4 f_7 (g := (mkF m 24 #[Rv a, Iv cp] [(.ref a), (.ref a)])) rfl rfl (hb hBY d_prog_17_method_2_code_24)
      refine Done.pre st_20 ?_
      show Done _ _ _ _ _ _ _ (T_20.setTop (mkF m 27 #[Rv a, Iv cp] [(.long k0), (.ref a)]))
      have sg_21 : ∀ tt_, Steps p.tables e below (T_20.setTop (mkF m 29 #[Rv a, Iv cp] [(.long (k0 + (1 : Int64))), (.ref a)])) tt_ → Steps p.tables e below (T_20.setTop (mkF m 27 #[Rv a, Iv cp] [(.long k0), (.ref a)])) tt_ := by
        intro tt_ kt_
        refine XS.lconst X_20.here hEX rfl (hb hBY d_prog_17_method_2_code_27) ?_
        show Steps p.tables e below (T_20.setTop (mkF m 28 #[Rv a, Iv cp] [(.long (1 : Int64)), (.long k0), (.ref a)])) tt_
        refine XS.ladd X_20.here hEX rfl (hb hBY d_prog_17_method_2_code_28) rfl ?_
        exact kt_
      refine Done.pre sg_21 ?_
      obtain ⟨T_22, h_22, X_22, e_22, W_22, st_22⟩ := putF X_20 hEX hZW hOW (host := "") (Or.inl (hw _ (List.mem_of_getElem? (i := 28) rfl))) Via.refl e_20 f_7 f_6 (Or.inl (hw _ (List.mem_of_getElem? (i := 29) rfl))) (hw _ (List.mem_of_getElem? (i := 1) rfl)) (ty := .long) (by decide) rfl rfl (g := (mkF m 29 #[Rv a, Iv cp] [(.long (k0 + (1 : Int64))), (.ref a)])) rfl rfl (hb hBY d_prog_17_method_2_code_29)
      have N_22 := Fr.snoc X_22 N_4 ga
      have K__23 : Keep h0 h_22 [a] := K__5.wr W_22 (Or.inl (List.mem_of_getElem? (i := 0) rfl))
      have f_24 : Exa Z h_22 a "com/example/sutf/sutf/codec/Tally" := f_6.wr W_22
      have f_25 : Fld Z h_22 a "com/example/sutf/sutf/codec/Tally" "codePoints" "J" (.long (c0 + (1 : Int64))) := f_8.other W_22 (Or.inr (slot_ne (Or.inl (hw _ (List.mem_of_getElem? (i := 15) rfl))) (Or.inl (hw _ (List.mem_of_getElem? (i := 29) rfl))) (by decide) (t := .long) (t' := .long) (by decide) (by decide)))
      have f_26 : Fld Z h_22 a "com/example/sutf/sutf/codec/Tally" "aboveFfff" "J" (.long (k0 + (1 : Int64))) := f_7.same W_22
      refine Done.pre st_22 ?_
      show Done _ _ _ _ _ _ _ (T_22.setTop (mkF m 32 #[Rv a, Iv cp] []))
      exact Done.retV X_22 hEX hLK hRT (hb hBY d_prog_17_method_2_code_32) (by rw [e_22]; exact ⟨rfl, N_22, K__23, f_24, f_25, (by rw [own_abv]; first | (rw [if_pos hc13]; exact f_26) | (rw [if_neg hc13, if_pos hc19]; exact f_26) | (rw [if_neg hc13, if_neg hc19]; exact f_26))⟩) (by decide) (by decide)
    · skip
      have sg_27 : ∀ tt_, Steps p.tables e below (T_4.setTop (mkF m 32 #[Rv a, Iv cp] [])) tt_ → Steps p.tables e below (T_4.setTop (mkF m 19 #[Rv a, Iv cp] [(.int (-2147483648 : Int32)), (.int cp)])) tt_ := by
        intro tt_ kt_
        refine XS.icmpYes X_4.here hEX rfl (pc0 := 19) (pc' := 32) rfl (hb hBY d_prog_17_method_2_code_19) rfl (feq hc19).2 (by decide) (by decide) ?_
        exact kt_
      refine Done.pre sg_27 ?_
      exact Done.retV X_4 hEX hLK hRT (hb hBY d_prog_17_method_2_code_32) (by rw [e_4]; exact ⟨rfl, N_4, K__5, f_6, f_8, (by rw [own_abv]; first | (rw [if_pos hc13]; exact f_7) | (rw [if_neg hc13, if_pos hc19]; exact f_7) | (rw [if_neg hc13, if_neg hc19]; exact f_7))⟩) (by decide) (by decide)
theorem d_prog_17_method_3_code_0 : decode prog_17_method_3_code 0 = .ok (.aload_n 0, 1) := by decide +kernel
theorem d_prog_17_method_3_code_1 : decode prog_17_method_3_code 1 = .ok (.dup, 1) := by decide +kernel
theorem d_prog_17_method_3_code_2 : decode prog_17_method_3_code 2 = .ok (.getfield 7, 3) := by decide +kernel
theorem d_prog_17_method_3_code_5 : decode prog_17_method_3_code 5 = .ok (.lload_n 1, 1) := by decide +kernel
theorem d_prog_17_method_3_code_6 : decode prog_17_method_3_code 6 = .ok (.ladd, 1) := by decide +kernel
theorem d_prog_17_method_3_code_7 : decode prog_17_method_3_code 7 = .ok (.putfield 7, 3) := by decide +kernel
theorem d_prog_17_method_3_code_10 : decode prog_17_method_3_code 10 = .ok (.aload_n 0, 1) := by decide +kernel
theorem d_prog_17_method_3_code_11 : decode prog_17_method_3_code 11 = .ok (.dup, 1) := by decide +kernel
theorem d_prog_17_method_3_code_12 : decode prog_17_method_3_code 12 = .ok (.getfield 17, 3) := by decide +kernel
theorem d_prog_17_method_3_code_15 : decode prog_17_method_3_code 15 = .ok (.lload_n 3, 1) := by decide +kernel
theorem d_prog_17_method_3_code_16 : decode prog_17_method_3_code 16 = .ok (.ladd, 1) := by decide +kernel
theorem d_prog_17_method_3_code_17 : decode prog_17_method_3_code 17 = .ok (.putfield 17, 3) := by decide +kernel
theorem d_prog_17_method_3_code_20 : decode prog_17_method_3_code 20 = .ok (.return_, 1) := by decide +kernel
def Qrm_addJ (Z : State) (a : Addr) (s1 : Int64) (s2 : Int64) (c0 : Int64) (k0 : Int64) (h0 : Heap) (n0 : Nat) (v_ : Option Value) (h_ : Heap) (L_ : List Loc) : Prop := v_ = none ∧ Fr n0 L_ ∧ Keep h0 h_ [a] ∧ Exa Z h_ a "com/example/sutf/sutf/codec/Tally" ∧ Fld Z h_ a "com/example/sutf/sutf/codec/Tally" "codePoints" "J" (.long (c0 + s1)) ∧ Fld Z h_ a "com/example/sutf/sutf/codec/Tally" "aboveFfff" "J" (.long (k0 + s2))
theorem ef_rm_addJ (m : MethodId) (x0 : Addr) (x1 : Int64) (x2 : Int64) : entryFrame m #[(.ref x0), (.long x1), (.long x2)] 5 = mkF m 0 #[.val (.ref x0), .val (.long x1), .second, .val (.long x2), .second] [] := by first | (simp [entryFrame, mkF, argsToLocals, Value.category]; done) | rfl
set_option maxRecDepth 65536 in
set_option maxHeartbeats 40000000 in
theorem rm_addJ (l : Launch) (Z : State) (aZ : Array Value) (hw : ∀ d ∈ tables_1, d.before aZ Z = true) (ws : List Jvm.Cond) (a : Addr) (s1 : Int64) (s2 : Int64) (c0 : Int64) (k0 : Int64) (h0 : Heap) (n0 : Nat) (Z0 : n0 ≤ h0.size) (Ex : Exa Z h0 a "com/example/sutf/sutf/codec/Tally") (F1 : Fld Z h0 a "com/example/sutf/sutf/codec/Tally" "codePoints" "J" (.long c0)) (F2 : Fld Z h0 a "com/example/sutf/sutf/codec/Tally" "aboveFfff" "J" (.long k0)) (ga : n0 ≤ a) :
    MetFree l (⟨"com/example/sutf/sutf/codec/Tally", "add", "(JJ)V"⟩ : MethodName) (head1 (Jvm.Cond.code (⟨"com/example/sutf/sutf/codec/Tally", "add", "(JJ)V"⟩ : MethodName) prog_17_method_3_code 5 none :: ws) ({ frames := 0, cells := 0, slots := 0, locals := 0 } : Room)) (fun a_ U_ => a_ = #[(.ref a), (.long s1), (.long s2)] ∧ Z.Warmed39 U_.vm ∧ U_.heap = h0) (fun _ _ _ _ _ => True) (fun _ U_ o_ U2_ => ∃ v_ L_, o_ = .returned v_ ∧ Qrm_addJ Z a s1 s2 c0 k0 h0 n0 v_ U2_.heap L_ ∧ FrameEnd U_ o_ U2_ L_ ({ frames := 0, cells := 0, slots := 0, locals := 0 } : Room).cells ({ frames := 0, cells := 0, slots := 0, locals := 0 } : Room).slots) := by
  refine MetFree.of_bodySF (plainFor_of_name pn_com_example_sutf_sutf_codec_Tally) hisR ?_
  intro p e s m args below meth cO s₁ Bd hml0 hP hK
  obtain ⟨rfl, hZW, hh⟩ := hP
  have hEX := Bd.exec
  have hBY := Bd.bytes
  have hMX : cO.maxLocals = 5 := hml0
  have hOW : s.vm.findClass "com/example/sutf/sutf/codec/Tally" = some m.cls := findClass_of_methodNamed Bd.named
  have hNM := (name_of_methodNamed Bd.named Bd.method).1
  have hLK := Bd.notSynchronized
  have hRT := Bd.returns
  have X0 : Stand p l e ({ frames := 0, cells := 0, slots := 0, locals := 0 } : Room) s m #[(.ref a), (.long s1), (.long s2)] below meth cO s₁ [] 0 0 := Stand.of_body Bd
  have e0 : s₁.heap = h0 := by rw [← hh, Bd.state]; rfl
  have N0 := Fr.nil n0
  have K0 : Keep h0 h0 [a] := Keep.refl _ _
  show Done p e below s (Qrm_addJ Z a s1 s2 c0 k0 h0 n0) ({ frames := 0, cells := 0, slots := 0, locals := 0 } : Room).cells ({ frames := 0, cells := 0, slots := 0, locals := 0 } : Room).slots (s₁.setTop (entryFrame m #[(.ref a), (.long s1), (.long s2)] 5))
  refine Done.pre (fun t_ k_ => castTop (ef_rm_addJ m a s1 s2) k_) ?_
  show Done _ _ _ _ _ _ _ (s₁.setTop (mkF m 0 #[Rv a, Lv s1, Zs, Lv s2, Zs] []))
  have sg_1 : ∀ tt_, Steps p.tables e below (s₁.setTop (mkF m 2 #[Rv a, Lv s1, Zs, Lv s2, Zs] [(.ref a), (.ref a)])) tt_ → Steps p.tables e below (s₁.setTop (mkF m 0 #[Rv a, Lv s1, Zs, Lv s2, Zs] [])) tt_ := by
    intro tt_ kt_
    refine XS.aloadN X0.here hEX rfl (hb hBY d_prog_17_method_3_code_0) rfl rfl ?_
    show Steps p.tables e below (s₁.setTop (mkF m 1 #[Rv a, Lv s1, Zs, Lv s2, Zs] [(.ref a)])) tt_
    refine XS.dup X0.here hEX rfl (hb hBY d_prog_17_method_3_code_1) rfl rfl ?_
    exact kt_
  refine Done.pre sg_1 ?_
  obtain ⟨T_2, X_2, e_2, st_2⟩ := getF X0 hEX hZW hOW (host := "") (Or.inl (hw _ (List.mem_of_getElem? (i := 14) rfl))) Via.refl e0 F1 (g := (mkF m 2 #[Rv a, Lv s1, Zs, Lv s2, Zs] [(.ref a), (.ref a)])) rfl rfl (hb hBY d_prog_17_method_3_code_2)
  refine Done.pre st_2 ?_
  show Done _ _ _ _ _ _ _ (T_2.setTop (mkF m 5 #[Rv a, Lv s1, Zs, Lv s2, Zs] [(.long c0), (.ref a)]))
  have sg_3 : ∀ tt_, Steps p.tables e below (T_2.setTop (mkF m 7 #[Rv a, Lv s1, Zs, Lv s2, Zs] [(.long (c0 + s1)), (.ref a)])) tt_ → Steps p.tables e below (T_2.setTop (mkF m 5 #[Rv a, Lv s1, Zs, Lv s2, Zs] [(.long c0), (.ref a)])) tt_ := by
    intro tt_ kt_
    refine XS.lloadN X_2.here hEX rfl (hb hBY d_prog_17_method_3_code_5) rfl ?_
    show Steps p.tables e below (T_2.setTop (mkF m 6 #[Rv a, Lv s1, Zs, Lv s2, Zs] [(.long s1), (.long c0), (.ref a)])) tt_
    refine XS.ladd X_2.here hEX rfl (hb hBY d_prog_17_method_3_code_6) rfl ?_
    exact kt_
  refine Done.pre sg_3 ?_
  obtain ⟨T_4, h_4, X_4, e_4, W_4, st_4⟩ := putF X_2 hEX hZW hOW (host := "") (Or.inl (hw _ (List.mem_of_getElem? (i := 14) rfl))) Via.refl e_2 F1 Ex (Or.inl (hw _ (List.mem_of_getElem? (i := 15) rfl))) (hw _ (List.mem_of_getElem? (i := 1) rfl)) (ty := .long) (by decide) rfl rfl (g := (mkF m 7 #[Rv a, Lv s1, Zs, Lv s2, Zs] [(.long (c0 + s1)), (.ref a)])) rfl rfl (hb hBY d_prog_17_method_3_code_7)
  have N_4 := Fr.snoc X_4 N0 ga
  have K__5 : Keep h0 h_4 [a] := K0.wr W_4 (Or.inl (List.mem_of_getElem? (i := 0) rfl))
  have f_6 : Exa Z h_4 a "com/example/sutf/sutf/codec/Tally" := Ex.wr W_4
  have f_7 : Fld Z h_4 a "com/example/sutf/sutf/codec/Tally" "aboveFfff" "J" (.long k0) := F2.other W_4 (Or.inr (slot_ne (Or.inl (hw _ (List.mem_of_getElem? (i := 29) rfl))) (Or.inl (hw _ (List.mem_of_getElem? (i := 15) rfl))) (by decide) (t := .long) (t' := .long) (by decide) (by decide)))
  have f_8 : Fld Z h_4 a "com/example/sutf/sutf/codec/Tally" "codePoints" "J" (.long (c0 + s1)) := F1.same W_4
  refine Done.pre st_4 ?_
  show Done _ _ _ _ _ _ _ (T_4.setTop (mkF m 10 #[Rv a, Lv s1, Zs, Lv s2, Zs] []))
  have sg_9 : ∀ tt_, Steps p.tables e below (T_4.setTop (mkF m 12 #[Rv a, Lv s1, Zs, Lv s2, Zs] [(.ref a), (.ref a)])) tt_ → Steps p.tables e below (T_4.setTop (mkF m 10 #[Rv a, Lv s1, Zs, Lv s2, Zs] [])) tt_ := by
    intro tt_ kt_
    refine XS.aloadN X_4.here hEX rfl (hb hBY d_prog_17_method_3_code_10) rfl rfl ?_
    show Steps p.tables e below (T_4.setTop (mkF m 11 #[Rv a, Lv s1, Zs, Lv s2, Zs] [(.ref a)])) tt_
    refine XS.dup X_4.here hEX rfl (hb hBY d_prog_17_method_3_code_11) rfl rfl ?_
    exact kt_
  refine Done.pre sg_9 ?_
  obtain ⟨T_10, X_10, e_10, st_10⟩ := getF X_4 hEX hZW hOW (host := "") (Or.inl (hw _ (List.mem_of_getElem? (i := 28) rfl))) Via.refl e_4 f_7 (g := (mkF m 12 #[Rv a, Lv s1, Zs, Lv s2, Zs] [(.ref a), (.ref a)])) rfl rfl (hb hBY d_prog_17_method_3_code_12)
  refine Done.pre st_10 ?_
  show Done _ _ _ _ _ _ _ (T_10.setTop (mkF m 15 #[Rv a, Lv s1, Zs, Lv s2, Zs] [(.long k0), (.ref a)]))
  have sg_11 : ∀ tt_, Steps p.tables e below (T_10.setTop (mkF m 17 #[Rv a, Lv s1, Zs, Lv s2, Zs] [(.long (k0 + s2)), (.ref a)])) tt_ → Steps p.tables e below (T_10.setTop (mkF m 15 #[Rv a, Lv s1, Zs, Lv s2, Zs] [(.long k0), (.ref a)])) tt_ := by
    intro tt_ kt_
    refine XS.lloadN X_10.here hEX rfl (hb hBY d_prog_17_method_3_code_15) rfl ?_
    show Steps p.tables e below (T_10.setTop (mkF m 16 #[Rv a, Lv s1, Zs, Lv s2, Zs] [(.long s2), (.long k0), (.ref a)])) tt_
    refine XS.ladd X_10.here hEX rfl (hb hBY d_prog_17_method_3_code_16) rfl ?_
    exact kt_
  refine Done.pre sg_11 ?_
  obtain ⟨T_12, h_12, X_12, e_12, W_12, st_12⟩ := putF X_10 hEX hZW hOW (host := "") (Or.inl (hw _ (List.mem_of_getElem? (i := 28) rfl))) Via.refl e_10 f_7 f_6 (Or.inl (hw _ (List.mem_of_getElem? (i := 29) rfl))) (hw _ (List.mem_of_getElem? (i := 1) rfl)) (ty := .long) (by decide) rfl rfl (g := (mkF m 17 #[Rv a, Lv s1, Zs, Lv s2, Zs] [(.long (k0 + s2)), (.ref a)])) rfl rfl (hb hBY d_prog_17_method_3_code_17)
  have N_12 := Fr.snoc X_12 N_4 ga
  have K__13 : Keep h0 h_12 [a] := K__5.wr W_12 (Or.inl (List.mem_of_getElem? (i := 0) rfl))
  have f_14 : Exa Z h_12 a "com/example/sutf/sutf/codec/Tally" := f_6.wr W_12
  have f_15 : Fld Z h_12 a "com/example/sutf/sutf/codec/Tally" "codePoints" "J" (.long (c0 + s1)) := f_8.other W_12 (Or.inr (slot_ne (Or.inl (hw _ (List.mem_of_getElem? (i := 15) rfl))) (Or.inl (hw _ (List.mem_of_getElem? (i := 29) rfl))) (by decide) (t := .long) (t' := .long) (by decide) (by decide)))
  have f_16 : Fld Z h_12 a "com/example/sutf/sutf/codec/Tally" "aboveFfff" "J" (.long (k0 + s2)) := f_7.same W_12
  refine Done.pre st_12 ?_
  show Done _ _ _ _ _ _ _ (T_12.setTop (mkF m 20 #[Rv a, Lv s1, Zs, Lv s2, Zs] []))
  exact Done.retV X_12 hEX hLK hRT (hb hBY d_prog_17_method_3_code_20) (by rw [e_12]; exact ⟨rfl, N_12, K__13, f_14, f_15, f_16⟩) (by decide) (by decide)
theorem d_prog_17_method_4_code_0 : decode prog_17_method_4_code 0 = .ok (.aload_n 0, 1) := by decide +kernel
theorem d_prog_17_method_4_code_1 : decode prog_17_method_4_code 1 = .ok (.getfield 7, 3) := by decide +kernel
theorem d_prog_17_method_4_code_4 : decode prog_17_method_4_code 4 = .ok (.lreturn, 1) := by decide +kernel
def Qrm_codePoints (Z : State) (a : Addr) (w : Int64) (h0 : Heap) (n0 : Nat) (v_ : Option Value) (h_ : Heap) (L_ : List Loc) : Prop := v_ = some (.long w) ∧ Fr n0 L_ ∧ h_ = h0
theorem ef_rm_codePoints (m : MethodId) (x0 : Addr) : entryFrame m #[(.ref x0)] 1 = mkF m 0 #[.val (.ref x0)] [] := by first | (simp [entryFrame, mkF, argsToLocals, Value.category]; done) | rfl
set_option maxRecDepth 65536 in
set_option maxHeartbeats 40000000 in
theorem rm_codePoints (l : Launch) (Z : State) (aZ : Array Value) (hw : ∀ d ∈ tables_1, d.before aZ Z = true) (ws : List Jvm.Cond) (a : Addr) (w : Int64) (h0 : Heap) (n0 : Nat) (Z0 : n0 ≤ h0.size) (F : Fld Z h0 a "com/example/sutf/sutf/codec/Tally" "codePoints" "J" (.long w)) :
    MetFree l (⟨"com/example/sutf/sutf/codec/Tally", "codePoints", "()J"⟩ : MethodName) (head1 (Jvm.Cond.code (⟨"com/example/sutf/sutf/codec/Tally", "codePoints", "()J"⟩ : MethodName) prog_17_method_4_code 1 (some .long) :: ws) ({ frames := 0, cells := 0, slots := 0, locals := 0 } : Room)) (fun a_ U_ => a_ = #[(.ref a)] ∧ Z.Warmed39 U_.vm ∧ U_.heap = h0) (fun _ _ _ _ _ => True) (fun _ U_ o_ U2_ => ∃ v_ L_, o_ = .returned v_ ∧ Qrm_codePoints Z a w h0 n0 v_ U2_.heap L_ ∧ FrameEnd U_ o_ U2_ L_ ({ frames := 0, cells := 0, slots := 0, locals := 0 } : Room).cells ({ frames := 0, cells := 0, slots := 0, locals := 0 } : Room).slots) := by
  refine MetFree.of_bodySF (plainFor_of_name pn_com_example_sutf_sutf_codec_Tally) hisR ?_
  intro p e s m args below meth cO s₁ Bd hml0 hP hK
  obtain ⟨rfl, hZW, hh⟩ := hP
  have hEX := Bd.exec
  have hBY := Bd.bytes
  have hMX : cO.maxLocals = 1 := hml0
  have hOW : s.vm.findClass "com/example/sutf/sutf/codec/Tally" = some m.cls := findClass_of_methodNamed Bd.named
  have hNM := (name_of_methodNamed Bd.named Bd.method).1
  have hLK := Bd.notSynchronized
  have hRT := Bd.returns
  have X0 : Stand p l e ({ frames := 0, cells := 0, slots := 0, locals := 0 } : Room) s m #[(.ref a)] below meth cO s₁ [] 0 0 := Stand.of_body Bd
  have e0 : s₁.heap = h0 := by rw [← hh, Bd.state]; rfl
  have N0 := Fr.nil n0
  have K0 : Keep h0 h0 [] := Keep.refl _ _
  show Done p e below s (Qrm_codePoints Z a w h0 n0) ({ frames := 0, cells := 0, slots := 0, locals := 0 } : Room).cells ({ frames := 0, cells := 0, slots := 0, locals := 0 } : Room).slots (s₁.setTop (entryFrame m #[(.ref a)] 1))
  refine Done.pre (fun t_ k_ => castTop (ef_rm_codePoints m a) k_) ?_
  show Done _ _ _ _ _ _ _ (s₁.setTop (mkF m 0 #[Rv a] []))
  have sg_1 : ∀ tt_, Steps p.tables e below (s₁.setTop (mkF m 1 #[Rv a] [(.ref a)])) tt_ → Steps p.tables e below (s₁.setTop (mkF m 0 #[Rv a] [])) tt_ := by
    intro tt_ kt_
    refine XS.aloadN X0.here hEX rfl (hb hBY d_prog_17_method_4_code_0) rfl rfl ?_
    exact kt_
  refine Done.pre sg_1 ?_
  obtain ⟨T_2, X_2, e_2, st_2⟩ := getF X0 hEX hZW hOW (host := "") (Or.inl (hw _ (List.mem_of_getElem? (i := 14) rfl))) Via.refl e0 F (g := (mkF m 1 #[Rv a] [(.ref a)])) rfl rfl (hb hBY d_prog_17_method_4_code_1)
  refine Done.pre st_2 ?_
  show Done _ _ _ _ _ _ _ (T_2.setTop (mkF m 4 #[Rv a] [(.long w)]))
  exact Done.retL X_2 hEX hLK hRT (hb hBY d_prog_17_method_4_code_4) (by rw [e_2]; exact ⟨rfl, N0, rfl⟩) (by decide) (by decide)
theorem d_prog_17_method_5_code_0 : decode prog_17_method_5_code 0 = .ok (.aload_n 0, 1) := by decide +kernel
theorem d_prog_17_method_5_code_1 : decode prog_17_method_5_code 1 = .ok (.getfield 17, 3) := by decide +kernel
theorem d_prog_17_method_5_code_4 : decode prog_17_method_5_code 4 = .ok (.lreturn, 1) := by decide +kernel
def Qrm_aboveFfff (Z : State) (a : Addr) (w : Int64) (h0 : Heap) (n0 : Nat) (v_ : Option Value) (h_ : Heap) (L_ : List Loc) : Prop := v_ = some (.long w) ∧ Fr n0 L_ ∧ h_ = h0
theorem ef_rm_aboveFfff (m : MethodId) (x0 : Addr) : entryFrame m #[(.ref x0)] 1 = mkF m 0 #[.val (.ref x0)] [] := by first | (simp [entryFrame, mkF, argsToLocals, Value.category]; done) | rfl
set_option maxRecDepth 65536 in
set_option maxHeartbeats 40000000 in
theorem rm_aboveFfff (l : Launch) (Z : State) (aZ : Array Value) (hw : ∀ d ∈ tables_1, d.before aZ Z = true) (ws : List Jvm.Cond) (a : Addr) (w : Int64) (h0 : Heap) (n0 : Nat) (Z0 : n0 ≤ h0.size) (F : Fld Z h0 a "com/example/sutf/sutf/codec/Tally" "aboveFfff" "J" (.long w)) :
    MetFree l (⟨"com/example/sutf/sutf/codec/Tally", "aboveFfff", "()J"⟩ : MethodName) (head1 (Jvm.Cond.code (⟨"com/example/sutf/sutf/codec/Tally", "aboveFfff", "()J"⟩ : MethodName) prog_17_method_5_code 1 (some .long) :: ws) ({ frames := 0, cells := 0, slots := 0, locals := 0 } : Room)) (fun a_ U_ => a_ = #[(.ref a)] ∧ Z.Warmed39 U_.vm ∧ U_.heap = h0) (fun _ _ _ _ _ => True) (fun _ U_ o_ U2_ => ∃ v_ L_, o_ = .returned v_ ∧ Qrm_aboveFfff Z a w h0 n0 v_ U2_.heap L_ ∧ FrameEnd U_ o_ U2_ L_ ({ frames := 0, cells := 0, slots := 0, locals := 0 } : Room).cells ({ frames := 0, cells := 0, slots := 0, locals := 0 } : Room).slots) := by
  refine MetFree.of_bodySF (plainFor_of_name pn_com_example_sutf_sutf_codec_Tally) hisR ?_
  intro p e s m args below meth cO s₁ Bd hml0 hP hK
  obtain ⟨rfl, hZW, hh⟩ := hP
  have hEX := Bd.exec
  have hBY := Bd.bytes
  have hMX : cO.maxLocals = 1 := hml0
  have hOW : s.vm.findClass "com/example/sutf/sutf/codec/Tally" = some m.cls := findClass_of_methodNamed Bd.named
  have hNM := (name_of_methodNamed Bd.named Bd.method).1
  have hLK := Bd.notSynchronized
  have hRT := Bd.returns
  have X0 : Stand p l e ({ frames := 0, cells := 0, slots := 0, locals := 0 } : Room) s m #[(.ref a)] below meth cO s₁ [] 0 0 := Stand.of_body Bd
  have e0 : s₁.heap = h0 := by rw [← hh, Bd.state]; rfl
  have N0 := Fr.nil n0
  have K0 : Keep h0 h0 [] := Keep.refl _ _
  show Done p e below s (Qrm_aboveFfff Z a w h0 n0) ({ frames := 0, cells := 0, slots := 0, locals := 0 } : Room).cells ({ frames := 0, cells := 0, slots := 0, locals := 0 } : Room).slots (s₁.setTop (entryFrame m #[(.ref a)] 1))
  refine Done.pre (fun t_ k_ => castTop (ef_rm_aboveFfff m a) k_) ?_
  show Done _ _ _ _ _ _ _ (s₁.setTop (mkF m 0 #[Rv a] []))
  have sg_1 : ∀ tt_, Steps p.tables e below (s₁.setTop (mkF m 1 #[Rv a] [(.ref a)])) tt_ → Steps p.tables e below (s₁.setTop (mkF m 0 #[Rv a] [])) tt_ := by
    intro tt_ kt_
    refine XS.aloadN X0.here hEX rfl (hb hBY d_prog_17_method_5_code_0) rfl rfl ?_
    exact kt_
  refine Done.pre sg_1 ?_
  obtain ⟨T_2, X_2, e_2, st_2⟩ := getF X0 hEX hZW hOW (host := "") (Or.inl (hw _ (List.mem_of_getElem? (i := 28) rfl))) Via.refl e0 F (g := (mkF m 1 #[Rv a] [(.ref a)])) rfl rfl (hb hBY d_prog_17_method_5_code_1)
  refine Done.pre st_2 ?_
  show Done _ _ _ _ _ _ _ (T_2.setTop (mkF m 4 #[Rv a] [(.long w)]))
  exact Done.retL X_2 hEX hLK hRT (hb hBY d_prog_17_method_5_code_4) (by rw [e_2]; exact ⟨rfl, N0, rfl⟩) (by decide) (by decide)
theorem pd___V_1 : parseMethodDescriptor "()V" = some ⟨[], none⟩ := by decide +kernel
theorem pd__I_V_2 : parseMethodDescriptor "(I)V" = some ⟨[.int], none⟩ := by decide +kernel
theorem pd___J_0 : parseMethodDescriptor "()J" = some ⟨[], some .long⟩ := by decide +kernel
theorem pd__JJ_V_3 : parseMethodDescriptor "(JJ)V" = some ⟨[.long, .long], none⟩ := by decide +kernel
def Qrm0 (Z : State) (p1 : Int32) (q2 : Int64) (q3 : Int64) (q4 : Int64) (q5 : Int64) (h0 : Heap) (n0 : Nat) (v_ : Option Value) (h_ : Heap) (L_ : List Loc) : Prop := v_ = some (.int (1 : Int32)) ∧ Fr n0 L_ ∧ Keep h0 h_ []
theorem ef_rm0 (m : MethodId) (x0 : Int32) (x1 : Int64) (x2 : Int64) (x3 : Int64) (x4 : Int64) : entryFrame m #[(.int x0), (.long x1), (.long x2), (.long x3), (.long x4)] maxLocals = mkF m 0 #[.val (.int x0), .val (.long x1), .second, .val (.long x2), .second, .val (.long x3), .second, .val (.long x4), .second, .unset, .unset, .unset, .unset, .unset, .unset, .unset, .unset, .unset, .unset, .unset, .unset, .unset, .unset, .unset] [] := by first | (simp [entryFrame, mkF, argsToLocals, Value.category, maxLocals]; done) | rfl
theorem pn_com_example_sutf_sutf_codec_TallyAdd68PinLaw : plainName "com/example/sutf/sutf/codec/TallyAdd68PinLaw" = true := by first | (simp [plainName, overriddenIn]; done) | decide +kernel
set_option maxRecDepth 65536 in
set_option maxHeartbeats 40000000 in
theorem rm0 (l : Launch) (Z : State) (aZ : Array Value) (hw : ∀ d ∈ tables_1, d.before aZ Z = true) (ws : List Jvm.Cond) (p1 : Int32) (q2 : Int64) (q3 : Int64) (q4 : Int64) (q5 : Int64) (h0 : Heap) (n0 : Nat) (Z0 : n0 ≤ h0.size) :
    MetFree l x (head1 (Jvm.Cond.code x code maxLocals ret :: ws) room_1) (fun a_ U_ => a_ = #[(.int p1), (.long q2), (.long q3), (.long q4), (.long q5)] ∧ Z.Warmed39 U_.vm ∧ U_.heap = h0) (fun _ _ _ _ _ => True) (fun _ U_ o_ U2_ => ∃ v_ L_, o_ = .returned v_ ∧ Qrm0 Z p1 q2 q3 q4 q5 h0 n0 v_ U2_.heap L_ ∧ FrameEnd U_ o_ U2_ L_ room_1.cells room_1.slots) := by
  refine MetFree.of_bodySF (plainFor_of_name pn_com_example_sutf_sutf_codec_TallyAdd68PinLaw) hisR ?_
  intro p e s m args below meth cO s₁ Bd hml0 hP hK
  obtain ⟨rfl, hZW, hh⟩ := hP
  have hEX := Bd.exec
  have hBY := Bd.bytes
  have hMX : cO.maxLocals = 24 := hml0
  have hOW : s.vm.findClass "com/example/sutf/sutf/codec/TallyAdd68PinLaw" = some m.cls := findClass_of_methodNamed Bd.named
  have hNM := (name_of_methodNamed Bd.named Bd.method).1
  have hLK := Bd.notSynchronized
  have hRT := Bd.returns
  have X0 : Stand p l e room_1 s m #[(.int p1), (.long q2), (.long q3), (.long q4), (.long q5)] below meth cO s₁ [] 0 0 := Stand.of_body Bd
  have e0 : s₁.heap = h0 := by rw [← hh, Bd.state]; rfl
  have N0 := Fr.nil n0
  have K0 : Keep h0 h0 [] := Keep.refl _ _
  show Done p e below s (Qrm0 Z p1 q2 q3 q4 q5 h0 n0) room_1.cells room_1.slots (s₁.setTop (entryFrame m #[(.int p1), (.long q2), (.long q3), (.long q4), (.long q5)] maxLocals))
  refine Done.pre (fun t_ k_ => castTop (ef_rm0 m p1 q2 q3 q4 q5) k_) ?_
  show Done _ _ _ _ _ _ _ (s₁.setTop (mkF m 0 #[Iv p1, Lv q2, Zs, Lv q3, Zs, Lv q4, Zs, Lv q5, Zs, Us, Us, Us, Us, Us, Us, Us, Us, Us, Us, Us, Us, Us, Us, Us] []))
  obtain ⟨T_1, h_1, X_1, e_1, E_1, A_1, D_1, -, st_1⟩ := newO X0 hEX hZW hOW (hw _ (List.mem_of_getElem? (i := 0) rfl)) (hw _ (List.mem_of_getElem? (i := 1) rfl)) (hw _ (List.mem_of_getElem? (i := 2) rfl)) e0 (g := (mkF m 0 #[Iv p1, Lv q2, Zs, Lv q3, Zs, Lv q4, Zs, Lv q5, Zs, Us, Us, Us, Us, Us, Us, Us, Us, Us, Us, Us, Us, Us, Us, Us] [])) rfl (hb hBY at_0) (by decide) (by decide)
  obtain ⟨b_1, g_1⟩ : ∃ z, z = h0.size := ⟨_, rfl⟩
  rw [← g_1] at A_1 D_1 st_1
  have sz_b_1 : h0.size ≤ b_1 := Nat.le_trans K0.1 (Nat.le_of_eq g_1.symm)
  have ge_b_1 : n0 ≤ b_1 := Nat.le_trans Z0 sz_b_1
  have K__2 : Keep h0 h_1 [] := K0.ext E_1
  have f_3 : Exa Z h_1 b_1 "com/example/sutf/sutf/codec/Tally" := A_1
  have f_4 : Fld Z h_1 b_1 "com/example/sutf/sutf/codec/Tally" "codePoints" "J" (.long (0 : Int64)) := D_1 (Or.inl (hw _ (List.mem_of_getElem? (i := 15) rfl))) (ty := .long) (by decide)
  have f_5 : Fld Z h_1 b_1 "com/example/sutf/sutf/codec/Tally" "aboveFfff" "J" (.long (0 : Int64)) := D_1 (Or.inl (hw _ (List.mem_of_getElem? (i := 29) rfl))) (ty := .long) (by decide)
  refine Done.pre st_1 ?_
  show Done _ _ _ _ _ _ _ (T_1.setTop (mkF m 3 #[Iv p1, Lv q2, Zs, Lv q3, Zs, Lv q4, Zs, Lv q5, Zs, Us, Us, Us, Us, Us, Us, Us, Us, Us, Us, Us, Us, Us, Us, Us] [(.ref b_1)]))
  have sg_6 : ∀ tt_, Steps p.tables e below (T_1.setTop (mkF m 4 #[Iv p1, Lv q2, Zs, Lv q3, Zs, Lv q4, Zs, Lv q5, Zs, Us, Us, Us, Us, Us, Us, Us, Us, Us, Us, Us, Us, Us, Us, Us] [(.ref b_1), (.ref b_1)])) tt_ → Steps p.tables e below (T_1.setTop (mkF m 3 #[Iv p1, Lv q2, Zs, Lv q3, Zs, Lv q4, Zs, Lv q5, Zs, Us, Us, Us, Us, Us, Us, Us, Us, Us, Us, Us, Us, Us, Us, Us] [(.ref b_1)])) tt_ := by
    intro tt_ kt_
    refine XS.dup X_1.here hEX rfl (hb hBY at_3) rfl rfl ?_
    exact kt_
  refine Done.pre sg_6 ?_
  obtain ⟨_, _, ⟨T_7, L_7, k_7, n_7⟩, -, X_7, ⟨Lc_7, hQ_7, l_7, y_7, z_7⟩, st_7⟩ := X_1.specialBack hEX (y := (⟨"com/example/sutf/sutf/codec/Tally", "<init>", "()V"⟩ : MethodName)) rfl hOW (mvT hZW (hw _ (List.mem_of_getElem? (i := 3) rfl))) (mvT hZW (hw _ (List.mem_of_getElem? (i := 4) rfl))) (mvT hZW (hw _ (List.mem_of_getElem? (i := 5) rfl))) (by decide) (backOf (W := 1) (rm_init l Z aZ hw [] b_1 h_1 n0 (Nat.le_trans Z0 K__2.1) ) hZW (hw _ (List.mem_of_getElem? (i := 5) rfl)) (hw _ (List.mem_of_getElem? (i := 2) rfl)) (by decide) (by decide)) (g := (mkF m 4 #[Iv p1, Lv q2, Zs, Lv q3, Zs, Lv q4, Zs, Lv q5, Zs, Us, Us, Us, Us, Us, Us, Us, Us, Us, Us, Us, Us, Us, Us, Us] [(.ref b_1), (.ref b_1)])) rfl (by rw [hMX]; rfl) (Steps.refl _) (a := b_1) (argsL := []) (rest := [(.ref b_1)]) (lenOf pd___V_1 rfl) rfl (by show 2 * 0 + _ ≤ _; exact Nat.le_of_eq rfl) (hb hBY at_4) (fun _ _ => ⟨rfl, e_1, (by decide : 1 + 0 ≤ _), (by decide : 2 + 0 ≤ _)⟩)
  dsimp only [Pt.U, Pt.locs, Pt.cells, Pt.slots] at X_7 l_7 y_7 z_7 st_7 hQ_7
  subst l_7 y_7 z_7
  obtain ⟨rfl, N_7q, e_7⟩ := hQ_7
  have N_7 := Fr.app N0 N_7q
  refine Done.pre (fun _ k_ => st_7.trans k_) ?_
  show Done _ _ _ _ _ _ _ (T_7.setTop (mkF m 7 #[Iv p1, Lv q2, Zs, Lv q3, Zs, Lv q4, Zs, Lv q5, Zs, Us, Us, Us, Us, Us, Us, Us, Us, Us, Us, Us, Us, Us, Us, Us] [(.ref b_1)]))
  have sg_8 : ∀ tt_, Steps p.tables e below (T_7.setTop (mkF m 12 #[Iv p1, Lv q2, Zs, Lv q3, Zs, Lv q4, Zs, Lv q5, Zs, Rv b_1, Us, Us, Us, Us, Us, Us, Us, Us, Us, Us, Us, Us, Us, Us] [(.int p1), (.ref b_1)])) tt_ → Steps p.tables e below (T_7.setTop (mkF m 7 #[Iv p1, Lv q2, Zs, Lv q3, Zs, Lv q4, Zs, Lv q5, Zs, Us, Us, Us, Us, Us, Us, Us, Us, Us, Us, Us, Us, Us, Us, Us] [(.ref b_1)])) tt_ := by
    intro tt_ kt_
    refine XS.astore X_7.here hEX rfl (hb hBY at_7) rfl rfl (l' := #[Iv p1, Lv q2, Zs, Lv q3, Zs, Lv q4, Zs, Lv q5, Zs, Rv b_1, Us, Us, Us, Us, Us, Us, Us, Us, Us, Us, Us, Us, Us, Us]) rfl ?_
    show Steps p.tables e below (T_7.setTop (mkF m 9 #[Iv p1, Lv q2, Zs, Lv q3, Zs, Lv q4, Zs, Lv q5, Zs, Rv b_1, Us, Us, Us, Us, Us, Us, Us, Us, Us, Us, Us, Us, Us, Us] [])) tt_
    refine XS.aload X_7.here hEX rfl (hb hBY at_9) rfl rfl ?_
    show Steps p.tables e below (T_7.setTop (mkF m 11 #[Iv p1, Lv q2, Zs, Lv q3, Zs, Lv q4, Zs, Lv q5, Zs, Rv b_1, Us, Us, Us, Us, Us, Us, Us, Us, Us, Us, Us, Us, Us, Us] [(.ref b_1)])) tt_
    refine XS.iloadN X_7.here hEX rfl (hb hBY at_11) rfl ?_
    exact kt_
  refine Done.pre sg_8 ?_
  obtain ⟨cq_9, kq_9, q_9a, q_9b, q_9c⟩ := isOf hZW e_7 f_3
  obtain ⟨_, _, ⟨T_9, L_9, k_9, n_9⟩, -, X_9, ⟨Lc_9, hQ_9, l_9, y_9, z_9⟩, st_9⟩ := X_7.virtualBack hEX (y := (⟨"com/example/sutf/sutf/codec/Tally", "add", "(I)V"⟩ : MethodName)) (z := (⟨"com/example/sutf/sutf/codec/Tally", "add", "(I)V"⟩ : MethodName)) hOW (mvT hZW (hw _ (List.mem_of_getElem? (i := 9) rfl))) (mvT hZW (hw _ (List.mem_of_getElem? (i := 10) rfl))) (notFace_of_selects (args := #[]) (mvT hZW (hw _ (List.mem_of_getElem? (i := 12) rfl)))) (mvT hZW (hw _ (List.mem_of_getElem? (i := 12) rfl))) (mvT hZW (hw _ (List.mem_of_getElem? (i := 11) rfl))) (by decide) (backOf (W := 0) (rm_addI l Z aZ hw [] b_1 p1 (0 : Int64) (0 : Int64) h_1 n0 (Nat.le_trans Z0 K__2.1) f_3 f_4 f_5 ge_b_1) hZW (hw _ (List.mem_of_getElem? (i := 13) rfl)) (hw _ (List.mem_of_getElem? (i := 2) rfl)) (by decide) (by decide)) q_9a q_9c (g := (mkF m 12 #[Iv p1, Lv q2, Zs, Lv q3, Zs, Lv q4, Zs, Lv q5, Zs, Rv b_1, Us, Us, Us, Us, Us, Us, Us, Us, Us, Us, Us, Us, Us, Us] [(.int p1), (.ref b_1)])) rfl (by rw [hMX]; rfl) (Steps.refl _) (argsL := [(.int p1)]) (rest := []) (lenOf pd__I_V_2 rfl) rfl (by show 2 * 0 + _ ≤ _; exact Nat.le_of_eq rfl) (hb hBY at_12) (fun _ _ => ⟨rfl, e_7, (by decide : 1 + 0 ≤ _), (by decide : 2 + 0 ≤ _)⟩)
  dsimp only [Pt.U, Pt.locs, Pt.cells, Pt.slots] at X_9 l_9 y_9 z_9 st_9 hQ_9
  subst l_9 y_9 z_9
  obtain ⟨rfl, N_9q, K_9, hq_9_0, hq_9_1, hq_9_2⟩ := hQ_9
  have N_9 := Fr.app N_7 N_9q
  have K__10 : Keep h0 T_9.heap [] := K__2.trans K_9 (allS (Or.inr sz_b_1) all0)
  have f_11 : Exa Z T_9.heap b_1 "com/example/sutf/sutf/codec/Tally" := f_3.keep K_9
  refine Done.pre (fun _ k_ => st_9.trans k_) ?_
  show Done _ _ _ _ _ _ _ (T_9.setTop (mkF m 15 #[Iv p1, Lv q2, Zs, Lv q3, Zs, Lv q4, Zs, Lv q5, Zs, Rv b_1, Us, Us, Us, Us, Us, Us, Us, Us, Us, Us, Us, Us, Us, Us] []))
  have sg_12 : ∀ tt_, Steps p.tables e below (T_9.setTop (mkF m 17 #[Iv p1, Lv q2, Zs, Lv q3, Zs, Lv q4, Zs, Lv q5, Zs, Rv b_1, Us, Us, Us, Us, Us, Us, Us, Us, Us, Us, Us, Us, Us, Us] [(.ref b_1)])) tt_ → Steps p.tables e below (T_9.setTop (mkF m 15 #[Iv p1, Lv q2, Zs, Lv q3, Zs, Lv q4, Zs, Lv q5, Zs, Rv b_1, Us, Us, Us, Us, Us, Us, Us, Us, Us, Us, Us, Us, Us, Us] [])) tt_ := by
    intro tt_ kt_
    refine XS.aload X_9.here hEX rfl (hb hBY at_15) rfl rfl ?_
    exact kt_
  refine Done.pre sg_12 ?_
  obtain ⟨cq_13, kq_13, q_13a, q_13b, q_13c⟩ := isOf hZW rfl hq_9_0
  obtain ⟨_, _, ⟨T_13, L_13, k_13, n_13⟩, -, X_13, ⟨Lc_13, hQ_13, l_13, y_13, z_13⟩, st_13⟩ := X_9.virtualBack hEX (y := (⟨"com/example/sutf/sutf/codec/Tally", "codePoints", "()J"⟩ : MethodName)) (z := (⟨"com/example/sutf/sutf/codec/Tally", "codePoints", "()J"⟩ : MethodName)) hOW (mvT hZW (hw _ (List.mem_of_getElem? (i := 18) rfl))) (mvT hZW (hw _ (List.mem_of_getElem? (i := 19) rfl))) (notFace_of_selects (args := #[]) (mvT hZW (hw _ (List.mem_of_getElem? (i := 21) rfl)))) (mvT hZW (hw _ (List.mem_of_getElem? (i := 21) rfl))) (mvT hZW (hw _ (List.mem_of_getElem? (i := 20) rfl))) (by decide) (backOf (W := 0) (rm_codePoints l Z aZ hw [] b_1 ((0 : Int64) + (1 : Int64)) T_9.heap n0 (Nat.le_trans Z0 K__10.1) hq_9_1) hZW (hw _ (List.mem_of_getElem? (i := 22) rfl)) (hw _ (List.mem_of_getElem? (i := 2) rfl)) (by decide) (by decide)) q_13a q_13c (g := (mkF m 17 #[Iv p1, Lv q2, Zs, Lv q3, Zs, Lv q4, Zs, Lv q5, Zs, Rv b_1, Us, Us, Us, Us, Us, Us, Us, Us, Us, Us, Us, Us, Us, Us] [(.ref b_1)])) rfl (by rw [hMX]; rfl) (Steps.refl _) (argsL := []) (rest := []) (lenOf pd___J_0 rfl) rfl (by show 2 * 0 + _ ≤ _; exact Nat.le_of_eq rfl) (hb hBY at_17) (fun _ _ => ⟨rfl, rfl, (by decide : 1 + 0 ≤ _), (by decide : 2 + 0 ≤ _)⟩)
  dsimp only [Pt.U, Pt.locs, Pt.cells, Pt.slots] at X_13 l_13 y_13 z_13 st_13 hQ_13
  subst l_13 y_13 z_13
  obtain ⟨rfl, N_13q, e_13⟩ := hQ_13
  have N_13 := Fr.app N_9 N_13q
  refine Done.pre (fun _ k_ => st_13.trans k_) ?_
  show Done _ _ _ _ _ _ _ (T_13.setTop (mkF m 20 #[Iv p1, Lv q2, Zs, Lv q3, Zs, Lv q4, Zs, Lv q5, Zs, Rv b_1, Us, Us, Us, Us, Us, Us, Us, Us, Us, Us, Us, Us, Us, Us] [(.long ((0 : Int64) + (1 : Int64)))]))
  have sg_14 : ∀ tt_, Steps p.tables e below (T_13.setTop (mkF m 24 #[Iv p1, Lv q2, Zs, Lv q3, Zs, Lv q4, Zs, Lv q5, Zs, Rv b_1, Lv ((0 : Int64) + (1 : Int64)), Zs, Us, Us, Us, Us, Us, Us, Us, Us, Us, Us, Us, Us] [(.ref b_1)])) tt_ → Steps p.tables e below (T_13.setTop (mkF m 20 #[Iv p1, Lv q2, Zs, Lv q3, Zs, Lv q4, Zs, Lv q5, Zs, Rv b_1, Us, Us, Us, Us, Us, Us, Us, Us, Us, Us, Us, Us, Us, Us] [(.long ((0 : Int64) + (1 : Int64)))])) tt_ := by
    intro tt_ kt_
    refine XS.lstore X_13.here hEX rfl (hb hBY at_20) rfl (l' := #[Iv p1, Lv q2, Zs, Lv q3, Zs, Lv q4, Zs, Lv q5, Zs, Rv b_1, Lv ((0 : Int64) + (1 : Int64)), Zs, Us, Us, Us, Us, Us, Us, Us, Us, Us, Us, Us, Us]) rfl ?_
    show Steps p.tables e below (T_13.setTop (mkF m 22 #[Iv p1, Lv q2, Zs, Lv q3, Zs, Lv q4, Zs, Lv q5, Zs, Rv b_1, Lv ((0 : Int64) + (1 : Int64)), Zs, Us, Us, Us, Us, Us, Us, Us, Us, Us, Us, Us, Us] [])) tt_
    refine XS.aload X_13.here hEX rfl (hb hBY at_22) rfl rfl ?_
    exact kt_
  refine Done.pre sg_14 ?_
  obtain ⟨cq_15, kq_15, q_15a, q_15b, q_15c⟩ := isOf hZW e_13 hq_9_0
  obtain ⟨_, _, ⟨T_15, L_15, k_15, n_15⟩, -, X_15, ⟨Lc_15, hQ_15, l_15, y_15, z_15⟩, st_15⟩ := X_13.virtualBack hEX (y := (⟨"com/example/sutf/sutf/codec/Tally", "aboveFfff", "()J"⟩ : MethodName)) (z := (⟨"com/example/sutf/sutf/codec/Tally", "aboveFfff", "()J"⟩ : MethodName)) hOW (mvT hZW (hw _ (List.mem_of_getElem? (i := 23) rfl))) (mvT hZW (hw _ (List.mem_of_getElem? (i := 24) rfl))) (notFace_of_selects (args := #[]) (mvT hZW (hw _ (List.mem_of_getElem? (i := 26) rfl)))) (mvT hZW (hw _ (List.mem_of_getElem? (i := 26) rfl))) (mvT hZW (hw _ (List.mem_of_getElem? (i := 25) rfl))) (by decide) (backOf (W := 0) (rm_aboveFfff l Z aZ hw [] b_1 (own_abv (0 : Int64) p1) T_9.heap n0 (Nat.le_trans Z0 K__10.1) hq_9_2) hZW (hw _ (List.mem_of_getElem? (i := 27) rfl)) (hw _ (List.mem_of_getElem? (i := 2) rfl)) (by decide) (by decide)) q_15a q_15c (g := (mkF m 24 #[Iv p1, Lv q2, Zs, Lv q3, Zs, Lv q4, Zs, Lv q5, Zs, Rv b_1, Lv ((0 : Int64) + (1 : Int64)), Zs, Us, Us, Us, Us, Us, Us, Us, Us, Us, Us, Us, Us] [(.ref b_1)])) rfl (by rw [hMX]; rfl) (Steps.refl _) (argsL := []) (rest := []) (lenOf pd___J_0 rfl) rfl (by show 2 * 0 + _ ≤ _; exact Nat.le_of_eq rfl) (hb hBY at_24) (fun _ _ => ⟨rfl, e_13, (by decide : 1 + 0 ≤ _), (by decide : 2 + 0 ≤ _)⟩)
  dsimp only [Pt.U, Pt.locs, Pt.cells, Pt.slots] at X_15 l_15 y_15 z_15 st_15 hQ_15
  subst l_15 y_15 z_15
  obtain ⟨rfl, N_15q, e_15⟩ := hQ_15
  have N_15 := Fr.app N_13 N_15q
  refine Done.pre (fun _ k_ => st_15.trans k_) ?_
  show Done _ _ _ _ _ _ _ (T_15.setTop (mkF m 27 #[Iv p1, Lv q2, Zs, Lv q3, Zs, Lv q4, Zs, Lv q5, Zs, Rv b_1, Lv ((0 : Int64) + (1 : Int64)), Zs, Us, Us, Us, Us, Us, Us, Us, Us, Us, Us, Us, Us] [(.long (own_abv (0 : Int64) p1))]))
  have sg_16 : ∀ tt_, Steps p.tables e below (T_15.setTop (mkF m 33 #[Iv p1, Lv q2, Zs, Lv q3, Zs, Lv q4, Zs, Lv q5, Zs, Rv b_1, Lv ((0 : Int64) + (1 : Int64)), Zs, Lv (own_abv (0 : Int64) p1), Zs, Us, Us, Us, Us, Us, Us, Us, Us, Us, Us] [(.long q3), (.long q2), (.ref b_1)])) tt_ → Steps p.tables e below (T_15.setTop (mkF m 27 #[Iv p1, Lv q2, Zs, Lv q3, Zs, Lv q4, Zs, Lv q5, Zs, Rv b_1, Lv ((0 : Int64) + (1 : Int64)), Zs, Us, Us, Us, Us, Us, Us, Us, Us, Us, Us, Us, Us] [(.long (own_abv (0 : Int64) p1))])) tt_ := by
    intro tt_ kt_
    refine XS.lstore X_15.here hEX rfl (hb hBY at_27) rfl (l' := #[Iv p1, Lv q2, Zs, Lv q3, Zs, Lv q4, Zs, Lv q5, Zs, Rv b_1, Lv ((0 : Int64) + (1 : Int64)), Zs, Lv (own_abv (0 : Int64) p1), Zs, Us, Us, Us, Us, Us, Us, Us, Us, Us, Us]) rfl ?_
    show Steps p.tables e below (T_15.setTop (mkF m 29 #[Iv p1, Lv q2, Zs, Lv q3, Zs, Lv q4, Zs, Lv q5, Zs, Rv b_1, Lv ((0 : Int64) + (1 : Int64)), Zs, Lv (own_abv (0 : Int64) p1), Zs, Us, Us, Us, Us, Us, Us, Us, Us, Us, Us] [])) tt_
    refine XS.aload X_15.here hEX rfl (hb hBY at_29) rfl rfl ?_
    show Steps p.tables e below (T_15.setTop (mkF m 31 #[Iv p1, Lv q2, Zs, Lv q3, Zs, Lv q4, Zs, Lv q5, Zs, Rv b_1, Lv ((0 : Int64) + (1 : Int64)), Zs, Lv (own_abv (0 : Int64) p1), Zs, Us, Us, Us, Us, Us, Us, Us, Us, Us, Us] [(.ref b_1)])) tt_
    refine XS.lloadN X_15.here hEX rfl (hb hBY at_31) rfl ?_
    show Steps p.tables e below (T_15.setTop (mkF m 32 #[Iv p1, Lv q2, Zs, Lv q3, Zs, Lv q4, Zs, Lv q5, Zs, Rv b_1, Lv ((0 : Int64) + (1 : Int64)), Zs, Lv (own_abv (0 : Int64) p1), Zs, Us, Us, Us, Us, Us, Us, Us, Us, Us, Us] [(.long q2), (.ref b_1)])) tt_
    refine XS.lloadN X_15.here hEX rfl (hb hBY at_32) rfl ?_
    exact kt_
  refine Done.pre sg_16 ?_
  obtain ⟨cq_17, kq_17, q_17a, q_17b, q_17c⟩ := isOf hZW e_15 hq_9_0
  obtain ⟨_, _, ⟨T_17, L_17, k_17, n_17⟩, -, X_17, ⟨Lc_17, hQ_17, l_17, y_17, z_17⟩, st_17⟩ := X_15.virtualBack hEX (y := (⟨"com/example/sutf/sutf/codec/Tally", "add", "(JJ)V"⟩ : MethodName)) (z := (⟨"com/example/sutf/sutf/codec/Tally", "add", "(JJ)V"⟩ : MethodName)) hOW (mvT hZW (hw _ (List.mem_of_getElem? (i := 30) rfl))) (mvT hZW (hw _ (List.mem_of_getElem? (i := 31) rfl))) (notFace_of_selects (args := #[]) (mvT hZW (hw _ (List.mem_of_getElem? (i := 33) rfl)))) (mvT hZW (hw _ (List.mem_of_getElem? (i := 33) rfl))) (mvT hZW (hw _ (List.mem_of_getElem? (i := 32) rfl))) (by decide) (backOf (W := 0) (rm_addJ l Z aZ hw [] b_1 q2 q3 ((0 : Int64) + (1 : Int64)) (own_abv (0 : Int64) p1) T_9.heap n0 (Nat.le_trans Z0 K__10.1) hq_9_0 hq_9_1 hq_9_2 ge_b_1) hZW (hw _ (List.mem_of_getElem? (i := 34) rfl)) (hw _ (List.mem_of_getElem? (i := 2) rfl)) (by decide) (by decide)) q_17a q_17c (g := (mkF m 33 #[Iv p1, Lv q2, Zs, Lv q3, Zs, Lv q4, Zs, Lv q5, Zs, Rv b_1, Lv ((0 : Int64) + (1 : Int64)), Zs, Lv (own_abv (0 : Int64) p1), Zs, Us, Us, Us, Us, Us, Us, Us, Us, Us, Us] [(.long q3), (.long q2), (.ref b_1)])) rfl (by rw [hMX]; rfl) (Steps.refl _) (argsL := [(.long q2), (.long q3)]) (rest := []) (lenOf pd__JJ_V_3 rfl) rfl (by show 2 * 0 + _ ≤ _; exact Nat.le_of_eq rfl) (hb hBY at_33) (fun _ _ => ⟨rfl, e_15, (by decide : 1 + 0 ≤ _), (by decide : 2 + 0 ≤ _)⟩)
  dsimp only [Pt.U, Pt.locs, Pt.cells, Pt.slots] at X_17 l_17 y_17 z_17 st_17 hQ_17
  subst l_17 y_17 z_17
  obtain ⟨rfl, N_17q, K_17, hq_17_0, hq_17_1, hq_17_2⟩ := hQ_17
  have N_17 := Fr.app N_15 N_17q
  have K__18 : Keep h0 T_17.heap [] := K__10.trans K_17 (allS (Or.inr sz_b_1) all0)
  have f_19 : Exa Z T_17.heap b_1 "com/example/sutf/sutf/codec/Tally" := hq_9_0.keep K_17
  refine Done.pre (fun _ k_ => st_17.trans k_) ?_
  show Done _ _ _ _ _ _ _ (T_17.setTop (mkF m 36 #[Iv p1, Lv q2, Zs, Lv q3, Zs, Lv q4, Zs, Lv q5, Zs, Rv b_1, Lv ((0 : Int64) + (1 : Int64)), Zs, Lv (own_abv (0 : Int64) p1), Zs, Us, Us, Us, Us, Us, Us, Us, Us, Us, Us] []))
  have sg_20 : ∀ tt_, Steps p.tables e below (T_17.setTop (mkF m 38 #[Iv p1, Lv q2, Zs, Lv q3, Zs, Lv q4, Zs, Lv q5, Zs, Rv b_1, Lv ((0 : Int64) + (1 : Int64)), Zs, Lv (own_abv (0 : Int64) p1), Zs, Us, Us, Us, Us, Us, Us, Us, Us, Us, Us] [(.ref b_1)])) tt_ → Steps p.tables e below (T_17.setTop (mkF m 36 #[Iv p1, Lv q2, Zs, Lv q3, Zs, Lv q4, Zs, Lv q5, Zs, Rv b_1, Lv ((0 : Int64) + (1 : Int64)), Zs, Lv (own_abv (0 : Int64) p1), Zs, Us, Us, Us, Us, Us, Us, Us, Us, Us, Us] [])) tt_ := by
    intro tt_ kt_
    refine XS.aload X_17.here hEX rfl (hb hBY at_36) rfl rfl ?_
    exact kt_
  refine Done.pre sg_20 ?_
  obtain ⟨cq_21, kq_21, q_21a, q_21b, q_21c⟩ := isOf hZW rfl hq_17_0
  obtain ⟨_, _, ⟨T_21, L_21, k_21, n_21⟩, -, X_21, ⟨Lc_21, hQ_21, l_21, y_21, z_21⟩, st_21⟩ := X_17.virtualBack hEX (y := (⟨"com/example/sutf/sutf/codec/Tally", "codePoints", "()J"⟩ : MethodName)) (z := (⟨"com/example/sutf/sutf/codec/Tally", "codePoints", "()J"⟩ : MethodName)) hOW (mvT hZW (hw _ (List.mem_of_getElem? (i := 18) rfl))) (mvT hZW (hw _ (List.mem_of_getElem? (i := 19) rfl))) (notFace_of_selects (args := #[]) (mvT hZW (hw _ (List.mem_of_getElem? (i := 21) rfl)))) (mvT hZW (hw _ (List.mem_of_getElem? (i := 21) rfl))) (mvT hZW (hw _ (List.mem_of_getElem? (i := 20) rfl))) (by decide) (backOf (W := 0) (rm_codePoints l Z aZ hw [] b_1 (((0 : Int64) + (1 : Int64)) + q2) T_17.heap n0 (Nat.le_trans Z0 K__18.1) hq_17_1) hZW (hw _ (List.mem_of_getElem? (i := 22) rfl)) (hw _ (List.mem_of_getElem? (i := 2) rfl)) (by decide) (by decide)) q_21a q_21c (g := (mkF m 38 #[Iv p1, Lv q2, Zs, Lv q3, Zs, Lv q4, Zs, Lv q5, Zs, Rv b_1, Lv ((0 : Int64) + (1 : Int64)), Zs, Lv (own_abv (0 : Int64) p1), Zs, Us, Us, Us, Us, Us, Us, Us, Us, Us, Us] [(.ref b_1)])) rfl (by rw [hMX]; rfl) (Steps.refl _) (argsL := []) (rest := []) (lenOf pd___J_0 rfl) rfl (by show 2 * 0 + _ ≤ _; exact Nat.le_of_eq rfl) (hb hBY at_38) (fun _ _ => ⟨rfl, rfl, (by decide : 1 + 0 ≤ _), (by decide : 2 + 0 ≤ _)⟩)
  dsimp only [Pt.U, Pt.locs, Pt.cells, Pt.slots] at X_21 l_21 y_21 z_21 st_21 hQ_21
  subst l_21 y_21 z_21
  obtain ⟨rfl, N_21q, e_21⟩ := hQ_21
  have N_21 := Fr.app N_17 N_21q
  refine Done.pre (fun _ k_ => st_21.trans k_) ?_
  show Done _ _ _ _ _ _ _ (T_21.setTop (mkF m 41 #[Iv p1, Lv q2, Zs, Lv q3, Zs, Lv q4, Zs, Lv q5, Zs, Rv b_1, Lv ((0 : Int64) + (1 : Int64)), Zs, Lv (own_abv (0 : Int64) p1), Zs, Us, Us, Us, Us, Us, Us, Us, Us, Us, Us] [(.long (((0 : Int64) + (1 : Int64)) + q2))]))
  have sg_22 : ∀ tt_, Steps p.tables e below (T_21.setTop (mkF m 45 #[Iv p1, Lv q2, Zs, Lv q3, Zs, Lv q4, Zs, Lv q5, Zs, Rv b_1, Lv ((0 : Int64) + (1 : Int64)), Zs, Lv (own_abv (0 : Int64) p1), Zs, Lv (((0 : Int64) + (1 : Int64)) + q2), Zs, Us, Us, Us, Us, Us, Us, Us, Us] [(.ref b_1)])) tt_ → Steps p.tables e below (T_21.setTop (mkF m 41 #[Iv p1, Lv q2, Zs, Lv q3, Zs, Lv q4, Zs, Lv q5, Zs, Rv b_1, Lv ((0 : Int64) + (1 : Int64)), Zs, Lv (own_abv (0 : Int64) p1), Zs, Us, Us, Us, Us, Us, Us, Us, Us, Us, Us] [(.long (((0 : Int64) + (1 : Int64)) + q2))])) tt_ := by
    intro tt_ kt_
    refine XS.lstore X_21.here hEX rfl (hb hBY at_41) rfl (l' := #[Iv p1, Lv q2, Zs, Lv q3, Zs, Lv q4, Zs, Lv q5, Zs, Rv b_1, Lv ((0 : Int64) + (1 : Int64)), Zs, Lv (own_abv (0 : Int64) p1), Zs, Lv (((0 : Int64) + (1 : Int64)) + q2), Zs, Us, Us, Us, Us, Us, Us, Us, Us]) rfl ?_
    show Steps p.tables e below (T_21.setTop (mkF m 43 #[Iv p1, Lv q2, Zs, Lv q3, Zs, Lv q4, Zs, Lv q5, Zs, Rv b_1, Lv ((0 : Int64) + (1 : Int64)), Zs, Lv (own_abv (0 : Int64) p1), Zs, Lv (((0 : Int64) + (1 : Int64)) + q2), Zs, Us, Us, Us, Us, Us, Us, Us, Us] [])) tt_
    refine XS.aload X_21.here hEX rfl (hb hBY at_43) rfl rfl ?_
    exact kt_
  refine Done.pre sg_22 ?_
  obtain ⟨cq_23, kq_23, q_23a, q_23b, q_23c⟩ := isOf hZW e_21 hq_17_0
  obtain ⟨_, _, ⟨T_23, L_23, k_23, n_23⟩, -, X_23, ⟨Lc_23, hQ_23, l_23, y_23, z_23⟩, st_23⟩ := X_21.virtualBack hEX (y := (⟨"com/example/sutf/sutf/codec/Tally", "aboveFfff", "()J"⟩ : MethodName)) (z := (⟨"com/example/sutf/sutf/codec/Tally", "aboveFfff", "()J"⟩ : MethodName)) hOW (mvT hZW (hw _ (List.mem_of_getElem? (i := 23) rfl))) (mvT hZW (hw _ (List.mem_of_getElem? (i := 24) rfl))) (notFace_of_selects (args := #[]) (mvT hZW (hw _ (List.mem_of_getElem? (i := 26) rfl)))) (mvT hZW (hw _ (List.mem_of_getElem? (i := 26) rfl))) (mvT hZW (hw _ (List.mem_of_getElem? (i := 25) rfl))) (by decide) (backOf (W := 0) (rm_aboveFfff l Z aZ hw [] b_1 ((own_abv (0 : Int64) p1) + q3) T_17.heap n0 (Nat.le_trans Z0 K__18.1) hq_17_2) hZW (hw _ (List.mem_of_getElem? (i := 27) rfl)) (hw _ (List.mem_of_getElem? (i := 2) rfl)) (by decide) (by decide)) q_23a q_23c (g := (mkF m 45 #[Iv p1, Lv q2, Zs, Lv q3, Zs, Lv q4, Zs, Lv q5, Zs, Rv b_1, Lv ((0 : Int64) + (1 : Int64)), Zs, Lv (own_abv (0 : Int64) p1), Zs, Lv (((0 : Int64) + (1 : Int64)) + q2), Zs, Us, Us, Us, Us, Us, Us, Us, Us] [(.ref b_1)])) rfl (by rw [hMX]; rfl) (Steps.refl _) (argsL := []) (rest := []) (lenOf pd___J_0 rfl) rfl (by show 2 * 0 + _ ≤ _; exact Nat.le_of_eq rfl) (hb hBY at_45) (fun _ _ => ⟨rfl, e_21, (by decide : 1 + 0 ≤ _), (by decide : 2 + 0 ≤ _)⟩)
  dsimp only [Pt.U, Pt.locs, Pt.cells, Pt.slots] at X_23 l_23 y_23 z_23 st_23 hQ_23
  subst l_23 y_23 z_23
  obtain ⟨rfl, N_23q, e_23⟩ := hQ_23
  have N_23 := Fr.app N_21 N_23q
  refine Done.pre (fun _ k_ => st_23.trans k_) ?_
  show Done _ _ _ _ _ _ _ (T_23.setTop (mkF m 48 #[Iv p1, Lv q2, Zs, Lv q3, Zs, Lv q4, Zs, Lv q5, Zs, Rv b_1, Lv ((0 : Int64) + (1 : Int64)), Zs, Lv (own_abv (0 : Int64) p1), Zs, Lv (((0 : Int64) + (1 : Int64)) + q2), Zs, Us, Us, Us, Us, Us, Us, Us, Us] [(.long ((own_abv (0 : Int64) p1) + q3))]))
  have sg_24 : ∀ tt_, Steps p.tables e below (T_23.setTop (mkF m 83 #[Iv p1, Lv q2, Zs, Lv q3, Zs, Lv q4, Zs, Lv q5, Zs, Rv b_1, Lv ((0 : Int64) + (1 : Int64)), Zs, Lv (own_abv (0 : Int64) p1), Zs, Lv (((0 : Int64) + (1 : Int64)) + q2), Zs, Lv ((own_abv (0 : Int64) p1) + q3), Zs, Iv (1 : Int32), Us, Us, Us, Us, Us] [(.long q5), (.long q4), (.ref b_1)])) tt_ → Steps p.tables e below (T_23.setTop (mkF m 48 #[Iv p1, Lv q2, Zs, Lv q3, Zs, Lv q4, Zs, Lv q5, Zs, Rv b_1, Lv ((0 : Int64) + (1 : Int64)), Zs, Lv (own_abv (0 : Int64) p1), Zs, Lv (((0 : Int64) + (1 : Int64)) + q2), Zs, Us, Us, Us, Us, Us, Us, Us, Us] [(.long ((own_abv (0 : Int64) p1) + q3))])) tt_ := by
    intro tt_ kt_
    refine XS.lstore X_23.here hEX rfl (hb hBY at_48) rfl (l' := #[Iv p1, Lv q2, Zs, Lv q3, Zs, Lv q4, Zs, Lv q5, Zs, Rv b_1, Lv ((0 : Int64) + (1 : Int64)), Zs, Lv (own_abv (0 : Int64) p1), Zs, Lv (((0 : Int64) + (1 : Int64)) + q2), Zs, Lv ((own_abv (0 : Int64) p1) + q3), Zs, Us, Us, Us, Us, Us, Us]) rfl ?_
    show Steps p.tables e below (T_23.setTop (mkF m 50 #[Iv p1, Lv q2, Zs, Lv q3, Zs, Lv q4, Zs, Lv q5, Zs, Rv b_1, Lv ((0 : Int64) + (1 : Int64)), Zs, Lv (own_abv (0 : Int64) p1), Zs, Lv (((0 : Int64) + (1 : Int64)) + q2), Zs, Lv ((own_abv (0 : Int64) p1) + q3), Zs, Us, Us, Us, Us, Us, Us] [])) tt_
    refine XS.lload X_23.here hEX rfl (hb hBY at_50) rfl ?_
    show Steps p.tables e below (T_23.setTop (mkF m 52 #[Iv p1, Lv q2, Zs, Lv q3, Zs, Lv q4, Zs, Lv q5, Zs, Rv b_1, Lv ((0 : Int64) + (1 : Int64)), Zs, Lv (own_abv (0 : Int64) p1), Zs, Lv (((0 : Int64) + (1 : Int64)) + q2), Zs, Lv ((own_abv (0 : Int64) p1) + q3), Zs, Us, Us, Us, Us, Us, Us] [(.long (((0 : Int64) + (1 : Int64)) + q2))])) tt_
    refine XS.lload X_23.here hEX rfl (hb hBY at_52) rfl ?_
    show Steps p.tables e below (T_23.setTop (mkF m 54 #[Iv p1, Lv q2, Zs, Lv q3, Zs, Lv q4, Zs, Lv q5, Zs, Rv b_1, Lv ((0 : Int64) + (1 : Int64)), Zs, Lv (own_abv (0 : Int64) p1), Zs, Lv (((0 : Int64) + (1 : Int64)) + q2), Zs, Lv ((own_abv (0 : Int64) p1) + q3), Zs, Us, Us, Us, Us, Us, Us] [(.long ((0 : Int64) + (1 : Int64))), (.long (((0 : Int64) + (1 : Int64)) + q2))])) tt_
    refine XS.lloadN X_23.here hEX rfl (hb hBY at_54) rfl ?_
    show Steps p.tables e below (T_23.setTop (mkF m 55 #[Iv p1, Lv q2, Zs, Lv q3, Zs, Lv q4, Zs, Lv q5, Zs, Rv b_1, Lv ((0 : Int64) + (1 : Int64)), Zs, Lv (own_abv (0 : Int64) p1), Zs, Lv (((0 : Int64) + (1 : Int64)) + q2), Zs, Lv ((own_abv (0 : Int64) p1) + q3), Zs, Us, Us, Us, Us, Us, Us] [(.long q2), (.long ((0 : Int64) + (1 : Int64))), (.long (((0 : Int64) + (1 : Int64)) + q2))])) tt_
    refine XS.ladd X_23.here hEX rfl (hb hBY at_55) rfl ?_
    show Steps p.tables e below (T_23.setTop (mkF m 56 #[Iv p1, Lv q2, Zs, Lv q3, Zs, Lv q4, Zs, Lv q5, Zs, Rv b_1, Lv ((0 : Int64) + (1 : Int64)), Zs, Lv (own_abv (0 : Int64) p1), Zs, Lv (((0 : Int64) + (1 : Int64)) + q2), Zs, Lv ((own_abv (0 : Int64) p1) + q3), Zs, Us, Us, Us, Us, Us, Us] [(.long (((0 : Int64) + (1 : Int64)) + q2)), (.long (((0 : Int64) + (1 : Int64)) + q2))])) tt_
    refine XS.lcmp X_23.here hEX rfl (hb hBY at_56) rfl ?_
    show Steps p.tables e below (T_23.setTop (mkF m 57 #[Iv p1, Lv q2, Zs, Lv q3, Zs, Lv q4, Zs, Lv q5, Zs, Rv b_1, Lv ((0 : Int64) + (1 : Int64)), Zs, Lv (own_abv (0 : Int64) p1), Zs, Lv (((0 : Int64) + (1 : Int64)) + q2), Zs, Lv ((own_abv (0 : Int64) p1) + q3), Zs, Us, Us, Us, Us, Us, Us] [(.int (lcmpW (((0 : Int64) + (1 : Int64)) + q2) (((0 : Int64) + (1 : Int64)) + q2)))])) tt_
    refine XS.ifNo X_23.here hEX rfl (hb hBY at_57) rfl ((if0 _ _).trans (teq ((lw_eq _ _).mpr (rfl : (((0 : Int64) + (1 : Int64)) + q2) = (((0 : Int64) + (1 : Int64)) + q2)))).2) ?_
    show Steps p.tables e below (T_23.setTop (mkF m 60 #[Iv p1, Lv q2, Zs, Lv q3, Zs, Lv q4, Zs, Lv q5, Zs, Rv b_1, Lv ((0 : Int64) + (1 : Int64)), Zs, Lv (own_abv (0 : Int64) p1), Zs, Lv (((0 : Int64) + (1 : Int64)) + q2), Zs, Lv ((own_abv (0 : Int64) p1) + q3), Zs, Us, Us, Us, Us, Us, Us] [])) tt_
    refine XS.lload X_23.here hEX rfl (hb hBY at_60) rfl ?_
    show Steps p.tables e below (T_23.setTop (mkF m 62 #[Iv p1, Lv q2, Zs, Lv q3, Zs, Lv q4, Zs, Lv q5, Zs, Rv b_1, Lv ((0 : Int64) + (1 : Int64)), Zs, Lv (own_abv (0 : Int64) p1), Zs, Lv (((0 : Int64) + (1 : Int64)) + q2), Zs, Lv ((own_abv (0 : Int64) p1) + q3), Zs, Us, Us, Us, Us, Us, Us] [(.long ((own_abv (0 : Int64) p1) + q3))])) tt_
    refine XS.lload X_23.here hEX rfl (hb hBY at_62) rfl ?_
    show Steps p.tables e below (T_23.setTop (mkF m 64 #[Iv p1, Lv q2, Zs, Lv q3, Zs, Lv q4, Zs, Lv q5, Zs, Rv b_1, Lv ((0 : Int64) + (1 : Int64)), Zs, Lv (own_abv (0 : Int64) p1), Zs, Lv (((0 : Int64) + (1 : Int64)) + q2), Zs, Lv ((own_abv (0 : Int64) p1) + q3), Zs, Us, Us, Us, Us, Us, Us] [(.long (own_abv (0 : Int64) p1)), (.long ((own_abv (0 : Int64) p1) + q3))])) tt_
    refine XS.lloadN X_23.here hEX rfl (hb hBY at_64) rfl ?_
    show Steps p.tables e below (T_23.setTop (mkF m 65 #[Iv p1, Lv q2, Zs, Lv q3, Zs, Lv q4, Zs, Lv q5, Zs, Rv b_1, Lv ((0 : Int64) + (1 : Int64)), Zs, Lv (own_abv (0 : Int64) p1), Zs, Lv (((0 : Int64) + (1 : Int64)) + q2), Zs, Lv ((own_abv (0 : Int64) p1) + q3), Zs, Us, Us, Us, Us, Us, Us] [(.long q3), (.long (own_abv (0 : Int64) p1)), (.long ((own_abv (0 : Int64) p1) + q3))])) tt_
    refine XS.ladd X_23.here hEX rfl (hb hBY at_65) rfl ?_
    show Steps p.tables e below (T_23.setTop (mkF m 66 #[Iv p1, Lv q2, Zs, Lv q3, Zs, Lv q4, Zs, Lv q5, Zs, Rv b_1, Lv ((0 : Int64) + (1 : Int64)), Zs, Lv (own_abv (0 : Int64) p1), Zs, Lv (((0 : Int64) + (1 : Int64)) + q2), Zs, Lv ((own_abv (0 : Int64) p1) + q3), Zs, Us, Us, Us, Us, Us, Us] [(.long ((own_abv (0 : Int64) p1) + q3)), (.long ((own_abv (0 : Int64) p1) + q3))])) tt_
    refine XS.lcmp X_23.here hEX rfl (hb hBY at_66) rfl ?_
    show Steps p.tables e below (T_23.setTop (mkF m 67 #[Iv p1, Lv q2, Zs, Lv q3, Zs, Lv q4, Zs, Lv q5, Zs, Rv b_1, Lv ((0 : Int64) + (1 : Int64)), Zs, Lv (own_abv (0 : Int64) p1), Zs, Lv (((0 : Int64) + (1 : Int64)) + q2), Zs, Lv ((own_abv (0 : Int64) p1) + q3), Zs, Us, Us, Us, Us, Us, Us] [(.int (lcmpW ((own_abv (0 : Int64) p1) + q3) ((own_abv (0 : Int64) p1) + q3)))])) tt_
    refine XS.ifNo X_23.here hEX rfl (hb hBY at_67) rfl ((if0 _ _).trans (teq ((lw_eq _ _).mpr (rfl : ((own_abv (0 : Int64) p1) + q3) = ((own_abv (0 : Int64) p1) + q3)))).2) ?_
    show Steps p.tables e below (T_23.setTop (mkF m 70 #[Iv p1, Lv q2, Zs, Lv q3, Zs, Lv q4, Zs, Lv q5, Zs, Rv b_1, Lv ((0 : Int64) + (1 : Int64)), Zs, Lv (own_abv (0 : Int64) p1), Zs, Lv (((0 : Int64) + (1 : Int64)) + q2), Zs, Lv ((own_abv (0 : Int64) p1) + q3), Zs, Us, Us, Us, Us, Us, Us] [])) tt_
    refine XS.iconst X_23.here hEX rfl (hb hBY at_70) ?_
    show Steps p.tables e below (T_23.setTop (mkF m 71 #[Iv p1, Lv q2, Zs, Lv q3, Zs, Lv q4, Zs, Lv q5, Zs, Rv b_1, Lv ((0 : Int64) + (1 : Int64)), Zs, Lv (own_abv (0 : Int64) p1), Zs, Lv (((0 : Int64) + (1 : Int64)) + q2), Zs, Lv ((own_abv (0 : Int64) p1) + q3), Zs, Us, Us, Us, Us, Us, Us] [(.int (1 : Int32))])) tt_
    refine XS.goto X_23.here hEX rfl (pc0 := 71) (pc' := 75) rfl (hb hBY at_71) (by decide) (by decide) ?_
    show Steps p.tables e below (T_23.setTop (mkF m 75 #[Iv p1, Lv q2, Zs, Lv q3, Zs, Lv q4, Zs, Lv q5, Zs, Rv b_1, Lv ((0 : Int64) + (1 : Int64)), Zs, Lv (own_abv (0 : Int64) p1), Zs, Lv (((0 : Int64) + (1 : Int64)) + q2), Zs, Lv ((own_abv (0 : Int64) p1) + q3), Zs, Us, Us, Us, Us, Us, Us] [(.int (1 : Int32))])) tt_
    refine XS.istore X_23.here hEX rfl (hb hBY at_75) rfl (l' := #[Iv p1, Lv q2, Zs, Lv q3, Zs, Lv q4, Zs, Lv q5, Zs, Rv b_1, Lv ((0 : Int64) + (1 : Int64)), Zs, Lv (own_abv (0 : Int64) p1), Zs, Lv (((0 : Int64) + (1 : Int64)) + q2), Zs, Lv ((own_abv (0 : Int64) p1) + q3), Zs, Iv (1 : Int32), Us, Us, Us, Us, Us]) rfl ?_
    show Steps p.tables e below (T_23.setTop (mkF m 77 #[Iv p1, Lv q2, Zs, Lv q3, Zs, Lv q4, Zs, Lv q5, Zs, Rv b_1, Lv ((0 : Int64) + (1 : Int64)), Zs, Lv (own_abv (0 : Int64) p1), Zs, Lv (((0 : Int64) + (1 : Int64)) + q2), Zs, Lv ((own_abv (0 : Int64) p1) + q3), Zs, Iv (1 : Int32), Us, Us, Us, Us, Us] [])) tt_
    refine XS.aload X_23.here hEX rfl (hb hBY at_77) rfl rfl ?_
    show Steps p.tables e below (T_23.setTop (mkF m 79 #[Iv p1, Lv q2, Zs, Lv q3, Zs, Lv q4, Zs, Lv q5, Zs, Rv b_1, Lv ((0 : Int64) + (1 : Int64)), Zs, Lv (own_abv (0 : Int64) p1), Zs, Lv (((0 : Int64) + (1 : Int64)) + q2), Zs, Lv ((own_abv (0 : Int64) p1) + q3), Zs, Iv (1 : Int32), Us, Us, Us, Us, Us] [(.ref b_1)])) tt_
    refine XS.lload X_23.here hEX rfl (hb hBY at_79) rfl ?_
    show Steps p.tables e below (T_23.setTop (mkF m 81 #[Iv p1, Lv q2, Zs, Lv q3, Zs, Lv q4, Zs, Lv q5, Zs, Rv b_1, Lv ((0 : Int64) + (1 : Int64)), Zs, Lv (own_abv (0 : Int64) p1), Zs, Lv (((0 : Int64) + (1 : Int64)) + q2), Zs, Lv ((own_abv (0 : Int64) p1) + q3), Zs, Iv (1 : Int32), Us, Us, Us, Us, Us] [(.long q4), (.ref b_1)])) tt_
    refine XS.lload X_23.here hEX rfl (hb hBY at_81) rfl ?_
    exact kt_
  refine Done.pre sg_24 ?_
  obtain ⟨cq_25, kq_25, q_25a, q_25b, q_25c⟩ := isOf hZW e_23 hq_17_0
  obtain ⟨_, _, ⟨T_25, L_25, k_25, n_25⟩, -, X_25, ⟨Lc_25, hQ_25, l_25, y_25, z_25⟩, st_25⟩ := X_23.virtualBack hEX (y := (⟨"com/example/sutf/sutf/codec/Tally", "add", "(JJ)V"⟩ : MethodName)) (z := (⟨"com/example/sutf/sutf/codec/Tally", "add", "(JJ)V"⟩ : MethodName)) hOW (mvT hZW (hw _ (List.mem_of_getElem? (i := 30) rfl))) (mvT hZW (hw _ (List.mem_of_getElem? (i := 31) rfl))) (notFace_of_selects (args := #[]) (mvT hZW (hw _ (List.mem_of_getElem? (i := 33) rfl)))) (mvT hZW (hw _ (List.mem_of_getElem? (i := 33) rfl))) (mvT hZW (hw _ (List.mem_of_getElem? (i := 32) rfl))) (by decide) (backOf (W := 0) (rm_addJ l Z aZ hw [] b_1 q4 q5 (((0 : Int64) + (1 : Int64)) + q2) ((own_abv (0 : Int64) p1) + q3) T_17.heap n0 (Nat.le_trans Z0 K__18.1) hq_17_0 hq_17_1 hq_17_2 ge_b_1) hZW (hw _ (List.mem_of_getElem? (i := 34) rfl)) (hw _ (List.mem_of_getElem? (i := 2) rfl)) (by decide) (by decide)) q_25a q_25c (g := (mkF m 83 #[Iv p1, Lv q2, Zs, Lv q3, Zs, Lv q4, Zs, Lv q5, Zs, Rv b_1, Lv ((0 : Int64) + (1 : Int64)), Zs, Lv (own_abv (0 : Int64) p1), Zs, Lv (((0 : Int64) + (1 : Int64)) + q2), Zs, Lv ((own_abv (0 : Int64) p1) + q3), Zs, Iv (1 : Int32), Us, Us, Us, Us, Us] [(.long q5), (.long q4), (.ref b_1)])) rfl (by rw [hMX]; rfl) (Steps.refl _) (argsL := [(.long q4), (.long q5)]) (rest := []) (lenOf pd__JJ_V_3 rfl) rfl (by show 2 * 0 + _ ≤ _; exact Nat.le_of_eq rfl) (hb hBY at_83) (fun _ _ => ⟨rfl, e_23, (by decide : 1 + 0 ≤ _), (by decide : 2 + 0 ≤ _)⟩)
  dsimp only [Pt.U, Pt.locs, Pt.cells, Pt.slots] at X_25 l_25 y_25 z_25 st_25 hQ_25
  subst l_25 y_25 z_25
  obtain ⟨rfl, N_25q, K_25, hq_25_0, hq_25_1, hq_25_2⟩ := hQ_25
  have N_25 := Fr.app N_23 N_25q
  have K__26 : Keep h0 T_25.heap [] := K__18.trans K_25 (allS (Or.inr sz_b_1) all0)
  have f_27 : Exa Z T_25.heap b_1 "com/example/sutf/sutf/codec/Tally" := hq_17_0.keep K_25
  refine Done.pre (fun _ k_ => st_25.trans k_) ?_
  show Done _ _ _ _ _ _ _ (T_25.setTop (mkF m 86 #[Iv p1, Lv q2, Zs, Lv q3, Zs, Lv q4, Zs, Lv q5, Zs, Rv b_1, Lv ((0 : Int64) + (1 : Int64)), Zs, Lv (own_abv (0 : Int64) p1), Zs, Lv (((0 : Int64) + (1 : Int64)) + q2), Zs, Lv ((own_abv (0 : Int64) p1) + q3), Zs, Iv (1 : Int32), Us, Us, Us, Us, Us] []))
  have sg_28 : ∀ tt_, Steps p.tables e below (T_25.setTop (mkF m 88 #[Iv p1, Lv q2, Zs, Lv q3, Zs, Lv q4, Zs, Lv q5, Zs, Rv b_1, Lv ((0 : Int64) + (1 : Int64)), Zs, Lv (own_abv (0 : Int64) p1), Zs, Lv (((0 : Int64) + (1 : Int64)) + q2), Zs, Lv ((own_abv (0 : Int64) p1) + q3), Zs, Iv (1 : Int32), Us, Us, Us, Us, Us] [(.ref b_1)])) tt_ → Steps p.tables e below (T_25.setTop (mkF m 86 #[Iv p1, Lv q2, Zs, Lv q3, Zs, Lv q4, Zs, Lv q5, Zs, Rv b_1, Lv ((0 : Int64) + (1 : Int64)), Zs, Lv (own_abv (0 : Int64) p1), Zs, Lv (((0 : Int64) + (1 : Int64)) + q2), Zs, Lv ((own_abv (0 : Int64) p1) + q3), Zs, Iv (1 : Int32), Us, Us, Us, Us, Us] [])) tt_ := by
    intro tt_ kt_
    refine XS.aload X_25.here hEX rfl (hb hBY at_86) rfl rfl ?_
    exact kt_
  refine Done.pre sg_28 ?_
  obtain ⟨cq_29, kq_29, q_29a, q_29b, q_29c⟩ := isOf hZW rfl hq_25_0
  obtain ⟨_, _, ⟨T_29, L_29, k_29, n_29⟩, -, X_29, ⟨Lc_29, hQ_29, l_29, y_29, z_29⟩, st_29⟩ := X_25.virtualBack hEX (y := (⟨"com/example/sutf/sutf/codec/Tally", "codePoints", "()J"⟩ : MethodName)) (z := (⟨"com/example/sutf/sutf/codec/Tally", "codePoints", "()J"⟩ : MethodName)) hOW (mvT hZW (hw _ (List.mem_of_getElem? (i := 18) rfl))) (mvT hZW (hw _ (List.mem_of_getElem? (i := 19) rfl))) (notFace_of_selects (args := #[]) (mvT hZW (hw _ (List.mem_of_getElem? (i := 21) rfl)))) (mvT hZW (hw _ (List.mem_of_getElem? (i := 21) rfl))) (mvT hZW (hw _ (List.mem_of_getElem? (i := 20) rfl))) (by decide) (backOf (W := 0) (rm_codePoints l Z aZ hw [] b_1 ((((0 : Int64) + (1 : Int64)) + q2) + q4) T_25.heap n0 (Nat.le_trans Z0 K__26.1) hq_25_1) hZW (hw _ (List.mem_of_getElem? (i := 22) rfl)) (hw _ (List.mem_of_getElem? (i := 2) rfl)) (by decide) (by decide)) q_29a q_29c (g := (mkF m 88 #[Iv p1, Lv q2, Zs, Lv q3, Zs, Lv q4, Zs, Lv q5, Zs, Rv b_1, Lv ((0 : Int64) + (1 : Int64)), Zs, Lv (own_abv (0 : Int64) p1), Zs, Lv (((0 : Int64) + (1 : Int64)) + q2), Zs, Lv ((own_abv (0 : Int64) p1) + q3), Zs, Iv (1 : Int32), Us, Us, Us, Us, Us] [(.ref b_1)])) rfl (by rw [hMX]; rfl) (Steps.refl _) (argsL := []) (rest := []) (lenOf pd___J_0 rfl) rfl (by show 2 * 0 + _ ≤ _; exact Nat.le_of_eq rfl) (hb hBY at_88) (fun _ _ => ⟨rfl, rfl, (by decide : 1 + 0 ≤ _), (by decide : 2 + 0 ≤ _)⟩)
  dsimp only [Pt.U, Pt.locs, Pt.cells, Pt.slots] at X_29 l_29 y_29 z_29 st_29 hQ_29
  subst l_29 y_29 z_29
  obtain ⟨rfl, N_29q, e_29⟩ := hQ_29
  have N_29 := Fr.app N_25 N_29q
  refine Done.pre (fun _ k_ => st_29.trans k_) ?_
  show Done _ _ _ _ _ _ _ (T_29.setTop (mkF m 91 #[Iv p1, Lv q2, Zs, Lv q3, Zs, Lv q4, Zs, Lv q5, Zs, Rv b_1, Lv ((0 : Int64) + (1 : Int64)), Zs, Lv (own_abv (0 : Int64) p1), Zs, Lv (((0 : Int64) + (1 : Int64)) + q2), Zs, Lv ((own_abv (0 : Int64) p1) + q3), Zs, Iv (1 : Int32), Us, Us, Us, Us, Us] [(.long ((((0 : Int64) + (1 : Int64)) + q2) + q4))]))
  have sg_30 : ∀ tt_, Steps p.tables e below (T_29.setTop (mkF m 95 #[Iv p1, Lv q2, Zs, Lv q3, Zs, Lv q4, Zs, Lv q5, Zs, Rv b_1, Lv ((0 : Int64) + (1 : Int64)), Zs, Lv (own_abv (0 : Int64) p1), Zs, Lv (((0 : Int64) + (1 : Int64)) + q2), Zs, Lv ((own_abv (0 : Int64) p1) + q3), Zs, Iv (1 : Int32), Lv ((((0 : Int64) + (1 : Int64)) + q2) + q4), Zs, Us, Us, Us] [(.ref b_1)])) tt_ → Steps p.tables e below (T_29.setTop (mkF m 91 #[Iv p1, Lv q2, Zs, Lv q3, Zs, Lv q4, Zs, Lv q5, Zs, Rv b_1, Lv ((0 : Int64) + (1 : Int64)), Zs, Lv (own_abv (0 : Int64) p1), Zs, Lv (((0 : Int64) + (1 : Int64)) + q2), Zs, Lv ((own_abv (0 : Int64) p1) + q3), Zs, Iv (1 : Int32), Us, Us, Us, Us, Us] [(.long ((((0 : Int64) + (1 : Int64)) + q2) + q4))])) tt_ := by
    intro tt_ kt_
    refine XS.lstore X_29.here hEX rfl (hb hBY at_91) rfl (l' := #[Iv p1, Lv q2, Zs, Lv q3, Zs, Lv q4, Zs, Lv q5, Zs, Rv b_1, Lv ((0 : Int64) + (1 : Int64)), Zs, Lv (own_abv (0 : Int64) p1), Zs, Lv (((0 : Int64) + (1 : Int64)) + q2), Zs, Lv ((own_abv (0 : Int64) p1) + q3), Zs, Iv (1 : Int32), Lv ((((0 : Int64) + (1 : Int64)) + q2) + q4), Zs, Us, Us, Us]) rfl ?_
    show Steps p.tables e below (T_29.setTop (mkF m 93 #[Iv p1, Lv q2, Zs, Lv q3, Zs, Lv q4, Zs, Lv q5, Zs, Rv b_1, Lv ((0 : Int64) + (1 : Int64)), Zs, Lv (own_abv (0 : Int64) p1), Zs, Lv (((0 : Int64) + (1 : Int64)) + q2), Zs, Lv ((own_abv (0 : Int64) p1) + q3), Zs, Iv (1 : Int32), Lv ((((0 : Int64) + (1 : Int64)) + q2) + q4), Zs, Us, Us, Us] [])) tt_
    refine XS.aload X_29.here hEX rfl (hb hBY at_93) rfl rfl ?_
    exact kt_
  refine Done.pre sg_30 ?_
  obtain ⟨cq_31, kq_31, q_31a, q_31b, q_31c⟩ := isOf hZW e_29 hq_25_0
  obtain ⟨_, _, ⟨T_31, L_31, k_31, n_31⟩, -, X_31, ⟨Lc_31, hQ_31, l_31, y_31, z_31⟩, st_31⟩ := X_29.virtualBack hEX (y := (⟨"com/example/sutf/sutf/codec/Tally", "aboveFfff", "()J"⟩ : MethodName)) (z := (⟨"com/example/sutf/sutf/codec/Tally", "aboveFfff", "()J"⟩ : MethodName)) hOW (mvT hZW (hw _ (List.mem_of_getElem? (i := 23) rfl))) (mvT hZW (hw _ (List.mem_of_getElem? (i := 24) rfl))) (notFace_of_selects (args := #[]) (mvT hZW (hw _ (List.mem_of_getElem? (i := 26) rfl)))) (mvT hZW (hw _ (List.mem_of_getElem? (i := 26) rfl))) (mvT hZW (hw _ (List.mem_of_getElem? (i := 25) rfl))) (by decide) (backOf (W := 0) (rm_aboveFfff l Z aZ hw [] b_1 (((own_abv (0 : Int64) p1) + q3) + q5) T_25.heap n0 (Nat.le_trans Z0 K__26.1) hq_25_2) hZW (hw _ (List.mem_of_getElem? (i := 27) rfl)) (hw _ (List.mem_of_getElem? (i := 2) rfl)) (by decide) (by decide)) q_31a q_31c (g := (mkF m 95 #[Iv p1, Lv q2, Zs, Lv q3, Zs, Lv q4, Zs, Lv q5, Zs, Rv b_1, Lv ((0 : Int64) + (1 : Int64)), Zs, Lv (own_abv (0 : Int64) p1), Zs, Lv (((0 : Int64) + (1 : Int64)) + q2), Zs, Lv ((own_abv (0 : Int64) p1) + q3), Zs, Iv (1 : Int32), Lv ((((0 : Int64) + (1 : Int64)) + q2) + q4), Zs, Us, Us, Us] [(.ref b_1)])) rfl (by rw [hMX]; rfl) (Steps.refl _) (argsL := []) (rest := []) (lenOf pd___J_0 rfl) rfl (by show 2 * 0 + _ ≤ _; exact Nat.le_of_eq rfl) (hb hBY at_95) (fun _ _ => ⟨rfl, e_29, (by decide : 1 + 0 ≤ _), (by decide : 2 + 0 ≤ _)⟩)
  dsimp only [Pt.U, Pt.locs, Pt.cells, Pt.slots] at X_31 l_31 y_31 z_31 st_31 hQ_31
  subst l_31 y_31 z_31
  obtain ⟨rfl, N_31q, e_31⟩ := hQ_31
  have N_31 := Fr.app N_29 N_31q
  refine Done.pre (fun _ k_ => st_31.trans k_) ?_
  show Done _ _ _ _ _ _ _ (T_31.setTop (mkF m 98 #[Iv p1, Lv q2, Zs, Lv q3, Zs, Lv q4, Zs, Lv q5, Zs, Rv b_1, Lv ((0 : Int64) + (1 : Int64)), Zs, Lv (own_abv (0 : Int64) p1), Zs, Lv (((0 : Int64) + (1 : Int64)) + q2), Zs, Lv ((own_abv (0 : Int64) p1) + q3), Zs, Iv (1 : Int32), Lv ((((0 : Int64) + (1 : Int64)) + q2) + q4), Zs, Us, Us, Us] [(.long (((own_abv (0 : Int64) p1) + q3) + q5))]))
  have sg_32 : ∀ tt_, Steps p.tables e below (T_31.setTop (mkF m 144 #[Iv p1, Lv q2, Zs, Lv q3, Zs, Lv q4, Zs, Lv q5, Zs, Rv b_1, Lv ((0 : Int64) + (1 : Int64)), Zs, Lv (own_abv (0 : Int64) p1), Zs, Lv (((0 : Int64) + (1 : Int64)) + q2), Zs, Lv ((own_abv (0 : Int64) p1) + q3), Zs, Iv (1 : Int32), Lv ((((0 : Int64) + (1 : Int64)) + q2) + q4), Zs, Lv (((own_abv (0 : Int64) p1) + q3) + q5), Zs, Iv (1 : Int32)] [(.int (1 : Int32))])) tt_ → Steps p.tables e below (T_31.setTop (mkF m 98 #[Iv p1, Lv q2, Zs, Lv q3, Zs, Lv q4, Zs, Lv q5, Zs, Rv b_1, Lv ((0 : Int64) + (1 : Int64)), Zs, Lv (own_abv (0 : Int64) p1), Zs, Lv (((0 : Int64) + (1 : Int64)) + q2), Zs, Lv ((own_abv (0 : Int64) p1) + q3), Zs, Iv (1 : Int32), Lv ((((0 : Int64) + (1 : Int64)) + q2) + q4), Zs, Us, Us, Us] [(.long (((own_abv (0 : Int64) p1) + q3) + q5))])) tt_ := by
    intro tt_ kt_
    refine XS.lstore X_31.here hEX rfl (hb hBY at_98) rfl (l' := #[Iv p1, Lv q2, Zs, Lv q3, Zs, Lv q4, Zs, Lv q5, Zs, Rv b_1, Lv ((0 : Int64) + (1 : Int64)), Zs, Lv (own_abv (0 : Int64) p1), Zs, Lv (((0 : Int64) + (1 : Int64)) + q2), Zs, Lv ((own_abv (0 : Int64) p1) + q3), Zs, Iv (1 : Int32), Lv ((((0 : Int64) + (1 : Int64)) + q2) + q4), Zs, Lv (((own_abv (0 : Int64) p1) + q3) + q5), Zs, Us]) rfl ?_
    show Steps p.tables e below (T_31.setTop (mkF m 100 #[Iv p1, Lv q2, Zs, Lv q3, Zs, Lv q4, Zs, Lv q5, Zs, Rv b_1, Lv ((0 : Int64) + (1 : Int64)), Zs, Lv (own_abv (0 : Int64) p1), Zs, Lv (((0 : Int64) + (1 : Int64)) + q2), Zs, Lv ((own_abv (0 : Int64) p1) + q3), Zs, Iv (1 : Int32), Lv ((((0 : Int64) + (1 : Int64)) + q2) + q4), Zs, Lv (((own_abv (0 : Int64) p1) + q3) + q5), Zs, Us] [])) tt_
    refine XS.lload X_31.here hEX rfl (hb hBY at_100) rfl ?_
    show Steps p.tables e below (T_31.setTop (mkF m 102 #[Iv p1, Lv q2, Zs, Lv q3, Zs, Lv q4, Zs, Lv q5, Zs, Rv b_1, Lv ((0 : Int64) + (1 : Int64)), Zs, Lv (own_abv (0 : Int64) p1), Zs, Lv (((0 : Int64) + (1 : Int64)) + q2), Zs, Lv ((own_abv (0 : Int64) p1) + q3), Zs, Iv (1 : Int32), Lv ((((0 : Int64) + (1 : Int64)) + q2) + q4), Zs, Lv (((own_abv (0 : Int64) p1) + q3) + q5), Zs, Us] [(.long ((((0 : Int64) + (1 : Int64)) + q2) + q4))])) tt_
    refine XS.lload X_31.here hEX rfl (hb hBY at_102) rfl ?_
    show Steps p.tables e below (T_31.setTop (mkF m 104 #[Iv p1, Lv q2, Zs, Lv q3, Zs, Lv q4, Zs, Lv q5, Zs, Rv b_1, Lv ((0 : Int64) + (1 : Int64)), Zs, Lv (own_abv (0 : Int64) p1), Zs, Lv (((0 : Int64) + (1 : Int64)) + q2), Zs, Lv ((own_abv (0 : Int64) p1) + q3), Zs, Iv (1 : Int32), Lv ((((0 : Int64) + (1 : Int64)) + q2) + q4), Zs, Lv (((own_abv (0 : Int64) p1) + q3) + q5), Zs, Us] [(.long (((0 : Int64) + (1 : Int64)) + q2)), (.long ((((0 : Int64) + (1 : Int64)) + q2) + q4))])) tt_
    refine XS.lload X_31.here hEX rfl (hb hBY at_104) rfl ?_
    show Steps p.tables e below (T_31.setTop (mkF m 106 #[Iv p1, Lv q2, Zs, Lv q3, Zs, Lv q4, Zs, Lv q5, Zs, Rv b_1, Lv ((0 : Int64) + (1 : Int64)), Zs, Lv (own_abv (0 : Int64) p1), Zs, Lv (((0 : Int64) + (1 : Int64)) + q2), Zs, Lv ((own_abv (0 : Int64) p1) + q3), Zs, Iv (1 : Int32), Lv ((((0 : Int64) + (1 : Int64)) + q2) + q4), Zs, Lv (((own_abv (0 : Int64) p1) + q3) + q5), Zs, Us] [(.long q4), (.long (((0 : Int64) + (1 : Int64)) + q2)), (.long ((((0 : Int64) + (1 : Int64)) + q2) + q4))])) tt_
    refine XS.ladd X_31.here hEX rfl (hb hBY at_106) rfl ?_
    show Steps p.tables e below (T_31.setTop (mkF m 107 #[Iv p1, Lv q2, Zs, Lv q3, Zs, Lv q4, Zs, Lv q5, Zs, Rv b_1, Lv ((0 : Int64) + (1 : Int64)), Zs, Lv (own_abv (0 : Int64) p1), Zs, Lv (((0 : Int64) + (1 : Int64)) + q2), Zs, Lv ((own_abv (0 : Int64) p1) + q3), Zs, Iv (1 : Int32), Lv ((((0 : Int64) + (1 : Int64)) + q2) + q4), Zs, Lv (((own_abv (0 : Int64) p1) + q3) + q5), Zs, Us] [(.long ((((0 : Int64) + (1 : Int64)) + q2) + q4)), (.long ((((0 : Int64) + (1 : Int64)) + q2) + q4))])) tt_
    refine XS.lcmp X_31.here hEX rfl (hb hBY at_107) rfl ?_
    show Steps p.tables e below (T_31.setTop (mkF m 108 #[Iv p1, Lv q2, Zs, Lv q3, Zs, Lv q4, Zs, Lv q5, Zs, Rv b_1, Lv ((0 : Int64) + (1 : Int64)), Zs, Lv (own_abv (0 : Int64) p1), Zs, Lv (((0 : Int64) + (1 : Int64)) + q2), Zs, Lv ((own_abv (0 : Int64) p1) + q3), Zs, Iv (1 : Int32), Lv ((((0 : Int64) + (1 : Int64)) + q2) + q4), Zs, Lv (((own_abv (0 : Int64) p1) + q3) + q5), Zs, Us] [(.int (lcmpW ((((0 : Int64) + (1 : Int64)) + q2) + q4) ((((0 : Int64) + (1 : Int64)) + q2) + q4)))])) tt_
    refine XS.ifNo X_31.here hEX rfl (hb hBY at_108) rfl ((if0 _ _).trans (teq ((lw_eq _ _).mpr (rfl : ((((0 : Int64) + (1 : Int64)) + q2) + q4) = ((((0 : Int64) + (1 : Int64)) + q2) + q4)))).2) ?_
    show Steps p.tables e below (T_31.setTop (mkF m 111 #[Iv p1, Lv q2, Zs, Lv q3, Zs, Lv q4, Zs, Lv q5, Zs, Rv b_1, Lv ((0 : Int64) + (1 : Int64)), Zs, Lv (own_abv (0 : Int64) p1), Zs, Lv (((0 : Int64) + (1 : Int64)) + q2), Zs, Lv ((own_abv (0 : Int64) p1) + q3), Zs, Iv (1 : Int32), Lv ((((0 : Int64) + (1 : Int64)) + q2) + q4), Zs, Lv (((own_abv (0 : Int64) p1) + q3) + q5), Zs, Us] [])) tt_
    refine XS.lload X_31.here hEX rfl (hb hBY at_111) rfl ?_
    show Steps p.tables e below (T_31.setTop (mkF m 113 #[Iv p1, Lv q2, Zs, Lv q3, Zs, Lv q4, Zs, Lv q5, Zs, Rv b_1, Lv ((0 : Int64) + (1 : Int64)), Zs, Lv (own_abv (0 : Int64) p1), Zs, Lv (((0 : Int64) + (1 : Int64)) + q2), Zs, Lv ((own_abv (0 : Int64) p1) + q3), Zs, Iv (1 : Int32), Lv ((((0 : Int64) + (1 : Int64)) + q2) + q4), Zs, Lv (((own_abv (0 : Int64) p1) + q3) + q5), Zs, Us] [(.long (((own_abv (0 : Int64) p1) + q3) + q5))])) tt_
    refine XS.lload X_31.here hEX rfl (hb hBY at_113) rfl ?_
    show Steps p.tables e below (T_31.setTop (mkF m 115 #[Iv p1, Lv q2, Zs, Lv q3, Zs, Lv q4, Zs, Lv q5, Zs, Rv b_1, Lv ((0 : Int64) + (1 : Int64)), Zs, Lv (own_abv (0 : Int64) p1), Zs, Lv (((0 : Int64) + (1 : Int64)) + q2), Zs, Lv ((own_abv (0 : Int64) p1) + q3), Zs, Iv (1 : Int32), Lv ((((0 : Int64) + (1 : Int64)) + q2) + q4), Zs, Lv (((own_abv (0 : Int64) p1) + q3) + q5), Zs, Us] [(.long ((own_abv (0 : Int64) p1) + q3)), (.long (((own_abv (0 : Int64) p1) + q3) + q5))])) tt_
    refine XS.lload X_31.here hEX rfl (hb hBY at_115) rfl ?_
    show Steps p.tables e below (T_31.setTop (mkF m 117 #[Iv p1, Lv q2, Zs, Lv q3, Zs, Lv q4, Zs, Lv q5, Zs, Rv b_1, Lv ((0 : Int64) + (1 : Int64)), Zs, Lv (own_abv (0 : Int64) p1), Zs, Lv (((0 : Int64) + (1 : Int64)) + q2), Zs, Lv ((own_abv (0 : Int64) p1) + q3), Zs, Iv (1 : Int32), Lv ((((0 : Int64) + (1 : Int64)) + q2) + q4), Zs, Lv (((own_abv (0 : Int64) p1) + q3) + q5), Zs, Us] [(.long q5), (.long ((own_abv (0 : Int64) p1) + q3)), (.long (((own_abv (0 : Int64) p1) + q3) + q5))])) tt_
    refine XS.ladd X_31.here hEX rfl (hb hBY at_117) rfl ?_
    show Steps p.tables e below (T_31.setTop (mkF m 118 #[Iv p1, Lv q2, Zs, Lv q3, Zs, Lv q4, Zs, Lv q5, Zs, Rv b_1, Lv ((0 : Int64) + (1 : Int64)), Zs, Lv (own_abv (0 : Int64) p1), Zs, Lv (((0 : Int64) + (1 : Int64)) + q2), Zs, Lv ((own_abv (0 : Int64) p1) + q3), Zs, Iv (1 : Int32), Lv ((((0 : Int64) + (1 : Int64)) + q2) + q4), Zs, Lv (((own_abv (0 : Int64) p1) + q3) + q5), Zs, Us] [(.long (((own_abv (0 : Int64) p1) + q3) + q5)), (.long (((own_abv (0 : Int64) p1) + q3) + q5))])) tt_
    refine XS.lcmp X_31.here hEX rfl (hb hBY at_118) rfl ?_
    show Steps p.tables e below (T_31.setTop (mkF m 119 #[Iv p1, Lv q2, Zs, Lv q3, Zs, Lv q4, Zs, Lv q5, Zs, Rv b_1, Lv ((0 : Int64) + (1 : Int64)), Zs, Lv (own_abv (0 : Int64) p1), Zs, Lv (((0 : Int64) + (1 : Int64)) + q2), Zs, Lv ((own_abv (0 : Int64) p1) + q3), Zs, Iv (1 : Int32), Lv ((((0 : Int64) + (1 : Int64)) + q2) + q4), Zs, Lv (((own_abv (0 : Int64) p1) + q3) + q5), Zs, Us] [(.int (lcmpW (((own_abv (0 : Int64) p1) + q3) + q5) (((own_abv (0 : Int64) p1) + q3) + q5)))])) tt_
    refine XS.ifNo X_31.here hEX rfl (hb hBY at_119) rfl ((if0 _ _).trans (teq ((lw_eq _ _).mpr (rfl : (((own_abv (0 : Int64) p1) + q3) + q5) = (((own_abv (0 : Int64) p1) + q3) + q5)))).2) ?_
    show Steps p.tables e below (T_31.setTop (mkF m 122 #[Iv p1, Lv q2, Zs, Lv q3, Zs, Lv q4, Zs, Lv q5, Zs, Rv b_1, Lv ((0 : Int64) + (1 : Int64)), Zs, Lv (own_abv (0 : Int64) p1), Zs, Lv (((0 : Int64) + (1 : Int64)) + q2), Zs, Lv ((own_abv (0 : Int64) p1) + q3), Zs, Iv (1 : Int32), Lv ((((0 : Int64) + (1 : Int64)) + q2) + q4), Zs, Lv (((own_abv (0 : Int64) p1) + q3) + q5), Zs, Us] [])) tt_
    refine XS.iconst X_31.here hEX rfl (hb hBY at_122) ?_
    show Steps p.tables e below (T_31.setTop (mkF m 123 #[Iv p1, Lv q2, Zs, Lv q3, Zs, Lv q4, Zs, Lv q5, Zs, Rv b_1, Lv ((0 : Int64) + (1 : Int64)), Zs, Lv (own_abv (0 : Int64) p1), Zs, Lv (((0 : Int64) + (1 : Int64)) + q2), Zs, Lv ((own_abv (0 : Int64) p1) + q3), Zs, Iv (1 : Int32), Lv ((((0 : Int64) + (1 : Int64)) + q2) + q4), Zs, Lv (((own_abv (0 : Int64) p1) + q3) + q5), Zs, Us] [(.int (1 : Int32))])) tt_
    refine XS.goto X_31.here hEX rfl (pc0 := 123) (pc' := 127) rfl (hb hBY at_123) (by decide) (by decide) ?_
    show Steps p.tables e below (T_31.setTop (mkF m 127 #[Iv p1, Lv q2, Zs, Lv q3, Zs, Lv q4, Zs, Lv q5, Zs, Rv b_1, Lv ((0 : Int64) + (1 : Int64)), Zs, Lv (own_abv (0 : Int64) p1), Zs, Lv (((0 : Int64) + (1 : Int64)) + q2), Zs, Lv ((own_abv (0 : Int64) p1) + q3), Zs, Iv (1 : Int32), Lv ((((0 : Int64) + (1 : Int64)) + q2) + q4), Zs, Lv (((own_abv (0 : Int64) p1) + q3) + q5), Zs, Us] [(.int (1 : Int32))])) tt_
    refine XS.istore X_31.here hEX rfl (hb hBY at_127) rfl (l' := #[Iv p1, Lv q2, Zs, Lv q3, Zs, Lv q4, Zs, Lv q5, Zs, Rv b_1, Lv ((0 : Int64) + (1 : Int64)), Zs, Lv (own_abv (0 : Int64) p1), Zs, Lv (((0 : Int64) + (1 : Int64)) + q2), Zs, Lv ((own_abv (0 : Int64) p1) + q3), Zs, Iv (1 : Int32), Lv ((((0 : Int64) + (1 : Int64)) + q2) + q4), Zs, Lv (((own_abv (0 : Int64) p1) + q3) + q5), Zs, Iv (1 : Int32)]) rfl ?_
    show Steps p.tables e below (T_31.setTop (mkF m 129 #[Iv p1, Lv q2, Zs, Lv q3, Zs, Lv q4, Zs, Lv q5, Zs, Rv b_1, Lv ((0 : Int64) + (1 : Int64)), Zs, Lv (own_abv (0 : Int64) p1), Zs, Lv (((0 : Int64) + (1 : Int64)) + q2), Zs, Lv ((own_abv (0 : Int64) p1) + q3), Zs, Iv (1 : Int32), Lv ((((0 : Int64) + (1 : Int64)) + q2) + q4), Zs, Lv (((own_abv (0 : Int64) p1) + q3) + q5), Zs, Iv (1 : Int32)] [])) tt_
    refine XS.iload X_31.here hEX rfl (hb hBY at_129) rfl ?_
    show Steps p.tables e below (T_31.setTop (mkF m 131 #[Iv p1, Lv q2, Zs, Lv q3, Zs, Lv q4, Zs, Lv q5, Zs, Rv b_1, Lv ((0 : Int64) + (1 : Int64)), Zs, Lv (own_abv (0 : Int64) p1), Zs, Lv (((0 : Int64) + (1 : Int64)) + q2), Zs, Lv ((own_abv (0 : Int64) p1) + q3), Zs, Iv (1 : Int32), Lv ((((0 : Int64) + (1 : Int64)) + q2) + q4), Zs, Lv (((own_abv (0 : Int64) p1) + q3) + q5), Zs, Iv (1 : Int32)] [(.int (1 : Int32))])) tt_
    refine XS.ifNo X_31.here hEX rfl (hb hBY at_131) rfl ((if0 _ _).trans (feq (by decide : ¬ ((1 : Int32) = (0 : Int32)))).1) ?_
    show Steps p.tables e below (T_31.setTop (mkF m 134 #[Iv p1, Lv q2, Zs, Lv q3, Zs, Lv q4, Zs, Lv q5, Zs, Rv b_1, Lv ((0 : Int64) + (1 : Int64)), Zs, Lv (own_abv (0 : Int64) p1), Zs, Lv (((0 : Int64) + (1 : Int64)) + q2), Zs, Lv ((own_abv (0 : Int64) p1) + q3), Zs, Iv (1 : Int32), Lv ((((0 : Int64) + (1 : Int64)) + q2) + q4), Zs, Lv (((own_abv (0 : Int64) p1) + q3) + q5), Zs, Iv (1 : Int32)] [])) tt_
    refine XS.iload X_31.here hEX rfl (hb hBY at_134) rfl ?_
    show Steps p.tables e below (T_31.setTop (mkF m 136 #[Iv p1, Lv q2, Zs, Lv q3, Zs, Lv q4, Zs, Lv q5, Zs, Rv b_1, Lv ((0 : Int64) + (1 : Int64)), Zs, Lv (own_abv (0 : Int64) p1), Zs, Lv (((0 : Int64) + (1 : Int64)) + q2), Zs, Lv ((own_abv (0 : Int64) p1) + q3), Zs, Iv (1 : Int32), Lv ((((0 : Int64) + (1 : Int64)) + q2) + q4), Zs, Lv (((own_abv (0 : Int64) p1) + q3) + q5), Zs, Iv (1 : Int32)] [(.int (1 : Int32))])) tt_
    refine XS.ifNo X_31.here hEX rfl (hb hBY at_136) rfl ((if0 _ _).trans (feq (by decide : ¬ ((1 : Int32) = (0 : Int32)))).1) ?_
    show Steps p.tables e below (T_31.setTop (mkF m 139 #[Iv p1, Lv q2, Zs, Lv q3, Zs, Lv q4, Zs, Lv q5, Zs, Rv b_1, Lv ((0 : Int64) + (1 : Int64)), Zs, Lv (own_abv (0 : Int64) p1), Zs, Lv (((0 : Int64) + (1 : Int64)) + q2), Zs, Lv ((own_abv (0 : Int64) p1) + q3), Zs, Iv (1 : Int32), Lv ((((0 : Int64) + (1 : Int64)) + q2) + q4), Zs, Lv (((own_abv (0 : Int64) p1) + q3) + q5), Zs, Iv (1 : Int32)] [])) tt_
    refine XS.iconst X_31.here hEX rfl (hb hBY at_139) ?_
    show Steps p.tables e below (T_31.setTop (mkF m 140 #[Iv p1, Lv q2, Zs, Lv q3, Zs, Lv q4, Zs, Lv q5, Zs, Rv b_1, Lv ((0 : Int64) + (1 : Int64)), Zs, Lv (own_abv (0 : Int64) p1), Zs, Lv (((0 : Int64) + (1 : Int64)) + q2), Zs, Lv ((own_abv (0 : Int64) p1) + q3), Zs, Iv (1 : Int32), Lv ((((0 : Int64) + (1 : Int64)) + q2) + q4), Zs, Lv (((own_abv (0 : Int64) p1) + q3) + q5), Zs, Iv (1 : Int32)] [(.int (1 : Int32))])) tt_
    refine XS.goto X_31.here hEX rfl (pc0 := 140) (pc' := 144) rfl (hb hBY at_140) (by decide) (by decide) ?_
    exact kt_
  refine Done.pre sg_32 ?_
  exact Done.retN X_31 hEX hLK (t := .boolean) hRT (by simp) (hb hBY at_144) (by rw [e_31]; exact ⟨rfl, N_31, K__26⟩) (by decide) (by decide)
set_option maxRecDepth 65536 in
set_option maxHeartbeats 40000000 in
theorem comes_1 {Post : Tables → Env → Array Value → State → Outcome → State → Prop} (hpost : ∀ tb e args s v u, (limb_1_1.after args s (.returned v) u = true ∧ limb_1_2.after args s (.returned v) u = true ∧ True) → FrameEnd s (.returned v) u (Jvm.fieldLocs frame_1_writes args s ++ Jvm.arrayLocs frame_1_arrays args s ++ Jvm.staticLocs frame_1_statics s) 16 128 → Post tb e args s (.returned v) u) :
    ArmFor flags0 classFile x code maxLocals ret World_1 tables_1 room_1 Calls_1 rest_1 Pre_1 Post := by
  intro l hfl _ _ p e ha hc hk s m args below hf hA hF happ hP
  obtain ⟨hcalls, hrest, hpre⟩ := hP
  obtain ⟨-, -, -, hnamed, -, -, -, hat⟩ := (Spec.applies_iff hf).mp happ
  obtain ⟨hg, hn⟩ := and_e (Cond.before_iff.mp (show (Jvm.Cond.and given_1 narrow_1).before args s = true from hpre))
  obtain ⟨g1a, g1b⟩ := and_e hg
  obtain ⟨g2a, g2b⟩ := and_e g1b
  obtain ⟨g3a, g3b⟩ := and_e g2b
  obtain ⟨g4a, g4b⟩ := and_e g3b
  obtain ⟨g5a, g5b⟩ := and_e g4b
  obtain ⟨w0, w1, w2, w3, w4, rfl⟩ : ∃ w0 w1 w2 w3 w4 : Value, args = #[w0, w1, w2, w3, w4] := by
    have hs : args.size = 5 := by simpa [Cond.value, given_1] using g1a
    obtain ⟨L⟩ := args
    match L, hs with
    | [w0, w1, w2, w3, w4], _ => exact ⟨w0, w1, w2, w3, w4, rfl⟩
  have hw := fun d (hd : d ∈ tables_1) => atoms_spec (ws := Jvm.Cond.code x code maxLocals ret :: tables_1) hat d (List.mem_cons_of_mem _ hd)
  have hfit : Fit s := fun {y c} hc i hi => by
    obtain ⟨ha, rfl⟩ := Array.getElem?_eq_some_iff.mp hc
    have q := List.all_eq_true.mp ((Array.all_eq_true_iff_forall_mem.mp hF) _ (Array.getElem_mem ha)) i (List.mem_range.mpr hi)
    simpa [Array.getElem?_eq_getElem hi] using q
  obtain ⟨i0, ei0⟩ := is_v g2a
  obtain rfl : w0 = (.int i0) := Option.some.inj ei0
  obtain ⟨i1, ei1⟩ := isL_v g3a
  obtain rfl : w1 = (.long i1) := Option.some.inj ei1
  obtain ⟨i2, ei2⟩ := isL_v g4a
  obtain rfl : w2 = (.long i2) := Option.some.inj ei2
  obtain ⟨i3, ei3⟩ := isL_v g5a
  obtain rfl : w3 = (.long i3) := Option.some.inj ei3
  obtain ⟨i4, ei4⟩ := isL_v g5b
  obtain rfl : w4 = (.long i4) := Option.some.inj ei4
  obtain ⟨n, o, h1, h2, h3, _, L, rfl, ⟨rfl, N, -⟩, hq⟩ := rm0 l s _ hw tables_1 i0 i1 i2 i3 i4  s.heap s.heap.size (Nat.le_refl _)  p e ha hc hk s m _ below hf ((Spec.applies_iff_loose hf).mp happ).1 ⟨rfl, State.Warmed39.refl s, rfl⟩ trivial
  refine ⟨n, _, h1, h2, h3, hpost _ _ _ _ _ _ ⟨Cond.after_iff.mpr rfl, Cond.after_iff.mpr (eq_i res_at (Term.int_eval (1)) rfl), trivial⟩ ⟨hq.1, hq.2.1, (hq.2.2.sift fun y hy => Or.inr (N y hy)).mono (by decide) (by decide)⟩⟩
theorem main_1_1 : Claimed_1_1 := comes_1 fun _ _ _ _ _ _ h hF => ⟨h.1, hF⟩
theorem main_1_2 : Claimed_1_2 := comes_1 fun _ _ _ _ _ _ h hF => ⟨h.2.1, hF⟩
end Jvm.Pilot.@@N@@
namespace Jvm.Pilot.@@N@@
open Jvm Jvm.ClassFile Sem Op Lib Jvm.Free Jvm.Stand Jvm.Pilot.@@N@@.Jvm.D
/-! MADE BY PROGRAM (witnessworld.py) out of the Statement's table words and the real class files: 9 classes; the members and pool entries that the words name. The judged class is class 1, her method 1. -/
namespace start1
open Jvm.ClassFile
def u (s : String) : CpInfo := .utf8 (stringToUtf16 s)
/-- a pool by its gaps: so many unusable entries, then the entry; so many at the end -/
def gap : Nat → List CpInfo → List CpInfo
  | 0, r => r
  | n + 1, r => .unusable :: gap n r
def poolList (es : List (Nat × CpInfo)) (last : Nat) : List CpInfo := es.foldr (fun e r => gap e.1 (e.2 :: r)) (gap last [])
def pool (es : List (Nat × CpInfo)) (last : Nat) : Array CpInfo := ⟨poolList es last⟩
def fileOf (pool : Array CpInfo) (this : Nat) (attrs : Array Attribute := #[]) (ms : Array MethodInfo := #[]) (fl : Nat := 33) (sup : Nat := 0) (ifs : Array Nat := #[]) (fds : Array FieldInfo := #[]) : ClassFile where
  minorVersion := 0
  majorVersion := 65
  constantPool := pool
  accessFlags := fl
  thisClass := this
  superClass := sup
  interfaces := ifs
  fields := fds
  methods := ms
  attributes := attrs
def plain (name : String) (sup : Option ClassId) : Class where
  name := name
  kind := .ordinary
  loader := none
  accessFlags := 33
  super := sup
  interfaces := #[]
  cf := none
  fields := #[]
  methods := #[]
  instanceTypes := #[]
  staticTypes := #[]
  resolved := #[]
  callSites := []
  init := .initialized
  statics := none
  mirror := none

def pool0 : Array CpInfo := pool [(5, u "<init>"), (0, u "()V"), (1, .class_ 10), (1, u "java/lang/Object")] 113

def k0c0 : Code := { maxStack := 0, maxLocals := 1, code := object_method_1_code, exceptionTable := #[], attributes := #[] }
def k0m0 : Method := { name := "<init>", desc := "()V", sig := { parameters := [], returnType := none }, accessFlags := 1, code := some k0c0 }
/-- java/lang/Object -/
def k0 : Class := { plain "java/lang/Object" none with
  accessFlags := 33
  interfaces := #[]
  cf := some (fileOf pool0 8 #[] #[{ accessFlags := 1, nameIndex := 5, descriptorIndex := 6, attributes := #[] }] 33 0 #[] #[])
  fields := #[]
  methods := #[k0m0]
  instanceTypes := #[]
  staticTypes := #[]
  resolved := Array.replicate 124 none
  statics := none }

def pool1 : Array CpInfo := pool [(2, .class_ 4), (0, .nameAndType 5 6), (0, u "java/lang/Object"), (0, u "<init>"), (0, u "()V"), (0, .class_ 8), (0, u "com/example/sutf/sutf/codec/Tally"), (0, .methodref 7 3), (0, .methodref 7 11), (0, .nameAndType 12 13), (0, u "add"), (0, u "(I)V"), (0, .methodref 7 15), (0, .nameAndType 16 17), (0, u "codePoints"), (0, u "()J"), (0, .methodref 7 19), (0, .nameAndType 20 17), (0, u "aboveFfff"), (0, .methodref 7 22), (0, .nameAndType 12 23), (0, u "(JJ)V"), (0, .class_ 25), (0, u "com/example/sutf/sutf/codec/TallyAdd68PinLaw"), (2, u "law"), (0, u "(IJJJJ)Z")] 3

def k1m0 : Method := { name := "<init>", desc := "()V", sig := { parameters := [], returnType := none }, accessFlags := 2, code := none }
def k1c1 : Code := { maxStack := 6, maxLocals := 24, code := code, exceptionTable := #[], attributes := #[] }
def k1m1 : Method := { name := "law", desc := "(IJJJJ)Z", sig := { parameters := [.int, .long, .long, .long, .long], returnType := some .boolean }, accessFlags := 9, code := some k1c1 }
/-- com/example/sutf/sutf/codec/TallyAdd68PinLaw -/
def k1 : Class := { plain "com/example/sutf/sutf/codec/TallyAdd68PinLaw" (some 0) with
  accessFlags := 49
  interfaces := #[]
  cf := some (fileOf pool1 24 #[] #[{ accessFlags := 2, nameIndex := 5, descriptorIndex := 6, attributes := #[] }, { accessFlags := 9, nameIndex := 28, descriptorIndex := 29, attributes := #[] }] 49 2 #[] #[])
  fields := #[]
  methods := #[k1m0, k1m1]
  instanceTypes := #[]
  staticTypes := #[]
  resolved := Array.replicate 33 none
  statics := none }

def pool2 : Array CpInfo := pool [(1, .methodref 2 3), (0, .class_ 4), (0, .nameAndType 5 6), (0, u "java/lang/Object"), (0, u "<init>"), (0, u "()V"), (0, .fieldref 8 9), (0, .class_ 10), (0, .nameAndType 11 12), (0, u "com/example/sutf/sutf/codec/Tally"), (0, u "codePoints"), (0, u "J"), (0, .integer 65535), (2, .integer 2147483648), (0, .fieldref 8 18), (0, .nameAndType 19 12), (0, u "aboveFfff"), (2, u "add"), (0, u "(I)V"), (1, u "(JJ)V"), (0, u "()J")] 2

def k2c0 : Code := { maxStack := 1, maxLocals := 1, code := prog_17_method_1_code, exceptionTable := #[], attributes := #[] }
def k2m0 : Method := { name := "<init>", desc := "()V", sig := { parameters := [], returnType := none }, accessFlags := 1, code := some k2c0 }
def k2c1 : Code := { maxStack := 5, maxLocals := 2, code := prog_17_method_2_code, exceptionTable := #[], attributes := #[] }
def k2m1 : Method := { name := "add", desc := "(I)V", sig := { parameters := [.int], returnType := none }, accessFlags := 1, code := some k2c1 }
def k2c2 : Code := { maxStack := 5, maxLocals := 5, code := prog_17_method_3_code, exceptionTable := #[], attributes := #[] }
def k2m2 : Method := { name := "add", desc := "(JJ)V", sig := { parameters := [.long, .long], returnType := none }, accessFlags := 0, code := some k2c2 }
def k2c3 : Code := { maxStack := 2, maxLocals := 1, code := prog_17_method_4_code, exceptionTable := #[], attributes := #[] }
def k2m3 : Method := { name := "codePoints", desc := "()J", sig := { parameters := [], returnType := some .long }, accessFlags := 1, code := some k2c3 }
def k2c4 : Code := { maxStack := 2, maxLocals := 1, code := prog_17_method_5_code, exceptionTable := #[], attributes := #[] }
def k2m4 : Method := { name := "aboveFfff", desc := "()J", sig := { parameters := [], returnType := some .long }, accessFlags := 1, code := some k2c4 }
/-- com/example/sutf/sutf/codec/Tally -/
def k2 : Class := { plain "com/example/sutf/sutf/codec/Tally" (some 0) with
  accessFlags := 49
  interfaces := #[]
  cf := some (fileOf pool2 8 #[] #[{ accessFlags := 1, nameIndex := 5, descriptorIndex := 6, attributes := #[] }, { accessFlags := 1, nameIndex := 22, descriptorIndex := 23, attributes := #[] }, { accessFlags := 0, nameIndex := 22, descriptorIndex := 25, attributes := #[] }, { accessFlags := 1, nameIndex := 11, descriptorIndex := 26, attributes := #[] }, { accessFlags := 1, nameIndex := 19, descriptorIndex := 26, attributes := #[] }] 49 2 #[] #[{ accessFlags := 2, nameIndex := 11, descriptorIndex := 12, attributes := #[] }, { accessFlags := 2, nameIndex := 19, descriptorIndex := 12, attributes := #[] }])
  fields := #[{ name := "codePoints", type := .long, accessFlags := 2, slot := 0, constantValue := 0 }, { name := "aboveFfff", type := .long, accessFlags := 2, slot := 1, constantValue := 0 }]
  methods := #[k2m0, k2m1, k2m2, k2m3, k2m4]
  instanceTypes := #[.long, .long]
  staticTypes := #[]
  resolved := Array.replicate 29 none
  statics := none }

def pool3 : Array CpInfo := pool [(1, u "java/lang/Cloneable"), (0, .class_ 1), (0, u "java/lang/Object"), (0, .class_ 3)] 3

/-- java/lang/Cloneable -/
def k3 : Class := { plain "java/lang/Cloneable" (some 0) with
  accessFlags := 1537
  interfaces := #[]
  cf := some (fileOf pool3 2 #[] #[] 1537 4 #[] #[])
  fields := #[]
  methods := #[]
  instanceTypes := #[]
  staticTypes := #[]
  resolved := Array.replicate 8 none
  statics := none }

def pool4 : Array CpInfo := pool [(1, u "java/io/Serializable"), (0, .class_ 1), (0, u "java/lang/Object"), (0, .class_ 3)] 3

/-- java/io/Serializable -/
def k4 : Class := { plain "java/io/Serializable" (some 0) with
  accessFlags := 1537
  interfaces := #[]
  cf := some (fileOf pool4 2 #[] #[] 1537 4 #[] #[])
  fields := #[]
  methods := #[]
  instanceTypes := #[]
  staticTypes := #[]
  resolved := Array.replicate 8 none
  statics := none }

/-- the primitive byte -/
def k5 : Class := { plain "byte" none with kind := .primitive 'B', accessFlags := 0x411 }
/-- [B -/
def k6 : Class := { plain "[B" (some 0) with kind := .array 5 .byte, interfaces := #[3, 4], accessFlags := 1041 }

/-- the primitive int -/
def k7 : Class := { plain "int" none with kind := .primitive 'I', accessFlags := 0x411 }
/-- [I -/
def k8 : Class := { plain "[I" (some 0) with kind := .array 7 .int, interfaces := #[3, 4], accessFlags := 1041 }

def heap : Heap := #[]
def classes : Array Class := #[k0, k1, k2, k3, k4, k5, k6, k7, k8]
def interned : List (Array UInt16 × Addr) := []
def slotsUsed : Nat := 0
def theMethod : MethodId := ⟨1, 1⟩
def args0 : Array Value := #[.int 5, .long 1, .long 2, .long 3, .long 4]
def aboutOver (below : List Frame) : State where
  vm := { classes := classes, interned := interned.toArray }
  heap := heap
  slotsUsed := slotsUsed
  threads := #[{ frames := .invoking theMethod args0 :: below }]
def below0 : List Frame := [.native { method := ⟨0, 0⟩, args := #[] }]
def about1 : State := aboutOver below0
def p0 : Program := .bare "" "" ""
def e0 : Env := launch0.env 0 0 0
theorem w_frames : about1.frames = Frame.invoking theMethod args0 :: below0 := rfl
set_option maxRecDepth 65536 in
theorem w_args : argsFit about1.vm theMethod args0 = true := by decide +kernel
set_option maxRecDepth 65536 in
theorem w_heap : heapFits about1 = true := by decide +kernel
set_option maxRecDepth 65536 in
theorem w_runnable : about1.curStatus? = some .runnable := by decide +kernel
set_option maxRecDepth 65536 in
theorem w_alone : about1.alone = true := by decide +kernel
set_option maxRecDepth 65536 in
theorem w_named : about1.methodNamed? x = some theMethod := by decide +kernel
set_option maxRecDepth 65536 in
theorem w_hears : about1.hears theMethod below0 = true := by decide +kernel
set_option maxRecDepth 65536 in
theorem w_ripe : about1.ripe theMethod args0 below0 = true := by decide +kernel
theorem w_running : about1.status = .running := rfl
set_option maxRecDepth 65536 in
theorem w_room : about1.hasRoom e0.platform room_1 = true :=
  launch0.hasRoom_least _ room_1 (by decide +kernel) (by decide +kernel) (by decide +kernel) (by decide +kernel) (by decide +kernel) (by decide +kernel)
theorem allAtoms_all (ts : List Jvm.Cond) (a : Array Jvm.Value) (st : Jvm.State) : (allAtoms ts).before a st = ts.all (fun c => c.before a st) := by
  induction ts with
  | nil => rfl
  | cons c t ih =>
    show (Jvm.Cond.and c (allAtoms t)).before a st = _
    rw [Jvm.Cond.before_and, ih, List.all_cons]
def words1 : List Jvm.Cond := Jvm.Cond.code x code maxLocals ret :: tables_1
/-- a 'code' word, met by the world's own term for the bytes: nothing is compared byte by byte -/
theorem code_word {y : MethodName} {bytes : ByteArray} {mx : Nat} {rt : Option FieldType} {a : Array Value} {s : State} {m : MethodId} {meth : Method} {c : Code} (h1 : s.methodNamed? y = some m) (h2 : s.vm.method? m = some meth) (h3 : meth.code = some c) (h4 : c.code = bytes)
    (h5 : (c.maxLocals == mx && c.exceptionTable.isEmpty && decide (c.maxStack ≤ mostOperands) && decide (meth.sig.returnType = rt) && !meth.locks && decide (parseMethodDescriptor y.desc = some meth.sig)) = true) : (Jvm.Cond.code y bytes mx rt).before a s = true := by
  simp only [Bool.and_eq_true, beq_iff_eq, Bool.not_eq_true', decide_eq_true_eq] at h5
  obtain ⟨⟨⟨⟨⟨g1, g2⟩, g3⟩, g4⟩, g5⟩, g6⟩ := h5
  simp [Cond.before, Cond.holds, Cond.value, h1, h2, h3, h4, g1, g2, g3, g4, g5, g6]
def isCode : Jvm.Cond → Bool
  | .code _ _ _ _ => true
  | _ => false
theorem all_split {L : List Jvm.Cond} {P : Jvm.Cond → Bool} (h1 : L.all (fun c => isCode c || P c) = true) (h2 : ∀ c ∈ L.filter isCode, P c = true) : L.all P = true := by
  refine List.all_eq_true.mpr fun c hc => ?_
  have h := List.all_eq_true.mp h1 c hc
  rcases Bool.eq_false_or_eq_true (isCode c) with hi | hi
  · exact h2 c (List.mem_filter.mpr ⟨hc, hi⟩)
  · simpa [hi] using h
set_option maxRecDepth 65536 in
theorem w_c0 : (Jvm.Cond.code x code maxLocals ret).before args0 about1 = true := code_word (m := ⟨1, 1⟩) (meth := k1m1) (c := k1c1) (by decide +kernel) rfl rfl rfl (by decide +kernel)
set_option maxRecDepth 65536 in
theorem w_c1 : (Jvm.Cond.code ({ cls := "com/example/sutf/sutf/codec/Tally", name := "<init>", desc := "()V" } : Jvm.MethodName) prog_17_method_1_code (1 : Nat) (Option.none : Option Jvm.ClassFile.FieldType)).before args0 about1 = true := code_word (m := ⟨2, 0⟩) (meth := k2m0) (c := k2c0) (by decide +kernel) rfl rfl rfl (by decide +kernel)
set_option maxRecDepth 65536 in
theorem w_c2 : (Jvm.Cond.code ({ cls := "java/lang/Object", name := "<init>", desc := "()V" } : Jvm.MethodName) object_method_1_code (1 : Nat) (Option.none : Option Jvm.ClassFile.FieldType)).before args0 about1 = true := code_word (m := ⟨0, 0⟩) (meth := k0m0) (c := k0c0) (by decide +kernel) rfl rfl rfl (by decide +kernel)
set_option maxRecDepth 65536 in
theorem w_c3 : (Jvm.Cond.code ({ cls := "com/example/sutf/sutf/codec/Tally", name := "add", desc := "(I)V" } : Jvm.MethodName) prog_17_method_2_code (2 : Nat) (Option.none : Option Jvm.ClassFile.FieldType)).before args0 about1 = true := code_word (m := ⟨2, 1⟩) (meth := k2m1) (c := k2c1) (by decide +kernel) rfl rfl rfl (by decide +kernel)
set_option maxRecDepth 65536 in
theorem w_c4 : (Jvm.Cond.code ({ cls := "com/example/sutf/sutf/codec/Tally", name := "codePoints", desc := "()J" } : Jvm.MethodName) prog_17_method_4_code (1 : Nat) (Option.some Jvm.ClassFile.FieldType.long)).before args0 about1 = true := code_word (m := ⟨2, 3⟩) (meth := k2m3) (c := k2c3) (by decide +kernel) rfl rfl rfl (by decide +kernel)
set_option maxRecDepth 65536 in
theorem w_c5 : (Jvm.Cond.code ({ cls := "com/example/sutf/sutf/codec/Tally", name := "aboveFfff", desc := "()J" } : Jvm.MethodName) prog_17_method_5_code (1 : Nat) (Option.some Jvm.ClassFile.FieldType.long)).before args0 about1 = true := code_word (m := ⟨2, 4⟩) (meth := k2m4) (c := k2c4) (by decide +kernel) rfl rfl rfl (by decide +kernel)
set_option maxRecDepth 65536 in
theorem w_c6 : (Jvm.Cond.code ({ cls := "com/example/sutf/sutf/codec/Tally", name := "add", desc := "(JJ)V" } : Jvm.MethodName) prog_17_method_3_code (5 : Nat) (Option.none : Option Jvm.ClassFile.FieldType)).before args0 about1 = true := code_word (m := ⟨2, 2⟩) (meth := k2m2) (c := k2c2) (by decide +kernel) rfl rfl rfl (by decide +kernel)
def codes1 : List Jvm.Cond := [Jvm.Cond.code x code maxLocals ret, Jvm.Cond.code ({ cls := "com/example/sutf/sutf/codec/Tally", name := "<init>", desc := "()V" } : Jvm.MethodName) prog_17_method_1_code (1 : Nat) (Option.none : Option Jvm.ClassFile.FieldType), Jvm.Cond.code ({ cls := "java/lang/Object", name := "<init>", desc := "()V" } : Jvm.MethodName) object_method_1_code (1 : Nat) (Option.none : Option Jvm.ClassFile.FieldType), Jvm.Cond.code ({ cls := "com/example/sutf/sutf/codec/Tally", name := "add", desc := "(I)V" } : Jvm.MethodName) prog_17_method_2_code (2 : Nat) (Option.none : Option Jvm.ClassFile.FieldType), Jvm.Cond.code ({ cls := "com/example/sutf/sutf/codec/Tally", name := "codePoints", desc := "()J" } : Jvm.MethodName) prog_17_method_4_code (1 : Nat) (Option.some Jvm.ClassFile.FieldType.long), Jvm.Cond.code ({ cls := "com/example/sutf/sutf/codec/Tally", name := "aboveFfff", desc := "()J" } : Jvm.MethodName) prog_17_method_5_code (1 : Nat) (Option.some Jvm.ClassFile.FieldType.long), Jvm.Cond.code ({ cls := "com/example/sutf/sutf/codec/Tally", name := "add", desc := "(JJ)V" } : Jvm.MethodName) prog_17_method_3_code (5 : Nat) (Option.none : Option Jvm.ClassFile.FieldType)]
set_option maxRecDepth 65536 in
theorem codes_eq : words1.filter isCode = codes1 := rfl
theorem w_codes : ∀ c ∈ words1.filter isCode, c.before args0 about1 = true := by
  rw [codes_eq]
  intro c hc
  simp only [codes1, List.mem_cons, List.not_mem_nil, or_false] at hc
  rcases hc with rfl | rfl | rfl | rfl | rfl | rfl | rfl
  · exact w_c0
  · exact w_c1
  · exact w_c2
  · exact w_c3
  · exact w_c4
  · exact w_c5
  · exact w_c6
set_option maxRecDepth 65536 in
theorem w_t1 : (words1.take 24).all (fun c => isCode c || c.before args0 about1) = true := by decide +kernel
set_option maxRecDepth 65536 in
theorem w_t2 : (words1.drop 24).all (fun c => isCode c || c.before args0 about1) = true := by decide +kernel
theorem w_tables : (allAtoms (Jvm.Cond.code x code maxLocals ret :: tables_1)).before args0 about1 = true := by
  rw [allAtoms_all]
  show words1.all (fun c => c.before args0 about1) = true
  refine all_split ?_ w_codes
  rw [← List.take_append_drop 24 words1, List.all_append, w_t1, w_t2]
  rfl
set_option maxRecDepth 65536 in
theorem w_case : (Jvm.Cond.and given_1 narrow_1).before args0 about1 = true := by decide +kernel
theorem w_applies : (headSpec (Jvm.Cond.code x code maxLocals ret :: tables_1) room_1).applies x e0.platform about1 = true :=
  (Spec.applies_iff w_frames).mpr ⟨w_running, w_runnable, w_alone, w_named, w_hears, w_ripe, w_room, w_tables⟩
theorem atStart : AtStart classFile x code maxLocals ret World_1 tables_1 room_1 Calls_1 rest_1 Pre_1 launch0 p0 e0 about1 theMethod args0 below0 :=
  ⟨lists_1, trivial, launch0.admits_env _ _ _, launch0.least_env, fairChoices_fair.cas, fairChoices_fair.clock, w_frames, w_args, w_heap, w_applies, trivial, trivial, w_case⟩
end start1
theorem witness_1 : WitnessClaimed_1 := ⟨start1.p0, start1.e0, start1.about1, start1.theMethod, start1.args0, start1.below0, start1.atStart⟩
end Jvm.Pilot.@@N@@
