import JvmDerived
import JvmDerived.Pilot.@@N@@Statement
import JvmDerived.Pilot.@@N@@Code
set_option linter.unusedVariables false
set_option linter.unusedSimpArgs false
namespace Jvm.RoadKit
open Sem ClassFile Op Lib Jvm.Stand Jvm.Free Jvm.LawKit
section New
variable {p : Program} {l : Launch} {e : Env} {R : Room} {s : State} {m : MethodId} {args : Array Value} {below : List Frame} {meth : Method} {c : Code} {T : State} {locs : List Loc} {cells slots : Nat}
theorem retI (X : Stand p l e R s m args below meth c T locs cells slots) (hEX : p.tables.exec = Jvm.exec) {pc : Nat} {Ls : Array Slot} {z : Int32} {rest : List Value} (hRT : meth.sig.returnType = some .int) (hd : decode c.code pc = .ok (.ireturn, 1)) {fs : List Frame}
    (hl : ∀ (f : JFrame) (acts : List Action), f.method = m → f.locked = none → f.entered = [] → (doReturn e (T.setTop f) acts (some (.int z))).1 = T.setFrames fs) : Steps p.tables e below (T.setTop (mkF m pc Ls (.int z :: rest))) (T.setFrames fs) := by
  have hm' : T.vm.method? m = some meth := X.method'
  have hn : narrow .int (.int z) = .int z := rfl
  show Steps p.tables e below (T.setTop { method := m, pc := pc, locals := Ls, stack := _ :: rest, locked := none }) _
  jvm_step X.here [X.here.top, hEX, hd, hm', hRT, hn]
  first | (intro acts; rw [hl _ acts rfl rfl rfl]) | rw [hl _ _ rfl rfl rfl]
  exact Steps.refl _
abbrev Us : Slot := .unset
abbrev Zs : Slot := .second
abbrev Nv : Slot := .val .null
abbrev Iv (x : Int32) : Slot := .val (.int x)
abbrev Lv (x : Int64) : Slot := .val (.long x)
abbrev Rv (x : Addr) : Slot := .val (.ref x)
/-- the body comes to its end from st: it returns v, and Q holds of v, of the heap and of the places written -/
def Done (p : Program) (e : Env) (below : List Frame) (s : State) (Q : Option Value → Heap → List Loc → Prop) (kc ks : Nat) (st : State) : Prop :=
  ∃ (s₂ : State) (o : Outcome), Steps p.tables e below st s₂ ∧ s₂.status = .running ∧ Ended s₂ below o ∧ ∃ v L, o = .returned v ∧ Q v s₂.heap L ∧ FrameEnd s o s₂ L kc ks
variable {Q : Option Value → Heap → List Loc → Prop} {kc ks : Nat}
theorem Done.pre {st st' : State} (h : ∀ t, Steps p.tables e below st' t → Steps p.tables e below st t) (D : Done p e below s Q kc ks st') : Done p e below s Q kc ks st := by
  obtain ⟨s₂, o, h1, r⟩ := D
  exact ⟨s₂, o, h _ h1, r⟩
theorem Done.retI (X : Stand p l e R s m args below meth c T locs cells slots) (hEX : p.tables.exec = Jvm.exec) (hLK : meth.locks = false) {pc : Nat} {Ls : Array Slot} {z : Int32} {rest : List Value} (hRT : meth.sig.returnType = some .int) (hd : decode c.code pc = .ok (.ireturn, 1))
    (hQ : Q (some (.int z)) T.heap locs) (hc : cells ≤ kc) (hs : slots ≤ ks) : Done p e below s Q kc ks (T.setTop (mkF m pc Ls (.int z :: rest))) := by
  obtain ⟨fs, hr, hrun, hended, hW, hsame⟩ := X.leave (v := some (.int z)) (fun h => by rw [hRT] at h; cases h) hLK
  exact ⟨_, _, Jvm.RoadKit.retI X hEX hRT hd hr, hrun, hended, _, _, rfl, hQ, ⟨_, rfl⟩, hW, hsame.mono hc hs⟩
theorem Done.retN (X : Stand p l e R s m args below meth c T locs cells slots) (hEX : p.tables.exec = Jvm.exec) (hLK : meth.locks = false) {pc : Nat} {Ls : Array Slot} {z : Int32} {t : FieldType} {rest : List Value} (hRT : meth.sig.returnType = some t) (ht : t = .boolean ∨ t = .byte ∨ t = .char ∨ t = .short) (hd : decode c.code pc = .ok (.ireturn, 1))
    (hQ : Q (some (.int (nar t z))) T.heap locs) (hc : cells ≤ kc) (hs : slots ≤ ks) : Done p e below s Q kc ks (T.setTop (mkF m pc Ls (.int z :: rest))) := by
  obtain ⟨fs, hr, hrun, hended, hW, hsame⟩ := X.leave (v := some (.int (nar t z))) (fun h => by rw [hRT] at h; cases h) hLK
  exact ⟨_, _, Jvm.RoadKit.retN X hEX hRT ht hd hr, hrun, hended, _, _, rfl, hQ, ⟨_, rfl⟩, hW, hsame.mono hc hs⟩
theorem Done.retL (X : Stand p l e R s m args below meth c T locs cells slots) (hEX : p.tables.exec = Jvm.exec) (hLK : meth.locks = false) {pc : Nat} {Ls : Array Slot} {z : Int64} {rest : List Value} (hRT : meth.sig.returnType = some .long) (hd : decode c.code pc = .ok (.lreturn, 1))
    (hQ : Q (some (.long z)) T.heap locs) (hc : cells ≤ kc) (hs : slots ≤ ks) : Done p e below s Q kc ks (T.setTop (mkF m pc Ls (.long z :: rest))) := by
  obtain ⟨fs, hr, hrun, hended, hW, hsame⟩ := X.leave (v := some (.long z)) (fun h => by rw [hRT] at h; cases h) hLK
  exact ⟨_, _, retOut X hEX hRT rfl (Or.inr (Or.inl ⟨rfl, rfl, _, rfl⟩)) hd hr, hrun, hended, _, _, rfl, hQ, ⟨_, rfl⟩, hW, hsame.mono hc hs⟩
theorem Done.retA (X : Stand p l e R s m args below meth c T locs cells slots) (hEX : p.tables.exec = Jvm.exec) (hLK : meth.locks = false) {pc : Nat} {Ls : Array Slot} {w : Value} {t : FieldType} {rest : List Value} (hRT : meth.sig.returnType = some t) (ht : t.isReference = true) (hw : w.isRef = true) (hd : decode c.code pc = .ok (.areturn, 1))
    (hQ : Q (some w) T.heap locs) (hc : cells ≤ kc) (hs : slots ≤ ks) : Done p e below s Q kc ks (T.setTop (mkF m pc Ls (w :: rest))) := by
  obtain ⟨fs, hr, hrun, hended, hW, hsame⟩ := X.leave (v := some w) (fun h => by rw [hRT] at h; cases h) hLK
  have hn : narrow t w = w := by cases t <;> first | rfl | (simp [FieldType.isReference] at ht)
  exact ⟨_, _, retOut X hEX hRT hn (Or.inr (Or.inr (Or.inr (Or.inr ⟨rfl, ht, hw⟩)))) hd hr, hrun, hended, _, _, rfl, hQ, ⟨_, rfl⟩, hW, hsame.mono hc hs⟩
theorem Done.retV (X : Stand p l e R s m args below meth c T locs cells slots) (hEX : p.tables.exec = Jvm.exec) (hLK : meth.locks = false) {pc : Nat} {Ls : Array Slot} (hRT : meth.sig.returnType = none) (hd : decode c.code pc = .ok (.return_, 1))
    (hQ : Q none T.heap locs) (hc : cells ≤ kc) (hs : slots ≤ ks) : Done p e below s Q kc ks (T.setTop (mkF m pc Ls [])) := by
  obtain ⟨fs, hr, hrun, hended, hW, hsame⟩ := X.leave (v := none) (fun _ => rfl) hLK
  exact ⟨_, _, X.returnOut hEX hRT hd hr, hrun, hended, _, _, rfl, hQ, ⟨_, rfl⟩, hW, hsame.mono hc hs⟩
end New
end Jvm.RoadKit
namespace Jvm.Pilot.@@N@@
open Jvm Jvm.ClassFile Sem Op Lib Jvm.Free Jvm.Stand Jvm.LawKit Jvm.RoadKit Bundle Jvm.Pilot.@@N@@.Jvm.D

def own_v4 (hi lo : Int64) : Int32 := if hi = (0 : Int64) then (if (lo &&& (-4294967296 : Int64)) = (281470681743360 : Int64) then (1 : Int32) else (0 : Int32)) else (0 : Int32)
def own_exp (hi : Int64) (up : Int32) : Int32 := if hi = (0 : Int64) then (if up = (65535 : Int32) then (1 : Int32) else (0 : Int32)) else (0 : Int32)
theorem own_bv (a v : BitVec 64) : ((a <<< 32) ||| (v &&& 4294967295#64)) &&& 18446744069414584320#64 = a <<< 32 := by
  apply BitVec.eq_of_getLsbD_eq
  intro i hi
  have h1 : ∀ i : Fin 64, (18446744069414584320#64).getLsbD i.val = decide (32 ≤ i.val) := by decide
  have h2 : ∀ i : Fin 64, (4294967295#64).getLsbD i.val = decide (i.val < 32) := by decide
  have g1 := h1 ⟨i, hi⟩
  have g2 := h2 ⟨i, hi⟩
  simp only at g1 g2
  rw [BitVec.getLsbD_and, BitVec.getLsbD_or, BitVec.getLsbD_and, BitVec.getLsbD_shiftLeft, g1, g2]
  by_cases h : i < 32
  · have : ¬ 32 ≤ i := by omega
    simp [h, this]
  · have : 32 ≤ i := by omega
    simp [h, this]
theorem own_low (u v : Int64) : ((u <<< ((32 : Int32) &&& 0x3f).toInt64) ||| (v &&& (4294967295 : Int64))) &&& (-4294967296 : Int64) = u <<< ((32 : Int32) &&& 0x3f).toInt64 := by
  apply Int64.toBitVec_inj.mp
  have hS : (u <<< ((32 : Int32) &&& 0x3f).toInt64).toBitVec = u.toBitVec <<< 32 := by
    show (u.toBitVec <<< (((32 : Int32) &&& 0x3f).toInt64.toBitVec.smod 64)) = _
    rw [BitVec.shiftLeft_eq', show ((((32 : Int32) &&& 0x3f).toInt64.toBitVec.smod 64)).toNat = 32 from by decide]
  show (((u <<< ((32 : Int32) &&& 0x3f).toInt64).toBitVec ||| (v.toBitVec &&& 4294967295#64)) &&& (-4294967296 : Int64).toBitVec) = (u <<< ((32 : Int32) &&& 0x3f).toInt64).toBitVec
  rw [hS]
  exact own_bv _ _
theorem own_up (up : Int32) : (up.toInt64 <<< ((32 : Int32) &&& 0x3f).toInt64 = (281470681743360 : Int64)) ↔ up = (65535 : Int32) := by
  have h1 := c_lshl up.toInt64 (32 : Int32) 32 (by decide)
  have h2 := c_i2l up
  have h3 := rng32 up
  have h4 := rng64 (up.toInt64 <<< ((32 : Int32) &&& 0x3f).toInt64)
  have e1 : (281470681743360 : Int64).toInt = 281470681743360 := rfl
  have e2 : (65535 : Int32).toInt = 65535 := rfl
  have e3 : ((2 ^ 32 : Nat) : Int) = 4294967296 := rfl
  rw [h2, e3] at h1
  rw [← Int64.toInt_inj, ← Int32.toInt_inj, e1, e2]
  omega
theorem own_law (hi : Int64) (up v : Int32) : own_v4 hi ((up.toInt64 <<< ((32 : Int32) &&& 0x3f).toInt64) ||| (v.toInt64 &&& (4294967295 : Int64))) = own_exp hi up := by
  rw [own_v4, own_exp, own_low]
  by_cases h : hi = (0 : Int64)
  · rw [if_pos h, if_pos h]
    by_cases g : up = (65535 : Int32)
    · rw [if_pos g, if_pos ((own_up up).mpr g)]
    · rw [if_neg g, if_neg (fun q => g ((own_up up).mp q))]
  · rw [if_neg h, if_neg h]
theorem d_jdk_30_method_1_code_0 : decode jdk_30_method_1_code 0 = .ok (.aload_n 0, 1) := by decide +kernel
theorem d_jdk_30_method_1_code_1 : decode jdk_30_method_1_code 1 = .ok (.invokespecial 1, 3) := by decide +kernel
theorem d_jdk_30_method_1_code_4 : decode jdk_30_method_1_code 4 = .ok (.return_, 1) := by decide +kernel
def Qrm_rec (Z : State) (a : Addr) (h0 : Heap) (n0 : Nat) (v_ : Option Value) (h_ : Heap) (L_ : List Loc) : Prop := v_ = none ∧ Fr n0 L_ ∧ h_ = h0
theorem ef_rm_rec (m : MethodId) (x0 : Addr) : entryFrame m #[(.ref x0)] 1 = mkF m 0 #[.val (.ref x0)] [] := by first | (simp [entryFrame, mkF, argsToLocals, Value.category]; done) | rfl
theorem pn_java_lang_Record : plainName "java/lang/Record" = true := by first | (simp [plainName, overriddenIn]; done) | decide +kernel
set_option maxRecDepth 65536 in
set_option maxHeartbeats 40000000 in
theorem rm_rec (l : Launch) (Z : State) (aZ : Array Value) (hw : ∀ d ∈ tables_1, d.before aZ Z = true) (ws : List Jvm.Cond) (a : Addr) (h0 : Heap) (n0 : Nat) (Z0 : n0 ≤ h0.size) :
    MetFree l (⟨"java/lang/Record", "<init>", "()V"⟩ : MethodName) (head1 (Jvm.Cond.code (⟨"java/lang/Record", "<init>", "()V"⟩ : MethodName) jdk_30_method_1_code 1 none :: ws) ({ frames := 1, cells := 0, slots := 0, locals := 12 } : Room)) (fun a_ U_ => a_ = #[(.ref a)] ∧ Z.Warmed39 U_.vm ∧ U_.heap = h0) (fun _ _ _ _ _ => True) (fun _ U_ o_ U2_ => ∃ v_ L_, o_ = .returned v_ ∧ Qrm_rec Z a h0 n0 v_ U2_.heap L_ ∧ FrameEnd U_ o_ U2_ L_ ({ frames := 1, cells := 0, slots := 0, locals := 12 } : Room).cells ({ frames := 1, cells := 0, slots := 0, locals := 12 } : Room).slots) := by
  refine MetFree.of_bodySF (plainFor_of_name pn_java_lang_Record) hisR ?_
  intro p e s m args below meth cO s₁ Bd hml0 hP hK
  obtain ⟨rfl, hZW, hh⟩ := hP
  have hEX := Bd.exec
  have hBY := Bd.bytes
  have hMX : cO.maxLocals = 1 := hml0
  have hOW : s.vm.findClass "java/lang/Record" = some m.cls := findClass_of_methodNamed Bd.named
  have hNM := (name_of_methodNamed Bd.named Bd.method).1
  have hLK := Bd.notSynchronized
  have hRT := Bd.returns
  have X0 : Stand p l e ({ frames := 1, cells := 0, slots := 0, locals := 12 } : Room) s m #[(.ref a)] below meth cO s₁ [] 0 0 := Stand.of_body Bd
  have e0 : s₁.heap = h0 := by rw [← hh, Bd.state]; rfl
  have N0 := Fr.nil n0
  have K0 : Keep h0 h0 [] := Keep.refl _ _
  show Done p e below s (Qrm_rec Z a h0 n0) ({ frames := 1, cells := 0, slots := 0, locals := 12 } : Room).cells ({ frames := 1, cells := 0, slots := 0, locals := 12 } : Room).slots (s₁.setTop (entryFrame m #[(.ref a)] 1))
  refine Done.pre (fun t_ k_ => castTop (ef_rm_rec m a) k_) ?_
  show Done _ _ _ _ _ _ _ (s₁.setTop (mkF m 0 #[Rv a] []))
  have sg_1 : ∀ tt_, Steps p.tables e below (s₁.setTop (mkF m 1 #[Rv a] [(.ref a)])) tt_ → Steps p.tables e below (s₁.setTop (mkF m 0 #[Rv a] [])) tt_ := by
    intro tt_ kt_
    refine XS.aloadN X0.here hEX rfl (hb hBY d_jdk_30_method_1_code_0) rfl rfl ?_
    exact kt_
  refine Done.pre sg_1 ?_
  obtain ⟨T_2, X_2, e_2, st_2⟩ := initO X0 hEX hZW hOW (hw _ (List.mem_of_getElem? (i := 13) rfl)) (hw _ (List.mem_of_getElem? (i := 14) rfl)) (hw _ (List.mem_of_getElem? (i := 15) rfl)) e0 (g := (mkF m 1 #[Rv a] [(.ref a)])) rfl (by rw [hMX]; rfl) rfl (hb hBY d_jdk_30_method_1_code_1) (by decide) (W := 0) (by show 2 * 0 + _ ≤ _; exact Nat.le_of_eq rfl) (by decide)
  refine Done.pre st_2 ?_
  show Done _ _ _ _ _ _ _ (T_2.setTop (mkF m 4 #[Rv a] []))
  exact Done.retV X_2 hEX hLK hRT (hb hBY d_jdk_30_method_1_code_4) (by rw [e_2]; exact ⟨rfl, N0, rfl⟩) (by decide) (by decide)
theorem d_prog_30_method_1_code_0 : decode prog_30_method_1_code 0 = .ok (.aload_n 0, 1) := by decide +kernel
theorem d_prog_30_method_1_code_1 : decode prog_30_method_1_code 1 = .ok (.invokespecial 1, 3) := by decide +kernel
theorem pd___V_0 : parseMethodDescriptor "()V" = some ⟨[], none⟩ := by decide +kernel
theorem d_prog_30_method_1_code_4 : decode prog_30_method_1_code 4 = .ok (.aload_n 0, 1) := by decide +kernel
theorem d_prog_30_method_1_code_5 : decode prog_30_method_1_code 5 = .ok (.lload_n 1, 1) := by decide +kernel
theorem d_prog_30_method_1_code_6 : decode prog_30_method_1_code 6 = .ok (.putfield 7, 3) := by decide +kernel
theorem d_prog_30_method_1_code_9 : decode prog_30_method_1_code 9 = .ok (.aload_n 0, 1) := by decide +kernel
theorem d_prog_30_method_1_code_10 : decode prog_30_method_1_code 10 = .ok (.lload_n 3, 1) := by decide +kernel
theorem d_prog_30_method_1_code_11 : decode prog_30_method_1_code 11 = .ok (.putfield 13, 3) := by decide +kernel
theorem d_prog_30_method_1_code_14 : decode prog_30_method_1_code 14 = .ok (.return_, 1) := by decide +kernel
def Qrm_init (Z : State) (a : Addr) (hi : Int64) (lo : Int64) (u1 : Value) (u2 : Value) (h0 : Heap) (n0 : Nat) (v_ : Option Value) (h_ : Heap) (L_ : List Loc) : Prop := v_ = none ∧ Fr n0 L_ ∧ Keep h0 h_ [a] ∧ Exa Z h_ a "com/example/lean_limiter/leanlimiter/IpAddress" ∧ Fld Z h_ a "com/example/lean_limiter/leanlimiter/IpAddress" "high" "J" (.long hi) ∧ Fld Z h_ a "com/example/lean_limiter/leanlimiter/IpAddress" "low" "J" (.long lo)
theorem ef_rm_init (m : MethodId) (x0 : Addr) (x1 : Int64) (x2 : Int64) : entryFrame m #[(.ref x0), (.long x1), (.long x2)] 5 = mkF m 0 #[.val (.ref x0), .val (.long x1), .second, .val (.long x2), .second] [] := by first | (simp [entryFrame, mkF, argsToLocals, Value.category]; done) | rfl
theorem pn_com_example_lean_limiter_leanlimiter_IpAddress : plainName "com/example/lean_limiter/leanlimiter/IpAddress" = true := by first | (simp [plainName, overriddenIn]; done) | decide +kernel
set_option maxRecDepth 65536 in
set_option maxHeartbeats 40000000 in
theorem rm_init (l : Launch) (Z : State) (aZ : Array Value) (hw : ∀ d ∈ tables_1, d.before aZ Z = true) (ws : List Jvm.Cond) (a : Addr) (hi : Int64) (lo : Int64) (u1 : Value) (u2 : Value) (h0 : Heap) (n0 : Nat) (Z0 : n0 ≤ h0.size) (Ex : Exa Z h0 a "com/example/lean_limiter/leanlimiter/IpAddress") (F0 : Fld Z h0 a "com/example/lean_limiter/leanlimiter/IpAddress" "high" "J" u1) (F1 : Fld Z h0 a "com/example/lean_limiter/leanlimiter/IpAddress" "low" "J" u2) (ga : n0 ≤ a) :
    MetFree l (⟨"com/example/lean_limiter/leanlimiter/IpAddress", "<init>", "(JJ)V"⟩ : MethodName) (head1 (Jvm.Cond.code (⟨"com/example/lean_limiter/leanlimiter/IpAddress", "<init>", "(JJ)V"⟩ : MethodName) prog_30_method_1_code 5 none :: ws) ({ frames := 2, cells := 0, slots := 0, locals := 24 } : Room)) (fun a_ U_ => a_ = #[(.ref a), (.long hi), (.long lo)] ∧ Z.Warmed39 U_.vm ∧ U_.heap = h0) (fun _ _ _ _ _ => True) (fun _ U_ o_ U2_ => ∃ v_ L_, o_ = .returned v_ ∧ Qrm_init Z a hi lo u1 u2 h0 n0 v_ U2_.heap L_ ∧ FrameEnd U_ o_ U2_ L_ ({ frames := 2, cells := 0, slots := 0, locals := 24 } : Room).cells ({ frames := 2, cells := 0, slots := 0, locals := 24 } : Room).slots) := by
  refine MetFree.of_bodySF (plainFor_of_name pn_com_example_lean_limiter_leanlimiter_IpAddress) hisR ?_
  intro p e s m args below meth cO s₁ Bd hml0 hP hK
  obtain ⟨rfl, hZW, hh⟩ := hP
  have hEX := Bd.exec
  have hBY := Bd.bytes
  have hMX : cO.maxLocals = 5 := hml0
  have hOW : s.vm.findClass "com/example/lean_limiter/leanlimiter/IpAddress" = some m.cls := findClass_of_methodNamed Bd.named
  have hNM := (name_of_methodNamed Bd.named Bd.method).1
  have hLK := Bd.notSynchronized
  have hRT := Bd.returns
  have X0 : Stand p l e ({ frames := 2, cells := 0, slots := 0, locals := 24 } : Room) s m #[(.ref a), (.long hi), (.long lo)] below meth cO s₁ [] 0 0 := Stand.of_body Bd
  have e0 : s₁.heap = h0 := by rw [← hh, Bd.state]; rfl
  have N0 := Fr.nil n0
  have K0 : Keep h0 h0 [a] := Keep.refl _ _
  show Done p e below s (Qrm_init Z a hi lo u1 u2 h0 n0) ({ frames := 2, cells := 0, slots := 0, locals := 24 } : Room).cells ({ frames := 2, cells := 0, slots := 0, locals := 24 } : Room).slots (s₁.setTop (entryFrame m #[(.ref a), (.long hi), (.long lo)] 5))
  refine Done.pre (fun t_ k_ => castTop (ef_rm_init m a hi lo) k_) ?_
  show Done _ _ _ _ _ _ _ (s₁.setTop (mkF m 0 #[Rv a, Lv hi, Zs, Lv lo, Zs] []))
  have sg_1 : ∀ tt_, Steps p.tables e below (s₁.setTop (mkF m 1 #[Rv a, Lv hi, Zs, Lv lo, Zs] [(.ref a)])) tt_ → Steps p.tables e below (s₁.setTop (mkF m 0 #[Rv a, Lv hi, Zs, Lv lo, Zs] [])) tt_ := by
    intro tt_ kt_
    refine XS.aloadN X0.here hEX rfl (hb hBY d_prog_30_method_1_code_0) rfl rfl ?_
    exact kt_
  refine Done.pre sg_1 ?_
  obtain ⟨_, _, ⟨T_2, L_2, k_2, n_2⟩, -, X_2, ⟨Lc_2, hQ_2, l_2, y_2, z_2⟩, st_2⟩ := X0.specialBack hEX (y := (⟨"java/lang/Record", "<init>", "()V"⟩ : MethodName)) rfl hOW (mvT hZW (hw _ (List.mem_of_getElem? (i := 8) rfl))) (mvT hZW (hw _ (List.mem_of_getElem? (i := 9) rfl))) (mvT hZW (hw _ (List.mem_of_getElem? (i := 12) rfl))) (by decide) (backOf (W := 0) (rm_rec l Z aZ hw [] a h0 n0 (Nat.le_trans Z0 K0.1) ) hZW (hw _ (List.mem_of_getElem? (i := 12) rfl)) (hw _ (List.mem_of_getElem? (i := 11) rfl)) (by decide) (by decide)) (g := (mkF m 1 #[Rv a, Lv hi, Zs, Lv lo, Zs] [(.ref a)])) rfl (by rw [hMX]; rfl) (Steps.refl _) (a := a) (argsL := []) (rest := []) (lenOf pd___V_0 rfl) rfl (by show 2 * 0 + _ ≤ _; exact Nat.le_of_eq rfl) (hb hBY d_prog_30_method_1_code_1) (fun _ _ => ⟨rfl, e0, (by decide : 0 + 0 ≤ _), (by decide : 0 + 0 ≤ _)⟩)
  dsimp only [Pt.U, Pt.locs, Pt.cells, Pt.slots] at X_2 l_2 y_2 z_2 st_2 hQ_2
  subst l_2 y_2 z_2
  obtain ⟨rfl, N_2q, e_2⟩ := hQ_2
  have N_2 := Fr.app N0 N_2q
  refine Done.pre (fun _ k_ => st_2.trans k_) ?_
  show Done _ _ _ _ _ _ _ (T_2.setTop (mkF m 4 #[Rv a, Lv hi, Zs, Lv lo, Zs] []))
  have sg_3 : ∀ tt_, Steps p.tables e below (T_2.setTop (mkF m 6 #[Rv a, Lv hi, Zs, Lv lo, Zs] [(.long hi), (.ref a)])) tt_ → Steps p.tables e below (T_2.setTop (mkF m 4 #[Rv a, Lv hi, Zs, Lv lo, Zs] [])) tt_ := by
    intro tt_ kt_
    refine XS.aloadN X_2.here hEX rfl (hb hBY d_prog_30_method_1_code_4) rfl rfl ?_
    show Steps p.tables e below (T_2.setTop (mkF m 5 #[Rv a, Lv hi, Zs, Lv lo, Zs] [(.ref a)])) tt_
    refine XS.lloadN X_2.here hEX rfl (hb hBY d_prog_30_method_1_code_5) rfl ?_
    exact kt_
  refine Done.pre sg_3 ?_
  obtain ⟨T_4, h_4, X_4, e_4, W_4, st_4⟩ := putF X_2 hEX hZW hOW (host := "") (Or.inl (hw _ (List.mem_of_getElem? (i := 16) rfl))) Via.refl e_2 F0 Ex (Or.inr ⟨(hw _ (List.mem_of_getElem? (i := 17) rfl)), rfl, hNM⟩) (hw _ (List.mem_of_getElem? (i := 3) rfl)) (ty := .long) (by decide) rfl rfl (g := (mkF m 6 #[Rv a, Lv hi, Zs, Lv lo, Zs] [(.long hi), (.ref a)])) rfl rfl (hb hBY d_prog_30_method_1_code_6)
  have N_4 := Fr.snoc X_4 N_2 ga
  have K__5 : Keep h0 h_4 [a] := K0.wr W_4 (Or.inl (List.mem_of_getElem? (i := 0) rfl))
  have f_6 : Exa Z h_4 a "com/example/lean_limiter/leanlimiter/IpAddress" := Ex.wr W_4
  have f_7 : Fld Z h_4 a "com/example/lean_limiter/leanlimiter/IpAddress" "low" "J" u2 := F1.other W_4 (Or.inr (slot_ne (Or.inr (hw _ (List.mem_of_getElem? (i := 19) rfl))) (Or.inr (hw _ (List.mem_of_getElem? (i := 17) rfl))) (by decide) (t := .long) (t' := .long) (by decide) (by decide)))
  have f_8 : Fld Z h_4 a "com/example/lean_limiter/leanlimiter/IpAddress" "high" "J" (.long hi) := F0.same W_4
  refine Done.pre st_4 ?_
  show Done _ _ _ _ _ _ _ (T_4.setTop (mkF m 9 #[Rv a, Lv hi, Zs, Lv lo, Zs] []))
  have sg_9 : ∀ tt_, Steps p.tables e below (T_4.setTop (mkF m 11 #[Rv a, Lv hi, Zs, Lv lo, Zs] [(.long lo), (.ref a)])) tt_ → Steps p.tables e below (T_4.setTop (mkF m 9 #[Rv a, Lv hi, Zs, Lv lo, Zs] [])) tt_ := by
    intro tt_ kt_
    refine XS.aloadN X_4.here hEX rfl (hb hBY d_prog_30_method_1_code_9) rfl rfl ?_
    show Steps p.tables e below (T_4.setTop (mkF m 10 #[Rv a, Lv hi, Zs, Lv lo, Zs] [(.ref a)])) tt_
    refine XS.lloadN X_4.here hEX rfl (hb hBY d_prog_30_method_1_code_10) rfl ?_
    exact kt_
  refine Done.pre sg_9 ?_
  obtain ⟨T_10, h_10, X_10, e_10, W_10, st_10⟩ := putF X_4 hEX hZW hOW (host := "") (Or.inl (hw _ (List.mem_of_getElem? (i := 18) rfl))) Via.refl e_4 f_7 f_6 (Or.inr ⟨(hw _ (List.mem_of_getElem? (i := 19) rfl)), rfl, hNM⟩) (hw _ (List.mem_of_getElem? (i := 3) rfl)) (ty := .long) (by decide) rfl rfl (g := (mkF m 11 #[Rv a, Lv hi, Zs, Lv lo, Zs] [(.long lo), (.ref a)])) rfl rfl (hb hBY d_prog_30_method_1_code_11)
  have N_10 := Fr.snoc X_10 N_4 ga
  have K__11 : Keep h0 h_10 [a] := K__5.wr W_10 (Or.inl (List.mem_of_getElem? (i := 0) rfl))
  have f_12 : Exa Z h_10 a "com/example/lean_limiter/leanlimiter/IpAddress" := f_6.wr W_10
  have f_13 : Fld Z h_10 a "com/example/lean_limiter/leanlimiter/IpAddress" "high" "J" (.long hi) := f_8.other W_10 (Or.inr (slot_ne (Or.inr (hw _ (List.mem_of_getElem? (i := 17) rfl))) (Or.inr (hw _ (List.mem_of_getElem? (i := 19) rfl))) (by decide) (t := .long) (t' := .long) (by decide) (by decide)))
  have f_14 : Fld Z h_10 a "com/example/lean_limiter/leanlimiter/IpAddress" "low" "J" (.long lo) := f_7.same W_10
  refine Done.pre st_10 ?_
  show Done _ _ _ _ _ _ _ (T_10.setTop (mkF m 14 #[Rv a, Lv hi, Zs, Lv lo, Zs] []))
  exact Done.retV X_10 hEX hLK hRT (hb hBY d_prog_30_method_1_code_14) (by rw [e_10]; exact ⟨rfl, N_10, K__11, f_12, f_13, f_14⟩) (by decide) (by decide)
theorem d_prog_30_method_4_code_0 : decode prog_30_method_4_code 0 = .ok (.aload_n 0, 1) := by decide +kernel
theorem d_prog_30_method_4_code_1 : decode prog_30_method_4_code 1 = .ok (.getfield 7, 3) := by decide +kernel
theorem d_prog_30_method_4_code_4 : decode prog_30_method_4_code 4 = .ok (.lconst 0, 1) := by decide +kernel
theorem d_prog_30_method_4_code_5 : decode prog_30_method_4_code 5 = .ok (.lcmp, 1) := by decide +kernel
theorem d_prog_30_method_4_code_6 : decode prog_30_method_4_code 6 = .ok (.ifCond .ne 22, 3) := by decide +kernel
theorem d_prog_30_method_4_code_9 : decode prog_30_method_4_code 9 = .ok (.aload_n 0, 1) := by decide +kernel
theorem d_prog_30_method_4_code_10 : decode prog_30_method_4_code 10 = .ok (.getfield 13, 3) := by decide +kernel
theorem d_prog_30_method_4_code_13 : decode prog_30_method_4_code 13 = .ok (.ldc2_w 45, 3) := by decide +kernel
theorem d_prog_30_method_4_code_16 : decode prog_30_method_4_code 16 = .ok (.land, 1) := by decide +kernel
theorem d_prog_30_method_4_code_17 : decode prog_30_method_4_code 17 = .ok (.ldc2_w 22, 3) := by decide +kernel
theorem d_prog_30_method_4_code_20 : decode prog_30_method_4_code 20 = .ok (.lcmp, 1) := by decide +kernel
theorem d_prog_30_method_4_code_21 : decode prog_30_method_4_code 21 = .ok (.ifCond .ne 7, 3) := by decide +kernel
theorem d_prog_30_method_4_code_24 : decode prog_30_method_4_code 24 = .ok (.iconst 1, 1) := by decide +kernel
theorem d_prog_30_method_4_code_25 : decode prog_30_method_4_code 25 = .ok (.goto 4, 3) := by decide +kernel
theorem d_prog_30_method_4_code_29 : decode prog_30_method_4_code 29 = .ok (.ireturn, 1) := by decide +kernel
theorem d_prog_30_method_4_code_28 : decode prog_30_method_4_code 28 = .ok (.iconst 0, 1) := by decide +kernel
def Qrm_v4 (Z : State) (a : Addr) (hi : Int64) (lo : Int64) (h0 : Heap) (n0 : Nat) (v_ : Option Value) (h_ : Heap) (L_ : List Loc) : Prop := v_ = some (.int (own_v4 hi lo)) ∧ Fr n0 L_ ∧ h_ = h0
theorem ef_rm_v4 (m : MethodId) (x0 : Addr) : entryFrame m #[(.ref x0)] 1 = mkF m 0 #[.val (.ref x0)] [] := by first | (simp [entryFrame, mkF, argsToLocals, Value.category]; done) | rfl
set_option maxRecDepth 65536 in
set_option maxHeartbeats 40000000 in
theorem rm_v4 (l : Launch) (Z : State) (aZ : Array Value) (hw : ∀ d ∈ tables_1, d.before aZ Z = true) (ws : List Jvm.Cond) (a : Addr) (hi : Int64) (lo : Int64) (h0 : Heap) (n0 : Nat) (Z0 : n0 ≤ h0.size) (F0 : Fld Z h0 a "com/example/lean_limiter/leanlimiter/IpAddress" "high" "J" (.long hi)) (F1 : Fld Z h0 a "com/example/lean_limiter/leanlimiter/IpAddress" "low" "J" (.long lo)) :
    MetFree l (⟨"com/example/lean_limiter/leanlimiter/IpAddress", "isIpv4", "()Z"⟩ : MethodName) (head1 (Jvm.Cond.code (⟨"com/example/lean_limiter/leanlimiter/IpAddress", "isIpv4", "()Z"⟩ : MethodName) prog_30_method_4_code 1 (some .boolean) :: ws) ({ frames := 0, cells := 0, slots := 0, locals := 0 } : Room)) (fun a_ U_ => a_ = #[(.ref a)] ∧ Z.Warmed39 U_.vm ∧ U_.heap = h0) (fun _ _ _ _ _ => True) (fun _ U_ o_ U2_ => ∃ v_ L_, o_ = .returned v_ ∧ Qrm_v4 Z a hi lo h0 n0 v_ U2_.heap L_ ∧ FrameEnd U_ o_ U2_ L_ ({ frames := 0, cells := 0, slots := 0, locals := 0 } : Room).cells ({ frames := 0, cells := 0, slots := 0, locals := 0 } : Room).slots) := by
  refine MetFree.of_bodySF (plainFor_of_name pn_com_example_lean_limiter_leanlimiter_IpAddress) hisR ?_
  intro p e s m args below meth cO s₁ Bd hml0 hP hK
  obtain ⟨rfl, hZW, hh⟩ := hP
  have hEX := Bd.exec
  have hBY := Bd.bytes
  have hMX : cO.maxLocals = 1 := hml0
  have hOW : s.vm.findClass "com/example/lean_limiter/leanlimiter/IpAddress" = some m.cls := findClass_of_methodNamed Bd.named
  have hNM := (name_of_methodNamed Bd.named Bd.method).1
  have hLK := Bd.notSynchronized
  have hRT := Bd.returns
  have X0 : Stand p l e ({ frames := 0, cells := 0, slots := 0, locals := 0 } : Room) s m #[(.ref a)] below meth cO s₁ [] 0 0 := Stand.of_body Bd
  have e0 : s₁.heap = h0 := by rw [← hh, Bd.state]; rfl
  have N0 := Fr.nil n0
  have K0 : Keep h0 h0 [] := Keep.refl _ _
  show Done p e below s (Qrm_v4 Z a hi lo h0 n0) ({ frames := 0, cells := 0, slots := 0, locals := 0 } : Room).cells ({ frames := 0, cells := 0, slots := 0, locals := 0 } : Room).slots (s₁.setTop (entryFrame m #[(.ref a)] 1))
  refine Done.pre (fun t_ k_ => castTop (ef_rm_v4 m a) k_) ?_
  show Done _ _ _ _ _ _ _ (s₁.setTop (mkF m 0 #[Rv a] []))
  have sg_1 : ∀ tt_, Steps p.tables e below (s₁.setTop (mkF m 1 #[Rv a] [(.ref a)])) tt_ → Steps p.tables e below (s₁.setTop (mkF m 0 #[Rv a] [])) tt_ := by
    intro tt_ kt_
    refine XS.aloadN X0.here hEX rfl (hb hBY d_prog_30_method_4_code_0) rfl rfl ?_
    exact kt_
  refine Done.pre sg_1 ?_
  obtain ⟨T_2, X_2, e_2, st_2⟩ := getF X0 hEX hZW hOW (host := "") (Or.inl (hw _ (List.mem_of_getElem? (i := 16) rfl))) Via.refl e0 F0 (g := (mkF m 1 #[Rv a] [(.ref a)])) rfl rfl (hb hBY d_prog_30_method_4_code_1)
  refine Done.pre st_2 ?_
  show Done _ _ _ _ _ _ _ (T_2.setTop (mkF m 4 #[Rv a] [(.long hi)]))
  have sg_3 : ∀ tt_, Steps p.tables e below (T_2.setTop (mkF m 6 #[Rv a] [(.int (lcmpW hi (0 : Int64)))])) tt_ → Steps p.tables e below (T_2.setTop (mkF m 4 #[Rv a] [(.long hi)])) tt_ := by
    intro tt_ kt_
    refine XS.lconst X_2.here hEX rfl (hb hBY d_prog_30_method_4_code_4) ?_
    show Steps p.tables e below (T_2.setTop (mkF m 5 #[Rv a] [(.long (0 : Int64)), (.long hi)])) tt_
    refine XS.lcmp X_2.here hEX rfl (hb hBY d_prog_30_method_4_code_5) rfl ?_
    exact kt_
  refine Done.pre sg_3 ?_
  by_cases hc6 : hi = (0 : Int64)
  · skip
    have sg_4 : ∀ tt_, Steps p.tables e below (T_2.setTop (mkF m 10 #[Rv a] [(.ref a)])) tt_ → Steps p.tables e below (T_2.setTop (mkF m 6 #[Rv a] [(.int (lcmpW hi (0 : Int64)))])) tt_ := by
      intro tt_ kt_
      refine XS.ifNo X_2.here hEX rfl (hb hBY d_prog_30_method_4_code_6) rfl ((if0 _ _).trans (teq ((lw_eq _ _).mpr hc6)).2) ?_
      show Steps p.tables e below (T_2.setTop (mkF m 9 #[Rv a] [])) tt_
      refine XS.aloadN X_2.here hEX rfl (hb hBY d_prog_30_method_4_code_9) rfl rfl ?_
      exact kt_
    refine Done.pre sg_4 ?_
    obtain ⟨T_5, X_5, e_5, st_5⟩ := getF X_2 hEX hZW hOW (host := "") (Or.inl (hw _ (List.mem_of_getElem? (i := 18) rfl))) Via.refl e_2 F1 (g := (mkF m 10 #[Rv a] [(.ref a)])) rfl rfl (hb hBY d_prog_30_method_4_code_10)
    refine Done.pre st_5 ?_
    show Done _ _ _ _ _ _ _ (T_5.setTop (mkF m 13 #[Rv a] [(.long lo)]))
    have sg_6 : ∀ tt_, Steps p.tables e below (T_5.setTop (mkF m 21 #[Rv a] [(.int (lcmpW (lo &&& (-4294967296 : Int64)) (281470681743360 : Int64)))])) tt_ → Steps p.tables e below (T_5.setTop (mkF m 13 #[Rv a] [(.long lo)])) tt_ := by
      intro tt_ kt_
      refine X_5.ldc2Long hEX hOW (mvT hZW (hw _ (List.mem_of_getElem? (i := 25) rfl))) (g := (mkF m 13 #[Rv a] [(.long lo)])) rfl (hb hBY d_prog_30_method_4_code_13) _ ?_
      show Steps p.tables e below (T_5.setTop (mkF m 16 #[Rv a] [(.long (-4294967296 : Int64)), (.long lo)])) tt_
      refine XS.land X_5.here hEX rfl (hb hBY d_prog_30_method_4_code_16) rfl ?_
      show Steps p.tables e below (T_5.setTop (mkF m 17 #[Rv a] [(.long (lo &&& (-4294967296 : Int64)))])) tt_
      refine X_5.ldc2Long hEX hOW (mvT hZW (hw _ (List.mem_of_getElem? (i := 26) rfl))) (g := (mkF m 17 #[Rv a] [(.long (lo &&& (-4294967296 : Int64)))])) rfl (hb hBY d_prog_30_method_4_code_17) _ ?_
      show Steps p.tables e below (T_5.setTop (mkF m 20 #[Rv a] [(.long (281470681743360 : Int64)), (.long (lo &&& (-4294967296 : Int64)))])) tt_
      refine XS.lcmp X_5.here hEX rfl (hb hBY d_prog_30_method_4_code_20) rfl ?_
      exact kt_
    refine Done.pre sg_6 ?_
    by_cases hc21 : (lo &&& (-4294967296 : Int64)) = (281470681743360 : Int64)
    · skip
      have sg_7 : ∀ tt_, Steps p.tables e below (T_5.setTop (mkF m 29 #[Rv a] [(.int (1 : Int32))])) tt_ → Steps p.tables e below (T_5.setTop (mkF m 21 #[Rv a] [(.int (lcmpW (lo &&& (-4294967296 : Int64)) (281470681743360 : Int64)))])) tt_ := by
        intro tt_ kt_
        refine XS.ifNo X_5.here hEX rfl (hb hBY d_prog_30_method_4_code_21) rfl ((if0 _ _).trans (teq ((lw_eq _ _).mpr hc21)).2) ?_
        show Steps p.tables e below (T_5.setTop (mkF m 24 #[Rv a] [])) tt_
        refine XS.iconst X_5.here hEX rfl (hb hBY d_prog_30_method_4_code_24) ?_
        show Steps p.tables e below (T_5.setTop (mkF m 25 #[Rv a] [(.int (1 : Int32))])) tt_
        refine XS.goto X_5.here hEX rfl (pc0 := 25) (pc' := 29) rfl (hb hBY d_prog_30_method_4_code_25) (by decide) (by decide) ?_
        exact kt_
      refine Done.pre sg_7 ?_
      exact Done.retN X_5 hEX hLK (t := .boolean) hRT (by simp) (hb hBY d_prog_30_method_4_code_29) (by rw [e_5]; exact ⟨(by rw [own_v4, if_pos hc6, if_pos hc21]; rfl), N0, rfl⟩) (by decide) (by decide)
    · skip
      have sg_8 : ∀ tt_, Steps p.tables e below (T_5.setTop (mkF m 29 #[Rv a] [(.int (0 : Int32))])) tt_ → Steps p.tables e below (T_5.setTop (mkF m 21 #[Rv a] [(.int (lcmpW (lo &&& (-4294967296 : Int64)) (281470681743360 : Int64)))])) tt_ := by
        intro tt_ kt_
        refine XS.ifYes X_5.here hEX rfl (pc0 := 21) (pc' := 28) rfl (hb hBY d_prog_30_method_4_code_21) rfl ((if0 _ _).trans (feq (fun q => hc21 ((lw_eq _ _).mp q))).2) (by decide) (by decide) ?_
        show Steps p.tables e below (T_5.setTop (mkF m 28 #[Rv a] [])) tt_
        refine XS.iconst X_5.here hEX rfl (hb hBY d_prog_30_method_4_code_28) ?_
        exact kt_
      refine Done.pre sg_8 ?_
      exact Done.retN X_5 hEX hLK (t := .boolean) hRT (by simp) (hb hBY d_prog_30_method_4_code_29) (by rw [e_5]; exact ⟨(by rw [own_v4]; first | (rw [if_neg hc6]; rfl) | (rw [if_pos hc6, if_neg hc21]; rfl)), N0, rfl⟩) (by decide) (by decide)
  · skip
    have sg_9 : ∀ tt_, Steps p.tables e below (T_2.setTop (mkF m 29 #[Rv a] [(.int (0 : Int32))])) tt_ → Steps p.tables e below (T_2.setTop (mkF m 6 #[Rv a] [(.int (lcmpW hi (0 : Int64)))])) tt_ := by
      intro tt_ kt_
      refine XS.ifYes X_2.here hEX rfl (pc0 := 6) (pc' := 28) rfl (hb hBY d_prog_30_method_4_code_6) rfl ((if0 _ _).trans (feq (fun q => hc6 ((lw_eq _ _).mp q))).2) (by decide) (by decide) ?_
      show Steps p.tables e below (T_2.setTop (mkF m 28 #[Rv a] [])) tt_
      refine XS.iconst X_2.here hEX rfl (hb hBY d_prog_30_method_4_code_28) ?_
      exact kt_
    refine Done.pre sg_9 ?_
    exact Done.retN X_2 hEX hLK (t := .boolean) hRT (by simp) (hb hBY d_prog_30_method_4_code_29) (by rw [e_2]; exact ⟨(by rw [own_v4]; first | (rw [if_neg hc6]; rfl) | (rw [if_pos hc6, if_neg hc21]; rfl)), N0, rfl⟩) (by decide) (by decide)
theorem pd__JJ_V_2 : parseMethodDescriptor "(JJ)V" = some ⟨[.long, .long], none⟩ := by decide +kernel
theorem pd___Z_1 : parseMethodDescriptor "()Z" = some ⟨[], some .boolean⟩ := by decide +kernel
def Qrm0 (Z : State) (q1 : Int64) (p2 : Int32) (p3 : Int32) (p4 : Int32) (h0 : Heap) (n0 : Nat) (v_ : Option Value) (h_ : Heap) (L_ : List Loc) : Prop := v_ = some (.int (1 : Int32)) ∧ Fr n0 L_ ∧ Keep h0 h_ []
theorem ef_rm0 (m : MethodId) (x0 : Int64) (x1 : Int32) (x2 : Int32) (x3 : Int32) : entryFrame m #[(.long x0), (.int x1), (.int x2), (.int x3)] maxLocals = mkF m 0 #[.val (.long x0), .second, .val (.int x1), .val (.int x2), .val (.int x3), .unset, .unset, .unset, .unset, .unset, .unset, .unset, .unset, .unset] [] := by first | (simp [entryFrame, mkF, argsToLocals, Value.category, maxLocals]; done) | rfl
theorem pn_com_example_lean_limiter_leanlimiter_IpAddressIsIpv4PinLaw : plainName "com/example/lean_limiter/leanlimiter/IpAddressIsIpv4PinLaw" = true := by first | (simp [plainName, overriddenIn]; done) | decide +kernel
set_option maxRecDepth 65536 in
set_option maxHeartbeats 40000000 in
theorem rm0 (l : Launch) (Z : State) (aZ : Array Value) (hw : ∀ d ∈ tables_1, d.before aZ Z = true) (ws : List Jvm.Cond) (q1 : Int64) (p2 : Int32) (p3 : Int32) (p4 : Int32) (h0 : Heap) (n0 : Nat) (Z0 : n0 ≤ h0.size) :
    MetFree l x (head1 (Jvm.Cond.code x code maxLocals ret :: ws) room_1) (fun a_ U_ => a_ = #[(.long q1), (.int p2), (.int p3), (.int p4)] ∧ Z.Warmed39 U_.vm ∧ U_.heap = h0) (fun _ _ _ _ _ => True) (fun _ U_ o_ U2_ => ∃ v_ L_, o_ = .returned v_ ∧ Qrm0 Z q1 p2 p3 p4 h0 n0 v_ U2_.heap L_ ∧ FrameEnd U_ o_ U2_ L_ room_1.cells room_1.slots) := by
  refine MetFree.of_bodySF (plainFor_of_name pn_com_example_lean_limiter_leanlimiter_IpAddressIsIpv4PinLaw) hisR ?_
  intro p e s m args below meth cO s₁ Bd hml0 hP hK
  obtain ⟨rfl, hZW, hh⟩ := hP
  have hEX := Bd.exec
  have hBY := Bd.bytes
  have hMX : cO.maxLocals = 14 := hml0
  have hOW : s.vm.findClass "com/example/lean_limiter/leanlimiter/IpAddressIsIpv4PinLaw" = some m.cls := findClass_of_methodNamed Bd.named
  have hNM := (name_of_methodNamed Bd.named Bd.method).1
  have hLK := Bd.notSynchronized
  have hRT := Bd.returns
  have X0 : Stand p l e room_1 s m #[(.long q1), (.int p2), (.int p3), (.int p4)] below meth cO s₁ [] 0 0 := Stand.of_body Bd
  have e0 : s₁.heap = h0 := by rw [← hh, Bd.state]; rfl
  have N0 := Fr.nil n0
  have K0 : Keep h0 h0 [] := Keep.refl _ _
  show Done p e below s (Qrm0 Z q1 p2 p3 p4 h0 n0) room_1.cells room_1.slots (s₁.setTop (entryFrame m #[(.long q1), (.int p2), (.int p3), (.int p4)] maxLocals))
  refine Done.pre (fun t_ k_ => castTop (ef_rm0 m q1 p2 p3 p4) k_) ?_
  show Done _ _ _ _ _ _ _ (s₁.setTop (mkF m 0 #[Lv q1, Zs, Iv p2, Iv p3, Iv p4, Us, Us, Us, Us, Us, Us, Us, Us, Us] []))
  have sg_1 : ∀ tt_, Steps p.tables e below (s₁.setTop (mkF m 17 #[Lv q1, Zs, Iv p2, Iv p3, Iv p4, Iv (((p4.toUInt32 >>> ((3 : Int32) &&& 31).toUInt32).toInt32) &&& (63 : Int32)), Iv (((p4.toUInt32 >>> ((1 : Int32) &&& 31).toUInt32).toInt32) &&& (3 : Int32)), Us, Us, Us, Us, Us, Us, Us] [])) tt_ → Steps p.tables e below (s₁.setTop (mkF m 0 #[Lv q1, Zs, Iv p2, Iv p3, Iv p4, Us, Us, Us, Us, Us, Us, Us, Us, Us] [])) tt_ := by
    intro tt_ kt_
    refine XS.iload X0.here hEX rfl (hb hBY at_0) rfl ?_
    show Steps p.tables e below (s₁.setTop (mkF m 2 #[Lv q1, Zs, Iv p2, Iv p3, Iv p4, Us, Us, Us, Us, Us, Us, Us, Us, Us] [(.int p4)])) tt_
    refine XS.iconst X0.here hEX rfl (hb hBY at_2) ?_
    show Steps p.tables e below (s₁.setTop (mkF m 3 #[Lv q1, Zs, Iv p2, Iv p3, Iv p4, Us, Us, Us, Us, Us, Us, Us, Us, Us] [(.int (3 : Int32)), (.int p4)])) tt_
    refine XS.iushr X0.here hEX rfl (hb hBY at_3) rfl ?_
    show Steps p.tables e below (s₁.setTop (mkF m 4 #[Lv q1, Zs, Iv p2, Iv p3, Iv p4, Us, Us, Us, Us, Us, Us, Us, Us, Us] [(.int ((p4.toUInt32 >>> ((3 : Int32) &&& 31).toUInt32).toInt32))])) tt_
    refine XS.bipush X0.here hEX rfl (hb hBY at_4) ?_
    show Steps p.tables e below (s₁.setTop (mkF m 6 #[Lv q1, Zs, Iv p2, Iv p3, Iv p4, Us, Us, Us, Us, Us, Us, Us, Us, Us] [(.int (63 : Int32)), (.int ((p4.toUInt32 >>> ((3 : Int32) &&& 31).toUInt32).toInt32))])) tt_
    refine XS.iand X0.here hEX rfl (hb hBY at_6) rfl ?_
    show Steps p.tables e below (s₁.setTop (mkF m 7 #[Lv q1, Zs, Iv p2, Iv p3, Iv p4, Us, Us, Us, Us, Us, Us, Us, Us, Us] [(.int (((p4.toUInt32 >>> ((3 : Int32) &&& 31).toUInt32).toInt32) &&& (63 : Int32)))])) tt_
    refine XS.istore X0.here hEX rfl (hb hBY at_7) rfl (l' := #[Lv q1, Zs, Iv p2, Iv p3, Iv p4, Iv (((p4.toUInt32 >>> ((3 : Int32) &&& 31).toUInt32).toInt32) &&& (63 : Int32)), Us, Us, Us, Us, Us, Us, Us, Us]) rfl ?_
    show Steps p.tables e below (s₁.setTop (mkF m 9 #[Lv q1, Zs, Iv p2, Iv p3, Iv p4, Iv (((p4.toUInt32 >>> ((3 : Int32) &&& 31).toUInt32).toInt32) &&& (63 : Int32)), Us, Us, Us, Us, Us, Us, Us, Us] [])) tt_
    refine XS.iload X0.here hEX rfl (hb hBY at_9) rfl ?_
    show Steps p.tables e below (s₁.setTop (mkF m 11 #[Lv q1, Zs, Iv p2, Iv p3, Iv p4, Iv (((p4.toUInt32 >>> ((3 : Int32) &&& 31).toUInt32).toInt32) &&& (63 : Int32)), Us, Us, Us, Us, Us, Us, Us, Us] [(.int p4)])) tt_
    refine XS.iconst X0.here hEX rfl (hb hBY at_11) ?_
    show Steps p.tables e below (s₁.setTop (mkF m 12 #[Lv q1, Zs, Iv p2, Iv p3, Iv p4, Iv (((p4.toUInt32 >>> ((3 : Int32) &&& 31).toUInt32).toInt32) &&& (63 : Int32)), Us, Us, Us, Us, Us, Us, Us, Us] [(.int (1 : Int32)), (.int p4)])) tt_
    refine XS.iushr X0.here hEX rfl (hb hBY at_12) rfl ?_
    show Steps p.tables e below (s₁.setTop (mkF m 13 #[Lv q1, Zs, Iv p2, Iv p3, Iv p4, Iv (((p4.toUInt32 >>> ((3 : Int32) &&& 31).toUInt32).toInt32) &&& (63 : Int32)), Us, Us, Us, Us, Us, Us, Us, Us] [(.int ((p4.toUInt32 >>> ((1 : Int32) &&& 31).toUInt32).toInt32))])) tt_
    refine XS.iconst X0.here hEX rfl (hb hBY at_13) ?_
    show Steps p.tables e below (s₁.setTop (mkF m 14 #[Lv q1, Zs, Iv p2, Iv p3, Iv p4, Iv (((p4.toUInt32 >>> ((3 : Int32) &&& 31).toUInt32).toInt32) &&& (63 : Int32)), Us, Us, Us, Us, Us, Us, Us, Us] [(.int (3 : Int32)), (.int ((p4.toUInt32 >>> ((1 : Int32) &&& 31).toUInt32).toInt32))])) tt_
    refine XS.iand X0.here hEX rfl (hb hBY at_14) rfl ?_
    show Steps p.tables e below (s₁.setTop (mkF m 15 #[Lv q1, Zs, Iv p2, Iv p3, Iv p4, Iv (((p4.toUInt32 >>> ((3 : Int32) &&& 31).toUInt32).toInt32) &&& (63 : Int32)), Us, Us, Us, Us, Us, Us, Us, Us] [(.int (((p4.toUInt32 >>> ((1 : Int32) &&& 31).toUInt32).toInt32) &&& (3 : Int32)))])) tt_
    refine XS.istore X0.here hEX rfl (hb hBY at_15) rfl (l' := #[Lv q1, Zs, Iv p2, Iv p3, Iv p4, Iv (((p4.toUInt32 >>> ((3 : Int32) &&& 31).toUInt32).toInt32) &&& (63 : Int32)), Iv (((p4.toUInt32 >>> ((1 : Int32) &&& 31).toUInt32).toInt32) &&& (3 : Int32)), Us, Us, Us, Us, Us, Us, Us]) rfl ?_
    exact kt_
  refine Done.pre sg_1 ?_
  have jn_2 : ∀ (hh : Int64), Done p e below s (Qrm0 Z q1 p2 p3 p4 h0 n0) room_1.cells room_1.slots (s₁.setTop (mkF m 29 #[Lv q1, Zs, Iv p2, Iv p3, Iv p4, Iv (((p4.toUInt32 >>> ((3 : Int32) &&& 31).toUInt32).toInt32) &&& (63 : Int32)), Iv (((p4.toUInt32 >>> ((1 : Int32) &&& 31).toUInt32).toInt32) &&& (3 : Int32)), Us, Us, Us, Us, Us, Us, Us] [(.long hh)])) := by
    intro hh
    show Done _ _ _ _ _ _ _ (s₁.setTop (mkF m 29 #[Lv q1, Zs, Iv p2, Iv p3, Iv p4, Iv (((p4.toUInt32 >>> ((3 : Int32) &&& 31).toUInt32).toInt32) &&& (63 : Int32)), Iv (((p4.toUInt32 >>> ((1 : Int32) &&& 31).toUInt32).toInt32) &&& (3 : Int32)), Us, Us, Us, Us, Us, Us, Us] [(.long hh)]))
    have sg_3 : ∀ tt_, Steps p.tables e below (s₁.setTop (mkF m 31 #[Lv q1, Zs, Iv p2, Iv p3, Iv p4, Iv (((p4.toUInt32 >>> ((3 : Int32) &&& 31).toUInt32).toInt32) &&& (63 : Int32)), Iv (((p4.toUInt32 >>> ((1 : Int32) &&& 31).toUInt32).toInt32) &&& (3 : Int32)), Lv hh, Zs, Us, Us, Us, Us, Us] [])) tt_ → Steps p.tables e below (s₁.setTop (mkF m 29 #[Lv q1, Zs, Iv p2, Iv p3, Iv p4, Iv (((p4.toUInt32 >>> ((3 : Int32) &&& 31).toUInt32).toInt32) &&& (63 : Int32)), Iv (((p4.toUInt32 >>> ((1 : Int32) &&& 31).toUInt32).toInt32) &&& (3 : Int32)), Us, Us, Us, Us, Us, Us, Us] [(.long hh)])) tt_ := by
      intro tt_ kt_
      refine XS.lstore X0.here hEX rfl (hb hBY at_29) rfl (l' := #[Lv q1, Zs, Iv p2, Iv p3, Iv p4, Iv (((p4.toUInt32 >>> ((3 : Int32) &&& 31).toUInt32).toInt32) &&& (63 : Int32)), Iv (((p4.toUInt32 >>> ((1 : Int32) &&& 31).toUInt32).toInt32) &&& (3 : Int32)), Lv hh, Zs, Us, Us, Us, Us, Us]) rfl ?_
      exact kt_
    refine Done.pre sg_3 ?_
    have jn_4 : ∀ (hi : Int64) (up : Int32), Done p e below s (Qrm0 Z q1 p2 p3 p4 h0 n0) room_1.cells room_1.slots (s₁.setTop (mkF m 86 #[Lv q1, Zs, Iv p2, Iv p3, Iv p4, Iv (((p4.toUInt32 >>> ((3 : Int32) &&& 31).toUInt32).toInt32) &&& (63 : Int32)), Iv (((p4.toUInt32 >>> ((1 : Int32) &&& 31).toUInt32).toInt32) &&& (3 : Int32)), Lv hi, Zs, Iv up, Us, Us, Us, Us] [])) := by
      intro hi up
      show Done _ _ _ _ _ _ _ (s₁.setTop (mkF m 86 #[Lv q1, Zs, Iv p2, Iv p3, Iv p4, Iv (((p4.toUInt32 >>> ((3 : Int32) &&& 31).toUInt32).toInt32) &&& (63 : Int32)), Iv (((p4.toUInt32 >>> ((1 : Int32) &&& 31).toUInt32).toInt32) &&& (3 : Int32)), Lv hi, Zs, Iv up, Us, Us, Us, Us] []))
      have sg_5 : ∀ tt_, Steps p.tables e below (s₁.setTop (mkF m 101 #[Lv q1, Zs, Iv p2, Iv p3, Iv p4, Iv (((p4.toUInt32 >>> ((3 : Int32) &&& 31).toUInt32).toInt32) &&& (63 : Int32)), Iv (((p4.toUInt32 >>> ((1 : Int32) &&& 31).toUInt32).toInt32) &&& (3 : Int32)), Lv hi, Zs, Iv up, Lv (((up.toInt64) <<< ((32 : Int32) &&& 0x3f).toInt64) ||| ((p3.toInt64) &&& (4294967295 : Int64))), Zs, Us, Us] [])) tt_ → Steps p.tables e below (s₁.setTop (mkF m 86 #[Lv q1, Zs, Iv p2, Iv p3, Iv p4, Iv (((p4.toUInt32 >>> ((3 : Int32) &&& 31).toUInt32).toInt32) &&& (63 : Int32)), Iv (((p4.toUInt32 >>> ((1 : Int32) &&& 31).toUInt32).toInt32) &&& (3 : Int32)), Lv hi, Zs, Iv up, Us, Us, Us, Us] [])) tt_ := by
        intro tt_ kt_
        refine XS.iload X0.here hEX rfl (hb hBY at_86) rfl ?_
        show Steps p.tables e below (s₁.setTop (mkF m 88 #[Lv q1, Zs, Iv p2, Iv p3, Iv p4, Iv (((p4.toUInt32 >>> ((3 : Int32) &&& 31).toUInt32).toInt32) &&& (63 : Int32)), Iv (((p4.toUInt32 >>> ((1 : Int32) &&& 31).toUInt32).toInt32) &&& (3 : Int32)), Lv hi, Zs, Iv up, Us, Us, Us, Us] [(.int up)])) tt_
        refine XS.i2l X0.here hEX rfl (hb hBY at_88) rfl ?_
        show Steps p.tables e below (s₁.setTop (mkF m 89 #[Lv q1, Zs, Iv p2, Iv p3, Iv p4, Iv (((p4.toUInt32 >>> ((3 : Int32) &&& 31).toUInt32).toInt32) &&& (63 : Int32)), Iv (((p4.toUInt32 >>> ((1 : Int32) &&& 31).toUInt32).toInt32) &&& (3 : Int32)), Lv hi, Zs, Iv up, Us, Us, Us, Us] [(.long (up.toInt64))])) tt_
        refine XS.bipush X0.here hEX rfl (hb hBY at_89) ?_
        show Steps p.tables e below (s₁.setTop (mkF m 91 #[Lv q1, Zs, Iv p2, Iv p3, Iv p4, Iv (((p4.toUInt32 >>> ((3 : Int32) &&& 31).toUInt32).toInt32) &&& (63 : Int32)), Iv (((p4.toUInt32 >>> ((1 : Int32) &&& 31).toUInt32).toInt32) &&& (3 : Int32)), Lv hi, Zs, Iv up, Us, Us, Us, Us] [(.int (32 : Int32)), (.long (up.toInt64))])) tt_
        refine XS.lshl X0.here hEX rfl (hb hBY at_91) rfl ?_
        show Steps p.tables e below (s₁.setTop (mkF m 92 #[Lv q1, Zs, Iv p2, Iv p3, Iv p4, Iv (((p4.toUInt32 >>> ((3 : Int32) &&& 31).toUInt32).toInt32) &&& (63 : Int32)), Iv (((p4.toUInt32 >>> ((1 : Int32) &&& 31).toUInt32).toInt32) &&& (3 : Int32)), Lv hi, Zs, Iv up, Us, Us, Us, Us] [(.long ((up.toInt64) <<< ((32 : Int32) &&& 0x3f).toInt64))])) tt_
        refine XS.iloadN X0.here hEX rfl (hb hBY at_92) rfl ?_
        show Steps p.tables e below (s₁.setTop (mkF m 93 #[Lv q1, Zs, Iv p2, Iv p3, Iv p4, Iv (((p4.toUInt32 >>> ((3 : Int32) &&& 31).toUInt32).toInt32) &&& (63 : Int32)), Iv (((p4.toUInt32 >>> ((1 : Int32) &&& 31).toUInt32).toInt32) &&& (3 : Int32)), Lv hi, Zs, Iv up, Us, Us, Us, Us] [(.int p3), (.long ((up.toInt64) <<< ((32 : Int32) &&& 0x3f).toInt64))])) tt_
        refine XS.i2l X0.here hEX rfl (hb hBY at_93) rfl ?_
        show Steps p.tables e below (s₁.setTop (mkF m 94 #[Lv q1, Zs, Iv p2, Iv p3, Iv p4, Iv (((p4.toUInt32 >>> ((3 : Int32) &&& 31).toUInt32).toInt32) &&& (63 : Int32)), Iv (((p4.toUInt32 >>> ((1 : Int32) &&& 31).toUInt32).toInt32) &&& (3 : Int32)), Lv hi, Zs, Iv up, Us, Us, Us, Us] [(.long (p3.toInt64)), (.long ((up.toInt64) <<< ((32 : Int32) &&& 0x3f).toInt64))])) tt_
        refine X0.ldc2Long hEX hOW (mvT hZW (hw _ (List.mem_of_getElem? (i := 1) rfl))) (g := (mkF m 94 #[Lv q1, Zs, Iv p2, Iv p3, Iv p4, Iv (((p4.toUInt32 >>> ((3 : Int32) &&& 31).toUInt32).toInt32) &&& (63 : Int32)), Iv (((p4.toUInt32 >>> ((1 : Int32) &&& 31).toUInt32).toInt32) &&& (3 : Int32)), Lv hi, Zs, Iv up, Us, Us, Us, Us] [(.long (p3.toInt64)), (.long ((up.toInt64) <<< ((32 : Int32) &&& 0x3f).toInt64))])) rfl (hb hBY at_94) _ ?_
        show Steps p.tables e below (s₁.setTop (mkF m 97 #[Lv q1, Zs, Iv p2, Iv p3, Iv p4, Iv (((p4.toUInt32 >>> ((3 : Int32) &&& 31).toUInt32).toInt32) &&& (63 : Int32)), Iv (((p4.toUInt32 >>> ((1 : Int32) &&& 31).toUInt32).toInt32) &&& (3 : Int32)), Lv hi, Zs, Iv up, Us, Us, Us, Us] [(.long (4294967295 : Int64)), (.long (p3.toInt64)), (.long ((up.toInt64) <<< ((32 : Int32) &&& 0x3f).toInt64))])) tt_
        refine XS.land X0.here hEX rfl (hb hBY at_97) rfl ?_
        show Steps p.tables e below (s₁.setTop (mkF m 98 #[Lv q1, Zs, Iv p2, Iv p3, Iv p4, Iv (((p4.toUInt32 >>> ((3 : Int32) &&& 31).toUInt32).toInt32) &&& (63 : Int32)), Iv (((p4.toUInt32 >>> ((1 : Int32) &&& 31).toUInt32).toInt32) &&& (3 : Int32)), Lv hi, Zs, Iv up, Us, Us, Us, Us] [(.long ((p3.toInt64) &&& (4294967295 : Int64))), (.long ((up.toInt64) <<< ((32 : Int32) &&& 0x3f).toInt64))])) tt_
        refine XS.lor X0.here hEX rfl (hb hBY at_98) rfl ?_
        show Steps p.tables e below (s₁.setTop (mkF m 99 #[Lv q1, Zs, Iv p2, Iv p3, Iv p4, Iv (((p4.toUInt32 >>> ((3 : Int32) &&& 31).toUInt32).toInt32) &&& (63 : Int32)), Iv (((p4.toUInt32 >>> ((1 : Int32) &&& 31).toUInt32).toInt32) &&& (3 : Int32)), Lv hi, Zs, Iv up, Us, Us, Us, Us] [(.long (((up.toInt64) <<< ((32 : Int32) &&& 0x3f).toInt64) ||| ((p3.toInt64) &&& (4294967295 : Int64))))])) tt_
        refine XS.lstore X0.here hEX rfl (hb hBY at_99) rfl (l' := #[Lv q1, Zs, Iv p2, Iv p3, Iv p4, Iv (((p4.toUInt32 >>> ((3 : Int32) &&& 31).toUInt32).toInt32) &&& (63 : Int32)), Iv (((p4.toUInt32 >>> ((1 : Int32) &&& 31).toUInt32).toInt32) &&& (3 : Int32)), Lv hi, Zs, Iv up, Lv (((up.toInt64) <<< ((32 : Int32) &&& 0x3f).toInt64) ||| ((p3.toInt64) &&& (4294967295 : Int64))), Zs, Us, Us]) rfl ?_
        exact kt_
      refine Done.pre sg_5 ?_
      have jn_6 : ∀ (ex : Int32) (hex : ex = own_exp hi up), Done p e below s (Qrm0 Z q1 p2 p3 p4 h0 n0) room_1.cells room_1.slots (s₁.setTop (mkF m 120 #[Lv q1, Zs, Iv p2, Iv p3, Iv p4, Iv (((p4.toUInt32 >>> ((3 : Int32) &&& 31).toUInt32).toInt32) &&& (63 : Int32)), Iv (((p4.toUInt32 >>> ((1 : Int32) &&& 31).toUInt32).toInt32) &&& (3 : Int32)), Lv hi, Zs, Iv up, Lv (((up.toInt64) <<< ((32 : Int32) &&& 0x3f).toInt64) ||| ((p3.toInt64) &&& (4294967295 : Int64))), Zs, Us, Us] [(.int ex)])) := by
        intro ex hex
        show Done _ _ _ _ _ _ _ (s₁.setTop (mkF m 120 #[Lv q1, Zs, Iv p2, Iv p3, Iv p4, Iv (((p4.toUInt32 >>> ((3 : Int32) &&& 31).toUInt32).toInt32) &&& (63 : Int32)), Iv (((p4.toUInt32 >>> ((1 : Int32) &&& 31).toUInt32).toInt32) &&& (3 : Int32)), Lv hi, Zs, Iv up, Lv (((up.toInt64) <<< ((32 : Int32) &&& 0x3f).toInt64) ||| ((p3.toInt64) &&& (4294967295 : Int64))), Zs, Us, Us] [(.int ex)]))
        have sg_7 : ∀ tt_, Steps p.tables e below (s₁.setTop (mkF m 122 #[Lv q1, Zs, Iv p2, Iv p3, Iv p4, Iv (((p4.toUInt32 >>> ((3 : Int32) &&& 31).toUInt32).toInt32) &&& (63 : Int32)), Iv (((p4.toUInt32 >>> ((1 : Int32) &&& 31).toUInt32).toInt32) &&& (3 : Int32)), Lv hi, Zs, Iv up, Lv (((up.toInt64) <<< ((32 : Int32) &&& 0x3f).toInt64) ||| ((p3.toInt64) &&& (4294967295 : Int64))), Zs, Iv ex, Us] [])) tt_ → Steps p.tables e below (s₁.setTop (mkF m 120 #[Lv q1, Zs, Iv p2, Iv p3, Iv p4, Iv (((p4.toUInt32 >>> ((3 : Int32) &&& 31).toUInt32).toInt32) &&& (63 : Int32)), Iv (((p4.toUInt32 >>> ((1 : Int32) &&& 31).toUInt32).toInt32) &&& (3 : Int32)), Lv hi, Zs, Iv up, Lv (((up.toInt64) <<< ((32 : Int32) &&& 0x3f).toInt64) ||| ((p3.toInt64) &&& (4294967295 : Int64))), Zs, Us, Us] [(.int ex)])) tt_ := by
          intro tt_ kt_
          refine XS.istore X0.here hEX rfl (hb hBY at_120) rfl (l' := #[Lv q1, Zs, Iv p2, Iv p3, Iv p4, Iv (((p4.toUInt32 >>> ((3 : Int32) &&& 31).toUInt32).toInt32) &&& (63 : Int32)), Iv (((p4.toUInt32 >>> ((1 : Int32) &&& 31).toUInt32).toInt32) &&& (3 : Int32)), Lv hi, Zs, Iv up, Lv (((up.toInt64) <<< ((32 : Int32) &&& 0x3f).toInt64) ||| ((p3.toInt64) &&& (4294967295 : Int64))), Zs, Iv ex, Us]) rfl ?_
          exact kt_
        refine Done.pre sg_7 ?_
        obtain ⟨T_8, h_8, X_8, e_8, E_8, A_8, D_8, -, st_8⟩ := newO X0 hEX hZW hOW (hw _ (List.mem_of_getElem? (i := 2) rfl)) (hw _ (List.mem_of_getElem? (i := 3) rfl)) (hw _ (List.mem_of_getElem? (i := 4) rfl)) e0 (g := (mkF m 122 #[Lv q1, Zs, Iv p2, Iv p3, Iv p4, Iv (((p4.toUInt32 >>> ((3 : Int32) &&& 31).toUInt32).toInt32) &&& (63 : Int32)), Iv (((p4.toUInt32 >>> ((1 : Int32) &&& 31).toUInt32).toInt32) &&& (3 : Int32)), Lv hi, Zs, Iv up, Lv (((up.toInt64) <<< ((32 : Int32) &&& 0x3f).toInt64) ||| ((p3.toInt64) &&& (4294967295 : Int64))), Zs, Iv ex, Us] [])) rfl (hb hBY at_122) (by decide) (by decide)
        obtain ⟨b_8, g_8⟩ : ∃ z, z = h0.size := ⟨_, rfl⟩
        rw [← g_8] at A_8 D_8 st_8
        have sz_b_8 : h0.size ≤ b_8 := Nat.le_trans K0.1 (Nat.le_of_eq g_8.symm)
        have ge_b_8 : n0 ≤ b_8 := Nat.le_trans Z0 sz_b_8
        have K__9 : Keep h0 h_8 [] := K0.ext E_8
        have f_10 : Exa Z h_8 b_8 "com/example/lean_limiter/leanlimiter/IpAddress" := A_8
        have f_11 : Fld Z h_8 b_8 "com/example/lean_limiter/leanlimiter/IpAddress" "high" "J" (.long (0 : Int64)) := D_8 (Or.inr (hw _ (List.mem_of_getElem? (i := 17) rfl))) (ty := .long) (by decide)
        have f_12 : Fld Z h_8 b_8 "com/example/lean_limiter/leanlimiter/IpAddress" "low" "J" (.long (0 : Int64)) := D_8 (Or.inr (hw _ (List.mem_of_getElem? (i := 19) rfl))) (ty := .long) (by decide)
        refine Done.pre st_8 ?_
        show Done _ _ _ _ _ _ _ (T_8.setTop (mkF m 125 #[Lv q1, Zs, Iv p2, Iv p3, Iv p4, Iv (((p4.toUInt32 >>> ((3 : Int32) &&& 31).toUInt32).toInt32) &&& (63 : Int32)), Iv (((p4.toUInt32 >>> ((1 : Int32) &&& 31).toUInt32).toInt32) &&& (3 : Int32)), Lv hi, Zs, Iv up, Lv (((up.toInt64) <<< ((32 : Int32) &&& 0x3f).toInt64) ||| ((p3.toInt64) &&& (4294967295 : Int64))), Zs, Iv ex, Us] [(.ref b_8)]))
        have sg_13 : ∀ tt_, Steps p.tables e below (T_8.setTop (mkF m 130 #[Lv q1, Zs, Iv p2, Iv p3, Iv p4, Iv (((p4.toUInt32 >>> ((3 : Int32) &&& 31).toUInt32).toInt32) &&& (63 : Int32)), Iv (((p4.toUInt32 >>> ((1 : Int32) &&& 31).toUInt32).toInt32) &&& (3 : Int32)), Lv hi, Zs, Iv up, Lv (((up.toInt64) <<< ((32 : Int32) &&& 0x3f).toInt64) ||| ((p3.toInt64) &&& (4294967295 : Int64))), Zs, Iv ex, Us] [(.long (((up.toInt64) <<< ((32 : Int32) &&& 0x3f).toInt64) ||| ((p3.toInt64) &&& (4294967295 : Int64)))), (.long hi), (.ref b_8), (.ref b_8)])) tt_ → Steps p.tables e below (T_8.setTop (mkF m 125 #[Lv q1, Zs, Iv p2, Iv p3, Iv p4, Iv (((p4.toUInt32 >>> ((3 : Int32) &&& 31).toUInt32).toInt32) &&& (63 : Int32)), Iv (((p4.toUInt32 >>> ((1 : Int32) &&& 31).toUInt32).toInt32) &&& (3 : Int32)), Lv hi, Zs, Iv up, Lv (((up.toInt64) <<< ((32 : Int32) &&& 0x3f).toInt64) ||| ((p3.toInt64) &&& (4294967295 : Int64))), Zs, Iv ex, Us] [(.ref b_8)])) tt_ := by
          intro tt_ kt_
          refine XS.dup X_8.here hEX rfl (hb hBY at_125) rfl rfl ?_
          show Steps p.tables e below (T_8.setTop (mkF m 126 #[Lv q1, Zs, Iv p2, Iv p3, Iv p4, Iv (((p4.toUInt32 >>> ((3 : Int32) &&& 31).toUInt32).toInt32) &&& (63 : Int32)), Iv (((p4.toUInt32 >>> ((1 : Int32) &&& 31).toUInt32).toInt32) &&& (3 : Int32)), Lv hi, Zs, Iv up, Lv (((up.toInt64) <<< ((32 : Int32) &&& 0x3f).toInt64) ||| ((p3.toInt64) &&& (4294967295 : Int64))), Zs, Iv ex, Us] [(.ref b_8), (.ref b_8)])) tt_
          refine XS.lload X_8.here hEX rfl (hb hBY at_126) rfl ?_
          show Steps p.tables e below (T_8.setTop (mkF m 128 #[Lv q1, Zs, Iv p2, Iv p3, Iv p4, Iv (((p4.toUInt32 >>> ((3 : Int32) &&& 31).toUInt32).toInt32) &&& (63 : Int32)), Iv (((p4.toUInt32 >>> ((1 : Int32) &&& 31).toUInt32).toInt32) &&& (3 : Int32)), Lv hi, Zs, Iv up, Lv (((up.toInt64) <<< ((32 : Int32) &&& 0x3f).toInt64) ||| ((p3.toInt64) &&& (4294967295 : Int64))), Zs, Iv ex, Us] [(.long hi), (.ref b_8), (.ref b_8)])) tt_
          refine XS.lload X_8.here hEX rfl (hb hBY at_128) rfl ?_
          exact kt_
        refine Done.pre sg_13 ?_
        obtain ⟨_, _, ⟨T_14, L_14, k_14, n_14⟩, -, X_14, ⟨Lc_14, hQ_14, l_14, y_14, z_14⟩, st_14⟩ := X_8.specialBack hEX (y := (⟨"com/example/lean_limiter/leanlimiter/IpAddress", "<init>", "(JJ)V"⟩ : MethodName)) rfl hOW (mvT hZW (hw _ (List.mem_of_getElem? (i := 5) rfl))) (mvT hZW (hw _ (List.mem_of_getElem? (i := 6) rfl))) (mvT hZW (hw _ (List.mem_of_getElem? (i := 7) rfl))) (by decide) (backOf (W := 1) (rm_init l Z aZ hw [] b_8 hi (((up.toInt64) <<< ((32 : Int32) &&& 0x3f).toInt64) ||| ((p3.toInt64) &&& (4294967295 : Int64))) (.long (0 : Int64)) (.long (0 : Int64)) h_8 n0 (Nat.le_trans Z0 K__9.1) f_10 f_11 f_12 ge_b_8) hZW (hw _ (List.mem_of_getElem? (i := 7) rfl)) (hw _ (List.mem_of_getElem? (i := 4) rfl)) (by decide) (by decide)) (g := (mkF m 130 #[Lv q1, Zs, Iv p2, Iv p3, Iv p4, Iv (((p4.toUInt32 >>> ((3 : Int32) &&& 31).toUInt32).toInt32) &&& (63 : Int32)), Iv (((p4.toUInt32 >>> ((1 : Int32) &&& 31).toUInt32).toInt32) &&& (3 : Int32)), Lv hi, Zs, Iv up, Lv (((up.toInt64) <<< ((32 : Int32) &&& 0x3f).toInt64) ||| ((p3.toInt64) &&& (4294967295 : Int64))), Zs, Iv ex, Us] [(.long (((up.toInt64) <<< ((32 : Int32) &&& 0x3f).toInt64) ||| ((p3.toInt64) &&& (4294967295 : Int64)))), (.long hi), (.ref b_8), (.ref b_8)])) rfl (by rw [hMX]; rfl) (Steps.refl _) (a := b_8) (argsL := [(.long hi), (.long (((up.toInt64) <<< ((32 : Int32) &&& 0x3f).toInt64) ||| ((p3.toInt64) &&& (4294967295 : Int64))))]) (rest := [(.ref b_8)]) (lenOf pd__JJ_V_2 rfl) rfl (by show 2 * 0 + _ ≤ _; exact Nat.le_of_eq rfl) (hb hBY at_130) (fun _ _ => ⟨rfl, e_8, (by decide : 1 + 0 ≤ _), (by decide : 2 + 0 ≤ _)⟩)
        dsimp only [Pt.U, Pt.locs, Pt.cells, Pt.slots] at X_14 l_14 y_14 z_14 st_14 hQ_14
        subst l_14 y_14 z_14
        obtain ⟨rfl, N_14q, K_14, hq_14_0, hq_14_1, hq_14_2⟩ := hQ_14
        have N_14 := Fr.app N0 N_14q
        have K__15 : Keep h0 T_14.heap [] := K__9.trans K_14 (allS (Or.inr sz_b_8) all0)
        have f_16 : Exa Z T_14.heap b_8 "com/example/lean_limiter/leanlimiter/IpAddress" := f_10.keep K_14
        refine Done.pre (fun _ k_ => st_14.trans k_) ?_
        show Done _ _ _ _ _ _ _ (T_14.setTop (mkF m 133 #[Lv q1, Zs, Iv p2, Iv p3, Iv p4, Iv (((p4.toUInt32 >>> ((3 : Int32) &&& 31).toUInt32).toInt32) &&& (63 : Int32)), Iv (((p4.toUInt32 >>> ((1 : Int32) &&& 31).toUInt32).toInt32) &&& (3 : Int32)), Lv hi, Zs, Iv up, Lv (((up.toInt64) <<< ((32 : Int32) &&& 0x3f).toInt64) ||| ((p3.toInt64) &&& (4294967295 : Int64))), Zs, Iv ex, Us] [(.ref b_8)]))
        have sg_17 : ∀ tt_, Steps p.tables e below (T_14.setTop (mkF m 137 #[Lv q1, Zs, Iv p2, Iv p3, Iv p4, Iv (((p4.toUInt32 >>> ((3 : Int32) &&& 31).toUInt32).toInt32) &&& (63 : Int32)), Iv (((p4.toUInt32 >>> ((1 : Int32) &&& 31).toUInt32).toInt32) &&& (3 : Int32)), Lv hi, Zs, Iv up, Lv (((up.toInt64) <<< ((32 : Int32) &&& 0x3f).toInt64) ||| ((p3.toInt64) &&& (4294967295 : Int64))), Zs, Iv ex, Rv b_8] [(.ref b_8)])) tt_ → Steps p.tables e below (T_14.setTop (mkF m 133 #[Lv q1, Zs, Iv p2, Iv p3, Iv p4, Iv (((p4.toUInt32 >>> ((3 : Int32) &&& 31).toUInt32).toInt32) &&& (63 : Int32)), Iv (((p4.toUInt32 >>> ((1 : Int32) &&& 31).toUInt32).toInt32) &&& (3 : Int32)), Lv hi, Zs, Iv up, Lv (((up.toInt64) <<< ((32 : Int32) &&& 0x3f).toInt64) ||| ((p3.toInt64) &&& (4294967295 : Int64))), Zs, Iv ex, Us] [(.ref b_8)])) tt_ := by
          intro tt_ kt_
          refine XS.astore X_14.here hEX rfl (hb hBY at_133) rfl rfl (l' := #[Lv q1, Zs, Iv p2, Iv p3, Iv p4, Iv (((p4.toUInt32 >>> ((3 : Int32) &&& 31).toUInt32).toInt32) &&& (63 : Int32)), Iv (((p4.toUInt32 >>> ((1 : Int32) &&& 31).toUInt32).toInt32) &&& (3 : Int32)), Lv hi, Zs, Iv up, Lv (((up.toInt64) <<< ((32 : Int32) &&& 0x3f).toInt64) ||| ((p3.toInt64) &&& (4294967295 : Int64))), Zs, Iv ex, Rv b_8]) rfl ?_
          show Steps p.tables e below (T_14.setTop (mkF m 135 #[Lv q1, Zs, Iv p2, Iv p3, Iv p4, Iv (((p4.toUInt32 >>> ((3 : Int32) &&& 31).toUInt32).toInt32) &&& (63 : Int32)), Iv (((p4.toUInt32 >>> ((1 : Int32) &&& 31).toUInt32).toInt32) &&& (3 : Int32)), Lv hi, Zs, Iv up, Lv (((up.toInt64) <<< ((32 : Int32) &&& 0x3f).toInt64) ||| ((p3.toInt64) &&& (4294967295 : Int64))), Zs, Iv ex, Rv b_8] [])) tt_
          refine XS.aload X_14.here hEX rfl (hb hBY at_135) rfl rfl ?_
          exact kt_
        refine Done.pre sg_17 ?_
        obtain ⟨cq_18, kq_18, q_18a, q_18b, q_18c⟩ := isOf hZW rfl hq_14_0
        obtain ⟨_, _, ⟨T_18, L_18, k_18, n_18⟩, -, X_18, ⟨Lc_18, hQ_18, l_18, y_18, z_18⟩, st_18⟩ := X_14.virtualBack hEX (y := (⟨"com/example/lean_limiter/leanlimiter/IpAddress", "isIpv4", "()Z"⟩ : MethodName)) (z := (⟨"com/example/lean_limiter/leanlimiter/IpAddress", "isIpv4", "()Z"⟩ : MethodName)) hOW (mvT hZW (hw _ (List.mem_of_getElem? (i := 20) rfl))) (mvT hZW (hw _ (List.mem_of_getElem? (i := 21) rfl))) (notFace_of_selects (args := #[]) (mvT hZW (hw _ (List.mem_of_getElem? (i := 23) rfl)))) (mvT hZW (hw _ (List.mem_of_getElem? (i := 23) rfl))) (mvT hZW (hw _ (List.mem_of_getElem? (i := 22) rfl))) (by decide) (backOf (W := 0) (rm_v4 l Z aZ hw [] b_8 hi (((up.toInt64) <<< ((32 : Int32) &&& 0x3f).toInt64) ||| ((p3.toInt64) &&& (4294967295 : Int64))) T_14.heap n0 (Nat.le_trans Z0 K__15.1) hq_14_1 hq_14_2) hZW (hw _ (List.mem_of_getElem? (i := 24) rfl)) (hw _ (List.mem_of_getElem? (i := 4) rfl)) (by decide) (by decide)) q_18a q_18c (g := (mkF m 137 #[Lv q1, Zs, Iv p2, Iv p3, Iv p4, Iv (((p4.toUInt32 >>> ((3 : Int32) &&& 31).toUInt32).toInt32) &&& (63 : Int32)), Iv (((p4.toUInt32 >>> ((1 : Int32) &&& 31).toUInt32).toInt32) &&& (3 : Int32)), Lv hi, Zs, Iv up, Lv (((up.toInt64) <<< ((32 : Int32) &&& 0x3f).toInt64) ||| ((p3.toInt64) &&& (4294967295 : Int64))), Zs, Iv ex, Rv b_8] [(.ref b_8)])) rfl (by rw [hMX]; rfl) (Steps.refl _) (argsL := []) (rest := []) (lenOf pd___Z_1 rfl) rfl (by show 2 * 0 + _ ≤ _; exact Nat.le_of_eq rfl) (hb hBY at_137) (fun _ _ => ⟨rfl, rfl, (by decide : 1 + 0 ≤ _), (by decide : 2 + 0 ≤ _)⟩)
        dsimp only [Pt.U, Pt.locs, Pt.cells, Pt.slots] at X_18 l_18 y_18 z_18 st_18 hQ_18
        subst l_18 y_18 z_18
        obtain ⟨rfl, N_18q, e_18⟩ := hQ_18
        have N_18 := Fr.app N_14 N_18q
        refine Done.pre (fun _ k_ => st_18.trans k_) ?_
        show Done _ _ _ _ _ _ _ (T_18.setTop (mkF m 140 #[Lv q1, Zs, Iv p2, Iv p3, Iv p4, Iv (((p4.toUInt32 >>> ((3 : Int32) &&& 31).toUInt32).toInt32) &&& (63 : Int32)), Iv (((p4.toUInt32 >>> ((1 : Int32) &&& 31).toUInt32).toInt32) &&& (3 : Int32)), Lv hi, Zs, Iv up, Lv (((up.toInt64) <<< ((32 : Int32) &&& 0x3f).toInt64) ||| ((p3.toInt64) &&& (4294967295 : Int64))), Zs, Iv ex, Rv b_8] [(.int (own_v4 hi (((up.toInt64) <<< ((32 : Int32) &&& 0x3f).toInt64) ||| ((p3.toInt64) &&& (4294967295 : Int64)))))]))
        have sg_19 : ∀ tt_, Steps p.tables e below (T_18.setTop (mkF m 150 #[Lv q1, Zs, Iv p2, Iv p3, Iv p4, Iv (((p4.toUInt32 >>> ((3 : Int32) &&& 31).toUInt32).toInt32) &&& (63 : Int32)), Iv (((p4.toUInt32 >>> ((1 : Int32) &&& 31).toUInt32).toInt32) &&& (3 : Int32)), Lv hi, Zs, Iv up, Lv (((up.toInt64) <<< ((32 : Int32) &&& 0x3f).toInt64) ||| ((p3.toInt64) &&& (4294967295 : Int64))), Zs, Iv ex, Rv b_8] [(.int (1 : Int32))])) tt_ → Steps p.tables e below (T_18.setTop (mkF m 140 #[Lv q1, Zs, Iv p2, Iv p3, Iv p4, Iv (((p4.toUInt32 >>> ((3 : Int32) &&& 31).toUInt32).toInt32) &&& (63 : Int32)), Iv (((p4.toUInt32 >>> ((1 : Int32) &&& 31).toUInt32).toInt32) &&& (3 : Int32)), Lv hi, Zs, Iv up, Lv (((up.toInt64) <<< ((32 : Int32) &&& 0x3f).toInt64) ||| ((p3.toInt64) &&& (4294967295 : Int64))), Zs, Iv ex, Rv b_8] [(.int (own_v4 hi (((up.toInt64) <<< ((32 : Int32) &&& 0x3f).toInt64) ||| ((p3.toInt64) &&& (4294967295 : Int64)))))])) tt_ := by
          intro tt_ kt_
          refine XS.iload X_18.here hEX rfl (hb hBY at_140) rfl ?_
          show Steps p.tables e below (T_18.setTop (mkF m 142 #[Lv q1, Zs, Iv p2, Iv p3, Iv p4, Iv (((p4.toUInt32 >>> ((3 : Int32) &&& 31).toUInt32).toInt32) &&& (63 : Int32)), Iv (((p4.toUInt32 >>> ((1 : Int32) &&& 31).toUInt32).toInt32) &&& (3 : Int32)), Lv hi, Zs, Iv up, Lv (((up.toInt64) <<< ((32 : Int32) &&& 0x3f).toInt64) ||| ((p3.toInt64) &&& (4294967295 : Int64))), Zs, Iv ex, Rv b_8] [(.int ex), (.int (own_v4 hi (((up.toInt64) <<< ((32 : Int32) &&& 0x3f).toInt64) ||| ((p3.toInt64) &&& (4294967295 : Int64)))))])) tt_
          refine XS.icmpNo X_18.here hEX rfl (hb hBY at_142) rfl (teq ((own_law hi up p3).trans hex.symm : (own_v4 hi (((up.toInt64) <<< ((32 : Int32) &&& 0x3f).toInt64) ||| ((p3.toInt64) &&& (4294967295 : Int64)))) = ex)).2 ?_
          show Steps p.tables e below (T_18.setTop (mkF m 145 #[Lv q1, Zs, Iv p2, Iv p3, Iv p4, Iv (((p4.toUInt32 >>> ((3 : Int32) &&& 31).toUInt32).toInt32) &&& (63 : Int32)), Iv (((p4.toUInt32 >>> ((1 : Int32) &&& 31).toUInt32).toInt32) &&& (3 : Int32)), Lv hi, Zs, Iv up, Lv (((up.toInt64) <<< ((32 : Int32) &&& 0x3f).toInt64) ||| ((p3.toInt64) &&& (4294967295 : Int64))), Zs, Iv ex, Rv b_8] [])) tt_
          refine XS.iconst X_18.here hEX rfl (hb hBY at_145) ?_
          show Steps p.tables e below (T_18.setTop (mkF m 146 #[Lv q1, Zs, Iv p2, Iv p3, Iv p4, Iv (((p4.toUInt32 >>> ((3 : Int32) &&& 31).toUInt32).toInt32) &&& (63 : Int32)), Iv (((p4.toUInt32 >>> ((1 : Int32) &&& 31).toUInt32).toInt32) &&& (3 : Int32)), Lv hi, Zs, Iv up, Lv (((up.toInt64) <<< ((32 : Int32) &&& 0x3f).toInt64) ||| ((p3.toInt64) &&& (4294967295 : Int64))), Zs, Iv ex, Rv b_8] [(.int (1 : Int32))])) tt_
          refine XS.goto X_18.here hEX rfl (pc0 := 146) (pc' := 150) rfl (hb hBY at_146) (by decide) (by decide) ?_
          exact kt_
        refine Done.pre sg_19 ?_
        exact Done.retN X_18 hEX hLK (t := .boolean) hRT (by simp) (hb hBY at_150) (by rw [e_18]; exact ⟨rfl, N_18, K__15⟩) (by decide) (by decide)
      show Done _ _ _ _ _ _ _ (s₁.setTop (mkF m 101 #[Lv q1, Zs, Iv p2, Iv p3, Iv p4, Iv (((p4.toUInt32 >>> ((3 : Int32) &&& 31).toUInt32).toInt32) &&& (63 : Int32)), Iv (((p4.toUInt32 >>> ((1 : Int32) &&& 31).toUInt32).toInt32) &&& (3 : Int32)), Lv hi, Zs, Iv up, Lv (((up.toInt64) <<< ((32 : Int32) &&& 0x3f).toInt64) ||| ((p3.toInt64) &&& (4294967295 : Int64))), Zs, Us, Us] []))
      have sg_20 : ∀ tt_, Steps p.tables e below (s₁.setTop (mkF m 105 #[Lv q1, Zs, Iv p2, Iv p3, Iv p4, Iv (((p4.toUInt32 >>> ((3 : Int32) &&& 31).toUInt32).toInt32) &&& (63 : Int32)), Iv (((p4.toUInt32 >>> ((1 : Int32) &&& 31).toUInt32).toInt32) &&& (3 : Int32)), Lv hi, Zs, Iv up, Lv (((up.toInt64) <<< ((32 : Int32) &&& 0x3f).toInt64) ||| ((p3.toInt64) &&& (4294967295 : Int64))), Zs, Us, Us] [(.int (lcmpW hi (0 : Int64)))])) tt_ → Steps p.tables e below (s₁.setTop (mkF m 101 #[Lv q1, Zs, Iv p2, Iv p3, Iv p4, Iv (((p4.toUInt32 >>> ((3 : Int32) &&& 31).toUInt32).toInt32) &&& (63 : Int32)), Iv (((p4.toUInt32 >>> ((1 : Int32) &&& 31).toUInt32).toInt32) &&& (3 : Int32)), Lv hi, Zs, Iv up, Lv (((up.toInt64) <<< ((32 : Int32) &&& 0x3f).toInt64) ||| ((p3.toInt64) &&& (4294967295 : Int64))), Zs, Us, Us] [])) tt_ := by
        intro tt_ kt_
        refine XS.lload X0.here hEX rfl (hb hBY at_101) rfl ?_
        show Steps p.tables e below (s₁.setTop (mkF m 103 #[Lv q1, Zs, Iv p2, Iv p3, Iv p4, Iv (((p4.toUInt32 >>> ((3 : Int32) &&& 31).toUInt32).toInt32) &&& (63 : Int32)), Iv (((p4.toUInt32 >>> ((1 : Int32) &&& 31).toUInt32).toInt32) &&& (3 : Int32)), Lv hi, Zs, Iv up, Lv (((up.toInt64) <<< ((32 : Int32) &&& 0x3f).toInt64) ||| ((p3.toInt64) &&& (4294967295 : Int64))), Zs, Us, Us] [(.long hi)])) tt_
        refine XS.lconst X0.here hEX rfl (hb hBY at_103) ?_
        show Steps p.tables e below (s₁.setTop (mkF m 104 #[Lv q1, Zs, Iv p2, Iv p3, Iv p4, Iv (((p4.toUInt32 >>> ((3 : Int32) &&& 31).toUInt32).toInt32) &&& (63 : Int32)), Iv (((p4.toUInt32 >>> ((1 : Int32) &&& 31).toUInt32).toInt32) &&& (3 : Int32)), Lv hi, Zs, Iv up, Lv (((up.toInt64) <<< ((32 : Int32) &&& 0x3f).toInt64) ||| ((p3.toInt64) &&& (4294967295 : Int64))), Zs, Us, Us] [(.long (0 : Int64)), (.long hi)])) tt_
        refine XS.lcmp X0.here hEX rfl (hb hBY at_104) rfl ?_
        exact kt_
      refine Done.pre sg_20 ?_
      by_cases hc105 : hi = (0 : Int64)
      · skip
        have sg_21 : ∀ tt_, Steps p.tables e below (s₁.setTop (mkF m 112 #[Lv q1, Zs, Iv p2, Iv p3, Iv p4, Iv (((p4.toUInt32 >>> ((3 : Int32) &&& 31).toUInt32).toInt32) &&& (63 : Int32)), Iv (((p4.toUInt32 >>> ((1 : Int32) &&& 31).toUInt32).toInt32) &&& (3 : Int32)), Lv hi, Zs, Iv up, Lv (((up.toInt64) <<< ((32 : Int32) &&& 0x3f).toInt64) ||| ((p3.toInt64) &&& (4294967295 : Int64))), Zs, Us, Us] [(.int (65535 : Int32)), (.int up)])) tt_ → Steps p.tables e below (s₁.setTop (mkF m 105 #[Lv q1, Zs, Iv p2, Iv p3, Iv p4, Iv (((p4.toUInt32 >>> ((3 : Int32) &&& 31).toUInt32).toInt32) &&& (63 : Int32)), Iv (((p4.toUInt32 >>> ((1 : Int32) &&& 31).toUInt32).toInt32) &&& (3 : Int32)), Lv hi, Zs, Iv up, Lv (((up.toInt64) <<< ((32 : Int32) &&& 0x3f).toInt64) ||| ((p3.toInt64) &&& (4294967295 : Int64))), Zs, Us, Us] [(.int (lcmpW hi (0 : Int64)))])) tt_ := by
          intro tt_ kt_
          refine XS.ifNo X0.here hEX rfl (hb hBY at_105) rfl ((if0 _ _).trans (teq ((lw_eq _ _).mpr hc105)).2) ?_
          show Steps p.tables e below (s₁.setTop (mkF m 108 #[Lv q1, Zs, Iv p2, Iv p3, Iv p4, Iv (((p4.toUInt32 >>> ((3 : Int32) &&& 31).toUInt32).toInt32) &&& (63 : Int32)), Iv (((p4.toUInt32 >>> ((1 : Int32) &&& 31).toUInt32).toInt32) &&& (3 : Int32)), Lv hi, Zs, Iv up, Lv (((up.toInt64) <<< ((32 : Int32) &&& 0x3f).toInt64) ||| ((p3.toInt64) &&& (4294967295 : Int64))), Zs, Us, Us] [])) tt_
          refine XS.iload X0.here hEX rfl (hb hBY at_108) rfl ?_
          show Steps p.tables e below (s₁.setTop (mkF m 110 #[Lv q1, Zs, Iv p2, Iv p3, Iv p4, Iv (((p4.toUInt32 >>> ((3 : Int32) &&& 31).toUInt32).toInt32) &&& (63 : Int32)), Iv (((p4.toUInt32 >>> ((1 : Int32) &&& 31).toUInt32).toInt32) &&& (3 : Int32)), Lv hi, Zs, Iv up, Lv (((up.toInt64) <<< ((32 : Int32) &&& 0x3f).toInt64) ||| ((p3.toInt64) &&& (4294967295 : Int64))), Zs, Us, Us] [(.int up)])) tt_
          refine X0.ldcInt hEX hOW (mvT hZW (hw _ (List.mem_of_getElem? (i := 0) rfl))) (g := (mkF m 110 #[Lv q1, Zs, Iv p2, Iv p3, Iv p4, Iv (((p4.toUInt32 >>> ((3 : Int32) &&& 31).toUInt32).toInt32) &&& (63 : Int32)), Iv (((p4.toUInt32 >>> ((1 : Int32) &&& 31).toUInt32).toInt32) &&& (3 : Int32)), Lv hi, Zs, Iv up, Lv (((up.toInt64) <<< ((32 : Int32) &&& 0x3f).toInt64) ||| ((p3.toInt64) &&& (4294967295 : Int64))), Zs, Us, Us] [(.int up)])) rfl (hb hBY at_110) _ ?_
          exact kt_
        refine Done.pre sg_21 ?_
        by_cases hc112 : up = (65535 : Int32)
        · skip
          have sg_22 : ∀ tt_, Steps p.tables e below (s₁.setTop (mkF m 120 #[Lv q1, Zs, Iv p2, Iv p3, Iv p4, Iv (((p4.toUInt32 >>> ((3 : Int32) &&& 31).toUInt32).toInt32) &&& (63 : Int32)), Iv (((p4.toUInt32 >>> ((1 : Int32) &&& 31).toUInt32).toInt32) &&& (3 : Int32)), Lv hi, Zs, Iv up, Lv (((up.toInt64) <<< ((32 : Int32) &&& 0x3f).toInt64) ||| ((p3.toInt64) &&& (4294967295 : Int64))), Zs, Us, Us] [(.int (1 : Int32))])) tt_ → Steps p.tables e below (s₁.setTop (mkF m 112 #[Lv q1, Zs, Iv p2, Iv p3, Iv p4, Iv (((p4.toUInt32 >>> ((3 : Int32) &&& 31).toUInt32).toInt32) &&& (63 : Int32)), Iv (((p4.toUInt32 >>> ((1 : Int32) &&& 31).toUInt32).toInt32) &&& (3 : Int32)), Lv hi, Zs, Iv up, Lv (((up.toInt64) <<< ((32 : Int32) &&& 0x3f).toInt64) ||| ((p3.toInt64) &&& (4294967295 : Int64))), Zs, Us, Us] [(.int (65535 : Int32)), (.int up)])) tt_ := by
            intro tt_ kt_
            refine XS.icmpNo X0.here hEX rfl (hb hBY at_112) rfl (teq hc112).2 ?_
            show Steps p.tables e below (s₁.setTop (mkF m 115 #[Lv q1, Zs, Iv p2, Iv p3, Iv p4, Iv (((p4.toUInt32 >>> ((3 : Int32) &&& 31).toUInt32).toInt32) &&& (63 : Int32)), Iv (((p4.toUInt32 >>> ((1 : Int32) &&& 31).toUInt32).toInt32) &&& (3 : Int32)), Lv hi, Zs, Iv up, Lv (((up.toInt64) <<< ((32 : Int32) &&& 0x3f).toInt64) ||| ((p3.toInt64) &&& (4294967295 : Int64))), Zs, Us, Us] [])) tt_
            refine XS.iconst X0.here hEX rfl (hb hBY at_115) ?_
            show Steps p.tables e below (s₁.setTop (mkF m 116 #[Lv q1, Zs, Iv p2, Iv p3, Iv p4, Iv (((p4.toUInt32 >>> ((3 : Int32) &&& 31).toUInt32).toInt32) &&& (63 : Int32)), Iv (((p4.toUInt32 >>> ((1 : Int32) &&& 31).toUInt32).toInt32) &&& (3 : Int32)), Lv hi, Zs, Iv up, Lv (((up.toInt64) <<< ((32 : Int32) &&& 0x3f).toInt64) ||| ((p3.toInt64) &&& (4294967295 : Int64))), Zs, Us, Us] [(.int (1 : Int32))])) tt_
            refine XS.goto X0.here hEX rfl (pc0 := 116) (pc' := 120) rfl (hb hBY at_116) (by decide) (by decide) ?_
            exact kt_
          refine Done.pre sg_22 ?_
          exact jn_6 ((1 : Int32)) (by rw [own_exp]; first | rw [if_neg hc105] | rw [if_pos hc105, if_pos hc112] | rw [if_pos hc105, if_neg hc112])
        · skip
          have sg_23 : ∀ tt_, Steps p.tables e below (s₁.setTop (mkF m 120 #[Lv q1, Zs, Iv p2, Iv p3, Iv p4, Iv (((p4.toUInt32 >>> ((3 : Int32) &&& 31).toUInt32).toInt32) &&& (63 : Int32)), Iv (((p4.toUInt32 >>> ((1 : Int32) &&& 31).toUInt32).toInt32) &&& (3 : Int32)), Lv hi, Zs, Iv up, Lv (((up.toInt64) <<< ((32 : Int32) &&& 0x3f).toInt64) ||| ((p3.toInt64) &&& (4294967295 : Int64))), Zs, Us, Us] [(.int (0 : Int32))])) tt_ → Steps p.tables e below (s₁.setTop (mkF m 112 #[Lv q1, Zs, Iv p2, Iv p3, Iv p4, Iv (((p4.toUInt32 >>> ((3 : Int32) &&& 31).toUInt32).toInt32) &&& (63 : Int32)), Iv (((p4.toUInt32 >>> ((1 : Int32) &&& 31).toUInt32).toInt32) &&& (3 : Int32)), Lv hi, Zs, Iv up, Lv (((up.toInt64) <<< ((32 : Int32) &&& 0x3f).toInt64) ||| ((p3.toInt64) &&& (4294967295 : Int64))), Zs, Us, Us] [(.int (65535 : Int32)), (.int up)])) tt_ := by
            intro tt_ kt_
            refine XS.icmpYes X0.here hEX rfl (pc0 := 112) (pc' := 119) rfl (hb hBY at_112) rfl (feq hc112).2 (by decide) (by decide) ?_
            show Steps p.tables e below (s₁.setTop (mkF m 119 #[Lv q1, Zs, Iv p2, Iv p3, Iv p4, Iv (((p4.toUInt32 >>> ((3 : Int32) &&& 31).toUInt32).toInt32) &&& (63 : Int32)), Iv (((p4.toUInt32 >>> ((1 : Int32) &&& 31).toUInt32).toInt32) &&& (3 : Int32)), Lv hi, Zs, Iv up, Lv (((up.toInt64) <<< ((32 : Int32) &&& 0x3f).toInt64) ||| ((p3.toInt64) &&& (4294967295 : Int64))), Zs, Us, Us] [])) tt_
            refine XS.iconst X0.here hEX rfl (hb hBY at_119) ?_
            exact kt_
          refine Done.pre sg_23 ?_
          exact jn_6 ((0 : Int32)) (by rw [own_exp]; first | rw [if_neg hc105] | rw [if_pos hc105, if_pos hc112] | rw [if_pos hc105, if_neg hc112])
      · skip
        have sg_24 : ∀ tt_, Steps p.tables e below (s₁.setTop (mkF m 120 #[Lv q1, Zs, Iv p2, Iv p3, Iv p4, Iv (((p4.toUInt32 >>> ((3 : Int32) &&& 31).toUInt32).toInt32) &&& (63 : Int32)), Iv (((p4.toUInt32 >>> ((1 : Int32) &&& 31).toUInt32).toInt32) &&& (3 : Int32)), Lv hi, Zs, Iv up, Lv (((up.toInt64) <<< ((32 : Int32) &&& 0x3f).toInt64) ||| ((p3.toInt64) &&& (4294967295 : Int64))), Zs, Us, Us] [(.int (0 : Int32))])) tt_ → Steps p.tables e below (s₁.setTop (mkF m 105 #[Lv q1, Zs, Iv p2, Iv p3, Iv p4, Iv (((p4.toUInt32 >>> ((3 : Int32) &&& 31).toUInt32).toInt32) &&& (63 : Int32)), Iv (((p4.toUInt32 >>> ((1 : Int32) &&& 31).toUInt32).toInt32) &&& (3 : Int32)), Lv hi, Zs, Iv up, Lv (((up.toInt64) <<< ((32 : Int32) &&& 0x3f).toInt64) ||| ((p3.toInt64) &&& (4294967295 : Int64))), Zs, Us, Us] [(.int (lcmpW hi (0 : Int64)))])) tt_ := by
          intro tt_ kt_
          refine XS.ifYes X0.here hEX rfl (pc0 := 105) (pc' := 119) rfl (hb hBY at_105) rfl ((if0 _ _).trans (feq (fun q => hc105 ((lw_eq _ _).mp q))).2) (by decide) (by decide) ?_
          show Steps p.tables e below (s₁.setTop (mkF m 119 #[Lv q1, Zs, Iv p2, Iv p3, Iv p4, Iv (((p4.toUInt32 >>> ((3 : Int32) &&& 31).toUInt32).toInt32) &&& (63 : Int32)), Iv (((p4.toUInt32 >>> ((1 : Int32) &&& 31).toUInt32).toInt32) &&& (3 : Int32)), Lv hi, Zs, Iv up, Lv (((up.toInt64) <<< ((32 : Int32) &&& 0x3f).toInt64) ||| ((p3.toInt64) &&& (4294967295 : Int64))), Zs, Us, Us] [])) tt_
          refine XS.iconst X0.here hEX rfl (hb hBY at_119) ?_
          exact kt_
        refine Done.pre sg_24 ?_
        exact jn_6 ((0 : Int32)) (by rw [own_exp]; first | rw [if_neg hc105] | rw [if_pos hc105, if_pos hc112] | rw [if_pos hc105, if_neg hc112])
    show Done _ _ _ _ _ _ _ (s₁.setTop (mkF m 31 #[Lv q1, Zs, Iv p2, Iv p3, Iv p4, Iv (((p4.toUInt32 >>> ((3 : Int32) &&& 31).toUInt32).toInt32) &&& (63 : Int32)), Iv (((p4.toUInt32 >>> ((1 : Int32) &&& 31).toUInt32).toInt32) &&& (3 : Int32)), Lv hh, Zs, Us, Us, Us, Us, Us] []))
    have sg_25 : ∀ tt_, Steps p.tables e below (s₁.setTop (mkF m 33 #[Lv q1, Zs, Iv p2, Iv p3, Iv p4, Iv (((p4.toUInt32 >>> ((3 : Int32) &&& 31).toUInt32).toInt32) &&& (63 : Int32)), Iv (((p4.toUInt32 >>> ((1 : Int32) &&& 31).toUInt32).toInt32) &&& (3 : Int32)), Lv hh, Zs, Us, Us, Us, Us, Us] [(.int (((p4.toUInt32 >>> ((1 : Int32) &&& 31).toUInt32).toInt32) &&& (3 : Int32)))])) tt_ → Steps p.tables e below (s₁.setTop (mkF m 31 #[Lv q1, Zs, Iv p2, Iv p3, Iv p4, Iv (((p4.toUInt32 >>> ((3 : Int32) &&& 31).toUInt32).toInt32) &&& (63 : Int32)), Iv (((p4.toUInt32 >>> ((1 : Int32) &&& 31).toUInt32).toInt32) &&& (3 : Int32)), Lv hh, Zs, Us, Us, Us, Us, Us] [])) tt_ := by
      intro tt_ kt_
      refine XS.iload X0.here hEX rfl (hb hBY at_31) rfl ?_
      exact kt_
    refine Done.pre sg_25 ?_
    by_cases hc33 : (((p4.toUInt32 >>> ((1 : Int32) &&& 31).toUInt32).toInt32) &&& (3 : Int32)) = (0 : Int32)
    · skip
      have sg_26 : ∀ tt_, Steps p.tables e below (s₁.setTop (mkF m 86 #[Lv q1, Zs, Iv p2, Iv p3, Iv p4, Iv (((p4.toUInt32 >>> ((3 : Int32) &&& 31).toUInt32).toInt32) &&& (63 : Int32)), Iv (((p4.toUInt32 >>> ((1 : Int32) &&& 31).toUInt32).toInt32) &&& (3 : Int32)), Lv hh, Zs, Iv (65535 : Int32), Us, Us, Us, Us] [])) tt_ → Steps p.tables e below (s₁.setTop (mkF m 33 #[Lv q1, Zs, Iv p2, Iv p3, Iv p4, Iv (((p4.toUInt32 >>> ((3 : Int32) &&& 31).toUInt32).toInt32) &&& (63 : Int32)), Iv (((p4.toUInt32 >>> ((1 : Int32) &&& 31).toUInt32).toInt32) &&& (3 : Int32)), Lv hh, Zs, Us, Us, Us, Us, Us] [(.int (((p4.toUInt32 >>> ((1 : Int32) &&& 31).toUInt32).toInt32) &&& (3 : Int32)))])) tt_ := by
        intro tt_ kt_
        refine XS.ifNo X0.here hEX rfl (hb hBY at_33) rfl ((if0 _ _).trans (teq hc33).2) ?_
        show Steps p.tables e below (s₁.setTop (mkF m 36 #[Lv q1, Zs, Iv p2, Iv p3, Iv p4, Iv (((p4.toUInt32 >>> ((3 : Int32) &&& 31).toUInt32).toInt32) &&& (63 : Int32)), Iv (((p4.toUInt32 >>> ((1 : Int32) &&& 31).toUInt32).toInt32) &&& (3 : Int32)), Lv hh, Zs, Us, Us, Us, Us, Us] [])) tt_
        refine X0.ldcInt hEX hOW (mvT hZW (hw _ (List.mem_of_getElem? (i := 0) rfl))) (g := (mkF m 36 #[Lv q1, Zs, Iv p2, Iv p3, Iv p4, Iv (((p4.toUInt32 >>> ((3 : Int32) &&& 31).toUInt32).toInt32) &&& (63 : Int32)), Iv (((p4.toUInt32 >>> ((1 : Int32) &&& 31).toUInt32).toInt32) &&& (3 : Int32)), Lv hh, Zs, Us, Us, Us, Us, Us] [])) rfl (hb hBY at_36) _ ?_
        show Steps p.tables e below (s₁.setTop (mkF m 38 #[Lv q1, Zs, Iv p2, Iv p3, Iv p4, Iv (((p4.toUInt32 >>> ((3 : Int32) &&& 31).toUInt32).toInt32) &&& (63 : Int32)), Iv (((p4.toUInt32 >>> ((1 : Int32) &&& 31).toUInt32).toInt32) &&& (3 : Int32)), Lv hh, Zs, Us, Us, Us, Us, Us] [(.int (65535 : Int32))])) tt_
        refine XS.istore X0.here hEX rfl (hb hBY at_38) rfl (l' := #[Lv q1, Zs, Iv p2, Iv p3, Iv p4, Iv (((p4.toUInt32 >>> ((3 : Int32) &&& 31).toUInt32).toInt32) &&& (63 : Int32)), Iv (((p4.toUInt32 >>> ((1 : Int32) &&& 31).toUInt32).toInt32) &&& (3 : Int32)), Lv hh, Zs, Iv (65535 : Int32), Us, Us, Us, Us]) rfl ?_
        show Steps p.tables e below (s₁.setTop (mkF m 40 #[Lv q1, Zs, Iv p2, Iv p3, Iv p4, Iv (((p4.toUInt32 >>> ((3 : Int32) &&& 31).toUInt32).toInt32) &&& (63 : Int32)), Iv (((p4.toUInt32 >>> ((1 : Int32) &&& 31).toUInt32).toInt32) &&& (3 : Int32)), Lv hh, Zs, Iv (65535 : Int32), Us, Us, Us, Us] [])) tt_
        refine XS.goto X0.here hEX rfl (pc0 := 40) (pc' := 86) rfl (hb hBY at_40) (by decide) (by decide) ?_
        exact kt_
      refine Done.pre sg_26 ?_
      exact jn_4 (hh) ((65535 : Int32))
    · skip
      have sg_27 : ∀ tt_, Steps p.tables e below (s₁.setTop (mkF m 46 #[Lv q1, Zs, Iv p2, Iv p3, Iv p4, Iv (((p4.toUInt32 >>> ((3 : Int32) &&& 31).toUInt32).toInt32) &&& (63 : Int32)), Iv (((p4.toUInt32 >>> ((1 : Int32) &&& 31).toUInt32).toInt32) &&& (3 : Int32)), Lv hh, Zs, Us, Us, Us, Us, Us] [(.int (1 : Int32)), (.int (((p4.toUInt32 >>> ((1 : Int32) &&& 31).toUInt32).toInt32) &&& (3 : Int32)))])) tt_ → Steps p.tables e below (s₁.setTop (mkF m 33 #[Lv q1, Zs, Iv p2, Iv p3, Iv p4, Iv (((p4.toUInt32 >>> ((3 : Int32) &&& 31).toUInt32).toInt32) &&& (63 : Int32)), Iv (((p4.toUInt32 >>> ((1 : Int32) &&& 31).toUInt32).toInt32) &&& (3 : Int32)), Lv hh, Zs, Us, Us, Us, Us, Us] [(.int (((p4.toUInt32 >>> ((1 : Int32) &&& 31).toUInt32).toInt32) &&& (3 : Int32)))])) tt_ := by
        intro tt_ kt_
        refine XS.ifYes X0.here hEX rfl (pc0 := 33) (pc' := 43) rfl (hb hBY at_33) rfl ((if0 _ _).trans (feq hc33).2) (by decide) (by decide) ?_
        show Steps p.tables e below (s₁.setTop (mkF m 43 #[Lv q1, Zs, Iv p2, Iv p3, Iv p4, Iv (((p4.toUInt32 >>> ((3 : Int32) &&& 31).toUInt32).toInt32) &&& (63 : Int32)), Iv (((p4.toUInt32 >>> ((1 : Int32) &&& 31).toUInt32).toInt32) &&& (3 : Int32)), Lv hh, Zs, Us, Us, Us, Us, Us] [])) tt_
        refine XS.iload X0.here hEX rfl (hb hBY at_43) rfl ?_
        show Steps p.tables e below (s₁.setTop (mkF m 45 #[Lv q1, Zs, Iv p2, Iv p3, Iv p4, Iv (((p4.toUInt32 >>> ((3 : Int32) &&& 31).toUInt32).toInt32) &&& (63 : Int32)), Iv (((p4.toUInt32 >>> ((1 : Int32) &&& 31).toUInt32).toInt32) &&& (3 : Int32)), Lv hh, Zs, Us, Us, Us, Us, Us] [(.int (((p4.toUInt32 >>> ((1 : Int32) &&& 31).toUInt32).toInt32) &&& (3 : Int32)))])) tt_
        refine XS.iconst X0.here hEX rfl (hb hBY at_45) ?_
        exact kt_
      refine Done.pre sg_27 ?_
      by_cases hc46 : (((p4.toUInt32 >>> ((1 : Int32) &&& 31).toUInt32).toInt32) &&& (3 : Int32)) = (1 : Int32)
      · skip
        have sg_28 : ∀ tt_, Steps p.tables e below (s₁.setTop (mkF m 86 #[Lv q1, Zs, Iv p2, Iv p3, Iv p4, Iv (((p4.toUInt32 >>> ((3 : Int32) &&& 31).toUInt32).toInt32) &&& (63 : Int32)), Iv (((p4.toUInt32 >>> ((1 : Int32) &&& 31).toUInt32).toInt32) &&& (3 : Int32)), Lv hh, Zs, Iv ((65535 : Int32) ^^^ ((1 : Int32) <<< (((((p4.toUInt32 >>> ((3 : Int32) &&& 31).toUInt32).toInt32) &&& (63 : Int32)) &&& (31 : Int32)) &&& 31))), Us, Us, Us, Us] [])) tt_ → Steps p.tables e below (s₁.setTop (mkF m 46 #[Lv q1, Zs, Iv p2, Iv p3, Iv p4, Iv (((p4.toUInt32 >>> ((3 : Int32) &&& 31).toUInt32).toInt32) &&& (63 : Int32)), Iv (((p4.toUInt32 >>> ((1 : Int32) &&& 31).toUInt32).toInt32) &&& (3 : Int32)), Lv hh, Zs, Us, Us, Us, Us, Us] [(.int (1 : Int32)), (.int (((p4.toUInt32 >>> ((1 : Int32) &&& 31).toUInt32).toInt32) &&& (3 : Int32)))])) tt_ := by
          intro tt_ kt_
          refine XS.icmpNo X0.here hEX rfl (hb hBY at_46) rfl (teq hc46).2 ?_
          show Steps p.tables e below (s₁.setTop (mkF m 49 #[Lv q1, Zs, Iv p2, Iv p3, Iv p4, Iv (((p4.toUInt32 >>> ((3 : Int32) &&& 31).toUInt32).toInt32) &&& (63 : Int32)), Iv (((p4.toUInt32 >>> ((1 : Int32) &&& 31).toUInt32).toInt32) &&& (3 : Int32)), Lv hh, Zs, Us, Us, Us, Us, Us] [])) tt_
          refine X0.ldcInt hEX hOW (mvT hZW (hw _ (List.mem_of_getElem? (i := 0) rfl))) (g := (mkF m 49 #[Lv q1, Zs, Iv p2, Iv p3, Iv p4, Iv (((p4.toUInt32 >>> ((3 : Int32) &&& 31).toUInt32).toInt32) &&& (63 : Int32)), Iv (((p4.toUInt32 >>> ((1 : Int32) &&& 31).toUInt32).toInt32) &&& (3 : Int32)), Lv hh, Zs, Us, Us, Us, Us, Us] [])) rfl (hb hBY at_49) _ ?_
          show Steps p.tables e below (s₁.setTop (mkF m 51 #[Lv q1, Zs, Iv p2, Iv p3, Iv p4, Iv (((p4.toUInt32 >>> ((3 : Int32) &&& 31).toUInt32).toInt32) &&& (63 : Int32)), Iv (((p4.toUInt32 >>> ((1 : Int32) &&& 31).toUInt32).toInt32) &&& (3 : Int32)), Lv hh, Zs, Us, Us, Us, Us, Us] [(.int (65535 : Int32))])) tt_
          refine XS.iconst X0.here hEX rfl (hb hBY at_51) ?_
          show Steps p.tables e below (s₁.setTop (mkF m 52 #[Lv q1, Zs, Iv p2, Iv p3, Iv p4, Iv (((p4.toUInt32 >>> ((3 : Int32) &&& 31).toUInt32).toInt32) &&& (63 : Int32)), Iv (((p4.toUInt32 >>> ((1 : Int32) &&& 31).toUInt32).toInt32) &&& (3 : Int32)), Lv hh, Zs, Us, Us, Us, Us, Us] [(.int (1 : Int32)), (.int (65535 : Int32))])) tt_
          refine XS.iload X0.here hEX rfl (hb hBY at_52) rfl ?_
          show Steps p.tables e below (s₁.setTop (mkF m 54 #[Lv q1, Zs, Iv p2, Iv p3, Iv p4, Iv (((p4.toUInt32 >>> ((3 : Int32) &&& 31).toUInt32).toInt32) &&& (63 : Int32)), Iv (((p4.toUInt32 >>> ((1 : Int32) &&& 31).toUInt32).toInt32) &&& (3 : Int32)), Lv hh, Zs, Us, Us, Us, Us, Us] [(.int (((p4.toUInt32 >>> ((3 : Int32) &&& 31).toUInt32).toInt32) &&& (63 : Int32))), (.int (1 : Int32)), (.int (65535 : Int32))])) tt_
          refine XS.bipush X0.here hEX rfl (hb hBY at_54) ?_
          show Steps p.tables e below (s₁.setTop (mkF m 56 #[Lv q1, Zs, Iv p2, Iv p3, Iv p4, Iv (((p4.toUInt32 >>> ((3 : Int32) &&& 31).toUInt32).toInt32) &&& (63 : Int32)), Iv (((p4.toUInt32 >>> ((1 : Int32) &&& 31).toUInt32).toInt32) &&& (3 : Int32)), Lv hh, Zs, Us, Us, Us, Us, Us] [(.int (31 : Int32)), (.int (((p4.toUInt32 >>> ((3 : Int32) &&& 31).toUInt32).toInt32) &&& (63 : Int32))), (.int (1 : Int32)), (.int (65535 : Int32))])) tt_
          refine XS.iand X0.here hEX rfl (hb hBY at_56) rfl ?_
          show Steps p.tables e below (s₁.setTop (mkF m 57 #[Lv q1, Zs, Iv p2, Iv p3, Iv p4, Iv (((p4.toUInt32 >>> ((3 : Int32) &&& 31).toUInt32).toInt32) &&& (63 : Int32)), Iv (((p4.toUInt32 >>> ((1 : Int32) &&& 31).toUInt32).toInt32) &&& (3 : Int32)), Lv hh, Zs, Us, Us, Us, Us, Us] [(.int ((((p4.toUInt32 >>> ((3 : Int32) &&& 31).toUInt32).toInt32) &&& (63 : Int32)) &&& (31 : Int32))), (.int (1 : Int32)), (.int (65535 : Int32))])) tt_
          refine XS.ishl X0.here hEX rfl (hb hBY at_57) rfl ?_
          show Steps p.tables e below (s₁.setTop (mkF m 58 #[Lv q1, Zs, Iv p2, Iv p3, Iv p4, Iv (((p4.toUInt32 >>> ((3 : Int32) &&& 31).toUInt32).toInt32) &&& (63 : Int32)), Iv (((p4.toUInt32 >>> ((1 : Int32) &&& 31).toUInt32).toInt32) &&& (3 : Int32)), Lv hh, Zs, Us, Us, Us, Us, Us] [(.int ((1 : Int32) <<< (((((p4.toUInt32 >>> ((3 : Int32) &&& 31).toUInt32).toInt32) &&& (63 : Int32)) &&& (31 : Int32)) &&& 31))), (.int (65535 : Int32))])) tt_
          refine XS.ixor X0.here hEX rfl (hb hBY at_58) rfl ?_
          show Steps p.tables e below (s₁.setTop (mkF m 59 #[Lv q1, Zs, Iv p2, Iv p3, Iv p4, Iv (((p4.toUInt32 >>> ((3 : Int32) &&& 31).toUInt32).toInt32) &&& (63 : Int32)), Iv (((p4.toUInt32 >>> ((1 : Int32) &&& 31).toUInt32).toInt32) &&& (3 : Int32)), Lv hh, Zs, Us, Us, Us, Us, Us] [(.int ((65535 : Int32) ^^^ ((1 : Int32) <<< (((((p4.toUInt32 >>> ((3 : Int32) &&& 31).toUInt32).toInt32) &&& (63 : Int32)) &&& (31 : Int32)) &&& 31))))])) tt_
          refine XS.istore X0.here hEX rfl (hb hBY at_59) rfl (l' := #[Lv q1, Zs, Iv p2, Iv p3, Iv p4, Iv (((p4.toUInt32 >>> ((3 : Int32) &&& 31).toUInt32).toInt32) &&& (63 : Int32)), Iv (((p4.toUInt32 >>> ((1 : Int32) &&& 31).toUInt32).toInt32) &&& (3 : Int32)), Lv hh, Zs, Iv ((65535 : Int32) ^^^ ((1 : Int32) <<< (((((p4.toUInt32 >>> ((3 : Int32) &&& 31).toUInt32).toInt32) &&& (63 : Int32)) &&& (31 : Int32)) &&& 31))), Us, Us, Us, Us]) rfl ?_
          show Steps p.tables e below (s₁.setTop (mkF m 61 #[Lv q1, Zs, Iv p2, Iv p3, Iv p4, Iv (((p4.toUInt32 >>> ((3 : Int32) &&& 31).toUInt32).toInt32) &&& (63 : Int32)), Iv (((p4.toUInt32 >>> ((1 : Int32) &&& 31).toUInt32).toInt32) &&& (3 : Int32)), Lv hh, Zs, Iv ((65535 : Int32) ^^^ ((1 : Int32) <<< (((((p4.toUInt32 >>> ((3 : Int32) &&& 31).toUInt32).toInt32) &&& (63 : Int32)) &&& (31 : Int32)) &&& 31))), Us, Us, Us, Us] [])) tt_
          refine XS.goto X0.here hEX rfl (pc0 := 61) (pc' := 86) rfl (hb hBY at_61) (by decide) (by decide) ?_
          exact kt_
        refine Done.pre sg_28 ?_
        exact jn_4 (hh) (((65535 : Int32) ^^^ ((1 : Int32) <<< (((((p4.toUInt32 >>> ((3 : Int32) &&& 31).toUInt32).toInt32) &&& (63 : Int32)) &&& (31 : Int32)) &&& 31))))
      · skip
        have sg_29 : ∀ tt_, Steps p.tables e below (s₁.setTop (mkF m 67 #[Lv q1, Zs, Iv p2, Iv p3, Iv p4, Iv (((p4.toUInt32 >>> ((3 : Int32) &&& 31).toUInt32).toInt32) &&& (63 : Int32)), Iv (((p4.toUInt32 >>> ((1 : Int32) &&& 31).toUInt32).toInt32) &&& (3 : Int32)), Lv hh, Zs, Us, Us, Us, Us, Us] [(.int (2 : Int32)), (.int (((p4.toUInt32 >>> ((1 : Int32) &&& 31).toUInt32).toInt32) &&& (3 : Int32)))])) tt_ → Steps p.tables e below (s₁.setTop (mkF m 46 #[Lv q1, Zs, Iv p2, Iv p3, Iv p4, Iv (((p4.toUInt32 >>> ((3 : Int32) &&& 31).toUInt32).toInt32) &&& (63 : Int32)), Iv (((p4.toUInt32 >>> ((1 : Int32) &&& 31).toUInt32).toInt32) &&& (3 : Int32)), Lv hh, Zs, Us, Us, Us, Us, Us] [(.int (1 : Int32)), (.int (((p4.toUInt32 >>> ((1 : Int32) &&& 31).toUInt32).toInt32) &&& (3 : Int32)))])) tt_ := by
          intro tt_ kt_
          refine XS.icmpYes X0.here hEX rfl (pc0 := 46) (pc' := 64) rfl (hb hBY at_46) rfl (feq hc46).2 (by decide) (by decide) ?_
          show Steps p.tables e below (s₁.setTop (mkF m 64 #[Lv q1, Zs, Iv p2, Iv p3, Iv p4, Iv (((p4.toUInt32 >>> ((3 : Int32) &&& 31).toUInt32).toInt32) &&& (63 : Int32)), Iv (((p4.toUInt32 >>> ((1 : Int32) &&& 31).toUInt32).toInt32) &&& (3 : Int32)), Lv hh, Zs, Us, Us, Us, Us, Us] [])) tt_
          refine XS.iload X0.here hEX rfl (hb hBY at_64) rfl ?_
          show Steps p.tables e below (s₁.setTop (mkF m 66 #[Lv q1, Zs, Iv p2, Iv p3, Iv p4, Iv (((p4.toUInt32 >>> ((3 : Int32) &&& 31).toUInt32).toInt32) &&& (63 : Int32)), Iv (((p4.toUInt32 >>> ((1 : Int32) &&& 31).toUInt32).toInt32) &&& (3 : Int32)), Lv hh, Zs, Us, Us, Us, Us, Us] [(.int (((p4.toUInt32 >>> ((1 : Int32) &&& 31).toUInt32).toInt32) &&& (3 : Int32)))])) tt_
          refine XS.iconst X0.here hEX rfl (hb hBY at_66) ?_
          exact kt_
        refine Done.pre sg_29 ?_
        by_cases hc67 : (((p4.toUInt32 >>> ((1 : Int32) &&& 31).toUInt32).toInt32) &&& (3 : Int32)) = (2 : Int32)
        · skip
          have sg_30 : ∀ tt_, Steps p.tables e below (s₁.setTop (mkF m 86 #[Lv q1, Zs, Iv p2, Iv p3, Iv p4, Iv (((p4.toUInt32 >>> ((3 : Int32) &&& 31).toUInt32).toInt32) &&& (63 : Int32)), Iv (((p4.toUInt32 >>> ((1 : Int32) &&& 31).toUInt32).toInt32) &&& (3 : Int32)), Lv hh, Zs, Iv p2, Us, Us, Us, Us] [])) tt_ → Steps p.tables e below (s₁.setTop (mkF m 67 #[Lv q1, Zs, Iv p2, Iv p3, Iv p4, Iv (((p4.toUInt32 >>> ((3 : Int32) &&& 31).toUInt32).toInt32) &&& (63 : Int32)), Iv (((p4.toUInt32 >>> ((1 : Int32) &&& 31).toUInt32).toInt32) &&& (3 : Int32)), Lv hh, Zs, Us, Us, Us, Us, Us] [(.int (2 : Int32)), (.int (((p4.toUInt32 >>> ((1 : Int32) &&& 31).toUInt32).toInt32) &&& (3 : Int32)))])) tt_ := by
            intro tt_ kt_
            refine XS.icmpNo X0.here hEX rfl (hb hBY at_67) rfl (teq hc67).2 ?_
            show Steps p.tables e below (s₁.setTop (mkF m 70 #[Lv q1, Zs, Iv p2, Iv p3, Iv p4, Iv (((p4.toUInt32 >>> ((3 : Int32) &&& 31).toUInt32).toInt32) &&& (63 : Int32)), Iv (((p4.toUInt32 >>> ((1 : Int32) &&& 31).toUInt32).toInt32) &&& (3 : Int32)), Lv hh, Zs, Us, Us, Us, Us, Us] [])) tt_
            refine XS.iloadN X0.here hEX rfl (hb hBY at_70) rfl ?_
            show Steps p.tables e below (s₁.setTop (mkF m 71 #[Lv q1, Zs, Iv p2, Iv p3, Iv p4, Iv (((p4.toUInt32 >>> ((3 : Int32) &&& 31).toUInt32).toInt32) &&& (63 : Int32)), Iv (((p4.toUInt32 >>> ((1 : Int32) &&& 31).toUInt32).toInt32) &&& (3 : Int32)), Lv hh, Zs, Us, Us, Us, Us, Us] [(.int p2)])) tt_
            refine XS.istore X0.here hEX rfl (hb hBY at_71) rfl (l' := #[Lv q1, Zs, Iv p2, Iv p3, Iv p4, Iv (((p4.toUInt32 >>> ((3 : Int32) &&& 31).toUInt32).toInt32) &&& (63 : Int32)), Iv (((p4.toUInt32 >>> ((1 : Int32) &&& 31).toUInt32).toInt32) &&& (3 : Int32)), Lv hh, Zs, Iv p2, Us, Us, Us, Us]) rfl ?_
            show Steps p.tables e below (s₁.setTop (mkF m 73 #[Lv q1, Zs, Iv p2, Iv p3, Iv p4, Iv (((p4.toUInt32 >>> ((3 : Int32) &&& 31).toUInt32).toInt32) &&& (63 : Int32)), Iv (((p4.toUInt32 >>> ((1 : Int32) &&& 31).toUInt32).toInt32) &&& (3 : Int32)), Lv hh, Zs, Iv p2, Us, Us, Us, Us] [])) tt_
            refine XS.goto X0.here hEX rfl (pc0 := 73) (pc' := 86) rfl (hb hBY at_73) (by decide) (by decide) ?_
            exact kt_
          refine Done.pre sg_30 ?_
          exact jn_4 (hh) (p2)
        · skip
          have sg_31 : ∀ tt_, Steps p.tables e below (s₁.setTop (mkF m 86 #[Lv q1, Zs, Iv p2, Iv p3, Iv p4, Iv (((p4.toUInt32 >>> ((3 : Int32) &&& 31).toUInt32).toInt32) &&& (63 : Int32)), Iv (((p4.toUInt32 >>> ((1 : Int32) &&& 31).toUInt32).toInt32) &&& (3 : Int32)), Lv ((1 : Int64) <<< ((((p4.toUInt32 >>> ((3 : Int32) &&& 31).toUInt32).toInt32) &&& (63 : Int32)) &&& 0x3f).toInt64), Zs, Iv (65535 : Int32), Us, Us, Us, Us] [])) tt_ → Steps p.tables e below (s₁.setTop (mkF m 67 #[Lv q1, Zs, Iv p2, Iv p3, Iv p4, Iv (((p4.toUInt32 >>> ((3 : Int32) &&& 31).toUInt32).toInt32) &&& (63 : Int32)), Iv (((p4.toUInt32 >>> ((1 : Int32) &&& 31).toUInt32).toInt32) &&& (3 : Int32)), Lv hh, Zs, Us, Us, Us, Us, Us] [(.int (2 : Int32)), (.int (((p4.toUInt32 >>> ((1 : Int32) &&& 31).toUInt32).toInt32) &&& (3 : Int32)))])) tt_ := by
            intro tt_ kt_
            refine XS.icmpYes X0.here hEX rfl (pc0 := 67) (pc' := 76) rfl (hb hBY at_67) rfl (feq hc67).2 (by decide) (by decide) ?_
            show Steps p.tables e below (s₁.setTop (mkF m 76 #[Lv q1, Zs, Iv p2, Iv p3, Iv p4, Iv (((p4.toUInt32 >>> ((3 : Int32) &&& 31).toUInt32).toInt32) &&& (63 : Int32)), Iv (((p4.toUInt32 >>> ((1 : Int32) &&& 31).toUInt32).toInt32) &&& (3 : Int32)), Lv hh, Zs, Us, Us, Us, Us, Us] [])) tt_
            refine X0.ldcInt hEX hOW (mvT hZW (hw _ (List.mem_of_getElem? (i := 0) rfl))) (g := (mkF m 76 #[Lv q1, Zs, Iv p2, Iv p3, Iv p4, Iv (((p4.toUInt32 >>> ((3 : Int32) &&& 31).toUInt32).toInt32) &&& (63 : Int32)), Iv (((p4.toUInt32 >>> ((1 : Int32) &&& 31).toUInt32).toInt32) &&& (3 : Int32)), Lv hh, Zs, Us, Us, Us, Us, Us] [])) rfl (hb hBY at_76) _ ?_
            show Steps p.tables e below (s₁.setTop (mkF m 78 #[Lv q1, Zs, Iv p2, Iv p3, Iv p4, Iv (((p4.toUInt32 >>> ((3 : Int32) &&& 31).toUInt32).toInt32) &&& (63 : Int32)), Iv (((p4.toUInt32 >>> ((1 : Int32) &&& 31).toUInt32).toInt32) &&& (3 : Int32)), Lv hh, Zs, Us, Us, Us, Us, Us] [(.int (65535 : Int32))])) tt_
            refine XS.istore X0.here hEX rfl (hb hBY at_78) rfl (l' := #[Lv q1, Zs, Iv p2, Iv p3, Iv p4, Iv (((p4.toUInt32 >>> ((3 : Int32) &&& 31).toUInt32).toInt32) &&& (63 : Int32)), Iv (((p4.toUInt32 >>> ((1 : Int32) &&& 31).toUInt32).toInt32) &&& (3 : Int32)), Lv hh, Zs, Iv (65535 : Int32), Us, Us, Us, Us]) rfl ?_
            show Steps p.tables e below (s₁.setTop (mkF m 80 #[Lv q1, Zs, Iv p2, Iv p3, Iv p4, Iv (((p4.toUInt32 >>> ((3 : Int32) &&& 31).toUInt32).toInt32) &&& (63 : Int32)), Iv (((p4.toUInt32 >>> ((1 : Int32) &&& 31).toUInt32).toInt32) &&& (3 : Int32)), Lv hh, Zs, Iv (65535 : Int32), Us, Us, Us, Us] [])) tt_
            refine XS.lconst X0.here hEX rfl (hb hBY at_80) ?_
            show Steps p.tables e below (s₁.setTop (mkF m 81 #[Lv q1, Zs, Iv p2, Iv p3, Iv p4, Iv (((p4.toUInt32 >>> ((3 : Int32) &&& 31).toUInt32).toInt32) &&& (63 : Int32)), Iv (((p4.toUInt32 >>> ((1 : Int32) &&& 31).toUInt32).toInt32) &&& (3 : Int32)), Lv hh, Zs, Iv (65535 : Int32), Us, Us, Us, Us] [(.long (1 : Int64))])) tt_
            refine XS.iload X0.here hEX rfl (hb hBY at_81) rfl ?_
            show Steps p.tables e below (s₁.setTop (mkF m 83 #[Lv q1, Zs, Iv p2, Iv p3, Iv p4, Iv (((p4.toUInt32 >>> ((3 : Int32) &&& 31).toUInt32).toInt32) &&& (63 : Int32)), Iv (((p4.toUInt32 >>> ((1 : Int32) &&& 31).toUInt32).toInt32) &&& (3 : Int32)), Lv hh, Zs, Iv (65535 : Int32), Us, Us, Us, Us] [(.int (((p4.toUInt32 >>> ((3 : Int32) &&& 31).toUInt32).toInt32) &&& (63 : Int32))), (.long (1 : Int64))])) tt_
            refine XS.lshl X0.here hEX rfl (hb hBY at_83) rfl ?_
            show Steps p.tables e below (s₁.setTop (mkF m 84 #[Lv q1, Zs, Iv p2, Iv p3, Iv p4, Iv (((p4.toUInt32 >>> ((3 : Int32) &&& 31).toUInt32).toInt32) &&& (63 : Int32)), Iv (((p4.toUInt32 >>> ((1 : Int32) &&& 31).toUInt32).toInt32) &&& (3 : Int32)), Lv hh, Zs, Iv (65535 : Int32), Us, Us, Us, Us] [(.long ((1 : Int64) <<< ((((p4.toUInt32 >>> ((3 : Int32) &&& 31).toUInt32).toInt32) &&& (63 : Int32)) &&& 0x3f).toInt64))])) tt_
            refine XS.lstore X0.here hEX rfl (hb hBY at_84) rfl (l' := #[Lv q1, Zs, Iv p2, Iv p3, Iv p4, Iv (((p4.toUInt32 >>> ((3 : Int32) &&& 31).toUInt32).toInt32) &&& (63 : Int32)), Iv (((p4.toUInt32 >>> ((1 : Int32) &&& 31).toUInt32).toInt32) &&& (3 : Int32)), Lv ((1 : Int64) <<< ((((p4.toUInt32 >>> ((3 : Int32) &&& 31).toUInt32).toInt32) &&& (63 : Int32)) &&& 0x3f).toInt64), Zs, Iv (65535 : Int32), Us, Us, Us, Us]) rfl ?_
            exact kt_
          refine Done.pre sg_31 ?_
          exact jn_4 (((1 : Int64) <<< ((((p4.toUInt32 >>> ((3 : Int32) &&& 31).toUInt32).toInt32) &&& (63 : Int32)) &&& 0x3f).toInt64)) ((65535 : Int32))
  show Done _ _ _ _ _ _ _ (s₁.setTop (mkF m 17 #[Lv q1, Zs, Iv p2, Iv p3, Iv p4, Iv (((p4.toUInt32 >>> ((3 : Int32) &&& 31).toUInt32).toInt32) &&& (63 : Int32)), Iv (((p4.toUInt32 >>> ((1 : Int32) &&& 31).toUInt32).toInt32) &&& (3 : Int32)), Us, Us, Us, Us, Us, Us, Us] []))
  have sg_32 : ∀ tt_, Steps p.tables e below (s₁.setTop (mkF m 21 #[Lv q1, Zs, Iv p2, Iv p3, Iv p4, Iv (((p4.toUInt32 >>> ((3 : Int32) &&& 31).toUInt32).toInt32) &&& (63 : Int32)), Iv (((p4.toUInt32 >>> ((1 : Int32) &&& 31).toUInt32).toInt32) &&& (3 : Int32)), Us, Us, Us, Us, Us, Us, Us] [(.int (p4 &&& (1 : Int32)))])) tt_ → Steps p.tables e below (s₁.setTop (mkF m 17 #[Lv q1, Zs, Iv p2, Iv p3, Iv p4, Iv (((p4.toUInt32 >>> ((3 : Int32) &&& 31).toUInt32).toInt32) &&& (63 : Int32)), Iv (((p4.toUInt32 >>> ((1 : Int32) &&& 31).toUInt32).toInt32) &&& (3 : Int32)), Us, Us, Us, Us, Us, Us, Us] [])) tt_ := by
    intro tt_ kt_
    refine XS.iload X0.here hEX rfl (hb hBY at_17) rfl ?_
    show Steps p.tables e below (s₁.setTop (mkF m 19 #[Lv q1, Zs, Iv p2, Iv p3, Iv p4, Iv (((p4.toUInt32 >>> ((3 : Int32) &&& 31).toUInt32).toInt32) &&& (63 : Int32)), Iv (((p4.toUInt32 >>> ((1 : Int32) &&& 31).toUInt32).toInt32) &&& (3 : Int32)), Us, Us, Us, Us, Us, Us, Us] [(.int p4)])) tt_
    refine XS.iconst X0.here hEX rfl (hb hBY at_19) ?_
    show Steps p.tables e below (s₁.setTop (mkF m 20 #[Lv q1, Zs, Iv p2, Iv p3, Iv p4, Iv (((p4.toUInt32 >>> ((3 : Int32) &&& 31).toUInt32).toInt32) &&& (63 : Int32)), Iv (((p4.toUInt32 >>> ((1 : Int32) &&& 31).toUInt32).toInt32) &&& (3 : Int32)), Us, Us, Us, Us, Us, Us, Us] [(.int (1 : Int32)), (.int p4)])) tt_
    refine XS.iand X0.here hEX rfl (hb hBY at_20) rfl ?_
    exact kt_
  refine Done.pre sg_32 ?_
  by_cases hc21 : (p4 &&& (1 : Int32)) = (0 : Int32)
  · skip
    have sg_33 : ∀ tt_, Steps p.tables e below (s₁.setTop (mkF m 29 #[Lv q1, Zs, Iv p2, Iv p3, Iv p4, Iv (((p4.toUInt32 >>> ((3 : Int32) &&& 31).toUInt32).toInt32) &&& (63 : Int32)), Iv (((p4.toUInt32 >>> ((1 : Int32) &&& 31).toUInt32).toInt32) &&& (3 : Int32)), Us, Us, Us, Us, Us, Us, Us] [(.long q1)])) tt_ → Steps p.tables e below (s₁.setTop (mkF m 21 #[Lv q1, Zs, Iv p2, Iv p3, Iv p4, Iv (((p4.toUInt32 >>> ((3 : Int32) &&& 31).toUInt32).toInt32) &&& (63 : Int32)), Iv (((p4.toUInt32 >>> ((1 : Int32) &&& 31).toUInt32).toInt32) &&& (3 : Int32)), Us, Us, Us, Us, Us, Us, Us] [(.int (p4 &&& (1 : Int32)))])) tt_ := by
      intro tt_ kt_
      refine XS.ifYes X0.here hEX rfl (pc0 := 21) (pc' := 28) rfl (hb hBY at_21) rfl ((if0 _ _).trans (teq hc21).1) (by decide) (by decide) ?_
      show Steps p.tables e below (s₁.setTop (mkF m 28 #[Lv q1, Zs, Iv p2, Iv p3, Iv p4, Iv (((p4.toUInt32 >>> ((3 : Int32) &&& 31).toUInt32).toInt32) &&& (63 : Int32)), Iv (((p4.toUInt32 >>> ((1 : Int32) &&& 31).toUInt32).toInt32) &&& (3 : Int32)), Us, Us, Us, Us, Us, Us, Us] [])) tt_
      refine XS.lloadN X0.here hEX rfl (hb hBY at_28) rfl ?_
      exact kt_
    refine Done.pre sg_33 ?_
    exact jn_2 (q1)
  · skip
    have sg_34 : ∀ tt_, Steps p.tables e below (s₁.setTop (mkF m 29 #[Lv q1, Zs, Iv p2, Iv p3, Iv p4, Iv (((p4.toUInt32 >>> ((3 : Int32) &&& 31).toUInt32).toInt32) &&& (63 : Int32)), Iv (((p4.toUInt32 >>> ((1 : Int32) &&& 31).toUInt32).toInt32) &&& (3 : Int32)), Us, Us, Us, Us, Us, Us, Us] [(.long (0 : Int64))])) tt_ → Steps p.tables e below (s₁.setTop (mkF m 21 #[Lv q1, Zs, Iv p2, Iv p3, Iv p4, Iv (((p4.toUInt32 >>> ((3 : Int32) &&& 31).toUInt32).toInt32) &&& (63 : Int32)), Iv (((p4.toUInt32 >>> ((1 : Int32) &&& 31).toUInt32).toInt32) &&& (3 : Int32)), Us, Us, Us, Us, Us, Us, Us] [(.int (p4 &&& (1 : Int32)))])) tt_ := by
      intro tt_ kt_
      refine XS.ifNo X0.here hEX rfl (hb hBY at_21) rfl ((if0 _ _).trans (feq hc21).1) ?_
      show Steps p.tables e below (s₁.setTop (mkF m 24 #[Lv q1, Zs, Iv p2, Iv p3, Iv p4, Iv (((p4.toUInt32 >>> ((3 : Int32) &&& 31).toUInt32).toInt32) &&& (63 : Int32)), Iv (((p4.toUInt32 >>> ((1 : Int32) &&& 31).toUInt32).toInt32) &&& (3 : Int32)), Us, Us, Us, Us, Us, Us, Us] [])) tt_
      refine XS.lconst X0.here hEX rfl (hb hBY at_24) ?_
      show Steps p.tables e below (s₁.setTop (mkF m 25 #[Lv q1, Zs, Iv p2, Iv p3, Iv p4, Iv (((p4.toUInt32 >>> ((3 : Int32) &&& 31).toUInt32).toInt32) &&& (63 : Int32)), Iv (((p4.toUInt32 >>> ((1 : Int32) &&& 31).toUInt32).toInt32) &&& (3 : Int32)), Us, Us, Us, Us, Us, Us, Us] [(.long (0 : Int64))])) tt_
      refine XS.goto X0.here hEX rfl (pc0 := 25) (pc' := 29) rfl (hb hBY at_25) (by decide) (by decide) ?_
      exact kt_
    refine Done.pre sg_34 ?_
    exact jn_2 ((0 : Int64))
set_option maxRecDepth 65536 in
set_option maxHeartbeats 40000000 in
theorem comes_1 {Post : Tables → Env → Array Value → State → Outcome → State → Prop} (hpost : ∀ tb e args s v u, (limb_1_1.after args s (.returned v) u = true ∧ limb_1_2.after args s (.returned v) u = true ∧ True) → FrameEnd s (.returned v) u (Jvm.fieldLocs frame_1_writes args s ++ Jvm.arrayLocs frame_1_arrays args s ++ Jvm.staticLocs frame_1_statics s) 16 128 → Post tb e args s (.returned v) u) :
    ArmFor flags0 classFile x code maxLocals ret World_1 tables_1 room_1 Calls_1 rest_1 Pre_1 Post := by
  intro l hfl _ _ p e ha hc hk s m args below hf hA hF happ hP
  obtain ⟨hcalls, hrest, hpre⟩ := hP
  obtain ⟨-, -, -, hnamed, -, -, -, hat⟩ := (Spec.applies_iff hf).mp happ
  obtain ⟨hg, hn⟩ := and_e (Cond.before_iff.mp (show (Jvm.Cond.and given_1 narrow_1).before args s = true from hpre))
  obtain ⟨g1a, g1b⟩ := and_e hg
  obtain ⟨g2a, g2b⟩ := and_e g1b
  obtain ⟨g3a, g3b⟩ := and_e g2b
  obtain ⟨g4a, g4b⟩ := and_e g3b
  obtain ⟨w0, w1, w2, w3, rfl⟩ : ∃ w0 w1 w2 w3 : Value, args = #[w0, w1, w2, w3] := by
    have hs : args.size = 4 := by simpa [Cond.value, given_1] using g1a
    obtain ⟨L⟩ := args
    match L, hs with
    | [w0, w1, w2, w3], _ => exact ⟨w0, w1, w2, w3, rfl⟩
  have hw := fun d (hd : d ∈ tables_1) => atoms_spec (ws := Jvm.Cond.code x code maxLocals ret :: tables_1) hat d (List.mem_cons_of_mem _ hd)
  have hfit : Fit s := fun {y c} hc i hi => by
    obtain ⟨ha, rfl⟩ := Array.getElem?_eq_some_iff.mp hc
    have q := List.all_eq_true.mp ((Array.all_eq_true_iff_forall_mem.mp hF) _ (Array.getElem_mem ha)) i (List.mem_range.mpr hi)
    simpa [Array.getElem?_eq_getElem hi] using q
  obtain ⟨i0, ei0⟩ := isL_v g2a
  obtain rfl : w0 = (.long i0) := Option.some.inj ei0
  obtain ⟨i1, ei1⟩ := is_v g3a
  obtain rfl : w1 = (.int i1) := Option.some.inj ei1
  obtain ⟨i2, ei2⟩ := is_v g4a
  obtain rfl : w2 = (.int i2) := Option.some.inj ei2
  obtain ⟨i3, ei3⟩ := is_v g4b
  obtain rfl : w3 = (.int i3) := Option.some.inj ei3
  obtain ⟨n, o, h1, h2, h3, _, L, rfl, ⟨rfl, N, -⟩, hq⟩ := rm0 l s _ hw tables_1 i0 i1 i2 i3  s.heap s.heap.size (Nat.le_refl _)  p e ha hc hk s m _ below hf ((Spec.applies_iff_loose hf).mp happ).1 ⟨rfl, State.Warmed39.refl s, rfl⟩ trivial
  refine ⟨n, _, h1, h2, h3, hpost _ _ _ _ _ _ ⟨Cond.after_iff.mpr rfl, Cond.after_iff.mpr (eq_i res_at (Term.int_eval (1)) rfl), trivial⟩ ⟨hq.1, hq.2.1, (hq.2.2.sift fun y hy => Or.inr (N y hy)).mono (by decide) (by decide)⟩⟩
theorem main_1_1 : Claimed_1_1 := comes_1 fun _ _ _ _ _ _ h hF => ⟨h.1, hF⟩
theorem main_1_2 : Claimed_1_2 := comes_1 fun _ _ _ _ _ _ h hF => ⟨h.2.1, hF⟩
end Jvm.Pilot.@@N@@
namespace Jvm.Pilot.@@N@@
open Jvm Jvm.ClassFile Sem Op Lib Jvm.Free Jvm.Stand Jvm.Pilot.@@N@@.Jvm.D
/-! MADE BY PROGRAM (witnessworld.py) out of the Statement's table words and the real class files: 10 classes; the members and pool entries that the words name. The judged class is class 1, her method 1. -/
namespace start1
open Jvm.ClassFile
def u (s : String) : CpInfo := .utf8 (stringToUtf16 s)
/-- a pool by its gaps: so many unusable entries, then the entry; so many at the end -/
def gap : Nat → List CpInfo → List CpInfo
  | 0, r => r
  | n + 1, r => .unusable :: gap n r
def poolList (es : List (Nat × CpInfo)) (last : Nat) : List CpInfo := es.foldr (fun e r => gap e.1 (e.2 :: r)) (gap last [])
def pool (es : List (Nat × CpInfo)) (last : Nat) : Array CpInfo := ⟨poolList es last⟩
def fileOf (pool : Array CpInfo) (this : Nat) (attrs : Array Attribute := #[]) (ms : Array MethodInfo := #[]) (fl : Nat := 33) (sup : Nat := 0) (ifs : Array Nat := #[]) (fds : Array FieldInfo := #[]) : ClassFile where
  minorVersion := 0
  majorVersion := 65
  constantPool := pool
  accessFlags := fl
  thisClass := this
  superClass := sup
  interfaces := ifs
  fields := fds
  methods := ms
  attributes := attrs
def plain (name : String) (sup : Option ClassId) : Class where
  name := name
  kind := .ordinary
  loader := none
  accessFlags := 33
  super := sup
  interfaces := #[]
  cf := none
  fields := #[]
  methods := #[]
  instanceTypes := #[]
  staticTypes := #[]
  resolved := #[]
  callSites := []
  init := .initialized
  statics := none
  mirror := none

def pool0 : Array CpInfo := pool [(5, u "<init>"), (0, u "()V"), (1, .class_ 10), (1, u "java/lang/Object")] 113

def k0c0 : Code := { maxStack := 0, maxLocals := 1, code := object_method_1_code, exceptionTable := #[], attributes := #[] }
def k0m0 : Method := { name := "<init>", desc := "()V", sig := { parameters := [], returnType := none }, accessFlags := 1, code := some k0c0 }
/-- java/lang/Object -/
def k0 : Class := { plain "java/lang/Object" none with
  accessFlags := 33
  interfaces := #[]
  cf := some (fileOf pool0 8 #[] #[{ accessFlags := 1, nameIndex := 5, descriptorIndex := 6, attributes := #[] }] 33 0 #[] #[])
  fields := #[]
  methods := #[k0m0]
  instanceTypes := #[]
  staticTypes := #[]
  resolved := Array.replicate 124 none
  statics := none }

def pool1 : Array CpInfo := pool [(2, .class_ 4), (1, u "java/lang/Object"), (0, u "<init>"), (0, u "()V"), (0, .integer 65535), (0, .long 4294967295), (1, .class_ 11), (0, u "com/example/lean_limiter/leanlimiter/IpAddress"), (0, .methodref 10 13), (0, .nameAndType 5 14), (0, u "(JJ)V"), (0, .methodref 10 16), (0, .nameAndType 17 18), (0, u "isIpv4"), (0, u "()Z"), (0, .class_ 20), (0, u "com/example/lean_limiter/leanlimiter/IpAddressIsIpv4PinLaw"), (2, u "law"), (0, u "(JIII)Z")] 3

def k1m0 : Method := { name := "<init>", desc := "()V", sig := { parameters := [], returnType := none }, accessFlags := 2, code := none }
def k1c1 : Code := { maxStack := 6, maxLocals := 14, code := code, exceptionTable := #[], attributes := #[] }
def k1m1 : Method := { name := "law", desc := "(JIII)Z", sig := { parameters := [.long, .int, .int, .int], returnType := some .boolean }, accessFlags := 9, code := some k1c1 }
/-- com/example/lean_limiter/leanlimiter/IpAddressIsIpv4PinLaw -/
def k1 : Class := { plain "com/example/lean_limiter/leanlimiter/IpAddressIsIpv4PinLaw" (some 0) with
  accessFlags := 49
  interfaces := #[]
  cf := some (fileOf pool1 19 #[] #[{ accessFlags := 2, nameIndex := 5, descriptorIndex := 6, attributes := #[] }, { accessFlags := 9, nameIndex := 23, descriptorIndex := 24, attributes := #[] }] 49 2 #[] #[])
  fields := #[]
  methods := #[k1m0, k1m1]
  instanceTypes := #[]
  staticTypes := #[]
  resolved := Array.replicate 28 none
  statics := none }

def pool2 : Array CpInfo := pool [(1, .methodref 2 3), (0, .class_ 4), (0, .nameAndType 5 6), (0, u "java/lang/Object"), (0, u "<init>"), (0, u "()V"), (0, .class_ 8), (0, u "java/lang/Record")] 13

def k2c0 : Code := { maxStack := 1, maxLocals := 1, code := jdk_30_method_1_code, exceptionTable := #[], attributes := #[] }
def k2m0 : Method := { name := "<init>", desc := "()V", sig := { parameters := [], returnType := none }, accessFlags := 4, code := some k2c0 }
/-- java/lang/Record -/
def k2 : Class := { plain "java/lang/Record" (some 0) with
  accessFlags := 1057
  interfaces := #[]
  cf := some (fileOf pool2 7 #[] #[{ accessFlags := 4, nameIndex := 5, descriptorIndex := 6, attributes := #[] }] 1057 2 #[] #[])
  fields := #[]
  methods := #[k2m0]
  instanceTypes := #[]
  staticTypes := #[]
  resolved := Array.replicate 22 none
  statics := none }

def pool3 : Array CpInfo := pool [(1, .methodref 2 3), (0, .class_ 4), (0, .nameAndType 5 6), (0, u "java/lang/Record"), (0, u "<init>"), (0, u "()V"), (0, .fieldref 8 9), (0, .class_ 10), (0, .nameAndType 11 12), (0, u "com/example/lean_limiter/leanlimiter/IpAddress"), (0, u "high"), (0, u "J"), (0, .fieldref 8 14), (0, .nameAndType 15 12), (0, u "low"), (6, .long 281470681743360), (3, u "(JJ)V"), (18, .long 18446744069414584320), (6, u "isIpv4"), (0, u "()Z"), (78, u "MAPPED")] 35

def k3c0 : Code := { maxStack := 3, maxLocals := 5, code := prog_30_method_1_code, exceptionTable := #[], attributes := #[] }
def k3m0 : Method := { name := "<init>", desc := "(JJ)V", sig := { parameters := [.long, .long], returnType := none }, accessFlags := 0, code := some k3c0 }
def k3c1 : Code := { maxStack := 4, maxLocals := 1, code := prog_30_method_4_code, exceptionTable := #[], attributes := #[] }
def k3m1 : Method := { name := "isIpv4", desc := "()Z", sig := { parameters := [], returnType := some .boolean }, accessFlags := 0, code := some k3c1 }
/-- com/example/lean_limiter/leanlimiter/IpAddress -/
def k3 : Class := { plain "com/example/lean_limiter/leanlimiter/IpAddress" (some 2) with
  accessFlags := 48
  interfaces := #[]
  cf := some (fileOf pool3 8 #[] #[{ accessFlags := 0, nameIndex := 5, descriptorIndex := 26, attributes := #[] }, { accessFlags := 0, nameIndex := 52, descriptorIndex := 53, attributes := #[] }] 48 2 #[] #[{ accessFlags := 18, nameIndex := 11, descriptorIndex := 12, attributes := #[] }, { accessFlags := 18, nameIndex := 15, descriptorIndex := 12, attributes := #[] }, { accessFlags := 26, nameIndex := 132, descriptorIndex := 12, attributes := #[] }])
  fields := #[{ name := "high", type := .long, accessFlags := 18, slot := 0, constantValue := 0 }, { name := "low", type := .long, accessFlags := 18, slot := 1, constantValue := 0 }, { name := "MAPPED", type := .long, accessFlags := 26, slot := 0, constantValue := 0 }]
  methods := #[k3m0, k3m1]
  instanceTypes := #[.long, .long]
  staticTypes := #[.long]
  resolved := Array.replicate 168 none
  statics := none }

def pool4 : Array CpInfo := pool [(1, u "java/lang/Cloneable"), (0, .class_ 1), (0, u "java/lang/Object"), (0, .class_ 3)] 3

/-- java/lang/Cloneable -/
def k4 : Class := { plain "java/lang/Cloneable" (some 0) with
  accessFlags := 1537
  interfaces := #[]
  cf := some (fileOf pool4 2 #[] #[] 1537 4 #[] #[])
  fields := #[]
  methods := #[]
  instanceTypes := #[]
  staticTypes := #[]
  resolved := Array.replicate 8 none
  statics := none }

def pool5 : Array CpInfo := pool [(1, u "java/io/Serializable"), (0, .class_ 1), (0, u "java/lang/Object"), (0, .class_ 3)] 3

/-- java/io/Serializable -/
def k5 : Class := { plain "java/io/Serializable" (some 0) with
  accessFlags := 1537
  interfaces := #[]
  cf := some (fileOf pool5 2 #[] #[] 1537 4 #[] #[])
  fields := #[]
  methods := #[]
  instanceTypes := #[]
  staticTypes := #[]
  resolved := Array.replicate 8 none
  statics := none }

/-- the primitive byte -/
def k6 : Class := { plain "byte" none with kind := .primitive 'B', accessFlags := 0x411 }
/-- [B -/
def k7 : Class := { plain "[B" (some 0) with kind := .array 6 .byte, interfaces := #[4, 5], accessFlags := 1041 }

/-- the primitive int -/
def k8 : Class := { plain "int" none with kind := .primitive 'I', accessFlags := 0x411 }
/-- [I -/
def k9 : Class := { plain "[I" (some 0) with kind := .array 8 .int, interfaces := #[4, 5], accessFlags := 1041 }

def heap : Heap := #[]
def classes : Array Class := #[k0, k1, k2, k3, k4, k5, k6, k7, k8, k9]
def interned : List (Array UInt16 × Addr) := []
def slotsUsed : Nat := 0
def theMethod : MethodId := ⟨1, 1⟩
def args0 : Array Value := #[.long 5, .int 6, .int 7, .int 8]
def aboutOver (below : List Frame) : State where
  vm := { classes := classes, interned := interned.toArray }
  heap := heap
  slotsUsed := slotsUsed
  threads := #[{ frames := .invoking theMethod args0 :: below }]
def below0 : List Frame := [.native { method := ⟨0, 0⟩, args := #[] }]
def about1 : State := aboutOver below0
def p0 : Program := .bare "" "" ""
def e0 : Env := launch0.env 0 0 0
theorem w_frames : about1.frames = Frame.invoking theMethod args0 :: below0 := rfl
set_option maxRecDepth 65536 in
theorem w_args : argsFit about1.vm theMethod args0 = true := by decide +kernel
set_option maxRecDepth 65536 in
theorem w_heap : heapFits about1 = true := by decide +kernel
set_option maxRecDepth 65536 in
theorem w_runnable : about1.curStatus? = some .runnable := by decide +kernel
set_option maxRecDepth 65536 in
theorem w_alone : about1.alone = true := by decide +kernel
set_option maxRecDepth 65536 in
theorem w_named : about1.methodNamed? x = some theMethod := by decide +kernel
set_option maxRecDepth 65536 in
theorem w_hears : about1.hears theMethod below0 = true := by decide +kernel
set_option maxRecDepth 65536 in
theorem w_ripe : about1.ripe theMethod args0 below0 = true := by decide +kernel
theorem w_running : about1.status = .running := rfl
set_option maxRecDepth 65536 in
theorem w_room : about1.hasRoom e0.platform room_1 = true :=
  launch0.hasRoom_least _ room_1 (by decide +kernel) (by decide +kernel) (by decide +kernel) (by decide +kernel) (by decide +kernel) (by decide +kernel)
theorem allAtoms_all (ts : List Jvm.Cond) (a : Array Jvm.Value) (st : Jvm.State) : (allAtoms ts).before a st = ts.all (fun c => c.before a st) := by
  induction ts with
  | nil => rfl
  | cons c t ih =>
    show (Jvm.Cond.and c (allAtoms t)).before a st = _
    rw [Jvm.Cond.before_and, ih, List.all_cons]
def words1 : List Jvm.Cond := Jvm.Cond.code x code maxLocals ret :: tables_1
/-- a 'code' word, met by the world's own term for the bytes: nothing is compared byte by byte -/
theorem code_word {y : MethodName} {bytes : ByteArray} {mx : Nat} {rt : Option FieldType} {a : Array Value} {s : State} {m : MethodId} {meth : Method} {c : Code} (h1 : s.methodNamed? y = some m) (h2 : s.vm.method? m = some meth) (h3 : meth.code = some c) (h4 : c.code = bytes)
    (h5 : (c.maxLocals == mx && c.exceptionTable.isEmpty && decide (c.maxStack ≤ mostOperands) && decide (meth.sig.returnType = rt) && !meth.locks && decide (parseMethodDescriptor y.desc = some meth.sig)) = true) : (Jvm.Cond.code y bytes mx rt).before a s = true := by
  simp only [Bool.and_eq_true, beq_iff_eq, Bool.not_eq_true', decide_eq_true_eq] at h5
  obtain ⟨⟨⟨⟨⟨g1, g2⟩, g3⟩, g4⟩, g5⟩, g6⟩ := h5
  simp [Cond.before, Cond.holds, Cond.value, h1, h2, h3, h4, g1, g2, g3, g4, g5, g6]
def isCode : Jvm.Cond → Bool
  | .code _ _ _ _ => true
  | _ => false
theorem all_split {L : List Jvm.Cond} {P : Jvm.Cond → Bool} (h1 : L.all (fun c => isCode c || P c) = true) (h2 : ∀ c ∈ L.filter isCode, P c = true) : L.all P = true := by
  refine List.all_eq_true.mpr fun c hc => ?_
  have h := List.all_eq_true.mp h1 c hc
  rcases Bool.eq_false_or_eq_true (isCode c) with hi | hi
  · exact h2 c (List.mem_filter.mpr ⟨hc, hi⟩)
  · simpa [hi] using h
set_option maxRecDepth 65536 in
theorem w_c0 : (Jvm.Cond.code x code maxLocals ret).before args0 about1 = true := code_word (m := ⟨1, 1⟩) (meth := k1m1) (c := k1c1) (by decide +kernel) rfl rfl rfl (by decide +kernel)
set_option maxRecDepth 65536 in
theorem w_c1 : (Jvm.Cond.code ({ cls := "com/example/lean_limiter/leanlimiter/IpAddress", name := "<init>", desc := "(JJ)V" } : Jvm.MethodName) prog_30_method_1_code (5 : Nat) (Option.none : Option Jvm.ClassFile.FieldType)).before args0 about1 = true := code_word (m := ⟨3, 0⟩) (meth := k3m0) (c := k3c0) (by decide +kernel) rfl rfl rfl (by decide +kernel)
set_option maxRecDepth 65536 in
theorem w_c2 : (Jvm.Cond.code ({ cls := "java/lang/Record", name := "<init>", desc := "()V" } : Jvm.MethodName) jdk_30_method_1_code (1 : Nat) (Option.none : Option Jvm.ClassFile.FieldType)).before args0 about1 = true := code_word (m := ⟨2, 0⟩) (meth := k2m0) (c := k2c0) (by decide +kernel) rfl rfl rfl (by decide +kernel)
set_option maxRecDepth 65536 in
theorem w_c3 : (Jvm.Cond.code ({ cls := "java/lang/Object", name := "<init>", desc := "()V" } : Jvm.MethodName) object_method_1_code (1 : Nat) (Option.none : Option Jvm.ClassFile.FieldType)).before args0 about1 = true := code_word (m := ⟨0, 0⟩) (meth := k0m0) (c := k0c0) (by decide +kernel) rfl rfl rfl (by decide +kernel)
set_option maxRecDepth 65536 in
theorem w_c4 : (Jvm.Cond.code ({ cls := "com/example/lean_limiter/leanlimiter/IpAddress", name := "isIpv4", desc := "()Z" } : Jvm.MethodName) prog_30_method_4_code (1 : Nat) (Option.some Jvm.ClassFile.FieldType.boolean)).before args0 about1 = true := code_word (m := ⟨3, 1⟩) (meth := k3m1) (c := k3c1) (by decide +kernel) rfl rfl rfl (by decide +kernel)
def codes1 : List Jvm.Cond := [Jvm.Cond.code x code maxLocals ret, Jvm.Cond.code ({ cls := "com/example/lean_limiter/leanlimiter/IpAddress", name := "<init>", desc := "(JJ)V" } : Jvm.MethodName) prog_30_method_1_code (5 : Nat) (Option.none : Option Jvm.ClassFile.FieldType), Jvm.Cond.code ({ cls := "java/lang/Record", name := "<init>", desc := "()V" } : Jvm.MethodName) jdk_30_method_1_code (1 : Nat) (Option.none : Option Jvm.ClassFile.FieldType), Jvm.Cond.code ({ cls := "java/lang/Object", name := "<init>", desc := "()V" } : Jvm.MethodName) object_method_1_code (1 : Nat) (Option.none : Option Jvm.ClassFile.FieldType), Jvm.Cond.code ({ cls := "com/example/lean_limiter/leanlimiter/IpAddress", name := "isIpv4", desc := "()Z" } : Jvm.MethodName) prog_30_method_4_code (1 : Nat) (Option.some Jvm.ClassFile.FieldType.boolean)]
set_option maxRecDepth 65536 in
theorem codes_eq : words1.filter isCode = codes1 := rfl
theorem w_codes : ∀ c ∈ words1.filter isCode, c.before args0 about1 = true := by
  rw [codes_eq]
  intro c hc
  simp only [codes1, List.mem_cons, List.not_mem_nil, or_false] at hc
  rcases hc with rfl | rfl | rfl | rfl | rfl
  · exact w_c0
  · exact w_c1
  · exact w_c2
  · exact w_c3
  · exact w_c4
set_option maxRecDepth 65536 in
theorem w_t1 : (words1.take 24).all (fun c => isCode c || c.before args0 about1) = true := by decide +kernel
set_option maxRecDepth 65536 in
theorem w_t2 : (words1.drop 24).all (fun c => isCode c || c.before args0 about1) = true := by decide +kernel
theorem w_tables : (allAtoms (Jvm.Cond.code x code maxLocals ret :: tables_1)).before args0 about1 = true := by
  rw [allAtoms_all]
  show words1.all (fun c => c.before args0 about1) = true
  refine all_split ?_ w_codes
  rw [← List.take_append_drop 24 words1, List.all_append, w_t1, w_t2]
  rfl
set_option maxRecDepth 65536 in
theorem w_case : (Jvm.Cond.and given_1 narrow_1).before args0 about1 = true := by decide +kernel
theorem w_applies : (headSpec (Jvm.Cond.code x code maxLocals ret :: tables_1) room_1).applies x e0.platform about1 = true :=
  (Spec.applies_iff w_frames).mpr ⟨w_running, w_runnable, w_alone, w_named, w_hears, w_ripe, w_room, w_tables⟩
theorem atStart : AtStart classFile x code maxLocals ret World_1 tables_1 room_1 Calls_1 rest_1 Pre_1 launch0 p0 e0 about1 theMethod args0 below0 :=
  ⟨lists_1, trivial, launch0.admits_env _ _ _, launch0.least_env, fairChoices_fair.cas, fairChoices_fair.clock, w_frames, w_args, w_heap, w_applies, trivial, trivial, w_case⟩
end start1
theorem witness_1 : WitnessClaimed_1 := ⟨start1.p0, start1.e0, start1.about1, start1.theMethod, start1.args0, start1.below0, start1.atStart⟩
end Jvm.Pilot.@@N@@
