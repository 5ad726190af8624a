import JvmDerived
import JvmDerived.Pilot.@@N@@Statement
import JvmDerived.Pilot.@@N@@Code
set_option linter.unusedVariables false
set_option linter.unusedSimpArgs false
namespace Jvm.RoadKit
open Sem ClassFile Op Lib Jvm.Stand Jvm.Free Jvm.LawKit
section New
variable {p : Program} {l : Launch} {e : Env} {R : Room} {s : State} {m : MethodId} {args : Array Value} {below : List Frame} {meth : Method} {c : Code} {T : State} {locs : List Loc} {cells slots : Nat}
theorem retI (X : Stand p l e R s m args below meth c T locs cells slots) (hEX : p.tables.exec = Jvm.exec) {pc : Nat} {Ls : Array Slot} {z : Int32} {rest : List Value} (hRT : meth.sig.returnType = some .int) (hd : decode c.code pc = .ok (.ireturn, 1)) {fs : List Frame}
    (hl : ∀ (f : JFrame) (acts : List Action), f.method = m → f.locked = none → f.entered = [] → (doReturn e (T.setTop f) acts (some (.int z))).1 = T.setFrames fs) : Steps p.tables e below (T.setTop (mkF m pc Ls (.int z :: rest))) (T.setFrames fs) := by
  have hm' : T.vm.method? m = some meth := X.method'
  have hn : narrow .int (.int z) = .int z := rfl
  show Steps p.tables e below (T.setTop { method := m, pc := pc, locals := Ls, stack := _ :: rest, locked := none }) _
  jvm_step X.here [X.here.top, hEX, hd, hm', hRT, hn]
  first | (intro acts; rw [hl _ acts rfl rfl rfl]) | rw [hl _ _ rfl rfl rfl]
  exact Steps.refl _
abbrev Us : Slot := .unset
abbrev Zs : Slot := .second
abbrev Nv : Slot := .val .null
abbrev Iv (x : Int32) : Slot := .val (.int x)
abbrev Lv (x : Int64) : Slot := .val (.long x)
abbrev Rv (x : Addr) : Slot := .val (.ref x)
/-- the body comes to its end from st: it returns v, and Q holds of v, of the heap and of the places written -/
def Done (p : Program) (e : Env) (below : List Frame) (s : State) (Q : Option Value → Heap → List Loc → Prop) (kc ks : Nat) (st : State) : Prop :=
  ∃ (s₂ : State) (o : Outcome), Steps p.tables e below st s₂ ∧ s₂.status = .running ∧ Ended s₂ below o ∧ ∃ v L, o = .returned v ∧ Q v s₂.heap L ∧ FrameEnd s o s₂ L kc ks
variable {Q : Option Value → Heap → List Loc → Prop} {kc ks : Nat}
theorem Done.pre {st st' : State} (h : ∀ t, Steps p.tables e below st' t → Steps p.tables e below st t) (D : Done p e below s Q kc ks st') : Done p e below s Q kc ks st := by
  obtain ⟨s₂, o, h1, r⟩ := D
  exact ⟨s₂, o, h _ h1, r⟩
theorem Done.retI (X : Stand p l e R s m args below meth c T locs cells slots) (hEX : p.tables.exec = Jvm.exec) (hLK : meth.locks = false) {pc : Nat} {Ls : Array Slot} {z : Int32} {rest : List Value} (hRT : meth.sig.returnType = some .int) (hd : decode c.code pc = .ok (.ireturn, 1))
    (hQ : Q (some (.int z)) T.heap locs) (hc : cells ≤ kc) (hs : slots ≤ ks) : Done p e below s Q kc ks (T.setTop (mkF m pc Ls (.int z :: rest))) := by
  obtain ⟨fs, hr, hrun, hended, hW, hsame⟩ := X.leave (v := some (.int z)) (fun h => by rw [hRT] at h; cases h) hLK
  exact ⟨_, _, Jvm.RoadKit.retI X hEX hRT hd hr, hrun, hended, _, _, rfl, hQ, ⟨_, rfl⟩, hW, hsame.mono hc hs⟩
theorem Done.retN (X : Stand p l e R s m args below meth c T locs cells slots) (hEX : p.tables.exec = Jvm.exec) (hLK : meth.locks = false) {pc : Nat} {Ls : Array Slot} {z : Int32} {t : FieldType} {rest : List Value} (hRT : meth.sig.returnType = some t) (ht : t = .boolean ∨ t = .byte ∨ t = .char ∨ t = .short) (hd : decode c.code pc = .ok (.ireturn, 1))
    (hQ : Q (some (.int (nar t z))) T.heap locs) (hc : cells ≤ kc) (hs : slots ≤ ks) : Done p e below s Q kc ks (T.setTop (mkF m pc Ls (.int z :: rest))) := by
  obtain ⟨fs, hr, hrun, hended, hW, hsame⟩ := X.leave (v := some (.int (nar t z))) (fun h => by rw [hRT] at h; cases h) hLK
  exact ⟨_, _, Jvm.RoadKit.retN X hEX hRT ht hd hr, hrun, hended, _, _, rfl, hQ, ⟨_, rfl⟩, hW, hsame.mono hc hs⟩
theorem Done.retL (X : Stand p l e R s m args below meth c T locs cells slots) (hEX : p.tables.exec = Jvm.exec) (hLK : meth.locks = false) {pc : Nat} {Ls : Array Slot} {z : Int64} {rest : List Value} (hRT : meth.sig.returnType = some .long) (hd : decode c.code pc = .ok (.lreturn, 1))
    (hQ : Q (some (.long z)) T.heap locs) (hc : cells ≤ kc) (hs : slots ≤ ks) : Done p e below s Q kc ks (T.setTop (mkF m pc Ls (.long z :: rest))) := by
  obtain ⟨fs, hr, hrun, hended, hW, hsame⟩ := X.leave (v := some (.long z)) (fun h => by rw [hRT] at h; cases h) hLK
  exact ⟨_, _, retOut X hEX hRT rfl (Or.inr (Or.inl ⟨rfl, rfl, _, rfl⟩)) hd hr, hrun, hended, _, _, rfl, hQ, ⟨_, rfl⟩, hW, hsame.mono hc hs⟩
theorem Done.retA (X : Stand p l e R s m args below meth c T locs cells slots) (hEX : p.tables.exec = Jvm.exec) (hLK : meth.locks = false) {pc : Nat} {Ls : Array Slot} {w : Value} {t : FieldType} {rest : List Value} (hRT : meth.sig.returnType = some t) (ht : t.isReference = true) (hw : w.isRef = true) (hd : decode c.code pc = .ok (.areturn, 1))
    (hQ : Q (some w) T.heap locs) (hc : cells ≤ kc) (hs : slots ≤ ks) : Done p e below s Q kc ks (T.setTop (mkF m pc Ls (w :: rest))) := by
  obtain ⟨fs, hr, hrun, hended, hW, hsame⟩ := X.leave (v := some w) (fun h => by rw [hRT] at h; cases h) hLK
  have hn : narrow t w = w := by cases t <;> first | rfl | (simp [FieldType.isReference] at ht)
  exact ⟨_, _, retOut X hEX hRT hn (Or.inr (Or.inr (Or.inr (Or.inr ⟨rfl, ht, hw⟩)))) hd hr, hrun, hended, _, _, rfl, hQ, ⟨_, rfl⟩, hW, hsame.mono hc hs⟩
theorem Done.retV (X : Stand p l e R s m args below meth c T locs cells slots) (hEX : p.tables.exec = Jvm.exec) (hLK : meth.locks = false) {pc : Nat} {Ls : Array Slot} (hRT : meth.sig.returnType = none) (hd : decode c.code pc = .ok (.return_, 1))
    (hQ : Q none T.heap locs) (hc : cells ≤ kc) (hs : slots ≤ ks) : Done p e below s Q kc ks (T.setTop (mkF m pc Ls [])) := by
  obtain ⟨fs, hr, hrun, hended, hW, hsame⟩ := X.leave (v := none) (fun _ => rfl) hLK
  exact ⟨_, _, X.returnOut hEX hRT hd hr, hrun, hended, _, _, rfl, hQ, ⟨_, rfl⟩, hW, hsame.mono hc hs⟩
end New
end Jvm.RoadKit
namespace Jvm.Pilot.@@N@@
open Jvm Jvm.ClassFile Sem Op Lib Jvm.Free Jvm.Stand Jvm.LawKit Jvm.RoadKit Bundle Jvm.Pilot.@@N@@.Jvm.D

def own_flag (m x : Int32) : Int32 := if (x &&& m) = (0 : Int32) then (0 : Int32) else (1 : Int32)
theorem own_bit (x m : Int32) (k : Nat) (hm : m.toBitVec = BitVec.twoPow 32 k) (hz : m.toBitVec ≠ 0#32) : ((x &&& m) = (0 : Int32)) ↔ x.toBitVec.getLsbD k = false := by
  have h2 : ((x &&& m) = (0 : Int32)) ↔ x.toBitVec &&& m.toBitVec = 0#32 := by
    rw [← Int32.toBitVec_inj]; exact Iff.rfl
  rw [h2, hm, BitVec.and_twoPow]
  rw [hm] at hz
  cases x.toBitVec.getLsbD k <;> simp [hz]
theorem own_flag_eq (x m : Int32) (k : Nat) (hm : m.toBitVec = BitVec.twoPow 32 k) (hz : m.toBitVec ≠ 0#32) : own_flag m x = if x.toBitVec.getLsbD k = true then (1 : Int32) else (0 : Int32) := by
  have h := own_bit x m k hm hz
  rw [own_flag]
  cases hb : x.toBitVec.getLsbD k
  · rw [if_pos (h.mpr hb)]; rfl
  · rw [if_neg (fun q => by rw [h.mp q] at hb; cases hb)]; rfl
theorem own_shr (x q : Int32) (k : Nat) (hk : q.toBitVec.toNat % 32 = k) (h0 : 0 < k) : (((x.toUInt32 >>> (q &&& 31).toUInt32).toInt32 &&& (1 : Int32)) = (1 : Int32)) ↔ x.toBitVec.getLsbD k = true := by
  have h1 := c_iushr x q k hk h0
  have h2 := c_mask ((x.toUInt32 >>> (q &&& 31).toUInt32).toInt32) (1 : Int32) 1 (by decide) (by decide)
  rw [h1] at h2
  have h3 : x.toInt % 4294967296 = (x.toBitVec.toNat : Int) := by
    show x.toBitVec.toInt % 4294967296 = _
    rw [BitVec.toInt_eq_toNat_cond]
    have := x.toBitVec.isLt
    split <;> omega
  have h4 : x.toBitVec.getLsbD k = decide (x.toBitVec.toNat / 2 ^ k % 2 = 1) := by
    show x.toBitVec.toNat.testBit k = _
    rw [Nat.testBit_eq_decide_div_mod_eq]
  rw [h3] at h2
  rw [← Int32.toInt_inj, h2, h4, decide_eq_true_iff]
  have e1 : (1 : Int32).toInt = 1 := rfl
  rw [e1]
  have : ((x.toBitVec.toNat : Int) / ((2 ^ k : Nat) : Int)) = ((x.toBitVec.toNat / 2 ^ k : Nat) : Int) := by simp
  rw [this]
  have e2 : ((2 ^ 1 : Nat) : Int) = 2 := rfl
  rw [e2]; omega

theorem own_ex1 (x : Int32) (h : (((x.toUInt32 >>> ((3 : Int32) &&& 31).toUInt32).toInt32) &&& (1 : Int32)) = (1 : Int32)) : (1 : Int32) = own_flag (8 : Int32) x := by
  rw [own_flag_eq x 8 3 (by decide) (by decide), if_pos ((own_shr x 3 3 (by decide) (by decide)).mp h)]
theorem own_ex0 (x : Int32) (h : ¬ (((x.toUInt32 >>> ((3 : Int32) &&& 31).toUInt32).toInt32) &&& (1 : Int32)) = (1 : Int32)) : (0 : Int32) = own_flag (8 : Int32) x := by
  rw [own_flag_eq x 8 3 (by decide) (by decide), if_neg (fun q => h ((own_shr x 3 3 (by decide) (by decide)).mpr q))]
theorem own_b (x y : Int32) : own_flag (8 : Int32) (x ^^^ (y &&& (-9 : Int32))) = own_flag (8 : Int32) x := by
  rw [own_flag_eq _ 8 3 (by decide) (by decide), own_flag_eq _ 8 3 (by decide) (by decide)]
  have : (x ^^^ (y &&& (-9 : Int32))).toBitVec.getLsbD 3 = x.toBitVec.getLsbD 3 := by
    show (x.toBitVec ^^^ (y.toBitVec &&& (-9 : Int32).toBitVec)).getLsbD 3 = _
    rw [BitVec.getLsbD_xor, BitVec.getLsbD_and]
    have e : (-9 : Int32).toBitVec.getLsbD 3 = false := by decide
    rw [e]; simp
  rw [this]
theorem own_c (x : Int32) : ¬ own_flag (8 : Int32) (x ^^^ (8 : Int32)) = own_flag (8 : Int32) x := by
  rw [own_flag_eq _ 8 3 (by decide) (by decide), own_flag_eq _ 8 3 (by decide) (by decide)]
  have : (x ^^^ (8 : Int32)).toBitVec.getLsbD 3 = !x.toBitVec.getLsbD 3 := by
    show (x.toBitVec ^^^ (8 : Int32).toBitVec).getLsbD 3 = _
    rw [BitVec.getLsbD_xor]
    have e : (8 : Int32).toBitVec.getLsbD 3 = true := by decide
    rw [e]; simp
  rw [this]
  cases x.toBitVec.getLsbD 3 <;> decide
theorem d_jdk_30_method_1_code_0 : decode jdk_30_method_1_code 0 = .ok (.aload_n 0, 1) := by decide +kernel
theorem d_jdk_30_method_1_code_1 : decode jdk_30_method_1_code 1 = .ok (.invokespecial 1, 3) := by decide +kernel
theorem d_jdk_30_method_1_code_4 : decode jdk_30_method_1_code 4 = .ok (.return_, 1) := by decide +kernel
def Qrm_rec (Z : State) (a : Addr) (h0 : Heap) (n0 : Nat) (v_ : Option Value) (h_ : Heap) (L_ : List Loc) : Prop := v_ = none ∧ Fr n0 L_ ∧ h_ = h0
theorem ef_rm_rec (m : MethodId) (x0 : Addr) : entryFrame m #[(.ref x0)] 1 = mkF m 0 #[.val (.ref x0)] [] := by first | (simp [entryFrame, mkF, argsToLocals, Value.category]; done) | rfl
theorem pn_java_lang_Record : plainName "java/lang/Record" = true := by first | (simp [plainName, overriddenIn]; done) | decide +kernel
set_option maxRecDepth 65536 in
set_option maxHeartbeats 40000000 in
theorem rm_rec (l : Launch) (Z : State) (aZ : Array Value) (hw : ∀ d ∈ tables_1, d.before aZ Z = true) (ws : List Jvm.Cond) (a : Addr) (h0 : Heap) (n0 : Nat) (Z0 : n0 ≤ h0.size) :
    MetFree l (⟨"java/lang/Record", "<init>", "()V"⟩ : MethodName) (head1 (Jvm.Cond.code (⟨"java/lang/Record", "<init>", "()V"⟩ : MethodName) jdk_30_method_1_code 1 none :: ws) ({ frames := 1, cells := 0, slots := 0, locals := 12 } : Room)) (fun a_ U_ => a_ = #[(.ref a)] ∧ Z.Warmed39 U_.vm ∧ U_.heap = h0) (fun _ _ _ _ _ => True) (fun _ U_ o_ U2_ => ∃ v_ L_, o_ = .returned v_ ∧ Qrm_rec Z a h0 n0 v_ U2_.heap L_ ∧ FrameEnd U_ o_ U2_ L_ ({ frames := 1, cells := 0, slots := 0, locals := 12 } : Room).cells ({ frames := 1, cells := 0, slots := 0, locals := 12 } : Room).slots) := by
  refine MetFree.of_bodySF (plainFor_of_name pn_java_lang_Record) hisR ?_
  intro p e s m args below meth cO s₁ Bd hml0 hP hK
  obtain ⟨rfl, hZW, hh⟩ := hP
  have hEX := Bd.exec
  have hBY := Bd.bytes
  have hMX : cO.maxLocals = 1 := hml0
  have hOW : s.vm.findClass "java/lang/Record" = some m.cls := findClass_of_methodNamed Bd.named
  have hNM := (name_of_methodNamed Bd.named Bd.method).1
  have hLK := Bd.notSynchronized
  have hRT := Bd.returns
  have X0 : Stand p l e ({ frames := 1, cells := 0, slots := 0, locals := 12 } : Room) s m #[(.ref a)] below meth cO s₁ [] 0 0 := Stand.of_body Bd
  have e0 : s₁.heap = h0 := by rw [← hh, Bd.state]; rfl
  have N0 := Fr.nil n0
  have K0 : Keep h0 h0 [] := Keep.refl _ _
  show Done p e below s (Qrm_rec Z a h0 n0) ({ frames := 1, cells := 0, slots := 0, locals := 12 } : Room).cells ({ frames := 1, cells := 0, slots := 0, locals := 12 } : Room).slots (s₁.setTop (entryFrame m #[(.ref a)] 1))
  refine Done.pre (fun t_ k_ => castTop (ef_rm_rec m a) k_) ?_
  show Done _ _ _ _ _ _ _ (s₁.setTop (mkF m 0 #[Rv a] []))
  have sg_1 : ∀ tt_, Steps p.tables e below (s₁.setTop (mkF m 1 #[Rv a] [(.ref a)])) tt_ → Steps p.tables e below (s₁.setTop (mkF m 0 #[Rv a] [])) tt_ := by
    intro tt_ kt_
    refine XS.aloadN X0.here hEX rfl (hb hBY d_jdk_30_method_1_code_0) rfl rfl ?_
    exact kt_
  refine Done.pre sg_1 ?_
  obtain ⟨T_2, X_2, e_2, st_2⟩ := initO X0 hEX hZW hOW (hw _ (List.mem_of_getElem? (i := 12) rfl)) (hw _ (List.mem_of_getElem? (i := 13) rfl)) (hw _ (List.mem_of_getElem? (i := 14) rfl)) e0 (g := (mkF m 1 #[Rv a] [(.ref a)])) rfl (by rw [hMX]; rfl) rfl (hb hBY d_jdk_30_method_1_code_1) (by decide) (W := 0) (by show 2 * 0 + _ ≤ _; exact Nat.le_of_eq rfl) (by decide)
  refine Done.pre st_2 ?_
  show Done _ _ _ _ _ _ _ (T_2.setTop (mkF m 4 #[Rv a] []))
  exact Done.retV X_2 hEX hLK hRT (hb hBY d_jdk_30_method_1_code_4) (by rw [e_2]; exact ⟨rfl, N0, rfl⟩) (by decide) (by decide)
theorem d_prog_35_method_1_code_0 : decode prog_35_method_1_code 0 = .ok (.aload_n 0, 1) := by decide +kernel
theorem d_prog_35_method_1_code_1 : decode prog_35_method_1_code 1 = .ok (.invokespecial 1, 3) := by decide +kernel
theorem pd___V_0 : parseMethodDescriptor "()V" = some ⟨[], none⟩ := by decide +kernel
theorem d_prog_35_method_1_code_4 : decode prog_35_method_1_code 4 = .ok (.aload_n 0, 1) := by decide +kernel
theorem d_prog_35_method_1_code_5 : decode prog_35_method_1_code 5 = .ok (.iload_n 1, 1) := by decide +kernel
theorem d_prog_35_method_1_code_6 : decode prog_35_method_1_code 6 = .ok (.putfield 7, 3) := by decide +kernel
theorem d_prog_35_method_1_code_9 : decode prog_35_method_1_code 9 = .ok (.aload_n 0, 1) := by decide +kernel
theorem d_prog_35_method_1_code_10 : decode prog_35_method_1_code 10 = .ok (.iload_n 2, 1) := by decide +kernel
theorem d_prog_35_method_1_code_11 : decode prog_35_method_1_code 11 = .ok (.putfield 13, 3) := by decide +kernel
theorem d_prog_35_method_1_code_14 : decode prog_35_method_1_code 14 = .ok (.aload_n 0, 1) := by decide +kernel
theorem d_prog_35_method_1_code_15 : decode prog_35_method_1_code 15 = .ok (.aload_n 3, 1) := by decide +kernel
theorem d_prog_35_method_1_code_16 : decode prog_35_method_1_code 16 = .ok (.putfield 16, 3) := by decide +kernel
theorem d_prog_35_method_1_code_19 : decode prog_35_method_1_code 19 = .ok (.return_, 1) := by decide +kernel
def Qrm_init (Z : State) (a : Addr) (fl : Int32) (rq : Int32) (bd : Addr) (u1 : Value) (u2 : Value) (u3 : Value) (h0 : Heap) (n0 : Nat) (v_ : Option Value) (h_ : Heap) (L_ : List Loc) : Prop := v_ = none ∧ Fr n0 L_ ∧ Keep h0 h_ [a] ∧ Exa Z h_ a "com/example/tidelog/tidelog/rpc/Frame" ∧ Fld Z h_ a "com/example/tidelog/tidelog/rpc/Frame" "flags" "I" (.int fl) ∧ Fld Z h_ a "com/example/tidelog/tidelog/rpc/Frame" "request" "I" (.int rq) ∧ Fld Z h_ a "com/example/tidelog/tidelog/rpc/Frame" "body" "[B" (.ref bd)
theorem ef_rm_init (m : MethodId) (x0 : Addr) (x1 : Int32) (x2 : Int32) (x3 : Addr) : entryFrame m #[(.ref x0), (.int x1), (.int x2), (.ref x3)] 4 = mkF m 0 #[.val (.ref x0), .val (.int x1), .val (.int x2), .val (.ref x3)] [] := by first | (simp [entryFrame, mkF, argsToLocals, Value.category]; done) | rfl
theorem pn_com_example_tidelog_tidelog_rpc_Frame : plainName "com/example/tidelog/tidelog/rpc/Frame" = true := by first | (simp [plainName, overriddenIn]; done) | decide +kernel
set_option maxRecDepth 65536 in
set_option maxHeartbeats 40000000 in
theorem rm_init (l : Launch) (Z : State) (aZ : Array Value) (hw : ∀ d ∈ tables_1, d.before aZ Z = true) (ws : List Jvm.Cond) (a : Addr) (fl : Int32) (rq : Int32) (bd : Addr) (u1 : Value) (u2 : Value) (u3 : Value) (h0 : Heap) (n0 : Nat) (Z0 : n0 ≤ h0.size) (Ex : Exa Z h0 a "com/example/tidelog/tidelog/rpc/Frame") (F0 : Fld Z h0 a "com/example/tidelog/tidelog/rpc/Frame" "flags" "I" u1) (F1 : Fld Z h0 a "com/example/tidelog/tidelog/rpc/Frame" "request" "I" u2) (F2 : Fld Z h0 a "com/example/tidelog/tidelog/rpc/Frame" "body" "[B" u3) (ga : n0 ≤ a) :
    MetFree l (⟨"com/example/tidelog/tidelog/rpc/Frame", "<init>", "(II[B)V"⟩ : MethodName) (head1 (Jvm.Cond.code (⟨"com/example/tidelog/tidelog/rpc/Frame", "<init>", "(II[B)V"⟩ : MethodName) prog_35_method_1_code 4 none :: ws) ({ frames := 2, cells := 0, slots := 0, locals := 24 } : Room)) (fun a_ U_ => a_ = #[(.ref a), (.int fl), (.int rq), (.ref bd)] ∧ Z.Warmed39 U_.vm ∧ U_.heap = h0) (fun _ _ _ _ _ => True) (fun _ U_ o_ U2_ => ∃ v_ L_, o_ = .returned v_ ∧ Qrm_init Z a fl rq bd u1 u2 u3 h0 n0 v_ U2_.heap L_ ∧ FrameEnd U_ o_ U2_ L_ ({ frames := 2, cells := 0, slots := 0, locals := 24 } : Room).cells ({ frames := 2, cells := 0, slots := 0, locals := 24 } : Room).slots) := by
  refine MetFree.of_bodySF (plainFor_of_name pn_com_example_tidelog_tidelog_rpc_Frame) hisR ?_
  intro p e s m args below meth cO s₁ Bd hml0 hP hK
  obtain ⟨rfl, hZW, hh⟩ := hP
  have hEX := Bd.exec
  have hBY := Bd.bytes
  have hMX : cO.maxLocals = 4 := hml0
  have hOW : s.vm.findClass "com/example/tidelog/tidelog/rpc/Frame" = some m.cls := findClass_of_methodNamed Bd.named
  have hNM := (name_of_methodNamed Bd.named Bd.method).1
  have hLK := Bd.notSynchronized
  have hRT := Bd.returns
  have X0 : Stand p l e ({ frames := 2, cells := 0, slots := 0, locals := 24 } : Room) s m #[(.ref a), (.int fl), (.int rq), (.ref bd)] below meth cO s₁ [] 0 0 := Stand.of_body Bd
  have e0 : s₁.heap = h0 := by rw [← hh, Bd.state]; rfl
  have N0 := Fr.nil n0
  have K0 : Keep h0 h0 [a] := Keep.refl _ _
  show Done p e below s (Qrm_init Z a fl rq bd u1 u2 u3 h0 n0) ({ frames := 2, cells := 0, slots := 0, locals := 24 } : Room).cells ({ frames := 2, cells := 0, slots := 0, locals := 24 } : Room).slots (s₁.setTop (entryFrame m #[(.ref a), (.int fl), (.int rq), (.ref bd)] 4))
  refine Done.pre (fun t_ k_ => castTop (ef_rm_init m a fl rq bd) k_) ?_
  show Done _ _ _ _ _ _ _ (s₁.setTop (mkF m 0 #[Rv a, Iv fl, Iv rq, Rv bd] []))
  have sg_1 : ∀ tt_, Steps p.tables e below (s₁.setTop (mkF m 1 #[Rv a, Iv fl, Iv rq, Rv bd] [(.ref a)])) tt_ → Steps p.tables e below (s₁.setTop (mkF m 0 #[Rv a, Iv fl, Iv rq, Rv bd] [])) tt_ := by
    intro tt_ kt_
    refine XS.aloadN X0.here hEX rfl (hb hBY d_prog_35_method_1_code_0) rfl rfl ?_
    exact kt_
  refine Done.pre sg_1 ?_
  obtain ⟨_, _, ⟨T_2, L_2, k_2, n_2⟩, -, X_2, ⟨Lc_2, hQ_2, l_2, y_2, z_2⟩, st_2⟩ := X0.specialBack hEX (y := (⟨"java/lang/Record", "<init>", "()V"⟩ : MethodName)) rfl hOW (mvT hZW (hw _ (List.mem_of_getElem? (i := 7) rfl))) (mvT hZW (hw _ (List.mem_of_getElem? (i := 8) rfl))) (mvT hZW (hw _ (List.mem_of_getElem? (i := 11) rfl))) (by decide) (backOf (W := 0) (rm_rec l Z aZ hw [] a h0 n0 (Nat.le_trans Z0 K0.1) ) hZW (hw _ (List.mem_of_getElem? (i := 11) rfl)) (hw _ (List.mem_of_getElem? (i := 10) rfl)) (by decide) (by decide)) (g := (mkF m 1 #[Rv a, Iv fl, Iv rq, Rv bd] [(.ref a)])) rfl (by rw [hMX]; rfl) (Steps.refl _) (a := a) (argsL := []) (rest := []) (lenOf pd___V_0 rfl) rfl (by show 2 * 0 + _ ≤ _; exact Nat.le_of_eq rfl) (hb hBY d_prog_35_method_1_code_1) (fun _ _ => ⟨rfl, e0, (by decide : 0 + 0 ≤ _), (by decide : 0 + 0 ≤ _)⟩)
  dsimp only [Pt.U, Pt.locs, Pt.cells, Pt.slots] at X_2 l_2 y_2 z_2 st_2 hQ_2
  subst l_2 y_2 z_2
  obtain ⟨rfl, N_2q, e_2⟩ := hQ_2
  have N_2 := Fr.app N0 N_2q
  refine Done.pre (fun _ k_ => st_2.trans k_) ?_
  show Done _ _ _ _ _ _ _ (T_2.setTop (mkF m 4 #[Rv a, Iv fl, Iv rq, Rv bd] []))
  have sg_3 : ∀ tt_, Steps p.tables e below (T_2.setTop (mkF m 6 #[Rv a, Iv fl, Iv rq, Rv bd] [(.int fl), (.ref a)])) tt_ → Steps p.tables e below (T_2.setTop (mkF m 4 #[Rv a, Iv fl, Iv rq, Rv bd] [])) tt_ := by
    intro tt_ kt_
    refine XS.aloadN X_2.here hEX rfl (hb hBY d_prog_35_method_1_code_4) rfl rfl ?_
    show Steps p.tables e below (T_2.setTop (mkF m 5 #[Rv a, Iv fl, Iv rq, Rv bd] [(.ref a)])) tt_
    refine XS.iloadN X_2.here hEX rfl (hb hBY d_prog_35_method_1_code_5) rfl ?_
    exact kt_
  refine Done.pre sg_3 ?_
  obtain ⟨T_4, h_4, X_4, e_4, W_4, st_4⟩ := putF X_2 hEX hZW hOW (host := "") (Or.inl (hw _ (List.mem_of_getElem? (i := 15) rfl))) Via.refl e_2 F0 Ex (Or.inr ⟨(hw _ (List.mem_of_getElem? (i := 16) rfl)), rfl, hNM⟩) (hw _ (List.mem_of_getElem? (i := 2) rfl)) (ty := .int) (by decide) rfl rfl (g := (mkF m 6 #[Rv a, Iv fl, Iv rq, Rv bd] [(.int fl), (.ref a)])) rfl rfl (hb hBY d_prog_35_method_1_code_6)
  have N_4 := Fr.snoc X_4 N_2 ga
  have K__5 : Keep h0 h_4 [a] := K0.wr W_4 (Or.inl (List.mem_of_getElem? (i := 0) rfl))
  have f_6 : Exa Z h_4 a "com/example/tidelog/tidelog/rpc/Frame" := Ex.wr W_4
  have f_7 : Fld Z h_4 a "com/example/tidelog/tidelog/rpc/Frame" "request" "I" u2 := F1.other W_4 (Or.inr (slot_ne (Or.inr (hw _ (List.mem_of_getElem? (i := 18) rfl))) (Or.inr (hw _ (List.mem_of_getElem? (i := 16) rfl))) (by decide) (t := .int) (t' := .int) (by decide) (by decide)))
  have f_8 : Fld Z h_4 a "com/example/tidelog/tidelog/rpc/Frame" "body" "[B" u3 := F2.other W_4 (Or.inr (slot_ne (Or.inr (hw _ (List.mem_of_getElem? (i := 20) rfl))) (Or.inr (hw _ (List.mem_of_getElem? (i := 16) rfl))) (by decide) (t := (.array .byte)) (t' := .int) (by decide) (by decide)))
  have f_9 : Fld Z h_4 a "com/example/tidelog/tidelog/rpc/Frame" "flags" "I" (.int fl) := F0.same W_4
  refine Done.pre st_4 ?_
  show Done _ _ _ _ _ _ _ (T_4.setTop (mkF m 9 #[Rv a, Iv fl, Iv rq, Rv bd] []))
  have sg_10 : ∀ tt_, Steps p.tables e below (T_4.setTop (mkF m 11 #[Rv a, Iv fl, Iv rq, Rv bd] [(.int rq), (.ref a)])) tt_ → Steps p.tables e below (T_4.setTop (mkF m 9 #[Rv a, Iv fl, Iv rq, Rv bd] [])) tt_ := by
    intro tt_ kt_
    refine XS.aloadN X_4.here hEX rfl (hb hBY d_prog_35_method_1_code_9) rfl rfl ?_
    show Steps p.tables e below (T_4.setTop (mkF m 10 #[Rv a, Iv fl, Iv rq, Rv bd] [(.ref a)])) tt_
    refine XS.iloadN X_4.here hEX rfl (hb hBY d_prog_35_method_1_code_10) rfl ?_
    exact kt_
  refine Done.pre sg_10 ?_
  obtain ⟨T_11, h_11, X_11, e_11, W_11, st_11⟩ := putF X_4 hEX hZW hOW (host := "") (Or.inl (hw _ (List.mem_of_getElem? (i := 17) rfl))) Via.refl e_4 f_7 f_6 (Or.inr ⟨(hw _ (List.mem_of_getElem? (i := 18) rfl)), rfl, hNM⟩) (hw _ (List.mem_of_getElem? (i := 2) rfl)) (ty := .int) (by decide) rfl rfl (g := (mkF m 11 #[Rv a, Iv fl, Iv rq, Rv bd] [(.int rq), (.ref a)])) rfl rfl (hb hBY d_prog_35_method_1_code_11)
  have N_11 := Fr.snoc X_11 N_4 ga
  have K__12 : Keep h0 h_11 [a] := K__5.wr W_11 (Or.inl (List.mem_of_getElem? (i := 0) rfl))
  have f_13 : Exa Z h_11 a "com/example/tidelog/tidelog/rpc/Frame" := f_6.wr W_11
  have f_14 : Fld Z h_11 a "com/example/tidelog/tidelog/rpc/Frame" "body" "[B" u3 := f_8.other W_11 (Or.inr (slot_ne (Or.inr (hw _ (List.mem_of_getElem? (i := 20) rfl))) (Or.inr (hw _ (List.mem_of_getElem? (i := 18) rfl))) (by decide) (t := (.array .byte)) (t' := .int) (by decide) (by decide)))
  have f_15 : Fld Z h_11 a "com/example/tidelog/tidelog/rpc/Frame" "flags" "I" (.int fl) := f_9.other W_11 (Or.inr (slot_ne (Or.inr (hw _ (List.mem_of_getElem? (i := 16) rfl))) (Or.inr (hw _ (List.mem_of_getElem? (i := 18) rfl))) (by decide) (t := .int) (t' := .int) (by decide) (by decide)))
  have f_16 : Fld Z h_11 a "com/example/tidelog/tidelog/rpc/Frame" "request" "I" (.int rq) := f_7.same W_11
  refine Done.pre st_11 ?_
  show Done _ _ _ _ _ _ _ (T_11.setTop (mkF m 14 #[Rv a, Iv fl, Iv rq, Rv bd] []))
  have sg_17 : ∀ tt_, Steps p.tables e below (T_11.setTop (mkF m 16 #[Rv a, Iv fl, Iv rq, Rv bd] [(.ref bd), (.ref a)])) tt_ → Steps p.tables e below (T_11.setTop (mkF m 14 #[Rv a, Iv fl, Iv rq, Rv bd] [])) tt_ := by
    intro tt_ kt_
    refine XS.aloadN X_11.here hEX rfl (hb hBY d_prog_35_method_1_code_14) rfl rfl ?_
    show Steps p.tables e below (T_11.setTop (mkF m 15 #[Rv a, Iv fl, Iv rq, Rv bd] [(.ref a)])) tt_
    refine XS.aloadN X_11.here hEX rfl (hb hBY d_prog_35_method_1_code_15) rfl rfl ?_
    exact kt_
  refine Done.pre sg_17 ?_
  obtain ⟨T_18, h_18, X_18, e_18, W_18, st_18⟩ := putF X_11 hEX hZW hOW (host := "") (Or.inl (hw _ (List.mem_of_getElem? (i := 19) rfl))) Via.refl e_11 f_14 f_13 (Or.inr ⟨(hw _ (List.mem_of_getElem? (i := 20) rfl)), rfl, hNM⟩) (hw _ (List.mem_of_getElem? (i := 2) rfl)) (ty := (.array .byte)) (by decide) rfl rfl (g := (mkF m 16 #[Rv a, Iv fl, Iv rq, Rv bd] [(.ref bd), (.ref a)])) rfl rfl (hb hBY d_prog_35_method_1_code_16)
  have N_18 := Fr.snoc X_18 N_11 ga
  have K__19 : Keep h0 h_18 [a] := K__12.wr W_18 (Or.inl (List.mem_of_getElem? (i := 0) rfl))
  have f_20 : Exa Z h_18 a "com/example/tidelog/tidelog/rpc/Frame" := f_13.wr W_18
  have f_21 : Fld Z h_18 a "com/example/tidelog/tidelog/rpc/Frame" "flags" "I" (.int fl) := f_15.other W_18 (Or.inr (slot_ne (Or.inr (hw _ (List.mem_of_getElem? (i := 16) rfl))) (Or.inr (hw _ (List.mem_of_getElem? (i := 20) rfl))) (by decide) (t := .int) (t' := (.array .byte)) (by decide) (by decide)))
  have f_22 : Fld Z h_18 a "com/example/tidelog/tidelog/rpc/Frame" "request" "I" (.int rq) := f_16.other W_18 (Or.inr (slot_ne (Or.inr (hw _ (List.mem_of_getElem? (i := 18) rfl))) (Or.inr (hw _ (List.mem_of_getElem? (i := 20) rfl))) (by decide) (t := .int) (t' := (.array .byte)) (by decide) (by decide)))
  have f_23 : Fld Z h_18 a "com/example/tidelog/tidelog/rpc/Frame" "body" "[B" (.ref bd) := f_14.same W_18
  refine Done.pre st_18 ?_
  show Done _ _ _ _ _ _ _ (T_18.setTop (mkF m 19 #[Rv a, Iv fl, Iv rq, Rv bd] []))
  exact Done.retV X_18 hEX hLK hRT (hb hBY d_prog_35_method_1_code_19) (by rw [e_18]; exact ⟨rfl, N_18, K__19, f_20, f_21, f_22, f_23⟩) (by decide) (by decide)
theorem d_prog_35_method_7_code_0 : decode prog_35_method_7_code 0 = .ok (.aload_n 0, 1) := by decide +kernel
theorem d_prog_35_method_7_code_1 : decode prog_35_method_7_code 1 = .ok (.getfield 7, 3) := by decide +kernel
theorem d_prog_35_method_7_code_4 : decode prog_35_method_7_code 4 = .ok (.bipush 8, 2) := by decide +kernel
theorem d_prog_35_method_7_code_6 : decode prog_35_method_7_code 6 = .ok (.iand, 1) := by decide +kernel
theorem d_prog_35_method_7_code_7 : decode prog_35_method_7_code 7 = .ok (.ifCond .eq 7, 3) := by decide +kernel
theorem d_prog_35_method_7_code_14 : decode prog_35_method_7_code 14 = .ok (.iconst 0, 1) := by decide +kernel
theorem d_prog_35_method_7_code_15 : decode prog_35_method_7_code 15 = .ok (.ireturn, 1) := by decide +kernel
theorem d_prog_35_method_7_code_10 : decode prog_35_method_7_code 10 = .ok (.iconst 1, 1) := by decide +kernel
theorem d_prog_35_method_7_code_11 : decode prog_35_method_7_code 11 = .ok (.goto 4, 3) := by decide +kernel
def Qrm_stream (Z : State) (a : Addr) (w : Int32) (h0 : Heap) (n0 : Nat) (v_ : Option Value) (h_ : Heap) (L_ : List Loc) : Prop := v_ = some (.int (own_flag (8 : Int32) w)) ∧ Fr n0 L_ ∧ h_ = h0
theorem ef_rm_stream (m : MethodId) (x0 : Addr) : entryFrame m #[(.ref x0)] 1 = mkF m 0 #[.val (.ref x0)] [] := by first | (simp [entryFrame, mkF, argsToLocals, Value.category]; done) | rfl
set_option maxRecDepth 65536 in
set_option maxHeartbeats 40000000 in
theorem rm_stream (l : Launch) (Z : State) (aZ : Array Value) (hw : ∀ d ∈ tables_1, d.before aZ Z = true) (ws : List Jvm.Cond) (a : Addr) (w : Int32) (h0 : Heap) (n0 : Nat) (Z0 : n0 ≤ h0.size) (F : Fld Z h0 a "com/example/tidelog/tidelog/rpc/Frame" "flags" "I" (.int w)) :
    MetFree l (⟨"com/example/tidelog/tidelog/rpc/Frame", "stream", "()Z"⟩ : MethodName) (head1 (Jvm.Cond.code (⟨"com/example/tidelog/tidelog/rpc/Frame", "stream", "()Z"⟩ : MethodName) prog_35_method_7_code 1 (some .boolean) :: ws) ({ frames := 0, cells := 0, slots := 0, locals := 0 } : Room)) (fun a_ U_ => a_ = #[(.ref a)] ∧ Z.Warmed39 U_.vm ∧ U_.heap = h0) (fun _ _ _ _ _ => True) (fun _ U_ o_ U2_ => ∃ v_ L_, o_ = .returned v_ ∧ Qrm_stream Z a w h0 n0 v_ U2_.heap L_ ∧ FrameEnd U_ o_ U2_ L_ ({ frames := 0, cells := 0, slots := 0, locals := 0 } : Room).cells ({ frames := 0, cells := 0, slots := 0, locals := 0 } : Room).slots) := by
  refine MetFree.of_bodySF (plainFor_of_name pn_com_example_tidelog_tidelog_rpc_Frame) hisR ?_
  intro p e s m args below meth cO s₁ Bd hml0 hP hK
  obtain ⟨rfl, hZW, hh⟩ := hP
  have hEX := Bd.exec
  have hBY := Bd.bytes
  have hMX : cO.maxLocals = 1 := hml0
  have hOW : s.vm.findClass "com/example/tidelog/tidelog/rpc/Frame" = some m.cls := findClass_of_methodNamed Bd.named
  have hNM := (name_of_methodNamed Bd.named Bd.method).1
  have hLK := Bd.notSynchronized
  have hRT := Bd.returns
  have X0 : Stand p l e ({ frames := 0, cells := 0, slots := 0, locals := 0 } : Room) s m #[(.ref a)] below meth cO s₁ [] 0 0 := Stand.of_body Bd
  have e0 : s₁.heap = h0 := by rw [← hh, Bd.state]; rfl
  have N0 := Fr.nil n0
  have K0 : Keep h0 h0 [] := Keep.refl _ _
  show Done p e below s (Qrm_stream Z a w h0 n0) ({ frames := 0, cells := 0, slots := 0, locals := 0 } : Room).cells ({ frames := 0, cells := 0, slots := 0, locals := 0 } : Room).slots (s₁.setTop (entryFrame m #[(.ref a)] 1))
  refine Done.pre (fun t_ k_ => castTop (ef_rm_stream m a) k_) ?_
  show Done _ _ _ _ _ _ _ (s₁.setTop (mkF m 0 #[Rv a] []))
  have sg_1 : ∀ tt_, Steps p.tables e below (s₁.setTop (mkF m 1 #[Rv a] [(.ref a)])) tt_ → Steps p.tables e below (s₁.setTop (mkF m 0 #[Rv a] [])) tt_ := by
    intro tt_ kt_
    refine XS.aloadN X0.here hEX rfl (hb hBY d_prog_35_method_7_code_0) rfl rfl ?_
    exact kt_
  refine Done.pre sg_1 ?_
  obtain ⟨T_2, X_2, e_2, st_2⟩ := getF X0 hEX hZW hOW (host := "") (Or.inl (hw _ (List.mem_of_getElem? (i := 15) rfl))) Via.refl e0 F (g := (mkF m 1 #[Rv a] [(.ref a)])) rfl rfl (hb hBY d_prog_35_method_7_code_1)
  refine Done.pre st_2 ?_
  show Done _ _ _ _ _ _ _ (T_2.setTop (mkF m 4 #[Rv a] [(.int w)]))
  have sg_3 : ∀ tt_, Steps p.tables e below (T_2.setTop (mkF m 7 #[Rv a] [(.int (w &&& (8 : Int32)))])) tt_ → Steps p.tables e below (T_2.setTop (mkF m 4 #[Rv a] [(.int w)])) tt_ := by
    intro tt_ kt_
    refine XS.bipush X_2.here hEX rfl (hb hBY d_prog_35_method_7_code_4) ?_
    show Steps p.tables e below (T_2.setTop (mkF m 6 #[Rv a] [(.int (8 : Int32)), (.int w)])) tt_
    refine XS.iand X_2.here hEX rfl (hb hBY d_prog_35_method_7_code_6) rfl ?_
    exact kt_
  refine Done.pre sg_3 ?_
  by_cases hc7 : (w &&& (8 : Int32)) = (0 : Int32)
  · skip
    have sg_4 : ∀ tt_, Steps p.tables e below (T_2.setTop (mkF m 15 #[Rv a] [(.int (0 : Int32))])) tt_ → Steps p.tables e below (T_2.setTop (mkF m 7 #[Rv a] [(.int (w &&& (8 : Int32)))])) tt_ := by
      intro tt_ kt_
      refine XS.ifYes X_2.here hEX rfl (pc0 := 7) (pc' := 14) rfl (hb hBY d_prog_35_method_7_code_7) rfl ((if0 _ _).trans (teq hc7).1) (by decide) (by decide) ?_
      show Steps p.tables e below (T_2.setTop (mkF m 14 #[Rv a] [])) tt_
      refine XS.iconst X_2.here hEX rfl (hb hBY d_prog_35_method_7_code_14) ?_
      exact kt_
    refine Done.pre sg_4 ?_
    exact Done.retN X_2 hEX hLK (t := .boolean) hRT (by simp) (hb hBY d_prog_35_method_7_code_15) (by rw [e_2]; exact ⟨(by rw [own_flag, if_pos hc7]; rfl), N0, rfl⟩) (by decide) (by decide)
  · skip
    have sg_5 : ∀ tt_, Steps p.tables e below (T_2.setTop (mkF m 15 #[Rv a] [(.int (1 : Int32))])) tt_ → Steps p.tables e below (T_2.setTop (mkF m 7 #[Rv a] [(.int (w &&& (8 : Int32)))])) tt_ := by
      intro tt_ kt_
      refine XS.ifNo X_2.here hEX rfl (hb hBY d_prog_35_method_7_code_7) rfl ((if0 _ _).trans (feq hc7).1) ?_
      show Steps p.tables e below (T_2.setTop (mkF m 10 #[Rv a] [])) tt_
      refine XS.iconst X_2.here hEX rfl (hb hBY d_prog_35_method_7_code_10) ?_
      show Steps p.tables e below (T_2.setTop (mkF m 11 #[Rv a] [(.int (1 : Int32))])) tt_
      refine XS.goto X_2.here hEX rfl (pc0 := 11) (pc' := 15) rfl (hb hBY d_prog_35_method_7_code_11) (by decide) (by decide) ?_
      exact kt_
    refine Done.pre sg_5 ?_
    exact Done.retN X_2 hEX hLK (t := .boolean) hRT (by simp) (hb hBY d_prog_35_method_7_code_15) (by rw [e_2]; exact ⟨(by rw [own_flag, if_neg hc7]; rfl), N0, rfl⟩) (by decide) (by decide)
theorem pd__II_B_V_2 : parseMethodDescriptor "(II[B)V" = some ⟨[.int, .int, (.array .byte)], none⟩ := by decide +kernel
theorem pd___Z_1 : parseMethodDescriptor "()Z" = some ⟨[], some .boolean⟩ := by decide +kernel
def Qrm0 (Z : State) (p1 : Int32) (p2 : Int32) (p3 : Int32) (h0 : Heap) (n0 : Nat) (v_ : Option Value) (h_ : Heap) (L_ : List Loc) : Prop := v_ = some (.int (1 : Int32)) ∧ Fr n0 L_ ∧ Keep h0 h_ []
theorem ef_rm0 (m : MethodId) (x0 : Int32) (x1 : Int32) (x2 : Int32) : entryFrame m #[(.int x0), (.int x1), (.int x2)] maxLocals = mkF m 0 #[.val (.int x0), .val (.int x1), .val (.int x2), .unset, .unset, .unset, .unset, .unset, .unset, .unset, .unset, .unset, .unset] [] := by first | (simp [entryFrame, mkF, argsToLocals, Value.category, maxLocals]; done) | rfl
theorem pn_com_example_tidelog_tidelog_rpc_FrameStreamPinLaw : plainName "com/example/tidelog/tidelog/rpc/FrameStreamPinLaw" = true := by first | (simp [plainName, overriddenIn]; done) | decide +kernel
set_option maxRecDepth 65536 in
set_option maxHeartbeats 40000000 in
theorem rm0 (l : Launch) (Z : State) (aZ : Array Value) (hw : ∀ d ∈ tables_1, d.before aZ Z = true) (ws : List Jvm.Cond) (p1 : Int32) (p2 : Int32) (p3 : Int32) (h0 : Heap) (n0 : Nat) (Z0 : n0 ≤ h0.size) :
    MetFree l x (head1 (Jvm.Cond.code x code maxLocals ret :: ws) room_1) (fun a_ U_ => a_ = #[(.int p1), (.int p2), (.int p3)] ∧ Z.Warmed39 U_.vm ∧ U_.heap = h0) (fun _ _ _ _ _ => True) (fun _ U_ o_ U2_ => ∃ v_ L_, o_ = .returned v_ ∧ Qrm0 Z p1 p2 p3 h0 n0 v_ U2_.heap L_ ∧ FrameEnd U_ o_ U2_ L_ room_1.cells room_1.slots) := by
  refine MetFree.of_bodySF (plainFor_of_name pn_com_example_tidelog_tidelog_rpc_FrameStreamPinLaw) hisR ?_
  intro p e s m args below meth cO s₁ Bd hml0 hP hK
  obtain ⟨rfl, hZW, hh⟩ := hP
  have hEX := Bd.exec
  have hBY := Bd.bytes
  have hMX : cO.maxLocals = 13 := hml0
  have hOW : s.vm.findClass "com/example/tidelog/tidelog/rpc/FrameStreamPinLaw" = some m.cls := findClass_of_methodNamed Bd.named
  have hNM := (name_of_methodNamed Bd.named Bd.method).1
  have hLK := Bd.notSynchronized
  have hRT := Bd.returns
  have X0 : Stand p l e room_1 s m #[(.int p1), (.int p2), (.int p3)] below meth cO s₁ [] 0 0 := Stand.of_body Bd
  have e0 : s₁.heap = h0 := by rw [← hh, Bd.state]; rfl
  have N0 := Fr.nil n0
  have K0 : Keep h0 h0 [] := Keep.refl _ _
  show Done p e below s (Qrm0 Z p1 p2 p3 h0 n0) room_1.cells room_1.slots (s₁.setTop (entryFrame m #[(.int p1), (.int p2), (.int p3)] maxLocals))
  refine Done.pre (fun t_ k_ => castTop (ef_rm0 m p1 p2 p3) k_) ?_
  show Done _ _ _ _ _ _ _ (s₁.setTop (mkF m 0 #[Iv p1, Iv p2, Iv p3, Us, Us, Us, Us, Us, Us, Us, Us, Us, Us] []))
  have sg_1 : ∀ tt_, Steps p.tables e below (s₁.setTop (mkF m 1 #[Iv p1, Iv p2, Iv p3, Us, Us, Us, Us, Us, Us, Us, Us, Us, Us] [(.int (0 : Int32))])) tt_ → Steps p.tables e below (s₁.setTop (mkF m 0 #[Iv p1, Iv p2, Iv p3, Us, Us, Us, Us, Us, Us, Us, Us, Us, Us] [])) tt_ := by
    intro tt_ kt_
    refine XS.iconst X0.here hEX rfl (hb hBY at_0) ?_
    exact kt_
  refine Done.pre sg_1 ?_
  obtain ⟨T_2, h_2, k_2, X_2, e_2, E_2, A_2, st_2⟩ := newP X0 hEX hZW (hw _ (List.mem_of_getElem? (i := 0) rfl)) e0 (g := (mkF m 1 #[Iv p1, Iv p2, Iv p3, Us, Us, Us, Us, Us, Us, Us, Us, Us, Us] [(.int (0 : Int32))])) rfl (hb hBY at_1) rfl (by decide) (cap := 0) (by decide) (by decide) (by decide) (by decide)
  obtain ⟨b_2, g_2⟩ : ∃ z, z = h0.size := ⟨_, rfl⟩
  rw [← g_2] at A_2 st_2
  have sz_b_2 : h0.size ≤ b_2 := Nat.le_trans K0.1 (Nat.le_of_eq g_2.symm)
  have ge_b_2 : n0 ≤ b_2 := Nat.le_trans Z0 sz_b_2
  have K__3 : Keep h0 h_2 [] := K0.ext E_2
  have f_4 : Arv Z h_2 b_2 k_2 .byte (0 : Int32) [] (.int (0 : Int32)) := (Arv.new A_2 (by decide)).pad (pad_rep [] (.int (0 : Int32)) 0)
  refine Done.pre st_2 ?_
  show Done _ _ _ _ _ _ _ (T_2.setTop (mkF m 3 #[Iv p1, Iv p2, Iv p3, Us, Us, Us, Us, Us, Us, Us, Us, Us, Us] [(.ref b_2)]))
  have sg_5 : ∀ tt_, Steps p.tables e below (T_2.setTop (mkF m 4 #[Iv p1, Iv p2, Iv p3, Rv b_2, Us, Us, Us, Us, Us, Us, Us, Us, Us] [])) tt_ → Steps p.tables e below (T_2.setTop (mkF m 3 #[Iv p1, Iv p2, Iv p3, Us, Us, Us, Us, Us, Us, Us, Us, Us, Us] [(.ref b_2)])) tt_ := by
    intro tt_ kt_
    refine XS.astoreN X_2.here hEX rfl (hb hBY at_3) rfl rfl (l' := #[Iv p1, Iv p2, Iv p3, Rv b_2, Us, Us, Us, Us, Us, Us, Us, Us, Us]) rfl ?_
    exact kt_
  refine Done.pre sg_5 ?_
  have jn_6 : ∀ (ex : Int32) (hex : ex = own_flag (8 : Int32) p1), Done p e below s (Qrm0 Z p1 p2 p3 h0 n0) room_1.cells room_1.slots (T_2.setTop (mkF m 18 #[Iv p1, Iv p2, Iv p3, Rv b_2, Us, Us, Us, Us, Us, Us, Us, Us, Us] [(.int ex)])) := by
    intro ex hex
    show Done _ _ _ _ _ _ _ (T_2.setTop (mkF m 18 #[Iv p1, Iv p2, Iv p3, Rv b_2, Us, Us, Us, Us, Us, Us, Us, Us, Us] [(.int ex)]))
    have sg_7 : ∀ tt_, Steps p.tables e below (T_2.setTop (mkF m 34 #[Iv p1, Iv p2, Iv p3, Rv b_2, Iv ex, Iv (p1 ^^^ (p3 &&& (-9 : Int32))), Iv (p1 ^^^ (8 : Int32)), Us, Us, Us, Us, Us, Us] [])) tt_ → Steps p.tables e below (T_2.setTop (mkF m 18 #[Iv p1, Iv p2, Iv p3, Rv b_2, Us, Us, Us, Us, Us, Us, Us, Us, Us] [(.int ex)])) tt_ := by
      intro tt_ kt_
      refine XS.istore X_2.here hEX rfl (hb hBY at_18) rfl (l' := #[Iv p1, Iv p2, Iv p3, Rv b_2, Iv ex, Us, Us, Us, Us, Us, Us, Us, Us]) rfl ?_
      show Steps p.tables e below (T_2.setTop (mkF m 20 #[Iv p1, Iv p2, Iv p3, Rv b_2, Iv ex, Us, Us, Us, Us, Us, Us, Us, Us] [])) tt_
      refine XS.iloadN X_2.here hEX rfl (hb hBY at_20) rfl ?_
      show Steps p.tables e below (T_2.setTop (mkF m 21 #[Iv p1, Iv p2, Iv p3, Rv b_2, Iv ex, Us, Us, Us, Us, Us, Us, Us, Us] [(.int p1)])) tt_
      refine XS.iloadN X_2.here hEX rfl (hb hBY at_21) rfl ?_
      show Steps p.tables e below (T_2.setTop (mkF m 22 #[Iv p1, Iv p2, Iv p3, Rv b_2, Iv ex, Us, Us, Us, Us, Us, Us, Us, Us] [(.int p3), (.int p1)])) tt_
      refine XS.bipush X_2.here hEX rfl (hb hBY at_22) ?_
      show Steps p.tables e below (T_2.setTop (mkF m 24 #[Iv p1, Iv p2, Iv p3, Rv b_2, Iv ex, Us, Us, Us, Us, Us, Us, Us, Us] [(.int (-9 : Int32)), (.int p3), (.int p1)])) tt_
      refine XS.iand X_2.here hEX rfl (hb hBY at_24) rfl ?_
      show Steps p.tables e below (T_2.setTop (mkF m 25 #[Iv p1, Iv p2, Iv p3, Rv b_2, Iv ex, Us, Us, Us, Us, Us, Us, Us, Us] [(.int (p3 &&& (-9 : Int32))), (.int p1)])) tt_
      refine XS.ixor X_2.here hEX rfl (hb hBY at_25) rfl ?_
      show Steps p.tables e below (T_2.setTop (mkF m 26 #[Iv p1, Iv p2, Iv p3, Rv b_2, Iv ex, Us, Us, Us, Us, Us, Us, Us, Us] [(.int (p1 ^^^ (p3 &&& (-9 : Int32))))])) tt_
      refine XS.istore X_2.here hEX rfl (hb hBY at_26) rfl (l' := #[Iv p1, Iv p2, Iv p3, Rv b_2, Iv ex, Iv (p1 ^^^ (p3 &&& (-9 : Int32))), Us, Us, Us, Us, Us, Us, Us]) rfl ?_
      show Steps p.tables e below (T_2.setTop (mkF m 28 #[Iv p1, Iv p2, Iv p3, Rv b_2, Iv ex, Iv (p1 ^^^ (p3 &&& (-9 : Int32))), Us, Us, Us, Us, Us, Us, Us] [])) tt_
      refine XS.iloadN X_2.here hEX rfl (hb hBY at_28) rfl ?_
      show Steps p.tables e below (T_2.setTop (mkF m 29 #[Iv p1, Iv p2, Iv p3, Rv b_2, Iv ex, Iv (p1 ^^^ (p3 &&& (-9 : Int32))), Us, Us, Us, Us, Us, Us, Us] [(.int p1)])) tt_
      refine XS.bipush X_2.here hEX rfl (hb hBY at_29) ?_
      show Steps p.tables e below (T_2.setTop (mkF m 31 #[Iv p1, Iv p2, Iv p3, Rv b_2, Iv ex, Iv (p1 ^^^ (p3 &&& (-9 : Int32))), Us, Us, Us, Us, Us, Us, Us] [(.int (8 : Int32)), (.int p1)])) tt_
      refine XS.ixor X_2.here hEX rfl (hb hBY at_31) rfl ?_
      show Steps p.tables e below (T_2.setTop (mkF m 32 #[Iv p1, Iv p2, Iv p3, Rv b_2, Iv ex, Iv (p1 ^^^ (p3 &&& (-9 : Int32))), Us, Us, Us, Us, Us, Us, Us] [(.int (p1 ^^^ (8 : Int32)))])) tt_
      refine XS.istore X_2.here hEX rfl (hb hBY at_32) rfl (l' := #[Iv p1, Iv p2, Iv p3, Rv b_2, Iv ex, Iv (p1 ^^^ (p3 &&& (-9 : Int32))), Iv (p1 ^^^ (8 : Int32)), Us, Us, Us, Us, Us, Us]) rfl ?_
      exact kt_
    refine Done.pre sg_7 ?_
    obtain ⟨T_8, h_8, X_8, e_8, E_8, A_8, D_8, -, st_8⟩ := newO X_2 hEX hZW hOW (hw _ (List.mem_of_getElem? (i := 1) rfl)) (hw _ (List.mem_of_getElem? (i := 2) rfl)) (hw _ (List.mem_of_getElem? (i := 3) rfl)) e_2 (g := (mkF m 34 #[Iv p1, Iv p2, Iv p3, Rv b_2, Iv ex, Iv (p1 ^^^ (p3 &&& (-9 : Int32))), Iv (p1 ^^^ (8 : Int32)), Us, Us, Us, Us, Us, Us] [])) rfl (hb hBY at_34) (by decide) (by decide)
    obtain ⟨b_8, g_8⟩ : ∃ z, z = h_2.size := ⟨_, rfl⟩
    rw [← g_8] at A_8 D_8 st_8
    have sz_b_8 : h0.size ≤ b_8 := Nat.le_trans K__3.1 (Nat.le_of_eq g_8.symm)
    have ge_b_8 : n0 ≤ b_8 := Nat.le_trans Z0 sz_b_8
    have ne_b_2_b_8 : b_2 ≠ b_8 := Nat.ne_of_lt (Nat.lt_of_lt_of_le f_4.lt (Nat.le_of_eq g_8.symm))
    have K__9 : Keep h0 h_8 [] := K__3.ext E_8
    have f_10 : Arv Z h_8 b_2 k_2 .byte (0 : Int32) [] (.int (0 : Int32)) := f_4.ext E_8
    have f_11 : Exa Z h_8 b_8 "com/example/tidelog/tidelog/rpc/Frame" := A_8
    have f_12 : Fld Z h_8 b_8 "com/example/tidelog/tidelog/rpc/Frame" "flags" "I" (.int (0 : Int32)) := D_8 (Or.inr (hw _ (List.mem_of_getElem? (i := 16) rfl))) (ty := .int) (by decide)
    have f_13 : Fld Z h_8 b_8 "com/example/tidelog/tidelog/rpc/Frame" "request" "I" (.int (0 : Int32)) := D_8 (Or.inr (hw _ (List.mem_of_getElem? (i := 18) rfl))) (ty := .int) (by decide)
    have f_14 : Fld Z h_8 b_8 "com/example/tidelog/tidelog/rpc/Frame" "body" "[B" .null := D_8 (Or.inr (hw _ (List.mem_of_getElem? (i := 20) rfl))) (ty := (.array .byte)) (by decide)
    refine Done.pre st_8 ?_
    show Done _ _ _ _ _ _ _ (T_8.setTop (mkF m 37 #[Iv p1, Iv p2, Iv p3, Rv b_2, Iv ex, Iv (p1 ^^^ (p3 &&& (-9 : Int32))), Iv (p1 ^^^ (8 : Int32)), Us, Us, Us, Us, Us, Us] [(.ref b_8)]))
    have sg_15 : ∀ tt_, Steps p.tables e below (T_8.setTop (mkF m 41 #[Iv p1, Iv p2, Iv p3, Rv b_2, Iv ex, Iv (p1 ^^^ (p3 &&& (-9 : Int32))), Iv (p1 ^^^ (8 : Int32)), Us, Us, Us, Us, Us, Us] [(.ref b_2), (.int p2), (.int p1), (.ref b_8), (.ref b_8)])) tt_ → Steps p.tables e below (T_8.setTop (mkF m 37 #[Iv p1, Iv p2, Iv p3, Rv b_2, Iv ex, Iv (p1 ^^^ (p3 &&& (-9 : Int32))), Iv (p1 ^^^ (8 : Int32)), Us, Us, Us, Us, Us, Us] [(.ref b_8)])) tt_ := by
      intro tt_ kt_
      refine XS.dup X_8.here hEX rfl (hb hBY at_37) rfl rfl ?_
      show Steps p.tables e below (T_8.setTop (mkF m 38 #[Iv p1, Iv p2, Iv p3, Rv b_2, Iv ex, Iv (p1 ^^^ (p3 &&& (-9 : Int32))), Iv (p1 ^^^ (8 : Int32)), Us, Us, Us, Us, Us, Us] [(.ref b_8), (.ref b_8)])) tt_
      refine XS.iloadN X_8.here hEX rfl (hb hBY at_38) rfl ?_
      show Steps p.tables e below (T_8.setTop (mkF m 39 #[Iv p1, Iv p2, Iv p3, Rv b_2, Iv ex, Iv (p1 ^^^ (p3 &&& (-9 : Int32))), Iv (p1 ^^^ (8 : Int32)), Us, Us, Us, Us, Us, Us] [(.int p1), (.ref b_8), (.ref b_8)])) tt_
      refine XS.iloadN X_8.here hEX rfl (hb hBY at_39) rfl ?_
      show Steps p.tables e below (T_8.setTop (mkF m 40 #[Iv p1, Iv p2, Iv p3, Rv b_2, Iv ex, Iv (p1 ^^^ (p3 &&& (-9 : Int32))), Iv (p1 ^^^ (8 : Int32)), Us, Us, Us, Us, Us, Us] [(.int p2), (.int p1), (.ref b_8), (.ref b_8)])) tt_
      refine XS.aloadN X_8.here hEX rfl (hb hBY at_40) rfl rfl ?_
      exact kt_
    refine Done.pre sg_15 ?_
    obtain ⟨_, _, ⟨T_16, L_16, k_16, n_16⟩, -, X_16, ⟨Lc_16, hQ_16, l_16, y_16, z_16⟩, st_16⟩ := X_8.specialBack hEX (y := (⟨"com/example/tidelog/tidelog/rpc/Frame", "<init>", "(II[B)V"⟩ : MethodName)) rfl hOW (mvT hZW (hw _ (List.mem_of_getElem? (i := 4) rfl))) (mvT hZW (hw _ (List.mem_of_getElem? (i := 5) rfl))) (mvT hZW (hw _ (List.mem_of_getElem? (i := 6) rfl))) (by decide) (backOf (W := 1) (rm_init l Z aZ hw [] b_8 p1 p2 b_2 (.int (0 : Int32)) (.int (0 : Int32)) .null h_8 n0 (Nat.le_trans Z0 K__9.1) f_11 f_12 f_13 f_14 ge_b_8) hZW (hw _ (List.mem_of_getElem? (i := 6) rfl)) (hw _ (List.mem_of_getElem? (i := 3) rfl)) (by decide) (by decide)) (g := (mkF m 41 #[Iv p1, Iv p2, Iv p3, Rv b_2, Iv ex, Iv (p1 ^^^ (p3 &&& (-9 : Int32))), Iv (p1 ^^^ (8 : Int32)), Us, Us, Us, Us, Us, Us] [(.ref b_2), (.int p2), (.int p1), (.ref b_8), (.ref b_8)])) rfl (by rw [hMX]; rfl) (Steps.refl _) (a := b_8) (argsL := [(.int p1), (.int p2), (.ref b_2)]) (rest := [(.ref b_8)]) (lenOf pd__II_B_V_2 rfl) rfl (by show 2 * 0 + _ ≤ _; exact Nat.le_of_eq rfl) (hb hBY at_41) (fun _ _ => ⟨rfl, e_8, (by decide : 2 + 0 ≤ _), (by decide : 3 + 0 ≤ _)⟩)
    dsimp only [Pt.U, Pt.locs, Pt.cells, Pt.slots] at X_16 l_16 y_16 z_16 st_16 hQ_16
    subst l_16 y_16 z_16
    obtain ⟨rfl, N_16q, K_16, hq_16_0, hq_16_1, hq_16_2, hq_16_3⟩ := hQ_16
    have N_16 := Fr.app N0 N_16q
    have K__17 : Keep h0 T_16.heap [] := K__9.trans K_16 (allS (Or.inr sz_b_8) all0)
    have f_18 : Arv Z T_16.heap b_2 k_2 .byte (0 : Int32) [] (.int (0 : Int32)) := f_10.keep K_16 (ninS ne_b_2_b_8 nin0)
    have f_19 : Exa Z T_16.heap b_8 "com/example/tidelog/tidelog/rpc/Frame" := f_11.keep K_16
    refine Done.pre (fun _ k_ => st_16.trans k_) ?_
    show Done _ _ _ _ _ _ _ (T_16.setTop (mkF m 44 #[Iv p1, Iv p2, Iv p3, Rv b_2, Iv ex, Iv (p1 ^^^ (p3 &&& (-9 : Int32))), Iv (p1 ^^^ (8 : Int32)), Us, Us, Us, Us, Us, Us] [(.ref b_8)]))
    have sg_20 : ∀ tt_, Steps p.tables e below (T_16.setTop (mkF m 46 #[Iv p1, Iv p2, Iv p3, Rv b_2, Iv ex, Iv (p1 ^^^ (p3 &&& (-9 : Int32))), Iv (p1 ^^^ (8 : Int32)), Rv b_8, Us, Us, Us, Us, Us] [])) tt_ → Steps p.tables e below (T_16.setTop (mkF m 44 #[Iv p1, Iv p2, Iv p3, Rv b_2, Iv ex, Iv (p1 ^^^ (p3 &&& (-9 : Int32))), Iv (p1 ^^^ (8 : Int32)), Us, Us, Us, Us, Us, Us] [(.ref b_8)])) tt_ := by
      intro tt_ kt_
      refine XS.astore X_16.here hEX rfl (hb hBY at_44) rfl rfl (l' := #[Iv p1, Iv p2, Iv p3, Rv b_2, Iv ex, Iv (p1 ^^^ (p3 &&& (-9 : Int32))), Iv (p1 ^^^ (8 : Int32)), Rv b_8, Us, Us, Us, Us, Us]) rfl ?_
      exact kt_
    refine Done.pre sg_20 ?_
    obtain ⟨T_21, h_21, X_21, e_21, E_21, A_21, D_21, -, st_21⟩ := newO X_16 hEX hZW hOW (hw _ (List.mem_of_getElem? (i := 1) rfl)) (hw _ (List.mem_of_getElem? (i := 2) rfl)) (hw _ (List.mem_of_getElem? (i := 3) rfl)) rfl (g := (mkF m 46 #[Iv p1, Iv p2, Iv p3, Rv b_2, Iv ex, Iv (p1 ^^^ (p3 &&& (-9 : Int32))), Iv (p1 ^^^ (8 : Int32)), Rv b_8, Us, Us, Us, Us, Us] [])) rfl (hb hBY at_46) (by decide) (by decide)
    obtain ⟨b_21, g_21⟩ : ∃ z, z = T_16.heap.size := ⟨_, rfl⟩
    rw [← g_21] at A_21 D_21 st_21
    have sz_b_21 : h0.size ≤ b_21 := Nat.le_trans K__17.1 (Nat.le_of_eq g_21.symm)
    have ge_b_21 : n0 ≤ b_21 := Nat.le_trans Z0 sz_b_21
    have ne_b_2_b_21 : b_2 ≠ b_21 := Nat.ne_of_lt (Nat.lt_of_lt_of_le f_18.lt (Nat.le_of_eq g_21.symm))
    have ne_b_8_b_21 : b_8 ≠ b_21 := Nat.ne_of_lt (Nat.lt_of_lt_of_le hq_16_0.lt (Nat.le_of_eq g_21.symm))
    have K__22 : Keep h0 h_21 [] := K__17.ext E_21
    have f_23 : Arv Z h_21 b_2 k_2 .byte (0 : Int32) [] (.int (0 : Int32)) := f_18.ext E_21
    have f_24 : Exa Z h_21 b_8 "com/example/tidelog/tidelog/rpc/Frame" := hq_16_0.ext E_21
    have f_25 : Fld Z h_21 b_8 "com/example/tidelog/tidelog/rpc/Frame" "flags" "I" (.int p1) := hq_16_1.ext E_21
    have f_26 : Fld Z h_21 b_8 "com/example/tidelog/tidelog/rpc/Frame" "request" "I" (.int p2) := hq_16_2.ext E_21
    have f_27 : Fld Z h_21 b_8 "com/example/tidelog/tidelog/rpc/Frame" "body" "[B" (.ref b_2) := hq_16_3.ext E_21
    have f_28 : Exa Z h_21 b_21 "com/example/tidelog/tidelog/rpc/Frame" := A_21
    have f_29 : Fld Z h_21 b_21 "com/example/tidelog/tidelog/rpc/Frame" "flags" "I" (.int (0 : Int32)) := D_21 (Or.inr (hw _ (List.mem_of_getElem? (i := 16) rfl))) (ty := .int) (by decide)
    have f_30 : Fld Z h_21 b_21 "com/example/tidelog/tidelog/rpc/Frame" "request" "I" (.int (0 : Int32)) := D_21 (Or.inr (hw _ (List.mem_of_getElem? (i := 18) rfl))) (ty := .int) (by decide)
    have f_31 : Fld Z h_21 b_21 "com/example/tidelog/tidelog/rpc/Frame" "body" "[B" .null := D_21 (Or.inr (hw _ (List.mem_of_getElem? (i := 20) rfl))) (ty := (.array .byte)) (by decide)
    refine Done.pre st_21 ?_
    show Done _ _ _ _ _ _ _ (T_21.setTop (mkF m 49 #[Iv p1, Iv p2, Iv p3, Rv b_2, Iv ex, Iv (p1 ^^^ (p3 &&& (-9 : Int32))), Iv (p1 ^^^ (8 : Int32)), Rv b_8, Us, Us, Us, Us, Us] [(.ref b_21)]))
    have sg_32 : ∀ tt_, Steps p.tables e below (T_21.setTop (mkF m 54 #[Iv p1, Iv p2, Iv p3, Rv b_2, Iv ex, Iv (p1 ^^^ (p3 &&& (-9 : Int32))), Iv (p1 ^^^ (8 : Int32)), Rv b_8, Us, Us, Us, Us, Us] [(.ref b_2), (.int p2), (.int (p1 ^^^ (p3 &&& (-9 : Int32)))), (.ref b_21), (.ref b_21)])) tt_ → Steps p.tables e below (T_21.setTop (mkF m 49 #[Iv p1, Iv p2, Iv p3, Rv b_2, Iv ex, Iv (p1 ^^^ (p3 &&& (-9 : Int32))), Iv (p1 ^^^ (8 : Int32)), Rv b_8, Us, Us, Us, Us, Us] [(.ref b_21)])) tt_ := by
      intro tt_ kt_
      refine XS.dup X_21.here hEX rfl (hb hBY at_49) rfl rfl ?_
      show Steps p.tables e below (T_21.setTop (mkF m 50 #[Iv p1, Iv p2, Iv p3, Rv b_2, Iv ex, Iv (p1 ^^^ (p3 &&& (-9 : Int32))), Iv (p1 ^^^ (8 : Int32)), Rv b_8, Us, Us, Us, Us, Us] [(.ref b_21), (.ref b_21)])) tt_
      refine XS.iload X_21.here hEX rfl (hb hBY at_50) rfl ?_
      show Steps p.tables e below (T_21.setTop (mkF m 52 #[Iv p1, Iv p2, Iv p3, Rv b_2, Iv ex, Iv (p1 ^^^ (p3 &&& (-9 : Int32))), Iv (p1 ^^^ (8 : Int32)), Rv b_8, Us, Us, Us, Us, Us] [(.int (p1 ^^^ (p3 &&& (-9 : Int32)))), (.ref b_21), (.ref b_21)])) tt_
      refine XS.iloadN X_21.here hEX rfl (hb hBY at_52) rfl ?_
      show Steps p.tables e below (T_21.setTop (mkF m 53 #[Iv p1, Iv p2, Iv p3, Rv b_2, Iv ex, Iv (p1 ^^^ (p3 &&& (-9 : Int32))), Iv (p1 ^^^ (8 : Int32)), Rv b_8, Us, Us, Us, Us, Us] [(.int p2), (.int (p1 ^^^ (p3 &&& (-9 : Int32)))), (.ref b_21), (.ref b_21)])) tt_
      refine XS.aloadN X_21.here hEX rfl (hb hBY at_53) rfl rfl ?_
      exact kt_
    refine Done.pre sg_32 ?_
    obtain ⟨_, _, ⟨T_33, L_33, k_33, n_33⟩, -, X_33, ⟨Lc_33, hQ_33, l_33, y_33, z_33⟩, st_33⟩ := X_21.specialBack hEX (y := (⟨"com/example/tidelog/tidelog/rpc/Frame", "<init>", "(II[B)V"⟩ : MethodName)) rfl hOW (mvT hZW (hw _ (List.mem_of_getElem? (i := 4) rfl))) (mvT hZW (hw _ (List.mem_of_getElem? (i := 5) rfl))) (mvT hZW (hw _ (List.mem_of_getElem? (i := 6) rfl))) (by decide) (backOf (W := 1) (rm_init l Z aZ hw [] b_21 (p1 ^^^ (p3 &&& (-9 : Int32))) p2 b_2 (.int (0 : Int32)) (.int (0 : Int32)) .null h_21 n0 (Nat.le_trans Z0 K__22.1) f_28 f_29 f_30 f_31 ge_b_21) hZW (hw _ (List.mem_of_getElem? (i := 6) rfl)) (hw _ (List.mem_of_getElem? (i := 3) rfl)) (by decide) (by decide)) (g := (mkF m 54 #[Iv p1, Iv p2, Iv p3, Rv b_2, Iv ex, Iv (p1 ^^^ (p3 &&& (-9 : Int32))), Iv (p1 ^^^ (8 : Int32)), Rv b_8, Us, Us, Us, Us, Us] [(.ref b_2), (.int p2), (.int (p1 ^^^ (p3 &&& (-9 : Int32)))), (.ref b_21), (.ref b_21)])) rfl (by rw [hMX]; rfl) (Steps.refl _) (a := b_21) (argsL := [(.int (p1 ^^^ (p3 &&& (-9 : Int32)))), (.int p2), (.ref b_2)]) (rest := [(.ref b_21)]) (lenOf pd__II_B_V_2 rfl) rfl (by show 2 * 0 + _ ≤ _; exact Nat.le_of_eq rfl) (hb hBY at_54) (fun _ _ => ⟨rfl, e_21, (by decide : 3 + 0 ≤ _), (by decide : 6 + 0 ≤ _)⟩)
    dsimp only [Pt.U, Pt.locs, Pt.cells, Pt.slots] at X_33 l_33 y_33 z_33 st_33 hQ_33
    subst l_33 y_33 z_33
    obtain ⟨rfl, N_33q, K_33, hq_33_0, hq_33_1, hq_33_2, hq_33_3⟩ := hQ_33
    have N_33 := Fr.app N_16 N_33q
    have K__34 : Keep h0 T_33.heap [] := K__22.trans K_33 (allS (Or.inr sz_b_21) all0)
    have f_35 : Arv Z T_33.heap b_2 k_2 .byte (0 : Int32) [] (.int (0 : Int32)) := f_23.keep K_33 (ninS ne_b_2_b_21 nin0)
    have f_36 : Exa Z T_33.heap b_8 "com/example/tidelog/tidelog/rpc/Frame" := f_24.keep K_33
    have f_37 : Fld Z T_33.heap b_8 "com/example/tidelog/tidelog/rpc/Frame" "flags" "I" (.int p1) := f_25.keep K_33 (ninS ne_b_8_b_21 nin0)
    have f_38 : Fld Z T_33.heap b_8 "com/example/tidelog/tidelog/rpc/Frame" "request" "I" (.int p2) := f_26.keep K_33 (ninS ne_b_8_b_21 nin0)
    have f_39 : Fld Z T_33.heap b_8 "com/example/tidelog/tidelog/rpc/Frame" "body" "[B" (.ref b_2) := f_27.keep K_33 (ninS ne_b_8_b_21 nin0)
    have f_40 : Exa Z T_33.heap b_21 "com/example/tidelog/tidelog/rpc/Frame" := f_28.keep K_33
    refine Done.pre (fun _ k_ => st_33.trans k_) ?_
    show Done _ _ _ _ _ _ _ (T_33.setTop (mkF m 57 #[Iv p1, Iv p2, Iv p3, Rv b_2, Iv ex, Iv (p1 ^^^ (p3 &&& (-9 : Int32))), Iv (p1 ^^^ (8 : Int32)), Rv b_8, Us, Us, Us, Us, Us] [(.ref b_21)]))
    have sg_41 : ∀ tt_, Steps p.tables e below (T_33.setTop (mkF m 59 #[Iv p1, Iv p2, Iv p3, Rv b_2, Iv ex, Iv (p1 ^^^ (p3 &&& (-9 : Int32))), Iv (p1 ^^^ (8 : Int32)), Rv b_8, Rv b_21, Us, Us, Us, Us] [])) tt_ → Steps p.tables e below (T_33.setTop (mkF m 57 #[Iv p1, Iv p2, Iv p3, Rv b_2, Iv ex, Iv (p1 ^^^ (p3 &&& (-9 : Int32))), Iv (p1 ^^^ (8 : Int32)), Rv b_8, Us, Us, Us, Us, Us] [(.ref b_21)])) tt_ := by
      intro tt_ kt_
      refine XS.astore X_33.here hEX rfl (hb hBY at_57) rfl rfl (l' := #[Iv p1, Iv p2, Iv p3, Rv b_2, Iv ex, Iv (p1 ^^^ (p3 &&& (-9 : Int32))), Iv (p1 ^^^ (8 : Int32)), Rv b_8, Rv b_21, Us, Us, Us, Us]) rfl ?_
      exact kt_
    refine Done.pre sg_41 ?_
    obtain ⟨T_42, h_42, X_42, e_42, E_42, A_42, D_42, -, st_42⟩ := newO X_33 hEX hZW hOW (hw _ (List.mem_of_getElem? (i := 1) rfl)) (hw _ (List.mem_of_getElem? (i := 2) rfl)) (hw _ (List.mem_of_getElem? (i := 3) rfl)) rfl (g := (mkF m 59 #[Iv p1, Iv p2, Iv p3, Rv b_2, Iv ex, Iv (p1 ^^^ (p3 &&& (-9 : Int32))), Iv (p1 ^^^ (8 : Int32)), Rv b_8, Rv b_21, Us, Us, Us, Us] [])) rfl (hb hBY at_59) (by decide) (by decide)
    obtain ⟨b_42, g_42⟩ : ∃ z, z = T_33.heap.size := ⟨_, rfl⟩
    rw [← g_42] at A_42 D_42 st_42
    have sz_b_42 : h0.size ≤ b_42 := Nat.le_trans K__34.1 (Nat.le_of_eq g_42.symm)
    have ge_b_42 : n0 ≤ b_42 := Nat.le_trans Z0 sz_b_42
    have ne_b_2_b_42 : b_2 ≠ b_42 := Nat.ne_of_lt (Nat.lt_of_lt_of_le f_35.lt (Nat.le_of_eq g_42.symm))
    have ne_b_8_b_42 : b_8 ≠ b_42 := Nat.ne_of_lt (Nat.lt_of_lt_of_le f_36.lt (Nat.le_of_eq g_42.symm))
    have ne_b_21_b_42 : b_21 ≠ b_42 := Nat.ne_of_lt (Nat.lt_of_lt_of_le hq_33_0.lt (Nat.le_of_eq g_42.symm))
    have K__43 : Keep h0 h_42 [] := K__34.ext E_42
    have f_44 : Arv Z h_42 b_2 k_2 .byte (0 : Int32) [] (.int (0 : Int32)) := f_35.ext E_42
    have f_45 : Exa Z h_42 b_8 "com/example/tidelog/tidelog/rpc/Frame" := f_36.ext E_42
    have f_46 : Fld Z h_42 b_8 "com/example/tidelog/tidelog/rpc/Frame" "flags" "I" (.int p1) := f_37.ext E_42
    have f_47 : Fld Z h_42 b_8 "com/example/tidelog/tidelog/rpc/Frame" "request" "I" (.int p2) := f_38.ext E_42
    have f_48 : Fld Z h_42 b_8 "com/example/tidelog/tidelog/rpc/Frame" "body" "[B" (.ref b_2) := f_39.ext E_42
    have f_49 : Exa Z h_42 b_21 "com/example/tidelog/tidelog/rpc/Frame" := hq_33_0.ext E_42
    have f_50 : Fld Z h_42 b_21 "com/example/tidelog/tidelog/rpc/Frame" "flags" "I" (.int (p1 ^^^ (p3 &&& (-9 : Int32)))) := hq_33_1.ext E_42
    have f_51 : Fld Z h_42 b_21 "com/example/tidelog/tidelog/rpc/Frame" "request" "I" (.int p2) := hq_33_2.ext E_42
    have f_52 : Fld Z h_42 b_21 "com/example/tidelog/tidelog/rpc/Frame" "body" "[B" (.ref b_2) := hq_33_3.ext E_42
    have f_53 : Exa Z h_42 b_42 "com/example/tidelog/tidelog/rpc/Frame" := A_42
    have f_54 : Fld Z h_42 b_42 "com/example/tidelog/tidelog/rpc/Frame" "flags" "I" (.int (0 : Int32)) := D_42 (Or.inr (hw _ (List.mem_of_getElem? (i := 16) rfl))) (ty := .int) (by decide)
    have f_55 : Fld Z h_42 b_42 "com/example/tidelog/tidelog/rpc/Frame" "request" "I" (.int (0 : Int32)) := D_42 (Or.inr (hw _ (List.mem_of_getElem? (i := 18) rfl))) (ty := .int) (by decide)
    have f_56 : Fld Z h_42 b_42 "com/example/tidelog/tidelog/rpc/Frame" "body" "[B" .null := D_42 (Or.inr (hw _ (List.mem_of_getElem? (i := 20) rfl))) (ty := (.array .byte)) (by decide)
    refine Done.pre st_42 ?_
    show Done _ _ _ _ _ _ _ (T_42.setTop (mkF m 62 #[Iv p1, Iv p2, Iv p3, Rv b_2, Iv ex, Iv (p1 ^^^ (p3 &&& (-9 : Int32))), Iv (p1 ^^^ (8 : Int32)), Rv b_8, Rv b_21, Us, Us, Us, Us] [(.ref b_42)]))
    have sg_57 : ∀ tt_, Steps p.tables e below (T_42.setTop (mkF m 67 #[Iv p1, Iv p2, Iv p3, Rv b_2, Iv ex, Iv (p1 ^^^ (p3 &&& (-9 : Int32))), Iv (p1 ^^^ (8 : Int32)), Rv b_8, Rv b_21, Us, Us, Us, Us] [(.ref b_2), (.int p2), (.int (p1 ^^^ (8 : Int32))), (.ref b_42), (.ref b_42)])) tt_ → Steps p.tables e below (T_42.setTop (mkF m 62 #[Iv p1, Iv p2, Iv p3, Rv b_2, Iv ex, Iv (p1 ^^^ (p3 &&& (-9 : Int32))), Iv (p1 ^^^ (8 : Int32)), Rv b_8, Rv b_21, Us, Us, Us, Us] [(.ref b_42)])) tt_ := by
      intro tt_ kt_
      refine XS.dup X_42.here hEX rfl (hb hBY at_62) rfl rfl ?_
      show Steps p.tables e below (T_42.setTop (mkF m 63 #[Iv p1, Iv p2, Iv p3, Rv b_2, Iv ex, Iv (p1 ^^^ (p3 &&& (-9 : Int32))), Iv (p1 ^^^ (8 : Int32)), Rv b_8, Rv b_21, Us, Us, Us, Us] [(.ref b_42), (.ref b_42)])) tt_
      refine XS.iload X_42.here hEX rfl (hb hBY at_63) rfl ?_
      show Steps p.tables e below (T_42.setTop (mkF m 65 #[Iv p1, Iv p2, Iv p3, Rv b_2, Iv ex, Iv (p1 ^^^ (p3 &&& (-9 : Int32))), Iv (p1 ^^^ (8 : Int32)), Rv b_8, Rv b_21, Us, Us, Us, Us] [(.int (p1 ^^^ (8 : Int32))), (.ref b_42), (.ref b_42)])) tt_
      refine XS.iloadN X_42.here hEX rfl (hb hBY at_65) rfl ?_
      show Steps p.tables e below (T_42.setTop (mkF m 66 #[Iv p1, Iv p2, Iv p3, Rv b_2, Iv ex, Iv (p1 ^^^ (p3 &&& (-9 : Int32))), Iv (p1 ^^^ (8 : Int32)), Rv b_8, Rv b_21, Us, Us, Us, Us] [(.int p2), (.int (p1 ^^^ (8 : Int32))), (.ref b_42), (.ref b_42)])) tt_
      refine XS.aloadN X_42.here hEX rfl (hb hBY at_66) rfl rfl ?_
      exact kt_
    refine Done.pre sg_57 ?_
    obtain ⟨_, _, ⟨T_58, L_58, k_58, n_58⟩, -, X_58, ⟨Lc_58, hQ_58, l_58, y_58, z_58⟩, st_58⟩ := X_42.specialBack hEX (y := (⟨"com/example/tidelog/tidelog/rpc/Frame", "<init>", "(II[B)V"⟩ : MethodName)) rfl hOW (mvT hZW (hw _ (List.mem_of_getElem? (i := 4) rfl))) (mvT hZW (hw _ (List.mem_of_getElem? (i := 5) rfl))) (mvT hZW (hw _ (List.mem_of_getElem? (i := 6) rfl))) (by decide) (backOf (W := 1) (rm_init l Z aZ hw [] b_42 (p1 ^^^ (8 : Int32)) p2 b_2 (.int (0 : Int32)) (.int (0 : Int32)) .null h_42 n0 (Nat.le_trans Z0 K__43.1) f_53 f_54 f_55 f_56 ge_b_42) hZW (hw _ (List.mem_of_getElem? (i := 6) rfl)) (hw _ (List.mem_of_getElem? (i := 3) rfl)) (by decide) (by decide)) (g := (mkF m 67 #[Iv p1, Iv p2, Iv p3, Rv b_2, Iv ex, Iv (p1 ^^^ (p3 &&& (-9 : Int32))), Iv (p1 ^^^ (8 : Int32)), Rv b_8, Rv b_21, Us, Us, Us, Us] [(.ref b_2), (.int p2), (.int (p1 ^^^ (8 : Int32))), (.ref b_42), (.ref b_42)])) rfl (by rw [hMX]; rfl) (Steps.refl _) (a := b_42) (argsL := [(.int (p1 ^^^ (8 : Int32))), (.int p2), (.ref b_2)]) (rest := [(.ref b_42)]) (lenOf pd__II_B_V_2 rfl) rfl (by show 2 * 0 + _ ≤ _; exact Nat.le_of_eq rfl) (hb hBY at_67) (fun _ _ => ⟨rfl, e_42, (by decide : 4 + 0 ≤ _), (by decide : 9 + 0 ≤ _)⟩)
    dsimp only [Pt.U, Pt.locs, Pt.cells, Pt.slots] at X_58 l_58 y_58 z_58 st_58 hQ_58
    subst l_58 y_58 z_58
    obtain ⟨rfl, N_58q, K_58, hq_58_0, hq_58_1, hq_58_2, hq_58_3⟩ := hQ_58
    have N_58 := Fr.app N_33 N_58q
    have K__59 : Keep h0 T_58.heap [] := K__43.trans K_58 (allS (Or.inr sz_b_42) all0)
    have f_60 : Arv Z T_58.heap b_2 k_2 .byte (0 : Int32) [] (.int (0 : Int32)) := f_44.keep K_58 (ninS ne_b_2_b_42 nin0)
    have f_61 : Exa Z T_58.heap b_8 "com/example/tidelog/tidelog/rpc/Frame" := f_45.keep K_58
    have f_62 : Fld Z T_58.heap b_8 "com/example/tidelog/tidelog/rpc/Frame" "flags" "I" (.int p1) := f_46.keep K_58 (ninS ne_b_8_b_42 nin0)
    have f_63 : Fld Z T_58.heap b_8 "com/example/tidelog/tidelog/rpc/Frame" "request" "I" (.int p2) := f_47.keep K_58 (ninS ne_b_8_b_42 nin0)
    have f_64 : Fld Z T_58.heap b_8 "com/example/tidelog/tidelog/rpc/Frame" "body" "[B" (.ref b_2) := f_48.keep K_58 (ninS ne_b_8_b_42 nin0)
    have f_65 : Exa Z T_58.heap b_21 "com/example/tidelog/tidelog/rpc/Frame" := f_49.keep K_58
    have f_66 : Fld Z T_58.heap b_21 "com/example/tidelog/tidelog/rpc/Frame" "flags" "I" (.int (p1 ^^^ (p3 &&& (-9 : Int32)))) := f_50.keep K_58 (ninS ne_b_21_b_42 nin0)
    have f_67 : Fld Z T_58.heap b_21 "com/example/tidelog/tidelog/rpc/Frame" "request" "I" (.int p2) := f_51.keep K_58 (ninS ne_b_21_b_42 nin0)
    have f_68 : Fld Z T_58.heap b_21 "com/example/tidelog/tidelog/rpc/Frame" "body" "[B" (.ref b_2) := f_52.keep K_58 (ninS ne_b_21_b_42 nin0)
    have f_69 : Exa Z T_58.heap b_42 "com/example/tidelog/tidelog/rpc/Frame" := f_53.keep K_58
    refine Done.pre (fun _ k_ => st_58.trans k_) ?_
    show Done _ _ _ _ _ _ _ (T_58.setTop (mkF m 70 #[Iv p1, Iv p2, Iv p3, Rv b_2, Iv ex, Iv (p1 ^^^ (p3 &&& (-9 : Int32))), Iv (p1 ^^^ (8 : Int32)), Rv b_8, Rv b_21, Us, Us, Us, Us] [(.ref b_42)]))
    have sg_70 : ∀ tt_, Steps p.tables e below (T_58.setTop (mkF m 74 #[Iv p1, Iv p2, Iv p3, Rv b_2, Iv ex, Iv (p1 ^^^ (p3 &&& (-9 : Int32))), Iv (p1 ^^^ (8 : Int32)), Rv b_8, Rv b_21, Rv b_42, Us, Us, Us] [(.ref b_8)])) tt_ → Steps p.tables e below (T_58.setTop (mkF m 70 #[Iv p1, Iv p2, Iv p3, Rv b_2, Iv ex, Iv (p1 ^^^ (p3 &&& (-9 : Int32))), Iv (p1 ^^^ (8 : Int32)), Rv b_8, Rv b_21, Us, Us, Us, Us] [(.ref b_42)])) tt_ := by
      intro tt_ kt_
      refine XS.astore X_58.here hEX rfl (hb hBY at_70) rfl rfl (l' := #[Iv p1, Iv p2, Iv p3, Rv b_2, Iv ex, Iv (p1 ^^^ (p3 &&& (-9 : Int32))), Iv (p1 ^^^ (8 : Int32)), Rv b_8, Rv b_21, Rv b_42, Us, Us, Us]) rfl ?_
      show Steps p.tables e below (T_58.setTop (mkF m 72 #[Iv p1, Iv p2, Iv p3, Rv b_2, Iv ex, Iv (p1 ^^^ (p3 &&& (-9 : Int32))), Iv (p1 ^^^ (8 : Int32)), Rv b_8, Rv b_21, Rv b_42, Us, Us, Us] [])) tt_
      refine XS.aload X_58.here hEX rfl (hb hBY at_72) rfl rfl ?_
      exact kt_
    refine Done.pre sg_70 ?_
    obtain ⟨cq_71, kq_71, q_71a, q_71b, q_71c⟩ := isOf hZW rfl f_61
    obtain ⟨_, _, ⟨T_71, L_71, k_71, n_71⟩, -, X_71, ⟨Lc_71, hQ_71, l_71, y_71, z_71⟩, st_71⟩ := X_58.virtualBack hEX (y := (⟨"com/example/tidelog/tidelog/rpc/Frame", "stream", "()Z"⟩ : MethodName)) (z := (⟨"com/example/tidelog/tidelog/rpc/Frame", "stream", "()Z"⟩ : MethodName)) hOW (mvT hZW (hw _ (List.mem_of_getElem? (i := 21) rfl))) (mvT hZW (hw _ (List.mem_of_getElem? (i := 22) rfl))) (notFace_of_selects (args := #[]) (mvT hZW (hw _ (List.mem_of_getElem? (i := 24) rfl)))) (mvT hZW (hw _ (List.mem_of_getElem? (i := 24) rfl))) (mvT hZW (hw _ (List.mem_of_getElem? (i := 23) rfl))) (by decide) (backOf (W := 0) (rm_stream l Z aZ hw [] b_8 p1 T_58.heap n0 (Nat.le_trans Z0 K__59.1) f_62) hZW (hw _ (List.mem_of_getElem? (i := 25) rfl)) (hw _ (List.mem_of_getElem? (i := 3) rfl)) (by decide) (by decide)) q_71a q_71c (g := (mkF m 74 #[Iv p1, Iv p2, Iv p3, Rv b_2, Iv ex, Iv (p1 ^^^ (p3 &&& (-9 : Int32))), Iv (p1 ^^^ (8 : Int32)), Rv b_8, Rv b_21, Rv b_42, Us, Us, Us] [(.ref b_8)])) rfl (by rw [hMX]; rfl) (Steps.refl _) (argsL := []) (rest := []) (lenOf pd___Z_1 rfl) rfl (by show 2 * 0 + _ ≤ _; exact Nat.le_of_eq rfl) (hb hBY at_74) (fun _ _ => ⟨rfl, rfl, (by decide : 4 + 0 ≤ _), (by decide : 9 + 0 ≤ _)⟩)
    dsimp only [Pt.U, Pt.locs, Pt.cells, Pt.slots] at X_71 l_71 y_71 z_71 st_71 hQ_71
    subst l_71 y_71 z_71
    obtain ⟨rfl, N_71q, e_71⟩ := hQ_71
    have N_71 := Fr.app N_58 N_71q
    refine Done.pre (fun _ k_ => st_71.trans k_) ?_
    show Done _ _ _ _ _ _ _ (T_71.setTop (mkF m 77 #[Iv p1, Iv p2, Iv p3, Rv b_2, Iv ex, Iv (p1 ^^^ (p3 &&& (-9 : Int32))), Iv (p1 ^^^ (8 : Int32)), Rv b_8, Rv b_21, Rv b_42, Us, Us, Us] [(.int (own_flag (8 : Int32) p1))]))
    have sg_72 : ∀ tt_, Steps p.tables e below (T_71.setTop (mkF m 81 #[Iv p1, Iv p2, Iv p3, Rv b_2, Iv ex, Iv (p1 ^^^ (p3 &&& (-9 : Int32))), Iv (p1 ^^^ (8 : Int32)), Rv b_8, Rv b_21, Rv b_42, Iv (own_flag (8 : Int32) p1), Us, Us] [(.ref b_21)])) tt_ → Steps p.tables e below (T_71.setTop (mkF m 77 #[Iv p1, Iv p2, Iv p3, Rv b_2, Iv ex, Iv (p1 ^^^ (p3 &&& (-9 : Int32))), Iv (p1 ^^^ (8 : Int32)), Rv b_8, Rv b_21, Rv b_42, Us, Us, Us] [(.int (own_flag (8 : Int32) p1))])) tt_ := by
      intro tt_ kt_
      refine XS.istore X_71.here hEX rfl (hb hBY at_77) rfl (l' := #[Iv p1, Iv p2, Iv p3, Rv b_2, Iv ex, Iv (p1 ^^^ (p3 &&& (-9 : Int32))), Iv (p1 ^^^ (8 : Int32)), Rv b_8, Rv b_21, Rv b_42, Iv (own_flag (8 : Int32) p1), Us, Us]) rfl ?_
      show Steps p.tables e below (T_71.setTop (mkF m 79 #[Iv p1, Iv p2, Iv p3, Rv b_2, Iv ex, Iv (p1 ^^^ (p3 &&& (-9 : Int32))), Iv (p1 ^^^ (8 : Int32)), Rv b_8, Rv b_21, Rv b_42, Iv (own_flag (8 : Int32) p1), Us, Us] [])) tt_
      refine XS.aload X_71.here hEX rfl (hb hBY at_79) rfl rfl ?_
      exact kt_
    refine Done.pre sg_72 ?_
    obtain ⟨cq_73, kq_73, q_73a, q_73b, q_73c⟩ := isOf hZW e_71 f_65
    obtain ⟨_, _, ⟨T_73, L_73, k_73, n_73⟩, -, X_73, ⟨Lc_73, hQ_73, l_73, y_73, z_73⟩, st_73⟩ := X_71.virtualBack hEX (y := (⟨"com/example/tidelog/tidelog/rpc/Frame", "stream", "()Z"⟩ : MethodName)) (z := (⟨"com/example/tidelog/tidelog/rpc/Frame", "stream", "()Z"⟩ : MethodName)) hOW (mvT hZW (hw _ (List.mem_of_getElem? (i := 21) rfl))) (mvT hZW (hw _ (List.mem_of_getElem? (i := 22) rfl))) (notFace_of_selects (args := #[]) (mvT hZW (hw _ (List.mem_of_getElem? (i := 24) rfl)))) (mvT hZW (hw _ (List.mem_of_getElem? (i := 24) rfl))) (mvT hZW (hw _ (List.mem_of_getElem? (i := 23) rfl))) (by decide) (backOf (W := 0) (rm_stream l Z aZ hw [] b_21 (p1 ^^^ (p3 &&& (-9 : Int32))) T_58.heap n0 (Nat.le_trans Z0 K__59.1) f_66) hZW (hw _ (List.mem_of_getElem? (i := 25) rfl)) (hw _ (List.mem_of_getElem? (i := 3) rfl)) (by decide) (by decide)) q_73a q_73c (g := (mkF m 81 #[Iv p1, Iv p2, Iv p3, Rv b_2, Iv ex, Iv (p1 ^^^ (p3 &&& (-9 : Int32))), Iv (p1 ^^^ (8 : Int32)), Rv b_8, Rv b_21, Rv b_42, Iv (own_flag (8 : Int32) p1), Us, Us] [(.ref b_21)])) rfl (by rw [hMX]; rfl) (Steps.refl _) (argsL := []) (rest := []) (lenOf pd___Z_1 rfl) rfl (by show 2 * 0 + _ ≤ _; exact Nat.le_of_eq rfl) (hb hBY at_81) (fun _ _ => ⟨rfl, e_71, (by decide : 4 + 0 ≤ _), (by decide : 9 + 0 ≤ _)⟩)
    dsimp only [Pt.U, Pt.locs, Pt.cells, Pt.slots] at X_73 l_73 y_73 z_73 st_73 hQ_73
    subst l_73 y_73 z_73
    obtain ⟨rfl, N_73q, e_73⟩ := hQ_73
    have N_73 := Fr.app N_71 N_73q
    refine Done.pre (fun _ k_ => st_73.trans k_) ?_
    show Done _ _ _ _ _ _ _ (T_73.setTop (mkF m 84 #[Iv p1, Iv p2, Iv p3, Rv b_2, Iv ex, Iv (p1 ^^^ (p3 &&& (-9 : Int32))), Iv (p1 ^^^ (8 : Int32)), Rv b_8, Rv b_21, Rv b_42, Iv (own_flag (8 : Int32) p1), Us, Us] [(.int (own_flag (8 : Int32) (p1 ^^^ (p3 &&& (-9 : Int32)))))]))
    have sg_74 : ∀ tt_, Steps p.tables e below (T_73.setTop (mkF m 88 #[Iv p1, Iv p2, Iv p3, Rv b_2, Iv ex, Iv (p1 ^^^ (p3 &&& (-9 : Int32))), Iv (p1 ^^^ (8 : Int32)), Rv b_8, Rv b_21, Rv b_42, Iv (own_flag (8 : Int32) p1), Iv (own_flag (8 : Int32) (p1 ^^^ (p3 &&& (-9 : Int32)))), Us] [(.ref b_42)])) tt_ → Steps p.tables e below (T_73.setTop (mkF m 84 #[Iv p1, Iv p2, Iv p3, Rv b_2, Iv ex, Iv (p1 ^^^ (p3 &&& (-9 : Int32))), Iv (p1 ^^^ (8 : Int32)), Rv b_8, Rv b_21, Rv b_42, Iv (own_flag (8 : Int32) p1), Us, Us] [(.int (own_flag (8 : Int32) (p1 ^^^ (p3 &&& (-9 : Int32)))))])) tt_ := by
      intro tt_ kt_
      refine XS.istore X_73.here hEX rfl (hb hBY at_84) rfl (l' := #[Iv p1, Iv p2, Iv p3, Rv b_2, Iv ex, Iv (p1 ^^^ (p3 &&& (-9 : Int32))), Iv (p1 ^^^ (8 : Int32)), Rv b_8, Rv b_21, Rv b_42, Iv (own_flag (8 : Int32) p1), Iv (own_flag (8 : Int32) (p1 ^^^ (p3 &&& (-9 : Int32)))), Us]) rfl ?_
      show Steps p.tables e below (T_73.setTop (mkF m 86 #[Iv p1, Iv p2, Iv p3, Rv b_2, Iv ex, Iv (p1 ^^^ (p3 &&& (-9 : Int32))), Iv (p1 ^^^ (8 : Int32)), Rv b_8, Rv b_21, Rv b_42, Iv (own_flag (8 : Int32) p1), Iv (own_flag (8 : Int32) (p1 ^^^ (p3 &&& (-9 : Int32)))), Us] [])) tt_
      refine XS.aload X_73.here hEX rfl (hb hBY at_86) rfl rfl ?_
      exact kt_
    refine Done.pre sg_74 ?_
    obtain ⟨cq_75, kq_75, q_75a, q_75b, q_75c⟩ := isOf hZW e_73 hq_58_0
    obtain ⟨_, _, ⟨T_75, L_75, k_75, n_75⟩, -, X_75, ⟨Lc_75, hQ_75, l_75, y_75, z_75⟩, st_75⟩ := X_73.virtualBack hEX (y := (⟨"com/example/tidelog/tidelog/rpc/Frame", "stream", "()Z"⟩ : MethodName)) (z := (⟨"com/example/tidelog/tidelog/rpc/Frame", "stream", "()Z"⟩ : MethodName)) hOW (mvT hZW (hw _ (List.mem_of_getElem? (i := 21) rfl))) (mvT hZW (hw _ (List.mem_of_getElem? (i := 22) rfl))) (notFace_of_selects (args := #[]) (mvT hZW (hw _ (List.mem_of_getElem? (i := 24) rfl)))) (mvT hZW (hw _ (List.mem_of_getElem? (i := 24) rfl))) (mvT hZW (hw _ (List.mem_of_getElem? (i := 23) rfl))) (by decide) (backOf (W := 0) (rm_stream l Z aZ hw [] b_42 (p1 ^^^ (8 : Int32)) T_58.heap n0 (Nat.le_trans Z0 K__59.1) hq_58_1) hZW (hw _ (List.mem_of_getElem? (i := 25) rfl)) (hw _ (List.mem_of_getElem? (i := 3) rfl)) (by decide) (by decide)) q_75a q_75c (g := (mkF m 88 #[Iv p1, Iv p2, Iv p3, Rv b_2, Iv ex, Iv (p1 ^^^ (p3 &&& (-9 : Int32))), Iv (p1 ^^^ (8 : Int32)), Rv b_8, Rv b_21, Rv b_42, Iv (own_flag (8 : Int32) p1), Iv (own_flag (8 : Int32) (p1 ^^^ (p3 &&& (-9 : Int32)))), Us] [(.ref b_42)])) rfl (by rw [hMX]; rfl) (Steps.refl _) (argsL := []) (rest := []) (lenOf pd___Z_1 rfl) rfl (by show 2 * 0 + _ ≤ _; exact Nat.le_of_eq rfl) (hb hBY at_88) (fun _ _ => ⟨rfl, e_73, (by decide : 4 + 0 ≤ _), (by decide : 9 + 0 ≤ _)⟩)
    dsimp only [Pt.U, Pt.locs, Pt.cells, Pt.slots] at X_75 l_75 y_75 z_75 st_75 hQ_75
    subst l_75 y_75 z_75
    obtain ⟨rfl, N_75q, e_75⟩ := hQ_75
    have N_75 := Fr.app N_73 N_75q
    refine Done.pre (fun _ k_ => st_75.trans k_) ?_
    show Done _ _ _ _ _ _ _ (T_75.setTop (mkF m 91 #[Iv p1, Iv p2, Iv p3, Rv b_2, Iv ex, Iv (p1 ^^^ (p3 &&& (-9 : Int32))), Iv (p1 ^^^ (8 : Int32)), Rv b_8, Rv b_21, Rv b_42, Iv (own_flag (8 : Int32) p1), Iv (own_flag (8 : Int32) (p1 ^^^ (p3 &&& (-9 : Int32)))), Us] [(.int (own_flag (8 : Int32) (p1 ^^^ (8 : Int32))))]))
    have sg_76 : ∀ tt_, Steps p.tables e below (T_75.setTop (mkF m 119 #[Iv p1, Iv p2, Iv p3, Rv b_2, Iv ex, Iv (p1 ^^^ (p3 &&& (-9 : Int32))), Iv (p1 ^^^ (8 : Int32)), Rv b_8, Rv b_21, Rv b_42, Iv (own_flag (8 : Int32) p1), Iv (own_flag (8 : Int32) (p1 ^^^ (p3 &&& (-9 : Int32)))), Iv (own_flag (8 : Int32) (p1 ^^^ (8 : Int32)))] [(.int (1 : Int32))])) tt_ → Steps p.tables e below (T_75.setTop (mkF m 91 #[Iv p1, Iv p2, Iv p3, Rv b_2, Iv ex, Iv (p1 ^^^ (p3 &&& (-9 : Int32))), Iv (p1 ^^^ (8 : Int32)), Rv b_8, Rv b_21, Rv b_42, Iv (own_flag (8 : Int32) p1), Iv (own_flag (8 : Int32) (p1 ^^^ (p3 &&& (-9 : Int32)))), Us] [(.int (own_flag (8 : Int32) (p1 ^^^ (8 : Int32))))])) tt_ := by
      intro tt_ kt_
      refine XS.istore X_75.here hEX rfl (hb hBY at_91) rfl (l' := #[Iv p1, Iv p2, Iv p3, Rv b_2, Iv ex, Iv (p1 ^^^ (p3 &&& (-9 : Int32))), Iv (p1 ^^^ (8 : Int32)), Rv b_8, Rv b_21, Rv b_42, Iv (own_flag (8 : Int32) p1), Iv (own_flag (8 : Int32) (p1 ^^^ (p3 &&& (-9 : Int32)))), Iv (own_flag (8 : Int32) (p1 ^^^ (8 : Int32)))]) rfl ?_
      show Steps p.tables e below (T_75.setTop (mkF m 93 #[Iv p1, Iv p2, Iv p3, Rv b_2, Iv ex, Iv (p1 ^^^ (p3 &&& (-9 : Int32))), Iv (p1 ^^^ (8 : Int32)), Rv b_8, Rv b_21, Rv b_42, Iv (own_flag (8 : Int32) p1), Iv (own_flag (8 : Int32) (p1 ^^^ (p3 &&& (-9 : Int32)))), Iv (own_flag (8 : Int32) (p1 ^^^ (8 : Int32)))] [])) tt_
      refine XS.iload X_75.here hEX rfl (hb hBY at_93) rfl ?_
      show Steps p.tables e below (T_75.setTop (mkF m 95 #[Iv p1, Iv p2, Iv p3, Rv b_2, Iv ex, Iv (p1 ^^^ (p3 &&& (-9 : Int32))), Iv (p1 ^^^ (8 : Int32)), Rv b_8, Rv b_21, Rv b_42, Iv (own_flag (8 : Int32) p1), Iv (own_flag (8 : Int32) (p1 ^^^ (p3 &&& (-9 : Int32)))), Iv (own_flag (8 : Int32) (p1 ^^^ (8 : Int32)))] [(.int (own_flag (8 : Int32) p1))])) tt_
      refine XS.iload X_75.here hEX rfl (hb hBY at_95) rfl ?_
      show Steps p.tables e below (T_75.setTop (mkF m 97 #[Iv p1, Iv p2, Iv p3, Rv b_2, Iv ex, Iv (p1 ^^^ (p3 &&& (-9 : Int32))), Iv (p1 ^^^ (8 : Int32)), Rv b_8, Rv b_21, Rv b_42, Iv (own_flag (8 : Int32) p1), Iv (own_flag (8 : Int32) (p1 ^^^ (p3 &&& (-9 : Int32)))), Iv (own_flag (8 : Int32) (p1 ^^^ (8 : Int32)))] [(.int ex), (.int (own_flag (8 : Int32) p1))])) tt_
      refine XS.icmpNo X_75.here hEX rfl (hb hBY at_97) rfl (teq (hex.symm : (own_flag (8 : Int32) p1) = ex)).2 ?_
      show Steps p.tables e below (T_75.setTop (mkF m 100 #[Iv p1, Iv p2, Iv p3, Rv b_2, Iv ex, Iv (p1 ^^^ (p3 &&& (-9 : Int32))), Iv (p1 ^^^ (8 : Int32)), Rv b_8, Rv b_21, Rv b_42, Iv (own_flag (8 : Int32) p1), Iv (own_flag (8 : Int32) (p1 ^^^ (p3 &&& (-9 : Int32)))), Iv (own_flag (8 : Int32) (p1 ^^^ (8 : Int32)))] [])) tt_
      refine XS.iload X_75.here hEX rfl (hb hBY at_100) rfl ?_
      show Steps p.tables e below (T_75.setTop (mkF m 102 #[Iv p1, Iv p2, Iv p3, Rv b_2, Iv ex, Iv (p1 ^^^ (p3 &&& (-9 : Int32))), Iv (p1 ^^^ (8 : Int32)), Rv b_8, Rv b_21, Rv b_42, Iv (own_flag (8 : Int32) p1), Iv (own_flag (8 : Int32) (p1 ^^^ (p3 &&& (-9 : Int32)))), Iv (own_flag (8 : Int32) (p1 ^^^ (8 : Int32)))] [(.int (own_flag (8 : Int32) (p1 ^^^ (p3 &&& (-9 : Int32)))))])) tt_
      refine XS.iload X_75.here hEX rfl (hb hBY at_102) rfl ?_
      show Steps p.tables e below (T_75.setTop (mkF m 104 #[Iv p1, Iv p2, Iv p3, Rv b_2, Iv ex, Iv (p1 ^^^ (p3 &&& (-9 : Int32))), Iv (p1 ^^^ (8 : Int32)), Rv b_8, Rv b_21, Rv b_42, Iv (own_flag (8 : Int32) p1), Iv (own_flag (8 : Int32) (p1 ^^^ (p3 &&& (-9 : Int32)))), Iv (own_flag (8 : Int32) (p1 ^^^ (8 : Int32)))] [(.int ex), (.int (own_flag (8 : Int32) (p1 ^^^ (p3 &&& (-9 : Int32)))))])) tt_
      refine XS.icmpNo X_75.here hEX rfl (hb hBY at_104) rfl (teq ((own_b p1 p3).trans hex.symm : (own_flag (8 : Int32) (p1 ^^^ (p3 &&& (-9 : Int32)))) = ex)).2 ?_
      show Steps p.tables e below (T_75.setTop (mkF m 107 #[Iv p1, Iv p2, Iv p3, Rv b_2, Iv ex, Iv (p1 ^^^ (p3 &&& (-9 : Int32))), Iv (p1 ^^^ (8 : Int32)), Rv b_8, Rv b_21, Rv b_42, Iv (own_flag (8 : Int32) p1), Iv (own_flag (8 : Int32) (p1 ^^^ (p3 &&& (-9 : Int32)))), Iv (own_flag (8 : Int32) (p1 ^^^ (8 : Int32)))] [])) tt_
      refine XS.iload X_75.here hEX rfl (hb hBY at_107) rfl ?_
      show Steps p.tables e below (T_75.setTop (mkF m 109 #[Iv p1, Iv p2, Iv p3, Rv b_2, Iv ex, Iv (p1 ^^^ (p3 &&& (-9 : Int32))), Iv (p1 ^^^ (8 : Int32)), Rv b_8, Rv b_21, Rv b_42, Iv (own_flag (8 : Int32) p1), Iv (own_flag (8 : Int32) (p1 ^^^ (p3 &&& (-9 : Int32)))), Iv (own_flag (8 : Int32) (p1 ^^^ (8 : Int32)))] [(.int (own_flag (8 : Int32) (p1 ^^^ (8 : Int32))))])) tt_
      refine XS.iload X_75.here hEX rfl (hb hBY at_109) rfl ?_
      show Steps p.tables e below (T_75.setTop (mkF m 111 #[Iv p1, Iv p2, Iv p3, Rv b_2, Iv ex, Iv (p1 ^^^ (p3 &&& (-9 : Int32))), Iv (p1 ^^^ (8 : Int32)), Rv b_8, Rv b_21, Rv b_42, Iv (own_flag (8 : Int32) p1), Iv (own_flag (8 : Int32) (p1 ^^^ (p3 &&& (-9 : Int32)))), Iv (own_flag (8 : Int32) (p1 ^^^ (8 : Int32)))] [(.int ex), (.int (own_flag (8 : Int32) (p1 ^^^ (8 : Int32))))])) tt_
      refine XS.icmpNo X_75.here hEX rfl (hb hBY at_111) rfl (feq (fun q => own_c p1 (q.trans hex) : ¬ ((own_flag (8 : Int32) (p1 ^^^ (8 : Int32))) = ex))).1 ?_
      show Steps p.tables e below (T_75.setTop (mkF m 114 #[Iv p1, Iv p2, Iv p3, Rv b_2, Iv ex, Iv (p1 ^^^ (p3 &&& (-9 : Int32))), Iv (p1 ^^^ (8 : Int32)), Rv b_8, Rv b_21, Rv b_42, Iv (own_flag (8 : Int32) p1), Iv (own_flag (8 : Int32) (p1 ^^^ (p3 &&& (-9 : Int32)))), Iv (own_flag (8 : Int32) (p1 ^^^ (8 : Int32)))] [])) tt_
      refine XS.iconst X_75.here hEX rfl (hb hBY at_114) ?_
      show Steps p.tables e below (T_75.setTop (mkF m 115 #[Iv p1, Iv p2, Iv p3, Rv b_2, Iv ex, Iv (p1 ^^^ (p3 &&& (-9 : Int32))), Iv (p1 ^^^ (8 : Int32)), Rv b_8, Rv b_21, Rv b_42, Iv (own_flag (8 : Int32) p1), Iv (own_flag (8 : Int32) (p1 ^^^ (p3 &&& (-9 : Int32)))), Iv (own_flag (8 : Int32) (p1 ^^^ (8 : Int32)))] [(.int (1 : Int32))])) tt_
      refine XS.goto X_75.here hEX rfl (pc0 := 115) (pc' := 119) rfl (hb hBY at_115) (by decide) (by decide) ?_
      exact kt_
    refine Done.pre sg_76 ?_
    exact Done.retN X_75 hEX hLK (t := .boolean) hRT (by simp) (hb hBY at_119) (by rw [e_75]; exact ⟨rfl, N_75, K__59⟩) (by decide) (by decide)
  show Done _ _ _ _ _ _ _ (T_2.setTop (mkF m 4 #[Iv p1, Iv p2, Iv p3, Rv b_2, Us, Us, Us, Us, Us, Us, Us, Us, Us] []))
  have sg_77 : ∀ tt_, Steps p.tables e below (T_2.setTop (mkF m 10 #[Iv p1, Iv p2, Iv p3, Rv b_2, Us, Us, Us, Us, Us, Us, Us, Us, Us] [(.int (1 : Int32)), (.int (((p1.toUInt32 >>> ((3 : Int32) &&& 31).toUInt32).toInt32) &&& (1 : Int32)))])) tt_ → Steps p.tables e below (T_2.setTop (mkF m 4 #[Iv p1, Iv p2, Iv p3, Rv b_2, Us, Us, Us, Us, Us, Us, Us, Us, Us] [])) tt_ := by
    intro tt_ kt_
    refine XS.iloadN X_2.here hEX rfl (hb hBY at_4) rfl ?_
    show Steps p.tables e below (T_2.setTop (mkF m 5 #[Iv p1, Iv p2, Iv p3, Rv b_2, Us, Us, Us, Us, Us, Us, Us, Us, Us] [(.int p1)])) tt_
    refine XS.iconst X_2.here hEX rfl (hb hBY at_5) ?_
    show Steps p.tables e below (T_2.setTop (mkF m 6 #[Iv p1, Iv p2, Iv p3, Rv b_2, Us, Us, Us, Us, Us, Us, Us, Us, Us] [(.int (3 : Int32)), (.int p1)])) tt_
    refine XS.iushr X_2.here hEX rfl (hb hBY at_6) rfl ?_
    show Steps p.tables e below (T_2.setTop (mkF m 7 #[Iv p1, Iv p2, Iv p3, Rv b_2, Us, Us, Us, Us, Us, Us, Us, Us, Us] [(.int ((p1.toUInt32 >>> ((3 : Int32) &&& 31).toUInt32).toInt32))])) tt_
    refine XS.iconst X_2.here hEX rfl (hb hBY at_7) ?_
    show Steps p.tables e below (T_2.setTop (mkF m 8 #[Iv p1, Iv p2, Iv p3, Rv b_2, Us, Us, Us, Us, Us, Us, Us, Us, Us] [(.int (1 : Int32)), (.int ((p1.toUInt32 >>> ((3 : Int32) &&& 31).toUInt32).toInt32))])) tt_
    refine XS.iand X_2.here hEX rfl (hb hBY at_8) rfl ?_
    show Steps p.tables e below (T_2.setTop (mkF m 9 #[Iv p1, Iv p2, Iv p3, Rv b_2, Us, Us, Us, Us, Us, Us, Us, Us, Us] [(.int (((p1.toUInt32 >>> ((3 : Int32) &&& 31).toUInt32).toInt32) &&& (1 : Int32)))])) tt_
    refine XS.iconst X_2.here hEX rfl (hb hBY at_9) ?_
    exact kt_
  refine Done.pre sg_77 ?_
  by_cases hc10 : (((p1.toUInt32 >>> ((3 : Int32) &&& 31).toUInt32).toInt32) &&& (1 : Int32)) = (1 : Int32)
  · skip
    have sg_78 : ∀ tt_, Steps p.tables e below (T_2.setTop (mkF m 18 #[Iv p1, Iv p2, Iv p3, Rv b_2, Us, Us, Us, Us, Us, Us, Us, Us, Us] [(.int (1 : Int32))])) tt_ → Steps p.tables e below (T_2.setTop (mkF m 10 #[Iv p1, Iv p2, Iv p3, Rv b_2, Us, Us, Us, Us, Us, Us, Us, Us, Us] [(.int (1 : Int32)), (.int (((p1.toUInt32 >>> ((3 : Int32) &&& 31).toUInt32).toInt32) &&& (1 : Int32)))])) tt_ := by
      intro tt_ kt_
      refine XS.icmpNo X_2.here hEX rfl (hb hBY at_10) rfl (teq hc10).2 ?_
      show Steps p.tables e below (T_2.setTop (mkF m 13 #[Iv p1, Iv p2, Iv p3, Rv b_2, Us, Us, Us, Us, Us, Us, Us, Us, Us] [])) tt_
      refine XS.iconst X_2.here hEX rfl (hb hBY at_13) ?_
      show Steps p.tables e below (T_2.setTop (mkF m 14 #[Iv p1, Iv p2, Iv p3, Rv b_2, Us, Us, Us, Us, Us, Us, Us, Us, Us] [(.int (1 : Int32))])) tt_
      refine XS.goto X_2.here hEX rfl (pc0 := 14) (pc' := 18) rfl (hb hBY at_14) (by decide) (by decide) ?_
      exact kt_
    refine Done.pre sg_78 ?_
    exact jn_6 ((1 : Int32)) (by first | exact own_ex1 _ hc10 | exact own_ex0 _ hc10)
  · skip
    have sg_79 : ∀ tt_, Steps p.tables e below (T_2.setTop (mkF m 18 #[Iv p1, Iv p2, Iv p3, Rv b_2, Us, Us, Us, Us, Us, Us, Us, Us, Us] [(.int (0 : Int32))])) tt_ → Steps p.tables e below (T_2.setTop (mkF m 10 #[Iv p1, Iv p2, Iv p3, Rv b_2, Us, Us, Us, Us, Us, Us, Us, Us, Us] [(.int (1 : Int32)), (.int (((p1.toUInt32 >>> ((3 : Int32) &&& 31).toUInt32).toInt32) &&& (1 : Int32)))])) tt_ := by
      intro tt_ kt_
      refine XS.icmpYes X_2.here hEX rfl (pc0 := 10) (pc' := 17) rfl (hb hBY at_10) rfl (feq hc10).2 (by decide) (by decide) ?_
      show Steps p.tables e below (T_2.setTop (mkF m 17 #[Iv p1, Iv p2, Iv p3, Rv b_2, Us, Us, Us, Us, Us, Us, Us, Us, Us] [])) tt_
      refine XS.iconst X_2.here hEX rfl (hb hBY at_17) ?_
      exact kt_
    refine Done.pre sg_79 ?_
    exact jn_6 ((0 : Int32)) (by first | exact own_ex1 _ hc10 | exact own_ex0 _ hc10)
set_option maxRecDepth 65536 in
set_option maxHeartbeats 40000000 in
theorem comes_1 {Post : Tables → Env → Array Value → State → Outcome → State → Prop} (hpost : ∀ tb e args s v u, (limb_1_1.after args s (.returned v) u = true ∧ limb_1_2.after args s (.returned v) u = true ∧ True) → FrameEnd s (.returned v) u (Jvm.fieldLocs frame_1_writes args s ++ Jvm.arrayLocs frame_1_arrays args s ++ Jvm.staticLocs frame_1_statics s) 16 128 → Post tb e args s (.returned v) u) :
    ArmFor flags0 classFile x code maxLocals ret World_1 tables_1 room_1 Calls_1 rest_1 Pre_1 Post := by
  intro l hfl _ _ p e ha hc hk s m args below hf hA hF happ hP
  obtain ⟨hcalls, hrest, hpre⟩ := hP
  obtain ⟨-, -, -, hnamed, -, -, -, hat⟩ := (Spec.applies_iff hf).mp happ
  obtain ⟨hg, hn⟩ := and_e (Cond.before_iff.mp (show (Jvm.Cond.and given_1 narrow_1).before args s = true from hpre))
  obtain ⟨g1a, g1b⟩ := and_e hg
  obtain ⟨g2a, g2b⟩ := and_e g1b
  obtain ⟨g3a, g3b⟩ := and_e g2b
  obtain ⟨w0, w1, w2, rfl⟩ : ∃ w0 w1 w2 : Value, args = #[w0, w1, w2] := by
    have hs : args.size = 3 := by simpa [Cond.value, given_1] using g1a
    obtain ⟨L⟩ := args
    match L, hs with
    | [w0, w1, w2], _ => exact ⟨w0, w1, w2, rfl⟩
  have hw := fun d (hd : d ∈ tables_1) => atoms_spec (ws := Jvm.Cond.code x code maxLocals ret :: tables_1) hat d (List.mem_cons_of_mem _ hd)
  have hfit : Fit s := fun {y c} hc i hi => by
    obtain ⟨ha, rfl⟩ := Array.getElem?_eq_some_iff.mp hc
    have q := List.all_eq_true.mp ((Array.all_eq_true_iff_forall_mem.mp hF) _ (Array.getElem_mem ha)) i (List.mem_range.mpr hi)
    simpa [Array.getElem?_eq_getElem hi] using q
  obtain ⟨i0, ei0⟩ := is_v g2a
  obtain rfl : w0 = (.int i0) := Option.some.inj ei0
  obtain ⟨i1, ei1⟩ := is_v g3a
  obtain rfl : w1 = (.int i1) := Option.some.inj ei1
  obtain ⟨i2, ei2⟩ := is_v g3b
  obtain rfl : w2 = (.int i2) := Option.some.inj ei2
  obtain ⟨n, o, h1, h2, h3, _, L, rfl, ⟨rfl, N, -⟩, hq⟩ := rm0 l s _ hw tables_1 i0 i1 i2  s.heap s.heap.size (Nat.le_refl _)  p e ha hc hk s m _ below hf ((Spec.applies_iff_loose hf).mp happ).1 ⟨rfl, State.Warmed39.refl s, rfl⟩ trivial
  refine ⟨n, _, h1, h2, h3, hpost _ _ _ _ _ _ ⟨Cond.after_iff.mpr rfl, Cond.after_iff.mpr (eq_i res_at (Term.int_eval (1)) rfl), trivial⟩ ⟨hq.1, hq.2.1, (hq.2.2.sift fun y hy => Or.inr (N y hy)).mono (by decide) (by decide)⟩⟩
theorem main_1_1 : Claimed_1_1 := comes_1 fun _ _ _ _ _ _ h hF => ⟨h.1, hF⟩
theorem main_1_2 : Claimed_1_2 := comes_1 fun _ _ _ _ _ _ h hF => ⟨h.2.1, hF⟩
end Jvm.Pilot.@@N@@
namespace Jvm.Pilot.@@N@@
open Jvm Jvm.ClassFile Sem Op Lib Jvm.Free Jvm.Stand Jvm.Pilot.@@N@@.Jvm.D
/-! MADE BY PROGRAM (witnessworld.py) out of the Statement's table words and the real class files: 10 classes; the members and pool entries that the words name. The judged class is class 1, her method 1. -/
namespace start1
open Jvm.ClassFile
def u (s : String) : CpInfo := .utf8 (stringToUtf16 s)
/-- a pool by its gaps: so many unusable entries, then the entry; so many at the end -/
def gap : Nat → List CpInfo → List CpInfo
  | 0, r => r
  | n + 1, r => .unusable :: gap n r
def poolList (es : List (Nat × CpInfo)) (last : Nat) : List CpInfo := es.foldr (fun e r => gap e.1 (e.2 :: r)) (gap last [])
def pool (es : List (Nat × CpInfo)) (last : Nat) : Array CpInfo := ⟨poolList es last⟩
def fileOf (pool : Array CpInfo) (this : Nat) (attrs : Array Attribute := #[]) (ms : Array MethodInfo := #[]) (fl : Nat := 33) (sup : Nat := 0) (ifs : Array Nat := #[]) (fds : Array FieldInfo := #[]) : ClassFile where
  minorVersion := 0
  majorVersion := 65
  constantPool := pool
  accessFlags := fl
  thisClass := this
  superClass := sup
  interfaces := ifs
  fields := fds
  methods := ms
  attributes := attrs
def plain (name : String) (sup : Option ClassId) : Class where
  name := name
  kind := .ordinary
  loader := none
  accessFlags := 33
  super := sup
  interfaces := #[]
  cf := none
  fields := #[]
  methods := #[]
  instanceTypes := #[]
  staticTypes := #[]
  resolved := #[]
  callSites := []
  init := .initialized
  statics := none
  mirror := none

def pool0 : Array CpInfo := pool [(5, u "<init>"), (0, u "()V"), (1, .class_ 10), (1, u "java/lang/Object")] 113

def k0c0 : Code := { maxStack := 0, maxLocals := 1, code := object_method_1_code, exceptionTable := #[], attributes := #[] }
def k0m0 : Method := { name := "<init>", desc := "()V", sig := { parameters := [], returnType := none }, accessFlags := 1, code := some k0c0 }
/-- java/lang/Object -/
def k0 : Class := { plain "java/lang/Object" none with
  accessFlags := 33
  interfaces := #[]
  cf := some (fileOf pool0 8 #[] #[{ accessFlags := 1, nameIndex := 5, descriptorIndex := 6, attributes := #[] }] 33 0 #[] #[])
  fields := #[]
  methods := #[k0m0]
  instanceTypes := #[]
  staticTypes := #[]
  resolved := Array.replicate 124 none
  statics := none }

def pool1 : Array CpInfo := pool [(2, .class_ 4), (1, u "java/lang/Object"), (0, u "<init>"), (0, u "()V"), (0, .class_ 8), (0, u "com/example/tidelog/tidelog/rpc/Frame"), (0, .methodref 7 10), (0, .nameAndType 5 11), (0, u "(II[B)V"), (0, .methodref 7 13), (0, .nameAndType 14 15), (0, u "stream"), (0, u "()Z"), (0, .class_ 17), (0, u "com/example/tidelog/tidelog/rpc/FrameStreamPinLaw"), (2, u "law"), (0, u "(III)Z")] 5

def k1m0 : Method := { name := "<init>", desc := "()V", sig := { parameters := [], returnType := none }, accessFlags := 2, code := none }
def k1c1 : Code := { maxStack := 5, maxLocals := 13, code := code, exceptionTable := #[], attributes := #[] }
def k1m1 : Method := { name := "law", desc := "(III)Z", sig := { parameters := [.int, .int, .int], returnType := some .boolean }, accessFlags := 9, code := some k1c1 }
/-- com/example/tidelog/tidelog/rpc/FrameStreamPinLaw -/
def k1 : Class := { plain "com/example/tidelog/tidelog/rpc/FrameStreamPinLaw" (some 0) with
  accessFlags := 49
  interfaces := #[]
  cf := some (fileOf pool1 16 #[] #[{ accessFlags := 2, nameIndex := 5, descriptorIndex := 6, attributes := #[] }, { accessFlags := 9, nameIndex := 20, descriptorIndex := 21, attributes := #[] }] 49 2 #[] #[])
  fields := #[]
  methods := #[k1m0, k1m1]
  instanceTypes := #[]
  staticTypes := #[]
  resolved := Array.replicate 27 none
  statics := none }

def pool2 : Array CpInfo := pool [(1, .methodref 2 3), (0, .class_ 4), (0, .nameAndType 5 6), (0, u "java/lang/Object"), (0, u "<init>"), (0, u "()V"), (0, .class_ 8), (0, u "java/lang/Record")] 13

def k2c0 : Code := { maxStack := 1, maxLocals := 1, code := jdk_30_method_1_code, exceptionTable := #[], attributes := #[] }
def k2m0 : Method := { name := "<init>", desc := "()V", sig := { parameters := [], returnType := none }, accessFlags := 4, code := some k2c0 }
/-- java/lang/Record -/
def k2 : Class := { plain "java/lang/Record" (some 0) with
  accessFlags := 1057
  interfaces := #[]
  cf := some (fileOf pool2 7 #[] #[{ accessFlags := 4, nameIndex := 5, descriptorIndex := 6, attributes := #[] }] 1057 2 #[] #[])
  fields := #[]
  methods := #[k2m0]
  instanceTypes := #[]
  staticTypes := #[]
  resolved := Array.replicate 22 none
  statics := none }

def pool3 : Array CpInfo := pool [(1, .methodref 2 3), (0, .class_ 4), (0, .nameAndType 5 6), (0, u "java/lang/Record"), (0, u "<init>"), (0, u "()V"), (0, .fieldref 8 9), (0, .class_ 10), (0, .nameAndType 11 12), (0, u "com/example/tidelog/tidelog/rpc/Frame"), (0, u "flags"), (0, u "I"), (0, .fieldref 8 14), (0, .nameAndType 15 12), (0, u "request"), (0, .fieldref 8 17), (0, .nameAndType 18 19), (0, u "body"), (0, u "[B"), (20, u "(II[B)V"), (65, u "()Z"), (63, u "STREAM"), (2, u "END"), (1, u "BINARY"), (1, u "TEXT"), (1, u "JSON"), (1, u "HEADER_SIZE"), (1, u "MAX_BODY_SIZE"), (1, u "TYPE_BITS"), (15, u "stream")] 36

def k3c0 : Code := { maxStack := 2, maxLocals := 4, code := prog_35_method_1_code, exceptionTable := #[], attributes := #[] }
def k3m0 : Method := { name := "<init>", desc := "(II[B)V", sig := { parameters := [.int, .int, (.array .byte)], returnType := none }, accessFlags := 0, code := some k3c0 }
def k3c1 : Code := { maxStack := 2, maxLocals := 1, code := prog_35_method_7_code, exceptionTable := #[], attributes := #[] }
def k3m1 : Method := { name := "stream", desc := "()Z", sig := { parameters := [], returnType := some .boolean }, accessFlags := 0, code := some k3c1 }
/-- com/example/tidelog/tidelog/rpc/Frame -/
def k3 : Class := { plain "com/example/tidelog/tidelog/rpc/Frame" (some 2) with
  accessFlags := 48
  interfaces := #[]
  cf := some (fileOf pool3 8 #[] #[{ accessFlags := 0, nameIndex := 5, descriptorIndex := 40, attributes := #[] }, { accessFlags := 0, nameIndex := 201, descriptorIndex := 106, attributes := #[] }] 48 2 #[] #[{ accessFlags := 18, nameIndex := 11, descriptorIndex := 12, attributes := #[] }, { accessFlags := 18, nameIndex := 15, descriptorIndex := 12, attributes := #[] }, { accessFlags := 18, nameIndex := 18, descriptorIndex := 19, attributes := #[] }, { accessFlags := 24, nameIndex := 170, descriptorIndex := 12, attributes := #[] }, { accessFlags := 24, nameIndex := 173, descriptorIndex := 12, attributes := #[] }, { accessFlags := 24, nameIndex := 175, descriptorIndex := 12, attributes := #[] }, { accessFlags := 24, nameIndex := 177, descriptorIndex := 12, attributes := #[] }, { accessFlags := 24, nameIndex := 179, descriptorIndex := 12, attributes := #[] }, { accessFlags := 24, nameIndex := 181, descriptorIndex := 12, attributes := #[] }, { accessFlags := 24, nameIndex := 183, descriptorIndex := 12, attributes := #[] }, { accessFlags := 26, nameIndex := 185, descriptorIndex := 12, attributes := #[] }])
  fields := #[{ name := "flags", type := .int, accessFlags := 18, slot := 0, constantValue := 0 }, { name := "request", type := .int, accessFlags := 18, slot := 1, constantValue := 0 }, { name := "body", type := (.array .byte), accessFlags := 18, slot := 2, constantValue := 0 }, { name := "STREAM", type := .int, accessFlags := 24, slot := 0, constantValue := 0 }, { name := "END", type := .int, accessFlags := 24, slot := 1, constantValue := 0 }, { name := "BINARY", type := .int, accessFlags := 24, slot := 2, constantValue := 0 }, { name := "TEXT", type := .int, accessFlags := 24, slot := 3, constantValue := 0 }, { name := "JSON", type := .int, accessFlags := 24, slot := 4, constantValue := 0 }, { name := "HEADER_SIZE", type := .int, accessFlags := 24, slot := 5, constantValue := 0 }, { name := "MAX_BODY_SIZE", type := .int, accessFlags := 24, slot := 6, constantValue := 0 }, { name := "TYPE_BITS", type := .int, accessFlags := 26, slot := 7, constantValue := 0 }]
  methods := #[k3m0, k3m1]
  instanceTypes := #[.int, .int, (.array .byte)]
  staticTypes := #[.int, .int, .int, .int, .int, .int, .int, .int]
  resolved := Array.replicate 238 none
  statics := none }

def pool4 : Array CpInfo := pool [(1, u "java/lang/Cloneable"), (0, .class_ 1), (0, u "java/lang/Object"), (0, .class_ 3)] 3

/-- java/lang/Cloneable -/
def k4 : Class := { plain "java/lang/Cloneable" (some 0) with
  accessFlags := 1537
  interfaces := #[]
  cf := some (fileOf pool4 2 #[] #[] 1537 4 #[] #[])
  fields := #[]
  methods := #[]
  instanceTypes := #[]
  staticTypes := #[]
  resolved := Array.replicate 8 none
  statics := none }

def pool5 : Array CpInfo := pool [(1, u "java/io/Serializable"), (0, .class_ 1), (0, u "java/lang/Object"), (0, .class_ 3)] 3

/-- java/io/Serializable -/
def k5 : Class := { plain "java/io/Serializable" (some 0) with
  accessFlags := 1537
  interfaces := #[]
  cf := some (fileOf pool5 2 #[] #[] 1537 4 #[] #[])
  fields := #[]
  methods := #[]
  instanceTypes := #[]
  staticTypes := #[]
  resolved := Array.replicate 8 none
  statics := none }

/-- the primitive byte -/
def k6 : Class := { plain "byte" none with kind := .primitive 'B', accessFlags := 0x411 }
/-- [B -/
def k7 : Class := { plain "[B" (some 0) with kind := .array 6 .byte, interfaces := #[4, 5], accessFlags := 1041 }

/-- the primitive int -/
def k8 : Class := { plain "int" none with kind := .primitive 'I', accessFlags := 0x411 }
/-- [I -/
def k9 : Class := { plain "[I" (some 0) with kind := .array 8 .int, interfaces := #[4, 5], accessFlags := 1041 }

def heap : Heap := #[]
def classes : Array Class := #[k0, k1, k2, k3, k4, k5, k6, k7, k8, k9]
def interned : List (Array UInt16 × Addr) := []
def slotsUsed : Nat := 0
def theMethod : MethodId := ⟨1, 1⟩
def args0 : Array Value := #[.int 5, .int 6, .int 7]
def aboutOver (below : List Frame) : State where
  vm := { classes := classes, interned := interned.toArray }
  heap := heap
  slotsUsed := slotsUsed
  threads := #[{ frames := .invoking theMethod args0 :: below }]
def below0 : List Frame := [.native { method := ⟨0, 0⟩, args := #[] }]
def about1 : State := aboutOver below0
def p0 : Program := .bare "" "" ""
def e0 : Env := launch0.env 0 0 0
theorem w_frames : about1.frames = Frame.invoking theMethod args0 :: below0 := rfl
set_option maxRecDepth 65536 in
theorem w_args : argsFit about1.vm theMethod args0 = true := by decide +kernel
set_option maxRecDepth 65536 in
theorem w_heap : heapFits about1 = true := by decide +kernel
set_option maxRecDepth 65536 in
theorem w_runnable : about1.curStatus? = some .runnable := by decide +kernel
set_option maxRecDepth 65536 in
theorem w_alone : about1.alone = true := by decide +kernel
set_option maxRecDepth 65536 in
theorem w_named : about1.methodNamed? x = some theMethod := by decide +kernel
set_option maxRecDepth 65536 in
theorem w_hears : about1.hears theMethod below0 = true := by decide +kernel
set_option maxRecDepth 65536 in
theorem w_ripe : about1.ripe theMethod args0 below0 = true := by decide +kernel
theorem w_running : about1.status = .running := rfl
set_option maxRecDepth 65536 in
theorem w_room : about1.hasRoom e0.platform room_1 = true :=
  launch0.hasRoom_least _ room_1 (by decide +kernel) (by decide +kernel) (by decide +kernel) (by decide +kernel) (by decide +kernel) (by decide +kernel)
theorem allAtoms_all (ts : List Jvm.Cond) (a : Array Jvm.Value) (st : Jvm.State) : (allAtoms ts).before a st = ts.all (fun c => c.before a st) := by
  induction ts with
  | nil => rfl
  | cons c t ih =>
    show (Jvm.Cond.and c (allAtoms t)).before a st = _
    rw [Jvm.Cond.before_and, ih, List.all_cons]
def words1 : List Jvm.Cond := Jvm.Cond.code x code maxLocals ret :: tables_1
/-- a 'code' word, met by the world's own term for the bytes: nothing is compared byte by byte -/
theorem code_word {y : MethodName} {bytes : ByteArray} {mx : Nat} {rt : Option FieldType} {a : Array Value} {s : State} {m : MethodId} {meth : Method} {c : Code} (h1 : s.methodNamed? y = some m) (h2 : s.vm.method? m = some meth) (h3 : meth.code = some c) (h4 : c.code = bytes)
    (h5 : (c.maxLocals == mx && c.exceptionTable.isEmpty && decide (c.maxStack ≤ mostOperands) && decide (meth.sig.returnType = rt) && !meth.locks && decide (parseMethodDescriptor y.desc = some meth.sig)) = true) : (Jvm.Cond.code y bytes mx rt).before a s = true := by
  simp only [Bool.and_eq_true, beq_iff_eq, Bool.not_eq_true', decide_eq_true_eq] at h5
  obtain ⟨⟨⟨⟨⟨g1, g2⟩, g3⟩, g4⟩, g5⟩, g6⟩ := h5
  simp [Cond.before, Cond.holds, Cond.value, h1, h2, h3, h4, g1, g2, g3, g4, g5, g6]
def isCode : Jvm.Cond → Bool
  | .code _ _ _ _ => true
  | _ => false
theorem all_split {L : List Jvm.Cond} {P : Jvm.Cond → Bool} (h1 : L.all (fun c => isCode c || P c) = true) (h2 : ∀ c ∈ L.filter isCode, P c = true) : L.all P = true := by
  refine List.all_eq_true.mpr fun c hc => ?_
  have h := List.all_eq_true.mp h1 c hc
  rcases Bool.eq_false_or_eq_true (isCode c) with hi | hi
  · exact h2 c (List.mem_filter.mpr ⟨hc, hi⟩)
  · simpa [hi] using h
set_option maxRecDepth 65536 in
theorem w_c0 : (Jvm.Cond.code x code maxLocals ret).before args0 about1 = true := code_word (m := ⟨1, 1⟩) (meth := k1m1) (c := k1c1) (by decide +kernel) rfl rfl rfl (by decide +kernel)
set_option maxRecDepth 65536 in
theorem w_c1 : (Jvm.Cond.code ({ cls := "com/example/tidelog/tidelog/rpc/Frame", name := "<init>", desc := "(II[B)V" } : Jvm.MethodName) prog_35_method_1_code (4 : Nat) (Option.none : Option Jvm.ClassFile.FieldType)).before args0 about1 = true := code_word (m := ⟨3, 0⟩) (meth := k3m0) (c := k3c0) (by decide +kernel) rfl rfl rfl (by decide +kernel)
set_option maxRecDepth 65536 in
theorem w_c2 : (Jvm.Cond.code ({ cls := "java/lang/Record", name := "<init>", desc := "()V" } : Jvm.MethodName) jdk_30_method_1_code (1 : Nat) (Option.none : Option Jvm.ClassFile.FieldType)).before args0 about1 = true := code_word (m := ⟨2, 0⟩) (meth := k2m0) (c := k2c0) (by decide +kernel) rfl rfl rfl (by decide +kernel)
set_option maxRecDepth 65536 in
theorem w_c3 : (Jvm.Cond.code ({ cls := "java/lang/Object", name := "<init>", desc := "()V" } : Jvm.MethodName) object_method_1_code (1 : Nat) (Option.none : Option Jvm.ClassFile.FieldType)).before args0 about1 = true := code_word (m := ⟨0, 0⟩) (meth := k0m0) (c := k0c0) (by decide +kernel) rfl rfl rfl (by decide +kernel)
set_option maxRecDepth 65536 in
theorem w_c4 : (Jvm.Cond.code ({ cls := "com/example/tidelog/tidelog/rpc/Frame", name := "stream", desc := "()Z" } : Jvm.MethodName) prog_35_method_7_code (1 : Nat) (Option.some Jvm.ClassFile.FieldType.boolean)).before args0 about1 = true := code_word (m := ⟨3, 1⟩) (meth := k3m1) (c := k3c1) (by decide +kernel) rfl rfl rfl (by decide +kernel)
def codes1 : List Jvm.Cond := [Jvm.Cond.code x code maxLocals ret, Jvm.Cond.code ({ cls := "com/example/tidelog/tidelog/rpc/Frame", name := "<init>", desc := "(II[B)V" } : Jvm.MethodName) prog_35_method_1_code (4 : Nat) (Option.none : Option Jvm.ClassFile.FieldType), Jvm.Cond.code ({ cls := "java/lang/Record", name := "<init>", desc := "()V" } : Jvm.MethodName) jdk_30_method_1_code (1 : Nat) (Option.none : Option Jvm.ClassFile.FieldType), Jvm.Cond.code ({ cls := "java/lang/Object", name := "<init>", desc := "()V" } : Jvm.MethodName) object_method_1_code (1 : Nat) (Option.none : Option Jvm.ClassFile.FieldType), Jvm.Cond.code ({ cls := "com/example/tidelog/tidelog/rpc/Frame", name := "stream", desc := "()Z" } : Jvm.MethodName) prog_35_method_7_code (1 : Nat) (Option.some Jvm.ClassFile.FieldType.boolean)]
set_option maxRecDepth 65536 in
theorem codes_eq : words1.filter isCode = codes1 := rfl
theorem w_codes : ∀ c ∈ words1.filter isCode, c.before args0 about1 = true := by
  rw [codes_eq]
  intro c hc
  simp only [codes1, List.mem_cons, List.not_mem_nil, or_false] at hc
  rcases hc with rfl | rfl | rfl | rfl | rfl
  · exact w_c0
  · exact w_c1
  · exact w_c2
  · exact w_c3
  · exact w_c4
set_option maxRecDepth 65536 in
theorem w_t1 : (words1.take 24).all (fun c => isCode c || c.before args0 about1) = true := by decide +kernel
set_option maxRecDepth 65536 in
theorem w_t2 : (words1.drop 24).all (fun c => isCode c || c.before args0 about1) = true := by decide +kernel
theorem w_tables : (allAtoms (Jvm.Cond.code x code maxLocals ret :: tables_1)).before args0 about1 = true := by
  rw [allAtoms_all]
  show words1.all (fun c => c.before args0 about1) = true
  refine all_split ?_ w_codes
  rw [← List.take_append_drop 24 words1, List.all_append, w_t1, w_t2]
  rfl
set_option maxRecDepth 65536 in
theorem w_case : (Jvm.Cond.and given_1 narrow_1).before args0 about1 = true := by decide +kernel
theorem w_applies : (headSpec (Jvm.Cond.code x code maxLocals ret :: tables_1) room_1).applies x e0.platform about1 = true :=
  (Spec.applies_iff w_frames).mpr ⟨w_running, w_runnable, w_alone, w_named, w_hears, w_ripe, w_room, w_tables⟩
theorem atStart : AtStart classFile x code maxLocals ret World_1 tables_1 room_1 Calls_1 rest_1 Pre_1 launch0 p0 e0 about1 theMethod args0 below0 :=
  ⟨lists_1, trivial, launch0.admits_env _ _ _, launch0.least_env, fairChoices_fair.cas, fairChoices_fair.clock, w_frames, w_args, w_heap, w_applies, trivial, trivial, w_case⟩
end start1
theorem witness_1 : WitnessClaimed_1 := ⟨start1.p0, start1.e0, start1.about1, start1.theMethod, start1.args0, start1.below0, start1.atStart⟩
end Jvm.Pilot.@@N@@
