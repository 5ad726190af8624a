import JvmDerived
import JvmDerived.Pilot.@@N@@Statement
import JvmDerived.Pilot.@@N@@Code
set_option linter.unusedVariables false
set_option linter.unusedSimpArgs false
namespace Jvm.RoadKit
open Sem ClassFile Op Lib Jvm.Stand Jvm.Free Jvm.LawKit
section New
variable {p : Program} {l : Launch} {e : Env} {R : Room} {s : State} {m : MethodId} {args : Array Value} {below : List Frame} {meth : Method} {c : Code} {T : State} {locs : List Loc} {cells slots : Nat}
theorem retI (X : Stand p l e R s m args below meth c T locs cells slots) (hEX : p.tables.exec = Jvm.exec) {pc : Nat} {Ls : Array Slot} {z : Int32} {rest : List Value} (hRT : meth.sig.returnType = some .int) (hd : decode c.code pc = .ok (.ireturn, 1)) {fs : List Frame}
    (hl : ∀ (f : JFrame) (acts : List Action), f.method = m → f.locked = none → f.entered = [] → (doReturn e (T.setTop f) acts (some (.int z))).1 = T.setFrames fs) : Steps p.tables e below (T.setTop (mkF m pc Ls (.int z :: rest))) (T.setFrames fs) := by
  have hm' : T.vm.method? m = some meth := X.method'
  have hn : narrow .int (.int z) = .int z := rfl
  show Steps p.tables e below (T.setTop { method := m, pc := pc, locals := Ls, stack := _ :: rest, locked := none }) _
  jvm_step X.here [X.here.top, hEX, hd, hm', hRT, hn]
  first | (intro acts; rw [hl _ acts rfl rfl rfl]) | rw [hl _ _ rfl rfl rfl]
  exact Steps.refl _
abbrev Us : Slot := .unset
abbrev Zs : Slot := .second
abbrev Nv : Slot := .val .null
abbrev Iv (x : Int32) : Slot := .val (.int x)
abbrev Lv (x : Int64) : Slot := .val (.long x)
abbrev Rv (x : Addr) : Slot := .val (.ref x)
/-- the body comes to its end from st: it returns v, and Q holds of v, of the heap and of the places written -/
def Done (p : Program) (e : Env) (below : List Frame) (s : State) (Q : Option Value → Heap → List Loc → Prop) (kc ks : Nat) (st : State) : Prop :=
  ∃ (s₂ : State) (o : Outcome), Steps p.tables e below st s₂ ∧ s₂.status = .running ∧ Ended s₂ below o ∧ ∃ v L, o = .returned v ∧ Q v s₂.heap L ∧ FrameEnd s o s₂ L kc ks
variable {Q : Option Value → Heap → List Loc → Prop} {kc ks : Nat}
theorem Done.pre {st st' : State} (h : ∀ t, Steps p.tables e below st' t → Steps p.tables e below st t) (D : Done p e below s Q kc ks st') : Done p e below s Q kc ks st := by
  obtain ⟨s₂, o, h1, r⟩ := D
  exact ⟨s₂, o, h _ h1, r⟩
theorem Done.retI (X : Stand p l e R s m args below meth c T locs cells slots) (hEX : p.tables.exec = Jvm.exec) (hLK : meth.locks = false) {pc : Nat} {Ls : Array Slot} {z : Int32} {rest : List Value} (hRT : meth.sig.returnType = some .int) (hd : decode c.code pc = .ok (.ireturn, 1))
    (hQ : Q (some (.int z)) T.heap locs) (hc : cells ≤ kc) (hs : slots ≤ ks) : Done p e below s Q kc ks (T.setTop (mkF m pc Ls (.int z :: rest))) := by
  obtain ⟨fs, hr, hrun, hended, hW, hsame⟩ := X.leave (v := some (.int z)) (fun h => by rw [hRT] at h; cases h) hLK
  exact ⟨_, _, Jvm.RoadKit.retI X hEX hRT hd hr, hrun, hended, _, _, rfl, hQ, ⟨_, rfl⟩, hW, hsame.mono hc hs⟩
theorem Done.retN (X : Stand p l e R s m args below meth c T locs cells slots) (hEX : p.tables.exec = Jvm.exec) (hLK : meth.locks = false) {pc : Nat} {Ls : Array Slot} {z : Int32} {t : FieldType} {rest : List Value} (hRT : meth.sig.returnType = some t) (ht : t = .boolean ∨ t = .byte ∨ t = .char ∨ t = .short) (hd : decode c.code pc = .ok (.ireturn, 1))
    (hQ : Q (some (.int (nar t z))) T.heap locs) (hc : cells ≤ kc) (hs : slots ≤ ks) : Done p e below s Q kc ks (T.setTop (mkF m pc Ls (.int z :: rest))) := by
  obtain ⟨fs, hr, hrun, hended, hW, hsame⟩ := X.leave (v := some (.int (nar t z))) (fun h => by rw [hRT] at h; cases h) hLK
  exact ⟨_, _, Jvm.RoadKit.retN X hEX hRT ht hd hr, hrun, hended, _, _, rfl, hQ, ⟨_, rfl⟩, hW, hsame.mono hc hs⟩
theorem Done.retL (X : Stand p l e R s m args below meth c T locs cells slots) (hEX : p.tables.exec = Jvm.exec) (hLK : meth.locks = false) {pc : Nat} {Ls : Array Slot} {z : Int64} {rest : List Value} (hRT : meth.sig.returnType = some .long) (hd : decode c.code pc = .ok (.lreturn, 1))
    (hQ : Q (some (.long z)) T.heap locs) (hc : cells ≤ kc) (hs : slots ≤ ks) : Done p e below s Q kc ks (T.setTop (mkF m pc Ls (.long z :: rest))) := by
  obtain ⟨fs, hr, hrun, hended, hW, hsame⟩ := X.leave (v := some (.long z)) (fun h => by rw [hRT] at h; cases h) hLK
  exact ⟨_, _, retOut X hEX hRT rfl (Or.inr (Or.inl ⟨rfl, rfl, _, rfl⟩)) hd hr, hrun, hended, _, _, rfl, hQ, ⟨_, rfl⟩, hW, hsame.mono hc hs⟩
theorem Done.retA (X : Stand p l e R s m args below meth c T locs cells slots) (hEX : p.tables.exec = Jvm.exec) (hLK : meth.locks = false) {pc : Nat} {Ls : Array Slot} {w : Value} {t : FieldType} {rest : List Value} (hRT : meth.sig.returnType = some t) (ht : t.isReference = true) (hw : w.isRef = true) (hd : decode c.code pc = .ok (.areturn, 1))
    (hQ : Q (some w) T.heap locs) (hc : cells ≤ kc) (hs : slots ≤ ks) : Done p e below s Q kc ks (T.setTop (mkF m pc Ls (w :: rest))) := by
  obtain ⟨fs, hr, hrun, hended, hW, hsame⟩ := X.leave (v := some w) (fun h => by rw [hRT] at h; cases h) hLK
  have hn : narrow t w = w := by cases t <;> first | rfl | (simp [FieldType.isReference] at ht)
  exact ⟨_, _, retOut X hEX hRT hn (Or.inr (Or.inr (Or.inr (Or.inr ⟨rfl, ht, hw⟩)))) hd hr, hrun, hended, _, _, rfl, hQ, ⟨_, rfl⟩, hW, hsame.mono hc hs⟩
theorem Done.retV (X : Stand p l e R s m args below meth c T locs cells slots) (hEX : p.tables.exec = Jvm.exec) (hLK : meth.locks = false) {pc : Nat} {Ls : Array Slot} (hRT : meth.sig.returnType = none) (hd : decode c.code pc = .ok (.return_, 1))
    (hQ : Q none T.heap locs) (hc : cells ≤ kc) (hs : slots ≤ ks) : Done p e below s Q kc ks (T.setTop (mkF m pc Ls [])) := by
  obtain ⟨fs, hr, hrun, hended, hW, hsame⟩ := X.leave (v := none) (fun _ => rfl) hLK
  exact ⟨_, _, X.returnOut hEX hRT hd hr, hrun, hended, _, _, rfl, hQ, ⟨_, rfl⟩, hW, hsame.mono hc hs⟩
end New
end Jvm.RoadKit
namespace Jvm.Pilot.@@N@@
open Jvm Jvm.ClassFile Sem Op Lib Jvm.Free Jvm.Stand Jvm.LawKit Jvm.RoadKit Bundle Jvm.Pilot.@@N@@.Jvm.D

def own_flag (m x : Int32) : Int32 := if (x &&& m) = (0 : Int32) then (0 : Int32) else (1 : Int32)
theorem own_bit (x m : Int32) (k : Nat) (hm : m.toBitVec = BitVec.twoPow 32 k) (hz : m.toBitVec ≠ 0#32) : ((x &&& m) = (0 : Int32)) ↔ x.toBitVec.getLsbD k = false := by
  have h2 : ((x &&& m) = (0 : Int32)) ↔ x.toBitVec &&& m.toBitVec = 0#32 := by
    rw [← Int32.toBitVec_inj]; exact Iff.rfl
  rw [h2, hm, BitVec.and_twoPow]
  rw [hm] at hz
  cases x.toBitVec.getLsbD k <;> simp [hz]
theorem own_flag_eq (x m : Int32) (k : Nat) (hm : m.toBitVec = BitVec.twoPow 32 k) (hz : m.toBitVec ≠ 0#32) : own_flag m x = if x.toBitVec.getLsbD k = true then (1 : Int32) else (0 : Int32) := by
  have h := own_bit x m k hm hz
  rw [own_flag]
  cases hb : x.toBitVec.getLsbD k
  · rw [if_pos (h.mpr hb)]; rfl
  · rw [if_neg (fun q => by rw [h.mp q] at hb; cases hb)]; rfl
theorem own_shr (x q : Int32) (k : Nat) (hk : q.toBitVec.toNat % 32 = k) (h0 : 0 < k) : (((x.toUInt32 >>> (q &&& 31).toUInt32).toInt32 &&& (1 : Int32)) = (1 : Int32)) ↔ x.toBitVec.getLsbD k = true := by
  have h1 := c_iushr x q k hk h0
  have h2 := c_mask ((x.toUInt32 >>> (q &&& 31).toUInt32).toInt32) (1 : Int32) 1 (by decide) (by decide)
  rw [h1] at h2
  have h3 : x.toInt % 4294967296 = (x.toBitVec.toNat : Int) := by
    show x.toBitVec.toInt % 4294967296 = _
    rw [BitVec.toInt_eq_toNat_cond]
    have := x.toBitVec.isLt
    split <;> omega
  have h4 : x.toBitVec.getLsbD k = decide (x.toBitVec.toNat / 2 ^ k % 2 = 1) := by
    show x.toBitVec.toNat.testBit k = _
    rw [Nat.testBit_eq_decide_div_mod_eq]
  rw [h3] at h2
  rw [← Int32.toInt_inj, h2, h4, decide_eq_true_iff]
  have e1 : (1 : Int32).toInt = 1 := rfl
  rw [e1]
  have : ((x.toBitVec.toNat : Int) / ((2 ^ k : Nat) : Int)) = ((x.toBitVec.toNat / 2 ^ k : Nat) : Int) := by simp
  rw [this]
  have e2 : ((2 ^ 1 : Nat) : Int) = 2 := rfl
  rw [e2]; omega

theorem own_nn (x : Int32) : ¬ (x &&& (3 : Int32)) < 0 := by
  rw [Int32.lt_iff_toInt_lt, c_mask x _ 2 (by decide) (by decide)]
  have e : (0 : Int32).toInt = 0 := rfl
  omega
theorem own_le3 (x : Int32) : (x &&& (3 : Int32)).toNatClampNeg ≤ 3 := by
  have h := c_mask x 3 2 (by decide) (by decide)
  simp only [Int32.toNatClampNeg]
  omega
theorem own_ex1 (x : Int32) (h : (((x.toUInt32 >>> ((2 : Int32) &&& 31).toUInt32).toInt32) &&& (1 : Int32)) = (1 : Int32)) : (1 : Int32) = own_flag (4 : Int32) x := by
  rw [own_flag_eq x 4 2 (by decide) (by decide), if_pos ((own_shr x 2 2 (by decide) (by decide)).mp h)]
theorem own_ex0 (x : Int32) (h : ¬ (((x.toUInt32 >>> ((2 : Int32) &&& 31).toUInt32).toInt32) &&& (1 : Int32)) = (1 : Int32)) : (0 : Int32) = own_flag (4 : Int32) x := by
  rw [own_flag_eq x 4 2 (by decide) (by decide), if_neg (fun q => h ((own_shr x 2 2 (by decide) (by decide)).mpr q))]
theorem own_set (x : Int32) : ¬ own_flag (4 : Int32) (x ||| (4 : Int32)) = (0 : Int32) := by
  rw [own_flag_eq _ 4 2 (by decide) (by decide)]
  have : (x ||| (4 : Int32)).toBitVec.getLsbD 2 = true := by
    show (x.toBitVec ||| (4 : Int32).toBitVec).getLsbD 2 = _
    rw [BitVec.getLsbD_or]
    have e : (4 : Int32).toBitVec.getLsbD 2 = true := by decide
    rw [e]; simp
  rw [this]; decide
theorem own_clr (x : Int32) : own_flag (4 : Int32) (x &&& (-5 : Int32)) = (0 : Int32) := by
  rw [own_flag_eq _ 4 2 (by decide) (by decide)]
  have : (x &&& (-5 : Int32)).toBitVec.getLsbD 2 = false := by
    show (x.toBitVec &&& (-5 : Int32).toBitVec).getLsbD 2 = _
    rw [BitVec.getLsbD_and]
    have e : (-5 : Int32).toBitVec.getLsbD 2 = false := by decide
    rw [e]; simp
  rw [this]; decide
theorem d_jdk_30_method_1_code_0 : decode jdk_30_method_1_code 0 = .ok (.aload_n 0, 1) := by decide +kernel
theorem d_jdk_30_method_1_code_1 : decode jdk_30_method_1_code 1 = .ok (.invokespecial 1, 3) := by decide +kernel
theorem d_jdk_30_method_1_code_4 : decode jdk_30_method_1_code 4 = .ok (.return_, 1) := by decide +kernel
def Qrm_rec (Z : State) (a : Addr) (h0 : Heap) (n0 : Nat) (v_ : Option Value) (h_ : Heap) (L_ : List Loc) : Prop := v_ = none ∧ Fr n0 L_ ∧ h_ = h0
theorem ef_rm_rec (m : MethodId) (x0 : Addr) : entryFrame m #[(.ref x0)] 1 = mkF m 0 #[.val (.ref x0)] [] := by first | (simp [entryFrame, mkF, argsToLocals, Value.category]; done) | rfl
theorem pn_java_lang_Record : plainName "java/lang/Record" = true := by first | (simp [plainName, overriddenIn]; done) | decide +kernel
set_option maxRecDepth 65536 in
set_option maxHeartbeats 40000000 in
theorem rm_rec (l : Launch) (Z : State) (aZ : Array Value) (hw : ∀ d ∈ tables_1, d.before aZ Z = true) (ws : List Jvm.Cond) (a : Addr) (h0 : Heap) (n0 : Nat) (Z0 : n0 ≤ h0.size) :
    MetFree l (⟨"java/lang/Record", "<init>", "()V"⟩ : MethodName) (head1 (Jvm.Cond.code (⟨"java/lang/Record", "<init>", "()V"⟩ : MethodName) jdk_30_method_1_code 1 none :: ws) ({ frames := 1, cells := 0, slots := 0, locals := 12 } : Room)) (fun a_ U_ => a_ = #[(.ref a)] ∧ Z.Warmed39 U_.vm ∧ U_.heap = h0) (fun _ _ _ _ _ => True) (fun _ U_ o_ U2_ => ∃ v_ L_, o_ = .returned v_ ∧ Qrm_rec Z a h0 n0 v_ U2_.heap L_ ∧ FrameEnd U_ o_ U2_ L_ ({ frames := 1, cells := 0, slots := 0, locals := 12 } : Room).cells ({ frames := 1, cells := 0, slots := 0, locals := 12 } : Room).slots) := by
  refine MetFree.of_bodySF (plainFor_of_name pn_java_lang_Record) hisR ?_
  intro p e s m args below meth cO s₁ Bd hml0 hP hK
  obtain ⟨rfl, hZW, hh⟩ := hP
  have hEX := Bd.exec
  have hBY := Bd.bytes
  have hMX : cO.maxLocals = 1 := hml0
  have hOW : s.vm.findClass "java/lang/Record" = some m.cls := findClass_of_methodNamed Bd.named
  have hNM := (name_of_methodNamed Bd.named Bd.method).1
  have hLK := Bd.notSynchronized
  have hRT := Bd.returns
  have X0 : Stand p l e ({ frames := 1, cells := 0, slots := 0, locals := 12 } : Room) s m #[(.ref a)] below meth cO s₁ [] 0 0 := Stand.of_body Bd
  have e0 : s₁.heap = h0 := by rw [← hh, Bd.state]; rfl
  have N0 := Fr.nil n0
  have K0 : Keep h0 h0 [] := Keep.refl _ _
  show Done p e below s (Qrm_rec Z a h0 n0) ({ frames := 1, cells := 0, slots := 0, locals := 12 } : Room).cells ({ frames := 1, cells := 0, slots := 0, locals := 12 } : Room).slots (s₁.setTop (entryFrame m #[(.ref a)] 1))
  refine Done.pre (fun t_ k_ => castTop (ef_rm_rec m a) k_) ?_
  show Done _ _ _ _ _ _ _ (s₁.setTop (mkF m 0 #[Rv a] []))
  have sg_1 : ∀ tt_, Steps p.tables e below (s₁.setTop (mkF m 1 #[Rv a] [(.ref a)])) tt_ → Steps p.tables e below (s₁.setTop (mkF m 0 #[Rv a] [])) tt_ := by
    intro tt_ kt_
    refine XS.aloadN X0.here hEX rfl (hb hBY d_jdk_30_method_1_code_0) rfl rfl ?_
    exact kt_
  refine Done.pre sg_1 ?_
  obtain ⟨T_2, X_2, e_2, st_2⟩ := initO X0 hEX hZW hOW (hw _ (List.mem_of_getElem? (i := 12) rfl)) (hw _ (List.mem_of_getElem? (i := 13) rfl)) (hw _ (List.mem_of_getElem? (i := 14) rfl)) e0 (g := (mkF m 1 #[Rv a] [(.ref a)])) rfl (by rw [hMX]; rfl) rfl (hb hBY d_jdk_30_method_1_code_1) (by decide) (W := 0) (by show 2 * 0 + _ ≤ _; exact Nat.le_of_eq rfl) (by decide)
  refine Done.pre st_2 ?_
  show Done _ _ _ _ _ _ _ (T_2.setTop (mkF m 4 #[Rv a] []))
  exact Done.retV X_2 hEX hLK hRT (hb hBY d_jdk_30_method_1_code_4) (by rw [e_2]; exact ⟨rfl, N0, rfl⟩) (by decide) (by decide)
theorem d_prog_35_method_1_code_0 : decode prog_35_method_1_code 0 = .ok (.aload_n 0, 1) := by decide +kernel
theorem d_prog_35_method_1_code_1 : decode prog_35_method_1_code 1 = .ok (.invokespecial 1, 3) := by decide +kernel
theorem pd___V_0 : parseMethodDescriptor "()V" = some ⟨[], none⟩ := by decide +kernel
theorem d_prog_35_method_1_code_4 : decode prog_35_method_1_code 4 = .ok (.aload_n 0, 1) := by decide +kernel
theorem d_prog_35_method_1_code_5 : decode prog_35_method_1_code 5 = .ok (.iload_n 1, 1) := by decide +kernel
theorem d_prog_35_method_1_code_6 : decode prog_35_method_1_code 6 = .ok (.putfield 7, 3) := by decide +kernel
theorem d_prog_35_method_1_code_9 : decode prog_35_method_1_code 9 = .ok (.aload_n 0, 1) := by decide +kernel
theorem d_prog_35_method_1_code_10 : decode prog_35_method_1_code 10 = .ok (.iload_n 2, 1) := by decide +kernel
theorem d_prog_35_method_1_code_11 : decode prog_35_method_1_code 11 = .ok (.putfield 13, 3) := by decide +kernel
theorem d_prog_35_method_1_code_14 : decode prog_35_method_1_code 14 = .ok (.aload_n 0, 1) := by decide +kernel
theorem d_prog_35_method_1_code_15 : decode prog_35_method_1_code 15 = .ok (.aload_n 3, 1) := by decide +kernel
theorem d_prog_35_method_1_code_16 : decode prog_35_method_1_code 16 = .ok (.putfield 16, 3) := by decide +kernel
theorem d_prog_35_method_1_code_19 : decode prog_35_method_1_code 19 = .ok (.return_, 1) := by decide +kernel
def Qrm_init (Z : State) (a : Addr) (fl : Int32) (rq : Int32) (bd : Addr) (u1 : Value) (u2 : Value) (u3 : Value) (h0 : Heap) (n0 : Nat) (v_ : Option Value) (h_ : Heap) (L_ : List Loc) : Prop := v_ = none ∧ Fr n0 L_ ∧ Keep h0 h_ [a] ∧ Exa Z h_ a "com/example/tidelog/tidelog/rpc/Frame" ∧ Fld Z h_ a "com/example/tidelog/tidelog/rpc/Frame" "flags" "I" (.int fl) ∧ Fld Z h_ a "com/example/tidelog/tidelog/rpc/Frame" "request" "I" (.int rq) ∧ Fld Z h_ a "com/example/tidelog/tidelog/rpc/Frame" "body" "[B" (.ref bd)
theorem ef_rm_init (m : MethodId) (x0 : Addr) (x1 : Int32) (x2 : Int32) (x3 : Addr) : entryFrame m #[(.ref x0), (.int x1), (.int x2), (.ref x3)] 4 = mkF m 0 #[.val (.ref x0), .val (.int x1), .val (.int x2), .val (.ref x3)] [] := by first | (simp [entryFrame, mkF, argsToLocals, Value.category]; done) | rfl
theorem pn_com_example_tidelog_tidelog_rpc_Frame : plainName "com/example/tidelog/tidelog/rpc/Frame" = true := by first | (simp [plainName, overriddenIn]; done) | decide +kernel
set_option maxRecDepth 65536 in
set_option maxHeartbeats 40000000 in
theorem rm_init (l : Launch) (Z : State) (aZ : Array Value) (hw : ∀ d ∈ tables_1, d.before aZ Z = true) (ws : List Jvm.Cond) (a : Addr) (fl : Int32) (rq : Int32) (bd : Addr) (u1 : Value) (u2 : Value) (u3 : Value) (h0 : Heap) (n0 : Nat) (Z0 : n0 ≤ h0.size) (Ex : Exa Z h0 a "com/example/tidelog/tidelog/rpc/Frame") (F0 : Fld Z h0 a "com/example/tidelog/tidelog/rpc/Frame" "flags" "I" u1) (F1 : Fld Z h0 a "com/example/tidelog/tidelog/rpc/Frame" "request" "I" u2) (F2 : Fld Z h0 a "com/example/tidelog/tidelog/rpc/Frame" "body" "[B" u3) (ga : n0 ≤ a) :
    MetFree l (⟨"com/example/tidelog/tidelog/rpc/Frame", "<init>", "(II[B)V"⟩ : MethodName) (head1 (Jvm.Cond.code (⟨"com/example/tidelog/tidelog/rpc/Frame", "<init>", "(II[B)V"⟩ : MethodName) prog_35_method_1_code 4 none :: ws) ({ frames := 2, cells := 0, slots := 0, locals := 24 } : Room)) (fun a_ U_ => a_ = #[(.ref a), (.int fl), (.int rq), (.ref bd)] ∧ Z.Warmed39 U_.vm ∧ U_.heap = h0) (fun _ _ _ _ _ => True) (fun _ U_ o_ U2_ => ∃ v_ L_, o_ = .returned v_ ∧ Qrm_init Z a fl rq bd u1 u2 u3 h0 n0 v_ U2_.heap L_ ∧ FrameEnd U_ o_ U2_ L_ ({ frames := 2, cells := 0, slots := 0, locals := 24 } : Room).cells ({ frames := 2, cells := 0, slots := 0, locals := 24 } : Room).slots) := by
  refine MetFree.of_bodySF (plainFor_of_name pn_com_example_tidelog_tidelog_rpc_Frame) hisR ?_
  intro p e s m args below meth cO s₁ Bd hml0 hP hK
  obtain ⟨rfl, hZW, hh⟩ := hP
  have hEX := Bd.exec
  have hBY := Bd.bytes
  have hMX : cO.maxLocals = 4 := hml0
  have hOW : s.vm.findClass "com/example/tidelog/tidelog/rpc/Frame" = some m.cls := findClass_of_methodNamed Bd.named
  have hNM := (name_of_methodNamed Bd.named Bd.method).1
  have hLK := Bd.notSynchronized
  have hRT := Bd.returns
  have X0 : Stand p l e ({ frames := 2, cells := 0, slots := 0, locals := 24 } : Room) s m #[(.ref a), (.int fl), (.int rq), (.ref bd)] below meth cO s₁ [] 0 0 := Stand.of_body Bd
  have e0 : s₁.heap = h0 := by rw [← hh, Bd.state]; rfl
  have N0 := Fr.nil n0
  have K0 : Keep h0 h0 [a] := Keep.refl _ _
  show Done p e below s (Qrm_init Z a fl rq bd u1 u2 u3 h0 n0) ({ frames := 2, cells := 0, slots := 0, locals := 24 } : Room).cells ({ frames := 2, cells := 0, slots := 0, locals := 24 } : Room).slots (s₁.setTop (entryFrame m #[(.ref a), (.int fl), (.int rq), (.ref bd)] 4))
  refine Done.pre (fun t_ k_ => castTop (ef_rm_init m a fl rq bd) k_) ?_
  show Done _ _ _ _ _ _ _ (s₁.setTop (mkF m 0 #[Rv a, Iv fl, Iv rq, Rv bd] []))
  have sg_1 : ∀ tt_, Steps p.tables e below (s₁.setTop (mkF m 1 #[Rv a, Iv fl, Iv rq, Rv bd] [(.ref a)])) tt_ → Steps p.tables e below (s₁.setTop (mkF m 0 #[Rv a, Iv fl, Iv rq, Rv bd] [])) tt_ := by
    intro tt_ kt_
    refine XS.aloadN X0.here hEX rfl (hb hBY d_prog_35_method_1_code_0) rfl rfl ?_
    exact kt_
  refine Done.pre sg_1 ?_
  obtain ⟨_, _, ⟨T_2, L_2, k_2, n_2⟩, -, X_2, ⟨Lc_2, hQ_2, l_2, y_2, z_2⟩, st_2⟩ := X0.specialBack hEX (y := (⟨"java/lang/Record", "<init>", "()V"⟩ : MethodName)) rfl hOW (mvT hZW (hw _ (List.mem_of_getElem? (i := 7) rfl))) (mvT hZW (hw _ (List.mem_of_getElem? (i := 8) rfl))) (mvT hZW (hw _ (List.mem_of_getElem? (i := 11) rfl))) (by decide) (backOf (W := 0) (rm_rec l Z aZ hw [] a h0 n0 (Nat.le_trans Z0 K0.1) ) hZW (hw _ (List.mem_of_getElem? (i := 11) rfl)) (hw _ (List.mem_of_getElem? (i := 10) rfl)) (by decide) (by decide)) (g := (mkF m 1 #[Rv a, Iv fl, Iv rq, Rv bd] [(.ref a)])) rfl (by rw [hMX]; rfl) (Steps.refl _) (a := a) (argsL := []) (rest := []) (lenOf pd___V_0 rfl) rfl (by show 2 * 0 + _ ≤ _; exact Nat.le_of_eq rfl) (hb hBY d_prog_35_method_1_code_1) (fun _ _ => ⟨rfl, e0, (by decide : 0 + 0 ≤ _), (by decide : 0 + 0 ≤ _)⟩)
  dsimp only [Pt.U, Pt.locs, Pt.cells, Pt.slots] at X_2 l_2 y_2 z_2 st_2 hQ_2
  subst l_2 y_2 z_2
  obtain ⟨rfl, N_2q, e_2⟩ := hQ_2
  have N_2 := Fr.app N0 N_2q
  refine Done.pre (fun _ k_ => st_2.trans k_) ?_
  show Done _ _ _ _ _ _ _ (T_2.setTop (mkF m 4 #[Rv a, Iv fl, Iv rq, Rv bd] []))
  have sg_3 : ∀ tt_, Steps p.tables e below (T_2.setTop (mkF m 6 #[Rv a, Iv fl, Iv rq, Rv bd] [(.int fl), (.ref a)])) tt_ → Steps p.tables e below (T_2.setTop (mkF m 4 #[Rv a, Iv fl, Iv rq, Rv bd] [])) tt_ := by
    intro tt_ kt_
    refine XS.aloadN X_2.here hEX rfl (hb hBY d_prog_35_method_1_code_4) rfl rfl ?_
    show Steps p.tables e below (T_2.setTop (mkF m 5 #[Rv a, Iv fl, Iv rq, Rv bd] [(.ref a)])) tt_
    refine XS.iloadN X_2.here hEX rfl (hb hBY d_prog_35_method_1_code_5) rfl ?_
    exact kt_
  refine Done.pre sg_3 ?_
  obtain ⟨T_4, h_4, X_4, e_4, W_4, st_4⟩ := putF X_2 hEX hZW hOW (host := "") (Or.inl (hw _ (List.mem_of_getElem? (i := 15) rfl))) Via.refl e_2 F0 Ex (Or.inr ⟨(hw _ (List.mem_of_getElem? (i := 16) rfl)), rfl, hNM⟩) (hw _ (List.mem_of_getElem? (i := 2) rfl)) (ty := .int) (by decide) rfl rfl (g := (mkF m 6 #[Rv a, Iv fl, Iv rq, Rv bd] [(.int fl), (.ref a)])) rfl rfl (hb hBY d_prog_35_method_1_code_6)
  have N_4 := Fr.snoc X_4 N_2 ga
  have K__5 : Keep h0 h_4 [a] := K0.wr W_4 (Or.inl (List.mem_of_getElem? (i := 0) rfl))
  have f_6 : Exa Z h_4 a "com/example/tidelog/tidelog/rpc/Frame" := Ex.wr W_4
  have f_7 : Fld Z h_4 a "com/example/tidelog/tidelog/rpc/Frame" "request" "I" u2 := F1.other W_4 (Or.inr (slot_ne (Or.inr (hw _ (List.mem_of_getElem? (i := 18) rfl))) (Or.inr (hw _ (List.mem_of_getElem? (i := 16) rfl))) (by decide) (t := .int) (t' := .int) (by decide) (by decide)))
  have f_8 : Fld Z h_4 a "com/example/tidelog/tidelog/rpc/Frame" "body" "[B" u3 := F2.other W_4 (Or.inr (slot_ne (Or.inr (hw _ (List.mem_of_getElem? (i := 20) rfl))) (Or.inr (hw _ (List.mem_of_getElem? (i := 16) rfl))) (by decide) (t := (.array .byte)) (t' := .int) (by decide) (by decide)))
  have f_9 : Fld Z h_4 a "com/example/tidelog/tidelog/rpc/Frame" "flags" "I" (.int fl) := F0.same W_4
  refine Done.pre st_4 ?_
  show Done _ _ _ _ _ _ _ (T_4.setTop (mkF m 9 #[Rv a, Iv fl, Iv rq, Rv bd] []))
  have sg_10 : ∀ tt_, Steps p.tables e below (T_4.setTop (mkF m 11 #[Rv a, Iv fl, Iv rq, Rv bd] [(.int rq), (.ref a)])) tt_ → Steps p.tables e below (T_4.setTop (mkF m 9 #[Rv a, Iv fl, Iv rq, Rv bd] [])) tt_ := by
    intro tt_ kt_
    refine XS.aloadN X_4.here hEX rfl (hb hBY d_prog_35_method_1_code_9) rfl rfl ?_
    show Steps p.tables e below (T_4.setTop (mkF m 10 #[Rv a, Iv fl, Iv rq, Rv bd] [(.ref a)])) tt_
    refine XS.iloadN X_4.here hEX rfl (hb hBY d_prog_35_method_1_code_10) rfl ?_
    exact kt_
  refine Done.pre sg_10 ?_
  obtain ⟨T_11, h_11, X_11, e_11, W_11, st_11⟩ := putF X_4 hEX hZW hOW (host := "") (Or.inl (hw _ (List.mem_of_getElem? (i := 17) rfl))) Via.refl e_4 f_7 f_6 (Or.inr ⟨(hw _ (List.mem_of_getElem? (i := 18) rfl)), rfl, hNM⟩) (hw _ (List.mem_of_getElem? (i := 2) rfl)) (ty := .int) (by decide) rfl rfl (g := (mkF m 11 #[Rv a, Iv fl, Iv rq, Rv bd] [(.int rq), (.ref a)])) rfl rfl (hb hBY d_prog_35_method_1_code_11)
  have N_11 := Fr.snoc X_11 N_4 ga
  have K__12 : Keep h0 h_11 [a] := K__5.wr W_11 (Or.inl (List.mem_of_getElem? (i := 0) rfl))
  have f_13 : Exa Z h_11 a "com/example/tidelog/tidelog/rpc/Frame" := f_6.wr W_11
  have f_14 : Fld Z h_11 a "com/example/tidelog/tidelog/rpc/Frame" "body" "[B" u3 := f_8.other W_11 (Or.inr (slot_ne (Or.inr (hw _ (List.mem_of_getElem? (i := 20) rfl))) (Or.inr (hw _ (List.mem_of_getElem? (i := 18) rfl))) (by decide) (t := (.array .byte)) (t' := .int) (by decide) (by decide)))
  have f_15 : Fld Z h_11 a "com/example/tidelog/tidelog/rpc/Frame" "flags" "I" (.int fl) := f_9.other W_11 (Or.inr (slot_ne (Or.inr (hw _ (List.mem_of_getElem? (i := 16) rfl))) (Or.inr (hw _ (List.mem_of_getElem? (i := 18) rfl))) (by decide) (t := .int) (t' := .int) (by decide) (by decide)))
  have f_16 : Fld Z h_11 a "com/example/tidelog/tidelog/rpc/Frame" "request" "I" (.int rq) := f_7.same W_11
  refine Done.pre st_11 ?_
  show Done _ _ _ _ _ _ _ (T_11.setTop (mkF m 14 #[Rv a, Iv fl, Iv rq, Rv bd] []))
  have sg_17 : ∀ tt_, Steps p.tables e below (T_11.setTop (mkF m 16 #[Rv a, Iv fl, Iv rq, Rv bd] [(.ref bd), (.ref a)])) tt_ → Steps p.tables e below (T_11.setTop (mkF m 14 #[Rv a, Iv fl, Iv rq, Rv bd] [])) tt_ := by
    intro tt_ kt_
    refine XS.aloadN X_11.here hEX rfl (hb hBY d_prog_35_method_1_code_14) rfl rfl ?_
    show Steps p.tables e below (T_11.setTop (mkF m 15 #[Rv a, Iv fl, Iv rq, Rv bd] [(.ref a)])) tt_
    refine XS.aloadN X_11.here hEX rfl (hb hBY d_prog_35_method_1_code_15) rfl rfl ?_
    exact kt_
  refine Done.pre sg_17 ?_
  obtain ⟨T_18, h_18, X_18, e_18, W_18, st_18⟩ := putF X_11 hEX hZW hOW (host := "") (Or.inl (hw _ (List.mem_of_getElem? (i := 19) rfl))) Via.refl e_11 f_14 f_13 (Or.inr ⟨(hw _ (List.mem_of_getElem? (i := 20) rfl)), rfl, hNM⟩) (hw _ (List.mem_of_getElem? (i := 2) rfl)) (ty := (.array .byte)) (by decide) rfl rfl (g := (mkF m 16 #[Rv a, Iv fl, Iv rq, Rv bd] [(.ref bd), (.ref a)])) rfl rfl (hb hBY d_prog_35_method_1_code_16)
  have N_18 := Fr.snoc X_18 N_11 ga
  have K__19 : Keep h0 h_18 [a] := K__12.wr W_18 (Or.inl (List.mem_of_getElem? (i := 0) rfl))
  have f_20 : Exa Z h_18 a "com/example/tidelog/tidelog/rpc/Frame" := f_13.wr W_18
  have f_21 : Fld Z h_18 a "com/example/tidelog/tidelog/rpc/Frame" "flags" "I" (.int fl) := f_15.other W_18 (Or.inr (slot_ne (Or.inr (hw _ (List.mem_of_getElem? (i := 16) rfl))) (Or.inr (hw _ (List.mem_of_getElem? (i := 20) rfl))) (by decide) (t := .int) (t' := (.array .byte)) (by decide) (by decide)))
  have f_22 : Fld Z h_18 a "com/example/tidelog/tidelog/rpc/Frame" "request" "I" (.int rq) := f_16.other W_18 (Or.inr (slot_ne (Or.inr (hw _ (List.mem_of_getElem? (i := 18) rfl))) (Or.inr (hw _ (List.mem_of_getElem? (i := 20) rfl))) (by decide) (t := .int) (t' := (.array .byte)) (by decide) (by decide)))
  have f_23 : Fld Z h_18 a "com/example/tidelog/tidelog/rpc/Frame" "body" "[B" (.ref bd) := f_14.same W_18
  refine Done.pre st_18 ?_
  show Done _ _ _ _ _ _ _ (T_18.setTop (mkF m 19 #[Rv a, Iv fl, Iv rq, Rv bd] []))
  exact Done.retV X_18 hEX hLK hRT (hb hBY d_prog_35_method_1_code_19) (by rw [e_18]; exact ⟨rfl, N_18, K__19, f_20, f_21, f_22, f_23⟩) (by decide) (by decide)
theorem d_prog_35_method_8_code_0 : decode prog_35_method_8_code 0 = .ok (.aload_n 0, 1) := by decide +kernel
theorem d_prog_35_method_8_code_1 : decode prog_35_method_8_code 1 = .ok (.getfield 7, 3) := by decide +kernel
theorem d_prog_35_method_8_code_4 : decode prog_35_method_8_code 4 = .ok (.iconst 4, 1) := by decide +kernel
theorem d_prog_35_method_8_code_5 : decode prog_35_method_8_code 5 = .ok (.iand, 1) := by decide +kernel
theorem d_prog_35_method_8_code_6 : decode prog_35_method_8_code 6 = .ok (.ifCond .eq 7, 3) := by decide +kernel
theorem d_prog_35_method_8_code_13 : decode prog_35_method_8_code 13 = .ok (.iconst 0, 1) := by decide +kernel
theorem d_prog_35_method_8_code_14 : decode prog_35_method_8_code 14 = .ok (.ireturn, 1) := by decide +kernel
theorem d_prog_35_method_8_code_9 : decode prog_35_method_8_code 9 = .ok (.iconst 1, 1) := by decide +kernel
theorem d_prog_35_method_8_code_10 : decode prog_35_method_8_code 10 = .ok (.goto 4, 3) := by decide +kernel
def Qrm_end (Z : State) (a : Addr) (w : Int32) (h0 : Heap) (n0 : Nat) (v_ : Option Value) (h_ : Heap) (L_ : List Loc) : Prop := v_ = some (.int (own_flag (4 : Int32) w)) ∧ Fr n0 L_ ∧ h_ = h0
theorem ef_rm_end (m : MethodId) (x0 : Addr) : entryFrame m #[(.ref x0)] 1 = mkF m 0 #[.val (.ref x0)] [] := by first | (simp [entryFrame, mkF, argsToLocals, Value.category]; done) | rfl
set_option maxRecDepth 65536 in
set_option maxHeartbeats 40000000 in
theorem rm_end (l : Launch) (Z : State) (aZ : Array Value) (hw : ∀ d ∈ tables_1, d.before aZ Z = true) (ws : List Jvm.Cond) (a : Addr) (w : Int32) (h0 : Heap) (n0 : Nat) (Z0 : n0 ≤ h0.size) (F : Fld Z h0 a "com/example/tidelog/tidelog/rpc/Frame" "flags" "I" (.int w)) :
    MetFree l (⟨"com/example/tidelog/tidelog/rpc/Frame", "end", "()Z"⟩ : MethodName) (head1 (Jvm.Cond.code (⟨"com/example/tidelog/tidelog/rpc/Frame", "end", "()Z"⟩ : MethodName) prog_35_method_8_code 1 (some .boolean) :: ws) ({ frames := 0, cells := 0, slots := 0, locals := 0 } : Room)) (fun a_ U_ => a_ = #[(.ref a)] ∧ Z.Warmed39 U_.vm ∧ U_.heap = h0) (fun _ _ _ _ _ => True) (fun _ U_ o_ U2_ => ∃ v_ L_, o_ = .returned v_ ∧ Qrm_end Z a w h0 n0 v_ U2_.heap L_ ∧ FrameEnd U_ o_ U2_ L_ ({ frames := 0, cells := 0, slots := 0, locals := 0 } : Room).cells ({ frames := 0, cells := 0, slots := 0, locals := 0 } : Room).slots) := by
  refine MetFree.of_bodySF (plainFor_of_name pn_com_example_tidelog_tidelog_rpc_Frame) hisR ?_
  intro p e s m args below meth cO s₁ Bd hml0 hP hK
  obtain ⟨rfl, hZW, hh⟩ := hP
  have hEX := Bd.exec
  have hBY := Bd.bytes
  have hMX : cO.maxLocals = 1 := hml0
  have hOW : s.vm.findClass "com/example/tidelog/tidelog/rpc/Frame" = some m.cls := findClass_of_methodNamed Bd.named
  have hNM := (name_of_methodNamed Bd.named Bd.method).1
  have hLK := Bd.notSynchronized
  have hRT := Bd.returns
  have X0 : Stand p l e ({ frames := 0, cells := 0, slots := 0, locals := 0 } : Room) s m #[(.ref a)] below meth cO s₁ [] 0 0 := Stand.of_body Bd
  have e0 : s₁.heap = h0 := by rw [← hh, Bd.state]; rfl
  have N0 := Fr.nil n0
  have K0 : Keep h0 h0 [] := Keep.refl _ _
  show Done p e below s (Qrm_end Z a w h0 n0) ({ frames := 0, cells := 0, slots := 0, locals := 0 } : Room).cells ({ frames := 0, cells := 0, slots := 0, locals := 0 } : Room).slots (s₁.setTop (entryFrame m #[(.ref a)] 1))
  refine Done.pre (fun t_ k_ => castTop (ef_rm_end m a) k_) ?_
  show Done _ _ _ _ _ _ _ (s₁.setTop (mkF m 0 #[Rv a] []))
  have sg_1 : ∀ tt_, Steps p.tables e below (s₁.setTop (mkF m 1 #[Rv a] [(.ref a)])) tt_ → Steps p.tables e below (s₁.setTop (mkF m 0 #[Rv a] [])) tt_ := by
    intro tt_ kt_
    refine XS.aloadN X0.here hEX rfl (hb hBY d_prog_35_method_8_code_0) rfl rfl ?_
    exact kt_
  refine Done.pre sg_1 ?_
  obtain ⟨T_2, X_2, e_2, st_2⟩ := getF X0 hEX hZW hOW (host := "") (Or.inl (hw _ (List.mem_of_getElem? (i := 15) rfl))) Via.refl e0 F (g := (mkF m 1 #[Rv a] [(.ref a)])) rfl rfl (hb hBY d_prog_35_method_8_code_1)
  refine Done.pre st_2 ?_
  show Done _ _ _ _ _ _ _ (T_2.setTop (mkF m 4 #[Rv a] [(.int w)]))
  have sg_3 : ∀ tt_, Steps p.tables e below (T_2.setTop (mkF m 6 #[Rv a] [(.int (w &&& (4 : Int32)))])) tt_ → Steps p.tables e below (T_2.setTop (mkF m 4 #[Rv a] [(.int w)])) tt_ := by
    intro tt_ kt_
    refine XS.iconst X_2.here hEX rfl (hb hBY d_prog_35_method_8_code_4) ?_
    show Steps p.tables e below (T_2.setTop (mkF m 5 #[Rv a] [(.int (4 : Int32)), (.int w)])) tt_
    refine XS.iand X_2.here hEX rfl (hb hBY d_prog_35_method_8_code_5) rfl ?_
    exact kt_
  refine Done.pre sg_3 ?_
  by_cases hc6 : (w &&& (4 : Int32)) = (0 : Int32)
  · skip
    have sg_4 : ∀ tt_, Steps p.tables e below (T_2.setTop (mkF m 14 #[Rv a] [(.int (0 : Int32))])) tt_ → Steps p.tables e below (T_2.setTop (mkF m 6 #[Rv a] [(.int (w &&& (4 : Int32)))])) tt_ := by
      intro tt_ kt_
      refine XS.ifYes X_2.here hEX rfl (pc0 := 6) (pc' := 13) rfl (hb hBY d_prog_35_method_8_code_6) rfl ((if0 _ _).trans (teq hc6).1) (by decide) (by decide) ?_
      show Steps p.tables e below (T_2.setTop (mkF m 13 #[Rv a] [])) tt_
      refine XS.iconst X_2.here hEX rfl (hb hBY d_prog_35_method_8_code_13) ?_
      exact kt_
    refine Done.pre sg_4 ?_
    exact Done.retN X_2 hEX hLK (t := .boolean) hRT (by simp) (hb hBY d_prog_35_method_8_code_14) (by rw [e_2]; exact ⟨(by rw [own_flag, if_pos hc6]; rfl), N0, rfl⟩) (by decide) (by decide)
  · skip
    have sg_5 : ∀ tt_, Steps p.tables e below (T_2.setTop (mkF m 14 #[Rv a] [(.int (1 : Int32))])) tt_ → Steps p.tables e below (T_2.setTop (mkF m 6 #[Rv a] [(.int (w &&& (4 : Int32)))])) tt_ := by
      intro tt_ kt_
      refine XS.ifNo X_2.here hEX rfl (hb hBY d_prog_35_method_8_code_6) rfl ((if0 _ _).trans (feq hc6).1) ?_
      show Steps p.tables e below (T_2.setTop (mkF m 9 #[Rv a] [])) tt_
      refine XS.iconst X_2.here hEX rfl (hb hBY d_prog_35_method_8_code_9) ?_
      show Steps p.tables e below (T_2.setTop (mkF m 10 #[Rv a] [(.int (1 : Int32))])) tt_
      refine XS.goto X_2.here hEX rfl (pc0 := 10) (pc' := 14) rfl (hb hBY d_prog_35_method_8_code_10) (by decide) (by decide) ?_
      exact kt_
    refine Done.pre sg_5 ?_
    exact Done.retN X_2 hEX hLK (t := .boolean) hRT (by simp) (hb hBY d_prog_35_method_8_code_14) (by rw [e_2]; exact ⟨(by rw [own_flag, if_neg hc6]; rfl), N0, rfl⟩) (by decide) (by decide)
theorem pd__II_B_V_2 : parseMethodDescriptor "(II[B)V" = some ⟨[.int, .int, (.array .byte)], none⟩ := by decide +kernel
theorem pd___Z_1 : parseMethodDescriptor "()Z" = some ⟨[], some .boolean⟩ := by decide +kernel
def Qrm0 (Z : State) (p1 : Int32) (p2 : Int32) (p3 : Int32) (p4 : Int32) (h0 : Heap) (n0 : Nat) (v_ : Option Value) (h_ : Heap) (L_ : List Loc) : Prop := v_ = some (.int (1 : Int32)) ∧ Fr n0 L_ ∧ Keep h0 h_ []
theorem ef_rm0 (m : MethodId) (x0 : Int32) (x1 : Int32) (x2 : Int32) (x3 : Int32) : entryFrame m #[(.int x0), (.int x1), (.int x2), (.int x3)] maxLocals = mkF m 0 #[.val (.int x0), .val (.int x1), .val (.int x2), .val (.int x3), .unset, .unset, .unset, .unset, .unset] [] := by first | (simp [entryFrame, mkF, argsToLocals, Value.category, maxLocals]; done) | rfl
theorem pn_com_example_tidelog_tidelog_rpc_FrameEndPinLaw : plainName "com/example/tidelog/tidelog/rpc/FrameEndPinLaw" = true := by first | (simp [plainName, overriddenIn]; done) | decide +kernel
set_option maxRecDepth 65536 in
set_option maxHeartbeats 40000000 in
theorem rm0 (l : Launch) (Z : State) (aZ : Array Value) (hw : ∀ d ∈ tables_1, d.before aZ Z = true) (ws : List Jvm.Cond) (p1 : Int32) (p2 : Int32) (p3 : Int32) (p4 : Int32) (h0 : Heap) (n0 : Nat) (Z0 : n0 ≤ h0.size) :
    MetFree l x (head1 (Jvm.Cond.code x code maxLocals ret :: ws) room_1) (fun a_ U_ => a_ = #[(.int p1), (.int p2), (.int p3), (.int p4)] ∧ Z.Warmed39 U_.vm ∧ U_.heap = h0) (fun _ _ _ _ _ => True) (fun _ U_ o_ U2_ => ∃ v_ L_, o_ = .returned v_ ∧ Qrm0 Z p1 p2 p3 p4 h0 n0 v_ U2_.heap L_ ∧ FrameEnd U_ o_ U2_ L_ room_1.cells room_1.slots) := by
  refine MetFree.of_bodySF (plainFor_of_name pn_com_example_tidelog_tidelog_rpc_FrameEndPinLaw) hisR ?_
  intro p e s m args below meth cO s₁ Bd hml0 hP hK
  obtain ⟨rfl, hZW, hh⟩ := hP
  have hEX := Bd.exec
  have hBY := Bd.bytes
  have hMX : cO.maxLocals = 9 := hml0
  have hOW : s.vm.findClass "com/example/tidelog/tidelog/rpc/FrameEndPinLaw" = some m.cls := findClass_of_methodNamed Bd.named
  have hNM := (name_of_methodNamed Bd.named Bd.method).1
  have hLK := Bd.notSynchronized
  have hRT := Bd.returns
  have X0 : Stand p l e room_1 s m #[(.int p1), (.int p2), (.int p3), (.int p4)] below meth cO s₁ [] 0 0 := Stand.of_body Bd
  have e0 : s₁.heap = h0 := by rw [← hh, Bd.state]; rfl
  have N0 := Fr.nil n0
  have K0 : Keep h0 h0 [] := Keep.refl _ _
  show Done p e below s (Qrm0 Z p1 p2 p3 p4 h0 n0) room_1.cells room_1.slots (s₁.setTop (entryFrame m #[(.int p1), (.int p2), (.int p3), (.int p4)] maxLocals))
  refine Done.pre (fun t_ k_ => castTop (ef_rm0 m p1 p2 p3 p4) k_) ?_
  show Done _ _ _ _ _ _ _ (s₁.setTop (mkF m 0 #[Iv p1, Iv p2, Iv p3, Iv p4, Us, Us, Us, Us, Us] []))
  have sg_1 : ∀ tt_, Steps p.tables e below (s₁.setTop (mkF m 3 #[Iv p1, Iv p2, Iv p3, Iv p4, Us, Us, Us, Us, Us] [(.int (p3 &&& (3 : Int32)))])) tt_ → Steps p.tables e below (s₁.setTop (mkF m 0 #[Iv p1, Iv p2, Iv p3, Iv p4, Us, Us, Us, Us, Us] [])) tt_ := by
    intro tt_ kt_
    refine XS.iloadN X0.here hEX rfl (hb hBY at_0) rfl ?_
    show Steps p.tables e below (s₁.setTop (mkF m 1 #[Iv p1, Iv p2, Iv p3, Iv p4, Us, Us, Us, Us, Us] [(.int p3)])) tt_
    refine XS.iconst X0.here hEX rfl (hb hBY at_1) ?_
    show Steps p.tables e below (s₁.setTop (mkF m 2 #[Iv p1, Iv p2, Iv p3, Iv p4, Us, Us, Us, Us, Us] [(.int (3 : Int32)), (.int p3)])) tt_
    refine XS.iand X0.here hEX rfl (hb hBY at_2) rfl ?_
    exact kt_
  refine Done.pre sg_1 ?_
  obtain ⟨T_2, h_2, k_2, X_2, e_2, E_2, A_2, st_2⟩ := newP X0 hEX hZW (hw _ (List.mem_of_getElem? (i := 0) rfl)) e0 (g := (mkF m 3 #[Iv p1, Iv p2, Iv p3, Iv p4, Us, Us, Us, Us, Us] [(.int (p3 &&& (3 : Int32)))])) rfl (hb hBY at_3) rfl (own_nn _) (cap := 3) (own_le3 _) (by decide) (by decide) (by decide)
  obtain ⟨b_2, g_2⟩ : ∃ z, z = h0.size := ⟨_, rfl⟩
  rw [← g_2] at A_2 st_2
  have sz_b_2 : h0.size ≤ b_2 := Nat.le_trans K0.1 (Nat.le_of_eq g_2.symm)
  have ge_b_2 : n0 ≤ b_2 := Nat.le_trans Z0 sz_b_2
  have K__3 : Keep h0 h_2 [] := K0.ext E_2
  have f_4 : Arv Z h_2 b_2 k_2 .byte (p3 &&& (3 : Int32)) [(.int (0 : Int32)), (.int (0 : Int32)), (.int (0 : Int32))] (.int (0 : Int32)) := (Arv.new A_2 (own_nn _)).pad (pad_rep [] (.int (0 : Int32)) 3)
  refine Done.pre st_2 ?_
  show Done _ _ _ _ _ _ _ (T_2.setTop (mkF m 5 #[Iv p1, Iv p2, Iv p3, Iv p4, Us, Us, Us, Us, Us] [(.ref b_2)]))
  have sg_5 : ∀ tt_, Steps p.tables e below (T_2.setTop (mkF m 7 #[Iv p1, Iv p2, Iv p3, Iv p4, Rv b_2, Us, Us, Us, Us] [])) tt_ → Steps p.tables e below (T_2.setTop (mkF m 5 #[Iv p1, Iv p2, Iv p3, Iv p4, Us, Us, Us, Us, Us] [(.ref b_2)])) tt_ := by
    intro tt_ kt_
    refine XS.astore X_2.here hEX rfl (hb hBY at_5) rfl rfl (l' := #[Iv p1, Iv p2, Iv p3, Iv p4, Rv b_2, Us, Us, Us, Us]) rfl ?_
    exact kt_
  refine Done.pre sg_5 ?_
  have jn_6 : ∀ (T_7 : State) (h_8 : Heap) (L_9 : List Loc) (X_10 : Stand p l e room_1 s m #[(.int p1), (.int p2), (.int p3), (.int p4)] below meth cO T_7 L_9 1 3) (e_11 : T_7.heap = h_8) (N_12 : Fr n0 L_9) (K__13 : Keep h0 h_8 []), Done p e below s (Qrm0 Z p1 p2 p3 p4 h0 n0) room_1.cells room_1.slots (T_7.setTop (mkF m 19 #[Iv p1, Iv p2, Iv p3, Iv p4, Rv b_2, Us, Us, Us, Us] [])) := by
    intro T_7 h_8 L_9 X_10 e_11 N_12 K__13
    show Done _ _ _ _ _ _ _ (T_7.setTop (mkF m 19 #[Iv p1, Iv p2, Iv p3, Iv p4, Rv b_2, Us, Us, Us, Us] []))
    obtain ⟨T_14, h_14, X_14, e_14, E_14, A_14, D_14, -, st_14⟩ := newO X_10 hEX hZW hOW (hw _ (List.mem_of_getElem? (i := 1) rfl)) (hw _ (List.mem_of_getElem? (i := 2) rfl)) (hw _ (List.mem_of_getElem? (i := 3) rfl)) e_11 (g := (mkF m 19 #[Iv p1, Iv p2, Iv p3, Iv p4, Rv b_2, Us, Us, Us, Us] [])) rfl (hb hBY at_19) (by decide) (by decide)
    obtain ⟨b_14, g_14⟩ : ∃ z, z = h_8.size := ⟨_, rfl⟩
    rw [← g_14] at A_14 D_14 st_14
    have sz_b_14 : h0.size ≤ b_14 := Nat.le_trans K__13.1 (Nat.le_of_eq g_14.symm)
    have ge_b_14 : n0 ≤ b_14 := Nat.le_trans Z0 sz_b_14
    have K__15 : Keep h0 h_14 [] := K__13.ext E_14
    have f_16 : Exa Z h_14 b_14 "com/example/tidelog/tidelog/rpc/Frame" := A_14
    have f_17 : Fld Z h_14 b_14 "com/example/tidelog/tidelog/rpc/Frame" "flags" "I" (.int (0 : Int32)) := D_14 (Or.inr (hw _ (List.mem_of_getElem? (i := 16) rfl))) (ty := .int) (by decide)
    have f_18 : Fld Z h_14 b_14 "com/example/tidelog/tidelog/rpc/Frame" "request" "I" (.int (0 : Int32)) := D_14 (Or.inr (hw _ (List.mem_of_getElem? (i := 18) rfl))) (ty := .int) (by decide)
    have f_19 : Fld Z h_14 b_14 "com/example/tidelog/tidelog/rpc/Frame" "body" "[B" .null := D_14 (Or.inr (hw _ (List.mem_of_getElem? (i := 20) rfl))) (ty := (.array .byte)) (by decide)
    refine Done.pre st_14 ?_
    show Done _ _ _ _ _ _ _ (T_14.setTop (mkF m 22 #[Iv p1, Iv p2, Iv p3, Iv p4, Rv b_2, Us, Us, Us, Us] [(.ref b_14)]))
    have sg_20 : ∀ tt_, Steps p.tables e below (T_14.setTop (mkF m 27 #[Iv p1, Iv p2, Iv p3, Iv p4, Rv b_2, Us, Us, Us, Us] [(.ref b_2), (.int p2), (.int p1), (.ref b_14), (.ref b_14)])) tt_ → Steps p.tables e below (T_14.setTop (mkF m 22 #[Iv p1, Iv p2, Iv p3, Iv p4, Rv b_2, Us, Us, Us, Us] [(.ref b_14)])) tt_ := by
      intro tt_ kt_
      refine XS.dup X_14.here hEX rfl (hb hBY at_22) rfl rfl ?_
      show Steps p.tables e below (T_14.setTop (mkF m 23 #[Iv p1, Iv p2, Iv p3, Iv p4, Rv b_2, Us, Us, Us, Us] [(.ref b_14), (.ref b_14)])) tt_
      refine XS.iloadN X_14.here hEX rfl (hb hBY at_23) rfl ?_
      show Steps p.tables e below (T_14.setTop (mkF m 24 #[Iv p1, Iv p2, Iv p3, Iv p4, Rv b_2, Us, Us, Us, Us] [(.int p1), (.ref b_14), (.ref b_14)])) tt_
      refine XS.iloadN X_14.here hEX rfl (hb hBY at_24) rfl ?_
      show Steps p.tables e below (T_14.setTop (mkF m 25 #[Iv p1, Iv p2, Iv p3, Iv p4, Rv b_2, Us, Us, Us, Us] [(.int p2), (.int p1), (.ref b_14), (.ref b_14)])) tt_
      refine XS.aload X_14.here hEX rfl (hb hBY at_25) rfl rfl ?_
      exact kt_
    refine Done.pre sg_20 ?_
    obtain ⟨_, _, ⟨T_21, L_21, k_21, n_21⟩, -, X_21, ⟨Lc_21, hQ_21, l_21, y_21, z_21⟩, st_21⟩ := X_14.specialBack hEX (y := (⟨"com/example/tidelog/tidelog/rpc/Frame", "<init>", "(II[B)V"⟩ : MethodName)) rfl hOW (mvT hZW (hw _ (List.mem_of_getElem? (i := 4) rfl))) (mvT hZW (hw _ (List.mem_of_getElem? (i := 5) rfl))) (mvT hZW (hw _ (List.mem_of_getElem? (i := 6) rfl))) (by decide) (backOf (W := 1) (rm_init l Z aZ hw [] b_14 p1 p2 b_2 (.int (0 : Int32)) (.int (0 : Int32)) .null h_14 n0 (Nat.le_trans Z0 K__15.1) f_16 f_17 f_18 f_19 ge_b_14) hZW (hw _ (List.mem_of_getElem? (i := 6) rfl)) (hw _ (List.mem_of_getElem? (i := 3) rfl)) (by decide) (by decide)) (g := (mkF m 27 #[Iv p1, Iv p2, Iv p3, Iv p4, Rv b_2, Us, Us, Us, Us] [(.ref b_2), (.int p2), (.int p1), (.ref b_14), (.ref b_14)])) rfl (by rw [hMX]; rfl) (Steps.refl _) (a := b_14) (argsL := [(.int p1), (.int p2), (.ref b_2)]) (rest := [(.ref b_14)]) (lenOf pd__II_B_V_2 rfl) rfl (by show 2 * 0 + _ ≤ _; exact Nat.le_of_eq rfl) (hb hBY at_27) (fun _ _ => ⟨rfl, e_14, (by decide : 2 + 0 ≤ _), (by decide : 6 + 0 ≤ _)⟩)
    dsimp only [Pt.U, Pt.locs, Pt.cells, Pt.slots] at X_21 l_21 y_21 z_21 st_21 hQ_21
    subst l_21 y_21 z_21
    obtain ⟨rfl, N_21q, K_21, hq_21_0, hq_21_1, hq_21_2, hq_21_3⟩ := hQ_21
    have N_21 := Fr.app N_12 N_21q
    have K__22 : Keep h0 T_21.heap [] := K__15.trans K_21 (allS (Or.inr sz_b_14) all0)
    have f_23 : Exa Z T_21.heap b_14 "com/example/tidelog/tidelog/rpc/Frame" := f_16.keep K_21
    refine Done.pre (fun _ k_ => st_21.trans k_) ?_
    show Done _ _ _ _ _ _ _ (T_21.setTop (mkF m 30 #[Iv p1, Iv p2, Iv p3, Iv p4, Rv b_2, Us, Us, Us, Us] [(.ref b_14)]))
    have sg_24 : ∀ tt_, Steps p.tables e below (T_21.setTop (mkF m 32 #[Iv p1, Iv p2, Iv p3, Iv p4, Rv b_2, Rv b_14, Us, Us, Us] [])) tt_ → Steps p.tables e below (T_21.setTop (mkF m 30 #[Iv p1, Iv p2, Iv p3, Iv p4, Rv b_2, Us, Us, Us, Us] [(.ref b_14)])) tt_ := by
      intro tt_ kt_
      refine XS.astore X_21.here hEX rfl (hb hBY at_30) rfl rfl (l' := #[Iv p1, Iv p2, Iv p3, Iv p4, Rv b_2, Rv b_14, Us, Us, Us]) rfl ?_
      exact kt_
    refine Done.pre sg_24 ?_
    obtain ⟨T_25, h_25, X_25, e_25, E_25, A_25, D_25, -, st_25⟩ := newO X_21 hEX hZW hOW (hw _ (List.mem_of_getElem? (i := 1) rfl)) (hw _ (List.mem_of_getElem? (i := 2) rfl)) (hw _ (List.mem_of_getElem? (i := 3) rfl)) rfl (g := (mkF m 32 #[Iv p1, Iv p2, Iv p3, Iv p4, Rv b_2, Rv b_14, Us, Us, Us] [])) rfl (hb hBY at_32) (by decide) (by decide)
    obtain ⟨b_25, g_25⟩ : ∃ z, z = T_21.heap.size := ⟨_, rfl⟩
    rw [← g_25] at A_25 D_25 st_25
    have sz_b_25 : h0.size ≤ b_25 := Nat.le_trans K__22.1 (Nat.le_of_eq g_25.symm)
    have ge_b_25 : n0 ≤ b_25 := Nat.le_trans Z0 sz_b_25
    have ne_b_14_b_25 : b_14 ≠ b_25 := Nat.ne_of_lt (Nat.lt_of_lt_of_le hq_21_0.lt (Nat.le_of_eq g_25.symm))
    have K__26 : Keep h0 h_25 [] := K__22.ext E_25
    have f_27 : Exa Z h_25 b_14 "com/example/tidelog/tidelog/rpc/Frame" := hq_21_0.ext E_25
    have f_28 : Fld Z h_25 b_14 "com/example/tidelog/tidelog/rpc/Frame" "flags" "I" (.int p1) := hq_21_1.ext E_25
    have f_29 : Fld Z h_25 b_14 "com/example/tidelog/tidelog/rpc/Frame" "request" "I" (.int p2) := hq_21_2.ext E_25
    have f_30 : Fld Z h_25 b_14 "com/example/tidelog/tidelog/rpc/Frame" "body" "[B" (.ref b_2) := hq_21_3.ext E_25
    have f_31 : Exa Z h_25 b_25 "com/example/tidelog/tidelog/rpc/Frame" := A_25
    have f_32 : Fld Z h_25 b_25 "com/example/tidelog/tidelog/rpc/Frame" "flags" "I" (.int (0 : Int32)) := D_25 (Or.inr (hw _ (List.mem_of_getElem? (i := 16) rfl))) (ty := .int) (by decide)
    have f_33 : Fld Z h_25 b_25 "com/example/tidelog/tidelog/rpc/Frame" "request" "I" (.int (0 : Int32)) := D_25 (Or.inr (hw _ (List.mem_of_getElem? (i := 18) rfl))) (ty := .int) (by decide)
    have f_34 : Fld Z h_25 b_25 "com/example/tidelog/tidelog/rpc/Frame" "body" "[B" .null := D_25 (Or.inr (hw _ (List.mem_of_getElem? (i := 20) rfl))) (ty := (.array .byte)) (by decide)
    refine Done.pre st_25 ?_
    show Done _ _ _ _ _ _ _ (T_25.setTop (mkF m 35 #[Iv p1, Iv p2, Iv p3, Iv p4, Rv b_2, Rv b_14, Us, Us, Us] [(.ref b_25)]))
    have sg_35 : ∀ tt_, Steps p.tables e below (T_25.setTop (mkF m 42 #[Iv p1, Iv p2, Iv p3, Iv p4, Rv b_2, Rv b_14, Us, Us, Us] [(.ref b_2), (.int p2), (.int (p1 ||| (4 : Int32))), (.ref b_25), (.ref b_25)])) tt_ → Steps p.tables e below (T_25.setTop (mkF m 35 #[Iv p1, Iv p2, Iv p3, Iv p4, Rv b_2, Rv b_14, Us, Us, Us] [(.ref b_25)])) tt_ := by
      intro tt_ kt_
      refine XS.dup X_25.here hEX rfl (hb hBY at_35) rfl rfl ?_
      show Steps p.tables e below (T_25.setTop (mkF m 36 #[Iv p1, Iv p2, Iv p3, Iv p4, Rv b_2, Rv b_14, Us, Us, Us] [(.ref b_25), (.ref b_25)])) tt_
      refine XS.iloadN X_25.here hEX rfl (hb hBY at_36) rfl ?_
      show Steps p.tables e below (T_25.setTop (mkF m 37 #[Iv p1, Iv p2, Iv p3, Iv p4, Rv b_2, Rv b_14, Us, Us, Us] [(.int p1), (.ref b_25), (.ref b_25)])) tt_
      refine XS.iconst X_25.here hEX rfl (hb hBY at_37) ?_
      show Steps p.tables e below (T_25.setTop (mkF m 38 #[Iv p1, Iv p2, Iv p3, Iv p4, Rv b_2, Rv b_14, Us, Us, Us] [(.int (4 : Int32)), (.int p1), (.ref b_25), (.ref b_25)])) tt_
      refine XS.ior X_25.here hEX rfl (hb hBY at_38) rfl ?_
      show Steps p.tables e below (T_25.setTop (mkF m 39 #[Iv p1, Iv p2, Iv p3, Iv p4, Rv b_2, Rv b_14, Us, Us, Us] [(.int (p1 ||| (4 : Int32))), (.ref b_25), (.ref b_25)])) tt_
      refine XS.iloadN X_25.here hEX rfl (hb hBY at_39) rfl ?_
      show Steps p.tables e below (T_25.setTop (mkF m 40 #[Iv p1, Iv p2, Iv p3, Iv p4, Rv b_2, Rv b_14, Us, Us, Us] [(.int p2), (.int (p1 ||| (4 : Int32))), (.ref b_25), (.ref b_25)])) tt_
      refine XS.aload X_25.here hEX rfl (hb hBY at_40) rfl rfl ?_
      exact kt_
    refine Done.pre sg_35 ?_
    obtain ⟨_, _, ⟨T_36, L_36, k_36, n_36⟩, -, X_36, ⟨Lc_36, hQ_36, l_36, y_36, z_36⟩, st_36⟩ := X_25.specialBack hEX (y := (⟨"com/example/tidelog/tidelog/rpc/Frame", "<init>", "(II[B)V"⟩ : MethodName)) rfl hOW (mvT hZW (hw _ (List.mem_of_getElem? (i := 4) rfl))) (mvT hZW (hw _ (List.mem_of_getElem? (i := 5) rfl))) (mvT hZW (hw _ (List.mem_of_getElem? (i := 6) rfl))) (by decide) (backOf (W := 1) (rm_init l Z aZ hw [] b_25 (p1 ||| (4 : Int32)) p2 b_2 (.int (0 : Int32)) (.int (0 : Int32)) .null h_25 n0 (Nat.le_trans Z0 K__26.1) f_31 f_32 f_33 f_34 ge_b_25) hZW (hw _ (List.mem_of_getElem? (i := 6) rfl)) (hw _ (List.mem_of_getElem? (i := 3) rfl)) (by decide) (by decide)) (g := (mkF m 42 #[Iv p1, Iv p2, Iv p3, Iv p4, Rv b_2, Rv b_14, Us, Us, Us] [(.ref b_2), (.int p2), (.int (p1 ||| (4 : Int32))), (.ref b_25), (.ref b_25)])) rfl (by rw [hMX]; rfl) (Steps.refl _) (a := b_25) (argsL := [(.int (p1 ||| (4 : Int32))), (.int p2), (.ref b_2)]) (rest := [(.ref b_25)]) (lenOf pd__II_B_V_2 rfl) rfl (by show 2 * 0 + _ ≤ _; exact Nat.le_of_eq rfl) (hb hBY at_42) (fun _ _ => ⟨rfl, e_25, (by decide : 3 + 0 ≤ _), (by decide : 9 + 0 ≤ _)⟩)
    dsimp only [Pt.U, Pt.locs, Pt.cells, Pt.slots] at X_36 l_36 y_36 z_36 st_36 hQ_36
    subst l_36 y_36 z_36
    obtain ⟨rfl, N_36q, K_36, hq_36_0, hq_36_1, hq_36_2, hq_36_3⟩ := hQ_36
    have N_36 := Fr.app N_21 N_36q
    have K__37 : Keep h0 T_36.heap [] := K__26.trans K_36 (allS (Or.inr sz_b_25) all0)
    have f_38 : Exa Z T_36.heap b_14 "com/example/tidelog/tidelog/rpc/Frame" := f_27.keep K_36
    have f_39 : Fld Z T_36.heap b_14 "com/example/tidelog/tidelog/rpc/Frame" "flags" "I" (.int p1) := f_28.keep K_36 (ninS ne_b_14_b_25 nin0)
    have f_40 : Fld Z T_36.heap b_14 "com/example/tidelog/tidelog/rpc/Frame" "request" "I" (.int p2) := f_29.keep K_36 (ninS ne_b_14_b_25 nin0)
    have f_41 : Fld Z T_36.heap b_14 "com/example/tidelog/tidelog/rpc/Frame" "body" "[B" (.ref b_2) := f_30.keep K_36 (ninS ne_b_14_b_25 nin0)
    have f_42 : Exa Z T_36.heap b_25 "com/example/tidelog/tidelog/rpc/Frame" := f_31.keep K_36
    refine Done.pre (fun _ k_ => st_36.trans k_) ?_
    show Done _ _ _ _ _ _ _ (T_36.setTop (mkF m 45 #[Iv p1, Iv p2, Iv p3, Iv p4, Rv b_2, Rv b_14, Us, Us, Us] [(.ref b_25)]))
    have sg_43 : ∀ tt_, Steps p.tables e below (T_36.setTop (mkF m 47 #[Iv p1, Iv p2, Iv p3, Iv p4, Rv b_2, Rv b_14, Rv b_25, Us, Us] [])) tt_ → Steps p.tables e below (T_36.setTop (mkF m 45 #[Iv p1, Iv p2, Iv p3, Iv p4, Rv b_2, Rv b_14, Us, Us, Us] [(.ref b_25)])) tt_ := by
      intro tt_ kt_
      refine XS.astore X_36.here hEX rfl (hb hBY at_45) rfl rfl (l' := #[Iv p1, Iv p2, Iv p3, Iv p4, Rv b_2, Rv b_14, Rv b_25, Us, Us]) rfl ?_
      exact kt_
    refine Done.pre sg_43 ?_
    obtain ⟨T_44, h_44, X_44, e_44, E_44, A_44, D_44, -, st_44⟩ := newO X_36 hEX hZW hOW (hw _ (List.mem_of_getElem? (i := 1) rfl)) (hw _ (List.mem_of_getElem? (i := 2) rfl)) (hw _ (List.mem_of_getElem? (i := 3) rfl)) rfl (g := (mkF m 47 #[Iv p1, Iv p2, Iv p3, Iv p4, Rv b_2, Rv b_14, Rv b_25, Us, Us] [])) rfl (hb hBY at_47) (by decide) (by decide)
    obtain ⟨b_44, g_44⟩ : ∃ z, z = T_36.heap.size := ⟨_, rfl⟩
    rw [← g_44] at A_44 D_44 st_44
    have sz_b_44 : h0.size ≤ b_44 := Nat.le_trans K__37.1 (Nat.le_of_eq g_44.symm)
    have ge_b_44 : n0 ≤ b_44 := Nat.le_trans Z0 sz_b_44
    have ne_b_14_b_44 : b_14 ≠ b_44 := Nat.ne_of_lt (Nat.lt_of_lt_of_le f_38.lt (Nat.le_of_eq g_44.symm))
    have ne_b_25_b_44 : b_25 ≠ b_44 := Nat.ne_of_lt (Nat.lt_of_lt_of_le hq_36_0.lt (Nat.le_of_eq g_44.symm))
    have K__45 : Keep h0 h_44 [] := K__37.ext E_44
    have f_46 : Exa Z h_44 b_14 "com/example/tidelog/tidelog/rpc/Frame" := f_38.ext E_44
    have f_47 : Fld Z h_44 b_14 "com/example/tidelog/tidelog/rpc/Frame" "flags" "I" (.int p1) := f_39.ext E_44
    have f_48 : Fld Z h_44 b_14 "com/example/tidelog/tidelog/rpc/Frame" "request" "I" (.int p2) := f_40.ext E_44
    have f_49 : Fld Z h_44 b_14 "com/example/tidelog/tidelog/rpc/Frame" "body" "[B" (.ref b_2) := f_41.ext E_44
    have f_50 : Exa Z h_44 b_25 "com/example/tidelog/tidelog/rpc/Frame" := hq_36_0.ext E_44
    have f_51 : Fld Z h_44 b_25 "com/example/tidelog/tidelog/rpc/Frame" "flags" "I" (.int (p1 ||| (4 : Int32))) := hq_36_1.ext E_44
    have f_52 : Fld Z h_44 b_25 "com/example/tidelog/tidelog/rpc/Frame" "request" "I" (.int p2) := hq_36_2.ext E_44
    have f_53 : Fld Z h_44 b_25 "com/example/tidelog/tidelog/rpc/Frame" "body" "[B" (.ref b_2) := hq_36_3.ext E_44
    have f_54 : Exa Z h_44 b_44 "com/example/tidelog/tidelog/rpc/Frame" := A_44
    have f_55 : Fld Z h_44 b_44 "com/example/tidelog/tidelog/rpc/Frame" "flags" "I" (.int (0 : Int32)) := D_44 (Or.inr (hw _ (List.mem_of_getElem? (i := 16) rfl))) (ty := .int) (by decide)
    have f_56 : Fld Z h_44 b_44 "com/example/tidelog/tidelog/rpc/Frame" "request" "I" (.int (0 : Int32)) := D_44 (Or.inr (hw _ (List.mem_of_getElem? (i := 18) rfl))) (ty := .int) (by decide)
    have f_57 : Fld Z h_44 b_44 "com/example/tidelog/tidelog/rpc/Frame" "body" "[B" .null := D_44 (Or.inr (hw _ (List.mem_of_getElem? (i := 20) rfl))) (ty := (.array .byte)) (by decide)
    refine Done.pre st_44 ?_
    show Done _ _ _ _ _ _ _ (T_44.setTop (mkF m 50 #[Iv p1, Iv p2, Iv p3, Iv p4, Rv b_2, Rv b_14, Rv b_25, Us, Us] [(.ref b_44)]))
    have sg_58 : ∀ tt_, Steps p.tables e below (T_44.setTop (mkF m 58 #[Iv p1, Iv p2, Iv p3, Iv p4, Rv b_2, Rv b_14, Rv b_25, Us, Us] [(.ref b_2), (.int p2), (.int (p1 &&& (-5 : Int32))), (.ref b_44), (.ref b_44)])) tt_ → Steps p.tables e below (T_44.setTop (mkF m 50 #[Iv p1, Iv p2, Iv p3, Iv p4, Rv b_2, Rv b_14, Rv b_25, Us, Us] [(.ref b_44)])) tt_ := by
      intro tt_ kt_
      refine XS.dup X_44.here hEX rfl (hb hBY at_50) rfl rfl ?_
      show Steps p.tables e below (T_44.setTop (mkF m 51 #[Iv p1, Iv p2, Iv p3, Iv p4, Rv b_2, Rv b_14, Rv b_25, Us, Us] [(.ref b_44), (.ref b_44)])) tt_
      refine XS.iloadN X_44.here hEX rfl (hb hBY at_51) rfl ?_
      show Steps p.tables e below (T_44.setTop (mkF m 52 #[Iv p1, Iv p2, Iv p3, Iv p4, Rv b_2, Rv b_14, Rv b_25, Us, Us] [(.int p1), (.ref b_44), (.ref b_44)])) tt_
      refine XS.bipush X_44.here hEX rfl (hb hBY at_52) ?_
      show Steps p.tables e below (T_44.setTop (mkF m 54 #[Iv p1, Iv p2, Iv p3, Iv p4, Rv b_2, Rv b_14, Rv b_25, Us, Us] [(.int (-5 : Int32)), (.int p1), (.ref b_44), (.ref b_44)])) tt_
      refine XS.iand X_44.here hEX rfl (hb hBY at_54) rfl ?_
      show Steps p.tables e below (T_44.setTop (mkF m 55 #[Iv p1, Iv p2, Iv p3, Iv p4, Rv b_2, Rv b_14, Rv b_25, Us, Us] [(.int (p1 &&& (-5 : Int32))), (.ref b_44), (.ref b_44)])) tt_
      refine XS.iloadN X_44.here hEX rfl (hb hBY at_55) rfl ?_
      show Steps p.tables e below (T_44.setTop (mkF m 56 #[Iv p1, Iv p2, Iv p3, Iv p4, Rv b_2, Rv b_14, Rv b_25, Us, Us] [(.int p2), (.int (p1 &&& (-5 : Int32))), (.ref b_44), (.ref b_44)])) tt_
      refine XS.aload X_44.here hEX rfl (hb hBY at_56) rfl rfl ?_
      exact kt_
    refine Done.pre sg_58 ?_
    obtain ⟨_, _, ⟨T_59, L_59, k_59, n_59⟩, -, X_59, ⟨Lc_59, hQ_59, l_59, y_59, z_59⟩, st_59⟩ := X_44.specialBack hEX (y := (⟨"com/example/tidelog/tidelog/rpc/Frame", "<init>", "(II[B)V"⟩ : MethodName)) rfl hOW (mvT hZW (hw _ (List.mem_of_getElem? (i := 4) rfl))) (mvT hZW (hw _ (List.mem_of_getElem? (i := 5) rfl))) (mvT hZW (hw _ (List.mem_of_getElem? (i := 6) rfl))) (by decide) (backOf (W := 1) (rm_init l Z aZ hw [] b_44 (p1 &&& (-5 : Int32)) p2 b_2 (.int (0 : Int32)) (.int (0 : Int32)) .null h_44 n0 (Nat.le_trans Z0 K__45.1) f_54 f_55 f_56 f_57 ge_b_44) hZW (hw _ (List.mem_of_getElem? (i := 6) rfl)) (hw _ (List.mem_of_getElem? (i := 3) rfl)) (by decide) (by decide)) (g := (mkF m 58 #[Iv p1, Iv p2, Iv p3, Iv p4, Rv b_2, Rv b_14, Rv b_25, Us, Us] [(.ref b_2), (.int p2), (.int (p1 &&& (-5 : Int32))), (.ref b_44), (.ref b_44)])) rfl (by rw [hMX]; rfl) (Steps.refl _) (a := b_44) (argsL := [(.int (p1 &&& (-5 : Int32))), (.int p2), (.ref b_2)]) (rest := [(.ref b_44)]) (lenOf pd__II_B_V_2 rfl) rfl (by show 2 * 0 + _ ≤ _; exact Nat.le_of_eq rfl) (hb hBY at_58) (fun _ _ => ⟨rfl, e_44, (by decide : 4 + 0 ≤ _), (by decide : 12 + 0 ≤ _)⟩)
    dsimp only [Pt.U, Pt.locs, Pt.cells, Pt.slots] at X_59 l_59 y_59 z_59 st_59 hQ_59
    subst l_59 y_59 z_59
    obtain ⟨rfl, N_59q, K_59, hq_59_0, hq_59_1, hq_59_2, hq_59_3⟩ := hQ_59
    have N_59 := Fr.app N_36 N_59q
    have K__60 : Keep h0 T_59.heap [] := K__45.trans K_59 (allS (Or.inr sz_b_44) all0)
    have f_61 : Exa Z T_59.heap b_14 "com/example/tidelog/tidelog/rpc/Frame" := f_46.keep K_59
    have f_62 : Fld Z T_59.heap b_14 "com/example/tidelog/tidelog/rpc/Frame" "flags" "I" (.int p1) := f_47.keep K_59 (ninS ne_b_14_b_44 nin0)
    have f_63 : Fld Z T_59.heap b_14 "com/example/tidelog/tidelog/rpc/Frame" "request" "I" (.int p2) := f_48.keep K_59 (ninS ne_b_14_b_44 nin0)
    have f_64 : Fld Z T_59.heap b_14 "com/example/tidelog/tidelog/rpc/Frame" "body" "[B" (.ref b_2) := f_49.keep K_59 (ninS ne_b_14_b_44 nin0)
    have f_65 : Exa Z T_59.heap b_25 "com/example/tidelog/tidelog/rpc/Frame" := f_50.keep K_59
    have f_66 : Fld Z T_59.heap b_25 "com/example/tidelog/tidelog/rpc/Frame" "flags" "I" (.int (p1 ||| (4 : Int32))) := f_51.keep K_59 (ninS ne_b_25_b_44 nin0)
    have f_67 : Fld Z T_59.heap b_25 "com/example/tidelog/tidelog/rpc/Frame" "request" "I" (.int p2) := f_52.keep K_59 (ninS ne_b_25_b_44 nin0)
    have f_68 : Fld Z T_59.heap b_25 "com/example/tidelog/tidelog/rpc/Frame" "body" "[B" (.ref b_2) := f_53.keep K_59 (ninS ne_b_25_b_44 nin0)
    have f_69 : Exa Z T_59.heap b_44 "com/example/tidelog/tidelog/rpc/Frame" := f_54.keep K_59
    refine Done.pre (fun _ k_ => st_59.trans k_) ?_
    show Done _ _ _ _ _ _ _ (T_59.setTop (mkF m 61 #[Iv p1, Iv p2, Iv p3, Iv p4, Rv b_2, Rv b_14, Rv b_25, Us, Us] [(.ref b_44)]))
    have sg_70 : ∀ tt_, Steps p.tables e below (T_59.setTop (mkF m 63 #[Iv p1, Iv p2, Iv p3, Iv p4, Rv b_2, Rv b_14, Rv b_25, Rv b_44, Us] [])) tt_ → Steps p.tables e below (T_59.setTop (mkF m 61 #[Iv p1, Iv p2, Iv p3, Iv p4, Rv b_2, Rv b_14, Rv b_25, Us, Us] [(.ref b_44)])) tt_ := by
      intro tt_ kt_
      refine XS.astore X_59.here hEX rfl (hb hBY at_61) rfl rfl (l' := #[Iv p1, Iv p2, Iv p3, Iv p4, Rv b_2, Rv b_14, Rv b_25, Rv b_44, Us]) rfl ?_
      exact kt_
    refine Done.pre sg_70 ?_
    have jn_71 : ∀ (ex : Int32) (hex : ex = own_flag (4 : Int32) p1), Done p e below s (Qrm0 Z p1 p2 p3 p4 h0 n0) room_1.cells room_1.slots (T_59.setTop (mkF m 77 #[Iv p1, Iv p2, Iv p3, Iv p4, Rv b_2, Rv b_14, Rv b_25, Rv b_44, Us] [(.int ex)])) := by
      intro ex hex
      show Done _ _ _ _ _ _ _ (T_59.setTop (mkF m 77 #[Iv p1, Iv p2, Iv p3, Iv p4, Rv b_2, Rv b_14, Rv b_25, Rv b_44, Us] [(.int ex)]))
      have sg_72 : ∀ tt_, Steps p.tables e below (T_59.setTop (mkF m 81 #[Iv p1, Iv p2, Iv p3, Iv p4, Rv b_2, Rv b_14, Rv b_25, Rv b_44, Iv ex] [(.ref b_14)])) tt_ → Steps p.tables e below (T_59.setTop (mkF m 77 #[Iv p1, Iv p2, Iv p3, Iv p4, Rv b_2, Rv b_14, Rv b_25, Rv b_44, Us] [(.int ex)])) tt_ := by
        intro tt_ kt_
        refine XS.istore X_59.here hEX rfl (hb hBY at_77) rfl (l' := #[Iv p1, Iv p2, Iv p3, Iv p4, Rv b_2, Rv b_14, Rv b_25, Rv b_44, Iv ex]) rfl ?_
        show Steps p.tables e below (T_59.setTop (mkF m 79 #[Iv p1, Iv p2, Iv p3, Iv p4, Rv b_2, Rv b_14, Rv b_25, Rv b_44, Iv ex] [])) tt_
        refine XS.aload X_59.here hEX rfl (hb hBY at_79) rfl rfl ?_
        exact kt_
      refine Done.pre sg_72 ?_
      obtain ⟨cq_73, kq_73, q_73a, q_73b, q_73c⟩ := isOf hZW rfl f_61
      obtain ⟨_, _, ⟨T_73, L_73, k_73, n_73⟩, -, X_73, ⟨Lc_73, hQ_73, l_73, y_73, z_73⟩, st_73⟩ := X_59.virtualBack hEX (y := (⟨"com/example/tidelog/tidelog/rpc/Frame", "end", "()Z"⟩ : MethodName)) (z := (⟨"com/example/tidelog/tidelog/rpc/Frame", "end", "()Z"⟩ : MethodName)) hOW (mvT hZW (hw _ (List.mem_of_getElem? (i := 21) rfl))) (mvT hZW (hw _ (List.mem_of_getElem? (i := 22) rfl))) (notFace_of_selects (args := #[]) (mvT hZW (hw _ (List.mem_of_getElem? (i := 24) rfl)))) (mvT hZW (hw _ (List.mem_of_getElem? (i := 24) rfl))) (mvT hZW (hw _ (List.mem_of_getElem? (i := 23) rfl))) (by decide) (backOf (W := 0) (rm_end l Z aZ hw [] b_14 p1 T_59.heap n0 (Nat.le_trans Z0 K__60.1) f_62) hZW (hw _ (List.mem_of_getElem? (i := 25) rfl)) (hw _ (List.mem_of_getElem? (i := 3) rfl)) (by decide) (by decide)) q_73a q_73c (g := (mkF m 81 #[Iv p1, Iv p2, Iv p3, Iv p4, Rv b_2, Rv b_14, Rv b_25, Rv b_44, Iv ex] [(.ref b_14)])) rfl (by rw [hMX]; rfl) (Steps.refl _) (argsL := []) (rest := []) (lenOf pd___Z_1 rfl) rfl (by show 2 * 0 + _ ≤ _; exact Nat.le_of_eq rfl) (hb hBY at_81) (fun _ _ => ⟨rfl, rfl, (by decide : 4 + 0 ≤ _), (by decide : 12 + 0 ≤ _)⟩)
      dsimp only [Pt.U, Pt.locs, Pt.cells, Pt.slots] at X_73 l_73 y_73 z_73 st_73 hQ_73
      subst l_73 y_73 z_73
      obtain ⟨rfl, N_73q, e_73⟩ := hQ_73
      have N_73 := Fr.app N_59 N_73q
      refine Done.pre (fun _ k_ => st_73.trans k_) ?_
      show Done _ _ _ _ _ _ _ (T_73.setTop (mkF m 84 #[Iv p1, Iv p2, Iv p3, Iv p4, Rv b_2, Rv b_14, Rv b_25, Rv b_44, Iv ex] [(.int (own_flag (4 : Int32) p1))]))
      have sg_74 : ∀ tt_, Steps p.tables e below (T_73.setTop (mkF m 91 #[Iv p1, Iv p2, Iv p3, Iv p4, Rv b_2, Rv b_14, Rv b_25, Rv b_44, Iv ex] [(.ref b_25)])) tt_ → Steps p.tables e below (T_73.setTop (mkF m 84 #[Iv p1, Iv p2, Iv p3, Iv p4, Rv b_2, Rv b_14, Rv b_25, Rv b_44, Iv ex] [(.int (own_flag (4 : Int32) p1))])) tt_ := by
        intro tt_ kt_
        refine XS.iload X_73.here hEX rfl (hb hBY at_84) rfl ?_
        show Steps p.tables e below (T_73.setTop (mkF m 86 #[Iv p1, Iv p2, Iv p3, Iv p4, Rv b_2, Rv b_14, Rv b_25, Rv b_44, Iv ex] [(.int ex), (.int (own_flag (4 : Int32) p1))])) tt_
        refine XS.icmpNo X_73.here hEX rfl (hb hBY at_86) rfl (teq (hex.symm : (own_flag (4 : Int32) p1) = ex)).2 ?_
        show Steps p.tables e below (T_73.setTop (mkF m 89 #[Iv p1, Iv p2, Iv p3, Iv p4, Rv b_2, Rv b_14, Rv b_25, Rv b_44, Iv ex] [])) tt_
        refine XS.aload X_73.here hEX rfl (hb hBY at_89) rfl rfl ?_
        exact kt_
      refine Done.pre sg_74 ?_
      obtain ⟨cq_75, kq_75, q_75a, q_75b, q_75c⟩ := isOf hZW e_73 f_65
      obtain ⟨_, _, ⟨T_75, L_75, k_75, n_75⟩, -, X_75, ⟨Lc_75, hQ_75, l_75, y_75, z_75⟩, st_75⟩ := X_73.virtualBack hEX (y := (⟨"com/example/tidelog/tidelog/rpc/Frame", "end", "()Z"⟩ : MethodName)) (z := (⟨"com/example/tidelog/tidelog/rpc/Frame", "end", "()Z"⟩ : MethodName)) hOW (mvT hZW (hw _ (List.mem_of_getElem? (i := 21) rfl))) (mvT hZW (hw _ (List.mem_of_getElem? (i := 22) rfl))) (notFace_of_selects (args := #[]) (mvT hZW (hw _ (List.mem_of_getElem? (i := 24) rfl)))) (mvT hZW (hw _ (List.mem_of_getElem? (i := 24) rfl))) (mvT hZW (hw _ (List.mem_of_getElem? (i := 23) rfl))) (by decide) (backOf (W := 0) (rm_end l Z aZ hw [] b_25 (p1 ||| (4 : Int32)) T_59.heap n0 (Nat.le_trans Z0 K__60.1) f_66) hZW (hw _ (List.mem_of_getElem? (i := 25) rfl)) (hw _ (List.mem_of_getElem? (i := 3) rfl)) (by decide) (by decide)) q_75a q_75c (g := (mkF m 91 #[Iv p1, Iv p2, Iv p3, Iv p4, Rv b_2, Rv b_14, Rv b_25, Rv b_44, Iv ex] [(.ref b_25)])) rfl (by rw [hMX]; rfl) (Steps.refl _) (argsL := []) (rest := []) (lenOf pd___Z_1 rfl) rfl (by show 2 * 0 + _ ≤ _; exact Nat.le_of_eq rfl) (hb hBY at_91) (fun _ _ => ⟨rfl, e_73, (by decide : 4 + 0 ≤ _), (by decide : 12 + 0 ≤ _)⟩)
      dsimp only [Pt.U, Pt.locs, Pt.cells, Pt.slots] at X_75 l_75 y_75 z_75 st_75 hQ_75
      subst l_75 y_75 z_75
      obtain ⟨rfl, N_75q, e_75⟩ := hQ_75
      have N_75 := Fr.app N_73 N_75q
      refine Done.pre (fun _ k_ => st_75.trans k_) ?_
      show Done _ _ _ _ _ _ _ (T_75.setTop (mkF m 94 #[Iv p1, Iv p2, Iv p3, Iv p4, Rv b_2, Rv b_14, Rv b_25, Rv b_44, Iv ex] [(.int (own_flag (4 : Int32) (p1 ||| (4 : Int32))))]))
      have sg_76 : ∀ tt_, Steps p.tables e below (T_75.setTop (mkF m 99 #[Iv p1, Iv p2, Iv p3, Iv p4, Rv b_2, Rv b_14, Rv b_25, Rv b_44, Iv ex] [(.ref b_44)])) tt_ → Steps p.tables e below (T_75.setTop (mkF m 94 #[Iv p1, Iv p2, Iv p3, Iv p4, Rv b_2, Rv b_14, Rv b_25, Rv b_44, Iv ex] [(.int (own_flag (4 : Int32) (p1 ||| (4 : Int32))))])) tt_ := by
        intro tt_ kt_
        refine XS.ifNo X_75.here hEX rfl (hb hBY at_94) rfl ((if0 _ _).trans (feq (own_set p1 : ¬ ((own_flag (4 : Int32) (p1 ||| (4 : Int32))) = (0 : Int32)))).1) ?_
        show Steps p.tables e below (T_75.setTop (mkF m 97 #[Iv p1, Iv p2, Iv p3, Iv p4, Rv b_2, Rv b_14, Rv b_25, Rv b_44, Iv ex] [])) tt_
        refine XS.aload X_75.here hEX rfl (hb hBY at_97) rfl rfl ?_
        exact kt_
      refine Done.pre sg_76 ?_
      obtain ⟨cq_77, kq_77, q_77a, q_77b, q_77c⟩ := isOf hZW e_75 hq_59_0
      obtain ⟨_, _, ⟨T_77, L_77, k_77, n_77⟩, -, X_77, ⟨Lc_77, hQ_77, l_77, y_77, z_77⟩, st_77⟩ := X_75.virtualBack hEX (y := (⟨"com/example/tidelog/tidelog/rpc/Frame", "end", "()Z"⟩ : MethodName)) (z := (⟨"com/example/tidelog/tidelog/rpc/Frame", "end", "()Z"⟩ : MethodName)) hOW (mvT hZW (hw _ (List.mem_of_getElem? (i := 21) rfl))) (mvT hZW (hw _ (List.mem_of_getElem? (i := 22) rfl))) (notFace_of_selects (args := #[]) (mvT hZW (hw _ (List.mem_of_getElem? (i := 24) rfl)))) (mvT hZW (hw _ (List.mem_of_getElem? (i := 24) rfl))) (mvT hZW (hw _ (List.mem_of_getElem? (i := 23) rfl))) (by decide) (backOf (W := 0) (rm_end l Z aZ hw [] b_44 (p1 &&& (-5 : Int32)) T_59.heap n0 (Nat.le_trans Z0 K__60.1) hq_59_1) hZW (hw _ (List.mem_of_getElem? (i := 25) rfl)) (hw _ (List.mem_of_getElem? (i := 3) rfl)) (by decide) (by decide)) q_77a q_77c (g := (mkF m 99 #[Iv p1, Iv p2, Iv p3, Iv p4, Rv b_2, Rv b_14, Rv b_25, Rv b_44, Iv ex] [(.ref b_44)])) rfl (by rw [hMX]; rfl) (Steps.refl _) (argsL := []) (rest := []) (lenOf pd___Z_1 rfl) rfl (by show 2 * 0 + _ ≤ _; exact Nat.le_of_eq rfl) (hb hBY at_99) (fun _ _ => ⟨rfl, e_75, (by decide : 4 + 0 ≤ _), (by decide : 12 + 0 ≤ _)⟩)
      dsimp only [Pt.U, Pt.locs, Pt.cells, Pt.slots] at X_77 l_77 y_77 z_77 st_77 hQ_77
      subst l_77 y_77 z_77
      obtain ⟨rfl, N_77q, e_77⟩ := hQ_77
      have N_77 := Fr.app N_75 N_77q
      refine Done.pre (fun _ k_ => st_77.trans k_) ?_
      show Done _ _ _ _ _ _ _ (T_77.setTop (mkF m 102 #[Iv p1, Iv p2, Iv p3, Iv p4, Rv b_2, Rv b_14, Rv b_25, Rv b_44, Iv ex] [(.int (own_flag (4 : Int32) (p1 &&& (-5 : Int32))))]))
      have sg_78 : ∀ tt_, Steps p.tables e below (T_77.setTop (mkF m 110 #[Iv p1, Iv p2, Iv p3, Iv p4, Rv b_2, Rv b_14, Rv b_25, Rv b_44, Iv ex] [(.int (1 : Int32))])) tt_ → Steps p.tables e below (T_77.setTop (mkF m 102 #[Iv p1, Iv p2, Iv p3, Iv p4, Rv b_2, Rv b_14, Rv b_25, Rv b_44, Iv ex] [(.int (own_flag (4 : Int32) (p1 &&& (-5 : Int32))))])) tt_ := by
        intro tt_ kt_
        refine XS.ifNo X_77.here hEX rfl (hb hBY at_102) rfl ((if0 _ _).trans (teq (own_clr p1 : (own_flag (4 : Int32) (p1 &&& (-5 : Int32))) = (0 : Int32))).2) ?_
        show Steps p.tables e below (T_77.setTop (mkF m 105 #[Iv p1, Iv p2, Iv p3, Iv p4, Rv b_2, Rv b_14, Rv b_25, Rv b_44, Iv ex] [])) tt_
        refine XS.iconst X_77.here hEX rfl (hb hBY at_105) ?_
        show Steps p.tables e below (T_77.setTop (mkF m 106 #[Iv p1, Iv p2, Iv p3, Iv p4, Rv b_2, Rv b_14, Rv b_25, Rv b_44, Iv ex] [(.int (1 : Int32))])) tt_
        refine XS.goto X_77.here hEX rfl (pc0 := 106) (pc' := 110) rfl (hb hBY at_106) (by decide) (by decide) ?_
        exact kt_
      refine Done.pre sg_78 ?_
      exact Done.retN X_77 hEX hLK (t := .boolean) hRT (by simp) (hb hBY at_110) (by rw [e_77]; exact ⟨rfl, N_77, K__60⟩) (by decide) (by decide)
    show Done _ _ _ _ _ _ _ (T_59.setTop (mkF m 63 #[Iv p1, Iv p2, Iv p3, Iv p4, Rv b_2, Rv b_14, Rv b_25, Rv b_44, Us] []))
    have sg_79 : ∀ tt_, Steps p.tables e below (T_59.setTop (mkF m 69 #[Iv p1, Iv p2, Iv p3, Iv p4, Rv b_2, Rv b_14, Rv b_25, Rv b_44, Us] [(.int (1 : Int32)), (.int (((p1.toUInt32 >>> ((2 : Int32) &&& 31).toUInt32).toInt32) &&& (1 : Int32)))])) tt_ → Steps p.tables e below (T_59.setTop (mkF m 63 #[Iv p1, Iv p2, Iv p3, Iv p4, Rv b_2, Rv b_14, Rv b_25, Rv b_44, Us] [])) tt_ := by
      intro tt_ kt_
      refine XS.iloadN X_59.here hEX rfl (hb hBY at_63) rfl ?_
      show Steps p.tables e below (T_59.setTop (mkF m 64 #[Iv p1, Iv p2, Iv p3, Iv p4, Rv b_2, Rv b_14, Rv b_25, Rv b_44, Us] [(.int p1)])) tt_
      refine XS.iconst X_59.here hEX rfl (hb hBY at_64) ?_
      show Steps p.tables e below (T_59.setTop (mkF m 65 #[Iv p1, Iv p2, Iv p3, Iv p4, Rv b_2, Rv b_14, Rv b_25, Rv b_44, Us] [(.int (2 : Int32)), (.int p1)])) tt_
      refine XS.iushr X_59.here hEX rfl (hb hBY at_65) rfl ?_
      show Steps p.tables e below (T_59.setTop (mkF m 66 #[Iv p1, Iv p2, Iv p3, Iv p4, Rv b_2, Rv b_14, Rv b_25, Rv b_44, Us] [(.int ((p1.toUInt32 >>> ((2 : Int32) &&& 31).toUInt32).toInt32))])) tt_
      refine XS.iconst X_59.here hEX rfl (hb hBY at_66) ?_
      show Steps p.tables e below (T_59.setTop (mkF m 67 #[Iv p1, Iv p2, Iv p3, Iv p4, Rv b_2, Rv b_14, Rv b_25, Rv b_44, Us] [(.int (1 : Int32)), (.int ((p1.toUInt32 >>> ((2 : Int32) &&& 31).toUInt32).toInt32))])) tt_
      refine XS.iand X_59.here hEX rfl (hb hBY at_67) rfl ?_
      show Steps p.tables e below (T_59.setTop (mkF m 68 #[Iv p1, Iv p2, Iv p3, Iv p4, Rv b_2, Rv b_14, Rv b_25, Rv b_44, Us] [(.int (((p1.toUInt32 >>> ((2 : Int32) &&& 31).toUInt32).toInt32) &&& (1 : Int32)))])) tt_
      refine XS.iconst X_59.here hEX rfl (hb hBY at_68) ?_
      exact kt_
    refine Done.pre sg_79 ?_
    by_cases hc69 : (((p1.toUInt32 >>> ((2 : Int32) &&& 31).toUInt32).toInt32) &&& (1 : Int32)) = (1 : Int32)
    · skip
      have sg_80 : ∀ tt_, Steps p.tables e below (T_59.setTop (mkF m 77 #[Iv p1, Iv p2, Iv p3, Iv p4, Rv b_2, Rv b_14, Rv b_25, Rv b_44, Us] [(.int (1 : Int32))])) tt_ → Steps p.tables e below (T_59.setTop (mkF m 69 #[Iv p1, Iv p2, Iv p3, Iv p4, Rv b_2, Rv b_14, Rv b_25, Rv b_44, Us] [(.int (1 : Int32)), (.int (((p1.toUInt32 >>> ((2 : Int32) &&& 31).toUInt32).toInt32) &&& (1 : Int32)))])) tt_ := by
        intro tt_ kt_
        refine XS.icmpNo X_59.here hEX rfl (hb hBY at_69) rfl (teq hc69).2 ?_
        show Steps p.tables e below (T_59.setTop (mkF m 72 #[Iv p1, Iv p2, Iv p3, Iv p4, Rv b_2, Rv b_14, Rv b_25, Rv b_44, Us] [])) tt_
        refine XS.iconst X_59.here hEX rfl (hb hBY at_72) ?_
        show Steps p.tables e below (T_59.setTop (mkF m 73 #[Iv p1, Iv p2, Iv p3, Iv p4, Rv b_2, Rv b_14, Rv b_25, Rv b_44, Us] [(.int (1 : Int32))])) tt_
        refine XS.goto X_59.here hEX rfl (pc0 := 73) (pc' := 77) rfl (hb hBY at_73) (by decide) (by decide) ?_
        exact kt_
      refine Done.pre sg_80 ?_
      exact jn_71 ((1 : Int32)) (by first | exact own_ex1 _ hc69 | exact own_ex0 _ hc69)
    · skip
      have sg_81 : ∀ tt_, Steps p.tables e below (T_59.setTop (mkF m 77 #[Iv p1, Iv p2, Iv p3, Iv p4, Rv b_2, Rv b_14, Rv b_25, Rv b_44, Us] [(.int (0 : Int32))])) tt_ → Steps p.tables e below (T_59.setTop (mkF m 69 #[Iv p1, Iv p2, Iv p3, Iv p4, Rv b_2, Rv b_14, Rv b_25, Rv b_44, Us] [(.int (1 : Int32)), (.int (((p1.toUInt32 >>> ((2 : Int32) &&& 31).toUInt32).toInt32) &&& (1 : Int32)))])) tt_ := by
        intro tt_ kt_
        refine XS.icmpYes X_59.here hEX rfl (pc0 := 69) (pc' := 76) rfl (hb hBY at_69) rfl (feq hc69).2 (by decide) (by decide) ?_
        show Steps p.tables e below (T_59.setTop (mkF m 76 #[Iv p1, Iv p2, Iv p3, Iv p4, Rv b_2, Rv b_14, Rv b_25, Rv b_44, Us] [])) tt_
        refine XS.iconst X_59.here hEX rfl (hb hBY at_76) ?_
        exact kt_
      refine Done.pre sg_81 ?_
      exact jn_71 ((0 : Int32)) (by first | exact own_ex1 _ hc69 | exact own_ex0 _ hc69)
  show Done _ _ _ _ _ _ _ (T_2.setTop (mkF m 7 #[Iv p1, Iv p2, Iv p3, Iv p4, Rv b_2, Us, Us, Us, Us] []))
  obtain ⟨cl_82, Ar_82, -, S_82, N__82, -, -⟩ := id f_4
  have sg_83 : ∀ tt_, Steps p.tables e below (T_2.setTop (mkF m 10 #[Iv p1, Iv p2, Iv p3, Iv p4, Rv b_2, Us, Us, Us, Us] [(.int (p3 &&& (3 : Int32)))])) tt_ → Steps p.tables e below (T_2.setTop (mkF m 7 #[Iv p1, Iv p2, Iv p3, Iv p4, Rv b_2, Us, Us, Us, Us] [])) tt_ := by
    intro tt_ kt_
    refine XS.aload X_2.here hEX rfl (hb hBY at_7) rfl rfl ?_
    show Steps p.tables e below (T_2.setTop (mkF m 9 #[Iv p1, Iv p2, Iv p3, Iv p4, Rv b_2, Us, Us, Us, Us] [(.ref b_2)])) tt_
    refine X_2.arraylength hEX (by rw [e_2]; exact Ar_82.1) (State.isArrayOf_alike hZW.alike Ar_82.2.1) (g := (mkF m 9 #[Iv p1, Iv p2, Iv p3, Iv p4, Rv b_2, Us, Us, Us, Us] [(.ref b_2)])) rfl rfl (hb hBY at_9) _ ?_
    rw [len_of S_82 N__82]
    exact kt_
  refine Done.pre sg_83 ?_
  by_cases hc10 : (0 : Int32) < (p3 &&& (3 : Int32))
  · skip
    have sg_85 : ∀ tt_, Steps p.tables e below (T_2.setTop (mkF m 18 #[Iv p1, Iv p2, Iv p3, Iv p4, Rv b_2, Us, Us, Us, Us] [(.int (p4.toInt8.toInt32)), (.int (0 : Int32)), (.ref b_2)])) tt_ → Steps p.tables e below (T_2.setTop (mkF m 10 #[Iv p1, Iv p2, Iv p3, Iv p4, Rv b_2, Us, Us, Us, Us] [(.int (p3 &&& (3 : Int32)))])) tt_ := by
      intro tt_ kt_
      refine XS.ifNo X_2.here hEX rfl (hb hBY at_10) rfl ((if0 _ _).trans (tlt hc10).2.2.2) ?_
      show Steps p.tables e below (T_2.setTop (mkF m 13 #[Iv p1, Iv p2, Iv p3, Iv p4, Rv b_2, Us, Us, Us, Us] [])) tt_
      refine XS.aload X_2.here hEX rfl (hb hBY at_13) rfl rfl ?_
      show Steps p.tables e below (T_2.setTop (mkF m 15 #[Iv p1, Iv p2, Iv p3, Iv p4, Rv b_2, Us, Us, Us, Us] [(.ref b_2)])) tt_
      refine XS.iconst X_2.here hEX rfl (hb hBY at_15) ?_
      show Steps p.tables e below (T_2.setTop (mkF m 16 #[Iv p1, Iv p2, Iv p3, Iv p4, Rv b_2, Us, Us, Us, Us] [(.int (0 : Int32)), (.ref b_2)])) tt_
      refine XS.iloadN X_2.here hEX rfl (hb hBY at_16) rfl ?_
      show Steps p.tables e below (T_2.setTop (mkF m 17 #[Iv p1, Iv p2, Iv p3, Iv p4, Rv b_2, Us, Us, Us, Us] [(.int p4), (.int (0 : Int32)), (.ref b_2)])) tt_
      refine XS.i2b X_2.here hEX rfl (hb hBY at_17) rfl ?_
      exact kt_
    refine Done.pre sg_85 ?_
    obtain ⟨cl_84, Ar_84, q_84, S_84, N__84, H_84, G_84⟩ := id f_4
    have hin_84 : ¬ ((0 : Int32) < 0 ∨ cl_84.slots.size ≤ ((0 : Int32)).toNatClampNeg) := inb_of S_84 ⟨by decide, hc10⟩
    obtain ⟨T_86, h_86, X_86, e_86, W_86, st_86⟩ := stB X_2 hEX hZW e_2 Ar_84 (j := (0 : Int32)) hin_84 (g := (mkF m 18 #[Iv p1, Iv p2, Iv p3, Iv p4, Rv b_2, Us, Us, Us, Us] [(.int (p4.toInt8.toInt32)), (.int (0 : Int32)), (.ref b_2)])) rfl rfl (hb hBY at_18)
    have N_86 := Fr.snoc X_86 N0 ge_b_2
    have K__87 : Keep h0 h_86 [] := K__3.wr W_86 (Or.inr sz_b_2)
    refine Done.pre st_86 ?_
    show Done _ _ _ _ _ _ _ (T_86.setTop (mkF m 19 #[Iv p1, Iv p2, Iv p3, Iv p4, Rv b_2, Us, Us, Us, Us] []))
    exact jn_6 T_86 h_86 _ X_86 e_86 N_86 K__87
  · skip
    have sg_89 : ∀ tt_, Steps p.tables e below (T_2.setTop (mkF m 19 #[Iv p1, Iv p2, Iv p3, Iv p4, Rv b_2, Us, Us, Us, Us] [])) tt_ → Steps p.tables e below (T_2.setTop (mkF m 10 #[Iv p1, Iv p2, Iv p3, Iv p4, Rv b_2, Us, Us, Us, Us] [(.int (p3 &&& (3 : Int32)))])) tt_ := by
      intro tt_ kt_
      refine XS.ifYes X_2.here hEX rfl (pc0 := 10) (pc' := 19) rfl (hb hBY at_10) rfl ((if0 _ _).trans (flt hc10).2.2.2) (by decide) (by decide) ?_
      exact kt_
    refine Done.pre sg_89 ?_
    exact jn_6 T_2 h_2 _ X_2 e_2 N0 K__3
set_option maxRecDepth 65536 in
set_option maxHeartbeats 40000000 in
theorem comes_1 {Post : Tables → Env → Array Value → State → Outcome → State → Prop} (hpost : ∀ tb e args s v u, (limb_1_1.after args s (.returned v) u = true ∧ limb_1_2.after args s (.returned v) u = true ∧ True) → FrameEnd s (.returned v) u (Jvm.fieldLocs frame_1_writes args s ++ Jvm.arrayLocs frame_1_arrays args s ++ Jvm.staticLocs frame_1_statics s) 16 128 → Post tb e args s (.returned v) u) :
    ArmFor flags0 classFile x code maxLocals ret World_1 tables_1 room_1 Calls_1 rest_1 Pre_1 Post := by
  intro l hfl _ _ p e ha hc hk s m args below hf hA hF happ hP
  obtain ⟨hcalls, hrest, hpre⟩ := hP
  obtain ⟨-, -, -, hnamed, -, -, -, hat⟩ := (Spec.applies_iff hf).mp happ
  obtain ⟨hg, hn⟩ := and_e (Cond.before_iff.mp (show (Jvm.Cond.and given_1 narrow_1).before args s = true from hpre))
  obtain ⟨g1a, g1b⟩ := and_e hg
  obtain ⟨g2a, g2b⟩ := and_e g1b
  obtain ⟨g3a, g3b⟩ := and_e g2b
  obtain ⟨g4a, g4b⟩ := and_e g3b
  obtain ⟨w0, w1, w2, w3, rfl⟩ : ∃ w0 w1 w2 w3 : Value, args = #[w0, w1, w2, w3] := by
    have hs : args.size = 4 := by simpa [Cond.value, given_1] using g1a
    obtain ⟨L⟩ := args
    match L, hs with
    | [w0, w1, w2, w3], _ => exact ⟨w0, w1, w2, w3, rfl⟩
  have hw := fun d (hd : d ∈ tables_1) => atoms_spec (ws := Jvm.Cond.code x code maxLocals ret :: tables_1) hat d (List.mem_cons_of_mem _ hd)
  have hfit : Fit s := fun {y c} hc i hi => by
    obtain ⟨ha, rfl⟩ := Array.getElem?_eq_some_iff.mp hc
    have q := List.all_eq_true.mp ((Array.all_eq_true_iff_forall_mem.mp hF) _ (Array.getElem_mem ha)) i (List.mem_range.mpr hi)
    simpa [Array.getElem?_eq_getElem hi] using q
  obtain ⟨i0, ei0⟩ := is_v g2a
  obtain rfl : w0 = (.int i0) := Option.some.inj ei0
  obtain ⟨i1, ei1⟩ := is_v g3a
  obtain rfl : w1 = (.int i1) := Option.some.inj ei1
  obtain ⟨i2, ei2⟩ := is_v g4a
  obtain rfl : w2 = (.int i2) := Option.some.inj ei2
  obtain ⟨i3, ei3⟩ := is_v g4b
  obtain rfl : w3 = (.int i3) := Option.some.inj ei3
  obtain ⟨n, o, h1, h2, h3, _, L, rfl, ⟨rfl, N, -⟩, hq⟩ := rm0 l s _ hw tables_1 i0 i1 i2 i3  s.heap s.heap.size (Nat.le_refl _)  p e ha hc hk s m _ below hf ((Spec.applies_iff_loose hf).mp happ).1 ⟨rfl, State.Warmed39.refl s, rfl⟩ trivial
  refine ⟨n, _, h1, h2, h3, hpost _ _ _ _ _ _ ⟨Cond.after_iff.mpr rfl, Cond.after_iff.mpr (eq_i res_at (Term.int_eval (1)) rfl), trivial⟩ ⟨hq.1, hq.2.1, (hq.2.2.sift fun y hy => Or.inr (N y hy)).mono (by decide) (by decide)⟩⟩
theorem main_1_1 : Claimed_1_1 := comes_1 fun _ _ _ _ _ _ h hF => ⟨h.1, hF⟩
theorem main_1_2 : Claimed_1_2 := comes_1 fun _ _ _ _ _ _ h hF => ⟨h.2.1, hF⟩
end Jvm.Pilot.@@N@@
namespace Jvm.Pilot.@@N@@
open Jvm Jvm.ClassFile Sem Op Lib Jvm.Free Jvm.Stand Jvm.Pilot.@@N@@.Jvm.D
/-! MADE BY PROGRAM (witnessworld.py) out of the Statement's table words and the real class files: 10 classes; the members and pool entries that the words name. The judged class is class 1, her method 1. -/
namespace start1
open Jvm.ClassFile
def u (s : String) : CpInfo := .utf8 (stringToUtf16 s)
/-- a pool by its gaps: so many unusable entries, then the entry; so many at the end -/
def gap : Nat → List CpInfo → List CpInfo
  | 0, r => r
  | n + 1, r => .unusable :: gap n r
def poolList (es : List (Nat × CpInfo)) (last : Nat) : List CpInfo := es.foldr (fun e r => gap e.1 (e.2 :: r)) (gap last [])
def pool (es : List (Nat × CpInfo)) (last : Nat) : Array CpInfo := ⟨poolList es last⟩
def fileOf (pool : Array CpInfo) (this : Nat) (attrs : Array Attribute := #[]) (ms : Array MethodInfo := #[]) (fl : Nat := 33) (sup : Nat := 0) (ifs : Array Nat := #[]) (fds : Array FieldInfo := #[]) : ClassFile where
  minorVersion := 0
  majorVersion := 65
  constantPool := pool
  accessFlags := fl
  thisClass := this
  superClass := sup
  interfaces := ifs
  fields := fds
  methods := ms
  attributes := attrs
def plain (name : String) (sup : Option ClassId) : Class where
  name := name
  kind := .ordinary
  loader := none
  accessFlags := 33
  super := sup
  interfaces := #[]
  cf := none
  fields := #[]
  methods := #[]
  instanceTypes := #[]
  staticTypes := #[]
  resolved := #[]
  callSites := []
  init := .initialized
  statics := none
  mirror := none

def pool0 : Array CpInfo := pool [(5, u "<init>"), (0, u "()V"), (1, .class_ 10), (1, u "java/lang/Object")] 113

def k0c0 : Code := { maxStack := 0, maxLocals := 1, code := object_method_1_code, exceptionTable := #[], attributes := #[] }
def k0m0 : Method := { name := "<init>", desc := "()V", sig := { parameters := [], returnType := none }, accessFlags := 1, code := some k0c0 }
/-- java/lang/Object -/
def k0 : Class := { plain "java/lang/Object" none with
  accessFlags := 33
  interfaces := #[]
  cf := some (fileOf pool0 8 #[] #[{ accessFlags := 1, nameIndex := 5, descriptorIndex := 6, attributes := #[] }] 33 0 #[] #[])
  fields := #[]
  methods := #[k0m0]
  instanceTypes := #[]
  staticTypes := #[]
  resolved := Array.replicate 124 none
  statics := none }

def pool1 : Array CpInfo := pool [(2, .class_ 4), (1, u "java/lang/Object"), (0, u "<init>"), (0, u "()V"), (0, .class_ 8), (0, u "com/example/tidelog/tidelog/rpc/Frame"), (0, .methodref 7 10), (0, .nameAndType 5 11), (0, u "(II[B)V"), (0, .methodref 7 13), (0, .nameAndType 14 15), (0, u "end"), (0, u "()Z"), (0, .class_ 17), (0, u "com/example/tidelog/tidelog/rpc/FrameEndPinLaw"), (2, u "law"), (0, u "(IIII)Z")] 5

def k1m0 : Method := { name := "<init>", desc := "()V", sig := { parameters := [], returnType := none }, accessFlags := 1, code := none }
def k1c1 : Code := { maxStack := 5, maxLocals := 9, code := code, exceptionTable := #[], attributes := #[] }
def k1m1 : Method := { name := "law", desc := "(IIII)Z", sig := { parameters := [.int, .int, .int, .int], returnType := some .boolean }, accessFlags := 9, code := some k1c1 }
/-- com/example/tidelog/tidelog/rpc/FrameEndPinLaw -/
def k1 : Class := { plain "com/example/tidelog/tidelog/rpc/FrameEndPinLaw" (some 0) with
  accessFlags := 49
  interfaces := #[]
  cf := some (fileOf pool1 16 #[] #[{ accessFlags := 1, nameIndex := 5, descriptorIndex := 6, attributes := #[] }, { accessFlags := 9, nameIndex := 20, descriptorIndex := 21, attributes := #[] }] 49 2 #[] #[])
  fields := #[]
  methods := #[k1m0, k1m1]
  instanceTypes := #[]
  staticTypes := #[]
  resolved := Array.replicate 27 none
  statics := none }

def pool2 : Array CpInfo := pool [(1, .methodref 2 3), (0, .class_ 4), (0, .nameAndType 5 6), (0, u "java/lang/Object"), (0, u "<init>"), (0, u "()V"), (0, .class_ 8), (0, u "java/lang/Record")] 13

def k2c0 : Code := { maxStack := 1, maxLocals := 1, code := jdk_30_method_1_code, exceptionTable := #[], attributes := #[] }
def k2m0 : Method := { name := "<init>", desc := "()V", sig := { parameters := [], returnType := none }, accessFlags := 4, code := some k2c0 }
/-- java/lang/Record -/
def k2 : Class := { plain "java/lang/Record" (some 0) with
  accessFlags := 1057
  interfaces := #[]
  cf := some (fileOf pool2 7 #[] #[{ accessFlags := 4, nameIndex := 5, descriptorIndex := 6, attributes := #[] }] 1057 2 #[] #[])
  fields := #[]
  methods := #[k2m0]
  instanceTypes := #[]
  staticTypes := #[]
  resolved := Array.replicate 22 none
  statics := none }

def pool3 : Array CpInfo := pool [(1, .methodref 2 3), (0, .class_ 4), (0, .nameAndType 5 6), (0, u "java/lang/Record"), (0, u "<init>"), (0, u "()V"), (0, .fieldref 8 9), (0, .class_ 10), (0, .nameAndType 11 12), (0, u "com/example/tidelog/tidelog/rpc/Frame"), (0, u "flags"), (0, u "I"), (0, .fieldref 8 14), (0, .nameAndType 15 12), (0, u "request"), (0, .fieldref 8 17), (0, .nameAndType 18 19), (0, u "body"), (0, u "[B"), (20, u "(II[B)V"), (65, u "()Z"), (63, u "STREAM"), (2, u "END"), (1, u "BINARY"), (1, u "TEXT"), (1, u "JSON"), (1, u "HEADER_SIZE"), (1, u "MAX_BODY_SIZE"), (1, u "TYPE_BITS"), (16, u "end")] 35

def k3c0 : Code := { maxStack := 2, maxLocals := 4, code := prog_35_method_1_code, exceptionTable := #[], attributes := #[] }
def k3m0 : Method := { name := "<init>", desc := "(II[B)V", sig := { parameters := [.int, .int, (.array .byte)], returnType := none }, accessFlags := 0, code := some k3c0 }
def k3c1 : Code := { maxStack := 2, maxLocals := 1, code := prog_35_method_8_code, exceptionTable := #[], attributes := #[] }
def k3m1 : Method := { name := "end", desc := "()Z", sig := { parameters := [], returnType := some .boolean }, accessFlags := 0, code := some k3c1 }
/-- com/example/tidelog/tidelog/rpc/Frame -/
def k3 : Class := { plain "com/example/tidelog/tidelog/rpc/Frame" (some 2) with
  accessFlags := 48
  interfaces := #[]
  cf := some (fileOf pool3 8 #[] #[{ accessFlags := 0, nameIndex := 5, descriptorIndex := 40, attributes := #[] }, { accessFlags := 0, nameIndex := 202, descriptorIndex := 106, attributes := #[] }] 48 2 #[] #[{ accessFlags := 18, nameIndex := 11, descriptorIndex := 12, attributes := #[] }, { accessFlags := 18, nameIndex := 15, descriptorIndex := 12, attributes := #[] }, { accessFlags := 18, nameIndex := 18, descriptorIndex := 19, attributes := #[] }, { accessFlags := 24, nameIndex := 170, descriptorIndex := 12, attributes := #[] }, { accessFlags := 24, nameIndex := 173, descriptorIndex := 12, attributes := #[] }, { accessFlags := 24, nameIndex := 175, descriptorIndex := 12, attributes := #[] }, { accessFlags := 24, nameIndex := 177, descriptorIndex := 12, attributes := #[] }, { accessFlags := 24, nameIndex := 179, descriptorIndex := 12, attributes := #[] }, { accessFlags := 24, nameIndex := 181, descriptorIndex := 12, attributes := #[] }, { accessFlags := 24, nameIndex := 183, descriptorIndex := 12, attributes := #[] }, { accessFlags := 26, nameIndex := 185, descriptorIndex := 12, attributes := #[] }])
  fields := #[{ name := "flags", type := .int, accessFlags := 18, slot := 0, constantValue := 0 }, { name := "request", type := .int, accessFlags := 18, slot := 1, constantValue := 0 }, { name := "body", type := (.array .byte), accessFlags := 18, slot := 2, constantValue := 0 }, { name := "STREAM", type := .int, accessFlags := 24, slot := 0, constantValue := 0 }, { name := "END", type := .int, accessFlags := 24, slot := 1, constantValue := 0 }, { name := "BINARY", type := .int, accessFlags := 24, slot := 2, constantValue := 0 }, { name := "TEXT", type := .int, accessFlags := 24, slot := 3, constantValue := 0 }, { name := "JSON", type := .int, accessFlags := 24, slot := 4, constantValue := 0 }, { name := "HEADER_SIZE", type := .int, accessFlags := 24, slot := 5, constantValue := 0 }, { name := "MAX_BODY_SIZE", type := .int, accessFlags := 24, slot := 6, constantValue := 0 }, { name := "TYPE_BITS", type := .int, accessFlags := 26, slot := 7, constantValue := 0 }]
  methods := #[k3m0, k3m1]
  instanceTypes := #[.int, .int, (.array .byte)]
  staticTypes := #[.int, .int, .int, .int, .int, .int, .int, .int]
  resolved := Array.replicate 238 none
  statics := none }

def pool4 : Array CpInfo := pool [(1, u "java/lang/Cloneable"), (0, .class_ 1), (0, u "java/lang/Object"), (0, .class_ 3)] 3

/-- java/lang/Cloneable -/
def k4 : Class := { plain "java/lang/Cloneable" (some 0) with
  accessFlags := 1537
  interfaces := #[]
  cf := some (fileOf pool4 2 #[] #[] 1537 4 #[] #[])
  fields := #[]
  methods := #[]
  instanceTypes := #[]
  staticTypes := #[]
  resolved := Array.replicate 8 none
  statics := none }

def pool5 : Array CpInfo := pool [(1, u "java/io/Serializable"), (0, .class_ 1), (0, u "java/lang/Object"), (0, .class_ 3)] 3

/-- java/io/Serializable -/
def k5 : Class := { plain "java/io/Serializable" (some 0) with
  accessFlags := 1537
  interfaces := #[]
  cf := some (fileOf pool5 2 #[] #[] 1537 4 #[] #[])
  fields := #[]
  methods := #[]
  instanceTypes := #[]
  staticTypes := #[]
  resolved := Array.replicate 8 none
  statics := none }

/-- the primitive byte -/
def k6 : Class := { plain "byte" none with kind := .primitive 'B', accessFlags := 0x411 }
/-- [B -/
def k7 : Class := { plain "[B" (some 0) with kind := .array 6 .byte, interfaces := #[4, 5], accessFlags := 1041 }

/-- the primitive int -/
def k8 : Class := { plain "int" none with kind := .primitive 'I', accessFlags := 0x411 }
/-- [I -/
def k9 : Class := { plain "[I" (some 0) with kind := .array 8 .int, interfaces := #[4, 5], accessFlags := 1041 }

def heap : Heap := #[]
def classes : Array Class := #[k0, k1, k2, k3, k4, k5, k6, k7, k8, k9]
def interned : List (Array UInt16 × Addr) := []
def slotsUsed : Nat := 0
def theMethod : MethodId := ⟨1, 1⟩
def args0 : Array Value := #[.int 5, .int 6, .int 7, .int 8]
def aboutOver (below : List Frame) : State where
  vm := { classes := classes, interned := interned.toArray }
  heap := heap
  slotsUsed := slotsUsed
  threads := #[{ frames := .invoking theMethod args0 :: below }]
def below0 : List Frame := [.native { method := ⟨0, 0⟩, args := #[] }]
def about1 : State := aboutOver below0
def p0 : Program := .bare "" "" ""
def e0 : Env := launch0.env 0 0 0
theorem w_frames : about1.frames = Frame.invoking theMethod args0 :: below0 := rfl
set_option maxRecDepth 65536 in
theorem w_args : argsFit about1.vm theMethod args0 = true := by decide +kernel
set_option maxRecDepth 65536 in
theorem w_heap : heapFits about1 = true := by decide +kernel
set_option maxRecDepth 65536 in
theorem w_runnable : about1.curStatus? = some .runnable := by decide +kernel
set_option maxRecDepth 65536 in
theorem w_alone : about1.alone = true := by decide +kernel
set_option maxRecDepth 65536 in
theorem w_named : about1.methodNamed? x = some theMethod := by decide +kernel
set_option maxRecDepth 65536 in
theorem w_hears : about1.hears theMethod below0 = true := by decide +kernel
set_option maxRecDepth 65536 in
theorem w_ripe : about1.ripe theMethod args0 below0 = true := by decide +kernel
theorem w_running : about1.status = .running := rfl
set_option maxRecDepth 65536 in
theorem w_room : about1.hasRoom e0.platform room_1 = true :=
  launch0.hasRoom_least _ room_1 (by decide +kernel) (by decide +kernel) (by decide +kernel) (by decide +kernel) (by decide +kernel) (by decide +kernel)
theorem allAtoms_all (ts : List Jvm.Cond) (a : Array Jvm.Value) (st : Jvm.State) : (allAtoms ts).before a st = ts.all (fun c => c.before a st) := by
  induction ts with
  | nil => rfl
  | cons c t ih =>
    show (Jvm.Cond.and c (allAtoms t)).before a st = _
    rw [Jvm.Cond.before_and, ih, List.all_cons]
def words1 : List Jvm.Cond := Jvm.Cond.code x code maxLocals ret :: tables_1
/-- a 'code' word, met by the world's own term for the bytes: nothing is compared byte by byte -/
theorem code_word {y : MethodName} {bytes : ByteArray} {mx : Nat} {rt : Option FieldType} {a : Array Value} {s : State} {m : MethodId} {meth : Method} {c : Code} (h1 : s.methodNamed? y = some m) (h2 : s.vm.method? m = some meth) (h3 : meth.code = some c) (h4 : c.code = bytes)
    (h5 : (c.maxLocals == mx && c.exceptionTable.isEmpty && decide (c.maxStack ≤ mostOperands) && decide (meth.sig.returnType = rt) && !meth.locks && decide (parseMethodDescriptor y.desc = some meth.sig)) = true) : (Jvm.Cond.code y bytes mx rt).before a s = true := by
  simp only [Bool.and_eq_true, beq_iff_eq, Bool.not_eq_true', decide_eq_true_eq] at h5
  obtain ⟨⟨⟨⟨⟨g1, g2⟩, g3⟩, g4⟩, g5⟩, g6⟩ := h5
  simp [Cond.before, Cond.holds, Cond.value, h1, h2, h3, h4, g1, g2, g3, g4, g5, g6]
def isCode : Jvm.Cond → Bool
  | .code _ _ _ _ => true
  | _ => false
theorem all_split {L : List Jvm.Cond} {P : Jvm.Cond → Bool} (h1 : L.all (fun c => isCode c || P c) = true) (h2 : ∀ c ∈ L.filter isCode, P c = true) : L.all P = true := by
  refine List.all_eq_true.mpr fun c hc => ?_
  have h := List.all_eq_true.mp h1 c hc
  rcases Bool.eq_false_or_eq_true (isCode c) with hi | hi
  · exact h2 c (List.mem_filter.mpr ⟨hc, hi⟩)
  · simpa [hi] using h
set_option maxRecDepth 65536 in
theorem w_c0 : (Jvm.Cond.code x code maxLocals ret).before args0 about1 = true := code_word (m := ⟨1, 1⟩) (meth := k1m1) (c := k1c1) (by decide +kernel) rfl rfl rfl (by decide +kernel)
set_option maxRecDepth 65536 in
theorem w_c1 : (Jvm.Cond.code ({ cls := "com/example/tidelog/tidelog/rpc/Frame", name := "<init>", desc := "(II[B)V" } : Jvm.MethodName) prog_35_method_1_code (4 : Nat) (Option.none : Option Jvm.ClassFile.FieldType)).before args0 about1 = true := code_word (m := ⟨3, 0⟩) (meth := k3m0) (c := k3c0) (by decide +kernel) rfl rfl rfl (by decide +kernel)
set_option maxRecDepth 65536 in
theorem w_c2 : (Jvm.Cond.code ({ cls := "java/lang/Record", name := "<init>", desc := "()V" } : Jvm.MethodName) jdk_30_method_1_code (1 : Nat) (Option.none : Option Jvm.ClassFile.FieldType)).before args0 about1 = true := code_word (m := ⟨2, 0⟩) (meth := k2m0) (c := k2c0) (by decide +kernel) rfl rfl rfl (by decide +kernel)
set_option maxRecDepth 65536 in
theorem w_c3 : (Jvm.Cond.code ({ cls := "java/lang/Object", name := "<init>", desc := "()V" } : Jvm.MethodName) object_method_1_code (1 : Nat) (Option.none : Option Jvm.ClassFile.FieldType)).before args0 about1 = true := code_word (m := ⟨0, 0⟩) (meth := k0m0) (c := k0c0) (by decide +kernel) rfl rfl rfl (by decide +kernel)
set_option maxRecDepth 65536 in
theorem w_c4 : (Jvm.Cond.code ({ cls := "com/example/tidelog/tidelog/rpc/Frame", name := "end", desc := "()Z" } : Jvm.MethodName) prog_35_method_8_code (1 : Nat) (Option.some Jvm.ClassFile.FieldType.boolean)).before args0 about1 = true := code_word (m := ⟨3, 1⟩) (meth := k3m1) (c := k3c1) (by decide +kernel) rfl rfl rfl (by decide +kernel)
def codes1 : List Jvm.Cond := [Jvm.Cond.code x code maxLocals ret, Jvm.Cond.code ({ cls := "com/example/tidelog/tidelog/rpc/Frame", name := "<init>", desc := "(II[B)V" } : Jvm.MethodName) prog_35_method_1_code (4 : Nat) (Option.none : Option Jvm.ClassFile.FieldType), Jvm.Cond.code ({ cls := "java/lang/Record", name := "<init>", desc := "()V" } : Jvm.MethodName) jdk_30_method_1_code (1 : Nat) (Option.none : Option Jvm.ClassFile.FieldType), Jvm.Cond.code ({ cls := "java/lang/Object", name := "<init>", desc := "()V" } : Jvm.MethodName) object_method_1_code (1 : Nat) (Option.none : Option Jvm.ClassFile.FieldType), Jvm.Cond.code ({ cls := "com/example/tidelog/tidelog/rpc/Frame", name := "end", desc := "()Z" } : Jvm.MethodName) prog_35_method_8_code (1 : Nat) (Option.some Jvm.ClassFile.FieldType.boolean)]
set_option maxRecDepth 65536 in
theorem codes_eq : words1.filter isCode = codes1 := rfl
theorem w_codes : ∀ c ∈ words1.filter isCode, c.before args0 about1 = true := by
  rw [codes_eq]
  intro c hc
  simp only [codes1, List.mem_cons, List.not_mem_nil, or_false] at hc
  rcases hc with rfl | rfl | rfl | rfl | rfl
  · exact w_c0
  · exact w_c1
  · exact w_c2
  · exact w_c3
  · exact w_c4
set_option maxRecDepth 65536 in
theorem w_t1 : (words1.take 24).all (fun c => isCode c || c.before args0 about1) = true := by decide +kernel
set_option maxRecDepth 65536 in
theorem w_t2 : (words1.drop 24).all (fun c => isCode c || c.before args0 about1) = true := by decide +kernel
theorem w_tables : (allAtoms (Jvm.Cond.code x code maxLocals ret :: tables_1)).before args0 about1 = true := by
  rw [allAtoms_all]
  show words1.all (fun c => c.before args0 about1) = true
  refine all_split ?_ w_codes
  rw [← List.take_append_drop 24 words1, List.all_append, w_t1, w_t2]
  rfl
set_option maxRecDepth 65536 in
theorem w_case : (Jvm.Cond.and given_1 narrow_1).before args0 about1 = true := by decide +kernel
theorem w_applies : (headSpec (Jvm.Cond.code x code maxLocals ret :: tables_1) room_1).applies x e0.platform about1 = true :=
  (Spec.applies_iff w_frames).mpr ⟨w_running, w_runnable, w_alone, w_named, w_hears, w_ripe, w_room, w_tables⟩
theorem atStart : AtStart classFile x code maxLocals ret World_1 tables_1 room_1 Calls_1 rest_1 Pre_1 launch0 p0 e0 about1 theMethod args0 below0 :=
  ⟨lists_1, trivial, launch0.admits_env _ _ _, launch0.least_env, fairChoices_fair.cas, fairChoices_fair.clock, w_frames, w_args, w_heap, w_applies, trivial, trivial, w_case⟩
end start1
theorem witness_1 : WitnessClaimed_1 := ⟨start1.p0, start1.e0, start1.about1, start1.theMethod, start1.args0, start1.below0, start1.atStart⟩
end Jvm.Pilot.@@N@@
