import JvmDerived
import JvmDerived.Pilot.@@N@@Statement
import JvmDerived.Pilot.@@N@@Code
set_option linter.unusedVariables false
set_option linter.unusedSimpArgs false
namespace Jvm.RoadKit
open Sem ClassFile Op Lib Jvm.Stand Jvm.Free Jvm.LawKit
section New
variable {p : Program} {l : Launch} {e : Env} {R : Room} {s : State} {m : MethodId} {args : Array Value} {below : List Frame} {meth : Method} {c : Code} {T : State} {locs : List Loc} {cells slots : Nat}
theorem retI (X : Stand p l e R s m args below meth c T locs cells slots) (hEX : p.tables.exec = Jvm.exec) {pc : Nat} {Ls : Array Slot} {z : Int32} {rest : List Value} (hRT : meth.sig.returnType = some .int) (hd : decode c.code pc = .ok (.ireturn, 1)) {fs : List Frame}
    (hl : ∀ (f : JFrame) (acts : List Action), f.method = m → f.locked = none → f.entered = [] → (doReturn e (T.setTop f) acts (some (.int z))).1 = T.setFrames fs) : Steps p.tables e below (T.setTop (mkF m pc Ls (.int z :: rest))) (T.setFrames fs) := by
  have hm' : T.vm.method? m = some meth := X.method'
  have hn : narrow .int (.int z) = .int z := rfl
  show Steps p.tables e below (T.setTop { method := m, pc := pc, locals := Ls, stack := _ :: rest, locked := none }) _
  jvm_step X.here [X.here.top, hEX, hd, hm', hRT, hn]
  first | (intro acts; rw [hl _ acts rfl rfl rfl]) | rw [hl _ _ rfl rfl rfl]
  exact Steps.refl _
abbrev Us : Slot := .unset
abbrev Zs : Slot := .second
abbrev Nv : Slot := .val .null
abbrev Iv (x : Int32) : Slot := .val (.int x)
abbrev Lv (x : Int64) : Slot := .val (.long x)
abbrev Rv (x : Addr) : Slot := .val (.ref x)
/-- the body comes to its end from st: it returns v, and Q holds of v, of the heap and of the places written -/
def Done (p : Program) (e : Env) (below : List Frame) (s : State) (Q : Option Value → Heap → List Loc → Prop) (kc ks : Nat) (st : State) : Prop :=
  ∃ (s₂ : State) (o : Outcome), Steps p.tables e below st s₂ ∧ s₂.status = .running ∧ Ended s₂ below o ∧ ∃ v L, o = .returned v ∧ Q v s₂.heap L ∧ FrameEnd s o s₂ L kc ks
variable {Q : Option Value → Heap → List Loc → Prop} {kc ks : Nat}
theorem Done.pre {st st' : State} (h : ∀ t, Steps p.tables e below st' t → Steps p.tables e below st t) (D : Done p e below s Q kc ks st') : Done p e below s Q kc ks st := by
  obtain ⟨s₂, o, h1, r⟩ := D
  exact ⟨s₂, o, h _ h1, r⟩
theorem Done.retI (X : Stand p l e R s m args below meth c T locs cells slots) (hEX : p.tables.exec = Jvm.exec) (hLK : meth.locks = false) {pc : Nat} {Ls : Array Slot} {z : Int32} {rest : List Value} (hRT : meth.sig.returnType = some .int) (hd : decode c.code pc = .ok (.ireturn, 1))
    (hQ : Q (some (.int z)) T.heap locs) (hc : cells ≤ kc) (hs : slots ≤ ks) : Done p e below s Q kc ks (T.setTop (mkF m pc Ls (.int z :: rest))) := by
  obtain ⟨fs, hr, hrun, hended, hW, hsame⟩ := X.leave (v := some (.int z)) (fun h => by rw [hRT] at h; cases h) hLK
  exact ⟨_, _, Jvm.RoadKit.retI X hEX hRT hd hr, hrun, hended, _, _, rfl, hQ, ⟨_, rfl⟩, hW, hsame.mono hc hs⟩
theorem Done.retN (X : Stand p l e R s m args below meth c T locs cells slots) (hEX : p.tables.exec = Jvm.exec) (hLK : meth.locks = false) {pc : Nat} {Ls : Array Slot} {z : Int32} {t : FieldType} {rest : List Value} (hRT : meth.sig.returnType = some t) (ht : t = .boolean ∨ t = .byte ∨ t = .char ∨ t = .short) (hd : decode c.code pc = .ok (.ireturn, 1))
    (hQ : Q (some (.int (nar t z))) T.heap locs) (hc : cells ≤ kc) (hs : slots ≤ ks) : Done p e below s Q kc ks (T.setTop (mkF m pc Ls (.int z :: rest))) := by
  obtain ⟨fs, hr, hrun, hended, hW, hsame⟩ := X.leave (v := some (.int (nar t z))) (fun h => by rw [hRT] at h; cases h) hLK
  exact ⟨_, _, Jvm.RoadKit.retN X hEX hRT ht hd hr, hrun, hended, _, _, rfl, hQ, ⟨_, rfl⟩, hW, hsame.mono hc hs⟩
theorem Done.retL (X : Stand p l e R s m args below meth c T locs cells slots) (hEX : p.tables.exec = Jvm.exec) (hLK : meth.locks = false) {pc : Nat} {Ls : Array Slot} {z : Int64} {rest : List Value} (hRT : meth.sig.returnType = some .long) (hd : decode c.code pc = .ok (.lreturn, 1))
    (hQ : Q (some (.long z)) T.heap locs) (hc : cells ≤ kc) (hs : slots ≤ ks) : Done p e below s Q kc ks (T.setTop (mkF m pc Ls (.long z :: rest))) := by
  obtain ⟨fs, hr, hrun, hended, hW, hsame⟩ := X.leave (v := some (.long z)) (fun h => by rw [hRT] at h; cases h) hLK
  exact ⟨_, _, retOut X hEX hRT rfl (Or.inr (Or.inl ⟨rfl, rfl, _, rfl⟩)) hd hr, hrun, hended, _, _, rfl, hQ, ⟨_, rfl⟩, hW, hsame.mono hc hs⟩
theorem Done.retA (X : Stand p l e R s m args below meth c T locs cells slots) (hEX : p.tables.exec = Jvm.exec) (hLK : meth.locks = false) {pc : Nat} {Ls : Array Slot} {w : Value} {t : FieldType} {rest : List Value} (hRT : meth.sig.returnType = some t) (ht : t.isReference = true) (hw : w.isRef = true) (hd : decode c.code pc = .ok (.areturn, 1))
    (hQ : Q (some w) T.heap locs) (hc : cells ≤ kc) (hs : slots ≤ ks) : Done p e below s Q kc ks (T.setTop (mkF m pc Ls (w :: rest))) := by
  obtain ⟨fs, hr, hrun, hended, hW, hsame⟩ := X.leave (v := some w) (fun h => by rw [hRT] at h; cases h) hLK
  have hn : narrow t w = w := by cases t <;> first | rfl | (simp [FieldType.isReference] at ht)
  exact ⟨_, _, retOut X hEX hRT hn (Or.inr (Or.inr (Or.inr (Or.inr ⟨rfl, ht, hw⟩)))) hd hr, hrun, hended, _, _, rfl, hQ, ⟨_, rfl⟩, hW, hsame.mono hc hs⟩
theorem Done.retV (X : Stand p l e R s m args below meth c T locs cells slots) (hEX : p.tables.exec = Jvm.exec) (hLK : meth.locks = false) {pc : Nat} {Ls : Array Slot} (hRT : meth.sig.returnType = none) (hd : decode c.code pc = .ok (.return_, 1))
    (hQ : Q none T.heap locs) (hc : cells ≤ kc) (hs : slots ≤ ks) : Done p e below s Q kc ks (T.setTop (mkF m pc Ls [])) := by
  obtain ⟨fs, hr, hrun, hended, hW, hsame⟩ := X.leave (v := none) (fun _ => rfl) hLK
  exact ⟨_, _, X.returnOut hEX hRT hd hr, hrun, hended, _, _, rfl, hQ, ⟨_, rfl⟩, hW, hsame.mono hc hs⟩
end New
end Jvm.RoadKit
namespace Jvm.Pilot.@@N@@
open Jvm Jvm.ClassFile Sem Op Lib Jvm.Free Jvm.Stand Jvm.LawKit Jvm.RoadKit Bundle Jvm.Pilot.@@N@@.Jvm.D

theorem own_cast {Z : State} {h : Heap} {a : Addr} {k : ClassId} {ty : FieldType} {n : Int32} {vs vs' : List Value} {d : Value} (q : vs = vs') (A : Arv Z h a k ty n vs d) : Arv Z h a k ty n vs' d := q ▸ A
theorem own_nulls (i : Nat) : ([.null, .null, .null, .null, .null, .null, .null, .null] : List Value).set i .null = [.null, .null, .null, .null, .null, .null, .null, .null] := by
  match i with
  | 0 => rfl
  | 1 => rfl
  | 2 => rfl
  | 3 => rfl
  | 4 => rfl
  | 5 => rfl
  | 6 => rfl
  | 7 => rfl
  | _ + 8 => rfl
theorem own_nullget (i : Nat) : ([.null, .null, .null, .null, .null, .null, .null, .null] : List Value).getD i .null = .null := by
  match i with
  | 0 => rfl
  | 1 => rfl
  | 2 => rfl
  | 3 => rfl
  | 4 => rfl
  | 5 => rfl
  | 6 => rfl
  | 7 => rfl
  | _ + 8 => rfl
theorem own_in (t : Int32) (h : 0 ≤ t.toInt ∧ t.toInt < 8) : ¬ t < 0 ∧ t < (8 : Int32) := by
  have e0 : (0 : Int32).toInt = 0 := rfl
  have e8 : (8 : Int32).toInt = 8 := rfl
  rw [Int32.lt_iff_toInt_lt, Int32.lt_iff_toInt_lt]; omega
theorem own_in8 (t : Int32) (h : 0 ≤ t.toInt ∧ t.toInt < 8) : t.toNatClampNeg < 8 := by
  simp only [Int32.toNatClampNeg]; omega
theorem own_ne8 (t : Int32) (h : 0 ≤ t.toInt ∧ t.toInt < 8) : ¬ t = (8 : Int32) := fun q => by
  rw [q] at h; exact absurd h.2 (by decide)

def own_end (t i : Int32) : Int32 := if t = i + (1 : Int32) then i else t
theorem own_n (x : Int32) : ((x &&& (2147483647 : Int32)) % (3 : Int32)) + (1 : Int32) = (1 : Int32) ∨ ((x &&& (2147483647 : Int32)) % (3 : Int32)) + (1 : Int32) = (2 : Int32) ∨ ((x &&& (2147483647 : Int32)) % (3 : Int32)) + (1 : Int32) = (3 : Int32) := by
  have h1 := c_mask x (2147483647 : Int32) 31 (by decide) (by decide +kernel)
  have d2 := (c_irem (x &&& (2147483647 : Int32)) (3 : Int32) 3 rfl).1 (by omega)
  have d3 := c_iadd ((x &&& (2147483647 : Int32)) % (3 : Int32)) (1 : Int32)
  have d4 := rng32 (((x &&& (2147483647 : Int32)) % (3 : Int32)) + (1 : Int32))
  have e1 : (1 : Int32).toInt = 1 := rfl
  have e2 : (2 : Int32).toInt = 2 := rfl
  have e3 : (3 : Int32).toInt = 3 := rfl
  rw [← Int32.toInt_inj, ← Int32.toInt_inj, ← Int32.toInt_inj]
  omega
theorem d_prog_25_method_1_code_0 : decode prog_25_method_1_code 0 = .ok (.aload_n 0, 1) := by decide +kernel
theorem d_prog_25_method_1_code_1 : decode prog_25_method_1_code 1 = .ok (.invokespecial 1, 3) := by decide +kernel
theorem d_prog_25_method_1_code_4 : decode prog_25_method_1_code 4 = .ok (.aload_n 0, 1) := by decide +kernel
theorem d_prog_25_method_1_code_5 : decode prog_25_method_1_code 5 = .ok (.bipush 8, 2) := by decide +kernel
theorem d_prog_25_method_1_code_7 : decode prog_25_method_1_code 7 = .ok (.anewarray 7, 3) := by decide +kernel
theorem d_prog_25_method_1_code_10 : decode prog_25_method_1_code 10 = .ok (.putfield 9, 3) := by decide +kernel
theorem d_prog_25_method_1_code_13 : decode prog_25_method_1_code 13 = .ok (.return_, 1) := by decide +kernel
def Qrm_init (Z : State) (a : Addr) (t : Int32) (u : Value) (h0 : Heap) (n0 : Nat) (v_ : Option Value) (h_ : Heap) (L_ : List Loc) : Prop := ∃ (b : Addr), ∃ (k : ClassId), v_ = none ∧ Fr n0 L_ ∧ Keep h0 h_ [a] ∧ Exa Z h_ a "com/example/actorium/actorium/Claimant$Sends" ∧ Fld Z h_ a "com/example/actorium/actorium/Claimant$Sends" "top" "I" (.int t) ∧ Fld Z h_ a "com/example/actorium/actorium/Claimant$Sends" "cells" "[Lcom/example/actorium/actorium/DispatchedCell;" (.ref b) ∧ Arv Z h_ b k (.object "com/example/actorium/actorium/DispatchedCell") (8 : Int32) [.null, .null, .null, .null, .null, .null, .null, .null] .null ∧ h0.size ≤ b
theorem ef_rm_init (m : MethodId) (x0 : Addr) : entryFrame m #[(.ref x0)] 1 = mkF m 0 #[.val (.ref x0)] [] := by first | (simp [entryFrame, mkF, argsToLocals, Value.category]; done) | rfl
theorem pn_com_example_actorium_actorium_Claimant_Sends : plainName "com/example/actorium/actorium/Claimant$Sends" = true := by first | (simp [plainName, overriddenIn]; done) | decide +kernel
set_option maxRecDepth 65536 in
set_option maxHeartbeats 40000000 in
theorem rm_init (l : Launch) (Z : State) (aZ : Array Value) (hw : ∀ d ∈ tables_1, d.before aZ Z = true) (ws : List Jvm.Cond) (a : Addr) (t : Int32) (u : Value) (h0 : Heap) (n0 : Nat) (Z0 : n0 ≤ h0.size) (Ex : Exa Z h0 a "com/example/actorium/actorium/Claimant$Sends") (Ft : Fld Z h0 a "com/example/actorium/actorium/Claimant$Sends" "top" "I" (.int t)) (Fc : Fld Z h0 a "com/example/actorium/actorium/Claimant$Sends" "cells" "[Lcom/example/actorium/actorium/DispatchedCell;" u) (ga : n0 ≤ a) :
    MetFree l (⟨"com/example/actorium/actorium/Claimant$Sends", "<init>", "()V"⟩ : MethodName) (head1 (Jvm.Cond.code (⟨"com/example/actorium/actorium/Claimant$Sends", "<init>", "()V"⟩ : MethodName) prog_25_method_1_code 1 none :: ws) ({ frames := 1, cells := 1, slots := 8, locals := 12 } : Room)) (fun a_ U_ => a_ = #[(.ref a)] ∧ Z.Warmed39 U_.vm ∧ U_.heap = h0) (fun _ _ _ _ _ => True) (fun _ U_ o_ U2_ => ∃ v_ L_, o_ = .returned v_ ∧ Qrm_init Z a t u h0 n0 v_ U2_.heap L_ ∧ FrameEnd U_ o_ U2_ L_ ({ frames := 1, cells := 1, slots := 8, locals := 12 } : Room).cells ({ frames := 1, cells := 1, slots := 8, locals := 12 } : Room).slots) := by
  refine MetFree.of_bodySF (plainFor_of_name pn_com_example_actorium_actorium_Claimant_Sends) hisR ?_
  intro p e s m args below meth cO s₁ Bd hml0 hP hK
  obtain ⟨rfl, hZW, hh⟩ := hP
  have hEX := Bd.exec
  have hBY := Bd.bytes
  have hMX : cO.maxLocals = 1 := hml0
  have hOW : s.vm.findClass "com/example/actorium/actorium/Claimant$Sends" = some m.cls := findClass_of_methodNamed Bd.named
  have hNM := (name_of_methodNamed Bd.named Bd.method).1
  have hLK := Bd.notSynchronized
  have hRT := Bd.returns
  have X0 : Stand p l e ({ frames := 1, cells := 1, slots := 8, locals := 12 } : Room) s m #[(.ref a)] below meth cO s₁ [] 0 0 := Stand.of_body Bd
  have e0 : s₁.heap = h0 := by rw [← hh, Bd.state]; rfl
  have N0 := Fr.nil n0
  have K0 : Keep h0 h0 [a] := Keep.refl _ _
  show Done p e below s (Qrm_init Z a t u h0 n0) ({ frames := 1, cells := 1, slots := 8, locals := 12 } : Room).cells ({ frames := 1, cells := 1, slots := 8, locals := 12 } : Room).slots (s₁.setTop (entryFrame m #[(.ref a)] 1))
  refine Done.pre (fun t_ k_ => castTop (ef_rm_init m a) k_) ?_
  show Done _ _ _ _ _ _ _ (s₁.setTop (mkF m 0 #[Rv a] []))
  have sg_1 : ∀ tt_, Steps p.tables e below (s₁.setTop (mkF m 1 #[Rv a] [(.ref a)])) tt_ → Steps p.tables e below (s₁.setTop (mkF m 0 #[Rv a] [])) tt_ := by
    intro tt_ kt_
    refine XS.aloadN X0.here hEX rfl (hb hBY d_prog_25_method_1_code_0) rfl rfl ?_
    exact kt_
  refine Done.pre sg_1 ?_
  obtain ⟨T_2, X_2, e_2, st_2⟩ := initO X0 hEX hZW hOW (hw _ (List.mem_of_getElem? (i := 7) rfl)) (hw _ (List.mem_of_getElem? (i := 8) rfl)) (hw _ (List.mem_of_getElem? (i := 9) rfl)) e0 (g := (mkF m 1 #[Rv a] [(.ref a)])) rfl (by rw [hMX]; rfl) rfl (hb hBY d_prog_25_method_1_code_1) (by decide) (W := 0) (by show 2 * 0 + _ ≤ _; exact Nat.le_of_eq rfl) (by decide)
  refine Done.pre st_2 ?_
  show Done _ _ _ _ _ _ _ (T_2.setTop (mkF m 4 #[Rv a] []))
  have sg_3 : ∀ tt_, Steps p.tables e below (T_2.setTop (mkF m 7 #[Rv a] [(.int (8 : Int32)), (.ref a)])) tt_ → Steps p.tables e below (T_2.setTop (mkF m 4 #[Rv a] [])) tt_ := by
    intro tt_ kt_
    refine XS.aloadN X_2.here hEX rfl (hb hBY d_prog_25_method_1_code_4) rfl rfl ?_
    show Steps p.tables e below (T_2.setTop (mkF m 5 #[Rv a] [(.ref a)])) tt_
    refine XS.bipush X_2.here hEX rfl (hb hBY d_prog_25_method_1_code_5) ?_
    exact kt_
  refine Done.pre sg_3 ?_
  obtain ⟨T_4, h_4, k_4, X_4, e_4, E_4, A_4, O_4, st_4⟩ := newR X_2 hEX hZW hOW (hw _ (List.mem_of_getElem? (i := 10) rfl)) (hw _ (List.mem_of_getElem? (i := 11) rfl)) e_2 (g := (mkF m 7 #[Rv a] [(.int (8 : Int32)), (.ref a)])) rfl (hb hBY d_prog_25_method_1_code_7) rfl (by decide) (cap := 8) (by decide) (by decide) (by decide) (by decide)
  obtain ⟨b_4, g_4⟩ : ∃ z, z = h0.size := ⟨_, rfl⟩
  rw [← g_4] at A_4 st_4
  have sz_b_4 : h0.size ≤ b_4 := Nat.le_trans K0.1 (Nat.le_of_eq g_4.symm)
  have ge_b_4 : n0 ≤ b_4 := Nat.le_trans Z0 sz_b_4
  have ne_a_b_4 : a ≠ b_4 := Nat.ne_of_lt (Nat.lt_of_lt_of_le Ex.lt (Nat.le_of_eq g_4.symm))
  have K__5 : Keep h0 h_4 [a] := K0.ext E_4
  have f_6 : Exa Z h_4 a "com/example/actorium/actorium/Claimant$Sends" := Ex.ext E_4
  have f_7 : Fld Z h_4 a "com/example/actorium/actorium/Claimant$Sends" "top" "I" (.int t) := Ft.ext E_4
  have f_8 : Fld Z h_4 a "com/example/actorium/actorium/Claimant$Sends" "cells" "[Lcom/example/actorium/actorium/DispatchedCell;" u := Fc.ext E_4
  have f_9 : Arv Z h_4 b_4 k_4 (.object "com/example/actorium/actorium/DispatchedCell") (8 : Int32) [.null, .null, .null, .null, .null, .null, .null, .null] .null := (Arv.new A_4 (by decide)).pad (pad_rep [] .null 8)
  refine Done.pre st_4 ?_
  show Done _ _ _ _ _ _ _ (T_4.setTop (mkF m 10 #[Rv a] [(.ref b_4), (.ref a)]))
  obtain ⟨T_10, h_10, X_10, e_10, W_10, st_10⟩ := putF X_4 hEX hZW hOW (host := "") (Or.inl (hw _ (List.mem_of_getElem? (i := 12) rfl))) Via.refl e_4 f_8 f_6 (Or.inl (hw _ (List.mem_of_getElem? (i := 13) rfl))) (hw _ (List.mem_of_getElem? (i := 2) rfl)) (ty := (.array (.object "com/example/actorium/actorium/DispatchedCell"))) (by decide) rfl rfl (g := (mkF m 10 #[Rv a] [(.ref b_4), (.ref a)])) rfl rfl (hb hBY d_prog_25_method_1_code_10)
  have N_10 := Fr.snoc X_10 N0 ga
  have K__11 : Keep h0 h_10 [a] := K__5.wr W_10 (Or.inl (List.mem_of_getElem? (i := 0) rfl))
  have f_12 : Exa Z h_10 a "com/example/actorium/actorium/Claimant$Sends" := f_6.wr W_10
  have f_13 : Fld Z h_10 a "com/example/actorium/actorium/Claimant$Sends" "top" "I" (.int t) := f_7.other W_10 (Or.inr (slot_ne (Or.inl (hw _ (List.mem_of_getElem? (i := 20) rfl))) (Or.inl (hw _ (List.mem_of_getElem? (i := 13) rfl))) (by decide) (t := .int) (t' := (.array (.object "com/example/actorium/actorium/DispatchedCell"))) (by decide) (by decide)))
  have f_14 : Arv Z h_10 b_4 k_4 (.object "com/example/actorium/actorium/DispatchedCell") (8 : Int32) [.null, .null, .null, .null, .null, .null, .null, .null] .null := f_9.other W_10 (Ne.symm ne_a_b_4)
  have f_15 : Fld Z h_10 a "com/example/actorium/actorium/Claimant$Sends" "cells" "[Lcom/example/actorium/actorium/DispatchedCell;" (.ref b_4) := f_8.same W_10
  refine Done.pre st_10 ?_
  show Done _ _ _ _ _ _ _ (T_10.setTop (mkF m 13 #[Rv a] []))
  exact Done.retV X_10 hEX hLK hRT (hb hBY d_prog_25_method_1_code_13) (by rw [e_10]; exact ⟨b_4, k_4, rfl, N_10, K__11, f_12, f_13, f_15, f_14, sz_b_4⟩) (by decide) (by decide)
theorem d_prog_25_method_2_code_0 : decode prog_25_method_2_code 0 = .ok (.aload_n 0, 1) := by decide +kernel
theorem d_prog_25_method_2_code_1 : decode prog_25_method_2_code 1 = .ok (.getfield 15, 3) := by decide +kernel
theorem d_prog_25_method_2_code_4 : decode prog_25_method_2_code 4 = .ok (.aload_n 0, 1) := by decide +kernel
theorem d_prog_25_method_2_code_5 : decode prog_25_method_2_code 5 = .ok (.getfield 9, 3) := by decide +kernel
theorem d_prog_25_method_2_code_8 : decode prog_25_method_2_code 8 = .ok (.arraylength, 1) := by decide +kernel
theorem d_prog_25_method_2_code_9 : decode prog_25_method_2_code 9 = .ok (.if_icmp .ne 23, 3) := by decide +kernel
theorem d_prog_25_method_2_code_32 : decode prog_25_method_2_code 32 = .ok (.aload_n 0, 1) := by decide +kernel
theorem d_prog_25_method_2_code_33 : decode prog_25_method_2_code 33 = .ok (.getfield 9, 3) := by decide +kernel
theorem d_prog_25_method_2_code_36 : decode prog_25_method_2_code 36 = .ok (.aload_n 0, 1) := by decide +kernel
theorem d_prog_25_method_2_code_37 : decode prog_25_method_2_code 37 = .ok (.getfield 15, 3) := by decide +kernel
theorem d_prog_25_method_2_code_40 : decode prog_25_method_2_code 40 = .ok (.aload_n 1, 1) := by decide +kernel
theorem d_prog_25_method_2_code_41 : decode prog_25_method_2_code 41 = .ok (.aastore, 1) := by decide +kernel
theorem d_prog_25_method_2_code_42 : decode prog_25_method_2_code 42 = .ok (.aload_n 0, 1) := by decide +kernel
theorem d_prog_25_method_2_code_43 : decode prog_25_method_2_code 43 = .ok (.dup, 1) := by decide +kernel
theorem d_prog_25_method_2_code_44 : decode prog_25_method_2_code 44 = .ok (.getfield 15, 3) := by decide +kernel
theorem d_prog_25_method_2_code_47 : decode prog_25_method_2_code 47 = .ok (.iconst 1, 1) := by decide +kernel
theorem d_prog_25_method_2_code_48 : decode prog_25_method_2_code 48 = .ok (.iadd, 1) := by decide +kernel
theorem d_prog_25_method_2_code_49 : decode prog_25_method_2_code 49 = .ok (.putfield 15, 3) := by decide +kernel
theorem d_prog_25_method_2_code_52 : decode prog_25_method_2_code 52 = .ok (.aload_n 0, 1) := by decide +kernel
theorem d_prog_25_method_2_code_53 : decode prog_25_method_2_code 53 = .ok (.getfield 15, 3) := by decide +kernel
theorem d_prog_25_method_2_code_56 : decode prog_25_method_2_code 56 = .ok (.iconst 1, 1) := by decide +kernel
theorem d_prog_25_method_2_code_57 : decode prog_25_method_2_code 57 = .ok (.isub, 1) := by decide +kernel
theorem d_prog_25_method_2_code_58 : decode prog_25_method_2_code 58 = .ok (.ireturn, 1) := by decide +kernel
def Qrm_begin (Z : State) (a : Addr) (t : Int32) (b : Addr) (k : ClassId) (h0 : Heap) (n0 : Nat) (v_ : Option Value) (h_ : Heap) (L_ : List Loc) : Prop := v_ = some (.int t) ∧ Fr n0 L_ ∧ Keep h0 h_ [a, b] ∧ Exa Z h_ a "com/example/actorium/actorium/Claimant$Sends" ∧ Fld Z h_ a "com/example/actorium/actorium/Claimant$Sends" "top" "I" (.int (t + (1 : Int32))) ∧ Fld Z h_ a "com/example/actorium/actorium/Claimant$Sends" "cells" "[Lcom/example/actorium/actorium/DispatchedCell;" (.ref b) ∧ Arv Z h_ b k (.object "com/example/actorium/actorium/DispatchedCell") (8 : Int32) [.null, .null, .null, .null, .null, .null, .null, .null] .null
theorem ef_rm_begin (m : MethodId) (x0 : Addr) : entryFrame m #[(.ref x0), .null] 2 = mkF m 0 #[.val (.ref x0), .val .null] [] := by first | (simp [entryFrame, mkF, argsToLocals, Value.category]; done) | rfl
set_option maxRecDepth 65536 in
set_option maxHeartbeats 40000000 in
theorem rm_begin (l : Launch) (Z : State) (aZ : Array Value) (hw : ∀ d ∈ tables_1, d.before aZ Z = true) (ws : List Jvm.Cond) (a : Addr) (t : Int32) (b : Addr) (k : ClassId) (h0 : Heap) (n0 : Nat) (Z0 : n0 ≤ h0.size) (Ex : Exa Z h0 a "com/example/actorium/actorium/Claimant$Sends") (Ft : Fld Z h0 a "com/example/actorium/actorium/Claimant$Sends" "top" "I" (.int t)) (Fc : Fld Z h0 a "com/example/actorium/actorium/Claimant$Sends" "cells" "[Lcom/example/actorium/actorium/DispatchedCell;" (.ref b)) (Av : Arv Z h0 b k (.object "com/example/actorium/actorium/DispatchedCell") (8 : Int32) [.null, .null, .null, .null, .null, .null, .null, .null] .null) (ga : n0 ≤ a) (gb : n0 ≤ b) (nab : a ≠ b) (ht : 0 ≤ t.toInt ∧ t.toInt < 8) :
    MetFree l (⟨"com/example/actorium/actorium/Claimant$Sends", "begin", "(Lcom/example/actorium/actorium/DispatchedCell;)I"⟩ : MethodName) (head1 (Jvm.Cond.code (⟨"com/example/actorium/actorium/Claimant$Sends", "begin", "(Lcom/example/actorium/actorium/DispatchedCell;)I"⟩ : MethodName) prog_25_method_2_code 2 (some .int) :: ws) ({ frames := 0, cells := 0, slots := 0, locals := 0 } : Room)) (fun a_ U_ => a_ = #[(.ref a), .null] ∧ Z.Warmed39 U_.vm ∧ U_.heap = h0) (fun _ _ _ _ _ => True) (fun _ U_ o_ U2_ => ∃ v_ L_, o_ = .returned v_ ∧ Qrm_begin Z a t b k h0 n0 v_ U2_.heap L_ ∧ FrameEnd U_ o_ U2_ L_ ({ frames := 0, cells := 0, slots := 0, locals := 0 } : Room).cells ({ frames := 0, cells := 0, slots := 0, locals := 0 } : Room).slots) := by
  refine MetFree.of_bodySF (plainFor_of_name pn_com_example_actorium_actorium_Claimant_Sends) hisR ?_
  intro p e s m args below meth cO s₁ Bd hml0 hP hK
  obtain ⟨rfl, hZW, hh⟩ := hP
  have hEX := Bd.exec
  have hBY := Bd.bytes
  have hMX : cO.maxLocals = 2 := hml0
  have hOW : s.vm.findClass "com/example/actorium/actorium/Claimant$Sends" = some m.cls := findClass_of_methodNamed Bd.named
  have hNM := (name_of_methodNamed Bd.named Bd.method).1
  have hLK := Bd.notSynchronized
  have hRT := Bd.returns
  have X0 : Stand p l e ({ frames := 0, cells := 0, slots := 0, locals := 0 } : Room) s m #[(.ref a), .null] below meth cO s₁ [] 0 0 := Stand.of_body Bd
  have e0 : s₁.heap = h0 := by rw [← hh, Bd.state]; rfl
  have N0 := Fr.nil n0
  have K0 : Keep h0 h0 [a, b] := Keep.refl _ _
  show Done p e below s (Qrm_begin Z a t b k h0 n0) ({ frames := 0, cells := 0, slots := 0, locals := 0 } : Room).cells ({ frames := 0, cells := 0, slots := 0, locals := 0 } : Room).slots (s₁.setTop (entryFrame m #[(.ref a), .null] 2))
  refine Done.pre (fun t_ k_ => castTop (ef_rm_begin m a) k_) ?_
  show Done _ _ _ _ _ _ _ (s₁.setTop (mkF m 0 #[Rv a, Nv] []))
  have sg_1 : ∀ tt_, Steps p.tables e below (s₁.setTop (mkF m 1 #[Rv a, Nv] [(.ref a)])) tt_ → Steps p.tables e below (s₁.setTop (mkF m 0 #[Rv a, Nv] [])) tt_ := by
    intro tt_ kt_
    refine XS.aloadN X0.here hEX rfl (hb hBY d_prog_25_method_2_code_0) rfl rfl ?_
    exact kt_
  refine Done.pre sg_1 ?_
  obtain ⟨T_2, X_2, e_2, st_2⟩ := getF X0 hEX hZW hOW (host := "") (Or.inl (hw _ (List.mem_of_getElem? (i := 19) rfl))) Via.refl e0 Ft (g := (mkF m 1 #[Rv a, Nv] [(.ref a)])) rfl rfl (hb hBY d_prog_25_method_2_code_1)
  refine Done.pre st_2 ?_
  show Done _ _ _ _ _ _ _ (T_2.setTop (mkF m 4 #[Rv a, Nv] [(.int t)]))
  have sg_3 : ∀ tt_, Steps p.tables e below (T_2.setTop (mkF m 5 #[Rv a, Nv] [(.ref a), (.int t)])) tt_ → Steps p.tables e below (T_2.setTop (mkF m 4 #[Rv a, Nv] [(.int t)])) tt_ := by
    intro tt_ kt_
    refine XS.aloadN X_2.here hEX rfl (hb hBY d_prog_25_method_2_code_4) rfl rfl ?_
    exact kt_
  refine Done.pre sg_3 ?_
  obtain ⟨T_4, X_4, e_4, st_4⟩ := getF X_2 hEX hZW hOW (host := "") (Or.inl (hw _ (List.mem_of_getElem? (i := 12) rfl))) Via.refl e_2 Fc (g := (mkF m 5 #[Rv a, Nv] [(.ref a), (.int t)])) rfl rfl (hb hBY d_prog_25_method_2_code_5)
  refine Done.pre st_4 ?_
  show Done _ _ _ _ _ _ _ (T_4.setTop (mkF m 8 #[Rv a, Nv] [(.ref b), (.int t)]))
  obtain ⟨cl_5, Ar_5, -, S_5, N__5, -, -⟩ := id Av
  have sg_6 : ∀ tt_, Steps p.tables e below (T_4.setTop (mkF m 33 #[Rv a, Nv] [(.ref a)])) tt_ → Steps p.tables e below (T_4.setTop (mkF m 8 #[Rv a, Nv] [(.ref b), (.int t)])) tt_ := by
    intro tt_ kt_
    refine X_4.arraylength hEX (by rw [e_4]; exact Ar_5.1) (State.isArrayOf_alike hZW.alike Ar_5.2.1) (g := (mkF m 8 #[Rv a, Nv] [(.ref b), (.int t)])) rfl rfl (hb hBY d_prog_25_method_2_code_8) _ ?_
    rw [len_of S_5 N__5]
    show Steps p.tables e below (T_4.setTop (mkF m 9 #[Rv a, Nv] [(.int (8 : Int32)), (.int t)])) tt_
    refine XS.icmpYes X_4.here hEX rfl (pc0 := 9) (pc' := 32) rfl (hb hBY d_prog_25_method_2_code_9) rfl (feq (own_ne8 t ht : ¬ (t = (8 : Int32)))).2 (by decide) (by decide) ?_
    show Steps p.tables e below (T_4.setTop (mkF m 32 #[Rv a, Nv] [])) tt_
    refine XS.aloadN X_4.here hEX rfl (hb hBY d_prog_25_method_2_code_32) rfl rfl ?_
    exact kt_
  refine Done.pre sg_6 ?_
  obtain ⟨T_7, X_7, e_7, st_7⟩ := getF X_4 hEX hZW hOW (host := "") (Or.inl (hw _ (List.mem_of_getElem? (i := 12) rfl))) Via.refl e_4 Fc (g := (mkF m 33 #[Rv a, Nv] [(.ref a)])) rfl rfl (hb hBY d_prog_25_method_2_code_33)
  refine Done.pre st_7 ?_
  show Done _ _ _ _ _ _ _ (T_7.setTop (mkF m 36 #[Rv a, Nv] [(.ref b)]))
  have sg_8 : ∀ tt_, Steps p.tables e below (T_7.setTop (mkF m 37 #[Rv a, Nv] [(.ref a), (.ref b)])) tt_ → Steps p.tables e below (T_7.setTop (mkF m 36 #[Rv a, Nv] [(.ref b)])) tt_ := by
    intro tt_ kt_
    refine XS.aloadN X_7.here hEX rfl (hb hBY d_prog_25_method_2_code_36) rfl rfl ?_
    exact kt_
  refine Done.pre sg_8 ?_
  obtain ⟨T_9, X_9, e_9, st_9⟩ := getF X_7 hEX hZW hOW (host := "") (Or.inl (hw _ (List.mem_of_getElem? (i := 19) rfl))) Via.refl e_7 Ft (g := (mkF m 37 #[Rv a, Nv] [(.ref a), (.ref b)])) rfl rfl (hb hBY d_prog_25_method_2_code_37)
  refine Done.pre st_9 ?_
  show Done _ _ _ _ _ _ _ (T_9.setTop (mkF m 40 #[Rv a, Nv] [(.int t), (.ref b)]))
  have sg_11 : ∀ tt_, Steps p.tables e below (T_9.setTop (mkF m 41 #[Rv a, Nv] [.null, (.int t), (.ref b)])) tt_ → Steps p.tables e below (T_9.setTop (mkF m 40 #[Rv a, Nv] [(.int t), (.ref b)])) tt_ := by
    intro tt_ kt_
    refine XS.aloadN X_9.here hEX rfl (hb hBY d_prog_25_method_2_code_40) rfl rfl ?_
    exact kt_
  refine Done.pre sg_11 ?_
  obtain ⟨cl_10, Ar_10, q_10, S_10, N__10, H_10, G_10⟩ := id Av
  have hin_10 : ¬ (t < 0 ∨ cl_10.slots.size ≤ (t).toNatClampNeg) := inb_of S_10 (own_in t ht)
  obtain ⟨T_12, h_12, X_12, e_12, W_12, st_12⟩ := stR X_9 hEX hZW e_9 Ar_10 (j := t) hin_10 rfl (Or.inl rfl) (g := (mkF m 41 #[Rv a, Nv] [.null, (.int t), (.ref b)])) rfl rfl (hb hBY d_prog_25_method_2_code_41)
  have N_12 := Fr.snoc X_12 N0 gb
  have K__13 : Keep h0 h_12 [a, b] := K0.wr W_12 (Or.inl (List.mem_of_getElem? (i := 1) rfl))
  have f_14 : Exa Z h_12 a "com/example/actorium/actorium/Claimant$Sends" := Ex.wr W_12
  have f_15 : Fld Z h_12 a "com/example/actorium/actorium/Claimant$Sends" "top" "I" (.int t) := Ft.other W_12 (Or.inl nab)
  have f_16 : Fld Z h_12 a "com/example/actorium/actorium/Claimant$Sends" "cells" "[Lcom/example/actorium/actorium/DispatchedCell;" (.ref b) := Fc.other W_12 (Or.inl nab)
  have f_17 : Arv Z h_12 b k (.object "com/example/actorium/actorium/DispatchedCell") (8 : Int32) [.null, .null, .null, .null, .null, .null, .null, .null] .null := own_cast (own_nulls _) (Arv.set Ar_10 q_10 S_10 N__10 H_10 G_10 rfl W_12 ((t).toNatClampNeg) rfl (own_in8 t ht))
  refine Done.pre st_12 ?_
  show Done _ _ _ _ _ _ _ (T_12.setTop (mkF m 42 #[Rv a, Nv] []))
  have sg_18 : ∀ tt_, Steps p.tables e below (T_12.setTop (mkF m 44 #[Rv a, Nv] [(.ref a), (.ref a)])) tt_ → Steps p.tables e below (T_12.setTop (mkF m 42 #[Rv a, Nv] [])) tt_ := by
    intro tt_ kt_
    refine XS.aloadN X_12.here hEX rfl (hb hBY d_prog_25_method_2_code_42) rfl rfl ?_
    show Steps p.tables e below (T_12.setTop (mkF m 43 #[Rv a, Nv] [(.ref a)])) tt_
    refine XS.dup X_12.here hEX rfl (hb hBY d_prog_25_method_2_code_43) rfl rfl ?_
    exact kt_
  refine Done.pre sg_18 ?_
  obtain ⟨T_19, X_19, e_19, st_19⟩ := getF X_12 hEX hZW hOW (host := "") (Or.inl (hw _ (List.mem_of_getElem? (i := 19) rfl))) Via.refl e_12 f_15 (g := (mkF m 44 #[Rv a, Nv] [(.ref a), (.ref a)])) rfl rfl (hb hBY d_prog_25_method_2_code_44)
  refine Done.pre st_19 ?_
  show Done _ _ _ _ _ _ _ (T_19.setTop (mkF m 47 #[Rv a, Nv] [(.int t), (.ref a)]))
  have sg_20 : ∀ tt_, Steps p.tables e below (T_19.setTop (mkF m 49 #[Rv a, Nv] [(.int (t + (1 : Int32))), (.ref a)])) tt_ → Steps p.tables e below (T_19.setTop (mkF m 47 #[Rv a, Nv] [(.int t), (.ref a)])) tt_ := by
    intro tt_ kt_
    refine XS.iconst X_19.here hEX rfl (hb hBY d_prog_25_method_2_code_47) ?_
    show Steps p.tables e below (T_19.setTop (mkF m 48 #[Rv a, Nv] [(.int (1 : Int32)), (.int t), (.ref a)])) tt_
    refine XS.iadd X_19.here hEX rfl (hb hBY d_prog_25_method_2_code_48) rfl ?_
    exact kt_
  refine Done.pre sg_20 ?_
  obtain ⟨T_21, h_21, X_21, e_21, W_21, st_21⟩ := putF X_19 hEX hZW hOW (host := "") (Or.inl (hw _ (List.mem_of_getElem? (i := 19) rfl))) Via.refl e_19 f_15 f_14 (Or.inl (hw _ (List.mem_of_getElem? (i := 20) rfl))) (hw _ (List.mem_of_getElem? (i := 2) rfl)) (ty := .int) (by decide) rfl rfl (g := (mkF m 49 #[Rv a, Nv] [(.int (t + (1 : Int32))), (.ref a)])) rfl rfl (hb hBY d_prog_25_method_2_code_49)
  have N_21 := Fr.snoc X_21 N_12 ga
  have K__22 : Keep h0 h_21 [a, b] := K__13.wr W_21 (Or.inl (List.mem_of_getElem? (i := 0) rfl))
  have f_23 : Exa Z h_21 a "com/example/actorium/actorium/Claimant$Sends" := f_14.wr W_21
  have f_24 : Fld Z h_21 a "com/example/actorium/actorium/Claimant$Sends" "cells" "[Lcom/example/actorium/actorium/DispatchedCell;" (.ref b) := f_16.other W_21 (Or.inr (slot_ne (Or.inl (hw _ (List.mem_of_getElem? (i := 13) rfl))) (Or.inl (hw _ (List.mem_of_getElem? (i := 20) rfl))) (by decide) (t := (.array (.object "com/example/actorium/actorium/DispatchedCell"))) (t' := .int) (by decide) (by decide)))
  have f_25 : Arv Z h_21 b k (.object "com/example/actorium/actorium/DispatchedCell") (8 : Int32) [.null, .null, .null, .null, .null, .null, .null, .null] .null := f_17.other W_21 (Ne.symm nab)
  have f_26 : Fld Z h_21 a "com/example/actorium/actorium/Claimant$Sends" "top" "I" (.int (t + (1 : Int32))) := f_15.same W_21
  refine Done.pre st_21 ?_
  show Done _ _ _ _ _ _ _ (T_21.setTop (mkF m 52 #[Rv a, Nv] []))
  have sg_27 : ∀ tt_, Steps p.tables e below (T_21.setTop (mkF m 53 #[Rv a, Nv] [(.ref a)])) tt_ → Steps p.tables e below (T_21.setTop (mkF m 52 #[Rv a, Nv] [])) tt_ := by
    intro tt_ kt_
    refine XS.aloadN X_21.here hEX rfl (hb hBY d_prog_25_method_2_code_52) rfl rfl ?_
    exact kt_
  refine Done.pre sg_27 ?_
  obtain ⟨T_28, X_28, e_28, st_28⟩ := getF X_21 hEX hZW hOW (host := "") (Or.inl (hw _ (List.mem_of_getElem? (i := 19) rfl))) Via.refl e_21 f_26 (g := (mkF m 53 #[Rv a, Nv] [(.ref a)])) rfl rfl (hb hBY d_prog_25_method_2_code_53)
  refine Done.pre st_28 ?_
  show Done _ _ _ _ _ _ _ (T_28.setTop (mkF m 56 #[Rv a, Nv] [(.int (t + (1 : Int32)))]))
  have sg_29 : ∀ tt_, Steps p.tables e below (T_28.setTop (mkF m 58 #[Rv a, Nv] [(.int ((t + (1 : Int32)) - (1 : Int32)))])) tt_ → Steps p.tables e below (T_28.setTop (mkF m 56 #[Rv a, Nv] [(.int (t + (1 : Int32)))])) tt_ := by
    intro tt_ kt_
    refine XS.iconst X_28.here hEX rfl (hb hBY d_prog_25_method_2_code_56) ?_
    show Steps p.tables e below (T_28.setTop (mkF m 57 #[Rv a, Nv] [(.int (1 : Int32)), (.int (t + (1 : Int32)))])) tt_
    refine XS.isub X_28.here hEX rfl (hb hBY d_prog_25_method_2_code_57) rfl ?_
    exact kt_
  refine Done.pre sg_29 ?_
  exact Done.retI X_28 hEX hLK hRT (hb hBY d_prog_25_method_2_code_58) (by rw [e_28]; exact ⟨(by rw [Int32.add_sub_cancel]), N_21, K__22, f_23, f_26, f_24, f_25⟩) (by decide) (by decide)
theorem d_prog_25_method_3_code_0 : decode prog_25_method_3_code 0 = .ok (.aload_n 0, 1) := by decide +kernel
theorem d_prog_25_method_3_code_1 : decode prog_25_method_3_code 1 = .ok (.getfield 9, 3) := by decide +kernel
theorem d_prog_25_method_3_code_4 : decode prog_25_method_3_code 4 = .ok (.iload_n 1, 1) := by decide +kernel
theorem d_prog_25_method_3_code_5 : decode prog_25_method_3_code 5 = .ok (.aconst_null, 1) := by decide +kernel
theorem d_prog_25_method_3_code_6 : decode prog_25_method_3_code 6 = .ok (.aastore, 1) := by decide +kernel
theorem d_prog_25_method_3_code_7 : decode prog_25_method_3_code 7 = .ok (.aload_n 0, 1) := by decide +kernel
theorem d_prog_25_method_3_code_8 : decode prog_25_method_3_code 8 = .ok (.getfield 15, 3) := by decide +kernel
theorem d_prog_25_method_3_code_11 : decode prog_25_method_3_code 11 = .ok (.iload_n 1, 1) := by decide +kernel
theorem d_prog_25_method_3_code_12 : decode prog_25_method_3_code 12 = .ok (.iconst 1, 1) := by decide +kernel
theorem d_prog_25_method_3_code_13 : decode prog_25_method_3_code 13 = .ok (.iadd, 1) := by decide +kernel
theorem d_prog_25_method_3_code_14 : decode prog_25_method_3_code 14 = .ok (.if_icmp .ne 8, 3) := by decide +kernel
theorem d_prog_25_method_3_code_17 : decode prog_25_method_3_code 17 = .ok (.aload_n 0, 1) := by decide +kernel
theorem d_prog_25_method_3_code_18 : decode prog_25_method_3_code 18 = .ok (.iload_n 1, 1) := by decide +kernel
theorem d_prog_25_method_3_code_19 : decode prog_25_method_3_code 19 = .ok (.putfield 15, 3) := by decide +kernel
theorem d_prog_25_method_3_code_22 : decode prog_25_method_3_code 22 = .ok (.return_, 1) := by decide +kernel
def Qrm_end (Z : State) (a : Addr) (i : Int32) (t : Int32) (b : Addr) (k : ClassId) (h0 : Heap) (n0 : Nat) (v_ : Option Value) (h_ : Heap) (L_ : List Loc) : Prop := v_ = none ∧ Fr n0 L_ ∧ Keep h0 h_ [a, b] ∧ Exa Z h_ a "com/example/actorium/actorium/Claimant$Sends" ∧ Fld Z h_ a "com/example/actorium/actorium/Claimant$Sends" "top" "I" (.int (own_end t i)) ∧ Fld Z h_ a "com/example/actorium/actorium/Claimant$Sends" "cells" "[Lcom/example/actorium/actorium/DispatchedCell;" (.ref b) ∧ Arv Z h_ b k (.object "com/example/actorium/actorium/DispatchedCell") (8 : Int32) [.null, .null, .null, .null, .null, .null, .null, .null] .null
theorem ef_rm_end (m : MethodId) (x0 : Addr) (x1 : Int32) : entryFrame m #[(.ref x0), (.int x1)] 2 = mkF m 0 #[.val (.ref x0), .val (.int x1)] [] := by first | (simp [entryFrame, mkF, argsToLocals, Value.category]; done) | rfl
set_option maxRecDepth 65536 in
set_option maxHeartbeats 40000000 in
theorem rm_end (l : Launch) (Z : State) (aZ : Array Value) (hw : ∀ d ∈ tables_1, d.before aZ Z = true) (ws : List Jvm.Cond) (a : Addr) (i : Int32) (t : Int32) (b : Addr) (k : ClassId) (h0 : Heap) (n0 : Nat) (Z0 : n0 ≤ h0.size) (Ex : Exa Z h0 a "com/example/actorium/actorium/Claimant$Sends") (Ft : Fld Z h0 a "com/example/actorium/actorium/Claimant$Sends" "top" "I" (.int t)) (Fc : Fld Z h0 a "com/example/actorium/actorium/Claimant$Sends" "cells" "[Lcom/example/actorium/actorium/DispatchedCell;" (.ref b)) (Av : Arv Z h0 b k (.object "com/example/actorium/actorium/DispatchedCell") (8 : Int32) [.null, .null, .null, .null, .null, .null, .null, .null] .null) (ga : n0 ≤ a) (gb : n0 ≤ b) (nab : a ≠ b) (hi : 0 ≤ i.toInt ∧ i.toInt < 8) :
    MetFree l (⟨"com/example/actorium/actorium/Claimant$Sends", "end", "(I)V"⟩ : MethodName) (head1 (Jvm.Cond.code (⟨"com/example/actorium/actorium/Claimant$Sends", "end", "(I)V"⟩ : MethodName) prog_25_method_3_code 2 none :: ws) ({ frames := 0, cells := 0, slots := 0, locals := 0 } : Room)) (fun a_ U_ => a_ = #[(.ref a), (.int i)] ∧ Z.Warmed39 U_.vm ∧ U_.heap = h0) (fun _ _ _ _ _ => True) (fun _ U_ o_ U2_ => ∃ v_ L_, o_ = .returned v_ ∧ Qrm_end Z a i t b k h0 n0 v_ U2_.heap L_ ∧ FrameEnd U_ o_ U2_ L_ ({ frames := 0, cells := 0, slots := 0, locals := 0 } : Room).cells ({ frames := 0, cells := 0, slots := 0, locals := 0 } : Room).slots) := by
  refine MetFree.of_bodySF (plainFor_of_name pn_com_example_actorium_actorium_Claimant_Sends) hisR ?_
  intro p e s m args below meth cO s₁ Bd hml0 hP hK
  obtain ⟨rfl, hZW, hh⟩ := hP
  have hEX := Bd.exec
  have hBY := Bd.bytes
  have hMX : cO.maxLocals = 2 := hml0
  have hOW : s.vm.findClass "com/example/actorium/actorium/Claimant$Sends" = some m.cls := findClass_of_methodNamed Bd.named
  have hNM := (name_of_methodNamed Bd.named Bd.method).1
  have hLK := Bd.notSynchronized
  have hRT := Bd.returns
  have X0 : Stand p l e ({ frames := 0, cells := 0, slots := 0, locals := 0 } : Room) s m #[(.ref a), (.int i)] below meth cO s₁ [] 0 0 := Stand.of_body Bd
  have e0 : s₁.heap = h0 := by rw [← hh, Bd.state]; rfl
  have N0 := Fr.nil n0
  have K0 : Keep h0 h0 [a, b] := Keep.refl _ _
  show Done p e below s (Qrm_end Z a i t b k h0 n0) ({ frames := 0, cells := 0, slots := 0, locals := 0 } : Room).cells ({ frames := 0, cells := 0, slots := 0, locals := 0 } : Room).slots (s₁.setTop (entryFrame m #[(.ref a), (.int i)] 2))
  refine Done.pre (fun t_ k_ => castTop (ef_rm_end m a i) k_) ?_
  show Done _ _ _ _ _ _ _ (s₁.setTop (mkF m 0 #[Rv a, Iv i] []))
  have sg_1 : ∀ tt_, Steps p.tables e below (s₁.setTop (mkF m 1 #[Rv a, Iv i] [(.ref a)])) tt_ → Steps p.tables e below (s₁.setTop (mkF m 0 #[Rv a, Iv i] [])) tt_ := by
    intro tt_ kt_
    refine XS.aloadN X0.here hEX rfl (hb hBY d_prog_25_method_3_code_0) rfl rfl ?_
    exact kt_
  refine Done.pre sg_1 ?_
  obtain ⟨T_2, X_2, e_2, st_2⟩ := getF X0 hEX hZW hOW (host := "") (Or.inl (hw _ (List.mem_of_getElem? (i := 12) rfl))) Via.refl e0 Fc (g := (mkF m 1 #[Rv a, Iv i] [(.ref a)])) rfl rfl (hb hBY d_prog_25_method_3_code_1)
  refine Done.pre st_2 ?_
  show Done _ _ _ _ _ _ _ (T_2.setTop (mkF m 4 #[Rv a, Iv i] [(.ref b)]))
  have sg_4 : ∀ tt_, Steps p.tables e below (T_2.setTop (mkF m 6 #[Rv a, Iv i] [.null, (.int i), (.ref b)])) tt_ → Steps p.tables e below (T_2.setTop (mkF m 4 #[Rv a, Iv i] [(.ref b)])) tt_ := by
    intro tt_ kt_
    refine XS.iloadN X_2.here hEX rfl (hb hBY d_prog_25_method_3_code_4) rfl ?_
    show Steps p.tables e below (T_2.setTop (mkF m 5 #[Rv a, Iv i] [(.int i), (.ref b)])) tt_
    refine XS.aconstNull X_2.here hEX rfl (hb hBY d_prog_25_method_3_code_5) ?_
    exact kt_
  refine Done.pre sg_4 ?_
  obtain ⟨cl_3, Ar_3, q_3, S_3, N__3, H_3, G_3⟩ := id Av
  have hin_3 : ¬ (i < 0 ∨ cl_3.slots.size ≤ (i).toNatClampNeg) := inb_of S_3 (own_in i hi)
  obtain ⟨T_5, h_5, X_5, e_5, W_5, st_5⟩ := stR X_2 hEX hZW e_2 Ar_3 (j := i) hin_3 rfl (Or.inl rfl) (g := (mkF m 6 #[Rv a, Iv i] [.null, (.int i), (.ref b)])) rfl rfl (hb hBY d_prog_25_method_3_code_6)
  have N_5 := Fr.snoc X_5 N0 gb
  have K__6 : Keep h0 h_5 [a, b] := K0.wr W_5 (Or.inl (List.mem_of_getElem? (i := 1) rfl))
  have f_7 : Exa Z h_5 a "com/example/actorium/actorium/Claimant$Sends" := Ex.wr W_5
  have f_8 : Fld Z h_5 a "com/example/actorium/actorium/Claimant$Sends" "top" "I" (.int t) := Ft.other W_5 (Or.inl nab)
  have f_9 : Fld Z h_5 a "com/example/actorium/actorium/Claimant$Sends" "cells" "[Lcom/example/actorium/actorium/DispatchedCell;" (.ref b) := Fc.other W_5 (Or.inl nab)
  have f_10 : Arv Z h_5 b k (.object "com/example/actorium/actorium/DispatchedCell") (8 : Int32) [.null, .null, .null, .null, .null, .null, .null, .null] .null := own_cast (own_nulls _) (Arv.set Ar_3 q_3 S_3 N__3 H_3 G_3 rfl W_5 ((i).toNatClampNeg) rfl (own_in8 i hi))
  refine Done.pre st_5 ?_
  show Done _ _ _ _ _ _ _ (T_5.setTop (mkF m 7 #[Rv a, Iv i] []))
  have sg_11 : ∀ tt_, Steps p.tables e below (T_5.setTop (mkF m 8 #[Rv a, Iv i] [(.ref a)])) tt_ → Steps p.tables e below (T_5.setTop (mkF m 7 #[Rv a, Iv i] [])) tt_ := by
    intro tt_ kt_
    refine XS.aloadN X_5.here hEX rfl (hb hBY d_prog_25_method_3_code_7) rfl rfl ?_
    exact kt_
  refine Done.pre sg_11 ?_
  obtain ⟨T_12, X_12, e_12, st_12⟩ := getF X_5 hEX hZW hOW (host := "") (Or.inl (hw _ (List.mem_of_getElem? (i := 19) rfl))) Via.refl e_5 f_8 (g := (mkF m 8 #[Rv a, Iv i] [(.ref a)])) rfl rfl (hb hBY d_prog_25_method_3_code_8)
  refine Done.pre st_12 ?_
  show Done _ _ _ _ _ _ _ (T_12.setTop (mkF m 11 #[Rv a, Iv i] [(.int t)]))
  have sg_13 : ∀ tt_, Steps p.tables e below (T_12.setTop (mkF m 14 #[Rv a, Iv i] [(.int (i + (1 : Int32))), (.int t)])) tt_ → Steps p.tables e below (T_12.setTop (mkF m 11 #[Rv a, Iv i] [(.int t)])) tt_ := by
    intro tt_ kt_
    refine XS.iloadN X_12.here hEX rfl (hb hBY d_prog_25_method_3_code_11) rfl ?_
    show Steps p.tables e below (T_12.setTop (mkF m 12 #[Rv a, Iv i] [(.int i), (.int t)])) tt_
    refine XS.iconst X_12.here hEX rfl (hb hBY d_prog_25_method_3_code_12) ?_
    show Steps p.tables e below (T_12.setTop (mkF m 13 #[Rv a, Iv i] [(.int (1 : Int32)), (.int i), (.int t)])) tt_
    refine XS.iadd X_12.here hEX rfl (hb hBY d_prog_25_method_3_code_13) rfl ?_
    exact kt_
  refine Done.pre sg_13 ?_
  by_cases hc14 : t = (i + (1 : Int32))
  · skip
    have sg_14 : ∀ tt_, Steps p.tables e below (T_12.setTop (mkF m 19 #[Rv a, Iv i] [(.int i), (.ref a)])) tt_ → Steps p.tables e below (T_12.setTop (mkF m 14 #[Rv a, Iv i] [(.int (i + (1 : Int32))), (.int t)])) tt_ := by
      intro tt_ kt_
      refine XS.icmpNo X_12.here hEX rfl (hb hBY d_prog_25_method_3_code_14) rfl (teq hc14).2 ?_
      show Steps p.tables e below (T_12.setTop (mkF m 17 #[Rv a, Iv i] [])) tt_
      refine XS.aloadN X_12.here hEX rfl (hb hBY d_prog_25_method_3_code_17) rfl rfl ?_
      show Steps p.tables e below (T_12.setTop (mkF m 18 #[Rv a, Iv i] [(.ref a)])) tt_
      refine XS.iloadN X_12.here hEX rfl (hb hBY d_prog_25_method_3_code_18) rfl ?_
      exact kt_
    refine Done.pre sg_14 ?_
    obtain ⟨T_15, h_15, X_15, e_15, W_15, st_15⟩ := putF X_12 hEX hZW hOW (host := "") (Or.inl (hw _ (List.mem_of_getElem? (i := 19) rfl))) Via.refl e_12 f_8 f_7 (Or.inl (hw _ (List.mem_of_getElem? (i := 20) rfl))) (hw _ (List.mem_of_getElem? (i := 2) rfl)) (ty := .int) (by decide) rfl rfl (g := (mkF m 19 #[Rv a, Iv i] [(.int i), (.ref a)])) rfl rfl (hb hBY d_prog_25_method_3_code_19)
    have N_15 := Fr.snoc X_15 N_5 ga
    have K__16 : Keep h0 h_15 [a, b] := K__6.wr W_15 (Or.inl (List.mem_of_getElem? (i := 0) rfl))
    have f_17 : Exa Z h_15 a "com/example/actorium/actorium/Claimant$Sends" := f_7.wr W_15
    have f_18 : Fld Z h_15 a "com/example/actorium/actorium/Claimant$Sends" "cells" "[Lcom/example/actorium/actorium/DispatchedCell;" (.ref b) := f_9.other W_15 (Or.inr (slot_ne (Or.inl (hw _ (List.mem_of_getElem? (i := 13) rfl))) (Or.inl (hw _ (List.mem_of_getElem? (i := 20) rfl))) (by decide) (t := (.array (.object "com/example/actorium/actorium/DispatchedCell"))) (t' := .int) (by decide) (by decide)))
    have f_19 : Arv Z h_15 b k (.object "com/example/actorium/actorium/DispatchedCell") (8 : Int32) [.null, .null, .null, .null, .null, .null, .null, .null] .null := f_10.other W_15 (Ne.symm nab)
    have f_20 : Fld Z h_15 a "com/example/actorium/actorium/Claimant$Sends" "top" "I" (.int i) := f_8.same W_15
    refine Done.pre st_15 ?_
    show Done _ _ _ _ _ _ _ (T_15.setTop (mkF m 22 #[Rv a, Iv i] []))
    exact Done.retV X_15 hEX hLK hRT (hb hBY d_prog_25_method_3_code_22) (by rw [e_15]; exact ⟨rfl, N_15, K__16, f_17, (by rw [own_end, if_pos hc14]; exact f_20), f_18, f_19⟩) (by decide) (by decide)
  · skip
    have sg_21 : ∀ tt_, Steps p.tables e below (T_12.setTop (mkF m 22 #[Rv a, Iv i] [])) tt_ → Steps p.tables e below (T_12.setTop (mkF m 14 #[Rv a, Iv i] [(.int (i + (1 : Int32))), (.int t)])) tt_ := by
      intro tt_ kt_
      refine XS.icmpYes X_12.here hEX rfl (pc0 := 14) (pc' := 22) rfl (hb hBY d_prog_25_method_3_code_14) rfl (feq hc14).2 (by decide) (by decide) ?_
      exact kt_
    refine Done.pre sg_21 ?_
    exact Done.retV X_12 hEX hLK hRT (hb hBY d_prog_25_method_3_code_22) (by rw [e_12]; exact ⟨rfl, N_5, K__6, f_7, (by rw [own_end, if_neg hc14]; exact f_8), f_9, f_10⟩) (by decide) (by decide)
theorem d_prog_25_method_4_code_0 : decode prog_25_method_4_code 0 = .ok (.aload_n 0, 1) := by decide +kernel
theorem d_prog_25_method_4_code_1 : decode prog_25_method_4_code 1 = .ok (.getfield 15, 3) := by decide +kernel
theorem d_prog_25_method_4_code_4 : decode prog_25_method_4_code 4 = .ok (.ireturn, 1) := by decide +kernel
def Qrm_depth (Z : State) (a : Addr) (t : Int32) (h0 : Heap) (n0 : Nat) (v_ : Option Value) (h_ : Heap) (L_ : List Loc) : Prop := v_ = some (.int t) ∧ Fr n0 L_ ∧ h_ = h0
theorem ef_rm_depth (m : MethodId) (x0 : Addr) : entryFrame m #[(.ref x0)] 1 = mkF m 0 #[.val (.ref x0)] [] := by first | (simp [entryFrame, mkF, argsToLocals, Value.category]; done) | rfl
set_option maxRecDepth 65536 in
set_option maxHeartbeats 40000000 in
theorem rm_depth (l : Launch) (Z : State) (aZ : Array Value) (hw : ∀ d ∈ tables_1, d.before aZ Z = true) (ws : List Jvm.Cond) (a : Addr) (t : Int32) (h0 : Heap) (n0 : Nat) (Z0 : n0 ≤ h0.size) (Ft : Fld Z h0 a "com/example/actorium/actorium/Claimant$Sends" "top" "I" (.int t)) :
    MetFree l (⟨"com/example/actorium/actorium/Claimant$Sends", "depth", "()I"⟩ : MethodName) (head1 (Jvm.Cond.code (⟨"com/example/actorium/actorium/Claimant$Sends", "depth", "()I"⟩ : MethodName) prog_25_method_4_code 1 (some .int) :: ws) ({ frames := 0, cells := 0, slots := 0, locals := 0 } : Room)) (fun a_ U_ => a_ = #[(.ref a)] ∧ Z.Warmed39 U_.vm ∧ U_.heap = h0) (fun _ _ _ _ _ => True) (fun _ U_ o_ U2_ => ∃ v_ L_, o_ = .returned v_ ∧ Qrm_depth Z a t h0 n0 v_ U2_.heap L_ ∧ FrameEnd U_ o_ U2_ L_ ({ frames := 0, cells := 0, slots := 0, locals := 0 } : Room).cells ({ frames := 0, cells := 0, slots := 0, locals := 0 } : Room).slots) := by
  refine MetFree.of_bodySF (plainFor_of_name pn_com_example_actorium_actorium_Claimant_Sends) hisR ?_
  intro p e s m args below meth cO s₁ Bd hml0 hP hK
  obtain ⟨rfl, hZW, hh⟩ := hP
  have hEX := Bd.exec
  have hBY := Bd.bytes
  have hMX : cO.maxLocals = 1 := hml0
  have hOW : s.vm.findClass "com/example/actorium/actorium/Claimant$Sends" = some m.cls := findClass_of_methodNamed Bd.named
  have hNM := (name_of_methodNamed Bd.named Bd.method).1
  have hLK := Bd.notSynchronized
  have hRT := Bd.returns
  have X0 : Stand p l e ({ frames := 0, cells := 0, slots := 0, locals := 0 } : Room) s m #[(.ref a)] below meth cO s₁ [] 0 0 := Stand.of_body Bd
  have e0 : s₁.heap = h0 := by rw [← hh, Bd.state]; rfl
  have N0 := Fr.nil n0
  have K0 : Keep h0 h0 [] := Keep.refl _ _
  show Done p e below s (Qrm_depth Z a t h0 n0) ({ frames := 0, cells := 0, slots := 0, locals := 0 } : Room).cells ({ frames := 0, cells := 0, slots := 0, locals := 0 } : Room).slots (s₁.setTop (entryFrame m #[(.ref a)] 1))
  refine Done.pre (fun t_ k_ => castTop (ef_rm_depth m a) k_) ?_
  show Done _ _ _ _ _ _ _ (s₁.setTop (mkF m 0 #[Rv a] []))
  have sg_1 : ∀ tt_, Steps p.tables e below (s₁.setTop (mkF m 1 #[Rv a] [(.ref a)])) tt_ → Steps p.tables e below (s₁.setTop (mkF m 0 #[Rv a] [])) tt_ := by
    intro tt_ kt_
    refine XS.aloadN X0.here hEX rfl (hb hBY d_prog_25_method_4_code_0) rfl rfl ?_
    exact kt_
  refine Done.pre sg_1 ?_
  obtain ⟨T_2, X_2, e_2, st_2⟩ := getF X0 hEX hZW hOW (host := "") (Or.inl (hw _ (List.mem_of_getElem? (i := 19) rfl))) Via.refl e0 Ft (g := (mkF m 1 #[Rv a] [(.ref a)])) rfl rfl (hb hBY d_prog_25_method_4_code_1)
  refine Done.pre st_2 ?_
  show Done _ _ _ _ _ _ _ (T_2.setTop (mkF m 4 #[Rv a] [(.int t)]))
  exact Done.retI X_2 hEX hLK hRT (hb hBY d_prog_25_method_4_code_4) (by rw [e_2]; exact ⟨rfl, N0, rfl⟩) (by decide) (by decide)
theorem pd___V_1 : parseMethodDescriptor "()V" = some ⟨[], none⟩ := by decide +kernel
theorem pd__Lcom_example_actorium_actorium_DispatchedCell__I_3 : parseMethodDescriptor "(Lcom/example/actorium/actorium/DispatchedCell;)I" = some ⟨[(.object "com/example/actorium/actorium/DispatchedCell")], some .int⟩ := by decide +kernel
theorem pd___I_0 : parseMethodDescriptor "()I" = some ⟨[], some .int⟩ := by decide +kernel
theorem pd__I_V_2 : parseMethodDescriptor "(I)V" = some ⟨[.int], none⟩ := by decide +kernel
def Qrm0 (Z : State) (p1 : Int32) (p2 : Int32) (h0 : Heap) (n0 : Nat) (v_ : Option Value) (h_ : Heap) (L_ : List Loc) : Prop := v_ = some (.int (1 : Int32)) ∧ Fr n0 L_ ∧ Keep h0 h_ []
theorem ef_rm0 (m : MethodId) (x0 : Int32) (x1 : Int32) : entryFrame m #[(.int x0), (.int x1)] maxLocals = mkF m 0 #[.val (.int x0), .val (.int x1), .unset, .unset, .unset, .unset, .unset, .unset, .unset, .unset, .unset, .unset, .unset] [] := by first | (simp [entryFrame, mkF, argsToLocals, Value.category, maxLocals]; done) | rfl
theorem pn_com_example_actorium_actorium_SendsEndPinLaw : plainName "com/example/actorium/actorium/SendsEndPinLaw" = true := by first | (simp [plainName, overriddenIn]; done) | decide +kernel
set_option maxRecDepth 65536 in
set_option maxHeartbeats 40000000 in
theorem rm0 (l : Launch) (Z : State) (aZ : Array Value) (hw : ∀ d ∈ tables_1, d.before aZ Z = true) (ws : List Jvm.Cond) (p1 : Int32) (p2 : Int32) (h0 : Heap) (n0 : Nat) (Z0 : n0 ≤ h0.size) :
    MetFree l x (head1 (Jvm.Cond.code x code maxLocals ret :: ws) room_1) (fun a_ U_ => a_ = #[(.int p1), (.int p2)] ∧ Z.Warmed39 U_.vm ∧ U_.heap = h0) (fun _ _ _ _ _ => True) (fun _ U_ o_ U2_ => ∃ v_ L_, o_ = .returned v_ ∧ Qrm0 Z p1 p2 h0 n0 v_ U2_.heap L_ ∧ FrameEnd U_ o_ U2_ L_ room_1.cells room_1.slots) := by
  refine MetFree.of_bodySF (plainFor_of_name pn_com_example_actorium_actorium_SendsEndPinLaw) hisR ?_
  intro p e s m args below meth cO s₁ Bd hml0 hP hK
  obtain ⟨rfl, hZW, hh⟩ := hP
  have hEX := Bd.exec
  have hBY := Bd.bytes
  have hMX : cO.maxLocals = 13 := hml0
  have hOW : s.vm.findClass "com/example/actorium/actorium/SendsEndPinLaw" = some m.cls := findClass_of_methodNamed Bd.named
  have hNM := (name_of_methodNamed Bd.named Bd.method).1
  have hLK := Bd.notSynchronized
  have hRT := Bd.returns
  have X0 : Stand p l e room_1 s m #[(.int p1), (.int p2)] below meth cO s₁ [] 0 0 := Stand.of_body Bd
  have e0 : s₁.heap = h0 := by rw [← hh, Bd.state]; rfl
  have N0 := Fr.nil n0
  have K0 : Keep h0 h0 [] := Keep.refl _ _
  show Done p e below s (Qrm0 Z p1 p2 h0 n0) room_1.cells room_1.slots (s₁.setTop (entryFrame m #[(.int p1), (.int p2)] maxLocals))
  refine Done.pre (fun t_ k_ => castTop (ef_rm0 m p1 p2) k_) ?_
  show Done _ _ _ _ _ _ _ (s₁.setTop (mkF m 0 #[Iv p1, Iv p2, Us, Us, Us, Us, Us, Us, Us, Us, Us, Us, Us] []))
  have sg_1 : ∀ tt_, Steps p.tables e below (s₁.setTop (mkF m 8 #[Iv p1, Iv p2, Us, Us, Us, Us, Us, Us, Us, Us, Us, Us, Us] [(.int (((p2 &&& (2147483647 : Int32)) % (3 : Int32)) + (1 : Int32)))])) tt_ → Steps p.tables e below (s₁.setTop (mkF m 0 #[Iv p1, Iv p2, Us, Us, Us, Us, Us, Us, Us, Us, Us, Us, Us] [])) tt_ := by
    intro tt_ kt_
    refine XS.iloadN X0.here hEX rfl (hb hBY at_0) rfl ?_
    show Steps p.tables e below (s₁.setTop (mkF m 1 #[Iv p1, Iv p2, Us, Us, Us, Us, Us, Us, Us, Us, Us, Us, Us] [(.int p2)])) tt_
    refine X0.ldcInt hEX hOW (mvT hZW (hw _ (List.mem_of_getElem? (i := 0) rfl))) (g := (mkF m 1 #[Iv p1, Iv p2, Us, Us, Us, Us, Us, Us, Us, Us, Us, Us, Us] [(.int p2)])) rfl (hb hBY at_1) _ ?_
    show Steps p.tables e below (s₁.setTop (mkF m 3 #[Iv p1, Iv p2, Us, Us, Us, Us, Us, Us, Us, Us, Us, Us, Us] [(.int (2147483647 : Int32)), (.int p2)])) tt_
    refine XS.iand X0.here hEX rfl (hb hBY at_3) rfl ?_
    show Steps p.tables e below (s₁.setTop (mkF m 4 #[Iv p1, Iv p2, Us, Us, Us, Us, Us, Us, Us, Us, Us, Us, Us] [(.int (p2 &&& (2147483647 : Int32)))])) tt_
    refine XS.iconst X0.here hEX rfl (hb hBY at_4) ?_
    show Steps p.tables e below (s₁.setTop (mkF m 5 #[Iv p1, Iv p2, Us, Us, Us, Us, Us, Us, Us, Us, Us, Us, Us] [(.int (3 : Int32)), (.int (p2 &&& (2147483647 : Int32)))])) tt_
    refine iremM X0 hEX rfl (hb hBY at_5) rfl (by decide) ?_
    show Steps p.tables e below (s₁.setTop (mkF m 6 #[Iv p1, Iv p2, Us, Us, Us, Us, Us, Us, Us, Us, Us, Us, Us] [(.int ((p2 &&& (2147483647 : Int32)) % (3 : Int32)))])) tt_
    refine XS.iconst X0.here hEX rfl (hb hBY at_6) ?_
    show Steps p.tables e below (s₁.setTop (mkF m 7 #[Iv p1, Iv p2, Us, Us, Us, Us, Us, Us, Us, Us, Us, Us, Us] [(.int (1 : Int32)), (.int ((p2 &&& (2147483647 : Int32)) % (3 : Int32)))])) tt_
    refine XS.iadd X0.here hEX rfl (hb hBY at_7) rfl ?_
    exact kt_
  refine Done.pre sg_1 ?_
  show Done _ _ _ _ _ _ _ (s₁.setTop (mkF m 8 #[Iv p1, Iv p2, Us, Us, Us, Us, Us, Us, Us, Us, Us, Us, Us] [(.int (((p2 &&& (2147483647 : Int32)) % (3 : Int32)) + (1 : Int32)))]))
  obtain ⟨n, hn⟩ : ∃ z : Int32, z = (((p2 &&& (2147483647 : Int32)) % (3 : Int32)) + (1 : Int32)) := ⟨_, rfl⟩
  rw [← hn]
  have hn3 := own_n p2
  rw [← hn] at hn3
  rcases hn3 with rfl | rfl | rfl
  · skip
    show Done _ _ _ _ _ _ _ (s₁.setTop (mkF m 8 #[Iv p1, Iv p2, Us, Us, Us, Us, Us, Us, Us, Us, Us, Us, Us] [(.int (1 : Int32))]))
    have sg_2 : ∀ tt_, Steps p.tables e below (s₁.setTop (mkF m 9 #[Iv p1, Iv p2, Iv (1 : Int32), Us, Us, Us, Us, Us, Us, Us, Us, Us, Us] [])) tt_ → Steps p.tables e below (s₁.setTop (mkF m 8 #[Iv p1, Iv p2, Us, Us, Us, Us, Us, Us, Us, Us, Us, Us, Us] [(.int (1 : Int32))])) tt_ := by
      intro tt_ kt_
      refine XS.istoreN X0.here hEX rfl (hb hBY at_8) rfl (l' := #[Iv p1, Iv p2, Iv (1 : Int32), Us, Us, Us, Us, Us, Us, Us, Us, Us, Us]) rfl ?_
      exact kt_
    refine Done.pre sg_2 ?_
    have jn_3 : ∀ (ee0 : Int32), Done p e below s (Qrm0 Z p1 p2 h0 n0) room_1.cells room_1.slots (s₁.setTop (mkF m 57 #[Iv p1, Iv p2, Iv (1 : Int32), Iv ee0, Iv (0 : Int32), Iv (0 : Int32), Us, Us, Us, Us, Us, Us, Us] [])) := by
      intro ee0
      show Done _ _ _ _ _ _ _ (s₁.setTop (mkF m 57 #[Iv p1, Iv p2, Iv (1 : Int32), Iv ee0, Iv (0 : Int32), Iv (0 : Int32), Us, Us, Us, Us, Us, Us, Us] []))
      obtain ⟨T_4, h_4, X_4, e_4, E_4, A_4, D_4, -, st_4⟩ := newO X0 hEX hZW hOW (hw _ (List.mem_of_getElem? (i := 1) rfl)) (hw _ (List.mem_of_getElem? (i := 2) rfl)) (hw _ (List.mem_of_getElem? (i := 3) rfl)) e0 (g := (mkF m 57 #[Iv p1, Iv p2, Iv (1 : Int32), Iv ee0, Iv (0 : Int32), Iv (0 : Int32), Us, Us, Us, Us, Us, Us, Us] [])) rfl (hb hBY at_57) (by decide) (by decide)
      obtain ⟨b_4, g_4⟩ : ∃ z, z = h0.size := ⟨_, rfl⟩
      rw [← g_4] at A_4 D_4 st_4
      have sz_b_4 : h0.size ≤ b_4 := Nat.le_trans K0.1 (Nat.le_of_eq g_4.symm)
      have ge_b_4 : n0 ≤ b_4 := Nat.le_trans Z0 sz_b_4
      have K__5 : Keep h0 h_4 [] := K0.ext E_4
      have f_6 : Exa Z h_4 b_4 "com/example/actorium/actorium/Claimant$Sends" := A_4
      have f_7 : Fld Z h_4 b_4 "com/example/actorium/actorium/Claimant$Sends" "cells" "[Lcom/example/actorium/actorium/DispatchedCell;" .null := D_4 (Or.inl (hw _ (List.mem_of_getElem? (i := 13) rfl))) (ty := (.array (.object "com/example/actorium/actorium/DispatchedCell"))) (by decide)
      have f_8 : Fld Z h_4 b_4 "com/example/actorium/actorium/Claimant$Sends" "top" "I" (.int (0 : Int32)) := D_4 (Or.inl (hw _ (List.mem_of_getElem? (i := 20) rfl))) (ty := .int) (by decide)
      refine Done.pre st_4 ?_
      show Done _ _ _ _ _ _ _ (T_4.setTop (mkF m 60 #[Iv p1, Iv p2, Iv (1 : Int32), Iv ee0, Iv (0 : Int32), Iv (0 : Int32), Us, Us, Us, Us, Us, Us, Us] [(.ref b_4)]))
      have sg_9 : ∀ tt_, Steps p.tables e below (T_4.setTop (mkF m 61 #[Iv p1, Iv p2, Iv (1 : Int32), Iv ee0, Iv (0 : Int32), Iv (0 : Int32), Us, Us, Us, Us, Us, Us, Us] [(.ref b_4), (.ref b_4)])) tt_ → Steps p.tables e below (T_4.setTop (mkF m 60 #[Iv p1, Iv p2, Iv (1 : Int32), Iv ee0, Iv (0 : Int32), Iv (0 : Int32), Us, Us, Us, Us, Us, Us, Us] [(.ref b_4)])) tt_ := by
        intro tt_ kt_
        refine XS.dup X_4.here hEX rfl (hb hBY at_60) rfl rfl ?_
        exact kt_
      refine Done.pre sg_9 ?_
      obtain ⟨_, _, ⟨T_10, L_10, k_10, n_10⟩, -, X_10, ⟨Lc_10, hQ_10, l_10, y_10, z_10⟩, st_10⟩ := X_4.specialBack hEX (y := (⟨"com/example/actorium/actorium/Claimant$Sends", "<init>", "()V"⟩ : MethodName)) rfl hOW (mvT hZW (hw _ (List.mem_of_getElem? (i := 4) rfl))) (mvT hZW (hw _ (List.mem_of_getElem? (i := 5) rfl))) (mvT hZW (hw _ (List.mem_of_getElem? (i := 6) rfl))) (by decide) (backOf (W := 1) (rm_init l Z aZ hw [] b_4 (0 : Int32) .null h_4 n0 (Nat.le_trans Z0 K__5.1) f_6 f_8 f_7 ge_b_4) hZW (hw _ (List.mem_of_getElem? (i := 6) rfl)) (hw _ (List.mem_of_getElem? (i := 3) rfl)) (by decide) (by decide)) (g := (mkF m 61 #[Iv p1, Iv p2, Iv (1 : Int32), Iv ee0, Iv (0 : Int32), Iv (0 : Int32), Us, Us, Us, Us, Us, Us, Us] [(.ref b_4), (.ref b_4)])) rfl (by rw [hMX]; rfl) (Steps.refl _) (a := b_4) (argsL := []) (rest := [(.ref b_4)]) (lenOf pd___V_1 rfl) rfl (by show 2 * 0 + _ ≤ _; exact Nat.le_of_eq rfl) (hb hBY at_61) (fun _ _ => ⟨rfl, e_4, (by decide : 1 + 1 ≤ _), (by decide : 2 + 8 ≤ _)⟩)
      dsimp only [Pt.U, Pt.locs, Pt.cells, Pt.slots] at X_10 l_10 y_10 z_10 st_10 hQ_10
      subst l_10 y_10 z_10
      obtain ⟨b__10, k__10, rfl, N_10q, K_10, hq_10_0, hq_10_1, hq_10_2, hq_10_3, hq_10_4⟩ := hQ_10
      have N_10 := Fr.app N0 N_10q
      have K__11 : Keep h0 T_10.heap [] := K__5.trans K_10 (allS (Or.inr sz_b_4) all0)
      have f_12 : Exa Z T_10.heap b_4 "com/example/actorium/actorium/Claimant$Sends" := f_6.keep K_10
      have sz_b__10 : h0.size ≤ b__10 := Nat.le_trans K__5.1 hq_10_4
      have ne_b_4_b__10 : b_4 ≠ b__10 := Nat.ne_of_lt (Nat.lt_of_lt_of_le f_6.lt hq_10_4)
      refine Done.pre (fun _ k_ => st_10.trans k_) ?_
      show Done _ _ _ _ _ _ _ (T_10.setTop (mkF m 64 #[Iv p1, Iv p2, Iv (1 : Int32), Iv ee0, Iv (0 : Int32), Iv (0 : Int32), Us, Us, Us, Us, Us, Us, Us] [(.ref b_4)]))
      have sg_13 : ∀ tt_, Steps p.tables e below (T_10.setTop (mkF m 72 #[Iv p1, Iv p2, Iv (1 : Int32), Iv ee0, Iv (0 : Int32), Iv (0 : Int32), Rv b_4, Iv (1 : Int32), Us, Us, Us, Us, Us] [.null, (.ref b_4)])) tt_ → Steps p.tables e below (T_10.setTop (mkF m 64 #[Iv p1, Iv p2, Iv (1 : Int32), Iv ee0, Iv (0 : Int32), Iv (0 : Int32), Us, Us, Us, Us, Us, Us, Us] [(.ref b_4)])) tt_ := by
        intro tt_ kt_
        refine XS.astore X_10.here hEX rfl (hb hBY at_64) rfl rfl (l' := #[Iv p1, Iv p2, Iv (1 : Int32), Iv ee0, Iv (0 : Int32), Iv (0 : Int32), Rv b_4, Us, Us, Us, Us, Us, Us]) rfl ?_
        show Steps p.tables e below (T_10.setTop (mkF m 66 #[Iv p1, Iv p2, Iv (1 : Int32), Iv ee0, Iv (0 : Int32), Iv (0 : Int32), Rv b_4, Us, Us, Us, Us, Us, Us] [])) tt_
        refine XS.iconst X_10.here hEX rfl (hb hBY at_66) ?_
        show Steps p.tables e below (T_10.setTop (mkF m 67 #[Iv p1, Iv p2, Iv (1 : Int32), Iv ee0, Iv (0 : Int32), Iv (0 : Int32), Rv b_4, Us, Us, Us, Us, Us, Us] [(.int (1 : Int32))])) tt_
        refine XS.istore X_10.here hEX rfl (hb hBY at_67) rfl (l' := #[Iv p1, Iv p2, Iv (1 : Int32), Iv ee0, Iv (0 : Int32), Iv (0 : Int32), Rv b_4, Iv (1 : Int32), Us, Us, Us, Us, Us]) rfl ?_
        show Steps p.tables e below (T_10.setTop (mkF m 69 #[Iv p1, Iv p2, Iv (1 : Int32), Iv ee0, Iv (0 : Int32), Iv (0 : Int32), Rv b_4, Iv (1 : Int32), Us, Us, Us, Us, Us] [])) tt_
        refine XS.aload X_10.here hEX rfl (hb hBY at_69) rfl rfl ?_
        show Steps p.tables e below (T_10.setTop (mkF m 71 #[Iv p1, Iv p2, Iv (1 : Int32), Iv ee0, Iv (0 : Int32), Iv (0 : Int32), Rv b_4, Iv (1 : Int32), Us, Us, Us, Us, Us] [(.ref b_4)])) tt_
        refine XS.aconstNull X_10.here hEX rfl (hb hBY at_71) ?_
        exact kt_
      refine Done.pre sg_13 ?_
      obtain ⟨cq_14, kq_14, q_14a, q_14b, q_14c⟩ := isOf hZW rfl hq_10_0
      obtain ⟨_, _, ⟨T_14, L_14, k_14, n_14⟩, -, X_14, ⟨Lc_14, hQ_14, l_14, y_14, z_14⟩, st_14⟩ := X_10.virtualBack hEX (y := (⟨"com/example/actorium/actorium/Claimant$Sends", "begin", "(Lcom/example/actorium/actorium/DispatchedCell;)I"⟩ : MethodName)) (z := (⟨"com/example/actorium/actorium/Claimant$Sends", "begin", "(Lcom/example/actorium/actorium/DispatchedCell;)I"⟩ : MethodName)) hOW (mvT hZW (hw _ (List.mem_of_getElem? (i := 14) rfl))) (mvT hZW (hw _ (List.mem_of_getElem? (i := 15) rfl))) (notFace_of_selects (args := #[]) (mvT hZW (hw _ (List.mem_of_getElem? (i := 17) rfl)))) (mvT hZW (hw _ (List.mem_of_getElem? (i := 17) rfl))) (mvT hZW (hw _ (List.mem_of_getElem? (i := 16) rfl))) (by decide) (backOf (W := 0) (rm_begin l Z aZ hw [] b_4 (0 : Int32) b__10 k__10 T_10.heap n0 (Nat.le_trans Z0 K__11.1) hq_10_0 hq_10_1 hq_10_2 hq_10_3 ge_b_4 (Nat.le_trans Z0 sz_b__10) ne_b_4_b__10 (by decide)) hZW (hw _ (List.mem_of_getElem? (i := 18) rfl)) (hw _ (List.mem_of_getElem? (i := 3) rfl)) (by decide) (by decide)) q_14a q_14c (g := (mkF m 72 #[Iv p1, Iv p2, Iv (1 : Int32), Iv ee0, Iv (0 : Int32), Iv (0 : Int32), Rv b_4, Iv (1 : Int32), Us, Us, Us, Us, Us] [.null, (.ref b_4)])) rfl (by rw [hMX]; rfl) (Steps.refl _) (argsL := [.null]) (rest := []) (lenOf pd__Lcom_example_actorium_actorium_DispatchedCell__I_3 rfl) rfl (by show 2 * 0 + _ ≤ _; exact Nat.le_of_eq rfl) (hb hBY at_72) (fun _ _ => ⟨rfl, rfl, (by decide : 2 + 0 ≤ _), (by decide : 10 + 0 ≤ _)⟩)
      dsimp only [Pt.U, Pt.locs, Pt.cells, Pt.slots] at X_14 l_14 y_14 z_14 st_14 hQ_14
      subst l_14 y_14 z_14
      obtain ⟨rfl, N_14q, K_14, hq_14_0, hq_14_1, hq_14_2, hq_14_3⟩ := hQ_14
      have N_14 := Fr.app N_10 N_14q
      have K__15 : Keep h0 T_14.heap [] := K__11.trans K_14 (allS (Or.inr sz_b_4) (allS (Or.inr sz_b__10) all0))
      have f_16 : Exa Z T_14.heap b_4 "com/example/actorium/actorium/Claimant$Sends" := hq_10_0.keep K_14
      refine Done.pre (fun _ k_ => st_14.trans k_) ?_
      show Done _ _ _ _ _ _ _ (T_14.setTop (mkF m 75 #[Iv p1, Iv p2, Iv (1 : Int32), Iv ee0, Iv (0 : Int32), Iv (0 : Int32), Rv b_4, Iv (1 : Int32), Us, Us, Us, Us, Us] [(.int (0 : Int32))]))
      have f_17 : Fld Z T_14.heap b_4 "com/example/actorium/actorium/Claimant$Sends" "top" "I" (.int (1 : Int32)) := by have q := hq_14_1; rw [show ((0 : Int32) + (1 : Int32)) = (1 : Int32) from by decide] at q; exact q
      have sg_18 : ∀ tt_, Steps p.tables e below (T_14.setTop (mkF m 179 #[Iv p1, Iv p2, Iv (1 : Int32), Iv ee0, Iv (0 : Int32), Iv (0 : Int32), Rv b_4, Iv (1 : Int32), Iv (0 : Int32), Us, Us, Us, Us] [(.int ee0)])) tt_ → Steps p.tables e below (T_14.setTop (mkF m 75 #[Iv p1, Iv p2, Iv (1 : Int32), Iv ee0, Iv (0 : Int32), Iv (0 : Int32), Rv b_4, Iv (1 : Int32), Us, Us, Us, Us, Us] [(.int (0 : Int32))])) tt_ := by
        intro tt_ kt_
        refine XS.istore X_14.here hEX rfl (hb hBY at_75) rfl (l' := #[Iv p1, Iv p2, Iv (1 : Int32), Iv ee0, Iv (0 : Int32), Iv (0 : Int32), Rv b_4, Iv (1 : Int32), Iv (0 : Int32), Us, Us, Us, Us]) rfl ?_
        show Steps p.tables e below (T_14.setTop (mkF m 77 #[Iv p1, Iv p2, Iv (1 : Int32), Iv ee0, Iv (0 : Int32), Iv (0 : Int32), Rv b_4, Iv (1 : Int32), Iv (0 : Int32), Us, Us, Us, Us] [])) tt_
        refine XS.iload X_14.here hEX rfl (hb hBY at_77) rfl ?_
        show Steps p.tables e below (T_14.setTop (mkF m 79 #[Iv p1, Iv p2, Iv (1 : Int32), Iv ee0, Iv (0 : Int32), Iv (0 : Int32), Rv b_4, Iv (1 : Int32), Iv (0 : Int32), Us, Us, Us, Us] [(.int (1 : Int32))])) tt_
        refine XS.ifNo X_14.here hEX rfl (hb hBY at_79) rfl ((if0 _ _).trans (feq (by decide : ¬ ((1 : Int32) = (0 : Int32)))).1) ?_
        show Steps p.tables e below (T_14.setTop (mkF m 82 #[Iv p1, Iv p2, Iv (1 : Int32), Iv ee0, Iv (0 : Int32), Iv (0 : Int32), Rv b_4, Iv (1 : Int32), Iv (0 : Int32), Us, Us, Us, Us] [])) tt_
        refine XS.iload X_14.here hEX rfl (hb hBY at_82) rfl ?_
        show Steps p.tables e below (T_14.setTop (mkF m 84 #[Iv p1, Iv p2, Iv (1 : Int32), Iv ee0, Iv (0 : Int32), Iv (0 : Int32), Rv b_4, Iv (1 : Int32), Iv (0 : Int32), Us, Us, Us, Us] [(.int (0 : Int32))])) tt_
        refine XS.ifNo X_14.here hEX rfl (hb hBY at_84) rfl ((if0 _ _).trans (teq (by decide : (0 : Int32) = (0 : Int32))).2) ?_
        show Steps p.tables e below (T_14.setTop (mkF m 87 #[Iv p1, Iv p2, Iv (1 : Int32), Iv ee0, Iv (0 : Int32), Iv (0 : Int32), Rv b_4, Iv (1 : Int32), Iv (0 : Int32), Us, Us, Us, Us] [])) tt_
        refine XS.iconst X_14.here hEX rfl (hb hBY at_87) ?_
        show Steps p.tables e below (T_14.setTop (mkF m 88 #[Iv p1, Iv p2, Iv (1 : Int32), Iv ee0, Iv (0 : Int32), Iv (0 : Int32), Rv b_4, Iv (1 : Int32), Iv (0 : Int32), Us, Us, Us, Us] [(.int (1 : Int32))])) tt_
        refine XS.goto X_14.here hEX rfl (pc0 := 88) (pc' := 92) rfl (hb hBY at_88) (by decide) (by decide) ?_
        show Steps p.tables e below (T_14.setTop (mkF m 92 #[Iv p1, Iv p2, Iv (1 : Int32), Iv ee0, Iv (0 : Int32), Iv (0 : Int32), Rv b_4, Iv (1 : Int32), Iv (0 : Int32), Us, Us, Us, Us] [(.int (1 : Int32))])) tt_
        refine XS.istore X_14.here hEX rfl (hb hBY at_92) rfl (l' := #[Iv p1, Iv p2, Iv (1 : Int32), Iv ee0, Iv (0 : Int32), Iv (0 : Int32), Rv b_4, Iv (1 : Int32), Iv (0 : Int32), Us, Us, Us, Us]) rfl ?_
        show Steps p.tables e below (T_14.setTop (mkF m 94 #[Iv p1, Iv p2, Iv (1 : Int32), Iv ee0, Iv (0 : Int32), Iv (0 : Int32), Rv b_4, Iv (1 : Int32), Iv (0 : Int32), Us, Us, Us, Us] [])) tt_
        refine XS.iloadN X_14.here hEX rfl (hb hBY at_94) rfl ?_
        show Steps p.tables e below (T_14.setTop (mkF m 95 #[Iv p1, Iv p2, Iv (1 : Int32), Iv ee0, Iv (0 : Int32), Iv (0 : Int32), Rv b_4, Iv (1 : Int32), Iv (0 : Int32), Us, Us, Us, Us] [(.int (1 : Int32))])) tt_
        refine XS.iconst X_14.here hEX rfl (hb hBY at_95) ?_
        show Steps p.tables e below (T_14.setTop (mkF m 96 #[Iv p1, Iv p2, Iv (1 : Int32), Iv ee0, Iv (0 : Int32), Iv (0 : Int32), Rv b_4, Iv (1 : Int32), Iv (0 : Int32), Us, Us, Us, Us] [(.int (2 : Int32)), (.int (1 : Int32))])) tt_
        refine XS.icmpYes X_14.here hEX rfl (pc0 := 96) (pc' := 125) rfl (hb hBY at_96) rfl (tlt (by decide : (1 : Int32) < (2 : Int32))).1 (by decide) (by decide) ?_
        show Steps p.tables e below (T_14.setTop (mkF m 125 #[Iv p1, Iv p2, Iv (1 : Int32), Iv ee0, Iv (0 : Int32), Iv (0 : Int32), Rv b_4, Iv (1 : Int32), Iv (0 : Int32), Us, Us, Us, Us] [])) tt_
        refine XS.iloadN X_14.here hEX rfl (hb hBY at_125) rfl ?_
        show Steps p.tables e below (T_14.setTop (mkF m 126 #[Iv p1, Iv p2, Iv (1 : Int32), Iv ee0, Iv (0 : Int32), Iv (0 : Int32), Rv b_4, Iv (1 : Int32), Iv (0 : Int32), Us, Us, Us, Us] [(.int (1 : Int32))])) tt_
        refine XS.iconst X_14.here hEX rfl (hb hBY at_126) ?_
        show Steps p.tables e below (T_14.setTop (mkF m 127 #[Iv p1, Iv p2, Iv (1 : Int32), Iv ee0, Iv (0 : Int32), Iv (0 : Int32), Rv b_4, Iv (1 : Int32), Iv (0 : Int32), Us, Us, Us, Us] [(.int (3 : Int32)), (.int (1 : Int32))])) tt_
        refine XS.icmpYes X_14.here hEX rfl (pc0 := 127) (pc' := 156) rfl (hb hBY at_127) rfl (tlt (by decide : (1 : Int32) < (3 : Int32))).1 (by decide) (by decide) ?_
        show Steps p.tables e below (T_14.setTop (mkF m 156 #[Iv p1, Iv p2, Iv (1 : Int32), Iv ee0, Iv (0 : Int32), Iv (0 : Int32), Rv b_4, Iv (1 : Int32), Iv (0 : Int32), Us, Us, Us, Us] [])) tt_
        refine XS.iload X_14.here hEX rfl (hb hBY at_156) rfl ?_
        show Steps p.tables e below (T_14.setTop (mkF m 158 #[Iv p1, Iv p2, Iv (1 : Int32), Iv ee0, Iv (0 : Int32), Iv (0 : Int32), Rv b_4, Iv (1 : Int32), Iv (0 : Int32), Us, Us, Us, Us] [(.int (0 : Int32))])) tt_
        refine XS.ifYes X_14.here hEX rfl (pc0 := 158) (pc' := 167) rfl (hb hBY at_158) rfl ((if0 _ _).trans (teq (by decide : (0 : Int32) = (0 : Int32))).1) (by decide) (by decide) ?_
        show Steps p.tables e below (T_14.setTop (mkF m 167 #[Iv p1, Iv p2, Iv (1 : Int32), Iv ee0, Iv (0 : Int32), Iv (0 : Int32), Rv b_4, Iv (1 : Int32), Iv (0 : Int32), Us, Us, Us, Us] [])) tt_
        refine XS.iload X_14.here hEX rfl (hb hBY at_167) rfl ?_
        show Steps p.tables e below (T_14.setTop (mkF m 169 #[Iv p1, Iv p2, Iv (1 : Int32), Iv ee0, Iv (0 : Int32), Iv (0 : Int32), Rv b_4, Iv (1 : Int32), Iv (0 : Int32), Us, Us, Us, Us] [(.int (0 : Int32))])) tt_
        refine XS.ifYes X_14.here hEX rfl (pc0 := 169) (pc' := 178) rfl (hb hBY at_169) rfl ((if0 _ _).trans (teq (by decide : (0 : Int32) = (0 : Int32))).1) (by decide) (by decide) ?_
        show Steps p.tables e below (T_14.setTop (mkF m 178 #[Iv p1, Iv p2, Iv (1 : Int32), Iv ee0, Iv (0 : Int32), Iv (0 : Int32), Rv b_4, Iv (1 : Int32), Iv (0 : Int32), Us, Us, Us, Us] [])) tt_
        refine XS.iloadN X_14.here hEX rfl (hb hBY at_178) rfl ?_
        exact kt_
      refine Done.pre sg_18 ?_
      by_cases hc179 : ee0 = (0 : Int32)
      · skip
        have sg_19 : ∀ tt_, Steps p.tables e below (T_14.setTop (mkF m 235 #[Iv p1, Iv p2, Iv (1 : Int32), Iv ee0, Iv (0 : Int32), Iv (0 : Int32), Rv b_4, Iv (1 : Int32), Iv (0 : Int32), Iv (1 : Int32), Us, Us, Us] [(.ref b_4)])) tt_ → Steps p.tables e below (T_14.setTop (mkF m 179 #[Iv p1, Iv p2, Iv (1 : Int32), Iv ee0, Iv (0 : Int32), Iv (0 : Int32), Rv b_4, Iv (1 : Int32), Iv (0 : Int32), Us, Us, Us, Us] [(.int ee0)])) tt_ := by
          intro tt_ kt_
          refine XS.ifYes X_14.here hEX rfl (pc0 := 179) (pc' := 188) rfl (hb hBY at_179) rfl ((if0 _ _).trans (teq hc179).1) (by decide) (by decide) ?_
          show Steps p.tables e below (T_14.setTop (mkF m 188 #[Iv p1, Iv p2, Iv (1 : Int32), Iv ee0, Iv (0 : Int32), Iv (0 : Int32), Rv b_4, Iv (1 : Int32), Iv (0 : Int32), Us, Us, Us, Us] [])) tt_
          refine XS.iloadN X_14.here hEX rfl (hb hBY at_188) rfl ?_
          show Steps p.tables e below (T_14.setTop (mkF m 189 #[Iv p1, Iv p2, Iv (1 : Int32), Iv ee0, Iv (0 : Int32), Iv (0 : Int32), Rv b_4, Iv (1 : Int32), Iv (0 : Int32), Us, Us, Us, Us] [(.int (1 : Int32))])) tt_
          refine XS.iconst X_14.here hEX rfl (hb hBY at_189) ?_
          show Steps p.tables e below (T_14.setTop (mkF m 190 #[Iv p1, Iv p2, Iv (1 : Int32), Iv ee0, Iv (0 : Int32), Iv (0 : Int32), Rv b_4, Iv (1 : Int32), Iv (0 : Int32), Us, Us, Us, Us] [(.int (3 : Int32)), (.int (1 : Int32))])) tt_
          refine XS.icmpYes X_14.here hEX rfl (pc0 := 190) (pc' := 204) rfl (hb hBY at_190) rfl (tlt (by decide : (1 : Int32) < (3 : Int32))).1 (by decide) (by decide) ?_
          show Steps p.tables e below (T_14.setTop (mkF m 204 #[Iv p1, Iv p2, Iv (1 : Int32), Iv ee0, Iv (0 : Int32), Iv (0 : Int32), Rv b_4, Iv (1 : Int32), Iv (0 : Int32), Us, Us, Us, Us] [])) tt_
          refine XS.iloadN X_14.here hEX rfl (hb hBY at_204) rfl ?_
          show Steps p.tables e below (T_14.setTop (mkF m 205 #[Iv p1, Iv p2, Iv (1 : Int32), Iv ee0, Iv (0 : Int32), Iv (0 : Int32), Rv b_4, Iv (1 : Int32), Iv (0 : Int32), Us, Us, Us, Us] [(.int (1 : Int32))])) tt_
          refine XS.iconst X_14.here hEX rfl (hb hBY at_205) ?_
          show Steps p.tables e below (T_14.setTop (mkF m 206 #[Iv p1, Iv p2, Iv (1 : Int32), Iv ee0, Iv (0 : Int32), Iv (0 : Int32), Rv b_4, Iv (1 : Int32), Iv (0 : Int32), Us, Us, Us, Us] [(.int (2 : Int32)), (.int (1 : Int32))])) tt_
          refine XS.icmpYes X_14.here hEX rfl (pc0 := 206) (pc' := 220) rfl (hb hBY at_206) rfl (tlt (by decide : (1 : Int32) < (2 : Int32))).1 (by decide) (by decide) ?_
          show Steps p.tables e below (T_14.setTop (mkF m 220 #[Iv p1, Iv p2, Iv (1 : Int32), Iv ee0, Iv (0 : Int32), Iv (0 : Int32), Rv b_4, Iv (1 : Int32), Iv (0 : Int32), Us, Us, Us, Us] [])) tt_
          refine XS.iloadN X_14.here hEX rfl (hb hBY at_220) rfl ?_
          show Steps p.tables e below (T_14.setTop (mkF m 221 #[Iv p1, Iv p2, Iv (1 : Int32), Iv ee0, Iv (0 : Int32), Iv (0 : Int32), Rv b_4, Iv (1 : Int32), Iv (0 : Int32), Us, Us, Us, Us] [(.int ee0)])) tt_
          refine XS.ifNo X_14.here hEX rfl (hb hBY at_221) rfl ((if0 _ _).trans (teq hc179).2) ?_
          show Steps p.tables e below (T_14.setTop (mkF m 224 #[Iv p1, Iv p2, Iv (1 : Int32), Iv ee0, Iv (0 : Int32), Iv (0 : Int32), Rv b_4, Iv (1 : Int32), Iv (0 : Int32), Us, Us, Us, Us] [])) tt_
          refine XS.iconst X_14.here hEX rfl (hb hBY at_224) ?_
          show Steps p.tables e below (T_14.setTop (mkF m 225 #[Iv p1, Iv p2, Iv (1 : Int32), Iv ee0, Iv (0 : Int32), Iv (0 : Int32), Rv b_4, Iv (1 : Int32), Iv (0 : Int32), Us, Us, Us, Us] [(.int (1 : Int32))])) tt_
          refine XS.istore X_14.here hEX rfl (hb hBY at_225) rfl (l' := #[Iv p1, Iv p2, Iv (1 : Int32), Iv ee0, Iv (0 : Int32), Iv (0 : Int32), Rv b_4, Iv (1 : Int32), Iv (0 : Int32), Iv (1 : Int32), Us, Us, Us]) rfl ?_
          show Steps p.tables e below (T_14.setTop (mkF m 227 #[Iv p1, Iv p2, Iv (1 : Int32), Iv ee0, Iv (0 : Int32), Iv (0 : Int32), Rv b_4, Iv (1 : Int32), Iv (0 : Int32), Iv (1 : Int32), Us, Us, Us] [])) tt_
          refine XS.goto X_14.here hEX rfl (pc0 := 227) (pc' := 233) rfl (hb hBY at_227) (by decide) (by decide) ?_
          show Steps p.tables e below (T_14.setTop (mkF m 233 #[Iv p1, Iv p2, Iv (1 : Int32), Iv ee0, Iv (0 : Int32), Iv (0 : Int32), Rv b_4, Iv (1 : Int32), Iv (0 : Int32), Iv (1 : Int32), Us, Us, Us] [])) tt_
          refine XS.aload X_14.here hEX rfl (hb hBY at_233) rfl rfl ?_
          exact kt_
        refine Done.pre sg_19 ?_
        obtain ⟨cq_20, kq_20, q_20a, q_20b, q_20c⟩ := isOf hZW rfl hq_14_0
        obtain ⟨_, _, ⟨T_20, L_20, k_20, n_20⟩, -, X_20, ⟨Lc_20, hQ_20, l_20, y_20, z_20⟩, st_20⟩ := X_14.virtualBack hEX (y := (⟨"com/example/actorium/actorium/Claimant$Sends", "depth", "()I"⟩ : MethodName)) (z := (⟨"com/example/actorium/actorium/Claimant$Sends", "depth", "()I"⟩ : MethodName)) hOW (mvT hZW (hw _ (List.mem_of_getElem? (i := 21) rfl))) (mvT hZW (hw _ (List.mem_of_getElem? (i := 22) rfl))) (notFace_of_selects (args := #[]) (mvT hZW (hw _ (List.mem_of_getElem? (i := 24) rfl)))) (mvT hZW (hw _ (List.mem_of_getElem? (i := 24) rfl))) (mvT hZW (hw _ (List.mem_of_getElem? (i := 23) rfl))) (by decide) (backOf (W := 0) (rm_depth l Z aZ hw [] b_4 (1 : Int32) T_14.heap n0 (Nat.le_trans Z0 K__15.1) f_17) hZW (hw _ (List.mem_of_getElem? (i := 25) rfl)) (hw _ (List.mem_of_getElem? (i := 3) rfl)) (by decide) (by decide)) q_20a q_20c (g := (mkF m 235 #[Iv p1, Iv p2, Iv (1 : Int32), Iv ee0, Iv (0 : Int32), Iv (0 : Int32), Rv b_4, Iv (1 : Int32), Iv (0 : Int32), Iv (1 : Int32), Us, Us, Us] [(.ref b_4)])) rfl (by rw [hMX]; rfl) (Steps.refl _) (argsL := []) (rest := []) (lenOf pd___I_0 rfl) rfl (by show 2 * 0 + _ ≤ _; exact Nat.le_of_eq rfl) (hb hBY at_235) (fun _ _ => ⟨rfl, rfl, (by decide : 2 + 0 ≤ _), (by decide : 10 + 0 ≤ _)⟩)
        dsimp only [Pt.U, Pt.locs, Pt.cells, Pt.slots] at X_20 l_20 y_20 z_20 st_20 hQ_20
        subst l_20 y_20 z_20
        obtain ⟨rfl, N_20q, e_20⟩ := hQ_20
        have N_20 := Fr.app N_14 N_20q
        refine Done.pre (fun _ k_ => st_20.trans k_) ?_
        show Done _ _ _ _ _ _ _ (T_20.setTop (mkF m 238 #[Iv p1, Iv p2, Iv (1 : Int32), Iv ee0, Iv (0 : Int32), Iv (0 : Int32), Rv b_4, Iv (1 : Int32), Iv (0 : Int32), Iv (1 : Int32), Us, Us, Us] [(.int (1 : Int32))]))
        have sg_21 : ∀ tt_, Steps p.tables e below (T_20.setTop (mkF m 262 #[Iv p1, Iv p2, Iv (1 : Int32), Iv ee0, Iv (0 : Int32), Iv (0 : Int32), Rv b_4, Iv (1 : Int32), Iv (0 : Int32), Iv (1 : Int32), Iv (1 : Int32), Us, Us] [.null, (.ref b_4)])) tt_ → Steps p.tables e below (T_20.setTop (mkF m 238 #[Iv p1, Iv p2, Iv (1 : Int32), Iv ee0, Iv (0 : Int32), Iv (0 : Int32), Rv b_4, Iv (1 : Int32), Iv (0 : Int32), Iv (1 : Int32), Us, Us, Us] [(.int (1 : Int32))])) tt_ := by
          intro tt_ kt_
          refine XS.istore X_20.here hEX rfl (hb hBY at_238) rfl (l' := #[Iv p1, Iv p2, Iv (1 : Int32), Iv ee0, Iv (0 : Int32), Iv (0 : Int32), Rv b_4, Iv (1 : Int32), Iv (0 : Int32), Iv (1 : Int32), Iv (1 : Int32), Us, Us]) rfl ?_
          show Steps p.tables e below (T_20.setTop (mkF m 240 #[Iv p1, Iv p2, Iv (1 : Int32), Iv ee0, Iv (0 : Int32), Iv (0 : Int32), Rv b_4, Iv (1 : Int32), Iv (0 : Int32), Iv (1 : Int32), Iv (1 : Int32), Us, Us] [])) tt_
          refine XS.iload X_20.here hEX rfl (hb hBY at_240) rfl ?_
          show Steps p.tables e below (T_20.setTop (mkF m 242 #[Iv p1, Iv p2, Iv (1 : Int32), Iv ee0, Iv (0 : Int32), Iv (0 : Int32), Rv b_4, Iv (1 : Int32), Iv (0 : Int32), Iv (1 : Int32), Iv (1 : Int32), Us, Us] [(.int (1 : Int32))])) tt_
          refine XS.ifNo X_20.here hEX rfl (hb hBY at_242) rfl ((if0 _ _).trans (feq (by decide : ¬ ((1 : Int32) = (0 : Int32)))).1) ?_
          show Steps p.tables e below (T_20.setTop (mkF m 245 #[Iv p1, Iv p2, Iv (1 : Int32), Iv ee0, Iv (0 : Int32), Iv (0 : Int32), Rv b_4, Iv (1 : Int32), Iv (0 : Int32), Iv (1 : Int32), Iv (1 : Int32), Us, Us] [])) tt_
          refine XS.iload X_20.here hEX rfl (hb hBY at_245) rfl ?_
          show Steps p.tables e below (T_20.setTop (mkF m 247 #[Iv p1, Iv p2, Iv (1 : Int32), Iv ee0, Iv (0 : Int32), Iv (0 : Int32), Rv b_4, Iv (1 : Int32), Iv (0 : Int32), Iv (1 : Int32), Iv (1 : Int32), Us, Us] [(.int (1 : Int32))])) tt_
          refine XS.iload X_20.here hEX rfl (hb hBY at_247) rfl ?_
          show Steps p.tables e below (T_20.setTop (mkF m 249 #[Iv p1, Iv p2, Iv (1 : Int32), Iv ee0, Iv (0 : Int32), Iv (0 : Int32), Rv b_4, Iv (1 : Int32), Iv (0 : Int32), Iv (1 : Int32), Iv (1 : Int32), Us, Us] [(.int (1 : Int32)), (.int (1 : Int32))])) tt_
          refine XS.icmpNo X_20.here hEX rfl (hb hBY at_249) rfl (teq (by decide : (1 : Int32) = (1 : Int32))).2 ?_
          show Steps p.tables e below (T_20.setTop (mkF m 252 #[Iv p1, Iv p2, Iv (1 : Int32), Iv ee0, Iv (0 : Int32), Iv (0 : Int32), Rv b_4, Iv (1 : Int32), Iv (0 : Int32), Iv (1 : Int32), Iv (1 : Int32), Us, Us] [])) tt_
          refine XS.iconst X_20.here hEX rfl (hb hBY at_252) ?_
          show Steps p.tables e below (T_20.setTop (mkF m 253 #[Iv p1, Iv p2, Iv (1 : Int32), Iv ee0, Iv (0 : Int32), Iv (0 : Int32), Rv b_4, Iv (1 : Int32), Iv (0 : Int32), Iv (1 : Int32), Iv (1 : Int32), Us, Us] [(.int (1 : Int32))])) tt_
          refine XS.goto X_20.here hEX rfl (pc0 := 253) (pc' := 257) rfl (hb hBY at_253) (by decide) (by decide) ?_
          show Steps p.tables e below (T_20.setTop (mkF m 257 #[Iv p1, Iv p2, Iv (1 : Int32), Iv ee0, Iv (0 : Int32), Iv (0 : Int32), Rv b_4, Iv (1 : Int32), Iv (0 : Int32), Iv (1 : Int32), Iv (1 : Int32), Us, Us] [(.int (1 : Int32))])) tt_
          refine XS.istore X_20.here hEX rfl (hb hBY at_257) rfl (l' := #[Iv p1, Iv p2, Iv (1 : Int32), Iv ee0, Iv (0 : Int32), Iv (0 : Int32), Rv b_4, Iv (1 : Int32), Iv (0 : Int32), Iv (1 : Int32), Iv (1 : Int32), Us, Us]) rfl ?_
          show Steps p.tables e below (T_20.setTop (mkF m 259 #[Iv p1, Iv p2, Iv (1 : Int32), Iv ee0, Iv (0 : Int32), Iv (0 : Int32), Rv b_4, Iv (1 : Int32), Iv (0 : Int32), Iv (1 : Int32), Iv (1 : Int32), Us, Us] [])) tt_
          refine XS.aload X_20.here hEX rfl (hb hBY at_259) rfl rfl ?_
          show Steps p.tables e below (T_20.setTop (mkF m 261 #[Iv p1, Iv p2, Iv (1 : Int32), Iv ee0, Iv (0 : Int32), Iv (0 : Int32), Rv b_4, Iv (1 : Int32), Iv (0 : Int32), Iv (1 : Int32), Iv (1 : Int32), Us, Us] [(.ref b_4)])) tt_
          refine XS.aconstNull X_20.here hEX rfl (hb hBY at_261) ?_
          exact kt_
        refine Done.pre sg_21 ?_
        obtain ⟨cq_22, kq_22, q_22a, q_22b, q_22c⟩ := isOf hZW e_20 hq_14_0
        obtain ⟨_, _, ⟨T_22, L_22, k_22, n_22⟩, -, X_22, ⟨Lc_22, hQ_22, l_22, y_22, z_22⟩, st_22⟩ := X_20.virtualBack hEX (y := (⟨"com/example/actorium/actorium/Claimant$Sends", "begin", "(Lcom/example/actorium/actorium/DispatchedCell;)I"⟩ : MethodName)) (z := (⟨"com/example/actorium/actorium/Claimant$Sends", "begin", "(Lcom/example/actorium/actorium/DispatchedCell;)I"⟩ : MethodName)) hOW (mvT hZW (hw _ (List.mem_of_getElem? (i := 14) rfl))) (mvT hZW (hw _ (List.mem_of_getElem? (i := 15) rfl))) (notFace_of_selects (args := #[]) (mvT hZW (hw _ (List.mem_of_getElem? (i := 17) rfl)))) (mvT hZW (hw _ (List.mem_of_getElem? (i := 17) rfl))) (mvT hZW (hw _ (List.mem_of_getElem? (i := 16) rfl))) (by decide) (backOf (W := 0) (rm_begin l Z aZ hw [] b_4 (1 : Int32) b__10 k__10 T_14.heap n0 (Nat.le_trans Z0 K__15.1) hq_14_0 f_17 hq_14_2 hq_14_3 ge_b_4 (Nat.le_trans Z0 sz_b__10) ne_b_4_b__10 (by decide)) hZW (hw _ (List.mem_of_getElem? (i := 18) rfl)) (hw _ (List.mem_of_getElem? (i := 3) rfl)) (by decide) (by decide)) q_22a q_22c (g := (mkF m 262 #[Iv p1, Iv p2, Iv (1 : Int32), Iv ee0, Iv (0 : Int32), Iv (0 : Int32), Rv b_4, Iv (1 : Int32), Iv (0 : Int32), Iv (1 : Int32), Iv (1 : Int32), Us, Us] [.null, (.ref b_4)])) rfl (by rw [hMX]; rfl) (Steps.refl _) (argsL := [.null]) (rest := []) (lenOf pd__Lcom_example_actorium_actorium_DispatchedCell__I_3 rfl) rfl (by show 2 * 0 + _ ≤ _; exact Nat.le_of_eq rfl) (hb hBY at_262) (fun _ _ => ⟨rfl, e_20, (by decide : 2 + 0 ≤ _), (by decide : 10 + 0 ≤ _)⟩)
        dsimp only [Pt.U, Pt.locs, Pt.cells, Pt.slots] at X_22 l_22 y_22 z_22 st_22 hQ_22
        subst l_22 y_22 z_22
        obtain ⟨rfl, N_22q, K_22, hq_22_0, hq_22_1, hq_22_2, hq_22_3⟩ := hQ_22
        have N_22 := Fr.app N_20 N_22q
        have K__23 : Keep h0 T_22.heap [] := K__15.trans K_22 (allS (Or.inr sz_b_4) (allS (Or.inr sz_b__10) all0))
        have f_24 : Exa Z T_22.heap b_4 "com/example/actorium/actorium/Claimant$Sends" := hq_14_0.keep K_22
        refine Done.pre (fun _ k_ => st_22.trans k_) ?_
        show Done _ _ _ _ _ _ _ (T_22.setTop (mkF m 265 #[Iv p1, Iv p2, Iv (1 : Int32), Iv ee0, Iv (0 : Int32), Iv (0 : Int32), Rv b_4, Iv (1 : Int32), Iv (0 : Int32), Iv (1 : Int32), Iv (1 : Int32), Us, Us] [(.int (1 : Int32))]))
        have f_25 : Fld Z T_22.heap b_4 "com/example/actorium/actorium/Claimant$Sends" "top" "I" (.int (2 : Int32)) := by have q := hq_22_1; rw [show ((1 : Int32) + (1 : Int32)) = (2 : Int32) from by decide] at q; exact q
        have sg_26 : ∀ tt_, Steps p.tables e below (T_22.setTop (mkF m 269 #[Iv p1, Iv p2, Iv (1 : Int32), Iv ee0, Iv (0 : Int32), Iv (0 : Int32), Rv b_4, Iv (1 : Int32), Iv (0 : Int32), Iv (1 : Int32), Iv (1 : Int32), Iv (1 : Int32), Us] [(.ref b_4)])) tt_ → Steps p.tables e below (T_22.setTop (mkF m 265 #[Iv p1, Iv p2, Iv (1 : Int32), Iv ee0, Iv (0 : Int32), Iv (0 : Int32), Rv b_4, Iv (1 : Int32), Iv (0 : Int32), Iv (1 : Int32), Iv (1 : Int32), Us, Us] [(.int (1 : Int32))])) tt_ := by
          intro tt_ kt_
          refine XS.istore X_22.here hEX rfl (hb hBY at_265) rfl (l' := #[Iv p1, Iv p2, Iv (1 : Int32), Iv ee0, Iv (0 : Int32), Iv (0 : Int32), Rv b_4, Iv (1 : Int32), Iv (0 : Int32), Iv (1 : Int32), Iv (1 : Int32), Iv (1 : Int32), Us]) rfl ?_
          show Steps p.tables e below (T_22.setTop (mkF m 267 #[Iv p1, Iv p2, Iv (1 : Int32), Iv ee0, Iv (0 : Int32), Iv (0 : Int32), Rv b_4, Iv (1 : Int32), Iv (0 : Int32), Iv (1 : Int32), Iv (1 : Int32), Iv (1 : Int32), Us] [])) tt_
          refine XS.aload X_22.here hEX rfl (hb hBY at_267) rfl rfl ?_
          exact kt_
        refine Done.pre sg_26 ?_
        obtain ⟨cq_27, kq_27, q_27a, q_27b, q_27c⟩ := isOf hZW rfl hq_22_0
        obtain ⟨_, _, ⟨T_27, L_27, k_27, n_27⟩, -, X_27, ⟨Lc_27, hQ_27, l_27, y_27, z_27⟩, st_27⟩ := X_22.virtualBack hEX (y := (⟨"com/example/actorium/actorium/Claimant$Sends", "depth", "()I"⟩ : MethodName)) (z := (⟨"com/example/actorium/actorium/Claimant$Sends", "depth", "()I"⟩ : MethodName)) hOW (mvT hZW (hw _ (List.mem_of_getElem? (i := 21) rfl))) (mvT hZW (hw _ (List.mem_of_getElem? (i := 22) rfl))) (notFace_of_selects (args := #[]) (mvT hZW (hw _ (List.mem_of_getElem? (i := 24) rfl)))) (mvT hZW (hw _ (List.mem_of_getElem? (i := 24) rfl))) (mvT hZW (hw _ (List.mem_of_getElem? (i := 23) rfl))) (by decide) (backOf (W := 0) (rm_depth l Z aZ hw [] b_4 (2 : Int32) T_22.heap n0 (Nat.le_trans Z0 K__23.1) f_25) hZW (hw _ (List.mem_of_getElem? (i := 25) rfl)) (hw _ (List.mem_of_getElem? (i := 3) rfl)) (by decide) (by decide)) q_27a q_27c (g := (mkF m 269 #[Iv p1, Iv p2, Iv (1 : Int32), Iv ee0, Iv (0 : Int32), Iv (0 : Int32), Rv b_4, Iv (1 : Int32), Iv (0 : Int32), Iv (1 : Int32), Iv (1 : Int32), Iv (1 : Int32), Us] [(.ref b_4)])) rfl (by rw [hMX]; rfl) (Steps.refl _) (argsL := []) (rest := []) (lenOf pd___I_0 rfl) rfl (by show 2 * 0 + _ ≤ _; exact Nat.le_of_eq rfl) (hb hBY at_269) (fun _ _ => ⟨rfl, rfl, (by decide : 2 + 0 ≤ _), (by decide : 10 + 0 ≤ _)⟩)
        dsimp only [Pt.U, Pt.locs, Pt.cells, Pt.slots] at X_27 l_27 y_27 z_27 st_27 hQ_27
        subst l_27 y_27 z_27
        obtain ⟨rfl, N_27q, e_27⟩ := hQ_27
        have N_27 := Fr.app N_22 N_27q
        refine Done.pre (fun _ k_ => st_27.trans k_) ?_
        show Done _ _ _ _ _ _ _ (T_27.setTop (mkF m 272 #[Iv p1, Iv p2, Iv (1 : Int32), Iv ee0, Iv (0 : Int32), Iv (0 : Int32), Rv b_4, Iv (1 : Int32), Iv (0 : Int32), Iv (1 : Int32), Iv (1 : Int32), Iv (1 : Int32), Us] [(.int (2 : Int32))]))
        have sg_28 : ∀ tt_, Steps p.tables e below (T_27.setTop (mkF m 304 #[Iv p1, Iv p2, Iv (1 : Int32), Iv ee0, Iv (0 : Int32), Iv (0 : Int32), Rv b_4, Iv (1 : Int32), Iv (0 : Int32), Iv (1 : Int32), Iv (1 : Int32), Iv (1 : Int32), Iv (2 : Int32)] [(.int (1 : Int32))])) tt_ → Steps p.tables e below (T_27.setTop (mkF m 272 #[Iv p1, Iv p2, Iv (1 : Int32), Iv ee0, Iv (0 : Int32), Iv (0 : Int32), Rv b_4, Iv (1 : Int32), Iv (0 : Int32), Iv (1 : Int32), Iv (1 : Int32), Iv (1 : Int32), Us] [(.int (2 : Int32))])) tt_ := by
          intro tt_ kt_
          refine XS.istore X_27.here hEX rfl (hb hBY at_272) rfl (l' := #[Iv p1, Iv p2, Iv (1 : Int32), Iv ee0, Iv (0 : Int32), Iv (0 : Int32), Rv b_4, Iv (1 : Int32), Iv (0 : Int32), Iv (1 : Int32), Iv (1 : Int32), Iv (1 : Int32), Iv (2 : Int32)]) rfl ?_
          show Steps p.tables e below (T_27.setTop (mkF m 274 #[Iv p1, Iv p2, Iv (1 : Int32), Iv ee0, Iv (0 : Int32), Iv (0 : Int32), Rv b_4, Iv (1 : Int32), Iv (0 : Int32), Iv (1 : Int32), Iv (1 : Int32), Iv (1 : Int32), Iv (2 : Int32)] [])) tt_
          refine XS.iload X_27.here hEX rfl (hb hBY at_274) rfl ?_
          show Steps p.tables e below (T_27.setTop (mkF m 276 #[Iv p1, Iv p2, Iv (1 : Int32), Iv ee0, Iv (0 : Int32), Iv (0 : Int32), Rv b_4, Iv (1 : Int32), Iv (0 : Int32), Iv (1 : Int32), Iv (1 : Int32), Iv (1 : Int32), Iv (2 : Int32)] [(.int (1 : Int32))])) tt_
          refine XS.ifNo X_27.here hEX rfl (hb hBY at_276) rfl ((if0 _ _).trans (feq (by decide : ¬ ((1 : Int32) = (0 : Int32)))).1) ?_
          show Steps p.tables e below (T_27.setTop (mkF m 279 #[Iv p1, Iv p2, Iv (1 : Int32), Iv ee0, Iv (0 : Int32), Iv (0 : Int32), Rv b_4, Iv (1 : Int32), Iv (0 : Int32), Iv (1 : Int32), Iv (1 : Int32), Iv (1 : Int32), Iv (2 : Int32)] [])) tt_
          refine XS.iload X_27.here hEX rfl (hb hBY at_279) rfl ?_
          show Steps p.tables e below (T_27.setTop (mkF m 281 #[Iv p1, Iv p2, Iv (1 : Int32), Iv ee0, Iv (0 : Int32), Iv (0 : Int32), Rv b_4, Iv (1 : Int32), Iv (0 : Int32), Iv (1 : Int32), Iv (1 : Int32), Iv (1 : Int32), Iv (2 : Int32)] [(.int (1 : Int32))])) tt_
          refine XS.iload X_27.here hEX rfl (hb hBY at_281) rfl ?_
          show Steps p.tables e below (T_27.setTop (mkF m 283 #[Iv p1, Iv p2, Iv (1 : Int32), Iv ee0, Iv (0 : Int32), Iv (0 : Int32), Rv b_4, Iv (1 : Int32), Iv (0 : Int32), Iv (1 : Int32), Iv (1 : Int32), Iv (1 : Int32), Iv (2 : Int32)] [(.int (1 : Int32)), (.int (1 : Int32))])) tt_
          refine XS.icmpNo X_27.here hEX rfl (hb hBY at_283) rfl (teq (by decide : (1 : Int32) = (1 : Int32))).2 ?_
          show Steps p.tables e below (T_27.setTop (mkF m 286 #[Iv p1, Iv p2, Iv (1 : Int32), Iv ee0, Iv (0 : Int32), Iv (0 : Int32), Rv b_4, Iv (1 : Int32), Iv (0 : Int32), Iv (1 : Int32), Iv (1 : Int32), Iv (1 : Int32), Iv (2 : Int32)] [])) tt_
          refine XS.iload X_27.here hEX rfl (hb hBY at_286) rfl ?_
          show Steps p.tables e below (T_27.setTop (mkF m 288 #[Iv p1, Iv p2, Iv (1 : Int32), Iv ee0, Iv (0 : Int32), Iv (0 : Int32), Rv b_4, Iv (1 : Int32), Iv (0 : Int32), Iv (1 : Int32), Iv (1 : Int32), Iv (1 : Int32), Iv (2 : Int32)] [(.int (2 : Int32))])) tt_
          refine XS.iload X_27.here hEX rfl (hb hBY at_288) rfl ?_
          show Steps p.tables e below (T_27.setTop (mkF m 290 #[Iv p1, Iv p2, Iv (1 : Int32), Iv ee0, Iv (0 : Int32), Iv (0 : Int32), Rv b_4, Iv (1 : Int32), Iv (0 : Int32), Iv (1 : Int32), Iv (1 : Int32), Iv (1 : Int32), Iv (2 : Int32)] [(.int (1 : Int32)), (.int (2 : Int32))])) tt_
          refine XS.iconst X_27.here hEX rfl (hb hBY at_290) ?_
          show Steps p.tables e below (T_27.setTop (mkF m 291 #[Iv p1, Iv p2, Iv (1 : Int32), Iv ee0, Iv (0 : Int32), Iv (0 : Int32), Rv b_4, Iv (1 : Int32), Iv (0 : Int32), Iv (1 : Int32), Iv (1 : Int32), Iv (1 : Int32), Iv (2 : Int32)] [(.int (1 : Int32)), (.int (1 : Int32)), (.int (2 : Int32))])) tt_
          refine XS.iadd X_27.here hEX rfl (hb hBY at_291) rfl ?_
          show Steps p.tables e below (T_27.setTop (mkF m 292 #[Iv p1, Iv p2, Iv (1 : Int32), Iv ee0, Iv (0 : Int32), Iv (0 : Int32), Rv b_4, Iv (1 : Int32), Iv (0 : Int32), Iv (1 : Int32), Iv (1 : Int32), Iv (1 : Int32), Iv (2 : Int32)] [(.int (2 : Int32)), (.int (2 : Int32))])) tt_
          refine XS.icmpNo X_27.here hEX rfl (hb hBY at_292) rfl (teq (by decide : (2 : Int32) = (2 : Int32))).2 ?_
          show Steps p.tables e below (T_27.setTop (mkF m 295 #[Iv p1, Iv p2, Iv (1 : Int32), Iv ee0, Iv (0 : Int32), Iv (0 : Int32), Rv b_4, Iv (1 : Int32), Iv (0 : Int32), Iv (1 : Int32), Iv (1 : Int32), Iv (1 : Int32), Iv (2 : Int32)] [])) tt_
          refine XS.iconst X_27.here hEX rfl (hb hBY at_295) ?_
          show Steps p.tables e below (T_27.setTop (mkF m 296 #[Iv p1, Iv p2, Iv (1 : Int32), Iv ee0, Iv (0 : Int32), Iv (0 : Int32), Rv b_4, Iv (1 : Int32), Iv (0 : Int32), Iv (1 : Int32), Iv (1 : Int32), Iv (1 : Int32), Iv (2 : Int32)] [(.int (1 : Int32))])) tt_
          refine XS.goto X_27.here hEX rfl (pc0 := 296) (pc' := 300) rfl (hb hBY at_296) (by decide) (by decide) ?_
          show Steps p.tables e below (T_27.setTop (mkF m 300 #[Iv p1, Iv p2, Iv (1 : Int32), Iv ee0, Iv (0 : Int32), Iv (0 : Int32), Rv b_4, Iv (1 : Int32), Iv (0 : Int32), Iv (1 : Int32), Iv (1 : Int32), Iv (1 : Int32), Iv (2 : Int32)] [(.int (1 : Int32))])) tt_
          refine XS.istore X_27.here hEX rfl (hb hBY at_300) rfl (l' := #[Iv p1, Iv p2, Iv (1 : Int32), Iv ee0, Iv (0 : Int32), Iv (0 : Int32), Rv b_4, Iv (1 : Int32), Iv (0 : Int32), Iv (1 : Int32), Iv (1 : Int32), Iv (1 : Int32), Iv (2 : Int32)]) rfl ?_
          show Steps p.tables e below (T_27.setTop (mkF m 302 #[Iv p1, Iv p2, Iv (1 : Int32), Iv ee0, Iv (0 : Int32), Iv (0 : Int32), Rv b_4, Iv (1 : Int32), Iv (0 : Int32), Iv (1 : Int32), Iv (1 : Int32), Iv (1 : Int32), Iv (2 : Int32)] [])) tt_
          refine XS.iload X_27.here hEX rfl (hb hBY at_302) rfl ?_
          exact kt_
        refine Done.pre sg_28 ?_
        exact Done.retN X_27 hEX hLK (t := .boolean) hRT (by simp) (hb hBY at_304) (by rw [e_27]; exact ⟨rfl, N_27, K__23⟩) (by decide) (by decide)
      · skip
        have sg_29 : ∀ tt_, Steps p.tables e below (T_14.setTop (mkF m 185 #[Iv p1, Iv p2, Iv (1 : Int32), Iv ee0, Iv (0 : Int32), Iv (0 : Int32), Rv b_4, Iv (1 : Int32), Iv (0 : Int32), Us, Us, Us, Us] [(.int (0 : Int32)), (.ref b_4)])) tt_ → Steps p.tables e below (T_14.setTop (mkF m 179 #[Iv p1, Iv p2, Iv (1 : Int32), Iv ee0, Iv (0 : Int32), Iv (0 : Int32), Rv b_4, Iv (1 : Int32), Iv (0 : Int32), Us, Us, Us, Us] [(.int ee0)])) tt_ := by
          intro tt_ kt_
          refine XS.ifNo X_14.here hEX rfl (hb hBY at_179) rfl ((if0 _ _).trans (feq hc179).1) ?_
          show Steps p.tables e below (T_14.setTop (mkF m 182 #[Iv p1, Iv p2, Iv (1 : Int32), Iv ee0, Iv (0 : Int32), Iv (0 : Int32), Rv b_4, Iv (1 : Int32), Iv (0 : Int32), Us, Us, Us, Us] [])) tt_
          refine XS.aload X_14.here hEX rfl (hb hBY at_182) rfl rfl ?_
          show Steps p.tables e below (T_14.setTop (mkF m 184 #[Iv p1, Iv p2, Iv (1 : Int32), Iv ee0, Iv (0 : Int32), Iv (0 : Int32), Rv b_4, Iv (1 : Int32), Iv (0 : Int32), Us, Us, Us, Us] [(.ref b_4)])) tt_
          refine XS.iconst X_14.here hEX rfl (hb hBY at_184) ?_
          exact kt_
        refine Done.pre sg_29 ?_
        obtain ⟨cq_30, kq_30, q_30a, q_30b, q_30c⟩ := isOf hZW rfl hq_14_0
        obtain ⟨_, _, ⟨T_30, L_30, k_30, n_30⟩, -, X_30, ⟨Lc_30, hQ_30, l_30, y_30, z_30⟩, st_30⟩ := X_14.virtualBack hEX (y := (⟨"com/example/actorium/actorium/Claimant$Sends", "end", "(I)V"⟩ : MethodName)) (z := (⟨"com/example/actorium/actorium/Claimant$Sends", "end", "(I)V"⟩ : MethodName)) hOW (mvT hZW (hw _ (List.mem_of_getElem? (i := 26) rfl))) (mvT hZW (hw _ (List.mem_of_getElem? (i := 27) rfl))) (notFace_of_selects (args := #[]) (mvT hZW (hw _ (List.mem_of_getElem? (i := 29) rfl)))) (mvT hZW (hw _ (List.mem_of_getElem? (i := 29) rfl))) (mvT hZW (hw _ (List.mem_of_getElem? (i := 28) rfl))) (by decide) (backOf (W := 0) (rm_end l Z aZ hw [] b_4 (0 : Int32) (1 : Int32) b__10 k__10 T_14.heap n0 (Nat.le_trans Z0 K__15.1) hq_14_0 f_17 hq_14_2 hq_14_3 ge_b_4 (Nat.le_trans Z0 sz_b__10) ne_b_4_b__10 (by decide)) hZW (hw _ (List.mem_of_getElem? (i := 30) rfl)) (hw _ (List.mem_of_getElem? (i := 3) rfl)) (by decide) (by decide)) q_30a q_30c (g := (mkF m 185 #[Iv p1, Iv p2, Iv (1 : Int32), Iv ee0, Iv (0 : Int32), Iv (0 : Int32), Rv b_4, Iv (1 : Int32), Iv (0 : Int32), Us, Us, Us, Us] [(.int (0 : Int32)), (.ref b_4)])) rfl (by rw [hMX]; rfl) (Steps.refl _) (argsL := [(.int (0 : Int32))]) (rest := []) (lenOf pd__I_V_2 rfl) rfl (by show 2 * 0 + _ ≤ _; exact Nat.le_of_eq rfl) (hb hBY at_185) (fun _ _ => ⟨rfl, rfl, (by decide : 2 + 0 ≤ _), (by decide : 10 + 0 ≤ _)⟩)
        dsimp only [Pt.U, Pt.locs, Pt.cells, Pt.slots] at X_30 l_30 y_30 z_30 st_30 hQ_30
        subst l_30 y_30 z_30
        obtain ⟨rfl, N_30q, K_30, hq_30_0, hq_30_1, hq_30_2, hq_30_3⟩ := hQ_30
        have N_30 := Fr.app N_14 N_30q
        have K__31 : Keep h0 T_30.heap [] := K__15.trans K_30 (allS (Or.inr sz_b_4) (allS (Or.inr sz_b__10) all0))
        have f_32 : Exa Z T_30.heap b_4 "com/example/actorium/actorium/Claimant$Sends" := hq_14_0.keep K_30
        refine Done.pre (fun _ k_ => st_30.trans k_) ?_
        show Done _ _ _ _ _ _ _ (T_30.setTop (mkF m 188 #[Iv p1, Iv p2, Iv (1 : Int32), Iv ee0, Iv (0 : Int32), Iv (0 : Int32), Rv b_4, Iv (1 : Int32), Iv (0 : Int32), Us, Us, Us, Us] []))
        have f_33 : Fld Z T_30.heap b_4 "com/example/actorium/actorium/Claimant$Sends" "top" "I" (.int (0 : Int32)) := by have q := hq_30_1; rw [show (own_end (1 : Int32) (0 : Int32)) = (0 : Int32) from by decide] at q; exact q
        have sg_34 : ∀ tt_, Steps p.tables e below (T_30.setTop (mkF m 235 #[Iv p1, Iv p2, Iv (1 : Int32), Iv ee0, Iv (0 : Int32), Iv (0 : Int32), Rv b_4, Iv (1 : Int32), Iv (0 : Int32), Iv (0 : Int32), Us, Us, Us] [(.ref b_4)])) tt_ → Steps p.tables e below (T_30.setTop (mkF m 188 #[Iv p1, Iv p2, Iv (1 : Int32), Iv ee0, Iv (0 : Int32), Iv (0 : Int32), Rv b_4, Iv (1 : Int32), Iv (0 : Int32), Us, Us, Us, Us] [])) tt_ := by
          intro tt_ kt_
          refine XS.iloadN X_30.here hEX rfl (hb hBY at_188) rfl ?_
          show Steps p.tables e below (T_30.setTop (mkF m 189 #[Iv p1, Iv p2, Iv (1 : Int32), Iv ee0, Iv (0 : Int32), Iv (0 : Int32), Rv b_4, Iv (1 : Int32), Iv (0 : Int32), Us, Us, Us, Us] [(.int (1 : Int32))])) tt_
          refine XS.iconst X_30.here hEX rfl (hb hBY at_189) ?_
          show Steps p.tables e below (T_30.setTop (mkF m 190 #[Iv p1, Iv p2, Iv (1 : Int32), Iv ee0, Iv (0 : Int32), Iv (0 : Int32), Rv b_4, Iv (1 : Int32), Iv (0 : Int32), Us, Us, Us, Us] [(.int (3 : Int32)), (.int (1 : Int32))])) tt_
          refine XS.icmpYes X_30.here hEX rfl (pc0 := 190) (pc' := 204) rfl (hb hBY at_190) rfl (tlt (by decide : (1 : Int32) < (3 : Int32))).1 (by decide) (by decide) ?_
          show Steps p.tables e below (T_30.setTop (mkF m 204 #[Iv p1, Iv p2, Iv (1 : Int32), Iv ee0, Iv (0 : Int32), Iv (0 : Int32), Rv b_4, Iv (1 : Int32), Iv (0 : Int32), Us, Us, Us, Us] [])) tt_
          refine XS.iloadN X_30.here hEX rfl (hb hBY at_204) rfl ?_
          show Steps p.tables e below (T_30.setTop (mkF m 205 #[Iv p1, Iv p2, Iv (1 : Int32), Iv ee0, Iv (0 : Int32), Iv (0 : Int32), Rv b_4, Iv (1 : Int32), Iv (0 : Int32), Us, Us, Us, Us] [(.int (1 : Int32))])) tt_
          refine XS.iconst X_30.here hEX rfl (hb hBY at_205) ?_
          show Steps p.tables e below (T_30.setTop (mkF m 206 #[Iv p1, Iv p2, Iv (1 : Int32), Iv ee0, Iv (0 : Int32), Iv (0 : Int32), Rv b_4, Iv (1 : Int32), Iv (0 : Int32), Us, Us, Us, Us] [(.int (2 : Int32)), (.int (1 : Int32))])) tt_
          refine XS.icmpYes X_30.here hEX rfl (pc0 := 206) (pc' := 220) rfl (hb hBY at_206) rfl (tlt (by decide : (1 : Int32) < (2 : Int32))).1 (by decide) (by decide) ?_
          show Steps p.tables e below (T_30.setTop (mkF m 220 #[Iv p1, Iv p2, Iv (1 : Int32), Iv ee0, Iv (0 : Int32), Iv (0 : Int32), Rv b_4, Iv (1 : Int32), Iv (0 : Int32), Us, Us, Us, Us] [])) tt_
          refine XS.iloadN X_30.here hEX rfl (hb hBY at_220) rfl ?_
          show Steps p.tables e below (T_30.setTop (mkF m 221 #[Iv p1, Iv p2, Iv (1 : Int32), Iv ee0, Iv (0 : Int32), Iv (0 : Int32), Rv b_4, Iv (1 : Int32), Iv (0 : Int32), Us, Us, Us, Us] [(.int ee0)])) tt_
          refine XS.ifYes X_30.here hEX rfl (pc0 := 221) (pc' := 230) rfl (hb hBY at_221) rfl ((if0 _ _).trans (feq hc179).2) (by decide) (by decide) ?_
          show Steps p.tables e below (T_30.setTop (mkF m 230 #[Iv p1, Iv p2, Iv (1 : Int32), Iv ee0, Iv (0 : Int32), Iv (0 : Int32), Rv b_4, Iv (1 : Int32), Iv (0 : Int32), Us, Us, Us, Us] [])) tt_
          refine XS.iconst X_30.here hEX rfl (hb hBY at_230) ?_
          show Steps p.tables e below (T_30.setTop (mkF m 231 #[Iv p1, Iv p2, Iv (1 : Int32), Iv ee0, Iv (0 : Int32), Iv (0 : Int32), Rv b_4, Iv (1 : Int32), Iv (0 : Int32), Us, Us, Us, Us] [(.int (0 : Int32))])) tt_
          refine XS.istore X_30.here hEX rfl (hb hBY at_231) rfl (l' := #[Iv p1, Iv p2, Iv (1 : Int32), Iv ee0, Iv (0 : Int32), Iv (0 : Int32), Rv b_4, Iv (1 : Int32), Iv (0 : Int32), Iv (0 : Int32), Us, Us, Us]) rfl ?_
          show Steps p.tables e below (T_30.setTop (mkF m 233 #[Iv p1, Iv p2, Iv (1 : Int32), Iv ee0, Iv (0 : Int32), Iv (0 : Int32), Rv b_4, Iv (1 : Int32), Iv (0 : Int32), Iv (0 : Int32), Us, Us, Us] [])) tt_
          refine XS.aload X_30.here hEX rfl (hb hBY at_233) rfl rfl ?_
          exact kt_
        refine Done.pre sg_34 ?_
        obtain ⟨cq_35, kq_35, q_35a, q_35b, q_35c⟩ := isOf hZW rfl hq_30_0
        obtain ⟨_, _, ⟨T_35, L_35, k_35, n_35⟩, -, X_35, ⟨Lc_35, hQ_35, l_35, y_35, z_35⟩, st_35⟩ := X_30.virtualBack hEX (y := (⟨"com/example/actorium/actorium/Claimant$Sends", "depth", "()I"⟩ : MethodName)) (z := (⟨"com/example/actorium/actorium/Claimant$Sends", "depth", "()I"⟩ : MethodName)) hOW (mvT hZW (hw _ (List.mem_of_getElem? (i := 21) rfl))) (mvT hZW (hw _ (List.mem_of_getElem? (i := 22) rfl))) (notFace_of_selects (args := #[]) (mvT hZW (hw _ (List.mem_of_getElem? (i := 24) rfl)))) (mvT hZW (hw _ (List.mem_of_getElem? (i := 24) rfl))) (mvT hZW (hw _ (List.mem_of_getElem? (i := 23) rfl))) (by decide) (backOf (W := 0) (rm_depth l Z aZ hw [] b_4 (0 : Int32) T_30.heap n0 (Nat.le_trans Z0 K__31.1) f_33) hZW (hw _ (List.mem_of_getElem? (i := 25) rfl)) (hw _ (List.mem_of_getElem? (i := 3) rfl)) (by decide) (by decide)) q_35a q_35c (g := (mkF m 235 #[Iv p1, Iv p2, Iv (1 : Int32), Iv ee0, Iv (0 : Int32), Iv (0 : Int32), Rv b_4, Iv (1 : Int32), Iv (0 : Int32), Iv (0 : Int32), Us, Us, Us] [(.ref b_4)])) rfl (by rw [hMX]; rfl) (Steps.refl _) (argsL := []) (rest := []) (lenOf pd___I_0 rfl) rfl (by show 2 * 0 + _ ≤ _; exact Nat.le_of_eq rfl) (hb hBY at_235) (fun _ _ => ⟨rfl, rfl, (by decide : 2 + 0 ≤ _), (by decide : 10 + 0 ≤ _)⟩)
        dsimp only [Pt.U, Pt.locs, Pt.cells, Pt.slots] at X_35 l_35 y_35 z_35 st_35 hQ_35
        subst l_35 y_35 z_35
        obtain ⟨rfl, N_35q, e_35⟩ := hQ_35
        have N_35 := Fr.app N_30 N_35q
        refine Done.pre (fun _ k_ => st_35.trans k_) ?_
        show Done _ _ _ _ _ _ _ (T_35.setTop (mkF m 238 #[Iv p1, Iv p2, Iv (1 : Int32), Iv ee0, Iv (0 : Int32), Iv (0 : Int32), Rv b_4, Iv (1 : Int32), Iv (0 : Int32), Iv (0 : Int32), Us, Us, Us] [(.int (0 : Int32))]))
        have sg_36 : ∀ tt_, Steps p.tables e below (T_35.setTop (mkF m 262 #[Iv p1, Iv p2, Iv (1 : Int32), Iv ee0, Iv (0 : Int32), Iv (0 : Int32), Rv b_4, Iv (1 : Int32), Iv (0 : Int32), Iv (0 : Int32), Iv (0 : Int32), Us, Us] [.null, (.ref b_4)])) tt_ → Steps p.tables e below (T_35.setTop (mkF m 238 #[Iv p1, Iv p2, Iv (1 : Int32), Iv ee0, Iv (0 : Int32), Iv (0 : Int32), Rv b_4, Iv (1 : Int32), Iv (0 : Int32), Iv (0 : Int32), Us, Us, Us] [(.int (0 : Int32))])) tt_ := by
          intro tt_ kt_
          refine XS.istore X_35.here hEX rfl (hb hBY at_238) rfl (l' := #[Iv p1, Iv p2, Iv (1 : Int32), Iv ee0, Iv (0 : Int32), Iv (0 : Int32), Rv b_4, Iv (1 : Int32), Iv (0 : Int32), Iv (0 : Int32), Iv (0 : Int32), Us, Us]) rfl ?_
          show Steps p.tables e below (T_35.setTop (mkF m 240 #[Iv p1, Iv p2, Iv (1 : Int32), Iv ee0, Iv (0 : Int32), Iv (0 : Int32), Rv b_4, Iv (1 : Int32), Iv (0 : Int32), Iv (0 : Int32), Iv (0 : Int32), Us, Us] [])) tt_
          refine XS.iload X_35.here hEX rfl (hb hBY at_240) rfl ?_
          show Steps p.tables e below (T_35.setTop (mkF m 242 #[Iv p1, Iv p2, Iv (1 : Int32), Iv ee0, Iv (0 : Int32), Iv (0 : Int32), Rv b_4, Iv (1 : Int32), Iv (0 : Int32), Iv (0 : Int32), Iv (0 : Int32), Us, Us] [(.int (1 : Int32))])) tt_
          refine XS.ifNo X_35.here hEX rfl (hb hBY at_242) rfl ((if0 _ _).trans (feq (by decide : ¬ ((1 : Int32) = (0 : Int32)))).1) ?_
          show Steps p.tables e below (T_35.setTop (mkF m 245 #[Iv p1, Iv p2, Iv (1 : Int32), Iv ee0, Iv (0 : Int32), Iv (0 : Int32), Rv b_4, Iv (1 : Int32), Iv (0 : Int32), Iv (0 : Int32), Iv (0 : Int32), Us, Us] [])) tt_
          refine XS.iload X_35.here hEX rfl (hb hBY at_245) rfl ?_
          show Steps p.tables e below (T_35.setTop (mkF m 247 #[Iv p1, Iv p2, Iv (1 : Int32), Iv ee0, Iv (0 : Int32), Iv (0 : Int32), Rv b_4, Iv (1 : Int32), Iv (0 : Int32), Iv (0 : Int32), Iv (0 : Int32), Us, Us] [(.int (0 : Int32))])) tt_
          refine XS.iload X_35.here hEX rfl (hb hBY at_247) rfl ?_
          show Steps p.tables e below (T_35.setTop (mkF m 249 #[Iv p1, Iv p2, Iv (1 : Int32), Iv ee0, Iv (0 : Int32), Iv (0 : Int32), Rv b_4, Iv (1 : Int32), Iv (0 : Int32), Iv (0 : Int32), Iv (0 : Int32), Us, Us] [(.int (0 : Int32)), (.int (0 : Int32))])) tt_
          refine XS.icmpNo X_35.here hEX rfl (hb hBY at_249) rfl (teq (by decide : (0 : Int32) = (0 : Int32))).2 ?_
          show Steps p.tables e below (T_35.setTop (mkF m 252 #[Iv p1, Iv p2, Iv (1 : Int32), Iv ee0, Iv (0 : Int32), Iv (0 : Int32), Rv b_4, Iv (1 : Int32), Iv (0 : Int32), Iv (0 : Int32), Iv (0 : Int32), Us, Us] [])) tt_
          refine XS.iconst X_35.here hEX rfl (hb hBY at_252) ?_
          show Steps p.tables e below (T_35.setTop (mkF m 253 #[Iv p1, Iv p2, Iv (1 : Int32), Iv ee0, Iv (0 : Int32), Iv (0 : Int32), Rv b_4, Iv (1 : Int32), Iv (0 : Int32), Iv (0 : Int32), Iv (0 : Int32), Us, Us] [(.int (1 : Int32))])) tt_
          refine XS.goto X_35.here hEX rfl (pc0 := 253) (pc' := 257) rfl (hb hBY at_253) (by decide) (by decide) ?_
          show Steps p.tables e below (T_35.setTop (mkF m 257 #[Iv p1, Iv p2, Iv (1 : Int32), Iv ee0, Iv (0 : Int32), Iv (0 : Int32), Rv b_4, Iv (1 : Int32), Iv (0 : Int32), Iv (0 : Int32), Iv (0 : Int32), Us, Us] [(.int (1 : Int32))])) tt_
          refine XS.istore X_35.here hEX rfl (hb hBY at_257) rfl (l' := #[Iv p1, Iv p2, Iv (1 : Int32), Iv ee0, Iv (0 : Int32), Iv (0 : Int32), Rv b_4, Iv (1 : Int32), Iv (0 : Int32), Iv (0 : Int32), Iv (0 : Int32), Us, Us]) rfl ?_
          show Steps p.tables e below (T_35.setTop (mkF m 259 #[Iv p1, Iv p2, Iv (1 : Int32), Iv ee0, Iv (0 : Int32), Iv (0 : Int32), Rv b_4, Iv (1 : Int32), Iv (0 : Int32), Iv (0 : Int32), Iv (0 : Int32), Us, Us] [])) tt_
          refine XS.aload X_35.here hEX rfl (hb hBY at_259) rfl rfl ?_
          show Steps p.tables e below (T_35.setTop (mkF m 261 #[Iv p1, Iv p2, Iv (1 : Int32), Iv ee0, Iv (0 : Int32), Iv (0 : Int32), Rv b_4, Iv (1 : Int32), Iv (0 : Int32), Iv (0 : Int32), Iv (0 : Int32), Us, Us] [(.ref b_4)])) tt_
          refine XS.aconstNull X_35.here hEX rfl (hb hBY at_261) ?_
          exact kt_
        refine Done.pre sg_36 ?_
        obtain ⟨cq_37, kq_37, q_37a, q_37b, q_37c⟩ := isOf hZW e_35 hq_30_0
        obtain ⟨_, _, ⟨T_37, L_37, k_37, n_37⟩, -, X_37, ⟨Lc_37, hQ_37, l_37, y_37, z_37⟩, st_37⟩ := X_35.virtualBack hEX (y := (⟨"com/example/actorium/actorium/Claimant$Sends", "begin", "(Lcom/example/actorium/actorium/DispatchedCell;)I"⟩ : MethodName)) (z := (⟨"com/example/actorium/actorium/Claimant$Sends", "begin", "(Lcom/example/actorium/actorium/DispatchedCell;)I"⟩ : MethodName)) hOW (mvT hZW (hw _ (List.mem_of_getElem? (i := 14) rfl))) (mvT hZW (hw _ (List.mem_of_getElem? (i := 15) rfl))) (notFace_of_selects (args := #[]) (mvT hZW (hw _ (List.mem_of_getElem? (i := 17) rfl)))) (mvT hZW (hw _ (List.mem_of_getElem? (i := 17) rfl))) (mvT hZW (hw _ (List.mem_of_getElem? (i := 16) rfl))) (by decide) (backOf (W := 0) (rm_begin l Z aZ hw [] b_4 (0 : Int32) b__10 k__10 T_30.heap n0 (Nat.le_trans Z0 K__31.1) hq_30_0 f_33 hq_30_2 hq_30_3 ge_b_4 (Nat.le_trans Z0 sz_b__10) ne_b_4_b__10 (by decide)) hZW (hw _ (List.mem_of_getElem? (i := 18) rfl)) (hw _ (List.mem_of_getElem? (i := 3) rfl)) (by decide) (by decide)) q_37a q_37c (g := (mkF m 262 #[Iv p1, Iv p2, Iv (1 : Int32), Iv ee0, Iv (0 : Int32), Iv (0 : Int32), Rv b_4, Iv (1 : Int32), Iv (0 : Int32), Iv (0 : Int32), Iv (0 : Int32), Us, Us] [.null, (.ref b_4)])) rfl (by rw [hMX]; rfl) (Steps.refl _) (argsL := [.null]) (rest := []) (lenOf pd__Lcom_example_actorium_actorium_DispatchedCell__I_3 rfl) rfl (by show 2 * 0 + _ ≤ _; exact Nat.le_of_eq rfl) (hb hBY at_262) (fun _ _ => ⟨rfl, e_35, (by decide : 2 + 0 ≤ _), (by decide : 10 + 0 ≤ _)⟩)
        dsimp only [Pt.U, Pt.locs, Pt.cells, Pt.slots] at X_37 l_37 y_37 z_37 st_37 hQ_37
        subst l_37 y_37 z_37
        obtain ⟨rfl, N_37q, K_37, hq_37_0, hq_37_1, hq_37_2, hq_37_3⟩ := hQ_37
        have N_37 := Fr.app N_35 N_37q
        have K__38 : Keep h0 T_37.heap [] := K__31.trans K_37 (allS (Or.inr sz_b_4) (allS (Or.inr sz_b__10) all0))
        have f_39 : Exa Z T_37.heap b_4 "com/example/actorium/actorium/Claimant$Sends" := hq_30_0.keep K_37
        refine Done.pre (fun _ k_ => st_37.trans k_) ?_
        show Done _ _ _ _ _ _ _ (T_37.setTop (mkF m 265 #[Iv p1, Iv p2, Iv (1 : Int32), Iv ee0, Iv (0 : Int32), Iv (0 : Int32), Rv b_4, Iv (1 : Int32), Iv (0 : Int32), Iv (0 : Int32), Iv (0 : Int32), Us, Us] [(.int (0 : Int32))]))
        have f_40 : Fld Z T_37.heap b_4 "com/example/actorium/actorium/Claimant$Sends" "top" "I" (.int (1 : Int32)) := by have q := hq_37_1; rw [show ((0 : Int32) + (1 : Int32)) = (1 : Int32) from by decide] at q; exact q
        have sg_41 : ∀ tt_, Steps p.tables e below (T_37.setTop (mkF m 269 #[Iv p1, Iv p2, Iv (1 : Int32), Iv ee0, Iv (0 : Int32), Iv (0 : Int32), Rv b_4, Iv (1 : Int32), Iv (0 : Int32), Iv (0 : Int32), Iv (0 : Int32), Iv (0 : Int32), Us] [(.ref b_4)])) tt_ → Steps p.tables e below (T_37.setTop (mkF m 265 #[Iv p1, Iv p2, Iv (1 : Int32), Iv ee0, Iv (0 : Int32), Iv (0 : Int32), Rv b_4, Iv (1 : Int32), Iv (0 : Int32), Iv (0 : Int32), Iv (0 : Int32), Us, Us] [(.int (0 : Int32))])) tt_ := by
          intro tt_ kt_
          refine XS.istore X_37.here hEX rfl (hb hBY at_265) rfl (l' := #[Iv p1, Iv p2, Iv (1 : Int32), Iv ee0, Iv (0 : Int32), Iv (0 : Int32), Rv b_4, Iv (1 : Int32), Iv (0 : Int32), Iv (0 : Int32), Iv (0 : Int32), Iv (0 : Int32), Us]) rfl ?_
          show Steps p.tables e below (T_37.setTop (mkF m 267 #[Iv p1, Iv p2, Iv (1 : Int32), Iv ee0, Iv (0 : Int32), Iv (0 : Int32), Rv b_4, Iv (1 : Int32), Iv (0 : Int32), Iv (0 : Int32), Iv (0 : Int32), Iv (0 : Int32), Us] [])) tt_
          refine XS.aload X_37.here hEX rfl (hb hBY at_267) rfl rfl ?_
          exact kt_
        refine Done.pre sg_41 ?_
        obtain ⟨cq_42, kq_42, q_42a, q_42b, q_42c⟩ := isOf hZW rfl hq_37_0
        obtain ⟨_, _, ⟨T_42, L_42, k_42, n_42⟩, -, X_42, ⟨Lc_42, hQ_42, l_42, y_42, z_42⟩, st_42⟩ := X_37.virtualBack hEX (y := (⟨"com/example/actorium/actorium/Claimant$Sends", "depth", "()I"⟩ : MethodName)) (z := (⟨"com/example/actorium/actorium/Claimant$Sends", "depth", "()I"⟩ : MethodName)) hOW (mvT hZW (hw _ (List.mem_of_getElem? (i := 21) rfl))) (mvT hZW (hw _ (List.mem_of_getElem? (i := 22) rfl))) (notFace_of_selects (args := #[]) (mvT hZW (hw _ (List.mem_of_getElem? (i := 24) rfl)))) (mvT hZW (hw _ (List.mem_of_getElem? (i := 24) rfl))) (mvT hZW (hw _ (List.mem_of_getElem? (i := 23) rfl))) (by decide) (backOf (W := 0) (rm_depth l Z aZ hw [] b_4 (1 : Int32) T_37.heap n0 (Nat.le_trans Z0 K__38.1) f_40) hZW (hw _ (List.mem_of_getElem? (i := 25) rfl)) (hw _ (List.mem_of_getElem? (i := 3) rfl)) (by decide) (by decide)) q_42a q_42c (g := (mkF m 269 #[Iv p1, Iv p2, Iv (1 : Int32), Iv ee0, Iv (0 : Int32), Iv (0 : Int32), Rv b_4, Iv (1 : Int32), Iv (0 : Int32), Iv (0 : Int32), Iv (0 : Int32), Iv (0 : Int32), Us] [(.ref b_4)])) rfl (by rw [hMX]; rfl) (Steps.refl _) (argsL := []) (rest := []) (lenOf pd___I_0 rfl) rfl (by show 2 * 0 + _ ≤ _; exact Nat.le_of_eq rfl) (hb hBY at_269) (fun _ _ => ⟨rfl, rfl, (by decide : 2 + 0 ≤ _), (by decide : 10 + 0 ≤ _)⟩)
        dsimp only [Pt.U, Pt.locs, Pt.cells, Pt.slots] at X_42 l_42 y_42 z_42 st_42 hQ_42
        subst l_42 y_42 z_42
        obtain ⟨rfl, N_42q, e_42⟩ := hQ_42
        have N_42 := Fr.app N_37 N_42q
        refine Done.pre (fun _ k_ => st_42.trans k_) ?_
        show Done _ _ _ _ _ _ _ (T_42.setTop (mkF m 272 #[Iv p1, Iv p2, Iv (1 : Int32), Iv ee0, Iv (0 : Int32), Iv (0 : Int32), Rv b_4, Iv (1 : Int32), Iv (0 : Int32), Iv (0 : Int32), Iv (0 : Int32), Iv (0 : Int32), Us] [(.int (1 : Int32))]))
        have sg_43 : ∀ tt_, Steps p.tables e below (T_42.setTop (mkF m 304 #[Iv p1, Iv p2, Iv (1 : Int32), Iv ee0, Iv (0 : Int32), Iv (0 : Int32), Rv b_4, Iv (1 : Int32), Iv (0 : Int32), Iv (0 : Int32), Iv (0 : Int32), Iv (0 : Int32), Iv (1 : Int32)] [(.int (1 : Int32))])) tt_ → Steps p.tables e below (T_42.setTop (mkF m 272 #[Iv p1, Iv p2, Iv (1 : Int32), Iv ee0, Iv (0 : Int32), Iv (0 : Int32), Rv b_4, Iv (1 : Int32), Iv (0 : Int32), Iv (0 : Int32), Iv (0 : Int32), Iv (0 : Int32), Us] [(.int (1 : Int32))])) tt_ := by
          intro tt_ kt_
          refine XS.istore X_42.here hEX rfl (hb hBY at_272) rfl (l' := #[Iv p1, Iv p2, Iv (1 : Int32), Iv ee0, Iv (0 : Int32), Iv (0 : Int32), Rv b_4, Iv (1 : Int32), Iv (0 : Int32), Iv (0 : Int32), Iv (0 : Int32), Iv (0 : Int32), Iv (1 : Int32)]) rfl ?_
          show Steps p.tables e below (T_42.setTop (mkF m 274 #[Iv p1, Iv p2, Iv (1 : Int32), Iv ee0, Iv (0 : Int32), Iv (0 : Int32), Rv b_4, Iv (1 : Int32), Iv (0 : Int32), Iv (0 : Int32), Iv (0 : Int32), Iv (0 : Int32), Iv (1 : Int32)] [])) tt_
          refine XS.iload X_42.here hEX rfl (hb hBY at_274) rfl ?_
          show Steps p.tables e below (T_42.setTop (mkF m 276 #[Iv p1, Iv p2, Iv (1 : Int32), Iv ee0, Iv (0 : Int32), Iv (0 : Int32), Rv b_4, Iv (1 : Int32), Iv (0 : Int32), Iv (0 : Int32), Iv (0 : Int32), Iv (0 : Int32), Iv (1 : Int32)] [(.int (1 : Int32))])) tt_
          refine XS.ifNo X_42.here hEX rfl (hb hBY at_276) rfl ((if0 _ _).trans (feq (by decide : ¬ ((1 : Int32) = (0 : Int32)))).1) ?_
          show Steps p.tables e below (T_42.setTop (mkF m 279 #[Iv p1, Iv p2, Iv (1 : Int32), Iv ee0, Iv (0 : Int32), Iv (0 : Int32), Rv b_4, Iv (1 : Int32), Iv (0 : Int32), Iv (0 : Int32), Iv (0 : Int32), Iv (0 : Int32), Iv (1 : Int32)] [])) tt_
          refine XS.iload X_42.here hEX rfl (hb hBY at_279) rfl ?_
          show Steps p.tables e below (T_42.setTop (mkF m 281 #[Iv p1, Iv p2, Iv (1 : Int32), Iv ee0, Iv (0 : Int32), Iv (0 : Int32), Rv b_4, Iv (1 : Int32), Iv (0 : Int32), Iv (0 : Int32), Iv (0 : Int32), Iv (0 : Int32), Iv (1 : Int32)] [(.int (0 : Int32))])) tt_
          refine XS.iload X_42.here hEX rfl (hb hBY at_281) rfl ?_
          show Steps p.tables e below (T_42.setTop (mkF m 283 #[Iv p1, Iv p2, Iv (1 : Int32), Iv ee0, Iv (0 : Int32), Iv (0 : Int32), Rv b_4, Iv (1 : Int32), Iv (0 : Int32), Iv (0 : Int32), Iv (0 : Int32), Iv (0 : Int32), Iv (1 : Int32)] [(.int (0 : Int32)), (.int (0 : Int32))])) tt_
          refine XS.icmpNo X_42.here hEX rfl (hb hBY at_283) rfl (teq (by decide : (0 : Int32) = (0 : Int32))).2 ?_
          show Steps p.tables e below (T_42.setTop (mkF m 286 #[Iv p1, Iv p2, Iv (1 : Int32), Iv ee0, Iv (0 : Int32), Iv (0 : Int32), Rv b_4, Iv (1 : Int32), Iv (0 : Int32), Iv (0 : Int32), Iv (0 : Int32), Iv (0 : Int32), Iv (1 : Int32)] [])) tt_
          refine XS.iload X_42.here hEX rfl (hb hBY at_286) rfl ?_
          show Steps p.tables e below (T_42.setTop (mkF m 288 #[Iv p1, Iv p2, Iv (1 : Int32), Iv ee0, Iv (0 : Int32), Iv (0 : Int32), Rv b_4, Iv (1 : Int32), Iv (0 : Int32), Iv (0 : Int32), Iv (0 : Int32), Iv (0 : Int32), Iv (1 : Int32)] [(.int (1 : Int32))])) tt_
          refine XS.iload X_42.here hEX rfl (hb hBY at_288) rfl ?_
          show Steps p.tables e below (T_42.setTop (mkF m 290 #[Iv p1, Iv p2, Iv (1 : Int32), Iv ee0, Iv (0 : Int32), Iv (0 : Int32), Rv b_4, Iv (1 : Int32), Iv (0 : Int32), Iv (0 : Int32), Iv (0 : Int32), Iv (0 : Int32), Iv (1 : Int32)] [(.int (0 : Int32)), (.int (1 : Int32))])) tt_
          refine XS.iconst X_42.here hEX rfl (hb hBY at_290) ?_
          show Steps p.tables e below (T_42.setTop (mkF m 291 #[Iv p1, Iv p2, Iv (1 : Int32), Iv ee0, Iv (0 : Int32), Iv (0 : Int32), Rv b_4, Iv (1 : Int32), Iv (0 : Int32), Iv (0 : Int32), Iv (0 : Int32), Iv (0 : Int32), Iv (1 : Int32)] [(.int (1 : Int32)), (.int (0 : Int32)), (.int (1 : Int32))])) tt_
          refine XS.iadd X_42.here hEX rfl (hb hBY at_291) rfl ?_
          show Steps p.tables e below (T_42.setTop (mkF m 292 #[Iv p1, Iv p2, Iv (1 : Int32), Iv ee0, Iv (0 : Int32), Iv (0 : Int32), Rv b_4, Iv (1 : Int32), Iv (0 : Int32), Iv (0 : Int32), Iv (0 : Int32), Iv (0 : Int32), Iv (1 : Int32)] [(.int (1 : Int32)), (.int (1 : Int32))])) tt_
          refine XS.icmpNo X_42.here hEX rfl (hb hBY at_292) rfl (teq (by decide : (1 : Int32) = (1 : Int32))).2 ?_
          show Steps p.tables e below (T_42.setTop (mkF m 295 #[Iv p1, Iv p2, Iv (1 : Int32), Iv ee0, Iv (0 : Int32), Iv (0 : Int32), Rv b_4, Iv (1 : Int32), Iv (0 : Int32), Iv (0 : Int32), Iv (0 : Int32), Iv (0 : Int32), Iv (1 : Int32)] [])) tt_
          refine XS.iconst X_42.here hEX rfl (hb hBY at_295) ?_
          show Steps p.tables e below (T_42.setTop (mkF m 296 #[Iv p1, Iv p2, Iv (1 : Int32), Iv ee0, Iv (0 : Int32), Iv (0 : Int32), Rv b_4, Iv (1 : Int32), Iv (0 : Int32), Iv (0 : Int32), Iv (0 : Int32), Iv (0 : Int32), Iv (1 : Int32)] [(.int (1 : Int32))])) tt_
          refine XS.goto X_42.here hEX rfl (pc0 := 296) (pc' := 300) rfl (hb hBY at_296) (by decide) (by decide) ?_
          show Steps p.tables e below (T_42.setTop (mkF m 300 #[Iv p1, Iv p2, Iv (1 : Int32), Iv ee0, Iv (0 : Int32), Iv (0 : Int32), Rv b_4, Iv (1 : Int32), Iv (0 : Int32), Iv (0 : Int32), Iv (0 : Int32), Iv (0 : Int32), Iv (1 : Int32)] [(.int (1 : Int32))])) tt_
          refine XS.istore X_42.here hEX rfl (hb hBY at_300) rfl (l' := #[Iv p1, Iv p2, Iv (1 : Int32), Iv ee0, Iv (0 : Int32), Iv (0 : Int32), Rv b_4, Iv (1 : Int32), Iv (0 : Int32), Iv (0 : Int32), Iv (0 : Int32), Iv (0 : Int32), Iv (1 : Int32)]) rfl ?_
          show Steps p.tables e below (T_42.setTop (mkF m 302 #[Iv p1, Iv p2, Iv (1 : Int32), Iv ee0, Iv (0 : Int32), Iv (0 : Int32), Rv b_4, Iv (1 : Int32), Iv (0 : Int32), Iv (0 : Int32), Iv (0 : Int32), Iv (0 : Int32), Iv (1 : Int32)] [])) tt_
          refine XS.iload X_42.here hEX rfl (hb hBY at_302) rfl ?_
          exact kt_
        refine Done.pre sg_43 ?_
        exact Done.retN X_42 hEX hLK (t := .boolean) hRT (by simp) (hb hBY at_304) (by rw [e_42]; exact ⟨rfl, N_42, K__38⟩) (by decide) (by decide)
    show Done _ _ _ _ _ _ _ (s₁.setTop (mkF m 9 #[Iv p1, Iv p2, Iv (1 : Int32), Us, Us, Us, Us, Us, Us, Us, Us, Us, Us] []))
    have sg_44 : ∀ tt_, Steps p.tables e below (s₁.setTop (mkF m 12 #[Iv p1, Iv p2, Iv (1 : Int32), Us, Us, Us, Us, Us, Us, Us, Us, Us, Us] [(.int (p1 &&& (1 : Int32)))])) tt_ → Steps p.tables e below (s₁.setTop (mkF m 9 #[Iv p1, Iv p2, Iv (1 : Int32), Us, Us, Us, Us, Us, Us, Us, Us, Us, Us] [])) tt_ := by
      intro tt_ kt_
      refine XS.iloadN X0.here hEX rfl (hb hBY at_9) rfl ?_
      show Steps p.tables e below (s₁.setTop (mkF m 10 #[Iv p1, Iv p2, Iv (1 : Int32), Us, Us, Us, Us, Us, Us, Us, Us, Us, Us] [(.int p1)])) tt_
      refine XS.iconst X0.here hEX rfl (hb hBY at_10) ?_
      show Steps p.tables e below (s₁.setTop (mkF m 11 #[Iv p1, Iv p2, Iv (1 : Int32), Us, Us, Us, Us, Us, Us, Us, Us, Us, Us] [(.int (1 : Int32)), (.int p1)])) tt_
      refine XS.iand X0.here hEX rfl (hb hBY at_11) rfl ?_
      exact kt_
    refine Done.pre sg_44 ?_
    by_cases hc12 : (p1 &&& (1 : Int32)) = (0 : Int32)
    · skip
      have sg_45 : ∀ tt_, Steps p.tables e below (s₁.setTop (mkF m 57 #[Iv p1, Iv p2, Iv (1 : Int32), Iv (0 : Int32), Iv (0 : Int32), Iv (0 : Int32), Us, Us, Us, Us, Us, Us, Us] [])) tt_ → Steps p.tables e below (s₁.setTop (mkF m 12 #[Iv p1, Iv p2, Iv (1 : Int32), Us, Us, Us, Us, Us, Us, Us, Us, Us, Us] [(.int (p1 &&& (1 : Int32)))])) tt_ := by
        intro tt_ kt_
        refine XS.ifYes X0.here hEX rfl (pc0 := 12) (pc' := 19) rfl (hb hBY at_12) rfl ((if0 _ _).trans (teq hc12).1) (by decide) (by decide) ?_
        show Steps p.tables e below (s₁.setTop (mkF m 19 #[Iv p1, Iv p2, Iv (1 : Int32), Us, Us, Us, Us, Us, Us, Us, Us, Us, Us] [])) tt_
        refine XS.iconst X0.here hEX rfl (hb hBY at_19) ?_
        show Steps p.tables e below (s₁.setTop (mkF m 20 #[Iv p1, Iv p2, Iv (1 : Int32), Us, Us, Us, Us, Us, Us, Us, Us, Us, Us] [(.int (0 : Int32))])) tt_
        refine XS.istoreN X0.here hEX rfl (hb hBY at_20) rfl (l' := #[Iv p1, Iv p2, Iv (1 : Int32), Iv (0 : Int32), Us, Us, Us, Us, Us, Us, Us, Us, Us]) rfl ?_
        show Steps p.tables e below (s₁.setTop (mkF m 21 #[Iv p1, Iv p2, Iv (1 : Int32), Iv (0 : Int32), Us, Us, Us, Us, Us, Us, Us, Us, Us] [])) tt_
        refine XS.iloadN X0.here hEX rfl (hb hBY at_21) rfl ?_
        show Steps p.tables e below (s₁.setTop (mkF m 22 #[Iv p1, Iv p2, Iv (1 : Int32), Iv (0 : Int32), Us, Us, Us, Us, Us, Us, Us, Us, Us] [(.int (1 : Int32))])) tt_
        refine XS.iconst X0.here hEX rfl (hb hBY at_22) ?_
        show Steps p.tables e below (s₁.setTop (mkF m 23 #[Iv p1, Iv p2, Iv (1 : Int32), Iv (0 : Int32), Us, Us, Us, Us, Us, Us, Us, Us, Us] [(.int (2 : Int32)), (.int (1 : Int32))])) tt_
        refine XS.icmpYes X0.here hEX rfl (pc0 := 23) (pc' := 36) rfl (hb hBY at_23) rfl (tlt (by decide : (1 : Int32) < (2 : Int32))).1 (by decide) (by decide) ?_
        show Steps p.tables e below (s₁.setTop (mkF m 36 #[Iv p1, Iv p2, Iv (1 : Int32), Iv (0 : Int32), Us, Us, Us, Us, Us, Us, Us, Us, Us] [])) tt_
        refine XS.iconst X0.here hEX rfl (hb hBY at_36) ?_
        show Steps p.tables e below (s₁.setTop (mkF m 37 #[Iv p1, Iv p2, Iv (1 : Int32), Iv (0 : Int32), Us, Us, Us, Us, Us, Us, Us, Us, Us] [(.int (0 : Int32))])) tt_
        refine XS.istore X0.here hEX rfl (hb hBY at_37) rfl (l' := #[Iv p1, Iv p2, Iv (1 : Int32), Iv (0 : Int32), Iv (0 : Int32), Us, Us, Us, Us, Us, Us, Us, Us]) rfl ?_
        show Steps p.tables e below (s₁.setTop (mkF m 39 #[Iv p1, Iv p2, Iv (1 : Int32), Iv (0 : Int32), Iv (0 : Int32), Us, Us, Us, Us, Us, Us, Us, Us] [])) tt_
        refine XS.iloadN X0.here hEX rfl (hb hBY at_39) rfl ?_
        show Steps p.tables e below (s₁.setTop (mkF m 40 #[Iv p1, Iv p2, Iv (1 : Int32), Iv (0 : Int32), Iv (0 : Int32), Us, Us, Us, Us, Us, Us, Us, Us] [(.int (1 : Int32))])) tt_
        refine XS.iconst X0.here hEX rfl (hb hBY at_40) ?_
        show Steps p.tables e below (s₁.setTop (mkF m 41 #[Iv p1, Iv p2, Iv (1 : Int32), Iv (0 : Int32), Iv (0 : Int32), Us, Us, Us, Us, Us, Us, Us, Us] [(.int (3 : Int32)), (.int (1 : Int32))])) tt_
        refine XS.icmpYes X0.here hEX rfl (pc0 := 41) (pc' := 54) rfl (hb hBY at_41) rfl (tlt (by decide : (1 : Int32) < (3 : Int32))).1 (by decide) (by decide) ?_
        show Steps p.tables e below (s₁.setTop (mkF m 54 #[Iv p1, Iv p2, Iv (1 : Int32), Iv (0 : Int32), Iv (0 : Int32), Us, Us, Us, Us, Us, Us, Us, Us] [])) tt_
        refine XS.iconst X0.here hEX rfl (hb hBY at_54) ?_
        show Steps p.tables e below (s₁.setTop (mkF m 55 #[Iv p1, Iv p2, Iv (1 : Int32), Iv (0 : Int32), Iv (0 : Int32), Us, Us, Us, Us, Us, Us, Us, Us] [(.int (0 : Int32))])) tt_
        refine XS.istore X0.here hEX rfl (hb hBY at_55) rfl (l' := #[Iv p1, Iv p2, Iv (1 : Int32), Iv (0 : Int32), Iv (0 : Int32), Iv (0 : Int32), Us, Us, Us, Us, Us, Us, Us]) rfl ?_
        exact kt_
      refine Done.pre sg_45 ?_
      exact jn_3 ((0 : Int32))
    · skip
      have sg_46 : ∀ tt_, Steps p.tables e below (s₁.setTop (mkF m 57 #[Iv p1, Iv p2, Iv (1 : Int32), Iv (1 : Int32), Iv (0 : Int32), Iv (0 : Int32), Us, Us, Us, Us, Us, Us, Us] [])) tt_ → Steps p.tables e below (s₁.setTop (mkF m 12 #[Iv p1, Iv p2, Iv (1 : Int32), Us, Us, Us, Us, Us, Us, Us, Us, Us, Us] [(.int (p1 &&& (1 : Int32)))])) tt_ := by
        intro tt_ kt_
        refine XS.ifNo X0.here hEX rfl (hb hBY at_12) rfl ((if0 _ _).trans (feq hc12).1) ?_
        show Steps p.tables e below (s₁.setTop (mkF m 15 #[Iv p1, Iv p2, Iv (1 : Int32), Us, Us, Us, Us, Us, Us, Us, Us, Us, Us] [])) tt_
        refine XS.iconst X0.here hEX rfl (hb hBY at_15) ?_
        show Steps p.tables e below (s₁.setTop (mkF m 16 #[Iv p1, Iv p2, Iv (1 : Int32), Us, Us, Us, Us, Us, Us, Us, Us, Us, Us] [(.int (1 : Int32))])) tt_
        refine XS.goto X0.here hEX rfl (pc0 := 16) (pc' := 20) rfl (hb hBY at_16) (by decide) (by decide) ?_
        show Steps p.tables e below (s₁.setTop (mkF m 20 #[Iv p1, Iv p2, Iv (1 : Int32), Us, Us, Us, Us, Us, Us, Us, Us, Us, Us] [(.int (1 : Int32))])) tt_
        refine XS.istoreN X0.here hEX rfl (hb hBY at_20) rfl (l' := #[Iv p1, Iv p2, Iv (1 : Int32), Iv (1 : Int32), Us, Us, Us, Us, Us, Us, Us, Us, Us]) rfl ?_
        show Steps p.tables e below (s₁.setTop (mkF m 21 #[Iv p1, Iv p2, Iv (1 : Int32), Iv (1 : Int32), Us, Us, Us, Us, Us, Us, Us, Us, Us] [])) tt_
        refine XS.iloadN X0.here hEX rfl (hb hBY at_21) rfl ?_
        show Steps p.tables e below (s₁.setTop (mkF m 22 #[Iv p1, Iv p2, Iv (1 : Int32), Iv (1 : Int32), Us, Us, Us, Us, Us, Us, Us, Us, Us] [(.int (1 : Int32))])) tt_
        refine XS.iconst X0.here hEX rfl (hb hBY at_22) ?_
        show Steps p.tables e below (s₁.setTop (mkF m 23 #[Iv p1, Iv p2, Iv (1 : Int32), Iv (1 : Int32), Us, Us, Us, Us, Us, Us, Us, Us, Us] [(.int (2 : Int32)), (.int (1 : Int32))])) tt_
        refine XS.icmpYes X0.here hEX rfl (pc0 := 23) (pc' := 36) rfl (hb hBY at_23) rfl (tlt (by decide : (1 : Int32) < (2 : Int32))).1 (by decide) (by decide) ?_
        show Steps p.tables e below (s₁.setTop (mkF m 36 #[Iv p1, Iv p2, Iv (1 : Int32), Iv (1 : Int32), Us, Us, Us, Us, Us, Us, Us, Us, Us] [])) tt_
        refine XS.iconst X0.here hEX rfl (hb hBY at_36) ?_
        show Steps p.tables e below (s₁.setTop (mkF m 37 #[Iv p1, Iv p2, Iv (1 : Int32), Iv (1 : Int32), Us, Us, Us, Us, Us, Us, Us, Us, Us] [(.int (0 : Int32))])) tt_
        refine XS.istore X0.here hEX rfl (hb hBY at_37) rfl (l' := #[Iv p1, Iv p2, Iv (1 : Int32), Iv (1 : Int32), Iv (0 : Int32), Us, Us, Us, Us, Us, Us, Us, Us]) rfl ?_
        show Steps p.tables e below (s₁.setTop (mkF m 39 #[Iv p1, Iv p2, Iv (1 : Int32), Iv (1 : Int32), Iv (0 : Int32), Us, Us, Us, Us, Us, Us, Us, Us] [])) tt_
        refine XS.iloadN X0.here hEX rfl (hb hBY at_39) rfl ?_
        show Steps p.tables e below (s₁.setTop (mkF m 40 #[Iv p1, Iv p2, Iv (1 : Int32), Iv (1 : Int32), Iv (0 : Int32), Us, Us, Us, Us, Us, Us, Us, Us] [(.int (1 : Int32))])) tt_
        refine XS.iconst X0.here hEX rfl (hb hBY at_40) ?_
        show Steps p.tables e below (s₁.setTop (mkF m 41 #[Iv p1, Iv p2, Iv (1 : Int32), Iv (1 : Int32), Iv (0 : Int32), Us, Us, Us, Us, Us, Us, Us, Us] [(.int (3 : Int32)), (.int (1 : Int32))])) tt_
        refine XS.icmpYes X0.here hEX rfl (pc0 := 41) (pc' := 54) rfl (hb hBY at_41) rfl (tlt (by decide : (1 : Int32) < (3 : Int32))).1 (by decide) (by decide) ?_
        show Steps p.tables e below (s₁.setTop (mkF m 54 #[Iv p1, Iv p2, Iv (1 : Int32), Iv (1 : Int32), Iv (0 : Int32), Us, Us, Us, Us, Us, Us, Us, Us] [])) tt_
        refine XS.iconst X0.here hEX rfl (hb hBY at_54) ?_
        show Steps p.tables e below (s₁.setTop (mkF m 55 #[Iv p1, Iv p2, Iv (1 : Int32), Iv (1 : Int32), Iv (0 : Int32), Us, Us, Us, Us, Us, Us, Us, Us] [(.int (0 : Int32))])) tt_
        refine XS.istore X0.here hEX rfl (hb hBY at_55) rfl (l' := #[Iv p1, Iv p2, Iv (1 : Int32), Iv (1 : Int32), Iv (0 : Int32), Iv (0 : Int32), Us, Us, Us, Us, Us, Us, Us]) rfl ?_
        exact kt_
      refine Done.pre sg_46 ?_
      exact jn_3 ((1 : Int32))
  · skip
    show Done _ _ _ _ _ _ _ (s₁.setTop (mkF m 8 #[Iv p1, Iv p2, Us, Us, Us, Us, Us, Us, Us, Us, Us, Us, Us] [(.int (2 : Int32))]))
    have sg_47 : ∀ tt_, Steps p.tables e below (s₁.setTop (mkF m 9 #[Iv p1, Iv p2, Iv (2 : Int32), Us, Us, Us, Us, Us, Us, Us, Us, Us, Us] [])) tt_ → Steps p.tables e below (s₁.setTop (mkF m 8 #[Iv p1, Iv p2, Us, Us, Us, Us, Us, Us, Us, Us, Us, Us, Us] [(.int (2 : Int32))])) tt_ := by
      intro tt_ kt_
      refine XS.istoreN X0.here hEX rfl (hb hBY at_8) rfl (l' := #[Iv p1, Iv p2, Iv (2 : Int32), Us, Us, Us, Us, Us, Us, Us, Us, Us, Us]) rfl ?_
      exact kt_
    refine Done.pre sg_47 ?_
    have jn_48 : ∀ (ee0 : Int32) (ee1 : Int32), Done p e below s (Qrm0 Z p1 p2 h0 n0) room_1.cells room_1.slots (s₁.setTop (mkF m 57 #[Iv p1, Iv p2, Iv (2 : Int32), Iv ee0, Iv ee1, Iv (0 : Int32), Us, Us, Us, Us, Us, Us, Us] [])) := by
      intro ee0 ee1
      show Done _ _ _ _ _ _ _ (s₁.setTop (mkF m 57 #[Iv p1, Iv p2, Iv (2 : Int32), Iv ee0, Iv ee1, Iv (0 : Int32), Us, Us, Us, Us, Us, Us, Us] []))
      obtain ⟨T_49, h_49, X_49, e_49, E_49, A_49, D_49, -, st_49⟩ := newO X0 hEX hZW hOW (hw _ (List.mem_of_getElem? (i := 1) rfl)) (hw _ (List.mem_of_getElem? (i := 2) rfl)) (hw _ (List.mem_of_getElem? (i := 3) rfl)) e0 (g := (mkF m 57 #[Iv p1, Iv p2, Iv (2 : Int32), Iv ee0, Iv ee1, Iv (0 : Int32), Us, Us, Us, Us, Us, Us, Us] [])) rfl (hb hBY at_57) (by decide) (by decide)
      obtain ⟨b_49, g_49⟩ : ∃ z, z = h0.size := ⟨_, rfl⟩
      rw [← g_49] at A_49 D_49 st_49
      have sz_b_49 : h0.size ≤ b_49 := Nat.le_trans K0.1 (Nat.le_of_eq g_49.symm)
      have ge_b_49 : n0 ≤ b_49 := Nat.le_trans Z0 sz_b_49
      have K__50 : Keep h0 h_49 [] := K0.ext E_49
      have f_51 : Exa Z h_49 b_49 "com/example/actorium/actorium/Claimant$Sends" := A_49
      have f_52 : Fld Z h_49 b_49 "com/example/actorium/actorium/Claimant$Sends" "cells" "[Lcom/example/actorium/actorium/DispatchedCell;" .null := D_49 (Or.inl (hw _ (List.mem_of_getElem? (i := 13) rfl))) (ty := (.array (.object "com/example/actorium/actorium/DispatchedCell"))) (by decide)
      have f_53 : Fld Z h_49 b_49 "com/example/actorium/actorium/Claimant$Sends" "top" "I" (.int (0 : Int32)) := D_49 (Or.inl (hw _ (List.mem_of_getElem? (i := 20) rfl))) (ty := .int) (by decide)
      refine Done.pre st_49 ?_
      show Done _ _ _ _ _ _ _ (T_49.setTop (mkF m 60 #[Iv p1, Iv p2, Iv (2 : Int32), Iv ee0, Iv ee1, Iv (0 : Int32), Us, Us, Us, Us, Us, Us, Us] [(.ref b_49)]))
      have sg_54 : ∀ tt_, Steps p.tables e below (T_49.setTop (mkF m 61 #[Iv p1, Iv p2, Iv (2 : Int32), Iv ee0, Iv ee1, Iv (0 : Int32), Us, Us, Us, Us, Us, Us, Us] [(.ref b_49), (.ref b_49)])) tt_ → Steps p.tables e below (T_49.setTop (mkF m 60 #[Iv p1, Iv p2, Iv (2 : Int32), Iv ee0, Iv ee1, Iv (0 : Int32), Us, Us, Us, Us, Us, Us, Us] [(.ref b_49)])) tt_ := by
        intro tt_ kt_
        refine XS.dup X_49.here hEX rfl (hb hBY at_60) rfl rfl ?_
        exact kt_
      refine Done.pre sg_54 ?_
      obtain ⟨_, _, ⟨T_55, L_55, k_55, n_55⟩, -, X_55, ⟨Lc_55, hQ_55, l_55, y_55, z_55⟩, st_55⟩ := X_49.specialBack hEX (y := (⟨"com/example/actorium/actorium/Claimant$Sends", "<init>", "()V"⟩ : MethodName)) rfl hOW (mvT hZW (hw _ (List.mem_of_getElem? (i := 4) rfl))) (mvT hZW (hw _ (List.mem_of_getElem? (i := 5) rfl))) (mvT hZW (hw _ (List.mem_of_getElem? (i := 6) rfl))) (by decide) (backOf (W := 1) (rm_init l Z aZ hw [] b_49 (0 : Int32) .null h_49 n0 (Nat.le_trans Z0 K__50.1) f_51 f_53 f_52 ge_b_49) hZW (hw _ (List.mem_of_getElem? (i := 6) rfl)) (hw _ (List.mem_of_getElem? (i := 3) rfl)) (by decide) (by decide)) (g := (mkF m 61 #[Iv p1, Iv p2, Iv (2 : Int32), Iv ee0, Iv ee1, Iv (0 : Int32), Us, Us, Us, Us, Us, Us, Us] [(.ref b_49), (.ref b_49)])) rfl (by rw [hMX]; rfl) (Steps.refl _) (a := b_49) (argsL := []) (rest := [(.ref b_49)]) (lenOf pd___V_1 rfl) rfl (by show 2 * 0 + _ ≤ _; exact Nat.le_of_eq rfl) (hb hBY at_61) (fun _ _ => ⟨rfl, e_49, (by decide : 1 + 1 ≤ _), (by decide : 2 + 8 ≤ _)⟩)
      dsimp only [Pt.U, Pt.locs, Pt.cells, Pt.slots] at X_55 l_55 y_55 z_55 st_55 hQ_55
      subst l_55 y_55 z_55
      obtain ⟨b__55, k__55, rfl, N_55q, K_55, hq_55_0, hq_55_1, hq_55_2, hq_55_3, hq_55_4⟩ := hQ_55
      have N_55 := Fr.app N0 N_55q
      have K__56 : Keep h0 T_55.heap [] := K__50.trans K_55 (allS (Or.inr sz_b_49) all0)
      have f_57 : Exa Z T_55.heap b_49 "com/example/actorium/actorium/Claimant$Sends" := f_51.keep K_55
      have sz_b__55 : h0.size ≤ b__55 := Nat.le_trans K__50.1 hq_55_4
      have ne_b_49_b__55 : b_49 ≠ b__55 := Nat.ne_of_lt (Nat.lt_of_lt_of_le f_51.lt hq_55_4)
      refine Done.pre (fun _ k_ => st_55.trans k_) ?_
      show Done _ _ _ _ _ _ _ (T_55.setTop (mkF m 64 #[Iv p1, Iv p2, Iv (2 : Int32), Iv ee0, Iv ee1, Iv (0 : Int32), Us, Us, Us, Us, Us, Us, Us] [(.ref b_49)]))
      have sg_58 : ∀ tt_, Steps p.tables e below (T_55.setTop (mkF m 72 #[Iv p1, Iv p2, Iv (2 : Int32), Iv ee0, Iv ee1, Iv (0 : Int32), Rv b_49, Iv (1 : Int32), Us, Us, Us, Us, Us] [.null, (.ref b_49)])) tt_ → Steps p.tables e below (T_55.setTop (mkF m 64 #[Iv p1, Iv p2, Iv (2 : Int32), Iv ee0, Iv ee1, Iv (0 : Int32), Us, Us, Us, Us, Us, Us, Us] [(.ref b_49)])) tt_ := by
        intro tt_ kt_
        refine XS.astore X_55.here hEX rfl (hb hBY at_64) rfl rfl (l' := #[Iv p1, Iv p2, Iv (2 : Int32), Iv ee0, Iv ee1, Iv (0 : Int32), Rv b_49, Us, Us, Us, Us, Us, Us]) rfl ?_
        show Steps p.tables e below (T_55.setTop (mkF m 66 #[Iv p1, Iv p2, Iv (2 : Int32), Iv ee0, Iv ee1, Iv (0 : Int32), Rv b_49, Us, Us, Us, Us, Us, Us] [])) tt_
        refine XS.iconst X_55.here hEX rfl (hb hBY at_66) ?_
        show Steps p.tables e below (T_55.setTop (mkF m 67 #[Iv p1, Iv p2, Iv (2 : Int32), Iv ee0, Iv ee1, Iv (0 : Int32), Rv b_49, Us, Us, Us, Us, Us, Us] [(.int (1 : Int32))])) tt_
        refine XS.istore X_55.here hEX rfl (hb hBY at_67) rfl (l' := #[Iv p1, Iv p2, Iv (2 : Int32), Iv ee0, Iv ee1, Iv (0 : Int32), Rv b_49, Iv (1 : Int32), Us, Us, Us, Us, Us]) rfl ?_
        show Steps p.tables e below (T_55.setTop (mkF m 69 #[Iv p1, Iv p2, Iv (2 : Int32), Iv ee0, Iv ee1, Iv (0 : Int32), Rv b_49, Iv (1 : Int32), Us, Us, Us, Us, Us] [])) tt_
        refine XS.aload X_55.here hEX rfl (hb hBY at_69) rfl rfl ?_
        show Steps p.tables e below (T_55.setTop (mkF m 71 #[Iv p1, Iv p2, Iv (2 : Int32), Iv ee0, Iv ee1, Iv (0 : Int32), Rv b_49, Iv (1 : Int32), Us, Us, Us, Us, Us] [(.ref b_49)])) tt_
        refine XS.aconstNull X_55.here hEX rfl (hb hBY at_71) ?_
        exact kt_
      refine Done.pre sg_58 ?_
      obtain ⟨cq_59, kq_59, q_59a, q_59b, q_59c⟩ := isOf hZW rfl hq_55_0
      obtain ⟨_, _, ⟨T_59, L_59, k_59, n_59⟩, -, X_59, ⟨Lc_59, hQ_59, l_59, y_59, z_59⟩, st_59⟩ := X_55.virtualBack hEX (y := (⟨"com/example/actorium/actorium/Claimant$Sends", "begin", "(Lcom/example/actorium/actorium/DispatchedCell;)I"⟩ : MethodName)) (z := (⟨"com/example/actorium/actorium/Claimant$Sends", "begin", "(Lcom/example/actorium/actorium/DispatchedCell;)I"⟩ : MethodName)) hOW (mvT hZW (hw _ (List.mem_of_getElem? (i := 14) rfl))) (mvT hZW (hw _ (List.mem_of_getElem? (i := 15) rfl))) (notFace_of_selects (args := #[]) (mvT hZW (hw _ (List.mem_of_getElem? (i := 17) rfl)))) (mvT hZW (hw _ (List.mem_of_getElem? (i := 17) rfl))) (mvT hZW (hw _ (List.mem_of_getElem? (i := 16) rfl))) (by decide) (backOf (W := 0) (rm_begin l Z aZ hw [] b_49 (0 : Int32) b__55 k__55 T_55.heap n0 (Nat.le_trans Z0 K__56.1) hq_55_0 hq_55_1 hq_55_2 hq_55_3 ge_b_49 (Nat.le_trans Z0 sz_b__55) ne_b_49_b__55 (by decide)) hZW (hw _ (List.mem_of_getElem? (i := 18) rfl)) (hw _ (List.mem_of_getElem? (i := 3) rfl)) (by decide) (by decide)) q_59a q_59c (g := (mkF m 72 #[Iv p1, Iv p2, Iv (2 : Int32), Iv ee0, Iv ee1, Iv (0 : Int32), Rv b_49, Iv (1 : Int32), Us, Us, Us, Us, Us] [.null, (.ref b_49)])) rfl (by rw [hMX]; rfl) (Steps.refl _) (argsL := [.null]) (rest := []) (lenOf pd__Lcom_example_actorium_actorium_DispatchedCell__I_3 rfl) rfl (by show 2 * 0 + _ ≤ _; exact Nat.le_of_eq rfl) (hb hBY at_72) (fun _ _ => ⟨rfl, rfl, (by decide : 2 + 0 ≤ _), (by decide : 10 + 0 ≤ _)⟩)
      dsimp only [Pt.U, Pt.locs, Pt.cells, Pt.slots] at X_59 l_59 y_59 z_59 st_59 hQ_59
      subst l_59 y_59 z_59
      obtain ⟨rfl, N_59q, K_59, hq_59_0, hq_59_1, hq_59_2, hq_59_3⟩ := hQ_59
      have N_59 := Fr.app N_55 N_59q
      have K__60 : Keep h0 T_59.heap [] := K__56.trans K_59 (allS (Or.inr sz_b_49) (allS (Or.inr sz_b__55) all0))
      have f_61 : Exa Z T_59.heap b_49 "com/example/actorium/actorium/Claimant$Sends" := hq_55_0.keep K_59
      refine Done.pre (fun _ k_ => st_59.trans k_) ?_
      show Done _ _ _ _ _ _ _ (T_59.setTop (mkF m 75 #[Iv p1, Iv p2, Iv (2 : Int32), Iv ee0, Iv ee1, Iv (0 : Int32), Rv b_49, Iv (1 : Int32), Us, Us, Us, Us, Us] [(.int (0 : Int32))]))
      have f_62 : Fld Z T_59.heap b_49 "com/example/actorium/actorium/Claimant$Sends" "top" "I" (.int (1 : Int32)) := by have q := hq_59_1; rw [show ((0 : Int32) + (1 : Int32)) = (1 : Int32) from by decide] at q; exact q
      have sg_63 : ∀ tt_, Steps p.tables e below (T_59.setTop (mkF m 102 #[Iv p1, Iv p2, Iv (2 : Int32), Iv ee0, Iv ee1, Iv (0 : Int32), Rv b_49, Iv (1 : Int32), Iv (0 : Int32), Us, Us, Us, Us] [.null, (.ref b_49)])) tt_ → Steps p.tables e below (T_59.setTop (mkF m 75 #[Iv p1, Iv p2, Iv (2 : Int32), Iv ee0, Iv ee1, Iv (0 : Int32), Rv b_49, Iv (1 : Int32), Us, Us, Us, Us, Us] [(.int (0 : Int32))])) tt_ := by
        intro tt_ kt_
        refine XS.istore X_59.here hEX rfl (hb hBY at_75) rfl (l' := #[Iv p1, Iv p2, Iv (2 : Int32), Iv ee0, Iv ee1, Iv (0 : Int32), Rv b_49, Iv (1 : Int32), Iv (0 : Int32), Us, Us, Us, Us]) rfl ?_
        show Steps p.tables e below (T_59.setTop (mkF m 77 #[Iv p1, Iv p2, Iv (2 : Int32), Iv ee0, Iv ee1, Iv (0 : Int32), Rv b_49, Iv (1 : Int32), Iv (0 : Int32), Us, Us, Us, Us] [])) tt_
        refine XS.iload X_59.here hEX rfl (hb hBY at_77) rfl ?_
        show Steps p.tables e below (T_59.setTop (mkF m 79 #[Iv p1, Iv p2, Iv (2 : Int32), Iv ee0, Iv ee1, Iv (0 : Int32), Rv b_49, Iv (1 : Int32), Iv (0 : Int32), Us, Us, Us, Us] [(.int (1 : Int32))])) tt_
        refine XS.ifNo X_59.here hEX rfl (hb hBY at_79) rfl ((if0 _ _).trans (feq (by decide : ¬ ((1 : Int32) = (0 : Int32)))).1) ?_
        show Steps p.tables e below (T_59.setTop (mkF m 82 #[Iv p1, Iv p2, Iv (2 : Int32), Iv ee0, Iv ee1, Iv (0 : Int32), Rv b_49, Iv (1 : Int32), Iv (0 : Int32), Us, Us, Us, Us] [])) tt_
        refine XS.iload X_59.here hEX rfl (hb hBY at_82) rfl ?_
        show Steps p.tables e below (T_59.setTop (mkF m 84 #[Iv p1, Iv p2, Iv (2 : Int32), Iv ee0, Iv ee1, Iv (0 : Int32), Rv b_49, Iv (1 : Int32), Iv (0 : Int32), Us, Us, Us, Us] [(.int (0 : Int32))])) tt_
        refine XS.ifNo X_59.here hEX rfl (hb hBY at_84) rfl ((if0 _ _).trans (teq (by decide : (0 : Int32) = (0 : Int32))).2) ?_
        show Steps p.tables e below (T_59.setTop (mkF m 87 #[Iv p1, Iv p2, Iv (2 : Int32), Iv ee0, Iv ee1, Iv (0 : Int32), Rv b_49, Iv (1 : Int32), Iv (0 : Int32), Us, Us, Us, Us] [])) tt_
        refine XS.iconst X_59.here hEX rfl (hb hBY at_87) ?_
        show Steps p.tables e below (T_59.setTop (mkF m 88 #[Iv p1, Iv p2, Iv (2 : Int32), Iv ee0, Iv ee1, Iv (0 : Int32), Rv b_49, Iv (1 : Int32), Iv (0 : Int32), Us, Us, Us, Us] [(.int (1 : Int32))])) tt_
        refine XS.goto X_59.here hEX rfl (pc0 := 88) (pc' := 92) rfl (hb hBY at_88) (by decide) (by decide) ?_
        show Steps p.tables e below (T_59.setTop (mkF m 92 #[Iv p1, Iv p2, Iv (2 : Int32), Iv ee0, Iv ee1, Iv (0 : Int32), Rv b_49, Iv (1 : Int32), Iv (0 : Int32), Us, Us, Us, Us] [(.int (1 : Int32))])) tt_
        refine XS.istore X_59.here hEX rfl (hb hBY at_92) rfl (l' := #[Iv p1, Iv p2, Iv (2 : Int32), Iv ee0, Iv ee1, Iv (0 : Int32), Rv b_49, Iv (1 : Int32), Iv (0 : Int32), Us, Us, Us, Us]) rfl ?_
        show Steps p.tables e below (T_59.setTop (mkF m 94 #[Iv p1, Iv p2, Iv (2 : Int32), Iv ee0, Iv ee1, Iv (0 : Int32), Rv b_49, Iv (1 : Int32), Iv (0 : Int32), Us, Us, Us, Us] [])) tt_
        refine XS.iloadN X_59.here hEX rfl (hb hBY at_94) rfl ?_
        show Steps p.tables e below (T_59.setTop (mkF m 95 #[Iv p1, Iv p2, Iv (2 : Int32), Iv ee0, Iv ee1, Iv (0 : Int32), Rv b_49, Iv (1 : Int32), Iv (0 : Int32), Us, Us, Us, Us] [(.int (2 : Int32))])) tt_
        refine XS.iconst X_59.here hEX rfl (hb hBY at_95) ?_
        show Steps p.tables e below (T_59.setTop (mkF m 96 #[Iv p1, Iv p2, Iv (2 : Int32), Iv ee0, Iv ee1, Iv (0 : Int32), Rv b_49, Iv (1 : Int32), Iv (0 : Int32), Us, Us, Us, Us] [(.int (2 : Int32)), (.int (2 : Int32))])) tt_
        refine XS.icmpNo X_59.here hEX rfl (hb hBY at_96) rfl (flt (by decide : ¬ ((2 : Int32) < (2 : Int32)))).1 ?_
        show Steps p.tables e below (T_59.setTop (mkF m 99 #[Iv p1, Iv p2, Iv (2 : Int32), Iv ee0, Iv ee1, Iv (0 : Int32), Rv b_49, Iv (1 : Int32), Iv (0 : Int32), Us, Us, Us, Us] [])) tt_
        refine XS.aload X_59.here hEX rfl (hb hBY at_99) rfl rfl ?_
        show Steps p.tables e below (T_59.setTop (mkF m 101 #[Iv p1, Iv p2, Iv (2 : Int32), Iv ee0, Iv ee1, Iv (0 : Int32), Rv b_49, Iv (1 : Int32), Iv (0 : Int32), Us, Us, Us, Us] [(.ref b_49)])) tt_
        refine XS.aconstNull X_59.here hEX rfl (hb hBY at_101) ?_
        exact kt_
      refine Done.pre sg_63 ?_
      obtain ⟨cq_64, kq_64, q_64a, q_64b, q_64c⟩ := isOf hZW rfl hq_59_0
      obtain ⟨_, _, ⟨T_64, L_64, k_64, n_64⟩, -, X_64, ⟨Lc_64, hQ_64, l_64, y_64, z_64⟩, st_64⟩ := X_59.virtualBack hEX (y := (⟨"com/example/actorium/actorium/Claimant$Sends", "begin", "(Lcom/example/actorium/actorium/DispatchedCell;)I"⟩ : MethodName)) (z := (⟨"com/example/actorium/actorium/Claimant$Sends", "begin", "(Lcom/example/actorium/actorium/DispatchedCell;)I"⟩ : MethodName)) hOW (mvT hZW (hw _ (List.mem_of_getElem? (i := 14) rfl))) (mvT hZW (hw _ (List.mem_of_getElem? (i := 15) rfl))) (notFace_of_selects (args := #[]) (mvT hZW (hw _ (List.mem_of_getElem? (i := 17) rfl)))) (mvT hZW (hw _ (List.mem_of_getElem? (i := 17) rfl))) (mvT hZW (hw _ (List.mem_of_getElem? (i := 16) rfl))) (by decide) (backOf (W := 0) (rm_begin l Z aZ hw [] b_49 (1 : Int32) b__55 k__55 T_59.heap n0 (Nat.le_trans Z0 K__60.1) hq_59_0 f_62 hq_59_2 hq_59_3 ge_b_49 (Nat.le_trans Z0 sz_b__55) ne_b_49_b__55 (by decide)) hZW (hw _ (List.mem_of_getElem? (i := 18) rfl)) (hw _ (List.mem_of_getElem? (i := 3) rfl)) (by decide) (by decide)) q_64a q_64c (g := (mkF m 102 #[Iv p1, Iv p2, Iv (2 : Int32), Iv ee0, Iv ee1, Iv (0 : Int32), Rv b_49, Iv (1 : Int32), Iv (0 : Int32), Us, Us, Us, Us] [.null, (.ref b_49)])) rfl (by rw [hMX]; rfl) (Steps.refl _) (argsL := [.null]) (rest := []) (lenOf pd__Lcom_example_actorium_actorium_DispatchedCell__I_3 rfl) rfl (by show 2 * 0 + _ ≤ _; exact Nat.le_of_eq rfl) (hb hBY at_102) (fun _ _ => ⟨rfl, rfl, (by decide : 2 + 0 ≤ _), (by decide : 10 + 0 ≤ _)⟩)
      dsimp only [Pt.U, Pt.locs, Pt.cells, Pt.slots] at X_64 l_64 y_64 z_64 st_64 hQ_64
      subst l_64 y_64 z_64
      obtain ⟨rfl, N_64q, K_64, hq_64_0, hq_64_1, hq_64_2, hq_64_3⟩ := hQ_64
      have N_64 := Fr.app N_59 N_64q
      have K__65 : Keep h0 T_64.heap [] := K__60.trans K_64 (allS (Or.inr sz_b_49) (allS (Or.inr sz_b__55) all0))
      have f_66 : Exa Z T_64.heap b_49 "com/example/actorium/actorium/Claimant$Sends" := hq_59_0.keep K_64
      refine Done.pre (fun _ k_ => st_64.trans k_) ?_
      show Done _ _ _ _ _ _ _ (T_64.setTop (mkF m 105 #[Iv p1, Iv p2, Iv (2 : Int32), Iv ee0, Iv ee1, Iv (0 : Int32), Rv b_49, Iv (1 : Int32), Iv (0 : Int32), Us, Us, Us, Us] [(.int (1 : Int32))]))
      have f_67 : Fld Z T_64.heap b_49 "com/example/actorium/actorium/Claimant$Sends" "top" "I" (.int (2 : Int32)) := by have q := hq_64_1; rw [show ((1 : Int32) + (1 : Int32)) = (2 : Int32) from by decide] at q; exact q
      have sg_68 : ∀ tt_, Steps p.tables e below (T_64.setTop (mkF m 169 #[Iv p1, Iv p2, Iv (2 : Int32), Iv ee0, Iv ee1, Iv (0 : Int32), Rv b_49, Iv (1 : Int32), Iv (0 : Int32), Iv (1 : Int32), Us, Us, Us] [(.int ee1)])) tt_ → Steps p.tables e below (T_64.setTop (mkF m 105 #[Iv p1, Iv p2, Iv (2 : Int32), Iv ee0, Iv ee1, Iv (0 : Int32), Rv b_49, Iv (1 : Int32), Iv (0 : Int32), Us, Us, Us, Us] [(.int (1 : Int32))])) tt_ := by
        intro tt_ kt_
        refine XS.istore X_64.here hEX rfl (hb hBY at_105) rfl (l' := #[Iv p1, Iv p2, Iv (2 : Int32), Iv ee0, Iv ee1, Iv (0 : Int32), Rv b_49, Iv (1 : Int32), Iv (0 : Int32), Iv (1 : Int32), Us, Us, Us]) rfl ?_
        show Steps p.tables e below (T_64.setTop (mkF m 107 #[Iv p1, Iv p2, Iv (2 : Int32), Iv ee0, Iv ee1, Iv (0 : Int32), Rv b_49, Iv (1 : Int32), Iv (0 : Int32), Iv (1 : Int32), Us, Us, Us] [])) tt_
        refine XS.iload X_64.here hEX rfl (hb hBY at_107) rfl ?_
        show Steps p.tables e below (T_64.setTop (mkF m 109 #[Iv p1, Iv p2, Iv (2 : Int32), Iv ee0, Iv ee1, Iv (0 : Int32), Rv b_49, Iv (1 : Int32), Iv (0 : Int32), Iv (1 : Int32), Us, Us, Us] [(.int (1 : Int32))])) tt_
        refine XS.ifNo X_64.here hEX rfl (hb hBY at_109) rfl ((if0 _ _).trans (feq (by decide : ¬ ((1 : Int32) = (0 : Int32)))).1) ?_
        show Steps p.tables e below (T_64.setTop (mkF m 112 #[Iv p1, Iv p2, Iv (2 : Int32), Iv ee0, Iv ee1, Iv (0 : Int32), Rv b_49, Iv (1 : Int32), Iv (0 : Int32), Iv (1 : Int32), Us, Us, Us] [])) tt_
        refine XS.iload X_64.here hEX rfl (hb hBY at_112) rfl ?_
        show Steps p.tables e below (T_64.setTop (mkF m 114 #[Iv p1, Iv p2, Iv (2 : Int32), Iv ee0, Iv ee1, Iv (0 : Int32), Rv b_49, Iv (1 : Int32), Iv (0 : Int32), Iv (1 : Int32), Us, Us, Us] [(.int (1 : Int32))])) tt_
        refine XS.iconst X_64.here hEX rfl (hb hBY at_114) ?_
        show Steps p.tables e below (T_64.setTop (mkF m 115 #[Iv p1, Iv p2, Iv (2 : Int32), Iv ee0, Iv ee1, Iv (0 : Int32), Rv b_49, Iv (1 : Int32), Iv (0 : Int32), Iv (1 : Int32), Us, Us, Us] [(.int (1 : Int32)), (.int (1 : Int32))])) tt_
        refine XS.icmpNo X_64.here hEX rfl (hb hBY at_115) rfl (teq (by decide : (1 : Int32) = (1 : Int32))).2 ?_
        show Steps p.tables e below (T_64.setTop (mkF m 118 #[Iv p1, Iv p2, Iv (2 : Int32), Iv ee0, Iv ee1, Iv (0 : Int32), Rv b_49, Iv (1 : Int32), Iv (0 : Int32), Iv (1 : Int32), Us, Us, Us] [])) tt_
        refine XS.iconst X_64.here hEX rfl (hb hBY at_118) ?_
        show Steps p.tables e below (T_64.setTop (mkF m 119 #[Iv p1, Iv p2, Iv (2 : Int32), Iv ee0, Iv ee1, Iv (0 : Int32), Rv b_49, Iv (1 : Int32), Iv (0 : Int32), Iv (1 : Int32), Us, Us, Us] [(.int (1 : Int32))])) tt_
        refine XS.goto X_64.here hEX rfl (pc0 := 119) (pc' := 123) rfl (hb hBY at_119) (by decide) (by decide) ?_
        show Steps p.tables e below (T_64.setTop (mkF m 123 #[Iv p1, Iv p2, Iv (2 : Int32), Iv ee0, Iv ee1, Iv (0 : Int32), Rv b_49, Iv (1 : Int32), Iv (0 : Int32), Iv (1 : Int32), Us, Us, Us] [(.int (1 : Int32))])) tt_
        refine XS.istore X_64.here hEX rfl (hb hBY at_123) rfl (l' := #[Iv p1, Iv p2, Iv (2 : Int32), Iv ee0, Iv ee1, Iv (0 : Int32), Rv b_49, Iv (1 : Int32), Iv (0 : Int32), Iv (1 : Int32), Us, Us, Us]) rfl ?_
        show Steps p.tables e below (T_64.setTop (mkF m 125 #[Iv p1, Iv p2, Iv (2 : Int32), Iv ee0, Iv ee1, Iv (0 : Int32), Rv b_49, Iv (1 : Int32), Iv (0 : Int32), Iv (1 : Int32), Us, Us, Us] [])) tt_
        refine XS.iloadN X_64.here hEX rfl (hb hBY at_125) rfl ?_
        show Steps p.tables e below (T_64.setTop (mkF m 126 #[Iv p1, Iv p2, Iv (2 : Int32), Iv ee0, Iv ee1, Iv (0 : Int32), Rv b_49, Iv (1 : Int32), Iv (0 : Int32), Iv (1 : Int32), Us, Us, Us] [(.int (2 : Int32))])) tt_
        refine XS.iconst X_64.here hEX rfl (hb hBY at_126) ?_
        show Steps p.tables e below (T_64.setTop (mkF m 127 #[Iv p1, Iv p2, Iv (2 : Int32), Iv ee0, Iv ee1, Iv (0 : Int32), Rv b_49, Iv (1 : Int32), Iv (0 : Int32), Iv (1 : Int32), Us, Us, Us] [(.int (3 : Int32)), (.int (2 : Int32))])) tt_
        refine XS.icmpYes X_64.here hEX rfl (pc0 := 127) (pc' := 156) rfl (hb hBY at_127) rfl (tlt (by decide : (2 : Int32) < (3 : Int32))).1 (by decide) (by decide) ?_
        show Steps p.tables e below (T_64.setTop (mkF m 156 #[Iv p1, Iv p2, Iv (2 : Int32), Iv ee0, Iv ee1, Iv (0 : Int32), Rv b_49, Iv (1 : Int32), Iv (0 : Int32), Iv (1 : Int32), Us, Us, Us] [])) tt_
        refine XS.iload X_64.here hEX rfl (hb hBY at_156) rfl ?_
        show Steps p.tables e below (T_64.setTop (mkF m 158 #[Iv p1, Iv p2, Iv (2 : Int32), Iv ee0, Iv ee1, Iv (0 : Int32), Rv b_49, Iv (1 : Int32), Iv (0 : Int32), Iv (1 : Int32), Us, Us, Us] [(.int (0 : Int32))])) tt_
        refine XS.ifYes X_64.here hEX rfl (pc0 := 158) (pc' := 167) rfl (hb hBY at_158) rfl ((if0 _ _).trans (teq (by decide : (0 : Int32) = (0 : Int32))).1) (by decide) (by decide) ?_
        show Steps p.tables e below (T_64.setTop (mkF m 167 #[Iv p1, Iv p2, Iv (2 : Int32), Iv ee0, Iv ee1, Iv (0 : Int32), Rv b_49, Iv (1 : Int32), Iv (0 : Int32), Iv (1 : Int32), Us, Us, Us] [])) tt_
        refine XS.iload X_64.here hEX rfl (hb hBY at_167) rfl ?_
        exact kt_
      refine Done.pre sg_68 ?_
      by_cases hc169 : ee1 = (0 : Int32)
      · skip
        have sg_69 : ∀ tt_, Steps p.tables e below (T_64.setTop (mkF m 179 #[Iv p1, Iv p2, Iv (2 : Int32), Iv ee0, Iv ee1, Iv (0 : Int32), Rv b_49, Iv (1 : Int32), Iv (0 : Int32), Iv (1 : Int32), Us, Us, Us] [(.int ee0)])) tt_ → Steps p.tables e below (T_64.setTop (mkF m 169 #[Iv p1, Iv p2, Iv (2 : Int32), Iv ee0, Iv ee1, Iv (0 : Int32), Rv b_49, Iv (1 : Int32), Iv (0 : Int32), Iv (1 : Int32), Us, Us, Us] [(.int ee1)])) tt_ := by
          intro tt_ kt_
          refine XS.ifYes X_64.here hEX rfl (pc0 := 169) (pc' := 178) rfl (hb hBY at_169) rfl ((if0 _ _).trans (teq hc169).1) (by decide) (by decide) ?_
          show Steps p.tables e below (T_64.setTop (mkF m 178 #[Iv p1, Iv p2, Iv (2 : Int32), Iv ee0, Iv ee1, Iv (0 : Int32), Rv b_49, Iv (1 : Int32), Iv (0 : Int32), Iv (1 : Int32), Us, Us, Us] [])) tt_
          refine XS.iloadN X_64.here hEX rfl (hb hBY at_178) rfl ?_
          exact kt_
        refine Done.pre sg_69 ?_
        by_cases hc179 : ee0 = (0 : Int32)
        · skip
          have sg_70 : ∀ tt_, Steps p.tables e below (T_64.setTop (mkF m 235 #[Iv p1, Iv p2, Iv (2 : Int32), Iv ee0, Iv ee1, Iv (0 : Int32), Rv b_49, Iv (1 : Int32), Iv (0 : Int32), Iv (2 : Int32), Us, Us, Us] [(.ref b_49)])) tt_ → Steps p.tables e below (T_64.setTop (mkF m 179 #[Iv p1, Iv p2, Iv (2 : Int32), Iv ee0, Iv ee1, Iv (0 : Int32), Rv b_49, Iv (1 : Int32), Iv (0 : Int32), Iv (1 : Int32), Us, Us, Us] [(.int ee0)])) tt_ := by
            intro tt_ kt_
            refine XS.ifYes X_64.here hEX rfl (pc0 := 179) (pc' := 188) rfl (hb hBY at_179) rfl ((if0 _ _).trans (teq hc179).1) (by decide) (by decide) ?_
            show Steps p.tables e below (T_64.setTop (mkF m 188 #[Iv p1, Iv p2, Iv (2 : Int32), Iv ee0, Iv ee1, Iv (0 : Int32), Rv b_49, Iv (1 : Int32), Iv (0 : Int32), Iv (1 : Int32), Us, Us, Us] [])) tt_
            refine XS.iloadN X_64.here hEX rfl (hb hBY at_188) rfl ?_
            show Steps p.tables e below (T_64.setTop (mkF m 189 #[Iv p1, Iv p2, Iv (2 : Int32), Iv ee0, Iv ee1, Iv (0 : Int32), Rv b_49, Iv (1 : Int32), Iv (0 : Int32), Iv (1 : Int32), Us, Us, Us] [(.int (2 : Int32))])) tt_
            refine XS.iconst X_64.here hEX rfl (hb hBY at_189) ?_
            show Steps p.tables e below (T_64.setTop (mkF m 190 #[Iv p1, Iv p2, Iv (2 : Int32), Iv ee0, Iv ee1, Iv (0 : Int32), Rv b_49, Iv (1 : Int32), Iv (0 : Int32), Iv (1 : Int32), Us, Us, Us] [(.int (3 : Int32)), (.int (2 : Int32))])) tt_
            refine XS.icmpYes X_64.here hEX rfl (pc0 := 190) (pc' := 204) rfl (hb hBY at_190) rfl (tlt (by decide : (2 : Int32) < (3 : Int32))).1 (by decide) (by decide) ?_
            show Steps p.tables e below (T_64.setTop (mkF m 204 #[Iv p1, Iv p2, Iv (2 : Int32), Iv ee0, Iv ee1, Iv (0 : Int32), Rv b_49, Iv (1 : Int32), Iv (0 : Int32), Iv (1 : Int32), Us, Us, Us] [])) tt_
            refine XS.iloadN X_64.here hEX rfl (hb hBY at_204) rfl ?_
            show Steps p.tables e below (T_64.setTop (mkF m 205 #[Iv p1, Iv p2, Iv (2 : Int32), Iv ee0, Iv ee1, Iv (0 : Int32), Rv b_49, Iv (1 : Int32), Iv (0 : Int32), Iv (1 : Int32), Us, Us, Us] [(.int (2 : Int32))])) tt_
            refine XS.iconst X_64.here hEX rfl (hb hBY at_205) ?_
            show Steps p.tables e below (T_64.setTop (mkF m 206 #[Iv p1, Iv p2, Iv (2 : Int32), Iv ee0, Iv ee1, Iv (0 : Int32), Rv b_49, Iv (1 : Int32), Iv (0 : Int32), Iv (1 : Int32), Us, Us, Us] [(.int (2 : Int32)), (.int (2 : Int32))])) tt_
            refine XS.icmpNo X_64.here hEX rfl (hb hBY at_206) rfl (flt (by decide : ¬ ((2 : Int32) < (2 : Int32)))).1 ?_
            show Steps p.tables e below (T_64.setTop (mkF m 209 #[Iv p1, Iv p2, Iv (2 : Int32), Iv ee0, Iv ee1, Iv (0 : Int32), Rv b_49, Iv (1 : Int32), Iv (0 : Int32), Iv (1 : Int32), Us, Us, Us] [])) tt_
            refine XS.iload X_64.here hEX rfl (hb hBY at_209) rfl ?_
            show Steps p.tables e below (T_64.setTop (mkF m 211 #[Iv p1, Iv p2, Iv (2 : Int32), Iv ee0, Iv ee1, Iv (0 : Int32), Rv b_49, Iv (1 : Int32), Iv (0 : Int32), Iv (1 : Int32), Us, Us, Us] [(.int ee1)])) tt_
            refine XS.ifNo X_64.here hEX rfl (hb hBY at_211) rfl ((if0 _ _).trans (teq hc169).2) ?_
            show Steps p.tables e below (T_64.setTop (mkF m 214 #[Iv p1, Iv p2, Iv (2 : Int32), Iv ee0, Iv ee1, Iv (0 : Int32), Rv b_49, Iv (1 : Int32), Iv (0 : Int32), Iv (1 : Int32), Us, Us, Us] [])) tt_
            refine XS.iconst X_64.here hEX rfl (hb hBY at_214) ?_
            show Steps p.tables e below (T_64.setTop (mkF m 215 #[Iv p1, Iv p2, Iv (2 : Int32), Iv ee0, Iv ee1, Iv (0 : Int32), Rv b_49, Iv (1 : Int32), Iv (0 : Int32), Iv (1 : Int32), Us, Us, Us] [(.int (2 : Int32))])) tt_
            refine XS.istore X_64.here hEX rfl (hb hBY at_215) rfl (l' := #[Iv p1, Iv p2, Iv (2 : Int32), Iv ee0, Iv ee1, Iv (0 : Int32), Rv b_49, Iv (1 : Int32), Iv (0 : Int32), Iv (2 : Int32), Us, Us, Us]) rfl ?_
            show Steps p.tables e below (T_64.setTop (mkF m 217 #[Iv p1, Iv p2, Iv (2 : Int32), Iv ee0, Iv ee1, Iv (0 : Int32), Rv b_49, Iv (1 : Int32), Iv (0 : Int32), Iv (2 : Int32), Us, Us, Us] [])) tt_
            refine XS.goto X_64.here hEX rfl (pc0 := 217) (pc' := 233) rfl (hb hBY at_217) (by decide) (by decide) ?_
            show Steps p.tables e below (T_64.setTop (mkF m 233 #[Iv p1, Iv p2, Iv (2 : Int32), Iv ee0, Iv ee1, Iv (0 : Int32), Rv b_49, Iv (1 : Int32), Iv (0 : Int32), Iv (2 : Int32), Us, Us, Us] [])) tt_
            refine XS.aload X_64.here hEX rfl (hb hBY at_233) rfl rfl ?_
            exact kt_
          refine Done.pre sg_70 ?_
          obtain ⟨cq_71, kq_71, q_71a, q_71b, q_71c⟩ := isOf hZW rfl hq_64_0
          obtain ⟨_, _, ⟨T_71, L_71, k_71, n_71⟩, -, X_71, ⟨Lc_71, hQ_71, l_71, y_71, z_71⟩, st_71⟩ := X_64.virtualBack hEX (y := (⟨"com/example/actorium/actorium/Claimant$Sends", "depth", "()I"⟩ : MethodName)) (z := (⟨"com/example/actorium/actorium/Claimant$Sends", "depth", "()I"⟩ : MethodName)) hOW (mvT hZW (hw _ (List.mem_of_getElem? (i := 21) rfl))) (mvT hZW (hw _ (List.mem_of_getElem? (i := 22) rfl))) (notFace_of_selects (args := #[]) (mvT hZW (hw _ (List.mem_of_getElem? (i := 24) rfl)))) (mvT hZW (hw _ (List.mem_of_getElem? (i := 24) rfl))) (mvT hZW (hw _ (List.mem_of_getElem? (i := 23) rfl))) (by decide) (backOf (W := 0) (rm_depth l Z aZ hw [] b_49 (2 : Int32) T_64.heap n0 (Nat.le_trans Z0 K__65.1) f_67) hZW (hw _ (List.mem_of_getElem? (i := 25) rfl)) (hw _ (List.mem_of_getElem? (i := 3) rfl)) (by decide) (by decide)) q_71a q_71c (g := (mkF m 235 #[Iv p1, Iv p2, Iv (2 : Int32), Iv ee0, Iv ee1, Iv (0 : Int32), Rv b_49, Iv (1 : Int32), Iv (0 : Int32), Iv (2 : Int32), Us, Us, Us] [(.ref b_49)])) rfl (by rw [hMX]; rfl) (Steps.refl _) (argsL := []) (rest := []) (lenOf pd___I_0 rfl) rfl (by show 2 * 0 + _ ≤ _; exact Nat.le_of_eq rfl) (hb hBY at_235) (fun _ _ => ⟨rfl, rfl, (by decide : 2 + 0 ≤ _), (by decide : 10 + 0 ≤ _)⟩)
          dsimp only [Pt.U, Pt.locs, Pt.cells, Pt.slots] at X_71 l_71 y_71 z_71 st_71 hQ_71
          subst l_71 y_71 z_71
          obtain ⟨rfl, N_71q, e_71⟩ := hQ_71
          have N_71 := Fr.app N_64 N_71q
          refine Done.pre (fun _ k_ => st_71.trans k_) ?_
          show Done _ _ _ _ _ _ _ (T_71.setTop (mkF m 238 #[Iv p1, Iv p2, Iv (2 : Int32), Iv ee0, Iv ee1, Iv (0 : Int32), Rv b_49, Iv (1 : Int32), Iv (0 : Int32), Iv (2 : Int32), Us, Us, Us] [(.int (2 : Int32))]))
          have sg_72 : ∀ tt_, Steps p.tables e below (T_71.setTop (mkF m 262 #[Iv p1, Iv p2, Iv (2 : Int32), Iv ee0, Iv ee1, Iv (0 : Int32), Rv b_49, Iv (1 : Int32), Iv (0 : Int32), Iv (2 : Int32), Iv (2 : Int32), Us, Us] [.null, (.ref b_49)])) tt_ → Steps p.tables e below (T_71.setTop (mkF m 238 #[Iv p1, Iv p2, Iv (2 : Int32), Iv ee0, Iv ee1, Iv (0 : Int32), Rv b_49, Iv (1 : Int32), Iv (0 : Int32), Iv (2 : Int32), Us, Us, Us] [(.int (2 : Int32))])) tt_ := by
            intro tt_ kt_
            refine XS.istore X_71.here hEX rfl (hb hBY at_238) rfl (l' := #[Iv p1, Iv p2, Iv (2 : Int32), Iv ee0, Iv ee1, Iv (0 : Int32), Rv b_49, Iv (1 : Int32), Iv (0 : Int32), Iv (2 : Int32), Iv (2 : Int32), Us, Us]) rfl ?_
            show Steps p.tables e below (T_71.setTop (mkF m 240 #[Iv p1, Iv p2, Iv (2 : Int32), Iv ee0, Iv ee1, Iv (0 : Int32), Rv b_49, Iv (1 : Int32), Iv (0 : Int32), Iv (2 : Int32), Iv (2 : Int32), Us, Us] [])) tt_
            refine XS.iload X_71.here hEX rfl (hb hBY at_240) rfl ?_
            show Steps p.tables e below (T_71.setTop (mkF m 242 #[Iv p1, Iv p2, Iv (2 : Int32), Iv ee0, Iv ee1, Iv (0 : Int32), Rv b_49, Iv (1 : Int32), Iv (0 : Int32), Iv (2 : Int32), Iv (2 : Int32), Us, Us] [(.int (1 : Int32))])) tt_
            refine XS.ifNo X_71.here hEX rfl (hb hBY at_242) rfl ((if0 _ _).trans (feq (by decide : ¬ ((1 : Int32) = (0 : Int32)))).1) ?_
            show Steps p.tables e below (T_71.setTop (mkF m 245 #[Iv p1, Iv p2, Iv (2 : Int32), Iv ee0, Iv ee1, Iv (0 : Int32), Rv b_49, Iv (1 : Int32), Iv (0 : Int32), Iv (2 : Int32), Iv (2 : Int32), Us, Us] [])) tt_
            refine XS.iload X_71.here hEX rfl (hb hBY at_245) rfl ?_
            show Steps p.tables e below (T_71.setTop (mkF m 247 #[Iv p1, Iv p2, Iv (2 : Int32), Iv ee0, Iv ee1, Iv (0 : Int32), Rv b_49, Iv (1 : Int32), Iv (0 : Int32), Iv (2 : Int32), Iv (2 : Int32), Us, Us] [(.int (2 : Int32))])) tt_
            refine XS.iload X_71.here hEX rfl (hb hBY at_247) rfl ?_
            show Steps p.tables e below (T_71.setTop (mkF m 249 #[Iv p1, Iv p2, Iv (2 : Int32), Iv ee0, Iv ee1, Iv (0 : Int32), Rv b_49, Iv (1 : Int32), Iv (0 : Int32), Iv (2 : Int32), Iv (2 : Int32), Us, Us] [(.int (2 : Int32)), (.int (2 : Int32))])) tt_
            refine XS.icmpNo X_71.here hEX rfl (hb hBY at_249) rfl (teq (by decide : (2 : Int32) = (2 : Int32))).2 ?_
            show Steps p.tables e below (T_71.setTop (mkF m 252 #[Iv p1, Iv p2, Iv (2 : Int32), Iv ee0, Iv ee1, Iv (0 : Int32), Rv b_49, Iv (1 : Int32), Iv (0 : Int32), Iv (2 : Int32), Iv (2 : Int32), Us, Us] [])) tt_
            refine XS.iconst X_71.here hEX rfl (hb hBY at_252) ?_
            show Steps p.tables e below (T_71.setTop (mkF m 253 #[Iv p1, Iv p2, Iv (2 : Int32), Iv ee0, Iv ee1, Iv (0 : Int32), Rv b_49, Iv (1 : Int32), Iv (0 : Int32), Iv (2 : Int32), Iv (2 : Int32), Us, Us] [(.int (1 : Int32))])) tt_
            refine XS.goto X_71.here hEX rfl (pc0 := 253) (pc' := 257) rfl (hb hBY at_253) (by decide) (by decide) ?_
            show Steps p.tables e below (T_71.setTop (mkF m 257 #[Iv p1, Iv p2, Iv (2 : Int32), Iv ee0, Iv ee1, Iv (0 : Int32), Rv b_49, Iv (1 : Int32), Iv (0 : Int32), Iv (2 : Int32), Iv (2 : Int32), Us, Us] [(.int (1 : Int32))])) tt_
            refine XS.istore X_71.here hEX rfl (hb hBY at_257) rfl (l' := #[Iv p1, Iv p2, Iv (2 : Int32), Iv ee0, Iv ee1, Iv (0 : Int32), Rv b_49, Iv (1 : Int32), Iv (0 : Int32), Iv (2 : Int32), Iv (2 : Int32), Us, Us]) rfl ?_
            show Steps p.tables e below (T_71.setTop (mkF m 259 #[Iv p1, Iv p2, Iv (2 : Int32), Iv ee0, Iv ee1, Iv (0 : Int32), Rv b_49, Iv (1 : Int32), Iv (0 : Int32), Iv (2 : Int32), Iv (2 : Int32), Us, Us] [])) tt_
            refine XS.aload X_71.here hEX rfl (hb hBY at_259) rfl rfl ?_
            show Steps p.tables e below (T_71.setTop (mkF m 261 #[Iv p1, Iv p2, Iv (2 : Int32), Iv ee0, Iv ee1, Iv (0 : Int32), Rv b_49, Iv (1 : Int32), Iv (0 : Int32), Iv (2 : Int32), Iv (2 : Int32), Us, Us] [(.ref b_49)])) tt_
            refine XS.aconstNull X_71.here hEX rfl (hb hBY at_261) ?_
            exact kt_
          refine Done.pre sg_72 ?_
          obtain ⟨cq_73, kq_73, q_73a, q_73b, q_73c⟩ := isOf hZW e_71 hq_64_0
          obtain ⟨_, _, ⟨T_73, L_73, k_73, n_73⟩, -, X_73, ⟨Lc_73, hQ_73, l_73, y_73, z_73⟩, st_73⟩ := X_71.virtualBack hEX (y := (⟨"com/example/actorium/actorium/Claimant$Sends", "begin", "(Lcom/example/actorium/actorium/DispatchedCell;)I"⟩ : MethodName)) (z := (⟨"com/example/actorium/actorium/Claimant$Sends", "begin", "(Lcom/example/actorium/actorium/DispatchedCell;)I"⟩ : MethodName)) hOW (mvT hZW (hw _ (List.mem_of_getElem? (i := 14) rfl))) (mvT hZW (hw _ (List.mem_of_getElem? (i := 15) rfl))) (notFace_of_selects (args := #[]) (mvT hZW (hw _ (List.mem_of_getElem? (i := 17) rfl)))) (mvT hZW (hw _ (List.mem_of_getElem? (i := 17) rfl))) (mvT hZW (hw _ (List.mem_of_getElem? (i := 16) rfl))) (by decide) (backOf (W := 0) (rm_begin l Z aZ hw [] b_49 (2 : Int32) b__55 k__55 T_64.heap n0 (Nat.le_trans Z0 K__65.1) hq_64_0 f_67 hq_64_2 hq_64_3 ge_b_49 (Nat.le_trans Z0 sz_b__55) ne_b_49_b__55 (by decide)) hZW (hw _ (List.mem_of_getElem? (i := 18) rfl)) (hw _ (List.mem_of_getElem? (i := 3) rfl)) (by decide) (by decide)) q_73a q_73c (g := (mkF m 262 #[Iv p1, Iv p2, Iv (2 : Int32), Iv ee0, Iv ee1, Iv (0 : Int32), Rv b_49, Iv (1 : Int32), Iv (0 : Int32), Iv (2 : Int32), Iv (2 : Int32), Us, Us] [.null, (.ref b_49)])) rfl (by rw [hMX]; rfl) (Steps.refl _) (argsL := [.null]) (rest := []) (lenOf pd__Lcom_example_actorium_actorium_DispatchedCell__I_3 rfl) rfl (by show 2 * 0 + _ ≤ _; exact Nat.le_of_eq rfl) (hb hBY at_262) (fun _ _ => ⟨rfl, e_71, (by decide : 2 + 0 ≤ _), (by decide : 10 + 0 ≤ _)⟩)
          dsimp only [Pt.U, Pt.locs, Pt.cells, Pt.slots] at X_73 l_73 y_73 z_73 st_73 hQ_73
          subst l_73 y_73 z_73
          obtain ⟨rfl, N_73q, K_73, hq_73_0, hq_73_1, hq_73_2, hq_73_3⟩ := hQ_73
          have N_73 := Fr.app N_71 N_73q
          have K__74 : Keep h0 T_73.heap [] := K__65.trans K_73 (allS (Or.inr sz_b_49) (allS (Or.inr sz_b__55) all0))
          have f_75 : Exa Z T_73.heap b_49 "com/example/actorium/actorium/Claimant$Sends" := hq_64_0.keep K_73
          refine Done.pre (fun _ k_ => st_73.trans k_) ?_
          show Done _ _ _ _ _ _ _ (T_73.setTop (mkF m 265 #[Iv p1, Iv p2, Iv (2 : Int32), Iv ee0, Iv ee1, Iv (0 : Int32), Rv b_49, Iv (1 : Int32), Iv (0 : Int32), Iv (2 : Int32), Iv (2 : Int32), Us, Us] [(.int (2 : Int32))]))
          have f_76 : Fld Z T_73.heap b_49 "com/example/actorium/actorium/Claimant$Sends" "top" "I" (.int (3 : Int32)) := by have q := hq_73_1; rw [show ((2 : Int32) + (1 : Int32)) = (3 : Int32) from by decide] at q; exact q
          have sg_77 : ∀ tt_, Steps p.tables e below (T_73.setTop (mkF m 269 #[Iv p1, Iv p2, Iv (2 : Int32), Iv ee0, Iv ee1, Iv (0 : Int32), Rv b_49, Iv (1 : Int32), Iv (0 : Int32), Iv (2 : Int32), Iv (2 : Int32), Iv (2 : Int32), Us] [(.ref b_49)])) tt_ → Steps p.tables e below (T_73.setTop (mkF m 265 #[Iv p1, Iv p2, Iv (2 : Int32), Iv ee0, Iv ee1, Iv (0 : Int32), Rv b_49, Iv (1 : Int32), Iv (0 : Int32), Iv (2 : Int32), Iv (2 : Int32), Us, Us] [(.int (2 : Int32))])) tt_ := by
            intro tt_ kt_
            refine XS.istore X_73.here hEX rfl (hb hBY at_265) rfl (l' := #[Iv p1, Iv p2, Iv (2 : Int32), Iv ee0, Iv ee1, Iv (0 : Int32), Rv b_49, Iv (1 : Int32), Iv (0 : Int32), Iv (2 : Int32), Iv (2 : Int32), Iv (2 : Int32), Us]) rfl ?_
            show Steps p.tables e below (T_73.setTop (mkF m 267 #[Iv p1, Iv p2, Iv (2 : Int32), Iv ee0, Iv ee1, Iv (0 : Int32), Rv b_49, Iv (1 : Int32), Iv (0 : Int32), Iv (2 : Int32), Iv (2 : Int32), Iv (2 : Int32), Us] [])) tt_
            refine XS.aload X_73.here hEX rfl (hb hBY at_267) rfl rfl ?_
            exact kt_
          refine Done.pre sg_77 ?_
          obtain ⟨cq_78, kq_78, q_78a, q_78b, q_78c⟩ := isOf hZW rfl hq_73_0
          obtain ⟨_, _, ⟨T_78, L_78, k_78, n_78⟩, -, X_78, ⟨Lc_78, hQ_78, l_78, y_78, z_78⟩, st_78⟩ := X_73.virtualBack hEX (y := (⟨"com/example/actorium/actorium/Claimant$Sends", "depth", "()I"⟩ : MethodName)) (z := (⟨"com/example/actorium/actorium/Claimant$Sends", "depth", "()I"⟩ : MethodName)) hOW (mvT hZW (hw _ (List.mem_of_getElem? (i := 21) rfl))) (mvT hZW (hw _ (List.mem_of_getElem? (i := 22) rfl))) (notFace_of_selects (args := #[]) (mvT hZW (hw _ (List.mem_of_getElem? (i := 24) rfl)))) (mvT hZW (hw _ (List.mem_of_getElem? (i := 24) rfl))) (mvT hZW (hw _ (List.mem_of_getElem? (i := 23) rfl))) (by decide) (backOf (W := 0) (rm_depth l Z aZ hw [] b_49 (3 : Int32) T_73.heap n0 (Nat.le_trans Z0 K__74.1) f_76) hZW (hw _ (List.mem_of_getElem? (i := 25) rfl)) (hw _ (List.mem_of_getElem? (i := 3) rfl)) (by decide) (by decide)) q_78a q_78c (g := (mkF m 269 #[Iv p1, Iv p2, Iv (2 : Int32), Iv ee0, Iv ee1, Iv (0 : Int32), Rv b_49, Iv (1 : Int32), Iv (0 : Int32), Iv (2 : Int32), Iv (2 : Int32), Iv (2 : Int32), Us] [(.ref b_49)])) rfl (by rw [hMX]; rfl) (Steps.refl _) (argsL := []) (rest := []) (lenOf pd___I_0 rfl) rfl (by show 2 * 0 + _ ≤ _; exact Nat.le_of_eq rfl) (hb hBY at_269) (fun _ _ => ⟨rfl, rfl, (by decide : 2 + 0 ≤ _), (by decide : 10 + 0 ≤ _)⟩)
          dsimp only [Pt.U, Pt.locs, Pt.cells, Pt.slots] at X_78 l_78 y_78 z_78 st_78 hQ_78
          subst l_78 y_78 z_78
          obtain ⟨rfl, N_78q, e_78⟩ := hQ_78
          have N_78 := Fr.app N_73 N_78q
          refine Done.pre (fun _ k_ => st_78.trans k_) ?_
          show Done _ _ _ _ _ _ _ (T_78.setTop (mkF m 272 #[Iv p1, Iv p2, Iv (2 : Int32), Iv ee0, Iv ee1, Iv (0 : Int32), Rv b_49, Iv (1 : Int32), Iv (0 : Int32), Iv (2 : Int32), Iv (2 : Int32), Iv (2 : Int32), Us] [(.int (3 : Int32))]))
          have sg_79 : ∀ tt_, Steps p.tables e below (T_78.setTop (mkF m 304 #[Iv p1, Iv p2, Iv (2 : Int32), Iv ee0, Iv ee1, Iv (0 : Int32), Rv b_49, Iv (1 : Int32), Iv (0 : Int32), Iv (2 : Int32), Iv (2 : Int32), Iv (2 : Int32), Iv (3 : Int32)] [(.int (1 : Int32))])) tt_ → Steps p.tables e below (T_78.setTop (mkF m 272 #[Iv p1, Iv p2, Iv (2 : Int32), Iv ee0, Iv ee1, Iv (0 : Int32), Rv b_49, Iv (1 : Int32), Iv (0 : Int32), Iv (2 : Int32), Iv (2 : Int32), Iv (2 : Int32), Us] [(.int (3 : Int32))])) tt_ := by
            intro tt_ kt_
            refine XS.istore X_78.here hEX rfl (hb hBY at_272) rfl (l' := #[Iv p1, Iv p2, Iv (2 : Int32), Iv ee0, Iv ee1, Iv (0 : Int32), Rv b_49, Iv (1 : Int32), Iv (0 : Int32), Iv (2 : Int32), Iv (2 : Int32), Iv (2 : Int32), Iv (3 : Int32)]) rfl ?_
            show Steps p.tables e below (T_78.setTop (mkF m 274 #[Iv p1, Iv p2, Iv (2 : Int32), Iv ee0, Iv ee1, Iv (0 : Int32), Rv b_49, Iv (1 : Int32), Iv (0 : Int32), Iv (2 : Int32), Iv (2 : Int32), Iv (2 : Int32), Iv (3 : Int32)] [])) tt_
            refine XS.iload X_78.here hEX rfl (hb hBY at_274) rfl ?_
            show Steps p.tables e below (T_78.setTop (mkF m 276 #[Iv p1, Iv p2, Iv (2 : Int32), Iv ee0, Iv ee1, Iv (0 : Int32), Rv b_49, Iv (1 : Int32), Iv (0 : Int32), Iv (2 : Int32), Iv (2 : Int32), Iv (2 : Int32), Iv (3 : Int32)] [(.int (1 : Int32))])) tt_
            refine XS.ifNo X_78.here hEX rfl (hb hBY at_276) rfl ((if0 _ _).trans (feq (by decide : ¬ ((1 : Int32) = (0 : Int32)))).1) ?_
            show Steps p.tables e below (T_78.setTop (mkF m 279 #[Iv p1, Iv p2, Iv (2 : Int32), Iv ee0, Iv ee1, Iv (0 : Int32), Rv b_49, Iv (1 : Int32), Iv (0 : Int32), Iv (2 : Int32), Iv (2 : Int32), Iv (2 : Int32), Iv (3 : Int32)] [])) tt_
            refine XS.iload X_78.here hEX rfl (hb hBY at_279) rfl ?_
            show Steps p.tables e below (T_78.setTop (mkF m 281 #[Iv p1, Iv p2, Iv (2 : Int32), Iv ee0, Iv ee1, Iv (0 : Int32), Rv b_49, Iv (1 : Int32), Iv (0 : Int32), Iv (2 : Int32), Iv (2 : Int32), Iv (2 : Int32), Iv (3 : Int32)] [(.int (2 : Int32))])) tt_
            refine XS.iload X_78.here hEX rfl (hb hBY at_281) rfl ?_
            show Steps p.tables e below (T_78.setTop (mkF m 283 #[Iv p1, Iv p2, Iv (2 : Int32), Iv ee0, Iv ee1, Iv (0 : Int32), Rv b_49, Iv (1 : Int32), Iv (0 : Int32), Iv (2 : Int32), Iv (2 : Int32), Iv (2 : Int32), Iv (3 : Int32)] [(.int (2 : Int32)), (.int (2 : Int32))])) tt_
            refine XS.icmpNo X_78.here hEX rfl (hb hBY at_283) rfl (teq (by decide : (2 : Int32) = (2 : Int32))).2 ?_
            show Steps p.tables e below (T_78.setTop (mkF m 286 #[Iv p1, Iv p2, Iv (2 : Int32), Iv ee0, Iv ee1, Iv (0 : Int32), Rv b_49, Iv (1 : Int32), Iv (0 : Int32), Iv (2 : Int32), Iv (2 : Int32), Iv (2 : Int32), Iv (3 : Int32)] [])) tt_
            refine XS.iload X_78.here hEX rfl (hb hBY at_286) rfl ?_
            show Steps p.tables e below (T_78.setTop (mkF m 288 #[Iv p1, Iv p2, Iv (2 : Int32), Iv ee0, Iv ee1, Iv (0 : Int32), Rv b_49, Iv (1 : Int32), Iv (0 : Int32), Iv (2 : Int32), Iv (2 : Int32), Iv (2 : Int32), Iv (3 : Int32)] [(.int (3 : Int32))])) tt_
            refine XS.iload X_78.here hEX rfl (hb hBY at_288) rfl ?_
            show Steps p.tables e below (T_78.setTop (mkF m 290 #[Iv p1, Iv p2, Iv (2 : Int32), Iv ee0, Iv ee1, Iv (0 : Int32), Rv b_49, Iv (1 : Int32), Iv (0 : Int32), Iv (2 : Int32), Iv (2 : Int32), Iv (2 : Int32), Iv (3 : Int32)] [(.int (2 : Int32)), (.int (3 : Int32))])) tt_
            refine XS.iconst X_78.here hEX rfl (hb hBY at_290) ?_
            show Steps p.tables e below (T_78.setTop (mkF m 291 #[Iv p1, Iv p2, Iv (2 : Int32), Iv ee0, Iv ee1, Iv (0 : Int32), Rv b_49, Iv (1 : Int32), Iv (0 : Int32), Iv (2 : Int32), Iv (2 : Int32), Iv (2 : Int32), Iv (3 : Int32)] [(.int (1 : Int32)), (.int (2 : Int32)), (.int (3 : Int32))])) tt_
            refine XS.iadd X_78.here hEX rfl (hb hBY at_291) rfl ?_
            show Steps p.tables e below (T_78.setTop (mkF m 292 #[Iv p1, Iv p2, Iv (2 : Int32), Iv ee0, Iv ee1, Iv (0 : Int32), Rv b_49, Iv (1 : Int32), Iv (0 : Int32), Iv (2 : Int32), Iv (2 : Int32), Iv (2 : Int32), Iv (3 : Int32)] [(.int (3 : Int32)), (.int (3 : Int32))])) tt_
            refine XS.icmpNo X_78.here hEX rfl (hb hBY at_292) rfl (teq (by decide : (3 : Int32) = (3 : Int32))).2 ?_
            show Steps p.tables e below (T_78.setTop (mkF m 295 #[Iv p1, Iv p2, Iv (2 : Int32), Iv ee0, Iv ee1, Iv (0 : Int32), Rv b_49, Iv (1 : Int32), Iv (0 : Int32), Iv (2 : Int32), Iv (2 : Int32), Iv (2 : Int32), Iv (3 : Int32)] [])) tt_
            refine XS.iconst X_78.here hEX rfl (hb hBY at_295) ?_
            show Steps p.tables e below (T_78.setTop (mkF m 296 #[Iv p1, Iv p2, Iv (2 : Int32), Iv ee0, Iv ee1, Iv (0 : Int32), Rv b_49, Iv (1 : Int32), Iv (0 : Int32), Iv (2 : Int32), Iv (2 : Int32), Iv (2 : Int32), Iv (3 : Int32)] [(.int (1 : Int32))])) tt_
            refine XS.goto X_78.here hEX rfl (pc0 := 296) (pc' := 300) rfl (hb hBY at_296) (by decide) (by decide) ?_
            show Steps p.tables e below (T_78.setTop (mkF m 300 #[Iv p1, Iv p2, Iv (2 : Int32), Iv ee0, Iv ee1, Iv (0 : Int32), Rv b_49, Iv (1 : Int32), Iv (0 : Int32), Iv (2 : Int32), Iv (2 : Int32), Iv (2 : Int32), Iv (3 : Int32)] [(.int (1 : Int32))])) tt_
            refine XS.istore X_78.here hEX rfl (hb hBY at_300) rfl (l' := #[Iv p1, Iv p2, Iv (2 : Int32), Iv ee0, Iv ee1, Iv (0 : Int32), Rv b_49, Iv (1 : Int32), Iv (0 : Int32), Iv (2 : Int32), Iv (2 : Int32), Iv (2 : Int32), Iv (3 : Int32)]) rfl ?_
            show Steps p.tables e below (T_78.setTop (mkF m 302 #[Iv p1, Iv p2, Iv (2 : Int32), Iv ee0, Iv ee1, Iv (0 : Int32), Rv b_49, Iv (1 : Int32), Iv (0 : Int32), Iv (2 : Int32), Iv (2 : Int32), Iv (2 : Int32), Iv (3 : Int32)] [])) tt_
            refine XS.iload X_78.here hEX rfl (hb hBY at_302) rfl ?_
            exact kt_
          refine Done.pre sg_79 ?_
          exact Done.retN X_78 hEX hLK (t := .boolean) hRT (by simp) (hb hBY at_304) (by rw [e_78]; exact ⟨rfl, N_78, K__74⟩) (by decide) (by decide)
        · skip
          have sg_80 : ∀ tt_, Steps p.tables e below (T_64.setTop (mkF m 185 #[Iv p1, Iv p2, Iv (2 : Int32), Iv ee0, Iv ee1, Iv (0 : Int32), Rv b_49, Iv (1 : Int32), Iv (0 : Int32), Iv (1 : Int32), Us, Us, Us] [(.int (0 : Int32)), (.ref b_49)])) tt_ → Steps p.tables e below (T_64.setTop (mkF m 179 #[Iv p1, Iv p2, Iv (2 : Int32), Iv ee0, Iv ee1, Iv (0 : Int32), Rv b_49, Iv (1 : Int32), Iv (0 : Int32), Iv (1 : Int32), Us, Us, Us] [(.int ee0)])) tt_ := by
            intro tt_ kt_
            refine XS.ifNo X_64.here hEX rfl (hb hBY at_179) rfl ((if0 _ _).trans (feq hc179).1) ?_
            show Steps p.tables e below (T_64.setTop (mkF m 182 #[Iv p1, Iv p2, Iv (2 : Int32), Iv ee0, Iv ee1, Iv (0 : Int32), Rv b_49, Iv (1 : Int32), Iv (0 : Int32), Iv (1 : Int32), Us, Us, Us] [])) tt_
            refine XS.aload X_64.here hEX rfl (hb hBY at_182) rfl rfl ?_
            show Steps p.tables e below (T_64.setTop (mkF m 184 #[Iv p1, Iv p2, Iv (2 : Int32), Iv ee0, Iv ee1, Iv (0 : Int32), Rv b_49, Iv (1 : Int32), Iv (0 : Int32), Iv (1 : Int32), Us, Us, Us] [(.ref b_49)])) tt_
            refine XS.iconst X_64.here hEX rfl (hb hBY at_184) ?_
            exact kt_
          refine Done.pre sg_80 ?_
          obtain ⟨cq_81, kq_81, q_81a, q_81b, q_81c⟩ := isOf hZW rfl hq_64_0
          obtain ⟨_, _, ⟨T_81, L_81, k_81, n_81⟩, -, X_81, ⟨Lc_81, hQ_81, l_81, y_81, z_81⟩, st_81⟩ := X_64.virtualBack hEX (y := (⟨"com/example/actorium/actorium/Claimant$Sends", "end", "(I)V"⟩ : MethodName)) (z := (⟨"com/example/actorium/actorium/Claimant$Sends", "end", "(I)V"⟩ : MethodName)) hOW (mvT hZW (hw _ (List.mem_of_getElem? (i := 26) rfl))) (mvT hZW (hw _ (List.mem_of_getElem? (i := 27) rfl))) (notFace_of_selects (args := #[]) (mvT hZW (hw _ (List.mem_of_getElem? (i := 29) rfl)))) (mvT hZW (hw _ (List.mem_of_getElem? (i := 29) rfl))) (mvT hZW (hw _ (List.mem_of_getElem? (i := 28) rfl))) (by decide) (backOf (W := 0) (rm_end l Z aZ hw [] b_49 (0 : Int32) (2 : Int32) b__55 k__55 T_64.heap n0 (Nat.le_trans Z0 K__65.1) hq_64_0 f_67 hq_64_2 hq_64_3 ge_b_49 (Nat.le_trans Z0 sz_b__55) ne_b_49_b__55 (by decide)) hZW (hw _ (List.mem_of_getElem? (i := 30) rfl)) (hw _ (List.mem_of_getElem? (i := 3) rfl)) (by decide) (by decide)) q_81a q_81c (g := (mkF m 185 #[Iv p1, Iv p2, Iv (2 : Int32), Iv ee0, Iv ee1, Iv (0 : Int32), Rv b_49, Iv (1 : Int32), Iv (0 : Int32), Iv (1 : Int32), Us, Us, Us] [(.int (0 : Int32)), (.ref b_49)])) rfl (by rw [hMX]; rfl) (Steps.refl _) (argsL := [(.int (0 : Int32))]) (rest := []) (lenOf pd__I_V_2 rfl) rfl (by show 2 * 0 + _ ≤ _; exact Nat.le_of_eq rfl) (hb hBY at_185) (fun _ _ => ⟨rfl, rfl, (by decide : 2 + 0 ≤ _), (by decide : 10 + 0 ≤ _)⟩)
          dsimp only [Pt.U, Pt.locs, Pt.cells, Pt.slots] at X_81 l_81 y_81 z_81 st_81 hQ_81
          subst l_81 y_81 z_81
          obtain ⟨rfl, N_81q, K_81, hq_81_0, hq_81_1, hq_81_2, hq_81_3⟩ := hQ_81
          have N_81 := Fr.app N_64 N_81q
          have K__82 : Keep h0 T_81.heap [] := K__65.trans K_81 (allS (Or.inr sz_b_49) (allS (Or.inr sz_b__55) all0))
          have f_83 : Exa Z T_81.heap b_49 "com/example/actorium/actorium/Claimant$Sends" := hq_64_0.keep K_81
          refine Done.pre (fun _ k_ => st_81.trans k_) ?_
          show Done _ _ _ _ _ _ _ (T_81.setTop (mkF m 188 #[Iv p1, Iv p2, Iv (2 : Int32), Iv ee0, Iv ee1, Iv (0 : Int32), Rv b_49, Iv (1 : Int32), Iv (0 : Int32), Iv (1 : Int32), Us, Us, Us] []))
          have f_84 : Fld Z T_81.heap b_49 "com/example/actorium/actorium/Claimant$Sends" "top" "I" (.int (2 : Int32)) := by have q := hq_81_1; rw [show (own_end (2 : Int32) (0 : Int32)) = (2 : Int32) from by decide] at q; exact q
          have sg_85 : ∀ tt_, Steps p.tables e below (T_81.setTop (mkF m 235 #[Iv p1, Iv p2, Iv (2 : Int32), Iv ee0, Iv ee1, Iv (0 : Int32), Rv b_49, Iv (1 : Int32), Iv (0 : Int32), Iv (2 : Int32), Us, Us, Us] [(.ref b_49)])) tt_ → Steps p.tables e below (T_81.setTop (mkF m 188 #[Iv p1, Iv p2, Iv (2 : Int32), Iv ee0, Iv ee1, Iv (0 : Int32), Rv b_49, Iv (1 : Int32), Iv (0 : Int32), Iv (1 : Int32), Us, Us, Us] [])) tt_ := by
            intro tt_ kt_
            refine XS.iloadN X_81.here hEX rfl (hb hBY at_188) rfl ?_
            show Steps p.tables e below (T_81.setTop (mkF m 189 #[Iv p1, Iv p2, Iv (2 : Int32), Iv ee0, Iv ee1, Iv (0 : Int32), Rv b_49, Iv (1 : Int32), Iv (0 : Int32), Iv (1 : Int32), Us, Us, Us] [(.int (2 : Int32))])) tt_
            refine XS.iconst X_81.here hEX rfl (hb hBY at_189) ?_
            show Steps p.tables e below (T_81.setTop (mkF m 190 #[Iv p1, Iv p2, Iv (2 : Int32), Iv ee0, Iv ee1, Iv (0 : Int32), Rv b_49, Iv (1 : Int32), Iv (0 : Int32), Iv (1 : Int32), Us, Us, Us] [(.int (3 : Int32)), (.int (2 : Int32))])) tt_
            refine XS.icmpYes X_81.here hEX rfl (pc0 := 190) (pc' := 204) rfl (hb hBY at_190) rfl (tlt (by decide : (2 : Int32) < (3 : Int32))).1 (by decide) (by decide) ?_
            show Steps p.tables e below (T_81.setTop (mkF m 204 #[Iv p1, Iv p2, Iv (2 : Int32), Iv ee0, Iv ee1, Iv (0 : Int32), Rv b_49, Iv (1 : Int32), Iv (0 : Int32), Iv (1 : Int32), Us, Us, Us] [])) tt_
            refine XS.iloadN X_81.here hEX rfl (hb hBY at_204) rfl ?_
            show Steps p.tables e below (T_81.setTop (mkF m 205 #[Iv p1, Iv p2, Iv (2 : Int32), Iv ee0, Iv ee1, Iv (0 : Int32), Rv b_49, Iv (1 : Int32), Iv (0 : Int32), Iv (1 : Int32), Us, Us, Us] [(.int (2 : Int32))])) tt_
            refine XS.iconst X_81.here hEX rfl (hb hBY at_205) ?_
            show Steps p.tables e below (T_81.setTop (mkF m 206 #[Iv p1, Iv p2, Iv (2 : Int32), Iv ee0, Iv ee1, Iv (0 : Int32), Rv b_49, Iv (1 : Int32), Iv (0 : Int32), Iv (1 : Int32), Us, Us, Us] [(.int (2 : Int32)), (.int (2 : Int32))])) tt_
            refine XS.icmpNo X_81.here hEX rfl (hb hBY at_206) rfl (flt (by decide : ¬ ((2 : Int32) < (2 : Int32)))).1 ?_
            show Steps p.tables e below (T_81.setTop (mkF m 209 #[Iv p1, Iv p2, Iv (2 : Int32), Iv ee0, Iv ee1, Iv (0 : Int32), Rv b_49, Iv (1 : Int32), Iv (0 : Int32), Iv (1 : Int32), Us, Us, Us] [])) tt_
            refine XS.iload X_81.here hEX rfl (hb hBY at_209) rfl ?_
            show Steps p.tables e below (T_81.setTop (mkF m 211 #[Iv p1, Iv p2, Iv (2 : Int32), Iv ee0, Iv ee1, Iv (0 : Int32), Rv b_49, Iv (1 : Int32), Iv (0 : Int32), Iv (1 : Int32), Us, Us, Us] [(.int ee1)])) tt_
            refine XS.ifNo X_81.here hEX rfl (hb hBY at_211) rfl ((if0 _ _).trans (teq hc169).2) ?_
            show Steps p.tables e below (T_81.setTop (mkF m 214 #[Iv p1, Iv p2, Iv (2 : Int32), Iv ee0, Iv ee1, Iv (0 : Int32), Rv b_49, Iv (1 : Int32), Iv (0 : Int32), Iv (1 : Int32), Us, Us, Us] [])) tt_
            refine XS.iconst X_81.here hEX rfl (hb hBY at_214) ?_
            show Steps p.tables e below (T_81.setTop (mkF m 215 #[Iv p1, Iv p2, Iv (2 : Int32), Iv ee0, Iv ee1, Iv (0 : Int32), Rv b_49, Iv (1 : Int32), Iv (0 : Int32), Iv (1 : Int32), Us, Us, Us] [(.int (2 : Int32))])) tt_
            refine XS.istore X_81.here hEX rfl (hb hBY at_215) rfl (l' := #[Iv p1, Iv p2, Iv (2 : Int32), Iv ee0, Iv ee1, Iv (0 : Int32), Rv b_49, Iv (1 : Int32), Iv (0 : Int32), Iv (2 : Int32), Us, Us, Us]) rfl ?_
            show Steps p.tables e below (T_81.setTop (mkF m 217 #[Iv p1, Iv p2, Iv (2 : Int32), Iv ee0, Iv ee1, Iv (0 : Int32), Rv b_49, Iv (1 : Int32), Iv (0 : Int32), Iv (2 : Int32), Us, Us, Us] [])) tt_
            refine XS.goto X_81.here hEX rfl (pc0 := 217) (pc' := 233) rfl (hb hBY at_217) (by decide) (by decide) ?_
            show Steps p.tables e below (T_81.setTop (mkF m 233 #[Iv p1, Iv p2, Iv (2 : Int32), Iv ee0, Iv ee1, Iv (0 : Int32), Rv b_49, Iv (1 : Int32), Iv (0 : Int32), Iv (2 : Int32), Us, Us, Us] [])) tt_
            refine XS.aload X_81.here hEX rfl (hb hBY at_233) rfl rfl ?_
            exact kt_
          refine Done.pre sg_85 ?_
          obtain ⟨cq_86, kq_86, q_86a, q_86b, q_86c⟩ := isOf hZW rfl hq_81_0
          obtain ⟨_, _, ⟨T_86, L_86, k_86, n_86⟩, -, X_86, ⟨Lc_86, hQ_86, l_86, y_86, z_86⟩, st_86⟩ := X_81.virtualBack hEX (y := (⟨"com/example/actorium/actorium/Claimant$Sends", "depth", "()I"⟩ : MethodName)) (z := (⟨"com/example/actorium/actorium/Claimant$Sends", "depth", "()I"⟩ : MethodName)) hOW (mvT hZW (hw _ (List.mem_of_getElem? (i := 21) rfl))) (mvT hZW (hw _ (List.mem_of_getElem? (i := 22) rfl))) (notFace_of_selects (args := #[]) (mvT hZW (hw _ (List.mem_of_getElem? (i := 24) rfl)))) (mvT hZW (hw _ (List.mem_of_getElem? (i := 24) rfl))) (mvT hZW (hw _ (List.mem_of_getElem? (i := 23) rfl))) (by decide) (backOf (W := 0) (rm_depth l Z aZ hw [] b_49 (2 : Int32) T_81.heap n0 (Nat.le_trans Z0 K__82.1) f_84) hZW (hw _ (List.mem_of_getElem? (i := 25) rfl)) (hw _ (List.mem_of_getElem? (i := 3) rfl)) (by decide) (by decide)) q_86a q_86c (g := (mkF m 235 #[Iv p1, Iv p2, Iv (2 : Int32), Iv ee0, Iv ee1, Iv (0 : Int32), Rv b_49, Iv (1 : Int32), Iv (0 : Int32), Iv (2 : Int32), Us, Us, Us] [(.ref b_49)])) rfl (by rw [hMX]; rfl) (Steps.refl _) (argsL := []) (rest := []) (lenOf pd___I_0 rfl) rfl (by show 2 * 0 + _ ≤ _; exact Nat.le_of_eq rfl) (hb hBY at_235) (fun _ _ => ⟨rfl, rfl, (by decide : 2 + 0 ≤ _), (by decide : 10 + 0 ≤ _)⟩)
          dsimp only [Pt.U, Pt.locs, Pt.cells, Pt.slots] at X_86 l_86 y_86 z_86 st_86 hQ_86
          subst l_86 y_86 z_86
          obtain ⟨rfl, N_86q, e_86⟩ := hQ_86
          have N_86 := Fr.app N_81 N_86q
          refine Done.pre (fun _ k_ => st_86.trans k_) ?_
          show Done _ _ _ _ _ _ _ (T_86.setTop (mkF m 238 #[Iv p1, Iv p2, Iv (2 : Int32), Iv ee0, Iv ee1, Iv (0 : Int32), Rv b_49, Iv (1 : Int32), Iv (0 : Int32), Iv (2 : Int32), Us, Us, Us] [(.int (2 : Int32))]))
          have sg_87 : ∀ tt_, Steps p.tables e below (T_86.setTop (mkF m 262 #[Iv p1, Iv p2, Iv (2 : Int32), Iv ee0, Iv ee1, Iv (0 : Int32), Rv b_49, Iv (1 : Int32), Iv (0 : Int32), Iv (2 : Int32), Iv (2 : Int32), Us, Us] [.null, (.ref b_49)])) tt_ → Steps p.tables e below (T_86.setTop (mkF m 238 #[Iv p1, Iv p2, Iv (2 : Int32), Iv ee0, Iv ee1, Iv (0 : Int32), Rv b_49, Iv (1 : Int32), Iv (0 : Int32), Iv (2 : Int32), Us, Us, Us] [(.int (2 : Int32))])) tt_ := by
            intro tt_ kt_
            refine XS.istore X_86.here hEX rfl (hb hBY at_238) rfl (l' := #[Iv p1, Iv p2, Iv (2 : Int32), Iv ee0, Iv ee1, Iv (0 : Int32), Rv b_49, Iv (1 : Int32), Iv (0 : Int32), Iv (2 : Int32), Iv (2 : Int32), Us, Us]) rfl ?_
            show Steps p.tables e below (T_86.setTop (mkF m 240 #[Iv p1, Iv p2, Iv (2 : Int32), Iv ee0, Iv ee1, Iv (0 : Int32), Rv b_49, Iv (1 : Int32), Iv (0 : Int32), Iv (2 : Int32), Iv (2 : Int32), Us, Us] [])) tt_
            refine XS.iload X_86.here hEX rfl (hb hBY at_240) rfl ?_
            show Steps p.tables e below (T_86.setTop (mkF m 242 #[Iv p1, Iv p2, Iv (2 : Int32), Iv ee0, Iv ee1, Iv (0 : Int32), Rv b_49, Iv (1 : Int32), Iv (0 : Int32), Iv (2 : Int32), Iv (2 : Int32), Us, Us] [(.int (1 : Int32))])) tt_
            refine XS.ifNo X_86.here hEX rfl (hb hBY at_242) rfl ((if0 _ _).trans (feq (by decide : ¬ ((1 : Int32) = (0 : Int32)))).1) ?_
            show Steps p.tables e below (T_86.setTop (mkF m 245 #[Iv p1, Iv p2, Iv (2 : Int32), Iv ee0, Iv ee1, Iv (0 : Int32), Rv b_49, Iv (1 : Int32), Iv (0 : Int32), Iv (2 : Int32), Iv (2 : Int32), Us, Us] [])) tt_
            refine XS.iload X_86.here hEX rfl (hb hBY at_245) rfl ?_
            show Steps p.tables e below (T_86.setTop (mkF m 247 #[Iv p1, Iv p2, Iv (2 : Int32), Iv ee0, Iv ee1, Iv (0 : Int32), Rv b_49, Iv (1 : Int32), Iv (0 : Int32), Iv (2 : Int32), Iv (2 : Int32), Us, Us] [(.int (2 : Int32))])) tt_
            refine XS.iload X_86.here hEX rfl (hb hBY at_247) rfl ?_
            show Steps p.tables e below (T_86.setTop (mkF m 249 #[Iv p1, Iv p2, Iv (2 : Int32), Iv ee0, Iv ee1, Iv (0 : Int32), Rv b_49, Iv (1 : Int32), Iv (0 : Int32), Iv (2 : Int32), Iv (2 : Int32), Us, Us] [(.int (2 : Int32)), (.int (2 : Int32))])) tt_
            refine XS.icmpNo X_86.here hEX rfl (hb hBY at_249) rfl (teq (by decide : (2 : Int32) = (2 : Int32))).2 ?_
            show Steps p.tables e below (T_86.setTop (mkF m 252 #[Iv p1, Iv p2, Iv (2 : Int32), Iv ee0, Iv ee1, Iv (0 : Int32), Rv b_49, Iv (1 : Int32), Iv (0 : Int32), Iv (2 : Int32), Iv (2 : Int32), Us, Us] [])) tt_
            refine XS.iconst X_86.here hEX rfl (hb hBY at_252) ?_
            show Steps p.tables e below (T_86.setTop (mkF m 253 #[Iv p1, Iv p2, Iv (2 : Int32), Iv ee0, Iv ee1, Iv (0 : Int32), Rv b_49, Iv (1 : Int32), Iv (0 : Int32), Iv (2 : Int32), Iv (2 : Int32), Us, Us] [(.int (1 : Int32))])) tt_
            refine XS.goto X_86.here hEX rfl (pc0 := 253) (pc' := 257) rfl (hb hBY at_253) (by decide) (by decide) ?_
            show Steps p.tables e below (T_86.setTop (mkF m 257 #[Iv p1, Iv p2, Iv (2 : Int32), Iv ee0, Iv ee1, Iv (0 : Int32), Rv b_49, Iv (1 : Int32), Iv (0 : Int32), Iv (2 : Int32), Iv (2 : Int32), Us, Us] [(.int (1 : Int32))])) tt_
            refine XS.istore X_86.here hEX rfl (hb hBY at_257) rfl (l' := #[Iv p1, Iv p2, Iv (2 : Int32), Iv ee0, Iv ee1, Iv (0 : Int32), Rv b_49, Iv (1 : Int32), Iv (0 : Int32), Iv (2 : Int32), Iv (2 : Int32), Us, Us]) rfl ?_
            show Steps p.tables e below (T_86.setTop (mkF m 259 #[Iv p1, Iv p2, Iv (2 : Int32), Iv ee0, Iv ee1, Iv (0 : Int32), Rv b_49, Iv (1 : Int32), Iv (0 : Int32), Iv (2 : Int32), Iv (2 : Int32), Us, Us] [])) tt_
            refine XS.aload X_86.here hEX rfl (hb hBY at_259) rfl rfl ?_
            show Steps p.tables e below (T_86.setTop (mkF m 261 #[Iv p1, Iv p2, Iv (2 : Int32), Iv ee0, Iv ee1, Iv (0 : Int32), Rv b_49, Iv (1 : Int32), Iv (0 : Int32), Iv (2 : Int32), Iv (2 : Int32), Us, Us] [(.ref b_49)])) tt_
            refine XS.aconstNull X_86.here hEX rfl (hb hBY at_261) ?_
            exact kt_
          refine Done.pre sg_87 ?_
          obtain ⟨cq_88, kq_88, q_88a, q_88b, q_88c⟩ := isOf hZW e_86 hq_81_0
          obtain ⟨_, _, ⟨T_88, L_88, k_88, n_88⟩, -, X_88, ⟨Lc_88, hQ_88, l_88, y_88, z_88⟩, st_88⟩ := X_86.virtualBack hEX (y := (⟨"com/example/actorium/actorium/Claimant$Sends", "begin", "(Lcom/example/actorium/actorium/DispatchedCell;)I"⟩ : MethodName)) (z := (⟨"com/example/actorium/actorium/Claimant$Sends", "begin", "(Lcom/example/actorium/actorium/DispatchedCell;)I"⟩ : MethodName)) hOW (mvT hZW (hw _ (List.mem_of_getElem? (i := 14) rfl))) (mvT hZW (hw _ (List.mem_of_getElem? (i := 15) rfl))) (notFace_of_selects (args := #[]) (mvT hZW (hw _ (List.mem_of_getElem? (i := 17) rfl)))) (mvT hZW (hw _ (List.mem_of_getElem? (i := 17) rfl))) (mvT hZW (hw _ (List.mem_of_getElem? (i := 16) rfl))) (by decide) (backOf (W := 0) (rm_begin l Z aZ hw [] b_49 (2 : Int32) b__55 k__55 T_81.heap n0 (Nat.le_trans Z0 K__82.1) hq_81_0 f_84 hq_81_2 hq_81_3 ge_b_49 (Nat.le_trans Z0 sz_b__55) ne_b_49_b__55 (by decide)) hZW (hw _ (List.mem_of_getElem? (i := 18) rfl)) (hw _ (List.mem_of_getElem? (i := 3) rfl)) (by decide) (by decide)) q_88a q_88c (g := (mkF m 262 #[Iv p1, Iv p2, Iv (2 : Int32), Iv ee0, Iv ee1, Iv (0 : Int32), Rv b_49, Iv (1 : Int32), Iv (0 : Int32), Iv (2 : Int32), Iv (2 : Int32), Us, Us] [.null, (.ref b_49)])) rfl (by rw [hMX]; rfl) (Steps.refl _) (argsL := [.null]) (rest := []) (lenOf pd__Lcom_example_actorium_actorium_DispatchedCell__I_3 rfl) rfl (by show 2 * 0 + _ ≤ _; exact Nat.le_of_eq rfl) (hb hBY at_262) (fun _ _ => ⟨rfl, e_86, (by decide : 2 + 0 ≤ _), (by decide : 10 + 0 ≤ _)⟩)
          dsimp only [Pt.U, Pt.locs, Pt.cells, Pt.slots] at X_88 l_88 y_88 z_88 st_88 hQ_88
          subst l_88 y_88 z_88
          obtain ⟨rfl, N_88q, K_88, hq_88_0, hq_88_1, hq_88_2, hq_88_3⟩ := hQ_88
          have N_88 := Fr.app N_86 N_88q
          have K__89 : Keep h0 T_88.heap [] := K__82.trans K_88 (allS (Or.inr sz_b_49) (allS (Or.inr sz_b__55) all0))
          have f_90 : Exa Z T_88.heap b_49 "com/example/actorium/actorium/Claimant$Sends" := hq_81_0.keep K_88
          refine Done.pre (fun _ k_ => st_88.trans k_) ?_
          show Done _ _ _ _ _ _ _ (T_88.setTop (mkF m 265 #[Iv p1, Iv p2, Iv (2 : Int32), Iv ee0, Iv ee1, Iv (0 : Int32), Rv b_49, Iv (1 : Int32), Iv (0 : Int32), Iv (2 : Int32), Iv (2 : Int32), Us, Us] [(.int (2 : Int32))]))
          have f_91 : Fld Z T_88.heap b_49 "com/example/actorium/actorium/Claimant$Sends" "top" "I" (.int (3 : Int32)) := by have q := hq_88_1; rw [show ((2 : Int32) + (1 : Int32)) = (3 : Int32) from by decide] at q; exact q
          have sg_92 : ∀ tt_, Steps p.tables e below (T_88.setTop (mkF m 269 #[Iv p1, Iv p2, Iv (2 : Int32), Iv ee0, Iv ee1, Iv (0 : Int32), Rv b_49, Iv (1 : Int32), Iv (0 : Int32), Iv (2 : Int32), Iv (2 : Int32), Iv (2 : Int32), Us] [(.ref b_49)])) tt_ → Steps p.tables e below (T_88.setTop (mkF m 265 #[Iv p1, Iv p2, Iv (2 : Int32), Iv ee0, Iv ee1, Iv (0 : Int32), Rv b_49, Iv (1 : Int32), Iv (0 : Int32), Iv (2 : Int32), Iv (2 : Int32), Us, Us] [(.int (2 : Int32))])) tt_ := by
            intro tt_ kt_
            refine XS.istore X_88.here hEX rfl (hb hBY at_265) rfl (l' := #[Iv p1, Iv p2, Iv (2 : Int32), Iv ee0, Iv ee1, Iv (0 : Int32), Rv b_49, Iv (1 : Int32), Iv (0 : Int32), Iv (2 : Int32), Iv (2 : Int32), Iv (2 : Int32), Us]) rfl ?_
            show Steps p.tables e below (T_88.setTop (mkF m 267 #[Iv p1, Iv p2, Iv (2 : Int32), Iv ee0, Iv ee1, Iv (0 : Int32), Rv b_49, Iv (1 : Int32), Iv (0 : Int32), Iv (2 : Int32), Iv (2 : Int32), Iv (2 : Int32), Us] [])) tt_
            refine XS.aload X_88.here hEX rfl (hb hBY at_267) rfl rfl ?_
            exact kt_
          refine Done.pre sg_92 ?_
          obtain ⟨cq_93, kq_93, q_93a, q_93b, q_93c⟩ := isOf hZW rfl hq_88_0
          obtain ⟨_, _, ⟨T_93, L_93, k_93, n_93⟩, -, X_93, ⟨Lc_93, hQ_93, l_93, y_93, z_93⟩, st_93⟩ := X_88.virtualBack hEX (y := (⟨"com/example/actorium/actorium/Claimant$Sends", "depth", "()I"⟩ : MethodName)) (z := (⟨"com/example/actorium/actorium/Claimant$Sends", "depth", "()I"⟩ : MethodName)) hOW (mvT hZW (hw _ (List.mem_of_getElem? (i := 21) rfl))) (mvT hZW (hw _ (List.mem_of_getElem? (i := 22) rfl))) (notFace_of_selects (args := #[]) (mvT hZW (hw _ (List.mem_of_getElem? (i := 24) rfl)))) (mvT hZW (hw _ (List.mem_of_getElem? (i := 24) rfl))) (mvT hZW (hw _ (List.mem_of_getElem? (i := 23) rfl))) (by decide) (backOf (W := 0) (rm_depth l Z aZ hw [] b_49 (3 : Int32) T_88.heap n0 (Nat.le_trans Z0 K__89.1) f_91) hZW (hw _ (List.mem_of_getElem? (i := 25) rfl)) (hw _ (List.mem_of_getElem? (i := 3) rfl)) (by decide) (by decide)) q_93a q_93c (g := (mkF m 269 #[Iv p1, Iv p2, Iv (2 : Int32), Iv ee0, Iv ee1, Iv (0 : Int32), Rv b_49, Iv (1 : Int32), Iv (0 : Int32), Iv (2 : Int32), Iv (2 : Int32), Iv (2 : Int32), Us] [(.ref b_49)])) rfl (by rw [hMX]; rfl) (Steps.refl _) (argsL := []) (rest := []) (lenOf pd___I_0 rfl) rfl (by show 2 * 0 + _ ≤ _; exact Nat.le_of_eq rfl) (hb hBY at_269) (fun _ _ => ⟨rfl, rfl, (by decide : 2 + 0 ≤ _), (by decide : 10 + 0 ≤ _)⟩)
          dsimp only [Pt.U, Pt.locs, Pt.cells, Pt.slots] at X_93 l_93 y_93 z_93 st_93 hQ_93
          subst l_93 y_93 z_93
          obtain ⟨rfl, N_93q, e_93⟩ := hQ_93
          have N_93 := Fr.app N_88 N_93q
          refine Done.pre (fun _ k_ => st_93.trans k_) ?_
          show Done _ _ _ _ _ _ _ (T_93.setTop (mkF m 272 #[Iv p1, Iv p2, Iv (2 : Int32), Iv ee0, Iv ee1, Iv (0 : Int32), Rv b_49, Iv (1 : Int32), Iv (0 : Int32), Iv (2 : Int32), Iv (2 : Int32), Iv (2 : Int32), Us] [(.int (3 : Int32))]))
          have sg_94 : ∀ tt_, Steps p.tables e below (T_93.setTop (mkF m 304 #[Iv p1, Iv p2, Iv (2 : Int32), Iv ee0, Iv ee1, Iv (0 : Int32), Rv b_49, Iv (1 : Int32), Iv (0 : Int32), Iv (2 : Int32), Iv (2 : Int32), Iv (2 : Int32), Iv (3 : Int32)] [(.int (1 : Int32))])) tt_ → Steps p.tables e below (T_93.setTop (mkF m 272 #[Iv p1, Iv p2, Iv (2 : Int32), Iv ee0, Iv ee1, Iv (0 : Int32), Rv b_49, Iv (1 : Int32), Iv (0 : Int32), Iv (2 : Int32), Iv (2 : Int32), Iv (2 : Int32), Us] [(.int (3 : Int32))])) tt_ := by
            intro tt_ kt_
            refine XS.istore X_93.here hEX rfl (hb hBY at_272) rfl (l' := #[Iv p1, Iv p2, Iv (2 : Int32), Iv ee0, Iv ee1, Iv (0 : Int32), Rv b_49, Iv (1 : Int32), Iv (0 : Int32), Iv (2 : Int32), Iv (2 : Int32), Iv (2 : Int32), Iv (3 : Int32)]) rfl ?_
            show Steps p.tables e below (T_93.setTop (mkF m 274 #[Iv p1, Iv p2, Iv (2 : Int32), Iv ee0, Iv ee1, Iv (0 : Int32), Rv b_49, Iv (1 : Int32), Iv (0 : Int32), Iv (2 : Int32), Iv (2 : Int32), Iv (2 : Int32), Iv (3 : Int32)] [])) tt_
            refine XS.iload X_93.here hEX rfl (hb hBY at_274) rfl ?_
            show Steps p.tables e below (T_93.setTop (mkF m 276 #[Iv p1, Iv p2, Iv (2 : Int32), Iv ee0, Iv ee1, Iv (0 : Int32), Rv b_49, Iv (1 : Int32), Iv (0 : Int32), Iv (2 : Int32), Iv (2 : Int32), Iv (2 : Int32), Iv (3 : Int32)] [(.int (1 : Int32))])) tt_
            refine XS.ifNo X_93.here hEX rfl (hb hBY at_276) rfl ((if0 _ _).trans (feq (by decide : ¬ ((1 : Int32) = (0 : Int32)))).1) ?_
            show Steps p.tables e below (T_93.setTop (mkF m 279 #[Iv p1, Iv p2, Iv (2 : Int32), Iv ee0, Iv ee1, Iv (0 : Int32), Rv b_49, Iv (1 : Int32), Iv (0 : Int32), Iv (2 : Int32), Iv (2 : Int32), Iv (2 : Int32), Iv (3 : Int32)] [])) tt_
            refine XS.iload X_93.here hEX rfl (hb hBY at_279) rfl ?_
            show Steps p.tables e below (T_93.setTop (mkF m 281 #[Iv p1, Iv p2, Iv (2 : Int32), Iv ee0, Iv ee1, Iv (0 : Int32), Rv b_49, Iv (1 : Int32), Iv (0 : Int32), Iv (2 : Int32), Iv (2 : Int32), Iv (2 : Int32), Iv (3 : Int32)] [(.int (2 : Int32))])) tt_
            refine XS.iload X_93.here hEX rfl (hb hBY at_281) rfl ?_
            show Steps p.tables e below (T_93.setTop (mkF m 283 #[Iv p1, Iv p2, Iv (2 : Int32), Iv ee0, Iv ee1, Iv (0 : Int32), Rv b_49, Iv (1 : Int32), Iv (0 : Int32), Iv (2 : Int32), Iv (2 : Int32), Iv (2 : Int32), Iv (3 : Int32)] [(.int (2 : Int32)), (.int (2 : Int32))])) tt_
            refine XS.icmpNo X_93.here hEX rfl (hb hBY at_283) rfl (teq (by decide : (2 : Int32) = (2 : Int32))).2 ?_
            show Steps p.tables e below (T_93.setTop (mkF m 286 #[Iv p1, Iv p2, Iv (2 : Int32), Iv ee0, Iv ee1, Iv (0 : Int32), Rv b_49, Iv (1 : Int32), Iv (0 : Int32), Iv (2 : Int32), Iv (2 : Int32), Iv (2 : Int32), Iv (3 : Int32)] [])) tt_
            refine XS.iload X_93.here hEX rfl (hb hBY at_286) rfl ?_
            show Steps p.tables e below (T_93.setTop (mkF m 288 #[Iv p1, Iv p2, Iv (2 : Int32), Iv ee0, Iv ee1, Iv (0 : Int32), Rv b_49, Iv (1 : Int32), Iv (0 : Int32), Iv (2 : Int32), Iv (2 : Int32), Iv (2 : Int32), Iv (3 : Int32)] [(.int (3 : Int32))])) tt_
            refine XS.iload X_93.here hEX rfl (hb hBY at_288) rfl ?_
            show Steps p.tables e below (T_93.setTop (mkF m 290 #[Iv p1, Iv p2, Iv (2 : Int32), Iv ee0, Iv ee1, Iv (0 : Int32), Rv b_49, Iv (1 : Int32), Iv (0 : Int32), Iv (2 : Int32), Iv (2 : Int32), Iv (2 : Int32), Iv (3 : Int32)] [(.int (2 : Int32)), (.int (3 : Int32))])) tt_
            refine XS.iconst X_93.here hEX rfl (hb hBY at_290) ?_
            show Steps p.tables e below (T_93.setTop (mkF m 291 #[Iv p1, Iv p2, Iv (2 : Int32), Iv ee0, Iv ee1, Iv (0 : Int32), Rv b_49, Iv (1 : Int32), Iv (0 : Int32), Iv (2 : Int32), Iv (2 : Int32), Iv (2 : Int32), Iv (3 : Int32)] [(.int (1 : Int32)), (.int (2 : Int32)), (.int (3 : Int32))])) tt_
            refine XS.iadd X_93.here hEX rfl (hb hBY at_291) rfl ?_
            show Steps p.tables e below (T_93.setTop (mkF m 292 #[Iv p1, Iv p2, Iv (2 : Int32), Iv ee0, Iv ee1, Iv (0 : Int32), Rv b_49, Iv (1 : Int32), Iv (0 : Int32), Iv (2 : Int32), Iv (2 : Int32), Iv (2 : Int32), Iv (3 : Int32)] [(.int (3 : Int32)), (.int (3 : Int32))])) tt_
            refine XS.icmpNo X_93.here hEX rfl (hb hBY at_292) rfl (teq (by decide : (3 : Int32) = (3 : Int32))).2 ?_
            show Steps p.tables e below (T_93.setTop (mkF m 295 #[Iv p1, Iv p2, Iv (2 : Int32), Iv ee0, Iv ee1, Iv (0 : Int32), Rv b_49, Iv (1 : Int32), Iv (0 : Int32), Iv (2 : Int32), Iv (2 : Int32), Iv (2 : Int32), Iv (3 : Int32)] [])) tt_
            refine XS.iconst X_93.here hEX rfl (hb hBY at_295) ?_
            show Steps p.tables e below (T_93.setTop (mkF m 296 #[Iv p1, Iv p2, Iv (2 : Int32), Iv ee0, Iv ee1, Iv (0 : Int32), Rv b_49, Iv (1 : Int32), Iv (0 : Int32), Iv (2 : Int32), Iv (2 : Int32), Iv (2 : Int32), Iv (3 : Int32)] [(.int (1 : Int32))])) tt_
            refine XS.goto X_93.here hEX rfl (pc0 := 296) (pc' := 300) rfl (hb hBY at_296) (by decide) (by decide) ?_
            show Steps p.tables e below (T_93.setTop (mkF m 300 #[Iv p1, Iv p2, Iv (2 : Int32), Iv ee0, Iv ee1, Iv (0 : Int32), Rv b_49, Iv (1 : Int32), Iv (0 : Int32), Iv (2 : Int32), Iv (2 : Int32), Iv (2 : Int32), Iv (3 : Int32)] [(.int (1 : Int32))])) tt_
            refine XS.istore X_93.here hEX rfl (hb hBY at_300) rfl (l' := #[Iv p1, Iv p2, Iv (2 : Int32), Iv ee0, Iv ee1, Iv (0 : Int32), Rv b_49, Iv (1 : Int32), Iv (0 : Int32), Iv (2 : Int32), Iv (2 : Int32), Iv (2 : Int32), Iv (3 : Int32)]) rfl ?_
            show Steps p.tables e below (T_93.setTop (mkF m 302 #[Iv p1, Iv p2, Iv (2 : Int32), Iv ee0, Iv ee1, Iv (0 : Int32), Rv b_49, Iv (1 : Int32), Iv (0 : Int32), Iv (2 : Int32), Iv (2 : Int32), Iv (2 : Int32), Iv (3 : Int32)] [])) tt_
            refine XS.iload X_93.here hEX rfl (hb hBY at_302) rfl ?_
            exact kt_
          refine Done.pre sg_94 ?_
          exact Done.retN X_93 hEX hLK (t := .boolean) hRT (by simp) (hb hBY at_304) (by rw [e_93]; exact ⟨rfl, N_93, K__89⟩) (by decide) (by decide)
      · skip
        have sg_95 : ∀ tt_, Steps p.tables e below (T_64.setTop (mkF m 175 #[Iv p1, Iv p2, Iv (2 : Int32), Iv ee0, Iv ee1, Iv (0 : Int32), Rv b_49, Iv (1 : Int32), Iv (0 : Int32), Iv (1 : Int32), Us, Us, Us] [(.int (1 : Int32)), (.ref b_49)])) tt_ → Steps p.tables e below (T_64.setTop (mkF m 169 #[Iv p1, Iv p2, Iv (2 : Int32), Iv ee0, Iv ee1, Iv (0 : Int32), Rv b_49, Iv (1 : Int32), Iv (0 : Int32), Iv (1 : Int32), Us, Us, Us] [(.int ee1)])) tt_ := by
          intro tt_ kt_
          refine XS.ifNo X_64.here hEX rfl (hb hBY at_169) rfl ((if0 _ _).trans (feq hc169).1) ?_
          show Steps p.tables e below (T_64.setTop (mkF m 172 #[Iv p1, Iv p2, Iv (2 : Int32), Iv ee0, Iv ee1, Iv (0 : Int32), Rv b_49, Iv (1 : Int32), Iv (0 : Int32), Iv (1 : Int32), Us, Us, Us] [])) tt_
          refine XS.aload X_64.here hEX rfl (hb hBY at_172) rfl rfl ?_
          show Steps p.tables e below (T_64.setTop (mkF m 174 #[Iv p1, Iv p2, Iv (2 : Int32), Iv ee0, Iv ee1, Iv (0 : Int32), Rv b_49, Iv (1 : Int32), Iv (0 : Int32), Iv (1 : Int32), Us, Us, Us] [(.ref b_49)])) tt_
          refine XS.iconst X_64.here hEX rfl (hb hBY at_174) ?_
          exact kt_
        refine Done.pre sg_95 ?_
        obtain ⟨cq_96, kq_96, q_96a, q_96b, q_96c⟩ := isOf hZW rfl hq_64_0
        obtain ⟨_, _, ⟨T_96, L_96, k_96, n_96⟩, -, X_96, ⟨Lc_96, hQ_96, l_96, y_96, z_96⟩, st_96⟩ := X_64.virtualBack hEX (y := (⟨"com/example/actorium/actorium/Claimant$Sends", "end", "(I)V"⟩ : MethodName)) (z := (⟨"com/example/actorium/actorium/Claimant$Sends", "end", "(I)V"⟩ : MethodName)) hOW (mvT hZW (hw _ (List.mem_of_getElem? (i := 26) rfl))) (mvT hZW (hw _ (List.mem_of_getElem? (i := 27) rfl))) (notFace_of_selects (args := #[]) (mvT hZW (hw _ (List.mem_of_getElem? (i := 29) rfl)))) (mvT hZW (hw _ (List.mem_of_getElem? (i := 29) rfl))) (mvT hZW (hw _ (List.mem_of_getElem? (i := 28) rfl))) (by decide) (backOf (W := 0) (rm_end l Z aZ hw [] b_49 (1 : Int32) (2 : Int32) b__55 k__55 T_64.heap n0 (Nat.le_trans Z0 K__65.1) hq_64_0 f_67 hq_64_2 hq_64_3 ge_b_49 (Nat.le_trans Z0 sz_b__55) ne_b_49_b__55 (by decide)) hZW (hw _ (List.mem_of_getElem? (i := 30) rfl)) (hw _ (List.mem_of_getElem? (i := 3) rfl)) (by decide) (by decide)) q_96a q_96c (g := (mkF m 175 #[Iv p1, Iv p2, Iv (2 : Int32), Iv ee0, Iv ee1, Iv (0 : Int32), Rv b_49, Iv (1 : Int32), Iv (0 : Int32), Iv (1 : Int32), Us, Us, Us] [(.int (1 : Int32)), (.ref b_49)])) rfl (by rw [hMX]; rfl) (Steps.refl _) (argsL := [(.int (1 : Int32))]) (rest := []) (lenOf pd__I_V_2 rfl) rfl (by show 2 * 0 + _ ≤ _; exact Nat.le_of_eq rfl) (hb hBY at_175) (fun _ _ => ⟨rfl, rfl, (by decide : 2 + 0 ≤ _), (by decide : 10 + 0 ≤ _)⟩)
        dsimp only [Pt.U, Pt.locs, Pt.cells, Pt.slots] at X_96 l_96 y_96 z_96 st_96 hQ_96
        subst l_96 y_96 z_96
        obtain ⟨rfl, N_96q, K_96, hq_96_0, hq_96_1, hq_96_2, hq_96_3⟩ := hQ_96
        have N_96 := Fr.app N_64 N_96q
        have K__97 : Keep h0 T_96.heap [] := K__65.trans K_96 (allS (Or.inr sz_b_49) (allS (Or.inr sz_b__55) all0))
        have f_98 : Exa Z T_96.heap b_49 "com/example/actorium/actorium/Claimant$Sends" := hq_64_0.keep K_96
        refine Done.pre (fun _ k_ => st_96.trans k_) ?_
        show Done _ _ _ _ _ _ _ (T_96.setTop (mkF m 178 #[Iv p1, Iv p2, Iv (2 : Int32), Iv ee0, Iv ee1, Iv (0 : Int32), Rv b_49, Iv (1 : Int32), Iv (0 : Int32), Iv (1 : Int32), Us, Us, Us] []))
        have f_99 : Fld Z T_96.heap b_49 "com/example/actorium/actorium/Claimant$Sends" "top" "I" (.int (1 : Int32)) := by have q := hq_96_1; rw [show (own_end (2 : Int32) (1 : Int32)) = (1 : Int32) from by decide] at q; exact q
        have sg_100 : ∀ tt_, Steps p.tables e below (T_96.setTop (mkF m 179 #[Iv p1, Iv p2, Iv (2 : Int32), Iv ee0, Iv ee1, Iv (0 : Int32), Rv b_49, Iv (1 : Int32), Iv (0 : Int32), Iv (1 : Int32), Us, Us, Us] [(.int ee0)])) tt_ → Steps p.tables e below (T_96.setTop (mkF m 178 #[Iv p1, Iv p2, Iv (2 : Int32), Iv ee0, Iv ee1, Iv (0 : Int32), Rv b_49, Iv (1 : Int32), Iv (0 : Int32), Iv (1 : Int32), Us, Us, Us] [])) tt_ := by
          intro tt_ kt_
          refine XS.iloadN X_96.here hEX rfl (hb hBY at_178) rfl ?_
          exact kt_
        refine Done.pre sg_100 ?_
        by_cases hc179 : ee0 = (0 : Int32)
        · skip
          have sg_101 : ∀ tt_, Steps p.tables e below (T_96.setTop (mkF m 235 #[Iv p1, Iv p2, Iv (2 : Int32), Iv ee0, Iv ee1, Iv (0 : Int32), Rv b_49, Iv (1 : Int32), Iv (0 : Int32), Iv (1 : Int32), Us, Us, Us] [(.ref b_49)])) tt_ → Steps p.tables e below (T_96.setTop (mkF m 179 #[Iv p1, Iv p2, Iv (2 : Int32), Iv ee0, Iv ee1, Iv (0 : Int32), Rv b_49, Iv (1 : Int32), Iv (0 : Int32), Iv (1 : Int32), Us, Us, Us] [(.int ee0)])) tt_ := by
            intro tt_ kt_
            refine XS.ifYes X_96.here hEX rfl (pc0 := 179) (pc' := 188) rfl (hb hBY at_179) rfl ((if0 _ _).trans (teq hc179).1) (by decide) (by decide) ?_
            show Steps p.tables e below (T_96.setTop (mkF m 188 #[Iv p1, Iv p2, Iv (2 : Int32), Iv ee0, Iv ee1, Iv (0 : Int32), Rv b_49, Iv (1 : Int32), Iv (0 : Int32), Iv (1 : Int32), Us, Us, Us] [])) tt_
            refine XS.iloadN X_96.here hEX rfl (hb hBY at_188) rfl ?_
            show Steps p.tables e below (T_96.setTop (mkF m 189 #[Iv p1, Iv p2, Iv (2 : Int32), Iv ee0, Iv ee1, Iv (0 : Int32), Rv b_49, Iv (1 : Int32), Iv (0 : Int32), Iv (1 : Int32), Us, Us, Us] [(.int (2 : Int32))])) tt_
            refine XS.iconst X_96.here hEX rfl (hb hBY at_189) ?_
            show Steps p.tables e below (T_96.setTop (mkF m 190 #[Iv p1, Iv p2, Iv (2 : Int32), Iv ee0, Iv ee1, Iv (0 : Int32), Rv b_49, Iv (1 : Int32), Iv (0 : Int32), Iv (1 : Int32), Us, Us, Us] [(.int (3 : Int32)), (.int (2 : Int32))])) tt_
            refine XS.icmpYes X_96.here hEX rfl (pc0 := 190) (pc' := 204) rfl (hb hBY at_190) rfl (tlt (by decide : (2 : Int32) < (3 : Int32))).1 (by decide) (by decide) ?_
            show Steps p.tables e below (T_96.setTop (mkF m 204 #[Iv p1, Iv p2, Iv (2 : Int32), Iv ee0, Iv ee1, Iv (0 : Int32), Rv b_49, Iv (1 : Int32), Iv (0 : Int32), Iv (1 : Int32), Us, Us, Us] [])) tt_
            refine XS.iloadN X_96.here hEX rfl (hb hBY at_204) rfl ?_
            show Steps p.tables e below (T_96.setTop (mkF m 205 #[Iv p1, Iv p2, Iv (2 : Int32), Iv ee0, Iv ee1, Iv (0 : Int32), Rv b_49, Iv (1 : Int32), Iv (0 : Int32), Iv (1 : Int32), Us, Us, Us] [(.int (2 : Int32))])) tt_
            refine XS.iconst X_96.here hEX rfl (hb hBY at_205) ?_
            show Steps p.tables e below (T_96.setTop (mkF m 206 #[Iv p1, Iv p2, Iv (2 : Int32), Iv ee0, Iv ee1, Iv (0 : Int32), Rv b_49, Iv (1 : Int32), Iv (0 : Int32), Iv (1 : Int32), Us, Us, Us] [(.int (2 : Int32)), (.int (2 : Int32))])) tt_
            refine XS.icmpNo X_96.here hEX rfl (hb hBY at_206) rfl (flt (by decide : ¬ ((2 : Int32) < (2 : Int32)))).1 ?_
            show Steps p.tables e below (T_96.setTop (mkF m 209 #[Iv p1, Iv p2, Iv (2 : Int32), Iv ee0, Iv ee1, Iv (0 : Int32), Rv b_49, Iv (1 : Int32), Iv (0 : Int32), Iv (1 : Int32), Us, Us, Us] [])) tt_
            refine XS.iload X_96.here hEX rfl (hb hBY at_209) rfl ?_
            show Steps p.tables e below (T_96.setTop (mkF m 211 #[Iv p1, Iv p2, Iv (2 : Int32), Iv ee0, Iv ee1, Iv (0 : Int32), Rv b_49, Iv (1 : Int32), Iv (0 : Int32), Iv (1 : Int32), Us, Us, Us] [(.int ee1)])) tt_
            refine XS.ifYes X_96.here hEX rfl (pc0 := 211) (pc' := 220) rfl (hb hBY at_211) rfl ((if0 _ _).trans (feq hc169).2) (by decide) (by decide) ?_
            show Steps p.tables e below (T_96.setTop (mkF m 220 #[Iv p1, Iv p2, Iv (2 : Int32), Iv ee0, Iv ee1, Iv (0 : Int32), Rv b_49, Iv (1 : Int32), Iv (0 : Int32), Iv (1 : Int32), Us, Us, Us] [])) tt_
            refine XS.iloadN X_96.here hEX rfl (hb hBY at_220) rfl ?_
            show Steps p.tables e below (T_96.setTop (mkF m 221 #[Iv p1, Iv p2, Iv (2 : Int32), Iv ee0, Iv ee1, Iv (0 : Int32), Rv b_49, Iv (1 : Int32), Iv (0 : Int32), Iv (1 : Int32), Us, Us, Us] [(.int ee0)])) tt_
            refine XS.ifNo X_96.here hEX rfl (hb hBY at_221) rfl ((if0 _ _).trans (teq hc179).2) ?_
            show Steps p.tables e below (T_96.setTop (mkF m 224 #[Iv p1, Iv p2, Iv (2 : Int32), Iv ee0, Iv ee1, Iv (0 : Int32), Rv b_49, Iv (1 : Int32), Iv (0 : Int32), Iv (1 : Int32), Us, Us, Us] [])) tt_
            refine XS.iconst X_96.here hEX rfl (hb hBY at_224) ?_
            show Steps p.tables e below (T_96.setTop (mkF m 225 #[Iv p1, Iv p2, Iv (2 : Int32), Iv ee0, Iv ee1, Iv (0 : Int32), Rv b_49, Iv (1 : Int32), Iv (0 : Int32), Iv (1 : Int32), Us, Us, Us] [(.int (1 : Int32))])) tt_
            refine XS.istore X_96.here hEX rfl (hb hBY at_225) rfl (l' := #[Iv p1, Iv p2, Iv (2 : Int32), Iv ee0, Iv ee1, Iv (0 : Int32), Rv b_49, Iv (1 : Int32), Iv (0 : Int32), Iv (1 : Int32), Us, Us, Us]) rfl ?_
            show Steps p.tables e below (T_96.setTop (mkF m 227 #[Iv p1, Iv p2, Iv (2 : Int32), Iv ee0, Iv ee1, Iv (0 : Int32), Rv b_49, Iv (1 : Int32), Iv (0 : Int32), Iv (1 : Int32), Us, Us, Us] [])) tt_
            refine XS.goto X_96.here hEX rfl (pc0 := 227) (pc' := 233) rfl (hb hBY at_227) (by decide) (by decide) ?_
            show Steps p.tables e below (T_96.setTop (mkF m 233 #[Iv p1, Iv p2, Iv (2 : Int32), Iv ee0, Iv ee1, Iv (0 : Int32), Rv b_49, Iv (1 : Int32), Iv (0 : Int32), Iv (1 : Int32), Us, Us, Us] [])) tt_
            refine XS.aload X_96.here hEX rfl (hb hBY at_233) rfl rfl ?_
            exact kt_
          refine Done.pre sg_101 ?_
          obtain ⟨cq_102, kq_102, q_102a, q_102b, q_102c⟩ := isOf hZW rfl hq_96_0
          obtain ⟨_, _, ⟨T_102, L_102, k_102, n_102⟩, -, X_102, ⟨Lc_102, hQ_102, l_102, y_102, z_102⟩, st_102⟩ := X_96.virtualBack hEX (y := (⟨"com/example/actorium/actorium/Claimant$Sends", "depth", "()I"⟩ : MethodName)) (z := (⟨"com/example/actorium/actorium/Claimant$Sends", "depth", "()I"⟩ : MethodName)) hOW (mvT hZW (hw _ (List.mem_of_getElem? (i := 21) rfl))) (mvT hZW (hw _ (List.mem_of_getElem? (i := 22) rfl))) (notFace_of_selects (args := #[]) (mvT hZW (hw _ (List.mem_of_getElem? (i := 24) rfl)))) (mvT hZW (hw _ (List.mem_of_getElem? (i := 24) rfl))) (mvT hZW (hw _ (List.mem_of_getElem? (i := 23) rfl))) (by decide) (backOf (W := 0) (rm_depth l Z aZ hw [] b_49 (1 : Int32) T_96.heap n0 (Nat.le_trans Z0 K__97.1) f_99) hZW (hw _ (List.mem_of_getElem? (i := 25) rfl)) (hw _ (List.mem_of_getElem? (i := 3) rfl)) (by decide) (by decide)) q_102a q_102c (g := (mkF m 235 #[Iv p1, Iv p2, Iv (2 : Int32), Iv ee0, Iv ee1, Iv (0 : Int32), Rv b_49, Iv (1 : Int32), Iv (0 : Int32), Iv (1 : Int32), Us, Us, Us] [(.ref b_49)])) rfl (by rw [hMX]; rfl) (Steps.refl _) (argsL := []) (rest := []) (lenOf pd___I_0 rfl) rfl (by show 2 * 0 + _ ≤ _; exact Nat.le_of_eq rfl) (hb hBY at_235) (fun _ _ => ⟨rfl, rfl, (by decide : 2 + 0 ≤ _), (by decide : 10 + 0 ≤ _)⟩)
          dsimp only [Pt.U, Pt.locs, Pt.cells, Pt.slots] at X_102 l_102 y_102 z_102 st_102 hQ_102
          subst l_102 y_102 z_102
          obtain ⟨rfl, N_102q, e_102⟩ := hQ_102
          have N_102 := Fr.app N_96 N_102q
          refine Done.pre (fun _ k_ => st_102.trans k_) ?_
          show Done _ _ _ _ _ _ _ (T_102.setTop (mkF m 238 #[Iv p1, Iv p2, Iv (2 : Int32), Iv ee0, Iv ee1, Iv (0 : Int32), Rv b_49, Iv (1 : Int32), Iv (0 : Int32), Iv (1 : Int32), Us, Us, Us] [(.int (1 : Int32))]))
          have sg_103 : ∀ tt_, Steps p.tables e below (T_102.setTop (mkF m 262 #[Iv p1, Iv p2, Iv (2 : Int32), Iv ee0, Iv ee1, Iv (0 : Int32), Rv b_49, Iv (1 : Int32), Iv (0 : Int32), Iv (1 : Int32), Iv (1 : Int32), Us, Us] [.null, (.ref b_49)])) tt_ → Steps p.tables e below (T_102.setTop (mkF m 238 #[Iv p1, Iv p2, Iv (2 : Int32), Iv ee0, Iv ee1, Iv (0 : Int32), Rv b_49, Iv (1 : Int32), Iv (0 : Int32), Iv (1 : Int32), Us, Us, Us] [(.int (1 : Int32))])) tt_ := by
            intro tt_ kt_
            refine XS.istore X_102.here hEX rfl (hb hBY at_238) rfl (l' := #[Iv p1, Iv p2, Iv (2 : Int32), Iv ee0, Iv ee1, Iv (0 : Int32), Rv b_49, Iv (1 : Int32), Iv (0 : Int32), Iv (1 : Int32), Iv (1 : Int32), Us, Us]) rfl ?_
            show Steps p.tables e below (T_102.setTop (mkF m 240 #[Iv p1, Iv p2, Iv (2 : Int32), Iv ee0, Iv ee1, Iv (0 : Int32), Rv b_49, Iv (1 : Int32), Iv (0 : Int32), Iv (1 : Int32), Iv (1 : Int32), Us, Us] [])) tt_
            refine XS.iload X_102.here hEX rfl (hb hBY at_240) rfl ?_
            show Steps p.tables e below (T_102.setTop (mkF m 242 #[Iv p1, Iv p2, Iv (2 : Int32), Iv ee0, Iv ee1, Iv (0 : Int32), Rv b_49, Iv (1 : Int32), Iv (0 : Int32), Iv (1 : Int32), Iv (1 : Int32), Us, Us] [(.int (1 : Int32))])) tt_
            refine XS.ifNo X_102.here hEX rfl (hb hBY at_242) rfl ((if0 _ _).trans (feq (by decide : ¬ ((1 : Int32) = (0 : Int32)))).1) ?_
            show Steps p.tables e below (T_102.setTop (mkF m 245 #[Iv p1, Iv p2, Iv (2 : Int32), Iv ee0, Iv ee1, Iv (0 : Int32), Rv b_49, Iv (1 : Int32), Iv (0 : Int32), Iv (1 : Int32), Iv (1 : Int32), Us, Us] [])) tt_
            refine XS.iload X_102.here hEX rfl (hb hBY at_245) rfl ?_
            show Steps p.tables e below (T_102.setTop (mkF m 247 #[Iv p1, Iv p2, Iv (2 : Int32), Iv ee0, Iv ee1, Iv (0 : Int32), Rv b_49, Iv (1 : Int32), Iv (0 : Int32), Iv (1 : Int32), Iv (1 : Int32), Us, Us] [(.int (1 : Int32))])) tt_
            refine XS.iload X_102.here hEX rfl (hb hBY at_247) rfl ?_
            show Steps p.tables e below (T_102.setTop (mkF m 249 #[Iv p1, Iv p2, Iv (2 : Int32), Iv ee0, Iv ee1, Iv (0 : Int32), Rv b_49, Iv (1 : Int32), Iv (0 : Int32), Iv (1 : Int32), Iv (1 : Int32), Us, Us] [(.int (1 : Int32)), (.int (1 : Int32))])) tt_
            refine XS.icmpNo X_102.here hEX rfl (hb hBY at_249) rfl (teq (by decide : (1 : Int32) = (1 : Int32))).2 ?_
            show Steps p.tables e below (T_102.setTop (mkF m 252 #[Iv p1, Iv p2, Iv (2 : Int32), Iv ee0, Iv ee1, Iv (0 : Int32), Rv b_49, Iv (1 : Int32), Iv (0 : Int32), Iv (1 : Int32), Iv (1 : Int32), Us, Us] [])) tt_
            refine XS.iconst X_102.here hEX rfl (hb hBY at_252) ?_
            show Steps p.tables e below (T_102.setTop (mkF m 253 #[Iv p1, Iv p2, Iv (2 : Int32), Iv ee0, Iv ee1, Iv (0 : Int32), Rv b_49, Iv (1 : Int32), Iv (0 : Int32), Iv (1 : Int32), Iv (1 : Int32), Us, Us] [(.int (1 : Int32))])) tt_
            refine XS.goto X_102.here hEX rfl (pc0 := 253) (pc' := 257) rfl (hb hBY at_253) (by decide) (by decide) ?_
            show Steps p.tables e below (T_102.setTop (mkF m 257 #[Iv p1, Iv p2, Iv (2 : Int32), Iv ee0, Iv ee1, Iv (0 : Int32), Rv b_49, Iv (1 : Int32), Iv (0 : Int32), Iv (1 : Int32), Iv (1 : Int32), Us, Us] [(.int (1 : Int32))])) tt_
            refine XS.istore X_102.here hEX rfl (hb hBY at_257) rfl (l' := #[Iv p1, Iv p2, Iv (2 : Int32), Iv ee0, Iv ee1, Iv (0 : Int32), Rv b_49, Iv (1 : Int32), Iv (0 : Int32), Iv (1 : Int32), Iv (1 : Int32), Us, Us]) rfl ?_
            show Steps p.tables e below (T_102.setTop (mkF m 259 #[Iv p1, Iv p2, Iv (2 : Int32), Iv ee0, Iv ee1, Iv (0 : Int32), Rv b_49, Iv (1 : Int32), Iv (0 : Int32), Iv (1 : Int32), Iv (1 : Int32), Us, Us] [])) tt_
            refine XS.aload X_102.here hEX rfl (hb hBY at_259) rfl rfl ?_
            show Steps p.tables e below (T_102.setTop (mkF m 261 #[Iv p1, Iv p2, Iv (2 : Int32), Iv ee0, Iv ee1, Iv (0 : Int32), Rv b_49, Iv (1 : Int32), Iv (0 : Int32), Iv (1 : Int32), Iv (1 : Int32), Us, Us] [(.ref b_49)])) tt_
            refine XS.aconstNull X_102.here hEX rfl (hb hBY at_261) ?_
            exact kt_
          refine Done.pre sg_103 ?_
          obtain ⟨cq_104, kq_104, q_104a, q_104b, q_104c⟩ := isOf hZW e_102 hq_96_0
          obtain ⟨_, _, ⟨T_104, L_104, k_104, n_104⟩, -, X_104, ⟨Lc_104, hQ_104, l_104, y_104, z_104⟩, st_104⟩ := X_102.virtualBack hEX (y := (⟨"com/example/actorium/actorium/Claimant$Sends", "begin", "(Lcom/example/actorium/actorium/DispatchedCell;)I"⟩ : MethodName)) (z := (⟨"com/example/actorium/actorium/Claimant$Sends", "begin", "(Lcom/example/actorium/actorium/DispatchedCell;)I"⟩ : MethodName)) hOW (mvT hZW (hw _ (List.mem_of_getElem? (i := 14) rfl))) (mvT hZW (hw _ (List.mem_of_getElem? (i := 15) rfl))) (notFace_of_selects (args := #[]) (mvT hZW (hw _ (List.mem_of_getElem? (i := 17) rfl)))) (mvT hZW (hw _ (List.mem_of_getElem? (i := 17) rfl))) (mvT hZW (hw _ (List.mem_of_getElem? (i := 16) rfl))) (by decide) (backOf (W := 0) (rm_begin l Z aZ hw [] b_49 (1 : Int32) b__55 k__55 T_96.heap n0 (Nat.le_trans Z0 K__97.1) hq_96_0 f_99 hq_96_2 hq_96_3 ge_b_49 (Nat.le_trans Z0 sz_b__55) ne_b_49_b__55 (by decide)) hZW (hw _ (List.mem_of_getElem? (i := 18) rfl)) (hw _ (List.mem_of_getElem? (i := 3) rfl)) (by decide) (by decide)) q_104a q_104c (g := (mkF m 262 #[Iv p1, Iv p2, Iv (2 : Int32), Iv ee0, Iv ee1, Iv (0 : Int32), Rv b_49, Iv (1 : Int32), Iv (0 : Int32), Iv (1 : Int32), Iv (1 : Int32), Us, Us] [.null, (.ref b_49)])) rfl (by rw [hMX]; rfl) (Steps.refl _) (argsL := [.null]) (rest := []) (lenOf pd__Lcom_example_actorium_actorium_DispatchedCell__I_3 rfl) rfl (by show 2 * 0 + _ ≤ _; exact Nat.le_of_eq rfl) (hb hBY at_262) (fun _ _ => ⟨rfl, e_102, (by decide : 2 + 0 ≤ _), (by decide : 10 + 0 ≤ _)⟩)
          dsimp only [Pt.U, Pt.locs, Pt.cells, Pt.slots] at X_104 l_104 y_104 z_104 st_104 hQ_104
          subst l_104 y_104 z_104
          obtain ⟨rfl, N_104q, K_104, hq_104_0, hq_104_1, hq_104_2, hq_104_3⟩ := hQ_104
          have N_104 := Fr.app N_102 N_104q
          have K__105 : Keep h0 T_104.heap [] := K__97.trans K_104 (allS (Or.inr sz_b_49) (allS (Or.inr sz_b__55) all0))
          have f_106 : Exa Z T_104.heap b_49 "com/example/actorium/actorium/Claimant$Sends" := hq_96_0.keep K_104
          refine Done.pre (fun _ k_ => st_104.trans k_) ?_
          show Done _ _ _ _ _ _ _ (T_104.setTop (mkF m 265 #[Iv p1, Iv p2, Iv (2 : Int32), Iv ee0, Iv ee1, Iv (0 : Int32), Rv b_49, Iv (1 : Int32), Iv (0 : Int32), Iv (1 : Int32), Iv (1 : Int32), Us, Us] [(.int (1 : Int32))]))
          have f_107 : Fld Z T_104.heap b_49 "com/example/actorium/actorium/Claimant$Sends" "top" "I" (.int (2 : Int32)) := by have q := hq_104_1; rw [show ((1 : Int32) + (1 : Int32)) = (2 : Int32) from by decide] at q; exact q
          have sg_108 : ∀ tt_, Steps p.tables e below (T_104.setTop (mkF m 269 #[Iv p1, Iv p2, Iv (2 : Int32), Iv ee0, Iv ee1, Iv (0 : Int32), Rv b_49, Iv (1 : Int32), Iv (0 : Int32), Iv (1 : Int32), Iv (1 : Int32), Iv (1 : Int32), Us] [(.ref b_49)])) tt_ → Steps p.tables e below (T_104.setTop (mkF m 265 #[Iv p1, Iv p2, Iv (2 : Int32), Iv ee0, Iv ee1, Iv (0 : Int32), Rv b_49, Iv (1 : Int32), Iv (0 : Int32), Iv (1 : Int32), Iv (1 : Int32), Us, Us] [(.int (1 : Int32))])) tt_ := by
            intro tt_ kt_
            refine XS.istore X_104.here hEX rfl (hb hBY at_265) rfl (l' := #[Iv p1, Iv p2, Iv (2 : Int32), Iv ee0, Iv ee1, Iv (0 : Int32), Rv b_49, Iv (1 : Int32), Iv (0 : Int32), Iv (1 : Int32), Iv (1 : Int32), Iv (1 : Int32), Us]) rfl ?_
            show Steps p.tables e below (T_104.setTop (mkF m 267 #[Iv p1, Iv p2, Iv (2 : Int32), Iv ee0, Iv ee1, Iv (0 : Int32), Rv b_49, Iv (1 : Int32), Iv (0 : Int32), Iv (1 : Int32), Iv (1 : Int32), Iv (1 : Int32), Us] [])) tt_
            refine XS.aload X_104.here hEX rfl (hb hBY at_267) rfl rfl ?_
            exact kt_
          refine Done.pre sg_108 ?_
          obtain ⟨cq_109, kq_109, q_109a, q_109b, q_109c⟩ := isOf hZW rfl hq_104_0
          obtain ⟨_, _, ⟨T_109, L_109, k_109, n_109⟩, -, X_109, ⟨Lc_109, hQ_109, l_109, y_109, z_109⟩, st_109⟩ := X_104.virtualBack hEX (y := (⟨"com/example/actorium/actorium/Claimant$Sends", "depth", "()I"⟩ : MethodName)) (z := (⟨"com/example/actorium/actorium/Claimant$Sends", "depth", "()I"⟩ : MethodName)) hOW (mvT hZW (hw _ (List.mem_of_getElem? (i := 21) rfl))) (mvT hZW (hw _ (List.mem_of_getElem? (i := 22) rfl))) (notFace_of_selects (args := #[]) (mvT hZW (hw _ (List.mem_of_getElem? (i := 24) rfl)))) (mvT hZW (hw _ (List.mem_of_getElem? (i := 24) rfl))) (mvT hZW (hw _ (List.mem_of_getElem? (i := 23) rfl))) (by decide) (backOf (W := 0) (rm_depth l Z aZ hw [] b_49 (2 : Int32) T_104.heap n0 (Nat.le_trans Z0 K__105.1) f_107) hZW (hw _ (List.mem_of_getElem? (i := 25) rfl)) (hw _ (List.mem_of_getElem? (i := 3) rfl)) (by decide) (by decide)) q_109a q_109c (g := (mkF m 269 #[Iv p1, Iv p2, Iv (2 : Int32), Iv ee0, Iv ee1, Iv (0 : Int32), Rv b_49, Iv (1 : Int32), Iv (0 : Int32), Iv (1 : Int32), Iv (1 : Int32), Iv (1 : Int32), Us] [(.ref b_49)])) rfl (by rw [hMX]; rfl) (Steps.refl _) (argsL := []) (rest := []) (lenOf pd___I_0 rfl) rfl (by show 2 * 0 + _ ≤ _; exact Nat.le_of_eq rfl) (hb hBY at_269) (fun _ _ => ⟨rfl, rfl, (by decide : 2 + 0 ≤ _), (by decide : 10 + 0 ≤ _)⟩)
          dsimp only [Pt.U, Pt.locs, Pt.cells, Pt.slots] at X_109 l_109 y_109 z_109 st_109 hQ_109
          subst l_109 y_109 z_109
          obtain ⟨rfl, N_109q, e_109⟩ := hQ_109
          have N_109 := Fr.app N_104 N_109q
          refine Done.pre (fun _ k_ => st_109.trans k_) ?_
          show Done _ _ _ _ _ _ _ (T_109.setTop (mkF m 272 #[Iv p1, Iv p2, Iv (2 : Int32), Iv ee0, Iv ee1, Iv (0 : Int32), Rv b_49, Iv (1 : Int32), Iv (0 : Int32), Iv (1 : Int32), Iv (1 : Int32), Iv (1 : Int32), Us] [(.int (2 : Int32))]))
          have sg_110 : ∀ tt_, Steps p.tables e below (T_109.setTop (mkF m 304 #[Iv p1, Iv p2, Iv (2 : Int32), Iv ee0, Iv ee1, Iv (0 : Int32), Rv b_49, Iv (1 : Int32), Iv (0 : Int32), Iv (1 : Int32), Iv (1 : Int32), Iv (1 : Int32), Iv (2 : Int32)] [(.int (1 : Int32))])) tt_ → Steps p.tables e below (T_109.setTop (mkF m 272 #[Iv p1, Iv p2, Iv (2 : Int32), Iv ee0, Iv ee1, Iv (0 : Int32), Rv b_49, Iv (1 : Int32), Iv (0 : Int32), Iv (1 : Int32), Iv (1 : Int32), Iv (1 : Int32), Us] [(.int (2 : Int32))])) tt_ := by
            intro tt_ kt_
            refine XS.istore X_109.here hEX rfl (hb hBY at_272) rfl (l' := #[Iv p1, Iv p2, Iv (2 : Int32), Iv ee0, Iv ee1, Iv (0 : Int32), Rv b_49, Iv (1 : Int32), Iv (0 : Int32), Iv (1 : Int32), Iv (1 : Int32), Iv (1 : Int32), Iv (2 : Int32)]) rfl ?_
            show Steps p.tables e below (T_109.setTop (mkF m 274 #[Iv p1, Iv p2, Iv (2 : Int32), Iv ee0, Iv ee1, Iv (0 : Int32), Rv b_49, Iv (1 : Int32), Iv (0 : Int32), Iv (1 : Int32), Iv (1 : Int32), Iv (1 : Int32), Iv (2 : Int32)] [])) tt_
            refine XS.iload X_109.here hEX rfl (hb hBY at_274) rfl ?_
            show Steps p.tables e below (T_109.setTop (mkF m 276 #[Iv p1, Iv p2, Iv (2 : Int32), Iv ee0, Iv ee1, Iv (0 : Int32), Rv b_49, Iv (1 : Int32), Iv (0 : Int32), Iv (1 : Int32), Iv (1 : Int32), Iv (1 : Int32), Iv (2 : Int32)] [(.int (1 : Int32))])) tt_
            refine XS.ifNo X_109.here hEX rfl (hb hBY at_276) rfl ((if0 _ _).trans (feq (by decide : ¬ ((1 : Int32) = (0 : Int32)))).1) ?_
            show Steps p.tables e below (T_109.setTop (mkF m 279 #[Iv p1, Iv p2, Iv (2 : Int32), Iv ee0, Iv ee1, Iv (0 : Int32), Rv b_49, Iv (1 : Int32), Iv (0 : Int32), Iv (1 : Int32), Iv (1 : Int32), Iv (1 : Int32), Iv (2 : Int32)] [])) tt_
            refine XS.iload X_109.here hEX rfl (hb hBY at_279) rfl ?_
            show Steps p.tables e below (T_109.setTop (mkF m 281 #[Iv p1, Iv p2, Iv (2 : Int32), Iv ee0, Iv ee1, Iv (0 : Int32), Rv b_49, Iv (1 : Int32), Iv (0 : Int32), Iv (1 : Int32), Iv (1 : Int32), Iv (1 : Int32), Iv (2 : Int32)] [(.int (1 : Int32))])) tt_
            refine XS.iload X_109.here hEX rfl (hb hBY at_281) rfl ?_
            show Steps p.tables e below (T_109.setTop (mkF m 283 #[Iv p1, Iv p2, Iv (2 : Int32), Iv ee0, Iv ee1, Iv (0 : Int32), Rv b_49, Iv (1 : Int32), Iv (0 : Int32), Iv (1 : Int32), Iv (1 : Int32), Iv (1 : Int32), Iv (2 : Int32)] [(.int (1 : Int32)), (.int (1 : Int32))])) tt_
            refine XS.icmpNo X_109.here hEX rfl (hb hBY at_283) rfl (teq (by decide : (1 : Int32) = (1 : Int32))).2 ?_
            show Steps p.tables e below (T_109.setTop (mkF m 286 #[Iv p1, Iv p2, Iv (2 : Int32), Iv ee0, Iv ee1, Iv (0 : Int32), Rv b_49, Iv (1 : Int32), Iv (0 : Int32), Iv (1 : Int32), Iv (1 : Int32), Iv (1 : Int32), Iv (2 : Int32)] [])) tt_
            refine XS.iload X_109.here hEX rfl (hb hBY at_286) rfl ?_
            show Steps p.tables e below (T_109.setTop (mkF m 288 #[Iv p1, Iv p2, Iv (2 : Int32), Iv ee0, Iv ee1, Iv (0 : Int32), Rv b_49, Iv (1 : Int32), Iv (0 : Int32), Iv (1 : Int32), Iv (1 : Int32), Iv (1 : Int32), Iv (2 : Int32)] [(.int (2 : Int32))])) tt_
            refine XS.iload X_109.here hEX rfl (hb hBY at_288) rfl ?_
            show Steps p.tables e below (T_109.setTop (mkF m 290 #[Iv p1, Iv p2, Iv (2 : Int32), Iv ee0, Iv ee1, Iv (0 : Int32), Rv b_49, Iv (1 : Int32), Iv (0 : Int32), Iv (1 : Int32), Iv (1 : Int32), Iv (1 : Int32), Iv (2 : Int32)] [(.int (1 : Int32)), (.int (2 : Int32))])) tt_
            refine XS.iconst X_109.here hEX rfl (hb hBY at_290) ?_
            show Steps p.tables e below (T_109.setTop (mkF m 291 #[Iv p1, Iv p2, Iv (2 : Int32), Iv ee0, Iv ee1, Iv (0 : Int32), Rv b_49, Iv (1 : Int32), Iv (0 : Int32), Iv (1 : Int32), Iv (1 : Int32), Iv (1 : Int32), Iv (2 : Int32)] [(.int (1 : Int32)), (.int (1 : Int32)), (.int (2 : Int32))])) tt_
            refine XS.iadd X_109.here hEX rfl (hb hBY at_291) rfl ?_
            show Steps p.tables e below (T_109.setTop (mkF m 292 #[Iv p1, Iv p2, Iv (2 : Int32), Iv ee0, Iv ee1, Iv (0 : Int32), Rv b_49, Iv (1 : Int32), Iv (0 : Int32), Iv (1 : Int32), Iv (1 : Int32), Iv (1 : Int32), Iv (2 : Int32)] [(.int (2 : Int32)), (.int (2 : Int32))])) tt_
            refine XS.icmpNo X_109.here hEX rfl (hb hBY at_292) rfl (teq (by decide : (2 : Int32) = (2 : Int32))).2 ?_
            show Steps p.tables e below (T_109.setTop (mkF m 295 #[Iv p1, Iv p2, Iv (2 : Int32), Iv ee0, Iv ee1, Iv (0 : Int32), Rv b_49, Iv (1 : Int32), Iv (0 : Int32), Iv (1 : Int32), Iv (1 : Int32), Iv (1 : Int32), Iv (2 : Int32)] [])) tt_
            refine XS.iconst X_109.here hEX rfl (hb hBY at_295) ?_
            show Steps p.tables e below (T_109.setTop (mkF m 296 #[Iv p1, Iv p2, Iv (2 : Int32), Iv ee0, Iv ee1, Iv (0 : Int32), Rv b_49, Iv (1 : Int32), Iv (0 : Int32), Iv (1 : Int32), Iv (1 : Int32), Iv (1 : Int32), Iv (2 : Int32)] [(.int (1 : Int32))])) tt_
            refine XS.goto X_109.here hEX rfl (pc0 := 296) (pc' := 300) rfl (hb hBY at_296) (by decide) (by decide) ?_
            show Steps p.tables e below (T_109.setTop (mkF m 300 #[Iv p1, Iv p2, Iv (2 : Int32), Iv ee0, Iv ee1, Iv (0 : Int32), Rv b_49, Iv (1 : Int32), Iv (0 : Int32), Iv (1 : Int32), Iv (1 : Int32), Iv (1 : Int32), Iv (2 : Int32)] [(.int (1 : Int32))])) tt_
            refine XS.istore X_109.here hEX rfl (hb hBY at_300) rfl (l' := #[Iv p1, Iv p2, Iv (2 : Int32), Iv ee0, Iv ee1, Iv (0 : Int32), Rv b_49, Iv (1 : Int32), Iv (0 : Int32), Iv (1 : Int32), Iv (1 : Int32), Iv (1 : Int32), Iv (2 : Int32)]) rfl ?_
            show Steps p.tables e below (T_109.setTop (mkF m 302 #[Iv p1, Iv p2, Iv (2 : Int32), Iv ee0, Iv ee1, Iv (0 : Int32), Rv b_49, Iv (1 : Int32), Iv (0 : Int32), Iv (1 : Int32), Iv (1 : Int32), Iv (1 : Int32), Iv (2 : Int32)] [])) tt_
            refine XS.iload X_109.here hEX rfl (hb hBY at_302) rfl ?_
            exact kt_
          refine Done.pre sg_110 ?_
          exact Done.retN X_109 hEX hLK (t := .boolean) hRT (by simp) (hb hBY at_304) (by rw [e_109]; exact ⟨rfl, N_109, K__105⟩) (by decide) (by decide)
        · skip
          have sg_111 : ∀ tt_, Steps p.tables e below (T_96.setTop (mkF m 185 #[Iv p1, Iv p2, Iv (2 : Int32), Iv ee0, Iv ee1, Iv (0 : Int32), Rv b_49, Iv (1 : Int32), Iv (0 : Int32), Iv (1 : Int32), Us, Us, Us] [(.int (0 : Int32)), (.ref b_49)])) tt_ → Steps p.tables e below (T_96.setTop (mkF m 179 #[Iv p1, Iv p2, Iv (2 : Int32), Iv ee0, Iv ee1, Iv (0 : Int32), Rv b_49, Iv (1 : Int32), Iv (0 : Int32), Iv (1 : Int32), Us, Us, Us] [(.int ee0)])) tt_ := by
            intro tt_ kt_
            refine XS.ifNo X_96.here hEX rfl (hb hBY at_179) rfl ((if0 _ _).trans (feq hc179).1) ?_
            show Steps p.tables e below (T_96.setTop (mkF m 182 #[Iv p1, Iv p2, Iv (2 : Int32), Iv ee0, Iv ee1, Iv (0 : Int32), Rv b_49, Iv (1 : Int32), Iv (0 : Int32), Iv (1 : Int32), Us, Us, Us] [])) tt_
            refine XS.aload X_96.here hEX rfl (hb hBY at_182) rfl rfl ?_
            show Steps p.tables e below (T_96.setTop (mkF m 184 #[Iv p1, Iv p2, Iv (2 : Int32), Iv ee0, Iv ee1, Iv (0 : Int32), Rv b_49, Iv (1 : Int32), Iv (0 : Int32), Iv (1 : Int32), Us, Us, Us] [(.ref b_49)])) tt_
            refine XS.iconst X_96.here hEX rfl (hb hBY at_184) ?_
            exact kt_
          refine Done.pre sg_111 ?_
          obtain ⟨cq_112, kq_112, q_112a, q_112b, q_112c⟩ := isOf hZW rfl hq_96_0
          obtain ⟨_, _, ⟨T_112, L_112, k_112, n_112⟩, -, X_112, ⟨Lc_112, hQ_112, l_112, y_112, z_112⟩, st_112⟩ := X_96.virtualBack hEX (y := (⟨"com/example/actorium/actorium/Claimant$Sends", "end", "(I)V"⟩ : MethodName)) (z := (⟨"com/example/actorium/actorium/Claimant$Sends", "end", "(I)V"⟩ : MethodName)) hOW (mvT hZW (hw _ (List.mem_of_getElem? (i := 26) rfl))) (mvT hZW (hw _ (List.mem_of_getElem? (i := 27) rfl))) (notFace_of_selects (args := #[]) (mvT hZW (hw _ (List.mem_of_getElem? (i := 29) rfl)))) (mvT hZW (hw _ (List.mem_of_getElem? (i := 29) rfl))) (mvT hZW (hw _ (List.mem_of_getElem? (i := 28) rfl))) (by decide) (backOf (W := 0) (rm_end l Z aZ hw [] b_49 (0 : Int32) (1 : Int32) b__55 k__55 T_96.heap n0 (Nat.le_trans Z0 K__97.1) hq_96_0 f_99 hq_96_2 hq_96_3 ge_b_49 (Nat.le_trans Z0 sz_b__55) ne_b_49_b__55 (by decide)) hZW (hw _ (List.mem_of_getElem? (i := 30) rfl)) (hw _ (List.mem_of_getElem? (i := 3) rfl)) (by decide) (by decide)) q_112a q_112c (g := (mkF m 185 #[Iv p1, Iv p2, Iv (2 : Int32), Iv ee0, Iv ee1, Iv (0 : Int32), Rv b_49, Iv (1 : Int32), Iv (0 : Int32), Iv (1 : Int32), Us, Us, Us] [(.int (0 : Int32)), (.ref b_49)])) rfl (by rw [hMX]; rfl) (Steps.refl _) (argsL := [(.int (0 : Int32))]) (rest := []) (lenOf pd__I_V_2 rfl) rfl (by show 2 * 0 + _ ≤ _; exact Nat.le_of_eq rfl) (hb hBY at_185) (fun _ _ => ⟨rfl, rfl, (by decide : 2 + 0 ≤ _), (by decide : 10 + 0 ≤ _)⟩)
          dsimp only [Pt.U, Pt.locs, Pt.cells, Pt.slots] at X_112 l_112 y_112 z_112 st_112 hQ_112
          subst l_112 y_112 z_112
          obtain ⟨rfl, N_112q, K_112, hq_112_0, hq_112_1, hq_112_2, hq_112_3⟩ := hQ_112
          have N_112 := Fr.app N_96 N_112q
          have K__113 : Keep h0 T_112.heap [] := K__97.trans K_112 (allS (Or.inr sz_b_49) (allS (Or.inr sz_b__55) all0))
          have f_114 : Exa Z T_112.heap b_49 "com/example/actorium/actorium/Claimant$Sends" := hq_96_0.keep K_112
          refine Done.pre (fun _ k_ => st_112.trans k_) ?_
          show Done _ _ _ _ _ _ _ (T_112.setTop (mkF m 188 #[Iv p1, Iv p2, Iv (2 : Int32), Iv ee0, Iv ee1, Iv (0 : Int32), Rv b_49, Iv (1 : Int32), Iv (0 : Int32), Iv (1 : Int32), Us, Us, Us] []))
          have f_115 : Fld Z T_112.heap b_49 "com/example/actorium/actorium/Claimant$Sends" "top" "I" (.int (0 : Int32)) := by have q := hq_112_1; rw [show (own_end (1 : Int32) (0 : Int32)) = (0 : Int32) from by decide] at q; exact q
          have sg_116 : ∀ tt_, Steps p.tables e below (T_112.setTop (mkF m 235 #[Iv p1, Iv p2, Iv (2 : Int32), Iv ee0, Iv ee1, Iv (0 : Int32), Rv b_49, Iv (1 : Int32), Iv (0 : Int32), Iv (0 : Int32), Us, Us, Us] [(.ref b_49)])) tt_ → Steps p.tables e below (T_112.setTop (mkF m 188 #[Iv p1, Iv p2, Iv (2 : Int32), Iv ee0, Iv ee1, Iv (0 : Int32), Rv b_49, Iv (1 : Int32), Iv (0 : Int32), Iv (1 : Int32), Us, Us, Us] [])) tt_ := by
            intro tt_ kt_
            refine XS.iloadN X_112.here hEX rfl (hb hBY at_188) rfl ?_
            show Steps p.tables e below (T_112.setTop (mkF m 189 #[Iv p1, Iv p2, Iv (2 : Int32), Iv ee0, Iv ee1, Iv (0 : Int32), Rv b_49, Iv (1 : Int32), Iv (0 : Int32), Iv (1 : Int32), Us, Us, Us] [(.int (2 : Int32))])) tt_
            refine XS.iconst X_112.here hEX rfl (hb hBY at_189) ?_
            show Steps p.tables e below (T_112.setTop (mkF m 190 #[Iv p1, Iv p2, Iv (2 : Int32), Iv ee0, Iv ee1, Iv (0 : Int32), Rv b_49, Iv (1 : Int32), Iv (0 : Int32), Iv (1 : Int32), Us, Us, Us] [(.int (3 : Int32)), (.int (2 : Int32))])) tt_
            refine XS.icmpYes X_112.here hEX rfl (pc0 := 190) (pc' := 204) rfl (hb hBY at_190) rfl (tlt (by decide : (2 : Int32) < (3 : Int32))).1 (by decide) (by decide) ?_
            show Steps p.tables e below (T_112.setTop (mkF m 204 #[Iv p1, Iv p2, Iv (2 : Int32), Iv ee0, Iv ee1, Iv (0 : Int32), Rv b_49, Iv (1 : Int32), Iv (0 : Int32), Iv (1 : Int32), Us, Us, Us] [])) tt_
            refine XS.iloadN X_112.here hEX rfl (hb hBY at_204) rfl ?_
            show Steps p.tables e below (T_112.setTop (mkF m 205 #[Iv p1, Iv p2, Iv (2 : Int32), Iv ee0, Iv ee1, Iv (0 : Int32), Rv b_49, Iv (1 : Int32), Iv (0 : Int32), Iv (1 : Int32), Us, Us, Us] [(.int (2 : Int32))])) tt_
            refine XS.iconst X_112.here hEX rfl (hb hBY at_205) ?_
            show Steps p.tables e below (T_112.setTop (mkF m 206 #[Iv p1, Iv p2, Iv (2 : Int32), Iv ee0, Iv ee1, Iv (0 : Int32), Rv b_49, Iv (1 : Int32), Iv (0 : Int32), Iv (1 : Int32), Us, Us, Us] [(.int (2 : Int32)), (.int (2 : Int32))])) tt_
            refine XS.icmpNo X_112.here hEX rfl (hb hBY at_206) rfl (flt (by decide : ¬ ((2 : Int32) < (2 : Int32)))).1 ?_
            show Steps p.tables e below (T_112.setTop (mkF m 209 #[Iv p1, Iv p2, Iv (2 : Int32), Iv ee0, Iv ee1, Iv (0 : Int32), Rv b_49, Iv (1 : Int32), Iv (0 : Int32), Iv (1 : Int32), Us, Us, Us] [])) tt_
            refine XS.iload X_112.here hEX rfl (hb hBY at_209) rfl ?_
            show Steps p.tables e below (T_112.setTop (mkF m 211 #[Iv p1, Iv p2, Iv (2 : Int32), Iv ee0, Iv ee1, Iv (0 : Int32), Rv b_49, Iv (1 : Int32), Iv (0 : Int32), Iv (1 : Int32), Us, Us, Us] [(.int ee1)])) tt_
            refine XS.ifYes X_112.here hEX rfl (pc0 := 211) (pc' := 220) rfl (hb hBY at_211) rfl ((if0 _ _).trans (feq hc169).2) (by decide) (by decide) ?_
            show Steps p.tables e below (T_112.setTop (mkF m 220 #[Iv p1, Iv p2, Iv (2 : Int32), Iv ee0, Iv ee1, Iv (0 : Int32), Rv b_49, Iv (1 : Int32), Iv (0 : Int32), Iv (1 : Int32), Us, Us, Us] [])) tt_
            refine XS.iloadN X_112.here hEX rfl (hb hBY at_220) rfl ?_
            show Steps p.tables e below (T_112.setTop (mkF m 221 #[Iv p1, Iv p2, Iv (2 : Int32), Iv ee0, Iv ee1, Iv (0 : Int32), Rv b_49, Iv (1 : Int32), Iv (0 : Int32), Iv (1 : Int32), Us, Us, Us] [(.int ee0)])) tt_
            refine XS.ifYes X_112.here hEX rfl (pc0 := 221) (pc' := 230) rfl (hb hBY at_221) rfl ((if0 _ _).trans (feq hc179).2) (by decide) (by decide) ?_
            show Steps p.tables e below (T_112.setTop (mkF m 230 #[Iv p1, Iv p2, Iv (2 : Int32), Iv ee0, Iv ee1, Iv (0 : Int32), Rv b_49, Iv (1 : Int32), Iv (0 : Int32), Iv (1 : Int32), Us, Us, Us] [])) tt_
            refine XS.iconst X_112.here hEX rfl (hb hBY at_230) ?_
            show Steps p.tables e below (T_112.setTop (mkF m 231 #[Iv p1, Iv p2, Iv (2 : Int32), Iv ee0, Iv ee1, Iv (0 : Int32), Rv b_49, Iv (1 : Int32), Iv (0 : Int32), Iv (1 : Int32), Us, Us, Us] [(.int (0 : Int32))])) tt_
            refine XS.istore X_112.here hEX rfl (hb hBY at_231) rfl (l' := #[Iv p1, Iv p2, Iv (2 : Int32), Iv ee0, Iv ee1, Iv (0 : Int32), Rv b_49, Iv (1 : Int32), Iv (0 : Int32), Iv (0 : Int32), Us, Us, Us]) rfl ?_
            show Steps p.tables e below (T_112.setTop (mkF m 233 #[Iv p1, Iv p2, Iv (2 : Int32), Iv ee0, Iv ee1, Iv (0 : Int32), Rv b_49, Iv (1 : Int32), Iv (0 : Int32), Iv (0 : Int32), Us, Us, Us] [])) tt_
            refine XS.aload X_112.here hEX rfl (hb hBY at_233) rfl rfl ?_
            exact kt_
          refine Done.pre sg_116 ?_
          obtain ⟨cq_117, kq_117, q_117a, q_117b, q_117c⟩ := isOf hZW rfl hq_112_0
          obtain ⟨_, _, ⟨T_117, L_117, k_117, n_117⟩, -, X_117, ⟨Lc_117, hQ_117, l_117, y_117, z_117⟩, st_117⟩ := X_112.virtualBack hEX (y := (⟨"com/example/actorium/actorium/Claimant$Sends", "depth", "()I"⟩ : MethodName)) (z := (⟨"com/example/actorium/actorium/Claimant$Sends", "depth", "()I"⟩ : MethodName)) hOW (mvT hZW (hw _ (List.mem_of_getElem? (i := 21) rfl))) (mvT hZW (hw _ (List.mem_of_getElem? (i := 22) rfl))) (notFace_of_selects (args := #[]) (mvT hZW (hw _ (List.mem_of_getElem? (i := 24) rfl)))) (mvT hZW (hw _ (List.mem_of_getElem? (i := 24) rfl))) (mvT hZW (hw _ (List.mem_of_getElem? (i := 23) rfl))) (by decide) (backOf (W := 0) (rm_depth l Z aZ hw [] b_49 (0 : Int32) T_112.heap n0 (Nat.le_trans Z0 K__113.1) f_115) hZW (hw _ (List.mem_of_getElem? (i := 25) rfl)) (hw _ (List.mem_of_getElem? (i := 3) rfl)) (by decide) (by decide)) q_117a q_117c (g := (mkF m 235 #[Iv p1, Iv p2, Iv (2 : Int32), Iv ee0, Iv ee1, Iv (0 : Int32), Rv b_49, Iv (1 : Int32), Iv (0 : Int32), Iv (0 : Int32), Us, Us, Us] [(.ref b_49)])) rfl (by rw [hMX]; rfl) (Steps.refl _) (argsL := []) (rest := []) (lenOf pd___I_0 rfl) rfl (by show 2 * 0 + _ ≤ _; exact Nat.le_of_eq rfl) (hb hBY at_235) (fun _ _ => ⟨rfl, rfl, (by decide : 2 + 0 ≤ _), (by decide : 10 + 0 ≤ _)⟩)
          dsimp only [Pt.U, Pt.locs, Pt.cells, Pt.slots] at X_117 l_117 y_117 z_117 st_117 hQ_117
          subst l_117 y_117 z_117
          obtain ⟨rfl, N_117q, e_117⟩ := hQ_117
          have N_117 := Fr.app N_112 N_117q
          refine Done.pre (fun _ k_ => st_117.trans k_) ?_
          show Done _ _ _ _ _ _ _ (T_117.setTop (mkF m 238 #[Iv p1, Iv p2, Iv (2 : Int32), Iv ee0, Iv ee1, Iv (0 : Int32), Rv b_49, Iv (1 : Int32), Iv (0 : Int32), Iv (0 : Int32), Us, Us, Us] [(.int (0 : Int32))]))
          have sg_118 : ∀ tt_, Steps p.tables e below (T_117.setTop (mkF m 262 #[Iv p1, Iv p2, Iv (2 : Int32), Iv ee0, Iv ee1, Iv (0 : Int32), Rv b_49, Iv (1 : Int32), Iv (0 : Int32), Iv (0 : Int32), Iv (0 : Int32), Us, Us] [.null, (.ref b_49)])) tt_ → Steps p.tables e below (T_117.setTop (mkF m 238 #[Iv p1, Iv p2, Iv (2 : Int32), Iv ee0, Iv ee1, Iv (0 : Int32), Rv b_49, Iv (1 : Int32), Iv (0 : Int32), Iv (0 : Int32), Us, Us, Us] [(.int (0 : Int32))])) tt_ := by
            intro tt_ kt_
            refine XS.istore X_117.here hEX rfl (hb hBY at_238) rfl (l' := #[Iv p1, Iv p2, Iv (2 : Int32), Iv ee0, Iv ee1, Iv (0 : Int32), Rv b_49, Iv (1 : Int32), Iv (0 : Int32), Iv (0 : Int32), Iv (0 : Int32), Us, Us]) rfl ?_
            show Steps p.tables e below (T_117.setTop (mkF m 240 #[Iv p1, Iv p2, Iv (2 : Int32), Iv ee0, Iv ee1, Iv (0 : Int32), Rv b_49, Iv (1 : Int32), Iv (0 : Int32), Iv (0 : Int32), Iv (0 : Int32), Us, Us] [])) tt_
            refine XS.iload X_117.here hEX rfl (hb hBY at_240) rfl ?_
            show Steps p.tables e below (T_117.setTop (mkF m 242 #[Iv p1, Iv p2, Iv (2 : Int32), Iv ee0, Iv ee1, Iv (0 : Int32), Rv b_49, Iv (1 : Int32), Iv (0 : Int32), Iv (0 : Int32), Iv (0 : Int32), Us, Us] [(.int (1 : Int32))])) tt_
            refine XS.ifNo X_117.here hEX rfl (hb hBY at_242) rfl ((if0 _ _).trans (feq (by decide : ¬ ((1 : Int32) = (0 : Int32)))).1) ?_
            show Steps p.tables e below (T_117.setTop (mkF m 245 #[Iv p1, Iv p2, Iv (2 : Int32), Iv ee0, Iv ee1, Iv (0 : Int32), Rv b_49, Iv (1 : Int32), Iv (0 : Int32), Iv (0 : Int32), Iv (0 : Int32), Us, Us] [])) tt_
            refine XS.iload X_117.here hEX rfl (hb hBY at_245) rfl ?_
            show Steps p.tables e below (T_117.setTop (mkF m 247 #[Iv p1, Iv p2, Iv (2 : Int32), Iv ee0, Iv ee1, Iv (0 : Int32), Rv b_49, Iv (1 : Int32), Iv (0 : Int32), Iv (0 : Int32), Iv (0 : Int32), Us, Us] [(.int (0 : Int32))])) tt_
            refine XS.iload X_117.here hEX rfl (hb hBY at_247) rfl ?_
            show Steps p.tables e below (T_117.setTop (mkF m 249 #[Iv p1, Iv p2, Iv (2 : Int32), Iv ee0, Iv ee1, Iv (0 : Int32), Rv b_49, Iv (1 : Int32), Iv (0 : Int32), Iv (0 : Int32), Iv (0 : Int32), Us, Us] [(.int (0 : Int32)), (.int (0 : Int32))])) tt_
            refine XS.icmpNo X_117.here hEX rfl (hb hBY at_249) rfl (teq (by decide : (0 : Int32) = (0 : Int32))).2 ?_
            show Steps p.tables e below (T_117.setTop (mkF m 252 #[Iv p1, Iv p2, Iv (2 : Int32), Iv ee0, Iv ee1, Iv (0 : Int32), Rv b_49, Iv (1 : Int32), Iv (0 : Int32), Iv (0 : Int32), Iv (0 : Int32), Us, Us] [])) tt_
            refine XS.iconst X_117.here hEX rfl (hb hBY at_252) ?_
            show Steps p.tables e below (T_117.setTop (mkF m 253 #[Iv p1, Iv p2, Iv (2 : Int32), Iv ee0, Iv ee1, Iv (0 : Int32), Rv b_49, Iv (1 : Int32), Iv (0 : Int32), Iv (0 : Int32), Iv (0 : Int32), Us, Us] [(.int (1 : Int32))])) tt_
            refine XS.goto X_117.here hEX rfl (pc0 := 253) (pc' := 257) rfl (hb hBY at_253) (by decide) (by decide) ?_
            show Steps p.tables e below (T_117.setTop (mkF m 257 #[Iv p1, Iv p2, Iv (2 : Int32), Iv ee0, Iv ee1, Iv (0 : Int32), Rv b_49, Iv (1 : Int32), Iv (0 : Int32), Iv (0 : Int32), Iv (0 : Int32), Us, Us] [(.int (1 : Int32))])) tt_
            refine XS.istore X_117.here hEX rfl (hb hBY at_257) rfl (l' := #[Iv p1, Iv p2, Iv (2 : Int32), Iv ee0, Iv ee1, Iv (0 : Int32), Rv b_49, Iv (1 : Int32), Iv (0 : Int32), Iv (0 : Int32), Iv (0 : Int32), Us, Us]) rfl ?_
            show Steps p.tables e below (T_117.setTop (mkF m 259 #[Iv p1, Iv p2, Iv (2 : Int32), Iv ee0, Iv ee1, Iv (0 : Int32), Rv b_49, Iv (1 : Int32), Iv (0 : Int32), Iv (0 : Int32), Iv (0 : Int32), Us, Us] [])) tt_
            refine XS.aload X_117.here hEX rfl (hb hBY at_259) rfl rfl ?_
            show Steps p.tables e below (T_117.setTop (mkF m 261 #[Iv p1, Iv p2, Iv (2 : Int32), Iv ee0, Iv ee1, Iv (0 : Int32), Rv b_49, Iv (1 : Int32), Iv (0 : Int32), Iv (0 : Int32), Iv (0 : Int32), Us, Us] [(.ref b_49)])) tt_
            refine XS.aconstNull X_117.here hEX rfl (hb hBY at_261) ?_
            exact kt_
          refine Done.pre sg_118 ?_
          obtain ⟨cq_119, kq_119, q_119a, q_119b, q_119c⟩ := isOf hZW e_117 hq_112_0
          obtain ⟨_, _, ⟨T_119, L_119, k_119, n_119⟩, -, X_119, ⟨Lc_119, hQ_119, l_119, y_119, z_119⟩, st_119⟩ := X_117.virtualBack hEX (y := (⟨"com/example/actorium/actorium/Claimant$Sends", "begin", "(Lcom/example/actorium/actorium/DispatchedCell;)I"⟩ : MethodName)) (z := (⟨"com/example/actorium/actorium/Claimant$Sends", "begin", "(Lcom/example/actorium/actorium/DispatchedCell;)I"⟩ : MethodName)) hOW (mvT hZW (hw _ (List.mem_of_getElem? (i := 14) rfl))) (mvT hZW (hw _ (List.mem_of_getElem? (i := 15) rfl))) (notFace_of_selects (args := #[]) (mvT hZW (hw _ (List.mem_of_getElem? (i := 17) rfl)))) (mvT hZW (hw _ (List.mem_of_getElem? (i := 17) rfl))) (mvT hZW (hw _ (List.mem_of_getElem? (i := 16) rfl))) (by decide) (backOf (W := 0) (rm_begin l Z aZ hw [] b_49 (0 : Int32) b__55 k__55 T_112.heap n0 (Nat.le_trans Z0 K__113.1) hq_112_0 f_115 hq_112_2 hq_112_3 ge_b_49 (Nat.le_trans Z0 sz_b__55) ne_b_49_b__55 (by decide)) hZW (hw _ (List.mem_of_getElem? (i := 18) rfl)) (hw _ (List.mem_of_getElem? (i := 3) rfl)) (by decide) (by decide)) q_119a q_119c (g := (mkF m 262 #[Iv p1, Iv p2, Iv (2 : Int32), Iv ee0, Iv ee1, Iv (0 : Int32), Rv b_49, Iv (1 : Int32), Iv (0 : Int32), Iv (0 : Int32), Iv (0 : Int32), Us, Us] [.null, (.ref b_49)])) rfl (by rw [hMX]; rfl) (Steps.refl _) (argsL := [.null]) (rest := []) (lenOf pd__Lcom_example_actorium_actorium_DispatchedCell__I_3 rfl) rfl (by show 2 * 0 + _ ≤ _; exact Nat.le_of_eq rfl) (hb hBY at_262) (fun _ _ => ⟨rfl, e_117, (by decide : 2 + 0 ≤ _), (by decide : 10 + 0 ≤ _)⟩)
          dsimp only [Pt.U, Pt.locs, Pt.cells, Pt.slots] at X_119 l_119 y_119 z_119 st_119 hQ_119
          subst l_119 y_119 z_119
          obtain ⟨rfl, N_119q, K_119, hq_119_0, hq_119_1, hq_119_2, hq_119_3⟩ := hQ_119
          have N_119 := Fr.app N_117 N_119q
          have K__120 : Keep h0 T_119.heap [] := K__113.trans K_119 (allS (Or.inr sz_b_49) (allS (Or.inr sz_b__55) all0))
          have f_121 : Exa Z T_119.heap b_49 "com/example/actorium/actorium/Claimant$Sends" := hq_112_0.keep K_119
          refine Done.pre (fun _ k_ => st_119.trans k_) ?_
          show Done _ _ _ _ _ _ _ (T_119.setTop (mkF m 265 #[Iv p1, Iv p2, Iv (2 : Int32), Iv ee0, Iv ee1, Iv (0 : Int32), Rv b_49, Iv (1 : Int32), Iv (0 : Int32), Iv (0 : Int32), Iv (0 : Int32), Us, Us] [(.int (0 : Int32))]))
          have f_122 : Fld Z T_119.heap b_49 "com/example/actorium/actorium/Claimant$Sends" "top" "I" (.int (1 : Int32)) := by have q := hq_119_1; rw [show ((0 : Int32) + (1 : Int32)) = (1 : Int32) from by decide] at q; exact q
          have sg_123 : ∀ tt_, Steps p.tables e below (T_119.setTop (mkF m 269 #[Iv p1, Iv p2, Iv (2 : Int32), Iv ee0, Iv ee1, Iv (0 : Int32), Rv b_49, Iv (1 : Int32), Iv (0 : Int32), Iv (0 : Int32), Iv (0 : Int32), Iv (0 : Int32), Us] [(.ref b_49)])) tt_ → Steps p.tables e below (T_119.setTop (mkF m 265 #[Iv p1, Iv p2, Iv (2 : Int32), Iv ee0, Iv ee1, Iv (0 : Int32), Rv b_49, Iv (1 : Int32), Iv (0 : Int32), Iv (0 : Int32), Iv (0 : Int32), Us, Us] [(.int (0 : Int32))])) tt_ := by
            intro tt_ kt_
            refine XS.istore X_119.here hEX rfl (hb hBY at_265) rfl (l' := #[Iv p1, Iv p2, Iv (2 : Int32), Iv ee0, Iv ee1, Iv (0 : Int32), Rv b_49, Iv (1 : Int32), Iv (0 : Int32), Iv (0 : Int32), Iv (0 : Int32), Iv (0 : Int32), Us]) rfl ?_
            show Steps p.tables e below (T_119.setTop (mkF m 267 #[Iv p1, Iv p2, Iv (2 : Int32), Iv ee0, Iv ee1, Iv (0 : Int32), Rv b_49, Iv (1 : Int32), Iv (0 : Int32), Iv (0 : Int32), Iv (0 : Int32), Iv (0 : Int32), Us] [])) tt_
            refine XS.aload X_119.here hEX rfl (hb hBY at_267) rfl rfl ?_
            exact kt_
          refine Done.pre sg_123 ?_
          obtain ⟨cq_124, kq_124, q_124a, q_124b, q_124c⟩ := isOf hZW rfl hq_119_0
          obtain ⟨_, _, ⟨T_124, L_124, k_124, n_124⟩, -, X_124, ⟨Lc_124, hQ_124, l_124, y_124, z_124⟩, st_124⟩ := X_119.virtualBack hEX (y := (⟨"com/example/actorium/actorium/Claimant$Sends", "depth", "()I"⟩ : MethodName)) (z := (⟨"com/example/actorium/actorium/Claimant$Sends", "depth", "()I"⟩ : MethodName)) hOW (mvT hZW (hw _ (List.mem_of_getElem? (i := 21) rfl))) (mvT hZW (hw _ (List.mem_of_getElem? (i := 22) rfl))) (notFace_of_selects (args := #[]) (mvT hZW (hw _ (List.mem_of_getElem? (i := 24) rfl)))) (mvT hZW (hw _ (List.mem_of_getElem? (i := 24) rfl))) (mvT hZW (hw _ (List.mem_of_getElem? (i := 23) rfl))) (by decide) (backOf (W := 0) (rm_depth l Z aZ hw [] b_49 (1 : Int32) T_119.heap n0 (Nat.le_trans Z0 K__120.1) f_122) hZW (hw _ (List.mem_of_getElem? (i := 25) rfl)) (hw _ (List.mem_of_getElem? (i := 3) rfl)) (by decide) (by decide)) q_124a q_124c (g := (mkF m 269 #[Iv p1, Iv p2, Iv (2 : Int32), Iv ee0, Iv ee1, Iv (0 : Int32), Rv b_49, Iv (1 : Int32), Iv (0 : Int32), Iv (0 : Int32), Iv (0 : Int32), Iv (0 : Int32), Us] [(.ref b_49)])) rfl (by rw [hMX]; rfl) (Steps.refl _) (argsL := []) (rest := []) (lenOf pd___I_0 rfl) rfl (by show 2 * 0 + _ ≤ _; exact Nat.le_of_eq rfl) (hb hBY at_269) (fun _ _ => ⟨rfl, rfl, (by decide : 2 + 0 ≤ _), (by decide : 10 + 0 ≤ _)⟩)
          dsimp only [Pt.U, Pt.locs, Pt.cells, Pt.slots] at X_124 l_124 y_124 z_124 st_124 hQ_124
          subst l_124 y_124 z_124
          obtain ⟨rfl, N_124q, e_124⟩ := hQ_124
          have N_124 := Fr.app N_119 N_124q
          refine Done.pre (fun _ k_ => st_124.trans k_) ?_
          show Done _ _ _ _ _ _ _ (T_124.setTop (mkF m 272 #[Iv p1, Iv p2, Iv (2 : Int32), Iv ee0, Iv ee1, Iv (0 : Int32), Rv b_49, Iv (1 : Int32), Iv (0 : Int32), Iv (0 : Int32), Iv (0 : Int32), Iv (0 : Int32), Us] [(.int (1 : Int32))]))
          have sg_125 : ∀ tt_, Steps p.tables e below (T_124.setTop (mkF m 304 #[Iv p1, Iv p2, Iv (2 : Int32), Iv ee0, Iv ee1, Iv (0 : Int32), Rv b_49, Iv (1 : Int32), Iv (0 : Int32), Iv (0 : Int32), Iv (0 : Int32), Iv (0 : Int32), Iv (1 : Int32)] [(.int (1 : Int32))])) tt_ → Steps p.tables e below (T_124.setTop (mkF m 272 #[Iv p1, Iv p2, Iv (2 : Int32), Iv ee0, Iv ee1, Iv (0 : Int32), Rv b_49, Iv (1 : Int32), Iv (0 : Int32), Iv (0 : Int32), Iv (0 : Int32), Iv (0 : Int32), Us] [(.int (1 : Int32))])) tt_ := by
            intro tt_ kt_
            refine XS.istore X_124.here hEX rfl (hb hBY at_272) rfl (l' := #[Iv p1, Iv p2, Iv (2 : Int32), Iv ee0, Iv ee1, Iv (0 : Int32), Rv b_49, Iv (1 : Int32), Iv (0 : Int32), Iv (0 : Int32), Iv (0 : Int32), Iv (0 : Int32), Iv (1 : Int32)]) rfl ?_
            show Steps p.tables e below (T_124.setTop (mkF m 274 #[Iv p1, Iv p2, Iv (2 : Int32), Iv ee0, Iv ee1, Iv (0 : Int32), Rv b_49, Iv (1 : Int32), Iv (0 : Int32), Iv (0 : Int32), Iv (0 : Int32), Iv (0 : Int32), Iv (1 : Int32)] [])) tt_
            refine XS.iload X_124.here hEX rfl (hb hBY at_274) rfl ?_
            show Steps p.tables e below (T_124.setTop (mkF m 276 #[Iv p1, Iv p2, Iv (2 : Int32), Iv ee0, Iv ee1, Iv (0 : Int32), Rv b_49, Iv (1 : Int32), Iv (0 : Int32), Iv (0 : Int32), Iv (0 : Int32), Iv (0 : Int32), Iv (1 : Int32)] [(.int (1 : Int32))])) tt_
            refine XS.ifNo X_124.here hEX rfl (hb hBY at_276) rfl ((if0 _ _).trans (feq (by decide : ¬ ((1 : Int32) = (0 : Int32)))).1) ?_
            show Steps p.tables e below (T_124.setTop (mkF m 279 #[Iv p1, Iv p2, Iv (2 : Int32), Iv ee0, Iv ee1, Iv (0 : Int32), Rv b_49, Iv (1 : Int32), Iv (0 : Int32), Iv (0 : Int32), Iv (0 : Int32), Iv (0 : Int32), Iv (1 : Int32)] [])) tt_
            refine XS.iload X_124.here hEX rfl (hb hBY at_279) rfl ?_
            show Steps p.tables e below (T_124.setTop (mkF m 281 #[Iv p1, Iv p2, Iv (2 : Int32), Iv ee0, Iv ee1, Iv (0 : Int32), Rv b_49, Iv (1 : Int32), Iv (0 : Int32), Iv (0 : Int32), Iv (0 : Int32), Iv (0 : Int32), Iv (1 : Int32)] [(.int (0 : Int32))])) tt_
            refine XS.iload X_124.here hEX rfl (hb hBY at_281) rfl ?_
            show Steps p.tables e below (T_124.setTop (mkF m 283 #[Iv p1, Iv p2, Iv (2 : Int32), Iv ee0, Iv ee1, Iv (0 : Int32), Rv b_49, Iv (1 : Int32), Iv (0 : Int32), Iv (0 : Int32), Iv (0 : Int32), Iv (0 : Int32), Iv (1 : Int32)] [(.int (0 : Int32)), (.int (0 : Int32))])) tt_
            refine XS.icmpNo X_124.here hEX rfl (hb hBY at_283) rfl (teq (by decide : (0 : Int32) = (0 : Int32))).2 ?_
            show Steps p.tables e below (T_124.setTop (mkF m 286 #[Iv p1, Iv p2, Iv (2 : Int32), Iv ee0, Iv ee1, Iv (0 : Int32), Rv b_49, Iv (1 : Int32), Iv (0 : Int32), Iv (0 : Int32), Iv (0 : Int32), Iv (0 : Int32), Iv (1 : Int32)] [])) tt_
            refine XS.iload X_124.here hEX rfl (hb hBY at_286) rfl ?_
            show Steps p.tables e below (T_124.setTop (mkF m 288 #[Iv p1, Iv p2, Iv (2 : Int32), Iv ee0, Iv ee1, Iv (0 : Int32), Rv b_49, Iv (1 : Int32), Iv (0 : Int32), Iv (0 : Int32), Iv (0 : Int32), Iv (0 : Int32), Iv (1 : Int32)] [(.int (1 : Int32))])) tt_
            refine XS.iload X_124.here hEX rfl (hb hBY at_288) rfl ?_
            show Steps p.tables e below (T_124.setTop (mkF m 290 #[Iv p1, Iv p2, Iv (2 : Int32), Iv ee0, Iv ee1, Iv (0 : Int32), Rv b_49, Iv (1 : Int32), Iv (0 : Int32), Iv (0 : Int32), Iv (0 : Int32), Iv (0 : Int32), Iv (1 : Int32)] [(.int (0 : Int32)), (.int (1 : Int32))])) tt_
            refine XS.iconst X_124.here hEX rfl (hb hBY at_290) ?_
            show Steps p.tables e below (T_124.setTop (mkF m 291 #[Iv p1, Iv p2, Iv (2 : Int32), Iv ee0, Iv ee1, Iv (0 : Int32), Rv b_49, Iv (1 : Int32), Iv (0 : Int32), Iv (0 : Int32), Iv (0 : Int32), Iv (0 : Int32), Iv (1 : Int32)] [(.int (1 : Int32)), (.int (0 : Int32)), (.int (1 : Int32))])) tt_
            refine XS.iadd X_124.here hEX rfl (hb hBY at_291) rfl ?_
            show Steps p.tables e below (T_124.setTop (mkF m 292 #[Iv p1, Iv p2, Iv (2 : Int32), Iv ee0, Iv ee1, Iv (0 : Int32), Rv b_49, Iv (1 : Int32), Iv (0 : Int32), Iv (0 : Int32), Iv (0 : Int32), Iv (0 : Int32), Iv (1 : Int32)] [(.int (1 : Int32)), (.int (1 : Int32))])) tt_
            refine XS.icmpNo X_124.here hEX rfl (hb hBY at_292) rfl (teq (by decide : (1 : Int32) = (1 : Int32))).2 ?_
            show Steps p.tables e below (T_124.setTop (mkF m 295 #[Iv p1, Iv p2, Iv (2 : Int32), Iv ee0, Iv ee1, Iv (0 : Int32), Rv b_49, Iv (1 : Int32), Iv (0 : Int32), Iv (0 : Int32), Iv (0 : Int32), Iv (0 : Int32), Iv (1 : Int32)] [])) tt_
            refine XS.iconst X_124.here hEX rfl (hb hBY at_295) ?_
            show Steps p.tables e below (T_124.setTop (mkF m 296 #[Iv p1, Iv p2, Iv (2 : Int32), Iv ee0, Iv ee1, Iv (0 : Int32), Rv b_49, Iv (1 : Int32), Iv (0 : Int32), Iv (0 : Int32), Iv (0 : Int32), Iv (0 : Int32), Iv (1 : Int32)] [(.int (1 : Int32))])) tt_
            refine XS.goto X_124.here hEX rfl (pc0 := 296) (pc' := 300) rfl (hb hBY at_296) (by decide) (by decide) ?_
            show Steps p.tables e below (T_124.setTop (mkF m 300 #[Iv p1, Iv p2, Iv (2 : Int32), Iv ee0, Iv ee1, Iv (0 : Int32), Rv b_49, Iv (1 : Int32), Iv (0 : Int32), Iv (0 : Int32), Iv (0 : Int32), Iv (0 : Int32), Iv (1 : Int32)] [(.int (1 : Int32))])) tt_
            refine XS.istore X_124.here hEX rfl (hb hBY at_300) rfl (l' := #[Iv p1, Iv p2, Iv (2 : Int32), Iv ee0, Iv ee1, Iv (0 : Int32), Rv b_49, Iv (1 : Int32), Iv (0 : Int32), Iv (0 : Int32), Iv (0 : Int32), Iv (0 : Int32), Iv (1 : Int32)]) rfl ?_
            show Steps p.tables e below (T_124.setTop (mkF m 302 #[Iv p1, Iv p2, Iv (2 : Int32), Iv ee0, Iv ee1, Iv (0 : Int32), Rv b_49, Iv (1 : Int32), Iv (0 : Int32), Iv (0 : Int32), Iv (0 : Int32), Iv (0 : Int32), Iv (1 : Int32)] [])) tt_
            refine XS.iload X_124.here hEX rfl (hb hBY at_302) rfl ?_
            exact kt_
          refine Done.pre sg_125 ?_
          exact Done.retN X_124 hEX hLK (t := .boolean) hRT (by simp) (hb hBY at_304) (by rw [e_124]; exact ⟨rfl, N_124, K__120⟩) (by decide) (by decide)
    show Done _ _ _ _ _ _ _ (s₁.setTop (mkF m 9 #[Iv p1, Iv p2, Iv (2 : Int32), Us, Us, Us, Us, Us, Us, Us, Us, Us, Us] []))
    have sg_126 : ∀ tt_, Steps p.tables e below (s₁.setTop (mkF m 12 #[Iv p1, Iv p2, Iv (2 : Int32), Us, Us, Us, Us, Us, Us, Us, Us, Us, Us] [(.int (p1 &&& (1 : Int32)))])) tt_ → Steps p.tables e below (s₁.setTop (mkF m 9 #[Iv p1, Iv p2, Iv (2 : Int32), Us, Us, Us, Us, Us, Us, Us, Us, Us, Us] [])) tt_ := by
      intro tt_ kt_
      refine XS.iloadN X0.here hEX rfl (hb hBY at_9) rfl ?_
      show Steps p.tables e below (s₁.setTop (mkF m 10 #[Iv p1, Iv p2, Iv (2 : Int32), Us, Us, Us, Us, Us, Us, Us, Us, Us, Us] [(.int p1)])) tt_
      refine XS.iconst X0.here hEX rfl (hb hBY at_10) ?_
      show Steps p.tables e below (s₁.setTop (mkF m 11 #[Iv p1, Iv p2, Iv (2 : Int32), Us, Us, Us, Us, Us, Us, Us, Us, Us, Us] [(.int (1 : Int32)), (.int p1)])) tt_
      refine XS.iand X0.here hEX rfl (hb hBY at_11) rfl ?_
      exact kt_
    refine Done.pre sg_126 ?_
    by_cases hc12 : (p1 &&& (1 : Int32)) = (0 : Int32)
    · skip
      have sg_127 : ∀ tt_, Steps p.tables e below (s₁.setTop (mkF m 29 #[Iv p1, Iv p2, Iv (2 : Int32), Iv (0 : Int32), Us, Us, Us, Us, Us, Us, Us, Us, Us] [(.int (p1 &&& (2 : Int32)))])) tt_ → Steps p.tables e below (s₁.setTop (mkF m 12 #[Iv p1, Iv p2, Iv (2 : Int32), Us, Us, Us, Us, Us, Us, Us, Us, Us, Us] [(.int (p1 &&& (1 : Int32)))])) tt_ := by
        intro tt_ kt_
        refine XS.ifYes X0.here hEX rfl (pc0 := 12) (pc' := 19) rfl (hb hBY at_12) rfl ((if0 _ _).trans (teq hc12).1) (by decide) (by decide) ?_
        show Steps p.tables e below (s₁.setTop (mkF m 19 #[Iv p1, Iv p2, Iv (2 : Int32), Us, Us, Us, Us, Us, Us, Us, Us, Us, Us] [])) tt_
        refine XS.iconst X0.here hEX rfl (hb hBY at_19) ?_
        show Steps p.tables e below (s₁.setTop (mkF m 20 #[Iv p1, Iv p2, Iv (2 : Int32), Us, Us, Us, Us, Us, Us, Us, Us, Us, Us] [(.int (0 : Int32))])) tt_
        refine XS.istoreN X0.here hEX rfl (hb hBY at_20) rfl (l' := #[Iv p1, Iv p2, Iv (2 : Int32), Iv (0 : Int32), Us, Us, Us, Us, Us, Us, Us, Us, Us]) rfl ?_
        show Steps p.tables e below (s₁.setTop (mkF m 21 #[Iv p1, Iv p2, Iv (2 : Int32), Iv (0 : Int32), Us, Us, Us, Us, Us, Us, Us, Us, Us] [])) tt_
        refine XS.iloadN X0.here hEX rfl (hb hBY at_21) rfl ?_
        show Steps p.tables e below (s₁.setTop (mkF m 22 #[Iv p1, Iv p2, Iv (2 : Int32), Iv (0 : Int32), Us, Us, Us, Us, Us, Us, Us, Us, Us] [(.int (2 : Int32))])) tt_
        refine XS.iconst X0.here hEX rfl (hb hBY at_22) ?_
        show Steps p.tables e below (s₁.setTop (mkF m 23 #[Iv p1, Iv p2, Iv (2 : Int32), Iv (0 : Int32), Us, Us, Us, Us, Us, Us, Us, Us, Us] [(.int (2 : Int32)), (.int (2 : Int32))])) tt_
        refine XS.icmpNo X0.here hEX rfl (hb hBY at_23) rfl (flt (by decide : ¬ ((2 : Int32) < (2 : Int32)))).1 ?_
        show Steps p.tables e below (s₁.setTop (mkF m 26 #[Iv p1, Iv p2, Iv (2 : Int32), Iv (0 : Int32), Us, Us, Us, Us, Us, Us, Us, Us, Us] [])) tt_
        refine XS.iloadN X0.here hEX rfl (hb hBY at_26) rfl ?_
        show Steps p.tables e below (s₁.setTop (mkF m 27 #[Iv p1, Iv p2, Iv (2 : Int32), Iv (0 : Int32), Us, Us, Us, Us, Us, Us, Us, Us, Us] [(.int p1)])) tt_
        refine XS.iconst X0.here hEX rfl (hb hBY at_27) ?_
        show Steps p.tables e below (s₁.setTop (mkF m 28 #[Iv p1, Iv p2, Iv (2 : Int32), Iv (0 : Int32), Us, Us, Us, Us, Us, Us, Us, Us, Us] [(.int (2 : Int32)), (.int p1)])) tt_
        refine XS.iand X0.here hEX rfl (hb hBY at_28) rfl ?_
        exact kt_
      refine Done.pre sg_127 ?_
      by_cases hc29 : (p1 &&& (2 : Int32)) = (0 : Int32)
      · skip
        have sg_128 : ∀ tt_, Steps p.tables e below (s₁.setTop (mkF m 57 #[Iv p1, Iv p2, Iv (2 : Int32), Iv (0 : Int32), Iv (0 : Int32), Iv (0 : Int32), Us, Us, Us, Us, Us, Us, Us] [])) tt_ → Steps p.tables e below (s₁.setTop (mkF m 29 #[Iv p1, Iv p2, Iv (2 : Int32), Iv (0 : Int32), Us, Us, Us, Us, Us, Us, Us, Us, Us] [(.int (p1 &&& (2 : Int32)))])) tt_ := by
          intro tt_ kt_
          refine XS.ifYes X0.here hEX rfl (pc0 := 29) (pc' := 36) rfl (hb hBY at_29) rfl ((if0 _ _).trans (teq hc29).1) (by decide) (by decide) ?_
          show Steps p.tables e below (s₁.setTop (mkF m 36 #[Iv p1, Iv p2, Iv (2 : Int32), Iv (0 : Int32), Us, Us, Us, Us, Us, Us, Us, Us, Us] [])) tt_
          refine XS.iconst X0.here hEX rfl (hb hBY at_36) ?_
          show Steps p.tables e below (s₁.setTop (mkF m 37 #[Iv p1, Iv p2, Iv (2 : Int32), Iv (0 : Int32), Us, Us, Us, Us, Us, Us, Us, Us, Us] [(.int (0 : Int32))])) tt_
          refine XS.istore X0.here hEX rfl (hb hBY at_37) rfl (l' := #[Iv p1, Iv p2, Iv (2 : Int32), Iv (0 : Int32), Iv (0 : Int32), Us, Us, Us, Us, Us, Us, Us, Us]) rfl ?_
          show Steps p.tables e below (s₁.setTop (mkF m 39 #[Iv p1, Iv p2, Iv (2 : Int32), Iv (0 : Int32), Iv (0 : Int32), Us, Us, Us, Us, Us, Us, Us, Us] [])) tt_
          refine XS.iloadN X0.here hEX rfl (hb hBY at_39) rfl ?_
          show Steps p.tables e below (s₁.setTop (mkF m 40 #[Iv p1, Iv p2, Iv (2 : Int32), Iv (0 : Int32), Iv (0 : Int32), Us, Us, Us, Us, Us, Us, Us, Us] [(.int (2 : Int32))])) tt_
          refine XS.iconst X0.here hEX rfl (hb hBY at_40) ?_
          show Steps p.tables e below (s₁.setTop (mkF m 41 #[Iv p1, Iv p2, Iv (2 : Int32), Iv (0 : Int32), Iv (0 : Int32), Us, Us, Us, Us, Us, Us, Us, Us] [(.int (3 : Int32)), (.int (2 : Int32))])) tt_
          refine XS.icmpYes X0.here hEX rfl (pc0 := 41) (pc' := 54) rfl (hb hBY at_41) rfl (tlt (by decide : (2 : Int32) < (3 : Int32))).1 (by decide) (by decide) ?_
          show Steps p.tables e below (s₁.setTop (mkF m 54 #[Iv p1, Iv p2, Iv (2 : Int32), Iv (0 : Int32), Iv (0 : Int32), Us, Us, Us, Us, Us, Us, Us, Us] [])) tt_
          refine XS.iconst X0.here hEX rfl (hb hBY at_54) ?_
          show Steps p.tables e below (s₁.setTop (mkF m 55 #[Iv p1, Iv p2, Iv (2 : Int32), Iv (0 : Int32), Iv (0 : Int32), Us, Us, Us, Us, Us, Us, Us, Us] [(.int (0 : Int32))])) tt_
          refine XS.istore X0.here hEX rfl (hb hBY at_55) rfl (l' := #[Iv p1, Iv p2, Iv (2 : Int32), Iv (0 : Int32), Iv (0 : Int32), Iv (0 : Int32), Us, Us, Us, Us, Us, Us, Us]) rfl ?_
          exact kt_
        refine Done.pre sg_128 ?_
        exact jn_48 ((0 : Int32)) ((0 : Int32))
      · skip
        have sg_129 : ∀ tt_, Steps p.tables e below (s₁.setTop (mkF m 57 #[Iv p1, Iv p2, Iv (2 : Int32), Iv (0 : Int32), Iv (1 : Int32), Iv (0 : Int32), Us, Us, Us, Us, Us, Us, Us] [])) tt_ → Steps p.tables e below (s₁.setTop (mkF m 29 #[Iv p1, Iv p2, Iv (2 : Int32), Iv (0 : Int32), Us, Us, Us, Us, Us, Us, Us, Us, Us] [(.int (p1 &&& (2 : Int32)))])) tt_ := by
          intro tt_ kt_
          refine XS.ifNo X0.here hEX rfl (hb hBY at_29) rfl ((if0 _ _).trans (feq hc29).1) ?_
          show Steps p.tables e below (s₁.setTop (mkF m 32 #[Iv p1, Iv p2, Iv (2 : Int32), Iv (0 : Int32), Us, Us, Us, Us, Us, Us, Us, Us, Us] [])) tt_
          refine XS.iconst X0.here hEX rfl (hb hBY at_32) ?_
          show Steps p.tables e below (s₁.setTop (mkF m 33 #[Iv p1, Iv p2, Iv (2 : Int32), Iv (0 : Int32), Us, Us, Us, Us, Us, Us, Us, Us, Us] [(.int (1 : Int32))])) tt_
          refine XS.goto X0.here hEX rfl (pc0 := 33) (pc' := 37) rfl (hb hBY at_33) (by decide) (by decide) ?_
          show Steps p.tables e below (s₁.setTop (mkF m 37 #[Iv p1, Iv p2, Iv (2 : Int32), Iv (0 : Int32), Us, Us, Us, Us, Us, Us, Us, Us, Us] [(.int (1 : Int32))])) tt_
          refine XS.istore X0.here hEX rfl (hb hBY at_37) rfl (l' := #[Iv p1, Iv p2, Iv (2 : Int32), Iv (0 : Int32), Iv (1 : Int32), Us, Us, Us, Us, Us, Us, Us, Us]) rfl ?_
          show Steps p.tables e below (s₁.setTop (mkF m 39 #[Iv p1, Iv p2, Iv (2 : Int32), Iv (0 : Int32), Iv (1 : Int32), Us, Us, Us, Us, Us, Us, Us, Us] [])) tt_
          refine XS.iloadN X0.here hEX rfl (hb hBY at_39) rfl ?_
          show Steps p.tables e below (s₁.setTop (mkF m 40 #[Iv p1, Iv p2, Iv (2 : Int32), Iv (0 : Int32), Iv (1 : Int32), Us, Us, Us, Us, Us, Us, Us, Us] [(.int (2 : Int32))])) tt_
          refine XS.iconst X0.here hEX rfl (hb hBY at_40) ?_
          show Steps p.tables e below (s₁.setTop (mkF m 41 #[Iv p1, Iv p2, Iv (2 : Int32), Iv (0 : Int32), Iv (1 : Int32), Us, Us, Us, Us, Us, Us, Us, Us] [(.int (3 : Int32)), (.int (2 : Int32))])) tt_
          refine XS.icmpYes X0.here hEX rfl (pc0 := 41) (pc' := 54) rfl (hb hBY at_41) rfl (tlt (by decide : (2 : Int32) < (3 : Int32))).1 (by decide) (by decide) ?_
          show Steps p.tables e below (s₁.setTop (mkF m 54 #[Iv p1, Iv p2, Iv (2 : Int32), Iv (0 : Int32), Iv (1 : Int32), Us, Us, Us, Us, Us, Us, Us, Us] [])) tt_
          refine XS.iconst X0.here hEX rfl (hb hBY at_54) ?_
          show Steps p.tables e below (s₁.setTop (mkF m 55 #[Iv p1, Iv p2, Iv (2 : Int32), Iv (0 : Int32), Iv (1 : Int32), Us, Us, Us, Us, Us, Us, Us, Us] [(.int (0 : Int32))])) tt_
          refine XS.istore X0.here hEX rfl (hb hBY at_55) rfl (l' := #[Iv p1, Iv p2, Iv (2 : Int32), Iv (0 : Int32), Iv (1 : Int32), Iv (0 : Int32), Us, Us, Us, Us, Us, Us, Us]) rfl ?_
          exact kt_
        refine Done.pre sg_129 ?_
        exact jn_48 ((0 : Int32)) ((1 : Int32))
    · skip
      have sg_130 : ∀ tt_, Steps p.tables e below (s₁.setTop (mkF m 29 #[Iv p1, Iv p2, Iv (2 : Int32), Iv (1 : Int32), Us, Us, Us, Us, Us, Us, Us, Us, Us] [(.int (p1 &&& (2 : Int32)))])) tt_ → Steps p.tables e below (s₁.setTop (mkF m 12 #[Iv p1, Iv p2, Iv (2 : Int32), Us, Us, Us, Us, Us, Us, Us, Us, Us, Us] [(.int (p1 &&& (1 : Int32)))])) tt_ := by
        intro tt_ kt_
        refine XS.ifNo X0.here hEX rfl (hb hBY at_12) rfl ((if0 _ _).trans (feq hc12).1) ?_
        show Steps p.tables e below (s₁.setTop (mkF m 15 #[Iv p1, Iv p2, Iv (2 : Int32), Us, Us, Us, Us, Us, Us, Us, Us, Us, Us] [])) tt_
        refine XS.iconst X0.here hEX rfl (hb hBY at_15) ?_
        show Steps p.tables e below (s₁.setTop (mkF m 16 #[Iv p1, Iv p2, Iv (2 : Int32), Us, Us, Us, Us, Us, Us, Us, Us, Us, Us] [(.int (1 : Int32))])) tt_
        refine XS.goto X0.here hEX rfl (pc0 := 16) (pc' := 20) rfl (hb hBY at_16) (by decide) (by decide) ?_
        show Steps p.tables e below (s₁.setTop (mkF m 20 #[Iv p1, Iv p2, Iv (2 : Int32), Us, Us, Us, Us, Us, Us, Us, Us, Us, Us] [(.int (1 : Int32))])) tt_
        refine XS.istoreN X0.here hEX rfl (hb hBY at_20) rfl (l' := #[Iv p1, Iv p2, Iv (2 : Int32), Iv (1 : Int32), Us, Us, Us, Us, Us, Us, Us, Us, Us]) rfl ?_
        show Steps p.tables e below (s₁.setTop (mkF m 21 #[Iv p1, Iv p2, Iv (2 : Int32), Iv (1 : Int32), Us, Us, Us, Us, Us, Us, Us, Us, Us] [])) tt_
        refine XS.iloadN X0.here hEX rfl (hb hBY at_21) rfl ?_
        show Steps p.tables e below (s₁.setTop (mkF m 22 #[Iv p1, Iv p2, Iv (2 : Int32), Iv (1 : Int32), Us, Us, Us, Us, Us, Us, Us, Us, Us] [(.int (2 : Int32))])) tt_
        refine XS.iconst X0.here hEX rfl (hb hBY at_22) ?_
        show Steps p.tables e below (s₁.setTop (mkF m 23 #[Iv p1, Iv p2, Iv (2 : Int32), Iv (1 : Int32), Us, Us, Us, Us, Us, Us, Us, Us, Us] [(.int (2 : Int32)), (.int (2 : Int32))])) tt_
        refine XS.icmpNo X0.here hEX rfl (hb hBY at_23) rfl (flt (by decide : ¬ ((2 : Int32) < (2 : Int32)))).1 ?_
        show Steps p.tables e below (s₁.setTop (mkF m 26 #[Iv p1, Iv p2, Iv (2 : Int32), Iv (1 : Int32), Us, Us, Us, Us, Us, Us, Us, Us, Us] [])) tt_
        refine XS.iloadN X0.here hEX rfl (hb hBY at_26) rfl ?_
        show Steps p.tables e below (s₁.setTop (mkF m 27 #[Iv p1, Iv p2, Iv (2 : Int32), Iv (1 : Int32), Us, Us, Us, Us, Us, Us, Us, Us, Us] [(.int p1)])) tt_
        refine XS.iconst X0.here hEX rfl (hb hBY at_27) ?_
        show Steps p.tables e below (s₁.setTop (mkF m 28 #[Iv p1, Iv p2, Iv (2 : Int32), Iv (1 : Int32), Us, Us, Us, Us, Us, Us, Us, Us, Us] [(.int (2 : Int32)), (.int p1)])) tt_
        refine XS.iand X0.here hEX rfl (hb hBY at_28) rfl ?_
        exact kt_
      refine Done.pre sg_130 ?_
      by_cases hc29 : (p1 &&& (2 : Int32)) = (0 : Int32)
      · skip
        have sg_131 : ∀ tt_, Steps p.tables e below (s₁.setTop (mkF m 57 #[Iv p1, Iv p2, Iv (2 : Int32), Iv (1 : Int32), Iv (0 : Int32), Iv (0 : Int32), Us, Us, Us, Us, Us, Us, Us] [])) tt_ → Steps p.tables e below (s₁.setTop (mkF m 29 #[Iv p1, Iv p2, Iv (2 : Int32), Iv (1 : Int32), Us, Us, Us, Us, Us, Us, Us, Us, Us] [(.int (p1 &&& (2 : Int32)))])) tt_ := by
          intro tt_ kt_
          refine XS.ifYes X0.here hEX rfl (pc0 := 29) (pc' := 36) rfl (hb hBY at_29) rfl ((if0 _ _).trans (teq hc29).1) (by decide) (by decide) ?_
          show Steps p.tables e below (s₁.setTop (mkF m 36 #[Iv p1, Iv p2, Iv (2 : Int32), Iv (1 : Int32), Us, Us, Us, Us, Us, Us, Us, Us, Us] [])) tt_
          refine XS.iconst X0.here hEX rfl (hb hBY at_36) ?_
          show Steps p.tables e below (s₁.setTop (mkF m 37 #[Iv p1, Iv p2, Iv (2 : Int32), Iv (1 : Int32), Us, Us, Us, Us, Us, Us, Us, Us, Us] [(.int (0 : Int32))])) tt_
          refine XS.istore X0.here hEX rfl (hb hBY at_37) rfl (l' := #[Iv p1, Iv p2, Iv (2 : Int32), Iv (1 : Int32), Iv (0 : Int32), Us, Us, Us, Us, Us, Us, Us, Us]) rfl ?_
          show Steps p.tables e below (s₁.setTop (mkF m 39 #[Iv p1, Iv p2, Iv (2 : Int32), Iv (1 : Int32), Iv (0 : Int32), Us, Us, Us, Us, Us, Us, Us, Us] [])) tt_
          refine XS.iloadN X0.here hEX rfl (hb hBY at_39) rfl ?_
          show Steps p.tables e below (s₁.setTop (mkF m 40 #[Iv p1, Iv p2, Iv (2 : Int32), Iv (1 : Int32), Iv (0 : Int32), Us, Us, Us, Us, Us, Us, Us, Us] [(.int (2 : Int32))])) tt_
          refine XS.iconst X0.here hEX rfl (hb hBY at_40) ?_
          show Steps p.tables e below (s₁.setTop (mkF m 41 #[Iv p1, Iv p2, Iv (2 : Int32), Iv (1 : Int32), Iv (0 : Int32), Us, Us, Us, Us, Us, Us, Us, Us] [(.int (3 : Int32)), (.int (2 : Int32))])) tt_
          refine XS.icmpYes X0.here hEX rfl (pc0 := 41) (pc' := 54) rfl (hb hBY at_41) rfl (tlt (by decide : (2 : Int32) < (3 : Int32))).1 (by decide) (by decide) ?_
          show Steps p.tables e below (s₁.setTop (mkF m 54 #[Iv p1, Iv p2, Iv (2 : Int32), Iv (1 : Int32), Iv (0 : Int32), Us, Us, Us, Us, Us, Us, Us, Us] [])) tt_
          refine XS.iconst X0.here hEX rfl (hb hBY at_54) ?_
          show Steps p.tables e below (s₁.setTop (mkF m 55 #[Iv p1, Iv p2, Iv (2 : Int32), Iv (1 : Int32), Iv (0 : Int32), Us, Us, Us, Us, Us, Us, Us, Us] [(.int (0 : Int32))])) tt_
          refine XS.istore X0.here hEX rfl (hb hBY at_55) rfl (l' := #[Iv p1, Iv p2, Iv (2 : Int32), Iv (1 : Int32), Iv (0 : Int32), Iv (0 : Int32), Us, Us, Us, Us, Us, Us, Us]) rfl ?_
          exact kt_
        refine Done.pre sg_131 ?_
        exact jn_48 ((1 : Int32)) ((0 : Int32))
      · skip
        have sg_132 : ∀ tt_, Steps p.tables e below (s₁.setTop (mkF m 57 #[Iv p1, Iv p2, Iv (2 : Int32), Iv (1 : Int32), Iv (1 : Int32), Iv (0 : Int32), Us, Us, Us, Us, Us, Us, Us] [])) tt_ → Steps p.tables e below (s₁.setTop (mkF m 29 #[Iv p1, Iv p2, Iv (2 : Int32), Iv (1 : Int32), Us, Us, Us, Us, Us, Us, Us, Us, Us] [(.int (p1 &&& (2 : Int32)))])) tt_ := by
          intro tt_ kt_
          refine XS.ifNo X0.here hEX rfl (hb hBY at_29) rfl ((if0 _ _).trans (feq hc29).1) ?_
          show Steps p.tables e below (s₁.setTop (mkF m 32 #[Iv p1, Iv p2, Iv (2 : Int32), Iv (1 : Int32), Us, Us, Us, Us, Us, Us, Us, Us, Us] [])) tt_
          refine XS.iconst X0.here hEX rfl (hb hBY at_32) ?_
          show Steps p.tables e below (s₁.setTop (mkF m 33 #[Iv p1, Iv p2, Iv (2 : Int32), Iv (1 : Int32), Us, Us, Us, Us, Us, Us, Us, Us, Us] [(.int (1 : Int32))])) tt_
          refine XS.goto X0.here hEX rfl (pc0 := 33) (pc' := 37) rfl (hb hBY at_33) (by decide) (by decide) ?_
          show Steps p.tables e below (s₁.setTop (mkF m 37 #[Iv p1, Iv p2, Iv (2 : Int32), Iv (1 : Int32), Us, Us, Us, Us, Us, Us, Us, Us, Us] [(.int (1 : Int32))])) tt_
          refine XS.istore X0.here hEX rfl (hb hBY at_37) rfl (l' := #[Iv p1, Iv p2, Iv (2 : Int32), Iv (1 : Int32), Iv (1 : Int32), Us, Us, Us, Us, Us, Us, Us, Us]) rfl ?_
          show Steps p.tables e below (s₁.setTop (mkF m 39 #[Iv p1, Iv p2, Iv (2 : Int32), Iv (1 : Int32), Iv (1 : Int32), Us, Us, Us, Us, Us, Us, Us, Us] [])) tt_
          refine XS.iloadN X0.here hEX rfl (hb hBY at_39) rfl ?_
          show Steps p.tables e below (s₁.setTop (mkF m 40 #[Iv p1, Iv p2, Iv (2 : Int32), Iv (1 : Int32), Iv (1 : Int32), Us, Us, Us, Us, Us, Us, Us, Us] [(.int (2 : Int32))])) tt_
          refine XS.iconst X0.here hEX rfl (hb hBY at_40) ?_
          show Steps p.tables e below (s₁.setTop (mkF m 41 #[Iv p1, Iv p2, Iv (2 : Int32), Iv (1 : Int32), Iv (1 : Int32), Us, Us, Us, Us, Us, Us, Us, Us] [(.int (3 : Int32)), (.int (2 : Int32))])) tt_
          refine XS.icmpYes X0.here hEX rfl (pc0 := 41) (pc' := 54) rfl (hb hBY at_41) rfl (tlt (by decide : (2 : Int32) < (3 : Int32))).1 (by decide) (by decide) ?_
          show Steps p.tables e below (s₁.setTop (mkF m 54 #[Iv p1, Iv p2, Iv (2 : Int32), Iv (1 : Int32), Iv (1 : Int32), Us, Us, Us, Us, Us, Us, Us, Us] [])) tt_
          refine XS.iconst X0.here hEX rfl (hb hBY at_54) ?_
          show Steps p.tables e below (s₁.setTop (mkF m 55 #[Iv p1, Iv p2, Iv (2 : Int32), Iv (1 : Int32), Iv (1 : Int32), Us, Us, Us, Us, Us, Us, Us, Us] [(.int (0 : Int32))])) tt_
          refine XS.istore X0.here hEX rfl (hb hBY at_55) rfl (l' := #[Iv p1, Iv p2, Iv (2 : Int32), Iv (1 : Int32), Iv (1 : Int32), Iv (0 : Int32), Us, Us, Us, Us, Us, Us, Us]) rfl ?_
          exact kt_
        refine Done.pre sg_132 ?_
        exact jn_48 ((1 : Int32)) ((1 : Int32))
  · skip
    show Done _ _ _ _ _ _ _ (s₁.setTop (mkF m 8 #[Iv p1, Iv p2, Us, Us, Us, Us, Us, Us, Us, Us, Us, Us, Us] [(.int (3 : Int32))]))
    have sg_133 : ∀ tt_, Steps p.tables e below (s₁.setTop (mkF m 9 #[Iv p1, Iv p2, Iv (3 : Int32), Us, Us, Us, Us, Us, Us, Us, Us, Us, Us] [])) tt_ → Steps p.tables e below (s₁.setTop (mkF m 8 #[Iv p1, Iv p2, Us, Us, Us, Us, Us, Us, Us, Us, Us, Us, Us] [(.int (3 : Int32))])) tt_ := by
      intro tt_ kt_
      refine XS.istoreN X0.here hEX rfl (hb hBY at_8) rfl (l' := #[Iv p1, Iv p2, Iv (3 : Int32), Us, Us, Us, Us, Us, Us, Us, Us, Us, Us]) rfl ?_
      exact kt_
    refine Done.pre sg_133 ?_
    have jn_134 : ∀ (ee0 : Int32) (ee1 : Int32) (ee2 : Int32), Done p e below s (Qrm0 Z p1 p2 h0 n0) room_1.cells room_1.slots (s₁.setTop (mkF m 57 #[Iv p1, Iv p2, Iv (3 : Int32), Iv ee0, Iv ee1, Iv ee2, Us, Us, Us, Us, Us, Us, Us] [])) := by
      intro ee0 ee1 ee2
      show Done _ _ _ _ _ _ _ (s₁.setTop (mkF m 57 #[Iv p1, Iv p2, Iv (3 : Int32), Iv ee0, Iv ee1, Iv ee2, Us, Us, Us, Us, Us, Us, Us] []))
      obtain ⟨T_135, h_135, X_135, e_135, E_135, A_135, D_135, -, st_135⟩ := newO X0 hEX hZW hOW (hw _ (List.mem_of_getElem? (i := 1) rfl)) (hw _ (List.mem_of_getElem? (i := 2) rfl)) (hw _ (List.mem_of_getElem? (i := 3) rfl)) e0 (g := (mkF m 57 #[Iv p1, Iv p2, Iv (3 : Int32), Iv ee0, Iv ee1, Iv ee2, Us, Us, Us, Us, Us, Us, Us] [])) rfl (hb hBY at_57) (by decide) (by decide)
      obtain ⟨b_135, g_135⟩ : ∃ z, z = h0.size := ⟨_, rfl⟩
      rw [← g_135] at A_135 D_135 st_135
      have sz_b_135 : h0.size ≤ b_135 := Nat.le_trans K0.1 (Nat.le_of_eq g_135.symm)
      have ge_b_135 : n0 ≤ b_135 := Nat.le_trans Z0 sz_b_135
      have K__136 : Keep h0 h_135 [] := K0.ext E_135
      have f_137 : Exa Z h_135 b_135 "com/example/actorium/actorium/Claimant$Sends" := A_135
      have f_138 : Fld Z h_135 b_135 "com/example/actorium/actorium/Claimant$Sends" "cells" "[Lcom/example/actorium/actorium/DispatchedCell;" .null := D_135 (Or.inl (hw _ (List.mem_of_getElem? (i := 13) rfl))) (ty := (.array (.object "com/example/actorium/actorium/DispatchedCell"))) (by decide)
      have f_139 : Fld Z h_135 b_135 "com/example/actorium/actorium/Claimant$Sends" "top" "I" (.int (0 : Int32)) := D_135 (Or.inl (hw _ (List.mem_of_getElem? (i := 20) rfl))) (ty := .int) (by decide)
      refine Done.pre st_135 ?_
      show Done _ _ _ _ _ _ _ (T_135.setTop (mkF m 60 #[Iv p1, Iv p2, Iv (3 : Int32), Iv ee0, Iv ee1, Iv ee2, Us, Us, Us, Us, Us, Us, Us] [(.ref b_135)]))
      have sg_140 : ∀ tt_, Steps p.tables e below (T_135.setTop (mkF m 61 #[Iv p1, Iv p2, Iv (3 : Int32), Iv ee0, Iv ee1, Iv ee2, Us, Us, Us, Us, Us, Us, Us] [(.ref b_135), (.ref b_135)])) tt_ → Steps p.tables e below (T_135.setTop (mkF m 60 #[Iv p1, Iv p2, Iv (3 : Int32), Iv ee0, Iv ee1, Iv ee2, Us, Us, Us, Us, Us, Us, Us] [(.ref b_135)])) tt_ := by
        intro tt_ kt_
        refine XS.dup X_135.here hEX rfl (hb hBY at_60) rfl rfl ?_
        exact kt_
      refine Done.pre sg_140 ?_
      obtain ⟨_, _, ⟨T_141, L_141, k_141, n_141⟩, -, X_141, ⟨Lc_141, hQ_141, l_141, y_141, z_141⟩, st_141⟩ := X_135.specialBack hEX (y := (⟨"com/example/actorium/actorium/Claimant$Sends", "<init>", "()V"⟩ : MethodName)) rfl hOW (mvT hZW (hw _ (List.mem_of_getElem? (i := 4) rfl))) (mvT hZW (hw _ (List.mem_of_getElem? (i := 5) rfl))) (mvT hZW (hw _ (List.mem_of_getElem? (i := 6) rfl))) (by decide) (backOf (W := 1) (rm_init l Z aZ hw [] b_135 (0 : Int32) .null h_135 n0 (Nat.le_trans Z0 K__136.1) f_137 f_139 f_138 ge_b_135) hZW (hw _ (List.mem_of_getElem? (i := 6) rfl)) (hw _ (List.mem_of_getElem? (i := 3) rfl)) (by decide) (by decide)) (g := (mkF m 61 #[Iv p1, Iv p2, Iv (3 : Int32), Iv ee0, Iv ee1, Iv ee2, Us, Us, Us, Us, Us, Us, Us] [(.ref b_135), (.ref b_135)])) rfl (by rw [hMX]; rfl) (Steps.refl _) (a := b_135) (argsL := []) (rest := [(.ref b_135)]) (lenOf pd___V_1 rfl) rfl (by show 2 * 0 + _ ≤ _; exact Nat.le_of_eq rfl) (hb hBY at_61) (fun _ _ => ⟨rfl, e_135, (by decide : 1 + 1 ≤ _), (by decide : 2 + 8 ≤ _)⟩)
      dsimp only [Pt.U, Pt.locs, Pt.cells, Pt.slots] at X_141 l_141 y_141 z_141 st_141 hQ_141
      subst l_141 y_141 z_141
      obtain ⟨b__141, k__141, rfl, N_141q, K_141, hq_141_0, hq_141_1, hq_141_2, hq_141_3, hq_141_4⟩ := hQ_141
      have N_141 := Fr.app N0 N_141q
      have K__142 : Keep h0 T_141.heap [] := K__136.trans K_141 (allS (Or.inr sz_b_135) all0)
      have f_143 : Exa Z T_141.heap b_135 "com/example/actorium/actorium/Claimant$Sends" := f_137.keep K_141
      have sz_b__141 : h0.size ≤ b__141 := Nat.le_trans K__136.1 hq_141_4
      have ne_b_135_b__141 : b_135 ≠ b__141 := Nat.ne_of_lt (Nat.lt_of_lt_of_le f_137.lt hq_141_4)
      refine Done.pre (fun _ k_ => st_141.trans k_) ?_
      show Done _ _ _ _ _ _ _ (T_141.setTop (mkF m 64 #[Iv p1, Iv p2, Iv (3 : Int32), Iv ee0, Iv ee1, Iv ee2, Us, Us, Us, Us, Us, Us, Us] [(.ref b_135)]))
      have sg_144 : ∀ tt_, Steps p.tables e below (T_141.setTop (mkF m 72 #[Iv p1, Iv p2, Iv (3 : Int32), Iv ee0, Iv ee1, Iv ee2, Rv b_135, Iv (1 : Int32), Us, Us, Us, Us, Us] [.null, (.ref b_135)])) tt_ → Steps p.tables e below (T_141.setTop (mkF m 64 #[Iv p1, Iv p2, Iv (3 : Int32), Iv ee0, Iv ee1, Iv ee2, Us, Us, Us, Us, Us, Us, Us] [(.ref b_135)])) tt_ := by
        intro tt_ kt_
        refine XS.astore X_141.here hEX rfl (hb hBY at_64) rfl rfl (l' := #[Iv p1, Iv p2, Iv (3 : Int32), Iv ee0, Iv ee1, Iv ee2, Rv b_135, Us, Us, Us, Us, Us, Us]) rfl ?_
        show Steps p.tables e below (T_141.setTop (mkF m 66 #[Iv p1, Iv p2, Iv (3 : Int32), Iv ee0, Iv ee1, Iv ee2, Rv b_135, Us, Us, Us, Us, Us, Us] [])) tt_
        refine XS.iconst X_141.here hEX rfl (hb hBY at_66) ?_
        show Steps p.tables e below (T_141.setTop (mkF m 67 #[Iv p1, Iv p2, Iv (3 : Int32), Iv ee0, Iv ee1, Iv ee2, Rv b_135, Us, Us, Us, Us, Us, Us] [(.int (1 : Int32))])) tt_
        refine XS.istore X_141.here hEX rfl (hb hBY at_67) rfl (l' := #[Iv p1, Iv p2, Iv (3 : Int32), Iv ee0, Iv ee1, Iv ee2, Rv b_135, Iv (1 : Int32), Us, Us, Us, Us, Us]) rfl ?_
        show Steps p.tables e below (T_141.setTop (mkF m 69 #[Iv p1, Iv p2, Iv (3 : Int32), Iv ee0, Iv ee1, Iv ee2, Rv b_135, Iv (1 : Int32), Us, Us, Us, Us, Us] [])) tt_
        refine XS.aload X_141.here hEX rfl (hb hBY at_69) rfl rfl ?_
        show Steps p.tables e below (T_141.setTop (mkF m 71 #[Iv p1, Iv p2, Iv (3 : Int32), Iv ee0, Iv ee1, Iv ee2, Rv b_135, Iv (1 : Int32), Us, Us, Us, Us, Us] [(.ref b_135)])) tt_
        refine XS.aconstNull X_141.here hEX rfl (hb hBY at_71) ?_
        exact kt_
      refine Done.pre sg_144 ?_
      obtain ⟨cq_145, kq_145, q_145a, q_145b, q_145c⟩ := isOf hZW rfl hq_141_0
      obtain ⟨_, _, ⟨T_145, L_145, k_145, n_145⟩, -, X_145, ⟨Lc_145, hQ_145, l_145, y_145, z_145⟩, st_145⟩ := X_141.virtualBack hEX (y := (⟨"com/example/actorium/actorium/Claimant$Sends", "begin", "(Lcom/example/actorium/actorium/DispatchedCell;)I"⟩ : MethodName)) (z := (⟨"com/example/actorium/actorium/Claimant$Sends", "begin", "(Lcom/example/actorium/actorium/DispatchedCell;)I"⟩ : MethodName)) hOW (mvT hZW (hw _ (List.mem_of_getElem? (i := 14) rfl))) (mvT hZW (hw _ (List.mem_of_getElem? (i := 15) rfl))) (notFace_of_selects (args := #[]) (mvT hZW (hw _ (List.mem_of_getElem? (i := 17) rfl)))) (mvT hZW (hw _ (List.mem_of_getElem? (i := 17) rfl))) (mvT hZW (hw _ (List.mem_of_getElem? (i := 16) rfl))) (by decide) (backOf (W := 0) (rm_begin l Z aZ hw [] b_135 (0 : Int32) b__141 k__141 T_141.heap n0 (Nat.le_trans Z0 K__142.1) hq_141_0 hq_141_1 hq_141_2 hq_141_3 ge_b_135 (Nat.le_trans Z0 sz_b__141) ne_b_135_b__141 (by decide)) hZW (hw _ (List.mem_of_getElem? (i := 18) rfl)) (hw _ (List.mem_of_getElem? (i := 3) rfl)) (by decide) (by decide)) q_145a q_145c (g := (mkF m 72 #[Iv p1, Iv p2, Iv (3 : Int32), Iv ee0, Iv ee1, Iv ee2, Rv b_135, Iv (1 : Int32), Us, Us, Us, Us, Us] [.null, (.ref b_135)])) rfl (by rw [hMX]; rfl) (Steps.refl _) (argsL := [.null]) (rest := []) (lenOf pd__Lcom_example_actorium_actorium_DispatchedCell__I_3 rfl) rfl (by show 2 * 0 + _ ≤ _; exact Nat.le_of_eq rfl) (hb hBY at_72) (fun _ _ => ⟨rfl, rfl, (by decide : 2 + 0 ≤ _), (by decide : 10 + 0 ≤ _)⟩)
      dsimp only [Pt.U, Pt.locs, Pt.cells, Pt.slots] at X_145 l_145 y_145 z_145 st_145 hQ_145
      subst l_145 y_145 z_145
      obtain ⟨rfl, N_145q, K_145, hq_145_0, hq_145_1, hq_145_2, hq_145_3⟩ := hQ_145
      have N_145 := Fr.app N_141 N_145q
      have K__146 : Keep h0 T_145.heap [] := K__142.trans K_145 (allS (Or.inr sz_b_135) (allS (Or.inr sz_b__141) all0))
      have f_147 : Exa Z T_145.heap b_135 "com/example/actorium/actorium/Claimant$Sends" := hq_141_0.keep K_145
      refine Done.pre (fun _ k_ => st_145.trans k_) ?_
      show Done _ _ _ _ _ _ _ (T_145.setTop (mkF m 75 #[Iv p1, Iv p2, Iv (3 : Int32), Iv ee0, Iv ee1, Iv ee2, Rv b_135, Iv (1 : Int32), Us, Us, Us, Us, Us] [(.int (0 : Int32))]))
      have f_148 : Fld Z T_145.heap b_135 "com/example/actorium/actorium/Claimant$Sends" "top" "I" (.int (1 : Int32)) := by have q := hq_145_1; rw [show ((0 : Int32) + (1 : Int32)) = (1 : Int32) from by decide] at q; exact q
      have sg_149 : ∀ tt_, Steps p.tables e below (T_145.setTop (mkF m 102 #[Iv p1, Iv p2, Iv (3 : Int32), Iv ee0, Iv ee1, Iv ee2, Rv b_135, Iv (1 : Int32), Iv (0 : Int32), Us, Us, Us, Us] [.null, (.ref b_135)])) tt_ → Steps p.tables e below (T_145.setTop (mkF m 75 #[Iv p1, Iv p2, Iv (3 : Int32), Iv ee0, Iv ee1, Iv ee2, Rv b_135, Iv (1 : Int32), Us, Us, Us, Us, Us] [(.int (0 : Int32))])) tt_ := by
        intro tt_ kt_
        refine XS.istore X_145.here hEX rfl (hb hBY at_75) rfl (l' := #[Iv p1, Iv p2, Iv (3 : Int32), Iv ee0, Iv ee1, Iv ee2, Rv b_135, Iv (1 : Int32), Iv (0 : Int32), Us, Us, Us, Us]) rfl ?_
        show Steps p.tables e below (T_145.setTop (mkF m 77 #[Iv p1, Iv p2, Iv (3 : Int32), Iv ee0, Iv ee1, Iv ee2, Rv b_135, Iv (1 : Int32), Iv (0 : Int32), Us, Us, Us, Us] [])) tt_
        refine XS.iload X_145.here hEX rfl (hb hBY at_77) rfl ?_
        show Steps p.tables e below (T_145.setTop (mkF m 79 #[Iv p1, Iv p2, Iv (3 : Int32), Iv ee0, Iv ee1, Iv ee2, Rv b_135, Iv (1 : Int32), Iv (0 : Int32), Us, Us, Us, Us] [(.int (1 : Int32))])) tt_
        refine XS.ifNo X_145.here hEX rfl (hb hBY at_79) rfl ((if0 _ _).trans (feq (by decide : ¬ ((1 : Int32) = (0 : Int32)))).1) ?_
        show Steps p.tables e below (T_145.setTop (mkF m 82 #[Iv p1, Iv p2, Iv (3 : Int32), Iv ee0, Iv ee1, Iv ee2, Rv b_135, Iv (1 : Int32), Iv (0 : Int32), Us, Us, Us, Us] [])) tt_
        refine XS.iload X_145.here hEX rfl (hb hBY at_82) rfl ?_
        show Steps p.tables e below (T_145.setTop (mkF m 84 #[Iv p1, Iv p2, Iv (3 : Int32), Iv ee0, Iv ee1, Iv ee2, Rv b_135, Iv (1 : Int32), Iv (0 : Int32), Us, Us, Us, Us] [(.int (0 : Int32))])) tt_
        refine XS.ifNo X_145.here hEX rfl (hb hBY at_84) rfl ((if0 _ _).trans (teq (by decide : (0 : Int32) = (0 : Int32))).2) ?_
        show Steps p.tables e below (T_145.setTop (mkF m 87 #[Iv p1, Iv p2, Iv (3 : Int32), Iv ee0, Iv ee1, Iv ee2, Rv b_135, Iv (1 : Int32), Iv (0 : Int32), Us, Us, Us, Us] [])) tt_
        refine XS.iconst X_145.here hEX rfl (hb hBY at_87) ?_
        show Steps p.tables e below (T_145.setTop (mkF m 88 #[Iv p1, Iv p2, Iv (3 : Int32), Iv ee0, Iv ee1, Iv ee2, Rv b_135, Iv (1 : Int32), Iv (0 : Int32), Us, Us, Us, Us] [(.int (1 : Int32))])) tt_
        refine XS.goto X_145.here hEX rfl (pc0 := 88) (pc' := 92) rfl (hb hBY at_88) (by decide) (by decide) ?_
        show Steps p.tables e below (T_145.setTop (mkF m 92 #[Iv p1, Iv p2, Iv (3 : Int32), Iv ee0, Iv ee1, Iv ee2, Rv b_135, Iv (1 : Int32), Iv (0 : Int32), Us, Us, Us, Us] [(.int (1 : Int32))])) tt_
        refine XS.istore X_145.here hEX rfl (hb hBY at_92) rfl (l' := #[Iv p1, Iv p2, Iv (3 : Int32), Iv ee0, Iv ee1, Iv ee2, Rv b_135, Iv (1 : Int32), Iv (0 : Int32), Us, Us, Us, Us]) rfl ?_
        show Steps p.tables e below (T_145.setTop (mkF m 94 #[Iv p1, Iv p2, Iv (3 : Int32), Iv ee0, Iv ee1, Iv ee2, Rv b_135, Iv (1 : Int32), Iv (0 : Int32), Us, Us, Us, Us] [])) tt_
        refine XS.iloadN X_145.here hEX rfl (hb hBY at_94) rfl ?_
        show Steps p.tables e below (T_145.setTop (mkF m 95 #[Iv p1, Iv p2, Iv (3 : Int32), Iv ee0, Iv ee1, Iv ee2, Rv b_135, Iv (1 : Int32), Iv (0 : Int32), Us, Us, Us, Us] [(.int (3 : Int32))])) tt_
        refine XS.iconst X_145.here hEX rfl (hb hBY at_95) ?_
        show Steps p.tables e below (T_145.setTop (mkF m 96 #[Iv p1, Iv p2, Iv (3 : Int32), Iv ee0, Iv ee1, Iv ee2, Rv b_135, Iv (1 : Int32), Iv (0 : Int32), Us, Us, Us, Us] [(.int (2 : Int32)), (.int (3 : Int32))])) tt_
        refine XS.icmpNo X_145.here hEX rfl (hb hBY at_96) rfl (flt (by decide : ¬ ((3 : Int32) < (2 : Int32)))).1 ?_
        show Steps p.tables e below (T_145.setTop (mkF m 99 #[Iv p1, Iv p2, Iv (3 : Int32), Iv ee0, Iv ee1, Iv ee2, Rv b_135, Iv (1 : Int32), Iv (0 : Int32), Us, Us, Us, Us] [])) tt_
        refine XS.aload X_145.here hEX rfl (hb hBY at_99) rfl rfl ?_
        show Steps p.tables e below (T_145.setTop (mkF m 101 #[Iv p1, Iv p2, Iv (3 : Int32), Iv ee0, Iv ee1, Iv ee2, Rv b_135, Iv (1 : Int32), Iv (0 : Int32), Us, Us, Us, Us] [(.ref b_135)])) tt_
        refine XS.aconstNull X_145.here hEX rfl (hb hBY at_101) ?_
        exact kt_
      refine Done.pre sg_149 ?_
      obtain ⟨cq_150, kq_150, q_150a, q_150b, q_150c⟩ := isOf hZW rfl hq_145_0
      obtain ⟨_, _, ⟨T_150, L_150, k_150, n_150⟩, -, X_150, ⟨Lc_150, hQ_150, l_150, y_150, z_150⟩, st_150⟩ := X_145.virtualBack hEX (y := (⟨"com/example/actorium/actorium/Claimant$Sends", "begin", "(Lcom/example/actorium/actorium/DispatchedCell;)I"⟩ : MethodName)) (z := (⟨"com/example/actorium/actorium/Claimant$Sends", "begin", "(Lcom/example/actorium/actorium/DispatchedCell;)I"⟩ : MethodName)) hOW (mvT hZW (hw _ (List.mem_of_getElem? (i := 14) rfl))) (mvT hZW (hw _ (List.mem_of_getElem? (i := 15) rfl))) (notFace_of_selects (args := #[]) (mvT hZW (hw _ (List.mem_of_getElem? (i := 17) rfl)))) (mvT hZW (hw _ (List.mem_of_getElem? (i := 17) rfl))) (mvT hZW (hw _ (List.mem_of_getElem? (i := 16) rfl))) (by decide) (backOf (W := 0) (rm_begin l Z aZ hw [] b_135 (1 : Int32) b__141 k__141 T_145.heap n0 (Nat.le_trans Z0 K__146.1) hq_145_0 f_148 hq_145_2 hq_145_3 ge_b_135 (Nat.le_trans Z0 sz_b__141) ne_b_135_b__141 (by decide)) hZW (hw _ (List.mem_of_getElem? (i := 18) rfl)) (hw _ (List.mem_of_getElem? (i := 3) rfl)) (by decide) (by decide)) q_150a q_150c (g := (mkF m 102 #[Iv p1, Iv p2, Iv (3 : Int32), Iv ee0, Iv ee1, Iv ee2, Rv b_135, Iv (1 : Int32), Iv (0 : Int32), Us, Us, Us, Us] [.null, (.ref b_135)])) rfl (by rw [hMX]; rfl) (Steps.refl _) (argsL := [.null]) (rest := []) (lenOf pd__Lcom_example_actorium_actorium_DispatchedCell__I_3 rfl) rfl (by show 2 * 0 + _ ≤ _; exact Nat.le_of_eq rfl) (hb hBY at_102) (fun _ _ => ⟨rfl, rfl, (by decide : 2 + 0 ≤ _), (by decide : 10 + 0 ≤ _)⟩)
      dsimp only [Pt.U, Pt.locs, Pt.cells, Pt.slots] at X_150 l_150 y_150 z_150 st_150 hQ_150
      subst l_150 y_150 z_150
      obtain ⟨rfl, N_150q, K_150, hq_150_0, hq_150_1, hq_150_2, hq_150_3⟩ := hQ_150
      have N_150 := Fr.app N_145 N_150q
      have K__151 : Keep h0 T_150.heap [] := K__146.trans K_150 (allS (Or.inr sz_b_135) (allS (Or.inr sz_b__141) all0))
      have f_152 : Exa Z T_150.heap b_135 "com/example/actorium/actorium/Claimant$Sends" := hq_145_0.keep K_150
      refine Done.pre (fun _ k_ => st_150.trans k_) ?_
      show Done _ _ _ _ _ _ _ (T_150.setTop (mkF m 105 #[Iv p1, Iv p2, Iv (3 : Int32), Iv ee0, Iv ee1, Iv ee2, Rv b_135, Iv (1 : Int32), Iv (0 : Int32), Us, Us, Us, Us] [(.int (1 : Int32))]))
      have f_153 : Fld Z T_150.heap b_135 "com/example/actorium/actorium/Claimant$Sends" "top" "I" (.int (2 : Int32)) := by have q := hq_150_1; rw [show ((1 : Int32) + (1 : Int32)) = (2 : Int32) from by decide] at q; exact q
      have sg_154 : ∀ tt_, Steps p.tables e below (T_150.setTop (mkF m 133 #[Iv p1, Iv p2, Iv (3 : Int32), Iv ee0, Iv ee1, Iv ee2, Rv b_135, Iv (1 : Int32), Iv (0 : Int32), Iv (1 : Int32), Us, Us, Us] [.null, (.ref b_135)])) tt_ → Steps p.tables e below (T_150.setTop (mkF m 105 #[Iv p1, Iv p2, Iv (3 : Int32), Iv ee0, Iv ee1, Iv ee2, Rv b_135, Iv (1 : Int32), Iv (0 : Int32), Us, Us, Us, Us] [(.int (1 : Int32))])) tt_ := by
        intro tt_ kt_
        refine XS.istore X_150.here hEX rfl (hb hBY at_105) rfl (l' := #[Iv p1, Iv p2, Iv (3 : Int32), Iv ee0, Iv ee1, Iv ee2, Rv b_135, Iv (1 : Int32), Iv (0 : Int32), Iv (1 : Int32), Us, Us, Us]) rfl ?_
        show Steps p.tables e below (T_150.setTop (mkF m 107 #[Iv p1, Iv p2, Iv (3 : Int32), Iv ee0, Iv ee1, Iv ee2, Rv b_135, Iv (1 : Int32), Iv (0 : Int32), Iv (1 : Int32), Us, Us, Us] [])) tt_
        refine XS.iload X_150.here hEX rfl (hb hBY at_107) rfl ?_
        show Steps p.tables e below (T_150.setTop (mkF m 109 #[Iv p1, Iv p2, Iv (3 : Int32), Iv ee0, Iv ee1, Iv ee2, Rv b_135, Iv (1 : Int32), Iv (0 : Int32), Iv (1 : Int32), Us, Us, Us] [(.int (1 : Int32))])) tt_
        refine XS.ifNo X_150.here hEX rfl (hb hBY at_109) rfl ((if0 _ _).trans (feq (by decide : ¬ ((1 : Int32) = (0 : Int32)))).1) ?_
        show Steps p.tables e below (T_150.setTop (mkF m 112 #[Iv p1, Iv p2, Iv (3 : Int32), Iv ee0, Iv ee1, Iv ee2, Rv b_135, Iv (1 : Int32), Iv (0 : Int32), Iv (1 : Int32), Us, Us, Us] [])) tt_
        refine XS.iload X_150.here hEX rfl (hb hBY at_112) rfl ?_
        show Steps p.tables e below (T_150.setTop (mkF m 114 #[Iv p1, Iv p2, Iv (3 : Int32), Iv ee0, Iv ee1, Iv ee2, Rv b_135, Iv (1 : Int32), Iv (0 : Int32), Iv (1 : Int32), Us, Us, Us] [(.int (1 : Int32))])) tt_
        refine XS.iconst X_150.here hEX rfl (hb hBY at_114) ?_
        show Steps p.tables e below (T_150.setTop (mkF m 115 #[Iv p1, Iv p2, Iv (3 : Int32), Iv ee0, Iv ee1, Iv ee2, Rv b_135, Iv (1 : Int32), Iv (0 : Int32), Iv (1 : Int32), Us, Us, Us] [(.int (1 : Int32)), (.int (1 : Int32))])) tt_
        refine XS.icmpNo X_150.here hEX rfl (hb hBY at_115) rfl (teq (by decide : (1 : Int32) = (1 : Int32))).2 ?_
        show Steps p.tables e below (T_150.setTop (mkF m 118 #[Iv p1, Iv p2, Iv (3 : Int32), Iv ee0, Iv ee1, Iv ee2, Rv b_135, Iv (1 : Int32), Iv (0 : Int32), Iv (1 : Int32), Us, Us, Us] [])) tt_
        refine XS.iconst X_150.here hEX rfl (hb hBY at_118) ?_
        show Steps p.tables e below (T_150.setTop (mkF m 119 #[Iv p1, Iv p2, Iv (3 : Int32), Iv ee0, Iv ee1, Iv ee2, Rv b_135, Iv (1 : Int32), Iv (0 : Int32), Iv (1 : Int32), Us, Us, Us] [(.int (1 : Int32))])) tt_
        refine XS.goto X_150.here hEX rfl (pc0 := 119) (pc' := 123) rfl (hb hBY at_119) (by decide) (by decide) ?_
        show Steps p.tables e below (T_150.setTop (mkF m 123 #[Iv p1, Iv p2, Iv (3 : Int32), Iv ee0, Iv ee1, Iv ee2, Rv b_135, Iv (1 : Int32), Iv (0 : Int32), Iv (1 : Int32), Us, Us, Us] [(.int (1 : Int32))])) tt_
        refine XS.istore X_150.here hEX rfl (hb hBY at_123) rfl (l' := #[Iv p1, Iv p2, Iv (3 : Int32), Iv ee0, Iv ee1, Iv ee2, Rv b_135, Iv (1 : Int32), Iv (0 : Int32), Iv (1 : Int32), Us, Us, Us]) rfl ?_
        show Steps p.tables e below (T_150.setTop (mkF m 125 #[Iv p1, Iv p2, Iv (3 : Int32), Iv ee0, Iv ee1, Iv ee2, Rv b_135, Iv (1 : Int32), Iv (0 : Int32), Iv (1 : Int32), Us, Us, Us] [])) tt_
        refine XS.iloadN X_150.here hEX rfl (hb hBY at_125) rfl ?_
        show Steps p.tables e below (T_150.setTop (mkF m 126 #[Iv p1, Iv p2, Iv (3 : Int32), Iv ee0, Iv ee1, Iv ee2, Rv b_135, Iv (1 : Int32), Iv (0 : Int32), Iv (1 : Int32), Us, Us, Us] [(.int (3 : Int32))])) tt_
        refine XS.iconst X_150.here hEX rfl (hb hBY at_126) ?_
        show Steps p.tables e below (T_150.setTop (mkF m 127 #[Iv p1, Iv p2, Iv (3 : Int32), Iv ee0, Iv ee1, Iv ee2, Rv b_135, Iv (1 : Int32), Iv (0 : Int32), Iv (1 : Int32), Us, Us, Us] [(.int (3 : Int32)), (.int (3 : Int32))])) tt_
        refine XS.icmpNo X_150.here hEX rfl (hb hBY at_127) rfl (flt (by decide : ¬ ((3 : Int32) < (3 : Int32)))).1 ?_
        show Steps p.tables e below (T_150.setTop (mkF m 130 #[Iv p1, Iv p2, Iv (3 : Int32), Iv ee0, Iv ee1, Iv ee2, Rv b_135, Iv (1 : Int32), Iv (0 : Int32), Iv (1 : Int32), Us, Us, Us] [])) tt_
        refine XS.aload X_150.here hEX rfl (hb hBY at_130) rfl rfl ?_
        show Steps p.tables e below (T_150.setTop (mkF m 132 #[Iv p1, Iv p2, Iv (3 : Int32), Iv ee0, Iv ee1, Iv ee2, Rv b_135, Iv (1 : Int32), Iv (0 : Int32), Iv (1 : Int32), Us, Us, Us] [(.ref b_135)])) tt_
        refine XS.aconstNull X_150.here hEX rfl (hb hBY at_132) ?_
        exact kt_
      refine Done.pre sg_154 ?_
      obtain ⟨cq_155, kq_155, q_155a, q_155b, q_155c⟩ := isOf hZW rfl hq_150_0
      obtain ⟨_, _, ⟨T_155, L_155, k_155, n_155⟩, -, X_155, ⟨Lc_155, hQ_155, l_155, y_155, z_155⟩, st_155⟩ := X_150.virtualBack hEX (y := (⟨"com/example/actorium/actorium/Claimant$Sends", "begin", "(Lcom/example/actorium/actorium/DispatchedCell;)I"⟩ : MethodName)) (z := (⟨"com/example/actorium/actorium/Claimant$Sends", "begin", "(Lcom/example/actorium/actorium/DispatchedCell;)I"⟩ : MethodName)) hOW (mvT hZW (hw _ (List.mem_of_getElem? (i := 14) rfl))) (mvT hZW (hw _ (List.mem_of_getElem? (i := 15) rfl))) (notFace_of_selects (args := #[]) (mvT hZW (hw _ (List.mem_of_getElem? (i := 17) rfl)))) (mvT hZW (hw _ (List.mem_of_getElem? (i := 17) rfl))) (mvT hZW (hw _ (List.mem_of_getElem? (i := 16) rfl))) (by decide) (backOf (W := 0) (rm_begin l Z aZ hw [] b_135 (2 : Int32) b__141 k__141 T_150.heap n0 (Nat.le_trans Z0 K__151.1) hq_150_0 f_153 hq_150_2 hq_150_3 ge_b_135 (Nat.le_trans Z0 sz_b__141) ne_b_135_b__141 (by decide)) hZW (hw _ (List.mem_of_getElem? (i := 18) rfl)) (hw _ (List.mem_of_getElem? (i := 3) rfl)) (by decide) (by decide)) q_155a q_155c (g := (mkF m 133 #[Iv p1, Iv p2, Iv (3 : Int32), Iv ee0, Iv ee1, Iv ee2, Rv b_135, Iv (1 : Int32), Iv (0 : Int32), Iv (1 : Int32), Us, Us, Us] [.null, (.ref b_135)])) rfl (by rw [hMX]; rfl) (Steps.refl _) (argsL := [.null]) (rest := []) (lenOf pd__Lcom_example_actorium_actorium_DispatchedCell__I_3 rfl) rfl (by show 2 * 0 + _ ≤ _; exact Nat.le_of_eq rfl) (hb hBY at_133) (fun _ _ => ⟨rfl, rfl, (by decide : 2 + 0 ≤ _), (by decide : 10 + 0 ≤ _)⟩)
      dsimp only [Pt.U, Pt.locs, Pt.cells, Pt.slots] at X_155 l_155 y_155 z_155 st_155 hQ_155
      subst l_155 y_155 z_155
      obtain ⟨rfl, N_155q, K_155, hq_155_0, hq_155_1, hq_155_2, hq_155_3⟩ := hQ_155
      have N_155 := Fr.app N_150 N_155q
      have K__156 : Keep h0 T_155.heap [] := K__151.trans K_155 (allS (Or.inr sz_b_135) (allS (Or.inr sz_b__141) all0))
      have f_157 : Exa Z T_155.heap b_135 "com/example/actorium/actorium/Claimant$Sends" := hq_150_0.keep K_155
      refine Done.pre (fun _ k_ => st_155.trans k_) ?_
      show Done _ _ _ _ _ _ _ (T_155.setTop (mkF m 136 #[Iv p1, Iv p2, Iv (3 : Int32), Iv ee0, Iv ee1, Iv ee2, Rv b_135, Iv (1 : Int32), Iv (0 : Int32), Iv (1 : Int32), Us, Us, Us] [(.int (2 : Int32))]))
      have f_158 : Fld Z T_155.heap b_135 "com/example/actorium/actorium/Claimant$Sends" "top" "I" (.int (3 : Int32)) := by have q := hq_155_1; rw [show ((2 : Int32) + (1 : Int32)) = (3 : Int32) from by decide] at q; exact q
      have sg_159 : ∀ tt_, Steps p.tables e below (T_155.setTop (mkF m 158 #[Iv p1, Iv p2, Iv (3 : Int32), Iv ee0, Iv ee1, Iv ee2, Rv b_135, Iv (1 : Int32), Iv (0 : Int32), Iv (2 : Int32), Us, Us, Us] [(.int ee2)])) tt_ → Steps p.tables e below (T_155.setTop (mkF m 136 #[Iv p1, Iv p2, Iv (3 : Int32), Iv ee0, Iv ee1, Iv ee2, Rv b_135, Iv (1 : Int32), Iv (0 : Int32), Iv (1 : Int32), Us, Us, Us] [(.int (2 : Int32))])) tt_ := by
        intro tt_ kt_
        refine XS.istore X_155.here hEX rfl (hb hBY at_136) rfl (l' := #[Iv p1, Iv p2, Iv (3 : Int32), Iv ee0, Iv ee1, Iv ee2, Rv b_135, Iv (1 : Int32), Iv (0 : Int32), Iv (2 : Int32), Us, Us, Us]) rfl ?_
        show Steps p.tables e below (T_155.setTop (mkF m 138 #[Iv p1, Iv p2, Iv (3 : Int32), Iv ee0, Iv ee1, Iv ee2, Rv b_135, Iv (1 : Int32), Iv (0 : Int32), Iv (2 : Int32), Us, Us, Us] [])) tt_
        refine XS.iload X_155.here hEX rfl (hb hBY at_138) rfl ?_
        show Steps p.tables e below (T_155.setTop (mkF m 140 #[Iv p1, Iv p2, Iv (3 : Int32), Iv ee0, Iv ee1, Iv ee2, Rv b_135, Iv (1 : Int32), Iv (0 : Int32), Iv (2 : Int32), Us, Us, Us] [(.int (1 : Int32))])) tt_
        refine XS.ifNo X_155.here hEX rfl (hb hBY at_140) rfl ((if0 _ _).trans (feq (by decide : ¬ ((1 : Int32) = (0 : Int32)))).1) ?_
        show Steps p.tables e below (T_155.setTop (mkF m 143 #[Iv p1, Iv p2, Iv (3 : Int32), Iv ee0, Iv ee1, Iv ee2, Rv b_135, Iv (1 : Int32), Iv (0 : Int32), Iv (2 : Int32), Us, Us, Us] [])) tt_
        refine XS.iload X_155.here hEX rfl (hb hBY at_143) rfl ?_
        show Steps p.tables e below (T_155.setTop (mkF m 145 #[Iv p1, Iv p2, Iv (3 : Int32), Iv ee0, Iv ee1, Iv ee2, Rv b_135, Iv (1 : Int32), Iv (0 : Int32), Iv (2 : Int32), Us, Us, Us] [(.int (2 : Int32))])) tt_
        refine XS.iconst X_155.here hEX rfl (hb hBY at_145) ?_
        show Steps p.tables e below (T_155.setTop (mkF m 146 #[Iv p1, Iv p2, Iv (3 : Int32), Iv ee0, Iv ee1, Iv ee2, Rv b_135, Iv (1 : Int32), Iv (0 : Int32), Iv (2 : Int32), Us, Us, Us] [(.int (2 : Int32)), (.int (2 : Int32))])) tt_
        refine XS.icmpNo X_155.here hEX rfl (hb hBY at_146) rfl (teq (by decide : (2 : Int32) = (2 : Int32))).2 ?_
        show Steps p.tables e below (T_155.setTop (mkF m 149 #[Iv p1, Iv p2, Iv (3 : Int32), Iv ee0, Iv ee1, Iv ee2, Rv b_135, Iv (1 : Int32), Iv (0 : Int32), Iv (2 : Int32), Us, Us, Us] [])) tt_
        refine XS.iconst X_155.here hEX rfl (hb hBY at_149) ?_
        show Steps p.tables e below (T_155.setTop (mkF m 150 #[Iv p1, Iv p2, Iv (3 : Int32), Iv ee0, Iv ee1, Iv ee2, Rv b_135, Iv (1 : Int32), Iv (0 : Int32), Iv (2 : Int32), Us, Us, Us] [(.int (1 : Int32))])) tt_
        refine XS.goto X_155.here hEX rfl (pc0 := 150) (pc' := 154) rfl (hb hBY at_150) (by decide) (by decide) ?_
        show Steps p.tables e below (T_155.setTop (mkF m 154 #[Iv p1, Iv p2, Iv (3 : Int32), Iv ee0, Iv ee1, Iv ee2, Rv b_135, Iv (1 : Int32), Iv (0 : Int32), Iv (2 : Int32), Us, Us, Us] [(.int (1 : Int32))])) tt_
        refine XS.istore X_155.here hEX rfl (hb hBY at_154) rfl (l' := #[Iv p1, Iv p2, Iv (3 : Int32), Iv ee0, Iv ee1, Iv ee2, Rv b_135, Iv (1 : Int32), Iv (0 : Int32), Iv (2 : Int32), Us, Us, Us]) rfl ?_
        show Steps p.tables e below (T_155.setTop (mkF m 156 #[Iv p1, Iv p2, Iv (3 : Int32), Iv ee0, Iv ee1, Iv ee2, Rv b_135, Iv (1 : Int32), Iv (0 : Int32), Iv (2 : Int32), Us, Us, Us] [])) tt_
        refine XS.iload X_155.here hEX rfl (hb hBY at_156) rfl ?_
        exact kt_
      refine Done.pre sg_159 ?_
      by_cases hc158 : ee2 = (0 : Int32)
      · skip
        have sg_160 : ∀ tt_, Steps p.tables e below (T_155.setTop (mkF m 169 #[Iv p1, Iv p2, Iv (3 : Int32), Iv ee0, Iv ee1, Iv ee2, Rv b_135, Iv (1 : Int32), Iv (0 : Int32), Iv (2 : Int32), Us, Us, Us] [(.int ee1)])) tt_ → Steps p.tables e below (T_155.setTop (mkF m 158 #[Iv p1, Iv p2, Iv (3 : Int32), Iv ee0, Iv ee1, Iv ee2, Rv b_135, Iv (1 : Int32), Iv (0 : Int32), Iv (2 : Int32), Us, Us, Us] [(.int ee2)])) tt_ := by
          intro tt_ kt_
          refine XS.ifYes X_155.here hEX rfl (pc0 := 158) (pc' := 167) rfl (hb hBY at_158) rfl ((if0 _ _).trans (teq hc158).1) (by decide) (by decide) ?_
          show Steps p.tables e below (T_155.setTop (mkF m 167 #[Iv p1, Iv p2, Iv (3 : Int32), Iv ee0, Iv ee1, Iv ee2, Rv b_135, Iv (1 : Int32), Iv (0 : Int32), Iv (2 : Int32), Us, Us, Us] [])) tt_
          refine XS.iload X_155.here hEX rfl (hb hBY at_167) rfl ?_
          exact kt_
        refine Done.pre sg_160 ?_
        by_cases hc169 : ee1 = (0 : Int32)
        · skip
          have sg_161 : ∀ tt_, Steps p.tables e below (T_155.setTop (mkF m 179 #[Iv p1, Iv p2, Iv (3 : Int32), Iv ee0, Iv ee1, Iv ee2, Rv b_135, Iv (1 : Int32), Iv (0 : Int32), Iv (2 : Int32), Us, Us, Us] [(.int ee0)])) tt_ → Steps p.tables e below (T_155.setTop (mkF m 169 #[Iv p1, Iv p2, Iv (3 : Int32), Iv ee0, Iv ee1, Iv ee2, Rv b_135, Iv (1 : Int32), Iv (0 : Int32), Iv (2 : Int32), Us, Us, Us] [(.int ee1)])) tt_ := by
            intro tt_ kt_
            refine XS.ifYes X_155.here hEX rfl (pc0 := 169) (pc' := 178) rfl (hb hBY at_169) rfl ((if0 _ _).trans (teq hc169).1) (by decide) (by decide) ?_
            show Steps p.tables e below (T_155.setTop (mkF m 178 #[Iv p1, Iv p2, Iv (3 : Int32), Iv ee0, Iv ee1, Iv ee2, Rv b_135, Iv (1 : Int32), Iv (0 : Int32), Iv (2 : Int32), Us, Us, Us] [])) tt_
            refine XS.iloadN X_155.here hEX rfl (hb hBY at_178) rfl ?_
            exact kt_
          refine Done.pre sg_161 ?_
          by_cases hc179 : ee0 = (0 : Int32)
          · skip
            have sg_162 : ∀ tt_, Steps p.tables e below (T_155.setTop (mkF m 235 #[Iv p1, Iv p2, Iv (3 : Int32), Iv ee0, Iv ee1, Iv ee2, Rv b_135, Iv (1 : Int32), Iv (0 : Int32), Iv (3 : Int32), Us, Us, Us] [(.ref b_135)])) tt_ → Steps p.tables e below (T_155.setTop (mkF m 179 #[Iv p1, Iv p2, Iv (3 : Int32), Iv ee0, Iv ee1, Iv ee2, Rv b_135, Iv (1 : Int32), Iv (0 : Int32), Iv (2 : Int32), Us, Us, Us] [(.int ee0)])) tt_ := by
              intro tt_ kt_
              refine XS.ifYes X_155.here hEX rfl (pc0 := 179) (pc' := 188) rfl (hb hBY at_179) rfl ((if0 _ _).trans (teq hc179).1) (by decide) (by decide) ?_
              show Steps p.tables e below (T_155.setTop (mkF m 188 #[Iv p1, Iv p2, Iv (3 : Int32), Iv ee0, Iv ee1, Iv ee2, Rv b_135, Iv (1 : Int32), Iv (0 : Int32), Iv (2 : Int32), Us, Us, Us] [])) tt_
              refine XS.iloadN X_155.here hEX rfl (hb hBY at_188) rfl ?_
              show Steps p.tables e below (T_155.setTop (mkF m 189 #[Iv p1, Iv p2, Iv (3 : Int32), Iv ee0, Iv ee1, Iv ee2, Rv b_135, Iv (1 : Int32), Iv (0 : Int32), Iv (2 : Int32), Us, Us, Us] [(.int (3 : Int32))])) tt_
              refine XS.iconst X_155.here hEX rfl (hb hBY at_189) ?_
              show Steps p.tables e below (T_155.setTop (mkF m 190 #[Iv p1, Iv p2, Iv (3 : Int32), Iv ee0, Iv ee1, Iv ee2, Rv b_135, Iv (1 : Int32), Iv (0 : Int32), Iv (2 : Int32), Us, Us, Us] [(.int (3 : Int32)), (.int (3 : Int32))])) tt_
              refine XS.icmpNo X_155.here hEX rfl (hb hBY at_190) rfl (flt (by decide : ¬ ((3 : Int32) < (3 : Int32)))).1 ?_
              show Steps p.tables e below (T_155.setTop (mkF m 193 #[Iv p1, Iv p2, Iv (3 : Int32), Iv ee0, Iv ee1, Iv ee2, Rv b_135, Iv (1 : Int32), Iv (0 : Int32), Iv (2 : Int32), Us, Us, Us] [])) tt_
              refine XS.iload X_155.here hEX rfl (hb hBY at_193) rfl ?_
              show Steps p.tables e below (T_155.setTop (mkF m 195 #[Iv p1, Iv p2, Iv (3 : Int32), Iv ee0, Iv ee1, Iv ee2, Rv b_135, Iv (1 : Int32), Iv (0 : Int32), Iv (2 : Int32), Us, Us, Us] [(.int ee2)])) tt_
              refine XS.ifNo X_155.here hEX rfl (hb hBY at_195) rfl ((if0 _ _).trans (teq hc158).2) ?_
              show Steps p.tables e below (T_155.setTop (mkF m 198 #[Iv p1, Iv p2, Iv (3 : Int32), Iv ee0, Iv ee1, Iv ee2, Rv b_135, Iv (1 : Int32), Iv (0 : Int32), Iv (2 : Int32), Us, Us, Us] [])) tt_
              refine XS.iconst X_155.here hEX rfl (hb hBY at_198) ?_
              show Steps p.tables e below (T_155.setTop (mkF m 199 #[Iv p1, Iv p2, Iv (3 : Int32), Iv ee0, Iv ee1, Iv ee2, Rv b_135, Iv (1 : Int32), Iv (0 : Int32), Iv (2 : Int32), Us, Us, Us] [(.int (3 : Int32))])) tt_
              refine XS.istore X_155.here hEX rfl (hb hBY at_199) rfl (l' := #[Iv p1, Iv p2, Iv (3 : Int32), Iv ee0, Iv ee1, Iv ee2, Rv b_135, Iv (1 : Int32), Iv (0 : Int32), Iv (3 : Int32), Us, Us, Us]) rfl ?_
              show Steps p.tables e below (T_155.setTop (mkF m 201 #[Iv p1, Iv p2, Iv (3 : Int32), Iv ee0, Iv ee1, Iv ee2, Rv b_135, Iv (1 : Int32), Iv (0 : Int32), Iv (3 : Int32), Us, Us, Us] [])) tt_
              refine XS.goto X_155.here hEX rfl (pc0 := 201) (pc' := 233) rfl (hb hBY at_201) (by decide) (by decide) ?_
              show Steps p.tables e below (T_155.setTop (mkF m 233 #[Iv p1, Iv p2, Iv (3 : Int32), Iv ee0, Iv ee1, Iv ee2, Rv b_135, Iv (1 : Int32), Iv (0 : Int32), Iv (3 : Int32), Us, Us, Us] [])) tt_
              refine XS.aload X_155.here hEX rfl (hb hBY at_233) rfl rfl ?_
              exact kt_
            refine Done.pre sg_162 ?_
            obtain ⟨cq_163, kq_163, q_163a, q_163b, q_163c⟩ := isOf hZW rfl hq_155_0
            obtain ⟨_, _, ⟨T_163, L_163, k_163, n_163⟩, -, X_163, ⟨Lc_163, hQ_163, l_163, y_163, z_163⟩, st_163⟩ := X_155.virtualBack hEX (y := (⟨"com/example/actorium/actorium/Claimant$Sends", "depth", "()I"⟩ : MethodName)) (z := (⟨"com/example/actorium/actorium/Claimant$Sends", "depth", "()I"⟩ : MethodName)) hOW (mvT hZW (hw _ (List.mem_of_getElem? (i := 21) rfl))) (mvT hZW (hw _ (List.mem_of_getElem? (i := 22) rfl))) (notFace_of_selects (args := #[]) (mvT hZW (hw _ (List.mem_of_getElem? (i := 24) rfl)))) (mvT hZW (hw _ (List.mem_of_getElem? (i := 24) rfl))) (mvT hZW (hw _ (List.mem_of_getElem? (i := 23) rfl))) (by decide) (backOf (W := 0) (rm_depth l Z aZ hw [] b_135 (3 : Int32) T_155.heap n0 (Nat.le_trans Z0 K__156.1) f_158) hZW (hw _ (List.mem_of_getElem? (i := 25) rfl)) (hw _ (List.mem_of_getElem? (i := 3) rfl)) (by decide) (by decide)) q_163a q_163c (g := (mkF m 235 #[Iv p1, Iv p2, Iv (3 : Int32), Iv ee0, Iv ee1, Iv ee2, Rv b_135, Iv (1 : Int32), Iv (0 : Int32), Iv (3 : Int32), Us, Us, Us] [(.ref b_135)])) rfl (by rw [hMX]; rfl) (Steps.refl _) (argsL := []) (rest := []) (lenOf pd___I_0 rfl) rfl (by show 2 * 0 + _ ≤ _; exact Nat.le_of_eq rfl) (hb hBY at_235) (fun _ _ => ⟨rfl, rfl, (by decide : 2 + 0 ≤ _), (by decide : 10 + 0 ≤ _)⟩)
            dsimp only [Pt.U, Pt.locs, Pt.cells, Pt.slots] at X_163 l_163 y_163 z_163 st_163 hQ_163
            subst l_163 y_163 z_163
            obtain ⟨rfl, N_163q, e_163⟩ := hQ_163
            have N_163 := Fr.app N_155 N_163q
            refine Done.pre (fun _ k_ => st_163.trans k_) ?_
            show Done _ _ _ _ _ _ _ (T_163.setTop (mkF m 238 #[Iv p1, Iv p2, Iv (3 : Int32), Iv ee0, Iv ee1, Iv ee2, Rv b_135, Iv (1 : Int32), Iv (0 : Int32), Iv (3 : Int32), Us, Us, Us] [(.int (3 : Int32))]))
            have sg_164 : ∀ tt_, Steps p.tables e below (T_163.setTop (mkF m 262 #[Iv p1, Iv p2, Iv (3 : Int32), Iv ee0, Iv ee1, Iv ee2, Rv b_135, Iv (1 : Int32), Iv (0 : Int32), Iv (3 : Int32), Iv (3 : Int32), Us, Us] [.null, (.ref b_135)])) tt_ → Steps p.tables e below (T_163.setTop (mkF m 238 #[Iv p1, Iv p2, Iv (3 : Int32), Iv ee0, Iv ee1, Iv ee2, Rv b_135, Iv (1 : Int32), Iv (0 : Int32), Iv (3 : Int32), Us, Us, Us] [(.int (3 : Int32))])) tt_ := by
              intro tt_ kt_
              refine XS.istore X_163.here hEX rfl (hb hBY at_238) rfl (l' := #[Iv p1, Iv p2, Iv (3 : Int32), Iv ee0, Iv ee1, Iv ee2, Rv b_135, Iv (1 : Int32), Iv (0 : Int32), Iv (3 : Int32), Iv (3 : Int32), Us, Us]) rfl ?_
              show Steps p.tables e below (T_163.setTop (mkF m 240 #[Iv p1, Iv p2, Iv (3 : Int32), Iv ee0, Iv ee1, Iv ee2, Rv b_135, Iv (1 : Int32), Iv (0 : Int32), Iv (3 : Int32), Iv (3 : Int32), Us, Us] [])) tt_
              refine XS.iload X_163.here hEX rfl (hb hBY at_240) rfl ?_
              show Steps p.tables e below (T_163.setTop (mkF m 242 #[Iv p1, Iv p2, Iv (3 : Int32), Iv ee0, Iv ee1, Iv ee2, Rv b_135, Iv (1 : Int32), Iv (0 : Int32), Iv (3 : Int32), Iv (3 : Int32), Us, Us] [(.int (1 : Int32))])) tt_
              refine XS.ifNo X_163.here hEX rfl (hb hBY at_242) rfl ((if0 _ _).trans (feq (by decide : ¬ ((1 : Int32) = (0 : Int32)))).1) ?_
              show Steps p.tables e below (T_163.setTop (mkF m 245 #[Iv p1, Iv p2, Iv (3 : Int32), Iv ee0, Iv ee1, Iv ee2, Rv b_135, Iv (1 : Int32), Iv (0 : Int32), Iv (3 : Int32), Iv (3 : Int32), Us, Us] [])) tt_
              refine XS.iload X_163.here hEX rfl (hb hBY at_245) rfl ?_
              show Steps p.tables e below (T_163.setTop (mkF m 247 #[Iv p1, Iv p2, Iv (3 : Int32), Iv ee0, Iv ee1, Iv ee2, Rv b_135, Iv (1 : Int32), Iv (0 : Int32), Iv (3 : Int32), Iv (3 : Int32), Us, Us] [(.int (3 : Int32))])) tt_
              refine XS.iload X_163.here hEX rfl (hb hBY at_247) rfl ?_
              show Steps p.tables e below (T_163.setTop (mkF m 249 #[Iv p1, Iv p2, Iv (3 : Int32), Iv ee0, Iv ee1, Iv ee2, Rv b_135, Iv (1 : Int32), Iv (0 : Int32), Iv (3 : Int32), Iv (3 : Int32), Us, Us] [(.int (3 : Int32)), (.int (3 : Int32))])) tt_
              refine XS.icmpNo X_163.here hEX rfl (hb hBY at_249) rfl (teq (by decide : (3 : Int32) = (3 : Int32))).2 ?_
              show Steps p.tables e below (T_163.setTop (mkF m 252 #[Iv p1, Iv p2, Iv (3 : Int32), Iv ee0, Iv ee1, Iv ee2, Rv b_135, Iv (1 : Int32), Iv (0 : Int32), Iv (3 : Int32), Iv (3 : Int32), Us, Us] [])) tt_
              refine XS.iconst X_163.here hEX rfl (hb hBY at_252) ?_
              show Steps p.tables e below (T_163.setTop (mkF m 253 #[Iv p1, Iv p2, Iv (3 : Int32), Iv ee0, Iv ee1, Iv ee2, Rv b_135, Iv (1 : Int32), Iv (0 : Int32), Iv (3 : Int32), Iv (3 : Int32), Us, Us] [(.int (1 : Int32))])) tt_
              refine XS.goto X_163.here hEX rfl (pc0 := 253) (pc' := 257) rfl (hb hBY at_253) (by decide) (by decide) ?_
              show Steps p.tables e below (T_163.setTop (mkF m 257 #[Iv p1, Iv p2, Iv (3 : Int32), Iv ee0, Iv ee1, Iv ee2, Rv b_135, Iv (1 : Int32), Iv (0 : Int32), Iv (3 : Int32), Iv (3 : Int32), Us, Us] [(.int (1 : Int32))])) tt_
              refine XS.istore X_163.here hEX rfl (hb hBY at_257) rfl (l' := #[Iv p1, Iv p2, Iv (3 : Int32), Iv ee0, Iv ee1, Iv ee2, Rv b_135, Iv (1 : Int32), Iv (0 : Int32), Iv (3 : Int32), Iv (3 : Int32), Us, Us]) rfl ?_
              show Steps p.tables e below (T_163.setTop (mkF m 259 #[Iv p1, Iv p2, Iv (3 : Int32), Iv ee0, Iv ee1, Iv ee2, Rv b_135, Iv (1 : Int32), Iv (0 : Int32), Iv (3 : Int32), Iv (3 : Int32), Us, Us] [])) tt_
              refine XS.aload X_163.here hEX rfl (hb hBY at_259) rfl rfl ?_
              show Steps p.tables e below (T_163.setTop (mkF m 261 #[Iv p1, Iv p2, Iv (3 : Int32), Iv ee0, Iv ee1, Iv ee2, Rv b_135, Iv (1 : Int32), Iv (0 : Int32), Iv (3 : Int32), Iv (3 : Int32), Us, Us] [(.ref b_135)])) tt_
              refine XS.aconstNull X_163.here hEX rfl (hb hBY at_261) ?_
              exact kt_
            refine Done.pre sg_164 ?_
            obtain ⟨cq_165, kq_165, q_165a, q_165b, q_165c⟩ := isOf hZW e_163 hq_155_0
            obtain ⟨_, _, ⟨T_165, L_165, k_165, n_165⟩, -, X_165, ⟨Lc_165, hQ_165, l_165, y_165, z_165⟩, st_165⟩ := X_163.virtualBack hEX (y := (⟨"com/example/actorium/actorium/Claimant$Sends", "begin", "(Lcom/example/actorium/actorium/DispatchedCell;)I"⟩ : MethodName)) (z := (⟨"com/example/actorium/actorium/Claimant$Sends", "begin", "(Lcom/example/actorium/actorium/DispatchedCell;)I"⟩ : MethodName)) hOW (mvT hZW (hw _ (List.mem_of_getElem? (i := 14) rfl))) (mvT hZW (hw _ (List.mem_of_getElem? (i := 15) rfl))) (notFace_of_selects (args := #[]) (mvT hZW (hw _ (List.mem_of_getElem? (i := 17) rfl)))) (mvT hZW (hw _ (List.mem_of_getElem? (i := 17) rfl))) (mvT hZW (hw _ (List.mem_of_getElem? (i := 16) rfl))) (by decide) (backOf (W := 0) (rm_begin l Z aZ hw [] b_135 (3 : Int32) b__141 k__141 T_155.heap n0 (Nat.le_trans Z0 K__156.1) hq_155_0 f_158 hq_155_2 hq_155_3 ge_b_135 (Nat.le_trans Z0 sz_b__141) ne_b_135_b__141 (by decide)) hZW (hw _ (List.mem_of_getElem? (i := 18) rfl)) (hw _ (List.mem_of_getElem? (i := 3) rfl)) (by decide) (by decide)) q_165a q_165c (g := (mkF m 262 #[Iv p1, Iv p2, Iv (3 : Int32), Iv ee0, Iv ee1, Iv ee2, Rv b_135, Iv (1 : Int32), Iv (0 : Int32), Iv (3 : Int32), Iv (3 : Int32), Us, Us] [.null, (.ref b_135)])) rfl (by rw [hMX]; rfl) (Steps.refl _) (argsL := [.null]) (rest := []) (lenOf pd__Lcom_example_actorium_actorium_DispatchedCell__I_3 rfl) rfl (by show 2 * 0 + _ ≤ _; exact Nat.le_of_eq rfl) (hb hBY at_262) (fun _ _ => ⟨rfl, e_163, (by decide : 2 + 0 ≤ _), (by decide : 10 + 0 ≤ _)⟩)
            dsimp only [Pt.U, Pt.locs, Pt.cells, Pt.slots] at X_165 l_165 y_165 z_165 st_165 hQ_165
            subst l_165 y_165 z_165
            obtain ⟨rfl, N_165q, K_165, hq_165_0, hq_165_1, hq_165_2, hq_165_3⟩ := hQ_165
            have N_165 := Fr.app N_163 N_165q
            have K__166 : Keep h0 T_165.heap [] := K__156.trans K_165 (allS (Or.inr sz_b_135) (allS (Or.inr sz_b__141) all0))
            have f_167 : Exa Z T_165.heap b_135 "com/example/actorium/actorium/Claimant$Sends" := hq_155_0.keep K_165
            refine Done.pre (fun _ k_ => st_165.trans k_) ?_
            show Done _ _ _ _ _ _ _ (T_165.setTop (mkF m 265 #[Iv p1, Iv p2, Iv (3 : Int32), Iv ee0, Iv ee1, Iv ee2, Rv b_135, Iv (1 : Int32), Iv (0 : Int32), Iv (3 : Int32), Iv (3 : Int32), Us, Us] [(.int (3 : Int32))]))
            have f_168 : Fld Z T_165.heap b_135 "com/example/actorium/actorium/Claimant$Sends" "top" "I" (.int (4 : Int32)) := by have q := hq_165_1; rw [show ((3 : Int32) + (1 : Int32)) = (4 : Int32) from by decide] at q; exact q
            have sg_169 : ∀ tt_, Steps p.tables e below (T_165.setTop (mkF m 269 #[Iv p1, Iv p2, Iv (3 : Int32), Iv ee0, Iv ee1, Iv ee2, Rv b_135, Iv (1 : Int32), Iv (0 : Int32), Iv (3 : Int32), Iv (3 : Int32), Iv (3 : Int32), Us] [(.ref b_135)])) tt_ → Steps p.tables e below (T_165.setTop (mkF m 265 #[Iv p1, Iv p2, Iv (3 : Int32), Iv ee0, Iv ee1, Iv ee2, Rv b_135, Iv (1 : Int32), Iv (0 : Int32), Iv (3 : Int32), Iv (3 : Int32), Us, Us] [(.int (3 : Int32))])) tt_ := by
              intro tt_ kt_
              refine XS.istore X_165.here hEX rfl (hb hBY at_265) rfl (l' := #[Iv p1, Iv p2, Iv (3 : Int32), Iv ee0, Iv ee1, Iv ee2, Rv b_135, Iv (1 : Int32), Iv (0 : Int32), Iv (3 : Int32), Iv (3 : Int32), Iv (3 : Int32), Us]) rfl ?_
              show Steps p.tables e below (T_165.setTop (mkF m 267 #[Iv p1, Iv p2, Iv (3 : Int32), Iv ee0, Iv ee1, Iv ee2, Rv b_135, Iv (1 : Int32), Iv (0 : Int32), Iv (3 : Int32), Iv (3 : Int32), Iv (3 : Int32), Us] [])) tt_
              refine XS.aload X_165.here hEX rfl (hb hBY at_267) rfl rfl ?_
              exact kt_
            refine Done.pre sg_169 ?_
            obtain ⟨cq_170, kq_170, q_170a, q_170b, q_170c⟩ := isOf hZW rfl hq_165_0
            obtain ⟨_, _, ⟨T_170, L_170, k_170, n_170⟩, -, X_170, ⟨Lc_170, hQ_170, l_170, y_170, z_170⟩, st_170⟩ := X_165.virtualBack hEX (y := (⟨"com/example/actorium/actorium/Claimant$Sends", "depth", "()I"⟩ : MethodName)) (z := (⟨"com/example/actorium/actorium/Claimant$Sends", "depth", "()I"⟩ : MethodName)) hOW (mvT hZW (hw _ (List.mem_of_getElem? (i := 21) rfl))) (mvT hZW (hw _ (List.mem_of_getElem? (i := 22) rfl))) (notFace_of_selects (args := #[]) (mvT hZW (hw _ (List.mem_of_getElem? (i := 24) rfl)))) (mvT hZW (hw _ (List.mem_of_getElem? (i := 24) rfl))) (mvT hZW (hw _ (List.mem_of_getElem? (i := 23) rfl))) (by decide) (backOf (W := 0) (rm_depth l Z aZ hw [] b_135 (4 : Int32) T_165.heap n0 (Nat.le_trans Z0 K__166.1) f_168) hZW (hw _ (List.mem_of_getElem? (i := 25) rfl)) (hw _ (List.mem_of_getElem? (i := 3) rfl)) (by decide) (by decide)) q_170a q_170c (g := (mkF m 269 #[Iv p1, Iv p2, Iv (3 : Int32), Iv ee0, Iv ee1, Iv ee2, Rv b_135, Iv (1 : Int32), Iv (0 : Int32), Iv (3 : Int32), Iv (3 : Int32), Iv (3 : Int32), Us] [(.ref b_135)])) rfl (by rw [hMX]; rfl) (Steps.refl _) (argsL := []) (rest := []) (lenOf pd___I_0 rfl) rfl (by show 2 * 0 + _ ≤ _; exact Nat.le_of_eq rfl) (hb hBY at_269) (fun _ _ => ⟨rfl, rfl, (by decide : 2 + 0 ≤ _), (by decide : 10 + 0 ≤ _)⟩)
            dsimp only [Pt.U, Pt.locs, Pt.cells, Pt.slots] at X_170 l_170 y_170 z_170 st_170 hQ_170
            subst l_170 y_170 z_170
            obtain ⟨rfl, N_170q, e_170⟩ := hQ_170
            have N_170 := Fr.app N_165 N_170q
            refine Done.pre (fun _ k_ => st_170.trans k_) ?_
            show Done _ _ _ _ _ _ _ (T_170.setTop (mkF m 272 #[Iv p1, Iv p2, Iv (3 : Int32), Iv ee0, Iv ee1, Iv ee2, Rv b_135, Iv (1 : Int32), Iv (0 : Int32), Iv (3 : Int32), Iv (3 : Int32), Iv (3 : Int32), Us] [(.int (4 : Int32))]))
            have sg_171 : ∀ tt_, Steps p.tables e below (T_170.setTop (mkF m 304 #[Iv p1, Iv p2, Iv (3 : Int32), Iv ee0, Iv ee1, Iv ee2, Rv b_135, Iv (1 : Int32), Iv (0 : Int32), Iv (3 : Int32), Iv (3 : Int32), Iv (3 : Int32), Iv (4 : Int32)] [(.int (1 : Int32))])) tt_ → Steps p.tables e below (T_170.setTop (mkF m 272 #[Iv p1, Iv p2, Iv (3 : Int32), Iv ee0, Iv ee1, Iv ee2, Rv b_135, Iv (1 : Int32), Iv (0 : Int32), Iv (3 : Int32), Iv (3 : Int32), Iv (3 : Int32), Us] [(.int (4 : Int32))])) tt_ := by
              intro tt_ kt_
              refine XS.istore X_170.here hEX rfl (hb hBY at_272) rfl (l' := #[Iv p1, Iv p2, Iv (3 : Int32), Iv ee0, Iv ee1, Iv ee2, Rv b_135, Iv (1 : Int32), Iv (0 : Int32), Iv (3 : Int32), Iv (3 : Int32), Iv (3 : Int32), Iv (4 : Int32)]) rfl ?_
              show Steps p.tables e below (T_170.setTop (mkF m 274 #[Iv p1, Iv p2, Iv (3 : Int32), Iv ee0, Iv ee1, Iv ee2, Rv b_135, Iv (1 : Int32), Iv (0 : Int32), Iv (3 : Int32), Iv (3 : Int32), Iv (3 : Int32), Iv (4 : Int32)] [])) tt_
              refine XS.iload X_170.here hEX rfl (hb hBY at_274) rfl ?_
              show Steps p.tables e below (T_170.setTop (mkF m 276 #[Iv p1, Iv p2, Iv (3 : Int32), Iv ee0, Iv ee1, Iv ee2, Rv b_135, Iv (1 : Int32), Iv (0 : Int32), Iv (3 : Int32), Iv (3 : Int32), Iv (3 : Int32), Iv (4 : Int32)] [(.int (1 : Int32))])) tt_
              refine XS.ifNo X_170.here hEX rfl (hb hBY at_276) rfl ((if0 _ _).trans (feq (by decide : ¬ ((1 : Int32) = (0 : Int32)))).1) ?_
              show Steps p.tables e below (T_170.setTop (mkF m 279 #[Iv p1, Iv p2, Iv (3 : Int32), Iv ee0, Iv ee1, Iv ee2, Rv b_135, Iv (1 : Int32), Iv (0 : Int32), Iv (3 : Int32), Iv (3 : Int32), Iv (3 : Int32), Iv (4 : Int32)] [])) tt_
              refine XS.iload X_170.here hEX rfl (hb hBY at_279) rfl ?_
              show Steps p.tables e below (T_170.setTop (mkF m 281 #[Iv p1, Iv p2, Iv (3 : Int32), Iv ee0, Iv ee1, Iv ee2, Rv b_135, Iv (1 : Int32), Iv (0 : Int32), Iv (3 : Int32), Iv (3 : Int32), Iv (3 : Int32), Iv (4 : Int32)] [(.int (3 : Int32))])) tt_
              refine XS.iload X_170.here hEX rfl (hb hBY at_281) rfl ?_
              show Steps p.tables e below (T_170.setTop (mkF m 283 #[Iv p1, Iv p2, Iv (3 : Int32), Iv ee0, Iv ee1, Iv ee2, Rv b_135, Iv (1 : Int32), Iv (0 : Int32), Iv (3 : Int32), Iv (3 : Int32), Iv (3 : Int32), Iv (4 : Int32)] [(.int (3 : Int32)), (.int (3 : Int32))])) tt_
              refine XS.icmpNo X_170.here hEX rfl (hb hBY at_283) rfl (teq (by decide : (3 : Int32) = (3 : Int32))).2 ?_
              show Steps p.tables e below (T_170.setTop (mkF m 286 #[Iv p1, Iv p2, Iv (3 : Int32), Iv ee0, Iv ee1, Iv ee2, Rv b_135, Iv (1 : Int32), Iv (0 : Int32), Iv (3 : Int32), Iv (3 : Int32), Iv (3 : Int32), Iv (4 : Int32)] [])) tt_
              refine XS.iload X_170.here hEX rfl (hb hBY at_286) rfl ?_
              show Steps p.tables e below (T_170.setTop (mkF m 288 #[Iv p1, Iv p2, Iv (3 : Int32), Iv ee0, Iv ee1, Iv ee2, Rv b_135, Iv (1 : Int32), Iv (0 : Int32), Iv (3 : Int32), Iv (3 : Int32), Iv (3 : Int32), Iv (4 : Int32)] [(.int (4 : Int32))])) tt_
              refine XS.iload X_170.here hEX rfl (hb hBY at_288) rfl ?_
              show Steps p.tables e below (T_170.setTop (mkF m 290 #[Iv p1, Iv p2, Iv (3 : Int32), Iv ee0, Iv ee1, Iv ee2, Rv b_135, Iv (1 : Int32), Iv (0 : Int32), Iv (3 : Int32), Iv (3 : Int32), Iv (3 : Int32), Iv (4 : Int32)] [(.int (3 : Int32)), (.int (4 : Int32))])) tt_
              refine XS.iconst X_170.here hEX rfl (hb hBY at_290) ?_
              show Steps p.tables e below (T_170.setTop (mkF m 291 #[Iv p1, Iv p2, Iv (3 : Int32), Iv ee0, Iv ee1, Iv ee2, Rv b_135, Iv (1 : Int32), Iv (0 : Int32), Iv (3 : Int32), Iv (3 : Int32), Iv (3 : Int32), Iv (4 : Int32)] [(.int (1 : Int32)), (.int (3 : Int32)), (.int (4 : Int32))])) tt_
              refine XS.iadd X_170.here hEX rfl (hb hBY at_291) rfl ?_
              show Steps p.tables e below (T_170.setTop (mkF m 292 #[Iv p1, Iv p2, Iv (3 : Int32), Iv ee0, Iv ee1, Iv ee2, Rv b_135, Iv (1 : Int32), Iv (0 : Int32), Iv (3 : Int32), Iv (3 : Int32), Iv (3 : Int32), Iv (4 : Int32)] [(.int (4 : Int32)), (.int (4 : Int32))])) tt_
              refine XS.icmpNo X_170.here hEX rfl (hb hBY at_292) rfl (teq (by decide : (4 : Int32) = (4 : Int32))).2 ?_
              show Steps p.tables e below (T_170.setTop (mkF m 295 #[Iv p1, Iv p2, Iv (3 : Int32), Iv ee0, Iv ee1, Iv ee2, Rv b_135, Iv (1 : Int32), Iv (0 : Int32), Iv (3 : Int32), Iv (3 : Int32), Iv (3 : Int32), Iv (4 : Int32)] [])) tt_
              refine XS.iconst X_170.here hEX rfl (hb hBY at_295) ?_
              show Steps p.tables e below (T_170.setTop (mkF m 296 #[Iv p1, Iv p2, Iv (3 : Int32), Iv ee0, Iv ee1, Iv ee2, Rv b_135, Iv (1 : Int32), Iv (0 : Int32), Iv (3 : Int32), Iv (3 : Int32), Iv (3 : Int32), Iv (4 : Int32)] [(.int (1 : Int32))])) tt_
              refine XS.goto X_170.here hEX rfl (pc0 := 296) (pc' := 300) rfl (hb hBY at_296) (by decide) (by decide) ?_
              show Steps p.tables e below (T_170.setTop (mkF m 300 #[Iv p1, Iv p2, Iv (3 : Int32), Iv ee0, Iv ee1, Iv ee2, Rv b_135, Iv (1 : Int32), Iv (0 : Int32), Iv (3 : Int32), Iv (3 : Int32), Iv (3 : Int32), Iv (4 : Int32)] [(.int (1 : Int32))])) tt_
              refine XS.istore X_170.here hEX rfl (hb hBY at_300) rfl (l' := #[Iv p1, Iv p2, Iv (3 : Int32), Iv ee0, Iv ee1, Iv ee2, Rv b_135, Iv (1 : Int32), Iv (0 : Int32), Iv (3 : Int32), Iv (3 : Int32), Iv (3 : Int32), Iv (4 : Int32)]) rfl ?_
              show Steps p.tables e below (T_170.setTop (mkF m 302 #[Iv p1, Iv p2, Iv (3 : Int32), Iv ee0, Iv ee1, Iv ee2, Rv b_135, Iv (1 : Int32), Iv (0 : Int32), Iv (3 : Int32), Iv (3 : Int32), Iv (3 : Int32), Iv (4 : Int32)] [])) tt_
              refine XS.iload X_170.here hEX rfl (hb hBY at_302) rfl ?_
              exact kt_
            refine Done.pre sg_171 ?_
            exact Done.retN X_170 hEX hLK (t := .boolean) hRT (by simp) (hb hBY at_304) (by rw [e_170]; exact ⟨rfl, N_170, K__166⟩) (by decide) (by decide)
          · skip
            have sg_172 : ∀ tt_, Steps p.tables e below (T_155.setTop (mkF m 185 #[Iv p1, Iv p2, Iv (3 : Int32), Iv ee0, Iv ee1, Iv ee2, Rv b_135, Iv (1 : Int32), Iv (0 : Int32), Iv (2 : Int32), Us, Us, Us] [(.int (0 : Int32)), (.ref b_135)])) tt_ → Steps p.tables e below (T_155.setTop (mkF m 179 #[Iv p1, Iv p2, Iv (3 : Int32), Iv ee0, Iv ee1, Iv ee2, Rv b_135, Iv (1 : Int32), Iv (0 : Int32), Iv (2 : Int32), Us, Us, Us] [(.int ee0)])) tt_ := by
              intro tt_ kt_
              refine XS.ifNo X_155.here hEX rfl (hb hBY at_179) rfl ((if0 _ _).trans (feq hc179).1) ?_
              show Steps p.tables e below (T_155.setTop (mkF m 182 #[Iv p1, Iv p2, Iv (3 : Int32), Iv ee0, Iv ee1, Iv ee2, Rv b_135, Iv (1 : Int32), Iv (0 : Int32), Iv (2 : Int32), Us, Us, Us] [])) tt_
              refine XS.aload X_155.here hEX rfl (hb hBY at_182) rfl rfl ?_
              show Steps p.tables e below (T_155.setTop (mkF m 184 #[Iv p1, Iv p2, Iv (3 : Int32), Iv ee0, Iv ee1, Iv ee2, Rv b_135, Iv (1 : Int32), Iv (0 : Int32), Iv (2 : Int32), Us, Us, Us] [(.ref b_135)])) tt_
              refine XS.iconst X_155.here hEX rfl (hb hBY at_184) ?_
              exact kt_
            refine Done.pre sg_172 ?_
            obtain ⟨cq_173, kq_173, q_173a, q_173b, q_173c⟩ := isOf hZW rfl hq_155_0
            obtain ⟨_, _, ⟨T_173, L_173, k_173, n_173⟩, -, X_173, ⟨Lc_173, hQ_173, l_173, y_173, z_173⟩, st_173⟩ := X_155.virtualBack hEX (y := (⟨"com/example/actorium/actorium/Claimant$Sends", "end", "(I)V"⟩ : MethodName)) (z := (⟨"com/example/actorium/actorium/Claimant$Sends", "end", "(I)V"⟩ : MethodName)) hOW (mvT hZW (hw _ (List.mem_of_getElem? (i := 26) rfl))) (mvT hZW (hw _ (List.mem_of_getElem? (i := 27) rfl))) (notFace_of_selects (args := #[]) (mvT hZW (hw _ (List.mem_of_getElem? (i := 29) rfl)))) (mvT hZW (hw _ (List.mem_of_getElem? (i := 29) rfl))) (mvT hZW (hw _ (List.mem_of_getElem? (i := 28) rfl))) (by decide) (backOf (W := 0) (rm_end l Z aZ hw [] b_135 (0 : Int32) (3 : Int32) b__141 k__141 T_155.heap n0 (Nat.le_trans Z0 K__156.1) hq_155_0 f_158 hq_155_2 hq_155_3 ge_b_135 (Nat.le_trans Z0 sz_b__141) ne_b_135_b__141 (by decide)) hZW (hw _ (List.mem_of_getElem? (i := 30) rfl)) (hw _ (List.mem_of_getElem? (i := 3) rfl)) (by decide) (by decide)) q_173a q_173c (g := (mkF m 185 #[Iv p1, Iv p2, Iv (3 : Int32), Iv ee0, Iv ee1, Iv ee2, Rv b_135, Iv (1 : Int32), Iv (0 : Int32), Iv (2 : Int32), Us, Us, Us] [(.int (0 : Int32)), (.ref b_135)])) rfl (by rw [hMX]; rfl) (Steps.refl _) (argsL := [(.int (0 : Int32))]) (rest := []) (lenOf pd__I_V_2 rfl) rfl (by show 2 * 0 + _ ≤ _; exact Nat.le_of_eq rfl) (hb hBY at_185) (fun _ _ => ⟨rfl, rfl, (by decide : 2 + 0 ≤ _), (by decide : 10 + 0 ≤ _)⟩)
            dsimp only [Pt.U, Pt.locs, Pt.cells, Pt.slots] at X_173 l_173 y_173 z_173 st_173 hQ_173
            subst l_173 y_173 z_173
            obtain ⟨rfl, N_173q, K_173, hq_173_0, hq_173_1, hq_173_2, hq_173_3⟩ := hQ_173
            have N_173 := Fr.app N_155 N_173q
            have K__174 : Keep h0 T_173.heap [] := K__156.trans K_173 (allS (Or.inr sz_b_135) (allS (Or.inr sz_b__141) all0))
            have f_175 : Exa Z T_173.heap b_135 "com/example/actorium/actorium/Claimant$Sends" := hq_155_0.keep K_173
            refine Done.pre (fun _ k_ => st_173.trans k_) ?_
            show Done _ _ _ _ _ _ _ (T_173.setTop (mkF m 188 #[Iv p1, Iv p2, Iv (3 : Int32), Iv ee0, Iv ee1, Iv ee2, Rv b_135, Iv (1 : Int32), Iv (0 : Int32), Iv (2 : Int32), Us, Us, Us] []))
            have f_176 : Fld Z T_173.heap b_135 "com/example/actorium/actorium/Claimant$Sends" "top" "I" (.int (3 : Int32)) := by have q := hq_173_1; rw [show (own_end (3 : Int32) (0 : Int32)) = (3 : Int32) from by decide] at q; exact q
            have sg_177 : ∀ tt_, Steps p.tables e below (T_173.setTop (mkF m 235 #[Iv p1, Iv p2, Iv (3 : Int32), Iv ee0, Iv ee1, Iv ee2, Rv b_135, Iv (1 : Int32), Iv (0 : Int32), Iv (3 : Int32), Us, Us, Us] [(.ref b_135)])) tt_ → Steps p.tables e below (T_173.setTop (mkF m 188 #[Iv p1, Iv p2, Iv (3 : Int32), Iv ee0, Iv ee1, Iv ee2, Rv b_135, Iv (1 : Int32), Iv (0 : Int32), Iv (2 : Int32), Us, Us, Us] [])) tt_ := by
              intro tt_ kt_
              refine XS.iloadN X_173.here hEX rfl (hb hBY at_188) rfl ?_
              show Steps p.tables e below (T_173.setTop (mkF m 189 #[Iv p1, Iv p2, Iv (3 : Int32), Iv ee0, Iv ee1, Iv ee2, Rv b_135, Iv (1 : Int32), Iv (0 : Int32), Iv (2 : Int32), Us, Us, Us] [(.int (3 : Int32))])) tt_
              refine XS.iconst X_173.here hEX rfl (hb hBY at_189) ?_
              show Steps p.tables e below (T_173.setTop (mkF m 190 #[Iv p1, Iv p2, Iv (3 : Int32), Iv ee0, Iv ee1, Iv ee2, Rv b_135, Iv (1 : Int32), Iv (0 : Int32), Iv (2 : Int32), Us, Us, Us] [(.int (3 : Int32)), (.int (3 : Int32))])) tt_
              refine XS.icmpNo X_173.here hEX rfl (hb hBY at_190) rfl (flt (by decide : ¬ ((3 : Int32) < (3 : Int32)))).1 ?_
              show Steps p.tables e below (T_173.setTop (mkF m 193 #[Iv p1, Iv p2, Iv (3 : Int32), Iv ee0, Iv ee1, Iv ee2, Rv b_135, Iv (1 : Int32), Iv (0 : Int32), Iv (2 : Int32), Us, Us, Us] [])) tt_
              refine XS.iload X_173.here hEX rfl (hb hBY at_193) rfl ?_
              show Steps p.tables e below (T_173.setTop (mkF m 195 #[Iv p1, Iv p2, Iv (3 : Int32), Iv ee0, Iv ee1, Iv ee2, Rv b_135, Iv (1 : Int32), Iv (0 : Int32), Iv (2 : Int32), Us, Us, Us] [(.int ee2)])) tt_
              refine XS.ifNo X_173.here hEX rfl (hb hBY at_195) rfl ((if0 _ _).trans (teq hc158).2) ?_
              show Steps p.tables e below (T_173.setTop (mkF m 198 #[Iv p1, Iv p2, Iv (3 : Int32), Iv ee0, Iv ee1, Iv ee2, Rv b_135, Iv (1 : Int32), Iv (0 : Int32), Iv (2 : Int32), Us, Us, Us] [])) tt_
              refine XS.iconst X_173.here hEX rfl (hb hBY at_198) ?_
              show Steps p.tables e below (T_173.setTop (mkF m 199 #[Iv p1, Iv p2, Iv (3 : Int32), Iv ee0, Iv ee1, Iv ee2, Rv b_135, Iv (1 : Int32), Iv (0 : Int32), Iv (2 : Int32), Us, Us, Us] [(.int (3 : Int32))])) tt_
              refine XS.istore X_173.here hEX rfl (hb hBY at_199) rfl (l' := #[Iv p1, Iv p2, Iv (3 : Int32), Iv ee0, Iv ee1, Iv ee2, Rv b_135, Iv (1 : Int32), Iv (0 : Int32), Iv (3 : Int32), Us, Us, Us]) rfl ?_
              show Steps p.tables e below (T_173.setTop (mkF m 201 #[Iv p1, Iv p2, Iv (3 : Int32), Iv ee0, Iv ee1, Iv ee2, Rv b_135, Iv (1 : Int32), Iv (0 : Int32), Iv (3 : Int32), Us, Us, Us] [])) tt_
              refine XS.goto X_173.here hEX rfl (pc0 := 201) (pc' := 233) rfl (hb hBY at_201) (by decide) (by decide) ?_
              show Steps p.tables e below (T_173.setTop (mkF m 233 #[Iv p1, Iv p2, Iv (3 : Int32), Iv ee0, Iv ee1, Iv ee2, Rv b_135, Iv (1 : Int32), Iv (0 : Int32), Iv (3 : Int32), Us, Us, Us] [])) tt_
              refine XS.aload X_173.here hEX rfl (hb hBY at_233) rfl rfl ?_
              exact kt_
            refine Done.pre sg_177 ?_
            obtain ⟨cq_178, kq_178, q_178a, q_178b, q_178c⟩ := isOf hZW rfl hq_173_0
            obtain ⟨_, _, ⟨T_178, L_178, k_178, n_178⟩, -, X_178, ⟨Lc_178, hQ_178, l_178, y_178, z_178⟩, st_178⟩ := X_173.virtualBack hEX (y := (⟨"com/example/actorium/actorium/Claimant$Sends", "depth", "()I"⟩ : MethodName)) (z := (⟨"com/example/actorium/actorium/Claimant$Sends", "depth", "()I"⟩ : MethodName)) hOW (mvT hZW (hw _ (List.mem_of_getElem? (i := 21) rfl))) (mvT hZW (hw _ (List.mem_of_getElem? (i := 22) rfl))) (notFace_of_selects (args := #[]) (mvT hZW (hw _ (List.mem_of_getElem? (i := 24) rfl)))) (mvT hZW (hw _ (List.mem_of_getElem? (i := 24) rfl))) (mvT hZW (hw _ (List.mem_of_getElem? (i := 23) rfl))) (by decide) (backOf (W := 0) (rm_depth l Z aZ hw [] b_135 (3 : Int32) T_173.heap n0 (Nat.le_trans Z0 K__174.1) f_176) hZW (hw _ (List.mem_of_getElem? (i := 25) rfl)) (hw _ (List.mem_of_getElem? (i := 3) rfl)) (by decide) (by decide)) q_178a q_178c (g := (mkF m 235 #[Iv p1, Iv p2, Iv (3 : Int32), Iv ee0, Iv ee1, Iv ee2, Rv b_135, Iv (1 : Int32), Iv (0 : Int32), Iv (3 : Int32), Us, Us, Us] [(.ref b_135)])) rfl (by rw [hMX]; rfl) (Steps.refl _) (argsL := []) (rest := []) (lenOf pd___I_0 rfl) rfl (by show 2 * 0 + _ ≤ _; exact Nat.le_of_eq rfl) (hb hBY at_235) (fun _ _ => ⟨rfl, rfl, (by decide : 2 + 0 ≤ _), (by decide : 10 + 0 ≤ _)⟩)
            dsimp only [Pt.U, Pt.locs, Pt.cells, Pt.slots] at X_178 l_178 y_178 z_178 st_178 hQ_178
            subst l_178 y_178 z_178
            obtain ⟨rfl, N_178q, e_178⟩ := hQ_178
            have N_178 := Fr.app N_173 N_178q
            refine Done.pre (fun _ k_ => st_178.trans k_) ?_
            show Done _ _ _ _ _ _ _ (T_178.setTop (mkF m 238 #[Iv p1, Iv p2, Iv (3 : Int32), Iv ee0, Iv ee1, Iv ee2, Rv b_135, Iv (1 : Int32), Iv (0 : Int32), Iv (3 : Int32), Us, Us, Us] [(.int (3 : Int32))]))
            have sg_179 : ∀ tt_, Steps p.tables e below (T_178.setTop (mkF m 262 #[Iv p1, Iv p2, Iv (3 : Int32), Iv ee0, Iv ee1, Iv ee2, Rv b_135, Iv (1 : Int32), Iv (0 : Int32), Iv (3 : Int32), Iv (3 : Int32), Us, Us] [.null, (.ref b_135)])) tt_ → Steps p.tables e below (T_178.setTop (mkF m 238 #[Iv p1, Iv p2, Iv (3 : Int32), Iv ee0, Iv ee1, Iv ee2, Rv b_135, Iv (1 : Int32), Iv (0 : Int32), Iv (3 : Int32), Us, Us, Us] [(.int (3 : Int32))])) tt_ := by
              intro tt_ kt_
              refine XS.istore X_178.here hEX rfl (hb hBY at_238) rfl (l' := #[Iv p1, Iv p2, Iv (3 : Int32), Iv ee0, Iv ee1, Iv ee2, Rv b_135, Iv (1 : Int32), Iv (0 : Int32), Iv (3 : Int32), Iv (3 : Int32), Us, Us]) rfl ?_
              show Steps p.tables e below (T_178.setTop (mkF m 240 #[Iv p1, Iv p2, Iv (3 : Int32), Iv ee0, Iv ee1, Iv ee2, Rv b_135, Iv (1 : Int32), Iv (0 : Int32), Iv (3 : Int32), Iv (3 : Int32), Us, Us] [])) tt_
              refine XS.iload X_178.here hEX rfl (hb hBY at_240) rfl ?_
              show Steps p.tables e below (T_178.setTop (mkF m 242 #[Iv p1, Iv p2, Iv (3 : Int32), Iv ee0, Iv ee1, Iv ee2, Rv b_135, Iv (1 : Int32), Iv (0 : Int32), Iv (3 : Int32), Iv (3 : Int32), Us, Us] [(.int (1 : Int32))])) tt_
              refine XS.ifNo X_178.here hEX rfl (hb hBY at_242) rfl ((if0 _ _).trans (feq (by decide : ¬ ((1 : Int32) = (0 : Int32)))).1) ?_
              show Steps p.tables e below (T_178.setTop (mkF m 245 #[Iv p1, Iv p2, Iv (3 : Int32), Iv ee0, Iv ee1, Iv ee2, Rv b_135, Iv (1 : Int32), Iv (0 : Int32), Iv (3 : Int32), Iv (3 : Int32), Us, Us] [])) tt_
              refine XS.iload X_178.here hEX rfl (hb hBY at_245) rfl ?_
              show Steps p.tables e below (T_178.setTop (mkF m 247 #[Iv p1, Iv p2, Iv (3 : Int32), Iv ee0, Iv ee1, Iv ee2, Rv b_135, Iv (1 : Int32), Iv (0 : Int32), Iv (3 : Int32), Iv (3 : Int32), Us, Us] [(.int (3 : Int32))])) tt_
              refine XS.iload X_178.here hEX rfl (hb hBY at_247) rfl ?_
              show Steps p.tables e below (T_178.setTop (mkF m 249 #[Iv p1, Iv p2, Iv (3 : Int32), Iv ee0, Iv ee1, Iv ee2, Rv b_135, Iv (1 : Int32), Iv (0 : Int32), Iv (3 : Int32), Iv (3 : Int32), Us, Us] [(.int (3 : Int32)), (.int (3 : Int32))])) tt_
              refine XS.icmpNo X_178.here hEX rfl (hb hBY at_249) rfl (teq (by decide : (3 : Int32) = (3 : Int32))).2 ?_
              show Steps p.tables e below (T_178.setTop (mkF m 252 #[Iv p1, Iv p2, Iv (3 : Int32), Iv ee0, Iv ee1, Iv ee2, Rv b_135, Iv (1 : Int32), Iv (0 : Int32), Iv (3 : Int32), Iv (3 : Int32), Us, Us] [])) tt_
              refine XS.iconst X_178.here hEX rfl (hb hBY at_252) ?_
              show Steps p.tables e below (T_178.setTop (mkF m 253 #[Iv p1, Iv p2, Iv (3 : Int32), Iv ee0, Iv ee1, Iv ee2, Rv b_135, Iv (1 : Int32), Iv (0 : Int32), Iv (3 : Int32), Iv (3 : Int32), Us, Us] [(.int (1 : Int32))])) tt_
              refine XS.goto X_178.here hEX rfl (pc0 := 253) (pc' := 257) rfl (hb hBY at_253) (by decide) (by decide) ?_
              show Steps p.tables e below (T_178.setTop (mkF m 257 #[Iv p1, Iv p2, Iv (3 : Int32), Iv ee0, Iv ee1, Iv ee2, Rv b_135, Iv (1 : Int32), Iv (0 : Int32), Iv (3 : Int32), Iv (3 : Int32), Us, Us] [(.int (1 : Int32))])) tt_
              refine XS.istore X_178.here hEX rfl (hb hBY at_257) rfl (l' := #[Iv p1, Iv p2, Iv (3 : Int32), Iv ee0, Iv ee1, Iv ee2, Rv b_135, Iv (1 : Int32), Iv (0 : Int32), Iv (3 : Int32), Iv (3 : Int32), Us, Us]) rfl ?_
              show Steps p.tables e below (T_178.setTop (mkF m 259 #[Iv p1, Iv p2, Iv (3 : Int32), Iv ee0, Iv ee1, Iv ee2, Rv b_135, Iv (1 : Int32), Iv (0 : Int32), Iv (3 : Int32), Iv (3 : Int32), Us, Us] [])) tt_
              refine XS.aload X_178.here hEX rfl (hb hBY at_259) rfl rfl ?_
              show Steps p.tables e below (T_178.setTop (mkF m 261 #[Iv p1, Iv p2, Iv (3 : Int32), Iv ee0, Iv ee1, Iv ee2, Rv b_135, Iv (1 : Int32), Iv (0 : Int32), Iv (3 : Int32), Iv (3 : Int32), Us, Us] [(.ref b_135)])) tt_
              refine XS.aconstNull X_178.here hEX rfl (hb hBY at_261) ?_
              exact kt_
            refine Done.pre sg_179 ?_
            obtain ⟨cq_180, kq_180, q_180a, q_180b, q_180c⟩ := isOf hZW e_178 hq_173_0
            obtain ⟨_, _, ⟨T_180, L_180, k_180, n_180⟩, -, X_180, ⟨Lc_180, hQ_180, l_180, y_180, z_180⟩, st_180⟩ := X_178.virtualBack hEX (y := (⟨"com/example/actorium/actorium/Claimant$Sends", "begin", "(Lcom/example/actorium/actorium/DispatchedCell;)I"⟩ : MethodName)) (z := (⟨"com/example/actorium/actorium/Claimant$Sends", "begin", "(Lcom/example/actorium/actorium/DispatchedCell;)I"⟩ : MethodName)) hOW (mvT hZW (hw _ (List.mem_of_getElem? (i := 14) rfl))) (mvT hZW (hw _ (List.mem_of_getElem? (i := 15) rfl))) (notFace_of_selects (args := #[]) (mvT hZW (hw _ (List.mem_of_getElem? (i := 17) rfl)))) (mvT hZW (hw _ (List.mem_of_getElem? (i := 17) rfl))) (mvT hZW (hw _ (List.mem_of_getElem? (i := 16) rfl))) (by decide) (backOf (W := 0) (rm_begin l Z aZ hw [] b_135 (3 : Int32) b__141 k__141 T_173.heap n0 (Nat.le_trans Z0 K__174.1) hq_173_0 f_176 hq_173_2 hq_173_3 ge_b_135 (Nat.le_trans Z0 sz_b__141) ne_b_135_b__141 (by decide)) hZW (hw _ (List.mem_of_getElem? (i := 18) rfl)) (hw _ (List.mem_of_getElem? (i := 3) rfl)) (by decide) (by decide)) q_180a q_180c (g := (mkF m 262 #[Iv p1, Iv p2, Iv (3 : Int32), Iv ee0, Iv ee1, Iv ee2, Rv b_135, Iv (1 : Int32), Iv (0 : Int32), Iv (3 : Int32), Iv (3 : Int32), Us, Us] [.null, (.ref b_135)])) rfl (by rw [hMX]; rfl) (Steps.refl _) (argsL := [.null]) (rest := []) (lenOf pd__Lcom_example_actorium_actorium_DispatchedCell__I_3 rfl) rfl (by show 2 * 0 + _ ≤ _; exact Nat.le_of_eq rfl) (hb hBY at_262) (fun _ _ => ⟨rfl, e_178, (by decide : 2 + 0 ≤ _), (by decide : 10 + 0 ≤ _)⟩)
            dsimp only [Pt.U, Pt.locs, Pt.cells, Pt.slots] at X_180 l_180 y_180 z_180 st_180 hQ_180
            subst l_180 y_180 z_180
            obtain ⟨rfl, N_180q, K_180, hq_180_0, hq_180_1, hq_180_2, hq_180_3⟩ := hQ_180
            have N_180 := Fr.app N_178 N_180q
            have K__181 : Keep h0 T_180.heap [] := K__174.trans K_180 (allS (Or.inr sz_b_135) (allS (Or.inr sz_b__141) all0))
            have f_182 : Exa Z T_180.heap b_135 "com/example/actorium/actorium/Claimant$Sends" := hq_173_0.keep K_180
            refine Done.pre (fun _ k_ => st_180.trans k_) ?_
            show Done _ _ _ _ _ _ _ (T_180.setTop (mkF m 265 #[Iv p1, Iv p2, Iv (3 : Int32), Iv ee0, Iv ee1, Iv ee2, Rv b_135, Iv (1 : Int32), Iv (0 : Int32), Iv (3 : Int32), Iv (3 : Int32), Us, Us] [(.int (3 : Int32))]))
            have f_183 : Fld Z T_180.heap b_135 "com/example/actorium/actorium/Claimant$Sends" "top" "I" (.int (4 : Int32)) := by have q := hq_180_1; rw [show ((3 : Int32) + (1 : Int32)) = (4 : Int32) from by decide] at q; exact q
            have sg_184 : ∀ tt_, Steps p.tables e below (T_180.setTop (mkF m 269 #[Iv p1, Iv p2, Iv (3 : Int32), Iv ee0, Iv ee1, Iv ee2, Rv b_135, Iv (1 : Int32), Iv (0 : Int32), Iv (3 : Int32), Iv (3 : Int32), Iv (3 : Int32), Us] [(.ref b_135)])) tt_ → Steps p.tables e below (T_180.setTop (mkF m 265 #[Iv p1, Iv p2, Iv (3 : Int32), Iv ee0, Iv ee1, Iv ee2, Rv b_135, Iv (1 : Int32), Iv (0 : Int32), Iv (3 : Int32), Iv (3 : Int32), Us, Us] [(.int (3 : Int32))])) tt_ := by
              intro tt_ kt_
              refine XS.istore X_180.here hEX rfl (hb hBY at_265) rfl (l' := #[Iv p1, Iv p2, Iv (3 : Int32), Iv ee0, Iv ee1, Iv ee2, Rv b_135, Iv (1 : Int32), Iv (0 : Int32), Iv (3 : Int32), Iv (3 : Int32), Iv (3 : Int32), Us]) rfl ?_
              show Steps p.tables e below (T_180.setTop (mkF m 267 #[Iv p1, Iv p2, Iv (3 : Int32), Iv ee0, Iv ee1, Iv ee2, Rv b_135, Iv (1 : Int32), Iv (0 : Int32), Iv (3 : Int32), Iv (3 : Int32), Iv (3 : Int32), Us] [])) tt_
              refine XS.aload X_180.here hEX rfl (hb hBY at_267) rfl rfl ?_
              exact kt_
            refine Done.pre sg_184 ?_
            obtain ⟨cq_185, kq_185, q_185a, q_185b, q_185c⟩ := isOf hZW rfl hq_180_0
            obtain ⟨_, _, ⟨T_185, L_185, k_185, n_185⟩, -, X_185, ⟨Lc_185, hQ_185, l_185, y_185, z_185⟩, st_185⟩ := X_180.virtualBack hEX (y := (⟨"com/example/actorium/actorium/Claimant$Sends", "depth", "()I"⟩ : MethodName)) (z := (⟨"com/example/actorium/actorium/Claimant$Sends", "depth", "()I"⟩ : MethodName)) hOW (mvT hZW (hw _ (List.mem_of_getElem? (i := 21) rfl))) (mvT hZW (hw _ (List.mem_of_getElem? (i := 22) rfl))) (notFace_of_selects (args := #[]) (mvT hZW (hw _ (List.mem_of_getElem? (i := 24) rfl)))) (mvT hZW (hw _ (List.mem_of_getElem? (i := 24) rfl))) (mvT hZW (hw _ (List.mem_of_getElem? (i := 23) rfl))) (by decide) (backOf (W := 0) (rm_depth l Z aZ hw [] b_135 (4 : Int32) T_180.heap n0 (Nat.le_trans Z0 K__181.1) f_183) hZW (hw _ (List.mem_of_getElem? (i := 25) rfl)) (hw _ (List.mem_of_getElem? (i := 3) rfl)) (by decide) (by decide)) q_185a q_185c (g := (mkF m 269 #[Iv p1, Iv p2, Iv (3 : Int32), Iv ee0, Iv ee1, Iv ee2, Rv b_135, Iv (1 : Int32), Iv (0 : Int32), Iv (3 : Int32), Iv (3 : Int32), Iv (3 : Int32), Us] [(.ref b_135)])) rfl (by rw [hMX]; rfl) (Steps.refl _) (argsL := []) (rest := []) (lenOf pd___I_0 rfl) rfl (by show 2 * 0 + _ ≤ _; exact Nat.le_of_eq rfl) (hb hBY at_269) (fun _ _ => ⟨rfl, rfl, (by decide : 2 + 0 ≤ _), (by decide : 10 + 0 ≤ _)⟩)
            dsimp only [Pt.U, Pt.locs, Pt.cells, Pt.slots] at X_185 l_185 y_185 z_185 st_185 hQ_185
            subst l_185 y_185 z_185
            obtain ⟨rfl, N_185q, e_185⟩ := hQ_185
            have N_185 := Fr.app N_180 N_185q
            refine Done.pre (fun _ k_ => st_185.trans k_) ?_
            show Done _ _ _ _ _ _ _ (T_185.setTop (mkF m 272 #[Iv p1, Iv p2, Iv (3 : Int32), Iv ee0, Iv ee1, Iv ee2, Rv b_135, Iv (1 : Int32), Iv (0 : Int32), Iv (3 : Int32), Iv (3 : Int32), Iv (3 : Int32), Us] [(.int (4 : Int32))]))
            have sg_186 : ∀ tt_, Steps p.tables e below (T_185.setTop (mkF m 304 #[Iv p1, Iv p2, Iv (3 : Int32), Iv ee0, Iv ee1, Iv ee2, Rv b_135, Iv (1 : Int32), Iv (0 : Int32), Iv (3 : Int32), Iv (3 : Int32), Iv (3 : Int32), Iv (4 : Int32)] [(.int (1 : Int32))])) tt_ → Steps p.tables e below (T_185.setTop (mkF m 272 #[Iv p1, Iv p2, Iv (3 : Int32), Iv ee0, Iv ee1, Iv ee2, Rv b_135, Iv (1 : Int32), Iv (0 : Int32), Iv (3 : Int32), Iv (3 : Int32), Iv (3 : Int32), Us] [(.int (4 : Int32))])) tt_ := by
              intro tt_ kt_
              refine XS.istore X_185.here hEX rfl (hb hBY at_272) rfl (l' := #[Iv p1, Iv p2, Iv (3 : Int32), Iv ee0, Iv ee1, Iv ee2, Rv b_135, Iv (1 : Int32), Iv (0 : Int32), Iv (3 : Int32), Iv (3 : Int32), Iv (3 : Int32), Iv (4 : Int32)]) rfl ?_
              show Steps p.tables e below (T_185.setTop (mkF m 274 #[Iv p1, Iv p2, Iv (3 : Int32), Iv ee0, Iv ee1, Iv ee2, Rv b_135, Iv (1 : Int32), Iv (0 : Int32), Iv (3 : Int32), Iv (3 : Int32), Iv (3 : Int32), Iv (4 : Int32)] [])) tt_
              refine XS.iload X_185.here hEX rfl (hb hBY at_274) rfl ?_
              show Steps p.tables e below (T_185.setTop (mkF m 276 #[Iv p1, Iv p2, Iv (3 : Int32), Iv ee0, Iv ee1, Iv ee2, Rv b_135, Iv (1 : Int32), Iv (0 : Int32), Iv (3 : Int32), Iv (3 : Int32), Iv (3 : Int32), Iv (4 : Int32)] [(.int (1 : Int32))])) tt_
              refine XS.ifNo X_185.here hEX rfl (hb hBY at_276) rfl ((if0 _ _).trans (feq (by decide : ¬ ((1 : Int32) = (0 : Int32)))).1) ?_
              show Steps p.tables e below (T_185.setTop (mkF m 279 #[Iv p1, Iv p2, Iv (3 : Int32), Iv ee0, Iv ee1, Iv ee2, Rv b_135, Iv (1 : Int32), Iv (0 : Int32), Iv (3 : Int32), Iv (3 : Int32), Iv (3 : Int32), Iv (4 : Int32)] [])) tt_
              refine XS.iload X_185.here hEX rfl (hb hBY at_279) rfl ?_
              show Steps p.tables e below (T_185.setTop (mkF m 281 #[Iv p1, Iv p2, Iv (3 : Int32), Iv ee0, Iv ee1, Iv ee2, Rv b_135, Iv (1 : Int32), Iv (0 : Int32), Iv (3 : Int32), Iv (3 : Int32), Iv (3 : Int32), Iv (4 : Int32)] [(.int (3 : Int32))])) tt_
              refine XS.iload X_185.here hEX rfl (hb hBY at_281) rfl ?_
              show Steps p.tables e below (T_185.setTop (mkF m 283 #[Iv p1, Iv p2, Iv (3 : Int32), Iv ee0, Iv ee1, Iv ee2, Rv b_135, Iv (1 : Int32), Iv (0 : Int32), Iv (3 : Int32), Iv (3 : Int32), Iv (3 : Int32), Iv (4 : Int32)] [(.int (3 : Int32)), (.int (3 : Int32))])) tt_
              refine XS.icmpNo X_185.here hEX rfl (hb hBY at_283) rfl (teq (by decide : (3 : Int32) = (3 : Int32))).2 ?_
              show Steps p.tables e below (T_185.setTop (mkF m 286 #[Iv p1, Iv p2, Iv (3 : Int32), Iv ee0, Iv ee1, Iv ee2, Rv b_135, Iv (1 : Int32), Iv (0 : Int32), Iv (3 : Int32), Iv (3 : Int32), Iv (3 : Int32), Iv (4 : Int32)] [])) tt_
              refine XS.iload X_185.here hEX rfl (hb hBY at_286) rfl ?_
              show Steps p.tables e below (T_185.setTop (mkF m 288 #[Iv p1, Iv p2, Iv (3 : Int32), Iv ee0, Iv ee1, Iv ee2, Rv b_135, Iv (1 : Int32), Iv (0 : Int32), Iv (3 : Int32), Iv (3 : Int32), Iv (3 : Int32), Iv (4 : Int32)] [(.int (4 : Int32))])) tt_
              refine XS.iload X_185.here hEX rfl (hb hBY at_288) rfl ?_
              show Steps p.tables e below (T_185.setTop (mkF m 290 #[Iv p1, Iv p2, Iv (3 : Int32), Iv ee0, Iv ee1, Iv ee2, Rv b_135, Iv (1 : Int32), Iv (0 : Int32), Iv (3 : Int32), Iv (3 : Int32), Iv (3 : Int32), Iv (4 : Int32)] [(.int (3 : Int32)), (.int (4 : Int32))])) tt_
              refine XS.iconst X_185.here hEX rfl (hb hBY at_290) ?_
              show Steps p.tables e below (T_185.setTop (mkF m 291 #[Iv p1, Iv p2, Iv (3 : Int32), Iv ee0, Iv ee1, Iv ee2, Rv b_135, Iv (1 : Int32), Iv (0 : Int32), Iv (3 : Int32), Iv (3 : Int32), Iv (3 : Int32), Iv (4 : Int32)] [(.int (1 : Int32)), (.int (3 : Int32)), (.int (4 : Int32))])) tt_
              refine XS.iadd X_185.here hEX rfl (hb hBY at_291) rfl ?_
              show Steps p.tables e below (T_185.setTop (mkF m 292 #[Iv p1, Iv p2, Iv (3 : Int32), Iv ee0, Iv ee1, Iv ee2, Rv b_135, Iv (1 : Int32), Iv (0 : Int32), Iv (3 : Int32), Iv (3 : Int32), Iv (3 : Int32), Iv (4 : Int32)] [(.int (4 : Int32)), (.int (4 : Int32))])) tt_
              refine XS.icmpNo X_185.here hEX rfl (hb hBY at_292) rfl (teq (by decide : (4 : Int32) = (4 : Int32))).2 ?_
              show Steps p.tables e below (T_185.setTop (mkF m 295 #[Iv p1, Iv p2, Iv (3 : Int32), Iv ee0, Iv ee1, Iv ee2, Rv b_135, Iv (1 : Int32), Iv (0 : Int32), Iv (3 : Int32), Iv (3 : Int32), Iv (3 : Int32), Iv (4 : Int32)] [])) tt_
              refine XS.iconst X_185.here hEX rfl (hb hBY at_295) ?_
              show Steps p.tables e below (T_185.setTop (mkF m 296 #[Iv p1, Iv p2, Iv (3 : Int32), Iv ee0, Iv ee1, Iv ee2, Rv b_135, Iv (1 : Int32), Iv (0 : Int32), Iv (3 : Int32), Iv (3 : Int32), Iv (3 : Int32), Iv (4 : Int32)] [(.int (1 : Int32))])) tt_
              refine XS.goto X_185.here hEX rfl (pc0 := 296) (pc' := 300) rfl (hb hBY at_296) (by decide) (by decide) ?_
              show Steps p.tables e below (T_185.setTop (mkF m 300 #[Iv p1, Iv p2, Iv (3 : Int32), Iv ee0, Iv ee1, Iv ee2, Rv b_135, Iv (1 : Int32), Iv (0 : Int32), Iv (3 : Int32), Iv (3 : Int32), Iv (3 : Int32), Iv (4 : Int32)] [(.int (1 : Int32))])) tt_
              refine XS.istore X_185.here hEX rfl (hb hBY at_300) rfl (l' := #[Iv p1, Iv p2, Iv (3 : Int32), Iv ee0, Iv ee1, Iv ee2, Rv b_135, Iv (1 : Int32), Iv (0 : Int32), Iv (3 : Int32), Iv (3 : Int32), Iv (3 : Int32), Iv (4 : Int32)]) rfl ?_
              show Steps p.tables e below (T_185.setTop (mkF m 302 #[Iv p1, Iv p2, Iv (3 : Int32), Iv ee0, Iv ee1, Iv ee2, Rv b_135, Iv (1 : Int32), Iv (0 : Int32), Iv (3 : Int32), Iv (3 : Int32), Iv (3 : Int32), Iv (4 : Int32)] [])) tt_
              refine XS.iload X_185.here hEX rfl (hb hBY at_302) rfl ?_
              exact kt_
            refine Done.pre sg_186 ?_
            exact Done.retN X_185 hEX hLK (t := .boolean) hRT (by simp) (hb hBY at_304) (by rw [e_185]; exact ⟨rfl, N_185, K__181⟩) (by decide) (by decide)
        · skip
          have sg_187 : ∀ tt_, Steps p.tables e below (T_155.setTop (mkF m 175 #[Iv p1, Iv p2, Iv (3 : Int32), Iv ee0, Iv ee1, Iv ee2, Rv b_135, Iv (1 : Int32), Iv (0 : Int32), Iv (2 : Int32), Us, Us, Us] [(.int (1 : Int32)), (.ref b_135)])) tt_ → Steps p.tables e below (T_155.setTop (mkF m 169 #[Iv p1, Iv p2, Iv (3 : Int32), Iv ee0, Iv ee1, Iv ee2, Rv b_135, Iv (1 : Int32), Iv (0 : Int32), Iv (2 : Int32), Us, Us, Us] [(.int ee1)])) tt_ := by
            intro tt_ kt_
            refine XS.ifNo X_155.here hEX rfl (hb hBY at_169) rfl ((if0 _ _).trans (feq hc169).1) ?_
            show Steps p.tables e below (T_155.setTop (mkF m 172 #[Iv p1, Iv p2, Iv (3 : Int32), Iv ee0, Iv ee1, Iv ee2, Rv b_135, Iv (1 : Int32), Iv (0 : Int32), Iv (2 : Int32), Us, Us, Us] [])) tt_
            refine XS.aload X_155.here hEX rfl (hb hBY at_172) rfl rfl ?_
            show Steps p.tables e below (T_155.setTop (mkF m 174 #[Iv p1, Iv p2, Iv (3 : Int32), Iv ee0, Iv ee1, Iv ee2, Rv b_135, Iv (1 : Int32), Iv (0 : Int32), Iv (2 : Int32), Us, Us, Us] [(.ref b_135)])) tt_
            refine XS.iconst X_155.here hEX rfl (hb hBY at_174) ?_
            exact kt_
          refine Done.pre sg_187 ?_
          obtain ⟨cq_188, kq_188, q_188a, q_188b, q_188c⟩ := isOf hZW rfl hq_155_0
          obtain ⟨_, _, ⟨T_188, L_188, k_188, n_188⟩, -, X_188, ⟨Lc_188, hQ_188, l_188, y_188, z_188⟩, st_188⟩ := X_155.virtualBack hEX (y := (⟨"com/example/actorium/actorium/Claimant$Sends", "end", "(I)V"⟩ : MethodName)) (z := (⟨"com/example/actorium/actorium/Claimant$Sends", "end", "(I)V"⟩ : MethodName)) hOW (mvT hZW (hw _ (List.mem_of_getElem? (i := 26) rfl))) (mvT hZW (hw _ (List.mem_of_getElem? (i := 27) rfl))) (notFace_of_selects (args := #[]) (mvT hZW (hw _ (List.mem_of_getElem? (i := 29) rfl)))) (mvT hZW (hw _ (List.mem_of_getElem? (i := 29) rfl))) (mvT hZW (hw _ (List.mem_of_getElem? (i := 28) rfl))) (by decide) (backOf (W := 0) (rm_end l Z aZ hw [] b_135 (1 : Int32) (3 : Int32) b__141 k__141 T_155.heap n0 (Nat.le_trans Z0 K__156.1) hq_155_0 f_158 hq_155_2 hq_155_3 ge_b_135 (Nat.le_trans Z0 sz_b__141) ne_b_135_b__141 (by decide)) hZW (hw _ (List.mem_of_getElem? (i := 30) rfl)) (hw _ (List.mem_of_getElem? (i := 3) rfl)) (by decide) (by decide)) q_188a q_188c (g := (mkF m 175 #[Iv p1, Iv p2, Iv (3 : Int32), Iv ee0, Iv ee1, Iv ee2, Rv b_135, Iv (1 : Int32), Iv (0 : Int32), Iv (2 : Int32), Us, Us, Us] [(.int (1 : Int32)), (.ref b_135)])) rfl (by rw [hMX]; rfl) (Steps.refl _) (argsL := [(.int (1 : Int32))]) (rest := []) (lenOf pd__I_V_2 rfl) rfl (by show 2 * 0 + _ ≤ _; exact Nat.le_of_eq rfl) (hb hBY at_175) (fun _ _ => ⟨rfl, rfl, (by decide : 2 + 0 ≤ _), (by decide : 10 + 0 ≤ _)⟩)
          dsimp only [Pt.U, Pt.locs, Pt.cells, Pt.slots] at X_188 l_188 y_188 z_188 st_188 hQ_188
          subst l_188 y_188 z_188
          obtain ⟨rfl, N_188q, K_188, hq_188_0, hq_188_1, hq_188_2, hq_188_3⟩ := hQ_188
          have N_188 := Fr.app N_155 N_188q
          have K__189 : Keep h0 T_188.heap [] := K__156.trans K_188 (allS (Or.inr sz_b_135) (allS (Or.inr sz_b__141) all0))
          have f_190 : Exa Z T_188.heap b_135 "com/example/actorium/actorium/Claimant$Sends" := hq_155_0.keep K_188
          refine Done.pre (fun _ k_ => st_188.trans k_) ?_
          show Done _ _ _ _ _ _ _ (T_188.setTop (mkF m 178 #[Iv p1, Iv p2, Iv (3 : Int32), Iv ee0, Iv ee1, Iv ee2, Rv b_135, Iv (1 : Int32), Iv (0 : Int32), Iv (2 : Int32), Us, Us, Us] []))
          have f_191 : Fld Z T_188.heap b_135 "com/example/actorium/actorium/Claimant$Sends" "top" "I" (.int (3 : Int32)) := by have q := hq_188_1; rw [show (own_end (3 : Int32) (1 : Int32)) = (3 : Int32) from by decide] at q; exact q
          have sg_192 : ∀ tt_, Steps p.tables e below (T_188.setTop (mkF m 179 #[Iv p1, Iv p2, Iv (3 : Int32), Iv ee0, Iv ee1, Iv ee2, Rv b_135, Iv (1 : Int32), Iv (0 : Int32), Iv (2 : Int32), Us, Us, Us] [(.int ee0)])) tt_ → Steps p.tables e below (T_188.setTop (mkF m 178 #[Iv p1, Iv p2, Iv (3 : Int32), Iv ee0, Iv ee1, Iv ee2, Rv b_135, Iv (1 : Int32), Iv (0 : Int32), Iv (2 : Int32), Us, Us, Us] [])) tt_ := by
            intro tt_ kt_
            refine XS.iloadN X_188.here hEX rfl (hb hBY at_178) rfl ?_
            exact kt_
          refine Done.pre sg_192 ?_
          by_cases hc179 : ee0 = (0 : Int32)
          · skip
            have sg_193 : ∀ tt_, Steps p.tables e below (T_188.setTop (mkF m 235 #[Iv p1, Iv p2, Iv (3 : Int32), Iv ee0, Iv ee1, Iv ee2, Rv b_135, Iv (1 : Int32), Iv (0 : Int32), Iv (3 : Int32), Us, Us, Us] [(.ref b_135)])) tt_ → Steps p.tables e below (T_188.setTop (mkF m 179 #[Iv p1, Iv p2, Iv (3 : Int32), Iv ee0, Iv ee1, Iv ee2, Rv b_135, Iv (1 : Int32), Iv (0 : Int32), Iv (2 : Int32), Us, Us, Us] [(.int ee0)])) tt_ := by
              intro tt_ kt_
              refine XS.ifYes X_188.here hEX rfl (pc0 := 179) (pc' := 188) rfl (hb hBY at_179) rfl ((if0 _ _).trans (teq hc179).1) (by decide) (by decide) ?_
              show Steps p.tables e below (T_188.setTop (mkF m 188 #[Iv p1, Iv p2, Iv (3 : Int32), Iv ee0, Iv ee1, Iv ee2, Rv b_135, Iv (1 : Int32), Iv (0 : Int32), Iv (2 : Int32), Us, Us, Us] [])) tt_
              refine XS.iloadN X_188.here hEX rfl (hb hBY at_188) rfl ?_
              show Steps p.tables e below (T_188.setTop (mkF m 189 #[Iv p1, Iv p2, Iv (3 : Int32), Iv ee0, Iv ee1, Iv ee2, Rv b_135, Iv (1 : Int32), Iv (0 : Int32), Iv (2 : Int32), Us, Us, Us] [(.int (3 : Int32))])) tt_
              refine XS.iconst X_188.here hEX rfl (hb hBY at_189) ?_
              show Steps p.tables e below (T_188.setTop (mkF m 190 #[Iv p1, Iv p2, Iv (3 : Int32), Iv ee0, Iv ee1, Iv ee2, Rv b_135, Iv (1 : Int32), Iv (0 : Int32), Iv (2 : Int32), Us, Us, Us] [(.int (3 : Int32)), (.int (3 : Int32))])) tt_
              refine XS.icmpNo X_188.here hEX rfl (hb hBY at_190) rfl (flt (by decide : ¬ ((3 : Int32) < (3 : Int32)))).1 ?_
              show Steps p.tables e below (T_188.setTop (mkF m 193 #[Iv p1, Iv p2, Iv (3 : Int32), Iv ee0, Iv ee1, Iv ee2, Rv b_135, Iv (1 : Int32), Iv (0 : Int32), Iv (2 : Int32), Us, Us, Us] [])) tt_
              refine XS.iload X_188.here hEX rfl (hb hBY at_193) rfl ?_
              show Steps p.tables e below (T_188.setTop (mkF m 195 #[Iv p1, Iv p2, Iv (3 : Int32), Iv ee0, Iv ee1, Iv ee2, Rv b_135, Iv (1 : Int32), Iv (0 : Int32), Iv (2 : Int32), Us, Us, Us] [(.int ee2)])) tt_
              refine XS.ifNo X_188.here hEX rfl (hb hBY at_195) rfl ((if0 _ _).trans (teq hc158).2) ?_
              show Steps p.tables e below (T_188.setTop (mkF m 198 #[Iv p1, Iv p2, Iv (3 : Int32), Iv ee0, Iv ee1, Iv ee2, Rv b_135, Iv (1 : Int32), Iv (0 : Int32), Iv (2 : Int32), Us, Us, Us] [])) tt_
              refine XS.iconst X_188.here hEX rfl (hb hBY at_198) ?_
              show Steps p.tables e below (T_188.setTop (mkF m 199 #[Iv p1, Iv p2, Iv (3 : Int32), Iv ee0, Iv ee1, Iv ee2, Rv b_135, Iv (1 : Int32), Iv (0 : Int32), Iv (2 : Int32), Us, Us, Us] [(.int (3 : Int32))])) tt_
              refine XS.istore X_188.here hEX rfl (hb hBY at_199) rfl (l' := #[Iv p1, Iv p2, Iv (3 : Int32), Iv ee0, Iv ee1, Iv ee2, Rv b_135, Iv (1 : Int32), Iv (0 : Int32), Iv (3 : Int32), Us, Us, Us]) rfl ?_
              show Steps p.tables e below (T_188.setTop (mkF m 201 #[Iv p1, Iv p2, Iv (3 : Int32), Iv ee0, Iv ee1, Iv ee2, Rv b_135, Iv (1 : Int32), Iv (0 : Int32), Iv (3 : Int32), Us, Us, Us] [])) tt_
              refine XS.goto X_188.here hEX rfl (pc0 := 201) (pc' := 233) rfl (hb hBY at_201) (by decide) (by decide) ?_
              show Steps p.tables e below (T_188.setTop (mkF m 233 #[Iv p1, Iv p2, Iv (3 : Int32), Iv ee0, Iv ee1, Iv ee2, Rv b_135, Iv (1 : Int32), Iv (0 : Int32), Iv (3 : Int32), Us, Us, Us] [])) tt_
              refine XS.aload X_188.here hEX rfl (hb hBY at_233) rfl rfl ?_
              exact kt_
            refine Done.pre sg_193 ?_
            obtain ⟨cq_194, kq_194, q_194a, q_194b, q_194c⟩ := isOf hZW rfl hq_188_0
            obtain ⟨_, _, ⟨T_194, L_194, k_194, n_194⟩, -, X_194, ⟨Lc_194, hQ_194, l_194, y_194, z_194⟩, st_194⟩ := X_188.virtualBack hEX (y := (⟨"com/example/actorium/actorium/Claimant$Sends", "depth", "()I"⟩ : MethodName)) (z := (⟨"com/example/actorium/actorium/Claimant$Sends", "depth", "()I"⟩ : MethodName)) hOW (mvT hZW (hw _ (List.mem_of_getElem? (i := 21) rfl))) (mvT hZW (hw _ (List.mem_of_getElem? (i := 22) rfl))) (notFace_of_selects (args := #[]) (mvT hZW (hw _ (List.mem_of_getElem? (i := 24) rfl)))) (mvT hZW (hw _ (List.mem_of_getElem? (i := 24) rfl))) (mvT hZW (hw _ (List.mem_of_getElem? (i := 23) rfl))) (by decide) (backOf (W := 0) (rm_depth l Z aZ hw [] b_135 (3 : Int32) T_188.heap n0 (Nat.le_trans Z0 K__189.1) f_191) hZW (hw _ (List.mem_of_getElem? (i := 25) rfl)) (hw _ (List.mem_of_getElem? (i := 3) rfl)) (by decide) (by decide)) q_194a q_194c (g := (mkF m 235 #[Iv p1, Iv p2, Iv (3 : Int32), Iv ee0, Iv ee1, Iv ee2, Rv b_135, Iv (1 : Int32), Iv (0 : Int32), Iv (3 : Int32), Us, Us, Us] [(.ref b_135)])) rfl (by rw [hMX]; rfl) (Steps.refl _) (argsL := []) (rest := []) (lenOf pd___I_0 rfl) rfl (by show 2 * 0 + _ ≤ _; exact Nat.le_of_eq rfl) (hb hBY at_235) (fun _ _ => ⟨rfl, rfl, (by decide : 2 + 0 ≤ _), (by decide : 10 + 0 ≤ _)⟩)
            dsimp only [Pt.U, Pt.locs, Pt.cells, Pt.slots] at X_194 l_194 y_194 z_194 st_194 hQ_194
            subst l_194 y_194 z_194
            obtain ⟨rfl, N_194q, e_194⟩ := hQ_194
            have N_194 := Fr.app N_188 N_194q
            refine Done.pre (fun _ k_ => st_194.trans k_) ?_
            show Done _ _ _ _ _ _ _ (T_194.setTop (mkF m 238 #[Iv p1, Iv p2, Iv (3 : Int32), Iv ee0, Iv ee1, Iv ee2, Rv b_135, Iv (1 : Int32), Iv (0 : Int32), Iv (3 : Int32), Us, Us, Us] [(.int (3 : Int32))]))
            have sg_195 : ∀ tt_, Steps p.tables e below (T_194.setTop (mkF m 262 #[Iv p1, Iv p2, Iv (3 : Int32), Iv ee0, Iv ee1, Iv ee2, Rv b_135, Iv (1 : Int32), Iv (0 : Int32), Iv (3 : Int32), Iv (3 : Int32), Us, Us] [.null, (.ref b_135)])) tt_ → Steps p.tables e below (T_194.setTop (mkF m 238 #[Iv p1, Iv p2, Iv (3 : Int32), Iv ee0, Iv ee1, Iv ee2, Rv b_135, Iv (1 : Int32), Iv (0 : Int32), Iv (3 : Int32), Us, Us, Us] [(.int (3 : Int32))])) tt_ := by
              intro tt_ kt_
              refine XS.istore X_194.here hEX rfl (hb hBY at_238) rfl (l' := #[Iv p1, Iv p2, Iv (3 : Int32), Iv ee0, Iv ee1, Iv ee2, Rv b_135, Iv (1 : Int32), Iv (0 : Int32), Iv (3 : Int32), Iv (3 : Int32), Us, Us]) rfl ?_
              show Steps p.tables e below (T_194.setTop (mkF m 240 #[Iv p1, Iv p2, Iv (3 : Int32), Iv ee0, Iv ee1, Iv ee2, Rv b_135, Iv (1 : Int32), Iv (0 : Int32), Iv (3 : Int32), Iv (3 : Int32), Us, Us] [])) tt_
              refine XS.iload X_194.here hEX rfl (hb hBY at_240) rfl ?_
              show Steps p.tables e below (T_194.setTop (mkF m 242 #[Iv p1, Iv p2, Iv (3 : Int32), Iv ee0, Iv ee1, Iv ee2, Rv b_135, Iv (1 : Int32), Iv (0 : Int32), Iv (3 : Int32), Iv (3 : Int32), Us, Us] [(.int (1 : Int32))])) tt_
              refine XS.ifNo X_194.here hEX rfl (hb hBY at_242) rfl ((if0 _ _).trans (feq (by decide : ¬ ((1 : Int32) = (0 : Int32)))).1) ?_
              show Steps p.tables e below (T_194.setTop (mkF m 245 #[Iv p1, Iv p2, Iv (3 : Int32), Iv ee0, Iv ee1, Iv ee2, Rv b_135, Iv (1 : Int32), Iv (0 : Int32), Iv (3 : Int32), Iv (3 : Int32), Us, Us] [])) tt_
              refine XS.iload X_194.here hEX rfl (hb hBY at_245) rfl ?_
              show Steps p.tables e below (T_194.setTop (mkF m 247 #[Iv p1, Iv p2, Iv (3 : Int32), Iv ee0, Iv ee1, Iv ee2, Rv b_135, Iv (1 : Int32), Iv (0 : Int32), Iv (3 : Int32), Iv (3 : Int32), Us, Us] [(.int (3 : Int32))])) tt_
              refine XS.iload X_194.here hEX rfl (hb hBY at_247) rfl ?_
              show Steps p.tables e below (T_194.setTop (mkF m 249 #[Iv p1, Iv p2, Iv (3 : Int32), Iv ee0, Iv ee1, Iv ee2, Rv b_135, Iv (1 : Int32), Iv (0 : Int32), Iv (3 : Int32), Iv (3 : Int32), Us, Us] [(.int (3 : Int32)), (.int (3 : Int32))])) tt_
              refine XS.icmpNo X_194.here hEX rfl (hb hBY at_249) rfl (teq (by decide : (3 : Int32) = (3 : Int32))).2 ?_
              show Steps p.tables e below (T_194.setTop (mkF m 252 #[Iv p1, Iv p2, Iv (3 : Int32), Iv ee0, Iv ee1, Iv ee2, Rv b_135, Iv (1 : Int32), Iv (0 : Int32), Iv (3 : Int32), Iv (3 : Int32), Us, Us] [])) tt_
              refine XS.iconst X_194.here hEX rfl (hb hBY at_252) ?_
              show Steps p.tables e below (T_194.setTop (mkF m 253 #[Iv p1, Iv p2, Iv (3 : Int32), Iv ee0, Iv ee1, Iv ee2, Rv b_135, Iv (1 : Int32), Iv (0 : Int32), Iv (3 : Int32), Iv (3 : Int32), Us, Us] [(.int (1 : Int32))])) tt_
              refine XS.goto X_194.here hEX rfl (pc0 := 253) (pc' := 257) rfl (hb hBY at_253) (by decide) (by decide) ?_
              show Steps p.tables e below (T_194.setTop (mkF m 257 #[Iv p1, Iv p2, Iv (3 : Int32), Iv ee0, Iv ee1, Iv ee2, Rv b_135, Iv (1 : Int32), Iv (0 : Int32), Iv (3 : Int32), Iv (3 : Int32), Us, Us] [(.int (1 : Int32))])) tt_
              refine XS.istore X_194.here hEX rfl (hb hBY at_257) rfl (l' := #[Iv p1, Iv p2, Iv (3 : Int32), Iv ee0, Iv ee1, Iv ee2, Rv b_135, Iv (1 : Int32), Iv (0 : Int32), Iv (3 : Int32), Iv (3 : Int32), Us, Us]) rfl ?_
              show Steps p.tables e below (T_194.setTop (mkF m 259 #[Iv p1, Iv p2, Iv (3 : Int32), Iv ee0, Iv ee1, Iv ee2, Rv b_135, Iv (1 : Int32), Iv (0 : Int32), Iv (3 : Int32), Iv (3 : Int32), Us, Us] [])) tt_
              refine XS.aload X_194.here hEX rfl (hb hBY at_259) rfl rfl ?_
              show Steps p.tables e below (T_194.setTop (mkF m 261 #[Iv p1, Iv p2, Iv (3 : Int32), Iv ee0, Iv ee1, Iv ee2, Rv b_135, Iv (1 : Int32), Iv (0 : Int32), Iv (3 : Int32), Iv (3 : Int32), Us, Us] [(.ref b_135)])) tt_
              refine XS.aconstNull X_194.here hEX rfl (hb hBY at_261) ?_
              exact kt_
            refine Done.pre sg_195 ?_
            obtain ⟨cq_196, kq_196, q_196a, q_196b, q_196c⟩ := isOf hZW e_194 hq_188_0
            obtain ⟨_, _, ⟨T_196, L_196, k_196, n_196⟩, -, X_196, ⟨Lc_196, hQ_196, l_196, y_196, z_196⟩, st_196⟩ := X_194.virtualBack hEX (y := (⟨"com/example/actorium/actorium/Claimant$Sends", "begin", "(Lcom/example/actorium/actorium/DispatchedCell;)I"⟩ : MethodName)) (z := (⟨"com/example/actorium/actorium/Claimant$Sends", "begin", "(Lcom/example/actorium/actorium/DispatchedCell;)I"⟩ : MethodName)) hOW (mvT hZW (hw _ (List.mem_of_getElem? (i := 14) rfl))) (mvT hZW (hw _ (List.mem_of_getElem? (i := 15) rfl))) (notFace_of_selects (args := #[]) (mvT hZW (hw _ (List.mem_of_getElem? (i := 17) rfl)))) (mvT hZW (hw _ (List.mem_of_getElem? (i := 17) rfl))) (mvT hZW (hw _ (List.mem_of_getElem? (i := 16) rfl))) (by decide) (backOf (W := 0) (rm_begin l Z aZ hw [] b_135 (3 : Int32) b__141 k__141 T_188.heap n0 (Nat.le_trans Z0 K__189.1) hq_188_0 f_191 hq_188_2 hq_188_3 ge_b_135 (Nat.le_trans Z0 sz_b__141) ne_b_135_b__141 (by decide)) hZW (hw _ (List.mem_of_getElem? (i := 18) rfl)) (hw _ (List.mem_of_getElem? (i := 3) rfl)) (by decide) (by decide)) q_196a q_196c (g := (mkF m 262 #[Iv p1, Iv p2, Iv (3 : Int32), Iv ee0, Iv ee1, Iv ee2, Rv b_135, Iv (1 : Int32), Iv (0 : Int32), Iv (3 : Int32), Iv (3 : Int32), Us, Us] [.null, (.ref b_135)])) rfl (by rw [hMX]; rfl) (Steps.refl _) (argsL := [.null]) (rest := []) (lenOf pd__Lcom_example_actorium_actorium_DispatchedCell__I_3 rfl) rfl (by show 2 * 0 + _ ≤ _; exact Nat.le_of_eq rfl) (hb hBY at_262) (fun _ _ => ⟨rfl, e_194, (by decide : 2 + 0 ≤ _), (by decide : 10 + 0 ≤ _)⟩)
            dsimp only [Pt.U, Pt.locs, Pt.cells, Pt.slots] at X_196 l_196 y_196 z_196 st_196 hQ_196
            subst l_196 y_196 z_196
            obtain ⟨rfl, N_196q, K_196, hq_196_0, hq_196_1, hq_196_2, hq_196_3⟩ := hQ_196
            have N_196 := Fr.app N_194 N_196q
            have K__197 : Keep h0 T_196.heap [] := K__189.trans K_196 (allS (Or.inr sz_b_135) (allS (Or.inr sz_b__141) all0))
            have f_198 : Exa Z T_196.heap b_135 "com/example/actorium/actorium/Claimant$Sends" := hq_188_0.keep K_196
            refine Done.pre (fun _ k_ => st_196.trans k_) ?_
            show Done _ _ _ _ _ _ _ (T_196.setTop (mkF m 265 #[Iv p1, Iv p2, Iv (3 : Int32), Iv ee0, Iv ee1, Iv ee2, Rv b_135, Iv (1 : Int32), Iv (0 : Int32), Iv (3 : Int32), Iv (3 : Int32), Us, Us] [(.int (3 : Int32))]))
            have f_199 : Fld Z T_196.heap b_135 "com/example/actorium/actorium/Claimant$Sends" "top" "I" (.int (4 : Int32)) := by have q := hq_196_1; rw [show ((3 : Int32) + (1 : Int32)) = (4 : Int32) from by decide] at q; exact q
            have sg_200 : ∀ tt_, Steps p.tables e below (T_196.setTop (mkF m 269 #[Iv p1, Iv p2, Iv (3 : Int32), Iv ee0, Iv ee1, Iv ee2, Rv b_135, Iv (1 : Int32), Iv (0 : Int32), Iv (3 : Int32), Iv (3 : Int32), Iv (3 : Int32), Us] [(.ref b_135)])) tt_ → Steps p.tables e below (T_196.setTop (mkF m 265 #[Iv p1, Iv p2, Iv (3 : Int32), Iv ee0, Iv ee1, Iv ee2, Rv b_135, Iv (1 : Int32), Iv (0 : Int32), Iv (3 : Int32), Iv (3 : Int32), Us, Us] [(.int (3 : Int32))])) tt_ := by
              intro tt_ kt_
              refine XS.istore X_196.here hEX rfl (hb hBY at_265) rfl (l' := #[Iv p1, Iv p2, Iv (3 : Int32), Iv ee0, Iv ee1, Iv ee2, Rv b_135, Iv (1 : Int32), Iv (0 : Int32), Iv (3 : Int32), Iv (3 : Int32), Iv (3 : Int32), Us]) rfl ?_
              show Steps p.tables e below (T_196.setTop (mkF m 267 #[Iv p1, Iv p2, Iv (3 : Int32), Iv ee0, Iv ee1, Iv ee2, Rv b_135, Iv (1 : Int32), Iv (0 : Int32), Iv (3 : Int32), Iv (3 : Int32), Iv (3 : Int32), Us] [])) tt_
              refine XS.aload X_196.here hEX rfl (hb hBY at_267) rfl rfl ?_
              exact kt_
            refine Done.pre sg_200 ?_
            obtain ⟨cq_201, kq_201, q_201a, q_201b, q_201c⟩ := isOf hZW rfl hq_196_0
            obtain ⟨_, _, ⟨T_201, L_201, k_201, n_201⟩, -, X_201, ⟨Lc_201, hQ_201, l_201, y_201, z_201⟩, st_201⟩ := X_196.virtualBack hEX (y := (⟨"com/example/actorium/actorium/Claimant$Sends", "depth", "()I"⟩ : MethodName)) (z := (⟨"com/example/actorium/actorium/Claimant$Sends", "depth", "()I"⟩ : MethodName)) hOW (mvT hZW (hw _ (List.mem_of_getElem? (i := 21) rfl))) (mvT hZW (hw _ (List.mem_of_getElem? (i := 22) rfl))) (notFace_of_selects (args := #[]) (mvT hZW (hw _ (List.mem_of_getElem? (i := 24) rfl)))) (mvT hZW (hw _ (List.mem_of_getElem? (i := 24) rfl))) (mvT hZW (hw _ (List.mem_of_getElem? (i := 23) rfl))) (by decide) (backOf (W := 0) (rm_depth l Z aZ hw [] b_135 (4 : Int32) T_196.heap n0 (Nat.le_trans Z0 K__197.1) f_199) hZW (hw _ (List.mem_of_getElem? (i := 25) rfl)) (hw _ (List.mem_of_getElem? (i := 3) rfl)) (by decide) (by decide)) q_201a q_201c (g := (mkF m 269 #[Iv p1, Iv p2, Iv (3 : Int32), Iv ee0, Iv ee1, Iv ee2, Rv b_135, Iv (1 : Int32), Iv (0 : Int32), Iv (3 : Int32), Iv (3 : Int32), Iv (3 : Int32), Us] [(.ref b_135)])) rfl (by rw [hMX]; rfl) (Steps.refl _) (argsL := []) (rest := []) (lenOf pd___I_0 rfl) rfl (by show 2 * 0 + _ ≤ _; exact Nat.le_of_eq rfl) (hb hBY at_269) (fun _ _ => ⟨rfl, rfl, (by decide : 2 + 0 ≤ _), (by decide : 10 + 0 ≤ _)⟩)
            dsimp only [Pt.U, Pt.locs, Pt.cells, Pt.slots] at X_201 l_201 y_201 z_201 st_201 hQ_201
            subst l_201 y_201 z_201
            obtain ⟨rfl, N_201q, e_201⟩ := hQ_201
            have N_201 := Fr.app N_196 N_201q
            refine Done.pre (fun _ k_ => st_201.trans k_) ?_
            show Done _ _ _ _ _ _ _ (T_201.setTop (mkF m 272 #[Iv p1, Iv p2, Iv (3 : Int32), Iv ee0, Iv ee1, Iv ee2, Rv b_135, Iv (1 : Int32), Iv (0 : Int32), Iv (3 : Int32), Iv (3 : Int32), Iv (3 : Int32), Us] [(.int (4 : Int32))]))
            have sg_202 : ∀ tt_, Steps p.tables e below (T_201.setTop (mkF m 304 #[Iv p1, Iv p2, Iv (3 : Int32), Iv ee0, Iv ee1, Iv ee2, Rv b_135, Iv (1 : Int32), Iv (0 : Int32), Iv (3 : Int32), Iv (3 : Int32), Iv (3 : Int32), Iv (4 : Int32)] [(.int (1 : Int32))])) tt_ → Steps p.tables e below (T_201.setTop (mkF m 272 #[Iv p1, Iv p2, Iv (3 : Int32), Iv ee0, Iv ee1, Iv ee2, Rv b_135, Iv (1 : Int32), Iv (0 : Int32), Iv (3 : Int32), Iv (3 : Int32), Iv (3 : Int32), Us] [(.int (4 : Int32))])) tt_ := by
              intro tt_ kt_
              refine XS.istore X_201.here hEX rfl (hb hBY at_272) rfl (l' := #[Iv p1, Iv p2, Iv (3 : Int32), Iv ee0, Iv ee1, Iv ee2, Rv b_135, Iv (1 : Int32), Iv (0 : Int32), Iv (3 : Int32), Iv (3 : Int32), Iv (3 : Int32), Iv (4 : Int32)]) rfl ?_
              show Steps p.tables e below (T_201.setTop (mkF m 274 #[Iv p1, Iv p2, Iv (3 : Int32), Iv ee0, Iv ee1, Iv ee2, Rv b_135, Iv (1 : Int32), Iv (0 : Int32), Iv (3 : Int32), Iv (3 : Int32), Iv (3 : Int32), Iv (4 : Int32)] [])) tt_
              refine XS.iload X_201.here hEX rfl (hb hBY at_274) rfl ?_
              show Steps p.tables e below (T_201.setTop (mkF m 276 #[Iv p1, Iv p2, Iv (3 : Int32), Iv ee0, Iv ee1, Iv ee2, Rv b_135, Iv (1 : Int32), Iv (0 : Int32), Iv (3 : Int32), Iv (3 : Int32), Iv (3 : Int32), Iv (4 : Int32)] [(.int (1 : Int32))])) tt_
              refine XS.ifNo X_201.here hEX rfl (hb hBY at_276) rfl ((if0 _ _).trans (feq (by decide : ¬ ((1 : Int32) = (0 : Int32)))).1) ?_
              show Steps p.tables e below (T_201.setTop (mkF m 279 #[Iv p1, Iv p2, Iv (3 : Int32), Iv ee0, Iv ee1, Iv ee2, Rv b_135, Iv (1 : Int32), Iv (0 : Int32), Iv (3 : Int32), Iv (3 : Int32), Iv (3 : Int32), Iv (4 : Int32)] [])) tt_
              refine XS.iload X_201.here hEX rfl (hb hBY at_279) rfl ?_
              show Steps p.tables e below (T_201.setTop (mkF m 281 #[Iv p1, Iv p2, Iv (3 : Int32), Iv ee0, Iv ee1, Iv ee2, Rv b_135, Iv (1 : Int32), Iv (0 : Int32), Iv (3 : Int32), Iv (3 : Int32), Iv (3 : Int32), Iv (4 : Int32)] [(.int (3 : Int32))])) tt_
              refine XS.iload X_201.here hEX rfl (hb hBY at_281) rfl ?_
              show Steps p.tables e below (T_201.setTop (mkF m 283 #[Iv p1, Iv p2, Iv (3 : Int32), Iv ee0, Iv ee1, Iv ee2, Rv b_135, Iv (1 : Int32), Iv (0 : Int32), Iv (3 : Int32), Iv (3 : Int32), Iv (3 : Int32), Iv (4 : Int32)] [(.int (3 : Int32)), (.int (3 : Int32))])) tt_
              refine XS.icmpNo X_201.here hEX rfl (hb hBY at_283) rfl (teq (by decide : (3 : Int32) = (3 : Int32))).2 ?_
              show Steps p.tables e below (T_201.setTop (mkF m 286 #[Iv p1, Iv p2, Iv (3 : Int32), Iv ee0, Iv ee1, Iv ee2, Rv b_135, Iv (1 : Int32), Iv (0 : Int32), Iv (3 : Int32), Iv (3 : Int32), Iv (3 : Int32), Iv (4 : Int32)] [])) tt_
              refine XS.iload X_201.here hEX rfl (hb hBY at_286) rfl ?_
              show Steps p.tables e below (T_201.setTop (mkF m 288 #[Iv p1, Iv p2, Iv (3 : Int32), Iv ee0, Iv ee1, Iv ee2, Rv b_135, Iv (1 : Int32), Iv (0 : Int32), Iv (3 : Int32), Iv (3 : Int32), Iv (3 : Int32), Iv (4 : Int32)] [(.int (4 : Int32))])) tt_
              refine XS.iload X_201.here hEX rfl (hb hBY at_288) rfl ?_
              show Steps p.tables e below (T_201.setTop (mkF m 290 #[Iv p1, Iv p2, Iv (3 : Int32), Iv ee0, Iv ee1, Iv ee2, Rv b_135, Iv (1 : Int32), Iv (0 : Int32), Iv (3 : Int32), Iv (3 : Int32), Iv (3 : Int32), Iv (4 : Int32)] [(.int (3 : Int32)), (.int (4 : Int32))])) tt_
              refine XS.iconst X_201.here hEX rfl (hb hBY at_290) ?_
              show Steps p.tables e below (T_201.setTop (mkF m 291 #[Iv p1, Iv p2, Iv (3 : Int32), Iv ee0, Iv ee1, Iv ee2, Rv b_135, Iv (1 : Int32), Iv (0 : Int32), Iv (3 : Int32), Iv (3 : Int32), Iv (3 : Int32), Iv (4 : Int32)] [(.int (1 : Int32)), (.int (3 : Int32)), (.int (4 : Int32))])) tt_
              refine XS.iadd X_201.here hEX rfl (hb hBY at_291) rfl ?_
              show Steps p.tables e below (T_201.setTop (mkF m 292 #[Iv p1, Iv p2, Iv (3 : Int32), Iv ee0, Iv ee1, Iv ee2, Rv b_135, Iv (1 : Int32), Iv (0 : Int32), Iv (3 : Int32), Iv (3 : Int32), Iv (3 : Int32), Iv (4 : Int32)] [(.int (4 : Int32)), (.int (4 : Int32))])) tt_
              refine XS.icmpNo X_201.here hEX rfl (hb hBY at_292) rfl (teq (by decide : (4 : Int32) = (4 : Int32))).2 ?_
              show Steps p.tables e below (T_201.setTop (mkF m 295 #[Iv p1, Iv p2, Iv (3 : Int32), Iv ee0, Iv ee1, Iv ee2, Rv b_135, Iv (1 : Int32), Iv (0 : Int32), Iv (3 : Int32), Iv (3 : Int32), Iv (3 : Int32), Iv (4 : Int32)] [])) tt_
              refine XS.iconst X_201.here hEX rfl (hb hBY at_295) ?_
              show Steps p.tables e below (T_201.setTop (mkF m 296 #[Iv p1, Iv p2, Iv (3 : Int32), Iv ee0, Iv ee1, Iv ee2, Rv b_135, Iv (1 : Int32), Iv (0 : Int32), Iv (3 : Int32), Iv (3 : Int32), Iv (3 : Int32), Iv (4 : Int32)] [(.int (1 : Int32))])) tt_
              refine XS.goto X_201.here hEX rfl (pc0 := 296) (pc' := 300) rfl (hb hBY at_296) (by decide) (by decide) ?_
              show Steps p.tables e below (T_201.setTop (mkF m 300 #[Iv p1, Iv p2, Iv (3 : Int32), Iv ee0, Iv ee1, Iv ee2, Rv b_135, Iv (1 : Int32), Iv (0 : Int32), Iv (3 : Int32), Iv (3 : Int32), Iv (3 : Int32), Iv (4 : Int32)] [(.int (1 : Int32))])) tt_
              refine XS.istore X_201.here hEX rfl (hb hBY at_300) rfl (l' := #[Iv p1, Iv p2, Iv (3 : Int32), Iv ee0, Iv ee1, Iv ee2, Rv b_135, Iv (1 : Int32), Iv (0 : Int32), Iv (3 : Int32), Iv (3 : Int32), Iv (3 : Int32), Iv (4 : Int32)]) rfl ?_
              show Steps p.tables e below (T_201.setTop (mkF m 302 #[Iv p1, Iv p2, Iv (3 : Int32), Iv ee0, Iv ee1, Iv ee2, Rv b_135, Iv (1 : Int32), Iv (0 : Int32), Iv (3 : Int32), Iv (3 : Int32), Iv (3 : Int32), Iv (4 : Int32)] [])) tt_
              refine XS.iload X_201.here hEX rfl (hb hBY at_302) rfl ?_
              exact kt_
            refine Done.pre sg_202 ?_
            exact Done.retN X_201 hEX hLK (t := .boolean) hRT (by simp) (hb hBY at_304) (by rw [e_201]; exact ⟨rfl, N_201, K__197⟩) (by decide) (by decide)
          · skip
            have sg_203 : ∀ tt_, Steps p.tables e below (T_188.setTop (mkF m 185 #[Iv p1, Iv p2, Iv (3 : Int32), Iv ee0, Iv ee1, Iv ee2, Rv b_135, Iv (1 : Int32), Iv (0 : Int32), Iv (2 : Int32), Us, Us, Us] [(.int (0 : Int32)), (.ref b_135)])) tt_ → Steps p.tables e below (T_188.setTop (mkF m 179 #[Iv p1, Iv p2, Iv (3 : Int32), Iv ee0, Iv ee1, Iv ee2, Rv b_135, Iv (1 : Int32), Iv (0 : Int32), Iv (2 : Int32), Us, Us, Us] [(.int ee0)])) tt_ := by
              intro tt_ kt_
              refine XS.ifNo X_188.here hEX rfl (hb hBY at_179) rfl ((if0 _ _).trans (feq hc179).1) ?_
              show Steps p.tables e below (T_188.setTop (mkF m 182 #[Iv p1, Iv p2, Iv (3 : Int32), Iv ee0, Iv ee1, Iv ee2, Rv b_135, Iv (1 : Int32), Iv (0 : Int32), Iv (2 : Int32), Us, Us, Us] [])) tt_
              refine XS.aload X_188.here hEX rfl (hb hBY at_182) rfl rfl ?_
              show Steps p.tables e below (T_188.setTop (mkF m 184 #[Iv p1, Iv p2, Iv (3 : Int32), Iv ee0, Iv ee1, Iv ee2, Rv b_135, Iv (1 : Int32), Iv (0 : Int32), Iv (2 : Int32), Us, Us, Us] [(.ref b_135)])) tt_
              refine XS.iconst X_188.here hEX rfl (hb hBY at_184) ?_
              exact kt_
            refine Done.pre sg_203 ?_
            obtain ⟨cq_204, kq_204, q_204a, q_204b, q_204c⟩ := isOf hZW rfl hq_188_0
            obtain ⟨_, _, ⟨T_204, L_204, k_204, n_204⟩, -, X_204, ⟨Lc_204, hQ_204, l_204, y_204, z_204⟩, st_204⟩ := X_188.virtualBack hEX (y := (⟨"com/example/actorium/actorium/Claimant$Sends", "end", "(I)V"⟩ : MethodName)) (z := (⟨"com/example/actorium/actorium/Claimant$Sends", "end", "(I)V"⟩ : MethodName)) hOW (mvT hZW (hw _ (List.mem_of_getElem? (i := 26) rfl))) (mvT hZW (hw _ (List.mem_of_getElem? (i := 27) rfl))) (notFace_of_selects (args := #[]) (mvT hZW (hw _ (List.mem_of_getElem? (i := 29) rfl)))) (mvT hZW (hw _ (List.mem_of_getElem? (i := 29) rfl))) (mvT hZW (hw _ (List.mem_of_getElem? (i := 28) rfl))) (by decide) (backOf (W := 0) (rm_end l Z aZ hw [] b_135 (0 : Int32) (3 : Int32) b__141 k__141 T_188.heap n0 (Nat.le_trans Z0 K__189.1) hq_188_0 f_191 hq_188_2 hq_188_3 ge_b_135 (Nat.le_trans Z0 sz_b__141) ne_b_135_b__141 (by decide)) hZW (hw _ (List.mem_of_getElem? (i := 30) rfl)) (hw _ (List.mem_of_getElem? (i := 3) rfl)) (by decide) (by decide)) q_204a q_204c (g := (mkF m 185 #[Iv p1, Iv p2, Iv (3 : Int32), Iv ee0, Iv ee1, Iv ee2, Rv b_135, Iv (1 : Int32), Iv (0 : Int32), Iv (2 : Int32), Us, Us, Us] [(.int (0 : Int32)), (.ref b_135)])) rfl (by rw [hMX]; rfl) (Steps.refl _) (argsL := [(.int (0 : Int32))]) (rest := []) (lenOf pd__I_V_2 rfl) rfl (by show 2 * 0 + _ ≤ _; exact Nat.le_of_eq rfl) (hb hBY at_185) (fun _ _ => ⟨rfl, rfl, (by decide : 2 + 0 ≤ _), (by decide : 10 + 0 ≤ _)⟩)
            dsimp only [Pt.U, Pt.locs, Pt.cells, Pt.slots] at X_204 l_204 y_204 z_204 st_204 hQ_204
            subst l_204 y_204 z_204
            obtain ⟨rfl, N_204q, K_204, hq_204_0, hq_204_1, hq_204_2, hq_204_3⟩ := hQ_204
            have N_204 := Fr.app N_188 N_204q
            have K__205 : Keep h0 T_204.heap [] := K__189.trans K_204 (allS (Or.inr sz_b_135) (allS (Or.inr sz_b__141) all0))
            have f_206 : Exa Z T_204.heap b_135 "com/example/actorium/actorium/Claimant$Sends" := hq_188_0.keep K_204
            refine Done.pre (fun _ k_ => st_204.trans k_) ?_
            show Done _ _ _ _ _ _ _ (T_204.setTop (mkF m 188 #[Iv p1, Iv p2, Iv (3 : Int32), Iv ee0, Iv ee1, Iv ee2, Rv b_135, Iv (1 : Int32), Iv (0 : Int32), Iv (2 : Int32), Us, Us, Us] []))
            have f_207 : Fld Z T_204.heap b_135 "com/example/actorium/actorium/Claimant$Sends" "top" "I" (.int (3 : Int32)) := by have q := hq_204_1; rw [show (own_end (3 : Int32) (0 : Int32)) = (3 : Int32) from by decide] at q; exact q
            have sg_208 : ∀ tt_, Steps p.tables e below (T_204.setTop (mkF m 235 #[Iv p1, Iv p2, Iv (3 : Int32), Iv ee0, Iv ee1, Iv ee2, Rv b_135, Iv (1 : Int32), Iv (0 : Int32), Iv (3 : Int32), Us, Us, Us] [(.ref b_135)])) tt_ → Steps p.tables e below (T_204.setTop (mkF m 188 #[Iv p1, Iv p2, Iv (3 : Int32), Iv ee0, Iv ee1, Iv ee2, Rv b_135, Iv (1 : Int32), Iv (0 : Int32), Iv (2 : Int32), Us, Us, Us] [])) tt_ := by
              intro tt_ kt_
              refine XS.iloadN X_204.here hEX rfl (hb hBY at_188) rfl ?_
              show Steps p.tables e below (T_204.setTop (mkF m 189 #[Iv p1, Iv p2, Iv (3 : Int32), Iv ee0, Iv ee1, Iv ee2, Rv b_135, Iv (1 : Int32), Iv (0 : Int32), Iv (2 : Int32), Us, Us, Us] [(.int (3 : Int32))])) tt_
              refine XS.iconst X_204.here hEX rfl (hb hBY at_189) ?_
              show Steps p.tables e below (T_204.setTop (mkF m 190 #[Iv p1, Iv p2, Iv (3 : Int32), Iv ee0, Iv ee1, Iv ee2, Rv b_135, Iv (1 : Int32), Iv (0 : Int32), Iv (2 : Int32), Us, Us, Us] [(.int (3 : Int32)), (.int (3 : Int32))])) tt_
              refine XS.icmpNo X_204.here hEX rfl (hb hBY at_190) rfl (flt (by decide : ¬ ((3 : Int32) < (3 : Int32)))).1 ?_
              show Steps p.tables e below (T_204.setTop (mkF m 193 #[Iv p1, Iv p2, Iv (3 : Int32), Iv ee0, Iv ee1, Iv ee2, Rv b_135, Iv (1 : Int32), Iv (0 : Int32), Iv (2 : Int32), Us, Us, Us] [])) tt_
              refine XS.iload X_204.here hEX rfl (hb hBY at_193) rfl ?_
              show Steps p.tables e below (T_204.setTop (mkF m 195 #[Iv p1, Iv p2, Iv (3 : Int32), Iv ee0, Iv ee1, Iv ee2, Rv b_135, Iv (1 : Int32), Iv (0 : Int32), Iv (2 : Int32), Us, Us, Us] [(.int ee2)])) tt_
              refine XS.ifNo X_204.here hEX rfl (hb hBY at_195) rfl ((if0 _ _).trans (teq hc158).2) ?_
              show Steps p.tables e below (T_204.setTop (mkF m 198 #[Iv p1, Iv p2, Iv (3 : Int32), Iv ee0, Iv ee1, Iv ee2, Rv b_135, Iv (1 : Int32), Iv (0 : Int32), Iv (2 : Int32), Us, Us, Us] [])) tt_
              refine XS.iconst X_204.here hEX rfl (hb hBY at_198) ?_
              show Steps p.tables e below (T_204.setTop (mkF m 199 #[Iv p1, Iv p2, Iv (3 : Int32), Iv ee0, Iv ee1, Iv ee2, Rv b_135, Iv (1 : Int32), Iv (0 : Int32), Iv (2 : Int32), Us, Us, Us] [(.int (3 : Int32))])) tt_
              refine XS.istore X_204.here hEX rfl (hb hBY at_199) rfl (l' := #[Iv p1, Iv p2, Iv (3 : Int32), Iv ee0, Iv ee1, Iv ee2, Rv b_135, Iv (1 : Int32), Iv (0 : Int32), Iv (3 : Int32), Us, Us, Us]) rfl ?_
              show Steps p.tables e below (T_204.setTop (mkF m 201 #[Iv p1, Iv p2, Iv (3 : Int32), Iv ee0, Iv ee1, Iv ee2, Rv b_135, Iv (1 : Int32), Iv (0 : Int32), Iv (3 : Int32), Us, Us, Us] [])) tt_
              refine XS.goto X_204.here hEX rfl (pc0 := 201) (pc' := 233) rfl (hb hBY at_201) (by decide) (by decide) ?_
              show Steps p.tables e below (T_204.setTop (mkF m 233 #[Iv p1, Iv p2, Iv (3 : Int32), Iv ee0, Iv ee1, Iv ee2, Rv b_135, Iv (1 : Int32), Iv (0 : Int32), Iv (3 : Int32), Us, Us, Us] [])) tt_
              refine XS.aload X_204.here hEX rfl (hb hBY at_233) rfl rfl ?_
              exact kt_
            refine Done.pre sg_208 ?_
            obtain ⟨cq_209, kq_209, q_209a, q_209b, q_209c⟩ := isOf hZW rfl hq_204_0
            obtain ⟨_, _, ⟨T_209, L_209, k_209, n_209⟩, -, X_209, ⟨Lc_209, hQ_209, l_209, y_209, z_209⟩, st_209⟩ := X_204.virtualBack hEX (y := (⟨"com/example/actorium/actorium/Claimant$Sends", "depth", "()I"⟩ : MethodName)) (z := (⟨"com/example/actorium/actorium/Claimant$Sends", "depth", "()I"⟩ : MethodName)) hOW (mvT hZW (hw _ (List.mem_of_getElem? (i := 21) rfl))) (mvT hZW (hw _ (List.mem_of_getElem? (i := 22) rfl))) (notFace_of_selects (args := #[]) (mvT hZW (hw _ (List.mem_of_getElem? (i := 24) rfl)))) (mvT hZW (hw _ (List.mem_of_getElem? (i := 24) rfl))) (mvT hZW (hw _ (List.mem_of_getElem? (i := 23) rfl))) (by decide) (backOf (W := 0) (rm_depth l Z aZ hw [] b_135 (3 : Int32) T_204.heap n0 (Nat.le_trans Z0 K__205.1) f_207) hZW (hw _ (List.mem_of_getElem? (i := 25) rfl)) (hw _ (List.mem_of_getElem? (i := 3) rfl)) (by decide) (by decide)) q_209a q_209c (g := (mkF m 235 #[Iv p1, Iv p2, Iv (3 : Int32), Iv ee0, Iv ee1, Iv ee2, Rv b_135, Iv (1 : Int32), Iv (0 : Int32), Iv (3 : Int32), Us, Us, Us] [(.ref b_135)])) rfl (by rw [hMX]; rfl) (Steps.refl _) (argsL := []) (rest := []) (lenOf pd___I_0 rfl) rfl (by show 2 * 0 + _ ≤ _; exact Nat.le_of_eq rfl) (hb hBY at_235) (fun _ _ => ⟨rfl, rfl, (by decide : 2 + 0 ≤ _), (by decide : 10 + 0 ≤ _)⟩)
            dsimp only [Pt.U, Pt.locs, Pt.cells, Pt.slots] at X_209 l_209 y_209 z_209 st_209 hQ_209
            subst l_209 y_209 z_209
            obtain ⟨rfl, N_209q, e_209⟩ := hQ_209
            have N_209 := Fr.app N_204 N_209q
            refine Done.pre (fun _ k_ => st_209.trans k_) ?_
            show Done _ _ _ _ _ _ _ (T_209.setTop (mkF m 238 #[Iv p1, Iv p2, Iv (3 : Int32), Iv ee0, Iv ee1, Iv ee2, Rv b_135, Iv (1 : Int32), Iv (0 : Int32), Iv (3 : Int32), Us, Us, Us] [(.int (3 : Int32))]))
            have sg_210 : ∀ tt_, Steps p.tables e below (T_209.setTop (mkF m 262 #[Iv p1, Iv p2, Iv (3 : Int32), Iv ee0, Iv ee1, Iv ee2, Rv b_135, Iv (1 : Int32), Iv (0 : Int32), Iv (3 : Int32), Iv (3 : Int32), Us, Us] [.null, (.ref b_135)])) tt_ → Steps p.tables e below (T_209.setTop (mkF m 238 #[Iv p1, Iv p2, Iv (3 : Int32), Iv ee0, Iv ee1, Iv ee2, Rv b_135, Iv (1 : Int32), Iv (0 : Int32), Iv (3 : Int32), Us, Us, Us] [(.int (3 : Int32))])) tt_ := by
              intro tt_ kt_
              refine XS.istore X_209.here hEX rfl (hb hBY at_238) rfl (l' := #[Iv p1, Iv p2, Iv (3 : Int32), Iv ee0, Iv ee1, Iv ee2, Rv b_135, Iv (1 : Int32), Iv (0 : Int32), Iv (3 : Int32), Iv (3 : Int32), Us, Us]) rfl ?_
              show Steps p.tables e below (T_209.setTop (mkF m 240 #[Iv p1, Iv p2, Iv (3 : Int32), Iv ee0, Iv ee1, Iv ee2, Rv b_135, Iv (1 : Int32), Iv (0 : Int32), Iv (3 : Int32), Iv (3 : Int32), Us, Us] [])) tt_
              refine XS.iload X_209.here hEX rfl (hb hBY at_240) rfl ?_
              show Steps p.tables e below (T_209.setTop (mkF m 242 #[Iv p1, Iv p2, Iv (3 : Int32), Iv ee0, Iv ee1, Iv ee2, Rv b_135, Iv (1 : Int32), Iv (0 : Int32), Iv (3 : Int32), Iv (3 : Int32), Us, Us] [(.int (1 : Int32))])) tt_
              refine XS.ifNo X_209.here hEX rfl (hb hBY at_242) rfl ((if0 _ _).trans (feq (by decide : ¬ ((1 : Int32) = (0 : Int32)))).1) ?_
              show Steps p.tables e below (T_209.setTop (mkF m 245 #[Iv p1, Iv p2, Iv (3 : Int32), Iv ee0, Iv ee1, Iv ee2, Rv b_135, Iv (1 : Int32), Iv (0 : Int32), Iv (3 : Int32), Iv (3 : Int32), Us, Us] [])) tt_
              refine XS.iload X_209.here hEX rfl (hb hBY at_245) rfl ?_
              show Steps p.tables e below (T_209.setTop (mkF m 247 #[Iv p1, Iv p2, Iv (3 : Int32), Iv ee0, Iv ee1, Iv ee2, Rv b_135, Iv (1 : Int32), Iv (0 : Int32), Iv (3 : Int32), Iv (3 : Int32), Us, Us] [(.int (3 : Int32))])) tt_
              refine XS.iload X_209.here hEX rfl (hb hBY at_247) rfl ?_
              show Steps p.tables e below (T_209.setTop (mkF m 249 #[Iv p1, Iv p2, Iv (3 : Int32), Iv ee0, Iv ee1, Iv ee2, Rv b_135, Iv (1 : Int32), Iv (0 : Int32), Iv (3 : Int32), Iv (3 : Int32), Us, Us] [(.int (3 : Int32)), (.int (3 : Int32))])) tt_
              refine XS.icmpNo X_209.here hEX rfl (hb hBY at_249) rfl (teq (by decide : (3 : Int32) = (3 : Int32))).2 ?_
              show Steps p.tables e below (T_209.setTop (mkF m 252 #[Iv p1, Iv p2, Iv (3 : Int32), Iv ee0, Iv ee1, Iv ee2, Rv b_135, Iv (1 : Int32), Iv (0 : Int32), Iv (3 : Int32), Iv (3 : Int32), Us, Us] [])) tt_
              refine XS.iconst X_209.here hEX rfl (hb hBY at_252) ?_
              show Steps p.tables e below (T_209.setTop (mkF m 253 #[Iv p1, Iv p2, Iv (3 : Int32), Iv ee0, Iv ee1, Iv ee2, Rv b_135, Iv (1 : Int32), Iv (0 : Int32), Iv (3 : Int32), Iv (3 : Int32), Us, Us] [(.int (1 : Int32))])) tt_
              refine XS.goto X_209.here hEX rfl (pc0 := 253) (pc' := 257) rfl (hb hBY at_253) (by decide) (by decide) ?_
              show Steps p.tables e below (T_209.setTop (mkF m 257 #[Iv p1, Iv p2, Iv (3 : Int32), Iv ee0, Iv ee1, Iv ee2, Rv b_135, Iv (1 : Int32), Iv (0 : Int32), Iv (3 : Int32), Iv (3 : Int32), Us, Us] [(.int (1 : Int32))])) tt_
              refine XS.istore X_209.here hEX rfl (hb hBY at_257) rfl (l' := #[Iv p1, Iv p2, Iv (3 : Int32), Iv ee0, Iv ee1, Iv ee2, Rv b_135, Iv (1 : Int32), Iv (0 : Int32), Iv (3 : Int32), Iv (3 : Int32), Us, Us]) rfl ?_
              show Steps p.tables e below (T_209.setTop (mkF m 259 #[Iv p1, Iv p2, Iv (3 : Int32), Iv ee0, Iv ee1, Iv ee2, Rv b_135, Iv (1 : Int32), Iv (0 : Int32), Iv (3 : Int32), Iv (3 : Int32), Us, Us] [])) tt_
              refine XS.aload X_209.here hEX rfl (hb hBY at_259) rfl rfl ?_
              show Steps p.tables e below (T_209.setTop (mkF m 261 #[Iv p1, Iv p2, Iv (3 : Int32), Iv ee0, Iv ee1, Iv ee2, Rv b_135, Iv (1 : Int32), Iv (0 : Int32), Iv (3 : Int32), Iv (3 : Int32), Us, Us] [(.ref b_135)])) tt_
              refine XS.aconstNull X_209.here hEX rfl (hb hBY at_261) ?_
              exact kt_
            refine Done.pre sg_210 ?_
            obtain ⟨cq_211, kq_211, q_211a, q_211b, q_211c⟩ := isOf hZW e_209 hq_204_0
            obtain ⟨_, _, ⟨T_211, L_211, k_211, n_211⟩, -, X_211, ⟨Lc_211, hQ_211, l_211, y_211, z_211⟩, st_211⟩ := X_209.virtualBack hEX (y := (⟨"com/example/actorium/actorium/Claimant$Sends", "begin", "(Lcom/example/actorium/actorium/DispatchedCell;)I"⟩ : MethodName)) (z := (⟨"com/example/actorium/actorium/Claimant$Sends", "begin", "(Lcom/example/actorium/actorium/DispatchedCell;)I"⟩ : MethodName)) hOW (mvT hZW (hw _ (List.mem_of_getElem? (i := 14) rfl))) (mvT hZW (hw _ (List.mem_of_getElem? (i := 15) rfl))) (notFace_of_selects (args := #[]) (mvT hZW (hw _ (List.mem_of_getElem? (i := 17) rfl)))) (mvT hZW (hw _ (List.mem_of_getElem? (i := 17) rfl))) (mvT hZW (hw _ (List.mem_of_getElem? (i := 16) rfl))) (by decide) (backOf (W := 0) (rm_begin l Z aZ hw [] b_135 (3 : Int32) b__141 k__141 T_204.heap n0 (Nat.le_trans Z0 K__205.1) hq_204_0 f_207 hq_204_2 hq_204_3 ge_b_135 (Nat.le_trans Z0 sz_b__141) ne_b_135_b__141 (by decide)) hZW (hw _ (List.mem_of_getElem? (i := 18) rfl)) (hw _ (List.mem_of_getElem? (i := 3) rfl)) (by decide) (by decide)) q_211a q_211c (g := (mkF m 262 #[Iv p1, Iv p2, Iv (3 : Int32), Iv ee0, Iv ee1, Iv ee2, Rv b_135, Iv (1 : Int32), Iv (0 : Int32), Iv (3 : Int32), Iv (3 : Int32), Us, Us] [.null, (.ref b_135)])) rfl (by rw [hMX]; rfl) (Steps.refl _) (argsL := [.null]) (rest := []) (lenOf pd__Lcom_example_actorium_actorium_DispatchedCell__I_3 rfl) rfl (by show 2 * 0 + _ ≤ _; exact Nat.le_of_eq rfl) (hb hBY at_262) (fun _ _ => ⟨rfl, e_209, (by decide : 2 + 0 ≤ _), (by decide : 10 + 0 ≤ _)⟩)
            dsimp only [Pt.U, Pt.locs, Pt.cells, Pt.slots] at X_211 l_211 y_211 z_211 st_211 hQ_211
            subst l_211 y_211 z_211
            obtain ⟨rfl, N_211q, K_211, hq_211_0, hq_211_1, hq_211_2, hq_211_3⟩ := hQ_211
            have N_211 := Fr.app N_209 N_211q
            have K__212 : Keep h0 T_211.heap [] := K__205.trans K_211 (allS (Or.inr sz_b_135) (allS (Or.inr sz_b__141) all0))
            have f_213 : Exa Z T_211.heap b_135 "com/example/actorium/actorium/Claimant$Sends" := hq_204_0.keep K_211
            refine Done.pre (fun _ k_ => st_211.trans k_) ?_
            show Done _ _ _ _ _ _ _ (T_211.setTop (mkF m 265 #[Iv p1, Iv p2, Iv (3 : Int32), Iv ee0, Iv ee1, Iv ee2, Rv b_135, Iv (1 : Int32), Iv (0 : Int32), Iv (3 : Int32), Iv (3 : Int32), Us, Us] [(.int (3 : Int32))]))
            have f_214 : Fld Z T_211.heap b_135 "com/example/actorium/actorium/Claimant$Sends" "top" "I" (.int (4 : Int32)) := by have q := hq_211_1; rw [show ((3 : Int32) + (1 : Int32)) = (4 : Int32) from by decide] at q; exact q
            have sg_215 : ∀ tt_, Steps p.tables e below (T_211.setTop (mkF m 269 #[Iv p1, Iv p2, Iv (3 : Int32), Iv ee0, Iv ee1, Iv ee2, Rv b_135, Iv (1 : Int32), Iv (0 : Int32), Iv (3 : Int32), Iv (3 : Int32), Iv (3 : Int32), Us] [(.ref b_135)])) tt_ → Steps p.tables e below (T_211.setTop (mkF m 265 #[Iv p1, Iv p2, Iv (3 : Int32), Iv ee0, Iv ee1, Iv ee2, Rv b_135, Iv (1 : Int32), Iv (0 : Int32), Iv (3 : Int32), Iv (3 : Int32), Us, Us] [(.int (3 : Int32))])) tt_ := by
              intro tt_ kt_
              refine XS.istore X_211.here hEX rfl (hb hBY at_265) rfl (l' := #[Iv p1, Iv p2, Iv (3 : Int32), Iv ee0, Iv ee1, Iv ee2, Rv b_135, Iv (1 : Int32), Iv (0 : Int32), Iv (3 : Int32), Iv (3 : Int32), Iv (3 : Int32), Us]) rfl ?_
              show Steps p.tables e below (T_211.setTop (mkF m 267 #[Iv p1, Iv p2, Iv (3 : Int32), Iv ee0, Iv ee1, Iv ee2, Rv b_135, Iv (1 : Int32), Iv (0 : Int32), Iv (3 : Int32), Iv (3 : Int32), Iv (3 : Int32), Us] [])) tt_
              refine XS.aload X_211.here hEX rfl (hb hBY at_267) rfl rfl ?_
              exact kt_
            refine Done.pre sg_215 ?_
            obtain ⟨cq_216, kq_216, q_216a, q_216b, q_216c⟩ := isOf hZW rfl hq_211_0
            obtain ⟨_, _, ⟨T_216, L_216, k_216, n_216⟩, -, X_216, ⟨Lc_216, hQ_216, l_216, y_216, z_216⟩, st_216⟩ := X_211.virtualBack hEX (y := (⟨"com/example/actorium/actorium/Claimant$Sends", "depth", "()I"⟩ : MethodName)) (z := (⟨"com/example/actorium/actorium/Claimant$Sends", "depth", "()I"⟩ : MethodName)) hOW (mvT hZW (hw _ (List.mem_of_getElem? (i := 21) rfl))) (mvT hZW (hw _ (List.mem_of_getElem? (i := 22) rfl))) (notFace_of_selects (args := #[]) (mvT hZW (hw _ (List.mem_of_getElem? (i := 24) rfl)))) (mvT hZW (hw _ (List.mem_of_getElem? (i := 24) rfl))) (mvT hZW (hw _ (List.mem_of_getElem? (i := 23) rfl))) (by decide) (backOf (W := 0) (rm_depth l Z aZ hw [] b_135 (4 : Int32) T_211.heap n0 (Nat.le_trans Z0 K__212.1) f_214) hZW (hw _ (List.mem_of_getElem? (i := 25) rfl)) (hw _ (List.mem_of_getElem? (i := 3) rfl)) (by decide) (by decide)) q_216a q_216c (g := (mkF m 269 #[Iv p1, Iv p2, Iv (3 : Int32), Iv ee0, Iv ee1, Iv ee2, Rv b_135, Iv (1 : Int32), Iv (0 : Int32), Iv (3 : Int32), Iv (3 : Int32), Iv (3 : Int32), Us] [(.ref b_135)])) rfl (by rw [hMX]; rfl) (Steps.refl _) (argsL := []) (rest := []) (lenOf pd___I_0 rfl) rfl (by show 2 * 0 + _ ≤ _; exact Nat.le_of_eq rfl) (hb hBY at_269) (fun _ _ => ⟨rfl, rfl, (by decide : 2 + 0 ≤ _), (by decide : 10 + 0 ≤ _)⟩)
            dsimp only [Pt.U, Pt.locs, Pt.cells, Pt.slots] at X_216 l_216 y_216 z_216 st_216 hQ_216
            subst l_216 y_216 z_216
            obtain ⟨rfl, N_216q, e_216⟩ := hQ_216
            have N_216 := Fr.app N_211 N_216q
            refine Done.pre (fun _ k_ => st_216.trans k_) ?_
            show Done _ _ _ _ _ _ _ (T_216.setTop (mkF m 272 #[Iv p1, Iv p2, Iv (3 : Int32), Iv ee0, Iv ee1, Iv ee2, Rv b_135, Iv (1 : Int32), Iv (0 : Int32), Iv (3 : Int32), Iv (3 : Int32), Iv (3 : Int32), Us] [(.int (4 : Int32))]))
            have sg_217 : ∀ tt_, Steps p.tables e below (T_216.setTop (mkF m 304 #[Iv p1, Iv p2, Iv (3 : Int32), Iv ee0, Iv ee1, Iv ee2, Rv b_135, Iv (1 : Int32), Iv (0 : Int32), Iv (3 : Int32), Iv (3 : Int32), Iv (3 : Int32), Iv (4 : Int32)] [(.int (1 : Int32))])) tt_ → Steps p.tables e below (T_216.setTop (mkF m 272 #[Iv p1, Iv p2, Iv (3 : Int32), Iv ee0, Iv ee1, Iv ee2, Rv b_135, Iv (1 : Int32), Iv (0 : Int32), Iv (3 : Int32), Iv (3 : Int32), Iv (3 : Int32), Us] [(.int (4 : Int32))])) tt_ := by
              intro tt_ kt_
              refine XS.istore X_216.here hEX rfl (hb hBY at_272) rfl (l' := #[Iv p1, Iv p2, Iv (3 : Int32), Iv ee0, Iv ee1, Iv ee2, Rv b_135, Iv (1 : Int32), Iv (0 : Int32), Iv (3 : Int32), Iv (3 : Int32), Iv (3 : Int32), Iv (4 : Int32)]) rfl ?_
              show Steps p.tables e below (T_216.setTop (mkF m 274 #[Iv p1, Iv p2, Iv (3 : Int32), Iv ee0, Iv ee1, Iv ee2, Rv b_135, Iv (1 : Int32), Iv (0 : Int32), Iv (3 : Int32), Iv (3 : Int32), Iv (3 : Int32), Iv (4 : Int32)] [])) tt_
              refine XS.iload X_216.here hEX rfl (hb hBY at_274) rfl ?_
              show Steps p.tables e below (T_216.setTop (mkF m 276 #[Iv p1, Iv p2, Iv (3 : Int32), Iv ee0, Iv ee1, Iv ee2, Rv b_135, Iv (1 : Int32), Iv (0 : Int32), Iv (3 : Int32), Iv (3 : Int32), Iv (3 : Int32), Iv (4 : Int32)] [(.int (1 : Int32))])) tt_
              refine XS.ifNo X_216.here hEX rfl (hb hBY at_276) rfl ((if0 _ _).trans (feq (by decide : ¬ ((1 : Int32) = (0 : Int32)))).1) ?_
              show Steps p.tables e below (T_216.setTop (mkF m 279 #[Iv p1, Iv p2, Iv (3 : Int32), Iv ee0, Iv ee1, Iv ee2, Rv b_135, Iv (1 : Int32), Iv (0 : Int32), Iv (3 : Int32), Iv (3 : Int32), Iv (3 : Int32), Iv (4 : Int32)] [])) tt_
              refine XS.iload X_216.here hEX rfl (hb hBY at_279) rfl ?_
              show Steps p.tables e below (T_216.setTop (mkF m 281 #[Iv p1, Iv p2, Iv (3 : Int32), Iv ee0, Iv ee1, Iv ee2, Rv b_135, Iv (1 : Int32), Iv (0 : Int32), Iv (3 : Int32), Iv (3 : Int32), Iv (3 : Int32), Iv (4 : Int32)] [(.int (3 : Int32))])) tt_
              refine XS.iload X_216.here hEX rfl (hb hBY at_281) rfl ?_
              show Steps p.tables e below (T_216.setTop (mkF m 283 #[Iv p1, Iv p2, Iv (3 : Int32), Iv ee0, Iv ee1, Iv ee2, Rv b_135, Iv (1 : Int32), Iv (0 : Int32), Iv (3 : Int32), Iv (3 : Int32), Iv (3 : Int32), Iv (4 : Int32)] [(.int (3 : Int32)), (.int (3 : Int32))])) tt_
              refine XS.icmpNo X_216.here hEX rfl (hb hBY at_283) rfl (teq (by decide : (3 : Int32) = (3 : Int32))).2 ?_
              show Steps p.tables e below (T_216.setTop (mkF m 286 #[Iv p1, Iv p2, Iv (3 : Int32), Iv ee0, Iv ee1, Iv ee2, Rv b_135, Iv (1 : Int32), Iv (0 : Int32), Iv (3 : Int32), Iv (3 : Int32), Iv (3 : Int32), Iv (4 : Int32)] [])) tt_
              refine XS.iload X_216.here hEX rfl (hb hBY at_286) rfl ?_
              show Steps p.tables e below (T_216.setTop (mkF m 288 #[Iv p1, Iv p2, Iv (3 : Int32), Iv ee0, Iv ee1, Iv ee2, Rv b_135, Iv (1 : Int32), Iv (0 : Int32), Iv (3 : Int32), Iv (3 : Int32), Iv (3 : Int32), Iv (4 : Int32)] [(.int (4 : Int32))])) tt_
              refine XS.iload X_216.here hEX rfl (hb hBY at_288) rfl ?_
              show Steps p.tables e below (T_216.setTop (mkF m 290 #[Iv p1, Iv p2, Iv (3 : Int32), Iv ee0, Iv ee1, Iv ee2, Rv b_135, Iv (1 : Int32), Iv (0 : Int32), Iv (3 : Int32), Iv (3 : Int32), Iv (3 : Int32), Iv (4 : Int32)] [(.int (3 : Int32)), (.int (4 : Int32))])) tt_
              refine XS.iconst X_216.here hEX rfl (hb hBY at_290) ?_
              show Steps p.tables e below (T_216.setTop (mkF m 291 #[Iv p1, Iv p2, Iv (3 : Int32), Iv ee0, Iv ee1, Iv ee2, Rv b_135, Iv (1 : Int32), Iv (0 : Int32), Iv (3 : Int32), Iv (3 : Int32), Iv (3 : Int32), Iv (4 : Int32)] [(.int (1 : Int32)), (.int (3 : Int32)), (.int (4 : Int32))])) tt_
              refine XS.iadd X_216.here hEX rfl (hb hBY at_291) rfl ?_
              show Steps p.tables e below (T_216.setTop (mkF m 292 #[Iv p1, Iv p2, Iv (3 : Int32), Iv ee0, Iv ee1, Iv ee2, Rv b_135, Iv (1 : Int32), Iv (0 : Int32), Iv (3 : Int32), Iv (3 : Int32), Iv (3 : Int32), Iv (4 : Int32)] [(.int (4 : Int32)), (.int (4 : Int32))])) tt_
              refine XS.icmpNo X_216.here hEX rfl (hb hBY at_292) rfl (teq (by decide : (4 : Int32) = (4 : Int32))).2 ?_
              show Steps p.tables e below (T_216.setTop (mkF m 295 #[Iv p1, Iv p2, Iv (3 : Int32), Iv ee0, Iv ee1, Iv ee2, Rv b_135, Iv (1 : Int32), Iv (0 : Int32), Iv (3 : Int32), Iv (3 : Int32), Iv (3 : Int32), Iv (4 : Int32)] [])) tt_
              refine XS.iconst X_216.here hEX rfl (hb hBY at_295) ?_
              show Steps p.tables e below (T_216.setTop (mkF m 296 #[Iv p1, Iv p2, Iv (3 : Int32), Iv ee0, Iv ee1, Iv ee2, Rv b_135, Iv (1 : Int32), Iv (0 : Int32), Iv (3 : Int32), Iv (3 : Int32), Iv (3 : Int32), Iv (4 : Int32)] [(.int (1 : Int32))])) tt_
              refine XS.goto X_216.here hEX rfl (pc0 := 296) (pc' := 300) rfl (hb hBY at_296) (by decide) (by decide) ?_
              show Steps p.tables e below (T_216.setTop (mkF m 300 #[Iv p1, Iv p2, Iv (3 : Int32), Iv ee0, Iv ee1, Iv ee2, Rv b_135, Iv (1 : Int32), Iv (0 : Int32), Iv (3 : Int32), Iv (3 : Int32), Iv (3 : Int32), Iv (4 : Int32)] [(.int (1 : Int32))])) tt_
              refine XS.istore X_216.here hEX rfl (hb hBY at_300) rfl (l' := #[Iv p1, Iv p2, Iv (3 : Int32), Iv ee0, Iv ee1, Iv ee2, Rv b_135, Iv (1 : Int32), Iv (0 : Int32), Iv (3 : Int32), Iv (3 : Int32), Iv (3 : Int32), Iv (4 : Int32)]) rfl ?_
              show Steps p.tables e below (T_216.setTop (mkF m 302 #[Iv p1, Iv p2, Iv (3 : Int32), Iv ee0, Iv ee1, Iv ee2, Rv b_135, Iv (1 : Int32), Iv (0 : Int32), Iv (3 : Int32), Iv (3 : Int32), Iv (3 : Int32), Iv (4 : Int32)] [])) tt_
              refine XS.iload X_216.here hEX rfl (hb hBY at_302) rfl ?_
              exact kt_
            refine Done.pre sg_217 ?_
            exact Done.retN X_216 hEX hLK (t := .boolean) hRT (by simp) (hb hBY at_304) (by rw [e_216]; exact ⟨rfl, N_216, K__212⟩) (by decide) (by decide)
      · skip
        have sg_218 : ∀ tt_, Steps p.tables e below (T_155.setTop (mkF m 164 #[Iv p1, Iv p2, Iv (3 : Int32), Iv ee0, Iv ee1, Iv ee2, Rv b_135, Iv (1 : Int32), Iv (0 : Int32), Iv (2 : Int32), Us, Us, Us] [(.int (2 : Int32)), (.ref b_135)])) tt_ → Steps p.tables e below (T_155.setTop (mkF m 158 #[Iv p1, Iv p2, Iv (3 : Int32), Iv ee0, Iv ee1, Iv ee2, Rv b_135, Iv (1 : Int32), Iv (0 : Int32), Iv (2 : Int32), Us, Us, Us] [(.int ee2)])) tt_ := by
          intro tt_ kt_
          refine XS.ifNo X_155.here hEX rfl (hb hBY at_158) rfl ((if0 _ _).trans (feq hc158).1) ?_
          show Steps p.tables e below (T_155.setTop (mkF m 161 #[Iv p1, Iv p2, Iv (3 : Int32), Iv ee0, Iv ee1, Iv ee2, Rv b_135, Iv (1 : Int32), Iv (0 : Int32), Iv (2 : Int32), Us, Us, Us] [])) tt_
          refine XS.aload X_155.here hEX rfl (hb hBY at_161) rfl rfl ?_
          show Steps p.tables e below (T_155.setTop (mkF m 163 #[Iv p1, Iv p2, Iv (3 : Int32), Iv ee0, Iv ee1, Iv ee2, Rv b_135, Iv (1 : Int32), Iv (0 : Int32), Iv (2 : Int32), Us, Us, Us] [(.ref b_135)])) tt_
          refine XS.iconst X_155.here hEX rfl (hb hBY at_163) ?_
          exact kt_
        refine Done.pre sg_218 ?_
        obtain ⟨cq_219, kq_219, q_219a, q_219b, q_219c⟩ := isOf hZW rfl hq_155_0
        obtain ⟨_, _, ⟨T_219, L_219, k_219, n_219⟩, -, X_219, ⟨Lc_219, hQ_219, l_219, y_219, z_219⟩, st_219⟩ := X_155.virtualBack hEX (y := (⟨"com/example/actorium/actorium/Claimant$Sends", "end", "(I)V"⟩ : MethodName)) (z := (⟨"com/example/actorium/actorium/Claimant$Sends", "end", "(I)V"⟩ : MethodName)) hOW (mvT hZW (hw _ (List.mem_of_getElem? (i := 26) rfl))) (mvT hZW (hw _ (List.mem_of_getElem? (i := 27) rfl))) (notFace_of_selects (args := #[]) (mvT hZW (hw _ (List.mem_of_getElem? (i := 29) rfl)))) (mvT hZW (hw _ (List.mem_of_getElem? (i := 29) rfl))) (mvT hZW (hw _ (List.mem_of_getElem? (i := 28) rfl))) (by decide) (backOf (W := 0) (rm_end l Z aZ hw [] b_135 (2 : Int32) (3 : Int32) b__141 k__141 T_155.heap n0 (Nat.le_trans Z0 K__156.1) hq_155_0 f_158 hq_155_2 hq_155_3 ge_b_135 (Nat.le_trans Z0 sz_b__141) ne_b_135_b__141 (by decide)) hZW (hw _ (List.mem_of_getElem? (i := 30) rfl)) (hw _ (List.mem_of_getElem? (i := 3) rfl)) (by decide) (by decide)) q_219a q_219c (g := (mkF m 164 #[Iv p1, Iv p2, Iv (3 : Int32), Iv ee0, Iv ee1, Iv ee2, Rv b_135, Iv (1 : Int32), Iv (0 : Int32), Iv (2 : Int32), Us, Us, Us] [(.int (2 : Int32)), (.ref b_135)])) rfl (by rw [hMX]; rfl) (Steps.refl _) (argsL := [(.int (2 : Int32))]) (rest := []) (lenOf pd__I_V_2 rfl) rfl (by show 2 * 0 + _ ≤ _; exact Nat.le_of_eq rfl) (hb hBY at_164) (fun _ _ => ⟨rfl, rfl, (by decide : 2 + 0 ≤ _), (by decide : 10 + 0 ≤ _)⟩)
        dsimp only [Pt.U, Pt.locs, Pt.cells, Pt.slots] at X_219 l_219 y_219 z_219 st_219 hQ_219
        subst l_219 y_219 z_219
        obtain ⟨rfl, N_219q, K_219, hq_219_0, hq_219_1, hq_219_2, hq_219_3⟩ := hQ_219
        have N_219 := Fr.app N_155 N_219q
        have K__220 : Keep h0 T_219.heap [] := K__156.trans K_219 (allS (Or.inr sz_b_135) (allS (Or.inr sz_b__141) all0))
        have f_221 : Exa Z T_219.heap b_135 "com/example/actorium/actorium/Claimant$Sends" := hq_155_0.keep K_219
        refine Done.pre (fun _ k_ => st_219.trans k_) ?_
        show Done _ _ _ _ _ _ _ (T_219.setTop (mkF m 167 #[Iv p1, Iv p2, Iv (3 : Int32), Iv ee0, Iv ee1, Iv ee2, Rv b_135, Iv (1 : Int32), Iv (0 : Int32), Iv (2 : Int32), Us, Us, Us] []))
        have f_222 : Fld Z T_219.heap b_135 "com/example/actorium/actorium/Claimant$Sends" "top" "I" (.int (2 : Int32)) := by have q := hq_219_1; rw [show (own_end (3 : Int32) (2 : Int32)) = (2 : Int32) from by decide] at q; exact q
        have sg_223 : ∀ tt_, Steps p.tables e below (T_219.setTop (mkF m 169 #[Iv p1, Iv p2, Iv (3 : Int32), Iv ee0, Iv ee1, Iv ee2, Rv b_135, Iv (1 : Int32), Iv (0 : Int32), Iv (2 : Int32), Us, Us, Us] [(.int ee1)])) tt_ → Steps p.tables e below (T_219.setTop (mkF m 167 #[Iv p1, Iv p2, Iv (3 : Int32), Iv ee0, Iv ee1, Iv ee2, Rv b_135, Iv (1 : Int32), Iv (0 : Int32), Iv (2 : Int32), Us, Us, Us] [])) tt_ := by
          intro tt_ kt_
          refine XS.iload X_219.here hEX rfl (hb hBY at_167) rfl ?_
          exact kt_
        refine Done.pre sg_223 ?_
        by_cases hc169 : ee1 = (0 : Int32)
        · skip
          have sg_224 : ∀ tt_, Steps p.tables e below (T_219.setTop (mkF m 179 #[Iv p1, Iv p2, Iv (3 : Int32), Iv ee0, Iv ee1, Iv ee2, Rv b_135, Iv (1 : Int32), Iv (0 : Int32), Iv (2 : Int32), Us, Us, Us] [(.int ee0)])) tt_ → Steps p.tables e below (T_219.setTop (mkF m 169 #[Iv p1, Iv p2, Iv (3 : Int32), Iv ee0, Iv ee1, Iv ee2, Rv b_135, Iv (1 : Int32), Iv (0 : Int32), Iv (2 : Int32), Us, Us, Us] [(.int ee1)])) tt_ := by
            intro tt_ kt_
            refine XS.ifYes X_219.here hEX rfl (pc0 := 169) (pc' := 178) rfl (hb hBY at_169) rfl ((if0 _ _).trans (teq hc169).1) (by decide) (by decide) ?_
            show Steps p.tables e below (T_219.setTop (mkF m 178 #[Iv p1, Iv p2, Iv (3 : Int32), Iv ee0, Iv ee1, Iv ee2, Rv b_135, Iv (1 : Int32), Iv (0 : Int32), Iv (2 : Int32), Us, Us, Us] [])) tt_
            refine XS.iloadN X_219.here hEX rfl (hb hBY at_178) rfl ?_
            exact kt_
          refine Done.pre sg_224 ?_
          by_cases hc179 : ee0 = (0 : Int32)
          · skip
            have sg_225 : ∀ tt_, Steps p.tables e below (T_219.setTop (mkF m 235 #[Iv p1, Iv p2, Iv (3 : Int32), Iv ee0, Iv ee1, Iv ee2, Rv b_135, Iv (1 : Int32), Iv (0 : Int32), Iv (2 : Int32), Us, Us, Us] [(.ref b_135)])) tt_ → Steps p.tables e below (T_219.setTop (mkF m 179 #[Iv p1, Iv p2, Iv (3 : Int32), Iv ee0, Iv ee1, Iv ee2, Rv b_135, Iv (1 : Int32), Iv (0 : Int32), Iv (2 : Int32), Us, Us, Us] [(.int ee0)])) tt_ := by
              intro tt_ kt_
              refine XS.ifYes X_219.here hEX rfl (pc0 := 179) (pc' := 188) rfl (hb hBY at_179) rfl ((if0 _ _).trans (teq hc179).1) (by decide) (by decide) ?_
              show Steps p.tables e below (T_219.setTop (mkF m 188 #[Iv p1, Iv p2, Iv (3 : Int32), Iv ee0, Iv ee1, Iv ee2, Rv b_135, Iv (1 : Int32), Iv (0 : Int32), Iv (2 : Int32), Us, Us, Us] [])) tt_
              refine XS.iloadN X_219.here hEX rfl (hb hBY at_188) rfl ?_
              show Steps p.tables e below (T_219.setTop (mkF m 189 #[Iv p1, Iv p2, Iv (3 : Int32), Iv ee0, Iv ee1, Iv ee2, Rv b_135, Iv (1 : Int32), Iv (0 : Int32), Iv (2 : Int32), Us, Us, Us] [(.int (3 : Int32))])) tt_
              refine XS.iconst X_219.here hEX rfl (hb hBY at_189) ?_
              show Steps p.tables e below (T_219.setTop (mkF m 190 #[Iv p1, Iv p2, Iv (3 : Int32), Iv ee0, Iv ee1, Iv ee2, Rv b_135, Iv (1 : Int32), Iv (0 : Int32), Iv (2 : Int32), Us, Us, Us] [(.int (3 : Int32)), (.int (3 : Int32))])) tt_
              refine XS.icmpNo X_219.here hEX rfl (hb hBY at_190) rfl (flt (by decide : ¬ ((3 : Int32) < (3 : Int32)))).1 ?_
              show Steps p.tables e below (T_219.setTop (mkF m 193 #[Iv p1, Iv p2, Iv (3 : Int32), Iv ee0, Iv ee1, Iv ee2, Rv b_135, Iv (1 : Int32), Iv (0 : Int32), Iv (2 : Int32), Us, Us, Us] [])) tt_
              refine XS.iload X_219.here hEX rfl (hb hBY at_193) rfl ?_
              show Steps p.tables e below (T_219.setTop (mkF m 195 #[Iv p1, Iv p2, Iv (3 : Int32), Iv ee0, Iv ee1, Iv ee2, Rv b_135, Iv (1 : Int32), Iv (0 : Int32), Iv (2 : Int32), Us, Us, Us] [(.int ee2)])) tt_
              refine XS.ifYes X_219.here hEX rfl (pc0 := 195) (pc' := 204) rfl (hb hBY at_195) rfl ((if0 _ _).trans (feq hc158).2) (by decide) (by decide) ?_
              show Steps p.tables e below (T_219.setTop (mkF m 204 #[Iv p1, Iv p2, Iv (3 : Int32), Iv ee0, Iv ee1, Iv ee2, Rv b_135, Iv (1 : Int32), Iv (0 : Int32), Iv (2 : Int32), Us, Us, Us] [])) tt_
              refine XS.iloadN X_219.here hEX rfl (hb hBY at_204) rfl ?_
              show Steps p.tables e below (T_219.setTop (mkF m 205 #[Iv p1, Iv p2, Iv (3 : Int32), Iv ee0, Iv ee1, Iv ee2, Rv b_135, Iv (1 : Int32), Iv (0 : Int32), Iv (2 : Int32), Us, Us, Us] [(.int (3 : Int32))])) tt_
              refine XS.iconst X_219.here hEX rfl (hb hBY at_205) ?_
              show Steps p.tables e below (T_219.setTop (mkF m 206 #[Iv p1, Iv p2, Iv (3 : Int32), Iv ee0, Iv ee1, Iv ee2, Rv b_135, Iv (1 : Int32), Iv (0 : Int32), Iv (2 : Int32), Us, Us, Us] [(.int (2 : Int32)), (.int (3 : Int32))])) tt_
              refine XS.icmpNo X_219.here hEX rfl (hb hBY at_206) rfl (flt (by decide : ¬ ((3 : Int32) < (2 : Int32)))).1 ?_
              show Steps p.tables e below (T_219.setTop (mkF m 209 #[Iv p1, Iv p2, Iv (3 : Int32), Iv ee0, Iv ee1, Iv ee2, Rv b_135, Iv (1 : Int32), Iv (0 : Int32), Iv (2 : Int32), Us, Us, Us] [])) tt_
              refine XS.iload X_219.here hEX rfl (hb hBY at_209) rfl ?_
              show Steps p.tables e below (T_219.setTop (mkF m 211 #[Iv p1, Iv p2, Iv (3 : Int32), Iv ee0, Iv ee1, Iv ee2, Rv b_135, Iv (1 : Int32), Iv (0 : Int32), Iv (2 : Int32), Us, Us, Us] [(.int ee1)])) tt_
              refine XS.ifNo X_219.here hEX rfl (hb hBY at_211) rfl ((if0 _ _).trans (teq hc169).2) ?_
              show Steps p.tables e below (T_219.setTop (mkF m 214 #[Iv p1, Iv p2, Iv (3 : Int32), Iv ee0, Iv ee1, Iv ee2, Rv b_135, Iv (1 : Int32), Iv (0 : Int32), Iv (2 : Int32), Us, Us, Us] [])) tt_
              refine XS.iconst X_219.here hEX rfl (hb hBY at_214) ?_
              show Steps p.tables e below (T_219.setTop (mkF m 215 #[Iv p1, Iv p2, Iv (3 : Int32), Iv ee0, Iv ee1, Iv ee2, Rv b_135, Iv (1 : Int32), Iv (0 : Int32), Iv (2 : Int32), Us, Us, Us] [(.int (2 : Int32))])) tt_
              refine XS.istore X_219.here hEX rfl (hb hBY at_215) rfl (l' := #[Iv p1, Iv p2, Iv (3 : Int32), Iv ee0, Iv ee1, Iv ee2, Rv b_135, Iv (1 : Int32), Iv (0 : Int32), Iv (2 : Int32), Us, Us, Us]) rfl ?_
              show Steps p.tables e below (T_219.setTop (mkF m 217 #[Iv p1, Iv p2, Iv (3 : Int32), Iv ee0, Iv ee1, Iv ee2, Rv b_135, Iv (1 : Int32), Iv (0 : Int32), Iv (2 : Int32), Us, Us, Us] [])) tt_
              refine XS.goto X_219.here hEX rfl (pc0 := 217) (pc' := 233) rfl (hb hBY at_217) (by decide) (by decide) ?_
              show Steps p.tables e below (T_219.setTop (mkF m 233 #[Iv p1, Iv p2, Iv (3 : Int32), Iv ee0, Iv ee1, Iv ee2, Rv b_135, Iv (1 : Int32), Iv (0 : Int32), Iv (2 : Int32), Us, Us, Us] [])) tt_
              refine XS.aload X_219.here hEX rfl (hb hBY at_233) rfl rfl ?_
              exact kt_
            refine Done.pre sg_225 ?_
            obtain ⟨cq_226, kq_226, q_226a, q_226b, q_226c⟩ := isOf hZW rfl hq_219_0
            obtain ⟨_, _, ⟨T_226, L_226, k_226, n_226⟩, -, X_226, ⟨Lc_226, hQ_226, l_226, y_226, z_226⟩, st_226⟩ := X_219.virtualBack hEX (y := (⟨"com/example/actorium/actorium/Claimant$Sends", "depth", "()I"⟩ : MethodName)) (z := (⟨"com/example/actorium/actorium/Claimant$Sends", "depth", "()I"⟩ : MethodName)) hOW (mvT hZW (hw _ (List.mem_of_getElem? (i := 21) rfl))) (mvT hZW (hw _ (List.mem_of_getElem? (i := 22) rfl))) (notFace_of_selects (args := #[]) (mvT hZW (hw _ (List.mem_of_getElem? (i := 24) rfl)))) (mvT hZW (hw _ (List.mem_of_getElem? (i := 24) rfl))) (mvT hZW (hw _ (List.mem_of_getElem? (i := 23) rfl))) (by decide) (backOf (W := 0) (rm_depth l Z aZ hw [] b_135 (2 : Int32) T_219.heap n0 (Nat.le_trans Z0 K__220.1) f_222) hZW (hw _ (List.mem_of_getElem? (i := 25) rfl)) (hw _ (List.mem_of_getElem? (i := 3) rfl)) (by decide) (by decide)) q_226a q_226c (g := (mkF m 235 #[Iv p1, Iv p2, Iv (3 : Int32), Iv ee0, Iv ee1, Iv ee2, Rv b_135, Iv (1 : Int32), Iv (0 : Int32), Iv (2 : Int32), Us, Us, Us] [(.ref b_135)])) rfl (by rw [hMX]; rfl) (Steps.refl _) (argsL := []) (rest := []) (lenOf pd___I_0 rfl) rfl (by show 2 * 0 + _ ≤ _; exact Nat.le_of_eq rfl) (hb hBY at_235) (fun _ _ => ⟨rfl, rfl, (by decide : 2 + 0 ≤ _), (by decide : 10 + 0 ≤ _)⟩)
            dsimp only [Pt.U, Pt.locs, Pt.cells, Pt.slots] at X_226 l_226 y_226 z_226 st_226 hQ_226
            subst l_226 y_226 z_226
            obtain ⟨rfl, N_226q, e_226⟩ := hQ_226
            have N_226 := Fr.app N_219 N_226q
            refine Done.pre (fun _ k_ => st_226.trans k_) ?_
            show Done _ _ _ _ _ _ _ (T_226.setTop (mkF m 238 #[Iv p1, Iv p2, Iv (3 : Int32), Iv ee0, Iv ee1, Iv ee2, Rv b_135, Iv (1 : Int32), Iv (0 : Int32), Iv (2 : Int32), Us, Us, Us] [(.int (2 : Int32))]))
            have sg_227 : ∀ tt_, Steps p.tables e below (T_226.setTop (mkF m 262 #[Iv p1, Iv p2, Iv (3 : Int32), Iv ee0, Iv ee1, Iv ee2, Rv b_135, Iv (1 : Int32), Iv (0 : Int32), Iv (2 : Int32), Iv (2 : Int32), Us, Us] [.null, (.ref b_135)])) tt_ → Steps p.tables e below (T_226.setTop (mkF m 238 #[Iv p1, Iv p2, Iv (3 : Int32), Iv ee0, Iv ee1, Iv ee2, Rv b_135, Iv (1 : Int32), Iv (0 : Int32), Iv (2 : Int32), Us, Us, Us] [(.int (2 : Int32))])) tt_ := by
              intro tt_ kt_
              refine XS.istore X_226.here hEX rfl (hb hBY at_238) rfl (l' := #[Iv p1, Iv p2, Iv (3 : Int32), Iv ee0, Iv ee1, Iv ee2, Rv b_135, Iv (1 : Int32), Iv (0 : Int32), Iv (2 : Int32), Iv (2 : Int32), Us, Us]) rfl ?_
              show Steps p.tables e below (T_226.setTop (mkF m 240 #[Iv p1, Iv p2, Iv (3 : Int32), Iv ee0, Iv ee1, Iv ee2, Rv b_135, Iv (1 : Int32), Iv (0 : Int32), Iv (2 : Int32), Iv (2 : Int32), Us, Us] [])) tt_
              refine XS.iload X_226.here hEX rfl (hb hBY at_240) rfl ?_
              show Steps p.tables e below (T_226.setTop (mkF m 242 #[Iv p1, Iv p2, Iv (3 : Int32), Iv ee0, Iv ee1, Iv ee2, Rv b_135, Iv (1 : Int32), Iv (0 : Int32), Iv (2 : Int32), Iv (2 : Int32), Us, Us] [(.int (1 : Int32))])) tt_
              refine XS.ifNo X_226.here hEX rfl (hb hBY at_242) rfl ((if0 _ _).trans (feq (by decide : ¬ ((1 : Int32) = (0 : Int32)))).1) ?_
              show Steps p.tables e below (T_226.setTop (mkF m 245 #[Iv p1, Iv p2, Iv (3 : Int32), Iv ee0, Iv ee1, Iv ee2, Rv b_135, Iv (1 : Int32), Iv (0 : Int32), Iv (2 : Int32), Iv (2 : Int32), Us, Us] [])) tt_
              refine XS.iload X_226.here hEX rfl (hb hBY at_245) rfl ?_
              show Steps p.tables e below (T_226.setTop (mkF m 247 #[Iv p1, Iv p2, Iv (3 : Int32), Iv ee0, Iv ee1, Iv ee2, Rv b_135, Iv (1 : Int32), Iv (0 : Int32), Iv (2 : Int32), Iv (2 : Int32), Us, Us] [(.int (2 : Int32))])) tt_
              refine XS.iload X_226.here hEX rfl (hb hBY at_247) rfl ?_
              show Steps p.tables e below (T_226.setTop (mkF m 249 #[Iv p1, Iv p2, Iv (3 : Int32), Iv ee0, Iv ee1, Iv ee2, Rv b_135, Iv (1 : Int32), Iv (0 : Int32), Iv (2 : Int32), Iv (2 : Int32), Us, Us] [(.int (2 : Int32)), (.int (2 : Int32))])) tt_
              refine XS.icmpNo X_226.here hEX rfl (hb hBY at_249) rfl (teq (by decide : (2 : Int32) = (2 : Int32))).2 ?_
              show Steps p.tables e below (T_226.setTop (mkF m 252 #[Iv p1, Iv p2, Iv (3 : Int32), Iv ee0, Iv ee1, Iv ee2, Rv b_135, Iv (1 : Int32), Iv (0 : Int32), Iv (2 : Int32), Iv (2 : Int32), Us, Us] [])) tt_
              refine XS.iconst X_226.here hEX rfl (hb hBY at_252) ?_
              show Steps p.tables e below (T_226.setTop (mkF m 253 #[Iv p1, Iv p2, Iv (3 : Int32), Iv ee0, Iv ee1, Iv ee2, Rv b_135, Iv (1 : Int32), Iv (0 : Int32), Iv (2 : Int32), Iv (2 : Int32), Us, Us] [(.int (1 : Int32))])) tt_
              refine XS.goto X_226.here hEX rfl (pc0 := 253) (pc' := 257) rfl (hb hBY at_253) (by decide) (by decide) ?_
              show Steps p.tables e below (T_226.setTop (mkF m 257 #[Iv p1, Iv p2, Iv (3 : Int32), Iv ee0, Iv ee1, Iv ee2, Rv b_135, Iv (1 : Int32), Iv (0 : Int32), Iv (2 : Int32), Iv (2 : Int32), Us, Us] [(.int (1 : Int32))])) tt_
              refine XS.istore X_226.here hEX rfl (hb hBY at_257) rfl (l' := #[Iv p1, Iv p2, Iv (3 : Int32), Iv ee0, Iv ee1, Iv ee2, Rv b_135, Iv (1 : Int32), Iv (0 : Int32), Iv (2 : Int32), Iv (2 : Int32), Us, Us]) rfl ?_
              show Steps p.tables e below (T_226.setTop (mkF m 259 #[Iv p1, Iv p2, Iv (3 : Int32), Iv ee0, Iv ee1, Iv ee2, Rv b_135, Iv (1 : Int32), Iv (0 : Int32), Iv (2 : Int32), Iv (2 : Int32), Us, Us] [])) tt_
              refine XS.aload X_226.here hEX rfl (hb hBY at_259) rfl rfl ?_
              show Steps p.tables e below (T_226.setTop (mkF m 261 #[Iv p1, Iv p2, Iv (3 : Int32), Iv ee0, Iv ee1, Iv ee2, Rv b_135, Iv (1 : Int32), Iv (0 : Int32), Iv (2 : Int32), Iv (2 : Int32), Us, Us] [(.ref b_135)])) tt_
              refine XS.aconstNull X_226.here hEX rfl (hb hBY at_261) ?_
              exact kt_
            refine Done.pre sg_227 ?_
            obtain ⟨cq_228, kq_228, q_228a, q_228b, q_228c⟩ := isOf hZW e_226 hq_219_0
            obtain ⟨_, _, ⟨T_228, L_228, k_228, n_228⟩, -, X_228, ⟨Lc_228, hQ_228, l_228, y_228, z_228⟩, st_228⟩ := X_226.virtualBack hEX (y := (⟨"com/example/actorium/actorium/Claimant$Sends", "begin", "(Lcom/example/actorium/actorium/DispatchedCell;)I"⟩ : MethodName)) (z := (⟨"com/example/actorium/actorium/Claimant$Sends", "begin", "(Lcom/example/actorium/actorium/DispatchedCell;)I"⟩ : MethodName)) hOW (mvT hZW (hw _ (List.mem_of_getElem? (i := 14) rfl))) (mvT hZW (hw _ (List.mem_of_getElem? (i := 15) rfl))) (notFace_of_selects (args := #[]) (mvT hZW (hw _ (List.mem_of_getElem? (i := 17) rfl)))) (mvT hZW (hw _ (List.mem_of_getElem? (i := 17) rfl))) (mvT hZW (hw _ (List.mem_of_getElem? (i := 16) rfl))) (by decide) (backOf (W := 0) (rm_begin l Z aZ hw [] b_135 (2 : Int32) b__141 k__141 T_219.heap n0 (Nat.le_trans Z0 K__220.1) hq_219_0 f_222 hq_219_2 hq_219_3 ge_b_135 (Nat.le_trans Z0 sz_b__141) ne_b_135_b__141 (by decide)) hZW (hw _ (List.mem_of_getElem? (i := 18) rfl)) (hw _ (List.mem_of_getElem? (i := 3) rfl)) (by decide) (by decide)) q_228a q_228c (g := (mkF m 262 #[Iv p1, Iv p2, Iv (3 : Int32), Iv ee0, Iv ee1, Iv ee2, Rv b_135, Iv (1 : Int32), Iv (0 : Int32), Iv (2 : Int32), Iv (2 : Int32), Us, Us] [.null, (.ref b_135)])) rfl (by rw [hMX]; rfl) (Steps.refl _) (argsL := [.null]) (rest := []) (lenOf pd__Lcom_example_actorium_actorium_DispatchedCell__I_3 rfl) rfl (by show 2 * 0 + _ ≤ _; exact Nat.le_of_eq rfl) (hb hBY at_262) (fun _ _ => ⟨rfl, e_226, (by decide : 2 + 0 ≤ _), (by decide : 10 + 0 ≤ _)⟩)
            dsimp only [Pt.U, Pt.locs, Pt.cells, Pt.slots] at X_228 l_228 y_228 z_228 st_228 hQ_228
            subst l_228 y_228 z_228
            obtain ⟨rfl, N_228q, K_228, hq_228_0, hq_228_1, hq_228_2, hq_228_3⟩ := hQ_228
            have N_228 := Fr.app N_226 N_228q
            have K__229 : Keep h0 T_228.heap [] := K__220.trans K_228 (allS (Or.inr sz_b_135) (allS (Or.inr sz_b__141) all0))
            have f_230 : Exa Z T_228.heap b_135 "com/example/actorium/actorium/Claimant$Sends" := hq_219_0.keep K_228
            refine Done.pre (fun _ k_ => st_228.trans k_) ?_
            show Done _ _ _ _ _ _ _ (T_228.setTop (mkF m 265 #[Iv p1, Iv p2, Iv (3 : Int32), Iv ee0, Iv ee1, Iv ee2, Rv b_135, Iv (1 : Int32), Iv (0 : Int32), Iv (2 : Int32), Iv (2 : Int32), Us, Us] [(.int (2 : Int32))]))
            have f_231 : Fld Z T_228.heap b_135 "com/example/actorium/actorium/Claimant$Sends" "top" "I" (.int (3 : Int32)) := by have q := hq_228_1; rw [show ((2 : Int32) + (1 : Int32)) = (3 : Int32) from by decide] at q; exact q
            have sg_232 : ∀ tt_, Steps p.tables e below (T_228.setTop (mkF m 269 #[Iv p1, Iv p2, Iv (3 : Int32), Iv ee0, Iv ee1, Iv ee2, Rv b_135, Iv (1 : Int32), Iv (0 : Int32), Iv (2 : Int32), Iv (2 : Int32), Iv (2 : Int32), Us] [(.ref b_135)])) tt_ → Steps p.tables e below (T_228.setTop (mkF m 265 #[Iv p1, Iv p2, Iv (3 : Int32), Iv ee0, Iv ee1, Iv ee2, Rv b_135, Iv (1 : Int32), Iv (0 : Int32), Iv (2 : Int32), Iv (2 : Int32), Us, Us] [(.int (2 : Int32))])) tt_ := by
              intro tt_ kt_
              refine XS.istore X_228.here hEX rfl (hb hBY at_265) rfl (l' := #[Iv p1, Iv p2, Iv (3 : Int32), Iv ee0, Iv ee1, Iv ee2, Rv b_135, Iv (1 : Int32), Iv (0 : Int32), Iv (2 : Int32), Iv (2 : Int32), Iv (2 : Int32), Us]) rfl ?_
              show Steps p.tables e below (T_228.setTop (mkF m 267 #[Iv p1, Iv p2, Iv (3 : Int32), Iv ee0, Iv ee1, Iv ee2, Rv b_135, Iv (1 : Int32), Iv (0 : Int32), Iv (2 : Int32), Iv (2 : Int32), Iv (2 : Int32), Us] [])) tt_
              refine XS.aload X_228.here hEX rfl (hb hBY at_267) rfl rfl ?_
              exact kt_
            refine Done.pre sg_232 ?_
            obtain ⟨cq_233, kq_233, q_233a, q_233b, q_233c⟩ := isOf hZW rfl hq_228_0
            obtain ⟨_, _, ⟨T_233, L_233, k_233, n_233⟩, -, X_233, ⟨Lc_233, hQ_233, l_233, y_233, z_233⟩, st_233⟩ := X_228.virtualBack hEX (y := (⟨"com/example/actorium/actorium/Claimant$Sends", "depth", "()I"⟩ : MethodName)) (z := (⟨"com/example/actorium/actorium/Claimant$Sends", "depth", "()I"⟩ : MethodName)) hOW (mvT hZW (hw _ (List.mem_of_getElem? (i := 21) rfl))) (mvT hZW (hw _ (List.mem_of_getElem? (i := 22) rfl))) (notFace_of_selects (args := #[]) (mvT hZW (hw _ (List.mem_of_getElem? (i := 24) rfl)))) (mvT hZW (hw _ (List.mem_of_getElem? (i := 24) rfl))) (mvT hZW (hw _ (List.mem_of_getElem? (i := 23) rfl))) (by decide) (backOf (W := 0) (rm_depth l Z aZ hw [] b_135 (3 : Int32) T_228.heap n0 (Nat.le_trans Z0 K__229.1) f_231) hZW (hw _ (List.mem_of_getElem? (i := 25) rfl)) (hw _ (List.mem_of_getElem? (i := 3) rfl)) (by decide) (by decide)) q_233a q_233c (g := (mkF m 269 #[Iv p1, Iv p2, Iv (3 : Int32), Iv ee0, Iv ee1, Iv ee2, Rv b_135, Iv (1 : Int32), Iv (0 : Int32), Iv (2 : Int32), Iv (2 : Int32), Iv (2 : Int32), Us] [(.ref b_135)])) rfl (by rw [hMX]; rfl) (Steps.refl _) (argsL := []) (rest := []) (lenOf pd___I_0 rfl) rfl (by show 2 * 0 + _ ≤ _; exact Nat.le_of_eq rfl) (hb hBY at_269) (fun _ _ => ⟨rfl, rfl, (by decide : 2 + 0 ≤ _), (by decide : 10 + 0 ≤ _)⟩)
            dsimp only [Pt.U, Pt.locs, Pt.cells, Pt.slots] at X_233 l_233 y_233 z_233 st_233 hQ_233
            subst l_233 y_233 z_233
            obtain ⟨rfl, N_233q, e_233⟩ := hQ_233
            have N_233 := Fr.app N_228 N_233q
            refine Done.pre (fun _ k_ => st_233.trans k_) ?_
            show Done _ _ _ _ _ _ _ (T_233.setTop (mkF m 272 #[Iv p1, Iv p2, Iv (3 : Int32), Iv ee0, Iv ee1, Iv ee2, Rv b_135, Iv (1 : Int32), Iv (0 : Int32), Iv (2 : Int32), Iv (2 : Int32), Iv (2 : Int32), Us] [(.int (3 : Int32))]))
            have sg_234 : ∀ tt_, Steps p.tables e below (T_233.setTop (mkF m 304 #[Iv p1, Iv p2, Iv (3 : Int32), Iv ee0, Iv ee1, Iv ee2, Rv b_135, Iv (1 : Int32), Iv (0 : Int32), Iv (2 : Int32), Iv (2 : Int32), Iv (2 : Int32), Iv (3 : Int32)] [(.int (1 : Int32))])) tt_ → Steps p.tables e below (T_233.setTop (mkF m 272 #[Iv p1, Iv p2, Iv (3 : Int32), Iv ee0, Iv ee1, Iv ee2, Rv b_135, Iv (1 : Int32), Iv (0 : Int32), Iv (2 : Int32), Iv (2 : Int32), Iv (2 : Int32), Us] [(.int (3 : Int32))])) tt_ := by
              intro tt_ kt_
              refine XS.istore X_233.here hEX rfl (hb hBY at_272) rfl (l' := #[Iv p1, Iv p2, Iv (3 : Int32), Iv ee0, Iv ee1, Iv ee2, Rv b_135, Iv (1 : Int32), Iv (0 : Int32), Iv (2 : Int32), Iv (2 : Int32), Iv (2 : Int32), Iv (3 : Int32)]) rfl ?_
              show Steps p.tables e below (T_233.setTop (mkF m 274 #[Iv p1, Iv p2, Iv (3 : Int32), Iv ee0, Iv ee1, Iv ee2, Rv b_135, Iv (1 : Int32), Iv (0 : Int32), Iv (2 : Int32), Iv (2 : Int32), Iv (2 : Int32), Iv (3 : Int32)] [])) tt_
              refine XS.iload X_233.here hEX rfl (hb hBY at_274) rfl ?_
              show Steps p.tables e below (T_233.setTop (mkF m 276 #[Iv p1, Iv p2, Iv (3 : Int32), Iv ee0, Iv ee1, Iv ee2, Rv b_135, Iv (1 : Int32), Iv (0 : Int32), Iv (2 : Int32), Iv (2 : Int32), Iv (2 : Int32), Iv (3 : Int32)] [(.int (1 : Int32))])) tt_
              refine XS.ifNo X_233.here hEX rfl (hb hBY at_276) rfl ((if0 _ _).trans (feq (by decide : ¬ ((1 : Int32) = (0 : Int32)))).1) ?_
              show Steps p.tables e below (T_233.setTop (mkF m 279 #[Iv p1, Iv p2, Iv (3 : Int32), Iv ee0, Iv ee1, Iv ee2, Rv b_135, Iv (1 : Int32), Iv (0 : Int32), Iv (2 : Int32), Iv (2 : Int32), Iv (2 : Int32), Iv (3 : Int32)] [])) tt_
              refine XS.iload X_233.here hEX rfl (hb hBY at_279) rfl ?_
              show Steps p.tables e below (T_233.setTop (mkF m 281 #[Iv p1, Iv p2, Iv (3 : Int32), Iv ee0, Iv ee1, Iv ee2, Rv b_135, Iv (1 : Int32), Iv (0 : Int32), Iv (2 : Int32), Iv (2 : Int32), Iv (2 : Int32), Iv (3 : Int32)] [(.int (2 : Int32))])) tt_
              refine XS.iload X_233.here hEX rfl (hb hBY at_281) rfl ?_
              show Steps p.tables e below (T_233.setTop (mkF m 283 #[Iv p1, Iv p2, Iv (3 : Int32), Iv ee0, Iv ee1, Iv ee2, Rv b_135, Iv (1 : Int32), Iv (0 : Int32), Iv (2 : Int32), Iv (2 : Int32), Iv (2 : Int32), Iv (3 : Int32)] [(.int (2 : Int32)), (.int (2 : Int32))])) tt_
              refine XS.icmpNo X_233.here hEX rfl (hb hBY at_283) rfl (teq (by decide : (2 : Int32) = (2 : Int32))).2 ?_
              show Steps p.tables e below (T_233.setTop (mkF m 286 #[Iv p1, Iv p2, Iv (3 : Int32), Iv ee0, Iv ee1, Iv ee2, Rv b_135, Iv (1 : Int32), Iv (0 : Int32), Iv (2 : Int32), Iv (2 : Int32), Iv (2 : Int32), Iv (3 : Int32)] [])) tt_
              refine XS.iload X_233.here hEX rfl (hb hBY at_286) rfl ?_
              show Steps p.tables e below (T_233.setTop (mkF m 288 #[Iv p1, Iv p2, Iv (3 : Int32), Iv ee0, Iv ee1, Iv ee2, Rv b_135, Iv (1 : Int32), Iv (0 : Int32), Iv (2 : Int32), Iv (2 : Int32), Iv (2 : Int32), Iv (3 : Int32)] [(.int (3 : Int32))])) tt_
              refine XS.iload X_233.here hEX rfl (hb hBY at_288) rfl ?_
              show Steps p.tables e below (T_233.setTop (mkF m 290 #[Iv p1, Iv p2, Iv (3 : Int32), Iv ee0, Iv ee1, Iv ee2, Rv b_135, Iv (1 : Int32), Iv (0 : Int32), Iv (2 : Int32), Iv (2 : Int32), Iv (2 : Int32), Iv (3 : Int32)] [(.int (2 : Int32)), (.int (3 : Int32))])) tt_
              refine XS.iconst X_233.here hEX rfl (hb hBY at_290) ?_
              show Steps p.tables e below (T_233.setTop (mkF m 291 #[Iv p1, Iv p2, Iv (3 : Int32), Iv ee0, Iv ee1, Iv ee2, Rv b_135, Iv (1 : Int32), Iv (0 : Int32), Iv (2 : Int32), Iv (2 : Int32), Iv (2 : Int32), Iv (3 : Int32)] [(.int (1 : Int32)), (.int (2 : Int32)), (.int (3 : Int32))])) tt_
              refine XS.iadd X_233.here hEX rfl (hb hBY at_291) rfl ?_
              show Steps p.tables e below (T_233.setTop (mkF m 292 #[Iv p1, Iv p2, Iv (3 : Int32), Iv ee0, Iv ee1, Iv ee2, Rv b_135, Iv (1 : Int32), Iv (0 : Int32), Iv (2 : Int32), Iv (2 : Int32), Iv (2 : Int32), Iv (3 : Int32)] [(.int (3 : Int32)), (.int (3 : Int32))])) tt_
              refine XS.icmpNo X_233.here hEX rfl (hb hBY at_292) rfl (teq (by decide : (3 : Int32) = (3 : Int32))).2 ?_
              show Steps p.tables e below (T_233.setTop (mkF m 295 #[Iv p1, Iv p2, Iv (3 : Int32), Iv ee0, Iv ee1, Iv ee2, Rv b_135, Iv (1 : Int32), Iv (0 : Int32), Iv (2 : Int32), Iv (2 : Int32), Iv (2 : Int32), Iv (3 : Int32)] [])) tt_
              refine XS.iconst X_233.here hEX rfl (hb hBY at_295) ?_
              show Steps p.tables e below (T_233.setTop (mkF m 296 #[Iv p1, Iv p2, Iv (3 : Int32), Iv ee0, Iv ee1, Iv ee2, Rv b_135, Iv (1 : Int32), Iv (0 : Int32), Iv (2 : Int32), Iv (2 : Int32), Iv (2 : Int32), Iv (3 : Int32)] [(.int (1 : Int32))])) tt_
              refine XS.goto X_233.here hEX rfl (pc0 := 296) (pc' := 300) rfl (hb hBY at_296) (by decide) (by decide) ?_
              show Steps p.tables e below (T_233.setTop (mkF m 300 #[Iv p1, Iv p2, Iv (3 : Int32), Iv ee0, Iv ee1, Iv ee2, Rv b_135, Iv (1 : Int32), Iv (0 : Int32), Iv (2 : Int32), Iv (2 : Int32), Iv (2 : Int32), Iv (3 : Int32)] [(.int (1 : Int32))])) tt_
              refine XS.istore X_233.here hEX rfl (hb hBY at_300) rfl (l' := #[Iv p1, Iv p2, Iv (3 : Int32), Iv ee0, Iv ee1, Iv ee2, Rv b_135, Iv (1 : Int32), Iv (0 : Int32), Iv (2 : Int32), Iv (2 : Int32), Iv (2 : Int32), Iv (3 : Int32)]) rfl ?_
              show Steps p.tables e below (T_233.setTop (mkF m 302 #[Iv p1, Iv p2, Iv (3 : Int32), Iv ee0, Iv ee1, Iv ee2, Rv b_135, Iv (1 : Int32), Iv (0 : Int32), Iv (2 : Int32), Iv (2 : Int32), Iv (2 : Int32), Iv (3 : Int32)] [])) tt_
              refine XS.iload X_233.here hEX rfl (hb hBY at_302) rfl ?_
              exact kt_
            refine Done.pre sg_234 ?_
            exact Done.retN X_233 hEX hLK (t := .boolean) hRT (by simp) (hb hBY at_304) (by rw [e_233]; exact ⟨rfl, N_233, K__229⟩) (by decide) (by decide)
          · skip
            have sg_235 : ∀ tt_, Steps p.tables e below (T_219.setTop (mkF m 185 #[Iv p1, Iv p2, Iv (3 : Int32), Iv ee0, Iv ee1, Iv ee2, Rv b_135, Iv (1 : Int32), Iv (0 : Int32), Iv (2 : Int32), Us, Us, Us] [(.int (0 : Int32)), (.ref b_135)])) tt_ → Steps p.tables e below (T_219.setTop (mkF m 179 #[Iv p1, Iv p2, Iv (3 : Int32), Iv ee0, Iv ee1, Iv ee2, Rv b_135, Iv (1 : Int32), Iv (0 : Int32), Iv (2 : Int32), Us, Us, Us] [(.int ee0)])) tt_ := by
              intro tt_ kt_
              refine XS.ifNo X_219.here hEX rfl (hb hBY at_179) rfl ((if0 _ _).trans (feq hc179).1) ?_
              show Steps p.tables e below (T_219.setTop (mkF m 182 #[Iv p1, Iv p2, Iv (3 : Int32), Iv ee0, Iv ee1, Iv ee2, Rv b_135, Iv (1 : Int32), Iv (0 : Int32), Iv (2 : Int32), Us, Us, Us] [])) tt_
              refine XS.aload X_219.here hEX rfl (hb hBY at_182) rfl rfl ?_
              show Steps p.tables e below (T_219.setTop (mkF m 184 #[Iv p1, Iv p2, Iv (3 : Int32), Iv ee0, Iv ee1, Iv ee2, Rv b_135, Iv (1 : Int32), Iv (0 : Int32), Iv (2 : Int32), Us, Us, Us] [(.ref b_135)])) tt_
              refine XS.iconst X_219.here hEX rfl (hb hBY at_184) ?_
              exact kt_
            refine Done.pre sg_235 ?_
            obtain ⟨cq_236, kq_236, q_236a, q_236b, q_236c⟩ := isOf hZW rfl hq_219_0
            obtain ⟨_, _, ⟨T_236, L_236, k_236, n_236⟩, -, X_236, ⟨Lc_236, hQ_236, l_236, y_236, z_236⟩, st_236⟩ := X_219.virtualBack hEX (y := (⟨"com/example/actorium/actorium/Claimant$Sends", "end", "(I)V"⟩ : MethodName)) (z := (⟨"com/example/actorium/actorium/Claimant$Sends", "end", "(I)V"⟩ : MethodName)) hOW (mvT hZW (hw _ (List.mem_of_getElem? (i := 26) rfl))) (mvT hZW (hw _ (List.mem_of_getElem? (i := 27) rfl))) (notFace_of_selects (args := #[]) (mvT hZW (hw _ (List.mem_of_getElem? (i := 29) rfl)))) (mvT hZW (hw _ (List.mem_of_getElem? (i := 29) rfl))) (mvT hZW (hw _ (List.mem_of_getElem? (i := 28) rfl))) (by decide) (backOf (W := 0) (rm_end l Z aZ hw [] b_135 (0 : Int32) (2 : Int32) b__141 k__141 T_219.heap n0 (Nat.le_trans Z0 K__220.1) hq_219_0 f_222 hq_219_2 hq_219_3 ge_b_135 (Nat.le_trans Z0 sz_b__141) ne_b_135_b__141 (by decide)) hZW (hw _ (List.mem_of_getElem? (i := 30) rfl)) (hw _ (List.mem_of_getElem? (i := 3) rfl)) (by decide) (by decide)) q_236a q_236c (g := (mkF m 185 #[Iv p1, Iv p2, Iv (3 : Int32), Iv ee0, Iv ee1, Iv ee2, Rv b_135, Iv (1 : Int32), Iv (0 : Int32), Iv (2 : Int32), Us, Us, Us] [(.int (0 : Int32)), (.ref b_135)])) rfl (by rw [hMX]; rfl) (Steps.refl _) (argsL := [(.int (0 : Int32))]) (rest := []) (lenOf pd__I_V_2 rfl) rfl (by show 2 * 0 + _ ≤ _; exact Nat.le_of_eq rfl) (hb hBY at_185) (fun _ _ => ⟨rfl, rfl, (by decide : 2 + 0 ≤ _), (by decide : 10 + 0 ≤ _)⟩)
            dsimp only [Pt.U, Pt.locs, Pt.cells, Pt.slots] at X_236 l_236 y_236 z_236 st_236 hQ_236
            subst l_236 y_236 z_236
            obtain ⟨rfl, N_236q, K_236, hq_236_0, hq_236_1, hq_236_2, hq_236_3⟩ := hQ_236
            have N_236 := Fr.app N_219 N_236q
            have K__237 : Keep h0 T_236.heap [] := K__220.trans K_236 (allS (Or.inr sz_b_135) (allS (Or.inr sz_b__141) all0))
            have f_238 : Exa Z T_236.heap b_135 "com/example/actorium/actorium/Claimant$Sends" := hq_219_0.keep K_236
            refine Done.pre (fun _ k_ => st_236.trans k_) ?_
            show Done _ _ _ _ _ _ _ (T_236.setTop (mkF m 188 #[Iv p1, Iv p2, Iv (3 : Int32), Iv ee0, Iv ee1, Iv ee2, Rv b_135, Iv (1 : Int32), Iv (0 : Int32), Iv (2 : Int32), Us, Us, Us] []))
            have f_239 : Fld Z T_236.heap b_135 "com/example/actorium/actorium/Claimant$Sends" "top" "I" (.int (2 : Int32)) := by have q := hq_236_1; rw [show (own_end (2 : Int32) (0 : Int32)) = (2 : Int32) from by decide] at q; exact q
            have sg_240 : ∀ tt_, Steps p.tables e below (T_236.setTop (mkF m 235 #[Iv p1, Iv p2, Iv (3 : Int32), Iv ee0, Iv ee1, Iv ee2, Rv b_135, Iv (1 : Int32), Iv (0 : Int32), Iv (2 : Int32), Us, Us, Us] [(.ref b_135)])) tt_ → Steps p.tables e below (T_236.setTop (mkF m 188 #[Iv p1, Iv p2, Iv (3 : Int32), Iv ee0, Iv ee1, Iv ee2, Rv b_135, Iv (1 : Int32), Iv (0 : Int32), Iv (2 : Int32), Us, Us, Us] [])) tt_ := by
              intro tt_ kt_
              refine XS.iloadN X_236.here hEX rfl (hb hBY at_188) rfl ?_
              show Steps p.tables e below (T_236.setTop (mkF m 189 #[Iv p1, Iv p2, Iv (3 : Int32), Iv ee0, Iv ee1, Iv ee2, Rv b_135, Iv (1 : Int32), Iv (0 : Int32), Iv (2 : Int32), Us, Us, Us] [(.int (3 : Int32))])) tt_
              refine XS.iconst X_236.here hEX rfl (hb hBY at_189) ?_
              show Steps p.tables e below (T_236.setTop (mkF m 190 #[Iv p1, Iv p2, Iv (3 : Int32), Iv ee0, Iv ee1, Iv ee2, Rv b_135, Iv (1 : Int32), Iv (0 : Int32), Iv (2 : Int32), Us, Us, Us] [(.int (3 : Int32)), (.int (3 : Int32))])) tt_
              refine XS.icmpNo X_236.here hEX rfl (hb hBY at_190) rfl (flt (by decide : ¬ ((3 : Int32) < (3 : Int32)))).1 ?_
              show Steps p.tables e below (T_236.setTop (mkF m 193 #[Iv p1, Iv p2, Iv (3 : Int32), Iv ee0, Iv ee1, Iv ee2, Rv b_135, Iv (1 : Int32), Iv (0 : Int32), Iv (2 : Int32), Us, Us, Us] [])) tt_
              refine XS.iload X_236.here hEX rfl (hb hBY at_193) rfl ?_
              show Steps p.tables e below (T_236.setTop (mkF m 195 #[Iv p1, Iv p2, Iv (3 : Int32), Iv ee0, Iv ee1, Iv ee2, Rv b_135, Iv (1 : Int32), Iv (0 : Int32), Iv (2 : Int32), Us, Us, Us] [(.int ee2)])) tt_
              refine XS.ifYes X_236.here hEX rfl (pc0 := 195) (pc' := 204) rfl (hb hBY at_195) rfl ((if0 _ _).trans (feq hc158).2) (by decide) (by decide) ?_
              show Steps p.tables e below (T_236.setTop (mkF m 204 #[Iv p1, Iv p2, Iv (3 : Int32), Iv ee0, Iv ee1, Iv ee2, Rv b_135, Iv (1 : Int32), Iv (0 : Int32), Iv (2 : Int32), Us, Us, Us] [])) tt_
              refine XS.iloadN X_236.here hEX rfl (hb hBY at_204) rfl ?_
              show Steps p.tables e below (T_236.setTop (mkF m 205 #[Iv p1, Iv p2, Iv (3 : Int32), Iv ee0, Iv ee1, Iv ee2, Rv b_135, Iv (1 : Int32), Iv (0 : Int32), Iv (2 : Int32), Us, Us, Us] [(.int (3 : Int32))])) tt_
              refine XS.iconst X_236.here hEX rfl (hb hBY at_205) ?_
              show Steps p.tables e below (T_236.setTop (mkF m 206 #[Iv p1, Iv p2, Iv (3 : Int32), Iv ee0, Iv ee1, Iv ee2, Rv b_135, Iv (1 : Int32), Iv (0 : Int32), Iv (2 : Int32), Us, Us, Us] [(.int (2 : Int32)), (.int (3 : Int32))])) tt_
              refine XS.icmpNo X_236.here hEX rfl (hb hBY at_206) rfl (flt (by decide : ¬ ((3 : Int32) < (2 : Int32)))).1 ?_
              show Steps p.tables e below (T_236.setTop (mkF m 209 #[Iv p1, Iv p2, Iv (3 : Int32), Iv ee0, Iv ee1, Iv ee2, Rv b_135, Iv (1 : Int32), Iv (0 : Int32), Iv (2 : Int32), Us, Us, Us] [])) tt_
              refine XS.iload X_236.here hEX rfl (hb hBY at_209) rfl ?_
              show Steps p.tables e below (T_236.setTop (mkF m 211 #[Iv p1, Iv p2, Iv (3 : Int32), Iv ee0, Iv ee1, Iv ee2, Rv b_135, Iv (1 : Int32), Iv (0 : Int32), Iv (2 : Int32), Us, Us, Us] [(.int ee1)])) tt_
              refine XS.ifNo X_236.here hEX rfl (hb hBY at_211) rfl ((if0 _ _).trans (teq hc169).2) ?_
              show Steps p.tables e below (T_236.setTop (mkF m 214 #[Iv p1, Iv p2, Iv (3 : Int32), Iv ee0, Iv ee1, Iv ee2, Rv b_135, Iv (1 : Int32), Iv (0 : Int32), Iv (2 : Int32), Us, Us, Us] [])) tt_
              refine XS.iconst X_236.here hEX rfl (hb hBY at_214) ?_
              show Steps p.tables e below (T_236.setTop (mkF m 215 #[Iv p1, Iv p2, Iv (3 : Int32), Iv ee0, Iv ee1, Iv ee2, Rv b_135, Iv (1 : Int32), Iv (0 : Int32), Iv (2 : Int32), Us, Us, Us] [(.int (2 : Int32))])) tt_
              refine XS.istore X_236.here hEX rfl (hb hBY at_215) rfl (l' := #[Iv p1, Iv p2, Iv (3 : Int32), Iv ee0, Iv ee1, Iv ee2, Rv b_135, Iv (1 : Int32), Iv (0 : Int32), Iv (2 : Int32), Us, Us, Us]) rfl ?_
              show Steps p.tables e below (T_236.setTop (mkF m 217 #[Iv p1, Iv p2, Iv (3 : Int32), Iv ee0, Iv ee1, Iv ee2, Rv b_135, Iv (1 : Int32), Iv (0 : Int32), Iv (2 : Int32), Us, Us, Us] [])) tt_
              refine XS.goto X_236.here hEX rfl (pc0 := 217) (pc' := 233) rfl (hb hBY at_217) (by decide) (by decide) ?_
              show Steps p.tables e below (T_236.setTop (mkF m 233 #[Iv p1, Iv p2, Iv (3 : Int32), Iv ee0, Iv ee1, Iv ee2, Rv b_135, Iv (1 : Int32), Iv (0 : Int32), Iv (2 : Int32), Us, Us, Us] [])) tt_
              refine XS.aload X_236.here hEX rfl (hb hBY at_233) rfl rfl ?_
              exact kt_
            refine Done.pre sg_240 ?_
            obtain ⟨cq_241, kq_241, q_241a, q_241b, q_241c⟩ := isOf hZW rfl hq_236_0
            obtain ⟨_, _, ⟨T_241, L_241, k_241, n_241⟩, -, X_241, ⟨Lc_241, hQ_241, l_241, y_241, z_241⟩, st_241⟩ := X_236.virtualBack hEX (y := (⟨"com/example/actorium/actorium/Claimant$Sends", "depth", "()I"⟩ : MethodName)) (z := (⟨"com/example/actorium/actorium/Claimant$Sends", "depth", "()I"⟩ : MethodName)) hOW (mvT hZW (hw _ (List.mem_of_getElem? (i := 21) rfl))) (mvT hZW (hw _ (List.mem_of_getElem? (i := 22) rfl))) (notFace_of_selects (args := #[]) (mvT hZW (hw _ (List.mem_of_getElem? (i := 24) rfl)))) (mvT hZW (hw _ (List.mem_of_getElem? (i := 24) rfl))) (mvT hZW (hw _ (List.mem_of_getElem? (i := 23) rfl))) (by decide) (backOf (W := 0) (rm_depth l Z aZ hw [] b_135 (2 : Int32) T_236.heap n0 (Nat.le_trans Z0 K__237.1) f_239) hZW (hw _ (List.mem_of_getElem? (i := 25) rfl)) (hw _ (List.mem_of_getElem? (i := 3) rfl)) (by decide) (by decide)) q_241a q_241c (g := (mkF m 235 #[Iv p1, Iv p2, Iv (3 : Int32), Iv ee0, Iv ee1, Iv ee2, Rv b_135, Iv (1 : Int32), Iv (0 : Int32), Iv (2 : Int32), Us, Us, Us] [(.ref b_135)])) rfl (by rw [hMX]; rfl) (Steps.refl _) (argsL := []) (rest := []) (lenOf pd___I_0 rfl) rfl (by show 2 * 0 + _ ≤ _; exact Nat.le_of_eq rfl) (hb hBY at_235) (fun _ _ => ⟨rfl, rfl, (by decide : 2 + 0 ≤ _), (by decide : 10 + 0 ≤ _)⟩)
            dsimp only [Pt.U, Pt.locs, Pt.cells, Pt.slots] at X_241 l_241 y_241 z_241 st_241 hQ_241
            subst l_241 y_241 z_241
            obtain ⟨rfl, N_241q, e_241⟩ := hQ_241
            have N_241 := Fr.app N_236 N_241q
            refine Done.pre (fun _ k_ => st_241.trans k_) ?_
            show Done _ _ _ _ _ _ _ (T_241.setTop (mkF m 238 #[Iv p1, Iv p2, Iv (3 : Int32), Iv ee0, Iv ee1, Iv ee2, Rv b_135, Iv (1 : Int32), Iv (0 : Int32), Iv (2 : Int32), Us, Us, Us] [(.int (2 : Int32))]))
            have sg_242 : ∀ tt_, Steps p.tables e below (T_241.setTop (mkF m 262 #[Iv p1, Iv p2, Iv (3 : Int32), Iv ee0, Iv ee1, Iv ee2, Rv b_135, Iv (1 : Int32), Iv (0 : Int32), Iv (2 : Int32), Iv (2 : Int32), Us, Us] [.null, (.ref b_135)])) tt_ → Steps p.tables e below (T_241.setTop (mkF m 238 #[Iv p1, Iv p2, Iv (3 : Int32), Iv ee0, Iv ee1, Iv ee2, Rv b_135, Iv (1 : Int32), Iv (0 : Int32), Iv (2 : Int32), Us, Us, Us] [(.int (2 : Int32))])) tt_ := by
              intro tt_ kt_
              refine XS.istore X_241.here hEX rfl (hb hBY at_238) rfl (l' := #[Iv p1, Iv p2, Iv (3 : Int32), Iv ee0, Iv ee1, Iv ee2, Rv b_135, Iv (1 : Int32), Iv (0 : Int32), Iv (2 : Int32), Iv (2 : Int32), Us, Us]) rfl ?_
              show Steps p.tables e below (T_241.setTop (mkF m 240 #[Iv p1, Iv p2, Iv (3 : Int32), Iv ee0, Iv ee1, Iv ee2, Rv b_135, Iv (1 : Int32), Iv (0 : Int32), Iv (2 : Int32), Iv (2 : Int32), Us, Us] [])) tt_
              refine XS.iload X_241.here hEX rfl (hb hBY at_240) rfl ?_
              show Steps p.tables e below (T_241.setTop (mkF m 242 #[Iv p1, Iv p2, Iv (3 : Int32), Iv ee0, Iv ee1, Iv ee2, Rv b_135, Iv (1 : Int32), Iv (0 : Int32), Iv (2 : Int32), Iv (2 : Int32), Us, Us] [(.int (1 : Int32))])) tt_
              refine XS.ifNo X_241.here hEX rfl (hb hBY at_242) rfl ((if0 _ _).trans (feq (by decide : ¬ ((1 : Int32) = (0 : Int32)))).1) ?_
              show Steps p.tables e below (T_241.setTop (mkF m 245 #[Iv p1, Iv p2, Iv (3 : Int32), Iv ee0, Iv ee1, Iv ee2, Rv b_135, Iv (1 : Int32), Iv (0 : Int32), Iv (2 : Int32), Iv (2 : Int32), Us, Us] [])) tt_
              refine XS.iload X_241.here hEX rfl (hb hBY at_245) rfl ?_
              show Steps p.tables e below (T_241.setTop (mkF m 247 #[Iv p1, Iv p2, Iv (3 : Int32), Iv ee0, Iv ee1, Iv ee2, Rv b_135, Iv (1 : Int32), Iv (0 : Int32), Iv (2 : Int32), Iv (2 : Int32), Us, Us] [(.int (2 : Int32))])) tt_
              refine XS.iload X_241.here hEX rfl (hb hBY at_247) rfl ?_
              show Steps p.tables e below (T_241.setTop (mkF m 249 #[Iv p1, Iv p2, Iv (3 : Int32), Iv ee0, Iv ee1, Iv ee2, Rv b_135, Iv (1 : Int32), Iv (0 : Int32), Iv (2 : Int32), Iv (2 : Int32), Us, Us] [(.int (2 : Int32)), (.int (2 : Int32))])) tt_
              refine XS.icmpNo X_241.here hEX rfl (hb hBY at_249) rfl (teq (by decide : (2 : Int32) = (2 : Int32))).2 ?_
              show Steps p.tables e below (T_241.setTop (mkF m 252 #[Iv p1, Iv p2, Iv (3 : Int32), Iv ee0, Iv ee1, Iv ee2, Rv b_135, Iv (1 : Int32), Iv (0 : Int32), Iv (2 : Int32), Iv (2 : Int32), Us, Us] [])) tt_
              refine XS.iconst X_241.here hEX rfl (hb hBY at_252) ?_
              show Steps p.tables e below (T_241.setTop (mkF m 253 #[Iv p1, Iv p2, Iv (3 : Int32), Iv ee0, Iv ee1, Iv ee2, Rv b_135, Iv (1 : Int32), Iv (0 : Int32), Iv (2 : Int32), Iv (2 : Int32), Us, Us] [(.int (1 : Int32))])) tt_
              refine XS.goto X_241.here hEX rfl (pc0 := 253) (pc' := 257) rfl (hb hBY at_253) (by decide) (by decide) ?_
              show Steps p.tables e below (T_241.setTop (mkF m 257 #[Iv p1, Iv p2, Iv (3 : Int32), Iv ee0, Iv ee1, Iv ee2, Rv b_135, Iv (1 : Int32), Iv (0 : Int32), Iv (2 : Int32), Iv (2 : Int32), Us, Us] [(.int (1 : Int32))])) tt_
              refine XS.istore X_241.here hEX rfl (hb hBY at_257) rfl (l' := #[Iv p1, Iv p2, Iv (3 : Int32), Iv ee0, Iv ee1, Iv ee2, Rv b_135, Iv (1 : Int32), Iv (0 : Int32), Iv (2 : Int32), Iv (2 : Int32), Us, Us]) rfl ?_
              show Steps p.tables e below (T_241.setTop (mkF m 259 #[Iv p1, Iv p2, Iv (3 : Int32), Iv ee0, Iv ee1, Iv ee2, Rv b_135, Iv (1 : Int32), Iv (0 : Int32), Iv (2 : Int32), Iv (2 : Int32), Us, Us] [])) tt_
              refine XS.aload X_241.here hEX rfl (hb hBY at_259) rfl rfl ?_
              show Steps p.tables e below (T_241.setTop (mkF m 261 #[Iv p1, Iv p2, Iv (3 : Int32), Iv ee0, Iv ee1, Iv ee2, Rv b_135, Iv (1 : Int32), Iv (0 : Int32), Iv (2 : Int32), Iv (2 : Int32), Us, Us] [(.ref b_135)])) tt_
              refine XS.aconstNull X_241.here hEX rfl (hb hBY at_261) ?_
              exact kt_
            refine Done.pre sg_242 ?_
            obtain ⟨cq_243, kq_243, q_243a, q_243b, q_243c⟩ := isOf hZW e_241 hq_236_0
            obtain ⟨_, _, ⟨T_243, L_243, k_243, n_243⟩, -, X_243, ⟨Lc_243, hQ_243, l_243, y_243, z_243⟩, st_243⟩ := X_241.virtualBack hEX (y := (⟨"com/example/actorium/actorium/Claimant$Sends", "begin", "(Lcom/example/actorium/actorium/DispatchedCell;)I"⟩ : MethodName)) (z := (⟨"com/example/actorium/actorium/Claimant$Sends", "begin", "(Lcom/example/actorium/actorium/DispatchedCell;)I"⟩ : MethodName)) hOW (mvT hZW (hw _ (List.mem_of_getElem? (i := 14) rfl))) (mvT hZW (hw _ (List.mem_of_getElem? (i := 15) rfl))) (notFace_of_selects (args := #[]) (mvT hZW (hw _ (List.mem_of_getElem? (i := 17) rfl)))) (mvT hZW (hw _ (List.mem_of_getElem? (i := 17) rfl))) (mvT hZW (hw _ (List.mem_of_getElem? (i := 16) rfl))) (by decide) (backOf (W := 0) (rm_begin l Z aZ hw [] b_135 (2 : Int32) b__141 k__141 T_236.heap n0 (Nat.le_trans Z0 K__237.1) hq_236_0 f_239 hq_236_2 hq_236_3 ge_b_135 (Nat.le_trans Z0 sz_b__141) ne_b_135_b__141 (by decide)) hZW (hw _ (List.mem_of_getElem? (i := 18) rfl)) (hw _ (List.mem_of_getElem? (i := 3) rfl)) (by decide) (by decide)) q_243a q_243c (g := (mkF m 262 #[Iv p1, Iv p2, Iv (3 : Int32), Iv ee0, Iv ee1, Iv ee2, Rv b_135, Iv (1 : Int32), Iv (0 : Int32), Iv (2 : Int32), Iv (2 : Int32), Us, Us] [.null, (.ref b_135)])) rfl (by rw [hMX]; rfl) (Steps.refl _) (argsL := [.null]) (rest := []) (lenOf pd__Lcom_example_actorium_actorium_DispatchedCell__I_3 rfl) rfl (by show 2 * 0 + _ ≤ _; exact Nat.le_of_eq rfl) (hb hBY at_262) (fun _ _ => ⟨rfl, e_241, (by decide : 2 + 0 ≤ _), (by decide : 10 + 0 ≤ _)⟩)
            dsimp only [Pt.U, Pt.locs, Pt.cells, Pt.slots] at X_243 l_243 y_243 z_243 st_243 hQ_243
            subst l_243 y_243 z_243
            obtain ⟨rfl, N_243q, K_243, hq_243_0, hq_243_1, hq_243_2, hq_243_3⟩ := hQ_243
            have N_243 := Fr.app N_241 N_243q
            have K__244 : Keep h0 T_243.heap [] := K__237.trans K_243 (allS (Or.inr sz_b_135) (allS (Or.inr sz_b__141) all0))
            have f_245 : Exa Z T_243.heap b_135 "com/example/actorium/actorium/Claimant$Sends" := hq_236_0.keep K_243
            refine Done.pre (fun _ k_ => st_243.trans k_) ?_
            show Done _ _ _ _ _ _ _ (T_243.setTop (mkF m 265 #[Iv p1, Iv p2, Iv (3 : Int32), Iv ee0, Iv ee1, Iv ee2, Rv b_135, Iv (1 : Int32), Iv (0 : Int32), Iv (2 : Int32), Iv (2 : Int32), Us, Us] [(.int (2 : Int32))]))
            have f_246 : Fld Z T_243.heap b_135 "com/example/actorium/actorium/Claimant$Sends" "top" "I" (.int (3 : Int32)) := by have q := hq_243_1; rw [show ((2 : Int32) + (1 : Int32)) = (3 : Int32) from by decide] at q; exact q
            have sg_247 : ∀ tt_, Steps p.tables e below (T_243.setTop (mkF m 269 #[Iv p1, Iv p2, Iv (3 : Int32), Iv ee0, Iv ee1, Iv ee2, Rv b_135, Iv (1 : Int32), Iv (0 : Int32), Iv (2 : Int32), Iv (2 : Int32), Iv (2 : Int32), Us] [(.ref b_135)])) tt_ → Steps p.tables e below (T_243.setTop (mkF m 265 #[Iv p1, Iv p2, Iv (3 : Int32), Iv ee0, Iv ee1, Iv ee2, Rv b_135, Iv (1 : Int32), Iv (0 : Int32), Iv (2 : Int32), Iv (2 : Int32), Us, Us] [(.int (2 : Int32))])) tt_ := by
              intro tt_ kt_
              refine XS.istore X_243.here hEX rfl (hb hBY at_265) rfl (l' := #[Iv p1, Iv p2, Iv (3 : Int32), Iv ee0, Iv ee1, Iv ee2, Rv b_135, Iv (1 : Int32), Iv (0 : Int32), Iv (2 : Int32), Iv (2 : Int32), Iv (2 : Int32), Us]) rfl ?_
              show Steps p.tables e below (T_243.setTop (mkF m 267 #[Iv p1, Iv p2, Iv (3 : Int32), Iv ee0, Iv ee1, Iv ee2, Rv b_135, Iv (1 : Int32), Iv (0 : Int32), Iv (2 : Int32), Iv (2 : Int32), Iv (2 : Int32), Us] [])) tt_
              refine XS.aload X_243.here hEX rfl (hb hBY at_267) rfl rfl ?_
              exact kt_
            refine Done.pre sg_247 ?_
            obtain ⟨cq_248, kq_248, q_248a, q_248b, q_248c⟩ := isOf hZW rfl hq_243_0
            obtain ⟨_, _, ⟨T_248, L_248, k_248, n_248⟩, -, X_248, ⟨Lc_248, hQ_248, l_248, y_248, z_248⟩, st_248⟩ := X_243.virtualBack hEX (y := (⟨"com/example/actorium/actorium/Claimant$Sends", "depth", "()I"⟩ : MethodName)) (z := (⟨"com/example/actorium/actorium/Claimant$Sends", "depth", "()I"⟩ : MethodName)) hOW (mvT hZW (hw _ (List.mem_of_getElem? (i := 21) rfl))) (mvT hZW (hw _ (List.mem_of_getElem? (i := 22) rfl))) (notFace_of_selects (args := #[]) (mvT hZW (hw _ (List.mem_of_getElem? (i := 24) rfl)))) (mvT hZW (hw _ (List.mem_of_getElem? (i := 24) rfl))) (mvT hZW (hw _ (List.mem_of_getElem? (i := 23) rfl))) (by decide) (backOf (W := 0) (rm_depth l Z aZ hw [] b_135 (3 : Int32) T_243.heap n0 (Nat.le_trans Z0 K__244.1) f_246) hZW (hw _ (List.mem_of_getElem? (i := 25) rfl)) (hw _ (List.mem_of_getElem? (i := 3) rfl)) (by decide) (by decide)) q_248a q_248c (g := (mkF m 269 #[Iv p1, Iv p2, Iv (3 : Int32), Iv ee0, Iv ee1, Iv ee2, Rv b_135, Iv (1 : Int32), Iv (0 : Int32), Iv (2 : Int32), Iv (2 : Int32), Iv (2 : Int32), Us] [(.ref b_135)])) rfl (by rw [hMX]; rfl) (Steps.refl _) (argsL := []) (rest := []) (lenOf pd___I_0 rfl) rfl (by show 2 * 0 + _ ≤ _; exact Nat.le_of_eq rfl) (hb hBY at_269) (fun _ _ => ⟨rfl, rfl, (by decide : 2 + 0 ≤ _), (by decide : 10 + 0 ≤ _)⟩)
            dsimp only [Pt.U, Pt.locs, Pt.cells, Pt.slots] at X_248 l_248 y_248 z_248 st_248 hQ_248
            subst l_248 y_248 z_248
            obtain ⟨rfl, N_248q, e_248⟩ := hQ_248
            have N_248 := Fr.app N_243 N_248q
            refine Done.pre (fun _ k_ => st_248.trans k_) ?_
            show Done _ _ _ _ _ _ _ (T_248.setTop (mkF m 272 #[Iv p1, Iv p2, Iv (3 : Int32), Iv ee0, Iv ee1, Iv ee2, Rv b_135, Iv (1 : Int32), Iv (0 : Int32), Iv (2 : Int32), Iv (2 : Int32), Iv (2 : Int32), Us] [(.int (3 : Int32))]))
            have sg_249 : ∀ tt_, Steps p.tables e below (T_248.setTop (mkF m 304 #[Iv p1, Iv p2, Iv (3 : Int32), Iv ee0, Iv ee1, Iv ee2, Rv b_135, Iv (1 : Int32), Iv (0 : Int32), Iv (2 : Int32), Iv (2 : Int32), Iv (2 : Int32), Iv (3 : Int32)] [(.int (1 : Int32))])) tt_ → Steps p.tables e below (T_248.setTop (mkF m 272 #[Iv p1, Iv p2, Iv (3 : Int32), Iv ee0, Iv ee1, Iv ee2, Rv b_135, Iv (1 : Int32), Iv (0 : Int32), Iv (2 : Int32), Iv (2 : Int32), Iv (2 : Int32), Us] [(.int (3 : Int32))])) tt_ := by
              intro tt_ kt_
              refine XS.istore X_248.here hEX rfl (hb hBY at_272) rfl (l' := #[Iv p1, Iv p2, Iv (3 : Int32), Iv ee0, Iv ee1, Iv ee2, Rv b_135, Iv (1 : Int32), Iv (0 : Int32), Iv (2 : Int32), Iv (2 : Int32), Iv (2 : Int32), Iv (3 : Int32)]) rfl ?_
              show Steps p.tables e below (T_248.setTop (mkF m 274 #[Iv p1, Iv p2, Iv (3 : Int32), Iv ee0, Iv ee1, Iv ee2, Rv b_135, Iv (1 : Int32), Iv (0 : Int32), Iv (2 : Int32), Iv (2 : Int32), Iv (2 : Int32), Iv (3 : Int32)] [])) tt_
              refine XS.iload X_248.here hEX rfl (hb hBY at_274) rfl ?_
              show Steps p.tables e below (T_248.setTop (mkF m 276 #[Iv p1, Iv p2, Iv (3 : Int32), Iv ee0, Iv ee1, Iv ee2, Rv b_135, Iv (1 : Int32), Iv (0 : Int32), Iv (2 : Int32), Iv (2 : Int32), Iv (2 : Int32), Iv (3 : Int32)] [(.int (1 : Int32))])) tt_
              refine XS.ifNo X_248.here hEX rfl (hb hBY at_276) rfl ((if0 _ _).trans (feq (by decide : ¬ ((1 : Int32) = (0 : Int32)))).1) ?_
              show Steps p.tables e below (T_248.setTop (mkF m 279 #[Iv p1, Iv p2, Iv (3 : Int32), Iv ee0, Iv ee1, Iv ee2, Rv b_135, Iv (1 : Int32), Iv (0 : Int32), Iv (2 : Int32), Iv (2 : Int32), Iv (2 : Int32), Iv (3 : Int32)] [])) tt_
              refine XS.iload X_248.here hEX rfl (hb hBY at_279) rfl ?_
              show Steps p.tables e below (T_248.setTop (mkF m 281 #[Iv p1, Iv p2, Iv (3 : Int32), Iv ee0, Iv ee1, Iv ee2, Rv b_135, Iv (1 : Int32), Iv (0 : Int32), Iv (2 : Int32), Iv (2 : Int32), Iv (2 : Int32), Iv (3 : Int32)] [(.int (2 : Int32))])) tt_
              refine XS.iload X_248.here hEX rfl (hb hBY at_281) rfl ?_
              show Steps p.tables e below (T_248.setTop (mkF m 283 #[Iv p1, Iv p2, Iv (3 : Int32), Iv ee0, Iv ee1, Iv ee2, Rv b_135, Iv (1 : Int32), Iv (0 : Int32), Iv (2 : Int32), Iv (2 : Int32), Iv (2 : Int32), Iv (3 : Int32)] [(.int (2 : Int32)), (.int (2 : Int32))])) tt_
              refine XS.icmpNo X_248.here hEX rfl (hb hBY at_283) rfl (teq (by decide : (2 : Int32) = (2 : Int32))).2 ?_
              show Steps p.tables e below (T_248.setTop (mkF m 286 #[Iv p1, Iv p2, Iv (3 : Int32), Iv ee0, Iv ee1, Iv ee2, Rv b_135, Iv (1 : Int32), Iv (0 : Int32), Iv (2 : Int32), Iv (2 : Int32), Iv (2 : Int32), Iv (3 : Int32)] [])) tt_
              refine XS.iload X_248.here hEX rfl (hb hBY at_286) rfl ?_
              show Steps p.tables e below (T_248.setTop (mkF m 288 #[Iv p1, Iv p2, Iv (3 : Int32), Iv ee0, Iv ee1, Iv ee2, Rv b_135, Iv (1 : Int32), Iv (0 : Int32), Iv (2 : Int32), Iv (2 : Int32), Iv (2 : Int32), Iv (3 : Int32)] [(.int (3 : Int32))])) tt_
              refine XS.iload X_248.here hEX rfl (hb hBY at_288) rfl ?_
              show Steps p.tables e below (T_248.setTop (mkF m 290 #[Iv p1, Iv p2, Iv (3 : Int32), Iv ee0, Iv ee1, Iv ee2, Rv b_135, Iv (1 : Int32), Iv (0 : Int32), Iv (2 : Int32), Iv (2 : Int32), Iv (2 : Int32), Iv (3 : Int32)] [(.int (2 : Int32)), (.int (3 : Int32))])) tt_
              refine XS.iconst X_248.here hEX rfl (hb hBY at_290) ?_
              show Steps p.tables e below (T_248.setTop (mkF m 291 #[Iv p1, Iv p2, Iv (3 : Int32), Iv ee0, Iv ee1, Iv ee2, Rv b_135, Iv (1 : Int32), Iv (0 : Int32), Iv (2 : Int32), Iv (2 : Int32), Iv (2 : Int32), Iv (3 : Int32)] [(.int (1 : Int32)), (.int (2 : Int32)), (.int (3 : Int32))])) tt_
              refine XS.iadd X_248.here hEX rfl (hb hBY at_291) rfl ?_
              show Steps p.tables e below (T_248.setTop (mkF m 292 #[Iv p1, Iv p2, Iv (3 : Int32), Iv ee0, Iv ee1, Iv ee2, Rv b_135, Iv (1 : Int32), Iv (0 : Int32), Iv (2 : Int32), Iv (2 : Int32), Iv (2 : Int32), Iv (3 : Int32)] [(.int (3 : Int32)), (.int (3 : Int32))])) tt_
              refine XS.icmpNo X_248.here hEX rfl (hb hBY at_292) rfl (teq (by decide : (3 : Int32) = (3 : Int32))).2 ?_
              show Steps p.tables e below (T_248.setTop (mkF m 295 #[Iv p1, Iv p2, Iv (3 : Int32), Iv ee0, Iv ee1, Iv ee2, Rv b_135, Iv (1 : Int32), Iv (0 : Int32), Iv (2 : Int32), Iv (2 : Int32), Iv (2 : Int32), Iv (3 : Int32)] [])) tt_
              refine XS.iconst X_248.here hEX rfl (hb hBY at_295) ?_
              show Steps p.tables e below (T_248.setTop (mkF m 296 #[Iv p1, Iv p2, Iv (3 : Int32), Iv ee0, Iv ee1, Iv ee2, Rv b_135, Iv (1 : Int32), Iv (0 : Int32), Iv (2 : Int32), Iv (2 : Int32), Iv (2 : Int32), Iv (3 : Int32)] [(.int (1 : Int32))])) tt_
              refine XS.goto X_248.here hEX rfl (pc0 := 296) (pc' := 300) rfl (hb hBY at_296) (by decide) (by decide) ?_
              show Steps p.tables e below (T_248.setTop (mkF m 300 #[Iv p1, Iv p2, Iv (3 : Int32), Iv ee0, Iv ee1, Iv ee2, Rv b_135, Iv (1 : Int32), Iv (0 : Int32), Iv (2 : Int32), Iv (2 : Int32), Iv (2 : Int32), Iv (3 : Int32)] [(.int (1 : Int32))])) tt_
              refine XS.istore X_248.here hEX rfl (hb hBY at_300) rfl (l' := #[Iv p1, Iv p2, Iv (3 : Int32), Iv ee0, Iv ee1, Iv ee2, Rv b_135, Iv (1 : Int32), Iv (0 : Int32), Iv (2 : Int32), Iv (2 : Int32), Iv (2 : Int32), Iv (3 : Int32)]) rfl ?_
              show Steps p.tables e below (T_248.setTop (mkF m 302 #[Iv p1, Iv p2, Iv (3 : Int32), Iv ee0, Iv ee1, Iv ee2, Rv b_135, Iv (1 : Int32), Iv (0 : Int32), Iv (2 : Int32), Iv (2 : Int32), Iv (2 : Int32), Iv (3 : Int32)] [])) tt_
              refine XS.iload X_248.here hEX rfl (hb hBY at_302) rfl ?_
              exact kt_
            refine Done.pre sg_249 ?_
            exact Done.retN X_248 hEX hLK (t := .boolean) hRT (by simp) (hb hBY at_304) (by rw [e_248]; exact ⟨rfl, N_248, K__244⟩) (by decide) (by decide)
        · skip
          have sg_250 : ∀ tt_, Steps p.tables e below (T_219.setTop (mkF m 175 #[Iv p1, Iv p2, Iv (3 : Int32), Iv ee0, Iv ee1, Iv ee2, Rv b_135, Iv (1 : Int32), Iv (0 : Int32), Iv (2 : Int32), Us, Us, Us] [(.int (1 : Int32)), (.ref b_135)])) tt_ → Steps p.tables e below (T_219.setTop (mkF m 169 #[Iv p1, Iv p2, Iv (3 : Int32), Iv ee0, Iv ee1, Iv ee2, Rv b_135, Iv (1 : Int32), Iv (0 : Int32), Iv (2 : Int32), Us, Us, Us] [(.int ee1)])) tt_ := by
            intro tt_ kt_
            refine XS.ifNo X_219.here hEX rfl (hb hBY at_169) rfl ((if0 _ _).trans (feq hc169).1) ?_
            show Steps p.tables e below (T_219.setTop (mkF m 172 #[Iv p1, Iv p2, Iv (3 : Int32), Iv ee0, Iv ee1, Iv ee2, Rv b_135, Iv (1 : Int32), Iv (0 : Int32), Iv (2 : Int32), Us, Us, Us] [])) tt_
            refine XS.aload X_219.here hEX rfl (hb hBY at_172) rfl rfl ?_
            show Steps p.tables e below (T_219.setTop (mkF m 174 #[Iv p1, Iv p2, Iv (3 : Int32), Iv ee0, Iv ee1, Iv ee2, Rv b_135, Iv (1 : Int32), Iv (0 : Int32), Iv (2 : Int32), Us, Us, Us] [(.ref b_135)])) tt_
            refine XS.iconst X_219.here hEX rfl (hb hBY at_174) ?_
            exact kt_
          refine Done.pre sg_250 ?_
          obtain ⟨cq_251, kq_251, q_251a, q_251b, q_251c⟩ := isOf hZW rfl hq_219_0
          obtain ⟨_, _, ⟨T_251, L_251, k_251, n_251⟩, -, X_251, ⟨Lc_251, hQ_251, l_251, y_251, z_251⟩, st_251⟩ := X_219.virtualBack hEX (y := (⟨"com/example/actorium/actorium/Claimant$Sends", "end", "(I)V"⟩ : MethodName)) (z := (⟨"com/example/actorium/actorium/Claimant$Sends", "end", "(I)V"⟩ : MethodName)) hOW (mvT hZW (hw _ (List.mem_of_getElem? (i := 26) rfl))) (mvT hZW (hw _ (List.mem_of_getElem? (i := 27) rfl))) (notFace_of_selects (args := #[]) (mvT hZW (hw _ (List.mem_of_getElem? (i := 29) rfl)))) (mvT hZW (hw _ (List.mem_of_getElem? (i := 29) rfl))) (mvT hZW (hw _ (List.mem_of_getElem? (i := 28) rfl))) (by decide) (backOf (W := 0) (rm_end l Z aZ hw [] b_135 (1 : Int32) (2 : Int32) b__141 k__141 T_219.heap n0 (Nat.le_trans Z0 K__220.1) hq_219_0 f_222 hq_219_2 hq_219_3 ge_b_135 (Nat.le_trans Z0 sz_b__141) ne_b_135_b__141 (by decide)) hZW (hw _ (List.mem_of_getElem? (i := 30) rfl)) (hw _ (List.mem_of_getElem? (i := 3) rfl)) (by decide) (by decide)) q_251a q_251c (g := (mkF m 175 #[Iv p1, Iv p2, Iv (3 : Int32), Iv ee0, Iv ee1, Iv ee2, Rv b_135, Iv (1 : Int32), Iv (0 : Int32), Iv (2 : Int32), Us, Us, Us] [(.int (1 : Int32)), (.ref b_135)])) rfl (by rw [hMX]; rfl) (Steps.refl _) (argsL := [(.int (1 : Int32))]) (rest := []) (lenOf pd__I_V_2 rfl) rfl (by show 2 * 0 + _ ≤ _; exact Nat.le_of_eq rfl) (hb hBY at_175) (fun _ _ => ⟨rfl, rfl, (by decide : 2 + 0 ≤ _), (by decide : 10 + 0 ≤ _)⟩)
          dsimp only [Pt.U, Pt.locs, Pt.cells, Pt.slots] at X_251 l_251 y_251 z_251 st_251 hQ_251
          subst l_251 y_251 z_251
          obtain ⟨rfl, N_251q, K_251, hq_251_0, hq_251_1, hq_251_2, hq_251_3⟩ := hQ_251
          have N_251 := Fr.app N_219 N_251q
          have K__252 : Keep h0 T_251.heap [] := K__220.trans K_251 (allS (Or.inr sz_b_135) (allS (Or.inr sz_b__141) all0))
          have f_253 : Exa Z T_251.heap b_135 "com/example/actorium/actorium/Claimant$Sends" := hq_219_0.keep K_251
          refine Done.pre (fun _ k_ => st_251.trans k_) ?_
          show Done _ _ _ _ _ _ _ (T_251.setTop (mkF m 178 #[Iv p1, Iv p2, Iv (3 : Int32), Iv ee0, Iv ee1, Iv ee2, Rv b_135, Iv (1 : Int32), Iv (0 : Int32), Iv (2 : Int32), Us, Us, Us] []))
          have f_254 : Fld Z T_251.heap b_135 "com/example/actorium/actorium/Claimant$Sends" "top" "I" (.int (1 : Int32)) := by have q := hq_251_1; rw [show (own_end (2 : Int32) (1 : Int32)) = (1 : Int32) from by decide] at q; exact q
          have sg_255 : ∀ tt_, Steps p.tables e below (T_251.setTop (mkF m 179 #[Iv p1, Iv p2, Iv (3 : Int32), Iv ee0, Iv ee1, Iv ee2, Rv b_135, Iv (1 : Int32), Iv (0 : Int32), Iv (2 : Int32), Us, Us, Us] [(.int ee0)])) tt_ → Steps p.tables e below (T_251.setTop (mkF m 178 #[Iv p1, Iv p2, Iv (3 : Int32), Iv ee0, Iv ee1, Iv ee2, Rv b_135, Iv (1 : Int32), Iv (0 : Int32), Iv (2 : Int32), Us, Us, Us] [])) tt_ := by
            intro tt_ kt_
            refine XS.iloadN X_251.here hEX rfl (hb hBY at_178) rfl ?_
            exact kt_
          refine Done.pre sg_255 ?_
          by_cases hc179 : ee0 = (0 : Int32)
          · skip
            have sg_256 : ∀ tt_, Steps p.tables e below (T_251.setTop (mkF m 235 #[Iv p1, Iv p2, Iv (3 : Int32), Iv ee0, Iv ee1, Iv ee2, Rv b_135, Iv (1 : Int32), Iv (0 : Int32), Iv (1 : Int32), Us, Us, Us] [(.ref b_135)])) tt_ → Steps p.tables e below (T_251.setTop (mkF m 179 #[Iv p1, Iv p2, Iv (3 : Int32), Iv ee0, Iv ee1, Iv ee2, Rv b_135, Iv (1 : Int32), Iv (0 : Int32), Iv (2 : Int32), Us, Us, Us] [(.int ee0)])) tt_ := by
              intro tt_ kt_
              refine XS.ifYes X_251.here hEX rfl (pc0 := 179) (pc' := 188) rfl (hb hBY at_179) rfl ((if0 _ _).trans (teq hc179).1) (by decide) (by decide) ?_
              show Steps p.tables e below (T_251.setTop (mkF m 188 #[Iv p1, Iv p2, Iv (3 : Int32), Iv ee0, Iv ee1, Iv ee2, Rv b_135, Iv (1 : Int32), Iv (0 : Int32), Iv (2 : Int32), Us, Us, Us] [])) tt_
              refine XS.iloadN X_251.here hEX rfl (hb hBY at_188) rfl ?_
              show Steps p.tables e below (T_251.setTop (mkF m 189 #[Iv p1, Iv p2, Iv (3 : Int32), Iv ee0, Iv ee1, Iv ee2, Rv b_135, Iv (1 : Int32), Iv (0 : Int32), Iv (2 : Int32), Us, Us, Us] [(.int (3 : Int32))])) tt_
              refine XS.iconst X_251.here hEX rfl (hb hBY at_189) ?_
              show Steps p.tables e below (T_251.setTop (mkF m 190 #[Iv p1, Iv p2, Iv (3 : Int32), Iv ee0, Iv ee1, Iv ee2, Rv b_135, Iv (1 : Int32), Iv (0 : Int32), Iv (2 : Int32), Us, Us, Us] [(.int (3 : Int32)), (.int (3 : Int32))])) tt_
              refine XS.icmpNo X_251.here hEX rfl (hb hBY at_190) rfl (flt (by decide : ¬ ((3 : Int32) < (3 : Int32)))).1 ?_
              show Steps p.tables e below (T_251.setTop (mkF m 193 #[Iv p1, Iv p2, Iv (3 : Int32), Iv ee0, Iv ee1, Iv ee2, Rv b_135, Iv (1 : Int32), Iv (0 : Int32), Iv (2 : Int32), Us, Us, Us] [])) tt_
              refine XS.iload X_251.here hEX rfl (hb hBY at_193) rfl ?_
              show Steps p.tables e below (T_251.setTop (mkF m 195 #[Iv p1, Iv p2, Iv (3 : Int32), Iv ee0, Iv ee1, Iv ee2, Rv b_135, Iv (1 : Int32), Iv (0 : Int32), Iv (2 : Int32), Us, Us, Us] [(.int ee2)])) tt_
              refine XS.ifYes X_251.here hEX rfl (pc0 := 195) (pc' := 204) rfl (hb hBY at_195) rfl ((if0 _ _).trans (feq hc158).2) (by decide) (by decide) ?_
              show Steps p.tables e below (T_251.setTop (mkF m 204 #[Iv p1, Iv p2, Iv (3 : Int32), Iv ee0, Iv ee1, Iv ee2, Rv b_135, Iv (1 : Int32), Iv (0 : Int32), Iv (2 : Int32), Us, Us, Us] [])) tt_
              refine XS.iloadN X_251.here hEX rfl (hb hBY at_204) rfl ?_
              show Steps p.tables e below (T_251.setTop (mkF m 205 #[Iv p1, Iv p2, Iv (3 : Int32), Iv ee0, Iv ee1, Iv ee2, Rv b_135, Iv (1 : Int32), Iv (0 : Int32), Iv (2 : Int32), Us, Us, Us] [(.int (3 : Int32))])) tt_
              refine XS.iconst X_251.here hEX rfl (hb hBY at_205) ?_
              show Steps p.tables e below (T_251.setTop (mkF m 206 #[Iv p1, Iv p2, Iv (3 : Int32), Iv ee0, Iv ee1, Iv ee2, Rv b_135, Iv (1 : Int32), Iv (0 : Int32), Iv (2 : Int32), Us, Us, Us] [(.int (2 : Int32)), (.int (3 : Int32))])) tt_
              refine XS.icmpNo X_251.here hEX rfl (hb hBY at_206) rfl (flt (by decide : ¬ ((3 : Int32) < (2 : Int32)))).1 ?_
              show Steps p.tables e below (T_251.setTop (mkF m 209 #[Iv p1, Iv p2, Iv (3 : Int32), Iv ee0, Iv ee1, Iv ee2, Rv b_135, Iv (1 : Int32), Iv (0 : Int32), Iv (2 : Int32), Us, Us, Us] [])) tt_
              refine XS.iload X_251.here hEX rfl (hb hBY at_209) rfl ?_
              show Steps p.tables e below (T_251.setTop (mkF m 211 #[Iv p1, Iv p2, Iv (3 : Int32), Iv ee0, Iv ee1, Iv ee2, Rv b_135, Iv (1 : Int32), Iv (0 : Int32), Iv (2 : Int32), Us, Us, Us] [(.int ee1)])) tt_
              refine XS.ifYes X_251.here hEX rfl (pc0 := 211) (pc' := 220) rfl (hb hBY at_211) rfl ((if0 _ _).trans (feq hc169).2) (by decide) (by decide) ?_
              show Steps p.tables e below (T_251.setTop (mkF m 220 #[Iv p1, Iv p2, Iv (3 : Int32), Iv ee0, Iv ee1, Iv ee2, Rv b_135, Iv (1 : Int32), Iv (0 : Int32), Iv (2 : Int32), Us, Us, Us] [])) tt_
              refine XS.iloadN X_251.here hEX rfl (hb hBY at_220) rfl ?_
              show Steps p.tables e below (T_251.setTop (mkF m 221 #[Iv p1, Iv p2, Iv (3 : Int32), Iv ee0, Iv ee1, Iv ee2, Rv b_135, Iv (1 : Int32), Iv (0 : Int32), Iv (2 : Int32), Us, Us, Us] [(.int ee0)])) tt_
              refine XS.ifNo X_251.here hEX rfl (hb hBY at_221) rfl ((if0 _ _).trans (teq hc179).2) ?_
              show Steps p.tables e below (T_251.setTop (mkF m 224 #[Iv p1, Iv p2, Iv (3 : Int32), Iv ee0, Iv ee1, Iv ee2, Rv b_135, Iv (1 : Int32), Iv (0 : Int32), Iv (2 : Int32), Us, Us, Us] [])) tt_
              refine XS.iconst X_251.here hEX rfl (hb hBY at_224) ?_
              show Steps p.tables e below (T_251.setTop (mkF m 225 #[Iv p1, Iv p2, Iv (3 : Int32), Iv ee0, Iv ee1, Iv ee2, Rv b_135, Iv (1 : Int32), Iv (0 : Int32), Iv (2 : Int32), Us, Us, Us] [(.int (1 : Int32))])) tt_
              refine XS.istore X_251.here hEX rfl (hb hBY at_225) rfl (l' := #[Iv p1, Iv p2, Iv (3 : Int32), Iv ee0, Iv ee1, Iv ee2, Rv b_135, Iv (1 : Int32), Iv (0 : Int32), Iv (1 : Int32), Us, Us, Us]) rfl ?_
              show Steps p.tables e below (T_251.setTop (mkF m 227 #[Iv p1, Iv p2, Iv (3 : Int32), Iv ee0, Iv ee1, Iv ee2, Rv b_135, Iv (1 : Int32), Iv (0 : Int32), Iv (1 : Int32), Us, Us, Us] [])) tt_
              refine XS.goto X_251.here hEX rfl (pc0 := 227) (pc' := 233) rfl (hb hBY at_227) (by decide) (by decide) ?_
              show Steps p.tables e below (T_251.setTop (mkF m 233 #[Iv p1, Iv p2, Iv (3 : Int32), Iv ee0, Iv ee1, Iv ee2, Rv b_135, Iv (1 : Int32), Iv (0 : Int32), Iv (1 : Int32), Us, Us, Us] [])) tt_
              refine XS.aload X_251.here hEX rfl (hb hBY at_233) rfl rfl ?_
              exact kt_
            refine Done.pre sg_256 ?_
            obtain ⟨cq_257, kq_257, q_257a, q_257b, q_257c⟩ := isOf hZW rfl hq_251_0
            obtain ⟨_, _, ⟨T_257, L_257, k_257, n_257⟩, -, X_257, ⟨Lc_257, hQ_257, l_257, y_257, z_257⟩, st_257⟩ := X_251.virtualBack hEX (y := (⟨"com/example/actorium/actorium/Claimant$Sends", "depth", "()I"⟩ : MethodName)) (z := (⟨"com/example/actorium/actorium/Claimant$Sends", "depth", "()I"⟩ : MethodName)) hOW (mvT hZW (hw _ (List.mem_of_getElem? (i := 21) rfl))) (mvT hZW (hw _ (List.mem_of_getElem? (i := 22) rfl))) (notFace_of_selects (args := #[]) (mvT hZW (hw _ (List.mem_of_getElem? (i := 24) rfl)))) (mvT hZW (hw _ (List.mem_of_getElem? (i := 24) rfl))) (mvT hZW (hw _ (List.mem_of_getElem? (i := 23) rfl))) (by decide) (backOf (W := 0) (rm_depth l Z aZ hw [] b_135 (1 : Int32) T_251.heap n0 (Nat.le_trans Z0 K__252.1) f_254) hZW (hw _ (List.mem_of_getElem? (i := 25) rfl)) (hw _ (List.mem_of_getElem? (i := 3) rfl)) (by decide) (by decide)) q_257a q_257c (g := (mkF m 235 #[Iv p1, Iv p2, Iv (3 : Int32), Iv ee0, Iv ee1, Iv ee2, Rv b_135, Iv (1 : Int32), Iv (0 : Int32), Iv (1 : Int32), Us, Us, Us] [(.ref b_135)])) rfl (by rw [hMX]; rfl) (Steps.refl _) (argsL := []) (rest := []) (lenOf pd___I_0 rfl) rfl (by show 2 * 0 + _ ≤ _; exact Nat.le_of_eq rfl) (hb hBY at_235) (fun _ _ => ⟨rfl, rfl, (by decide : 2 + 0 ≤ _), (by decide : 10 + 0 ≤ _)⟩)
            dsimp only [Pt.U, Pt.locs, Pt.cells, Pt.slots] at X_257 l_257 y_257 z_257 st_257 hQ_257
            subst l_257 y_257 z_257
            obtain ⟨rfl, N_257q, e_257⟩ := hQ_257
            have N_257 := Fr.app N_251 N_257q
            refine Done.pre (fun _ k_ => st_257.trans k_) ?_
            show Done _ _ _ _ _ _ _ (T_257.setTop (mkF m 238 #[Iv p1, Iv p2, Iv (3 : Int32), Iv ee0, Iv ee1, Iv ee2, Rv b_135, Iv (1 : Int32), Iv (0 : Int32), Iv (1 : Int32), Us, Us, Us] [(.int (1 : Int32))]))
            have sg_258 : ∀ tt_, Steps p.tables e below (T_257.setTop (mkF m 262 #[Iv p1, Iv p2, Iv (3 : Int32), Iv ee0, Iv ee1, Iv ee2, Rv b_135, Iv (1 : Int32), Iv (0 : Int32), Iv (1 : Int32), Iv (1 : Int32), Us, Us] [.null, (.ref b_135)])) tt_ → Steps p.tables e below (T_257.setTop (mkF m 238 #[Iv p1, Iv p2, Iv (3 : Int32), Iv ee0, Iv ee1, Iv ee2, Rv b_135, Iv (1 : Int32), Iv (0 : Int32), Iv (1 : Int32), Us, Us, Us] [(.int (1 : Int32))])) tt_ := by
              intro tt_ kt_
              refine XS.istore X_257.here hEX rfl (hb hBY at_238) rfl (l' := #[Iv p1, Iv p2, Iv (3 : Int32), Iv ee0, Iv ee1, Iv ee2, Rv b_135, Iv (1 : Int32), Iv (0 : Int32), Iv (1 : Int32), Iv (1 : Int32), Us, Us]) rfl ?_
              show Steps p.tables e below (T_257.setTop (mkF m 240 #[Iv p1, Iv p2, Iv (3 : Int32), Iv ee0, Iv ee1, Iv ee2, Rv b_135, Iv (1 : Int32), Iv (0 : Int32), Iv (1 : Int32), Iv (1 : Int32), Us, Us] [])) tt_
              refine XS.iload X_257.here hEX rfl (hb hBY at_240) rfl ?_
              show Steps p.tables e below (T_257.setTop (mkF m 242 #[Iv p1, Iv p2, Iv (3 : Int32), Iv ee0, Iv ee1, Iv ee2, Rv b_135, Iv (1 : Int32), Iv (0 : Int32), Iv (1 : Int32), Iv (1 : Int32), Us, Us] [(.int (1 : Int32))])) tt_
              refine XS.ifNo X_257.here hEX rfl (hb hBY at_242) rfl ((if0 _ _).trans (feq (by decide : ¬ ((1 : Int32) = (0 : Int32)))).1) ?_
              show Steps p.tables e below (T_257.setTop (mkF m 245 #[Iv p1, Iv p2, Iv (3 : Int32), Iv ee0, Iv ee1, Iv ee2, Rv b_135, Iv (1 : Int32), Iv (0 : Int32), Iv (1 : Int32), Iv (1 : Int32), Us, Us] [])) tt_
              refine XS.iload X_257.here hEX rfl (hb hBY at_245) rfl ?_
              show Steps p.tables e below (T_257.setTop (mkF m 247 #[Iv p1, Iv p2, Iv (3 : Int32), Iv ee0, Iv ee1, Iv ee2, Rv b_135, Iv (1 : Int32), Iv (0 : Int32), Iv (1 : Int32), Iv (1 : Int32), Us, Us] [(.int (1 : Int32))])) tt_
              refine XS.iload X_257.here hEX rfl (hb hBY at_247) rfl ?_
              show Steps p.tables e below (T_257.setTop (mkF m 249 #[Iv p1, Iv p2, Iv (3 : Int32), Iv ee0, Iv ee1, Iv ee2, Rv b_135, Iv (1 : Int32), Iv (0 : Int32), Iv (1 : Int32), Iv (1 : Int32), Us, Us] [(.int (1 : Int32)), (.int (1 : Int32))])) tt_
              refine XS.icmpNo X_257.here hEX rfl (hb hBY at_249) rfl (teq (by decide : (1 : Int32) = (1 : Int32))).2 ?_
              show Steps p.tables e below (T_257.setTop (mkF m 252 #[Iv p1, Iv p2, Iv (3 : Int32), Iv ee0, Iv ee1, Iv ee2, Rv b_135, Iv (1 : Int32), Iv (0 : Int32), Iv (1 : Int32), Iv (1 : Int32), Us, Us] [])) tt_
              refine XS.iconst X_257.here hEX rfl (hb hBY at_252) ?_
              show Steps p.tables e below (T_257.setTop (mkF m 253 #[Iv p1, Iv p2, Iv (3 : Int32), Iv ee0, Iv ee1, Iv ee2, Rv b_135, Iv (1 : Int32), Iv (0 : Int32), Iv (1 : Int32), Iv (1 : Int32), Us, Us] [(.int (1 : Int32))])) tt_
              refine XS.goto X_257.here hEX rfl (pc0 := 253) (pc' := 257) rfl (hb hBY at_253) (by decide) (by decide) ?_
              show Steps p.tables e below (T_257.setTop (mkF m 257 #[Iv p1, Iv p2, Iv (3 : Int32), Iv ee0, Iv ee1, Iv ee2, Rv b_135, Iv (1 : Int32), Iv (0 : Int32), Iv (1 : Int32), Iv (1 : Int32), Us, Us] [(.int (1 : Int32))])) tt_
              refine XS.istore X_257.here hEX rfl (hb hBY at_257) rfl (l' := #[Iv p1, Iv p2, Iv (3 : Int32), Iv ee0, Iv ee1, Iv ee2, Rv b_135, Iv (1 : Int32), Iv (0 : Int32), Iv (1 : Int32), Iv (1 : Int32), Us, Us]) rfl ?_
              show Steps p.tables e below (T_257.setTop (mkF m 259 #[Iv p1, Iv p2, Iv (3 : Int32), Iv ee0, Iv ee1, Iv ee2, Rv b_135, Iv (1 : Int32), Iv (0 : Int32), Iv (1 : Int32), Iv (1 : Int32), Us, Us] [])) tt_
              refine XS.aload X_257.here hEX rfl (hb hBY at_259) rfl rfl ?_
              show Steps p.tables e below (T_257.setTop (mkF m 261 #[Iv p1, Iv p2, Iv (3 : Int32), Iv ee0, Iv ee1, Iv ee2, Rv b_135, Iv (1 : Int32), Iv (0 : Int32), Iv (1 : Int32), Iv (1 : Int32), Us, Us] [(.ref b_135)])) tt_
              refine XS.aconstNull X_257.here hEX rfl (hb hBY at_261) ?_
              exact kt_
            refine Done.pre sg_258 ?_
            obtain ⟨cq_259, kq_259, q_259a, q_259b, q_259c⟩ := isOf hZW e_257 hq_251_0
            obtain ⟨_, _, ⟨T_259, L_259, k_259, n_259⟩, -, X_259, ⟨Lc_259, hQ_259, l_259, y_259, z_259⟩, st_259⟩ := X_257.virtualBack hEX (y := (⟨"com/example/actorium/actorium/Claimant$Sends", "begin", "(Lcom/example/actorium/actorium/DispatchedCell;)I"⟩ : MethodName)) (z := (⟨"com/example/actorium/actorium/Claimant$Sends", "begin", "(Lcom/example/actorium/actorium/DispatchedCell;)I"⟩ : MethodName)) hOW (mvT hZW (hw _ (List.mem_of_getElem? (i := 14) rfl))) (mvT hZW (hw _ (List.mem_of_getElem? (i := 15) rfl))) (notFace_of_selects (args := #[]) (mvT hZW (hw _ (List.mem_of_getElem? (i := 17) rfl)))) (mvT hZW (hw _ (List.mem_of_getElem? (i := 17) rfl))) (mvT hZW (hw _ (List.mem_of_getElem? (i := 16) rfl))) (by decide) (backOf (W := 0) (rm_begin l Z aZ hw [] b_135 (1 : Int32) b__141 k__141 T_251.heap n0 (Nat.le_trans Z0 K__252.1) hq_251_0 f_254 hq_251_2 hq_251_3 ge_b_135 (Nat.le_trans Z0 sz_b__141) ne_b_135_b__141 (by decide)) hZW (hw _ (List.mem_of_getElem? (i := 18) rfl)) (hw _ (List.mem_of_getElem? (i := 3) rfl)) (by decide) (by decide)) q_259a q_259c (g := (mkF m 262 #[Iv p1, Iv p2, Iv (3 : Int32), Iv ee0, Iv ee1, Iv ee2, Rv b_135, Iv (1 : Int32), Iv (0 : Int32), Iv (1 : Int32), Iv (1 : Int32), Us, Us] [.null, (.ref b_135)])) rfl (by rw [hMX]; rfl) (Steps.refl _) (argsL := [.null]) (rest := []) (lenOf pd__Lcom_example_actorium_actorium_DispatchedCell__I_3 rfl) rfl (by show 2 * 0 + _ ≤ _; exact Nat.le_of_eq rfl) (hb hBY at_262) (fun _ _ => ⟨rfl, e_257, (by decide : 2 + 0 ≤ _), (by decide : 10 + 0 ≤ _)⟩)
            dsimp only [Pt.U, Pt.locs, Pt.cells, Pt.slots] at X_259 l_259 y_259 z_259 st_259 hQ_259
            subst l_259 y_259 z_259
            obtain ⟨rfl, N_259q, K_259, hq_259_0, hq_259_1, hq_259_2, hq_259_3⟩ := hQ_259
            have N_259 := Fr.app N_257 N_259q
            have K__260 : Keep h0 T_259.heap [] := K__252.trans K_259 (allS (Or.inr sz_b_135) (allS (Or.inr sz_b__141) all0))
            have f_261 : Exa Z T_259.heap b_135 "com/example/actorium/actorium/Claimant$Sends" := hq_251_0.keep K_259
            refine Done.pre (fun _ k_ => st_259.trans k_) ?_
            show Done _ _ _ _ _ _ _ (T_259.setTop (mkF m 265 #[Iv p1, Iv p2, Iv (3 : Int32), Iv ee0, Iv ee1, Iv ee2, Rv b_135, Iv (1 : Int32), Iv (0 : Int32), Iv (1 : Int32), Iv (1 : Int32), Us, Us] [(.int (1 : Int32))]))
            have f_262 : Fld Z T_259.heap b_135 "com/example/actorium/actorium/Claimant$Sends" "top" "I" (.int (2 : Int32)) := by have q := hq_259_1; rw [show ((1 : Int32) + (1 : Int32)) = (2 : Int32) from by decide] at q; exact q
            have sg_263 : ∀ tt_, Steps p.tables e below (T_259.setTop (mkF m 269 #[Iv p1, Iv p2, Iv (3 : Int32), Iv ee0, Iv ee1, Iv ee2, Rv b_135, Iv (1 : Int32), Iv (0 : Int32), Iv (1 : Int32), Iv (1 : Int32), Iv (1 : Int32), Us] [(.ref b_135)])) tt_ → Steps p.tables e below (T_259.setTop (mkF m 265 #[Iv p1, Iv p2, Iv (3 : Int32), Iv ee0, Iv ee1, Iv ee2, Rv b_135, Iv (1 : Int32), Iv (0 : Int32), Iv (1 : Int32), Iv (1 : Int32), Us, Us] [(.int (1 : Int32))])) tt_ := by
              intro tt_ kt_
              refine XS.istore X_259.here hEX rfl (hb hBY at_265) rfl (l' := #[Iv p1, Iv p2, Iv (3 : Int32), Iv ee0, Iv ee1, Iv ee2, Rv b_135, Iv (1 : Int32), Iv (0 : Int32), Iv (1 : Int32), Iv (1 : Int32), Iv (1 : Int32), Us]) rfl ?_
              show Steps p.tables e below (T_259.setTop (mkF m 267 #[Iv p1, Iv p2, Iv (3 : Int32), Iv ee0, Iv ee1, Iv ee2, Rv b_135, Iv (1 : Int32), Iv (0 : Int32), Iv (1 : Int32), Iv (1 : Int32), Iv (1 : Int32), Us] [])) tt_
              refine XS.aload X_259.here hEX rfl (hb hBY at_267) rfl rfl ?_
              exact kt_
            refine Done.pre sg_263 ?_
            obtain ⟨cq_264, kq_264, q_264a, q_264b, q_264c⟩ := isOf hZW rfl hq_259_0
            obtain ⟨_, _, ⟨T_264, L_264, k_264, n_264⟩, -, X_264, ⟨Lc_264, hQ_264, l_264, y_264, z_264⟩, st_264⟩ := X_259.virtualBack hEX (y := (⟨"com/example/actorium/actorium/Claimant$Sends", "depth", "()I"⟩ : MethodName)) (z := (⟨"com/example/actorium/actorium/Claimant$Sends", "depth", "()I"⟩ : MethodName)) hOW (mvT hZW (hw _ (List.mem_of_getElem? (i := 21) rfl))) (mvT hZW (hw _ (List.mem_of_getElem? (i := 22) rfl))) (notFace_of_selects (args := #[]) (mvT hZW (hw _ (List.mem_of_getElem? (i := 24) rfl)))) (mvT hZW (hw _ (List.mem_of_getElem? (i := 24) rfl))) (mvT hZW (hw _ (List.mem_of_getElem? (i := 23) rfl))) (by decide) (backOf (W := 0) (rm_depth l Z aZ hw [] b_135 (2 : Int32) T_259.heap n0 (Nat.le_trans Z0 K__260.1) f_262) hZW (hw _ (List.mem_of_getElem? (i := 25) rfl)) (hw _ (List.mem_of_getElem? (i := 3) rfl)) (by decide) (by decide)) q_264a q_264c (g := (mkF m 269 #[Iv p1, Iv p2, Iv (3 : Int32), Iv ee0, Iv ee1, Iv ee2, Rv b_135, Iv (1 : Int32), Iv (0 : Int32), Iv (1 : Int32), Iv (1 : Int32), Iv (1 : Int32), Us] [(.ref b_135)])) rfl (by rw [hMX]; rfl) (Steps.refl _) (argsL := []) (rest := []) (lenOf pd___I_0 rfl) rfl (by show 2 * 0 + _ ≤ _; exact Nat.le_of_eq rfl) (hb hBY at_269) (fun _ _ => ⟨rfl, rfl, (by decide : 2 + 0 ≤ _), (by decide : 10 + 0 ≤ _)⟩)
            dsimp only [Pt.U, Pt.locs, Pt.cells, Pt.slots] at X_264 l_264 y_264 z_264 st_264 hQ_264
            subst l_264 y_264 z_264
            obtain ⟨rfl, N_264q, e_264⟩ := hQ_264
            have N_264 := Fr.app N_259 N_264q
            refine Done.pre (fun _ k_ => st_264.trans k_) ?_
            show Done _ _ _ _ _ _ _ (T_264.setTop (mkF m 272 #[Iv p1, Iv p2, Iv (3 : Int32), Iv ee0, Iv ee1, Iv ee2, Rv b_135, Iv (1 : Int32), Iv (0 : Int32), Iv (1 : Int32), Iv (1 : Int32), Iv (1 : Int32), Us] [(.int (2 : Int32))]))
            have sg_265 : ∀ tt_, Steps p.tables e below (T_264.setTop (mkF m 304 #[Iv p1, Iv p2, Iv (3 : Int32), Iv ee0, Iv ee1, Iv ee2, Rv b_135, Iv (1 : Int32), Iv (0 : Int32), Iv (1 : Int32), Iv (1 : Int32), Iv (1 : Int32), Iv (2 : Int32)] [(.int (1 : Int32))])) tt_ → Steps p.tables e below (T_264.setTop (mkF m 272 #[Iv p1, Iv p2, Iv (3 : Int32), Iv ee0, Iv ee1, Iv ee2, Rv b_135, Iv (1 : Int32), Iv (0 : Int32), Iv (1 : Int32), Iv (1 : Int32), Iv (1 : Int32), Us] [(.int (2 : Int32))])) tt_ := by
              intro tt_ kt_
              refine XS.istore X_264.here hEX rfl (hb hBY at_272) rfl (l' := #[Iv p1, Iv p2, Iv (3 : Int32), Iv ee0, Iv ee1, Iv ee2, Rv b_135, Iv (1 : Int32), Iv (0 : Int32), Iv (1 : Int32), Iv (1 : Int32), Iv (1 : Int32), Iv (2 : Int32)]) rfl ?_
              show Steps p.tables e below (T_264.setTop (mkF m 274 #[Iv p1, Iv p2, Iv (3 : Int32), Iv ee0, Iv ee1, Iv ee2, Rv b_135, Iv (1 : Int32), Iv (0 : Int32), Iv (1 : Int32), Iv (1 : Int32), Iv (1 : Int32), Iv (2 : Int32)] [])) tt_
              refine XS.iload X_264.here hEX rfl (hb hBY at_274) rfl ?_
              show Steps p.tables e below (T_264.setTop (mkF m 276 #[Iv p1, Iv p2, Iv (3 : Int32), Iv ee0, Iv ee1, Iv ee2, Rv b_135, Iv (1 : Int32), Iv (0 : Int32), Iv (1 : Int32), Iv (1 : Int32), Iv (1 : Int32), Iv (2 : Int32)] [(.int (1 : Int32))])) tt_
              refine XS.ifNo X_264.here hEX rfl (hb hBY at_276) rfl ((if0 _ _).trans (feq (by decide : ¬ ((1 : Int32) = (0 : Int32)))).1) ?_
              show Steps p.tables e below (T_264.setTop (mkF m 279 #[Iv p1, Iv p2, Iv (3 : Int32), Iv ee0, Iv ee1, Iv ee2, Rv b_135, Iv (1 : Int32), Iv (0 : Int32), Iv (1 : Int32), Iv (1 : Int32), Iv (1 : Int32), Iv (2 : Int32)] [])) tt_
              refine XS.iload X_264.here hEX rfl (hb hBY at_279) rfl ?_
              show Steps p.tables e below (T_264.setTop (mkF m 281 #[Iv p1, Iv p2, Iv (3 : Int32), Iv ee0, Iv ee1, Iv ee2, Rv b_135, Iv (1 : Int32), Iv (0 : Int32), Iv (1 : Int32), Iv (1 : Int32), Iv (1 : Int32), Iv (2 : Int32)] [(.int (1 : Int32))])) tt_
              refine XS.iload X_264.here hEX rfl (hb hBY at_281) rfl ?_
              show Steps p.tables e below (T_264.setTop (mkF m 283 #[Iv p1, Iv p2, Iv (3 : Int32), Iv ee0, Iv ee1, Iv ee2, Rv b_135, Iv (1 : Int32), Iv (0 : Int32), Iv (1 : Int32), Iv (1 : Int32), Iv (1 : Int32), Iv (2 : Int32)] [(.int (1 : Int32)), (.int (1 : Int32))])) tt_
              refine XS.icmpNo X_264.here hEX rfl (hb hBY at_283) rfl (teq (by decide : (1 : Int32) = (1 : Int32))).2 ?_
              show Steps p.tables e below (T_264.setTop (mkF m 286 #[Iv p1, Iv p2, Iv (3 : Int32), Iv ee0, Iv ee1, Iv ee2, Rv b_135, Iv (1 : Int32), Iv (0 : Int32), Iv (1 : Int32), Iv (1 : Int32), Iv (1 : Int32), Iv (2 : Int32)] [])) tt_
              refine XS.iload X_264.here hEX rfl (hb hBY at_286) rfl ?_
              show Steps p.tables e below (T_264.setTop (mkF m 288 #[Iv p1, Iv p2, Iv (3 : Int32), Iv ee0, Iv ee1, Iv ee2, Rv b_135, Iv (1 : Int32), Iv (0 : Int32), Iv (1 : Int32), Iv (1 : Int32), Iv (1 : Int32), Iv (2 : Int32)] [(.int (2 : Int32))])) tt_
              refine XS.iload X_264.here hEX rfl (hb hBY at_288) rfl ?_
              show Steps p.tables e below (T_264.setTop (mkF m 290 #[Iv p1, Iv p2, Iv (3 : Int32), Iv ee0, Iv ee1, Iv ee2, Rv b_135, Iv (1 : Int32), Iv (0 : Int32), Iv (1 : Int32), Iv (1 : Int32), Iv (1 : Int32), Iv (2 : Int32)] [(.int (1 : Int32)), (.int (2 : Int32))])) tt_
              refine XS.iconst X_264.here hEX rfl (hb hBY at_290) ?_
              show Steps p.tables e below (T_264.setTop (mkF m 291 #[Iv p1, Iv p2, Iv (3 : Int32), Iv ee0, Iv ee1, Iv ee2, Rv b_135, Iv (1 : Int32), Iv (0 : Int32), Iv (1 : Int32), Iv (1 : Int32), Iv (1 : Int32), Iv (2 : Int32)] [(.int (1 : Int32)), (.int (1 : Int32)), (.int (2 : Int32))])) tt_
              refine XS.iadd X_264.here hEX rfl (hb hBY at_291) rfl ?_
              show Steps p.tables e below (T_264.setTop (mkF m 292 #[Iv p1, Iv p2, Iv (3 : Int32), Iv ee0, Iv ee1, Iv ee2, Rv b_135, Iv (1 : Int32), Iv (0 : Int32), Iv (1 : Int32), Iv (1 : Int32), Iv (1 : Int32), Iv (2 : Int32)] [(.int (2 : Int32)), (.int (2 : Int32))])) tt_
              refine XS.icmpNo X_264.here hEX rfl (hb hBY at_292) rfl (teq (by decide : (2 : Int32) = (2 : Int32))).2 ?_
              show Steps p.tables e below (T_264.setTop (mkF m 295 #[Iv p1, Iv p2, Iv (3 : Int32), Iv ee0, Iv ee1, Iv ee2, Rv b_135, Iv (1 : Int32), Iv (0 : Int32), Iv (1 : Int32), Iv (1 : Int32), Iv (1 : Int32), Iv (2 : Int32)] [])) tt_
              refine XS.iconst X_264.here hEX rfl (hb hBY at_295) ?_
              show Steps p.tables e below (T_264.setTop (mkF m 296 #[Iv p1, Iv p2, Iv (3 : Int32), Iv ee0, Iv ee1, Iv ee2, Rv b_135, Iv (1 : Int32), Iv (0 : Int32), Iv (1 : Int32), Iv (1 : Int32), Iv (1 : Int32), Iv (2 : Int32)] [(.int (1 : Int32))])) tt_
              refine XS.goto X_264.here hEX rfl (pc0 := 296) (pc' := 300) rfl (hb hBY at_296) (by decide) (by decide) ?_
              show Steps p.tables e below (T_264.setTop (mkF m 300 #[Iv p1, Iv p2, Iv (3 : Int32), Iv ee0, Iv ee1, Iv ee2, Rv b_135, Iv (1 : Int32), Iv (0 : Int32), Iv (1 : Int32), Iv (1 : Int32), Iv (1 : Int32), Iv (2 : Int32)] [(.int (1 : Int32))])) tt_
              refine XS.istore X_264.here hEX rfl (hb hBY at_300) rfl (l' := #[Iv p1, Iv p2, Iv (3 : Int32), Iv ee0, Iv ee1, Iv ee2, Rv b_135, Iv (1 : Int32), Iv (0 : Int32), Iv (1 : Int32), Iv (1 : Int32), Iv (1 : Int32), Iv (2 : Int32)]) rfl ?_
              show Steps p.tables e below (T_264.setTop (mkF m 302 #[Iv p1, Iv p2, Iv (3 : Int32), Iv ee0, Iv ee1, Iv ee2, Rv b_135, Iv (1 : Int32), Iv (0 : Int32), Iv (1 : Int32), Iv (1 : Int32), Iv (1 : Int32), Iv (2 : Int32)] [])) tt_
              refine XS.iload X_264.here hEX rfl (hb hBY at_302) rfl ?_
              exact kt_
            refine Done.pre sg_265 ?_
            exact Done.retN X_264 hEX hLK (t := .boolean) hRT (by simp) (hb hBY at_304) (by rw [e_264]; exact ⟨rfl, N_264, K__260⟩) (by decide) (by decide)
          · skip
            have sg_266 : ∀ tt_, Steps p.tables e below (T_251.setTop (mkF m 185 #[Iv p1, Iv p2, Iv (3 : Int32), Iv ee0, Iv ee1, Iv ee2, Rv b_135, Iv (1 : Int32), Iv (0 : Int32), Iv (2 : Int32), Us, Us, Us] [(.int (0 : Int32)), (.ref b_135)])) tt_ → Steps p.tables e below (T_251.setTop (mkF m 179 #[Iv p1, Iv p2, Iv (3 : Int32), Iv ee0, Iv ee1, Iv ee2, Rv b_135, Iv (1 : Int32), Iv (0 : Int32), Iv (2 : Int32), Us, Us, Us] [(.int ee0)])) tt_ := by
              intro tt_ kt_
              refine XS.ifNo X_251.here hEX rfl (hb hBY at_179) rfl ((if0 _ _).trans (feq hc179).1) ?_
              show Steps p.tables e below (T_251.setTop (mkF m 182 #[Iv p1, Iv p2, Iv (3 : Int32), Iv ee0, Iv ee1, Iv ee2, Rv b_135, Iv (1 : Int32), Iv (0 : Int32), Iv (2 : Int32), Us, Us, Us] [])) tt_
              refine XS.aload X_251.here hEX rfl (hb hBY at_182) rfl rfl ?_
              show Steps p.tables e below (T_251.setTop (mkF m 184 #[Iv p1, Iv p2, Iv (3 : Int32), Iv ee0, Iv ee1, Iv ee2, Rv b_135, Iv (1 : Int32), Iv (0 : Int32), Iv (2 : Int32), Us, Us, Us] [(.ref b_135)])) tt_
              refine XS.iconst X_251.here hEX rfl (hb hBY at_184) ?_
              exact kt_
            refine Done.pre sg_266 ?_
            obtain ⟨cq_267, kq_267, q_267a, q_267b, q_267c⟩ := isOf hZW rfl hq_251_0
            obtain ⟨_, _, ⟨T_267, L_267, k_267, n_267⟩, -, X_267, ⟨Lc_267, hQ_267, l_267, y_267, z_267⟩, st_267⟩ := X_251.virtualBack hEX (y := (⟨"com/example/actorium/actorium/Claimant$Sends", "end", "(I)V"⟩ : MethodName)) (z := (⟨"com/example/actorium/actorium/Claimant$Sends", "end", "(I)V"⟩ : MethodName)) hOW (mvT hZW (hw _ (List.mem_of_getElem? (i := 26) rfl))) (mvT hZW (hw _ (List.mem_of_getElem? (i := 27) rfl))) (notFace_of_selects (args := #[]) (mvT hZW (hw _ (List.mem_of_getElem? (i := 29) rfl)))) (mvT hZW (hw _ (List.mem_of_getElem? (i := 29) rfl))) (mvT hZW (hw _ (List.mem_of_getElem? (i := 28) rfl))) (by decide) (backOf (W := 0) (rm_end l Z aZ hw [] b_135 (0 : Int32) (1 : Int32) b__141 k__141 T_251.heap n0 (Nat.le_trans Z0 K__252.1) hq_251_0 f_254 hq_251_2 hq_251_3 ge_b_135 (Nat.le_trans Z0 sz_b__141) ne_b_135_b__141 (by decide)) hZW (hw _ (List.mem_of_getElem? (i := 30) rfl)) (hw _ (List.mem_of_getElem? (i := 3) rfl)) (by decide) (by decide)) q_267a q_267c (g := (mkF m 185 #[Iv p1, Iv p2, Iv (3 : Int32), Iv ee0, Iv ee1, Iv ee2, Rv b_135, Iv (1 : Int32), Iv (0 : Int32), Iv (2 : Int32), Us, Us, Us] [(.int (0 : Int32)), (.ref b_135)])) rfl (by rw [hMX]; rfl) (Steps.refl _) (argsL := [(.int (0 : Int32))]) (rest := []) (lenOf pd__I_V_2 rfl) rfl (by show 2 * 0 + _ ≤ _; exact Nat.le_of_eq rfl) (hb hBY at_185) (fun _ _ => ⟨rfl, rfl, (by decide : 2 + 0 ≤ _), (by decide : 10 + 0 ≤ _)⟩)
            dsimp only [Pt.U, Pt.locs, Pt.cells, Pt.slots] at X_267 l_267 y_267 z_267 st_267 hQ_267
            subst l_267 y_267 z_267
            obtain ⟨rfl, N_267q, K_267, hq_267_0, hq_267_1, hq_267_2, hq_267_3⟩ := hQ_267
            have N_267 := Fr.app N_251 N_267q
            have K__268 : Keep h0 T_267.heap [] := K__252.trans K_267 (allS (Or.inr sz_b_135) (allS (Or.inr sz_b__141) all0))
            have f_269 : Exa Z T_267.heap b_135 "com/example/actorium/actorium/Claimant$Sends" := hq_251_0.keep K_267
            refine Done.pre (fun _ k_ => st_267.trans k_) ?_
            show Done _ _ _ _ _ _ _ (T_267.setTop (mkF m 188 #[Iv p1, Iv p2, Iv (3 : Int32), Iv ee0, Iv ee1, Iv ee2, Rv b_135, Iv (1 : Int32), Iv (0 : Int32), Iv (2 : Int32), Us, Us, Us] []))
            have f_270 : Fld Z T_267.heap b_135 "com/example/actorium/actorium/Claimant$Sends" "top" "I" (.int (0 : Int32)) := by have q := hq_267_1; rw [show (own_end (1 : Int32) (0 : Int32)) = (0 : Int32) from by decide] at q; exact q
            have sg_271 : ∀ tt_, Steps p.tables e below (T_267.setTop (mkF m 235 #[Iv p1, Iv p2, Iv (3 : Int32), Iv ee0, Iv ee1, Iv ee2, Rv b_135, Iv (1 : Int32), Iv (0 : Int32), Iv (0 : Int32), Us, Us, Us] [(.ref b_135)])) tt_ → Steps p.tables e below (T_267.setTop (mkF m 188 #[Iv p1, Iv p2, Iv (3 : Int32), Iv ee0, Iv ee1, Iv ee2, Rv b_135, Iv (1 : Int32), Iv (0 : Int32), Iv (2 : Int32), Us, Us, Us] [])) tt_ := by
              intro tt_ kt_
              refine XS.iloadN X_267.here hEX rfl (hb hBY at_188) rfl ?_
              show Steps p.tables e below (T_267.setTop (mkF m 189 #[Iv p1, Iv p2, Iv (3 : Int32), Iv ee0, Iv ee1, Iv ee2, Rv b_135, Iv (1 : Int32), Iv (0 : Int32), Iv (2 : Int32), Us, Us, Us] [(.int (3 : Int32))])) tt_
              refine XS.iconst X_267.here hEX rfl (hb hBY at_189) ?_
              show Steps p.tables e below (T_267.setTop (mkF m 190 #[Iv p1, Iv p2, Iv (3 : Int32), Iv ee0, Iv ee1, Iv ee2, Rv b_135, Iv (1 : Int32), Iv (0 : Int32), Iv (2 : Int32), Us, Us, Us] [(.int (3 : Int32)), (.int (3 : Int32))])) tt_
              refine XS.icmpNo X_267.here hEX rfl (hb hBY at_190) rfl (flt (by decide : ¬ ((3 : Int32) < (3 : Int32)))).1 ?_
              show Steps p.tables e below (T_267.setTop (mkF m 193 #[Iv p1, Iv p2, Iv (3 : Int32), Iv ee0, Iv ee1, Iv ee2, Rv b_135, Iv (1 : Int32), Iv (0 : Int32), Iv (2 : Int32), Us, Us, Us] [])) tt_
              refine XS.iload X_267.here hEX rfl (hb hBY at_193) rfl ?_
              show Steps p.tables e below (T_267.setTop (mkF m 195 #[Iv p1, Iv p2, Iv (3 : Int32), Iv ee0, Iv ee1, Iv ee2, Rv b_135, Iv (1 : Int32), Iv (0 : Int32), Iv (2 : Int32), Us, Us, Us] [(.int ee2)])) tt_
              refine XS.ifYes X_267.here hEX rfl (pc0 := 195) (pc' := 204) rfl (hb hBY at_195) rfl ((if0 _ _).trans (feq hc158).2) (by decide) (by decide) ?_
              show Steps p.tables e below (T_267.setTop (mkF m 204 #[Iv p1, Iv p2, Iv (3 : Int32), Iv ee0, Iv ee1, Iv ee2, Rv b_135, Iv (1 : Int32), Iv (0 : Int32), Iv (2 : Int32), Us, Us, Us] [])) tt_
              refine XS.iloadN X_267.here hEX rfl (hb hBY at_204) rfl ?_
              show Steps p.tables e below (T_267.setTop (mkF m 205 #[Iv p1, Iv p2, Iv (3 : Int32), Iv ee0, Iv ee1, Iv ee2, Rv b_135, Iv (1 : Int32), Iv (0 : Int32), Iv (2 : Int32), Us, Us, Us] [(.int (3 : Int32))])) tt_
              refine XS.iconst X_267.here hEX rfl (hb hBY at_205) ?_
              show Steps p.tables e below (T_267.setTop (mkF m 206 #[Iv p1, Iv p2, Iv (3 : Int32), Iv ee0, Iv ee1, Iv ee2, Rv b_135, Iv (1 : Int32), Iv (0 : Int32), Iv (2 : Int32), Us, Us, Us] [(.int (2 : Int32)), (.int (3 : Int32))])) tt_
              refine XS.icmpNo X_267.here hEX rfl (hb hBY at_206) rfl (flt (by decide : ¬ ((3 : Int32) < (2 : Int32)))).1 ?_
              show Steps p.tables e below (T_267.setTop (mkF m 209 #[Iv p1, Iv p2, Iv (3 : Int32), Iv ee0, Iv ee1, Iv ee2, Rv b_135, Iv (1 : Int32), Iv (0 : Int32), Iv (2 : Int32), Us, Us, Us] [])) tt_
              refine XS.iload X_267.here hEX rfl (hb hBY at_209) rfl ?_
              show Steps p.tables e below (T_267.setTop (mkF m 211 #[Iv p1, Iv p2, Iv (3 : Int32), Iv ee0, Iv ee1, Iv ee2, Rv b_135, Iv (1 : Int32), Iv (0 : Int32), Iv (2 : Int32), Us, Us, Us] [(.int ee1)])) tt_
              refine XS.ifYes X_267.here hEX rfl (pc0 := 211) (pc' := 220) rfl (hb hBY at_211) rfl ((if0 _ _).trans (feq hc169).2) (by decide) (by decide) ?_
              show Steps p.tables e below (T_267.setTop (mkF m 220 #[Iv p1, Iv p2, Iv (3 : Int32), Iv ee0, Iv ee1, Iv ee2, Rv b_135, Iv (1 : Int32), Iv (0 : Int32), Iv (2 : Int32), Us, Us, Us] [])) tt_
              refine XS.iloadN X_267.here hEX rfl (hb hBY at_220) rfl ?_
              show Steps p.tables e below (T_267.setTop (mkF m 221 #[Iv p1, Iv p2, Iv (3 : Int32), Iv ee0, Iv ee1, Iv ee2, Rv b_135, Iv (1 : Int32), Iv (0 : Int32), Iv (2 : Int32), Us, Us, Us] [(.int ee0)])) tt_
              refine XS.ifYes X_267.here hEX rfl (pc0 := 221) (pc' := 230) rfl (hb hBY at_221) rfl ((if0 _ _).trans (feq hc179).2) (by decide) (by decide) ?_
              show Steps p.tables e below (T_267.setTop (mkF m 230 #[Iv p1, Iv p2, Iv (3 : Int32), Iv ee0, Iv ee1, Iv ee2, Rv b_135, Iv (1 : Int32), Iv (0 : Int32), Iv (2 : Int32), Us, Us, Us] [])) tt_
              refine XS.iconst X_267.here hEX rfl (hb hBY at_230) ?_
              show Steps p.tables e below (T_267.setTop (mkF m 231 #[Iv p1, Iv p2, Iv (3 : Int32), Iv ee0, Iv ee1, Iv ee2, Rv b_135, Iv (1 : Int32), Iv (0 : Int32), Iv (2 : Int32), Us, Us, Us] [(.int (0 : Int32))])) tt_
              refine XS.istore X_267.here hEX rfl (hb hBY at_231) rfl (l' := #[Iv p1, Iv p2, Iv (3 : Int32), Iv ee0, Iv ee1, Iv ee2, Rv b_135, Iv (1 : Int32), Iv (0 : Int32), Iv (0 : Int32), Us, Us, Us]) rfl ?_
              show Steps p.tables e below (T_267.setTop (mkF m 233 #[Iv p1, Iv p2, Iv (3 : Int32), Iv ee0, Iv ee1, Iv ee2, Rv b_135, Iv (1 : Int32), Iv (0 : Int32), Iv (0 : Int32), Us, Us, Us] [])) tt_
              refine XS.aload X_267.here hEX rfl (hb hBY at_233) rfl rfl ?_
              exact kt_
            refine Done.pre sg_271 ?_
            obtain ⟨cq_272, kq_272, q_272a, q_272b, q_272c⟩ := isOf hZW rfl hq_267_0
            obtain ⟨_, _, ⟨T_272, L_272, k_272, n_272⟩, -, X_272, ⟨Lc_272, hQ_272, l_272, y_272, z_272⟩, st_272⟩ := X_267.virtualBack hEX (y := (⟨"com/example/actorium/actorium/Claimant$Sends", "depth", "()I"⟩ : MethodName)) (z := (⟨"com/example/actorium/actorium/Claimant$Sends", "depth", "()I"⟩ : MethodName)) hOW (mvT hZW (hw _ (List.mem_of_getElem? (i := 21) rfl))) (mvT hZW (hw _ (List.mem_of_getElem? (i := 22) rfl))) (notFace_of_selects (args := #[]) (mvT hZW (hw _ (List.mem_of_getElem? (i := 24) rfl)))) (mvT hZW (hw _ (List.mem_of_getElem? (i := 24) rfl))) (mvT hZW (hw _ (List.mem_of_getElem? (i := 23) rfl))) (by decide) (backOf (W := 0) (rm_depth l Z aZ hw [] b_135 (0 : Int32) T_267.heap n0 (Nat.le_trans Z0 K__268.1) f_270) hZW (hw _ (List.mem_of_getElem? (i := 25) rfl)) (hw _ (List.mem_of_getElem? (i := 3) rfl)) (by decide) (by decide)) q_272a q_272c (g := (mkF m 235 #[Iv p1, Iv p2, Iv (3 : Int32), Iv ee0, Iv ee1, Iv ee2, Rv b_135, Iv (1 : Int32), Iv (0 : Int32), Iv (0 : Int32), Us, Us, Us] [(.ref b_135)])) rfl (by rw [hMX]; rfl) (Steps.refl _) (argsL := []) (rest := []) (lenOf pd___I_0 rfl) rfl (by show 2 * 0 + _ ≤ _; exact Nat.le_of_eq rfl) (hb hBY at_235) (fun _ _ => ⟨rfl, rfl, (by decide : 2 + 0 ≤ _), (by decide : 10 + 0 ≤ _)⟩)
            dsimp only [Pt.U, Pt.locs, Pt.cells, Pt.slots] at X_272 l_272 y_272 z_272 st_272 hQ_272
            subst l_272 y_272 z_272
            obtain ⟨rfl, N_272q, e_272⟩ := hQ_272
            have N_272 := Fr.app N_267 N_272q
            refine Done.pre (fun _ k_ => st_272.trans k_) ?_
            show Done _ _ _ _ _ _ _ (T_272.setTop (mkF m 238 #[Iv p1, Iv p2, Iv (3 : Int32), Iv ee0, Iv ee1, Iv ee2, Rv b_135, Iv (1 : Int32), Iv (0 : Int32), Iv (0 : Int32), Us, Us, Us] [(.int (0 : Int32))]))
            have sg_273 : ∀ tt_, Steps p.tables e below (T_272.setTop (mkF m 262 #[Iv p1, Iv p2, Iv (3 : Int32), Iv ee0, Iv ee1, Iv ee2, Rv b_135, Iv (1 : Int32), Iv (0 : Int32), Iv (0 : Int32), Iv (0 : Int32), Us, Us] [.null, (.ref b_135)])) tt_ → Steps p.tables e below (T_272.setTop (mkF m 238 #[Iv p1, Iv p2, Iv (3 : Int32), Iv ee0, Iv ee1, Iv ee2, Rv b_135, Iv (1 : Int32), Iv (0 : Int32), Iv (0 : Int32), Us, Us, Us] [(.int (0 : Int32))])) tt_ := by
              intro tt_ kt_
              refine XS.istore X_272.here hEX rfl (hb hBY at_238) rfl (l' := #[Iv p1, Iv p2, Iv (3 : Int32), Iv ee0, Iv ee1, Iv ee2, Rv b_135, Iv (1 : Int32), Iv (0 : Int32), Iv (0 : Int32), Iv (0 : Int32), Us, Us]) rfl ?_
              show Steps p.tables e below (T_272.setTop (mkF m 240 #[Iv p1, Iv p2, Iv (3 : Int32), Iv ee0, Iv ee1, Iv ee2, Rv b_135, Iv (1 : Int32), Iv (0 : Int32), Iv (0 : Int32), Iv (0 : Int32), Us, Us] [])) tt_
              refine XS.iload X_272.here hEX rfl (hb hBY at_240) rfl ?_
              show Steps p.tables e below (T_272.setTop (mkF m 242 #[Iv p1, Iv p2, Iv (3 : Int32), Iv ee0, Iv ee1, Iv ee2, Rv b_135, Iv (1 : Int32), Iv (0 : Int32), Iv (0 : Int32), Iv (0 : Int32), Us, Us] [(.int (1 : Int32))])) tt_
              refine XS.ifNo X_272.here hEX rfl (hb hBY at_242) rfl ((if0 _ _).trans (feq (by decide : ¬ ((1 : Int32) = (0 : Int32)))).1) ?_
              show Steps p.tables e below (T_272.setTop (mkF m 245 #[Iv p1, Iv p2, Iv (3 : Int32), Iv ee0, Iv ee1, Iv ee2, Rv b_135, Iv (1 : Int32), Iv (0 : Int32), Iv (0 : Int32), Iv (0 : Int32), Us, Us] [])) tt_
              refine XS.iload X_272.here hEX rfl (hb hBY at_245) rfl ?_
              show Steps p.tables e below (T_272.setTop (mkF m 247 #[Iv p1, Iv p2, Iv (3 : Int32), Iv ee0, Iv ee1, Iv ee2, Rv b_135, Iv (1 : Int32), Iv (0 : Int32), Iv (0 : Int32), Iv (0 : Int32), Us, Us] [(.int (0 : Int32))])) tt_
              refine XS.iload X_272.here hEX rfl (hb hBY at_247) rfl ?_
              show Steps p.tables e below (T_272.setTop (mkF m 249 #[Iv p1, Iv p2, Iv (3 : Int32), Iv ee0, Iv ee1, Iv ee2, Rv b_135, Iv (1 : Int32), Iv (0 : Int32), Iv (0 : Int32), Iv (0 : Int32), Us, Us] [(.int (0 : Int32)), (.int (0 : Int32))])) tt_
              refine XS.icmpNo X_272.here hEX rfl (hb hBY at_249) rfl (teq (by decide : (0 : Int32) = (0 : Int32))).2 ?_
              show Steps p.tables e below (T_272.setTop (mkF m 252 #[Iv p1, Iv p2, Iv (3 : Int32), Iv ee0, Iv ee1, Iv ee2, Rv b_135, Iv (1 : Int32), Iv (0 : Int32), Iv (0 : Int32), Iv (0 : Int32), Us, Us] [])) tt_
              refine XS.iconst X_272.here hEX rfl (hb hBY at_252) ?_
              show Steps p.tables e below (T_272.setTop (mkF m 253 #[Iv p1, Iv p2, Iv (3 : Int32), Iv ee0, Iv ee1, Iv ee2, Rv b_135, Iv (1 : Int32), Iv (0 : Int32), Iv (0 : Int32), Iv (0 : Int32), Us, Us] [(.int (1 : Int32))])) tt_
              refine XS.goto X_272.here hEX rfl (pc0 := 253) (pc' := 257) rfl (hb hBY at_253) (by decide) (by decide) ?_
              show Steps p.tables e below (T_272.setTop (mkF m 257 #[Iv p1, Iv p2, Iv (3 : Int32), Iv ee0, Iv ee1, Iv ee2, Rv b_135, Iv (1 : Int32), Iv (0 : Int32), Iv (0 : Int32), Iv (0 : Int32), Us, Us] [(.int (1 : Int32))])) tt_
              refine XS.istore X_272.here hEX rfl (hb hBY at_257) rfl (l' := #[Iv p1, Iv p2, Iv (3 : Int32), Iv ee0, Iv ee1, Iv ee2, Rv b_135, Iv (1 : Int32), Iv (0 : Int32), Iv (0 : Int32), Iv (0 : Int32), Us, Us]) rfl ?_
              show Steps p.tables e below (T_272.setTop (mkF m 259 #[Iv p1, Iv p2, Iv (3 : Int32), Iv ee0, Iv ee1, Iv ee2, Rv b_135, Iv (1 : Int32), Iv (0 : Int32), Iv (0 : Int32), Iv (0 : Int32), Us, Us] [])) tt_
              refine XS.aload X_272.here hEX rfl (hb hBY at_259) rfl rfl ?_
              show Steps p.tables e below (T_272.setTop (mkF m 261 #[Iv p1, Iv p2, Iv (3 : Int32), Iv ee0, Iv ee1, Iv ee2, Rv b_135, Iv (1 : Int32), Iv (0 : Int32), Iv (0 : Int32), Iv (0 : Int32), Us, Us] [(.ref b_135)])) tt_
              refine XS.aconstNull X_272.here hEX rfl (hb hBY at_261) ?_
              exact kt_
            refine Done.pre sg_273 ?_
            obtain ⟨cq_274, kq_274, q_274a, q_274b, q_274c⟩ := isOf hZW e_272 hq_267_0
            obtain ⟨_, _, ⟨T_274, L_274, k_274, n_274⟩, -, X_274, ⟨Lc_274, hQ_274, l_274, y_274, z_274⟩, st_274⟩ := X_272.virtualBack hEX (y := (⟨"com/example/actorium/actorium/Claimant$Sends", "begin", "(Lcom/example/actorium/actorium/DispatchedCell;)I"⟩ : MethodName)) (z := (⟨"com/example/actorium/actorium/Claimant$Sends", "begin", "(Lcom/example/actorium/actorium/DispatchedCell;)I"⟩ : MethodName)) hOW (mvT hZW (hw _ (List.mem_of_getElem? (i := 14) rfl))) (mvT hZW (hw _ (List.mem_of_getElem? (i := 15) rfl))) (notFace_of_selects (args := #[]) (mvT hZW (hw _ (List.mem_of_getElem? (i := 17) rfl)))) (mvT hZW (hw _ (List.mem_of_getElem? (i := 17) rfl))) (mvT hZW (hw _ (List.mem_of_getElem? (i := 16) rfl))) (by decide) (backOf (W := 0) (rm_begin l Z aZ hw [] b_135 (0 : Int32) b__141 k__141 T_267.heap n0 (Nat.le_trans Z0 K__268.1) hq_267_0 f_270 hq_267_2 hq_267_3 ge_b_135 (Nat.le_trans Z0 sz_b__141) ne_b_135_b__141 (by decide)) hZW (hw _ (List.mem_of_getElem? (i := 18) rfl)) (hw _ (List.mem_of_getElem? (i := 3) rfl)) (by decide) (by decide)) q_274a q_274c (g := (mkF m 262 #[Iv p1, Iv p2, Iv (3 : Int32), Iv ee0, Iv ee1, Iv ee2, Rv b_135, Iv (1 : Int32), Iv (0 : Int32), Iv (0 : Int32), Iv (0 : Int32), Us, Us] [.null, (.ref b_135)])) rfl (by rw [hMX]; rfl) (Steps.refl _) (argsL := [.null]) (rest := []) (lenOf pd__Lcom_example_actorium_actorium_DispatchedCell__I_3 rfl) rfl (by show 2 * 0 + _ ≤ _; exact Nat.le_of_eq rfl) (hb hBY at_262) (fun _ _ => ⟨rfl, e_272, (by decide : 2 + 0 ≤ _), (by decide : 10 + 0 ≤ _)⟩)
            dsimp only [Pt.U, Pt.locs, Pt.cells, Pt.slots] at X_274 l_274 y_274 z_274 st_274 hQ_274
            subst l_274 y_274 z_274
            obtain ⟨rfl, N_274q, K_274, hq_274_0, hq_274_1, hq_274_2, hq_274_3⟩ := hQ_274
            have N_274 := Fr.app N_272 N_274q
            have K__275 : Keep h0 T_274.heap [] := K__268.trans K_274 (allS (Or.inr sz_b_135) (allS (Or.inr sz_b__141) all0))
            have f_276 : Exa Z T_274.heap b_135 "com/example/actorium/actorium/Claimant$Sends" := hq_267_0.keep K_274
            refine Done.pre (fun _ k_ => st_274.trans k_) ?_
            show Done _ _ _ _ _ _ _ (T_274.setTop (mkF m 265 #[Iv p1, Iv p2, Iv (3 : Int32), Iv ee0, Iv ee1, Iv ee2, Rv b_135, Iv (1 : Int32), Iv (0 : Int32), Iv (0 : Int32), Iv (0 : Int32), Us, Us] [(.int (0 : Int32))]))
            have f_277 : Fld Z T_274.heap b_135 "com/example/actorium/actorium/Claimant$Sends" "top" "I" (.int (1 : Int32)) := by have q := hq_274_1; rw [show ((0 : Int32) + (1 : Int32)) = (1 : Int32) from by decide] at q; exact q
            have sg_278 : ∀ tt_, Steps p.tables e below (T_274.setTop (mkF m 269 #[Iv p1, Iv p2, Iv (3 : Int32), Iv ee0, Iv ee1, Iv ee2, Rv b_135, Iv (1 : Int32), Iv (0 : Int32), Iv (0 : Int32), Iv (0 : Int32), Iv (0 : Int32), Us] [(.ref b_135)])) tt_ → Steps p.tables e below (T_274.setTop (mkF m 265 #[Iv p1, Iv p2, Iv (3 : Int32), Iv ee0, Iv ee1, Iv ee2, Rv b_135, Iv (1 : Int32), Iv (0 : Int32), Iv (0 : Int32), Iv (0 : Int32), Us, Us] [(.int (0 : Int32))])) tt_ := by
              intro tt_ kt_
              refine XS.istore X_274.here hEX rfl (hb hBY at_265) rfl (l' := #[Iv p1, Iv p2, Iv (3 : Int32), Iv ee0, Iv ee1, Iv ee2, Rv b_135, Iv (1 : Int32), Iv (0 : Int32), Iv (0 : Int32), Iv (0 : Int32), Iv (0 : Int32), Us]) rfl ?_
              show Steps p.tables e below (T_274.setTop (mkF m 267 #[Iv p1, Iv p2, Iv (3 : Int32), Iv ee0, Iv ee1, Iv ee2, Rv b_135, Iv (1 : Int32), Iv (0 : Int32), Iv (0 : Int32), Iv (0 : Int32), Iv (0 : Int32), Us] [])) tt_
              refine XS.aload X_274.here hEX rfl (hb hBY at_267) rfl rfl ?_
              exact kt_
            refine Done.pre sg_278 ?_
            obtain ⟨cq_279, kq_279, q_279a, q_279b, q_279c⟩ := isOf hZW rfl hq_274_0
            obtain ⟨_, _, ⟨T_279, L_279, k_279, n_279⟩, -, X_279, ⟨Lc_279, hQ_279, l_279, y_279, z_279⟩, st_279⟩ := X_274.virtualBack hEX (y := (⟨"com/example/actorium/actorium/Claimant$Sends", "depth", "()I"⟩ : MethodName)) (z := (⟨"com/example/actorium/actorium/Claimant$Sends", "depth", "()I"⟩ : MethodName)) hOW (mvT hZW (hw _ (List.mem_of_getElem? (i := 21) rfl))) (mvT hZW (hw _ (List.mem_of_getElem? (i := 22) rfl))) (notFace_of_selects (args := #[]) (mvT hZW (hw _ (List.mem_of_getElem? (i := 24) rfl)))) (mvT hZW (hw _ (List.mem_of_getElem? (i := 24) rfl))) (mvT hZW (hw _ (List.mem_of_getElem? (i := 23) rfl))) (by decide) (backOf (W := 0) (rm_depth l Z aZ hw [] b_135 (1 : Int32) T_274.heap n0 (Nat.le_trans Z0 K__275.1) f_277) hZW (hw _ (List.mem_of_getElem? (i := 25) rfl)) (hw _ (List.mem_of_getElem? (i := 3) rfl)) (by decide) (by decide)) q_279a q_279c (g := (mkF m 269 #[Iv p1, Iv p2, Iv (3 : Int32), Iv ee0, Iv ee1, Iv ee2, Rv b_135, Iv (1 : Int32), Iv (0 : Int32), Iv (0 : Int32), Iv (0 : Int32), Iv (0 : Int32), Us] [(.ref b_135)])) rfl (by rw [hMX]; rfl) (Steps.refl _) (argsL := []) (rest := []) (lenOf pd___I_0 rfl) rfl (by show 2 * 0 + _ ≤ _; exact Nat.le_of_eq rfl) (hb hBY at_269) (fun _ _ => ⟨rfl, rfl, (by decide : 2 + 0 ≤ _), (by decide : 10 + 0 ≤ _)⟩)
            dsimp only [Pt.U, Pt.locs, Pt.cells, Pt.slots] at X_279 l_279 y_279 z_279 st_279 hQ_279
            subst l_279 y_279 z_279
            obtain ⟨rfl, N_279q, e_279⟩ := hQ_279
            have N_279 := Fr.app N_274 N_279q
            refine Done.pre (fun _ k_ => st_279.trans k_) ?_
            show Done _ _ _ _ _ _ _ (T_279.setTop (mkF m 272 #[Iv p1, Iv p2, Iv (3 : Int32), Iv ee0, Iv ee1, Iv ee2, Rv b_135, Iv (1 : Int32), Iv (0 : Int32), Iv (0 : Int32), Iv (0 : Int32), Iv (0 : Int32), Us] [(.int (1 : Int32))]))
            have sg_280 : ∀ tt_, Steps p.tables e below (T_279.setTop (mkF m 304 #[Iv p1, Iv p2, Iv (3 : Int32), Iv ee0, Iv ee1, Iv ee2, Rv b_135, Iv (1 : Int32), Iv (0 : Int32), Iv (0 : Int32), Iv (0 : Int32), Iv (0 : Int32), Iv (1 : Int32)] [(.int (1 : Int32))])) tt_ → Steps p.tables e below (T_279.setTop (mkF m 272 #[Iv p1, Iv p2, Iv (3 : Int32), Iv ee0, Iv ee1, Iv ee2, Rv b_135, Iv (1 : Int32), Iv (0 : Int32), Iv (0 : Int32), Iv (0 : Int32), Iv (0 : Int32), Us] [(.int (1 : Int32))])) tt_ := by
              intro tt_ kt_
              refine XS.istore X_279.here hEX rfl (hb hBY at_272) rfl (l' := #[Iv p1, Iv p2, Iv (3 : Int32), Iv ee0, Iv ee1, Iv ee2, Rv b_135, Iv (1 : Int32), Iv (0 : Int32), Iv (0 : Int32), Iv (0 : Int32), Iv (0 : Int32), Iv (1 : Int32)]) rfl ?_
              show Steps p.tables e below (T_279.setTop (mkF m 274 #[Iv p1, Iv p2, Iv (3 : Int32), Iv ee0, Iv ee1, Iv ee2, Rv b_135, Iv (1 : Int32), Iv (0 : Int32), Iv (0 : Int32), Iv (0 : Int32), Iv (0 : Int32), Iv (1 : Int32)] [])) tt_
              refine XS.iload X_279.here hEX rfl (hb hBY at_274) rfl ?_
              show Steps p.tables e below (T_279.setTop (mkF m 276 #[Iv p1, Iv p2, Iv (3 : Int32), Iv ee0, Iv ee1, Iv ee2, Rv b_135, Iv (1 : Int32), Iv (0 : Int32), Iv (0 : Int32), Iv (0 : Int32), Iv (0 : Int32), Iv (1 : Int32)] [(.int (1 : Int32))])) tt_
              refine XS.ifNo X_279.here hEX rfl (hb hBY at_276) rfl ((if0 _ _).trans (feq (by decide : ¬ ((1 : Int32) = (0 : Int32)))).1) ?_
              show Steps p.tables e below (T_279.setTop (mkF m 279 #[Iv p1, Iv p2, Iv (3 : Int32), Iv ee0, Iv ee1, Iv ee2, Rv b_135, Iv (1 : Int32), Iv (0 : Int32), Iv (0 : Int32), Iv (0 : Int32), Iv (0 : Int32), Iv (1 : Int32)] [])) tt_
              refine XS.iload X_279.here hEX rfl (hb hBY at_279) rfl ?_
              show Steps p.tables e below (T_279.setTop (mkF m 281 #[Iv p1, Iv p2, Iv (3 : Int32), Iv ee0, Iv ee1, Iv ee2, Rv b_135, Iv (1 : Int32), Iv (0 : Int32), Iv (0 : Int32), Iv (0 : Int32), Iv (0 : Int32), Iv (1 : Int32)] [(.int (0 : Int32))])) tt_
              refine XS.iload X_279.here hEX rfl (hb hBY at_281) rfl ?_
              show Steps p.tables e below (T_279.setTop (mkF m 283 #[Iv p1, Iv p2, Iv (3 : Int32), Iv ee0, Iv ee1, Iv ee2, Rv b_135, Iv (1 : Int32), Iv (0 : Int32), Iv (0 : Int32), Iv (0 : Int32), Iv (0 : Int32), Iv (1 : Int32)] [(.int (0 : Int32)), (.int (0 : Int32))])) tt_
              refine XS.icmpNo X_279.here hEX rfl (hb hBY at_283) rfl (teq (by decide : (0 : Int32) = (0 : Int32))).2 ?_
              show Steps p.tables e below (T_279.setTop (mkF m 286 #[Iv p1, Iv p2, Iv (3 : Int32), Iv ee0, Iv ee1, Iv ee2, Rv b_135, Iv (1 : Int32), Iv (0 : Int32), Iv (0 : Int32), Iv (0 : Int32), Iv (0 : Int32), Iv (1 : Int32)] [])) tt_
              refine XS.iload X_279.here hEX rfl (hb hBY at_286) rfl ?_
              show Steps p.tables e below (T_279.setTop (mkF m 288 #[Iv p1, Iv p2, Iv (3 : Int32), Iv ee0, Iv ee1, Iv ee2, Rv b_135, Iv (1 : Int32), Iv (0 : Int32), Iv (0 : Int32), Iv (0 : Int32), Iv (0 : Int32), Iv (1 : Int32)] [(.int (1 : Int32))])) tt_
              refine XS.iload X_279.here hEX rfl (hb hBY at_288) rfl ?_
              show Steps p.tables e below (T_279.setTop (mkF m 290 #[Iv p1, Iv p2, Iv (3 : Int32), Iv ee0, Iv ee1, Iv ee2, Rv b_135, Iv (1 : Int32), Iv (0 : Int32), Iv (0 : Int32), Iv (0 : Int32), Iv (0 : Int32), Iv (1 : Int32)] [(.int (0 : Int32)), (.int (1 : Int32))])) tt_
              refine XS.iconst X_279.here hEX rfl (hb hBY at_290) ?_
              show Steps p.tables e below (T_279.setTop (mkF m 291 #[Iv p1, Iv p2, Iv (3 : Int32), Iv ee0, Iv ee1, Iv ee2, Rv b_135, Iv (1 : Int32), Iv (0 : Int32), Iv (0 : Int32), Iv (0 : Int32), Iv (0 : Int32), Iv (1 : Int32)] [(.int (1 : Int32)), (.int (0 : Int32)), (.int (1 : Int32))])) tt_
              refine XS.iadd X_279.here hEX rfl (hb hBY at_291) rfl ?_
              show Steps p.tables e below (T_279.setTop (mkF m 292 #[Iv p1, Iv p2, Iv (3 : Int32), Iv ee0, Iv ee1, Iv ee2, Rv b_135, Iv (1 : Int32), Iv (0 : Int32), Iv (0 : Int32), Iv (0 : Int32), Iv (0 : Int32), Iv (1 : Int32)] [(.int (1 : Int32)), (.int (1 : Int32))])) tt_
              refine XS.icmpNo X_279.here hEX rfl (hb hBY at_292) rfl (teq (by decide : (1 : Int32) = (1 : Int32))).2 ?_
              show Steps p.tables e below (T_279.setTop (mkF m 295 #[Iv p1, Iv p2, Iv (3 : Int32), Iv ee0, Iv ee1, Iv ee2, Rv b_135, Iv (1 : Int32), Iv (0 : Int32), Iv (0 : Int32), Iv (0 : Int32), Iv (0 : Int32), Iv (1 : Int32)] [])) tt_
              refine XS.iconst X_279.here hEX rfl (hb hBY at_295) ?_
              show Steps p.tables e below (T_279.setTop (mkF m 296 #[Iv p1, Iv p2, Iv (3 : Int32), Iv ee0, Iv ee1, Iv ee2, Rv b_135, Iv (1 : Int32), Iv (0 : Int32), Iv (0 : Int32), Iv (0 : Int32), Iv (0 : Int32), Iv (1 : Int32)] [(.int (1 : Int32))])) tt_
              refine XS.goto X_279.here hEX rfl (pc0 := 296) (pc' := 300) rfl (hb hBY at_296) (by decide) (by decide) ?_
              show Steps p.tables e below (T_279.setTop (mkF m 300 #[Iv p1, Iv p2, Iv (3 : Int32), Iv ee0, Iv ee1, Iv ee2, Rv b_135, Iv (1 : Int32), Iv (0 : Int32), Iv (0 : Int32), Iv (0 : Int32), Iv (0 : Int32), Iv (1 : Int32)] [(.int (1 : Int32))])) tt_
              refine XS.istore X_279.here hEX rfl (hb hBY at_300) rfl (l' := #[Iv p1, Iv p2, Iv (3 : Int32), Iv ee0, Iv ee1, Iv ee2, Rv b_135, Iv (1 : Int32), Iv (0 : Int32), Iv (0 : Int32), Iv (0 : Int32), Iv (0 : Int32), Iv (1 : Int32)]) rfl ?_
              show Steps p.tables e below (T_279.setTop (mkF m 302 #[Iv p1, Iv p2, Iv (3 : Int32), Iv ee0, Iv ee1, Iv ee2, Rv b_135, Iv (1 : Int32), Iv (0 : Int32), Iv (0 : Int32), Iv (0 : Int32), Iv (0 : Int32), Iv (1 : Int32)] [])) tt_
              refine XS.iload X_279.here hEX rfl (hb hBY at_302) rfl ?_
              exact kt_
            refine Done.pre sg_280 ?_
            exact Done.retN X_279 hEX hLK (t := .boolean) hRT (by simp) (hb hBY at_304) (by rw [e_279]; exact ⟨rfl, N_279, K__275⟩) (by decide) (by decide)
    show Done _ _ _ _ _ _ _ (s₁.setTop (mkF m 9 #[Iv p1, Iv p2, Iv (3 : Int32), Us, Us, Us, Us, Us, Us, Us, Us, Us, Us] []))
    have sg_281 : ∀ tt_, Steps p.tables e below (s₁.setTop (mkF m 12 #[Iv p1, Iv p2, Iv (3 : Int32), Us, Us, Us, Us, Us, Us, Us, Us, Us, Us] [(.int (p1 &&& (1 : Int32)))])) tt_ → Steps p.tables e below (s₁.setTop (mkF m 9 #[Iv p1, Iv p2, Iv (3 : Int32), Us, Us, Us, Us, Us, Us, Us, Us, Us, Us] [])) tt_ := by
      intro tt_ kt_
      refine XS.iloadN X0.here hEX rfl (hb hBY at_9) rfl ?_
      show Steps p.tables e below (s₁.setTop (mkF m 10 #[Iv p1, Iv p2, Iv (3 : Int32), Us, Us, Us, Us, Us, Us, Us, Us, Us, Us] [(.int p1)])) tt_
      refine XS.iconst X0.here hEX rfl (hb hBY at_10) ?_
      show Steps p.tables e below (s₁.setTop (mkF m 11 #[Iv p1, Iv p2, Iv (3 : Int32), Us, Us, Us, Us, Us, Us, Us, Us, Us, Us] [(.int (1 : Int32)), (.int p1)])) tt_
      refine XS.iand X0.here hEX rfl (hb hBY at_11) rfl ?_
      exact kt_
    refine Done.pre sg_281 ?_
    by_cases hc12 : (p1 &&& (1 : Int32)) = (0 : Int32)
    · skip
      have sg_282 : ∀ tt_, Steps p.tables e below (s₁.setTop (mkF m 29 #[Iv p1, Iv p2, Iv (3 : Int32), Iv (0 : Int32), Us, Us, Us, Us, Us, Us, Us, Us, Us] [(.int (p1 &&& (2 : Int32)))])) tt_ → Steps p.tables e below (s₁.setTop (mkF m 12 #[Iv p1, Iv p2, Iv (3 : Int32), Us, Us, Us, Us, Us, Us, Us, Us, Us, Us] [(.int (p1 &&& (1 : Int32)))])) tt_ := by
        intro tt_ kt_
        refine XS.ifYes X0.here hEX rfl (pc0 := 12) (pc' := 19) rfl (hb hBY at_12) rfl ((if0 _ _).trans (teq hc12).1) (by decide) (by decide) ?_
        show Steps p.tables e below (s₁.setTop (mkF m 19 #[Iv p1, Iv p2, Iv (3 : Int32), Us, Us, Us, Us, Us, Us, Us, Us, Us, Us] [])) tt_
        refine XS.iconst X0.here hEX rfl (hb hBY at_19) ?_
        show Steps p.tables e below (s₁.setTop (mkF m 20 #[Iv p1, Iv p2, Iv (3 : Int32), Us, Us, Us, Us, Us, Us, Us, Us, Us, Us] [(.int (0 : Int32))])) tt_
        refine XS.istoreN X0.here hEX rfl (hb hBY at_20) rfl (l' := #[Iv p1, Iv p2, Iv (3 : Int32), Iv (0 : Int32), Us, Us, Us, Us, Us, Us, Us, Us, Us]) rfl ?_
        show Steps p.tables e below (s₁.setTop (mkF m 21 #[Iv p1, Iv p2, Iv (3 : Int32), Iv (0 : Int32), Us, Us, Us, Us, Us, Us, Us, Us, Us] [])) tt_
        refine XS.iloadN X0.here hEX rfl (hb hBY at_21) rfl ?_
        show Steps p.tables e below (s₁.setTop (mkF m 22 #[Iv p1, Iv p2, Iv (3 : Int32), Iv (0 : Int32), Us, Us, Us, Us, Us, Us, Us, Us, Us] [(.int (3 : Int32))])) tt_
        refine XS.iconst X0.here hEX rfl (hb hBY at_22) ?_
        show Steps p.tables e below (s₁.setTop (mkF m 23 #[Iv p1, Iv p2, Iv (3 : Int32), Iv (0 : Int32), Us, Us, Us, Us, Us, Us, Us, Us, Us] [(.int (2 : Int32)), (.int (3 : Int32))])) tt_
        refine XS.icmpNo X0.here hEX rfl (hb hBY at_23) rfl (flt (by decide : ¬ ((3 : Int32) < (2 : Int32)))).1 ?_
        show Steps p.tables e below (s₁.setTop (mkF m 26 #[Iv p1, Iv p2, Iv (3 : Int32), Iv (0 : Int32), Us, Us, Us, Us, Us, Us, Us, Us, Us] [])) tt_
        refine XS.iloadN X0.here hEX rfl (hb hBY at_26) rfl ?_
        show Steps p.tables e below (s₁.setTop (mkF m 27 #[Iv p1, Iv p2, Iv (3 : Int32), Iv (0 : Int32), Us, Us, Us, Us, Us, Us, Us, Us, Us] [(.int p1)])) tt_
        refine XS.iconst X0.here hEX rfl (hb hBY at_27) ?_
        show Steps p.tables e below (s₁.setTop (mkF m 28 #[Iv p1, Iv p2, Iv (3 : Int32), Iv (0 : Int32), Us, Us, Us, Us, Us, Us, Us, Us, Us] [(.int (2 : Int32)), (.int p1)])) tt_
        refine XS.iand X0.here hEX rfl (hb hBY at_28) rfl ?_
        exact kt_
      refine Done.pre sg_282 ?_
      by_cases hc29 : (p1 &&& (2 : Int32)) = (0 : Int32)
      · skip
        have sg_283 : ∀ tt_, Steps p.tables e below (s₁.setTop (mkF m 47 #[Iv p1, Iv p2, Iv (3 : Int32), Iv (0 : Int32), Iv (0 : Int32), Us, Us, Us, Us, Us, Us, Us, Us] [(.int (p1 &&& (4 : Int32)))])) tt_ → Steps p.tables e below (s₁.setTop (mkF m 29 #[Iv p1, Iv p2, Iv (3 : Int32), Iv (0 : Int32), Us, Us, Us, Us, Us, Us, Us, Us, Us] [(.int (p1 &&& (2 : Int32)))])) tt_ := by
          intro tt_ kt_
          refine XS.ifYes X0.here hEX rfl (pc0 := 29) (pc' := 36) rfl (hb hBY at_29) rfl ((if0 _ _).trans (teq hc29).1) (by decide) (by decide) ?_
          show Steps p.tables e below (s₁.setTop (mkF m 36 #[Iv p1, Iv p2, Iv (3 : Int32), Iv (0 : Int32), Us, Us, Us, Us, Us, Us, Us, Us, Us] [])) tt_
          refine XS.iconst X0.here hEX rfl (hb hBY at_36) ?_
          show Steps p.tables e below (s₁.setTop (mkF m 37 #[Iv p1, Iv p2, Iv (3 : Int32), Iv (0 : Int32), Us, Us, Us, Us, Us, Us, Us, Us, Us] [(.int (0 : Int32))])) tt_
          refine XS.istore X0.here hEX rfl (hb hBY at_37) rfl (l' := #[Iv p1, Iv p2, Iv (3 : Int32), Iv (0 : Int32), Iv (0 : Int32), Us, Us, Us, Us, Us, Us, Us, Us]) rfl ?_
          show Steps p.tables e below (s₁.setTop (mkF m 39 #[Iv p1, Iv p2, Iv (3 : Int32), Iv (0 : Int32), Iv (0 : Int32), Us, Us, Us, Us, Us, Us, Us, Us] [])) tt_
          refine XS.iloadN X0.here hEX rfl (hb hBY at_39) rfl ?_
          show Steps p.tables e below (s₁.setTop (mkF m 40 #[Iv p1, Iv p2, Iv (3 : Int32), Iv (0 : Int32), Iv (0 : Int32), Us, Us, Us, Us, Us, Us, Us, Us] [(.int (3 : Int32))])) tt_
          refine XS.iconst X0.here hEX rfl (hb hBY at_40) ?_
          show Steps p.tables e below (s₁.setTop (mkF m 41 #[Iv p1, Iv p2, Iv (3 : Int32), Iv (0 : Int32), Iv (0 : Int32), Us, Us, Us, Us, Us, Us, Us, Us] [(.int (3 : Int32)), (.int (3 : Int32))])) tt_
          refine XS.icmpNo X0.here hEX rfl (hb hBY at_41) rfl (flt (by decide : ¬ ((3 : Int32) < (3 : Int32)))).1 ?_
          show Steps p.tables e below (s₁.setTop (mkF m 44 #[Iv p1, Iv p2, Iv (3 : Int32), Iv (0 : Int32), Iv (0 : Int32), Us, Us, Us, Us, Us, Us, Us, Us] [])) tt_
          refine XS.iloadN X0.here hEX rfl (hb hBY at_44) rfl ?_
          show Steps p.tables e below (s₁.setTop (mkF m 45 #[Iv p1, Iv p2, Iv (3 : Int32), Iv (0 : Int32), Iv (0 : Int32), Us, Us, Us, Us, Us, Us, Us, Us] [(.int p1)])) tt_
          refine XS.iconst X0.here hEX rfl (hb hBY at_45) ?_
          show Steps p.tables e below (s₁.setTop (mkF m 46 #[Iv p1, Iv p2, Iv (3 : Int32), Iv (0 : Int32), Iv (0 : Int32), Us, Us, Us, Us, Us, Us, Us, Us] [(.int (4 : Int32)), (.int p1)])) tt_
          refine XS.iand X0.here hEX rfl (hb hBY at_46) rfl ?_
          exact kt_
        refine Done.pre sg_283 ?_
        by_cases hc47 : (p1 &&& (4 : Int32)) = (0 : Int32)
        · skip
          have sg_284 : ∀ tt_, Steps p.tables e below (s₁.setTop (mkF m 57 #[Iv p1, Iv p2, Iv (3 : Int32), Iv (0 : Int32), Iv (0 : Int32), Iv (0 : Int32), Us, Us, Us, Us, Us, Us, Us] [])) tt_ → Steps p.tables e below (s₁.setTop (mkF m 47 #[Iv p1, Iv p2, Iv (3 : Int32), Iv (0 : Int32), Iv (0 : Int32), Us, Us, Us, Us, Us, Us, Us, Us] [(.int (p1 &&& (4 : Int32)))])) tt_ := by
            intro tt_ kt_
            refine XS.ifYes X0.here hEX rfl (pc0 := 47) (pc' := 54) rfl (hb hBY at_47) rfl ((if0 _ _).trans (teq hc47).1) (by decide) (by decide) ?_
            show Steps p.tables e below (s₁.setTop (mkF m 54 #[Iv p1, Iv p2, Iv (3 : Int32), Iv (0 : Int32), Iv (0 : Int32), Us, Us, Us, Us, Us, Us, Us, Us] [])) tt_
            refine XS.iconst X0.here hEX rfl (hb hBY at_54) ?_
            show Steps p.tables e below (s₁.setTop (mkF m 55 #[Iv p1, Iv p2, Iv (3 : Int32), Iv (0 : Int32), Iv (0 : Int32), Us, Us, Us, Us, Us, Us, Us, Us] [(.int (0 : Int32))])) tt_
            refine XS.istore X0.here hEX rfl (hb hBY at_55) rfl (l' := #[Iv p1, Iv p2, Iv (3 : Int32), Iv (0 : Int32), Iv (0 : Int32), Iv (0 : Int32), Us, Us, Us, Us, Us, Us, Us]) rfl ?_
            exact kt_
          refine Done.pre sg_284 ?_
          exact jn_134 ((0 : Int32)) ((0 : Int32)) ((0 : Int32))
        · skip
          have sg_285 : ∀ tt_, Steps p.tables e below (s₁.setTop (mkF m 57 #[Iv p1, Iv p2, Iv (3 : Int32), Iv (0 : Int32), Iv (0 : Int32), Iv (1 : Int32), Us, Us, Us, Us, Us, Us, Us] [])) tt_ → Steps p.tables e below (s₁.setTop (mkF m 47 #[Iv p1, Iv p2, Iv (3 : Int32), Iv (0 : Int32), Iv (0 : Int32), Us, Us, Us, Us, Us, Us, Us, Us] [(.int (p1 &&& (4 : Int32)))])) tt_ := by
            intro tt_ kt_
            refine XS.ifNo X0.here hEX rfl (hb hBY at_47) rfl ((if0 _ _).trans (feq hc47).1) ?_
            show Steps p.tables e below (s₁.setTop (mkF m 50 #[Iv p1, Iv p2, Iv (3 : Int32), Iv (0 : Int32), Iv (0 : Int32), Us, Us, Us, Us, Us, Us, Us, Us] [])) tt_
            refine XS.iconst X0.here hEX rfl (hb hBY at_50) ?_
            show Steps p.tables e below (s₁.setTop (mkF m 51 #[Iv p1, Iv p2, Iv (3 : Int32), Iv (0 : Int32), Iv (0 : Int32), Us, Us, Us, Us, Us, Us, Us, Us] [(.int (1 : Int32))])) tt_
            refine XS.goto X0.here hEX rfl (pc0 := 51) (pc' := 55) rfl (hb hBY at_51) (by decide) (by decide) ?_
            show Steps p.tables e below (s₁.setTop (mkF m 55 #[Iv p1, Iv p2, Iv (3 : Int32), Iv (0 : Int32), Iv (0 : Int32), Us, Us, Us, Us, Us, Us, Us, Us] [(.int (1 : Int32))])) tt_
            refine XS.istore X0.here hEX rfl (hb hBY at_55) rfl (l' := #[Iv p1, Iv p2, Iv (3 : Int32), Iv (0 : Int32), Iv (0 : Int32), Iv (1 : Int32), Us, Us, Us, Us, Us, Us, Us]) rfl ?_
            exact kt_
          refine Done.pre sg_285 ?_
          exact jn_134 ((0 : Int32)) ((0 : Int32)) ((1 : Int32))
      · skip
        have sg_286 : ∀ tt_, Steps p.tables e below (s₁.setTop (mkF m 47 #[Iv p1, Iv p2, Iv (3 : Int32), Iv (0 : Int32), Iv (1 : Int32), Us, Us, Us, Us, Us, Us, Us, Us] [(.int (p1 &&& (4 : Int32)))])) tt_ → Steps p.tables e below (s₁.setTop (mkF m 29 #[Iv p1, Iv p2, Iv (3 : Int32), Iv (0 : Int32), Us, Us, Us, Us, Us, Us, Us, Us, Us] [(.int (p1 &&& (2 : Int32)))])) tt_ := by
          intro tt_ kt_
          refine XS.ifNo X0.here hEX rfl (hb hBY at_29) rfl ((if0 _ _).trans (feq hc29).1) ?_
          show Steps p.tables e below (s₁.setTop (mkF m 32 #[Iv p1, Iv p2, Iv (3 : Int32), Iv (0 : Int32), Us, Us, Us, Us, Us, Us, Us, Us, Us] [])) tt_
          refine XS.iconst X0.here hEX rfl (hb hBY at_32) ?_
          show Steps p.tables e below (s₁.setTop (mkF m 33 #[Iv p1, Iv p2, Iv (3 : Int32), Iv (0 : Int32), Us, Us, Us, Us, Us, Us, Us, Us, Us] [(.int (1 : Int32))])) tt_
          refine XS.goto X0.here hEX rfl (pc0 := 33) (pc' := 37) rfl (hb hBY at_33) (by decide) (by decide) ?_
          show Steps p.tables e below (s₁.setTop (mkF m 37 #[Iv p1, Iv p2, Iv (3 : Int32), Iv (0 : Int32), Us, Us, Us, Us, Us, Us, Us, Us, Us] [(.int (1 : Int32))])) tt_
          refine XS.istore X0.here hEX rfl (hb hBY at_37) rfl (l' := #[Iv p1, Iv p2, Iv (3 : Int32), Iv (0 : Int32), Iv (1 : Int32), Us, Us, Us, Us, Us, Us, Us, Us]) rfl ?_
          show Steps p.tables e below (s₁.setTop (mkF m 39 #[Iv p1, Iv p2, Iv (3 : Int32), Iv (0 : Int32), Iv (1 : Int32), Us, Us, Us, Us, Us, Us, Us, Us] [])) tt_
          refine XS.iloadN X0.here hEX rfl (hb hBY at_39) rfl ?_
          show Steps p.tables e below (s₁.setTop (mkF m 40 #[Iv p1, Iv p2, Iv (3 : Int32), Iv (0 : Int32), Iv (1 : Int32), Us, Us, Us, Us, Us, Us, Us, Us] [(.int (3 : Int32))])) tt_
          refine XS.iconst X0.here hEX rfl (hb hBY at_40) ?_
          show Steps p.tables e below (s₁.setTop (mkF m 41 #[Iv p1, Iv p2, Iv (3 : Int32), Iv (0 : Int32), Iv (1 : Int32), Us, Us, Us, Us, Us, Us, Us, Us] [(.int (3 : Int32)), (.int (3 : Int32))])) tt_
          refine XS.icmpNo X0.here hEX rfl (hb hBY at_41) rfl (flt (by decide : ¬ ((3 : Int32) < (3 : Int32)))).1 ?_
          show Steps p.tables e below (s₁.setTop (mkF m 44 #[Iv p1, Iv p2, Iv (3 : Int32), Iv (0 : Int32), Iv (1 : Int32), Us, Us, Us, Us, Us, Us, Us, Us] [])) tt_
          refine XS.iloadN X0.here hEX rfl (hb hBY at_44) rfl ?_
          show Steps p.tables e below (s₁.setTop (mkF m 45 #[Iv p1, Iv p2, Iv (3 : Int32), Iv (0 : Int32), Iv (1 : Int32), Us, Us, Us, Us, Us, Us, Us, Us] [(.int p1)])) tt_
          refine XS.iconst X0.here hEX rfl (hb hBY at_45) ?_
          show Steps p.tables e below (s₁.setTop (mkF m 46 #[Iv p1, Iv p2, Iv (3 : Int32), Iv (0 : Int32), Iv (1 : Int32), Us, Us, Us, Us, Us, Us, Us, Us] [(.int (4 : Int32)), (.int p1)])) tt_
          refine XS.iand X0.here hEX rfl (hb hBY at_46) rfl ?_
          exact kt_
        refine Done.pre sg_286 ?_
        by_cases hc47 : (p1 &&& (4 : Int32)) = (0 : Int32)
        · skip
          have sg_287 : ∀ tt_, Steps p.tables e below (s₁.setTop (mkF m 57 #[Iv p1, Iv p2, Iv (3 : Int32), Iv (0 : Int32), Iv (1 : Int32), Iv (0 : Int32), Us, Us, Us, Us, Us, Us, Us] [])) tt_ → Steps p.tables e below (s₁.setTop (mkF m 47 #[Iv p1, Iv p2, Iv (3 : Int32), Iv (0 : Int32), Iv (1 : Int32), Us, Us, Us, Us, Us, Us, Us, Us] [(.int (p1 &&& (4 : Int32)))])) tt_ := by
            intro tt_ kt_
            refine XS.ifYes X0.here hEX rfl (pc0 := 47) (pc' := 54) rfl (hb hBY at_47) rfl ((if0 _ _).trans (teq hc47).1) (by decide) (by decide) ?_
            show Steps p.tables e below (s₁.setTop (mkF m 54 #[Iv p1, Iv p2, Iv (3 : Int32), Iv (0 : Int32), Iv (1 : Int32), Us, Us, Us, Us, Us, Us, Us, Us] [])) tt_
            refine XS.iconst X0.here hEX rfl (hb hBY at_54) ?_
            show Steps p.tables e below (s₁.setTop (mkF m 55 #[Iv p1, Iv p2, Iv (3 : Int32), Iv (0 : Int32), Iv (1 : Int32), Us, Us, Us, Us, Us, Us, Us, Us] [(.int (0 : Int32))])) tt_
            refine XS.istore X0.here hEX rfl (hb hBY at_55) rfl (l' := #[Iv p1, Iv p2, Iv (3 : Int32), Iv (0 : Int32), Iv (1 : Int32), Iv (0 : Int32), Us, Us, Us, Us, Us, Us, Us]) rfl ?_
            exact kt_
          refine Done.pre sg_287 ?_
          exact jn_134 ((0 : Int32)) ((1 : Int32)) ((0 : Int32))
        · skip
          have sg_288 : ∀ tt_, Steps p.tables e below (s₁.setTop (mkF m 57 #[Iv p1, Iv p2, Iv (3 : Int32), Iv (0 : Int32), Iv (1 : Int32), Iv (1 : Int32), Us, Us, Us, Us, Us, Us, Us] [])) tt_ → Steps p.tables e below (s₁.setTop (mkF m 47 #[Iv p1, Iv p2, Iv (3 : Int32), Iv (0 : Int32), Iv (1 : Int32), Us, Us, Us, Us, Us, Us, Us, Us] [(.int (p1 &&& (4 : Int32)))])) tt_ := by
            intro tt_ kt_
            refine XS.ifNo X0.here hEX rfl (hb hBY at_47) rfl ((if0 _ _).trans (feq hc47).1) ?_
            show Steps p.tables e below (s₁.setTop (mkF m 50 #[Iv p1, Iv p2, Iv (3 : Int32), Iv (0 : Int32), Iv (1 : Int32), Us, Us, Us, Us, Us, Us, Us, Us] [])) tt_
            refine XS.iconst X0.here hEX rfl (hb hBY at_50) ?_
            show Steps p.tables e below (s₁.setTop (mkF m 51 #[Iv p1, Iv p2, Iv (3 : Int32), Iv (0 : Int32), Iv (1 : Int32), Us, Us, Us, Us, Us, Us, Us, Us] [(.int (1 : Int32))])) tt_
            refine XS.goto X0.here hEX rfl (pc0 := 51) (pc' := 55) rfl (hb hBY at_51) (by decide) (by decide) ?_
            show Steps p.tables e below (s₁.setTop (mkF m 55 #[Iv p1, Iv p2, Iv (3 : Int32), Iv (0 : Int32), Iv (1 : Int32), Us, Us, Us, Us, Us, Us, Us, Us] [(.int (1 : Int32))])) tt_
            refine XS.istore X0.here hEX rfl (hb hBY at_55) rfl (l' := #[Iv p1, Iv p2, Iv (3 : Int32), Iv (0 : Int32), Iv (1 : Int32), Iv (1 : Int32), Us, Us, Us, Us, Us, Us, Us]) rfl ?_
            exact kt_
          refine Done.pre sg_288 ?_
          exact jn_134 ((0 : Int32)) ((1 : Int32)) ((1 : Int32))
    · skip
      have sg_289 : ∀ tt_, Steps p.tables e below (s₁.setTop (mkF m 29 #[Iv p1, Iv p2, Iv (3 : Int32), Iv (1 : Int32), Us, Us, Us, Us, Us, Us, Us, Us, Us] [(.int (p1 &&& (2 : Int32)))])) tt_ → Steps p.tables e below (s₁.setTop (mkF m 12 #[Iv p1, Iv p2, Iv (3 : Int32), Us, Us, Us, Us, Us, Us, Us, Us, Us, Us] [(.int (p1 &&& (1 : Int32)))])) tt_ := by
        intro tt_ kt_
        refine XS.ifNo X0.here hEX rfl (hb hBY at_12) rfl ((if0 _ _).trans (feq hc12).1) ?_
        show Steps p.tables e below (s₁.setTop (mkF m 15 #[Iv p1, Iv p2, Iv (3 : Int32), Us, Us, Us, Us, Us, Us, Us, Us, Us, Us] [])) tt_
        refine XS.iconst X0.here hEX rfl (hb hBY at_15) ?_
        show Steps p.tables e below (s₁.setTop (mkF m 16 #[Iv p1, Iv p2, Iv (3 : Int32), Us, Us, Us, Us, Us, Us, Us, Us, Us, Us] [(.int (1 : Int32))])) tt_
        refine XS.goto X0.here hEX rfl (pc0 := 16) (pc' := 20) rfl (hb hBY at_16) (by decide) (by decide) ?_
        show Steps p.tables e below (s₁.setTop (mkF m 20 #[Iv p1, Iv p2, Iv (3 : Int32), Us, Us, Us, Us, Us, Us, Us, Us, Us, Us] [(.int (1 : Int32))])) tt_
        refine XS.istoreN X0.here hEX rfl (hb hBY at_20) rfl (l' := #[Iv p1, Iv p2, Iv (3 : Int32), Iv (1 : Int32), Us, Us, Us, Us, Us, Us, Us, Us, Us]) rfl ?_
        show Steps p.tables e below (s₁.setTop (mkF m 21 #[Iv p1, Iv p2, Iv (3 : Int32), Iv (1 : Int32), Us, Us, Us, Us, Us, Us, Us, Us, Us] [])) tt_
        refine XS.iloadN X0.here hEX rfl (hb hBY at_21) rfl ?_
        show Steps p.tables e below (s₁.setTop (mkF m 22 #[Iv p1, Iv p2, Iv (3 : Int32), Iv (1 : Int32), Us, Us, Us, Us, Us, Us, Us, Us, Us] [(.int (3 : Int32))])) tt_
        refine XS.iconst X0.here hEX rfl (hb hBY at_22) ?_
        show Steps p.tables e below (s₁.setTop (mkF m 23 #[Iv p1, Iv p2, Iv (3 : Int32), Iv (1 : Int32), Us, Us, Us, Us, Us, Us, Us, Us, Us] [(.int (2 : Int32)), (.int (3 : Int32))])) tt_
        refine XS.icmpNo X0.here hEX rfl (hb hBY at_23) rfl (flt (by decide : ¬ ((3 : Int32) < (2 : Int32)))).1 ?_
        show Steps p.tables e below (s₁.setTop (mkF m 26 #[Iv p1, Iv p2, Iv (3 : Int32), Iv (1 : Int32), Us, Us, Us, Us, Us, Us, Us, Us, Us] [])) tt_
        refine XS.iloadN X0.here hEX rfl (hb hBY at_26) rfl ?_
        show Steps p.tables e below (s₁.setTop (mkF m 27 #[Iv p1, Iv p2, Iv (3 : Int32), Iv (1 : Int32), Us, Us, Us, Us, Us, Us, Us, Us, Us] [(.int p1)])) tt_
        refine XS.iconst X0.here hEX rfl (hb hBY at_27) ?_
        show Steps p.tables e below (s₁.setTop (mkF m 28 #[Iv p1, Iv p2, Iv (3 : Int32), Iv (1 : Int32), Us, Us, Us, Us, Us, Us, Us, Us, Us] [(.int (2 : Int32)), (.int p1)])) tt_
        refine XS.iand X0.here hEX rfl (hb hBY at_28) rfl ?_
        exact kt_
      refine Done.pre sg_289 ?_
      by_cases hc29 : (p1 &&& (2 : Int32)) = (0 : Int32)
      · skip
        have sg_290 : ∀ tt_, Steps p.tables e below (s₁.setTop (mkF m 47 #[Iv p1, Iv p2, Iv (3 : Int32), Iv (1 : Int32), Iv (0 : Int32), Us, Us, Us, Us, Us, Us, Us, Us] [(.int (p1 &&& (4 : Int32)))])) tt_ → Steps p.tables e below (s₁.setTop (mkF m 29 #[Iv p1, Iv p2, Iv (3 : Int32), Iv (1 : Int32), Us, Us, Us, Us, Us, Us, Us, Us, Us] [(.int (p1 &&& (2 : Int32)))])) tt_ := by
          intro tt_ kt_
          refine XS.ifYes X0.here hEX rfl (pc0 := 29) (pc' := 36) rfl (hb hBY at_29) rfl ((if0 _ _).trans (teq hc29).1) (by decide) (by decide) ?_
          show Steps p.tables e below (s₁.setTop (mkF m 36 #[Iv p1, Iv p2, Iv (3 : Int32), Iv (1 : Int32), Us, Us, Us, Us, Us, Us, Us, Us, Us] [])) tt_
          refine XS.iconst X0.here hEX rfl (hb hBY at_36) ?_
          show Steps p.tables e below (s₁.setTop (mkF m 37 #[Iv p1, Iv p2, Iv (3 : Int32), Iv (1 : Int32), Us, Us, Us, Us, Us, Us, Us, Us, Us] [(.int (0 : Int32))])) tt_
          refine XS.istore X0.here hEX rfl (hb hBY at_37) rfl (l' := #[Iv p1, Iv p2, Iv (3 : Int32), Iv (1 : Int32), Iv (0 : Int32), Us, Us, Us, Us, Us, Us, Us, Us]) rfl ?_
          show Steps p.tables e below (s₁.setTop (mkF m 39 #[Iv p1, Iv p2, Iv (3 : Int32), Iv (1 : Int32), Iv (0 : Int32), Us, Us, Us, Us, Us, Us, Us, Us] [])) tt_
          refine XS.iloadN X0.here hEX rfl (hb hBY at_39) rfl ?_
          show Steps p.tables e below (s₁.setTop (mkF m 40 #[Iv p1, Iv p2, Iv (3 : Int32), Iv (1 : Int32), Iv (0 : Int32), Us, Us, Us, Us, Us, Us, Us, Us] [(.int (3 : Int32))])) tt_
          refine XS.iconst X0.here hEX rfl (hb hBY at_40) ?_
          show Steps p.tables e below (s₁.setTop (mkF m 41 #[Iv p1, Iv p2, Iv (3 : Int32), Iv (1 : Int32), Iv (0 : Int32), Us, Us, Us, Us, Us, Us, Us, Us] [(.int (3 : Int32)), (.int (3 : Int32))])) tt_
          refine XS.icmpNo X0.here hEX rfl (hb hBY at_41) rfl (flt (by decide : ¬ ((3 : Int32) < (3 : Int32)))).1 ?_
          show Steps p.tables e below (s₁.setTop (mkF m 44 #[Iv p1, Iv p2, Iv (3 : Int32), Iv (1 : Int32), Iv (0 : Int32), Us, Us, Us, Us, Us, Us, Us, Us] [])) tt_
          refine XS.iloadN X0.here hEX rfl (hb hBY at_44) rfl ?_
          show Steps p.tables e below (s₁.setTop (mkF m 45 #[Iv p1, Iv p2, Iv (3 : Int32), Iv (1 : Int32), Iv (0 : Int32), Us, Us, Us, Us, Us, Us, Us, Us] [(.int p1)])) tt_
          refine XS.iconst X0.here hEX rfl (hb hBY at_45) ?_
          show Steps p.tables e below (s₁.setTop (mkF m 46 #[Iv p1, Iv p2, Iv (3 : Int32), Iv (1 : Int32), Iv (0 : Int32), Us, Us, Us, Us, Us, Us, Us, Us] [(.int (4 : Int32)), (.int p1)])) tt_
          refine XS.iand X0.here hEX rfl (hb hBY at_46) rfl ?_
          exact kt_
        refine Done.pre sg_290 ?_
        by_cases hc47 : (p1 &&& (4 : Int32)) = (0 : Int32)
        · skip
          have sg_291 : ∀ tt_, Steps p.tables e below (s₁.setTop (mkF m 57 #[Iv p1, Iv p2, Iv (3 : Int32), Iv (1 : Int32), Iv (0 : Int32), Iv (0 : Int32), Us, Us, Us, Us, Us, Us, Us] [])) tt_ → Steps p.tables e below (s₁.setTop (mkF m 47 #[Iv p1, Iv p2, Iv (3 : Int32), Iv (1 : Int32), Iv (0 : Int32), Us, Us, Us, Us, Us, Us, Us, Us] [(.int (p1 &&& (4 : Int32)))])) tt_ := by
            intro tt_ kt_
            refine XS.ifYes X0.here hEX rfl (pc0 := 47) (pc' := 54) rfl (hb hBY at_47) rfl ((if0 _ _).trans (teq hc47).1) (by decide) (by decide) ?_
            show Steps p.tables e below (s₁.setTop (mkF m 54 #[Iv p1, Iv p2, Iv (3 : Int32), Iv (1 : Int32), Iv (0 : Int32), Us, Us, Us, Us, Us, Us, Us, Us] [])) tt_
            refine XS.iconst X0.here hEX rfl (hb hBY at_54) ?_
            show Steps p.tables e below (s₁.setTop (mkF m 55 #[Iv p1, Iv p2, Iv (3 : Int32), Iv (1 : Int32), Iv (0 : Int32), Us, Us, Us, Us, Us, Us, Us, Us] [(.int (0 : Int32))])) tt_
            refine XS.istore X0.here hEX rfl (hb hBY at_55) rfl (l' := #[Iv p1, Iv p2, Iv (3 : Int32), Iv (1 : Int32), Iv (0 : Int32), Iv (0 : Int32), Us, Us, Us, Us, Us, Us, Us]) rfl ?_
            exact kt_
          refine Done.pre sg_291 ?_
          exact jn_134 ((1 : Int32)) ((0 : Int32)) ((0 : Int32))
        · skip
          have sg_292 : ∀ tt_, Steps p.tables e below (s₁.setTop (mkF m 57 #[Iv p1, Iv p2, Iv (3 : Int32), Iv (1 : Int32), Iv (0 : Int32), Iv (1 : Int32), Us, Us, Us, Us, Us, Us, Us] [])) tt_ → Steps p.tables e below (s₁.setTop (mkF m 47 #[Iv p1, Iv p2, Iv (3 : Int32), Iv (1 : Int32), Iv (0 : Int32), Us, Us, Us, Us, Us, Us, Us, Us] [(.int (p1 &&& (4 : Int32)))])) tt_ := by
            intro tt_ kt_
            refine XS.ifNo X0.here hEX rfl (hb hBY at_47) rfl ((if0 _ _).trans (feq hc47).1) ?_
            show Steps p.tables e below (s₁.setTop (mkF m 50 #[Iv p1, Iv p2, Iv (3 : Int32), Iv (1 : Int32), Iv (0 : Int32), Us, Us, Us, Us, Us, Us, Us, Us] [])) tt_
            refine XS.iconst X0.here hEX rfl (hb hBY at_50) ?_
            show Steps p.tables e below (s₁.setTop (mkF m 51 #[Iv p1, Iv p2, Iv (3 : Int32), Iv (1 : Int32), Iv (0 : Int32), Us, Us, Us, Us, Us, Us, Us, Us] [(.int (1 : Int32))])) tt_
            refine XS.goto X0.here hEX rfl (pc0 := 51) (pc' := 55) rfl (hb hBY at_51) (by decide) (by decide) ?_
            show Steps p.tables e below (s₁.setTop (mkF m 55 #[Iv p1, Iv p2, Iv (3 : Int32), Iv (1 : Int32), Iv (0 : Int32), Us, Us, Us, Us, Us, Us, Us, Us] [(.int (1 : Int32))])) tt_
            refine XS.istore X0.here hEX rfl (hb hBY at_55) rfl (l' := #[Iv p1, Iv p2, Iv (3 : Int32), Iv (1 : Int32), Iv (0 : Int32), Iv (1 : Int32), Us, Us, Us, Us, Us, Us, Us]) rfl ?_
            exact kt_
          refine Done.pre sg_292 ?_
          exact jn_134 ((1 : Int32)) ((0 : Int32)) ((1 : Int32))
      · skip
        have sg_293 : ∀ tt_, Steps p.tables e below (s₁.setTop (mkF m 47 #[Iv p1, Iv p2, Iv (3 : Int32), Iv (1 : Int32), Iv (1 : Int32), Us, Us, Us, Us, Us, Us, Us, Us] [(.int (p1 &&& (4 : Int32)))])) tt_ → Steps p.tables e below (s₁.setTop (mkF m 29 #[Iv p1, Iv p2, Iv (3 : Int32), Iv (1 : Int32), Us, Us, Us, Us, Us, Us, Us, Us, Us] [(.int (p1 &&& (2 : Int32)))])) tt_ := by
          intro tt_ kt_
          refine XS.ifNo X0.here hEX rfl (hb hBY at_29) rfl ((if0 _ _).trans (feq hc29).1) ?_
          show Steps p.tables e below (s₁.setTop (mkF m 32 #[Iv p1, Iv p2, Iv (3 : Int32), Iv (1 : Int32), Us, Us, Us, Us, Us, Us, Us, Us, Us] [])) tt_
          refine XS.iconst X0.here hEX rfl (hb hBY at_32) ?_
          show Steps p.tables e below (s₁.setTop (mkF m 33 #[Iv p1, Iv p2, Iv (3 : Int32), Iv (1 : Int32), Us, Us, Us, Us, Us, Us, Us, Us, Us] [(.int (1 : Int32))])) tt_
          refine XS.goto X0.here hEX rfl (pc0 := 33) (pc' := 37) rfl (hb hBY at_33) (by decide) (by decide) ?_
          show Steps p.tables e below (s₁.setTop (mkF m 37 #[Iv p1, Iv p2, Iv (3 : Int32), Iv (1 : Int32), Us, Us, Us, Us, Us, Us, Us, Us, Us] [(.int (1 : Int32))])) tt_
          refine XS.istore X0.here hEX rfl (hb hBY at_37) rfl (l' := #[Iv p1, Iv p2, Iv (3 : Int32), Iv (1 : Int32), Iv (1 : Int32), Us, Us, Us, Us, Us, Us, Us, Us]) rfl ?_
          show Steps p.tables e below (s₁.setTop (mkF m 39 #[Iv p1, Iv p2, Iv (3 : Int32), Iv (1 : Int32), Iv (1 : Int32), Us, Us, Us, Us, Us, Us, Us, Us] [])) tt_
          refine XS.iloadN X0.here hEX rfl (hb hBY at_39) rfl ?_
          show Steps p.tables e below (s₁.setTop (mkF m 40 #[Iv p1, Iv p2, Iv (3 : Int32), Iv (1 : Int32), Iv (1 : Int32), Us, Us, Us, Us, Us, Us, Us, Us] [(.int (3 : Int32))])) tt_
          refine XS.iconst X0.here hEX rfl (hb hBY at_40) ?_
          show Steps p.tables e below (s₁.setTop (mkF m 41 #[Iv p1, Iv p2, Iv (3 : Int32), Iv (1 : Int32), Iv (1 : Int32), Us, Us, Us, Us, Us, Us, Us, Us] [(.int (3 : Int32)), (.int (3 : Int32))])) tt_
          refine XS.icmpNo X0.here hEX rfl (hb hBY at_41) rfl (flt (by decide : ¬ ((3 : Int32) < (3 : Int32)))).1 ?_
          show Steps p.tables e below (s₁.setTop (mkF m 44 #[Iv p1, Iv p2, Iv (3 : Int32), Iv (1 : Int32), Iv (1 : Int32), Us, Us, Us, Us, Us, Us, Us, Us] [])) tt_
          refine XS.iloadN X0.here hEX rfl (hb hBY at_44) rfl ?_
          show Steps p.tables e below (s₁.setTop (mkF m 45 #[Iv p1, Iv p2, Iv (3 : Int32), Iv (1 : Int32), Iv (1 : Int32), Us, Us, Us, Us, Us, Us, Us, Us] [(.int p1)])) tt_
          refine XS.iconst X0.here hEX rfl (hb hBY at_45) ?_
          show Steps p.tables e below (s₁.setTop (mkF m 46 #[Iv p1, Iv p2, Iv (3 : Int32), Iv (1 : Int32), Iv (1 : Int32), Us, Us, Us, Us, Us, Us, Us, Us] [(.int (4 : Int32)), (.int p1)])) tt_
          refine XS.iand X0.here hEX rfl (hb hBY at_46) rfl ?_
          exact kt_
        refine Done.pre sg_293 ?_
        by_cases hc47 : (p1 &&& (4 : Int32)) = (0 : Int32)
        · skip
          have sg_294 : ∀ tt_, Steps p.tables e below (s₁.setTop (mkF m 57 #[Iv p1, Iv p2, Iv (3 : Int32), Iv (1 : Int32), Iv (1 : Int32), Iv (0 : Int32), Us, Us, Us, Us, Us, Us, Us] [])) tt_ → Steps p.tables e below (s₁.setTop (mkF m 47 #[Iv p1, Iv p2, Iv (3 : Int32), Iv (1 : Int32), Iv (1 : Int32), Us, Us, Us, Us, Us, Us, Us, Us] [(.int (p1 &&& (4 : Int32)))])) tt_ := by
            intro tt_ kt_
            refine XS.ifYes X0.here hEX rfl (pc0 := 47) (pc' := 54) rfl (hb hBY at_47) rfl ((if0 _ _).trans (teq hc47).1) (by decide) (by decide) ?_
            show Steps p.tables e below (s₁.setTop (mkF m 54 #[Iv p1, Iv p2, Iv (3 : Int32), Iv (1 : Int32), Iv (1 : Int32), Us, Us, Us, Us, Us, Us, Us, Us] [])) tt_
            refine XS.iconst X0.here hEX rfl (hb hBY at_54) ?_
            show Steps p.tables e below (s₁.setTop (mkF m 55 #[Iv p1, Iv p2, Iv (3 : Int32), Iv (1 : Int32), Iv (1 : Int32), Us, Us, Us, Us, Us, Us, Us, Us] [(.int (0 : Int32))])) tt_
            refine XS.istore X0.here hEX rfl (hb hBY at_55) rfl (l' := #[Iv p1, Iv p2, Iv (3 : Int32), Iv (1 : Int32), Iv (1 : Int32), Iv (0 : Int32), Us, Us, Us, Us, Us, Us, Us]) rfl ?_
            exact kt_
          refine Done.pre sg_294 ?_
          exact jn_134 ((1 : Int32)) ((1 : Int32)) ((0 : Int32))
        · skip
          have sg_295 : ∀ tt_, Steps p.tables e below (s₁.setTop (mkF m 57 #[Iv p1, Iv p2, Iv (3 : Int32), Iv (1 : Int32), Iv (1 : Int32), Iv (1 : Int32), Us, Us, Us, Us, Us, Us, Us] [])) tt_ → Steps p.tables e below (s₁.setTop (mkF m 47 #[Iv p1, Iv p2, Iv (3 : Int32), Iv (1 : Int32), Iv (1 : Int32), Us, Us, Us, Us, Us, Us, Us, Us] [(.int (p1 &&& (4 : Int32)))])) tt_ := by
            intro tt_ kt_
            refine XS.ifNo X0.here hEX rfl (hb hBY at_47) rfl ((if0 _ _).trans (feq hc47).1) ?_
            show Steps p.tables e below (s₁.setTop (mkF m 50 #[Iv p1, Iv p2, Iv (3 : Int32), Iv (1 : Int32), Iv (1 : Int32), Us, Us, Us, Us, Us, Us, Us, Us] [])) tt_
            refine XS.iconst X0.here hEX rfl (hb hBY at_50) ?_
            show Steps p.tables e below (s₁.setTop (mkF m 51 #[Iv p1, Iv p2, Iv (3 : Int32), Iv (1 : Int32), Iv (1 : Int32), Us, Us, Us, Us, Us, Us, Us, Us] [(.int (1 : Int32))])) tt_
            refine XS.goto X0.here hEX rfl (pc0 := 51) (pc' := 55) rfl (hb hBY at_51) (by decide) (by decide) ?_
            show Steps p.tables e below (s₁.setTop (mkF m 55 #[Iv p1, Iv p2, Iv (3 : Int32), Iv (1 : Int32), Iv (1 : Int32), Us, Us, Us, Us, Us, Us, Us, Us] [(.int (1 : Int32))])) tt_
            refine XS.istore X0.here hEX rfl (hb hBY at_55) rfl (l' := #[Iv p1, Iv p2, Iv (3 : Int32), Iv (1 : Int32), Iv (1 : Int32), Iv (1 : Int32), Us, Us, Us, Us, Us, Us, Us]) rfl ?_
            exact kt_
          refine Done.pre sg_295 ?_
          exact jn_134 ((1 : Int32)) ((1 : Int32)) ((1 : Int32))
set_option maxRecDepth 65536 in
set_option maxHeartbeats 40000000 in
theorem comes_1 {Post : Tables → Env → Array Value → State → Outcome → State → Prop} (hpost : ∀ tb e args s v u, (limb_1_1.after args s (.returned v) u = true ∧ limb_1_2.after args s (.returned v) u = true ∧ True) → FrameEnd s (.returned v) u (Jvm.fieldLocs frame_1_writes args s ++ Jvm.arrayLocs frame_1_arrays args s ++ Jvm.staticLocs frame_1_statics s) 16 128 → Post tb e args s (.returned v) u) :
    ArmFor flags0 classFile x code maxLocals ret World_1 tables_1 room_1 Calls_1 rest_1 Pre_1 Post := by
  intro l hfl _ _ p e ha hc hk s m args below hf hA hF happ hP
  obtain ⟨hcalls, hrest, hpre⟩ := hP
  obtain ⟨-, -, -, hnamed, -, -, -, hat⟩ := (Spec.applies_iff hf).mp happ
  obtain ⟨hg, hn⟩ := and_e (Cond.before_iff.mp (show (Jvm.Cond.and given_1 narrow_1).before args s = true from hpre))
  obtain ⟨g1a, g1b⟩ := and_e hg
  obtain ⟨g2a, g2b⟩ := and_e g1b
  obtain ⟨w0, w1, rfl⟩ : ∃ w0 w1 : Value, args = #[w0, w1] := by
    have hs : args.size = 2 := by simpa [Cond.value, given_1] using g1a
    obtain ⟨L⟩ := args
    match L, hs with
    | [w0, w1], _ => exact ⟨w0, w1, rfl⟩
  have hw := fun d (hd : d ∈ tables_1) => atoms_spec (ws := Jvm.Cond.code x code maxLocals ret :: tables_1) hat d (List.mem_cons_of_mem _ hd)
  have hfit : Fit s := fun {y c} hc i hi => by
    obtain ⟨ha, rfl⟩ := Array.getElem?_eq_some_iff.mp hc
    have q := List.all_eq_true.mp ((Array.all_eq_true_iff_forall_mem.mp hF) _ (Array.getElem_mem ha)) i (List.mem_range.mpr hi)
    simpa [Array.getElem?_eq_getElem hi] using q
  obtain ⟨i0, ei0⟩ := is_v g2a
  obtain rfl : w0 = (.int i0) := Option.some.inj ei0
  obtain ⟨i1, ei1⟩ := is_v g2b
  obtain rfl : w1 = (.int i1) := Option.some.inj ei1
  obtain ⟨n, o, h1, h2, h3, _, L, rfl, ⟨rfl, N, -⟩, hq⟩ := rm0 l s _ hw tables_1 i0 i1  s.heap s.heap.size (Nat.le_refl _)  p e ha hc hk s m _ below hf ((Spec.applies_iff_loose hf).mp happ).1 ⟨rfl, State.Warmed39.refl s, rfl⟩ trivial
  refine ⟨n, _, h1, h2, h3, hpost _ _ _ _ _ _ ⟨Cond.after_iff.mpr rfl, Cond.after_iff.mpr (eq_i res_at (Term.int_eval (1)) rfl), trivial⟩ ⟨hq.1, hq.2.1, (hq.2.2.sift fun y hy => Or.inr (N y hy)).mono (by decide) (by decide)⟩⟩
theorem main_1_1 : Claimed_1_1 := comes_1 fun _ _ _ _ _ _ h hF => ⟨h.1, hF⟩
theorem main_1_2 : Claimed_1_2 := comes_1 fun _ _ _ _ _ _ h hF => ⟨h.2.1, hF⟩
end Jvm.Pilot.@@N@@
namespace Jvm.Pilot.@@N@@
open Jvm Jvm.ClassFile Sem Op Lib Jvm.Free Jvm.Stand Jvm.Pilot.@@N@@.Jvm.D
/-! MADE BY PROGRAM (witnessworld.py) out of the Statement's table words and the real class files: 11 classes; the members and pool entries that the words name. The judged class is class 1, her method 1. -/
namespace start1
open Jvm.ClassFile
def u (s : String) : CpInfo := .utf8 (stringToUtf16 s)
/-- a pool by its gaps: so many unusable entries, then the entry; so many at the end -/
def gap : Nat → List CpInfo → List CpInfo
  | 0, r => r
  | n + 1, r => .unusable :: gap n r
def poolList (es : List (Nat × CpInfo)) (last : Nat) : List CpInfo := es.foldr (fun e r => gap e.1 (e.2 :: r)) (gap last [])
def pool (es : List (Nat × CpInfo)) (last : Nat) : Array CpInfo := ⟨poolList es last⟩
def fileOf (pool : Array CpInfo) (this : Nat) (attrs : Array Attribute := #[]) (ms : Array MethodInfo := #[]) (fl : Nat := 33) (sup : Nat := 0) (ifs : Array Nat := #[]) (fds : Array FieldInfo := #[]) : ClassFile where
  minorVersion := 0
  majorVersion := 65
  constantPool := pool
  accessFlags := fl
  thisClass := this
  superClass := sup
  interfaces := ifs
  fields := fds
  methods := ms
  attributes := attrs
def plain (name : String) (sup : Option ClassId) : Class where
  name := name
  kind := .ordinary
  loader := none
  accessFlags := 33
  super := sup
  interfaces := #[]
  cf := none
  fields := #[]
  methods := #[]
  instanceTypes := #[]
  staticTypes := #[]
  resolved := #[]
  callSites := []
  init := .initialized
  statics := none
  mirror := none

def pool0 : Array CpInfo := pool [(5, u "<init>"), (0, u "()V"), (1, .class_ 10), (1, u "java/lang/Object")] 113

def k0c0 : Code := { maxStack := 0, maxLocals := 1, code := object_method_1_code, exceptionTable := #[], attributes := #[] }
def k0m0 : Method := { name := "<init>", desc := "()V", sig := { parameters := [], returnType := none }, accessFlags := 1, code := some k0c0 }
/-- java/lang/Object -/
def k0 : Class := { plain "java/lang/Object" none with
  accessFlags := 33
  interfaces := #[]
  cf := some (fileOf pool0 8 #[] #[{ accessFlags := 1, nameIndex := 5, descriptorIndex := 6, attributes := #[] }] 33 0 #[] #[])
  fields := #[]
  methods := #[k0m0]
  instanceTypes := #[]
  staticTypes := #[]
  resolved := Array.replicate 124 none
  statics := none }

def pool1 : Array CpInfo := pool [(2, .class_ 4), (0, .nameAndType 5 6), (0, u "java/lang/Object"), (0, u "<init>"), (0, u "()V"), (0, .integer 2147483647), (0, .class_ 9), (0, u "com/example/actorium/actorium/Claimant$Sends"), (0, .methodref 8 3), (0, .methodref 8 12), (0, .nameAndType 13 14), (0, u "begin"), (0, u "(Lcom/example/actorium/actorium/DispatchedCell;)I"), (0, .methodref 8 16), (0, .nameAndType 17 18), (0, u "end"), (0, u "(I)V"), (0, .methodref 8 20), (0, .nameAndType 21 22), (0, u "depth"), (0, u "()I"), (0, .class_ 24), (0, u "com/example/actorium/actorium/SendsEndPinLaw"), (2, u "law"), (0, u "(II)Z")] 7

def k1m0 : Method := { name := "<init>", desc := "()V", sig := { parameters := [], returnType := none }, accessFlags := 1, code := none }
def k1c1 : Code := { maxStack := 3, maxLocals := 13, code := code, exceptionTable := #[], attributes := #[] }
def k1m1 : Method := { name := "law", desc := "(II)Z", sig := { parameters := [.int, .int], returnType := some .boolean }, accessFlags := 9, code := some k1c1 }
/-- com/example/actorium/actorium/SendsEndPinLaw -/
def k1 : Class := { plain "com/example/actorium/actorium/SendsEndPinLaw" (some 0) with
  accessFlags := 49
  interfaces := #[]
  cf := some (fileOf pool1 23 #[] #[{ accessFlags := 1, nameIndex := 5, descriptorIndex := 6, attributes := #[] }, { accessFlags := 9, nameIndex := 27, descriptorIndex := 28, attributes := #[] }] 49 2 #[] #[])
  fields := #[]
  methods := #[k1m0, k1m1]
  instanceTypes := #[]
  staticTypes := #[]
  resolved := Array.replicate 36 none
  statics := none }

def pool2 : Array CpInfo := pool [(1, .methodref 2 3), (0, .class_ 4), (0, .nameAndType 5 6), (0, u "java/lang/Object"), (0, u "<init>"), (0, u "()V"), (0, .class_ 8), (0, u "com/example/actorium/actorium/DispatchedCell"), (0, .fieldref 10 11), (0, .class_ 12), (0, .nameAndType 13 14), (0, u "com/example/actorium/actorium/Claimant$Sends"), (0, u "cells"), (0, u "[Lcom/example/actorium/actorium/DispatchedCell;"), (0, .fieldref 10 16), (0, .nameAndType 17 18), (0, u "top"), (0, u "I"), (9, u "begin"), (0, u "(Lcom/example/actorium/actorium/DispatchedCell;)I"), (1, u "end"), (0, u "(I)V"), (0, u "depth"), (0, u "()I"), (5, .class_ 41), (0, u "com/example/actorium/actorium/Claimant")] 2

def k2c0 : Code := { maxStack := 2, maxLocals := 1, code := prog_25_method_1_code, exceptionTable := #[], attributes := #[] }
def k2m0 : Method := { name := "<init>", desc := "()V", sig := { parameters := [], returnType := none }, accessFlags := 0, code := some k2c0 }
def k2c1 : Code := { maxStack := 4, maxLocals := 2, code := prog_25_method_2_code, exceptionTable := #[], attributes := #[] }
def k2m1 : Method := { name := "begin", desc := "(Lcom/example/actorium/actorium/DispatchedCell;)I", sig := { parameters := [(.object "com/example/actorium/actorium/DispatchedCell")], returnType := some .int }, accessFlags := 0, code := some k2c1 }
def k2c2 : Code := { maxStack := 3, maxLocals := 2, code := prog_25_method_3_code, exceptionTable := #[], attributes := #[] }
def k2m2 : Method := { name := "end", desc := "(I)V", sig := { parameters := [.int], returnType := none }, accessFlags := 0, code := some k2c2 }
def k2c3 : Code := { maxStack := 1, maxLocals := 1, code := prog_25_method_4_code, exceptionTable := #[], attributes := #[] }
def k2m3 : Method := { name := "depth", desc := "()I", sig := { parameters := [], returnType := some .int }, accessFlags := 0, code := some k2c3 }
/-- com/example/actorium/actorium/Claimant$Sends -/
def k2 : Class := { plain "com/example/actorium/actorium/Claimant$Sends" (some 0) with
  accessFlags := 48
  interfaces := #[]
  cf := some (fileOf pool2 10 #[.nestHost 40] #[{ accessFlags := 0, nameIndex := 5, descriptorIndex := 6, attributes := #[] }, { accessFlags := 0, nameIndex := 28, descriptorIndex := 29, attributes := #[] }, { accessFlags := 0, nameIndex := 31, descriptorIndex := 32, attributes := #[] }, { accessFlags := 0, nameIndex := 33, descriptorIndex := 34, attributes := #[] }] 48 2 #[] #[{ accessFlags := 2, nameIndex := 13, descriptorIndex := 14, attributes := #[] }, { accessFlags := 2, nameIndex := 17, descriptorIndex := 18, attributes := #[] }])
  fields := #[{ name := "cells", type := (.array (.object "com/example/actorium/actorium/DispatchedCell")), accessFlags := 2, slot := 0, constantValue := 0 }, { name := "top", type := .int, accessFlags := 2, slot := 1, constantValue := 0 }]
  methods := #[k2m0, k2m1, k2m2, k2m3]
  instanceTypes := #[(.array (.object "com/example/actorium/actorium/DispatchedCell")), .int]
  staticTypes := #[]
  resolved := Array.replicate 44 none
  statics := none }

def pool3 : Array CpInfo := pool [(2, .class_ 4), (1, u "java/lang/Object"), (3, .class_ 10), (1, u "com/example/actorium/actorium/DispatchedCell"), (0, u "system"), (0, u "Lcom/example/actorium/actorium/ActorSystem;"), (4, u "dispatcher"), (0, u "Lcom/example/actorium/actorium/Dispatcher;"), (12, u "mailbox"), (0, u "Lcom/example/actorium/actorium/MailboxQueue;"), (24, u "CURRENT"), (0, u "Ljava/lang/ThreadLocal;"), (12, u "sender"), (0, u "Lcom/example/actorium/actorium/ActorRef;"), (22, .class_ 97), (1, u "com/example/actorium/actorium/DispatchedCell$Delivery"), (23, u "taken"), (0, u "Lcom/example/actorium/actorium/Envelope;"), (16, u "terminated"), (0, u "Z"), (45, u "Ljava/lang/Object;"), (33, u "status"), (11, u "STATUS"), (0, u "Ljava/util/concurrent/atomic/AtomicReferenceFieldUpdater;"), (15, u "started"), (12, u "pushed"), (30, u "PUSHED")] 87

/-- com/example/actorium/actorium/DispatchedCell -/
def k3 : Class := { plain "com/example/actorium/actorium/DispatchedCell" (some 0) with
  accessFlags := 1056
  interfaces := #[]
  cf := some (fileOf pool3 8 #[.nestMembers #[95]] #[] 1056 2 #[] #[{ accessFlags := 26, nameIndex := 57, descriptorIndex := 58, attributes := #[] }, { accessFlags := 26, nameIndex := 232, descriptorIndex := 233, attributes := #[] }, { accessFlags := 26, nameIndex := 293, descriptorIndex := 233, attributes := #[] }, { accessFlags := 16, nameIndex := 11, descriptorIndex := 12, attributes := #[] }, { accessFlags := 18, nameIndex := 17, descriptorIndex := 18, attributes := #[] }, { accessFlags := 18, nameIndex := 31, descriptorIndex := 32, attributes := #[] }, { accessFlags := 66, nameIndex := 262, descriptorIndex := 122, attributes := #[] }, { accessFlags := 2, nameIndex := 121, descriptorIndex := 122, attributes := #[] }, { accessFlags := 2, nameIndex := 249, descriptorIndex := 140, attributes := #[] }, { accessFlags := 66, nameIndex := 220, descriptorIndex := 186, attributes := #[] }, { accessFlags := 66, nameIndex := 139, descriptorIndex := 140, attributes := #[] }, { accessFlags := 2, nameIndex := 71, descriptorIndex := 72, attributes := #[] }])
  fields := #[{ name := "CURRENT", type := (.object "java/lang/ThreadLocal"), accessFlags := 26, slot := 0, constantValue := 0 }, { name := "STATUS", type := (.object "java/util/concurrent/atomic/AtomicReferenceFieldUpdater"), accessFlags := 26, slot := 1, constantValue := 0 }, { name := "PUSHED", type := (.object "java/util/concurrent/atomic/AtomicReferenceFieldUpdater"), accessFlags := 26, slot := 2, constantValue := 0 }, { name := "system", type := (.object "com/example/actorium/actorium/ActorSystem"), accessFlags := 16, slot := 0, constantValue := 0 }, { name := "dispatcher", type := (.object "com/example/actorium/actorium/Dispatcher"), accessFlags := 18, slot := 1, constantValue := 0 }, { name := "mailbox", type := (.object "com/example/actorium/actorium/MailboxQueue"), accessFlags := 18, slot := 2, constantValue := 0 }, { name := "pushed", type := (.object "com/example/actorium/actorium/Envelope"), accessFlags := 66, slot := 3, constantValue := 0 }, { name := "taken", type := (.object "com/example/actorium/actorium/Envelope"), accessFlags := 2, slot := 4, constantValue := 0 }, { name := "started", type := .boolean, accessFlags := 2, slot := 5, constantValue := 0 }, { name := "status", type := (.object "java/lang/Object"), accessFlags := 66, slot := 6, constantValue := 0 }, { name := "terminated", type := .boolean, accessFlags := 66, slot := 7, constantValue := 0 }, { name := "sender", type := (.object "com/example/actorium/actorium/ActorRef"), accessFlags := 2, slot := 8, constantValue := 0 }]
  methods := #[]
  instanceTypes := #[(.object "com/example/actorium/actorium/ActorSystem"), (.object "com/example/actorium/actorium/Dispatcher"), (.object "com/example/actorium/actorium/MailboxQueue"), (.object "com/example/actorium/actorium/Envelope"), (.object "com/example/actorium/actorium/Envelope"), .boolean, (.object "java/lang/Object"), .boolean, (.object "com/example/actorium/actorium/ActorRef")]
  staticTypes := #[(.object "java/lang/ThreadLocal"), (.object "java/util/concurrent/atomic/AtomicReferenceFieldUpdater"), (.object "java/util/concurrent/atomic/AtomicReferenceFieldUpdater")]
  resolved := Array.replicate 381 none
  statics := none }

def pool4 : Array CpInfo := pool [(1, u "java/lang/Cloneable"), (0, .class_ 1), (0, u "java/lang/Object"), (0, .class_ 3)] 3

/-- java/lang/Cloneable -/
def k4 : Class := { plain "java/lang/Cloneable" (some 0) with
  accessFlags := 1537
  interfaces := #[]
  cf := some (fileOf pool4 2 #[] #[] 1537 4 #[] #[])
  fields := #[]
  methods := #[]
  instanceTypes := #[]
  staticTypes := #[]
  resolved := Array.replicate 8 none
  statics := none }

def pool5 : Array CpInfo := pool [(1, u "java/io/Serializable"), (0, .class_ 1), (0, u "java/lang/Object"), (0, .class_ 3)] 3

/-- java/io/Serializable -/
def k5 : Class := { plain "java/io/Serializable" (some 0) with
  accessFlags := 1537
  interfaces := #[]
  cf := some (fileOf pool5 2 #[] #[] 1537 4 #[] #[])
  fields := #[]
  methods := #[]
  instanceTypes := #[]
  staticTypes := #[]
  resolved := Array.replicate 8 none
  statics := none }

/-- the primitive byte -/
def k6 : Class := { plain "byte" none with kind := .primitive 'B', accessFlags := 0x411 }
/-- [B -/
def k7 : Class := { plain "[B" (some 0) with kind := .array 6 .byte, interfaces := #[4, 5], accessFlags := 1041 }

/-- the primitive int -/
def k8 : Class := { plain "int" none with kind := .primitive 'I', accessFlags := 0x411 }
/-- [I -/
def k9 : Class := { plain "[I" (some 0) with kind := .array 8 .int, interfaces := #[4, 5], accessFlags := 1041 }

/-- [Lcom/example/actorium/actorium/DispatchedCell; -/
def k10 : Class := { plain "[Lcom/example/actorium/actorium/DispatchedCell;" (some 0) with kind := .array 3 (.object "com/example/actorium/actorium/DispatchedCell"), interfaces := #[4, 5], accessFlags := 1041 }

def heap : Heap := #[]
def classes : Array Class := #[k0, k1, k2, k3, k4, k5, k6, k7, k8, k9, k10]
def interned : List (Array UInt16 × Addr) := []
def slotsUsed : Nat := 0
def theMethod : MethodId := ⟨1, 1⟩
def args0 : Array Value := #[.int 7, .int 8]
def aboutOver (below : List Frame) : State where
  vm := { classes := classes, interned := interned.toArray }
  heap := heap
  slotsUsed := slotsUsed
  threads := #[{ frames := .invoking theMethod args0 :: below }]
def below0 : List Frame := [.native { method := ⟨0, 0⟩, args := #[] }]
def about1 : State := aboutOver below0
def p0 : Program := .bare "" "" ""
def e0 : Env := launch0.env 0 0 0
theorem w_frames : about1.frames = Frame.invoking theMethod args0 :: below0 := rfl
set_option maxRecDepth 65536 in
theorem w_args : argsFit about1.vm theMethod args0 = true := by decide +kernel
set_option maxRecDepth 65536 in
theorem w_heap : heapFits about1 = true := by decide +kernel
set_option maxRecDepth 65536 in
theorem w_runnable : about1.curStatus? = some .runnable := by decide +kernel
set_option maxRecDepth 65536 in
theorem w_alone : about1.alone = true := by decide +kernel
set_option maxRecDepth 65536 in
theorem w_named : about1.methodNamed? x = some theMethod := by decide +kernel
set_option maxRecDepth 65536 in
theorem w_hears : about1.hears theMethod below0 = true := by decide +kernel
set_option maxRecDepth 65536 in
theorem w_ripe : about1.ripe theMethod args0 below0 = true := by decide +kernel
theorem w_running : about1.status = .running := rfl
set_option maxRecDepth 65536 in
theorem w_room : about1.hasRoom e0.platform room_1 = true :=
  launch0.hasRoom_least _ room_1 (by decide +kernel) (by decide +kernel) (by decide +kernel) (by decide +kernel) (by decide +kernel) (by decide +kernel)
theorem allAtoms_all (ts : List Jvm.Cond) (a : Array Jvm.Value) (st : Jvm.State) : (allAtoms ts).before a st = ts.all (fun c => c.before a st) := by
  induction ts with
  | nil => rfl
  | cons c t ih =>
    show (Jvm.Cond.and c (allAtoms t)).before a st = _
    rw [Jvm.Cond.before_and, ih, List.all_cons]
def words1 : List Jvm.Cond := Jvm.Cond.code x code maxLocals ret :: tables_1
/-- a 'code' word, met by the world's own term for the bytes: nothing is compared byte by byte -/
theorem code_word {y : MethodName} {bytes : ByteArray} {mx : Nat} {rt : Option FieldType} {a : Array Value} {s : State} {m : MethodId} {meth : Method} {c : Code} (h1 : s.methodNamed? y = some m) (h2 : s.vm.method? m = some meth) (h3 : meth.code = some c) (h4 : c.code = bytes)
    (h5 : (c.maxLocals == mx && c.exceptionTable.isEmpty && decide (c.maxStack ≤ mostOperands) && decide (meth.sig.returnType = rt) && !meth.locks && decide (parseMethodDescriptor y.desc = some meth.sig)) = true) : (Jvm.Cond.code y bytes mx rt).before a s = true := by
  simp only [Bool.and_eq_true, beq_iff_eq, Bool.not_eq_true', decide_eq_true_eq] at h5
  obtain ⟨⟨⟨⟨⟨g1, g2⟩, g3⟩, g4⟩, g5⟩, g6⟩ := h5
  simp [Cond.before, Cond.holds, Cond.value, h1, h2, h3, h4, g1, g2, g3, g4, g5, g6]
def isCode : Jvm.Cond → Bool
  | .code _ _ _ _ => true
  | _ => false
theorem all_split {L : List Jvm.Cond} {P : Jvm.Cond → Bool} (h1 : L.all (fun c => isCode c || P c) = true) (h2 : ∀ c ∈ L.filter isCode, P c = true) : L.all P = true := by
  refine List.all_eq_true.mpr fun c hc => ?_
  have h := List.all_eq_true.mp h1 c hc
  rcases Bool.eq_false_or_eq_true (isCode c) with hi | hi
  · exact h2 c (List.mem_filter.mpr ⟨hc, hi⟩)
  · simpa [hi] using h
set_option maxRecDepth 65536 in
theorem w_c0 : (Jvm.Cond.code x code maxLocals ret).before args0 about1 = true := code_word (m := ⟨1, 1⟩) (meth := k1m1) (c := k1c1) (by decide +kernel) rfl rfl rfl (by decide +kernel)
set_option maxRecDepth 65536 in
theorem w_c1 : (Jvm.Cond.code ({ cls := "com/example/actorium/actorium/Claimant$Sends", name := "<init>", desc := "()V" } : Jvm.MethodName) prog_25_method_1_code (1 : Nat) (Option.none : Option Jvm.ClassFile.FieldType)).before args0 about1 = true := code_word (m := ⟨2, 0⟩) (meth := k2m0) (c := k2c0) (by decide +kernel) rfl rfl rfl (by decide +kernel)
set_option maxRecDepth 65536 in
theorem w_c2 : (Jvm.Cond.code ({ cls := "java/lang/Object", name := "<init>", desc := "()V" } : Jvm.MethodName) object_method_1_code (1 : Nat) (Option.none : Option Jvm.ClassFile.FieldType)).before args0 about1 = true := code_word (m := ⟨0, 0⟩) (meth := k0m0) (c := k0c0) (by decide +kernel) rfl rfl rfl (by decide +kernel)
set_option maxRecDepth 65536 in
theorem w_c3 : (Jvm.Cond.code ({ cls := "com/example/actorium/actorium/Claimant$Sends", name := "begin", desc := "(Lcom/example/actorium/actorium/DispatchedCell;)I" } : Jvm.MethodName) prog_25_method_2_code (2 : Nat) (Option.some Jvm.ClassFile.FieldType.int)).before args0 about1 = true := code_word (m := ⟨2, 1⟩) (meth := k2m1) (c := k2c1) (by decide +kernel) rfl rfl rfl (by decide +kernel)
set_option maxRecDepth 65536 in
theorem w_c4 : (Jvm.Cond.code ({ cls := "com/example/actorium/actorium/Claimant$Sends", name := "depth", desc := "()I" } : Jvm.MethodName) prog_25_method_4_code (1 : Nat) (Option.some Jvm.ClassFile.FieldType.int)).before args0 about1 = true := code_word (m := ⟨2, 3⟩) (meth := k2m3) (c := k2c3) (by decide +kernel) rfl rfl rfl (by decide +kernel)
set_option maxRecDepth 65536 in
theorem w_c5 : (Jvm.Cond.code ({ cls := "com/example/actorium/actorium/Claimant$Sends", name := "end", desc := "(I)V" } : Jvm.MethodName) prog_25_method_3_code (2 : Nat) (Option.none : Option Jvm.ClassFile.FieldType)).before args0 about1 = true := code_word (m := ⟨2, 2⟩) (meth := k2m2) (c := k2c2) (by decide +kernel) rfl rfl rfl (by decide +kernel)
def codes1 : List Jvm.Cond := [Jvm.Cond.code x code maxLocals ret, Jvm.Cond.code ({ cls := "com/example/actorium/actorium/Claimant$Sends", name := "<init>", desc := "()V" } : Jvm.MethodName) prog_25_method_1_code (1 : Nat) (Option.none : Option Jvm.ClassFile.FieldType), Jvm.Cond.code ({ cls := "java/lang/Object", name := "<init>", desc := "()V" } : Jvm.MethodName) object_method_1_code (1 : Nat) (Option.none : Option Jvm.ClassFile.FieldType), Jvm.Cond.code ({ cls := "com/example/actorium/actorium/Claimant$Sends", name := "begin", desc := "(Lcom/example/actorium/actorium/DispatchedCell;)I" } : Jvm.MethodName) prog_25_method_2_code (2 : Nat) (Option.some Jvm.ClassFile.FieldType.int), Jvm.Cond.code ({ cls := "com/example/actorium/actorium/Claimant$Sends", name := "depth", desc := "()I" } : Jvm.MethodName) prog_25_method_4_code (1 : Nat) (Option.some Jvm.ClassFile.FieldType.int), Jvm.Cond.code ({ cls := "com/example/actorium/actorium/Claimant$Sends", name := "end", desc := "(I)V" } : Jvm.MethodName) prog_25_method_3_code (2 : Nat) (Option.none : Option Jvm.ClassFile.FieldType)]
set_option maxRecDepth 65536 in
theorem codes_eq : words1.filter isCode = codes1 := rfl
theorem w_codes : ∀ c ∈ words1.filter isCode, c.before args0 about1 = true := by
  rw [codes_eq]
  intro c hc
  simp only [codes1, List.mem_cons, List.not_mem_nil, or_false] at hc
  rcases hc with rfl | rfl | rfl | rfl | rfl | rfl
  · exact w_c0
  · exact w_c1
  · exact w_c2
  · exact w_c3
  · exact w_c4
  · exact w_c5
set_option maxRecDepth 65536 in
theorem w_t1 : (words1.take 24).all (fun c => isCode c || c.before args0 about1) = true := by decide +kernel
set_option maxRecDepth 65536 in
theorem w_t2 : (words1.drop 24).all (fun c => isCode c || c.before args0 about1) = true := by decide +kernel
theorem w_tables : (allAtoms (Jvm.Cond.code x code maxLocals ret :: tables_1)).before args0 about1 = true := by
  rw [allAtoms_all]
  show words1.all (fun c => c.before args0 about1) = true
  refine all_split ?_ w_codes
  rw [← List.take_append_drop 24 words1, List.all_append, w_t1, w_t2]
  rfl
set_option maxRecDepth 65536 in
theorem w_case : (Jvm.Cond.and given_1 narrow_1).before args0 about1 = true := by decide +kernel
theorem w_applies : (headSpec (Jvm.Cond.code x code maxLocals ret :: tables_1) room_1).applies x e0.platform about1 = true :=
  (Spec.applies_iff w_frames).mpr ⟨w_running, w_runnable, w_alone, w_named, w_hears, w_ripe, w_room, w_tables⟩
theorem atStart : AtStart classFile x code maxLocals ret World_1 tables_1 room_1 Calls_1 rest_1 Pre_1 launch0 p0 e0 about1 theMethod args0 below0 :=
  ⟨lists_1, trivial, launch0.admits_env _ _ _, launch0.least_env, fairChoices_fair.cas, fairChoices_fair.clock, w_frames, w_args, w_heap, w_applies, trivial, trivial, w_case⟩
end start1
theorem witness_1 : WitnessClaimed_1 := ⟨start1.p0, start1.e0, start1.about1, start1.theMethod, start1.args0, start1.below0, start1.atStart⟩
end Jvm.Pilot.@@N@@
