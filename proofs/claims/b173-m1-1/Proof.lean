import JvmDerived
import JvmDerived.Pilot.@@N@@Statement
import JvmDerived.Pilot.@@N@@Code
set_option linter.unusedVariables false
set_option linter.unusedSimpArgs false
namespace Jvm.RoadKit
open Sem ClassFile Op Lib Jvm.Stand Jvm.Free Jvm.LawKit
section New
variable {p : Program} {l : Launch} {e : Env} {R : Room} {s : State} {m : MethodId} {args : Array Value} {below : List Frame} {meth : Method} {c : Code} {T : State} {locs : List Loc} {cells slots : Nat}
theorem retI (X : Stand p l e R s m args below meth c T locs cells slots) (hEX : p.tables.exec = Jvm.exec) {pc : Nat} {Ls : Array Slot} {z : Int32} {rest : List Value} (hRT : meth.sig.returnType = some .int) (hd : decode c.code pc = .ok (.ireturn, 1)) {fs : List Frame}
    (hl : ∀ (f : JFrame) (acts : List Action), f.method = m → f.locked = none → f.entered = [] → (doReturn e (T.setTop f) acts (some (.int z))).1 = T.setFrames fs) : Steps p.tables e below (T.setTop (mkF m pc Ls (.int z :: rest))) (T.setFrames fs) := by
  have hm' : T.vm.method? m = some meth := X.method'
  have hn : narrow .int (.int z) = .int z := rfl
  show Steps p.tables e below (T.setTop { method := m, pc := pc, locals := Ls, stack := _ :: rest, locked := none }) _
  jvm_step X.here [X.here.top, hEX, hd, hm', hRT, hn]
  first | (intro acts; rw [hl _ acts rfl rfl rfl]) | rw [hl _ _ rfl rfl rfl]
  exact Steps.refl _
abbrev Us : Slot := .unset
abbrev Zs : Slot := .second
abbrev Nv : Slot := .val .null
abbrev Iv (x : Int32) : Slot := .val (.int x)
abbrev Lv (x : Int64) : Slot := .val (.long x)
abbrev Rv (x : Addr) : Slot := .val (.ref x)
/-- the body comes to its end from st: it returns v, and Q holds of v, of the heap and of the places written -/
def Done (p : Program) (e : Env) (below : List Frame) (s : State) (Q : Option Value → Heap → List Loc → Prop) (kc ks : Nat) (st : State) : Prop :=
  ∃ (s₂ : State) (o : Outcome), Steps p.tables e below st s₂ ∧ s₂.status = .running ∧ Ended s₂ below o ∧ ∃ v L, o = .returned v ∧ Q v s₂.heap L ∧ FrameEnd s o s₂ L kc ks
variable {Q : Option Value → Heap → List Loc → Prop} {kc ks : Nat}
theorem Done.pre {st st' : State} (h : ∀ t, Steps p.tables e below st' t → Steps p.tables e below st t) (D : Done p e below s Q kc ks st') : Done p e below s Q kc ks st := by
  obtain ⟨s₂, o, h1, r⟩ := D
  exact ⟨s₂, o, h _ h1, r⟩
theorem Done.retI (X : Stand p l e R s m args below meth c T locs cells slots) (hEX : p.tables.exec = Jvm.exec) (hLK : meth.locks = false) {pc : Nat} {Ls : Array Slot} {z : Int32} {rest : List Value} (hRT : meth.sig.returnType = some .int) (hd : decode c.code pc = .ok (.ireturn, 1))
    (hQ : Q (some (.int z)) T.heap locs) (hc : cells ≤ kc) (hs : slots ≤ ks) : Done p e below s Q kc ks (T.setTop (mkF m pc Ls (.int z :: rest))) := by
  obtain ⟨fs, hr, hrun, hended, hW, hsame⟩ := X.leave (v := some (.int z)) (fun h => by rw [hRT] at h; cases h) hLK
  exact ⟨_, _, Jvm.RoadKit.retI X hEX hRT hd hr, hrun, hended, _, _, rfl, hQ, ⟨_, rfl⟩, hW, hsame.mono hc hs⟩
theorem Done.retN (X : Stand p l e R s m args below meth c T locs cells slots) (hEX : p.tables.exec = Jvm.exec) (hLK : meth.locks = false) {pc : Nat} {Ls : Array Slot} {z : Int32} {t : FieldType} {rest : List Value} (hRT : meth.sig.returnType = some t) (ht : t = .boolean ∨ t = .byte ∨ t = .char ∨ t = .short) (hd : decode c.code pc = .ok (.ireturn, 1))
    (hQ : Q (some (.int (nar t z))) T.heap locs) (hc : cells ≤ kc) (hs : slots ≤ ks) : Done p e below s Q kc ks (T.setTop (mkF m pc Ls (.int z :: rest))) := by
  obtain ⟨fs, hr, hrun, hended, hW, hsame⟩ := X.leave (v := some (.int (nar t z))) (fun h => by rw [hRT] at h; cases h) hLK
  exact ⟨_, _, Jvm.RoadKit.retN X hEX hRT ht hd hr, hrun, hended, _, _, rfl, hQ, ⟨_, rfl⟩, hW, hsame.mono hc hs⟩
theorem Done.retL (X : Stand p l e R s m args below meth c T locs cells slots) (hEX : p.tables.exec = Jvm.exec) (hLK : meth.locks = false) {pc : Nat} {Ls : Array Slot} {z : Int64} {rest : List Value} (hRT : meth.sig.returnType = some .long) (hd : decode c.code pc = .ok (.lreturn, 1))
    (hQ : Q (some (.long z)) T.heap locs) (hc : cells ≤ kc) (hs : slots ≤ ks) : Done p e below s Q kc ks (T.setTop (mkF m pc Ls (.long z :: rest))) := by
  obtain ⟨fs, hr, hrun, hended, hW, hsame⟩ := X.leave (v := some (.long z)) (fun h => by rw [hRT] at h; cases h) hLK
  exact ⟨_, _, retOut X hEX hRT rfl (Or.inr (Or.inl ⟨rfl, rfl, _, rfl⟩)) hd hr, hrun, hended, _, _, rfl, hQ, ⟨_, rfl⟩, hW, hsame.mono hc hs⟩
theorem Done.retA (X : Stand p l e R s m args below meth c T locs cells slots) (hEX : p.tables.exec = Jvm.exec) (hLK : meth.locks = false) {pc : Nat} {Ls : Array Slot} {w : Value} {t : FieldType} {rest : List Value} (hRT : meth.sig.returnType = some t) (ht : t.isReference = true) (hw : w.isRef = true) (hd : decode c.code pc = .ok (.areturn, 1))
    (hQ : Q (some w) T.heap locs) (hc : cells ≤ kc) (hs : slots ≤ ks) : Done p e below s Q kc ks (T.setTop (mkF m pc Ls (w :: rest))) := by
  obtain ⟨fs, hr, hrun, hended, hW, hsame⟩ := X.leave (v := some w) (fun h => by rw [hRT] at h; cases h) hLK
  have hn : narrow t w = w := by cases t <;> first | rfl | (simp [FieldType.isReference] at ht)
  exact ⟨_, _, retOut X hEX hRT hn (Or.inr (Or.inr (Or.inr (Or.inr ⟨rfl, ht, hw⟩)))) hd hr, hrun, hended, _, _, rfl, hQ, ⟨_, rfl⟩, hW, hsame.mono hc hs⟩
theorem Done.retV (X : Stand p l e R s m args below meth c T locs cells slots) (hEX : p.tables.exec = Jvm.exec) (hLK : meth.locks = false) {pc : Nat} {Ls : Array Slot} (hRT : meth.sig.returnType = none) (hd : decode c.code pc = .ok (.return_, 1))
    (hQ : Q none T.heap locs) (hc : cells ≤ kc) (hs : slots ≤ ks) : Done p e below s Q kc ks (T.setTop (mkF m pc Ls [])) := by
  obtain ⟨fs, hr, hrun, hended, hW, hsame⟩ := X.leave (v := none) (fun _ => rfl) hLK
  exact ⟨_, _, X.returnOut hEX hRT hd hr, hrun, hended, _, _, rfl, hQ, ⟨_, rfl⟩, hW, hsame.mono hc hs⟩
end New
end Jvm.RoadKit
namespace Jvm.Pilot.@@N@@
open Jvm Jvm.ClassFile Sem Op Lib Jvm.Free Jvm.Stand Jvm.LawKit Jvm.RoadKit Bundle Jvm.Pilot.@@N@@.Jvm.D

theorem own_cast {Z : State} {h : Heap} {a : Addr} {k : ClassId} {ty : FieldType} {n : Int32} {vs vs' : List Value} {d : Value} (q : vs = vs') (A : Arv Z h a k ty n vs d) : Arv Z h a k ty n vs' d := q ▸ A
theorem own_nulls (i : Nat) : ([.null, .null, .null, .null, .null, .null, .null, .null] : List Value).set i .null = [.null, .null, .null, .null, .null, .null, .null, .null] := by
  match i with
  | 0 => rfl
  | 1 => rfl
  | 2 => rfl
  | 3 => rfl
  | 4 => rfl
  | 5 => rfl
  | 6 => rfl
  | 7 => rfl
  | _ + 8 => rfl
theorem own_nullget (i : Nat) : ([.null, .null, .null, .null, .null, .null, .null, .null] : List Value).getD i .null = .null := by
  match i with
  | 0 => rfl
  | 1 => rfl
  | 2 => rfl
  | 3 => rfl
  | 4 => rfl
  | 5 => rfl
  | 6 => rfl
  | 7 => rfl
  | _ + 8 => rfl
theorem own_in (t : Int32) (h : 0 ≤ t.toInt ∧ t.toInt < 8) : ¬ t < 0 ∧ t < (8 : Int32) := by
  have e0 : (0 : Int32).toInt = 0 := rfl
  have e8 : (8 : Int32).toInt = 8 := rfl
  rw [Int32.lt_iff_toInt_lt, Int32.lt_iff_toInt_lt]; omega
theorem own_in8 (t : Int32) (h : 0 ≤ t.toInt ∧ t.toInt < 8) : t.toNatClampNeg < 8 := by
  simp only [Int32.toNatClampNeg]; omega
theorem own_ne8 (t : Int32) (h : 0 ≤ t.toInt ∧ t.toInt < 8) : ¬ t = (8 : Int32) := fun q => by
  rw [q] at h; exact absurd h.2 (by decide)

def own_mn (t fr : Int32) : Int32 := if fr < t then fr else t
def own_draw (x : Int32) : Int32 := if (x &&& (1 : Int32)) = (0 : Int32) then ((x.toUInt32 >>> ((1 : Int32) &&& 31).toUInt32).toInt32) &&& (7 : Int32) else ((x.toUInt32 >>> ((1 : Int32) &&& 31).toUInt32).toInt32)
theorem own_draw0 (x : Int32) : 0 ≤ (own_draw x).toInt := by
  have h1 := c_iushr x (1 : Int32) 1 (by decide) (by decide)
  have h2 := c_mask ((x.toUInt32 >>> ((1 : Int32) &&& 31).toUInt32).toInt32) (7 : Int32) 3 (by decide) (by decide)
  rw [own_draw]
  split
  · omega
  · omega
theorem own_n (x : Int32) : ((x &&& (2147483647 : Int32)) % (5 : Int32)) = (0 : Int32) ∨ ((x &&& (2147483647 : Int32)) % (5 : Int32)) = (1 : Int32) ∨ ((x &&& (2147483647 : Int32)) % (5 : Int32)) = (2 : Int32) ∨ ((x &&& (2147483647 : Int32)) % (5 : Int32)) = (3 : Int32) ∨ ((x &&& (2147483647 : Int32)) % (5 : Int32)) = (4 : Int32) := by
  have h1 := c_mask x (2147483647 : Int32) 31 (by decide) (by decide +kernel)
  have d2 := (c_irem (x &&& (2147483647 : Int32)) (5 : Int32) 5 rfl).1 (by omega)
  have e0 : (0 : Int32).toInt = 0 := rfl
  have e1 : (1 : Int32).toInt = 1 := rfl
  have e2 : (2 : Int32).toInt = 2 := rfl
  have e3 : (3 : Int32).toInt = 3 := rfl
  have e4 : (4 : Int32).toInt = 4 := rfl
  rw [← Int32.toInt_inj, ← Int32.toInt_inj, ← Int32.toInt_inj, ← Int32.toInt_inj, ← Int32.toInt_inj]
  omega
theorem own_sub1 (t fr : Int32) (ht : 0 ≤ t.toInt ∧ t.toInt ≤ 8) (hfr : 0 ≤ fr.toInt) (h : fr < t) : (t - (1 : Int32)).toInt = t.toInt - 1 ∧ 0 < t.toInt ∧ fr.toInt < t.toInt := by
  rw [Int32.lt_iff_toInt_lt] at h
  have e1 : (1 : Int32).toInt = 1 := rfl
  have a1 := c_isub t (1 : Int32)
  have a2 := rng32 (t - (1 : Int32))
  omega
theorem own_ixr (t fr : Int32) (ht : 0 ≤ t.toInt ∧ t.toInt ≤ 8) (hfr : 0 ≤ fr.toInt) (h : fr < t) : 0 ≤ (t - (1 : Int32)).toInt ∧ (t - (1 : Int32)).toInt < 8 := by
  have := own_sub1 t fr ht hfr h; omega
theorem own_nx0 (t fr : Int32) (ht : 0 ≤ t.toInt ∧ t.toInt ≤ 8) (hfr : 0 ≤ fr.toInt) (h : fr < t) : (0 ≤ (t - (1 : Int32)).toInt ∧ (t - (1 : Int32)).toInt ≤ 8) ∧ own_mn (t - (1 : Int32)) fr = own_mn t fr := by
  have h1 := own_sub1 t fr ht hfr h
  refine ⟨by omega, ?_⟩
  rw [own_mn, own_mn, if_pos h]
  by_cases q : fr < t - (1 : Int32)
  · rw [if_pos q]
  · rw [if_neg q]
    rw [Int32.lt_iff_toInt_lt] at q
    apply Int32.toInt_inj.mp; omega
theorem own_nx (tp t fr : Int32) (hp : (0 ≤ tp.toInt ∧ tp.toInt ≤ 8) ∧ own_mn tp fr = own_mn t fr) (hfr : 0 ≤ fr.toInt) (h : fr < tp) : (0 ≤ (tp - (1 : Int32)).toInt ∧ (tp - (1 : Int32)).toInt ≤ 8) ∧ own_mn (tp - (1 : Int32)) fr = own_mn t fr := by
  obtain ⟨a, b⟩ := own_nx0 tp fr hp.1 hfr h
  exact ⟨a, b.trans hp.2⟩
theorem own_dec (tp fr : Int32) (kk : Nat) (ht : 0 ≤ tp.toInt ∧ tp.toInt ≤ 8) (hfr : 0 ≤ fr.toInt) (h : fr < tp) (hkk : tp.toInt.toNat = kk) : (tp - (1 : Int32)).toInt.toNat < kk := by
  have := own_sub1 tp fr ht hfr h; omega
theorem own_fin (tp t fr : Int32) (hp : (0 ≤ tp.toInt ∧ tp.toInt ≤ 8) ∧ own_mn tp fr = own_mn t fr) (h : ¬ fr < tp) : own_mn t fr = tp := by
  rw [← hp.2, own_mn, if_neg h]
theorem own_mnr (t fr : Int32) (ht : 0 ≤ t.toInt ∧ t.toInt ≤ 4) (hfr : 0 ≤ fr.toInt) : 0 ≤ (own_mn t fr).toInt ∧ (own_mn t fr).toInt ≤ 8 := by
  rw [own_mn]; split
  · rename_i h; rw [Int32.lt_iff_toInt_lt] at h; omega
  · omega
theorem d_prog_25_method_1_code_0 : decode prog_25_method_1_code 0 = .ok (.aload_n 0, 1) := by decide +kernel
theorem d_prog_25_method_1_code_1 : decode prog_25_method_1_code 1 = .ok (.invokespecial 1, 3) := by decide +kernel
theorem d_prog_25_method_1_code_4 : decode prog_25_method_1_code 4 = .ok (.aload_n 0, 1) := by decide +kernel
theorem d_prog_25_method_1_code_5 : decode prog_25_method_1_code 5 = .ok (.bipush 8, 2) := by decide +kernel
theorem d_prog_25_method_1_code_7 : decode prog_25_method_1_code 7 = .ok (.anewarray 7, 3) := by decide +kernel
theorem d_prog_25_method_1_code_10 : decode prog_25_method_1_code 10 = .ok (.putfield 9, 3) := by decide +kernel
theorem d_prog_25_method_1_code_13 : decode prog_25_method_1_code 13 = .ok (.return_, 1) := by decide +kernel
def Qrm_init (Z : State) (a : Addr) (t : Int32) (u : Value) (h0 : Heap) (n0 : Nat) (v_ : Option Value) (h_ : Heap) (L_ : List Loc) : Prop := ∃ (b : Addr), ∃ (k : ClassId), v_ = none ∧ Fr n0 L_ ∧ Keep h0 h_ [a] ∧ Exa Z h_ a "com/example/actorium/actorium/Claimant$Sends" ∧ Fld Z h_ a "com/example/actorium/actorium/Claimant$Sends" "top" "I" (.int t) ∧ Fld Z h_ a "com/example/actorium/actorium/Claimant$Sends" "cells" "[Lcom/example/actorium/actorium/DispatchedCell;" (.ref b) ∧ Arv Z h_ b k (.object "com/example/actorium/actorium/DispatchedCell") (8 : Int32) [.null, .null, .null, .null, .null, .null, .null, .null] .null ∧ h0.size ≤ b
theorem ef_rm_init (m : MethodId) (x0 : Addr) : entryFrame m #[(.ref x0)] 1 = mkF m 0 #[.val (.ref x0)] [] := by first | (simp [entryFrame, mkF, argsToLocals, Value.category]; done) | rfl
theorem pn_com_example_actorium_actorium_Claimant_Sends : plainName "com/example/actorium/actorium/Claimant$Sends" = true := by first | (simp [plainName, overriddenIn]; done) | decide +kernel
set_option maxRecDepth 65536 in
set_option maxHeartbeats 40000000 in
theorem rm_init (l : Launch) (Z : State) (aZ : Array Value) (hw : ∀ d ∈ tables_1, d.before aZ Z = true) (ws : List Jvm.Cond) (a : Addr) (t : Int32) (u : Value) (h0 : Heap) (n0 : Nat) (Z0 : n0 ≤ h0.size) (Ex : Exa Z h0 a "com/example/actorium/actorium/Claimant$Sends") (Ft : Fld Z h0 a "com/example/actorium/actorium/Claimant$Sends" "top" "I" (.int t)) (Fc : Fld Z h0 a "com/example/actorium/actorium/Claimant$Sends" "cells" "[Lcom/example/actorium/actorium/DispatchedCell;" u) (ga : n0 ≤ a) :
    MetFree l (⟨"com/example/actorium/actorium/Claimant$Sends", "<init>", "()V"⟩ : MethodName) (head1 (Jvm.Cond.code (⟨"com/example/actorium/actorium/Claimant$Sends", "<init>", "()V"⟩ : MethodName) prog_25_method_1_code 1 none :: ws) ({ frames := 1, cells := 1, slots := 8, locals := 12 } : Room)) (fun a_ U_ => a_ = #[(.ref a)] ∧ Z.Warmed39 U_.vm ∧ U_.heap = h0) (fun _ _ _ _ _ => True) (fun _ U_ o_ U2_ => ∃ v_ L_, o_ = .returned v_ ∧ Qrm_init Z a t u h0 n0 v_ U2_.heap L_ ∧ FrameEnd U_ o_ U2_ L_ ({ frames := 1, cells := 1, slots := 8, locals := 12 } : Room).cells ({ frames := 1, cells := 1, slots := 8, locals := 12 } : Room).slots) := by
  refine MetFree.of_bodySF (plainFor_of_name pn_com_example_actorium_actorium_Claimant_Sends) hisR ?_
  intro p e s m args below meth cO s₁ Bd hml0 hP hK
  obtain ⟨rfl, hZW, hh⟩ := hP
  have hEX := Bd.exec
  have hBY := Bd.bytes
  have hMX : cO.maxLocals = 1 := hml0
  have hOW : s.vm.findClass "com/example/actorium/actorium/Claimant$Sends" = some m.cls := findClass_of_methodNamed Bd.named
  have hNM := (name_of_methodNamed Bd.named Bd.method).1
  have hLK := Bd.notSynchronized
  have hRT := Bd.returns
  have X0 : Stand p l e ({ frames := 1, cells := 1, slots := 8, locals := 12 } : Room) s m #[(.ref a)] below meth cO s₁ [] 0 0 := Stand.of_body Bd
  have e0 : s₁.heap = h0 := by rw [← hh, Bd.state]; rfl
  have N0 := Fr.nil n0
  have K0 : Keep h0 h0 [a] := Keep.refl _ _
  show Done p e below s (Qrm_init Z a t u h0 n0) ({ frames := 1, cells := 1, slots := 8, locals := 12 } : Room).cells ({ frames := 1, cells := 1, slots := 8, locals := 12 } : Room).slots (s₁.setTop (entryFrame m #[(.ref a)] 1))
  refine Done.pre (fun t_ k_ => castTop (ef_rm_init m a) k_) ?_
  show Done _ _ _ _ _ _ _ (s₁.setTop (mkF m 0 #[Rv a] []))
  have sg_1 : ∀ tt_, Steps p.tables e below (s₁.setTop (mkF m 1 #[Rv a] [(.ref a)])) tt_ → Steps p.tables e below (s₁.setTop (mkF m 0 #[Rv a] [])) tt_ := by
    intro tt_ kt_
    refine XS.aloadN X0.here hEX rfl (hb hBY d_prog_25_method_1_code_0) rfl rfl ?_
    exact kt_
  refine Done.pre sg_1 ?_
  obtain ⟨T_2, X_2, e_2, st_2⟩ := initO X0 hEX hZW hOW (hw _ (List.mem_of_getElem? (i := 6) rfl)) (hw _ (List.mem_of_getElem? (i := 7) rfl)) (hw _ (List.mem_of_getElem? (i := 8) rfl)) e0 (g := (mkF m 1 #[Rv a] [(.ref a)])) rfl (by rw [hMX]; rfl) rfl (hb hBY d_prog_25_method_1_code_1) (by decide) (W := 0) (by show 2 * 0 + _ ≤ _; exact Nat.le_of_eq rfl) (by decide)
  refine Done.pre st_2 ?_
  show Done _ _ _ _ _ _ _ (T_2.setTop (mkF m 4 #[Rv a] []))
  have sg_3 : ∀ tt_, Steps p.tables e below (T_2.setTop (mkF m 7 #[Rv a] [(.int (8 : Int32)), (.ref a)])) tt_ → Steps p.tables e below (T_2.setTop (mkF m 4 #[Rv a] [])) tt_ := by
    intro tt_ kt_
    refine XS.aloadN X_2.here hEX rfl (hb hBY d_prog_25_method_1_code_4) rfl rfl ?_
    show Steps p.tables e below (T_2.setTop (mkF m 5 #[Rv a] [(.ref a)])) tt_
    refine XS.bipush X_2.here hEX rfl (hb hBY d_prog_25_method_1_code_5) ?_
    exact kt_
  refine Done.pre sg_3 ?_
  obtain ⟨T_4, h_4, k_4, X_4, e_4, E_4, A_4, O_4, st_4⟩ := newR X_2 hEX hZW hOW (hw _ (List.mem_of_getElem? (i := 9) rfl)) (hw _ (List.mem_of_getElem? (i := 10) rfl)) e_2 (g := (mkF m 7 #[Rv a] [(.int (8 : Int32)), (.ref a)])) rfl (hb hBY d_prog_25_method_1_code_7) rfl (by decide) (cap := 8) (by decide) (by decide) (by decide) (by decide)
  obtain ⟨b_4, g_4⟩ : ∃ z, z = h0.size := ⟨_, rfl⟩
  rw [← g_4] at A_4 st_4
  have sz_b_4 : h0.size ≤ b_4 := Nat.le_trans K0.1 (Nat.le_of_eq g_4.symm)
  have ge_b_4 : n0 ≤ b_4 := Nat.le_trans Z0 sz_b_4
  have ne_a_b_4 : a ≠ b_4 := Nat.ne_of_lt (Nat.lt_of_lt_of_le Ex.lt (Nat.le_of_eq g_4.symm))
  have K__5 : Keep h0 h_4 [a] := K0.ext E_4
  have f_6 : Exa Z h_4 a "com/example/actorium/actorium/Claimant$Sends" := Ex.ext E_4
  have f_7 : Fld Z h_4 a "com/example/actorium/actorium/Claimant$Sends" "top" "I" (.int t) := Ft.ext E_4
  have f_8 : Fld Z h_4 a "com/example/actorium/actorium/Claimant$Sends" "cells" "[Lcom/example/actorium/actorium/DispatchedCell;" u := Fc.ext E_4
  have f_9 : Arv Z h_4 b_4 k_4 (.object "com/example/actorium/actorium/DispatchedCell") (8 : Int32) [.null, .null, .null, .null, .null, .null, .null, .null] .null := (Arv.new A_4 (by decide)).pad (pad_rep [] .null 8)
  refine Done.pre st_4 ?_
  show Done _ _ _ _ _ _ _ (T_4.setTop (mkF m 10 #[Rv a] [(.ref b_4), (.ref a)]))
  obtain ⟨T_10, h_10, X_10, e_10, W_10, st_10⟩ := putF X_4 hEX hZW hOW (host := "") (Or.inl (hw _ (List.mem_of_getElem? (i := 11) rfl))) Via.refl e_4 f_8 f_6 (Or.inl (hw _ (List.mem_of_getElem? (i := 12) rfl))) (hw _ (List.mem_of_getElem? (i := 1) rfl)) (ty := (.array (.object "com/example/actorium/actorium/DispatchedCell"))) (by decide) rfl rfl (g := (mkF m 10 #[Rv a] [(.ref b_4), (.ref a)])) rfl rfl (hb hBY d_prog_25_method_1_code_10)
  have N_10 := Fr.snoc X_10 N0 ga
  have K__11 : Keep h0 h_10 [a] := K__5.wr W_10 (Or.inl (List.mem_of_getElem? (i := 0) rfl))
  have f_12 : Exa Z h_10 a "com/example/actorium/actorium/Claimant$Sends" := f_6.wr W_10
  have f_13 : Fld Z h_10 a "com/example/actorium/actorium/Claimant$Sends" "top" "I" (.int t) := f_7.other W_10 (Or.inr (slot_ne (Or.inl (hw _ (List.mem_of_getElem? (i := 24) rfl))) (Or.inl (hw _ (List.mem_of_getElem? (i := 12) rfl))) (by decide) (t := .int) (t' := (.array (.object "com/example/actorium/actorium/DispatchedCell"))) (by decide) (by decide)))
  have f_14 : Arv Z h_10 b_4 k_4 (.object "com/example/actorium/actorium/DispatchedCell") (8 : Int32) [.null, .null, .null, .null, .null, .null, .null, .null] .null := f_9.other W_10 (Ne.symm ne_a_b_4)
  have f_15 : Fld Z h_10 a "com/example/actorium/actorium/Claimant$Sends" "cells" "[Lcom/example/actorium/actorium/DispatchedCell;" (.ref b_4) := f_8.same W_10
  refine Done.pre st_10 ?_
  show Done _ _ _ _ _ _ _ (T_10.setTop (mkF m 13 #[Rv a] []))
  exact Done.retV X_10 hEX hLK hRT (hb hBY d_prog_25_method_1_code_13) (by rw [e_10]; exact ⟨b_4, k_4, rfl, N_10, K__11, f_12, f_13, f_15, f_14, sz_b_4⟩) (by decide) (by decide)
theorem d_prog_25_method_2_code_0 : decode prog_25_method_2_code 0 = .ok (.aload_n 0, 1) := by decide +kernel
theorem d_prog_25_method_2_code_1 : decode prog_25_method_2_code 1 = .ok (.getfield 15, 3) := by decide +kernel
theorem d_prog_25_method_2_code_4 : decode prog_25_method_2_code 4 = .ok (.aload_n 0, 1) := by decide +kernel
theorem d_prog_25_method_2_code_5 : decode prog_25_method_2_code 5 = .ok (.getfield 9, 3) := by decide +kernel
theorem d_prog_25_method_2_code_8 : decode prog_25_method_2_code 8 = .ok (.arraylength, 1) := by decide +kernel
theorem d_prog_25_method_2_code_9 : decode prog_25_method_2_code 9 = .ok (.if_icmp .ne 23, 3) := by decide +kernel
theorem d_prog_25_method_2_code_32 : decode prog_25_method_2_code 32 = .ok (.aload_n 0, 1) := by decide +kernel
theorem d_prog_25_method_2_code_33 : decode prog_25_method_2_code 33 = .ok (.getfield 9, 3) := by decide +kernel
theorem d_prog_25_method_2_code_36 : decode prog_25_method_2_code 36 = .ok (.aload_n 0, 1) := by decide +kernel
theorem d_prog_25_method_2_code_37 : decode prog_25_method_2_code 37 = .ok (.getfield 15, 3) := by decide +kernel
theorem d_prog_25_method_2_code_40 : decode prog_25_method_2_code 40 = .ok (.aload_n 1, 1) := by decide +kernel
theorem d_prog_25_method_2_code_41 : decode prog_25_method_2_code 41 = .ok (.aastore, 1) := by decide +kernel
theorem d_prog_25_method_2_code_42 : decode prog_25_method_2_code 42 = .ok (.aload_n 0, 1) := by decide +kernel
theorem d_prog_25_method_2_code_43 : decode prog_25_method_2_code 43 = .ok (.dup, 1) := by decide +kernel
theorem d_prog_25_method_2_code_44 : decode prog_25_method_2_code 44 = .ok (.getfield 15, 3) := by decide +kernel
theorem d_prog_25_method_2_code_47 : decode prog_25_method_2_code 47 = .ok (.iconst 1, 1) := by decide +kernel
theorem d_prog_25_method_2_code_48 : decode prog_25_method_2_code 48 = .ok (.iadd, 1) := by decide +kernel
theorem d_prog_25_method_2_code_49 : decode prog_25_method_2_code 49 = .ok (.putfield 15, 3) := by decide +kernel
theorem d_prog_25_method_2_code_52 : decode prog_25_method_2_code 52 = .ok (.aload_n 0, 1) := by decide +kernel
theorem d_prog_25_method_2_code_53 : decode prog_25_method_2_code 53 = .ok (.getfield 15, 3) := by decide +kernel
theorem d_prog_25_method_2_code_56 : decode prog_25_method_2_code 56 = .ok (.iconst 1, 1) := by decide +kernel
theorem d_prog_25_method_2_code_57 : decode prog_25_method_2_code 57 = .ok (.isub, 1) := by decide +kernel
theorem d_prog_25_method_2_code_58 : decode prog_25_method_2_code 58 = .ok (.ireturn, 1) := by decide +kernel
def Qrm_begin (Z : State) (a : Addr) (t : Int32) (b : Addr) (k : ClassId) (h0 : Heap) (n0 : Nat) (v_ : Option Value) (h_ : Heap) (L_ : List Loc) : Prop := v_ = some (.int t) ∧ Fr n0 L_ ∧ Keep h0 h_ [a, b] ∧ Exa Z h_ a "com/example/actorium/actorium/Claimant$Sends" ∧ Fld Z h_ a "com/example/actorium/actorium/Claimant$Sends" "top" "I" (.int (t + (1 : Int32))) ∧ Fld Z h_ a "com/example/actorium/actorium/Claimant$Sends" "cells" "[Lcom/example/actorium/actorium/DispatchedCell;" (.ref b) ∧ Arv Z h_ b k (.object "com/example/actorium/actorium/DispatchedCell") (8 : Int32) [.null, .null, .null, .null, .null, .null, .null, .null] .null
theorem ef_rm_begin (m : MethodId) (x0 : Addr) : entryFrame m #[(.ref x0), .null] 2 = mkF m 0 #[.val (.ref x0), .val .null] [] := by first | (simp [entryFrame, mkF, argsToLocals, Value.category]; done) | rfl
set_option maxRecDepth 65536 in
set_option maxHeartbeats 40000000 in
theorem rm_begin (l : Launch) (Z : State) (aZ : Array Value) (hw : ∀ d ∈ tables_1, d.before aZ Z = true) (ws : List Jvm.Cond) (a : Addr) (t : Int32) (b : Addr) (k : ClassId) (h0 : Heap) (n0 : Nat) (Z0 : n0 ≤ h0.size) (Ex : Exa Z h0 a "com/example/actorium/actorium/Claimant$Sends") (Ft : Fld Z h0 a "com/example/actorium/actorium/Claimant$Sends" "top" "I" (.int t)) (Fc : Fld Z h0 a "com/example/actorium/actorium/Claimant$Sends" "cells" "[Lcom/example/actorium/actorium/DispatchedCell;" (.ref b)) (Av : Arv Z h0 b k (.object "com/example/actorium/actorium/DispatchedCell") (8 : Int32) [.null, .null, .null, .null, .null, .null, .null, .null] .null) (ga : n0 ≤ a) (gb : n0 ≤ b) (nab : a ≠ b) (ht : 0 ≤ t.toInt ∧ t.toInt < 8) :
    MetFree l (⟨"com/example/actorium/actorium/Claimant$Sends", "begin", "(Lcom/example/actorium/actorium/DispatchedCell;)I"⟩ : MethodName) (head1 (Jvm.Cond.code (⟨"com/example/actorium/actorium/Claimant$Sends", "begin", "(Lcom/example/actorium/actorium/DispatchedCell;)I"⟩ : MethodName) prog_25_method_2_code 2 (some .int) :: ws) ({ frames := 0, cells := 0, slots := 0, locals := 0 } : Room)) (fun a_ U_ => a_ = #[(.ref a), .null] ∧ Z.Warmed39 U_.vm ∧ U_.heap = h0) (fun _ _ _ _ _ => True) (fun _ U_ o_ U2_ => ∃ v_ L_, o_ = .returned v_ ∧ Qrm_begin Z a t b k h0 n0 v_ U2_.heap L_ ∧ FrameEnd U_ o_ U2_ L_ ({ frames := 0, cells := 0, slots := 0, locals := 0 } : Room).cells ({ frames := 0, cells := 0, slots := 0, locals := 0 } : Room).slots) := by
  refine MetFree.of_bodySF (plainFor_of_name pn_com_example_actorium_actorium_Claimant_Sends) hisR ?_
  intro p e s m args below meth cO s₁ Bd hml0 hP hK
  obtain ⟨rfl, hZW, hh⟩ := hP
  have hEX := Bd.exec
  have hBY := Bd.bytes
  have hMX : cO.maxLocals = 2 := hml0
  have hOW : s.vm.findClass "com/example/actorium/actorium/Claimant$Sends" = some m.cls := findClass_of_methodNamed Bd.named
  have hNM := (name_of_methodNamed Bd.named Bd.method).1
  have hLK := Bd.notSynchronized
  have hRT := Bd.returns
  have X0 : Stand p l e ({ frames := 0, cells := 0, slots := 0, locals := 0 } : Room) s m #[(.ref a), .null] below meth cO s₁ [] 0 0 := Stand.of_body Bd
  have e0 : s₁.heap = h0 := by rw [← hh, Bd.state]; rfl
  have N0 := Fr.nil n0
  have K0 : Keep h0 h0 [a, b] := Keep.refl _ _
  show Done p e below s (Qrm_begin Z a t b k h0 n0) ({ frames := 0, cells := 0, slots := 0, locals := 0 } : Room).cells ({ frames := 0, cells := 0, slots := 0, locals := 0 } : Room).slots (s₁.setTop (entryFrame m #[(.ref a), .null] 2))
  refine Done.pre (fun t_ k_ => castTop (ef_rm_begin m a) k_) ?_
  show Done _ _ _ _ _ _ _ (s₁.setTop (mkF m 0 #[Rv a, Nv] []))
  have sg_1 : ∀ tt_, Steps p.tables e below (s₁.setTop (mkF m 1 #[Rv a, Nv] [(.ref a)])) tt_ → Steps p.tables e below (s₁.setTop (mkF m 0 #[Rv a, Nv] [])) tt_ := by
    intro tt_ kt_
    refine XS.aloadN X0.here hEX rfl (hb hBY d_prog_25_method_2_code_0) rfl rfl ?_
    exact kt_
  refine Done.pre sg_1 ?_
  obtain ⟨T_2, X_2, e_2, st_2⟩ := getF X0 hEX hZW hOW (host := "") (Or.inl (hw _ (List.mem_of_getElem? (i := 23) rfl))) Via.refl e0 Ft (g := (mkF m 1 #[Rv a, Nv] [(.ref a)])) rfl rfl (hb hBY d_prog_25_method_2_code_1)
  refine Done.pre st_2 ?_
  show Done _ _ _ _ _ _ _ (T_2.setTop (mkF m 4 #[Rv a, Nv] [(.int t)]))
  have sg_3 : ∀ tt_, Steps p.tables e below (T_2.setTop (mkF m 5 #[Rv a, Nv] [(.ref a), (.int t)])) tt_ → Steps p.tables e below (T_2.setTop (mkF m 4 #[Rv a, Nv] [(.int t)])) tt_ := by
    intro tt_ kt_
    refine XS.aloadN X_2.here hEX rfl (hb hBY d_prog_25_method_2_code_4) rfl rfl ?_
    exact kt_
  refine Done.pre sg_3 ?_
  obtain ⟨T_4, X_4, e_4, st_4⟩ := getF X_2 hEX hZW hOW (host := "") (Or.inl (hw _ (List.mem_of_getElem? (i := 11) rfl))) Via.refl e_2 Fc (g := (mkF m 5 #[Rv a, Nv] [(.ref a), (.int t)])) rfl rfl (hb hBY d_prog_25_method_2_code_5)
  refine Done.pre st_4 ?_
  show Done _ _ _ _ _ _ _ (T_4.setTop (mkF m 8 #[Rv a, Nv] [(.ref b), (.int t)]))
  obtain ⟨cl_5, Ar_5, -, S_5, N__5, -, -⟩ := id Av
  have sg_6 : ∀ tt_, Steps p.tables e below (T_4.setTop (mkF m 33 #[Rv a, Nv] [(.ref a)])) tt_ → Steps p.tables e below (T_4.setTop (mkF m 8 #[Rv a, Nv] [(.ref b), (.int t)])) tt_ := by
    intro tt_ kt_
    refine X_4.arraylength hEX (by rw [e_4]; exact Ar_5.1) (State.isArrayOf_alike hZW.alike Ar_5.2.1) (g := (mkF m 8 #[Rv a, Nv] [(.ref b), (.int t)])) rfl rfl (hb hBY d_prog_25_method_2_code_8) _ ?_
    rw [len_of S_5 N__5]
    show Steps p.tables e below (T_4.setTop (mkF m 9 #[Rv a, Nv] [(.int (8 : Int32)), (.int t)])) tt_
    refine XS.icmpYes X_4.here hEX rfl (pc0 := 9) (pc' := 32) rfl (hb hBY d_prog_25_method_2_code_9) rfl (feq (own_ne8 t ht : ¬ (t = (8 : Int32)))).2 (by decide) (by decide) ?_
    show Steps p.tables e below (T_4.setTop (mkF m 32 #[Rv a, Nv] [])) tt_
    refine XS.aloadN X_4.here hEX rfl (hb hBY d_prog_25_method_2_code_32) rfl rfl ?_
    exact kt_
  refine Done.pre sg_6 ?_
  obtain ⟨T_7, X_7, e_7, st_7⟩ := getF X_4 hEX hZW hOW (host := "") (Or.inl (hw _ (List.mem_of_getElem? (i := 11) rfl))) Via.refl e_4 Fc (g := (mkF m 33 #[Rv a, Nv] [(.ref a)])) rfl rfl (hb hBY d_prog_25_method_2_code_33)
  refine Done.pre st_7 ?_
  show Done _ _ _ _ _ _ _ (T_7.setTop (mkF m 36 #[Rv a, Nv] [(.ref b)]))
  have sg_8 : ∀ tt_, Steps p.tables e below (T_7.setTop (mkF m 37 #[Rv a, Nv] [(.ref a), (.ref b)])) tt_ → Steps p.tables e below (T_7.setTop (mkF m 36 #[Rv a, Nv] [(.ref b)])) tt_ := by
    intro tt_ kt_
    refine XS.aloadN X_7.here hEX rfl (hb hBY d_prog_25_method_2_code_36) rfl rfl ?_
    exact kt_
  refine Done.pre sg_8 ?_
  obtain ⟨T_9, X_9, e_9, st_9⟩ := getF X_7 hEX hZW hOW (host := "") (Or.inl (hw _ (List.mem_of_getElem? (i := 23) rfl))) Via.refl e_7 Ft (g := (mkF m 37 #[Rv a, Nv] [(.ref a), (.ref b)])) rfl rfl (hb hBY d_prog_25_method_2_code_37)
  refine Done.pre st_9 ?_
  show Done _ _ _ _ _ _ _ (T_9.setTop (mkF m 40 #[Rv a, Nv] [(.int t), (.ref b)]))
  have sg_11 : ∀ tt_, Steps p.tables e below (T_9.setTop (mkF m 41 #[Rv a, Nv] [.null, (.int t), (.ref b)])) tt_ → Steps p.tables e below (T_9.setTop (mkF m 40 #[Rv a, Nv] [(.int t), (.ref b)])) tt_ := by
    intro tt_ kt_
    refine XS.aloadN X_9.here hEX rfl (hb hBY d_prog_25_method_2_code_40) rfl rfl ?_
    exact kt_
  refine Done.pre sg_11 ?_
  obtain ⟨cl_10, Ar_10, q_10, S_10, N__10, H_10, G_10⟩ := id Av
  have hin_10 : ¬ (t < 0 ∨ cl_10.slots.size ≤ (t).toNatClampNeg) := inb_of S_10 (own_in t ht)
  obtain ⟨T_12, h_12, X_12, e_12, W_12, st_12⟩ := stR X_9 hEX hZW e_9 Ar_10 (j := t) hin_10 rfl (Or.inl rfl) (g := (mkF m 41 #[Rv a, Nv] [.null, (.int t), (.ref b)])) rfl rfl (hb hBY d_prog_25_method_2_code_41)
  have N_12 := Fr.snoc X_12 N0 gb
  have K__13 : Keep h0 h_12 [a, b] := K0.wr W_12 (Or.inl (List.mem_of_getElem? (i := 1) rfl))
  have f_14 : Exa Z h_12 a "com/example/actorium/actorium/Claimant$Sends" := Ex.wr W_12
  have f_15 : Fld Z h_12 a "com/example/actorium/actorium/Claimant$Sends" "top" "I" (.int t) := Ft.other W_12 (Or.inl nab)
  have f_16 : Fld Z h_12 a "com/example/actorium/actorium/Claimant$Sends" "cells" "[Lcom/example/actorium/actorium/DispatchedCell;" (.ref b) := Fc.other W_12 (Or.inl nab)
  have f_17 : Arv Z h_12 b k (.object "com/example/actorium/actorium/DispatchedCell") (8 : Int32) [.null, .null, .null, .null, .null, .null, .null, .null] .null := own_cast (own_nulls _) (Arv.set Ar_10 q_10 S_10 N__10 H_10 G_10 rfl W_12 ((t).toNatClampNeg) rfl (own_in8 t ht))
  refine Done.pre st_12 ?_
  show Done _ _ _ _ _ _ _ (T_12.setTop (mkF m 42 #[Rv a, Nv] []))
  have sg_18 : ∀ tt_, Steps p.tables e below (T_12.setTop (mkF m 44 #[Rv a, Nv] [(.ref a), (.ref a)])) tt_ → Steps p.tables e below (T_12.setTop (mkF m 42 #[Rv a, Nv] [])) tt_ := by
    intro tt_ kt_
    refine XS.aloadN X_12.here hEX rfl (hb hBY d_prog_25_method_2_code_42) rfl rfl ?_
    show Steps p.tables e below (T_12.setTop (mkF m 43 #[Rv a, Nv] [(.ref a)])) tt_
    refine XS.dup X_12.here hEX rfl (hb hBY d_prog_25_method_2_code_43) rfl rfl ?_
    exact kt_
  refine Done.pre sg_18 ?_
  obtain ⟨T_19, X_19, e_19, st_19⟩ := getF X_12 hEX hZW hOW (host := "") (Or.inl (hw _ (List.mem_of_getElem? (i := 23) rfl))) Via.refl e_12 f_15 (g := (mkF m 44 #[Rv a, Nv] [(.ref a), (.ref a)])) rfl rfl (hb hBY d_prog_25_method_2_code_44)
  refine Done.pre st_19 ?_
  show Done _ _ _ _ _ _ _ (T_19.setTop (mkF m 47 #[Rv a, Nv] [(.int t), (.ref a)]))
  have sg_20 : ∀ tt_, Steps p.tables e below (T_19.setTop (mkF m 49 #[Rv a, Nv] [(.int (t + (1 : Int32))), (.ref a)])) tt_ → Steps p.tables e below (T_19.setTop (mkF m 47 #[Rv a, Nv] [(.int t), (.ref a)])) tt_ := by
    intro tt_ kt_
    refine XS.iconst X_19.here hEX rfl (hb hBY d_prog_25_method_2_code_47) ?_
    show Steps p.tables e below (T_19.setTop (mkF m 48 #[Rv a, Nv] [(.int (1 : Int32)), (.int t), (.ref a)])) tt_
    refine XS.iadd X_19.here hEX rfl (hb hBY d_prog_25_method_2_code_48) rfl ?_
    exact kt_
  refine Done.pre sg_20 ?_
  obtain ⟨T_21, h_21, X_21, e_21, W_21, st_21⟩ := putF X_19 hEX hZW hOW (host := "") (Or.inl (hw _ (List.mem_of_getElem? (i := 23) rfl))) Via.refl e_19 f_15 f_14 (Or.inl (hw _ (List.mem_of_getElem? (i := 24) rfl))) (hw _ (List.mem_of_getElem? (i := 1) rfl)) (ty := .int) (by decide) rfl rfl (g := (mkF m 49 #[Rv a, Nv] [(.int (t + (1 : Int32))), (.ref a)])) rfl rfl (hb hBY d_prog_25_method_2_code_49)
  have N_21 := Fr.snoc X_21 N_12 ga
  have K__22 : Keep h0 h_21 [a, b] := K__13.wr W_21 (Or.inl (List.mem_of_getElem? (i := 0) rfl))
  have f_23 : Exa Z h_21 a "com/example/actorium/actorium/Claimant$Sends" := f_14.wr W_21
  have f_24 : Fld Z h_21 a "com/example/actorium/actorium/Claimant$Sends" "cells" "[Lcom/example/actorium/actorium/DispatchedCell;" (.ref b) := f_16.other W_21 (Or.inr (slot_ne (Or.inl (hw _ (List.mem_of_getElem? (i := 12) rfl))) (Or.inl (hw _ (List.mem_of_getElem? (i := 24) rfl))) (by decide) (t := (.array (.object "com/example/actorium/actorium/DispatchedCell"))) (t' := .int) (by decide) (by decide)))
  have f_25 : Arv Z h_21 b k (.object "com/example/actorium/actorium/DispatchedCell") (8 : Int32) [.null, .null, .null, .null, .null, .null, .null, .null] .null := f_17.other W_21 (Ne.symm nab)
  have f_26 : Fld Z h_21 a "com/example/actorium/actorium/Claimant$Sends" "top" "I" (.int (t + (1 : Int32))) := f_15.same W_21
  refine Done.pre st_21 ?_
  show Done _ _ _ _ _ _ _ (T_21.setTop (mkF m 52 #[Rv a, Nv] []))
  have sg_27 : ∀ tt_, Steps p.tables e below (T_21.setTop (mkF m 53 #[Rv a, Nv] [(.ref a)])) tt_ → Steps p.tables e below (T_21.setTop (mkF m 52 #[Rv a, Nv] [])) tt_ := by
    intro tt_ kt_
    refine XS.aloadN X_21.here hEX rfl (hb hBY d_prog_25_method_2_code_52) rfl rfl ?_
    exact kt_
  refine Done.pre sg_27 ?_
  obtain ⟨T_28, X_28, e_28, st_28⟩ := getF X_21 hEX hZW hOW (host := "") (Or.inl (hw _ (List.mem_of_getElem? (i := 23) rfl))) Via.refl e_21 f_26 (g := (mkF m 53 #[Rv a, Nv] [(.ref a)])) rfl rfl (hb hBY d_prog_25_method_2_code_53)
  refine Done.pre st_28 ?_
  show Done _ _ _ _ _ _ _ (T_28.setTop (mkF m 56 #[Rv a, Nv] [(.int (t + (1 : Int32)))]))
  have sg_29 : ∀ tt_, Steps p.tables e below (T_28.setTop (mkF m 58 #[Rv a, Nv] [(.int ((t + (1 : Int32)) - (1 : Int32)))])) tt_ → Steps p.tables e below (T_28.setTop (mkF m 56 #[Rv a, Nv] [(.int (t + (1 : Int32)))])) tt_ := by
    intro tt_ kt_
    refine XS.iconst X_28.here hEX rfl (hb hBY d_prog_25_method_2_code_56) ?_
    show Steps p.tables e below (T_28.setTop (mkF m 57 #[Rv a, Nv] [(.int (1 : Int32)), (.int (t + (1 : Int32)))])) tt_
    refine XS.isub X_28.here hEX rfl (hb hBY d_prog_25_method_2_code_57) rfl ?_
    exact kt_
  refine Done.pre sg_29 ?_
  exact Done.retI X_28 hEX hLK hRT (hb hBY d_prog_25_method_2_code_58) (by rw [e_28]; exact ⟨(by rw [Int32.add_sub_cancel]), N_21, K__22, f_23, f_26, f_24, f_25⟩) (by decide) (by decide)
theorem d_prog_25_method_4_code_0 : decode prog_25_method_4_code 0 = .ok (.aload_n 0, 1) := by decide +kernel
theorem d_prog_25_method_4_code_1 : decode prog_25_method_4_code 1 = .ok (.getfield 15, 3) := by decide +kernel
theorem d_prog_25_method_4_code_4 : decode prog_25_method_4_code 4 = .ok (.ireturn, 1) := by decide +kernel
def Qrm_depth (Z : State) (a : Addr) (t : Int32) (h0 : Heap) (n0 : Nat) (v_ : Option Value) (h_ : Heap) (L_ : List Loc) : Prop := v_ = some (.int t) ∧ Fr n0 L_ ∧ h_ = h0
theorem ef_rm_depth (m : MethodId) (x0 : Addr) : entryFrame m #[(.ref x0)] 1 = mkF m 0 #[.val (.ref x0)] [] := by first | (simp [entryFrame, mkF, argsToLocals, Value.category]; done) | rfl
set_option maxRecDepth 65536 in
set_option maxHeartbeats 40000000 in
theorem rm_depth (l : Launch) (Z : State) (aZ : Array Value) (hw : ∀ d ∈ tables_1, d.before aZ Z = true) (ws : List Jvm.Cond) (a : Addr) (t : Int32) (h0 : Heap) (n0 : Nat) (Z0 : n0 ≤ h0.size) (Ft : Fld Z h0 a "com/example/actorium/actorium/Claimant$Sends" "top" "I" (.int t)) :
    MetFree l (⟨"com/example/actorium/actorium/Claimant$Sends", "depth", "()I"⟩ : MethodName) (head1 (Jvm.Cond.code (⟨"com/example/actorium/actorium/Claimant$Sends", "depth", "()I"⟩ : MethodName) prog_25_method_4_code 1 (some .int) :: ws) ({ frames := 0, cells := 0, slots := 0, locals := 0 } : Room)) (fun a_ U_ => a_ = #[(.ref a)] ∧ Z.Warmed39 U_.vm ∧ U_.heap = h0) (fun _ _ _ _ _ => True) (fun _ U_ o_ U2_ => ∃ v_ L_, o_ = .returned v_ ∧ Qrm_depth Z a t h0 n0 v_ U2_.heap L_ ∧ FrameEnd U_ o_ U2_ L_ ({ frames := 0, cells := 0, slots := 0, locals := 0 } : Room).cells ({ frames := 0, cells := 0, slots := 0, locals := 0 } : Room).slots) := by
  refine MetFree.of_bodySF (plainFor_of_name pn_com_example_actorium_actorium_Claimant_Sends) hisR ?_
  intro p e s m args below meth cO s₁ Bd hml0 hP hK
  obtain ⟨rfl, hZW, hh⟩ := hP
  have hEX := Bd.exec
  have hBY := Bd.bytes
  have hMX : cO.maxLocals = 1 := hml0
  have hOW : s.vm.findClass "com/example/actorium/actorium/Claimant$Sends" = some m.cls := findClass_of_methodNamed Bd.named
  have hNM := (name_of_methodNamed Bd.named Bd.method).1
  have hLK := Bd.notSynchronized
  have hRT := Bd.returns
  have X0 : Stand p l e ({ frames := 0, cells := 0, slots := 0, locals := 0 } : Room) s m #[(.ref a)] below meth cO s₁ [] 0 0 := Stand.of_body Bd
  have e0 : s₁.heap = h0 := by rw [← hh, Bd.state]; rfl
  have N0 := Fr.nil n0
  have K0 : Keep h0 h0 [] := Keep.refl _ _
  show Done p e below s (Qrm_depth Z a t h0 n0) ({ frames := 0, cells := 0, slots := 0, locals := 0 } : Room).cells ({ frames := 0, cells := 0, slots := 0, locals := 0 } : Room).slots (s₁.setTop (entryFrame m #[(.ref a)] 1))
  refine Done.pre (fun t_ k_ => castTop (ef_rm_depth m a) k_) ?_
  show Done _ _ _ _ _ _ _ (s₁.setTop (mkF m 0 #[Rv a] []))
  have sg_1 : ∀ tt_, Steps p.tables e below (s₁.setTop (mkF m 1 #[Rv a] [(.ref a)])) tt_ → Steps p.tables e below (s₁.setTop (mkF m 0 #[Rv a] [])) tt_ := by
    intro tt_ kt_
    refine XS.aloadN X0.here hEX rfl (hb hBY d_prog_25_method_4_code_0) rfl rfl ?_
    exact kt_
  refine Done.pre sg_1 ?_
  obtain ⟨T_2, X_2, e_2, st_2⟩ := getF X0 hEX hZW hOW (host := "") (Or.inl (hw _ (List.mem_of_getElem? (i := 23) rfl))) Via.refl e0 Ft (g := (mkF m 1 #[Rv a] [(.ref a)])) rfl rfl (hb hBY d_prog_25_method_4_code_1)
  refine Done.pre st_2 ?_
  show Done _ _ _ _ _ _ _ (T_2.setTop (mkF m 4 #[Rv a] [(.int t)]))
  exact Done.retI X_2 hEX hLK hRT (hb hBY d_prog_25_method_4_code_4) (by rw [e_2]; exact ⟨rfl, N0, rfl⟩) (by decide) (by decide)
theorem d_method_2_code_0 : decode method_2_code 0 = .ok (.iload_n 0, 1) := by decide +kernel
theorem d_method_2_code_1 : decode method_2_code 1 = .ok (.iconst 1, 1) := by decide +kernel
theorem d_method_2_code_2 : decode method_2_code 2 = .ok (.iand, 1) := by decide +kernel
theorem d_method_2_code_3 : decode method_2_code 3 = .ok (.ifCond .ne 12, 3) := by decide +kernel
theorem d_method_2_code_6 : decode method_2_code 6 = .ok (.iload_n 0, 1) := by decide +kernel
theorem d_method_2_code_7 : decode method_2_code 7 = .ok (.iconst 1, 1) := by decide +kernel
theorem d_method_2_code_8 : decode method_2_code 8 = .ok (.iushr, 1) := by decide +kernel
theorem d_method_2_code_9 : decode method_2_code 9 = .ok (.bipush 7, 2) := by decide +kernel
theorem d_method_2_code_11 : decode method_2_code 11 = .ok (.iand, 1) := by decide +kernel
theorem d_method_2_code_12 : decode method_2_code 12 = .ok (.goto 6, 3) := by decide +kernel
theorem d_method_2_code_18 : decode method_2_code 18 = .ok (.ireturn, 1) := by decide +kernel
theorem d_method_2_code_15 : decode method_2_code 15 = .ok (.iload_n 0, 1) := by decide +kernel
theorem d_method_2_code_16 : decode method_2_code 16 = .ok (.iconst 1, 1) := by decide +kernel
theorem d_method_2_code_17 : decode method_2_code 17 = .ok (.iushr, 1) := by decide +kernel
def Qrm_draw (Z : State) (x : Int32) (h0 : Heap) (n0 : Nat) (v_ : Option Value) (h_ : Heap) (L_ : List Loc) : Prop := v_ = some (.int (own_draw x)) ∧ Fr n0 L_ ∧ h_ = h0
theorem ef_rm_draw (m : MethodId) (x0 : Int32) : entryFrame m #[(.int x0)] 1 = mkF m 0 #[.val (.int x0)] [] := by first | (simp [entryFrame, mkF, argsToLocals, Value.category]; done) | rfl
theorem pn_com_example_actorium_actorium_ClaimantNextLeftPinLaw : plainName "com/example/actorium/actorium/ClaimantNextLeftPinLaw" = true := by first | (simp [plainName, overriddenIn]; done) | decide +kernel
set_option maxRecDepth 65536 in
set_option maxHeartbeats 40000000 in
theorem rm_draw (l : Launch) (Z : State) (aZ : Array Value) (hw : ∀ d ∈ tables_1, d.before aZ Z = true) (ws : List Jvm.Cond) (x : Int32) (h0 : Heap) (n0 : Nat) (Z0 : n0 ≤ h0.size) :
    MetFree l (⟨"com/example/actorium/actorium/ClaimantNextLeftPinLaw", "drawFrom", "(I)I"⟩ : MethodName) (head1 (Jvm.Cond.code (⟨"com/example/actorium/actorium/ClaimantNextLeftPinLaw", "drawFrom", "(I)I"⟩ : MethodName) method_2_code 1 (some .int) :: ws) ({ frames := 0, cells := 0, slots := 0, locals := 0 } : Room)) (fun a_ U_ => a_ = #[(.int x)] ∧ Z.Warmed39 U_.vm ∧ U_.heap = h0) (fun _ _ _ _ _ => True) (fun _ U_ o_ U2_ => ∃ v_ L_, o_ = .returned v_ ∧ Qrm_draw Z x h0 n0 v_ U2_.heap L_ ∧ FrameEnd U_ o_ U2_ L_ ({ frames := 0, cells := 0, slots := 0, locals := 0 } : Room).cells ({ frames := 0, cells := 0, slots := 0, locals := 0 } : Room).slots) := by
  refine MetFree.of_bodySF (plainFor_of_name pn_com_example_actorium_actorium_ClaimantNextLeftPinLaw) hisR ?_
  intro p e s m args below meth cO s₁ Bd hml0 hP hK
  obtain ⟨rfl, hZW, hh⟩ := hP
  have hEX := Bd.exec
  have hBY := Bd.bytes
  have hMX : cO.maxLocals = 1 := hml0
  have hOW : s.vm.findClass "com/example/actorium/actorium/ClaimantNextLeftPinLaw" = some m.cls := findClass_of_methodNamed Bd.named
  have hNM := (name_of_methodNamed Bd.named Bd.method).1
  have hLK := Bd.notSynchronized
  have hRT := Bd.returns
  have X0 : Stand p l e ({ frames := 0, cells := 0, slots := 0, locals := 0 } : Room) s m #[(.int x)] below meth cO s₁ [] 0 0 := Stand.of_body Bd
  have e0 : s₁.heap = h0 := by rw [← hh, Bd.state]; rfl
  have N0 := Fr.nil n0
  have K0 : Keep h0 h0 [] := Keep.refl _ _
  show Done p e below s (Qrm_draw Z x h0 n0) ({ frames := 0, cells := 0, slots := 0, locals := 0 } : Room).cells ({ frames := 0, cells := 0, slots := 0, locals := 0 } : Room).slots (s₁.setTop (entryFrame m #[(.int x)] 1))
  refine Done.pre (fun t_ k_ => castTop (ef_rm_draw m x) k_) ?_
  show Done _ _ _ _ _ _ _ (s₁.setTop (mkF m 0 #[Iv x] []))
  have sg_1 : ∀ tt_, Steps p.tables e below (s₁.setTop (mkF m 3 #[Iv x] [(.int (x &&& (1 : Int32)))])) tt_ → Steps p.tables e below (s₁.setTop (mkF m 0 #[Iv x] [])) tt_ := by
    intro tt_ kt_
    refine XS.iloadN X0.here hEX rfl (hb hBY d_method_2_code_0) rfl ?_
    show Steps p.tables e below (s₁.setTop (mkF m 1 #[Iv x] [(.int x)])) tt_
    refine XS.iconst X0.here hEX rfl (hb hBY d_method_2_code_1) ?_
    show Steps p.tables e below (s₁.setTop (mkF m 2 #[Iv x] [(.int (1 : Int32)), (.int x)])) tt_
    refine XS.iand X0.here hEX rfl (hb hBY d_method_2_code_2) rfl ?_
    exact kt_
  refine Done.pre sg_1 ?_
  by_cases hc3 : (x &&& (1 : Int32)) = (0 : Int32)
  · skip
    have sg_2 : ∀ tt_, Steps p.tables e below (s₁.setTop (mkF m 18 #[Iv x] [(.int (((x.toUInt32 >>> ((1 : Int32) &&& 31).toUInt32).toInt32) &&& (7 : Int32)))])) tt_ → Steps p.tables e below (s₁.setTop (mkF m 3 #[Iv x] [(.int (x &&& (1 : Int32)))])) tt_ := by
      intro tt_ kt_
      refine XS.ifNo X0.here hEX rfl (hb hBY d_method_2_code_3) rfl ((if0 _ _).trans (teq hc3).2) ?_
      show Steps p.tables e below (s₁.setTop (mkF m 6 #[Iv x] [])) tt_
      refine XS.iloadN X0.here hEX rfl (hb hBY d_method_2_code_6) rfl ?_
      show Steps p.tables e below (s₁.setTop (mkF m 7 #[Iv x] [(.int x)])) tt_
      refine XS.iconst X0.here hEX rfl (hb hBY d_method_2_code_7) ?_
      show Steps p.tables e below (s₁.setTop (mkF m 8 #[Iv x] [(.int (1 : Int32)), (.int x)])) tt_
      refine XS.iushr X0.here hEX rfl (hb hBY d_method_2_code_8) rfl ?_
      show Steps p.tables e below (s₁.setTop (mkF m 9 #[Iv x] [(.int ((x.toUInt32 >>> ((1 : Int32) &&& 31).toUInt32).toInt32))])) tt_
      refine XS.bipush X0.here hEX rfl (hb hBY d_method_2_code_9) ?_
      show Steps p.tables e below (s₁.setTop (mkF m 11 #[Iv x] [(.int (7 : Int32)), (.int ((x.toUInt32 >>> ((1 : Int32) &&& 31).toUInt32).toInt32))])) tt_
      refine XS.iand X0.here hEX rfl (hb hBY d_method_2_code_11) rfl ?_
      show Steps p.tables e below (s₁.setTop (mkF m 12 #[Iv x] [(.int (((x.toUInt32 >>> ((1 : Int32) &&& 31).toUInt32).toInt32) &&& (7 : Int32)))])) tt_
      refine XS.goto X0.here hEX rfl (pc0 := 12) (pc' := 18) rfl (hb hBY d_method_2_code_12) (by decide) (by decide) ?_
      exact kt_
    refine Done.pre sg_2 ?_
    exact Done.retI X0 hEX hLK hRT (hb hBY d_method_2_code_18) (by rw [e0]; exact ⟨(by rw [own_draw, if_pos hc3]), N0, rfl⟩) (by decide) (by decide)
  · skip
    have sg_3 : ∀ tt_, Steps p.tables e below (s₁.setTop (mkF m 18 #[Iv x] [(.int ((x.toUInt32 >>> ((1 : Int32) &&& 31).toUInt32).toInt32))])) tt_ → Steps p.tables e below (s₁.setTop (mkF m 3 #[Iv x] [(.int (x &&& (1 : Int32)))])) tt_ := by
      intro tt_ kt_
      refine XS.ifYes X0.here hEX rfl (pc0 := 3) (pc' := 15) rfl (hb hBY d_method_2_code_3) rfl ((if0 _ _).trans (feq hc3).2) (by decide) (by decide) ?_
      show Steps p.tables e below (s₁.setTop (mkF m 15 #[Iv x] [])) tt_
      refine XS.iloadN X0.here hEX rfl (hb hBY d_method_2_code_15) rfl ?_
      show Steps p.tables e below (s₁.setTop (mkF m 16 #[Iv x] [(.int x)])) tt_
      refine XS.iconst X0.here hEX rfl (hb hBY d_method_2_code_16) ?_
      show Steps p.tables e below (s₁.setTop (mkF m 17 #[Iv x] [(.int (1 : Int32)), (.int x)])) tt_
      refine XS.iushr X0.here hEX rfl (hb hBY d_method_2_code_17) rfl ?_
      exact kt_
    refine Done.pre sg_3 ?_
    exact Done.retI X0 hEX hLK hRT (hb hBY d_method_2_code_18) (by rw [e0]; exact ⟨(by rw [own_draw, if_neg hc3]), N0, rfl⟩) (by decide) (by decide)
theorem d_prog_25_method_5_code_0 : decode prog_25_method_5_code 0 = .ok (.aload_n 0, 1) := by decide +kernel
theorem d_prog_25_method_5_code_1 : decode prog_25_method_5_code 1 = .ok (.getfield 15, 3) := by decide +kernel
theorem d_prog_25_method_5_code_4 : decode prog_25_method_5_code 4 = .ok (.iload_n 1, 1) := by decide +kernel
theorem d_prog_25_method_5_code_5 : decode prog_25_method_5_code 5 = .ok (.if_icmp .le 42, 3) := by decide +kernel
theorem d_prog_25_method_5_code_8 : decode prog_25_method_5_code 8 = .ok (.aload_n 0, 1) := by decide +kernel
theorem d_prog_25_method_5_code_9 : decode prog_25_method_5_code 9 = .ok (.dup, 1) := by decide +kernel
theorem d_prog_25_method_5_code_10 : decode prog_25_method_5_code 10 = .ok (.getfield 15, 3) := by decide +kernel
theorem d_prog_25_method_5_code_13 : decode prog_25_method_5_code 13 = .ok (.iconst 1, 1) := by decide +kernel
theorem d_prog_25_method_5_code_14 : decode prog_25_method_5_code 14 = .ok (.isub, 1) := by decide +kernel
theorem d_prog_25_method_5_code_15 : decode prog_25_method_5_code 15 = .ok (.putfield 15, 3) := by decide +kernel
theorem d_prog_25_method_5_code_18 : decode prog_25_method_5_code 18 = .ok (.aload_n 0, 1) := by decide +kernel
theorem d_prog_25_method_5_code_19 : decode prog_25_method_5_code 19 = .ok (.getfield 9, 3) := by decide +kernel
theorem d_prog_25_method_5_code_22 : decode prog_25_method_5_code 22 = .ok (.aload_n 0, 1) := by decide +kernel
theorem d_prog_25_method_5_code_23 : decode prog_25_method_5_code 23 = .ok (.getfield 15, 3) := by decide +kernel
theorem d_prog_25_method_5_code_26 : decode prog_25_method_5_code 26 = .ok (.aaload, 1) := by decide +kernel
theorem d_prog_25_method_5_code_27 : decode prog_25_method_5_code 27 = .ok (.astore_n 2, 1) := by decide +kernel
theorem d_prog_25_method_5_code_28 : decode prog_25_method_5_code 28 = .ok (.aload_n 0, 1) := by decide +kernel
theorem d_prog_25_method_5_code_29 : decode prog_25_method_5_code 29 = .ok (.getfield 9, 3) := by decide +kernel
theorem d_prog_25_method_5_code_32 : decode prog_25_method_5_code 32 = .ok (.aload_n 0, 1) := by decide +kernel
theorem d_prog_25_method_5_code_33 : decode prog_25_method_5_code 33 = .ok (.getfield 15, 3) := by decide +kernel
theorem d_prog_25_method_5_code_36 : decode prog_25_method_5_code 36 = .ok (.aconst_null, 1) := by decide +kernel
theorem d_prog_25_method_5_code_37 : decode prog_25_method_5_code 37 = .ok (.aastore, 1) := by decide +kernel
theorem d_prog_25_method_5_code_38 : decode prog_25_method_5_code 38 = .ok (.aload_n 2, 1) := by decide +kernel
theorem d_prog_25_method_5_code_39 : decode prog_25_method_5_code 39 = .ok (.ifnull 5, 3) := by decide +kernel
theorem d_prog_25_method_5_code_44 : decode prog_25_method_5_code 44 = .ok (.goto (-44), 3) := by decide +kernel
theorem d_prog_25_method_5_code_47 : decode prog_25_method_5_code 47 = .ok (.aconst_null, 1) := by decide +kernel
theorem d_prog_25_method_5_code_48 : decode prog_25_method_5_code 48 = .ok (.areturn, 1) := by decide +kernel
def Qrm_next (Z : State) (a : Addr) (fr : Int32) (t : Int32) (b : Addr) (k : ClassId) (h0 : Heap) (n0 : Nat) (v_ : Option Value) (h_ : Heap) (L_ : List Loc) : Prop := v_ = some .null ∧ Fr n0 L_ ∧ Keep h0 h_ [a, b] ∧ Exa Z h_ a "com/example/actorium/actorium/Claimant$Sends" ∧ Fld Z h_ a "com/example/actorium/actorium/Claimant$Sends" "top" "I" (.int (own_mn t fr)) ∧ Fld Z h_ a "com/example/actorium/actorium/Claimant$Sends" "cells" "[Lcom/example/actorium/actorium/DispatchedCell;" (.ref b) ∧ Arv Z h_ b k (.object "com/example/actorium/actorium/DispatchedCell") (8 : Int32) [.null, .null, .null, .null, .null, .null, .null, .null] .null
theorem ef_rm_next (m : MethodId) (x0 : Addr) (x1 : Int32) : entryFrame m #[(.ref x0), (.int x1)] 3 = mkF m 0 #[.val (.ref x0), .val (.int x1), .unset] [] := by first | (simp [entryFrame, mkF, argsToLocals, Value.category]; done) | rfl
set_option maxRecDepth 65536 in
set_option maxHeartbeats 40000000 in
theorem rm_next (l : Launch) (Z : State) (aZ : Array Value) (hw : ∀ d ∈ tables_1, d.before aZ Z = true) (ws : List Jvm.Cond) (a : Addr) (fr : Int32) (t : Int32) (b : Addr) (k : ClassId) (h0 : Heap) (n0 : Nat) (Z0 : n0 ≤ h0.size) (Ex : Exa Z h0 a "com/example/actorium/actorium/Claimant$Sends") (Ft : Fld Z h0 a "com/example/actorium/actorium/Claimant$Sends" "top" "I" (.int t)) (Fc : Fld Z h0 a "com/example/actorium/actorium/Claimant$Sends" "cells" "[Lcom/example/actorium/actorium/DispatchedCell;" (.ref b)) (Av : Arv Z h0 b k (.object "com/example/actorium/actorium/DispatchedCell") (8 : Int32) [.null, .null, .null, .null, .null, .null, .null, .null] .null) (ga : n0 ≤ a) (gb : n0 ≤ b) (nab : a ≠ b) (ht : 0 ≤ t.toInt ∧ t.toInt ≤ 8) (hfr : 0 ≤ fr.toInt) :
    MetFree l (⟨"com/example/actorium/actorium/Claimant$Sends", "nextLeft", "(I)Lcom/example/actorium/actorium/DispatchedCell;"⟩ : MethodName) (head1 (Jvm.Cond.code (⟨"com/example/actorium/actorium/Claimant$Sends", "nextLeft", "(I)Lcom/example/actorium/actorium/DispatchedCell;"⟩ : MethodName) prog_25_method_5_code 3 (some (.object "com/example/actorium/actorium/DispatchedCell")) :: ws) ({ frames := 0, cells := 0, slots := 0, locals := 0 } : Room)) (fun a_ U_ => a_ = #[(.ref a), (.int fr)] ∧ Z.Warmed39 U_.vm ∧ U_.heap = h0) (fun _ _ _ _ _ => True) (fun _ U_ o_ U2_ => ∃ v_ L_, o_ = .returned v_ ∧ Qrm_next Z a fr t b k h0 n0 v_ U2_.heap L_ ∧ FrameEnd U_ o_ U2_ L_ ({ frames := 0, cells := 0, slots := 0, locals := 0 } : Room).cells ({ frames := 0, cells := 0, slots := 0, locals := 0 } : Room).slots) := by
  refine MetFree.of_bodySF (plainFor_of_name pn_com_example_actorium_actorium_Claimant_Sends) hisR ?_
  intro p e s m args below meth cO s₁ Bd hml0 hP hK
  obtain ⟨rfl, hZW, hh⟩ := hP
  have hEX := Bd.exec
  have hBY := Bd.bytes
  have hMX : cO.maxLocals = 3 := hml0
  have hOW : s.vm.findClass "com/example/actorium/actorium/Claimant$Sends" = some m.cls := findClass_of_methodNamed Bd.named
  have hNM := (name_of_methodNamed Bd.named Bd.method).1
  have hLK := Bd.notSynchronized
  have hRT := Bd.returns
  have X0 : Stand p l e ({ frames := 0, cells := 0, slots := 0, locals := 0 } : Room) s m #[(.ref a), (.int fr)] below meth cO s₁ [] 0 0 := Stand.of_body Bd
  have e0 : s₁.heap = h0 := by rw [← hh, Bd.state]; rfl
  have N0 := Fr.nil n0
  have K0 : Keep h0 h0 [a, b] := Keep.refl _ _
  show Done p e below s (Qrm_next Z a fr t b k h0 n0) ({ frames := 0, cells := 0, slots := 0, locals := 0 } : Room).cells ({ frames := 0, cells := 0, slots := 0, locals := 0 } : Room).slots (s₁.setTop (entryFrame m #[(.ref a), (.int fr)] 3))
  refine Done.pre (fun t_ k_ => castTop (ef_rm_next m a fr) k_) ?_
  show Done _ _ _ _ _ _ _ (s₁.setTop (mkF m 0 #[Rv a, Iv fr, Us] []))
  have sg_1 : ∀ tt_, Steps p.tables e below (s₁.setTop (mkF m 1 #[Rv a, Iv fr, Us] [(.ref a)])) tt_ → Steps p.tables e below (s₁.setTop (mkF m 0 #[Rv a, Iv fr, Us] [])) tt_ := by
    intro tt_ kt_
    refine XS.aloadN X0.here hEX rfl (hb hBY d_prog_25_method_5_code_0) rfl rfl ?_
    exact kt_
  refine Done.pre sg_1 ?_
  obtain ⟨T_2, X_2, e_2, st_2⟩ := getF X0 hEX hZW hOW (host := "") (Or.inl (hw _ (List.mem_of_getElem? (i := 23) rfl))) Via.refl e0 Ft (g := (mkF m 1 #[Rv a, Iv fr, Us] [(.ref a)])) rfl rfl (hb hBY d_prog_25_method_5_code_1)
  refine Done.pre st_2 ?_
  show Done _ _ _ _ _ _ _ (T_2.setTop (mkF m 4 #[Rv a, Iv fr, Us] [(.int t)]))
  have sg_3 : ∀ tt_, Steps p.tables e below (T_2.setTop (mkF m 5 #[Rv a, Iv fr, Us] [(.int fr), (.int t)])) tt_ → Steps p.tables e below (T_2.setTop (mkF m 4 #[Rv a, Iv fr, Us] [(.int t)])) tt_ := by
    intro tt_ kt_
    refine XS.iloadN X_2.here hEX rfl (hb hBY d_prog_25_method_5_code_4) rfl ?_
    exact kt_
  refine Done.pre sg_3 ?_
  by_cases hc5 : fr < t
  · skip
    have sg_4 : ∀ tt_, Steps p.tables e below (T_2.setTop (mkF m 10 #[Rv a, Iv fr, Us] [(.ref a), (.ref a)])) tt_ → Steps p.tables e below (T_2.setTop (mkF m 5 #[Rv a, Iv fr, Us] [(.int fr), (.int t)])) tt_ := by
      intro tt_ kt_
      refine XS.icmpNo X_2.here hEX rfl (hb hBY d_prog_25_method_5_code_5) rfl (tlt hc5).2.2.2 ?_
      show Steps p.tables e below (T_2.setTop (mkF m 8 #[Rv a, Iv fr, Us] [])) tt_
      refine XS.aloadN X_2.here hEX rfl (hb hBY d_prog_25_method_5_code_8) rfl rfl ?_
      show Steps p.tables e below (T_2.setTop (mkF m 9 #[Rv a, Iv fr, Us] [(.ref a)])) tt_
      refine XS.dup X_2.here hEX rfl (hb hBY d_prog_25_method_5_code_9) rfl rfl ?_
      exact kt_
    refine Done.pre sg_4 ?_
    obtain ⟨T_5, X_5, e_5, st_5⟩ := getF X_2 hEX hZW hOW (host := "") (Or.inl (hw _ (List.mem_of_getElem? (i := 23) rfl))) Via.refl e_2 Ft (g := (mkF m 10 #[Rv a, Iv fr, Us] [(.ref a), (.ref a)])) rfl rfl (hb hBY d_prog_25_method_5_code_10)
    refine Done.pre st_5 ?_
    show Done _ _ _ _ _ _ _ (T_5.setTop (mkF m 13 #[Rv a, Iv fr, Us] [(.int t), (.ref a)]))
    have sg_6 : ∀ tt_, Steps p.tables e below (T_5.setTop (mkF m 15 #[Rv a, Iv fr, Us] [(.int (t - (1 : Int32))), (.ref a)])) tt_ → Steps p.tables e below (T_5.setTop (mkF m 13 #[Rv a, Iv fr, Us] [(.int t), (.ref a)])) tt_ := by
      intro tt_ kt_
      refine XS.iconst X_5.here hEX rfl (hb hBY d_prog_25_method_5_code_13) ?_
      show Steps p.tables e below (T_5.setTop (mkF m 14 #[Rv a, Iv fr, Us] [(.int (1 : Int32)), (.int t), (.ref a)])) tt_
      refine XS.isub X_5.here hEX rfl (hb hBY d_prog_25_method_5_code_14) rfl ?_
      exact kt_
    refine Done.pre sg_6 ?_
    obtain ⟨T_7, h_7, X_7, e_7, W_7, st_7⟩ := putF X_5 hEX hZW hOW (host := "") (Or.inl (hw _ (List.mem_of_getElem? (i := 23) rfl))) Via.refl e_5 Ft Ex (Or.inl (hw _ (List.mem_of_getElem? (i := 24) rfl))) (hw _ (List.mem_of_getElem? (i := 1) rfl)) (ty := .int) (by decide) rfl rfl (g := (mkF m 15 #[Rv a, Iv fr, Us] [(.int (t - (1 : Int32))), (.ref a)])) rfl rfl (hb hBY d_prog_25_method_5_code_15)
    have N_7 := Fr.snoc X_7 N0 ga
    have K__8 : Keep h0 h_7 [a, b] := K0.wr W_7 (Or.inl (List.mem_of_getElem? (i := 0) rfl))
    have f_9 : Exa Z h_7 a "com/example/actorium/actorium/Claimant$Sends" := Ex.wr W_7
    have f_10 : Fld Z h_7 a "com/example/actorium/actorium/Claimant$Sends" "cells" "[Lcom/example/actorium/actorium/DispatchedCell;" (.ref b) := Fc.other W_7 (Or.inr (slot_ne (Or.inl (hw _ (List.mem_of_getElem? (i := 12) rfl))) (Or.inl (hw _ (List.mem_of_getElem? (i := 24) rfl))) (by decide) (t := (.array (.object "com/example/actorium/actorium/DispatchedCell"))) (t' := .int) (by decide) (by decide)))
    have f_11 : Arv Z h_7 b k (.object "com/example/actorium/actorium/DispatchedCell") (8 : Int32) [.null, .null, .null, .null, .null, .null, .null, .null] .null := Av.other W_7 (Ne.symm nab)
    have f_12 : Fld Z h_7 a "com/example/actorium/actorium/Claimant$Sends" "top" "I" (.int (t - (1 : Int32))) := Ft.same W_7
    refine Done.pre st_7 ?_
    show Done _ _ _ _ _ _ _ (T_7.setTop (mkF m 18 #[Rv a, Iv fr, Us] []))
    have sg_13 : ∀ tt_, Steps p.tables e below (T_7.setTop (mkF m 19 #[Rv a, Iv fr, Us] [(.ref a)])) tt_ → Steps p.tables e below (T_7.setTop (mkF m 18 #[Rv a, Iv fr, Us] [])) tt_ := by
      intro tt_ kt_
      refine XS.aloadN X_7.here hEX rfl (hb hBY d_prog_25_method_5_code_18) rfl rfl ?_
      exact kt_
    refine Done.pre sg_13 ?_
    obtain ⟨T_14, X_14, e_14, st_14⟩ := getF X_7 hEX hZW hOW (host := "") (Or.inl (hw _ (List.mem_of_getElem? (i := 11) rfl))) Via.refl e_7 f_10 (g := (mkF m 19 #[Rv a, Iv fr, Us] [(.ref a)])) rfl rfl (hb hBY d_prog_25_method_5_code_19)
    refine Done.pre st_14 ?_
    show Done _ _ _ _ _ _ _ (T_14.setTop (mkF m 22 #[Rv a, Iv fr, Us] [(.ref b)]))
    have sg_15 : ∀ tt_, Steps p.tables e below (T_14.setTop (mkF m 23 #[Rv a, Iv fr, Us] [(.ref a), (.ref b)])) tt_ → Steps p.tables e below (T_14.setTop (mkF m 22 #[Rv a, Iv fr, Us] [(.ref b)])) tt_ := by
      intro tt_ kt_
      refine XS.aloadN X_14.here hEX rfl (hb hBY d_prog_25_method_5_code_22) rfl rfl ?_
      exact kt_
    refine Done.pre sg_15 ?_
    obtain ⟨T_16, X_16, e_16, st_16⟩ := getF X_14 hEX hZW hOW (host := "") (Or.inl (hw _ (List.mem_of_getElem? (i := 23) rfl))) Via.refl e_14 f_12 (g := (mkF m 23 #[Rv a, Iv fr, Us] [(.ref a), (.ref b)])) rfl rfl (hb hBY d_prog_25_method_5_code_23)
    refine Done.pre st_16 ?_
    show Done _ _ _ _ _ _ _ (T_16.setTop (mkF m 26 #[Rv a, Iv fr, Us] [(.int (t - (1 : Int32))), (.ref b)]))
    obtain ⟨cl_17, Ar_17, q_17, S_17, N__17, H_17, G_17⟩ := id f_11
    have hin_17 : ¬ ((t - (1 : Int32)) < 0 ∨ cl_17.slots.size ≤ ((t - (1 : Int32))).toNatClampNeg) := inb_of S_17 (own_in _ (by first | exact own_ixr tp fr hp.1 hfr (by assumption) | exact own_ixr t fr ht hfr (by assumption)))
    have hat_17 : cl_17.slots[((t - (1 : Int32))).toNatClampNeg]? = some .null := H_17.at hin_17 (own_nullget _)
    have sg_18 : ∀ tt_, Steps p.tables e below (T_16.setTop (mkF m 29 #[Rv a, Iv fr, Nv] [(.ref a)])) tt_ → Steps p.tables e below (T_16.setTop (mkF m 26 #[Rv a, Iv fr, Us] [(.int (t - (1 : Int32))), (.ref b)])) tt_ := by
      intro tt_ kt_
      refine X_16.aaload hEX (j := (t - (1 : Int32))) (v := .null) (by rw [e_16]; exact Ar_17.1) (State.isArrayOf_alike hZW.alike Ar_17.2.1) rfl Ar_17.2.2 hin_17 hat_17 (g := (mkF m 26 #[Rv a, Iv fr, Us] [(.int (t - (1 : Int32))), (.ref b)])) rfl rfl (hb hBY d_prog_25_method_5_code_26) _ ?_
      show Steps p.tables e below (T_16.setTop (mkF m 27 #[Rv a, Iv fr, Us] [.null])) tt_
      refine XS.astoreN X_16.here hEX rfl (hb hBY d_prog_25_method_5_code_27) rfl rfl (l' := #[Rv a, Iv fr, Nv]) rfl ?_
      show Steps p.tables e below (T_16.setTop (mkF m 28 #[Rv a, Iv fr, Nv] [])) tt_
      refine XS.aloadN X_16.here hEX rfl (hb hBY d_prog_25_method_5_code_28) rfl rfl ?_
      exact kt_
    refine Done.pre sg_18 ?_
    obtain ⟨T_19, X_19, e_19, st_19⟩ := getF X_16 hEX hZW hOW (host := "") (Or.inl (hw _ (List.mem_of_getElem? (i := 11) rfl))) Via.refl e_16 f_10 (g := (mkF m 29 #[Rv a, Iv fr, Nv] [(.ref a)])) rfl rfl (hb hBY d_prog_25_method_5_code_29)
    refine Done.pre st_19 ?_
    show Done _ _ _ _ _ _ _ (T_19.setTop (mkF m 32 #[Rv a, Iv fr, Nv] [(.ref b)]))
    have sg_20 : ∀ tt_, Steps p.tables e below (T_19.setTop (mkF m 33 #[Rv a, Iv fr, Nv] [(.ref a), (.ref b)])) tt_ → Steps p.tables e below (T_19.setTop (mkF m 32 #[Rv a, Iv fr, Nv] [(.ref b)])) tt_ := by
      intro tt_ kt_
      refine XS.aloadN X_19.here hEX rfl (hb hBY d_prog_25_method_5_code_32) rfl rfl ?_
      exact kt_
    refine Done.pre sg_20 ?_
    obtain ⟨T_21, X_21, e_21, st_21⟩ := getF X_19 hEX hZW hOW (host := "") (Or.inl (hw _ (List.mem_of_getElem? (i := 23) rfl))) Via.refl e_19 f_12 (g := (mkF m 33 #[Rv a, Iv fr, Nv] [(.ref a), (.ref b)])) rfl rfl (hb hBY d_prog_25_method_5_code_33)
    refine Done.pre st_21 ?_
    show Done _ _ _ _ _ _ _ (T_21.setTop (mkF m 36 #[Rv a, Iv fr, Nv] [(.int (t - (1 : Int32))), (.ref b)]))
    have sg_23 : ∀ tt_, Steps p.tables e below (T_21.setTop (mkF m 37 #[Rv a, Iv fr, Nv] [.null, (.int (t - (1 : Int32))), (.ref b)])) tt_ → Steps p.tables e below (T_21.setTop (mkF m 36 #[Rv a, Iv fr, Nv] [(.int (t - (1 : Int32))), (.ref b)])) tt_ := by
      intro tt_ kt_
      refine XS.aconstNull X_21.here hEX rfl (hb hBY d_prog_25_method_5_code_36) ?_
      exact kt_
    refine Done.pre sg_23 ?_
    obtain ⟨cl_22, Ar_22, q_22, S_22, N__22, H_22, G_22⟩ := id f_11
    have hin_22 : ¬ ((t - (1 : Int32)) < 0 ∨ cl_22.slots.size ≤ ((t - (1 : Int32))).toNatClampNeg) := inb_of S_22 (own_in _ (by first | exact own_ixr tp fr hp.1 hfr (by assumption) | exact own_ixr t fr ht hfr (by assumption)))
    obtain ⟨T_24, h_24, X_24, e_24, W_24, st_24⟩ := stR X_21 hEX hZW e_21 Ar_22 (j := (t - (1 : Int32))) hin_22 rfl (Or.inl rfl) (g := (mkF m 37 #[Rv a, Iv fr, Nv] [.null, (.int (t - (1 : Int32))), (.ref b)])) rfl rfl (hb hBY d_prog_25_method_5_code_37)
    have N_24 := Fr.snoc X_24 N_7 gb
    have K__25 : Keep h0 h_24 [a, b] := K__8.wr W_24 (Or.inl (List.mem_of_getElem? (i := 1) rfl))
    have f_26 : Exa Z h_24 a "com/example/actorium/actorium/Claimant$Sends" := f_9.wr W_24
    have f_27 : Fld Z h_24 a "com/example/actorium/actorium/Claimant$Sends" "cells" "[Lcom/example/actorium/actorium/DispatchedCell;" (.ref b) := f_10.other W_24 (Or.inl nab)
    have f_28 : Fld Z h_24 a "com/example/actorium/actorium/Claimant$Sends" "top" "I" (.int (t - (1 : Int32))) := f_12.other W_24 (Or.inl nab)
    have f_29 : Arv Z h_24 b k (.object "com/example/actorium/actorium/DispatchedCell") (8 : Int32) [.null, .null, .null, .null, .null, .null, .null, .null] .null := own_cast (own_nulls _) (Arv.set Ar_22 q_22 S_22 N__22 H_22 G_22 rfl W_24 (((t - (1 : Int32))).toNatClampNeg) rfl (own_in8 _ (by first | exact own_ixr tp fr hp.1 hfr (by assumption) | exact own_ixr t fr ht hfr (by assumption))))
    refine Done.pre st_24 ?_
    show Done _ _ _ _ _ _ _ (T_24.setTop (mkF m 38 #[Rv a, Iv fr, Nv] []))
    have sg_30 : ∀ tt_, Steps p.tables e below (T_24.setTop (mkF m 44 #[Rv a, Iv fr, Nv] [])) tt_ → Steps p.tables e below (T_24.setTop (mkF m 38 #[Rv a, Iv fr, Nv] [])) tt_ := by
      intro tt_ kt_
      refine XS.aloadN X_24.here hEX rfl (hb hBY d_prog_25_method_5_code_38) rfl rfl ?_
      show Steps p.tables e below (T_24.setTop (mkF m 39 #[Rv a, Iv fr, Nv] [.null])) tt_
      refine XS.ifnullYes X_24.here hEX rfl (pc0 := 39) (pc' := 44) rfl (hb hBY d_prog_25_method_5_code_39) rfl (by decide) (by decide) ?_
      exact kt_
    refine Done.pre sg_30 ?_
    have jn_31 : ∀ (kk : Nat) (T_32 : State) (h_33 : Heap) (L_34 : List Loc) (X_35 : Stand p l e ({ frames := 0, cells := 0, slots := 0, locals := 0 } : Room) s m #[(.ref a), (.int fr)] below meth cO T_32 L_34 0 0) (e_36 : T_32.heap = h_33) (N_37 : Fr n0 L_34) (K__38 : Keep h0 h_33 [a, b]) (tp : Int32) (f_39 : Exa Z h_33 a "com/example/actorium/actorium/Claimant$Sends") (f_40 : Fld Z h_33 a "com/example/actorium/actorium/Claimant$Sends" "cells" "[Lcom/example/actorium/actorium/DispatchedCell;" (.ref b)) (f_41 : Fld Z h_33 a "com/example/actorium/actorium/Claimant$Sends" "top" "I" (.int tp)) (f_42 : Arv Z h_33 b k (.object "com/example/actorium/actorium/DispatchedCell") (8 : Int32) [.null, .null, .null, .null, .null, .null, .null, .null] .null) (hp : (0 ≤ tp.toInt ∧ tp.toInt ≤ 8) ∧ own_mn tp fr = own_mn t fr) (hkk : tp.toInt.toNat = kk), Done p e below s (Qrm_next Z a fr t b k h0 n0) ({ frames := 0, cells := 0, slots := 0, locals := 0 } : Room).cells ({ frames := 0, cells := 0, slots := 0, locals := 0 } : Room).slots (T_32.setTop (mkF m 0 #[Rv a, Iv fr, Nv] [])) := by
      intro kk
      induction kk using Nat.strongRecOn with
      | ind kk ih =>
        intro T_32 h_33 L_34 X_35 e_36 N_37 K__38 tp f_39 f_40 f_41 f_42 hp hkk
        show Done _ _ _ _ _ _ _ (T_32.setTop (mkF m 0 #[Rv a, Iv fr, Nv] []))
        have sg_43 : ∀ tt_, Steps p.tables e below (T_32.setTop (mkF m 1 #[Rv a, Iv fr, Nv] [(.ref a)])) tt_ → Steps p.tables e below (T_32.setTop (mkF m 0 #[Rv a, Iv fr, Nv] [])) tt_ := by
          intro tt_ kt_
          refine XS.aloadN X_35.here hEX rfl (hb hBY d_prog_25_method_5_code_0) rfl rfl ?_
          exact kt_
        refine Done.pre sg_43 ?_
        obtain ⟨T_44, X_44, e_44, st_44⟩ := getF X_35 hEX hZW hOW (host := "") (Or.inl (hw _ (List.mem_of_getElem? (i := 23) rfl))) Via.refl e_36 f_41 (g := (mkF m 1 #[Rv a, Iv fr, Nv] [(.ref a)])) rfl rfl (hb hBY d_prog_25_method_5_code_1)
        refine Done.pre st_44 ?_
        show Done _ _ _ _ _ _ _ (T_44.setTop (mkF m 4 #[Rv a, Iv fr, Nv] [(.int tp)]))
        have sg_46 : ∀ tt_, Steps p.tables e below (T_44.setTop (mkF m 5 #[Rv a, Iv fr, Nv] [(.int fr), (.int tp)])) tt_ → Steps p.tables e below (T_44.setTop (mkF m 4 #[Rv a, Iv fr, Nv] [(.int tp)])) tt_ := by
          intro tt_ kt_
          refine XS.iloadN X_44.here hEX rfl (hb hBY d_prog_25_method_5_code_4) rfl ?_
          exact kt_
        refine Done.pre sg_46 ?_
        by_cases hc5__45 : fr < tp
        · skip
          have sg_47 : ∀ tt_, Steps p.tables e below (T_44.setTop (mkF m 10 #[Rv a, Iv fr, Nv] [(.ref a), (.ref a)])) tt_ → Steps p.tables e below (T_44.setTop (mkF m 5 #[Rv a, Iv fr, Nv] [(.int fr), (.int tp)])) tt_ := by
            intro tt_ kt_
            refine XS.icmpNo X_44.here hEX rfl (hb hBY d_prog_25_method_5_code_5) rfl (tlt hc5__45).2.2.2 ?_
            show Steps p.tables e below (T_44.setTop (mkF m 8 #[Rv a, Iv fr, Nv] [])) tt_
            refine XS.aloadN X_44.here hEX rfl (hb hBY d_prog_25_method_5_code_8) rfl rfl ?_
            show Steps p.tables e below (T_44.setTop (mkF m 9 #[Rv a, Iv fr, Nv] [(.ref a)])) tt_
            refine XS.dup X_44.here hEX rfl (hb hBY d_prog_25_method_5_code_9) rfl rfl ?_
            exact kt_
          refine Done.pre sg_47 ?_
          obtain ⟨T_48, X_48, e_48, st_48⟩ := getF X_44 hEX hZW hOW (host := "") (Or.inl (hw _ (List.mem_of_getElem? (i := 23) rfl))) Via.refl e_44 f_41 (g := (mkF m 10 #[Rv a, Iv fr, Nv] [(.ref a), (.ref a)])) rfl rfl (hb hBY d_prog_25_method_5_code_10)
          refine Done.pre st_48 ?_
          show Done _ _ _ _ _ _ _ (T_48.setTop (mkF m 13 #[Rv a, Iv fr, Nv] [(.int tp), (.ref a)]))
          have sg_49 : ∀ tt_, Steps p.tables e below (T_48.setTop (mkF m 15 #[Rv a, Iv fr, Nv] [(.int (tp - (1 : Int32))), (.ref a)])) tt_ → Steps p.tables e below (T_48.setTop (mkF m 13 #[Rv a, Iv fr, Nv] [(.int tp), (.ref a)])) tt_ := by
            intro tt_ kt_
            refine XS.iconst X_48.here hEX rfl (hb hBY d_prog_25_method_5_code_13) ?_
            show Steps p.tables e below (T_48.setTop (mkF m 14 #[Rv a, Iv fr, Nv] [(.int (1 : Int32)), (.int tp), (.ref a)])) tt_
            refine XS.isub X_48.here hEX rfl (hb hBY d_prog_25_method_5_code_14) rfl ?_
            exact kt_
          refine Done.pre sg_49 ?_
          obtain ⟨T_50, h_50, X_50, e_50, W_50, st_50⟩ := putF X_48 hEX hZW hOW (host := "") (Or.inl (hw _ (List.mem_of_getElem? (i := 23) rfl))) Via.refl e_48 f_41 f_39 (Or.inl (hw _ (List.mem_of_getElem? (i := 24) rfl))) (hw _ (List.mem_of_getElem? (i := 1) rfl)) (ty := .int) (by decide) rfl rfl (g := (mkF m 15 #[Rv a, Iv fr, Nv] [(.int (tp - (1 : Int32))), (.ref a)])) rfl rfl (hb hBY d_prog_25_method_5_code_15)
          have N_50 := Fr.snoc X_50 N_37 ga
          have K__51 : Keep h0 h_50 [a, b] := K__38.wr W_50 (Or.inl (List.mem_of_getElem? (i := 0) rfl))
          have f_52 : Exa Z h_50 a "com/example/actorium/actorium/Claimant$Sends" := f_39.wr W_50
          have f_53 : Fld Z h_50 a "com/example/actorium/actorium/Claimant$Sends" "cells" "[Lcom/example/actorium/actorium/DispatchedCell;" (.ref b) := f_40.other W_50 (Or.inr (slot_ne (Or.inl (hw _ (List.mem_of_getElem? (i := 12) rfl))) (Or.inl (hw _ (List.mem_of_getElem? (i := 24) rfl))) (by decide) (t := (.array (.object "com/example/actorium/actorium/DispatchedCell"))) (t' := .int) (by decide) (by decide)))
          have f_54 : Arv Z h_50 b k (.object "com/example/actorium/actorium/DispatchedCell") (8 : Int32) [.null, .null, .null, .null, .null, .null, .null, .null] .null := f_42.other W_50 (Ne.symm nab)
          have f_55 : Fld Z h_50 a "com/example/actorium/actorium/Claimant$Sends" "top" "I" (.int (tp - (1 : Int32))) := f_41.same W_50
          refine Done.pre st_50 ?_
          show Done _ _ _ _ _ _ _ (T_50.setTop (mkF m 18 #[Rv a, Iv fr, Nv] []))
          have sg_56 : ∀ tt_, Steps p.tables e below (T_50.setTop (mkF m 19 #[Rv a, Iv fr, Nv] [(.ref a)])) tt_ → Steps p.tables e below (T_50.setTop (mkF m 18 #[Rv a, Iv fr, Nv] [])) tt_ := by
            intro tt_ kt_
            refine XS.aloadN X_50.here hEX rfl (hb hBY d_prog_25_method_5_code_18) rfl rfl ?_
            exact kt_
          refine Done.pre sg_56 ?_
          obtain ⟨T_57, X_57, e_57, st_57⟩ := getF X_50 hEX hZW hOW (host := "") (Or.inl (hw _ (List.mem_of_getElem? (i := 11) rfl))) Via.refl e_50 f_53 (g := (mkF m 19 #[Rv a, Iv fr, Nv] [(.ref a)])) rfl rfl (hb hBY d_prog_25_method_5_code_19)
          refine Done.pre st_57 ?_
          show Done _ _ _ _ _ _ _ (T_57.setTop (mkF m 22 #[Rv a, Iv fr, Nv] [(.ref b)]))
          have sg_58 : ∀ tt_, Steps p.tables e below (T_57.setTop (mkF m 23 #[Rv a, Iv fr, Nv] [(.ref a), (.ref b)])) tt_ → Steps p.tables e below (T_57.setTop (mkF m 22 #[Rv a, Iv fr, Nv] [(.ref b)])) tt_ := by
            intro tt_ kt_
            refine XS.aloadN X_57.here hEX rfl (hb hBY d_prog_25_method_5_code_22) rfl rfl ?_
            exact kt_
          refine Done.pre sg_58 ?_
          obtain ⟨T_59, X_59, e_59, st_59⟩ := getF X_57 hEX hZW hOW (host := "") (Or.inl (hw _ (List.mem_of_getElem? (i := 23) rfl))) Via.refl e_57 f_55 (g := (mkF m 23 #[Rv a, Iv fr, Nv] [(.ref a), (.ref b)])) rfl rfl (hb hBY d_prog_25_method_5_code_23)
          refine Done.pre st_59 ?_
          show Done _ _ _ _ _ _ _ (T_59.setTop (mkF m 26 #[Rv a, Iv fr, Nv] [(.int (tp - (1 : Int32))), (.ref b)]))
          obtain ⟨cl_60, Ar_60, q_60, S_60, N__60, H_60, G_60⟩ := id f_54
          have hin_60 : ¬ ((tp - (1 : Int32)) < 0 ∨ cl_60.slots.size ≤ ((tp - (1 : Int32))).toNatClampNeg) := inb_of S_60 (own_in _ (by first | exact own_ixr tp fr hp.1 hfr (by assumption) | exact own_ixr t fr ht hfr (by assumption)))
          have hat_60 : cl_60.slots[((tp - (1 : Int32))).toNatClampNeg]? = some .null := H_60.at hin_60 (own_nullget _)
          have sg_61 : ∀ tt_, Steps p.tables e below (T_59.setTop (mkF m 29 #[Rv a, Iv fr, Nv] [(.ref a)])) tt_ → Steps p.tables e below (T_59.setTop (mkF m 26 #[Rv a, Iv fr, Nv] [(.int (tp - (1 : Int32))), (.ref b)])) tt_ := by
            intro tt_ kt_
            refine X_59.aaload hEX (j := (tp - (1 : Int32))) (v := .null) (by rw [e_59]; exact Ar_60.1) (State.isArrayOf_alike hZW.alike Ar_60.2.1) rfl Ar_60.2.2 hin_60 hat_60 (g := (mkF m 26 #[Rv a, Iv fr, Nv] [(.int (tp - (1 : Int32))), (.ref b)])) rfl rfl (hb hBY d_prog_25_method_5_code_26) _ ?_
            show Steps p.tables e below (T_59.setTop (mkF m 27 #[Rv a, Iv fr, Nv] [.null])) tt_
            refine XS.astoreN X_59.here hEX rfl (hb hBY d_prog_25_method_5_code_27) rfl rfl (l' := #[Rv a, Iv fr, Nv]) rfl ?_
            show Steps p.tables e below (T_59.setTop (mkF m 28 #[Rv a, Iv fr, Nv] [])) tt_
            refine XS.aloadN X_59.here hEX rfl (hb hBY d_prog_25_method_5_code_28) rfl rfl ?_
            exact kt_
          refine Done.pre sg_61 ?_
          obtain ⟨T_62, X_62, e_62, st_62⟩ := getF X_59 hEX hZW hOW (host := "") (Or.inl (hw _ (List.mem_of_getElem? (i := 11) rfl))) Via.refl e_59 f_53 (g := (mkF m 29 #[Rv a, Iv fr, Nv] [(.ref a)])) rfl rfl (hb hBY d_prog_25_method_5_code_29)
          refine Done.pre st_62 ?_
          show Done _ _ _ _ _ _ _ (T_62.setTop (mkF m 32 #[Rv a, Iv fr, Nv] [(.ref b)]))
          have sg_63 : ∀ tt_, Steps p.tables e below (T_62.setTop (mkF m 33 #[Rv a, Iv fr, Nv] [(.ref a), (.ref b)])) tt_ → Steps p.tables e below (T_62.setTop (mkF m 32 #[Rv a, Iv fr, Nv] [(.ref b)])) tt_ := by
            intro tt_ kt_
            refine XS.aloadN X_62.here hEX rfl (hb hBY d_prog_25_method_5_code_32) rfl rfl ?_
            exact kt_
          refine Done.pre sg_63 ?_
          obtain ⟨T_64, X_64, e_64, st_64⟩ := getF X_62 hEX hZW hOW (host := "") (Or.inl (hw _ (List.mem_of_getElem? (i := 23) rfl))) Via.refl e_62 f_55 (g := (mkF m 33 #[Rv a, Iv fr, Nv] [(.ref a), (.ref b)])) rfl rfl (hb hBY d_prog_25_method_5_code_33)
          refine Done.pre st_64 ?_
          show Done _ _ _ _ _ _ _ (T_64.setTop (mkF m 36 #[Rv a, Iv fr, Nv] [(.int (tp - (1 : Int32))), (.ref b)]))
          have sg_66 : ∀ tt_, Steps p.tables e below (T_64.setTop (mkF m 37 #[Rv a, Iv fr, Nv] [.null, (.int (tp - (1 : Int32))), (.ref b)])) tt_ → Steps p.tables e below (T_64.setTop (mkF m 36 #[Rv a, Iv fr, Nv] [(.int (tp - (1 : Int32))), (.ref b)])) tt_ := by
            intro tt_ kt_
            refine XS.aconstNull X_64.here hEX rfl (hb hBY d_prog_25_method_5_code_36) ?_
            exact kt_
          refine Done.pre sg_66 ?_
          obtain ⟨cl_65, Ar_65, q_65, S_65, N__65, H_65, G_65⟩ := id f_54
          have hin_65 : ¬ ((tp - (1 : Int32)) < 0 ∨ cl_65.slots.size ≤ ((tp - (1 : Int32))).toNatClampNeg) := inb_of S_65 (own_in _ (by first | exact own_ixr tp fr hp.1 hfr (by assumption) | exact own_ixr t fr ht hfr (by assumption)))
          obtain ⟨T_67, h_67, X_67, e_67, W_67, st_67⟩ := stR X_64 hEX hZW e_64 Ar_65 (j := (tp - (1 : Int32))) hin_65 rfl (Or.inl rfl) (g := (mkF m 37 #[Rv a, Iv fr, Nv] [.null, (.int (tp - (1 : Int32))), (.ref b)])) rfl rfl (hb hBY d_prog_25_method_5_code_37)
          have N_67 := Fr.snoc X_67 N_50 gb
          have K__68 : Keep h0 h_67 [a, b] := K__51.wr W_67 (Or.inl (List.mem_of_getElem? (i := 1) rfl))
          have f_69 : Exa Z h_67 a "com/example/actorium/actorium/Claimant$Sends" := f_52.wr W_67
          have f_70 : Fld Z h_67 a "com/example/actorium/actorium/Claimant$Sends" "cells" "[Lcom/example/actorium/actorium/DispatchedCell;" (.ref b) := f_53.other W_67 (Or.inl nab)
          have f_71 : Fld Z h_67 a "com/example/actorium/actorium/Claimant$Sends" "top" "I" (.int (tp - (1 : Int32))) := f_55.other W_67 (Or.inl nab)
          have f_72 : Arv Z h_67 b k (.object "com/example/actorium/actorium/DispatchedCell") (8 : Int32) [.null, .null, .null, .null, .null, .null, .null, .null] .null := own_cast (own_nulls _) (Arv.set Ar_65 q_65 S_65 N__65 H_65 G_65 rfl W_67 (((tp - (1 : Int32))).toNatClampNeg) rfl (own_in8 _ (by first | exact own_ixr tp fr hp.1 hfr (by assumption) | exact own_ixr t fr ht hfr (by assumption))))
          refine Done.pre st_67 ?_
          show Done _ _ _ _ _ _ _ (T_67.setTop (mkF m 38 #[Rv a, Iv fr, Nv] []))
          have sg_73 : ∀ tt_, Steps p.tables e below (T_67.setTop (mkF m 0 #[Rv a, Iv fr, Nv] [])) tt_ → Steps p.tables e below (T_67.setTop (mkF m 38 #[Rv a, Iv fr, Nv] [])) tt_ := by
            intro tt_ kt_
            refine XS.aloadN X_67.here hEX rfl (hb hBY d_prog_25_method_5_code_38) rfl rfl ?_
            show Steps p.tables e below (T_67.setTop (mkF m 39 #[Rv a, Iv fr, Nv] [.null])) tt_
            refine XS.ifnullYes X_67.here hEX rfl (pc0 := 39) (pc' := 44) rfl (hb hBY d_prog_25_method_5_code_39) rfl (by decide) (by decide) ?_
            show Steps p.tables e below (T_67.setTop (mkF m 44 #[Rv a, Iv fr, Nv] [])) tt_
            refine XS.goto X_67.here hEX rfl (pc0 := 44) (pc' := 0) rfl (hb hBY d_prog_25_method_5_code_44) (by decide) (by decide) ?_
            exact kt_
          refine Done.pre sg_73 ?_
          exact ih _ (own_dec tp fr kk hp.1 hfr (by assumption) hkk) T_67 h_67 _ X_67 e_67 N_67 K__68 ((tp - (1 : Int32))) f_69 f_70 f_71 f_72 (by first | exact own_nx tp t fr hp hfr (by assumption) | exact own_nx0 t fr ht hfr (by assumption)) rfl
        · skip
          have sg_74 : ∀ tt_, Steps p.tables e below (T_44.setTop (mkF m 48 #[Rv a, Iv fr, Nv] [.null])) tt_ → Steps p.tables e below (T_44.setTop (mkF m 5 #[Rv a, Iv fr, Nv] [(.int fr), (.int tp)])) tt_ := by
            intro tt_ kt_
            refine XS.icmpYes X_44.here hEX rfl (pc0 := 5) (pc' := 47) rfl (hb hBY d_prog_25_method_5_code_5) rfl (flt hc5__45).2.2.2 (by decide) (by decide) ?_
            show Steps p.tables e below (T_44.setTop (mkF m 47 #[Rv a, Iv fr, Nv] [])) tt_
            refine XS.aconstNull X_44.here hEX rfl (hb hBY d_prog_25_method_5_code_47) ?_
            exact kt_
          refine Done.pre sg_74 ?_
          exact Done.retA X_44 hEX hLK hRT rfl rfl (hb hBY d_prog_25_method_5_code_48) (by rw [e_44]; exact ⟨rfl, N_37, K__38, f_39, (by first | (rw [own_fin tp t fr hp (by assumption)]; exact f_41) | (rw [own_mn, if_neg hc5]; exact f_41)), f_40, f_42⟩) (by decide) (by decide)
    show Done _ _ _ _ _ _ _ (T_24.setTop (mkF m 44 #[Rv a, Iv fr, Nv] []))
    have sg_75 : ∀ tt_, Steps p.tables e below (T_24.setTop (mkF m 0 #[Rv a, Iv fr, Nv] [])) tt_ → Steps p.tables e below (T_24.setTop (mkF m 44 #[Rv a, Iv fr, Nv] [])) tt_ := by
      intro tt_ kt_
      refine XS.goto X_24.here hEX rfl (pc0 := 44) (pc' := 0) rfl (hb hBY d_prog_25_method_5_code_44) (by decide) (by decide) ?_
      exact kt_
    refine Done.pre sg_75 ?_
    exact jn_31 _ T_24 h_24 _ X_24 e_24 N_24 K__25 ((t - (1 : Int32))) f_26 f_27 f_28 f_29 (by first | exact own_nx tp t fr hp hfr (by assumption) | exact own_nx0 t fr ht hfr (by assumption)) rfl
  · skip
    have sg_76 : ∀ tt_, Steps p.tables e below (T_2.setTop (mkF m 48 #[Rv a, Iv fr, Us] [.null])) tt_ → Steps p.tables e below (T_2.setTop (mkF m 5 #[Rv a, Iv fr, Us] [(.int fr), (.int t)])) tt_ := by
      intro tt_ kt_
      refine XS.icmpYes X_2.here hEX rfl (pc0 := 5) (pc' := 47) rfl (hb hBY d_prog_25_method_5_code_5) rfl (flt hc5).2.2.2 (by decide) (by decide) ?_
      show Steps p.tables e below (T_2.setTop (mkF m 47 #[Rv a, Iv fr, Us] [])) tt_
      refine XS.aconstNull X_2.here hEX rfl (hb hBY d_prog_25_method_5_code_47) ?_
      exact kt_
    refine Done.pre sg_76 ?_
    exact Done.retA X_2 hEX hLK hRT rfl rfl (hb hBY d_prog_25_method_5_code_48) (by rw [e_2]; exact ⟨rfl, N0, K0, Ex, (by first | (rw [own_fin tp t fr hp (by assumption)]; exact Ft) | (rw [own_mn, if_neg hc5]; exact Ft)), Fc, Av⟩) (by decide) (by decide)
theorem pd___V_1 : parseMethodDescriptor "()V" = some ⟨[], none⟩ := by decide +kernel
theorem pd__I_I_2 : parseMethodDescriptor "(I)I" = some ⟨[.int], some .int⟩ := by decide +kernel
theorem pd__I_Lcom_example_actorium_actorium_DispatchedCell__3 : parseMethodDescriptor "(I)Lcom/example/actorium/actorium/DispatchedCell;" = some ⟨[.int], some (.object "com/example/actorium/actorium/DispatchedCell")⟩ := by decide +kernel
theorem pd___I_0 : parseMethodDescriptor "()I" = some ⟨[], some .int⟩ := by decide +kernel
theorem pd__Lcom_example_actorium_actorium_DispatchedCell__I_4 : parseMethodDescriptor "(Lcom/example/actorium/actorium/DispatchedCell;)I" = some ⟨[(.object "com/example/actorium/actorium/DispatchedCell")], some .int⟩ := by decide +kernel
def Qrm0 (Z : State) (p1 : Int32) (p2 : Int32) (p3 : Int32) (h0 : Heap) (n0 : Nat) (v_ : Option Value) (h_ : Heap) (L_ : List Loc) : Prop := v_ = some (.int (1 : Int32)) ∧ Fr n0 L_ ∧ Keep h0 h_ []
theorem ef_rm0 (m : MethodId) (x0 : Int32) (x1 : Int32) (x2 : Int32) : entryFrame m #[(.int x0), (.int x1), (.int x2)] maxLocals = mkF m 0 #[.val (.int x0), .val (.int x1), .val (.int x2), .unset, .unset, .unset, .unset, .unset, .unset, .unset, .unset, .unset] [] := by first | (simp [entryFrame, mkF, argsToLocals, Value.category, maxLocals]; done) | rfl
set_option maxRecDepth 65536 in
set_option maxHeartbeats 40000000 in
theorem rm0 (l : Launch) (Z : State) (aZ : Array Value) (hw : ∀ d ∈ tables_1, d.before aZ Z = true) (ws : List Jvm.Cond) (p1 : Int32) (p2 : Int32) (p3 : Int32) (h0 : Heap) (n0 : Nat) (Z0 : n0 ≤ h0.size) :
    MetFree l x (head1 (Jvm.Cond.code x code maxLocals ret :: ws) room_1) (fun a_ U_ => a_ = #[(.int p1), (.int p2), (.int p3)] ∧ Z.Warmed39 U_.vm ∧ U_.heap = h0) (fun _ _ _ _ _ => True) (fun _ U_ o_ U2_ => ∃ v_ L_, o_ = .returned v_ ∧ Qrm0 Z p1 p2 p3 h0 n0 v_ U2_.heap L_ ∧ FrameEnd U_ o_ U2_ L_ room_1.cells room_1.slots) := by
  refine MetFree.of_bodySF (plainFor_of_name pn_com_example_actorium_actorium_ClaimantNextLeftPinLaw) hisR ?_
  intro p e s m args below meth cO s₁ Bd hml0 hP hK
  obtain ⟨rfl, hZW, hh⟩ := hP
  have hEX := Bd.exec
  have hBY := Bd.bytes
  have hMX : cO.maxLocals = 12 := hml0
  have hOW : s.vm.findClass "com/example/actorium/actorium/ClaimantNextLeftPinLaw" = some m.cls := findClass_of_methodNamed Bd.named
  have hNM := (name_of_methodNamed Bd.named Bd.method).1
  have hLK := Bd.notSynchronized
  have hRT := Bd.returns
  have X0 : Stand p l e room_1 s m #[(.int p1), (.int p2), (.int p3)] below meth cO s₁ [] 0 0 := Stand.of_body Bd
  have e0 : s₁.heap = h0 := by rw [← hh, Bd.state]; rfl
  have N0 := Fr.nil n0
  have K0 : Keep h0 h0 [] := Keep.refl _ _
  show Done p e below s (Qrm0 Z p1 p2 p3 h0 n0) room_1.cells room_1.slots (s₁.setTop (entryFrame m #[(.int p1), (.int p2), (.int p3)] maxLocals))
  refine Done.pre (fun t_ k_ => castTop (ef_rm0 m p1 p2 p3) k_) ?_
  show Done _ _ _ _ _ _ _ (s₁.setTop (mkF m 0 #[Iv p1, Iv p2, Iv p3, Us, Us, Us, Us, Us, Us, Us, Us, Us] []))
  obtain ⟨T_1, h_1, X_1, e_1, E_1, A_1, D_1, -, st_1⟩ := newO X0 hEX hZW hOW (hw _ (List.mem_of_getElem? (i := 0) rfl)) (hw _ (List.mem_of_getElem? (i := 1) rfl)) (hw _ (List.mem_of_getElem? (i := 2) rfl)) e0 (g := (mkF m 0 #[Iv p1, Iv p2, Iv p3, Us, Us, Us, Us, Us, Us, Us, Us, Us] [])) rfl (hb hBY at_0) (by decide) (by decide)
  obtain ⟨b_1, g_1⟩ : ∃ z, z = h0.size := ⟨_, rfl⟩
  rw [← g_1] at A_1 D_1 st_1
  have sz_b_1 : h0.size ≤ b_1 := Nat.le_trans K0.1 (Nat.le_of_eq g_1.symm)
  have ge_b_1 : n0 ≤ b_1 := Nat.le_trans Z0 sz_b_1
  have K__2 : Keep h0 h_1 [] := K0.ext E_1
  have f_3 : Exa Z h_1 b_1 "com/example/actorium/actorium/Claimant$Sends" := A_1
  have f_4 : Fld Z h_1 b_1 "com/example/actorium/actorium/Claimant$Sends" "cells" "[Lcom/example/actorium/actorium/DispatchedCell;" .null := D_1 (Or.inl (hw _ (List.mem_of_getElem? (i := 12) rfl))) (ty := (.array (.object "com/example/actorium/actorium/DispatchedCell"))) (by decide)
  have f_5 : Fld Z h_1 b_1 "com/example/actorium/actorium/Claimant$Sends" "top" "I" (.int (0 : Int32)) := D_1 (Or.inl (hw _ (List.mem_of_getElem? (i := 24) rfl))) (ty := .int) (by decide)
  refine Done.pre st_1 ?_
  show Done _ _ _ _ _ _ _ (T_1.setTop (mkF m 3 #[Iv p1, Iv p2, Iv p3, Us, Us, Us, Us, Us, Us, Us, Us, Us] [(.ref b_1)]))
  have sg_6 : ∀ tt_, Steps p.tables e below (T_1.setTop (mkF m 4 #[Iv p1, Iv p2, Iv p3, Us, Us, Us, Us, Us, Us, Us, Us, Us] [(.ref b_1), (.ref b_1)])) tt_ → Steps p.tables e below (T_1.setTop (mkF m 3 #[Iv p1, Iv p2, Iv p3, Us, Us, Us, Us, Us, Us, Us, Us, Us] [(.ref b_1)])) tt_ := by
    intro tt_ kt_
    refine XS.dup X_1.here hEX rfl (hb hBY at_3) rfl rfl ?_
    exact kt_
  refine Done.pre sg_6 ?_
  obtain ⟨_, _, ⟨T_7, L_7, k_7, n_7⟩, -, X_7, ⟨Lc_7, hQ_7, l_7, y_7, z_7⟩, st_7⟩ := X_1.specialBack hEX (y := (⟨"com/example/actorium/actorium/Claimant$Sends", "<init>", "()V"⟩ : MethodName)) rfl hOW (mvT hZW (hw _ (List.mem_of_getElem? (i := 3) rfl))) (mvT hZW (hw _ (List.mem_of_getElem? (i := 4) rfl))) (mvT hZW (hw _ (List.mem_of_getElem? (i := 5) rfl))) (by decide) (backOf (W := 1) (rm_init l Z aZ hw [] b_1 (0 : Int32) .null h_1 n0 (Nat.le_trans Z0 K__2.1) f_3 f_5 f_4 ge_b_1) hZW (hw _ (List.mem_of_getElem? (i := 5) rfl)) (hw _ (List.mem_of_getElem? (i := 2) rfl)) (by decide) (by decide)) (g := (mkF m 4 #[Iv p1, Iv p2, Iv p3, Us, Us, Us, Us, Us, Us, Us, Us, Us] [(.ref b_1), (.ref b_1)])) rfl (by rw [hMX]; rfl) (Steps.refl _) (a := b_1) (argsL := []) (rest := [(.ref b_1)]) (lenOf pd___V_1 rfl) rfl (by show 2 * 0 + _ ≤ _; exact Nat.le_of_eq rfl) (hb hBY at_4) (fun _ _ => ⟨rfl, e_1, (by decide : 1 + 1 ≤ _), (by decide : 2 + 8 ≤ _)⟩)
  dsimp only [Pt.U, Pt.locs, Pt.cells, Pt.slots] at X_7 l_7 y_7 z_7 st_7 hQ_7
  subst l_7 y_7 z_7
  obtain ⟨b__7, k__7, rfl, N_7q, K_7, hq_7_0, hq_7_1, hq_7_2, hq_7_3, hq_7_4⟩ := hQ_7
  have N_7 := Fr.app N0 N_7q
  have K__8 : Keep h0 T_7.heap [] := K__2.trans K_7 (allS (Or.inr sz_b_1) all0)
  have f_9 : Exa Z T_7.heap b_1 "com/example/actorium/actorium/Claimant$Sends" := f_3.keep K_7
  have sz_b__7 : h0.size ≤ b__7 := Nat.le_trans K__2.1 hq_7_4
  have ne_b_1_b__7 : b_1 ≠ b__7 := Nat.ne_of_lt (Nat.lt_of_lt_of_le f_3.lt hq_7_4)
  refine Done.pre (fun _ k_ => st_7.trans k_) ?_
  show Done _ _ _ _ _ _ _ (T_7.setTop (mkF m 7 #[Iv p1, Iv p2, Iv p3, Us, Us, Us, Us, Us, Us, Us, Us, Us] [(.ref b_1)]))
  have sg_10 : ∀ tt_, Steps p.tables e below (T_7.setTop (mkF m 14 #[Iv p1, Iv p2, Iv p3, Rv b_1, Us, Us, Us, Us, Us, Us, Us, Us] [(.int ((p1 &&& (2147483647 : Int32)) % (5 : Int32)))])) tt_ → Steps p.tables e below (T_7.setTop (mkF m 7 #[Iv p1, Iv p2, Iv p3, Us, Us, Us, Us, Us, Us, Us, Us, Us] [(.ref b_1)])) tt_ := by
    intro tt_ kt_
    refine XS.astoreN X_7.here hEX rfl (hb hBY at_7) rfl rfl (l' := #[Iv p1, Iv p2, Iv p3, Rv b_1, Us, Us, Us, Us, Us, Us, Us, Us]) rfl ?_
    show Steps p.tables e below (T_7.setTop (mkF m 8 #[Iv p1, Iv p2, Iv p3, Rv b_1, Us, Us, Us, Us, Us, Us, Us, Us] [])) tt_
    refine XS.iloadN X_7.here hEX rfl (hb hBY at_8) rfl ?_
    show Steps p.tables e below (T_7.setTop (mkF m 9 #[Iv p1, Iv p2, Iv p3, Rv b_1, Us, Us, Us, Us, Us, Us, Us, Us] [(.int p1)])) tt_
    refine X_7.ldcInt hEX hOW (mvT hZW (hw _ (List.mem_of_getElem? (i := 13) rfl))) (g := (mkF m 9 #[Iv p1, Iv p2, Iv p3, Rv b_1, Us, Us, Us, Us, Us, Us, Us, Us] [(.int p1)])) rfl (hb hBY at_9) _ ?_
    show Steps p.tables e below (T_7.setTop (mkF m 11 #[Iv p1, Iv p2, Iv p3, Rv b_1, Us, Us, Us, Us, Us, Us, Us, Us] [(.int (2147483647 : Int32)), (.int p1)])) tt_
    refine XS.iand X_7.here hEX rfl (hb hBY at_11) rfl ?_
    show Steps p.tables e below (T_7.setTop (mkF m 12 #[Iv p1, Iv p2, Iv p3, Rv b_1, Us, Us, Us, Us, Us, Us, Us, Us] [(.int (p1 &&& (2147483647 : Int32)))])) tt_
    refine XS.iconst X_7.here hEX rfl (hb hBY at_12) ?_
    show Steps p.tables e below (T_7.setTop (mkF m 13 #[Iv p1, Iv p2, Iv p3, Rv b_1, Us, Us, Us, Us, Us, Us, Us, Us] [(.int (5 : Int32)), (.int (p1 &&& (2147483647 : Int32)))])) tt_
    refine iremM X_7 hEX rfl (hb hBY at_13) rfl (by decide) ?_
    exact kt_
  refine Done.pre sg_10 ?_
  show Done _ _ _ _ _ _ _ (T_7.setTop (mkF m 14 #[Iv p1, Iv p2, Iv p3, Rv b_1, Us, Us, Us, Us, Us, Us, Us, Us] [(.int ((p1 &&& (2147483647 : Int32)) % (5 : Int32)))]))
  obtain ⟨n0_, hn⟩ : ∃ z : Int32, z = ((p1 &&& (2147483647 : Int32)) % (5 : Int32)) := ⟨_, rfl⟩
  rw [← hn]
  have hn3 := own_n p1
  rw [← hn] at hn3
  show Done _ _ _ _ _ _ _ (T_7.setTop (mkF m 14 #[Iv p1, Iv p2, Iv p3, Rv b_1, Us, Us, Us, Us, Us, Us, Us, Us] [(.int n0_)]))
  have jn_11 : ∀ (T_12 : State) (h_13 : Heap) (L_14 : List Loc) (X_15 : Stand p l e room_1 s m #[(.int p1), (.int p2), (.int p3)] below meth cO T_12 L_14 2 10) (e_16 : T_12.heap = h_13) (N_17 : Fr n0 L_14) (K__18 : Keep h0 h_13 []) (n : Int32) (f_19 : Exa Z h_13 b_1 "com/example/actorium/actorium/Claimant$Sends") (f_20 : Fld Z h_13 b_1 "com/example/actorium/actorium/Claimant$Sends" "top" "I" (.int n)) (f_21 : Fld Z h_13 b_1 "com/example/actorium/actorium/Claimant$Sends" "cells" "[Lcom/example/actorium/actorium/DispatchedCell;" (.ref b__7)) (f_22 : Arv Z h_13 b__7 k__7 (.object "com/example/actorium/actorium/DispatchedCell") (8 : Int32) [.null, .null, .null, .null, .null, .null, .null, .null] .null) (hn4 : 0 ≤ n.toInt ∧ n.toInt ≤ 4), Done p e below s (Qrm0 Z p1 p2 p3 h0 n0) room_1.cells room_1.slots (T_12.setTop (mkF m 63 #[Iv p1, Iv p2, Iv p3, Rv b_1, Iv n, Us, Us, Us, Us, Us, Us, Us] [])) := by
    intro T_12 h_13 L_14 X_15 e_16 N_17 K__18 n f_19 f_20 f_21 f_22 hn4
    show Done _ _ _ _ _ _ _ (T_12.setTop (mkF m 63 #[Iv p1, Iv p2, Iv p3, Rv b_1, Iv n, Us, Us, Us, Us, Us, Us, Us] []))
    have sg_23 : ∀ tt_, Steps p.tables e below (T_12.setTop (mkF m 64 #[Iv p1, Iv p2, Iv p3, Rv b_1, Iv n, Us, Us, Us, Us, Us, Us, Us] [(.int p2)])) tt_ → Steps p.tables e below (T_12.setTop (mkF m 63 #[Iv p1, Iv p2, Iv p3, Rv b_1, Iv n, Us, Us, Us, Us, Us, Us, Us] [])) tt_ := by
      intro tt_ kt_
      refine XS.iloadN X_15.here hEX rfl (hb hBY at_63) rfl ?_
      exact kt_
    refine Done.pre sg_23 ?_
    obtain ⟨_, _, ⟨T_24, L_24, k_24, n_24⟩, -, X_24, ⟨Lc_24, hQ_24, l_24, y_24, z_24⟩, st_24⟩ := Jvm.LawKit.callS X_15 hEX (y := (⟨"com/example/actorium/actorium/ClaimantNextLeftPinLaw", "drawFrom", "(I)I"⟩ : MethodName)) hOW (mvT hZW (hw _ (List.mem_of_getElem? (i := 14) rfl))) (mvT hZW (hw _ (List.mem_of_getElem? (i := 15) rfl))) (mvT hZW (hw _ (List.mem_of_getElem? (i := 16) rfl))) (mvT hZW (hw _ (List.mem_of_getElem? (i := 17) rfl))) (by decide) (backOf (W := 0) (rm_draw l Z aZ hw [] p2 h_13 n0 (Nat.le_trans Z0 K__18.1) ) hZW (hw _ (List.mem_of_getElem? (i := 17) rfl)) (hw _ (List.mem_of_getElem? (i := 16) rfl)) (by decide) (by decide)) (g := (mkF m 64 #[Iv p1, Iv p2, Iv p3, Rv b_1, Iv n, Us, Us, Us, Us, Us, Us, Us] [(.int p2)])) rfl (by rw [hMX]; rfl) (argsL := [(.int p2)]) (rest := []) (lenOf pd__I_I_2 rfl) rfl (by show 2 * 0 + _ ≤ _; exact Nat.le_of_eq rfl) (hb hBY at_64) (fun _ _ => ⟨rfl, e_16, (by decide : 2 + 0 ≤ _), (by decide : 10 + 0 ≤ _)⟩)
    dsimp only [Pt.U, Pt.locs, Pt.cells, Pt.slots] at X_24 l_24 y_24 z_24 st_24 hQ_24
    subst l_24 y_24 z_24
    obtain ⟨rfl, N_24q, e_24⟩ := hQ_24
    have N_24 := Fr.app N_17 N_24q
    refine Done.pre (fun _ k_ => st_24 _ k_) ?_
    show Done _ _ _ _ _ _ _ (T_24.setTop (mkF m 67 #[Iv p1, Iv p2, Iv p3, Rv b_1, Iv n, Us, Us, Us, Us, Us, Us, Us] [(.int (own_draw p2))]))
    show Done _ _ _ _ _ _ _ (T_24.setTop (mkF m 67 #[Iv p1, Iv p2, Iv p3, Rv b_1, Iv n, Us, Us, Us, Us, Us, Us, Us] [(.int (own_draw p2))]))
    obtain ⟨fr1, hfr1⟩ : ∃ z : Int32, z = (own_draw p2) := ⟨_, rfl⟩
    rw [← hfr1]
    show Done _ _ _ _ _ _ _ (T_24.setTop (mkF m 67 #[Iv p1, Iv p2, Iv p3, Rv b_1, Iv n, Us, Us, Us, Us, Us, Us, Us] [(.int fr1)]))
    have hg1 : 0 ≤ fr1.toInt := by rw [hfr1]; exact own_draw0 _
    have sg_25 : ∀ tt_, Steps p.tables e below (T_24.setTop (mkF m 72 #[Iv p1, Iv p2, Iv p3, Rv b_1, Iv n, Iv fr1, Us, Us, Us, Us, Us, Us] [(.int fr1), (.ref b_1)])) tt_ → Steps p.tables e below (T_24.setTop (mkF m 67 #[Iv p1, Iv p2, Iv p3, Rv b_1, Iv n, Us, Us, Us, Us, Us, Us, Us] [(.int fr1)])) tt_ := by
      intro tt_ kt_
      refine XS.istore X_24.here hEX rfl (hb hBY at_67) rfl (l' := #[Iv p1, Iv p2, Iv p3, Rv b_1, Iv n, Iv fr1, Us, Us, Us, Us, Us, Us]) rfl ?_
      show Steps p.tables e below (T_24.setTop (mkF m 69 #[Iv p1, Iv p2, Iv p3, Rv b_1, Iv n, Iv fr1, Us, Us, Us, Us, Us, Us] [])) tt_
      refine XS.aloadN X_24.here hEX rfl (hb hBY at_69) rfl rfl ?_
      show Steps p.tables e below (T_24.setTop (mkF m 70 #[Iv p1, Iv p2, Iv p3, Rv b_1, Iv n, Iv fr1, Us, Us, Us, Us, Us, Us] [(.ref b_1)])) tt_
      refine XS.iload X_24.here hEX rfl (hb hBY at_70) rfl ?_
      exact kt_
    refine Done.pre sg_25 ?_
    obtain ⟨cq_26, kq_26, q_26a, q_26b, q_26c⟩ := isOf hZW e_24 f_19
    obtain ⟨_, _, ⟨T_26, L_26, k_26, n_26⟩, -, X_26, ⟨Lc_26, hQ_26, l_26, y_26, z_26⟩, st_26⟩ := X_24.virtualBack hEX (y := (⟨"com/example/actorium/actorium/Claimant$Sends", "nextLeft", "(I)Lcom/example/actorium/actorium/DispatchedCell;"⟩ : MethodName)) (z := (⟨"com/example/actorium/actorium/Claimant$Sends", "nextLeft", "(I)Lcom/example/actorium/actorium/DispatchedCell;"⟩ : MethodName)) hOW (mvT hZW (hw _ (List.mem_of_getElem? (i := 18) rfl))) (mvT hZW (hw _ (List.mem_of_getElem? (i := 19) rfl))) (notFace_of_selects (args := #[]) (mvT hZW (hw _ (List.mem_of_getElem? (i := 21) rfl)))) (mvT hZW (hw _ (List.mem_of_getElem? (i := 21) rfl))) (mvT hZW (hw _ (List.mem_of_getElem? (i := 20) rfl))) (by decide) (backOf (W := 0) (rm_next l Z aZ hw [] b_1 fr1 n b__7 k__7 h_13 n0 (Nat.le_trans Z0 K__18.1) f_19 f_20 f_21 f_22 ge_b_1 (Nat.le_trans Z0 sz_b__7) ne_b_1_b__7 (⟨hn4.1, by omega⟩) hg1) hZW (hw _ (List.mem_of_getElem? (i := 22) rfl)) (hw _ (List.mem_of_getElem? (i := 2) rfl)) (by decide) (by decide)) q_26a q_26c (g := (mkF m 72 #[Iv p1, Iv p2, Iv p3, Rv b_1, Iv n, Iv fr1, Us, Us, Us, Us, Us, Us] [(.int fr1), (.ref b_1)])) rfl (by rw [hMX]; rfl) (Steps.refl _) (argsL := [(.int fr1)]) (rest := []) (lenOf pd__I_Lcom_example_actorium_actorium_DispatchedCell__3 rfl) rfl (by show 2 * 0 + _ ≤ _; exact Nat.le_of_eq rfl) (hb hBY at_72) (fun _ _ => ⟨rfl, e_24, (by decide : 2 + 0 ≤ _), (by decide : 10 + 0 ≤ _)⟩)
    dsimp only [Pt.U, Pt.locs, Pt.cells, Pt.slots] at X_26 l_26 y_26 z_26 st_26 hQ_26
    subst l_26 y_26 z_26
    obtain ⟨rfl, N_26q, K_26, hq_26_0, hq_26_1, hq_26_2, hq_26_3⟩ := hQ_26
    have N_26 := Fr.app N_24 N_26q
    have K__27 : Keep h0 T_26.heap [] := K__18.trans K_26 (allS (Or.inr sz_b_1) (allS (Or.inr sz_b__7) all0))
    have f_28 : Exa Z T_26.heap b_1 "com/example/actorium/actorium/Claimant$Sends" := f_19.keep K_26
    refine Done.pre (fun _ k_ => st_26.trans k_) ?_
    show Done _ _ _ _ _ _ _ (T_26.setTop (mkF m 75 #[Iv p1, Iv p2, Iv p3, Rv b_1, Iv n, Iv fr1, Us, Us, Us, Us, Us, Us] [.null]))
    have sg_29 : ∀ tt_, Steps p.tables e below (T_26.setTop (mkF m 85 #[Iv p1, Iv p2, Iv p3, Rv b_1, Iv n, Iv fr1, Iv (1 : Int32), Us, Us, Us, Us, Us] [])) tt_ → Steps p.tables e below (T_26.setTop (mkF m 75 #[Iv p1, Iv p2, Iv p3, Rv b_1, Iv n, Iv fr1, Us, Us, Us, Us, Us, Us] [.null])) tt_ := by
      intro tt_ kt_
      refine XS.ifnonnullNo X_26.here hEX rfl (hb hBY at_75) rfl ?_
      show Steps p.tables e below (T_26.setTop (mkF m 78 #[Iv p1, Iv p2, Iv p3, Rv b_1, Iv n, Iv fr1, Us, Us, Us, Us, Us, Us] [])) tt_
      refine XS.iconst X_26.here hEX rfl (hb hBY at_78) ?_
      show Steps p.tables e below (T_26.setTop (mkF m 79 #[Iv p1, Iv p2, Iv p3, Rv b_1, Iv n, Iv fr1, Us, Us, Us, Us, Us, Us] [(.int (1 : Int32))])) tt_
      refine XS.goto X_26.here hEX rfl (pc0 := 79) (pc' := 83) rfl (hb hBY at_79) (by decide) (by decide) ?_
      show Steps p.tables e below (T_26.setTop (mkF m 83 #[Iv p1, Iv p2, Iv p3, Rv b_1, Iv n, Iv fr1, Us, Us, Us, Us, Us, Us] [(.int (1 : Int32))])) tt_
      refine XS.istore X_26.here hEX rfl (hb hBY at_83) rfl (l' := #[Iv p1, Iv p2, Iv p3, Rv b_1, Iv n, Iv fr1, Iv (1 : Int32), Us, Us, Us, Us, Us]) rfl ?_
      exact kt_
    refine Done.pre sg_29 ?_
    have jn_30 : ∀ (ex : Int32) (hex : ex = own_mn n fr1), Done p e below s (Qrm0 Z p1 p2 p3 h0 n0) room_1.cells room_1.slots (T_26.setTop (mkF m 99 #[Iv p1, Iv p2, Iv p3, Rv b_1, Iv n, Iv fr1, Iv (1 : Int32), Us, Us, Us, Us, Us] [(.int ex)])) := by
      intro ex hex
      show Done _ _ _ _ _ _ _ (T_26.setTop (mkF m 99 #[Iv p1, Iv p2, Iv p3, Rv b_1, Iv n, Iv fr1, Iv (1 : Int32), Us, Us, Us, Us, Us] [(.int ex)]))
      have sg_31 : ∀ tt_, Steps p.tables e below (T_26.setTop (mkF m 107 #[Iv p1, Iv p2, Iv p3, Rv b_1, Iv n, Iv fr1, Iv (1 : Int32), Iv ex, Us, Us, Us, Us] [(.ref b_1)])) tt_ → Steps p.tables e below (T_26.setTop (mkF m 99 #[Iv p1, Iv p2, Iv p3, Rv b_1, Iv n, Iv fr1, Iv (1 : Int32), Us, Us, Us, Us, Us] [(.int ex)])) tt_ := by
        intro tt_ kt_
        refine XS.istore X_26.here hEX rfl (hb hBY at_99) rfl (l' := #[Iv p1, Iv p2, Iv p3, Rv b_1, Iv n, Iv fr1, Iv (1 : Int32), Iv ex, Us, Us, Us, Us]) rfl ?_
        show Steps p.tables e below (T_26.setTop (mkF m 101 #[Iv p1, Iv p2, Iv p3, Rv b_1, Iv n, Iv fr1, Iv (1 : Int32), Iv ex, Us, Us, Us, Us] [])) tt_
        refine XS.iload X_26.here hEX rfl (hb hBY at_101) rfl ?_
        show Steps p.tables e below (T_26.setTop (mkF m 103 #[Iv p1, Iv p2, Iv p3, Rv b_1, Iv n, Iv fr1, Iv (1 : Int32), Iv ex, Us, Us, Us, Us] [(.int (1 : Int32))])) tt_
        refine XS.ifNo X_26.here hEX rfl (hb hBY at_103) rfl ((if0 _ _).trans (feq (by decide : ¬ ((1 : Int32) = (0 : Int32)))).1) ?_
        show Steps p.tables e below (T_26.setTop (mkF m 106 #[Iv p1, Iv p2, Iv p3, Rv b_1, Iv n, Iv fr1, Iv (1 : Int32), Iv ex, Us, Us, Us, Us] [])) tt_
        refine XS.aloadN X_26.here hEX rfl (hb hBY at_106) rfl rfl ?_
        exact kt_
      refine Done.pre sg_31 ?_
      obtain ⟨cq_32, kq_32, q_32a, q_32b, q_32c⟩ := isOf hZW rfl hq_26_0
      obtain ⟨_, _, ⟨T_32, L_32, k_32, n_32⟩, -, X_32, ⟨Lc_32, hQ_32, l_32, y_32, z_32⟩, st_32⟩ := X_26.virtualBack hEX (y := (⟨"com/example/actorium/actorium/Claimant$Sends", "depth", "()I"⟩ : MethodName)) (z := (⟨"com/example/actorium/actorium/Claimant$Sends", "depth", "()I"⟩ : MethodName)) hOW (mvT hZW (hw _ (List.mem_of_getElem? (i := 25) rfl))) (mvT hZW (hw _ (List.mem_of_getElem? (i := 26) rfl))) (notFace_of_selects (args := #[]) (mvT hZW (hw _ (List.mem_of_getElem? (i := 28) rfl)))) (mvT hZW (hw _ (List.mem_of_getElem? (i := 28) rfl))) (mvT hZW (hw _ (List.mem_of_getElem? (i := 27) rfl))) (by decide) (backOf (W := 0) (rm_depth l Z aZ hw [] b_1 (own_mn n fr1) T_26.heap n0 (Nat.le_trans Z0 K__27.1) hq_26_1) hZW (hw _ (List.mem_of_getElem? (i := 29) rfl)) (hw _ (List.mem_of_getElem? (i := 2) rfl)) (by decide) (by decide)) q_32a q_32c (g := (mkF m 107 #[Iv p1, Iv p2, Iv p3, Rv b_1, Iv n, Iv fr1, Iv (1 : Int32), Iv ex, Us, Us, Us, Us] [(.ref b_1)])) rfl (by rw [hMX]; rfl) (Steps.refl _) (argsL := []) (rest := []) (lenOf pd___I_0 rfl) rfl (by show 2 * 0 + _ ≤ _; exact Nat.le_of_eq rfl) (hb hBY at_107) (fun _ _ => ⟨rfl, rfl, (by decide : 2 + 0 ≤ _), (by decide : 10 + 0 ≤ _)⟩)
      dsimp only [Pt.U, Pt.locs, Pt.cells, Pt.slots] at X_32 l_32 y_32 z_32 st_32 hQ_32
      subst l_32 y_32 z_32
      obtain ⟨rfl, N_32q, e_32⟩ := hQ_32
      have N_32 := Fr.app N_26 N_32q
      refine Done.pre (fun _ k_ => st_32.trans k_) ?_
      show Done _ _ _ _ _ _ _ (T_32.setTop (mkF m 110 #[Iv p1, Iv p2, Iv p3, Rv b_1, Iv n, Iv fr1, Iv (1 : Int32), Iv ex, Us, Us, Us, Us] [(.int (own_mn n fr1))]))
      have sg_33 : ∀ tt_, Steps p.tables e below (T_32.setTop (mkF m 123 #[Iv p1, Iv p2, Iv p3, Rv b_1, Iv n, Iv fr1, Iv (1 : Int32), Iv ex, Iv (1 : Int32), Us, Us, Us] [(.int p3)])) tt_ → Steps p.tables e below (T_32.setTop (mkF m 110 #[Iv p1, Iv p2, Iv p3, Rv b_1, Iv n, Iv fr1, Iv (1 : Int32), Iv ex, Us, Us, Us, Us] [(.int (own_mn n fr1))])) tt_ := by
        intro tt_ kt_
        refine XS.iload X_32.here hEX rfl (hb hBY at_110) rfl ?_
        show Steps p.tables e below (T_32.setTop (mkF m 112 #[Iv p1, Iv p2, Iv p3, Rv b_1, Iv n, Iv fr1, Iv (1 : Int32), Iv ex, Us, Us, Us, Us] [(.int ex), (.int (own_mn n fr1))])) tt_
        refine XS.icmpNo X_32.here hEX rfl (hb hBY at_112) rfl (teq (hex.symm : (own_mn n fr1) = ex)).2 ?_
        show Steps p.tables e below (T_32.setTop (mkF m 115 #[Iv p1, Iv p2, Iv p3, Rv b_1, Iv n, Iv fr1, Iv (1 : Int32), Iv ex, Us, Us, Us, Us] [])) tt_
        refine XS.iconst X_32.here hEX rfl (hb hBY at_115) ?_
        show Steps p.tables e below (T_32.setTop (mkF m 116 #[Iv p1, Iv p2, Iv p3, Rv b_1, Iv n, Iv fr1, Iv (1 : Int32), Iv ex, Us, Us, Us, Us] [(.int (1 : Int32))])) tt_
        refine XS.goto X_32.here hEX rfl (pc0 := 116) (pc' := 120) rfl (hb hBY at_116) (by decide) (by decide) ?_
        show Steps p.tables e below (T_32.setTop (mkF m 120 #[Iv p1, Iv p2, Iv p3, Rv b_1, Iv n, Iv fr1, Iv (1 : Int32), Iv ex, Us, Us, Us, Us] [(.int (1 : Int32))])) tt_
        refine XS.istore X_32.here hEX rfl (hb hBY at_120) rfl (l' := #[Iv p1, Iv p2, Iv p3, Rv b_1, Iv n, Iv fr1, Iv (1 : Int32), Iv ex, Iv (1 : Int32), Us, Us, Us]) rfl ?_
        show Steps p.tables e below (T_32.setTop (mkF m 122 #[Iv p1, Iv p2, Iv p3, Rv b_1, Iv n, Iv fr1, Iv (1 : Int32), Iv ex, Iv (1 : Int32), Us, Us, Us] [])) tt_
        refine XS.iloadN X_32.here hEX rfl (hb hBY at_122) rfl ?_
        exact kt_
      refine Done.pre sg_33 ?_
      obtain ⟨_, _, ⟨T_34, L_34, k_34, n_34⟩, -, X_34, ⟨Lc_34, hQ_34, l_34, y_34, z_34⟩, st_34⟩ := Jvm.LawKit.callS X_32 hEX (y := (⟨"com/example/actorium/actorium/ClaimantNextLeftPinLaw", "drawFrom", "(I)I"⟩ : MethodName)) hOW (mvT hZW (hw _ (List.mem_of_getElem? (i := 14) rfl))) (mvT hZW (hw _ (List.mem_of_getElem? (i := 15) rfl))) (mvT hZW (hw _ (List.mem_of_getElem? (i := 16) rfl))) (mvT hZW (hw _ (List.mem_of_getElem? (i := 17) rfl))) (by decide) (backOf (W := 0) (rm_draw l Z aZ hw [] p3 T_26.heap n0 (Nat.le_trans Z0 K__27.1) ) hZW (hw _ (List.mem_of_getElem? (i := 17) rfl)) (hw _ (List.mem_of_getElem? (i := 16) rfl)) (by decide) (by decide)) (g := (mkF m 123 #[Iv p1, Iv p2, Iv p3, Rv b_1, Iv n, Iv fr1, Iv (1 : Int32), Iv ex, Iv (1 : Int32), Us, Us, Us] [(.int p3)])) rfl (by rw [hMX]; rfl) (argsL := [(.int p3)]) (rest := []) (lenOf pd__I_I_2 rfl) rfl (by show 2 * 0 + _ ≤ _; exact Nat.le_of_eq rfl) (hb hBY at_123) (fun _ _ => ⟨rfl, e_32, (by decide : 2 + 0 ≤ _), (by decide : 10 + 0 ≤ _)⟩)
      dsimp only [Pt.U, Pt.locs, Pt.cells, Pt.slots] at X_34 l_34 y_34 z_34 st_34 hQ_34
      subst l_34 y_34 z_34
      obtain ⟨rfl, N_34q, e_34⟩ := hQ_34
      have N_34 := Fr.app N_32 N_34q
      refine Done.pre (fun _ k_ => st_34 _ k_) ?_
      show Done _ _ _ _ _ _ _ (T_34.setTop (mkF m 126 #[Iv p1, Iv p2, Iv p3, Rv b_1, Iv n, Iv fr1, Iv (1 : Int32), Iv ex, Iv (1 : Int32), Us, Us, Us] [(.int (own_draw p3))]))
      show Done _ _ _ _ _ _ _ (T_34.setTop (mkF m 126 #[Iv p1, Iv p2, Iv p3, Rv b_1, Iv n, Iv fr1, Iv (1 : Int32), Iv ex, Iv (1 : Int32), Us, Us, Us] [(.int (own_draw p3))]))
      obtain ⟨fr2, hfr2⟩ : ∃ z : Int32, z = (own_draw p3) := ⟨_, rfl⟩
      rw [← hfr2]
      show Done _ _ _ _ _ _ _ (T_34.setTop (mkF m 126 #[Iv p1, Iv p2, Iv p3, Rv b_1, Iv n, Iv fr1, Iv (1 : Int32), Iv ex, Iv (1 : Int32), Us, Us, Us] [(.int fr2)]))
      have hg2 : 0 ≤ fr2.toInt := by rw [hfr2]; exact own_draw0 _
      have sg_35 : ∀ tt_, Steps p.tables e below (T_34.setTop (mkF m 131 #[Iv p1, Iv p2, Iv p3, Rv b_1, Iv n, Iv fr1, Iv (1 : Int32), Iv ex, Iv (1 : Int32), Iv fr2, Us, Us] [(.int fr2), (.ref b_1)])) tt_ → Steps p.tables e below (T_34.setTop (mkF m 126 #[Iv p1, Iv p2, Iv p3, Rv b_1, Iv n, Iv fr1, Iv (1 : Int32), Iv ex, Iv (1 : Int32), Us, Us, Us] [(.int fr2)])) tt_ := by
        intro tt_ kt_
        refine XS.istore X_34.here hEX rfl (hb hBY at_126) rfl (l' := #[Iv p1, Iv p2, Iv p3, Rv b_1, Iv n, Iv fr1, Iv (1 : Int32), Iv ex, Iv (1 : Int32), Iv fr2, Us, Us]) rfl ?_
        show Steps p.tables e below (T_34.setTop (mkF m 128 #[Iv p1, Iv p2, Iv p3, Rv b_1, Iv n, Iv fr1, Iv (1 : Int32), Iv ex, Iv (1 : Int32), Iv fr2, Us, Us] [])) tt_
        refine XS.aloadN X_34.here hEX rfl (hb hBY at_128) rfl rfl ?_
        show Steps p.tables e below (T_34.setTop (mkF m 129 #[Iv p1, Iv p2, Iv p3, Rv b_1, Iv n, Iv fr1, Iv (1 : Int32), Iv ex, Iv (1 : Int32), Iv fr2, Us, Us] [(.ref b_1)])) tt_
        refine XS.iload X_34.here hEX rfl (hb hBY at_129) rfl ?_
        exact kt_
      refine Done.pre sg_35 ?_
      obtain ⟨cq_36, kq_36, q_36a, q_36b, q_36c⟩ := isOf hZW e_34 hq_26_0
      obtain ⟨_, _, ⟨T_36, L_36, k_36, n_36⟩, -, X_36, ⟨Lc_36, hQ_36, l_36, y_36, z_36⟩, st_36⟩ := X_34.virtualBack hEX (y := (⟨"com/example/actorium/actorium/Claimant$Sends", "nextLeft", "(I)Lcom/example/actorium/actorium/DispatchedCell;"⟩ : MethodName)) (z := (⟨"com/example/actorium/actorium/Claimant$Sends", "nextLeft", "(I)Lcom/example/actorium/actorium/DispatchedCell;"⟩ : MethodName)) hOW (mvT hZW (hw _ (List.mem_of_getElem? (i := 18) rfl))) (mvT hZW (hw _ (List.mem_of_getElem? (i := 19) rfl))) (notFace_of_selects (args := #[]) (mvT hZW (hw _ (List.mem_of_getElem? (i := 21) rfl)))) (mvT hZW (hw _ (List.mem_of_getElem? (i := 21) rfl))) (mvT hZW (hw _ (List.mem_of_getElem? (i := 20) rfl))) (by decide) (backOf (W := 0) (rm_next l Z aZ hw [] b_1 fr2 (own_mn n fr1) b__7 k__7 T_26.heap n0 (Nat.le_trans Z0 K__27.1) hq_26_0 hq_26_1 hq_26_2 hq_26_3 ge_b_1 (Nat.le_trans Z0 sz_b__7) ne_b_1_b__7 (own_mnr n fr1 hn4 hg1) hg2) hZW (hw _ (List.mem_of_getElem? (i := 22) rfl)) (hw _ (List.mem_of_getElem? (i := 2) rfl)) (by decide) (by decide)) q_36a q_36c (g := (mkF m 131 #[Iv p1, Iv p2, Iv p3, Rv b_1, Iv n, Iv fr1, Iv (1 : Int32), Iv ex, Iv (1 : Int32), Iv fr2, Us, Us] [(.int fr2), (.ref b_1)])) rfl (by rw [hMX]; rfl) (Steps.refl _) (argsL := [(.int fr2)]) (rest := []) (lenOf pd__I_Lcom_example_actorium_actorium_DispatchedCell__3 rfl) rfl (by show 2 * 0 + _ ≤ _; exact Nat.le_of_eq rfl) (hb hBY at_131) (fun _ _ => ⟨rfl, e_34, (by decide : 2 + 0 ≤ _), (by decide : 10 + 0 ≤ _)⟩)
      dsimp only [Pt.U, Pt.locs, Pt.cells, Pt.slots] at X_36 l_36 y_36 z_36 st_36 hQ_36
      subst l_36 y_36 z_36
      obtain ⟨rfl, N_36q, K_36, hq_36_0, hq_36_1, hq_36_2, hq_36_3⟩ := hQ_36
      have N_36 := Fr.app N_34 N_36q
      have K__37 : Keep h0 T_36.heap [] := K__27.trans K_36 (allS (Or.inr sz_b_1) (allS (Or.inr sz_b__7) all0))
      have f_38 : Exa Z T_36.heap b_1 "com/example/actorium/actorium/Claimant$Sends" := hq_26_0.keep K_36
      refine Done.pre (fun _ k_ => st_36.trans k_) ?_
      show Done _ _ _ _ _ _ _ (T_36.setTop (mkF m 134 #[Iv p1, Iv p2, Iv p3, Rv b_1, Iv n, Iv fr1, Iv (1 : Int32), Iv ex, Iv (1 : Int32), Iv fr2, Us, Us] [.null]))
      have sg_39 : ∀ tt_, Steps p.tables e below (T_36.setTop (mkF m 144 #[Iv p1, Iv p2, Iv p3, Rv b_1, Iv n, Iv fr1, Iv (1 : Int32), Iv ex, Iv (1 : Int32), Iv fr2, Iv (1 : Int32), Us] [])) tt_ → Steps p.tables e below (T_36.setTop (mkF m 134 #[Iv p1, Iv p2, Iv p3, Rv b_1, Iv n, Iv fr1, Iv (1 : Int32), Iv ex, Iv (1 : Int32), Iv fr2, Us, Us] [.null])) tt_ := by
        intro tt_ kt_
        refine XS.ifnonnullNo X_36.here hEX rfl (hb hBY at_134) rfl ?_
        show Steps p.tables e below (T_36.setTop (mkF m 137 #[Iv p1, Iv p2, Iv p3, Rv b_1, Iv n, Iv fr1, Iv (1 : Int32), Iv ex, Iv (1 : Int32), Iv fr2, Us, Us] [])) tt_
        refine XS.iconst X_36.here hEX rfl (hb hBY at_137) ?_
        show Steps p.tables e below (T_36.setTop (mkF m 138 #[Iv p1, Iv p2, Iv p3, Rv b_1, Iv n, Iv fr1, Iv (1 : Int32), Iv ex, Iv (1 : Int32), Iv fr2, Us, Us] [(.int (1 : Int32))])) tt_
        refine XS.goto X_36.here hEX rfl (pc0 := 138) (pc' := 142) rfl (hb hBY at_138) (by decide) (by decide) ?_
        show Steps p.tables e below (T_36.setTop (mkF m 142 #[Iv p1, Iv p2, Iv p3, Rv b_1, Iv n, Iv fr1, Iv (1 : Int32), Iv ex, Iv (1 : Int32), Iv fr2, Us, Us] [(.int (1 : Int32))])) tt_
        refine XS.istore X_36.here hEX rfl (hb hBY at_142) rfl (l' := #[Iv p1, Iv p2, Iv p3, Rv b_1, Iv n, Iv fr1, Iv (1 : Int32), Iv ex, Iv (1 : Int32), Iv fr2, Iv (1 : Int32), Us]) rfl ?_
        exact kt_
      refine Done.pre sg_39 ?_
      have jn_40 : ∀ (ey : Int32) (hey : ey = own_mn ex fr2), Done p e below s (Qrm0 Z p1 p2 p3 h0 n0) room_1.cells room_1.slots (T_36.setTop (mkF m 158 #[Iv p1, Iv p2, Iv p3, Rv b_1, Iv n, Iv fr1, Iv (1 : Int32), Iv ex, Iv (1 : Int32), Iv fr2, Iv (1 : Int32), Us] [(.int ey)])) := by
        intro ey hey
        show Done _ _ _ _ _ _ _ (T_36.setTop (mkF m 158 #[Iv p1, Iv p2, Iv p3, Rv b_1, Iv n, Iv fr1, Iv (1 : Int32), Iv ex, Iv (1 : Int32), Iv fr2, Iv (1 : Int32), Us] [(.int ey)]))
        have sg_41 : ∀ tt_, Steps p.tables e below (T_36.setTop (mkF m 171 #[Iv p1, Iv p2, Iv p3, Rv b_1, Iv n, Iv fr1, Iv (1 : Int32), Iv ex, Iv (1 : Int32), Iv fr2, Iv (1 : Int32), Iv ey] [(.ref b_1)])) tt_ → Steps p.tables e below (T_36.setTop (mkF m 158 #[Iv p1, Iv p2, Iv p3, Rv b_1, Iv n, Iv fr1, Iv (1 : Int32), Iv ex, Iv (1 : Int32), Iv fr2, Iv (1 : Int32), Us] [(.int ey)])) tt_ := by
          intro tt_ kt_
          refine XS.istore X_36.here hEX rfl (hb hBY at_158) rfl (l' := #[Iv p1, Iv p2, Iv p3, Rv b_1, Iv n, Iv fr1, Iv (1 : Int32), Iv ex, Iv (1 : Int32), Iv fr2, Iv (1 : Int32), Iv ey]) rfl ?_
          show Steps p.tables e below (T_36.setTop (mkF m 160 #[Iv p1, Iv p2, Iv p3, Rv b_1, Iv n, Iv fr1, Iv (1 : Int32), Iv ex, Iv (1 : Int32), Iv fr2, Iv (1 : Int32), Iv ey] [])) tt_
          refine XS.iload X_36.here hEX rfl (hb hBY at_160) rfl ?_
          show Steps p.tables e below (T_36.setTop (mkF m 162 #[Iv p1, Iv p2, Iv p3, Rv b_1, Iv n, Iv fr1, Iv (1 : Int32), Iv ex, Iv (1 : Int32), Iv fr2, Iv (1 : Int32), Iv ey] [(.int (1 : Int32))])) tt_
          refine XS.ifNo X_36.here hEX rfl (hb hBY at_162) rfl ((if0 _ _).trans (feq (by decide : ¬ ((1 : Int32) = (0 : Int32)))).1) ?_
          show Steps p.tables e below (T_36.setTop (mkF m 165 #[Iv p1, Iv p2, Iv p3, Rv b_1, Iv n, Iv fr1, Iv (1 : Int32), Iv ex, Iv (1 : Int32), Iv fr2, Iv (1 : Int32), Iv ey] [])) tt_
          refine XS.iload X_36.here hEX rfl (hb hBY at_165) rfl ?_
          show Steps p.tables e below (T_36.setTop (mkF m 167 #[Iv p1, Iv p2, Iv p3, Rv b_1, Iv n, Iv fr1, Iv (1 : Int32), Iv ex, Iv (1 : Int32), Iv fr2, Iv (1 : Int32), Iv ey] [(.int (1 : Int32))])) tt_
          refine XS.ifNo X_36.here hEX rfl (hb hBY at_167) rfl ((if0 _ _).trans (feq (by decide : ¬ ((1 : Int32) = (0 : Int32)))).1) ?_
          show Steps p.tables e below (T_36.setTop (mkF m 170 #[Iv p1, Iv p2, Iv p3, Rv b_1, Iv n, Iv fr1, Iv (1 : Int32), Iv ex, Iv (1 : Int32), Iv fr2, Iv (1 : Int32), Iv ey] [])) tt_
          refine XS.aloadN X_36.here hEX rfl (hb hBY at_170) rfl rfl ?_
          exact kt_
        refine Done.pre sg_41 ?_
        obtain ⟨cq_42, kq_42, q_42a, q_42b, q_42c⟩ := isOf hZW rfl hq_36_0
        obtain ⟨_, _, ⟨T_42, L_42, k_42, n_42⟩, -, X_42, ⟨Lc_42, hQ_42, l_42, y_42, z_42⟩, st_42⟩ := X_36.virtualBack hEX (y := (⟨"com/example/actorium/actorium/Claimant$Sends", "depth", "()I"⟩ : MethodName)) (z := (⟨"com/example/actorium/actorium/Claimant$Sends", "depth", "()I"⟩ : MethodName)) hOW (mvT hZW (hw _ (List.mem_of_getElem? (i := 25) rfl))) (mvT hZW (hw _ (List.mem_of_getElem? (i := 26) rfl))) (notFace_of_selects (args := #[]) (mvT hZW (hw _ (List.mem_of_getElem? (i := 28) rfl)))) (mvT hZW (hw _ (List.mem_of_getElem? (i := 28) rfl))) (mvT hZW (hw _ (List.mem_of_getElem? (i := 27) rfl))) (by decide) (backOf (W := 0) (rm_depth l Z aZ hw [] b_1 (own_mn (own_mn n fr1) fr2) T_36.heap n0 (Nat.le_trans Z0 K__37.1) hq_36_1) hZW (hw _ (List.mem_of_getElem? (i := 29) rfl)) (hw _ (List.mem_of_getElem? (i := 2) rfl)) (by decide) (by decide)) q_42a q_42c (g := (mkF m 171 #[Iv p1, Iv p2, Iv p3, Rv b_1, Iv n, Iv fr1, Iv (1 : Int32), Iv ex, Iv (1 : Int32), Iv fr2, Iv (1 : Int32), Iv ey] [(.ref b_1)])) rfl (by rw [hMX]; rfl) (Steps.refl _) (argsL := []) (rest := []) (lenOf pd___I_0 rfl) rfl (by show 2 * 0 + _ ≤ _; exact Nat.le_of_eq rfl) (hb hBY at_171) (fun _ _ => ⟨rfl, rfl, (by decide : 2 + 0 ≤ _), (by decide : 10 + 0 ≤ _)⟩)
        dsimp only [Pt.U, Pt.locs, Pt.cells, Pt.slots] at X_42 l_42 y_42 z_42 st_42 hQ_42
        subst l_42 y_42 z_42
        obtain ⟨rfl, N_42q, e_42⟩ := hQ_42
        have N_42 := Fr.app N_36 N_42q
        refine Done.pre (fun _ k_ => st_42.trans k_) ?_
        show Done _ _ _ _ _ _ _ (T_42.setTop (mkF m 174 #[Iv p1, Iv p2, Iv p3, Rv b_1, Iv n, Iv fr1, Iv (1 : Int32), Iv ex, Iv (1 : Int32), Iv fr2, Iv (1 : Int32), Iv ey] [(.int (own_mn (own_mn n fr1) fr2))]))
        have sg_43 : ∀ tt_, Steps p.tables e below (T_42.setTop (mkF m 184 #[Iv p1, Iv p2, Iv p3, Rv b_1, Iv n, Iv fr1, Iv (1 : Int32), Iv ex, Iv (1 : Int32), Iv fr2, Iv (1 : Int32), Iv ey] [(.int (1 : Int32))])) tt_ → Steps p.tables e below (T_42.setTop (mkF m 174 #[Iv p1, Iv p2, Iv p3, Rv b_1, Iv n, Iv fr1, Iv (1 : Int32), Iv ex, Iv (1 : Int32), Iv fr2, Iv (1 : Int32), Iv ey] [(.int (own_mn (own_mn n fr1) fr2))])) tt_ := by
          intro tt_ kt_
          refine XS.iload X_42.here hEX rfl (hb hBY at_174) rfl ?_
          show Steps p.tables e below (T_42.setTop (mkF m 176 #[Iv p1, Iv p2, Iv p3, Rv b_1, Iv n, Iv fr1, Iv (1 : Int32), Iv ex, Iv (1 : Int32), Iv fr2, Iv (1 : Int32), Iv ey] [(.int ey), (.int (own_mn (own_mn n fr1) fr2))])) tt_
          refine XS.icmpNo X_42.here hEX rfl (hb hBY at_176) rfl (teq ((by rw [hey, hex]) : (own_mn (own_mn n fr1) fr2) = ey)).2 ?_
          show Steps p.tables e below (T_42.setTop (mkF m 179 #[Iv p1, Iv p2, Iv p3, Rv b_1, Iv n, Iv fr1, Iv (1 : Int32), Iv ex, Iv (1 : Int32), Iv fr2, Iv (1 : Int32), Iv ey] [])) tt_
          refine XS.iconst X_42.here hEX rfl (hb hBY at_179) ?_
          show Steps p.tables e below (T_42.setTop (mkF m 180 #[Iv p1, Iv p2, Iv p3, Rv b_1, Iv n, Iv fr1, Iv (1 : Int32), Iv ex, Iv (1 : Int32), Iv fr2, Iv (1 : Int32), Iv ey] [(.int (1 : Int32))])) tt_
          refine XS.goto X_42.here hEX rfl (pc0 := 180) (pc' := 184) rfl (hb hBY at_180) (by decide) (by decide) ?_
          exact kt_
        refine Done.pre sg_43 ?_
        exact Done.retN X_42 hEX hLK (t := .boolean) hRT (by simp) (hb hBY at_184) (by rw [e_42]; exact ⟨rfl, N_42, K__37⟩) (by decide) (by decide)
      show Done _ _ _ _ _ _ _ (T_36.setTop (mkF m 144 #[Iv p1, Iv p2, Iv p3, Rv b_1, Iv n, Iv fr1, Iv (1 : Int32), Iv ex, Iv (1 : Int32), Iv fr2, Iv (1 : Int32), Us] []))
      have sg_44 : ∀ tt_, Steps p.tables e below (T_36.setTop (mkF m 148 #[Iv p1, Iv p2, Iv p3, Rv b_1, Iv n, Iv fr1, Iv (1 : Int32), Iv ex, Iv (1 : Int32), Iv fr2, Iv (1 : Int32), Us] [(.int fr2), (.int ex)])) tt_ → Steps p.tables e below (T_36.setTop (mkF m 144 #[Iv p1, Iv p2, Iv p3, Rv b_1, Iv n, Iv fr1, Iv (1 : Int32), Iv ex, Iv (1 : Int32), Iv fr2, Iv (1 : Int32), Us] [])) tt_ := by
        intro tt_ kt_
        refine XS.iload X_36.here hEX rfl (hb hBY at_144) rfl ?_
        show Steps p.tables e below (T_36.setTop (mkF m 146 #[Iv p1, Iv p2, Iv p3, Rv b_1, Iv n, Iv fr1, Iv (1 : Int32), Iv ex, Iv (1 : Int32), Iv fr2, Iv (1 : Int32), Us] [(.int ex)])) tt_
        refine XS.iload X_36.here hEX rfl (hb hBY at_146) rfl ?_
        exact kt_
      refine Done.pre sg_44 ?_
      by_cases hc148 : fr2 < ex
      · skip
        have sg_45 : ∀ tt_, Steps p.tables e below (T_36.setTop (mkF m 158 #[Iv p1, Iv p2, Iv p3, Rv b_1, Iv n, Iv fr1, Iv (1 : Int32), Iv ex, Iv (1 : Int32), Iv fr2, Iv (1 : Int32), Us] [(.int fr2)])) tt_ → Steps p.tables e below (T_36.setTop (mkF m 148 #[Iv p1, Iv p2, Iv p3, Rv b_1, Iv n, Iv fr1, Iv (1 : Int32), Iv ex, Iv (1 : Int32), Iv fr2, Iv (1 : Int32), Us] [(.int fr2), (.int ex)])) tt_ := by
          intro tt_ kt_
          refine XS.icmpNo X_36.here hEX rfl (hb hBY at_148) rfl (tlt hc148).2.2.2 ?_
          show Steps p.tables e below (T_36.setTop (mkF m 151 #[Iv p1, Iv p2, Iv p3, Rv b_1, Iv n, Iv fr1, Iv (1 : Int32), Iv ex, Iv (1 : Int32), Iv fr2, Iv (1 : Int32), Us] [])) tt_
          refine XS.iload X_36.here hEX rfl (hb hBY at_151) rfl ?_
          show Steps p.tables e below (T_36.setTop (mkF m 153 #[Iv p1, Iv p2, Iv p3, Rv b_1, Iv n, Iv fr1, Iv (1 : Int32), Iv ex, Iv (1 : Int32), Iv fr2, Iv (1 : Int32), Us] [(.int fr2)])) tt_
          refine XS.goto X_36.here hEX rfl (pc0 := 153) (pc' := 158) rfl (hb hBY at_153) (by decide) (by decide) ?_
          exact kt_
        refine Done.pre sg_45 ?_
        exact jn_40 (fr2) (by rw [own_mn]; first | rw [if_pos hc148] | rw [if_neg hc148])
      · skip
        have sg_46 : ∀ tt_, Steps p.tables e below (T_36.setTop (mkF m 158 #[Iv p1, Iv p2, Iv p3, Rv b_1, Iv n, Iv fr1, Iv (1 : Int32), Iv ex, Iv (1 : Int32), Iv fr2, Iv (1 : Int32), Us] [(.int ex)])) tt_ → Steps p.tables e below (T_36.setTop (mkF m 148 #[Iv p1, Iv p2, Iv p3, Rv b_1, Iv n, Iv fr1, Iv (1 : Int32), Iv ex, Iv (1 : Int32), Iv fr2, Iv (1 : Int32), Us] [(.int fr2), (.int ex)])) tt_ := by
          intro tt_ kt_
          refine XS.icmpYes X_36.here hEX rfl (pc0 := 148) (pc' := 156) rfl (hb hBY at_148) rfl (flt hc148).2.2.2 (by decide) (by decide) ?_
          show Steps p.tables e below (T_36.setTop (mkF m 156 #[Iv p1, Iv p2, Iv p3, Rv b_1, Iv n, Iv fr1, Iv (1 : Int32), Iv ex, Iv (1 : Int32), Iv fr2, Iv (1 : Int32), Us] [])) tt_
          refine XS.iload X_36.here hEX rfl (hb hBY at_156) rfl ?_
          exact kt_
        refine Done.pre sg_46 ?_
        exact jn_40 (ex) (by rw [own_mn]; first | rw [if_pos hc148] | rw [if_neg hc148])
    show Done _ _ _ _ _ _ _ (T_26.setTop (mkF m 85 #[Iv p1, Iv p2, Iv p3, Rv b_1, Iv n, Iv fr1, Iv (1 : Int32), Us, Us, Us, Us, Us] []))
    have sg_47 : ∀ tt_, Steps p.tables e below (T_26.setTop (mkF m 89 #[Iv p1, Iv p2, Iv p3, Rv b_1, Iv n, Iv fr1, Iv (1 : Int32), Us, Us, Us, Us, Us] [(.int fr1), (.int n)])) tt_ → Steps p.tables e below (T_26.setTop (mkF m 85 #[Iv p1, Iv p2, Iv p3, Rv b_1, Iv n, Iv fr1, Iv (1 : Int32), Us, Us, Us, Us, Us] [])) tt_ := by
      intro tt_ kt_
      refine XS.iload X_26.here hEX rfl (hb hBY at_85) rfl ?_
      show Steps p.tables e below (T_26.setTop (mkF m 87 #[Iv p1, Iv p2, Iv p3, Rv b_1, Iv n, Iv fr1, Iv (1 : Int32), Us, Us, Us, Us, Us] [(.int n)])) tt_
      refine XS.iload X_26.here hEX rfl (hb hBY at_87) rfl ?_
      exact kt_
    refine Done.pre sg_47 ?_
    by_cases hc89 : fr1 < n
    · skip
      have sg_48 : ∀ tt_, Steps p.tables e below (T_26.setTop (mkF m 99 #[Iv p1, Iv p2, Iv p3, Rv b_1, Iv n, Iv fr1, Iv (1 : Int32), Us, Us, Us, Us, Us] [(.int fr1)])) tt_ → Steps p.tables e below (T_26.setTop (mkF m 89 #[Iv p1, Iv p2, Iv p3, Rv b_1, Iv n, Iv fr1, Iv (1 : Int32), Us, Us, Us, Us, Us] [(.int fr1), (.int n)])) tt_ := by
        intro tt_ kt_
        refine XS.icmpNo X_26.here hEX rfl (hb hBY at_89) rfl (tlt hc89).2.2.2 ?_
        show Steps p.tables e below (T_26.setTop (mkF m 92 #[Iv p1, Iv p2, Iv p3, Rv b_1, Iv n, Iv fr1, Iv (1 : Int32), Us, Us, Us, Us, Us] [])) tt_
        refine XS.iload X_26.here hEX rfl (hb hBY at_92) rfl ?_
        show Steps p.tables e below (T_26.setTop (mkF m 94 #[Iv p1, Iv p2, Iv p3, Rv b_1, Iv n, Iv fr1, Iv (1 : Int32), Us, Us, Us, Us, Us] [(.int fr1)])) tt_
        refine XS.goto X_26.here hEX rfl (pc0 := 94) (pc' := 99) rfl (hb hBY at_94) (by decide) (by decide) ?_
        exact kt_
      refine Done.pre sg_48 ?_
      exact jn_30 (fr1) (by rw [own_mn]; first | rw [if_pos hc89] | rw [if_neg hc89])
    · skip
      have sg_49 : ∀ tt_, Steps p.tables e below (T_26.setTop (mkF m 99 #[Iv p1, Iv p2, Iv p3, Rv b_1, Iv n, Iv fr1, Iv (1 : Int32), Us, Us, Us, Us, Us] [(.int n)])) tt_ → Steps p.tables e below (T_26.setTop (mkF m 89 #[Iv p1, Iv p2, Iv p3, Rv b_1, Iv n, Iv fr1, Iv (1 : Int32), Us, Us, Us, Us, Us] [(.int fr1), (.int n)])) tt_ := by
        intro tt_ kt_
        refine XS.icmpYes X_26.here hEX rfl (pc0 := 89) (pc' := 97) rfl (hb hBY at_89) rfl (flt hc89).2.2.2 (by decide) (by decide) ?_
        show Steps p.tables e below (T_26.setTop (mkF m 97 #[Iv p1, Iv p2, Iv p3, Rv b_1, Iv n, Iv fr1, Iv (1 : Int32), Us, Us, Us, Us, Us] [])) tt_
        refine XS.iload X_26.here hEX rfl (hb hBY at_97) rfl ?_
        exact kt_
      refine Done.pre sg_49 ?_
      exact jn_30 (n) (by rw [own_mn]; first | rw [if_pos hc89] | rw [if_neg hc89])
  show Done _ _ _ _ _ _ _ (T_7.setTop (mkF m 14 #[Iv p1, Iv p2, Iv p3, Rv b_1, Us, Us, Us, Us, Us, Us, Us, Us] [(.int n0_)]))
  rcases hn3 with rfl | rfl | rfl | rfl | rfl
  · skip
    show Done _ _ _ _ _ _ _ (T_7.setTop (mkF m 14 #[Iv p1, Iv p2, Iv p3, Rv b_1, Us, Us, Us, Us, Us, Us, Us, Us] [(.int (0 : Int32))]))
    have sg_50 : ∀ tt_, Steps p.tables e below (T_7.setTop (mkF m 63 #[Iv p1, Iv p2, Iv p3, Rv b_1, Iv (0 : Int32), Us, Us, Us, Us, Us, Us, Us] [])) tt_ → Steps p.tables e below (T_7.setTop (mkF m 14 #[Iv p1, Iv p2, Iv p3, Rv b_1, Us, Us, Us, Us, Us, Us, Us, Us] [(.int (0 : Int32))])) tt_ := by
      intro tt_ kt_
      refine XS.istore X_7.here hEX rfl (hb hBY at_14) rfl (l' := #[Iv p1, Iv p2, Iv p3, Rv b_1, Iv (0 : Int32), Us, Us, Us, Us, Us, Us, Us]) rfl ?_
      show Steps p.tables e below (T_7.setTop (mkF m 16 #[Iv p1, Iv p2, Iv p3, Rv b_1, Iv (0 : Int32), Us, Us, Us, Us, Us, Us, Us] [])) tt_
      refine XS.iload X_7.here hEX rfl (hb hBY at_16) rfl ?_
      show Steps p.tables e below (T_7.setTop (mkF m 18 #[Iv p1, Iv p2, Iv p3, Rv b_1, Iv (0 : Int32), Us, Us, Us, Us, Us, Us, Us] [(.int (0 : Int32))])) tt_
      refine XS.ifYes X_7.here hEX rfl (pc0 := 18) (pc' := 27) rfl (hb hBY at_18) rfl ((if0 _ _).trans (flt (by decide : ¬ ((0 : Int32) < (0 : Int32)))).2.2.2) (by decide) (by decide) ?_
      show Steps p.tables e below (T_7.setTop (mkF m 27 #[Iv p1, Iv p2, Iv p3, Rv b_1, Iv (0 : Int32), Us, Us, Us, Us, Us, Us, Us] [])) tt_
      refine XS.iload X_7.here hEX rfl (hb hBY at_27) rfl ?_
      show Steps p.tables e below (T_7.setTop (mkF m 29 #[Iv p1, Iv p2, Iv p3, Rv b_1, Iv (0 : Int32), Us, Us, Us, Us, Us, Us, Us] [(.int (0 : Int32))])) tt_
      refine XS.iconst X_7.here hEX rfl (hb hBY at_29) ?_
      show Steps p.tables e below (T_7.setTop (mkF m 30 #[Iv p1, Iv p2, Iv p3, Rv b_1, Iv (0 : Int32), Us, Us, Us, Us, Us, Us, Us] [(.int (1 : Int32)), (.int (0 : Int32))])) tt_
      refine XS.icmpYes X_7.here hEX rfl (pc0 := 30) (pc' := 39) rfl (hb hBY at_30) rfl (flt (by decide : ¬ ((1 : Int32) < (0 : Int32)))).2.2.2 (by decide) (by decide) ?_
      show Steps p.tables e below (T_7.setTop (mkF m 39 #[Iv p1, Iv p2, Iv p3, Rv b_1, Iv (0 : Int32), Us, Us, Us, Us, Us, Us, Us] [])) tt_
      refine XS.iload X_7.here hEX rfl (hb hBY at_39) rfl ?_
      show Steps p.tables e below (T_7.setTop (mkF m 41 #[Iv p1, Iv p2, Iv p3, Rv b_1, Iv (0 : Int32), Us, Us, Us, Us, Us, Us, Us] [(.int (0 : Int32))])) tt_
      refine XS.iconst X_7.here hEX rfl (hb hBY at_41) ?_
      show Steps p.tables e below (T_7.setTop (mkF m 42 #[Iv p1, Iv p2, Iv p3, Rv b_1, Iv (0 : Int32), Us, Us, Us, Us, Us, Us, Us] [(.int (2 : Int32)), (.int (0 : Int32))])) tt_
      refine XS.icmpYes X_7.here hEX rfl (pc0 := 42) (pc' := 51) rfl (hb hBY at_42) rfl (flt (by decide : ¬ ((2 : Int32) < (0 : Int32)))).2.2.2 (by decide) (by decide) ?_
      show Steps p.tables e below (T_7.setTop (mkF m 51 #[Iv p1, Iv p2, Iv p3, Rv b_1, Iv (0 : Int32), Us, Us, Us, Us, Us, Us, Us] [])) tt_
      refine XS.iload X_7.here hEX rfl (hb hBY at_51) rfl ?_
      show Steps p.tables e below (T_7.setTop (mkF m 53 #[Iv p1, Iv p2, Iv p3, Rv b_1, Iv (0 : Int32), Us, Us, Us, Us, Us, Us, Us] [(.int (0 : Int32))])) tt_
      refine XS.iconst X_7.here hEX rfl (hb hBY at_53) ?_
      show Steps p.tables e below (T_7.setTop (mkF m 54 #[Iv p1, Iv p2, Iv p3, Rv b_1, Iv (0 : Int32), Us, Us, Us, Us, Us, Us, Us] [(.int (3 : Int32)), (.int (0 : Int32))])) tt_
      refine XS.icmpYes X_7.here hEX rfl (pc0 := 54) (pc' := 63) rfl (hb hBY at_54) rfl (flt (by decide : ¬ ((3 : Int32) < (0 : Int32)))).2.2.2 (by decide) (by decide) ?_
      exact kt_
    refine Done.pre sg_50 ?_
    exact jn_11 T_7 T_7.heap _ X_7 rfl N_7 K__8 ((0 : Int32)) hq_7_0 hq_7_1 hq_7_2 hq_7_3 (by decide)
  · skip
    show Done _ _ _ _ _ _ _ (T_7.setTop (mkF m 14 #[Iv p1, Iv p2, Iv p3, Rv b_1, Us, Us, Us, Us, Us, Us, Us, Us] [(.int (1 : Int32))]))
    have sg_51 : ∀ tt_, Steps p.tables e below (T_7.setTop (mkF m 23 #[Iv p1, Iv p2, Iv p3, Rv b_1, Iv (1 : Int32), Us, Us, Us, Us, Us, Us, Us] [.null, (.ref b_1)])) tt_ → Steps p.tables e below (T_7.setTop (mkF m 14 #[Iv p1, Iv p2, Iv p3, Rv b_1, Us, Us, Us, Us, Us, Us, Us, Us] [(.int (1 : Int32))])) tt_ := by
      intro tt_ kt_
      refine XS.istore X_7.here hEX rfl (hb hBY at_14) rfl (l' := #[Iv p1, Iv p2, Iv p3, Rv b_1, Iv (1 : Int32), Us, Us, Us, Us, Us, Us, Us]) rfl ?_
      show Steps p.tables e below (T_7.setTop (mkF m 16 #[Iv p1, Iv p2, Iv p3, Rv b_1, Iv (1 : Int32), Us, Us, Us, Us, Us, Us, Us] [])) tt_
      refine XS.iload X_7.here hEX rfl (hb hBY at_16) rfl ?_
      show Steps p.tables e below (T_7.setTop (mkF m 18 #[Iv p1, Iv p2, Iv p3, Rv b_1, Iv (1 : Int32), Us, Us, Us, Us, Us, Us, Us] [(.int (1 : Int32))])) tt_
      refine XS.ifNo X_7.here hEX rfl (hb hBY at_18) rfl ((if0 _ _).trans (tlt (by decide : (0 : Int32) < (1 : Int32))).2.2.2) ?_
      show Steps p.tables e below (T_7.setTop (mkF m 21 #[Iv p1, Iv p2, Iv p3, Rv b_1, Iv (1 : Int32), Us, Us, Us, Us, Us, Us, Us] [])) tt_
      refine XS.aloadN X_7.here hEX rfl (hb hBY at_21) rfl rfl ?_
      show Steps p.tables e below (T_7.setTop (mkF m 22 #[Iv p1, Iv p2, Iv p3, Rv b_1, Iv (1 : Int32), Us, Us, Us, Us, Us, Us, Us] [(.ref b_1)])) tt_
      refine XS.aconstNull X_7.here hEX rfl (hb hBY at_22) ?_
      exact kt_
    refine Done.pre sg_51 ?_
    obtain ⟨cq_52, kq_52, q_52a, q_52b, q_52c⟩ := isOf hZW rfl hq_7_0
    obtain ⟨_, _, ⟨T_52, L_52, k_52, n_52⟩, -, X_52, ⟨Lc_52, hQ_52, l_52, y_52, z_52⟩, st_52⟩ := X_7.virtualBack hEX (y := (⟨"com/example/actorium/actorium/Claimant$Sends", "begin", "(Lcom/example/actorium/actorium/DispatchedCell;)I"⟩ : MethodName)) (z := (⟨"com/example/actorium/actorium/Claimant$Sends", "begin", "(Lcom/example/actorium/actorium/DispatchedCell;)I"⟩ : MethodName)) hOW (mvT hZW (hw _ (List.mem_of_getElem? (i := 30) rfl))) (mvT hZW (hw _ (List.mem_of_getElem? (i := 31) rfl))) (notFace_of_selects (args := #[]) (mvT hZW (hw _ (List.mem_of_getElem? (i := 33) rfl)))) (mvT hZW (hw _ (List.mem_of_getElem? (i := 33) rfl))) (mvT hZW (hw _ (List.mem_of_getElem? (i := 32) rfl))) (by decide) (backOf (W := 0) (rm_begin l Z aZ hw [] b_1 (0 : Int32) b__7 k__7 T_7.heap n0 (Nat.le_trans Z0 K__8.1) hq_7_0 hq_7_1 hq_7_2 hq_7_3 ge_b_1 (Nat.le_trans Z0 sz_b__7) ne_b_1_b__7 (by decide)) hZW (hw _ (List.mem_of_getElem? (i := 34) rfl)) (hw _ (List.mem_of_getElem? (i := 2) rfl)) (by decide) (by decide)) q_52a q_52c (g := (mkF m 23 #[Iv p1, Iv p2, Iv p3, Rv b_1, Iv (1 : Int32), Us, Us, Us, Us, Us, Us, Us] [.null, (.ref b_1)])) rfl (by rw [hMX]; rfl) (Steps.refl _) (argsL := [.null]) (rest := []) (lenOf pd__Lcom_example_actorium_actorium_DispatchedCell__I_4 rfl) rfl (by show 2 * 0 + _ ≤ _; exact Nat.le_of_eq rfl) (hb hBY at_23) (fun _ _ => ⟨rfl, rfl, (by decide : 2 + 0 ≤ _), (by decide : 10 + 0 ≤ _)⟩)
    dsimp only [Pt.U, Pt.locs, Pt.cells, Pt.slots] at X_52 l_52 y_52 z_52 st_52 hQ_52
    subst l_52 y_52 z_52
    obtain ⟨rfl, N_52q, K_52, hq_52_0, hq_52_1, hq_52_2, hq_52_3⟩ := hQ_52
    have N_52 := Fr.app N_7 N_52q
    have K__53 : Keep h0 T_52.heap [] := K__8.trans K_52 (allS (Or.inr sz_b_1) (allS (Or.inr sz_b__7) all0))
    have f_54 : Exa Z T_52.heap b_1 "com/example/actorium/actorium/Claimant$Sends" := hq_7_0.keep K_52
    refine Done.pre (fun _ k_ => st_52.trans k_) ?_
    show Done _ _ _ _ _ _ _ (T_52.setTop (mkF m 26 #[Iv p1, Iv p2, Iv p3, Rv b_1, Iv (1 : Int32), Us, Us, Us, Us, Us, Us, Us] [(.int (0 : Int32))]))
    have f_55 : Fld Z T_52.heap b_1 "com/example/actorium/actorium/Claimant$Sends" "top" "I" (.int (1 : Int32)) := by have q := hq_52_1; rw [show ((0 : Int32) + (1 : Int32)) = (1 : Int32) from by decide] at q; exact q
    have sg_56 : ∀ tt_, Steps p.tables e below (T_52.setTop (mkF m 63 #[Iv p1, Iv p2, Iv p3, Rv b_1, Iv (1 : Int32), Us, Us, Us, Us, Us, Us, Us] [])) tt_ → Steps p.tables e below (T_52.setTop (mkF m 26 #[Iv p1, Iv p2, Iv p3, Rv b_1, Iv (1 : Int32), Us, Us, Us, Us, Us, Us, Us] [(.int (0 : Int32))])) tt_ := by
      intro tt_ kt_
      refine XS.pop X_52.here hEX rfl (hb hBY at_26) rfl rfl ?_
      show Steps p.tables e below (T_52.setTop (mkF m 27 #[Iv p1, Iv p2, Iv p3, Rv b_1, Iv (1 : Int32), Us, Us, Us, Us, Us, Us, Us] [])) tt_
      refine XS.iload X_52.here hEX rfl (hb hBY at_27) rfl ?_
      show Steps p.tables e below (T_52.setTop (mkF m 29 #[Iv p1, Iv p2, Iv p3, Rv b_1, Iv (1 : Int32), Us, Us, Us, Us, Us, Us, Us] [(.int (1 : Int32))])) tt_
      refine XS.iconst X_52.here hEX rfl (hb hBY at_29) ?_
      show Steps p.tables e below (T_52.setTop (mkF m 30 #[Iv p1, Iv p2, Iv p3, Rv b_1, Iv (1 : Int32), Us, Us, Us, Us, Us, Us, Us] [(.int (1 : Int32)), (.int (1 : Int32))])) tt_
      refine XS.icmpYes X_52.here hEX rfl (pc0 := 30) (pc' := 39) rfl (hb hBY at_30) rfl (flt (by decide : ¬ ((1 : Int32) < (1 : Int32)))).2.2.2 (by decide) (by decide) ?_
      show Steps p.tables e below (T_52.setTop (mkF m 39 #[Iv p1, Iv p2, Iv p3, Rv b_1, Iv (1 : Int32), Us, Us, Us, Us, Us, Us, Us] [])) tt_
      refine XS.iload X_52.here hEX rfl (hb hBY at_39) rfl ?_
      show Steps p.tables e below (T_52.setTop (mkF m 41 #[Iv p1, Iv p2, Iv p3, Rv b_1, Iv (1 : Int32), Us, Us, Us, Us, Us, Us, Us] [(.int (1 : Int32))])) tt_
      refine XS.iconst X_52.here hEX rfl (hb hBY at_41) ?_
      show Steps p.tables e below (T_52.setTop (mkF m 42 #[Iv p1, Iv p2, Iv p3, Rv b_1, Iv (1 : Int32), Us, Us, Us, Us, Us, Us, Us] [(.int (2 : Int32)), (.int (1 : Int32))])) tt_
      refine XS.icmpYes X_52.here hEX rfl (pc0 := 42) (pc' := 51) rfl (hb hBY at_42) rfl (flt (by decide : ¬ ((2 : Int32) < (1 : Int32)))).2.2.2 (by decide) (by decide) ?_
      show Steps p.tables e below (T_52.setTop (mkF m 51 #[Iv p1, Iv p2, Iv p3, Rv b_1, Iv (1 : Int32), Us, Us, Us, Us, Us, Us, Us] [])) tt_
      refine XS.iload X_52.here hEX rfl (hb hBY at_51) rfl ?_
      show Steps p.tables e below (T_52.setTop (mkF m 53 #[Iv p1, Iv p2, Iv p3, Rv b_1, Iv (1 : Int32), Us, Us, Us, Us, Us, Us, Us] [(.int (1 : Int32))])) tt_
      refine XS.iconst X_52.here hEX rfl (hb hBY at_53) ?_
      show Steps p.tables e below (T_52.setTop (mkF m 54 #[Iv p1, Iv p2, Iv p3, Rv b_1, Iv (1 : Int32), Us, Us, Us, Us, Us, Us, Us] [(.int (3 : Int32)), (.int (1 : Int32))])) tt_
      refine XS.icmpYes X_52.here hEX rfl (pc0 := 54) (pc' := 63) rfl (hb hBY at_54) rfl (flt (by decide : ¬ ((3 : Int32) < (1 : Int32)))).2.2.2 (by decide) (by decide) ?_
      exact kt_
    refine Done.pre sg_56 ?_
    exact jn_11 T_52 T_52.heap _ X_52 rfl N_52 K__53 ((1 : Int32)) hq_52_0 f_55 hq_52_2 hq_52_3 (by decide)
  · skip
    show Done _ _ _ _ _ _ _ (T_7.setTop (mkF m 14 #[Iv p1, Iv p2, Iv p3, Rv b_1, Us, Us, Us, Us, Us, Us, Us, Us] [(.int (2 : Int32))]))
    have sg_57 : ∀ tt_, Steps p.tables e below (T_7.setTop (mkF m 23 #[Iv p1, Iv p2, Iv p3, Rv b_1, Iv (2 : Int32), Us, Us, Us, Us, Us, Us, Us] [.null, (.ref b_1)])) tt_ → Steps p.tables e below (T_7.setTop (mkF m 14 #[Iv p1, Iv p2, Iv p3, Rv b_1, Us, Us, Us, Us, Us, Us, Us, Us] [(.int (2 : Int32))])) tt_ := by
      intro tt_ kt_
      refine XS.istore X_7.here hEX rfl (hb hBY at_14) rfl (l' := #[Iv p1, Iv p2, Iv p3, Rv b_1, Iv (2 : Int32), Us, Us, Us, Us, Us, Us, Us]) rfl ?_
      show Steps p.tables e below (T_7.setTop (mkF m 16 #[Iv p1, Iv p2, Iv p3, Rv b_1, Iv (2 : Int32), Us, Us, Us, Us, Us, Us, Us] [])) tt_
      refine XS.iload X_7.here hEX rfl (hb hBY at_16) rfl ?_
      show Steps p.tables e below (T_7.setTop (mkF m 18 #[Iv p1, Iv p2, Iv p3, Rv b_1, Iv (2 : Int32), Us, Us, Us, Us, Us, Us, Us] [(.int (2 : Int32))])) tt_
      refine XS.ifNo X_7.here hEX rfl (hb hBY at_18) rfl ((if0 _ _).trans (tlt (by decide : (0 : Int32) < (2 : Int32))).2.2.2) ?_
      show Steps p.tables e below (T_7.setTop (mkF m 21 #[Iv p1, Iv p2, Iv p3, Rv b_1, Iv (2 : Int32), Us, Us, Us, Us, Us, Us, Us] [])) tt_
      refine XS.aloadN X_7.here hEX rfl (hb hBY at_21) rfl rfl ?_
      show Steps p.tables e below (T_7.setTop (mkF m 22 #[Iv p1, Iv p2, Iv p3, Rv b_1, Iv (2 : Int32), Us, Us, Us, Us, Us, Us, Us] [(.ref b_1)])) tt_
      refine XS.aconstNull X_7.here hEX rfl (hb hBY at_22) ?_
      exact kt_
    refine Done.pre sg_57 ?_
    obtain ⟨cq_58, kq_58, q_58a, q_58b, q_58c⟩ := isOf hZW rfl hq_7_0
    obtain ⟨_, _, ⟨T_58, L_58, k_58, n_58⟩, -, X_58, ⟨Lc_58, hQ_58, l_58, y_58, z_58⟩, st_58⟩ := X_7.virtualBack hEX (y := (⟨"com/example/actorium/actorium/Claimant$Sends", "begin", "(Lcom/example/actorium/actorium/DispatchedCell;)I"⟩ : MethodName)) (z := (⟨"com/example/actorium/actorium/Claimant$Sends", "begin", "(Lcom/example/actorium/actorium/DispatchedCell;)I"⟩ : MethodName)) hOW (mvT hZW (hw _ (List.mem_of_getElem? (i := 30) rfl))) (mvT hZW (hw _ (List.mem_of_getElem? (i := 31) rfl))) (notFace_of_selects (args := #[]) (mvT hZW (hw _ (List.mem_of_getElem? (i := 33) rfl)))) (mvT hZW (hw _ (List.mem_of_getElem? (i := 33) rfl))) (mvT hZW (hw _ (List.mem_of_getElem? (i := 32) rfl))) (by decide) (backOf (W := 0) (rm_begin l Z aZ hw [] b_1 (0 : Int32) b__7 k__7 T_7.heap n0 (Nat.le_trans Z0 K__8.1) hq_7_0 hq_7_1 hq_7_2 hq_7_3 ge_b_1 (Nat.le_trans Z0 sz_b__7) ne_b_1_b__7 (by decide)) hZW (hw _ (List.mem_of_getElem? (i := 34) rfl)) (hw _ (List.mem_of_getElem? (i := 2) rfl)) (by decide) (by decide)) q_58a q_58c (g := (mkF m 23 #[Iv p1, Iv p2, Iv p3, Rv b_1, Iv (2 : Int32), Us, Us, Us, Us, Us, Us, Us] [.null, (.ref b_1)])) rfl (by rw [hMX]; rfl) (Steps.refl _) (argsL := [.null]) (rest := []) (lenOf pd__Lcom_example_actorium_actorium_DispatchedCell__I_4 rfl) rfl (by show 2 * 0 + _ ≤ _; exact Nat.le_of_eq rfl) (hb hBY at_23) (fun _ _ => ⟨rfl, rfl, (by decide : 2 + 0 ≤ _), (by decide : 10 + 0 ≤ _)⟩)
    dsimp only [Pt.U, Pt.locs, Pt.cells, Pt.slots] at X_58 l_58 y_58 z_58 st_58 hQ_58
    subst l_58 y_58 z_58
    obtain ⟨rfl, N_58q, K_58, hq_58_0, hq_58_1, hq_58_2, hq_58_3⟩ := hQ_58
    have N_58 := Fr.app N_7 N_58q
    have K__59 : Keep h0 T_58.heap [] := K__8.trans K_58 (allS (Or.inr sz_b_1) (allS (Or.inr sz_b__7) all0))
    have f_60 : Exa Z T_58.heap b_1 "com/example/actorium/actorium/Claimant$Sends" := hq_7_0.keep K_58
    refine Done.pre (fun _ k_ => st_58.trans k_) ?_
    show Done _ _ _ _ _ _ _ (T_58.setTop (mkF m 26 #[Iv p1, Iv p2, Iv p3, Rv b_1, Iv (2 : Int32), Us, Us, Us, Us, Us, Us, Us] [(.int (0 : Int32))]))
    have f_61 : Fld Z T_58.heap b_1 "com/example/actorium/actorium/Claimant$Sends" "top" "I" (.int (1 : Int32)) := by have q := hq_58_1; rw [show ((0 : Int32) + (1 : Int32)) = (1 : Int32) from by decide] at q; exact q
    have sg_62 : ∀ tt_, Steps p.tables e below (T_58.setTop (mkF m 35 #[Iv p1, Iv p2, Iv p3, Rv b_1, Iv (2 : Int32), Us, Us, Us, Us, Us, Us, Us] [.null, (.ref b_1)])) tt_ → Steps p.tables e below (T_58.setTop (mkF m 26 #[Iv p1, Iv p2, Iv p3, Rv b_1, Iv (2 : Int32), Us, Us, Us, Us, Us, Us, Us] [(.int (0 : Int32))])) tt_ := by
      intro tt_ kt_
      refine XS.pop X_58.here hEX rfl (hb hBY at_26) rfl rfl ?_
      show Steps p.tables e below (T_58.setTop (mkF m 27 #[Iv p1, Iv p2, Iv p3, Rv b_1, Iv (2 : Int32), Us, Us, Us, Us, Us, Us, Us] [])) tt_
      refine XS.iload X_58.here hEX rfl (hb hBY at_27) rfl ?_
      show Steps p.tables e below (T_58.setTop (mkF m 29 #[Iv p1, Iv p2, Iv p3, Rv b_1, Iv (2 : Int32), Us, Us, Us, Us, Us, Us, Us] [(.int (2 : Int32))])) tt_
      refine XS.iconst X_58.here hEX rfl (hb hBY at_29) ?_
      show Steps p.tables e below (T_58.setTop (mkF m 30 #[Iv p1, Iv p2, Iv p3, Rv b_1, Iv (2 : Int32), Us, Us, Us, Us, Us, Us, Us] [(.int (1 : Int32)), (.int (2 : Int32))])) tt_
      refine XS.icmpNo X_58.here hEX rfl (hb hBY at_30) rfl (tlt (by decide : (1 : Int32) < (2 : Int32))).2.2.2 ?_
      show Steps p.tables e below (T_58.setTop (mkF m 33 #[Iv p1, Iv p2, Iv p3, Rv b_1, Iv (2 : Int32), Us, Us, Us, Us, Us, Us, Us] [])) tt_
      refine XS.aloadN X_58.here hEX rfl (hb hBY at_33) rfl rfl ?_
      show Steps p.tables e below (T_58.setTop (mkF m 34 #[Iv p1, Iv p2, Iv p3, Rv b_1, Iv (2 : Int32), Us, Us, Us, Us, Us, Us, Us] [(.ref b_1)])) tt_
      refine XS.aconstNull X_58.here hEX rfl (hb hBY at_34) ?_
      exact kt_
    refine Done.pre sg_62 ?_
    obtain ⟨cq_63, kq_63, q_63a, q_63b, q_63c⟩ := isOf hZW rfl hq_58_0
    obtain ⟨_, _, ⟨T_63, L_63, k_63, n_63⟩, -, X_63, ⟨Lc_63, hQ_63, l_63, y_63, z_63⟩, st_63⟩ := X_58.virtualBack hEX (y := (⟨"com/example/actorium/actorium/Claimant$Sends", "begin", "(Lcom/example/actorium/actorium/DispatchedCell;)I"⟩ : MethodName)) (z := (⟨"com/example/actorium/actorium/Claimant$Sends", "begin", "(Lcom/example/actorium/actorium/DispatchedCell;)I"⟩ : MethodName)) hOW (mvT hZW (hw _ (List.mem_of_getElem? (i := 30) rfl))) (mvT hZW (hw _ (List.mem_of_getElem? (i := 31) rfl))) (notFace_of_selects (args := #[]) (mvT hZW (hw _ (List.mem_of_getElem? (i := 33) rfl)))) (mvT hZW (hw _ (List.mem_of_getElem? (i := 33) rfl))) (mvT hZW (hw _ (List.mem_of_getElem? (i := 32) rfl))) (by decide) (backOf (W := 0) (rm_begin l Z aZ hw [] b_1 (1 : Int32) b__7 k__7 T_58.heap n0 (Nat.le_trans Z0 K__59.1) hq_58_0 f_61 hq_58_2 hq_58_3 ge_b_1 (Nat.le_trans Z0 sz_b__7) ne_b_1_b__7 (by decide)) hZW (hw _ (List.mem_of_getElem? (i := 34) rfl)) (hw _ (List.mem_of_getElem? (i := 2) rfl)) (by decide) (by decide)) q_63a q_63c (g := (mkF m 35 #[Iv p1, Iv p2, Iv p3, Rv b_1, Iv (2 : Int32), Us, Us, Us, Us, Us, Us, Us] [.null, (.ref b_1)])) rfl (by rw [hMX]; rfl) (Steps.refl _) (argsL := [.null]) (rest := []) (lenOf pd__Lcom_example_actorium_actorium_DispatchedCell__I_4 rfl) rfl (by show 2 * 0 + _ ≤ _; exact Nat.le_of_eq rfl) (hb hBY at_35) (fun _ _ => ⟨rfl, rfl, (by decide : 2 + 0 ≤ _), (by decide : 10 + 0 ≤ _)⟩)
    dsimp only [Pt.U, Pt.locs, Pt.cells, Pt.slots] at X_63 l_63 y_63 z_63 st_63 hQ_63
    subst l_63 y_63 z_63
    obtain ⟨rfl, N_63q, K_63, hq_63_0, hq_63_1, hq_63_2, hq_63_3⟩ := hQ_63
    have N_63 := Fr.app N_58 N_63q
    have K__64 : Keep h0 T_63.heap [] := K__59.trans K_63 (allS (Or.inr sz_b_1) (allS (Or.inr sz_b__7) all0))
    have f_65 : Exa Z T_63.heap b_1 "com/example/actorium/actorium/Claimant$Sends" := hq_58_0.keep K_63
    refine Done.pre (fun _ k_ => st_63.trans k_) ?_
    show Done _ _ _ _ _ _ _ (T_63.setTop (mkF m 38 #[Iv p1, Iv p2, Iv p3, Rv b_1, Iv (2 : Int32), Us, Us, Us, Us, Us, Us, Us] [(.int (1 : Int32))]))
    have f_66 : Fld Z T_63.heap b_1 "com/example/actorium/actorium/Claimant$Sends" "top" "I" (.int (2 : Int32)) := by have q := hq_63_1; rw [show ((1 : Int32) + (1 : Int32)) = (2 : Int32) from by decide] at q; exact q
    have sg_67 : ∀ tt_, Steps p.tables e below (T_63.setTop (mkF m 63 #[Iv p1, Iv p2, Iv p3, Rv b_1, Iv (2 : Int32), Us, Us, Us, Us, Us, Us, Us] [])) tt_ → Steps p.tables e below (T_63.setTop (mkF m 38 #[Iv p1, Iv p2, Iv p3, Rv b_1, Iv (2 : Int32), Us, Us, Us, Us, Us, Us, Us] [(.int (1 : Int32))])) tt_ := by
      intro tt_ kt_
      refine XS.pop X_63.here hEX rfl (hb hBY at_38) rfl rfl ?_
      show Steps p.tables e below (T_63.setTop (mkF m 39 #[Iv p1, Iv p2, Iv p3, Rv b_1, Iv (2 : Int32), Us, Us, Us, Us, Us, Us, Us] [])) tt_
      refine XS.iload X_63.here hEX rfl (hb hBY at_39) rfl ?_
      show Steps p.tables e below (T_63.setTop (mkF m 41 #[Iv p1, Iv p2, Iv p3, Rv b_1, Iv (2 : Int32), Us, Us, Us, Us, Us, Us, Us] [(.int (2 : Int32))])) tt_
      refine XS.iconst X_63.here hEX rfl (hb hBY at_41) ?_
      show Steps p.tables e below (T_63.setTop (mkF m 42 #[Iv p1, Iv p2, Iv p3, Rv b_1, Iv (2 : Int32), Us, Us, Us, Us, Us, Us, Us] [(.int (2 : Int32)), (.int (2 : Int32))])) tt_
      refine XS.icmpYes X_63.here hEX rfl (pc0 := 42) (pc' := 51) rfl (hb hBY at_42) rfl (flt (by decide : ¬ ((2 : Int32) < (2 : Int32)))).2.2.2 (by decide) (by decide) ?_
      show Steps p.tables e below (T_63.setTop (mkF m 51 #[Iv p1, Iv p2, Iv p3, Rv b_1, Iv (2 : Int32), Us, Us, Us, Us, Us, Us, Us] [])) tt_
      refine XS.iload X_63.here hEX rfl (hb hBY at_51) rfl ?_
      show Steps p.tables e below (T_63.setTop (mkF m 53 #[Iv p1, Iv p2, Iv p3, Rv b_1, Iv (2 : Int32), Us, Us, Us, Us, Us, Us, Us] [(.int (2 : Int32))])) tt_
      refine XS.iconst X_63.here hEX rfl (hb hBY at_53) ?_
      show Steps p.tables e below (T_63.setTop (mkF m 54 #[Iv p1, Iv p2, Iv p3, Rv b_1, Iv (2 : Int32), Us, Us, Us, Us, Us, Us, Us] [(.int (3 : Int32)), (.int (2 : Int32))])) tt_
      refine XS.icmpYes X_63.here hEX rfl (pc0 := 54) (pc' := 63) rfl (hb hBY at_54) rfl (flt (by decide : ¬ ((3 : Int32) < (2 : Int32)))).2.2.2 (by decide) (by decide) ?_
      exact kt_
    refine Done.pre sg_67 ?_
    exact jn_11 T_63 T_63.heap _ X_63 rfl N_63 K__64 ((2 : Int32)) hq_63_0 f_66 hq_63_2 hq_63_3 (by decide)
  · skip
    show Done _ _ _ _ _ _ _ (T_7.setTop (mkF m 14 #[Iv p1, Iv p2, Iv p3, Rv b_1, Us, Us, Us, Us, Us, Us, Us, Us] [(.int (3 : Int32))]))
    have sg_68 : ∀ tt_, Steps p.tables e below (T_7.setTop (mkF m 23 #[Iv p1, Iv p2, Iv p3, Rv b_1, Iv (3 : Int32), Us, Us, Us, Us, Us, Us, Us] [.null, (.ref b_1)])) tt_ → Steps p.tables e below (T_7.setTop (mkF m 14 #[Iv p1, Iv p2, Iv p3, Rv b_1, Us, Us, Us, Us, Us, Us, Us, Us] [(.int (3 : Int32))])) tt_ := by
      intro tt_ kt_
      refine XS.istore X_7.here hEX rfl (hb hBY at_14) rfl (l' := #[Iv p1, Iv p2, Iv p3, Rv b_1, Iv (3 : Int32), Us, Us, Us, Us, Us, Us, Us]) rfl ?_
      show Steps p.tables e below (T_7.setTop (mkF m 16 #[Iv p1, Iv p2, Iv p3, Rv b_1, Iv (3 : Int32), Us, Us, Us, Us, Us, Us, Us] [])) tt_
      refine XS.iload X_7.here hEX rfl (hb hBY at_16) rfl ?_
      show Steps p.tables e below (T_7.setTop (mkF m 18 #[Iv p1, Iv p2, Iv p3, Rv b_1, Iv (3 : Int32), Us, Us, Us, Us, Us, Us, Us] [(.int (3 : Int32))])) tt_
      refine XS.ifNo X_7.here hEX rfl (hb hBY at_18) rfl ((if0 _ _).trans (tlt (by decide : (0 : Int32) < (3 : Int32))).2.2.2) ?_
      show Steps p.tables e below (T_7.setTop (mkF m 21 #[Iv p1, Iv p2, Iv p3, Rv b_1, Iv (3 : Int32), Us, Us, Us, Us, Us, Us, Us] [])) tt_
      refine XS.aloadN X_7.here hEX rfl (hb hBY at_21) rfl rfl ?_
      show Steps p.tables e below (T_7.setTop (mkF m 22 #[Iv p1, Iv p2, Iv p3, Rv b_1, Iv (3 : Int32), Us, Us, Us, Us, Us, Us, Us] [(.ref b_1)])) tt_
      refine XS.aconstNull X_7.here hEX rfl (hb hBY at_22) ?_
      exact kt_
    refine Done.pre sg_68 ?_
    obtain ⟨cq_69, kq_69, q_69a, q_69b, q_69c⟩ := isOf hZW rfl hq_7_0
    obtain ⟨_, _, ⟨T_69, L_69, k_69, n_69⟩, -, X_69, ⟨Lc_69, hQ_69, l_69, y_69, z_69⟩, st_69⟩ := X_7.virtualBack hEX (y := (⟨"com/example/actorium/actorium/Claimant$Sends", "begin", "(Lcom/example/actorium/actorium/DispatchedCell;)I"⟩ : MethodName)) (z := (⟨"com/example/actorium/actorium/Claimant$Sends", "begin", "(Lcom/example/actorium/actorium/DispatchedCell;)I"⟩ : MethodName)) hOW (mvT hZW (hw _ (List.mem_of_getElem? (i := 30) rfl))) (mvT hZW (hw _ (List.mem_of_getElem? (i := 31) rfl))) (notFace_of_selects (args := #[]) (mvT hZW (hw _ (List.mem_of_getElem? (i := 33) rfl)))) (mvT hZW (hw _ (List.mem_of_getElem? (i := 33) rfl))) (mvT hZW (hw _ (List.mem_of_getElem? (i := 32) rfl))) (by decide) (backOf (W := 0) (rm_begin l Z aZ hw [] b_1 (0 : Int32) b__7 k__7 T_7.heap n0 (Nat.le_trans Z0 K__8.1) hq_7_0 hq_7_1 hq_7_2 hq_7_3 ge_b_1 (Nat.le_trans Z0 sz_b__7) ne_b_1_b__7 (by decide)) hZW (hw _ (List.mem_of_getElem? (i := 34) rfl)) (hw _ (List.mem_of_getElem? (i := 2) rfl)) (by decide) (by decide)) q_69a q_69c (g := (mkF m 23 #[Iv p1, Iv p2, Iv p3, Rv b_1, Iv (3 : Int32), Us, Us, Us, Us, Us, Us, Us] [.null, (.ref b_1)])) rfl (by rw [hMX]; rfl) (Steps.refl _) (argsL := [.null]) (rest := []) (lenOf pd__Lcom_example_actorium_actorium_DispatchedCell__I_4 rfl) rfl (by show 2 * 0 + _ ≤ _; exact Nat.le_of_eq rfl) (hb hBY at_23) (fun _ _ => ⟨rfl, rfl, (by decide : 2 + 0 ≤ _), (by decide : 10 + 0 ≤ _)⟩)
    dsimp only [Pt.U, Pt.locs, Pt.cells, Pt.slots] at X_69 l_69 y_69 z_69 st_69 hQ_69
    subst l_69 y_69 z_69
    obtain ⟨rfl, N_69q, K_69, hq_69_0, hq_69_1, hq_69_2, hq_69_3⟩ := hQ_69
    have N_69 := Fr.app N_7 N_69q
    have K__70 : Keep h0 T_69.heap [] := K__8.trans K_69 (allS (Or.inr sz_b_1) (allS (Or.inr sz_b__7) all0))
    have f_71 : Exa Z T_69.heap b_1 "com/example/actorium/actorium/Claimant$Sends" := hq_7_0.keep K_69
    refine Done.pre (fun _ k_ => st_69.trans k_) ?_
    show Done _ _ _ _ _ _ _ (T_69.setTop (mkF m 26 #[Iv p1, Iv p2, Iv p3, Rv b_1, Iv (3 : Int32), Us, Us, Us, Us, Us, Us, Us] [(.int (0 : Int32))]))
    have f_72 : Fld Z T_69.heap b_1 "com/example/actorium/actorium/Claimant$Sends" "top" "I" (.int (1 : Int32)) := by have q := hq_69_1; rw [show ((0 : Int32) + (1 : Int32)) = (1 : Int32) from by decide] at q; exact q
    have sg_73 : ∀ tt_, Steps p.tables e below (T_69.setTop (mkF m 35 #[Iv p1, Iv p2, Iv p3, Rv b_1, Iv (3 : Int32), Us, Us, Us, Us, Us, Us, Us] [.null, (.ref b_1)])) tt_ → Steps p.tables e below (T_69.setTop (mkF m 26 #[Iv p1, Iv p2, Iv p3, Rv b_1, Iv (3 : Int32), Us, Us, Us, Us, Us, Us, Us] [(.int (0 : Int32))])) tt_ := by
      intro tt_ kt_
      refine XS.pop X_69.here hEX rfl (hb hBY at_26) rfl rfl ?_
      show Steps p.tables e below (T_69.setTop (mkF m 27 #[Iv p1, Iv p2, Iv p3, Rv b_1, Iv (3 : Int32), Us, Us, Us, Us, Us, Us, Us] [])) tt_
      refine XS.iload X_69.here hEX rfl (hb hBY at_27) rfl ?_
      show Steps p.tables e below (T_69.setTop (mkF m 29 #[Iv p1, Iv p2, Iv p3, Rv b_1, Iv (3 : Int32), Us, Us, Us, Us, Us, Us, Us] [(.int (3 : Int32))])) tt_
      refine XS.iconst X_69.here hEX rfl (hb hBY at_29) ?_
      show Steps p.tables e below (T_69.setTop (mkF m 30 #[Iv p1, Iv p2, Iv p3, Rv b_1, Iv (3 : Int32), Us, Us, Us, Us, Us, Us, Us] [(.int (1 : Int32)), (.int (3 : Int32))])) tt_
      refine XS.icmpNo X_69.here hEX rfl (hb hBY at_30) rfl (tlt (by decide : (1 : Int32) < (3 : Int32))).2.2.2 ?_
      show Steps p.tables e below (T_69.setTop (mkF m 33 #[Iv p1, Iv p2, Iv p3, Rv b_1, Iv (3 : Int32), Us, Us, Us, Us, Us, Us, Us] [])) tt_
      refine XS.aloadN X_69.here hEX rfl (hb hBY at_33) rfl rfl ?_
      show Steps p.tables e below (T_69.setTop (mkF m 34 #[Iv p1, Iv p2, Iv p3, Rv b_1, Iv (3 : Int32), Us, Us, Us, Us, Us, Us, Us] [(.ref b_1)])) tt_
      refine XS.aconstNull X_69.here hEX rfl (hb hBY at_34) ?_
      exact kt_
    refine Done.pre sg_73 ?_
    obtain ⟨cq_74, kq_74, q_74a, q_74b, q_74c⟩ := isOf hZW rfl hq_69_0
    obtain ⟨_, _, ⟨T_74, L_74, k_74, n_74⟩, -, X_74, ⟨Lc_74, hQ_74, l_74, y_74, z_74⟩, st_74⟩ := X_69.virtualBack hEX (y := (⟨"com/example/actorium/actorium/Claimant$Sends", "begin", "(Lcom/example/actorium/actorium/DispatchedCell;)I"⟩ : MethodName)) (z := (⟨"com/example/actorium/actorium/Claimant$Sends", "begin", "(Lcom/example/actorium/actorium/DispatchedCell;)I"⟩ : MethodName)) hOW (mvT hZW (hw _ (List.mem_of_getElem? (i := 30) rfl))) (mvT hZW (hw _ (List.mem_of_getElem? (i := 31) rfl))) (notFace_of_selects (args := #[]) (mvT hZW (hw _ (List.mem_of_getElem? (i := 33) rfl)))) (mvT hZW (hw _ (List.mem_of_getElem? (i := 33) rfl))) (mvT hZW (hw _ (List.mem_of_getElem? (i := 32) rfl))) (by decide) (backOf (W := 0) (rm_begin l Z aZ hw [] b_1 (1 : Int32) b__7 k__7 T_69.heap n0 (Nat.le_trans Z0 K__70.1) hq_69_0 f_72 hq_69_2 hq_69_3 ge_b_1 (Nat.le_trans Z0 sz_b__7) ne_b_1_b__7 (by decide)) hZW (hw _ (List.mem_of_getElem? (i := 34) rfl)) (hw _ (List.mem_of_getElem? (i := 2) rfl)) (by decide) (by decide)) q_74a q_74c (g := (mkF m 35 #[Iv p1, Iv p2, Iv p3, Rv b_1, Iv (3 : Int32), Us, Us, Us, Us, Us, Us, Us] [.null, (.ref b_1)])) rfl (by rw [hMX]; rfl) (Steps.refl _) (argsL := [.null]) (rest := []) (lenOf pd__Lcom_example_actorium_actorium_DispatchedCell__I_4 rfl) rfl (by show 2 * 0 + _ ≤ _; exact Nat.le_of_eq rfl) (hb hBY at_35) (fun _ _ => ⟨rfl, rfl, (by decide : 2 + 0 ≤ _), (by decide : 10 + 0 ≤ _)⟩)
    dsimp only [Pt.U, Pt.locs, Pt.cells, Pt.slots] at X_74 l_74 y_74 z_74 st_74 hQ_74
    subst l_74 y_74 z_74
    obtain ⟨rfl, N_74q, K_74, hq_74_0, hq_74_1, hq_74_2, hq_74_3⟩ := hQ_74
    have N_74 := Fr.app N_69 N_74q
    have K__75 : Keep h0 T_74.heap [] := K__70.trans K_74 (allS (Or.inr sz_b_1) (allS (Or.inr sz_b__7) all0))
    have f_76 : Exa Z T_74.heap b_1 "com/example/actorium/actorium/Claimant$Sends" := hq_69_0.keep K_74
    refine Done.pre (fun _ k_ => st_74.trans k_) ?_
    show Done _ _ _ _ _ _ _ (T_74.setTop (mkF m 38 #[Iv p1, Iv p2, Iv p3, Rv b_1, Iv (3 : Int32), Us, Us, Us, Us, Us, Us, Us] [(.int (1 : Int32))]))
    have f_77 : Fld Z T_74.heap b_1 "com/example/actorium/actorium/Claimant$Sends" "top" "I" (.int (2 : Int32)) := by have q := hq_74_1; rw [show ((1 : Int32) + (1 : Int32)) = (2 : Int32) from by decide] at q; exact q
    have sg_78 : ∀ tt_, Steps p.tables e below (T_74.setTop (mkF m 47 #[Iv p1, Iv p2, Iv p3, Rv b_1, Iv (3 : Int32), Us, Us, Us, Us, Us, Us, Us] [.null, (.ref b_1)])) tt_ → Steps p.tables e below (T_74.setTop (mkF m 38 #[Iv p1, Iv p2, Iv p3, Rv b_1, Iv (3 : Int32), Us, Us, Us, Us, Us, Us, Us] [(.int (1 : Int32))])) tt_ := by
      intro tt_ kt_
      refine XS.pop X_74.here hEX rfl (hb hBY at_38) rfl rfl ?_
      show Steps p.tables e below (T_74.setTop (mkF m 39 #[Iv p1, Iv p2, Iv p3, Rv b_1, Iv (3 : Int32), Us, Us, Us, Us, Us, Us, Us] [])) tt_
      refine XS.iload X_74.here hEX rfl (hb hBY at_39) rfl ?_
      show Steps p.tables e below (T_74.setTop (mkF m 41 #[Iv p1, Iv p2, Iv p3, Rv b_1, Iv (3 : Int32), Us, Us, Us, Us, Us, Us, Us] [(.int (3 : Int32))])) tt_
      refine XS.iconst X_74.here hEX rfl (hb hBY at_41) ?_
      show Steps p.tables e below (T_74.setTop (mkF m 42 #[Iv p1, Iv p2, Iv p3, Rv b_1, Iv (3 : Int32), Us, Us, Us, Us, Us, Us, Us] [(.int (2 : Int32)), (.int (3 : Int32))])) tt_
      refine XS.icmpNo X_74.here hEX rfl (hb hBY at_42) rfl (tlt (by decide : (2 : Int32) < (3 : Int32))).2.2.2 ?_
      show Steps p.tables e below (T_74.setTop (mkF m 45 #[Iv p1, Iv p2, Iv p3, Rv b_1, Iv (3 : Int32), Us, Us, Us, Us, Us, Us, Us] [])) tt_
      refine XS.aloadN X_74.here hEX rfl (hb hBY at_45) rfl rfl ?_
      show Steps p.tables e below (T_74.setTop (mkF m 46 #[Iv p1, Iv p2, Iv p3, Rv b_1, Iv (3 : Int32), Us, Us, Us, Us, Us, Us, Us] [(.ref b_1)])) tt_
      refine XS.aconstNull X_74.here hEX rfl (hb hBY at_46) ?_
      exact kt_
    refine Done.pre sg_78 ?_
    obtain ⟨cq_79, kq_79, q_79a, q_79b, q_79c⟩ := isOf hZW rfl hq_74_0
    obtain ⟨_, _, ⟨T_79, L_79, k_79, n_79⟩, -, X_79, ⟨Lc_79, hQ_79, l_79, y_79, z_79⟩, st_79⟩ := X_74.virtualBack hEX (y := (⟨"com/example/actorium/actorium/Claimant$Sends", "begin", "(Lcom/example/actorium/actorium/DispatchedCell;)I"⟩ : MethodName)) (z := (⟨"com/example/actorium/actorium/Claimant$Sends", "begin", "(Lcom/example/actorium/actorium/DispatchedCell;)I"⟩ : MethodName)) hOW (mvT hZW (hw _ (List.mem_of_getElem? (i := 30) rfl))) (mvT hZW (hw _ (List.mem_of_getElem? (i := 31) rfl))) (notFace_of_selects (args := #[]) (mvT hZW (hw _ (List.mem_of_getElem? (i := 33) rfl)))) (mvT hZW (hw _ (List.mem_of_getElem? (i := 33) rfl))) (mvT hZW (hw _ (List.mem_of_getElem? (i := 32) rfl))) (by decide) (backOf (W := 0) (rm_begin l Z aZ hw [] b_1 (2 : Int32) b__7 k__7 T_74.heap n0 (Nat.le_trans Z0 K__75.1) hq_74_0 f_77 hq_74_2 hq_74_3 ge_b_1 (Nat.le_trans Z0 sz_b__7) ne_b_1_b__7 (by decide)) hZW (hw _ (List.mem_of_getElem? (i := 34) rfl)) (hw _ (List.mem_of_getElem? (i := 2) rfl)) (by decide) (by decide)) q_79a q_79c (g := (mkF m 47 #[Iv p1, Iv p2, Iv p3, Rv b_1, Iv (3 : Int32), Us, Us, Us, Us, Us, Us, Us] [.null, (.ref b_1)])) rfl (by rw [hMX]; rfl) (Steps.refl _) (argsL := [.null]) (rest := []) (lenOf pd__Lcom_example_actorium_actorium_DispatchedCell__I_4 rfl) rfl (by show 2 * 0 + _ ≤ _; exact Nat.le_of_eq rfl) (hb hBY at_47) (fun _ _ => ⟨rfl, rfl, (by decide : 2 + 0 ≤ _), (by decide : 10 + 0 ≤ _)⟩)
    dsimp only [Pt.U, Pt.locs, Pt.cells, Pt.slots] at X_79 l_79 y_79 z_79 st_79 hQ_79
    subst l_79 y_79 z_79
    obtain ⟨rfl, N_79q, K_79, hq_79_0, hq_79_1, hq_79_2, hq_79_3⟩ := hQ_79
    have N_79 := Fr.app N_74 N_79q
    have K__80 : Keep h0 T_79.heap [] := K__75.trans K_79 (allS (Or.inr sz_b_1) (allS (Or.inr sz_b__7) all0))
    have f_81 : Exa Z T_79.heap b_1 "com/example/actorium/actorium/Claimant$Sends" := hq_74_0.keep K_79
    refine Done.pre (fun _ k_ => st_79.trans k_) ?_
    show Done _ _ _ _ _ _ _ (T_79.setTop (mkF m 50 #[Iv p1, Iv p2, Iv p3, Rv b_1, Iv (3 : Int32), Us, Us, Us, Us, Us, Us, Us] [(.int (2 : Int32))]))
    have f_82 : Fld Z T_79.heap b_1 "com/example/actorium/actorium/Claimant$Sends" "top" "I" (.int (3 : Int32)) := by have q := hq_79_1; rw [show ((2 : Int32) + (1 : Int32)) = (3 : Int32) from by decide] at q; exact q
    have sg_83 : ∀ tt_, Steps p.tables e below (T_79.setTop (mkF m 63 #[Iv p1, Iv p2, Iv p3, Rv b_1, Iv (3 : Int32), Us, Us, Us, Us, Us, Us, Us] [])) tt_ → Steps p.tables e below (T_79.setTop (mkF m 50 #[Iv p1, Iv p2, Iv p3, Rv b_1, Iv (3 : Int32), Us, Us, Us, Us, Us, Us, Us] [(.int (2 : Int32))])) tt_ := by
      intro tt_ kt_
      refine XS.pop X_79.here hEX rfl (hb hBY at_50) rfl rfl ?_
      show Steps p.tables e below (T_79.setTop (mkF m 51 #[Iv p1, Iv p2, Iv p3, Rv b_1, Iv (3 : Int32), Us, Us, Us, Us, Us, Us, Us] [])) tt_
      refine XS.iload X_79.here hEX rfl (hb hBY at_51) rfl ?_
      show Steps p.tables e below (T_79.setTop (mkF m 53 #[Iv p1, Iv p2, Iv p3, Rv b_1, Iv (3 : Int32), Us, Us, Us, Us, Us, Us, Us] [(.int (3 : Int32))])) tt_
      refine XS.iconst X_79.here hEX rfl (hb hBY at_53) ?_
      show Steps p.tables e below (T_79.setTop (mkF m 54 #[Iv p1, Iv p2, Iv p3, Rv b_1, Iv (3 : Int32), Us, Us, Us, Us, Us, Us, Us] [(.int (3 : Int32)), (.int (3 : Int32))])) tt_
      refine XS.icmpYes X_79.here hEX rfl (pc0 := 54) (pc' := 63) rfl (hb hBY at_54) rfl (flt (by decide : ¬ ((3 : Int32) < (3 : Int32)))).2.2.2 (by decide) (by decide) ?_
      exact kt_
    refine Done.pre sg_83 ?_
    exact jn_11 T_79 T_79.heap _ X_79 rfl N_79 K__80 ((3 : Int32)) hq_79_0 f_82 hq_79_2 hq_79_3 (by decide)
  · skip
    show Done _ _ _ _ _ _ _ (T_7.setTop (mkF m 14 #[Iv p1, Iv p2, Iv p3, Rv b_1, Us, Us, Us, Us, Us, Us, Us, Us] [(.int (4 : Int32))]))
    have sg_84 : ∀ tt_, Steps p.tables e below (T_7.setTop (mkF m 23 #[Iv p1, Iv p2, Iv p3, Rv b_1, Iv (4 : Int32), Us, Us, Us, Us, Us, Us, Us] [.null, (.ref b_1)])) tt_ → Steps p.tables e below (T_7.setTop (mkF m 14 #[Iv p1, Iv p2, Iv p3, Rv b_1, Us, Us, Us, Us, Us, Us, Us, Us] [(.int (4 : Int32))])) tt_ := by
      intro tt_ kt_
      refine XS.istore X_7.here hEX rfl (hb hBY at_14) rfl (l' := #[Iv p1, Iv p2, Iv p3, Rv b_1, Iv (4 : Int32), Us, Us, Us, Us, Us, Us, Us]) rfl ?_
      show Steps p.tables e below (T_7.setTop (mkF m 16 #[Iv p1, Iv p2, Iv p3, Rv b_1, Iv (4 : Int32), Us, Us, Us, Us, Us, Us, Us] [])) tt_
      refine XS.iload X_7.here hEX rfl (hb hBY at_16) rfl ?_
      show Steps p.tables e below (T_7.setTop (mkF m 18 #[Iv p1, Iv p2, Iv p3, Rv b_1, Iv (4 : Int32), Us, Us, Us, Us, Us, Us, Us] [(.int (4 : Int32))])) tt_
      refine XS.ifNo X_7.here hEX rfl (hb hBY at_18) rfl ((if0 _ _).trans (tlt (by decide : (0 : Int32) < (4 : Int32))).2.2.2) ?_
      show Steps p.tables e below (T_7.setTop (mkF m 21 #[Iv p1, Iv p2, Iv p3, Rv b_1, Iv (4 : Int32), Us, Us, Us, Us, Us, Us, Us] [])) tt_
      refine XS.aloadN X_7.here hEX rfl (hb hBY at_21) rfl rfl ?_
      show Steps p.tables e below (T_7.setTop (mkF m 22 #[Iv p1, Iv p2, Iv p3, Rv b_1, Iv (4 : Int32), Us, Us, Us, Us, Us, Us, Us] [(.ref b_1)])) tt_
      refine XS.aconstNull X_7.here hEX rfl (hb hBY at_22) ?_
      exact kt_
    refine Done.pre sg_84 ?_
    obtain ⟨cq_85, kq_85, q_85a, q_85b, q_85c⟩ := isOf hZW rfl hq_7_0
    obtain ⟨_, _, ⟨T_85, L_85, k_85, n_85⟩, -, X_85, ⟨Lc_85, hQ_85, l_85, y_85, z_85⟩, st_85⟩ := X_7.virtualBack hEX (y := (⟨"com/example/actorium/actorium/Claimant$Sends", "begin", "(Lcom/example/actorium/actorium/DispatchedCell;)I"⟩ : MethodName)) (z := (⟨"com/example/actorium/actorium/Claimant$Sends", "begin", "(Lcom/example/actorium/actorium/DispatchedCell;)I"⟩ : MethodName)) hOW (mvT hZW (hw _ (List.mem_of_getElem? (i := 30) rfl))) (mvT hZW (hw _ (List.mem_of_getElem? (i := 31) rfl))) (notFace_of_selects (args := #[]) (mvT hZW (hw _ (List.mem_of_getElem? (i := 33) rfl)))) (mvT hZW (hw _ (List.mem_of_getElem? (i := 33) rfl))) (mvT hZW (hw _ (List.mem_of_getElem? (i := 32) rfl))) (by decide) (backOf (W := 0) (rm_begin l Z aZ hw [] b_1 (0 : Int32) b__7 k__7 T_7.heap n0 (Nat.le_trans Z0 K__8.1) hq_7_0 hq_7_1 hq_7_2 hq_7_3 ge_b_1 (Nat.le_trans Z0 sz_b__7) ne_b_1_b__7 (by decide)) hZW (hw _ (List.mem_of_getElem? (i := 34) rfl)) (hw _ (List.mem_of_getElem? (i := 2) rfl)) (by decide) (by decide)) q_85a q_85c (g := (mkF m 23 #[Iv p1, Iv p2, Iv p3, Rv b_1, Iv (4 : Int32), Us, Us, Us, Us, Us, Us, Us] [.null, (.ref b_1)])) rfl (by rw [hMX]; rfl) (Steps.refl _) (argsL := [.null]) (rest := []) (lenOf pd__Lcom_example_actorium_actorium_DispatchedCell__I_4 rfl) rfl (by show 2 * 0 + _ ≤ _; exact Nat.le_of_eq rfl) (hb hBY at_23) (fun _ _ => ⟨rfl, rfl, (by decide : 2 + 0 ≤ _), (by decide : 10 + 0 ≤ _)⟩)
    dsimp only [Pt.U, Pt.locs, Pt.cells, Pt.slots] at X_85 l_85 y_85 z_85 st_85 hQ_85
    subst l_85 y_85 z_85
    obtain ⟨rfl, N_85q, K_85, hq_85_0, hq_85_1, hq_85_2, hq_85_3⟩ := hQ_85
    have N_85 := Fr.app N_7 N_85q
    have K__86 : Keep h0 T_85.heap [] := K__8.trans K_85 (allS (Or.inr sz_b_1) (allS (Or.inr sz_b__7) all0))
    have f_87 : Exa Z T_85.heap b_1 "com/example/actorium/actorium/Claimant$Sends" := hq_7_0.keep K_85
    refine Done.pre (fun _ k_ => st_85.trans k_) ?_
    show Done _ _ _ _ _ _ _ (T_85.setTop (mkF m 26 #[Iv p1, Iv p2, Iv p3, Rv b_1, Iv (4 : Int32), Us, Us, Us, Us, Us, Us, Us] [(.int (0 : Int32))]))
    have f_88 : Fld Z T_85.heap b_1 "com/example/actorium/actorium/Claimant$Sends" "top" "I" (.int (1 : Int32)) := by have q := hq_85_1; rw [show ((0 : Int32) + (1 : Int32)) = (1 : Int32) from by decide] at q; exact q
    have sg_89 : ∀ tt_, Steps p.tables e below (T_85.setTop (mkF m 35 #[Iv p1, Iv p2, Iv p3, Rv b_1, Iv (4 : Int32), Us, Us, Us, Us, Us, Us, Us] [.null, (.ref b_1)])) tt_ → Steps p.tables e below (T_85.setTop (mkF m 26 #[Iv p1, Iv p2, Iv p3, Rv b_1, Iv (4 : Int32), Us, Us, Us, Us, Us, Us, Us] [(.int (0 : Int32))])) tt_ := by
      intro tt_ kt_
      refine XS.pop X_85.here hEX rfl (hb hBY at_26) rfl rfl ?_
      show Steps p.tables e below (T_85.setTop (mkF m 27 #[Iv p1, Iv p2, Iv p3, Rv b_1, Iv (4 : Int32), Us, Us, Us, Us, Us, Us, Us] [])) tt_
      refine XS.iload X_85.here hEX rfl (hb hBY at_27) rfl ?_
      show Steps p.tables e below (T_85.setTop (mkF m 29 #[Iv p1, Iv p2, Iv p3, Rv b_1, Iv (4 : Int32), Us, Us, Us, Us, Us, Us, Us] [(.int (4 : Int32))])) tt_
      refine XS.iconst X_85.here hEX rfl (hb hBY at_29) ?_
      show Steps p.tables e below (T_85.setTop (mkF m 30 #[Iv p1, Iv p2, Iv p3, Rv b_1, Iv (4 : Int32), Us, Us, Us, Us, Us, Us, Us] [(.int (1 : Int32)), (.int (4 : Int32))])) tt_
      refine XS.icmpNo X_85.here hEX rfl (hb hBY at_30) rfl (tlt (by decide : (1 : Int32) < (4 : Int32))).2.2.2 ?_
      show Steps p.tables e below (T_85.setTop (mkF m 33 #[Iv p1, Iv p2, Iv p3, Rv b_1, Iv (4 : Int32), Us, Us, Us, Us, Us, Us, Us] [])) tt_
      refine XS.aloadN X_85.here hEX rfl (hb hBY at_33) rfl rfl ?_
      show Steps p.tables e below (T_85.setTop (mkF m 34 #[Iv p1, Iv p2, Iv p3, Rv b_1, Iv (4 : Int32), Us, Us, Us, Us, Us, Us, Us] [(.ref b_1)])) tt_
      refine XS.aconstNull X_85.here hEX rfl (hb hBY at_34) ?_
      exact kt_
    refine Done.pre sg_89 ?_
    obtain ⟨cq_90, kq_90, q_90a, q_90b, q_90c⟩ := isOf hZW rfl hq_85_0
    obtain ⟨_, _, ⟨T_90, L_90, k_90, n_90⟩, -, X_90, ⟨Lc_90, hQ_90, l_90, y_90, z_90⟩, st_90⟩ := X_85.virtualBack hEX (y := (⟨"com/example/actorium/actorium/Claimant$Sends", "begin", "(Lcom/example/actorium/actorium/DispatchedCell;)I"⟩ : MethodName)) (z := (⟨"com/example/actorium/actorium/Claimant$Sends", "begin", "(Lcom/example/actorium/actorium/DispatchedCell;)I"⟩ : MethodName)) hOW (mvT hZW (hw _ (List.mem_of_getElem? (i := 30) rfl))) (mvT hZW (hw _ (List.mem_of_getElem? (i := 31) rfl))) (notFace_of_selects (args := #[]) (mvT hZW (hw _ (List.mem_of_getElem? (i := 33) rfl)))) (mvT hZW (hw _ (List.mem_of_getElem? (i := 33) rfl))) (mvT hZW (hw _ (List.mem_of_getElem? (i := 32) rfl))) (by decide) (backOf (W := 0) (rm_begin l Z aZ hw [] b_1 (1 : Int32) b__7 k__7 T_85.heap n0 (Nat.le_trans Z0 K__86.1) hq_85_0 f_88 hq_85_2 hq_85_3 ge_b_1 (Nat.le_trans Z0 sz_b__7) ne_b_1_b__7 (by decide)) hZW (hw _ (List.mem_of_getElem? (i := 34) rfl)) (hw _ (List.mem_of_getElem? (i := 2) rfl)) (by decide) (by decide)) q_90a q_90c (g := (mkF m 35 #[Iv p1, Iv p2, Iv p3, Rv b_1, Iv (4 : Int32), Us, Us, Us, Us, Us, Us, Us] [.null, (.ref b_1)])) rfl (by rw [hMX]; rfl) (Steps.refl _) (argsL := [.null]) (rest := []) (lenOf pd__Lcom_example_actorium_actorium_DispatchedCell__I_4 rfl) rfl (by show 2 * 0 + _ ≤ _; exact Nat.le_of_eq rfl) (hb hBY at_35) (fun _ _ => ⟨rfl, rfl, (by decide : 2 + 0 ≤ _), (by decide : 10 + 0 ≤ _)⟩)
    dsimp only [Pt.U, Pt.locs, Pt.cells, Pt.slots] at X_90 l_90 y_90 z_90 st_90 hQ_90
    subst l_90 y_90 z_90
    obtain ⟨rfl, N_90q, K_90, hq_90_0, hq_90_1, hq_90_2, hq_90_3⟩ := hQ_90
    have N_90 := Fr.app N_85 N_90q
    have K__91 : Keep h0 T_90.heap [] := K__86.trans K_90 (allS (Or.inr sz_b_1) (allS (Or.inr sz_b__7) all0))
    have f_92 : Exa Z T_90.heap b_1 "com/example/actorium/actorium/Claimant$Sends" := hq_85_0.keep K_90
    refine Done.pre (fun _ k_ => st_90.trans k_) ?_
    show Done _ _ _ _ _ _ _ (T_90.setTop (mkF m 38 #[Iv p1, Iv p2, Iv p3, Rv b_1, Iv (4 : Int32), Us, Us, Us, Us, Us, Us, Us] [(.int (1 : Int32))]))
    have f_93 : Fld Z T_90.heap b_1 "com/example/actorium/actorium/Claimant$Sends" "top" "I" (.int (2 : Int32)) := by have q := hq_90_1; rw [show ((1 : Int32) + (1 : Int32)) = (2 : Int32) from by decide] at q; exact q
    have sg_94 : ∀ tt_, Steps p.tables e below (T_90.setTop (mkF m 47 #[Iv p1, Iv p2, Iv p3, Rv b_1, Iv (4 : Int32), Us, Us, Us, Us, Us, Us, Us] [.null, (.ref b_1)])) tt_ → Steps p.tables e below (T_90.setTop (mkF m 38 #[Iv p1, Iv p2, Iv p3, Rv b_1, Iv (4 : Int32), Us, Us, Us, Us, Us, Us, Us] [(.int (1 : Int32))])) tt_ := by
      intro tt_ kt_
      refine XS.pop X_90.here hEX rfl (hb hBY at_38) rfl rfl ?_
      show Steps p.tables e below (T_90.setTop (mkF m 39 #[Iv p1, Iv p2, Iv p3, Rv b_1, Iv (4 : Int32), Us, Us, Us, Us, Us, Us, Us] [])) tt_
      refine XS.iload X_90.here hEX rfl (hb hBY at_39) rfl ?_
      show Steps p.tables e below (T_90.setTop (mkF m 41 #[Iv p1, Iv p2, Iv p3, Rv b_1, Iv (4 : Int32), Us, Us, Us, Us, Us, Us, Us] [(.int (4 : Int32))])) tt_
      refine XS.iconst X_90.here hEX rfl (hb hBY at_41) ?_
      show Steps p.tables e below (T_90.setTop (mkF m 42 #[Iv p1, Iv p2, Iv p3, Rv b_1, Iv (4 : Int32), Us, Us, Us, Us, Us, Us, Us] [(.int (2 : Int32)), (.int (4 : Int32))])) tt_
      refine XS.icmpNo X_90.here hEX rfl (hb hBY at_42) rfl (tlt (by decide : (2 : Int32) < (4 : Int32))).2.2.2 ?_
      show Steps p.tables e below (T_90.setTop (mkF m 45 #[Iv p1, Iv p2, Iv p3, Rv b_1, Iv (4 : Int32), Us, Us, Us, Us, Us, Us, Us] [])) tt_
      refine XS.aloadN X_90.here hEX rfl (hb hBY at_45) rfl rfl ?_
      show Steps p.tables e below (T_90.setTop (mkF m 46 #[Iv p1, Iv p2, Iv p3, Rv b_1, Iv (4 : Int32), Us, Us, Us, Us, Us, Us, Us] [(.ref b_1)])) tt_
      refine XS.aconstNull X_90.here hEX rfl (hb hBY at_46) ?_
      exact kt_
    refine Done.pre sg_94 ?_
    obtain ⟨cq_95, kq_95, q_95a, q_95b, q_95c⟩ := isOf hZW rfl hq_90_0
    obtain ⟨_, _, ⟨T_95, L_95, k_95, n_95⟩, -, X_95, ⟨Lc_95, hQ_95, l_95, y_95, z_95⟩, st_95⟩ := X_90.virtualBack hEX (y := (⟨"com/example/actorium/actorium/Claimant$Sends", "begin", "(Lcom/example/actorium/actorium/DispatchedCell;)I"⟩ : MethodName)) (z := (⟨"com/example/actorium/actorium/Claimant$Sends", "begin", "(Lcom/example/actorium/actorium/DispatchedCell;)I"⟩ : MethodName)) hOW (mvT hZW (hw _ (List.mem_of_getElem? (i := 30) rfl))) (mvT hZW (hw _ (List.mem_of_getElem? (i := 31) rfl))) (notFace_of_selects (args := #[]) (mvT hZW (hw _ (List.mem_of_getElem? (i := 33) rfl)))) (mvT hZW (hw _ (List.mem_of_getElem? (i := 33) rfl))) (mvT hZW (hw _ (List.mem_of_getElem? (i := 32) rfl))) (by decide) (backOf (W := 0) (rm_begin l Z aZ hw [] b_1 (2 : Int32) b__7 k__7 T_90.heap n0 (Nat.le_trans Z0 K__91.1) hq_90_0 f_93 hq_90_2 hq_90_3 ge_b_1 (Nat.le_trans Z0 sz_b__7) ne_b_1_b__7 (by decide)) hZW (hw _ (List.mem_of_getElem? (i := 34) rfl)) (hw _ (List.mem_of_getElem? (i := 2) rfl)) (by decide) (by decide)) q_95a q_95c (g := (mkF m 47 #[Iv p1, Iv p2, Iv p3, Rv b_1, Iv (4 : Int32), Us, Us, Us, Us, Us, Us, Us] [.null, (.ref b_1)])) rfl (by rw [hMX]; rfl) (Steps.refl _) (argsL := [.null]) (rest := []) (lenOf pd__Lcom_example_actorium_actorium_DispatchedCell__I_4 rfl) rfl (by show 2 * 0 + _ ≤ _; exact Nat.le_of_eq rfl) (hb hBY at_47) (fun _ _ => ⟨rfl, rfl, (by decide : 2 + 0 ≤ _), (by decide : 10 + 0 ≤ _)⟩)
    dsimp only [Pt.U, Pt.locs, Pt.cells, Pt.slots] at X_95 l_95 y_95 z_95 st_95 hQ_95
    subst l_95 y_95 z_95
    obtain ⟨rfl, N_95q, K_95, hq_95_0, hq_95_1, hq_95_2, hq_95_3⟩ := hQ_95
    have N_95 := Fr.app N_90 N_95q
    have K__96 : Keep h0 T_95.heap [] := K__91.trans K_95 (allS (Or.inr sz_b_1) (allS (Or.inr sz_b__7) all0))
    have f_97 : Exa Z T_95.heap b_1 "com/example/actorium/actorium/Claimant$Sends" := hq_90_0.keep K_95
    refine Done.pre (fun _ k_ => st_95.trans k_) ?_
    show Done _ _ _ _ _ _ _ (T_95.setTop (mkF m 50 #[Iv p1, Iv p2, Iv p3, Rv b_1, Iv (4 : Int32), Us, Us, Us, Us, Us, Us, Us] [(.int (2 : Int32))]))
    have f_98 : Fld Z T_95.heap b_1 "com/example/actorium/actorium/Claimant$Sends" "top" "I" (.int (3 : Int32)) := by have q := hq_95_1; rw [show ((2 : Int32) + (1 : Int32)) = (3 : Int32) from by decide] at q; exact q
    have sg_99 : ∀ tt_, Steps p.tables e below (T_95.setTop (mkF m 59 #[Iv p1, Iv p2, Iv p3, Rv b_1, Iv (4 : Int32), Us, Us, Us, Us, Us, Us, Us] [.null, (.ref b_1)])) tt_ → Steps p.tables e below (T_95.setTop (mkF m 50 #[Iv p1, Iv p2, Iv p3, Rv b_1, Iv (4 : Int32), Us, Us, Us, Us, Us, Us, Us] [(.int (2 : Int32))])) tt_ := by
      intro tt_ kt_
      refine XS.pop X_95.here hEX rfl (hb hBY at_50) rfl rfl ?_
      show Steps p.tables e below (T_95.setTop (mkF m 51 #[Iv p1, Iv p2, Iv p3, Rv b_1, Iv (4 : Int32), Us, Us, Us, Us, Us, Us, Us] [])) tt_
      refine XS.iload X_95.here hEX rfl (hb hBY at_51) rfl ?_
      show Steps p.tables e below (T_95.setTop (mkF m 53 #[Iv p1, Iv p2, Iv p3, Rv b_1, Iv (4 : Int32), Us, Us, Us, Us, Us, Us, Us] [(.int (4 : Int32))])) tt_
      refine XS.iconst X_95.here hEX rfl (hb hBY at_53) ?_
      show Steps p.tables e below (T_95.setTop (mkF m 54 #[Iv p1, Iv p2, Iv p3, Rv b_1, Iv (4 : Int32), Us, Us, Us, Us, Us, Us, Us] [(.int (3 : Int32)), (.int (4 : Int32))])) tt_
      refine XS.icmpNo X_95.here hEX rfl (hb hBY at_54) rfl (tlt (by decide : (3 : Int32) < (4 : Int32))).2.2.2 ?_
      show Steps p.tables e below (T_95.setTop (mkF m 57 #[Iv p1, Iv p2, Iv p3, Rv b_1, Iv (4 : Int32), Us, Us, Us, Us, Us, Us, Us] [])) tt_
      refine XS.aloadN X_95.here hEX rfl (hb hBY at_57) rfl rfl ?_
      show Steps p.tables e below (T_95.setTop (mkF m 58 #[Iv p1, Iv p2, Iv p3, Rv b_1, Iv (4 : Int32), Us, Us, Us, Us, Us, Us, Us] [(.ref b_1)])) tt_
      refine XS.aconstNull X_95.here hEX rfl (hb hBY at_58) ?_
      exact kt_
    refine Done.pre sg_99 ?_
    obtain ⟨cq_100, kq_100, q_100a, q_100b, q_100c⟩ := isOf hZW rfl hq_95_0
    obtain ⟨_, _, ⟨T_100, L_100, k_100, n_100⟩, -, X_100, ⟨Lc_100, hQ_100, l_100, y_100, z_100⟩, st_100⟩ := X_95.virtualBack hEX (y := (⟨"com/example/actorium/actorium/Claimant$Sends", "begin", "(Lcom/example/actorium/actorium/DispatchedCell;)I"⟩ : MethodName)) (z := (⟨"com/example/actorium/actorium/Claimant$Sends", "begin", "(Lcom/example/actorium/actorium/DispatchedCell;)I"⟩ : MethodName)) hOW (mvT hZW (hw _ (List.mem_of_getElem? (i := 30) rfl))) (mvT hZW (hw _ (List.mem_of_getElem? (i := 31) rfl))) (notFace_of_selects (args := #[]) (mvT hZW (hw _ (List.mem_of_getElem? (i := 33) rfl)))) (mvT hZW (hw _ (List.mem_of_getElem? (i := 33) rfl))) (mvT hZW (hw _ (List.mem_of_getElem? (i := 32) rfl))) (by decide) (backOf (W := 0) (rm_begin l Z aZ hw [] b_1 (3 : Int32) b__7 k__7 T_95.heap n0 (Nat.le_trans Z0 K__96.1) hq_95_0 f_98 hq_95_2 hq_95_3 ge_b_1 (Nat.le_trans Z0 sz_b__7) ne_b_1_b__7 (by decide)) hZW (hw _ (List.mem_of_getElem? (i := 34) rfl)) (hw _ (List.mem_of_getElem? (i := 2) rfl)) (by decide) (by decide)) q_100a q_100c (g := (mkF m 59 #[Iv p1, Iv p2, Iv p3, Rv b_1, Iv (4 : Int32), Us, Us, Us, Us, Us, Us, Us] [.null, (.ref b_1)])) rfl (by rw [hMX]; rfl) (Steps.refl _) (argsL := [.null]) (rest := []) (lenOf pd__Lcom_example_actorium_actorium_DispatchedCell__I_4 rfl) rfl (by show 2 * 0 + _ ≤ _; exact Nat.le_of_eq rfl) (hb hBY at_59) (fun _ _ => ⟨rfl, rfl, (by decide : 2 + 0 ≤ _), (by decide : 10 + 0 ≤ _)⟩)
    dsimp only [Pt.U, Pt.locs, Pt.cells, Pt.slots] at X_100 l_100 y_100 z_100 st_100 hQ_100
    subst l_100 y_100 z_100
    obtain ⟨rfl, N_100q, K_100, hq_100_0, hq_100_1, hq_100_2, hq_100_3⟩ := hQ_100
    have N_100 := Fr.app N_95 N_100q
    have K__101 : Keep h0 T_100.heap [] := K__96.trans K_100 (allS (Or.inr sz_b_1) (allS (Or.inr sz_b__7) all0))
    have f_102 : Exa Z T_100.heap b_1 "com/example/actorium/actorium/Claimant$Sends" := hq_95_0.keep K_100
    refine Done.pre (fun _ k_ => st_100.trans k_) ?_
    show Done _ _ _ _ _ _ _ (T_100.setTop (mkF m 62 #[Iv p1, Iv p2, Iv p3, Rv b_1, Iv (4 : Int32), Us, Us, Us, Us, Us, Us, Us] [(.int (3 : Int32))]))
    have f_103 : Fld Z T_100.heap b_1 "com/example/actorium/actorium/Claimant$Sends" "top" "I" (.int (4 : Int32)) := by have q := hq_100_1; rw [show ((3 : Int32) + (1 : Int32)) = (4 : Int32) from by decide] at q; exact q
    have sg_104 : ∀ tt_, Steps p.tables e below (T_100.setTop (mkF m 63 #[Iv p1, Iv p2, Iv p3, Rv b_1, Iv (4 : Int32), Us, Us, Us, Us, Us, Us, Us] [])) tt_ → Steps p.tables e below (T_100.setTop (mkF m 62 #[Iv p1, Iv p2, Iv p3, Rv b_1, Iv (4 : Int32), Us, Us, Us, Us, Us, Us, Us] [(.int (3 : Int32))])) tt_ := by
      intro tt_ kt_
      refine XS.pop X_100.here hEX rfl (hb hBY at_62) rfl rfl ?_
      exact kt_
    refine Done.pre sg_104 ?_
    exact jn_11 T_100 T_100.heap _ X_100 rfl N_100 K__101 ((4 : Int32)) hq_100_0 f_103 hq_100_2 hq_100_3 (by decide)
set_option maxRecDepth 65536 in
set_option maxHeartbeats 40000000 in
theorem comes_1 {Post : Tables → Env → Array Value → State → Outcome → State → Prop} (hpost : ∀ tb e args s v u, (limb_1_1.after args s (.returned v) u = true ∧ limb_1_2.after args s (.returned v) u = true ∧ True) → FrameEnd s (.returned v) u (Jvm.fieldLocs frame_1_writes args s ++ Jvm.arrayLocs frame_1_arrays args s ++ Jvm.staticLocs frame_1_statics s) 16 128 → Post tb e args s (.returned v) u) :
    ArmFor flags0 classFile x code maxLocals ret World_1 tables_1 room_1 Calls_1 rest_1 Pre_1 Post := by
  intro l hfl _ _ p e ha hc hk s m args below hf hA hF happ hP
  obtain ⟨hcalls, hrest, hpre⟩ := hP
  obtain ⟨-, -, -, hnamed, -, -, -, hat⟩ := (Spec.applies_iff hf).mp happ
  obtain ⟨hg, hn⟩ := and_e (Cond.before_iff.mp (show (Jvm.Cond.and given_1 narrow_1).before args s = true from hpre))
  obtain ⟨g1a, g1b⟩ := and_e hg
  obtain ⟨g2a, g2b⟩ := and_e g1b
  obtain ⟨g3a, g3b⟩ := and_e g2b
  obtain ⟨w0, w1, w2, rfl⟩ : ∃ w0 w1 w2 : Value, args = #[w0, w1, w2] := by
    have hs : args.size = 3 := by simpa [Cond.value, given_1] using g1a
    obtain ⟨L⟩ := args
    match L, hs with
    | [w0, w1, w2], _ => exact ⟨w0, w1, w2, rfl⟩
  have hw := fun d (hd : d ∈ tables_1) => atoms_spec (ws := Jvm.Cond.code x code maxLocals ret :: tables_1) hat d (List.mem_cons_of_mem _ hd)
  have hfit : Fit s := fun {y c} hc i hi => by
    obtain ⟨ha, rfl⟩ := Array.getElem?_eq_some_iff.mp hc
    have q := List.all_eq_true.mp ((Array.all_eq_true_iff_forall_mem.mp hF) _ (Array.getElem_mem ha)) i (List.mem_range.mpr hi)
    simpa [Array.getElem?_eq_getElem hi] using q
  obtain ⟨i0, ei0⟩ := is_v g2a
  obtain rfl : w0 = (.int i0) := Option.some.inj ei0
  obtain ⟨i1, ei1⟩ := is_v g3a
  obtain rfl : w1 = (.int i1) := Option.some.inj ei1
  obtain ⟨i2, ei2⟩ := is_v g3b
  obtain rfl : w2 = (.int i2) := Option.some.inj ei2
  obtain ⟨n, o, h1, h2, h3, _, L, rfl, ⟨rfl, N, -⟩, hq⟩ := rm0 l s _ hw tables_1 i0 i1 i2  s.heap s.heap.size (Nat.le_refl _)  p e ha hc hk s m _ below hf ((Spec.applies_iff_loose hf).mp happ).1 ⟨rfl, State.Warmed39.refl s, rfl⟩ trivial
  refine ⟨n, _, h1, h2, h3, hpost _ _ _ _ _ _ ⟨Cond.after_iff.mpr rfl, Cond.after_iff.mpr (eq_i res_at (Term.int_eval (1)) rfl), trivial⟩ ⟨hq.1, hq.2.1, (hq.2.2.sift fun y hy => Or.inr (N y hy)).mono (by decide) (by decide)⟩⟩
theorem main_1_1 : Claimed_1_1 := comes_1 fun _ _ _ _ _ _ h hF => ⟨h.1, hF⟩
theorem main_1_2 : Claimed_1_2 := comes_1 fun _ _ _ _ _ _ h hF => ⟨h.2.1, hF⟩
end Jvm.Pilot.@@N@@
namespace Jvm.Pilot.@@N@@
open Jvm Jvm.ClassFile Sem Op Lib Jvm.Free Jvm.Stand Jvm.Pilot.@@N@@.Jvm.D
/-! MADE BY PROGRAM (witnessworld.py) out of the Statement's table words and the real class files: 11 classes; the members and pool entries that the words name. The judged class is class 1, her method 2. -/
namespace start1
open Jvm.ClassFile
def u (s : String) : CpInfo := .utf8 (stringToUtf16 s)
/-- a pool by its gaps: so many unusable entries, then the entry; so many at the end -/
def gap : Nat → List CpInfo → List CpInfo
  | 0, r => r
  | n + 1, r => .unusable :: gap n r
def poolList (es : List (Nat × CpInfo)) (last : Nat) : List CpInfo := es.foldr (fun e r => gap e.1 (e.2 :: r)) (gap last [])
def pool (es : List (Nat × CpInfo)) (last : Nat) : Array CpInfo := ⟨poolList es last⟩
def fileOf (pool : Array CpInfo) (this : Nat) (attrs : Array Attribute := #[]) (ms : Array MethodInfo := #[]) (fl : Nat := 33) (sup : Nat := 0) (ifs : Array Nat := #[]) (fds : Array FieldInfo := #[]) : ClassFile where
  minorVersion := 0
  majorVersion := 65
  constantPool := pool
  accessFlags := fl
  thisClass := this
  superClass := sup
  interfaces := ifs
  fields := fds
  methods := ms
  attributes := attrs
def plain (name : String) (sup : Option ClassId) : Class where
  name := name
  kind := .ordinary
  loader := none
  accessFlags := 33
  super := sup
  interfaces := #[]
  cf := none
  fields := #[]
  methods := #[]
  instanceTypes := #[]
  staticTypes := #[]
  resolved := #[]
  callSites := []
  init := .initialized
  statics := none
  mirror := none

def pool0 : Array CpInfo := pool [(5, u "<init>"), (0, u "()V"), (1, .class_ 10), (1, u "java/lang/Object")] 113

def k0c0 : Code := { maxStack := 0, maxLocals := 1, code := object_method_1_code, exceptionTable := #[], attributes := #[] }
def k0m0 : Method := { name := "<init>", desc := "()V", sig := { parameters := [], returnType := none }, accessFlags := 1, code := some k0c0 }
/-- java/lang/Object -/
def k0 : Class := { plain "java/lang/Object" none with
  accessFlags := 33
  interfaces := #[]
  cf := some (fileOf pool0 8 #[] #[{ accessFlags := 1, nameIndex := 5, descriptorIndex := 6, attributes := #[] }] 33 0 #[] #[])
  fields := #[]
  methods := #[k0m0]
  instanceTypes := #[]
  staticTypes := #[]
  resolved := Array.replicate 124 none
  statics := none }

def pool1 : Array CpInfo := pool [(2, .class_ 4), (0, .nameAndType 5 6), (0, u "java/lang/Object"), (0, u "<init>"), (0, u "()V"), (0, .class_ 8), (0, u "com/example/actorium/actorium/Claimant$Sends"), (0, .methodref 7 3), (0, .integer 2147483647), (0, .methodref 7 12), (0, .nameAndType 13 14), (0, u "begin"), (0, u "(Lcom/example/actorium/actorium/DispatchedCell;)I"), (0, .methodref 16 17), (0, .class_ 18), (0, .nameAndType 19 20), (0, u "com/example/actorium/actorium/ClaimantNextLeftPinLaw"), (0, u "drawFrom"), (0, u "(I)I"), (0, .methodref 7 22), (0, .nameAndType 23 24), (0, u "nextLeft"), (0, u "(I)Lcom/example/actorium/actorium/DispatchedCell;"), (0, .methodref 7 26), (0, .nameAndType 27 28), (0, u "depth"), (0, u "()I"), (3, u "law"), (0, u "(III)Z")] 6

def k1m0 : Method := { name := "<init>", desc := "()V", sig := { parameters := [], returnType := none }, accessFlags := 2, code := none }
def k1c1 : Code := { maxStack := 2, maxLocals := 1, code := method_2_code, exceptionTable := #[], attributes := #[] }
def k1m1 : Method := { name := "drawFrom", desc := "(I)I", sig := { parameters := [.int], returnType := some .int }, accessFlags := 10, code := some k1c1 }
def k1c2 : Code := { maxStack := 2, maxLocals := 12, code := code, exceptionTable := #[], attributes := #[] }
def k1m2 : Method := { name := "law", desc := "(III)Z", sig := { parameters := [.int, .int, .int], returnType := some .boolean }, accessFlags := 9, code := some k1c2 }
/-- com/example/actorium/actorium/ClaimantNextLeftPinLaw -/
def k1 : Class := { plain "com/example/actorium/actorium/ClaimantNextLeftPinLaw" (some 0) with
  accessFlags := 49
  interfaces := #[]
  cf := some (fileOf pool1 16 #[] #[{ accessFlags := 2, nameIndex := 5, descriptorIndex := 6, attributes := #[] }, { accessFlags := 10, nameIndex := 19, descriptorIndex := 20, attributes := #[] }, { accessFlags := 9, nameIndex := 32, descriptorIndex := 33, attributes := #[] }] 49 2 #[] #[])
  fields := #[]
  methods := #[k1m0, k1m1, k1m2]
  instanceTypes := #[]
  staticTypes := #[]
  resolved := Array.replicate 40 none
  statics := none }

def pool2 : Array CpInfo := pool [(1, .methodref 2 3), (0, .class_ 4), (0, .nameAndType 5 6), (0, u "java/lang/Object"), (0, u "<init>"), (0, u "()V"), (0, .class_ 8), (0, u "com/example/actorium/actorium/DispatchedCell"), (0, .fieldref 10 11), (0, .class_ 12), (0, .nameAndType 13 14), (0, u "com/example/actorium/actorium/Claimant$Sends"), (0, u "cells"), (0, u "[Lcom/example/actorium/actorium/DispatchedCell;"), (0, .fieldref 10 16), (0, .nameAndType 17 18), (0, u "top"), (0, u "I"), (9, u "begin"), (0, u "(Lcom/example/actorium/actorium/DispatchedCell;)I"), (3, u "depth"), (0, u "()I"), (0, u "nextLeft"), (0, u "(I)Lcom/example/actorium/actorium/DispatchedCell;"), (3, .class_ 41), (0, u "com/example/actorium/actorium/Claimant")] 2

def k2c0 : Code := { maxStack := 2, maxLocals := 1, code := prog_25_method_1_code, exceptionTable := #[], attributes := #[] }
def k2m0 : Method := { name := "<init>", desc := "()V", sig := { parameters := [], returnType := none }, accessFlags := 0, code := some k2c0 }
def k2c1 : Code := { maxStack := 4, maxLocals := 2, code := prog_25_method_2_code, exceptionTable := #[], attributes := #[] }
def k2m1 : Method := { name := "begin", desc := "(Lcom/example/actorium/actorium/DispatchedCell;)I", sig := { parameters := [(.object "com/example/actorium/actorium/DispatchedCell")], returnType := some .int }, accessFlags := 0, code := some k2c1 }
def k2c2 : Code := { maxStack := 1, maxLocals := 1, code := prog_25_method_4_code, exceptionTable := #[], attributes := #[] }
def k2m2 : Method := { name := "depth", desc := "()I", sig := { parameters := [], returnType := some .int }, accessFlags := 0, code := some k2c2 }
def k2c3 : Code := { maxStack := 3, maxLocals := 3, code := prog_25_method_5_code, exceptionTable := #[], attributes := #[] }
def k2m3 : Method := { name := "nextLeft", desc := "(I)Lcom/example/actorium/actorium/DispatchedCell;", sig := { parameters := [.int], returnType := some (.object "com/example/actorium/actorium/DispatchedCell") }, accessFlags := 0, code := some k2c3 }
/-- com/example/actorium/actorium/Claimant$Sends -/
def k2 : Class := { plain "com/example/actorium/actorium/Claimant$Sends" (some 0) with
  accessFlags := 48
  interfaces := #[]
  cf := some (fileOf pool2 10 #[.nestHost 40] #[{ accessFlags := 0, nameIndex := 5, descriptorIndex := 6, attributes := #[] }, { accessFlags := 0, nameIndex := 28, descriptorIndex := 29, attributes := #[] }, { accessFlags := 0, nameIndex := 33, descriptorIndex := 34, attributes := #[] }, { accessFlags := 0, nameIndex := 35, descriptorIndex := 36, attributes := #[] }] 48 2 #[] #[{ accessFlags := 2, nameIndex := 13, descriptorIndex := 14, attributes := #[] }, { accessFlags := 2, nameIndex := 17, descriptorIndex := 18, attributes := #[] }])
  fields := #[{ name := "cells", type := (.array (.object "com/example/actorium/actorium/DispatchedCell")), accessFlags := 2, slot := 0, constantValue := 0 }, { name := "top", type := .int, accessFlags := 2, slot := 1, constantValue := 0 }]
  methods := #[k2m0, k2m1, k2m2, k2m3]
  instanceTypes := #[(.array (.object "com/example/actorium/actorium/DispatchedCell")), .int]
  staticTypes := #[]
  resolved := Array.replicate 44 none
  statics := none }

def pool3 : Array CpInfo := pool [(2, .class_ 4), (1, u "java/lang/Object"), (3, .class_ 10), (1, u "com/example/actorium/actorium/DispatchedCell"), (0, u "system"), (0, u "Lcom/example/actorium/actorium/ActorSystem;"), (4, u "dispatcher"), (0, u "Lcom/example/actorium/actorium/Dispatcher;"), (12, u "mailbox"), (0, u "Lcom/example/actorium/actorium/MailboxQueue;"), (24, u "CURRENT"), (0, u "Ljava/lang/ThreadLocal;"), (12, u "sender"), (0, u "Lcom/example/actorium/actorium/ActorRef;"), (22, .class_ 97), (1, u "com/example/actorium/actorium/DispatchedCell$Delivery"), (23, u "taken"), (0, u "Lcom/example/actorium/actorium/Envelope;"), (16, u "terminated"), (0, u "Z"), (45, u "Ljava/lang/Object;"), (33, u "status"), (11, u "STATUS"), (0, u "Ljava/util/concurrent/atomic/AtomicReferenceFieldUpdater;"), (15, u "started"), (12, u "pushed"), (30, u "PUSHED")] 87

/-- com/example/actorium/actorium/DispatchedCell -/
def k3 : Class := { plain "com/example/actorium/actorium/DispatchedCell" (some 0) with
  accessFlags := 1056
  interfaces := #[]
  cf := some (fileOf pool3 8 #[.nestMembers #[95]] #[] 1056 2 #[] #[{ accessFlags := 26, nameIndex := 57, descriptorIndex := 58, attributes := #[] }, { accessFlags := 26, nameIndex := 232, descriptorIndex := 233, attributes := #[] }, { accessFlags := 26, nameIndex := 293, descriptorIndex := 233, attributes := #[] }, { accessFlags := 16, nameIndex := 11, descriptorIndex := 12, attributes := #[] }, { accessFlags := 18, nameIndex := 17, descriptorIndex := 18, attributes := #[] }, { accessFlags := 18, nameIndex := 31, descriptorIndex := 32, attributes := #[] }, { accessFlags := 66, nameIndex := 262, descriptorIndex := 122, attributes := #[] }, { accessFlags := 2, nameIndex := 121, descriptorIndex := 122, attributes := #[] }, { accessFlags := 2, nameIndex := 249, descriptorIndex := 140, attributes := #[] }, { accessFlags := 66, nameIndex := 220, descriptorIndex := 186, attributes := #[] }, { accessFlags := 66, nameIndex := 139, descriptorIndex := 140, attributes := #[] }, { accessFlags := 2, nameIndex := 71, descriptorIndex := 72, attributes := #[] }])
  fields := #[{ name := "CURRENT", type := (.object "java/lang/ThreadLocal"), accessFlags := 26, slot := 0, constantValue := 0 }, { name := "STATUS", type := (.object "java/util/concurrent/atomic/AtomicReferenceFieldUpdater"), accessFlags := 26, slot := 1, constantValue := 0 }, { name := "PUSHED", type := (.object "java/util/concurrent/atomic/AtomicReferenceFieldUpdater"), accessFlags := 26, slot := 2, constantValue := 0 }, { name := "system", type := (.object "com/example/actorium/actorium/ActorSystem"), accessFlags := 16, slot := 0, constantValue := 0 }, { name := "dispatcher", type := (.object "com/example/actorium/actorium/Dispatcher"), accessFlags := 18, slot := 1, constantValue := 0 }, { name := "mailbox", type := (.object "com/example/actorium/actorium/MailboxQueue"), accessFlags := 18, slot := 2, constantValue := 0 }, { name := "pushed", type := (.object "com/example/actorium/actorium/Envelope"), accessFlags := 66, slot := 3, constantValue := 0 }, { name := "taken", type := (.object "com/example/actorium/actorium/Envelope"), accessFlags := 2, slot := 4, constantValue := 0 }, { name := "started", type := .boolean, accessFlags := 2, slot := 5, constantValue := 0 }, { name := "status", type := (.object "java/lang/Object"), accessFlags := 66, slot := 6, constantValue := 0 }, { name := "terminated", type := .boolean, accessFlags := 66, slot := 7, constantValue := 0 }, { name := "sender", type := (.object "com/example/actorium/actorium/ActorRef"), accessFlags := 2, slot := 8, constantValue := 0 }]
  methods := #[]
  instanceTypes := #[(.object "com/example/actorium/actorium/ActorSystem"), (.object "com/example/actorium/actorium/Dispatcher"), (.object "com/example/actorium/actorium/MailboxQueue"), (.object "com/example/actorium/actorium/Envelope"), (.object "com/example/actorium/actorium/Envelope"), .boolean, (.object "java/lang/Object"), .boolean, (.object "com/example/actorium/actorium/ActorRef")]
  staticTypes := #[(.object "java/lang/ThreadLocal"), (.object "java/util/concurrent/atomic/AtomicReferenceFieldUpdater"), (.object "java/util/concurrent/atomic/AtomicReferenceFieldUpdater")]
  resolved := Array.replicate 381 none
  statics := none }

def pool4 : Array CpInfo := pool [(1, u "java/lang/Cloneable"), (0, .class_ 1), (0, u "java/lang/Object"), (0, .class_ 3)] 3

/-- java/lang/Cloneable -/
def k4 : Class := { plain "java/lang/Cloneable" (some 0) with
  accessFlags := 1537
  interfaces := #[]
  cf := some (fileOf pool4 2 #[] #[] 1537 4 #[] #[])
  fields := #[]
  methods := #[]
  instanceTypes := #[]
  staticTypes := #[]
  resolved := Array.replicate 8 none
  statics := none }

def pool5 : Array CpInfo := pool [(1, u "java/io/Serializable"), (0, .class_ 1), (0, u "java/lang/Object"), (0, .class_ 3)] 3

/-- java/io/Serializable -/
def k5 : Class := { plain "java/io/Serializable" (some 0) with
  accessFlags := 1537
  interfaces := #[]
  cf := some (fileOf pool5 2 #[] #[] 1537 4 #[] #[])
  fields := #[]
  methods := #[]
  instanceTypes := #[]
  staticTypes := #[]
  resolved := Array.replicate 8 none
  statics := none }

/-- the primitive byte -/
def k6 : Class := { plain "byte" none with kind := .primitive 'B', accessFlags := 0x411 }
/-- [B -/
def k7 : Class := { plain "[B" (some 0) with kind := .array 6 .byte, interfaces := #[4, 5], accessFlags := 1041 }

/-- the primitive int -/
def k8 : Class := { plain "int" none with kind := .primitive 'I', accessFlags := 0x411 }
/-- [I -/
def k9 : Class := { plain "[I" (some 0) with kind := .array 8 .int, interfaces := #[4, 5], accessFlags := 1041 }

/-- [Lcom/example/actorium/actorium/DispatchedCell; -/
def k10 : Class := { plain "[Lcom/example/actorium/actorium/DispatchedCell;" (some 0) with kind := .array 3 (.object "com/example/actorium/actorium/DispatchedCell"), interfaces := #[4, 5], accessFlags := 1041 }

def heap : Heap := #[]
def classes : Array Class := #[k0, k1, k2, k3, k4, k5, k6, k7, k8, k9, k10]
def interned : List (Array UInt16 × Addr) := []
def slotsUsed : Nat := 0
def theMethod : MethodId := ⟨1, 2⟩
def args0 : Array Value := #[.int 7, .int 8, .int 9]
def aboutOver (below : List Frame) : State where
  vm := { classes := classes, interned := interned.toArray }
  heap := heap
  slotsUsed := slotsUsed
  threads := #[{ frames := .invoking theMethod args0 :: below }]
def below0 : List Frame := [.native { method := ⟨0, 0⟩, args := #[] }]
def about1 : State := aboutOver below0
def p0 : Program := .bare "" "" ""
def e0 : Env := launch0.env 0 0 0
theorem w_frames : about1.frames = Frame.invoking theMethod args0 :: below0 := rfl
set_option maxRecDepth 65536 in
theorem w_args : argsFit about1.vm theMethod args0 = true := by decide +kernel
set_option maxRecDepth 65536 in
theorem w_heap : heapFits about1 = true := by decide +kernel
set_option maxRecDepth 65536 in
theorem w_runnable : about1.curStatus? = some .runnable := by decide +kernel
set_option maxRecDepth 65536 in
theorem w_alone : about1.alone = true := by decide +kernel
set_option maxRecDepth 65536 in
theorem w_named : about1.methodNamed? x = some theMethod := by decide +kernel
set_option maxRecDepth 65536 in
theorem w_hears : about1.hears theMethod below0 = true := by decide +kernel
set_option maxRecDepth 65536 in
theorem w_ripe : about1.ripe theMethod args0 below0 = true := by decide +kernel
theorem w_running : about1.status = .running := rfl
set_option maxRecDepth 65536 in
theorem w_room : about1.hasRoom e0.platform room_1 = true :=
  launch0.hasRoom_least _ room_1 (by decide +kernel) (by decide +kernel) (by decide +kernel) (by decide +kernel) (by decide +kernel) (by decide +kernel)
theorem allAtoms_all (ts : List Jvm.Cond) (a : Array Jvm.Value) (st : Jvm.State) : (allAtoms ts).before a st = ts.all (fun c => c.before a st) := by
  induction ts with
  | nil => rfl
  | cons c t ih =>
    show (Jvm.Cond.and c (allAtoms t)).before a st = _
    rw [Jvm.Cond.before_and, ih, List.all_cons]
def words1 : List Jvm.Cond := Jvm.Cond.code x code maxLocals ret :: tables_1
/-- a 'code' word, met by the world's own term for the bytes: nothing is compared byte by byte -/
theorem code_word {y : MethodName} {bytes : ByteArray} {mx : Nat} {rt : Option FieldType} {a : Array Value} {s : State} {m : MethodId} {meth : Method} {c : Code} (h1 : s.methodNamed? y = some m) (h2 : s.vm.method? m = some meth) (h3 : meth.code = some c) (h4 : c.code = bytes)
    (h5 : (c.maxLocals == mx && c.exceptionTable.isEmpty && decide (c.maxStack ≤ mostOperands) && decide (meth.sig.returnType = rt) && !meth.locks && decide (parseMethodDescriptor y.desc = some meth.sig)) = true) : (Jvm.Cond.code y bytes mx rt).before a s = true := by
  simp only [Bool.and_eq_true, beq_iff_eq, Bool.not_eq_true', decide_eq_true_eq] at h5
  obtain ⟨⟨⟨⟨⟨g1, g2⟩, g3⟩, g4⟩, g5⟩, g6⟩ := h5
  simp [Cond.before, Cond.holds, Cond.value, h1, h2, h3, h4, g1, g2, g3, g4, g5, g6]
def isCode : Jvm.Cond → Bool
  | .code _ _ _ _ => true
  | _ => false
theorem all_split {L : List Jvm.Cond} {P : Jvm.Cond → Bool} (h1 : L.all (fun c => isCode c || P c) = true) (h2 : ∀ c ∈ L.filter isCode, P c = true) : L.all P = true := by
  refine List.all_eq_true.mpr fun c hc => ?_
  have h := List.all_eq_true.mp h1 c hc
  rcases Bool.eq_false_or_eq_true (isCode c) with hi | hi
  · exact h2 c (List.mem_filter.mpr ⟨hc, hi⟩)
  · simpa [hi] using h
set_option maxRecDepth 65536 in
theorem w_c0 : (Jvm.Cond.code x code maxLocals ret).before args0 about1 = true := code_word (m := ⟨1, 2⟩) (meth := k1m2) (c := k1c2) (by decide +kernel) rfl rfl rfl (by decide +kernel)
set_option maxRecDepth 65536 in
theorem w_c1 : (Jvm.Cond.code ({ cls := "com/example/actorium/actorium/Claimant$Sends", name := "<init>", desc := "()V" } : Jvm.MethodName) prog_25_method_1_code (1 : Nat) (Option.none : Option Jvm.ClassFile.FieldType)).before args0 about1 = true := code_word (m := ⟨2, 0⟩) (meth := k2m0) (c := k2c0) (by decide +kernel) rfl rfl rfl (by decide +kernel)
set_option maxRecDepth 65536 in
theorem w_c2 : (Jvm.Cond.code ({ cls := "java/lang/Object", name := "<init>", desc := "()V" } : Jvm.MethodName) object_method_1_code (1 : Nat) (Option.none : Option Jvm.ClassFile.FieldType)).before args0 about1 = true := code_word (m := ⟨0, 0⟩) (meth := k0m0) (c := k0c0) (by decide +kernel) rfl rfl rfl (by decide +kernel)
set_option maxRecDepth 65536 in
theorem w_c3 : (Jvm.Cond.code ({ cls := "com/example/actorium/actorium/ClaimantNextLeftPinLaw", name := "drawFrom", desc := "(I)I" } : Jvm.MethodName) method_2_code (1 : Nat) (Option.some Jvm.ClassFile.FieldType.int)).before args0 about1 = true := code_word (m := ⟨1, 1⟩) (meth := k1m1) (c := k1c1) (by decide +kernel) rfl rfl rfl (by decide +kernel)
set_option maxRecDepth 65536 in
theorem w_c4 : (Jvm.Cond.code ({ cls := "com/example/actorium/actorium/Claimant$Sends", name := "nextLeft", desc := "(I)Lcom/example/actorium/actorium/DispatchedCell;" } : Jvm.MethodName) prog_25_method_5_code (3 : Nat) (Option.some (Jvm.ClassFile.FieldType.object "com/example/actorium/actorium/DispatchedCell"))).before args0 about1 = true := code_word (m := ⟨2, 3⟩) (meth := k2m3) (c := k2c3) (by decide +kernel) rfl rfl rfl (by decide +kernel)
set_option maxRecDepth 65536 in
theorem w_c5 : (Jvm.Cond.code ({ cls := "com/example/actorium/actorium/Claimant$Sends", name := "depth", desc := "()I" } : Jvm.MethodName) prog_25_method_4_code (1 : Nat) (Option.some Jvm.ClassFile.FieldType.int)).before args0 about1 = true := code_word (m := ⟨2, 2⟩) (meth := k2m2) (c := k2c2) (by decide +kernel) rfl rfl rfl (by decide +kernel)
set_option maxRecDepth 65536 in
theorem w_c6 : (Jvm.Cond.code ({ cls := "com/example/actorium/actorium/Claimant$Sends", name := "begin", desc := "(Lcom/example/actorium/actorium/DispatchedCell;)I" } : Jvm.MethodName) prog_25_method_2_code (2 : Nat) (Option.some Jvm.ClassFile.FieldType.int)).before args0 about1 = true := code_word (m := ⟨2, 1⟩) (meth := k2m1) (c := k2c1) (by decide +kernel) rfl rfl rfl (by decide +kernel)
def codes1 : List Jvm.Cond := [Jvm.Cond.code x code maxLocals ret, Jvm.Cond.code ({ cls := "com/example/actorium/actorium/Claimant$Sends", name := "<init>", desc := "()V" } : Jvm.MethodName) prog_25_method_1_code (1 : Nat) (Option.none : Option Jvm.ClassFile.FieldType), Jvm.Cond.code ({ cls := "java/lang/Object", name := "<init>", desc := "()V" } : Jvm.MethodName) object_method_1_code (1 : Nat) (Option.none : Option Jvm.ClassFile.FieldType), Jvm.Cond.code ({ cls := "com/example/actorium/actorium/ClaimantNextLeftPinLaw", name := "drawFrom", desc := "(I)I" } : Jvm.MethodName) method_2_code (1 : Nat) (Option.some Jvm.ClassFile.FieldType.int), Jvm.Cond.code ({ cls := "com/example/actorium/actorium/Claimant$Sends", name := "nextLeft", desc := "(I)Lcom/example/actorium/actorium/DispatchedCell;" } : Jvm.MethodName) prog_25_method_5_code (3 : Nat) (Option.some (Jvm.ClassFile.FieldType.object "com/example/actorium/actorium/DispatchedCell")), Jvm.Cond.code ({ cls := "com/example/actorium/actorium/Claimant$Sends", name := "depth", desc := "()I" } : Jvm.MethodName) prog_25_method_4_code (1 : Nat) (Option.some Jvm.ClassFile.FieldType.int), Jvm.Cond.code ({ cls := "com/example/actorium/actorium/Claimant$Sends", name := "begin", desc := "(Lcom/example/actorium/actorium/DispatchedCell;)I" } : Jvm.MethodName) prog_25_method_2_code (2 : Nat) (Option.some Jvm.ClassFile.FieldType.int)]
set_option maxRecDepth 65536 in
theorem codes_eq : words1.filter isCode = codes1 := rfl
theorem w_codes : ∀ c ∈ words1.filter isCode, c.before args0 about1 = true := by
  rw [codes_eq]
  intro c hc
  simp only [codes1, List.mem_cons, List.not_mem_nil, or_false] at hc
  rcases hc with rfl | rfl | rfl | rfl | rfl | rfl | rfl
  · exact w_c0
  · exact w_c1
  · exact w_c2
  · exact w_c3
  · exact w_c4
  · exact w_c5
  · exact w_c6
set_option maxRecDepth 65536 in
theorem w_t1 : (words1.take 24).all (fun c => isCode c || c.before args0 about1) = true := by decide +kernel
set_option maxRecDepth 65536 in
theorem w_t2 : (words1.drop 24).all (fun c => isCode c || c.before args0 about1) = true := by decide +kernel
theorem w_tables : (allAtoms (Jvm.Cond.code x code maxLocals ret :: tables_1)).before args0 about1 = true := by
  rw [allAtoms_all]
  show words1.all (fun c => c.before args0 about1) = true
  refine all_split ?_ w_codes
  rw [← List.take_append_drop 24 words1, List.all_append, w_t1, w_t2]
  rfl
set_option maxRecDepth 65536 in
theorem w_case : (Jvm.Cond.and given_1 narrow_1).before args0 about1 = true := by decide +kernel
theorem w_applies : (headSpec (Jvm.Cond.code x code maxLocals ret :: tables_1) room_1).applies x e0.platform about1 = true :=
  (Spec.applies_iff w_frames).mpr ⟨w_running, w_runnable, w_alone, w_named, w_hears, w_ripe, w_room, w_tables⟩
theorem atStart : AtStart classFile x code maxLocals ret World_1 tables_1 room_1 Calls_1 rest_1 Pre_1 launch0 p0 e0 about1 theMethod args0 below0 :=
  ⟨lists_1, trivial, launch0.admits_env _ _ _, launch0.least_env, fairChoices_fair.cas, fairChoices_fair.clock, w_frames, w_args, w_heap, w_applies, trivial, trivial, w_case⟩
end start1
theorem witness_1 : WitnessClaimed_1 := ⟨start1.p0, start1.e0, start1.about1, start1.theMethod, start1.args0, start1.below0, start1.atStart⟩
end Jvm.Pilot.@@N@@
