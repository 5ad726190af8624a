import JvmDerived
import JvmDerived.Pilot.@@N@@Statement
import JvmDerived.Pilot.@@N@@Code
set_option linter.unusedVariables false
set_option linter.unusedSimpArgs false
namespace Jvm.RoadKit
open Sem ClassFile Op Lib Jvm.Stand Jvm.Free Jvm.LawKit
section New
variable {p : Program} {l : Launch} {e : Env} {R : Room} {s : State} {m : MethodId} {args : Array Value} {below : List Frame} {meth : Method} {c : Code} {T : State} {locs : List Loc} {cells slots : Nat}
theorem retI (X : Stand p l e R s m args below meth c T locs cells slots) (hEX : p.tables.exec = Jvm.exec) {pc : Nat} {Ls : Array Slot} {z : Int32} {rest : List Value} (hRT : meth.sig.returnType = some .int) (hd : decode c.code pc = .ok (.ireturn, 1)) {fs : List Frame}
    (hl : ∀ (f : JFrame) (acts : List Action), f.method = m → f.locked = none → f.entered = [] → (doReturn e (T.setTop f) acts (some (.int z))).1 = T.setFrames fs) : Steps p.tables e below (T.setTop (mkF m pc Ls (.int z :: rest))) (T.setFrames fs) := by
  have hm' : T.vm.method? m = some meth := X.method'
  have hn : narrow .int (.int z) = .int z := rfl
  show Steps p.tables e below (T.setTop { method := m, pc := pc, locals := Ls, stack := _ :: rest, locked := none }) _
  jvm_step X.here [X.here.top, hEX, hd, hm', hRT, hn]
  first | (intro acts; rw [hl _ acts rfl rfl rfl]) | rw [hl _ _ rfl rfl rfl]
  exact Steps.refl _
abbrev Us : Slot := .unset
abbrev Zs : Slot := .second
abbrev Nv : Slot := .val .null
abbrev Iv (x : Int32) : Slot := .val (.int x)
abbrev Lv (x : Int64) : Slot := .val (.long x)
abbrev Rv (x : Addr) : Slot := .val (.ref x)
/-- the body comes to its end from st: it returns v, and Q holds of v, of the heap and of the places written -/
def Done (p : Program) (e : Env) (below : List Frame) (s : State) (Q : Option Value → Heap → List Loc → Prop) (kc ks : Nat) (st : State) : Prop :=
  ∃ (s₂ : State) (o : Outcome), Steps p.tables e below st s₂ ∧ s₂.status = .running ∧ Ended s₂ below o ∧ ∃ v L, o = .returned v ∧ Q v s₂.heap L ∧ FrameEnd s o s₂ L kc ks
variable {Q : Option Value → Heap → List Loc → Prop} {kc ks : Nat}
theorem Done.pre {st st' : State} (h : ∀ t, Steps p.tables e below st' t → Steps p.tables e below st t) (D : Done p e below s Q kc ks st') : Done p e below s Q kc ks st := by
  obtain ⟨s₂, o, h1, r⟩ := D
  exact ⟨s₂, o, h _ h1, r⟩
theorem Done.retI (X : Stand p l e R s m args below meth c T locs cells slots) (hEX : p.tables.exec = Jvm.exec) (hLK : meth.locks = false) {pc : Nat} {Ls : Array Slot} {z : Int32} {rest : List Value} (hRT : meth.sig.returnType = some .int) (hd : decode c.code pc = .ok (.ireturn, 1))
    (hQ : Q (some (.int z)) T.heap locs) (hc : cells ≤ kc) (hs : slots ≤ ks) : Done p e below s Q kc ks (T.setTop (mkF m pc Ls (.int z :: rest))) := by
  obtain ⟨fs, hr, hrun, hended, hW, hsame⟩ := X.leave (v := some (.int z)) (fun h => by rw [hRT] at h; cases h) hLK
  exact ⟨_, _, Jvm.RoadKit.retI X hEX hRT hd hr, hrun, hended, _, _, rfl, hQ, ⟨_, rfl⟩, hW, hsame.mono hc hs⟩
theorem Done.retN (X : Stand p l e R s m args below meth c T locs cells slots) (hEX : p.tables.exec = Jvm.exec) (hLK : meth.locks = false) {pc : Nat} {Ls : Array Slot} {z : Int32} {t : FieldType} {rest : List Value} (hRT : meth.sig.returnType = some t) (ht : t = .boolean ∨ t = .byte ∨ t = .char ∨ t = .short) (hd : decode c.code pc = .ok (.ireturn, 1))
    (hQ : Q (some (.int (nar t z))) T.heap locs) (hc : cells ≤ kc) (hs : slots ≤ ks) : Done p e below s Q kc ks (T.setTop (mkF m pc Ls (.int z :: rest))) := by
  obtain ⟨fs, hr, hrun, hended, hW, hsame⟩ := X.leave (v := some (.int (nar t z))) (fun h => by rw [hRT] at h; cases h) hLK
  exact ⟨_, _, Jvm.RoadKit.retN X hEX hRT ht hd hr, hrun, hended, _, _, rfl, hQ, ⟨_, rfl⟩, hW, hsame.mono hc hs⟩
theorem Done.retL (X : Stand p l e R s m args below meth c T locs cells slots) (hEX : p.tables.exec = Jvm.exec) (hLK : meth.locks = false) {pc : Nat} {Ls : Array Slot} {z : Int64} {rest : List Value} (hRT : meth.sig.returnType = some .long) (hd : decode c.code pc = .ok (.lreturn, 1))
    (hQ : Q (some (.long z)) T.heap locs) (hc : cells ≤ kc) (hs : slots ≤ ks) : Done p e below s Q kc ks (T.setTop (mkF m pc Ls (.long z :: rest))) := by
  obtain ⟨fs, hr, hrun, hended, hW, hsame⟩ := X.leave (v := some (.long z)) (fun h => by rw [hRT] at h; cases h) hLK
  exact ⟨_, _, retOut X hEX hRT rfl (Or.inr (Or.inl ⟨rfl, rfl, _, rfl⟩)) hd hr, hrun, hended, _, _, rfl, hQ, ⟨_, rfl⟩, hW, hsame.mono hc hs⟩
theorem Done.retA (X : Stand p l e R s m args below meth c T locs cells slots) (hEX : p.tables.exec = Jvm.exec) (hLK : meth.locks = false) {pc : Nat} {Ls : Array Slot} {w : Value} {t : FieldType} {rest : List Value} (hRT : meth.sig.returnType = some t) (ht : t.isReference = true) (hw : w.isRef = true) (hd : decode c.code pc = .ok (.areturn, 1))
    (hQ : Q (some w) T.heap locs) (hc : cells ≤ kc) (hs : slots ≤ ks) : Done p e below s Q kc ks (T.setTop (mkF m pc Ls (w :: rest))) := by
  obtain ⟨fs, hr, hrun, hended, hW, hsame⟩ := X.leave (v := some w) (fun h => by rw [hRT] at h; cases h) hLK
  have hn : narrow t w = w := by cases t <;> first | rfl | (simp [FieldType.isReference] at ht)
  exact ⟨_, _, retOut X hEX hRT hn (Or.inr (Or.inr (Or.inr (Or.inr ⟨rfl, ht, hw⟩)))) hd hr, hrun, hended, _, _, rfl, hQ, ⟨_, rfl⟩, hW, hsame.mono hc hs⟩
theorem Done.retV (X : Stand p l e R s m args below meth c T locs cells slots) (hEX : p.tables.exec = Jvm.exec) (hLK : meth.locks = false) {pc : Nat} {Ls : Array Slot} (hRT : meth.sig.returnType = none) (hd : decode c.code pc = .ok (.return_, 1))
    (hQ : Q none T.heap locs) (hc : cells ≤ kc) (hs : slots ≤ ks) : Done p e below s Q kc ks (T.setTop (mkF m pc Ls [])) := by
  obtain ⟨fs, hr, hrun, hended, hW, hsame⟩ := X.leave (v := none) (fun _ => rfl) hLK
  exact ⟨_, _, X.returnOut hEX hRT hd hr, hrun, hended, _, _, rfl, hQ, ⟨_, rfl⟩, hW, hsame.mono hc hs⟩
end New
end Jvm.RoadKit
namespace Jvm.Pilot.@@N@@
open Jvm Jvm.ClassFile Sem Op Lib Jvm.Free Jvm.Stand Jvm.LawKit Jvm.RoadKit Bundle Jvm.Pilot.@@N@@.Jvm.D

def own_V (x0 x1 x2 x3 x4 x5 x6 x7 : Int) : Int := x0 * 1 + x1 * 281474976710656 + x2 * 79228162514264337593543950336 + x3 * 22300745198530623141535718272648361505980416 + x4 * 6277101735386680763835789423207666416102355444464034512896 + x5 * 1766847064778384329583297500742918515827483896875618958121606201292619776 + x6 * 497323236409786642155382248146820840100456150797347717440463976893159497012533375533056 + x7 * 139984046386112763159840142535527767382602843577165595931249318810236991948760059086304843329475444736
def own_W (x0 x1 x2 x3 x4 x5 x6 x7 : Int64) : Int := own_V x0.toInt x1.toInt x2.toInt x3.toInt x4.toInt x5.toInt x6.toInt x7.toInt
def own_R (m : Int) (x0 x1 x2 x3 x4 x5 x6 x7 : Int64) : Prop := (-m ≤ x0.toInt ∧ x0.toInt ≤ m) ∧ (-m ≤ x1.toInt ∧ x1.toInt ≤ m) ∧ (-m ≤ x2.toInt ∧ x2.toInt ≤ m) ∧ (-m ≤ x3.toInt ∧ x3.toInt ≤ m) ∧ (-m ≤ x4.toInt ∧ x4.toInt ≤ m) ∧ (-m ≤ x5.toInt ∧ x5.toInt ≤ m) ∧ (-m ≤ x6.toInt ∧ x6.toInt ≤ m) ∧ (-m ≤ x7.toInt ∧ x7.toInt ≤ m)
def own_C (x0 x1 x2 x3 x4 x5 x6 x7 : Int64) : Prop := (0 ≤ x0.toInt ∧ x0.toInt < 281474976710656) ∧ (0 ≤ x1.toInt ∧ x1.toInt < 281474976710656) ∧ (0 ≤ x2.toInt ∧ x2.toInt < 281474976710656) ∧ (0 ≤ x3.toInt ∧ x3.toInt < 281474976710656) ∧ (0 ≤ x4.toInt ∧ x4.toInt < 281474976710656) ∧ (0 ≤ x5.toInt ∧ x5.toInt < 281474976710656) ∧ (0 ≤ x6.toInt ∧ x6.toInt < 281474976710656) ∧ (0 ≤ x7.toInt ∧ x7.toInt < 281474976710656)
def own_M (w : Int) : Prop := ∃ c : Int, w = c * 39402006196394479212279040100143613805079739270465446667948293404245721771496870329047266088258938001861606973112319

theorem own_shr (x : Int64) : (x >>> ((48 : Int32) &&& 0x3f).toInt64).toInt = x.toInt / 281474976710656 := by
  rw [c_lshr x (48 : Int32) 48 (by decide)]; rfl
theorem own_msk (x : Int64) : (x &&& (281474976710655 : Int64)).toInt = x.toInt % 281474976710656 := by
  rw [c_maskL x (281474976710655 : Int64) 48 (by decide) (by decide +kernel)]; rfl
theorem own_car (x y z : Int64) (hx : z = (x &&& (281474976710655 : Int64)) + (y >>> ((48 : Int32) &&& 0x3f).toInt64)) (hy : -9007199254740992 ≤ y.toInt ∧ y.toInt ≤ 9007199254740992) : z.toInt = x.toInt % 281474976710656 + y.toInt / 281474976710656 := by
  have h1 := own_shr y
  have h2 := own_msk x
  have h3 := c_ladd (x &&& (281474976710655 : Int64)) (y >>> ((48 : Int32) &&& 0x3f).toInt64)
  have h4 := rng64 ((x &&& (281474976710655 : Int64)) + (y >>> ((48 : Int32) &&& 0x3f).toInt64))
  rw [hx]; omega
theorem own_lo (c l : Int64) (hl : l = ((c &&& (65535 : Int64)) <<< ((32 : Int32) &&& 0x3f).toInt64)) : l.toInt = (c.toInt % 65536) * 4294967296 := by
  have h1 := c_lshl (c &&& (65535 : Int64)) (32 : Int32) 32 (by decide)
  have h2 := c_maskL c (65535 : Int64) 16 (by decide) (by decide +kernel)
  have h4 := rng64 ((c &&& (65535 : Int64)) <<< ((32 : Int32) &&& 0x3f).toInt64)
  have e1 : ((2 ^ 32 : Nat) : Int) = 4294967296 := rfl
  have e2 : ((2 ^ 16 : Nat) : Int) = 65536 := rfl
  rw [e2] at h2
  rw [h2, e1] at h1
  rw [hl]; omega
theorem own_hi (c l : Int64) (hl : l = (c >>> ((16 : Int32) &&& 0x3f).toInt64)) : l.toInt = c.toInt / 65536 := by
  rw [hl, c_lshr c (16 : Int32) 16 (by decide)]; rfl
theorem own_add (x y z : Int64) (m : Int) (hz : z = x + y) (hx : -m ≤ x.toInt ∧ x.toInt ≤ m) (hy : -m ≤ y.toInt ∧ y.toInt ≤ m) (hm : m ≤ 2305843009213693952) : z.toInt = x.toInt + y.toInt := by
  have h3 := c_ladd x y
  have h4 := rng64 (x + y)
  rw [hz]; omega
theorem own_sub (x y z : Int64) (m : Int) (hz : z = x - y) (hx : -m ≤ x.toInt ∧ x.toInt ≤ m) (hy : -m ≤ y.toInt ∧ y.toInt ≤ m) (hm : m ≤ 2305843009213693952) : z.toInt = x.toInt - y.toInt := by
  have h3 := c_lsub x y
  have h4 := rng64 (x - y)
  rw [hz]; omega
theorem own_store (x0 x1 x2 x3 x4 x5 x6 x7 c y7 y6 y5 y4 y3 y2 y1 y0 lo hi : Int64) (hR : own_R 9007199254740992 x0 x1 x2 x3 x4 x5 x6 x7) (hc : c = (x7 >>> ((48 : Int32) &&& 0x3f).toInt64)) (h7 : y7 = (x7 &&& (281474976710655 : Int64)) + (x6 >>> ((48 : Int32) &&& 0x3f).toInt64)) (h6 : y6 = (x6 &&& (281474976710655 : Int64)) + (x5 >>> ((48 : Int32) &&& 0x3f).toInt64)) (h5 : y5 = (x5 &&& (281474976710655 : Int64)) + (x4 >>> ((48 : Int32) &&& 0x3f).toInt64)) (h4 : y4 = (x4 &&& (281474976710655 : Int64)) + (x3 >>> ((48 : Int32) &&& 0x3f).toInt64)) (h3 : y3 = (x3 &&& (281474976710655 : Int64)) + (x2 >>> ((48 : Int32) &&& 0x3f).toInt64)) (h2 : y2 = (x2 &&& (281474976710655 : Int64)) + (x1 >>> ((48 : Int32) &&& 0x3f).toInt64)) (h1 : y1 = (x1 &&& (281474976710655 : Int64)) + (x0 >>> ((48 : Int32) &&& 0x3f).toInt64)) (h0 : y0 = (x0 &&& (281474976710655 : Int64))) (hlo : lo = ((c &&& (65535 : Int64)) <<< ((32 : Int32) &&& 0x3f).toInt64)) (hhi : hi = (c >>> ((16 : Int32) &&& 0x3f).toInt64)) :
    own_R 562949953421440 ((y0 + c) - lo) (y1 - hi) ((y2 + c) + lo) (y3 + hi) y4 y5 y6 y7 ∧ own_M (own_W x0 x1 x2 x3 x4 x5 x6 x7 - own_W ((y0 + c) - lo) (y1 - hi) ((y2 + c) + lo) (y3 + hi) y4 y5 y6 y7) := by
  obtain ⟨b0, b1, b2, b3, b4, b5, b6, b7⟩ := hR
  have ec : c.toInt = x7.toInt / 281474976710656 := by rw [hc]; exact own_shr x7
  have e1 := own_car x1 x0 y1 h1 b0
  have e2 := own_car x2 x1 y2 h2 b1
  have e3 := own_car x3 x2 y3 h3 b2
  have e4 := own_car x4 x3 y4 h4 b3
  have e5 := own_car x5 x4 y5 h5 b4
  have e6 := own_car x6 x5 y6 h6 b5
  have e7 := own_car x7 x6 y7 h7 b6
  have e0 : y0.toInt = x0.toInt % 281474976710656 := by rw [h0]; exact own_msk x0
  have el := own_lo c lo hlo
  have eh := own_hi c hi hhi
  clear hc h1 h2 h3 h4 h5 h6 h7 h0 hlo hhi
  have s0 := own_add y0 c (y0 + c) 1152921504606846976 rfl (by omega) (by omega) (by decide)
  have r0 := own_sub (y0 + c) lo ((y0 + c) - lo) 1152921504606846976 rfl (by omega) (by omega) (by decide)
  have r1 := own_sub y1 hi (y1 - hi) 1152921504606846976 rfl (by omega) (by omega) (by decide)
  have s2 := own_add y2 c (y2 + c) 1152921504606846976 rfl (by omega) (by omega) (by decide)
  have r2 := own_add (y2 + c) lo ((y2 + c) + lo) 1152921504606846976 rfl (by omega) (by omega) (by decide)
  have r3 := own_add y3 hi (y3 + hi) 1152921504606846976 rfl (by omega) (by omega) (by decide)
  rw [s0] at r0
  rw [s2] at r2
  refine ⟨⟨by omega, by omega, by omega, by omega, by omega, by omega, by omega, by omega⟩, ⟨c.toInt, ?_⟩⟩
  unfold own_W own_V
  rw [r0, r1, r2, r3]
  omega

theorem own_prop (x0 x1 x2 x3 x4 x5 x6 x7 t0 t1 t2 t3 t4 t5 t6 t7 cy : Int64) (hR : own_R 4503599627370496 x0 x1 x2 x3 x4 x5 x6 x7) (h0 : t0 = x0 + (0 : Int64)) (h1 : t1 = x1 + (t0 >>> ((48 : Int32) &&& 0x3f).toInt64)) (h2 : t2 = x2 + (t1 >>> ((48 : Int32) &&& 0x3f).toInt64)) (h3 : t3 = x3 + (t2 >>> ((48 : Int32) &&& 0x3f).toInt64)) (h4 : t4 = x4 + (t3 >>> ((48 : Int32) &&& 0x3f).toInt64)) (h5 : t5 = x5 + (t4 >>> ((48 : Int32) &&& 0x3f).toInt64)) (h6 : t6 = x6 + (t5 >>> ((48 : Int32) &&& 0x3f).toInt64)) (h7 : t7 = x7 + (t6 >>> ((48 : Int32) &&& 0x3f).toInt64)) (hcy : cy = (t7 >>> ((48 : Int32) &&& 0x3f).toInt64)) :
    own_C (t0 &&& (281474976710655 : Int64)) (t1 &&& (281474976710655 : Int64)) (t2 &&& (281474976710655 : Int64)) (t3 &&& (281474976710655 : Int64)) (t4 &&& (281474976710655 : Int64)) (t5 &&& (281474976710655 : Int64)) (t6 &&& (281474976710655 : Int64)) (t7 &&& (281474976710655 : Int64)) ∧ own_W (t0 &&& (281474976710655 : Int64)) (t1 &&& (281474976710655 : Int64)) (t2 &&& (281474976710655 : Int64)) (t3 &&& (281474976710655 : Int64)) (t4 &&& (281474976710655 : Int64)) (t5 &&& (281474976710655 : Int64)) (t6 &&& (281474976710655 : Int64)) (t7 &&& (281474976710655 : Int64)) + cy.toInt * 39402006196394479212279040100143613805079739270465446667948293404245721771497210611414266254884915640806627990306816 = own_W x0 x1 x2 x3 x4 x5 x6 x7 := by
  obtain ⟨b0, b1, b2, b3, b4, b5, b6, b7⟩ := hR
  have z0 : (0 : Int64).toInt = 0 := rfl
  have e0 := own_add x0 (0 : Int64) t0 1152921504606846976 h0 (by omega) (by omega) (by decide)
  rw [z0] at e0
  have e1 := own_add x1 (t0 >>> ((48 : Int32) &&& 0x3f).toInt64) t1 1152921504606846976 h1 (by omega) (by rw [own_shr]; omega) (by decide)
  rw [own_shr] at e1
  have e2 := own_add x2 (t1 >>> ((48 : Int32) &&& 0x3f).toInt64) t2 1152921504606846976 h2 (by omega) (by rw [own_shr]; omega) (by decide)
  rw [own_shr] at e2
  have e3 := own_add x3 (t2 >>> ((48 : Int32) &&& 0x3f).toInt64) t3 1152921504606846976 h3 (by omega) (by rw [own_shr]; omega) (by decide)
  rw [own_shr] at e3
  have e4 := own_add x4 (t3 >>> ((48 : Int32) &&& 0x3f).toInt64) t4 1152921504606846976 h4 (by omega) (by rw [own_shr]; omega) (by decide)
  rw [own_shr] at e4
  have e5 := own_add x5 (t4 >>> ((48 : Int32) &&& 0x3f).toInt64) t5 1152921504606846976 h5 (by omega) (by rw [own_shr]; omega) (by decide)
  rw [own_shr] at e5
  have e6 := own_add x6 (t5 >>> ((48 : Int32) &&& 0x3f).toInt64) t6 1152921504606846976 h6 (by omega) (by rw [own_shr]; omega) (by decide)
  rw [own_shr] at e6
  have e7 := own_add x7 (t6 >>> ((48 : Int32) &&& 0x3f).toInt64) t7 1152921504606846976 h7 (by omega) (by rw [own_shr]; omega) (by decide)
  rw [own_shr] at e7
  have ecy : cy.toInt = t7.toInt / 281474976710656 := by rw [hcy]; exact own_shr t7
  have m0 := own_msk t0
  have m1 := own_msk t1
  have m2 := own_msk t2
  have m3 := own_msk t3
  have m4 := own_msk t4
  have m5 := own_msk t5
  have m6 := own_msk t6
  have m7 := own_msk t7
  clear h0 h1 h2 h3 h4 h5 h6 h7 hcy
  refine ⟨?_, ?_⟩
  · unfold own_C; rw [m0, m1, m2, m3, m4, m5, m6, m7]; omega
  · unfold own_W own_V; rw [m0, m1, m2, m3, m4, m5, m6, m7]; omega
theorem own_fold (x0 x1 x2 x3 x4 x5 x6 x7 c lo hi : Int64) (hC : own_C x0 x1 x2 x3 x4 x5 x6 x7) (hc : -8 ≤ c.toInt ∧ c.toInt ≤ 8) (hlo : lo = ((c &&& (65535 : Int64)) <<< ((32 : Int32) &&& 0x3f).toInt64)) (hhi : hi = (c >>> ((16 : Int32) &&& 0x3f).toInt64)) :
    own_R 562949953421440 (x0 + (c - lo)) (x1 - hi) (x2 + (c + lo)) (x3 + hi) x4 x5 x6 x7 ∧ own_W (x0 + (c - lo)) (x1 - hi) (x2 + (c + lo)) (x3 + hi) x4 x5 x6 x7 = own_W x0 x1 x2 x3 x4 x5 x6 x7 + c.toInt * 340282367000166625977638945021017194497 := by
  obtain ⟨b0, b1, b2, b3, b4, b5, b6, b7⟩ := hC
  have el := own_lo c lo hlo
  have eh := own_hi c hi hhi
  clear hlo hhi
  have s0 := own_sub c lo (c - lo) 1152921504606846976 rfl (by omega) (by omega) (by decide)
  have r0 := own_add x0 (c - lo) (x0 + (c - lo)) 1152921504606846976 rfl (by omega) (by omega) (by decide)
  have r1 := own_sub x1 hi (x1 - hi) 1152921504606846976 rfl (by omega) (by omega) (by decide)
  have s2 := own_add c lo (c + lo) 1152921504606846976 rfl (by omega) (by omega) (by decide)
  have r2 := own_add x2 (c + lo) (x2 + (c + lo)) 1152921504606846976 rfl (by omega) (by omega) (by decide)
  have r3 := own_add x3 hi (x3 + hi) 1152921504606846976 rfl (by omega) (by omega) (by decide)
  rw [s0] at r0
  rw [s2] at r2
  refine ⟨⟨by omega, by omega, by omega, by omega, by omega, by omega, by omega, by omega⟩, ?_⟩
  unfold own_W own_V
  rw [r0, r1, r2, r3]
  omega
theorem own_Wrng (x0 x1 x2 x3 x4 x5 x6 x7 : Int64) (hC : own_C x0 x1 x2 x3 x4 x5 x6 x7) : 0 ≤ own_W x0 x1 x2 x3 x4 x5 x6 x7 ∧ own_W x0 x1 x2 x3 x4 x5 x6 x7 < 39402006196394479212279040100143613805079739270465446667948293404245721771497210611414266254884915640806627990306816 := by
  obtain ⟨b0, b1, b2, b3, b4, b5, b6, b7⟩ := hC
  unfold own_W own_V; omega
theorem own_WR (x0 x1 x2 x3 x4 x5 x6 x7 : Int64) (hR : own_R 562949953421440 x0 x1 x2 x3 x4 x5 x6 x7) : -157608024785577916849116160400574455220318957081861786671793173616982887085988842445657065019539662563226511961227264 ≤ own_W x0 x1 x2 x3 x4 x5 x6 x7 ∧ own_W x0 x1 x2 x3 x4 x5 x6 x7 ≤ 157608024785577916849116160400574455220318957081861786671793173616982887085988842445657065019539662563226511961227264 := by
  obtain ⟨b0, b1, b2, b3, b4, b5, b6, b7⟩ := hR
  unfold own_W own_V; omega
theorem own_zero (x0 x1 x2 x3 x4 x5 x6 x7 : Int64) (hC : own_C x0 x1 x2 x3 x4 x5 x6 x7) (h : own_W x0 x1 x2 x3 x4 x5 x6 x7 = 0) : x0 = (0 : Int64) ∧ x1 = (0 : Int64) ∧ x2 = (0 : Int64) ∧ x3 = (0 : Int64) ∧ x4 = (0 : Int64) ∧ x5 = (0 : Int64) ∧ x6 = (0 : Int64) ∧ x7 = (0 : Int64) := by
  obtain ⟨b0, b1, b2, b3, b4, b5, b6, b7⟩ := hC
  unfold own_W own_V at h
  have z0 : (0 : Int64).toInt = 0 := rfl
  refine ⟨Int64.toInt_inj.mp (by rw [z0]; omega), Int64.toInt_inj.mp (by rw [z0]; omega), Int64.toInt_inj.mp (by rw [z0]; omega), Int64.toInt_inj.mp (by rw [z0]; omega), Int64.toInt_inj.mp (by rw [z0]; omega), Int64.toInt_inj.mp (by rw [z0]; omega), Int64.toInt_inj.mp (by rw [z0]; omega), Int64.toInt_inj.mp (by rw [z0]; omega)⟩
theorem own_Rup (m m' : Int) (x0 x1 x2 x3 x4 x5 x6 x7 : Int64) (hm : m ≤ m') (h : own_R m x0 x1 x2 x3 x4 x5 x6 x7) : own_R m' x0 x1 x2 x3 x4 x5 x6 x7 := by
  obtain ⟨b0, b1, b2, b3, b4, b5, b6, b7⟩ := h
  exact ⟨by omega, by omega, by omega, by omega, by omega, by omega, by omega, by omega⟩

theorem own_cy1 (W Y cy : Int) (h : Y + cy * 39402006196394479212279040100143613805079739270465446667948293404245721771497210611414266254884915640806627990306816 = W) (hy : 0 ≤ Y ∧ Y < 39402006196394479212279040100143613805079739270465446667948293404245721771497210611414266254884915640806627990306816) (hw : -157608024785577916849116160400574455220318957081861786671793173616982887085988842445657065019539662563226511961227264 ≤ W ∧ W ≤ 157608024785577916849116160400574455220318957081861786671793173616982887085988842445657065019539662563226511961227264) : -8 ≤ cy ∧ cy ≤ 8 := by omega
theorem own_cy2 (Y1 c1 Y2 c2 Z : Int) (hz : Z = Y1 + c1 * 340282367000166625977638945021017194497) (h : Y2 + c2 * 39402006196394479212279040100143613805079739270465446667948293404245721771497210611414266254884915640806627990306816 = Z) (hy1 : 0 ≤ Y1 ∧ Y1 < 39402006196394479212279040100143613805079739270465446667948293404245721771497210611414266254884915640806627990306816) (hy2 : 0 ≤ Y2 ∧ Y2 < 39402006196394479212279040100143613805079739270465446667948293404245721771497210611414266254884915640806627990306816) (hc : -8 ≤ c1 ∧ c1 ≤ 8) : -1 ≤ c2 ∧ c2 ≤ 1 := by omega
theorem own_cy3 (Y1 c1 Y2 c2 Z Y3 c3 Z2 : Int) (hz : Z = Y1 + c1 * 340282367000166625977638945021017194497) (h : Y2 + c2 * 39402006196394479212279040100143613805079739270465446667948293404245721771497210611414266254884915640806627990306816 = Z) (hz2 : Z2 = Y2 + c2 * 340282367000166625977638945021017194497) (h2 : Y3 + c3 * 39402006196394479212279040100143613805079739270465446667948293404245721771497210611414266254884915640806627990306816 = Z2) (hy1 : 0 ≤ Y1 ∧ Y1 < 39402006196394479212279040100143613805079739270465446667948293404245721771497210611414266254884915640806627990306816) (hy2 : 0 ≤ Y2 ∧ Y2 < 39402006196394479212279040100143613805079739270465446667948293404245721771497210611414266254884915640806627990306816) (hy3 : 0 ≤ Y3 ∧ Y3 < 39402006196394479212279040100143613805079739270465446667948293404245721771497210611414266254884915640806627990306816) (hc : -8 ≤ c1 ∧ c1 ≤ 8) (hn : c2 ≠ 0) : c3 = 0 := by omega
theorem own_M1 (W Y cy : Int) (h : Y + cy * 39402006196394479212279040100143613805079739270465446667948293404245721771497210611414266254884915640806627990306816 = W) (hm : own_M W) (hz : cy = 0) : own_M Y := by
  obtain ⟨k, hk⟩ := hm; exact ⟨k, by omega⟩
theorem own_M2 (W Y c1 Y2 c2 Z : Int) (h1 : Y + c1 * 39402006196394479212279040100143613805079739270465446667948293404245721771497210611414266254884915640806627990306816 = W) (hz : Z = Y + c1 * 340282367000166625977638945021017194497) (h : Y2 + c2 * 39402006196394479212279040100143613805079739270465446667948293404245721771497210611414266254884915640806627990306816 = Z) (hm : own_M W) : own_M (Y2 + c2 * 39402006196394479212279040100143613805079739270465446667948293404245721771497210611414266254884915640806627990306816) := by
  obtain ⟨k, hk⟩ := hm; exact ⟨k - c1, by omega⟩
theorem own_M0 (a b : Int) (h : own_M (a + b * 39402006196394479212279040100143613805079739270465446667948293404245721771497210611414266254884915640806627990306816)) (hz : b = 0) : own_M a := by
  obtain ⟨k, hk⟩ := h; exact ⟨k, by omega⟩
theorem own_end0 (Y Z Y4 c4 : Int) (hm : own_M Y) (hy : 0 ≤ Y ∧ Y < 39402006196394479212279040100143613805079739270465446667948293404245721771497210611414266254884915640806627990306816) (hz : Z = Y + 1 * 340282367000166625977638945021017194497) (h : Y4 + c4 * 39402006196394479212279040100143613805079739270465446667948293404245721771497210611414266254884915640806627990306816 = Z) (hy4 : 0 ≤ Y4 ∧ Y4 < 39402006196394479212279040100143613805079739270465446667948293404245721771497210611414266254884915640806627990306816) : (c4 = 0 → Y = 0) ∧ (c4 ≠ 0 → Y4 = 0) := by
  obtain ⟨k, hk⟩ := hm
  have hk2 : k = 0 ∨ k = 1 := by omega
  rcases hk2 with q | q <;> subst q <;> omega
theorem own_toI (c : Int64) : (c = (0 : Int64)) ↔ c.toInt = 0 := by rw [← Int64.toInt_inj]; rfl
theorem own_inlo (v : Int64) (h : -562949953421440 ≤ v.toInt ∧ v.toInt ≤ 562949953421440) : (-1125899906842624 : Int64) < v := by
  rw [Int64.lt_iff_toInt_lt]; have e : (-1125899906842624 : Int64).toInt = -1125899906842624 := rfl
  omega
theorem own_inhi (v : Int64) (h : -562949953421440 ≤ v.toInt ∧ v.toInt ≤ 562949953421440) : v < (1125899906842624 : Int64) := by
  rw [Int64.lt_iff_toInt_lt]; have e : (1125899906842624 : Int64).toInt = 1125899906842624 := rfl
  omega
theorem own_addb (m : Int) (hm : m ≤ 1152921504606846976) (a0 a1 a2 a3 a4 a5 a6 a7 b0 b1 b2 b3 b4 b5 b6 b7 : Int64) (ha : own_R m a0 a1 a2 a3 a4 a5 a6 a7) (hb : own_R m b0 b1 b2 b3 b4 b5 b6 b7) : own_R (2 * m) (a0 + b0) (a1 + b1) (a2 + b2) (a3 + b3) (a4 + b4) (a5 + b5) (a6 + b6) (a7 + b7) ∧ own_W (a0 + b0) (a1 + b1) (a2 + b2) (a3 + b3) (a4 + b4) (a5 + b5) (a6 + b6) (a7 + b7) = own_W a0 a1 a2 a3 a4 a5 a6 a7 + own_W b0 b1 b2 b3 b4 b5 b6 b7 := by
  obtain ⟨p0, p1, p2, p3, p4, p5, p6, p7⟩ := ha
  obtain ⟨q0, q1, q2, q3, q4, q5, q6, q7⟩ := hb
  have e0 := own_add a0 b0 (a0 + b0) m rfl p0 q0 (by omega)
  have e1 := own_add a1 b1 (a1 + b1) m rfl p1 q1 (by omega)
  have e2 := own_add a2 b2 (a2 + b2) m rfl p2 q2 (by omega)
  have e3 := own_add a3 b3 (a3 + b3) m rfl p3 q3 (by omega)
  have e4 := own_add a4 b4 (a4 + b4) m rfl p4 q4 (by omega)
  have e5 := own_add a5 b5 (a5 + b5) m rfl p5 q5 (by omega)
  have e6 := own_add a6 b6 (a6 + b6) m rfl p6 q6 (by omega)
  have e7 := own_add a7 b7 (a7 + b7) m rfl p7 q7 (by omega)
  refine ⟨⟨by omega, by omega, by omega, by omega, by omega, by omega, by omega, by omega⟩, ?_⟩
  unfold own_W own_V; rw [e0, e1, e2, e3, e4, e5, e6, e7]; omega
theorem own_subb (m : Int) (hm : m ≤ 1152921504606846976) (a0 a1 a2 a3 a4 a5 a6 a7 b0 b1 b2 b3 b4 b5 b6 b7 : Int64) (ha : own_R m a0 a1 a2 a3 a4 a5 a6 a7) (hb : own_R m b0 b1 b2 b3 b4 b5 b6 b7) : own_R (2 * m) (a0 - b0) (a1 - b1) (a2 - b2) (a3 - b3) (a4 - b4) (a5 - b5) (a6 - b6) (a7 - b7) ∧ own_W (a0 - b0) (a1 - b1) (a2 - b2) (a3 - b3) (a4 - b4) (a5 - b5) (a6 - b6) (a7 - b7) = own_W a0 a1 a2 a3 a4 a5 a6 a7 - own_W b0 b1 b2 b3 b4 b5 b6 b7 := by
  obtain ⟨p0, p1, p2, p3, p4, p5, p6, p7⟩ := ha
  obtain ⟨q0, q1, q2, q3, q4, q5, q6, q7⟩ := hb
  have e0 := own_sub a0 b0 (a0 - b0) m rfl p0 q0 (by omega)
  have e1 := own_sub a1 b1 (a1 - b1) m rfl p1 q1 (by omega)
  have e2 := own_sub a2 b2 (a2 - b2) m rfl p2 q2 (by omega)
  have e3 := own_sub a3 b3 (a3 - b3) m rfl p3 q3 (by omega)
  have e4 := own_sub a4 b4 (a4 - b4) m rfl p4 q4 (by omega)
  have e5 := own_sub a5 b5 (a5 - b5) m rfl p5 q5 (by omega)
  have e6 := own_sub a6 b6 (a6 - b6) m rfl p6 q6 (by omega)
  have e7 := own_sub a7 b7 (a7 - b7) m rfl p7 q7 (by omega)
  refine ⟨⟨by omega, by omega, by omega, by omega, by omega, by omega, by omega, by omega⟩, ?_⟩
  unfold own_W own_V; rw [e0, e1, e2, e3, e4, e5, e6, e7]; omega

def own_rot (x : Int64) (k : Int32) : Int64 := (x <<< (k &&& 0x3f).toInt64) ||| ((x.toUInt64 >>> (((64 : Int32) - k) &&& 0x3f).toInt64.toUInt64).toInt64)
def own_limb (x : Int64) (k : Int32) : Int64 := if (own_rot x k >>> ((13 : Int32) &&& 0x3f).toInt64) = (-1125899906842624 : Int64) then (own_rot x k >>> ((13 : Int32) &&& 0x3f).toInt64) + (1 : Int64) else (own_rot x k >>> ((13 : Int32) &&& 0x3f).toInt64)
theorem own_limbR (x : Int64) (k : Int32) : -1125899906842624 ≤ (own_limb x k).toInt ∧ (own_limb x k).toInt ≤ 1125899906842624 := by
  have h1 := c_lshr (own_rot x k) (13 : Int32) 13 (by decide)
  have h2 := rng64 (own_rot x k)
  have e : ((2 ^ 13 : Nat) : Int) = 8192 := rfl
  rw [e] at h1
  rw [own_limb]
  split
  · rename_i h; rw [h]; decide
  · omega

theorem own_n (x : Int32) : ((x &&& (2147483647 : Int32)) % (3 : Int32)) = (0 : Int32) ∨ ((x &&& (2147483647 : Int32)) % (3 : Int32)) = (1 : Int32) ∨ ((x &&& (2147483647 : Int32)) % (3 : Int32)) = (2 : Int32) := by
  have h1 := c_mask x (2147483647 : Int32) 31 (by decide) (by decide +kernel)
  have d2 := (c_irem (x &&& (2147483647 : Int32)) (3 : Int32) 3 rfl).1 (by omega)
  have e0 : (0 : Int32).toInt = 0 := rfl
  have e1 : (1 : Int32).toInt = 1 := rfl
  have e2 : (2 : Int32).toInt = 2 := rfl
  rw [← Int32.toInt_inj, ← Int32.toInt_inj, ← Int32.toInt_inj]
  omega
theorem own_sumM (A B r s u : Int) (h1 : own_M ((A + B) - r)) (h2 : own_M ((r - A) - s)) (h3 : own_M ((s - B) - u)) : own_M u := by
  obtain ⟨c1, h1⟩ := h1; obtain ⟨c2, h2⟩ := h2; obtain ⟨c3, h3⟩ := h3
  exact ⟨-(c1 + c2 + c3), by omega⟩
theorem d_method_2_code_0 : decode method_2_code 0 = .ok (.lload_n 0, 1) := by decide +kernel
theorem d_method_2_code_1 : decode method_2_code 1 = .ok (.iload_n 2, 1) := by decide +kernel
theorem d_method_2_code_2 : decode method_2_code 2 = .ok (.lshl, 1) := by decide +kernel
theorem d_method_2_code_3 : decode method_2_code 3 = .ok (.lload_n 0, 1) := by decide +kernel
theorem d_method_2_code_4 : decode method_2_code 4 = .ok (.bipush 64, 2) := by decide +kernel
theorem d_method_2_code_6 : decode method_2_code 6 = .ok (.iload_n 2, 1) := by decide +kernel
theorem d_method_2_code_7 : decode method_2_code 7 = .ok (.isub, 1) := by decide +kernel
theorem d_method_2_code_8 : decode method_2_code 8 = .ok (.lushr, 1) := by decide +kernel
theorem d_method_2_code_9 : decode method_2_code 9 = .ok (.lor, 1) := by decide +kernel
theorem d_method_2_code_10 : decode method_2_code 10 = .ok (.lreturn, 1) := by decide +kernel
def Qrm_rot (Z : State) (x : Int64) (k : Int32) (h0 : Heap) (n0 : Nat) (v_ : Option Value) (h_ : Heap) (L_ : List Loc) : Prop := v_ = some (.long (own_rot x k)) ∧ Fr n0 L_ ∧ h_ = h0
theorem ef_rm_rot (m : MethodId) (x0 : Int64) (x1 : Int32) : entryFrame m #[(.long x0), (.int x1)] 3 = mkF m 0 #[.val (.long x0), .second, .val (.int x1)] [] := by first | (simp [entryFrame, mkF, argsToLocals, Value.category]; done) | rfl
theorem pn_com_example_guard3_guard3_P384FieldAddPinLaw : plainName "com/example/guard3/guard3/P384FieldAddPinLaw" = true := by first | (simp [plainName, overriddenIn]; done) | decide +kernel
set_option maxRecDepth 65536 in
set_option maxHeartbeats 40000000 in
theorem rm_rot (l : Launch) (Z : State) (aZ : Array Value) (hw : ∀ d ∈ tables_1, d.before aZ Z = true) (ws : List Jvm.Cond) (x : Int64) (k : Int32) (h0 : Heap) (n0 : Nat) (Z0 : n0 ≤ h0.size) :
    MetFree l (⟨"com/example/guard3/guard3/P384FieldAddPinLaw", "rot", "(JI)J"⟩ : MethodName) (head1 (Jvm.Cond.code (⟨"com/example/guard3/guard3/P384FieldAddPinLaw", "rot", "(JI)J"⟩ : MethodName) method_2_code 3 (some .long) :: ws) ({ frames := 0, cells := 0, slots := 0, locals := 0 } : Room)) (fun a_ U_ => a_ = #[(.long x), (.int k)] ∧ Z.Warmed39 U_.vm ∧ U_.heap = h0) (fun _ _ _ _ _ => True) (fun _ U_ o_ U2_ => ∃ v_ L_, o_ = .returned v_ ∧ Qrm_rot Z x k h0 n0 v_ U2_.heap L_ ∧ FrameEnd U_ o_ U2_ L_ ({ frames := 0, cells := 0, slots := 0, locals := 0 } : Room).cells ({ frames := 0, cells := 0, slots := 0, locals := 0 } : Room).slots) := by
  refine MetFree.of_bodySF (plainFor_of_name pn_com_example_guard3_guard3_P384FieldAddPinLaw) hisR ?_
  intro p e s m args below meth cO s₁ Bd hml0 hP hK
  obtain ⟨rfl, hZW, hh⟩ := hP
  have hEX := Bd.exec
  have hBY := Bd.bytes
  have hMX : cO.maxLocals = 3 := hml0
  have hOW : s.vm.findClass "com/example/guard3/guard3/P384FieldAddPinLaw" = some m.cls := findClass_of_methodNamed Bd.named
  have hNM := (name_of_methodNamed Bd.named Bd.method).1
  have hLK := Bd.notSynchronized
  have hRT := Bd.returns
  have X0 : Stand p l e ({ frames := 0, cells := 0, slots := 0, locals := 0 } : Room) s m #[(.long x), (.int k)] below meth cO s₁ [] 0 0 := Stand.of_body Bd
  have e0 : s₁.heap = h0 := by rw [← hh, Bd.state]; rfl
  have N0 := Fr.nil n0
  have K0 : Keep h0 h0 [] := Keep.refl _ _
  show Done p e below s (Qrm_rot Z x k h0 n0) ({ frames := 0, cells := 0, slots := 0, locals := 0 } : Room).cells ({ frames := 0, cells := 0, slots := 0, locals := 0 } : Room).slots (s₁.setTop (entryFrame m #[(.long x), (.int k)] 3))
  refine Done.pre (fun t_ k_ => castTop (ef_rm_rot m x k) k_) ?_
  show Done _ _ _ _ _ _ _ (s₁.setTop (mkF m 0 #[Lv x, Zs, Iv k] []))
  have sg_1 : ∀ tt_, Steps p.tables e below (s₁.setTop (mkF m 10 #[Lv x, Zs, Iv k] [(.long ((x <<< (k &&& 0x3f).toInt64) ||| ((x.toUInt64 >>> (((64 : Int32) - k) &&& 0x3f).toInt64.toUInt64).toInt64)))])) tt_ → Steps p.tables e below (s₁.setTop (mkF m 0 #[Lv x, Zs, Iv k] [])) tt_ := by
    intro tt_ kt_
    refine XS.lloadN X0.here hEX rfl (hb hBY d_method_2_code_0) rfl ?_
    show Steps p.tables e below (s₁.setTop (mkF m 1 #[Lv x, Zs, Iv k] [(.long x)])) tt_
    refine XS.iloadN X0.here hEX rfl (hb hBY d_method_2_code_1) rfl ?_
    show Steps p.tables e below (s₁.setTop (mkF m 2 #[Lv x, Zs, Iv k] [(.int k), (.long x)])) tt_
    refine XS.lshl X0.here hEX rfl (hb hBY d_method_2_code_2) rfl ?_
    show Steps p.tables e below (s₁.setTop (mkF m 3 #[Lv x, Zs, Iv k] [(.long (x <<< (k &&& 0x3f).toInt64))])) tt_
    refine XS.lloadN X0.here hEX rfl (hb hBY d_method_2_code_3) rfl ?_
    show Steps p.tables e below (s₁.setTop (mkF m 4 #[Lv x, Zs, Iv k] [(.long x), (.long (x <<< (k &&& 0x3f).toInt64))])) tt_
    refine XS.bipush X0.here hEX rfl (hb hBY d_method_2_code_4) ?_
    show Steps p.tables e below (s₁.setTop (mkF m 6 #[Lv x, Zs, Iv k] [(.int (64 : Int32)), (.long x), (.long (x <<< (k &&& 0x3f).toInt64))])) tt_
    refine XS.iloadN X0.here hEX rfl (hb hBY d_method_2_code_6) rfl ?_
    show Steps p.tables e below (s₁.setTop (mkF m 7 #[Lv x, Zs, Iv k] [(.int k), (.int (64 : Int32)), (.long x), (.long (x <<< (k &&& 0x3f).toInt64))])) tt_
    refine XS.isub X0.here hEX rfl (hb hBY d_method_2_code_7) rfl ?_
    show Steps p.tables e below (s₁.setTop (mkF m 8 #[Lv x, Zs, Iv k] [(.int ((64 : Int32) - k)), (.long x), (.long (x <<< (k &&& 0x3f).toInt64))])) tt_
    refine XS.lushr X0.here hEX rfl (hb hBY d_method_2_code_8) rfl ?_
    show Steps p.tables e below (s₁.setTop (mkF m 9 #[Lv x, Zs, Iv k] [(.long ((x.toUInt64 >>> (((64 : Int32) - k) &&& 0x3f).toInt64.toUInt64).toInt64)), (.long (x <<< (k &&& 0x3f).toInt64))])) tt_
    refine XS.lor X0.here hEX rfl (hb hBY d_method_2_code_9) rfl ?_
    exact kt_
  refine Done.pre sg_1 ?_
  exact Done.retL X0 hEX hLK hRT (hb hBY d_method_2_code_10) (by rw [e0]; exact ⟨rfl, N0, rfl⟩) (by decide) (by decide)
theorem d_method_3_code_0 : decode method_3_code 0 = .ok (.lload_n 0, 1) := by decide +kernel
theorem d_method_3_code_1 : decode method_3_code 1 = .ok (.iload_n 2, 1) := by decide +kernel
theorem d_method_3_code_2 : decode method_3_code 2 = .ok (.invokestatic 7, 3) := by decide +kernel
theorem pd__JI_J_2 : parseMethodDescriptor "(JI)J" = some ⟨[.long, .int], some .long⟩ := by decide +kernel
theorem d_method_3_code_5 : decode method_3_code 5 = .ok (.bipush 13, 2) := by decide +kernel
theorem d_method_3_code_7 : decode method_3_code 7 = .ok (.lshr, 1) := by decide +kernel
theorem d_method_3_code_8 : decode method_3_code 8 = .ok (.lstore_n 3, 1) := by decide +kernel
theorem d_method_3_code_9 : decode method_3_code 9 = .ok (.lload_n 3, 1) := by decide +kernel
theorem d_method_3_code_10 : decode method_3_code 10 = .ok (.ldc2_w 13, 3) := by decide +kernel
theorem d_method_3_code_13 : decode method_3_code 13 = .ok (.lcmp, 1) := by decide +kernel
theorem d_method_3_code_14 : decode method_3_code 14 = .ok (.ifCond .ne 7, 3) := by decide +kernel
theorem d_method_3_code_17 : decode method_3_code 17 = .ok (.lload_n 3, 1) := by decide +kernel
theorem d_method_3_code_18 : decode method_3_code 18 = .ok (.lconst 1, 1) := by decide +kernel
theorem d_method_3_code_19 : decode method_3_code 19 = .ok (.ladd, 1) := by decide +kernel
theorem d_method_3_code_20 : decode method_3_code 20 = .ok (.lreturn, 1) := by decide +kernel
theorem d_method_3_code_21 : decode method_3_code 21 = .ok (.lload_n 3, 1) := by decide +kernel
theorem d_method_3_code_22 : decode method_3_code 22 = .ok (.lreturn, 1) := by decide +kernel
def Qrm_limb (Z : State) (x : Int64) (k : Int32) (h0 : Heap) (n0 : Nat) (v_ : Option Value) (h_ : Heap) (L_ : List Loc) : Prop := v_ = some (.long (own_limb x k)) ∧ Fr n0 L_ ∧ h_ = h0
theorem ef_rm_limb (m : MethodId) (x0 : Int64) (x1 : Int32) : entryFrame m #[(.long x0), (.int x1)] 5 = mkF m 0 #[.val (.long x0), .second, .val (.int x1), .unset, .unset] [] := by first | (simp [entryFrame, mkF, argsToLocals, Value.category]; done) | rfl
set_option maxRecDepth 65536 in
set_option maxHeartbeats 40000000 in
theorem rm_limb (l : Launch) (Z : State) (aZ : Array Value) (hw : ∀ d ∈ tables_1, d.before aZ Z = true) (ws : List Jvm.Cond) (x : Int64) (k : Int32) (h0 : Heap) (n0 : Nat) (Z0 : n0 ≤ h0.size) :
    MetFree l (⟨"com/example/guard3/guard3/P384FieldAddPinLaw", "limb", "(JI)J"⟩ : MethodName) (head1 (Jvm.Cond.code (⟨"com/example/guard3/guard3/P384FieldAddPinLaw", "limb", "(JI)J"⟩ : MethodName) method_3_code 5 (some .long) :: ws) ({ frames := 1, cells := 0, slots := 0, locals := 14 } : Room)) (fun a_ U_ => a_ = #[(.long x), (.int k)] ∧ Z.Warmed39 U_.vm ∧ U_.heap = h0) (fun _ _ _ _ _ => True) (fun _ U_ o_ U2_ => ∃ v_ L_, o_ = .returned v_ ∧ Qrm_limb Z x k h0 n0 v_ U2_.heap L_ ∧ FrameEnd U_ o_ U2_ L_ ({ frames := 1, cells := 0, slots := 0, locals := 14 } : Room).cells ({ frames := 1, cells := 0, slots := 0, locals := 14 } : Room).slots) := by
  refine MetFree.of_bodySF (plainFor_of_name pn_com_example_guard3_guard3_P384FieldAddPinLaw) hisR ?_
  intro p e s m args below meth cO s₁ Bd hml0 hP hK
  obtain ⟨rfl, hZW, hh⟩ := hP
  have hEX := Bd.exec
  have hBY := Bd.bytes
  have hMX : cO.maxLocals = 5 := hml0
  have hOW : s.vm.findClass "com/example/guard3/guard3/P384FieldAddPinLaw" = some m.cls := findClass_of_methodNamed Bd.named
  have hNM := (name_of_methodNamed Bd.named Bd.method).1
  have hLK := Bd.notSynchronized
  have hRT := Bd.returns
  have X0 : Stand p l e ({ frames := 1, cells := 0, slots := 0, locals := 14 } : Room) s m #[(.long x), (.int k)] below meth cO s₁ [] 0 0 := Stand.of_body Bd
  have e0 : s₁.heap = h0 := by rw [← hh, Bd.state]; rfl
  have N0 := Fr.nil n0
  have K0 : Keep h0 h0 [] := Keep.refl _ _
  show Done p e below s (Qrm_limb Z x k h0 n0) ({ frames := 1, cells := 0, slots := 0, locals := 14 } : Room).cells ({ frames := 1, cells := 0, slots := 0, locals := 14 } : Room).slots (s₁.setTop (entryFrame m #[(.long x), (.int k)] 5))
  refine Done.pre (fun t_ k_ => castTop (ef_rm_limb m x k) k_) ?_
  show Done _ _ _ _ _ _ _ (s₁.setTop (mkF m 0 #[Lv x, Zs, Iv k, Us, Us] []))
  have sg_1 : ∀ tt_, Steps p.tables e below (s₁.setTop (mkF m 2 #[Lv x, Zs, Iv k, Us, Us] [(.int k), (.long x)])) tt_ → Steps p.tables e below (s₁.setTop (mkF m 0 #[Lv x, Zs, Iv k, Us, Us] [])) tt_ := by
    intro tt_ kt_
    refine XS.lloadN X0.here hEX rfl (hb hBY d_method_3_code_0) rfl ?_
    show Steps p.tables e below (s₁.setTop (mkF m 1 #[Lv x, Zs, Iv k, Us, Us] [(.long x)])) tt_
    refine XS.iloadN X0.here hEX rfl (hb hBY d_method_3_code_1) rfl ?_
    exact kt_
  refine Done.pre sg_1 ?_
  obtain ⟨_, _, ⟨T_2, L_2, k_2, n_2⟩, -, X_2, ⟨Lc_2, hQ_2, l_2, y_2, z_2⟩, st_2⟩ := Jvm.LawKit.callS X0 hEX (y := (⟨"com/example/guard3/guard3/P384FieldAddPinLaw", "rot", "(JI)J"⟩ : MethodName)) hOW (mvT hZW (hw _ (List.mem_of_getElem? (i := 8) rfl))) (mvT hZW (hw _ (List.mem_of_getElem? (i := 9) rfl))) (mvT hZW (hw _ (List.mem_of_getElem? (i := 2) rfl))) (mvT hZW (hw _ (List.mem_of_getElem? (i := 10) rfl))) (by decide) (backOf (W := 0) (rm_rot l Z aZ hw [] x k h0 n0 (Nat.le_trans Z0 K0.1) ) hZW (hw _ (List.mem_of_getElem? (i := 10) rfl)) (hw _ (List.mem_of_getElem? (i := 2) rfl)) (by decide) (by decide)) (g := (mkF m 2 #[Lv x, Zs, Iv k, Us, Us] [(.int k), (.long x)])) rfl (by rw [hMX]; rfl) (argsL := [(.long x), (.int k)]) (rest := []) (lenOf pd__JI_J_2 rfl) rfl (by show 2 * 0 + _ ≤ _; exact Nat.le_of_eq rfl) (hb hBY d_method_3_code_2) (fun _ _ => ⟨rfl, e0, (by decide : 0 + 0 ≤ _), (by decide : 0 + 0 ≤ _)⟩)
  dsimp only [Pt.U, Pt.locs, Pt.cells, Pt.slots] at X_2 l_2 y_2 z_2 st_2 hQ_2
  subst l_2 y_2 z_2
  obtain ⟨rfl, N_2q, e_2⟩ := hQ_2
  have N_2 := Fr.app N0 N_2q
  refine Done.pre (fun _ k_ => st_2 _ k_) ?_
  show Done _ _ _ _ _ _ _ (T_2.setTop (mkF m 5 #[Lv x, Zs, Iv k, Us, Us] [(.long (own_rot x k))]))
  have sg_3 : ∀ tt_, Steps p.tables e below (T_2.setTop (mkF m 14 #[Lv x, Zs, Iv k, Lv ((own_rot x k) >>> ((13 : Int32) &&& 0x3f).toInt64), Zs] [(.int (lcmpW ((own_rot x k) >>> ((13 : Int32) &&& 0x3f).toInt64) (-1125899906842624 : Int64)))])) tt_ → Steps p.tables e below (T_2.setTop (mkF m 5 #[Lv x, Zs, Iv k, Us, Us] [(.long (own_rot x k))])) tt_ := by
    intro tt_ kt_
    refine XS.bipush X_2.here hEX rfl (hb hBY d_method_3_code_5) ?_
    show Steps p.tables e below (T_2.setTop (mkF m 7 #[Lv x, Zs, Iv k, Us, Us] [(.int (13 : Int32)), (.long (own_rot x k))])) tt_
    refine XS.lshr X_2.here hEX rfl (hb hBY d_method_3_code_7) rfl ?_
    show Steps p.tables e below (T_2.setTop (mkF m 8 #[Lv x, Zs, Iv k, Us, Us] [(.long ((own_rot x k) >>> ((13 : Int32) &&& 0x3f).toInt64))])) tt_
    refine XS.lstoreN X_2.here hEX rfl (hb hBY d_method_3_code_8) rfl (l' := #[Lv x, Zs, Iv k, Lv ((own_rot x k) >>> ((13 : Int32) &&& 0x3f).toInt64), Zs]) rfl ?_
    show Steps p.tables e below (T_2.setTop (mkF m 9 #[Lv x, Zs, Iv k, Lv ((own_rot x k) >>> ((13 : Int32) &&& 0x3f).toInt64), Zs] [])) tt_
    refine XS.lloadN X_2.here hEX rfl (hb hBY d_method_3_code_9) rfl ?_
    show Steps p.tables e below (T_2.setTop (mkF m 10 #[Lv x, Zs, Iv k, Lv ((own_rot x k) >>> ((13 : Int32) &&& 0x3f).toInt64), Zs] [(.long ((own_rot x k) >>> ((13 : Int32) &&& 0x3f).toInt64))])) tt_
    refine X_2.ldc2Long hEX hOW (mvT hZW (hw _ (List.mem_of_getElem? (i := 11) rfl))) (g := (mkF m 10 #[Lv x, Zs, Iv k, Lv ((own_rot x k) >>> ((13 : Int32) &&& 0x3f).toInt64), Zs] [(.long ((own_rot x k) >>> ((13 : Int32) &&& 0x3f).toInt64))])) rfl (hb hBY d_method_3_code_10) _ ?_
    show Steps p.tables e below (T_2.setTop (mkF m 13 #[Lv x, Zs, Iv k, Lv ((own_rot x k) >>> ((13 : Int32) &&& 0x3f).toInt64), Zs] [(.long (-1125899906842624 : Int64)), (.long ((own_rot x k) >>> ((13 : Int32) &&& 0x3f).toInt64))])) tt_
    refine XS.lcmp X_2.here hEX rfl (hb hBY d_method_3_code_13) rfl ?_
    exact kt_
  refine Done.pre sg_3 ?_
  by_cases hc14 : ((own_rot x k) >>> ((13 : Int32) &&& 0x3f).toInt64) = (-1125899906842624 : Int64)
  · skip
    have sg_4 : ∀ tt_, Steps p.tables e below (T_2.setTop (mkF m 20 #[Lv x, Zs, Iv k, Lv ((own_rot x k) >>> ((13 : Int32) &&& 0x3f).toInt64), Zs] [(.long (((own_rot x k) >>> ((13 : Int32) &&& 0x3f).toInt64) + (1 : Int64)))])) tt_ → Steps p.tables e below (T_2.setTop (mkF m 14 #[Lv x, Zs, Iv k, Lv ((own_rot x k) >>> ((13 : Int32) &&& 0x3f).toInt64), Zs] [(.int (lcmpW ((own_rot x k) >>> ((13 : Int32) &&& 0x3f).toInt64) (-1125899906842624 : Int64)))])) tt_ := by
      intro tt_ kt_
      refine XS.ifNo X_2.here hEX rfl (hb hBY d_method_3_code_14) rfl ((if0 _ _).trans (teq ((lw_eq _ _).mpr hc14)).2) ?_
      show Steps p.tables e below (T_2.setTop (mkF m 17 #[Lv x, Zs, Iv k, Lv ((own_rot x k) >>> ((13 : Int32) &&& 0x3f).toInt64), Zs] [])) tt_
      refine XS.lloadN X_2.here hEX rfl (hb hBY d_method_3_code_17) rfl ?_
      show Steps p.tables e below (T_2.setTop (mkF m 18 #[Lv x, Zs, Iv k, Lv ((own_rot x k) >>> ((13 : Int32) &&& 0x3f).toInt64), Zs] [(.long ((own_rot x k) >>> ((13 : Int32) &&& 0x3f).toInt64))])) tt_
      refine XS.lconst X_2.here hEX rfl (hb hBY d_method_3_code_18) ?_
      show Steps p.tables e below (T_2.setTop (mkF m 19 #[Lv x, Zs, Iv k, Lv ((own_rot x k) >>> ((13 : Int32) &&& 0x3f).toInt64), Zs] [(.long (1 : Int64)), (.long ((own_rot x k) >>> ((13 : Int32) &&& 0x3f).toInt64))])) tt_
      refine XS.ladd X_2.here hEX rfl (hb hBY d_method_3_code_19) rfl ?_
      exact kt_
    refine Done.pre sg_4 ?_
    exact Done.retL X_2 hEX hLK hRT (hb hBY d_method_3_code_20) (by rw [e_2]; exact ⟨(by rw [own_limb, if_pos hc14]), N_2, rfl⟩) (by decide) (by decide)
  · skip
    have sg_5 : ∀ tt_, Steps p.tables e below (T_2.setTop (mkF m 22 #[Lv x, Zs, Iv k, Lv ((own_rot x k) >>> ((13 : Int32) &&& 0x3f).toInt64), Zs] [(.long ((own_rot x k) >>> ((13 : Int32) &&& 0x3f).toInt64))])) tt_ → Steps p.tables e below (T_2.setTop (mkF m 14 #[Lv x, Zs, Iv k, Lv ((own_rot x k) >>> ((13 : Int32) &&& 0x3f).toInt64), Zs] [(.int (lcmpW ((own_rot x k) >>> ((13 : Int32) &&& 0x3f).toInt64) (-1125899906842624 : Int64)))])) tt_ := by
      intro tt_ kt_
      refine XS.ifYes X_2.here hEX rfl (pc0 := 14) (pc' := 21) rfl (hb hBY d_method_3_code_14) rfl ((if0 _ _).trans (feq (fun q => hc14 ((lw_eq _ _).mp q))).2) (by decide) (by decide) ?_
      show Steps p.tables e below (T_2.setTop (mkF m 21 #[Lv x, Zs, Iv k, Lv ((own_rot x k) >>> ((13 : Int32) &&& 0x3f).toInt64), Zs] [])) tt_
      refine XS.lloadN X_2.here hEX rfl (hb hBY d_method_3_code_21) rfl ?_
      exact kt_
    refine Done.pre sg_5 ?_
    exact Done.retL X_2 hEX hLK hRT (hb hBY d_method_3_code_22) (by rw [e_2]; exact ⟨(by rw [own_limb, if_neg hc14]), N_2, rfl⟩) (by decide) (by decide)
theorem d_method_4_code_0 : decode method_4_code 0 = .ok (.bipush 8, 2) := by decide +kernel
theorem d_method_4_code_2 : decode method_4_code 2 = .ok (.newarray .long, 2) := by decide +kernel
theorem d_method_4_code_4 : decode method_4_code 4 = .ok (.dup, 1) := by decide +kernel
theorem d_method_4_code_5 : decode method_4_code 5 = .ok (.iconst 0, 1) := by decide +kernel
theorem d_method_4_code_6 : decode method_4_code 6 = .ok (.lload_n 0, 1) := by decide +kernel
theorem d_method_4_code_7 : decode method_4_code 7 = .ok (.iconst 0, 1) := by decide +kernel
theorem d_method_4_code_8 : decode method_4_code 8 = .ok (.invokestatic 15, 3) := by decide +kernel
theorem d_method_4_code_11 : decode method_4_code 11 = .ok (.lastore, 1) := by decide +kernel
theorem d_method_4_code_12 : decode method_4_code 12 = .ok (.dup, 1) := by decide +kernel
theorem d_method_4_code_13 : decode method_4_code 13 = .ok (.iconst 1, 1) := by decide +kernel
theorem d_method_4_code_14 : decode method_4_code 14 = .ok (.lload_n 2, 1) := by decide +kernel
theorem d_method_4_code_15 : decode method_4_code 15 = .ok (.bipush 11, 2) := by decide +kernel
theorem d_method_4_code_17 : decode method_4_code 17 = .ok (.invokestatic 15, 3) := by decide +kernel
theorem d_method_4_code_20 : decode method_4_code 20 = .ok (.lastore, 1) := by decide +kernel
theorem d_method_4_code_21 : decode method_4_code 21 = .ok (.dup, 1) := by decide +kernel
theorem d_method_4_code_22 : decode method_4_code 22 = .ok (.iconst 2, 1) := by decide +kernel
theorem d_method_4_code_23 : decode method_4_code 23 = .ok (.lload 4, 2) := by decide +kernel
theorem d_method_4_code_25 : decode method_4_code 25 = .ok (.bipush 22, 2) := by decide +kernel
theorem d_method_4_code_27 : decode method_4_code 27 = .ok (.invokestatic 15, 3) := by decide +kernel
theorem d_method_4_code_30 : decode method_4_code 30 = .ok (.lastore, 1) := by decide +kernel
theorem d_method_4_code_31 : decode method_4_code 31 = .ok (.dup, 1) := by decide +kernel
theorem d_method_4_code_32 : decode method_4_code 32 = .ok (.iconst 3, 1) := by decide +kernel
theorem d_method_4_code_33 : decode method_4_code 33 = .ok (.lload 6, 2) := by decide +kernel
theorem d_method_4_code_35 : decode method_4_code 35 = .ok (.bipush 33, 2) := by decide +kernel
theorem d_method_4_code_37 : decode method_4_code 37 = .ok (.invokestatic 15, 3) := by decide +kernel
theorem d_method_4_code_40 : decode method_4_code 40 = .ok (.lastore, 1) := by decide +kernel
theorem d_method_4_code_41 : decode method_4_code 41 = .ok (.dup, 1) := by decide +kernel
theorem d_method_4_code_42 : decode method_4_code 42 = .ok (.iconst 4, 1) := by decide +kernel
theorem d_method_4_code_43 : decode method_4_code 43 = .ok (.lload 8, 2) := by decide +kernel
theorem d_method_4_code_45 : decode method_4_code 45 = .ok (.bipush 44, 2) := by decide +kernel
theorem d_method_4_code_47 : decode method_4_code 47 = .ok (.invokestatic 15, 3) := by decide +kernel
theorem d_method_4_code_50 : decode method_4_code 50 = .ok (.lastore, 1) := by decide +kernel
theorem d_method_4_code_51 : decode method_4_code 51 = .ok (.dup, 1) := by decide +kernel
theorem d_method_4_code_52 : decode method_4_code 52 = .ok (.iconst 5, 1) := by decide +kernel
theorem d_method_4_code_53 : decode method_4_code 53 = .ok (.lload_n 0, 1) := by decide +kernel
theorem d_method_4_code_54 : decode method_4_code 54 = .ok (.bipush 55, 2) := by decide +kernel
theorem d_method_4_code_56 : decode method_4_code 56 = .ok (.invokestatic 15, 3) := by decide +kernel
theorem d_method_4_code_59 : decode method_4_code 59 = .ok (.lastore, 1) := by decide +kernel
theorem d_method_4_code_60 : decode method_4_code 60 = .ok (.dup, 1) := by decide +kernel
theorem d_method_4_code_61 : decode method_4_code 61 = .ok (.bipush 6, 2) := by decide +kernel
theorem d_method_4_code_63 : decode method_4_code 63 = .ok (.lload_n 2, 1) := by decide +kernel
theorem d_method_4_code_64 : decode method_4_code 64 = .ok (.iconst 2, 1) := by decide +kernel
theorem d_method_4_code_65 : decode method_4_code 65 = .ok (.invokestatic 15, 3) := by decide +kernel
theorem d_method_4_code_68 : decode method_4_code 68 = .ok (.lastore, 1) := by decide +kernel
theorem d_method_4_code_69 : decode method_4_code 69 = .ok (.dup, 1) := by decide +kernel
theorem d_method_4_code_70 : decode method_4_code 70 = .ok (.bipush 7, 2) := by decide +kernel
theorem d_method_4_code_72 : decode method_4_code 72 = .ok (.lload 4, 2) := by decide +kernel
theorem d_method_4_code_74 : decode method_4_code 74 = .ok (.bipush 13, 2) := by decide +kernel
theorem d_method_4_code_76 : decode method_4_code 76 = .ok (.invokestatic 15, 3) := by decide +kernel
theorem d_method_4_code_79 : decode method_4_code 79 = .ok (.lastore, 1) := by decide +kernel
theorem d_method_4_code_80 : decode method_4_code 80 = .ok (.areturn, 1) := by decide +kernel
def Qrm_ea (Z : State) (x0 : Int64) (x1 : Int64) (x2 : Int64) (x3 : Int64) (x4 : Int64) (h0 : Heap) (n0 : Nat) (v_ : Option Value) (h_ : Heap) (L_ : List Loc) : Prop := ∃ (b : Addr), ∃ (kb : ClassId), v_ = some (.ref b) ∧ Fr n0 L_ ∧ Keep h0 h_ [] ∧ Arv Z h_ b kb .long (8 : Int32) [(.long (own_limb x0 (0 : Int32))), (.long (own_limb x1 (11 : Int32))), (.long (own_limb x2 (22 : Int32))), (.long (own_limb x3 (33 : Int32))), (.long (own_limb x4 (44 : Int32))), (.long (own_limb x0 (55 : Int32))), (.long (own_limb x1 (2 : Int32))), (.long (own_limb x2 (13 : Int32)))] (.long (0 : Int64)) ∧ h0.size ≤ b
theorem ef_rm_ea (m : MethodId) (x0 : Int64) (x1 : Int64) (x2 : Int64) (x3 : Int64) (x4 : Int64) : entryFrame m #[(.long x0), (.long x1), (.long x2), (.long x3), (.long x4)] 10 = mkF m 0 #[.val (.long x0), .second, .val (.long x1), .second, .val (.long x2), .second, .val (.long x3), .second, .val (.long x4), .second] [] := by first | (simp [entryFrame, mkF, argsToLocals, Value.category]; done) | rfl
set_option maxRecDepth 65536 in
set_option maxHeartbeats 40000000 in
theorem rm_ea (l : Launch) (Z : State) (aZ : Array Value) (hw : ∀ d ∈ tables_1, d.before aZ Z = true) (ws : List Jvm.Cond) (x0 : Int64) (x1 : Int64) (x2 : Int64) (x3 : Int64) (x4 : Int64) (h0 : Heap) (n0 : Nat) (Z0 : n0 ≤ h0.size) :
    MetFree l (⟨"com/example/guard3/guard3/P384FieldAddPinLaw", "elementA", "(JJJJJ)[J"⟩ : MethodName) (head1 (Jvm.Cond.code (⟨"com/example/guard3/guard3/P384FieldAddPinLaw", "elementA", "(JJJJJ)[J"⟩ : MethodName) method_4_code 10 (some (.array .long)) :: ws) ({ frames := 2, cells := 1, slots := 8, locals := 33 } : Room)) (fun a_ U_ => a_ = #[(.long x0), (.long x1), (.long x2), (.long x3), (.long x4)] ∧ Z.Warmed39 U_.vm ∧ U_.heap = h0) (fun _ _ _ _ _ => True) (fun _ U_ o_ U2_ => ∃ v_ L_, o_ = .returned v_ ∧ Qrm_ea Z x0 x1 x2 x3 x4 h0 n0 v_ U2_.heap L_ ∧ FrameEnd U_ o_ U2_ L_ ({ frames := 2, cells := 1, slots := 8, locals := 33 } : Room).cells ({ frames := 2, cells := 1, slots := 8, locals := 33 } : Room).slots) := by
  refine MetFree.of_bodySF (plainFor_of_name pn_com_example_guard3_guard3_P384FieldAddPinLaw) hisR ?_
  intro p e s m args below meth cO s₁ Bd hml0 hP hK
  obtain ⟨rfl, hZW, hh⟩ := hP
  have hEX := Bd.exec
  have hBY := Bd.bytes
  have hMX : cO.maxLocals = 10 := hml0
  have hOW : s.vm.findClass "com/example/guard3/guard3/P384FieldAddPinLaw" = some m.cls := findClass_of_methodNamed Bd.named
  have hNM := (name_of_methodNamed Bd.named Bd.method).1
  have hLK := Bd.notSynchronized
  have hRT := Bd.returns
  have X0 : Stand p l e ({ frames := 2, cells := 1, slots := 8, locals := 33 } : Room) s m #[(.long x0), (.long x1), (.long x2), (.long x3), (.long x4)] below meth cO s₁ [] 0 0 := Stand.of_body Bd
  have e0 : s₁.heap = h0 := by rw [← hh, Bd.state]; rfl
  have N0 := Fr.nil n0
  have K0 : Keep h0 h0 [] := Keep.refl _ _
  show Done p e below s (Qrm_ea Z x0 x1 x2 x3 x4 h0 n0) ({ frames := 2, cells := 1, slots := 8, locals := 33 } : Room).cells ({ frames := 2, cells := 1, slots := 8, locals := 33 } : Room).slots (s₁.setTop (entryFrame m #[(.long x0), (.long x1), (.long x2), (.long x3), (.long x4)] 10))
  refine Done.pre (fun t_ k_ => castTop (ef_rm_ea m x0 x1 x2 x3 x4) k_) ?_
  show Done _ _ _ _ _ _ _ (s₁.setTop (mkF m 0 #[Lv x0, Zs, Lv x1, Zs, Lv x2, Zs, Lv x3, Zs, Lv x4, Zs] []))
  have sg_1 : ∀ tt_, Steps p.tables e below (s₁.setTop (mkF m 2 #[Lv x0, Zs, Lv x1, Zs, Lv x2, Zs, Lv x3, Zs, Lv x4, Zs] [(.int (8 : Int32))])) tt_ → Steps p.tables e below (s₁.setTop (mkF m 0 #[Lv x0, Zs, Lv x1, Zs, Lv x2, Zs, Lv x3, Zs, Lv x4, Zs] [])) tt_ := by
    intro tt_ kt_
    refine XS.bipush X0.here hEX rfl (hb hBY d_method_4_code_0) ?_
    exact kt_
  refine Done.pre sg_1 ?_
  obtain ⟨T_2, h_2, k_2, X_2, e_2, E_2, A_2, st_2⟩ := newP X0 hEX hZW (hw _ (List.mem_of_getElem? (i := 4) rfl)) e0 (g := (mkF m 2 #[Lv x0, Zs, Lv x1, Zs, Lv x2, Zs, Lv x3, Zs, Lv x4, Zs] [(.int (8 : Int32))])) rfl (hb hBY d_method_4_code_2) rfl (by decide) (cap := 8) (by decide) (by decide) (by decide) (by decide)
  obtain ⟨b_2, g_2⟩ : ∃ z, z = h0.size := ⟨_, rfl⟩
  rw [← g_2] at A_2 st_2
  have sz_b_2 : h0.size ≤ b_2 := Nat.le_trans K0.1 (Nat.le_of_eq g_2.symm)
  have ge_b_2 : n0 ≤ b_2 := Nat.le_trans Z0 sz_b_2
  have K__3 : Keep h0 h_2 [] := K0.ext E_2
  have f_4 : Arv Z h_2 b_2 k_2 .long (8 : Int32) [(.long (0 : Int64)), (.long (0 : Int64)), (.long (0 : Int64)), (.long (0 : Int64)), (.long (0 : Int64)), (.long (0 : Int64)), (.long (0 : Int64)), (.long (0 : Int64))] (.long (0 : Int64)) := (Arv.new A_2 (by decide)).pad (pad_rep [] (.long (0 : Int64)) 8)
  refine Done.pre st_2 ?_
  show Done _ _ _ _ _ _ _ (T_2.setTop (mkF m 4 #[Lv x0, Zs, Lv x1, Zs, Lv x2, Zs, Lv x3, Zs, Lv x4, Zs] [(.ref b_2)]))
  have sg_5 : ∀ tt_, Steps p.tables e below (T_2.setTop (mkF m 8 #[Lv x0, Zs, Lv x1, Zs, Lv x2, Zs, Lv x3, Zs, Lv x4, Zs] [(.int (0 : Int32)), (.long x0), (.int (0 : Int32)), (.ref b_2), (.ref b_2)])) tt_ → Steps p.tables e below (T_2.setTop (mkF m 4 #[Lv x0, Zs, Lv x1, Zs, Lv x2, Zs, Lv x3, Zs, Lv x4, Zs] [(.ref b_2)])) tt_ := by
    intro tt_ kt_
    refine XS.dup X_2.here hEX rfl (hb hBY d_method_4_code_4) rfl rfl ?_
    show Steps p.tables e below (T_2.setTop (mkF m 5 #[Lv x0, Zs, Lv x1, Zs, Lv x2, Zs, Lv x3, Zs, Lv x4, Zs] [(.ref b_2), (.ref b_2)])) tt_
    refine XS.iconst X_2.here hEX rfl (hb hBY d_method_4_code_5) ?_
    show Steps p.tables e below (T_2.setTop (mkF m 6 #[Lv x0, Zs, Lv x1, Zs, Lv x2, Zs, Lv x3, Zs, Lv x4, Zs] [(.int (0 : Int32)), (.ref b_2), (.ref b_2)])) tt_
    refine XS.lloadN X_2.here hEX rfl (hb hBY d_method_4_code_6) rfl ?_
    show Steps p.tables e below (T_2.setTop (mkF m 7 #[Lv x0, Zs, Lv x1, Zs, Lv x2, Zs, Lv x3, Zs, Lv x4, Zs] [(.long x0), (.int (0 : Int32)), (.ref b_2), (.ref b_2)])) tt_
    refine XS.iconst X_2.here hEX rfl (hb hBY d_method_4_code_7) ?_
    exact kt_
  refine Done.pre sg_5 ?_
  obtain ⟨_, _, ⟨T_6, L_6, k_6, n_6⟩, -, X_6, ⟨Lc_6, hQ_6, l_6, y_6, z_6⟩, st_6⟩ := Jvm.LawKit.callS X_2 hEX (y := (⟨"com/example/guard3/guard3/P384FieldAddPinLaw", "limb", "(JI)J"⟩ : MethodName)) hOW (mvT hZW (hw _ (List.mem_of_getElem? (i := 5) rfl))) (mvT hZW (hw _ (List.mem_of_getElem? (i := 6) rfl))) (mvT hZW (hw _ (List.mem_of_getElem? (i := 2) rfl))) (mvT hZW (hw _ (List.mem_of_getElem? (i := 7) rfl))) (by decide) (backOf (W := 3) (rm_limb l Z aZ hw [] x0 (0 : Int32) h_2 n0 (Nat.le_trans Z0 K__3.1) ) hZW (hw _ (List.mem_of_getElem? (i := 7) rfl)) (hw _ (List.mem_of_getElem? (i := 2) rfl)) (by decide) (by decide)) (g := (mkF m 8 #[Lv x0, Zs, Lv x1, Zs, Lv x2, Zs, Lv x3, Zs, Lv x4, Zs] [(.int (0 : Int32)), (.long x0), (.int (0 : Int32)), (.ref b_2), (.ref b_2)])) rfl (by rw [hMX]; rfl) (argsL := [(.long x0), (.int (0 : Int32))]) (rest := [(.int (0 : Int32)), (.ref b_2), (.ref b_2)]) (lenOf pd__JI_J_2 rfl) rfl (by show 2 * 0 + _ ≤ _; exact Nat.le_of_eq rfl) (hb hBY d_method_4_code_8) (fun _ _ => ⟨rfl, e_2, (by decide : 1 + 0 ≤ _), (by decide : 8 + 0 ≤ _)⟩)
  dsimp only [Pt.U, Pt.locs, Pt.cells, Pt.slots] at X_6 l_6 y_6 z_6 st_6 hQ_6
  subst l_6 y_6 z_6
  obtain ⟨rfl, N_6q, e_6⟩ := hQ_6
  have N_6 := Fr.app N0 N_6q
  refine Done.pre (fun _ k_ => st_6 _ k_) ?_
  show Done _ _ _ _ _ _ _ (T_6.setTop (mkF m 11 #[Lv x0, Zs, Lv x1, Zs, Lv x2, Zs, Lv x3, Zs, Lv x4, Zs] [(.long (own_limb x0 (0 : Int32))), (.int (0 : Int32)), (.ref b_2), (.ref b_2)]))
  obtain ⟨cl_7, Ar_7, q_7, S_7, N__7, H_7, G_7⟩ := id f_4
  have hin_7 : ¬ ((0 : Int32) < 0 ∨ cl_7.slots.size ≤ ((0 : Int32)).toNatClampNeg) := inb_of S_7 ⟨by decide, by decide⟩
  obtain ⟨T_8, h_8, X_8, e_8, W_8, st_8⟩ := stJ X_6 hEX hZW e_6 Ar_7 (j := (0 : Int32)) hin_7 (g := (mkF m 11 #[Lv x0, Zs, Lv x1, Zs, Lv x2, Zs, Lv x3, Zs, Lv x4, Zs] [(.long (own_limb x0 (0 : Int32))), (.int (0 : Int32)), (.ref b_2), (.ref b_2)])) rfl rfl (hb hBY d_method_4_code_11)
  have N_8 := Fr.snoc X_8 N_6 ge_b_2
  have K__9 : Keep h0 h_8 [] := K__3.wr W_8 (Or.inr sz_b_2)
  have f_10 : Arv Z h_8 b_2 k_2 .long (8 : Int32) [(.long (own_limb x0 (0 : Int32))), (.long (0 : Int64)), (.long (0 : Int64)), (.long (0 : Int64)), (.long (0 : Int64)), (.long (0 : Int64)), (.long (0 : Int64)), (.long (0 : Int64))] (.long (0 : Int64)) := Arv.set Ar_7 q_7 S_7 N__7 H_7 G_7 rfl W_8 0 rfl (Nat.le_of_ble_eq_true rfl)
  refine Done.pre st_8 ?_
  show Done _ _ _ _ _ _ _ (T_8.setTop (mkF m 12 #[Lv x0, Zs, Lv x1, Zs, Lv x2, Zs, Lv x3, Zs, Lv x4, Zs] [(.ref b_2)]))
  have sg_11 : ∀ tt_, Steps p.tables e below (T_8.setTop (mkF m 17 #[Lv x0, Zs, Lv x1, Zs, Lv x2, Zs, Lv x3, Zs, Lv x4, Zs] [(.int (11 : Int32)), (.long x1), (.int (1 : Int32)), (.ref b_2), (.ref b_2)])) tt_ → Steps p.tables e below (T_8.setTop (mkF m 12 #[Lv x0, Zs, Lv x1, Zs, Lv x2, Zs, Lv x3, Zs, Lv x4, Zs] [(.ref b_2)])) tt_ := by
    intro tt_ kt_
    refine XS.dup X_8.here hEX rfl (hb hBY d_method_4_code_12) rfl rfl ?_
    show Steps p.tables e below (T_8.setTop (mkF m 13 #[Lv x0, Zs, Lv x1, Zs, Lv x2, Zs, Lv x3, Zs, Lv x4, Zs] [(.ref b_2), (.ref b_2)])) tt_
    refine XS.iconst X_8.here hEX rfl (hb hBY d_method_4_code_13) ?_
    show Steps p.tables e below (T_8.setTop (mkF m 14 #[Lv x0, Zs, Lv x1, Zs, Lv x2, Zs, Lv x3, Zs, Lv x4, Zs] [(.int (1 : Int32)), (.ref b_2), (.ref b_2)])) tt_
    refine XS.lloadN X_8.here hEX rfl (hb hBY d_method_4_code_14) rfl ?_
    show Steps p.tables e below (T_8.setTop (mkF m 15 #[Lv x0, Zs, Lv x1, Zs, Lv x2, Zs, Lv x3, Zs, Lv x4, Zs] [(.long x1), (.int (1 : Int32)), (.ref b_2), (.ref b_2)])) tt_
    refine XS.bipush X_8.here hEX rfl (hb hBY d_method_4_code_15) ?_
    exact kt_
  refine Done.pre sg_11 ?_
  obtain ⟨_, _, ⟨T_12, L_12, k_12, n_12⟩, -, X_12, ⟨Lc_12, hQ_12, l_12, y_12, z_12⟩, st_12⟩ := Jvm.LawKit.callS X_8 hEX (y := (⟨"com/example/guard3/guard3/P384FieldAddPinLaw", "limb", "(JI)J"⟩ : MethodName)) hOW (mvT hZW (hw _ (List.mem_of_getElem? (i := 5) rfl))) (mvT hZW (hw _ (List.mem_of_getElem? (i := 6) rfl))) (mvT hZW (hw _ (List.mem_of_getElem? (i := 2) rfl))) (mvT hZW (hw _ (List.mem_of_getElem? (i := 7) rfl))) (by decide) (backOf (W := 3) (rm_limb l Z aZ hw [] x1 (11 : Int32) h_8 n0 (Nat.le_trans Z0 K__9.1) ) hZW (hw _ (List.mem_of_getElem? (i := 7) rfl)) (hw _ (List.mem_of_getElem? (i := 2) rfl)) (by decide) (by decide)) (g := (mkF m 17 #[Lv x0, Zs, Lv x1, Zs, Lv x2, Zs, Lv x3, Zs, Lv x4, Zs] [(.int (11 : Int32)), (.long x1), (.int (1 : Int32)), (.ref b_2), (.ref b_2)])) rfl (by rw [hMX]; rfl) (argsL := [(.long x1), (.int (11 : Int32))]) (rest := [(.int (1 : Int32)), (.ref b_2), (.ref b_2)]) (lenOf pd__JI_J_2 rfl) rfl (by show 2 * 0 + _ ≤ _; exact Nat.le_of_eq rfl) (hb hBY d_method_4_code_17) (fun _ _ => ⟨rfl, e_8, (by decide : 1 + 0 ≤ _), (by decide : 8 + 0 ≤ _)⟩)
  dsimp only [Pt.U, Pt.locs, Pt.cells, Pt.slots] at X_12 l_12 y_12 z_12 st_12 hQ_12
  subst l_12 y_12 z_12
  obtain ⟨rfl, N_12q, e_12⟩ := hQ_12
  have N_12 := Fr.app N_8 N_12q
  refine Done.pre (fun _ k_ => st_12 _ k_) ?_
  show Done _ _ _ _ _ _ _ (T_12.setTop (mkF m 20 #[Lv x0, Zs, Lv x1, Zs, Lv x2, Zs, Lv x3, Zs, Lv x4, Zs] [(.long (own_limb x1 (11 : Int32))), (.int (1 : Int32)), (.ref b_2), (.ref b_2)]))
  obtain ⟨cl_13, Ar_13, q_13, S_13, N__13, H_13, G_13⟩ := id f_10
  have hin_13 : ¬ ((1 : Int32) < 0 ∨ cl_13.slots.size ≤ ((1 : Int32)).toNatClampNeg) := inb_of S_13 ⟨by decide, by decide⟩
  obtain ⟨T_14, h_14, X_14, e_14, W_14, st_14⟩ := stJ X_12 hEX hZW e_12 Ar_13 (j := (1 : Int32)) hin_13 (g := (mkF m 20 #[Lv x0, Zs, Lv x1, Zs, Lv x2, Zs, Lv x3, Zs, Lv x4, Zs] [(.long (own_limb x1 (11 : Int32))), (.int (1 : Int32)), (.ref b_2), (.ref b_2)])) rfl rfl (hb hBY d_method_4_code_20)
  have N_14 := Fr.snoc X_14 N_12 ge_b_2
  have K__15 : Keep h0 h_14 [] := K__9.wr W_14 (Or.inr sz_b_2)
  have f_16 : Arv Z h_14 b_2 k_2 .long (8 : Int32) [(.long (own_limb x0 (0 : Int32))), (.long (own_limb x1 (11 : Int32))), (.long (0 : Int64)), (.long (0 : Int64)), (.long (0 : Int64)), (.long (0 : Int64)), (.long (0 : Int64)), (.long (0 : Int64))] (.long (0 : Int64)) := Arv.set Ar_13 q_13 S_13 N__13 H_13 G_13 rfl W_14 1 rfl (Nat.le_of_ble_eq_true rfl)
  refine Done.pre st_14 ?_
  show Done _ _ _ _ _ _ _ (T_14.setTop (mkF m 21 #[Lv x0, Zs, Lv x1, Zs, Lv x2, Zs, Lv x3, Zs, Lv x4, Zs] [(.ref b_2)]))
  have sg_17 : ∀ tt_, Steps p.tables e below (T_14.setTop (mkF m 27 #[Lv x0, Zs, Lv x1, Zs, Lv x2, Zs, Lv x3, Zs, Lv x4, Zs] [(.int (22 : Int32)), (.long x2), (.int (2 : Int32)), (.ref b_2), (.ref b_2)])) tt_ → Steps p.tables e below (T_14.setTop (mkF m 21 #[Lv x0, Zs, Lv x1, Zs, Lv x2, Zs, Lv x3, Zs, Lv x4, Zs] [(.ref b_2)])) tt_ := by
    intro tt_ kt_
    refine XS.dup X_14.here hEX rfl (hb hBY d_method_4_code_21) rfl rfl ?_
    show Steps p.tables e below (T_14.setTop (mkF m 22 #[Lv x0, Zs, Lv x1, Zs, Lv x2, Zs, Lv x3, Zs, Lv x4, Zs] [(.ref b_2), (.ref b_2)])) tt_
    refine XS.iconst X_14.here hEX rfl (hb hBY d_method_4_code_22) ?_
    show Steps p.tables e below (T_14.setTop (mkF m 23 #[Lv x0, Zs, Lv x1, Zs, Lv x2, Zs, Lv x3, Zs, Lv x4, Zs] [(.int (2 : Int32)), (.ref b_2), (.ref b_2)])) tt_
    refine XS.lload X_14.here hEX rfl (hb hBY d_method_4_code_23) rfl ?_
    show Steps p.tables e below (T_14.setTop (mkF m 25 #[Lv x0, Zs, Lv x1, Zs, Lv x2, Zs, Lv x3, Zs, Lv x4, Zs] [(.long x2), (.int (2 : Int32)), (.ref b_2), (.ref b_2)])) tt_
    refine XS.bipush X_14.here hEX rfl (hb hBY d_method_4_code_25) ?_
    exact kt_
  refine Done.pre sg_17 ?_
  obtain ⟨_, _, ⟨T_18, L_18, k_18, n_18⟩, -, X_18, ⟨Lc_18, hQ_18, l_18, y_18, z_18⟩, st_18⟩ := Jvm.LawKit.callS X_14 hEX (y := (⟨"com/example/guard3/guard3/P384FieldAddPinLaw", "limb", "(JI)J"⟩ : MethodName)) hOW (mvT hZW (hw _ (List.mem_of_getElem? (i := 5) rfl))) (mvT hZW (hw _ (List.mem_of_getElem? (i := 6) rfl))) (mvT hZW (hw _ (List.mem_of_getElem? (i := 2) rfl))) (mvT hZW (hw _ (List.mem_of_getElem? (i := 7) rfl))) (by decide) (backOf (W := 3) (rm_limb l Z aZ hw [] x2 (22 : Int32) h_14 n0 (Nat.le_trans Z0 K__15.1) ) hZW (hw _ (List.mem_of_getElem? (i := 7) rfl)) (hw _ (List.mem_of_getElem? (i := 2) rfl)) (by decide) (by decide)) (g := (mkF m 27 #[Lv x0, Zs, Lv x1, Zs, Lv x2, Zs, Lv x3, Zs, Lv x4, Zs] [(.int (22 : Int32)), (.long x2), (.int (2 : Int32)), (.ref b_2), (.ref b_2)])) rfl (by rw [hMX]; rfl) (argsL := [(.long x2), (.int (22 : Int32))]) (rest := [(.int (2 : Int32)), (.ref b_2), (.ref b_2)]) (lenOf pd__JI_J_2 rfl) rfl (by show 2 * 0 + _ ≤ _; exact Nat.le_of_eq rfl) (hb hBY d_method_4_code_27) (fun _ _ => ⟨rfl, e_14, (by decide : 1 + 0 ≤ _), (by decide : 8 + 0 ≤ _)⟩)
  dsimp only [Pt.U, Pt.locs, Pt.cells, Pt.slots] at X_18 l_18 y_18 z_18 st_18 hQ_18
  subst l_18 y_18 z_18
  obtain ⟨rfl, N_18q, e_18⟩ := hQ_18
  have N_18 := Fr.app N_14 N_18q
  refine Done.pre (fun _ k_ => st_18 _ k_) ?_
  show Done _ _ _ _ _ _ _ (T_18.setTop (mkF m 30 #[Lv x0, Zs, Lv x1, Zs, Lv x2, Zs, Lv x3, Zs, Lv x4, Zs] [(.long (own_limb x2 (22 : Int32))), (.int (2 : Int32)), (.ref b_2), (.ref b_2)]))
  obtain ⟨cl_19, Ar_19, q_19, S_19, N__19, H_19, G_19⟩ := id f_16
  have hin_19 : ¬ ((2 : Int32) < 0 ∨ cl_19.slots.size ≤ ((2 : Int32)).toNatClampNeg) := inb_of S_19 ⟨by decide, by decide⟩
  obtain ⟨T_20, h_20, X_20, e_20, W_20, st_20⟩ := stJ X_18 hEX hZW e_18 Ar_19 (j := (2 : Int32)) hin_19 (g := (mkF m 30 #[Lv x0, Zs, Lv x1, Zs, Lv x2, Zs, Lv x3, Zs, Lv x4, Zs] [(.long (own_limb x2 (22 : Int32))), (.int (2 : Int32)), (.ref b_2), (.ref b_2)])) rfl rfl (hb hBY d_method_4_code_30)
  have N_20 := Fr.snoc X_20 N_18 ge_b_2
  have K__21 : Keep h0 h_20 [] := K__15.wr W_20 (Or.inr sz_b_2)
  have f_22 : Arv Z h_20 b_2 k_2 .long (8 : Int32) [(.long (own_limb x0 (0 : Int32))), (.long (own_limb x1 (11 : Int32))), (.long (own_limb x2 (22 : Int32))), (.long (0 : Int64)), (.long (0 : Int64)), (.long (0 : Int64)), (.long (0 : Int64)), (.long (0 : Int64))] (.long (0 : Int64)) := Arv.set Ar_19 q_19 S_19 N__19 H_19 G_19 rfl W_20 2 rfl (Nat.le_of_ble_eq_true rfl)
  refine Done.pre st_20 ?_
  show Done _ _ _ _ _ _ _ (T_20.setTop (mkF m 31 #[Lv x0, Zs, Lv x1, Zs, Lv x2, Zs, Lv x3, Zs, Lv x4, Zs] [(.ref b_2)]))
  have sg_23 : ∀ tt_, Steps p.tables e below (T_20.setTop (mkF m 37 #[Lv x0, Zs, Lv x1, Zs, Lv x2, Zs, Lv x3, Zs, Lv x4, Zs] [(.int (33 : Int32)), (.long x3), (.int (3 : Int32)), (.ref b_2), (.ref b_2)])) tt_ → Steps p.tables e below (T_20.setTop (mkF m 31 #[Lv x0, Zs, Lv x1, Zs, Lv x2, Zs, Lv x3, Zs, Lv x4, Zs] [(.ref b_2)])) tt_ := by
    intro tt_ kt_
    refine XS.dup X_20.here hEX rfl (hb hBY d_method_4_code_31) rfl rfl ?_
    show Steps p.tables e below (T_20.setTop (mkF m 32 #[Lv x0, Zs, Lv x1, Zs, Lv x2, Zs, Lv x3, Zs, Lv x4, Zs] [(.ref b_2), (.ref b_2)])) tt_
    refine XS.iconst X_20.here hEX rfl (hb hBY d_method_4_code_32) ?_
    show Steps p.tables e below (T_20.setTop (mkF m 33 #[Lv x0, Zs, Lv x1, Zs, Lv x2, Zs, Lv x3, Zs, Lv x4, Zs] [(.int (3 : Int32)), (.ref b_2), (.ref b_2)])) tt_
    refine XS.lload X_20.here hEX rfl (hb hBY d_method_4_code_33) rfl ?_
    show Steps p.tables e below (T_20.setTop (mkF m 35 #[Lv x0, Zs, Lv x1, Zs, Lv x2, Zs, Lv x3, Zs, Lv x4, Zs] [(.long x3), (.int (3 : Int32)), (.ref b_2), (.ref b_2)])) tt_
    refine XS.bipush X_20.here hEX rfl (hb hBY d_method_4_code_35) ?_
    exact kt_
  refine Done.pre sg_23 ?_
  obtain ⟨_, _, ⟨T_24, L_24, k_24, n_24⟩, -, X_24, ⟨Lc_24, hQ_24, l_24, y_24, z_24⟩, st_24⟩ := Jvm.LawKit.callS X_20 hEX (y := (⟨"com/example/guard3/guard3/P384FieldAddPinLaw", "limb", "(JI)J"⟩ : MethodName)) hOW (mvT hZW (hw _ (List.mem_of_getElem? (i := 5) rfl))) (mvT hZW (hw _ (List.mem_of_getElem? (i := 6) rfl))) (mvT hZW (hw _ (List.mem_of_getElem? (i := 2) rfl))) (mvT hZW (hw _ (List.mem_of_getElem? (i := 7) rfl))) (by decide) (backOf (W := 3) (rm_limb l Z aZ hw [] x3 (33 : Int32) h_20 n0 (Nat.le_trans Z0 K__21.1) ) hZW (hw _ (List.mem_of_getElem? (i := 7) rfl)) (hw _ (List.mem_of_getElem? (i := 2) rfl)) (by decide) (by decide)) (g := (mkF m 37 #[Lv x0, Zs, Lv x1, Zs, Lv x2, Zs, Lv x3, Zs, Lv x4, Zs] [(.int (33 : Int32)), (.long x3), (.int (3 : Int32)), (.ref b_2), (.ref b_2)])) rfl (by rw [hMX]; rfl) (argsL := [(.long x3), (.int (33 : Int32))]) (rest := [(.int (3 : Int32)), (.ref b_2), (.ref b_2)]) (lenOf pd__JI_J_2 rfl) rfl (by show 2 * 0 + _ ≤ _; exact Nat.le_of_eq rfl) (hb hBY d_method_4_code_37) (fun _ _ => ⟨rfl, e_20, (by decide : 1 + 0 ≤ _), (by decide : 8 + 0 ≤ _)⟩)
  dsimp only [Pt.U, Pt.locs, Pt.cells, Pt.slots] at X_24 l_24 y_24 z_24 st_24 hQ_24
  subst l_24 y_24 z_24
  obtain ⟨rfl, N_24q, e_24⟩ := hQ_24
  have N_24 := Fr.app N_20 N_24q
  refine Done.pre (fun _ k_ => st_24 _ k_) ?_
  show Done _ _ _ _ _ _ _ (T_24.setTop (mkF m 40 #[Lv x0, Zs, Lv x1, Zs, Lv x2, Zs, Lv x3, Zs, Lv x4, Zs] [(.long (own_limb x3 (33 : Int32))), (.int (3 : Int32)), (.ref b_2), (.ref b_2)]))
  obtain ⟨cl_25, Ar_25, q_25, S_25, N__25, H_25, G_25⟩ := id f_22
  have hin_25 : ¬ ((3 : Int32) < 0 ∨ cl_25.slots.size ≤ ((3 : Int32)).toNatClampNeg) := inb_of S_25 ⟨by decide, by decide⟩
  obtain ⟨T_26, h_26, X_26, e_26, W_26, st_26⟩ := stJ X_24 hEX hZW e_24 Ar_25 (j := (3 : Int32)) hin_25 (g := (mkF m 40 #[Lv x0, Zs, Lv x1, Zs, Lv x2, Zs, Lv x3, Zs, Lv x4, Zs] [(.long (own_limb x3 (33 : Int32))), (.int (3 : Int32)), (.ref b_2), (.ref b_2)])) rfl rfl (hb hBY d_method_4_code_40)
  have N_26 := Fr.snoc X_26 N_24 ge_b_2
  have K__27 : Keep h0 h_26 [] := K__21.wr W_26 (Or.inr sz_b_2)
  have f_28 : Arv Z h_26 b_2 k_2 .long (8 : Int32) [(.long (own_limb x0 (0 : Int32))), (.long (own_limb x1 (11 : Int32))), (.long (own_limb x2 (22 : Int32))), (.long (own_limb x3 (33 : Int32))), (.long (0 : Int64)), (.long (0 : Int64)), (.long (0 : Int64)), (.long (0 : Int64))] (.long (0 : Int64)) := Arv.set Ar_25 q_25 S_25 N__25 H_25 G_25 rfl W_26 3 rfl (Nat.le_of_ble_eq_true rfl)
  refine Done.pre st_26 ?_
  show Done _ _ _ _ _ _ _ (T_26.setTop (mkF m 41 #[Lv x0, Zs, Lv x1, Zs, Lv x2, Zs, Lv x3, Zs, Lv x4, Zs] [(.ref b_2)]))
  have sg_29 : ∀ tt_, Steps p.tables e below (T_26.setTop (mkF m 47 #[Lv x0, Zs, Lv x1, Zs, Lv x2, Zs, Lv x3, Zs, Lv x4, Zs] [(.int (44 : Int32)), (.long x4), (.int (4 : Int32)), (.ref b_2), (.ref b_2)])) tt_ → Steps p.tables e below (T_26.setTop (mkF m 41 #[Lv x0, Zs, Lv x1, Zs, Lv x2, Zs, Lv x3, Zs, Lv x4, Zs] [(.ref b_2)])) tt_ := by
    intro tt_ kt_
    refine XS.dup X_26.here hEX rfl (hb hBY d_method_4_code_41) rfl rfl ?_
    show Steps p.tables e below (T_26.setTop (mkF m 42 #[Lv x0, Zs, Lv x1, Zs, Lv x2, Zs, Lv x3, Zs, Lv x4, Zs] [(.ref b_2), (.ref b_2)])) tt_
    refine XS.iconst X_26.here hEX rfl (hb hBY d_method_4_code_42) ?_
    show Steps p.tables e below (T_26.setTop (mkF m 43 #[Lv x0, Zs, Lv x1, Zs, Lv x2, Zs, Lv x3, Zs, Lv x4, Zs] [(.int (4 : Int32)), (.ref b_2), (.ref b_2)])) tt_
    refine XS.lload X_26.here hEX rfl (hb hBY d_method_4_code_43) rfl ?_
    show Steps p.tables e below (T_26.setTop (mkF m 45 #[Lv x0, Zs, Lv x1, Zs, Lv x2, Zs, Lv x3, Zs, Lv x4, Zs] [(.long x4), (.int (4 : Int32)), (.ref b_2), (.ref b_2)])) tt_
    refine XS.bipush X_26.here hEX rfl (hb hBY d_method_4_code_45) ?_
    exact kt_
  refine Done.pre sg_29 ?_
  obtain ⟨_, _, ⟨T_30, L_30, k_30, n_30⟩, -, X_30, ⟨Lc_30, hQ_30, l_30, y_30, z_30⟩, st_30⟩ := Jvm.LawKit.callS X_26 hEX (y := (⟨"com/example/guard3/guard3/P384FieldAddPinLaw", "limb", "(JI)J"⟩ : MethodName)) hOW (mvT hZW (hw _ (List.mem_of_getElem? (i := 5) rfl))) (mvT hZW (hw _ (List.mem_of_getElem? (i := 6) rfl))) (mvT hZW (hw _ (List.mem_of_getElem? (i := 2) rfl))) (mvT hZW (hw _ (List.mem_of_getElem? (i := 7) rfl))) (by decide) (backOf (W := 3) (rm_limb l Z aZ hw [] x4 (44 : Int32) h_26 n0 (Nat.le_trans Z0 K__27.1) ) hZW (hw _ (List.mem_of_getElem? (i := 7) rfl)) (hw _ (List.mem_of_getElem? (i := 2) rfl)) (by decide) (by decide)) (g := (mkF m 47 #[Lv x0, Zs, Lv x1, Zs, Lv x2, Zs, Lv x3, Zs, Lv x4, Zs] [(.int (44 : Int32)), (.long x4), (.int (4 : Int32)), (.ref b_2), (.ref b_2)])) rfl (by rw [hMX]; rfl) (argsL := [(.long x4), (.int (44 : Int32))]) (rest := [(.int (4 : Int32)), (.ref b_2), (.ref b_2)]) (lenOf pd__JI_J_2 rfl) rfl (by show 2 * 0 + _ ≤ _; exact Nat.le_of_eq rfl) (hb hBY d_method_4_code_47) (fun _ _ => ⟨rfl, e_26, (by decide : 1 + 0 ≤ _), (by decide : 8 + 0 ≤ _)⟩)
  dsimp only [Pt.U, Pt.locs, Pt.cells, Pt.slots] at X_30 l_30 y_30 z_30 st_30 hQ_30
  subst l_30 y_30 z_30
  obtain ⟨rfl, N_30q, e_30⟩ := hQ_30
  have N_30 := Fr.app N_26 N_30q
  refine Done.pre (fun _ k_ => st_30 _ k_) ?_
  show Done _ _ _ _ _ _ _ (T_30.setTop (mkF m 50 #[Lv x0, Zs, Lv x1, Zs, Lv x2, Zs, Lv x3, Zs, Lv x4, Zs] [(.long (own_limb x4 (44 : Int32))), (.int (4 : Int32)), (.ref b_2), (.ref b_2)]))
  obtain ⟨cl_31, Ar_31, q_31, S_31, N__31, H_31, G_31⟩ := id f_28
  have hin_31 : ¬ ((4 : Int32) < 0 ∨ cl_31.slots.size ≤ ((4 : Int32)).toNatClampNeg) := inb_of S_31 ⟨by decide, by decide⟩
  obtain ⟨T_32, h_32, X_32, e_32, W_32, st_32⟩ := stJ X_30 hEX hZW e_30 Ar_31 (j := (4 : Int32)) hin_31 (g := (mkF m 50 #[Lv x0, Zs, Lv x1, Zs, Lv x2, Zs, Lv x3, Zs, Lv x4, Zs] [(.long (own_limb x4 (44 : Int32))), (.int (4 : Int32)), (.ref b_2), (.ref b_2)])) rfl rfl (hb hBY d_method_4_code_50)
  have N_32 := Fr.snoc X_32 N_30 ge_b_2
  have K__33 : Keep h0 h_32 [] := K__27.wr W_32 (Or.inr sz_b_2)
  have f_34 : Arv Z h_32 b_2 k_2 .long (8 : Int32) [(.long (own_limb x0 (0 : Int32))), (.long (own_limb x1 (11 : Int32))), (.long (own_limb x2 (22 : Int32))), (.long (own_limb x3 (33 : Int32))), (.long (own_limb x4 (44 : Int32))), (.long (0 : Int64)), (.long (0 : Int64)), (.long (0 : Int64))] (.long (0 : Int64)) := Arv.set Ar_31 q_31 S_31 N__31 H_31 G_31 rfl W_32 4 rfl (Nat.le_of_ble_eq_true rfl)
  refine Done.pre st_32 ?_
  show Done _ _ _ _ _ _ _ (T_32.setTop (mkF m 51 #[Lv x0, Zs, Lv x1, Zs, Lv x2, Zs, Lv x3, Zs, Lv x4, Zs] [(.ref b_2)]))
  have sg_35 : ∀ tt_, Steps p.tables e below (T_32.setTop (mkF m 56 #[Lv x0, Zs, Lv x1, Zs, Lv x2, Zs, Lv x3, Zs, Lv x4, Zs] [(.int (55 : Int32)), (.long x0), (.int (5 : Int32)), (.ref b_2), (.ref b_2)])) tt_ → Steps p.tables e below (T_32.setTop (mkF m 51 #[Lv x0, Zs, Lv x1, Zs, Lv x2, Zs, Lv x3, Zs, Lv x4, Zs] [(.ref b_2)])) tt_ := by
    intro tt_ kt_
    refine XS.dup X_32.here hEX rfl (hb hBY d_method_4_code_51) rfl rfl ?_
    show Steps p.tables e below (T_32.setTop (mkF m 52 #[Lv x0, Zs, Lv x1, Zs, Lv x2, Zs, Lv x3, Zs, Lv x4, Zs] [(.ref b_2), (.ref b_2)])) tt_
    refine XS.iconst X_32.here hEX rfl (hb hBY d_method_4_code_52) ?_
    show Steps p.tables e below (T_32.setTop (mkF m 53 #[Lv x0, Zs, Lv x1, Zs, Lv x2, Zs, Lv x3, Zs, Lv x4, Zs] [(.int (5 : Int32)), (.ref b_2), (.ref b_2)])) tt_
    refine XS.lloadN X_32.here hEX rfl (hb hBY d_method_4_code_53) rfl ?_
    show Steps p.tables e below (T_32.setTop (mkF m 54 #[Lv x0, Zs, Lv x1, Zs, Lv x2, Zs, Lv x3, Zs, Lv x4, Zs] [(.long x0), (.int (5 : Int32)), (.ref b_2), (.ref b_2)])) tt_
    refine XS.bipush X_32.here hEX rfl (hb hBY d_method_4_code_54) ?_
    exact kt_
  refine Done.pre sg_35 ?_
  obtain ⟨_, _, ⟨T_36, L_36, k_36, n_36⟩, -, X_36, ⟨Lc_36, hQ_36, l_36, y_36, z_36⟩, st_36⟩ := Jvm.LawKit.callS X_32 hEX (y := (⟨"com/example/guard3/guard3/P384FieldAddPinLaw", "limb", "(JI)J"⟩ : MethodName)) hOW (mvT hZW (hw _ (List.mem_of_getElem? (i := 5) rfl))) (mvT hZW (hw _ (List.mem_of_getElem? (i := 6) rfl))) (mvT hZW (hw _ (List.mem_of_getElem? (i := 2) rfl))) (mvT hZW (hw _ (List.mem_of_getElem? (i := 7) rfl))) (by decide) (backOf (W := 3) (rm_limb l Z aZ hw [] x0 (55 : Int32) h_32 n0 (Nat.le_trans Z0 K__33.1) ) hZW (hw _ (List.mem_of_getElem? (i := 7) rfl)) (hw _ (List.mem_of_getElem? (i := 2) rfl)) (by decide) (by decide)) (g := (mkF m 56 #[Lv x0, Zs, Lv x1, Zs, Lv x2, Zs, Lv x3, Zs, Lv x4, Zs] [(.int (55 : Int32)), (.long x0), (.int (5 : Int32)), (.ref b_2), (.ref b_2)])) rfl (by rw [hMX]; rfl) (argsL := [(.long x0), (.int (55 : Int32))]) (rest := [(.int (5 : Int32)), (.ref b_2), (.ref b_2)]) (lenOf pd__JI_J_2 rfl) rfl (by show 2 * 0 + _ ≤ _; exact Nat.le_of_eq rfl) (hb hBY d_method_4_code_56) (fun _ _ => ⟨rfl, e_32, (by decide : 1 + 0 ≤ _), (by decide : 8 + 0 ≤ _)⟩)
  dsimp only [Pt.U, Pt.locs, Pt.cells, Pt.slots] at X_36 l_36 y_36 z_36 st_36 hQ_36
  subst l_36 y_36 z_36
  obtain ⟨rfl, N_36q, e_36⟩ := hQ_36
  have N_36 := Fr.app N_32 N_36q
  refine Done.pre (fun _ k_ => st_36 _ k_) ?_
  show Done _ _ _ _ _ _ _ (T_36.setTop (mkF m 59 #[Lv x0, Zs, Lv x1, Zs, Lv x2, Zs, Lv x3, Zs, Lv x4, Zs] [(.long (own_limb x0 (55 : Int32))), (.int (5 : Int32)), (.ref b_2), (.ref b_2)]))
  obtain ⟨cl_37, Ar_37, q_37, S_37, N__37, H_37, G_37⟩ := id f_34
  have hin_37 : ¬ ((5 : Int32) < 0 ∨ cl_37.slots.size ≤ ((5 : Int32)).toNatClampNeg) := inb_of S_37 ⟨by decide, by decide⟩
  obtain ⟨T_38, h_38, X_38, e_38, W_38, st_38⟩ := stJ X_36 hEX hZW e_36 Ar_37 (j := (5 : Int32)) hin_37 (g := (mkF m 59 #[Lv x0, Zs, Lv x1, Zs, Lv x2, Zs, Lv x3, Zs, Lv x4, Zs] [(.long (own_limb x0 (55 : Int32))), (.int (5 : Int32)), (.ref b_2), (.ref b_2)])) rfl rfl (hb hBY d_method_4_code_59)
  have N_38 := Fr.snoc X_38 N_36 ge_b_2
  have K__39 : Keep h0 h_38 [] := K__33.wr W_38 (Or.inr sz_b_2)
  have f_40 : Arv Z h_38 b_2 k_2 .long (8 : Int32) [(.long (own_limb x0 (0 : Int32))), (.long (own_limb x1 (11 : Int32))), (.long (own_limb x2 (22 : Int32))), (.long (own_limb x3 (33 : Int32))), (.long (own_limb x4 (44 : Int32))), (.long (own_limb x0 (55 : Int32))), (.long (0 : Int64)), (.long (0 : Int64))] (.long (0 : Int64)) := Arv.set Ar_37 q_37 S_37 N__37 H_37 G_37 rfl W_38 5 rfl (Nat.le_of_ble_eq_true rfl)
  refine Done.pre st_38 ?_
  show Done _ _ _ _ _ _ _ (T_38.setTop (mkF m 60 #[Lv x0, Zs, Lv x1, Zs, Lv x2, Zs, Lv x3, Zs, Lv x4, Zs] [(.ref b_2)]))
  have sg_41 : ∀ tt_, Steps p.tables e below (T_38.setTop (mkF m 65 #[Lv x0, Zs, Lv x1, Zs, Lv x2, Zs, Lv x3, Zs, Lv x4, Zs] [(.int (2 : Int32)), (.long x1), (.int (6 : Int32)), (.ref b_2), (.ref b_2)])) tt_ → Steps p.tables e below (T_38.setTop (mkF m 60 #[Lv x0, Zs, Lv x1, Zs, Lv x2, Zs, Lv x3, Zs, Lv x4, Zs] [(.ref b_2)])) tt_ := by
    intro tt_ kt_
    refine XS.dup X_38.here hEX rfl (hb hBY d_method_4_code_60) rfl rfl ?_
    show Steps p.tables e below (T_38.setTop (mkF m 61 #[Lv x0, Zs, Lv x1, Zs, Lv x2, Zs, Lv x3, Zs, Lv x4, Zs] [(.ref b_2), (.ref b_2)])) tt_
    refine XS.bipush X_38.here hEX rfl (hb hBY d_method_4_code_61) ?_
    show Steps p.tables e below (T_38.setTop (mkF m 63 #[Lv x0, Zs, Lv x1, Zs, Lv x2, Zs, Lv x3, Zs, Lv x4, Zs] [(.int (6 : Int32)), (.ref b_2), (.ref b_2)])) tt_
    refine XS.lloadN X_38.here hEX rfl (hb hBY d_method_4_code_63) rfl ?_
    show Steps p.tables e below (T_38.setTop (mkF m 64 #[Lv x0, Zs, Lv x1, Zs, Lv x2, Zs, Lv x3, Zs, Lv x4, Zs] [(.long x1), (.int (6 : Int32)), (.ref b_2), (.ref b_2)])) tt_
    refine XS.iconst X_38.here hEX rfl (hb hBY d_method_4_code_64) ?_
    exact kt_
  refine Done.pre sg_41 ?_
  obtain ⟨_, _, ⟨T_42, L_42, k_42, n_42⟩, -, X_42, ⟨Lc_42, hQ_42, l_42, y_42, z_42⟩, st_42⟩ := Jvm.LawKit.callS X_38 hEX (y := (⟨"com/example/guard3/guard3/P384FieldAddPinLaw", "limb", "(JI)J"⟩ : MethodName)) hOW (mvT hZW (hw _ (List.mem_of_getElem? (i := 5) rfl))) (mvT hZW (hw _ (List.mem_of_getElem? (i := 6) rfl))) (mvT hZW (hw _ (List.mem_of_getElem? (i := 2) rfl))) (mvT hZW (hw _ (List.mem_of_getElem? (i := 7) rfl))) (by decide) (backOf (W := 3) (rm_limb l Z aZ hw [] x1 (2 : Int32) h_38 n0 (Nat.le_trans Z0 K__39.1) ) hZW (hw _ (List.mem_of_getElem? (i := 7) rfl)) (hw _ (List.mem_of_getElem? (i := 2) rfl)) (by decide) (by decide)) (g := (mkF m 65 #[Lv x0, Zs, Lv x1, Zs, Lv x2, Zs, Lv x3, Zs, Lv x4, Zs] [(.int (2 : Int32)), (.long x1), (.int (6 : Int32)), (.ref b_2), (.ref b_2)])) rfl (by rw [hMX]; rfl) (argsL := [(.long x1), (.int (2 : Int32))]) (rest := [(.int (6 : Int32)), (.ref b_2), (.ref b_2)]) (lenOf pd__JI_J_2 rfl) rfl (by show 2 * 0 + _ ≤ _; exact Nat.le_of_eq rfl) (hb hBY d_method_4_code_65) (fun _ _ => ⟨rfl, e_38, (by decide : 1 + 0 ≤ _), (by decide : 8 + 0 ≤ _)⟩)
  dsimp only [Pt.U, Pt.locs, Pt.cells, Pt.slots] at X_42 l_42 y_42 z_42 st_42 hQ_42
  subst l_42 y_42 z_42
  obtain ⟨rfl, N_42q, e_42⟩ := hQ_42
  have N_42 := Fr.app N_38 N_42q
  refine Done.pre (fun _ k_ => st_42 _ k_) ?_
  show Done _ _ _ _ _ _ _ (T_42.setTop (mkF m 68 #[Lv x0, Zs, Lv x1, Zs, Lv x2, Zs, Lv x3, Zs, Lv x4, Zs] [(.long (own_limb x1 (2 : Int32))), (.int (6 : Int32)), (.ref b_2), (.ref b_2)]))
  obtain ⟨cl_43, Ar_43, q_43, S_43, N__43, H_43, G_43⟩ := id f_40
  have hin_43 : ¬ ((6 : Int32) < 0 ∨ cl_43.slots.size ≤ ((6 : Int32)).toNatClampNeg) := inb_of S_43 ⟨by decide, by decide⟩
  obtain ⟨T_44, h_44, X_44, e_44, W_44, st_44⟩ := stJ X_42 hEX hZW e_42 Ar_43 (j := (6 : Int32)) hin_43 (g := (mkF m 68 #[Lv x0, Zs, Lv x1, Zs, Lv x2, Zs, Lv x3, Zs, Lv x4, Zs] [(.long (own_limb x1 (2 : Int32))), (.int (6 : Int32)), (.ref b_2), (.ref b_2)])) rfl rfl (hb hBY d_method_4_code_68)
  have N_44 := Fr.snoc X_44 N_42 ge_b_2
  have K__45 : Keep h0 h_44 [] := K__39.wr W_44 (Or.inr sz_b_2)
  have f_46 : Arv Z h_44 b_2 k_2 .long (8 : Int32) [(.long (own_limb x0 (0 : Int32))), (.long (own_limb x1 (11 : Int32))), (.long (own_limb x2 (22 : Int32))), (.long (own_limb x3 (33 : Int32))), (.long (own_limb x4 (44 : Int32))), (.long (own_limb x0 (55 : Int32))), (.long (own_limb x1 (2 : Int32))), (.long (0 : Int64))] (.long (0 : Int64)) := Arv.set Ar_43 q_43 S_43 N__43 H_43 G_43 rfl W_44 6 rfl (Nat.le_of_ble_eq_true rfl)
  refine Done.pre st_44 ?_
  show Done _ _ _ _ _ _ _ (T_44.setTop (mkF m 69 #[Lv x0, Zs, Lv x1, Zs, Lv x2, Zs, Lv x3, Zs, Lv x4, Zs] [(.ref b_2)]))
  have sg_47 : ∀ tt_, Steps p.tables e below (T_44.setTop (mkF m 76 #[Lv x0, Zs, Lv x1, Zs, Lv x2, Zs, Lv x3, Zs, Lv x4, Zs] [(.int (13 : Int32)), (.long x2), (.int (7 : Int32)), (.ref b_2), (.ref b_2)])) tt_ → Steps p.tables e below (T_44.setTop (mkF m 69 #[Lv x0, Zs, Lv x1, Zs, Lv x2, Zs, Lv x3, Zs, Lv x4, Zs] [(.ref b_2)])) tt_ := by
    intro tt_ kt_
    refine XS.dup X_44.here hEX rfl (hb hBY d_method_4_code_69) rfl rfl ?_
    show Steps p.tables e below (T_44.setTop (mkF m 70 #[Lv x0, Zs, Lv x1, Zs, Lv x2, Zs, Lv x3, Zs, Lv x4, Zs] [(.ref b_2), (.ref b_2)])) tt_
    refine XS.bipush X_44.here hEX rfl (hb hBY d_method_4_code_70) ?_
    show Steps p.tables e below (T_44.setTop (mkF m 72 #[Lv x0, Zs, Lv x1, Zs, Lv x2, Zs, Lv x3, Zs, Lv x4, Zs] [(.int (7 : Int32)), (.ref b_2), (.ref b_2)])) tt_
    refine XS.lload X_44.here hEX rfl (hb hBY d_method_4_code_72) rfl ?_
    show Steps p.tables e below (T_44.setTop (mkF m 74 #[Lv x0, Zs, Lv x1, Zs, Lv x2, Zs, Lv x3, Zs, Lv x4, Zs] [(.long x2), (.int (7 : Int32)), (.ref b_2), (.ref b_2)])) tt_
    refine XS.bipush X_44.here hEX rfl (hb hBY d_method_4_code_74) ?_
    exact kt_
  refine Done.pre sg_47 ?_
  obtain ⟨_, _, ⟨T_48, L_48, k_48, n_48⟩, -, X_48, ⟨Lc_48, hQ_48, l_48, y_48, z_48⟩, st_48⟩ := Jvm.LawKit.callS X_44 hEX (y := (⟨"com/example/guard3/guard3/P384FieldAddPinLaw", "limb", "(JI)J"⟩ : MethodName)) hOW (mvT hZW (hw _ (List.mem_of_getElem? (i := 5) rfl))) (mvT hZW (hw _ (List.mem_of_getElem? (i := 6) rfl))) (mvT hZW (hw _ (List.mem_of_getElem? (i := 2) rfl))) (mvT hZW (hw _ (List.mem_of_getElem? (i := 7) rfl))) (by decide) (backOf (W := 3) (rm_limb l Z aZ hw [] x2 (13 : Int32) h_44 n0 (Nat.le_trans Z0 K__45.1) ) hZW (hw _ (List.mem_of_getElem? (i := 7) rfl)) (hw _ (List.mem_of_getElem? (i := 2) rfl)) (by decide) (by decide)) (g := (mkF m 76 #[Lv x0, Zs, Lv x1, Zs, Lv x2, Zs, Lv x3, Zs, Lv x4, Zs] [(.int (13 : Int32)), (.long x2), (.int (7 : Int32)), (.ref b_2), (.ref b_2)])) rfl (by rw [hMX]; rfl) (argsL := [(.long x2), (.int (13 : Int32))]) (rest := [(.int (7 : Int32)), (.ref b_2), (.ref b_2)]) (lenOf pd__JI_J_2 rfl) rfl (by show 2 * 0 + _ ≤ _; exact Nat.le_of_eq rfl) (hb hBY d_method_4_code_76) (fun _ _ => ⟨rfl, e_44, (by decide : 1 + 0 ≤ _), (by decide : 8 + 0 ≤ _)⟩)
  dsimp only [Pt.U, Pt.locs, Pt.cells, Pt.slots] at X_48 l_48 y_48 z_48 st_48 hQ_48
  subst l_48 y_48 z_48
  obtain ⟨rfl, N_48q, e_48⟩ := hQ_48
  have N_48 := Fr.app N_44 N_48q
  refine Done.pre (fun _ k_ => st_48 _ k_) ?_
  show Done _ _ _ _ _ _ _ (T_48.setTop (mkF m 79 #[Lv x0, Zs, Lv x1, Zs, Lv x2, Zs, Lv x3, Zs, Lv x4, Zs] [(.long (own_limb x2 (13 : Int32))), (.int (7 : Int32)), (.ref b_2), (.ref b_2)]))
  obtain ⟨cl_49, Ar_49, q_49, S_49, N__49, H_49, G_49⟩ := id f_46
  have hin_49 : ¬ ((7 : Int32) < 0 ∨ cl_49.slots.size ≤ ((7 : Int32)).toNatClampNeg) := inb_of S_49 ⟨by decide, by decide⟩
  obtain ⟨T_50, h_50, X_50, e_50, W_50, st_50⟩ := stJ X_48 hEX hZW e_48 Ar_49 (j := (7 : Int32)) hin_49 (g := (mkF m 79 #[Lv x0, Zs, Lv x1, Zs, Lv x2, Zs, Lv x3, Zs, Lv x4, Zs] [(.long (own_limb x2 (13 : Int32))), (.int (7 : Int32)), (.ref b_2), (.ref b_2)])) rfl rfl (hb hBY d_method_4_code_79)
  have N_50 := Fr.snoc X_50 N_48 ge_b_2
  have K__51 : Keep h0 h_50 [] := K__45.wr W_50 (Or.inr sz_b_2)
  have f_52 : Arv Z h_50 b_2 k_2 .long (8 : Int32) [(.long (own_limb x0 (0 : Int32))), (.long (own_limb x1 (11 : Int32))), (.long (own_limb x2 (22 : Int32))), (.long (own_limb x3 (33 : Int32))), (.long (own_limb x4 (44 : Int32))), (.long (own_limb x0 (55 : Int32))), (.long (own_limb x1 (2 : Int32))), (.long (own_limb x2 (13 : Int32)))] (.long (0 : Int64)) := Arv.set Ar_49 q_49 S_49 N__49 H_49 G_49 rfl W_50 7 rfl (Nat.le_of_ble_eq_true rfl)
  refine Done.pre st_50 ?_
  show Done _ _ _ _ _ _ _ (T_50.setTop (mkF m 80 #[Lv x0, Zs, Lv x1, Zs, Lv x2, Zs, Lv x3, Zs, Lv x4, Zs] [(.ref b_2)]))
  exact Done.retA X_50 hEX hLK hRT rfl rfl (hb hBY d_method_4_code_80) (by rw [e_50]; exact ⟨b_2, k_2, rfl, N_50, K__51, f_52, sz_b_2⟩) (by decide) (by decide)
theorem d_method_5_code_0 : decode method_5_code 0 = .ok (.bipush 8, 2) := by decide +kernel
theorem d_method_5_code_2 : decode method_5_code 2 = .ok (.newarray .long, 2) := by decide +kernel
theorem d_method_5_code_4 : decode method_5_code 4 = .ok (.dup, 1) := by decide +kernel
theorem d_method_5_code_5 : decode method_5_code 5 = .ok (.iconst 0, 1) := by decide +kernel
theorem d_method_5_code_6 : decode method_5_code 6 = .ok (.lload 4, 2) := by decide +kernel
theorem d_method_5_code_8 : decode method_5_code 8 = .ok (.iconst 5, 1) := by decide +kernel
theorem d_method_5_code_9 : decode method_5_code 9 = .ok (.invokestatic 15, 3) := by decide +kernel
theorem d_method_5_code_12 : decode method_5_code 12 = .ok (.lastore, 1) := by decide +kernel
theorem d_method_5_code_13 : decode method_5_code 13 = .ok (.dup, 1) := by decide +kernel
theorem d_method_5_code_14 : decode method_5_code 14 = .ok (.iconst 1, 1) := by decide +kernel
theorem d_method_5_code_15 : decode method_5_code 15 = .ok (.lload 6, 2) := by decide +kernel
theorem d_method_5_code_17 : decode method_5_code 17 = .ok (.bipush 22, 2) := by decide +kernel
theorem d_method_5_code_19 : decode method_5_code 19 = .ok (.invokestatic 15, 3) := by decide +kernel
theorem d_method_5_code_22 : decode method_5_code 22 = .ok (.lastore, 1) := by decide +kernel
theorem d_method_5_code_23 : decode method_5_code 23 = .ok (.dup, 1) := by decide +kernel
theorem d_method_5_code_24 : decode method_5_code 24 = .ok (.iconst 2, 1) := by decide +kernel
theorem d_method_5_code_25 : decode method_5_code 25 = .ok (.lload 8, 2) := by decide +kernel
theorem d_method_5_code_27 : decode method_5_code 27 = .ok (.bipush 39, 2) := by decide +kernel
theorem d_method_5_code_29 : decode method_5_code 29 = .ok (.invokestatic 15, 3) := by decide +kernel
theorem d_method_5_code_32 : decode method_5_code 32 = .ok (.lastore, 1) := by decide +kernel
theorem d_method_5_code_33 : decode method_5_code 33 = .ok (.dup, 1) := by decide +kernel
theorem d_method_5_code_34 : decode method_5_code 34 = .ok (.iconst 3, 1) := by decide +kernel
theorem d_method_5_code_35 : decode method_5_code 35 = .ok (.lload_n 0, 1) := by decide +kernel
theorem d_method_5_code_36 : decode method_5_code 36 = .ok (.bipush 56, 2) := by decide +kernel
theorem d_method_5_code_38 : decode method_5_code 38 = .ok (.invokestatic 15, 3) := by decide +kernel
theorem d_method_5_code_41 : decode method_5_code 41 = .ok (.lastore, 1) := by decide +kernel
theorem d_method_5_code_42 : decode method_5_code 42 = .ok (.dup, 1) := by decide +kernel
theorem d_method_5_code_43 : decode method_5_code 43 = .ok (.iconst 4, 1) := by decide +kernel
theorem d_method_5_code_44 : decode method_5_code 44 = .ok (.lload_n 2, 1) := by decide +kernel
theorem d_method_5_code_45 : decode method_5_code 45 = .ok (.bipush 9, 2) := by decide +kernel
theorem d_method_5_code_47 : decode method_5_code 47 = .ok (.invokestatic 15, 3) := by decide +kernel
theorem d_method_5_code_50 : decode method_5_code 50 = .ok (.lastore, 1) := by decide +kernel
theorem d_method_5_code_51 : decode method_5_code 51 = .ok (.dup, 1) := by decide +kernel
theorem d_method_5_code_52 : decode method_5_code 52 = .ok (.iconst 5, 1) := by decide +kernel
theorem d_method_5_code_53 : decode method_5_code 53 = .ok (.lload 4, 2) := by decide +kernel
theorem d_method_5_code_55 : decode method_5_code 55 = .ok (.bipush 26, 2) := by decide +kernel
theorem d_method_5_code_57 : decode method_5_code 57 = .ok (.invokestatic 15, 3) := by decide +kernel
theorem d_method_5_code_60 : decode method_5_code 60 = .ok (.lastore, 1) := by decide +kernel
theorem d_method_5_code_61 : decode method_5_code 61 = .ok (.dup, 1) := by decide +kernel
theorem d_method_5_code_62 : decode method_5_code 62 = .ok (.bipush 6, 2) := by decide +kernel
theorem d_method_5_code_64 : decode method_5_code 64 = .ok (.lload 6, 2) := by decide +kernel
theorem d_method_5_code_66 : decode method_5_code 66 = .ok (.bipush 43, 2) := by decide +kernel
theorem d_method_5_code_68 : decode method_5_code 68 = .ok (.invokestatic 15, 3) := by decide +kernel
theorem d_method_5_code_71 : decode method_5_code 71 = .ok (.lastore, 1) := by decide +kernel
theorem d_method_5_code_72 : decode method_5_code 72 = .ok (.dup, 1) := by decide +kernel
theorem d_method_5_code_73 : decode method_5_code 73 = .ok (.bipush 7, 2) := by decide +kernel
theorem d_method_5_code_75 : decode method_5_code 75 = .ok (.lload 8, 2) := by decide +kernel
theorem d_method_5_code_77 : decode method_5_code 77 = .ok (.bipush 60, 2) := by decide +kernel
theorem d_method_5_code_79 : decode method_5_code 79 = .ok (.invokestatic 15, 3) := by decide +kernel
theorem d_method_5_code_82 : decode method_5_code 82 = .ok (.lastore, 1) := by decide +kernel
theorem d_method_5_code_83 : decode method_5_code 83 = .ok (.areturn, 1) := by decide +kernel
def Qrm_eb (Z : State) (x0 : Int64) (x1 : Int64) (x2 : Int64) (x3 : Int64) (x4 : Int64) (h0 : Heap) (n0 : Nat) (v_ : Option Value) (h_ : Heap) (L_ : List Loc) : Prop := ∃ (b : Addr), ∃ (kb : ClassId), v_ = some (.ref b) ∧ Fr n0 L_ ∧ Keep h0 h_ [] ∧ Arv Z h_ b kb .long (8 : Int32) [(.long (own_limb x2 (5 : Int32))), (.long (own_limb x3 (22 : Int32))), (.long (own_limb x4 (39 : Int32))), (.long (own_limb x0 (56 : Int32))), (.long (own_limb x1 (9 : Int32))), (.long (own_limb x2 (26 : Int32))), (.long (own_limb x3 (43 : Int32))), (.long (own_limb x4 (60 : Int32)))] (.long (0 : Int64)) ∧ h0.size ≤ b
theorem ef_rm_eb (m : MethodId) (x0 : Int64) (x1 : Int64) (x2 : Int64) (x3 : Int64) (x4 : Int64) : entryFrame m #[(.long x0), (.long x1), (.long x2), (.long x3), (.long x4)] 10 = mkF m 0 #[.val (.long x0), .second, .val (.long x1), .second, .val (.long x2), .second, .val (.long x3), .second, .val (.long x4), .second] [] := by first | (simp [entryFrame, mkF, argsToLocals, Value.category]; done) | rfl
set_option maxRecDepth 65536 in
set_option maxHeartbeats 40000000 in
theorem rm_eb (l : Launch) (Z : State) (aZ : Array Value) (hw : ∀ d ∈ tables_1, d.before aZ Z = true) (ws : List Jvm.Cond) (x0 : Int64) (x1 : Int64) (x2 : Int64) (x3 : Int64) (x4 : Int64) (h0 : Heap) (n0 : Nat) (Z0 : n0 ≤ h0.size) :
    MetFree l (⟨"com/example/guard3/guard3/P384FieldAddPinLaw", "elementB", "(JJJJJ)[J"⟩ : MethodName) (head1 (Jvm.Cond.code (⟨"com/example/guard3/guard3/P384FieldAddPinLaw", "elementB", "(JJJJJ)[J"⟩ : MethodName) method_5_code 10 (some (.array .long)) :: ws) ({ frames := 2, cells := 1, slots := 8, locals := 33 } : Room)) (fun a_ U_ => a_ = #[(.long x0), (.long x1), (.long x2), (.long x3), (.long x4)] ∧ Z.Warmed39 U_.vm ∧ U_.heap = h0) (fun _ _ _ _ _ => True) (fun _ U_ o_ U2_ => ∃ v_ L_, o_ = .returned v_ ∧ Qrm_eb Z x0 x1 x2 x3 x4 h0 n0 v_ U2_.heap L_ ∧ FrameEnd U_ o_ U2_ L_ ({ frames := 2, cells := 1, slots := 8, locals := 33 } : Room).cells ({ frames := 2, cells := 1, slots := 8, locals := 33 } : Room).slots) := by
  refine MetFree.of_bodySF (plainFor_of_name pn_com_example_guard3_guard3_P384FieldAddPinLaw) hisR ?_
  intro p e s m args below meth cO s₁ Bd hml0 hP hK
  obtain ⟨rfl, hZW, hh⟩ := hP
  have hEX := Bd.exec
  have hBY := Bd.bytes
  have hMX : cO.maxLocals = 10 := hml0
  have hOW : s.vm.findClass "com/example/guard3/guard3/P384FieldAddPinLaw" = some m.cls := findClass_of_methodNamed Bd.named
  have hNM := (name_of_methodNamed Bd.named Bd.method).1
  have hLK := Bd.notSynchronized
  have hRT := Bd.returns
  have X0 : Stand p l e ({ frames := 2, cells := 1, slots := 8, locals := 33 } : Room) s m #[(.long x0), (.long x1), (.long x2), (.long x3), (.long x4)] below meth cO s₁ [] 0 0 := Stand.of_body Bd
  have e0 : s₁.heap = h0 := by rw [← hh, Bd.state]; rfl
  have N0 := Fr.nil n0
  have K0 : Keep h0 h0 [] := Keep.refl _ _
  show Done p e below s (Qrm_eb Z x0 x1 x2 x3 x4 h0 n0) ({ frames := 2, cells := 1, slots := 8, locals := 33 } : Room).cells ({ frames := 2, cells := 1, slots := 8, locals := 33 } : Room).slots (s₁.setTop (entryFrame m #[(.long x0), (.long x1), (.long x2), (.long x3), (.long x4)] 10))
  refine Done.pre (fun t_ k_ => castTop (ef_rm_eb m x0 x1 x2 x3 x4) k_) ?_
  show Done _ _ _ _ _ _ _ (s₁.setTop (mkF m 0 #[Lv x0, Zs, Lv x1, Zs, Lv x2, Zs, Lv x3, Zs, Lv x4, Zs] []))
  have sg_1 : ∀ tt_, Steps p.tables e below (s₁.setTop (mkF m 2 #[Lv x0, Zs, Lv x1, Zs, Lv x2, Zs, Lv x3, Zs, Lv x4, Zs] [(.int (8 : Int32))])) tt_ → Steps p.tables e below (s₁.setTop (mkF m 0 #[Lv x0, Zs, Lv x1, Zs, Lv x2, Zs, Lv x3, Zs, Lv x4, Zs] [])) tt_ := by
    intro tt_ kt_
    refine XS.bipush X0.here hEX rfl (hb hBY d_method_5_code_0) ?_
    exact kt_
  refine Done.pre sg_1 ?_
  obtain ⟨T_2, h_2, k_2, X_2, e_2, E_2, A_2, st_2⟩ := newP X0 hEX hZW (hw _ (List.mem_of_getElem? (i := 4) rfl)) e0 (g := (mkF m 2 #[Lv x0, Zs, Lv x1, Zs, Lv x2, Zs, Lv x3, Zs, Lv x4, Zs] [(.int (8 : Int32))])) rfl (hb hBY d_method_5_code_2) rfl (by decide) (cap := 8) (by decide) (by decide) (by decide) (by decide)
  obtain ⟨b_2, g_2⟩ : ∃ z, z = h0.size := ⟨_, rfl⟩
  rw [← g_2] at A_2 st_2
  have sz_b_2 : h0.size ≤ b_2 := Nat.le_trans K0.1 (Nat.le_of_eq g_2.symm)
  have ge_b_2 : n0 ≤ b_2 := Nat.le_trans Z0 sz_b_2
  have K__3 : Keep h0 h_2 [] := K0.ext E_2
  have f_4 : Arv Z h_2 b_2 k_2 .long (8 : Int32) [(.long (0 : Int64)), (.long (0 : Int64)), (.long (0 : Int64)), (.long (0 : Int64)), (.long (0 : Int64)), (.long (0 : Int64)), (.long (0 : Int64)), (.long (0 : Int64))] (.long (0 : Int64)) := (Arv.new A_2 (by decide)).pad (pad_rep [] (.long (0 : Int64)) 8)
  refine Done.pre st_2 ?_
  show Done _ _ _ _ _ _ _ (T_2.setTop (mkF m 4 #[Lv x0, Zs, Lv x1, Zs, Lv x2, Zs, Lv x3, Zs, Lv x4, Zs] [(.ref b_2)]))
  have sg_5 : ∀ tt_, Steps p.tables e below (T_2.setTop (mkF m 9 #[Lv x0, Zs, Lv x1, Zs, Lv x2, Zs, Lv x3, Zs, Lv x4, Zs] [(.int (5 : Int32)), (.long x2), (.int (0 : Int32)), (.ref b_2), (.ref b_2)])) tt_ → Steps p.tables e below (T_2.setTop (mkF m 4 #[Lv x0, Zs, Lv x1, Zs, Lv x2, Zs, Lv x3, Zs, Lv x4, Zs] [(.ref b_2)])) tt_ := by
    intro tt_ kt_
    refine XS.dup X_2.here hEX rfl (hb hBY d_method_5_code_4) rfl rfl ?_
    show Steps p.tables e below (T_2.setTop (mkF m 5 #[Lv x0, Zs, Lv x1, Zs, Lv x2, Zs, Lv x3, Zs, Lv x4, Zs] [(.ref b_2), (.ref b_2)])) tt_
    refine XS.iconst X_2.here hEX rfl (hb hBY d_method_5_code_5) ?_
    show Steps p.tables e below (T_2.setTop (mkF m 6 #[Lv x0, Zs, Lv x1, Zs, Lv x2, Zs, Lv x3, Zs, Lv x4, Zs] [(.int (0 : Int32)), (.ref b_2), (.ref b_2)])) tt_
    refine XS.lload X_2.here hEX rfl (hb hBY d_method_5_code_6) rfl ?_
    show Steps p.tables e below (T_2.setTop (mkF m 8 #[Lv x0, Zs, Lv x1, Zs, Lv x2, Zs, Lv x3, Zs, Lv x4, Zs] [(.long x2), (.int (0 : Int32)), (.ref b_2), (.ref b_2)])) tt_
    refine XS.iconst X_2.here hEX rfl (hb hBY d_method_5_code_8) ?_
    exact kt_
  refine Done.pre sg_5 ?_
  obtain ⟨_, _, ⟨T_6, L_6, k_6, n_6⟩, -, X_6, ⟨Lc_6, hQ_6, l_6, y_6, z_6⟩, st_6⟩ := Jvm.LawKit.callS X_2 hEX (y := (⟨"com/example/guard3/guard3/P384FieldAddPinLaw", "limb", "(JI)J"⟩ : MethodName)) hOW (mvT hZW (hw _ (List.mem_of_getElem? (i := 5) rfl))) (mvT hZW (hw _ (List.mem_of_getElem? (i := 6) rfl))) (mvT hZW (hw _ (List.mem_of_getElem? (i := 2) rfl))) (mvT hZW (hw _ (List.mem_of_getElem? (i := 7) rfl))) (by decide) (backOf (W := 3) (rm_limb l Z aZ hw [] x2 (5 : Int32) h_2 n0 (Nat.le_trans Z0 K__3.1) ) hZW (hw _ (List.mem_of_getElem? (i := 7) rfl)) (hw _ (List.mem_of_getElem? (i := 2) rfl)) (by decide) (by decide)) (g := (mkF m 9 #[Lv x0, Zs, Lv x1, Zs, Lv x2, Zs, Lv x3, Zs, Lv x4, Zs] [(.int (5 : Int32)), (.long x2), (.int (0 : Int32)), (.ref b_2), (.ref b_2)])) rfl (by rw [hMX]; rfl) (argsL := [(.long x2), (.int (5 : Int32))]) (rest := [(.int (0 : Int32)), (.ref b_2), (.ref b_2)]) (lenOf pd__JI_J_2 rfl) rfl (by show 2 * 0 + _ ≤ _; exact Nat.le_of_eq rfl) (hb hBY d_method_5_code_9) (fun _ _ => ⟨rfl, e_2, (by decide : 1 + 0 ≤ _), (by decide : 8 + 0 ≤ _)⟩)
  dsimp only [Pt.U, Pt.locs, Pt.cells, Pt.slots] at X_6 l_6 y_6 z_6 st_6 hQ_6
  subst l_6 y_6 z_6
  obtain ⟨rfl, N_6q, e_6⟩ := hQ_6
  have N_6 := Fr.app N0 N_6q
  refine Done.pre (fun _ k_ => st_6 _ k_) ?_
  show Done _ _ _ _ _ _ _ (T_6.setTop (mkF m 12 #[Lv x0, Zs, Lv x1, Zs, Lv x2, Zs, Lv x3, Zs, Lv x4, Zs] [(.long (own_limb x2 (5 : Int32))), (.int (0 : Int32)), (.ref b_2), (.ref b_2)]))
  obtain ⟨cl_7, Ar_7, q_7, S_7, N__7, H_7, G_7⟩ := id f_4
  have hin_7 : ¬ ((0 : Int32) < 0 ∨ cl_7.slots.size ≤ ((0 : Int32)).toNatClampNeg) := inb_of S_7 ⟨by decide, by decide⟩
  obtain ⟨T_8, h_8, X_8, e_8, W_8, st_8⟩ := stJ X_6 hEX hZW e_6 Ar_7 (j := (0 : Int32)) hin_7 (g := (mkF m 12 #[Lv x0, Zs, Lv x1, Zs, Lv x2, Zs, Lv x3, Zs, Lv x4, Zs] [(.long (own_limb x2 (5 : Int32))), (.int (0 : Int32)), (.ref b_2), (.ref b_2)])) rfl rfl (hb hBY d_method_5_code_12)
  have N_8 := Fr.snoc X_8 N_6 ge_b_2
  have K__9 : Keep h0 h_8 [] := K__3.wr W_8 (Or.inr sz_b_2)
  have f_10 : Arv Z h_8 b_2 k_2 .long (8 : Int32) [(.long (own_limb x2 (5 : Int32))), (.long (0 : Int64)), (.long (0 : Int64)), (.long (0 : Int64)), (.long (0 : Int64)), (.long (0 : Int64)), (.long (0 : Int64)), (.long (0 : Int64))] (.long (0 : Int64)) := Arv.set Ar_7 q_7 S_7 N__7 H_7 G_7 rfl W_8 0 rfl (Nat.le_of_ble_eq_true rfl)
  refine Done.pre st_8 ?_
  show Done _ _ _ _ _ _ _ (T_8.setTop (mkF m 13 #[Lv x0, Zs, Lv x1, Zs, Lv x2, Zs, Lv x3, Zs, Lv x4, Zs] [(.ref b_2)]))
  have sg_11 : ∀ tt_, Steps p.tables e below (T_8.setTop (mkF m 19 #[Lv x0, Zs, Lv x1, Zs, Lv x2, Zs, Lv x3, Zs, Lv x4, Zs] [(.int (22 : Int32)), (.long x3), (.int (1 : Int32)), (.ref b_2), (.ref b_2)])) tt_ → Steps p.tables e below (T_8.setTop (mkF m 13 #[Lv x0, Zs, Lv x1, Zs, Lv x2, Zs, Lv x3, Zs, Lv x4, Zs] [(.ref b_2)])) tt_ := by
    intro tt_ kt_
    refine XS.dup X_8.here hEX rfl (hb hBY d_method_5_code_13) rfl rfl ?_
    show Steps p.tables e below (T_8.setTop (mkF m 14 #[Lv x0, Zs, Lv x1, Zs, Lv x2, Zs, Lv x3, Zs, Lv x4, Zs] [(.ref b_2), (.ref b_2)])) tt_
    refine XS.iconst X_8.here hEX rfl (hb hBY d_method_5_code_14) ?_
    show Steps p.tables e below (T_8.setTop (mkF m 15 #[Lv x0, Zs, Lv x1, Zs, Lv x2, Zs, Lv x3, Zs, Lv x4, Zs] [(.int (1 : Int32)), (.ref b_2), (.ref b_2)])) tt_
    refine XS.lload X_8.here hEX rfl (hb hBY d_method_5_code_15) rfl ?_
    show Steps p.tables e below (T_8.setTop (mkF m 17 #[Lv x0, Zs, Lv x1, Zs, Lv x2, Zs, Lv x3, Zs, Lv x4, Zs] [(.long x3), (.int (1 : Int32)), (.ref b_2), (.ref b_2)])) tt_
    refine XS.bipush X_8.here hEX rfl (hb hBY d_method_5_code_17) ?_
    exact kt_
  refine Done.pre sg_11 ?_
  obtain ⟨_, _, ⟨T_12, L_12, k_12, n_12⟩, -, X_12, ⟨Lc_12, hQ_12, l_12, y_12, z_12⟩, st_12⟩ := Jvm.LawKit.callS X_8 hEX (y := (⟨"com/example/guard3/guard3/P384FieldAddPinLaw", "limb", "(JI)J"⟩ : MethodName)) hOW (mvT hZW (hw _ (List.mem_of_getElem? (i := 5) rfl))) (mvT hZW (hw _ (List.mem_of_getElem? (i := 6) rfl))) (mvT hZW (hw _ (List.mem_of_getElem? (i := 2) rfl))) (mvT hZW (hw _ (List.mem_of_getElem? (i := 7) rfl))) (by decide) (backOf (W := 3) (rm_limb l Z aZ hw [] x3 (22 : Int32) h_8 n0 (Nat.le_trans Z0 K__9.1) ) hZW (hw _ (List.mem_of_getElem? (i := 7) rfl)) (hw _ (List.mem_of_getElem? (i := 2) rfl)) (by decide) (by decide)) (g := (mkF m 19 #[Lv x0, Zs, Lv x1, Zs, Lv x2, Zs, Lv x3, Zs, Lv x4, Zs] [(.int (22 : Int32)), (.long x3), (.int (1 : Int32)), (.ref b_2), (.ref b_2)])) rfl (by rw [hMX]; rfl) (argsL := [(.long x3), (.int (22 : Int32))]) (rest := [(.int (1 : Int32)), (.ref b_2), (.ref b_2)]) (lenOf pd__JI_J_2 rfl) rfl (by show 2 * 0 + _ ≤ _; exact Nat.le_of_eq rfl) (hb hBY d_method_5_code_19) (fun _ _ => ⟨rfl, e_8, (by decide : 1 + 0 ≤ _), (by decide : 8 + 0 ≤ _)⟩)
  dsimp only [Pt.U, Pt.locs, Pt.cells, Pt.slots] at X_12 l_12 y_12 z_12 st_12 hQ_12
  subst l_12 y_12 z_12
  obtain ⟨rfl, N_12q, e_12⟩ := hQ_12
  have N_12 := Fr.app N_8 N_12q
  refine Done.pre (fun _ k_ => st_12 _ k_) ?_
  show Done _ _ _ _ _ _ _ (T_12.setTop (mkF m 22 #[Lv x0, Zs, Lv x1, Zs, Lv x2, Zs, Lv x3, Zs, Lv x4, Zs] [(.long (own_limb x3 (22 : Int32))), (.int (1 : Int32)), (.ref b_2), (.ref b_2)]))
  obtain ⟨cl_13, Ar_13, q_13, S_13, N__13, H_13, G_13⟩ := id f_10
  have hin_13 : ¬ ((1 : Int32) < 0 ∨ cl_13.slots.size ≤ ((1 : Int32)).toNatClampNeg) := inb_of S_13 ⟨by decide, by decide⟩
  obtain ⟨T_14, h_14, X_14, e_14, W_14, st_14⟩ := stJ X_12 hEX hZW e_12 Ar_13 (j := (1 : Int32)) hin_13 (g := (mkF m 22 #[Lv x0, Zs, Lv x1, Zs, Lv x2, Zs, Lv x3, Zs, Lv x4, Zs] [(.long (own_limb x3 (22 : Int32))), (.int (1 : Int32)), (.ref b_2), (.ref b_2)])) rfl rfl (hb hBY d_method_5_code_22)
  have N_14 := Fr.snoc X_14 N_12 ge_b_2
  have K__15 : Keep h0 h_14 [] := K__9.wr W_14 (Or.inr sz_b_2)
  have f_16 : Arv Z h_14 b_2 k_2 .long (8 : Int32) [(.long (own_limb x2 (5 : Int32))), (.long (own_limb x3 (22 : Int32))), (.long (0 : Int64)), (.long (0 : Int64)), (.long (0 : Int64)), (.long (0 : Int64)), (.long (0 : Int64)), (.long (0 : Int64))] (.long (0 : Int64)) := Arv.set Ar_13 q_13 S_13 N__13 H_13 G_13 rfl W_14 1 rfl (Nat.le_of_ble_eq_true rfl)
  refine Done.pre st_14 ?_
  show Done _ _ _ _ _ _ _ (T_14.setTop (mkF m 23 #[Lv x0, Zs, Lv x1, Zs, Lv x2, Zs, Lv x3, Zs, Lv x4, Zs] [(.ref b_2)]))
  have sg_17 : ∀ tt_, Steps p.tables e below (T_14.setTop (mkF m 29 #[Lv x0, Zs, Lv x1, Zs, Lv x2, Zs, Lv x3, Zs, Lv x4, Zs] [(.int (39 : Int32)), (.long x4), (.int (2 : Int32)), (.ref b_2), (.ref b_2)])) tt_ → Steps p.tables e below (T_14.setTop (mkF m 23 #[Lv x0, Zs, Lv x1, Zs, Lv x2, Zs, Lv x3, Zs, Lv x4, Zs] [(.ref b_2)])) tt_ := by
    intro tt_ kt_
    refine XS.dup X_14.here hEX rfl (hb hBY d_method_5_code_23) rfl rfl ?_
    show Steps p.tables e below (T_14.setTop (mkF m 24 #[Lv x0, Zs, Lv x1, Zs, Lv x2, Zs, Lv x3, Zs, Lv x4, Zs] [(.ref b_2), (.ref b_2)])) tt_
    refine XS.iconst X_14.here hEX rfl (hb hBY d_method_5_code_24) ?_
    show Steps p.tables e below (T_14.setTop (mkF m 25 #[Lv x0, Zs, Lv x1, Zs, Lv x2, Zs, Lv x3, Zs, Lv x4, Zs] [(.int (2 : Int32)), (.ref b_2), (.ref b_2)])) tt_
    refine XS.lload X_14.here hEX rfl (hb hBY d_method_5_code_25) rfl ?_
    show Steps p.tables e below (T_14.setTop (mkF m 27 #[Lv x0, Zs, Lv x1, Zs, Lv x2, Zs, Lv x3, Zs, Lv x4, Zs] [(.long x4), (.int (2 : Int32)), (.ref b_2), (.ref b_2)])) tt_
    refine XS.bipush X_14.here hEX rfl (hb hBY d_method_5_code_27) ?_
    exact kt_
  refine Done.pre sg_17 ?_
  obtain ⟨_, _, ⟨T_18, L_18, k_18, n_18⟩, -, X_18, ⟨Lc_18, hQ_18, l_18, y_18, z_18⟩, st_18⟩ := Jvm.LawKit.callS X_14 hEX (y := (⟨"com/example/guard3/guard3/P384FieldAddPinLaw", "limb", "(JI)J"⟩ : MethodName)) hOW (mvT hZW (hw _ (List.mem_of_getElem? (i := 5) rfl))) (mvT hZW (hw _ (List.mem_of_getElem? (i := 6) rfl))) (mvT hZW (hw _ (List.mem_of_getElem? (i := 2) rfl))) (mvT hZW (hw _ (List.mem_of_getElem? (i := 7) rfl))) (by decide) (backOf (W := 3) (rm_limb l Z aZ hw [] x4 (39 : Int32) h_14 n0 (Nat.le_trans Z0 K__15.1) ) hZW (hw _ (List.mem_of_getElem? (i := 7) rfl)) (hw _ (List.mem_of_getElem? (i := 2) rfl)) (by decide) (by decide)) (g := (mkF m 29 #[Lv x0, Zs, Lv x1, Zs, Lv x2, Zs, Lv x3, Zs, Lv x4, Zs] [(.int (39 : Int32)), (.long x4), (.int (2 : Int32)), (.ref b_2), (.ref b_2)])) rfl (by rw [hMX]; rfl) (argsL := [(.long x4), (.int (39 : Int32))]) (rest := [(.int (2 : Int32)), (.ref b_2), (.ref b_2)]) (lenOf pd__JI_J_2 rfl) rfl (by show 2 * 0 + _ ≤ _; exact Nat.le_of_eq rfl) (hb hBY d_method_5_code_29) (fun _ _ => ⟨rfl, e_14, (by decide : 1 + 0 ≤ _), (by decide : 8 + 0 ≤ _)⟩)
  dsimp only [Pt.U, Pt.locs, Pt.cells, Pt.slots] at X_18 l_18 y_18 z_18 st_18 hQ_18
  subst l_18 y_18 z_18
  obtain ⟨rfl, N_18q, e_18⟩ := hQ_18
  have N_18 := Fr.app N_14 N_18q
  refine Done.pre (fun _ k_ => st_18 _ k_) ?_
  show Done _ _ _ _ _ _ _ (T_18.setTop (mkF m 32 #[Lv x0, Zs, Lv x1, Zs, Lv x2, Zs, Lv x3, Zs, Lv x4, Zs] [(.long (own_limb x4 (39 : Int32))), (.int (2 : Int32)), (.ref b_2), (.ref b_2)]))
  obtain ⟨cl_19, Ar_19, q_19, S_19, N__19, H_19, G_19⟩ := id f_16
  have hin_19 : ¬ ((2 : Int32) < 0 ∨ cl_19.slots.size ≤ ((2 : Int32)).toNatClampNeg) := inb_of S_19 ⟨by decide, by decide⟩
  obtain ⟨T_20, h_20, X_20, e_20, W_20, st_20⟩ := stJ X_18 hEX hZW e_18 Ar_19 (j := (2 : Int32)) hin_19 (g := (mkF m 32 #[Lv x0, Zs, Lv x1, Zs, Lv x2, Zs, Lv x3, Zs, Lv x4, Zs] [(.long (own_limb x4 (39 : Int32))), (.int (2 : Int32)), (.ref b_2), (.ref b_2)])) rfl rfl (hb hBY d_method_5_code_32)
  have N_20 := Fr.snoc X_20 N_18 ge_b_2
  have K__21 : Keep h0 h_20 [] := K__15.wr W_20 (Or.inr sz_b_2)
  have f_22 : Arv Z h_20 b_2 k_2 .long (8 : Int32) [(.long (own_limb x2 (5 : Int32))), (.long (own_limb x3 (22 : Int32))), (.long (own_limb x4 (39 : Int32))), (.long (0 : Int64)), (.long (0 : Int64)), (.long (0 : Int64)), (.long (0 : Int64)), (.long (0 : Int64))] (.long (0 : Int64)) := Arv.set Ar_19 q_19 S_19 N__19 H_19 G_19 rfl W_20 2 rfl (Nat.le_of_ble_eq_true rfl)
  refine Done.pre st_20 ?_
  show Done _ _ _ _ _ _ _ (T_20.setTop (mkF m 33 #[Lv x0, Zs, Lv x1, Zs, Lv x2, Zs, Lv x3, Zs, Lv x4, Zs] [(.ref b_2)]))
  have sg_23 : ∀ tt_, Steps p.tables e below (T_20.setTop (mkF m 38 #[Lv x0, Zs, Lv x1, Zs, Lv x2, Zs, Lv x3, Zs, Lv x4, Zs] [(.int (56 : Int32)), (.long x0), (.int (3 : Int32)), (.ref b_2), (.ref b_2)])) tt_ → Steps p.tables e below (T_20.setTop (mkF m 33 #[Lv x0, Zs, Lv x1, Zs, Lv x2, Zs, Lv x3, Zs, Lv x4, Zs] [(.ref b_2)])) tt_ := by
    intro tt_ kt_
    refine XS.dup X_20.here hEX rfl (hb hBY d_method_5_code_33) rfl rfl ?_
    show Steps p.tables e below (T_20.setTop (mkF m 34 #[Lv x0, Zs, Lv x1, Zs, Lv x2, Zs, Lv x3, Zs, Lv x4, Zs] [(.ref b_2), (.ref b_2)])) tt_
    refine XS.iconst X_20.here hEX rfl (hb hBY d_method_5_code_34) ?_
    show Steps p.tables e below (T_20.setTop (mkF m 35 #[Lv x0, Zs, Lv x1, Zs, Lv x2, Zs, Lv x3, Zs, Lv x4, Zs] [(.int (3 : Int32)), (.ref b_2), (.ref b_2)])) tt_
    refine XS.lloadN X_20.here hEX rfl (hb hBY d_method_5_code_35) rfl ?_
    show Steps p.tables e below (T_20.setTop (mkF m 36 #[Lv x0, Zs, Lv x1, Zs, Lv x2, Zs, Lv x3, Zs, Lv x4, Zs] [(.long x0), (.int (3 : Int32)), (.ref b_2), (.ref b_2)])) tt_
    refine XS.bipush X_20.here hEX rfl (hb hBY d_method_5_code_36) ?_
    exact kt_
  refine Done.pre sg_23 ?_
  obtain ⟨_, _, ⟨T_24, L_24, k_24, n_24⟩, -, X_24, ⟨Lc_24, hQ_24, l_24, y_24, z_24⟩, st_24⟩ := Jvm.LawKit.callS X_20 hEX (y := (⟨"com/example/guard3/guard3/P384FieldAddPinLaw", "limb", "(JI)J"⟩ : MethodName)) hOW (mvT hZW (hw _ (List.mem_of_getElem? (i := 5) rfl))) (mvT hZW (hw _ (List.mem_of_getElem? (i := 6) rfl))) (mvT hZW (hw _ (List.mem_of_getElem? (i := 2) rfl))) (mvT hZW (hw _ (List.mem_of_getElem? (i := 7) rfl))) (by decide) (backOf (W := 3) (rm_limb l Z aZ hw [] x0 (56 : Int32) h_20 n0 (Nat.le_trans Z0 K__21.1) ) hZW (hw _ (List.mem_of_getElem? (i := 7) rfl)) (hw _ (List.mem_of_getElem? (i := 2) rfl)) (by decide) (by decide)) (g := (mkF m 38 #[Lv x0, Zs, Lv x1, Zs, Lv x2, Zs, Lv x3, Zs, Lv x4, Zs] [(.int (56 : Int32)), (.long x0), (.int (3 : Int32)), (.ref b_2), (.ref b_2)])) rfl (by rw [hMX]; rfl) (argsL := [(.long x0), (.int (56 : Int32))]) (rest := [(.int (3 : Int32)), (.ref b_2), (.ref b_2)]) (lenOf pd__JI_J_2 rfl) rfl (by show 2 * 0 + _ ≤ _; exact Nat.le_of_eq rfl) (hb hBY d_method_5_code_38) (fun _ _ => ⟨rfl, e_20, (by decide : 1 + 0 ≤ _), (by decide : 8 + 0 ≤ _)⟩)
  dsimp only [Pt.U, Pt.locs, Pt.cells, Pt.slots] at X_24 l_24 y_24 z_24 st_24 hQ_24
  subst l_24 y_24 z_24
  obtain ⟨rfl, N_24q, e_24⟩ := hQ_24
  have N_24 := Fr.app N_20 N_24q
  refine Done.pre (fun _ k_ => st_24 _ k_) ?_
  show Done _ _ _ _ _ _ _ (T_24.setTop (mkF m 41 #[Lv x0, Zs, Lv x1, Zs, Lv x2, Zs, Lv x3, Zs, Lv x4, Zs] [(.long (own_limb x0 (56 : Int32))), (.int (3 : Int32)), (.ref b_2), (.ref b_2)]))
  obtain ⟨cl_25, Ar_25, q_25, S_25, N__25, H_25, G_25⟩ := id f_22
  have hin_25 : ¬ ((3 : Int32) < 0 ∨ cl_25.slots.size ≤ ((3 : Int32)).toNatClampNeg) := inb_of S_25 ⟨by decide, by decide⟩
  obtain ⟨T_26, h_26, X_26, e_26, W_26, st_26⟩ := stJ X_24 hEX hZW e_24 Ar_25 (j := (3 : Int32)) hin_25 (g := (mkF m 41 #[Lv x0, Zs, Lv x1, Zs, Lv x2, Zs, Lv x3, Zs, Lv x4, Zs] [(.long (own_limb x0 (56 : Int32))), (.int (3 : Int32)), (.ref b_2), (.ref b_2)])) rfl rfl (hb hBY d_method_5_code_41)
  have N_26 := Fr.snoc X_26 N_24 ge_b_2
  have K__27 : Keep h0 h_26 [] := K__21.wr W_26 (Or.inr sz_b_2)
  have f_28 : Arv Z h_26 b_2 k_2 .long (8 : Int32) [(.long (own_limb x2 (5 : Int32))), (.long (own_limb x3 (22 : Int32))), (.long (own_limb x4 (39 : Int32))), (.long (own_limb x0 (56 : Int32))), (.long (0 : Int64)), (.long (0 : Int64)), (.long (0 : Int64)), (.long (0 : Int64))] (.long (0 : Int64)) := Arv.set Ar_25 q_25 S_25 N__25 H_25 G_25 rfl W_26 3 rfl (Nat.le_of_ble_eq_true rfl)
  refine Done.pre st_26 ?_
  show Done _ _ _ _ _ _ _ (T_26.setTop (mkF m 42 #[Lv x0, Zs, Lv x1, Zs, Lv x2, Zs, Lv x3, Zs, Lv x4, Zs] [(.ref b_2)]))
  have sg_29 : ∀ tt_, Steps p.tables e below (T_26.setTop (mkF m 47 #[Lv x0, Zs, Lv x1, Zs, Lv x2, Zs, Lv x3, Zs, Lv x4, Zs] [(.int (9 : Int32)), (.long x1), (.int (4 : Int32)), (.ref b_2), (.ref b_2)])) tt_ → Steps p.tables e below (T_26.setTop (mkF m 42 #[Lv x0, Zs, Lv x1, Zs, Lv x2, Zs, Lv x3, Zs, Lv x4, Zs] [(.ref b_2)])) tt_ := by
    intro tt_ kt_
    refine XS.dup X_26.here hEX rfl (hb hBY d_method_5_code_42) rfl rfl ?_
    show Steps p.tables e below (T_26.setTop (mkF m 43 #[Lv x0, Zs, Lv x1, Zs, Lv x2, Zs, Lv x3, Zs, Lv x4, Zs] [(.ref b_2), (.ref b_2)])) tt_
    refine XS.iconst X_26.here hEX rfl (hb hBY d_method_5_code_43) ?_
    show Steps p.tables e below (T_26.setTop (mkF m 44 #[Lv x0, Zs, Lv x1, Zs, Lv x2, Zs, Lv x3, Zs, Lv x4, Zs] [(.int (4 : Int32)), (.ref b_2), (.ref b_2)])) tt_
    refine XS.lloadN X_26.here hEX rfl (hb hBY d_method_5_code_44) rfl ?_
    show Steps p.tables e below (T_26.setTop (mkF m 45 #[Lv x0, Zs, Lv x1, Zs, Lv x2, Zs, Lv x3, Zs, Lv x4, Zs] [(.long x1), (.int (4 : Int32)), (.ref b_2), (.ref b_2)])) tt_
    refine XS.bipush X_26.here hEX rfl (hb hBY d_method_5_code_45) ?_
    exact kt_
  refine Done.pre sg_29 ?_
  obtain ⟨_, _, ⟨T_30, L_30, k_30, n_30⟩, -, X_30, ⟨Lc_30, hQ_30, l_30, y_30, z_30⟩, st_30⟩ := Jvm.LawKit.callS X_26 hEX (y := (⟨"com/example/guard3/guard3/P384FieldAddPinLaw", "limb", "(JI)J"⟩ : MethodName)) hOW (mvT hZW (hw _ (List.mem_of_getElem? (i := 5) rfl))) (mvT hZW (hw _ (List.mem_of_getElem? (i := 6) rfl))) (mvT hZW (hw _ (List.mem_of_getElem? (i := 2) rfl))) (mvT hZW (hw _ (List.mem_of_getElem? (i := 7) rfl))) (by decide) (backOf (W := 3) (rm_limb l Z aZ hw [] x1 (9 : Int32) h_26 n0 (Nat.le_trans Z0 K__27.1) ) hZW (hw _ (List.mem_of_getElem? (i := 7) rfl)) (hw _ (List.mem_of_getElem? (i := 2) rfl)) (by decide) (by decide)) (g := (mkF m 47 #[Lv x0, Zs, Lv x1, Zs, Lv x2, Zs, Lv x3, Zs, Lv x4, Zs] [(.int (9 : Int32)), (.long x1), (.int (4 : Int32)), (.ref b_2), (.ref b_2)])) rfl (by rw [hMX]; rfl) (argsL := [(.long x1), (.int (9 : Int32))]) (rest := [(.int (4 : Int32)), (.ref b_2), (.ref b_2)]) (lenOf pd__JI_J_2 rfl) rfl (by show 2 * 0 + _ ≤ _; exact Nat.le_of_eq rfl) (hb hBY d_method_5_code_47) (fun _ _ => ⟨rfl, e_26, (by decide : 1 + 0 ≤ _), (by decide : 8 + 0 ≤ _)⟩)
  dsimp only [Pt.U, Pt.locs, Pt.cells, Pt.slots] at X_30 l_30 y_30 z_30 st_30 hQ_30
  subst l_30 y_30 z_30
  obtain ⟨rfl, N_30q, e_30⟩ := hQ_30
  have N_30 := Fr.app N_26 N_30q
  refine Done.pre (fun _ k_ => st_30 _ k_) ?_
  show Done _ _ _ _ _ _ _ (T_30.setTop (mkF m 50 #[Lv x0, Zs, Lv x1, Zs, Lv x2, Zs, Lv x3, Zs, Lv x4, Zs] [(.long (own_limb x1 (9 : Int32))), (.int (4 : Int32)), (.ref b_2), (.ref b_2)]))
  obtain ⟨cl_31, Ar_31, q_31, S_31, N__31, H_31, G_31⟩ := id f_28
  have hin_31 : ¬ ((4 : Int32) < 0 ∨ cl_31.slots.size ≤ ((4 : Int32)).toNatClampNeg) := inb_of S_31 ⟨by decide, by decide⟩
  obtain ⟨T_32, h_32, X_32, e_32, W_32, st_32⟩ := stJ X_30 hEX hZW e_30 Ar_31 (j := (4 : Int32)) hin_31 (g := (mkF m 50 #[Lv x0, Zs, Lv x1, Zs, Lv x2, Zs, Lv x3, Zs, Lv x4, Zs] [(.long (own_limb x1 (9 : Int32))), (.int (4 : Int32)), (.ref b_2), (.ref b_2)])) rfl rfl (hb hBY d_method_5_code_50)
  have N_32 := Fr.snoc X_32 N_30 ge_b_2
  have K__33 : Keep h0 h_32 [] := K__27.wr W_32 (Or.inr sz_b_2)
  have f_34 : Arv Z h_32 b_2 k_2 .long (8 : Int32) [(.long (own_limb x2 (5 : Int32))), (.long (own_limb x3 (22 : Int32))), (.long (own_limb x4 (39 : Int32))), (.long (own_limb x0 (56 : Int32))), (.long (own_limb x1 (9 : Int32))), (.long (0 : Int64)), (.long (0 : Int64)), (.long (0 : Int64))] (.long (0 : Int64)) := Arv.set Ar_31 q_31 S_31 N__31 H_31 G_31 rfl W_32 4 rfl (Nat.le_of_ble_eq_true rfl)
  refine Done.pre st_32 ?_
  show Done _ _ _ _ _ _ _ (T_32.setTop (mkF m 51 #[Lv x0, Zs, Lv x1, Zs, Lv x2, Zs, Lv x3, Zs, Lv x4, Zs] [(.ref b_2)]))
  have sg_35 : ∀ tt_, Steps p.tables e below (T_32.setTop (mkF m 57 #[Lv x0, Zs, Lv x1, Zs, Lv x2, Zs, Lv x3, Zs, Lv x4, Zs] [(.int (26 : Int32)), (.long x2), (.int (5 : Int32)), (.ref b_2), (.ref b_2)])) tt_ → Steps p.tables e below (T_32.setTop (mkF m 51 #[Lv x0, Zs, Lv x1, Zs, Lv x2, Zs, Lv x3, Zs, Lv x4, Zs] [(.ref b_2)])) tt_ := by
    intro tt_ kt_
    refine XS.dup X_32.here hEX rfl (hb hBY d_method_5_code_51) rfl rfl ?_
    show Steps p.tables e below (T_32.setTop (mkF m 52 #[Lv x0, Zs, Lv x1, Zs, Lv x2, Zs, Lv x3, Zs, Lv x4, Zs] [(.ref b_2), (.ref b_2)])) tt_
    refine XS.iconst X_32.here hEX rfl (hb hBY d_method_5_code_52) ?_
    show Steps p.tables e below (T_32.setTop (mkF m 53 #[Lv x0, Zs, Lv x1, Zs, Lv x2, Zs, Lv x3, Zs, Lv x4, Zs] [(.int (5 : Int32)), (.ref b_2), (.ref b_2)])) tt_
    refine XS.lload X_32.here hEX rfl (hb hBY d_method_5_code_53) rfl ?_
    show Steps p.tables e below (T_32.setTop (mkF m 55 #[Lv x0, Zs, Lv x1, Zs, Lv x2, Zs, Lv x3, Zs, Lv x4, Zs] [(.long x2), (.int (5 : Int32)), (.ref b_2), (.ref b_2)])) tt_
    refine XS.bipush X_32.here hEX rfl (hb hBY d_method_5_code_55) ?_
    exact kt_
  refine Done.pre sg_35 ?_
  obtain ⟨_, _, ⟨T_36, L_36, k_36, n_36⟩, -, X_36, ⟨Lc_36, hQ_36, l_36, y_36, z_36⟩, st_36⟩ := Jvm.LawKit.callS X_32 hEX (y := (⟨"com/example/guard3/guard3/P384FieldAddPinLaw", "limb", "(JI)J"⟩ : MethodName)) hOW (mvT hZW (hw _ (List.mem_of_getElem? (i := 5) rfl))) (mvT hZW (hw _ (List.mem_of_getElem? (i := 6) rfl))) (mvT hZW (hw _ (List.mem_of_getElem? (i := 2) rfl))) (mvT hZW (hw _ (List.mem_of_getElem? (i := 7) rfl))) (by decide) (backOf (W := 3) (rm_limb l Z aZ hw [] x2 (26 : Int32) h_32 n0 (Nat.le_trans Z0 K__33.1) ) hZW (hw _ (List.mem_of_getElem? (i := 7) rfl)) (hw _ (List.mem_of_getElem? (i := 2) rfl)) (by decide) (by decide)) (g := (mkF m 57 #[Lv x0, Zs, Lv x1, Zs, Lv x2, Zs, Lv x3, Zs, Lv x4, Zs] [(.int (26 : Int32)), (.long x2), (.int (5 : Int32)), (.ref b_2), (.ref b_2)])) rfl (by rw [hMX]; rfl) (argsL := [(.long x2), (.int (26 : Int32))]) (rest := [(.int (5 : Int32)), (.ref b_2), (.ref b_2)]) (lenOf pd__JI_J_2 rfl) rfl (by show 2 * 0 + _ ≤ _; exact Nat.le_of_eq rfl) (hb hBY d_method_5_code_57) (fun _ _ => ⟨rfl, e_32, (by decide : 1 + 0 ≤ _), (by decide : 8 + 0 ≤ _)⟩)
  dsimp only [Pt.U, Pt.locs, Pt.cells, Pt.slots] at X_36 l_36 y_36 z_36 st_36 hQ_36
  subst l_36 y_36 z_36
  obtain ⟨rfl, N_36q, e_36⟩ := hQ_36
  have N_36 := Fr.app N_32 N_36q
  refine Done.pre (fun _ k_ => st_36 _ k_) ?_
  show Done _ _ _ _ _ _ _ (T_36.setTop (mkF m 60 #[Lv x0, Zs, Lv x1, Zs, Lv x2, Zs, Lv x3, Zs, Lv x4, Zs] [(.long (own_limb x2 (26 : Int32))), (.int (5 : Int32)), (.ref b_2), (.ref b_2)]))
  obtain ⟨cl_37, Ar_37, q_37, S_37, N__37, H_37, G_37⟩ := id f_34
  have hin_37 : ¬ ((5 : Int32) < 0 ∨ cl_37.slots.size ≤ ((5 : Int32)).toNatClampNeg) := inb_of S_37 ⟨by decide, by decide⟩
  obtain ⟨T_38, h_38, X_38, e_38, W_38, st_38⟩ := stJ X_36 hEX hZW e_36 Ar_37 (j := (5 : Int32)) hin_37 (g := (mkF m 60 #[Lv x0, Zs, Lv x1, Zs, Lv x2, Zs, Lv x3, Zs, Lv x4, Zs] [(.long (own_limb x2 (26 : Int32))), (.int (5 : Int32)), (.ref b_2), (.ref b_2)])) rfl rfl (hb hBY d_method_5_code_60)
  have N_38 := Fr.snoc X_38 N_36 ge_b_2
  have K__39 : Keep h0 h_38 [] := K__33.wr W_38 (Or.inr sz_b_2)
  have f_40 : Arv Z h_38 b_2 k_2 .long (8 : Int32) [(.long (own_limb x2 (5 : Int32))), (.long (own_limb x3 (22 : Int32))), (.long (own_limb x4 (39 : Int32))), (.long (own_limb x0 (56 : Int32))), (.long (own_limb x1 (9 : Int32))), (.long (own_limb x2 (26 : Int32))), (.long (0 : Int64)), (.long (0 : Int64))] (.long (0 : Int64)) := Arv.set Ar_37 q_37 S_37 N__37 H_37 G_37 rfl W_38 5 rfl (Nat.le_of_ble_eq_true rfl)
  refine Done.pre st_38 ?_
  show Done _ _ _ _ _ _ _ (T_38.setTop (mkF m 61 #[Lv x0, Zs, Lv x1, Zs, Lv x2, Zs, Lv x3, Zs, Lv x4, Zs] [(.ref b_2)]))
  have sg_41 : ∀ tt_, Steps p.tables e below (T_38.setTop (mkF m 68 #[Lv x0, Zs, Lv x1, Zs, Lv x2, Zs, Lv x3, Zs, Lv x4, Zs] [(.int (43 : Int32)), (.long x3), (.int (6 : Int32)), (.ref b_2), (.ref b_2)])) tt_ → Steps p.tables e below (T_38.setTop (mkF m 61 #[Lv x0, Zs, Lv x1, Zs, Lv x2, Zs, Lv x3, Zs, Lv x4, Zs] [(.ref b_2)])) tt_ := by
    intro tt_ kt_
    refine XS.dup X_38.here hEX rfl (hb hBY d_method_5_code_61) rfl rfl ?_
    show Steps p.tables e below (T_38.setTop (mkF m 62 #[Lv x0, Zs, Lv x1, Zs, Lv x2, Zs, Lv x3, Zs, Lv x4, Zs] [(.ref b_2), (.ref b_2)])) tt_
    refine XS.bipush X_38.here hEX rfl (hb hBY d_method_5_code_62) ?_
    show Steps p.tables e below (T_38.setTop (mkF m 64 #[Lv x0, Zs, Lv x1, Zs, Lv x2, Zs, Lv x3, Zs, Lv x4, Zs] [(.int (6 : Int32)), (.ref b_2), (.ref b_2)])) tt_
    refine XS.lload X_38.here hEX rfl (hb hBY d_method_5_code_64) rfl ?_
    show Steps p.tables e below (T_38.setTop (mkF m 66 #[Lv x0, Zs, Lv x1, Zs, Lv x2, Zs, Lv x3, Zs, Lv x4, Zs] [(.long x3), (.int (6 : Int32)), (.ref b_2), (.ref b_2)])) tt_
    refine XS.bipush X_38.here hEX rfl (hb hBY d_method_5_code_66) ?_
    exact kt_
  refine Done.pre sg_41 ?_
  obtain ⟨_, _, ⟨T_42, L_42, k_42, n_42⟩, -, X_42, ⟨Lc_42, hQ_42, l_42, y_42, z_42⟩, st_42⟩ := Jvm.LawKit.callS X_38 hEX (y := (⟨"com/example/guard3/guard3/P384FieldAddPinLaw", "limb", "(JI)J"⟩ : MethodName)) hOW (mvT hZW (hw _ (List.mem_of_getElem? (i := 5) rfl))) (mvT hZW (hw _ (List.mem_of_getElem? (i := 6) rfl))) (mvT hZW (hw _ (List.mem_of_getElem? (i := 2) rfl))) (mvT hZW (hw _ (List.mem_of_getElem? (i := 7) rfl))) (by decide) (backOf (W := 3) (rm_limb l Z aZ hw [] x3 (43 : Int32) h_38 n0 (Nat.le_trans Z0 K__39.1) ) hZW (hw _ (List.mem_of_getElem? (i := 7) rfl)) (hw _ (List.mem_of_getElem? (i := 2) rfl)) (by decide) (by decide)) (g := (mkF m 68 #[Lv x0, Zs, Lv x1, Zs, Lv x2, Zs, Lv x3, Zs, Lv x4, Zs] [(.int (43 : Int32)), (.long x3), (.int (6 : Int32)), (.ref b_2), (.ref b_2)])) rfl (by rw [hMX]; rfl) (argsL := [(.long x3), (.int (43 : Int32))]) (rest := [(.int (6 : Int32)), (.ref b_2), (.ref b_2)]) (lenOf pd__JI_J_2 rfl) rfl (by show 2 * 0 + _ ≤ _; exact Nat.le_of_eq rfl) (hb hBY d_method_5_code_68) (fun _ _ => ⟨rfl, e_38, (by decide : 1 + 0 ≤ _), (by decide : 8 + 0 ≤ _)⟩)
  dsimp only [Pt.U, Pt.locs, Pt.cells, Pt.slots] at X_42 l_42 y_42 z_42 st_42 hQ_42
  subst l_42 y_42 z_42
  obtain ⟨rfl, N_42q, e_42⟩ := hQ_42
  have N_42 := Fr.app N_38 N_42q
  refine Done.pre (fun _ k_ => st_42 _ k_) ?_
  show Done _ _ _ _ _ _ _ (T_42.setTop (mkF m 71 #[Lv x0, Zs, Lv x1, Zs, Lv x2, Zs, Lv x3, Zs, Lv x4, Zs] [(.long (own_limb x3 (43 : Int32))), (.int (6 : Int32)), (.ref b_2), (.ref b_2)]))
  obtain ⟨cl_43, Ar_43, q_43, S_43, N__43, H_43, G_43⟩ := id f_40
  have hin_43 : ¬ ((6 : Int32) < 0 ∨ cl_43.slots.size ≤ ((6 : Int32)).toNatClampNeg) := inb_of S_43 ⟨by decide, by decide⟩
  obtain ⟨T_44, h_44, X_44, e_44, W_44, st_44⟩ := stJ X_42 hEX hZW e_42 Ar_43 (j := (6 : Int32)) hin_43 (g := (mkF m 71 #[Lv x0, Zs, Lv x1, Zs, Lv x2, Zs, Lv x3, Zs, Lv x4, Zs] [(.long (own_limb x3 (43 : Int32))), (.int (6 : Int32)), (.ref b_2), (.ref b_2)])) rfl rfl (hb hBY d_method_5_code_71)
  have N_44 := Fr.snoc X_44 N_42 ge_b_2
  have K__45 : Keep h0 h_44 [] := K__39.wr W_44 (Or.inr sz_b_2)
  have f_46 : Arv Z h_44 b_2 k_2 .long (8 : Int32) [(.long (own_limb x2 (5 : Int32))), (.long (own_limb x3 (22 : Int32))), (.long (own_limb x4 (39 : Int32))), (.long (own_limb x0 (56 : Int32))), (.long (own_limb x1 (9 : Int32))), (.long (own_limb x2 (26 : Int32))), (.long (own_limb x3 (43 : Int32))), (.long (0 : Int64))] (.long (0 : Int64)) := Arv.set Ar_43 q_43 S_43 N__43 H_43 G_43 rfl W_44 6 rfl (Nat.le_of_ble_eq_true rfl)
  refine Done.pre st_44 ?_
  show Done _ _ _ _ _ _ _ (T_44.setTop (mkF m 72 #[Lv x0, Zs, Lv x1, Zs, Lv x2, Zs, Lv x3, Zs, Lv x4, Zs] [(.ref b_2)]))
  have sg_47 : ∀ tt_, Steps p.tables e below (T_44.setTop (mkF m 79 #[Lv x0, Zs, Lv x1, Zs, Lv x2, Zs, Lv x3, Zs, Lv x4, Zs] [(.int (60 : Int32)), (.long x4), (.int (7 : Int32)), (.ref b_2), (.ref b_2)])) tt_ → Steps p.tables e below (T_44.setTop (mkF m 72 #[Lv x0, Zs, Lv x1, Zs, Lv x2, Zs, Lv x3, Zs, Lv x4, Zs] [(.ref b_2)])) tt_ := by
    intro tt_ kt_
    refine XS.dup X_44.here hEX rfl (hb hBY d_method_5_code_72) rfl rfl ?_
    show Steps p.tables e below (T_44.setTop (mkF m 73 #[Lv x0, Zs, Lv x1, Zs, Lv x2, Zs, Lv x3, Zs, Lv x4, Zs] [(.ref b_2), (.ref b_2)])) tt_
    refine XS.bipush X_44.here hEX rfl (hb hBY d_method_5_code_73) ?_
    show Steps p.tables e below (T_44.setTop (mkF m 75 #[Lv x0, Zs, Lv x1, Zs, Lv x2, Zs, Lv x3, Zs, Lv x4, Zs] [(.int (7 : Int32)), (.ref b_2), (.ref b_2)])) tt_
    refine XS.lload X_44.here hEX rfl (hb hBY d_method_5_code_75) rfl ?_
    show Steps p.tables e below (T_44.setTop (mkF m 77 #[Lv x0, Zs, Lv x1, Zs, Lv x2, Zs, Lv x3, Zs, Lv x4, Zs] [(.long x4), (.int (7 : Int32)), (.ref b_2), (.ref b_2)])) tt_
    refine XS.bipush X_44.here hEX rfl (hb hBY d_method_5_code_77) ?_
    exact kt_
  refine Done.pre sg_47 ?_
  obtain ⟨_, _, ⟨T_48, L_48, k_48, n_48⟩, -, X_48, ⟨Lc_48, hQ_48, l_48, y_48, z_48⟩, st_48⟩ := Jvm.LawKit.callS X_44 hEX (y := (⟨"com/example/guard3/guard3/P384FieldAddPinLaw", "limb", "(JI)J"⟩ : MethodName)) hOW (mvT hZW (hw _ (List.mem_of_getElem? (i := 5) rfl))) (mvT hZW (hw _ (List.mem_of_getElem? (i := 6) rfl))) (mvT hZW (hw _ (List.mem_of_getElem? (i := 2) rfl))) (mvT hZW (hw _ (List.mem_of_getElem? (i := 7) rfl))) (by decide) (backOf (W := 3) (rm_limb l Z aZ hw [] x4 (60 : Int32) h_44 n0 (Nat.le_trans Z0 K__45.1) ) hZW (hw _ (List.mem_of_getElem? (i := 7) rfl)) (hw _ (List.mem_of_getElem? (i := 2) rfl)) (by decide) (by decide)) (g := (mkF m 79 #[Lv x0, Zs, Lv x1, Zs, Lv x2, Zs, Lv x3, Zs, Lv x4, Zs] [(.int (60 : Int32)), (.long x4), (.int (7 : Int32)), (.ref b_2), (.ref b_2)])) rfl (by rw [hMX]; rfl) (argsL := [(.long x4), (.int (60 : Int32))]) (rest := [(.int (7 : Int32)), (.ref b_2), (.ref b_2)]) (lenOf pd__JI_J_2 rfl) rfl (by show 2 * 0 + _ ≤ _; exact Nat.le_of_eq rfl) (hb hBY d_method_5_code_79) (fun _ _ => ⟨rfl, e_44, (by decide : 1 + 0 ≤ _), (by decide : 8 + 0 ≤ _)⟩)
  dsimp only [Pt.U, Pt.locs, Pt.cells, Pt.slots] at X_48 l_48 y_48 z_48 st_48 hQ_48
  subst l_48 y_48 z_48
  obtain ⟨rfl, N_48q, e_48⟩ := hQ_48
  have N_48 := Fr.app N_44 N_48q
  refine Done.pre (fun _ k_ => st_48 _ k_) ?_
  show Done _ _ _ _ _ _ _ (T_48.setTop (mkF m 82 #[Lv x0, Zs, Lv x1, Zs, Lv x2, Zs, Lv x3, Zs, Lv x4, Zs] [(.long (own_limb x4 (60 : Int32))), (.int (7 : Int32)), (.ref b_2), (.ref b_2)]))
  obtain ⟨cl_49, Ar_49, q_49, S_49, N__49, H_49, G_49⟩ := id f_46
  have hin_49 : ¬ ((7 : Int32) < 0 ∨ cl_49.slots.size ≤ ((7 : Int32)).toNatClampNeg) := inb_of S_49 ⟨by decide, by decide⟩
  obtain ⟨T_50, h_50, X_50, e_50, W_50, st_50⟩ := stJ X_48 hEX hZW e_48 Ar_49 (j := (7 : Int32)) hin_49 (g := (mkF m 82 #[Lv x0, Zs, Lv x1, Zs, Lv x2, Zs, Lv x3, Zs, Lv x4, Zs] [(.long (own_limb x4 (60 : Int32))), (.int (7 : Int32)), (.ref b_2), (.ref b_2)])) rfl rfl (hb hBY d_method_5_code_82)
  have N_50 := Fr.snoc X_50 N_48 ge_b_2
  have K__51 : Keep h0 h_50 [] := K__45.wr W_50 (Or.inr sz_b_2)
  have f_52 : Arv Z h_50 b_2 k_2 .long (8 : Int32) [(.long (own_limb x2 (5 : Int32))), (.long (own_limb x3 (22 : Int32))), (.long (own_limb x4 (39 : Int32))), (.long (own_limb x0 (56 : Int32))), (.long (own_limb x1 (9 : Int32))), (.long (own_limb x2 (26 : Int32))), (.long (own_limb x3 (43 : Int32))), (.long (own_limb x4 (60 : Int32)))] (.long (0 : Int64)) := Arv.set Ar_49 q_49 S_49 N__49 H_49 G_49 rfl W_50 7 rfl (Nat.le_of_ble_eq_true rfl)
  refine Done.pre st_50 ?_
  show Done _ _ _ _ _ _ _ (T_50.setTop (mkF m 83 #[Lv x0, Zs, Lv x1, Zs, Lv x2, Zs, Lv x3, Zs, Lv x4, Zs] [(.ref b_2)]))
  exact Done.retA X_50 hEX hLK hRT rfl rfl (hb hBY d_method_5_code_83) (by rw [e_50]; exact ⟨b_2, k_2, rfl, N_50, K__51, f_52, sz_b_2⟩) (by decide) (by decide)
theorem d_prog_59_method_13_code_0 : decode prog_59_method_13_code 0 = .ok (.lload 15, 2) := by decide +kernel
theorem d_prog_59_method_13_code_2 : decode prog_59_method_13_code 2 = .ok (.bipush 48, 2) := by decide +kernel
theorem d_prog_59_method_13_code_4 : decode prog_59_method_13_code 4 = .ok (.lshr, 1) := by decide +kernel
theorem d_prog_59_method_13_code_5 : decode prog_59_method_13_code 5 = .ok (.lstore 17, 2) := by decide +kernel
theorem d_prog_59_method_13_code_7 : decode prog_59_method_13_code 7 = .ok (.lload 15, 2) := by decide +kernel
theorem d_prog_59_method_13_code_9 : decode prog_59_method_13_code 9 = .ok (.ldc2_w 34, 3) := by decide +kernel
theorem d_prog_59_method_13_code_12 : decode prog_59_method_13_code 12 = .ok (.land, 1) := by decide +kernel
theorem d_prog_59_method_13_code_13 : decode prog_59_method_13_code 13 = .ok (.lload 13, 2) := by decide +kernel
theorem d_prog_59_method_13_code_15 : decode prog_59_method_13_code 15 = .ok (.bipush 48, 2) := by decide +kernel
theorem d_prog_59_method_13_code_17 : decode prog_59_method_13_code 17 = .ok (.lshr, 1) := by decide +kernel
theorem d_prog_59_method_13_code_18 : decode prog_59_method_13_code 18 = .ok (.ladd, 1) := by decide +kernel
theorem d_prog_59_method_13_code_19 : decode prog_59_method_13_code 19 = .ok (.lstore 15, 2) := by decide +kernel
theorem d_prog_59_method_13_code_21 : decode prog_59_method_13_code 21 = .ok (.lload 13, 2) := by decide +kernel
theorem d_prog_59_method_13_code_23 : decode prog_59_method_13_code 23 = .ok (.ldc2_w 34, 3) := by decide +kernel
theorem d_prog_59_method_13_code_26 : decode prog_59_method_13_code 26 = .ok (.land, 1) := by decide +kernel
theorem d_prog_59_method_13_code_27 : decode prog_59_method_13_code 27 = .ok (.lload 11, 2) := by decide +kernel
theorem d_prog_59_method_13_code_29 : decode prog_59_method_13_code 29 = .ok (.bipush 48, 2) := by decide +kernel
theorem d_prog_59_method_13_code_31 : decode prog_59_method_13_code 31 = .ok (.lshr, 1) := by decide +kernel
theorem d_prog_59_method_13_code_32 : decode prog_59_method_13_code 32 = .ok (.ladd, 1) := by decide +kernel
theorem d_prog_59_method_13_code_33 : decode prog_59_method_13_code 33 = .ok (.lstore 13, 2) := by decide +kernel
theorem d_prog_59_method_13_code_35 : decode prog_59_method_13_code 35 = .ok (.lload 11, 2) := by decide +kernel
theorem d_prog_59_method_13_code_37 : decode prog_59_method_13_code 37 = .ok (.ldc2_w 34, 3) := by decide +kernel
theorem d_prog_59_method_13_code_40 : decode prog_59_method_13_code 40 = .ok (.land, 1) := by decide +kernel
theorem d_prog_59_method_13_code_41 : decode prog_59_method_13_code 41 = .ok (.lload 9, 2) := by decide +kernel
theorem d_prog_59_method_13_code_43 : decode prog_59_method_13_code 43 = .ok (.bipush 48, 2) := by decide +kernel
theorem d_prog_59_method_13_code_45 : decode prog_59_method_13_code 45 = .ok (.lshr, 1) := by decide +kernel
theorem d_prog_59_method_13_code_46 : decode prog_59_method_13_code 46 = .ok (.ladd, 1) := by decide +kernel
theorem d_prog_59_method_13_code_47 : decode prog_59_method_13_code 47 = .ok (.lstore 11, 2) := by decide +kernel
theorem d_prog_59_method_13_code_49 : decode prog_59_method_13_code 49 = .ok (.lload 9, 2) := by decide +kernel
theorem d_prog_59_method_13_code_51 : decode prog_59_method_13_code 51 = .ok (.ldc2_w 34, 3) := by decide +kernel
theorem d_prog_59_method_13_code_54 : decode prog_59_method_13_code 54 = .ok (.land, 1) := by decide +kernel
theorem d_prog_59_method_13_code_55 : decode prog_59_method_13_code 55 = .ok (.lload 7, 2) := by decide +kernel
theorem d_prog_59_method_13_code_57 : decode prog_59_method_13_code 57 = .ok (.bipush 48, 2) := by decide +kernel
theorem d_prog_59_method_13_code_59 : decode prog_59_method_13_code 59 = .ok (.lshr, 1) := by decide +kernel
theorem d_prog_59_method_13_code_60 : decode prog_59_method_13_code 60 = .ok (.ladd, 1) := by decide +kernel
theorem d_prog_59_method_13_code_61 : decode prog_59_method_13_code 61 = .ok (.lstore 9, 2) := by decide +kernel
theorem d_prog_59_method_13_code_63 : decode prog_59_method_13_code 63 = .ok (.lload 7, 2) := by decide +kernel
theorem d_prog_59_method_13_code_65 : decode prog_59_method_13_code 65 = .ok (.ldc2_w 34, 3) := by decide +kernel
theorem d_prog_59_method_13_code_68 : decode prog_59_method_13_code 68 = .ok (.land, 1) := by decide +kernel
theorem d_prog_59_method_13_code_69 : decode prog_59_method_13_code 69 = .ok (.lload 5, 2) := by decide +kernel
theorem d_prog_59_method_13_code_71 : decode prog_59_method_13_code 71 = .ok (.bipush 48, 2) := by decide +kernel
theorem d_prog_59_method_13_code_73 : decode prog_59_method_13_code 73 = .ok (.lshr, 1) := by decide +kernel
theorem d_prog_59_method_13_code_74 : decode prog_59_method_13_code 74 = .ok (.ladd, 1) := by decide +kernel
theorem d_prog_59_method_13_code_75 : decode prog_59_method_13_code 75 = .ok (.lstore 7, 2) := by decide +kernel
theorem d_prog_59_method_13_code_77 : decode prog_59_method_13_code 77 = .ok (.lload 5, 2) := by decide +kernel
theorem d_prog_59_method_13_code_79 : decode prog_59_method_13_code 79 = .ok (.ldc2_w 34, 3) := by decide +kernel
theorem d_prog_59_method_13_code_82 : decode prog_59_method_13_code 82 = .ok (.land, 1) := by decide +kernel
theorem d_prog_59_method_13_code_83 : decode prog_59_method_13_code 83 = .ok (.lload_n 3, 1) := by decide +kernel
theorem d_prog_59_method_13_code_84 : decode prog_59_method_13_code 84 = .ok (.bipush 48, 2) := by decide +kernel
theorem d_prog_59_method_13_code_86 : decode prog_59_method_13_code 86 = .ok (.lshr, 1) := by decide +kernel
theorem d_prog_59_method_13_code_87 : decode prog_59_method_13_code 87 = .ok (.ladd, 1) := by decide +kernel
theorem d_prog_59_method_13_code_88 : decode prog_59_method_13_code 88 = .ok (.lstore 5, 2) := by decide +kernel
theorem d_prog_59_method_13_code_90 : decode prog_59_method_13_code 90 = .ok (.lload_n 3, 1) := by decide +kernel
theorem d_prog_59_method_13_code_91 : decode prog_59_method_13_code 91 = .ok (.ldc2_w 34, 3) := by decide +kernel
theorem d_prog_59_method_13_code_94 : decode prog_59_method_13_code 94 = .ok (.land, 1) := by decide +kernel
theorem d_prog_59_method_13_code_95 : decode prog_59_method_13_code 95 = .ok (.lload_n 1, 1) := by decide +kernel
theorem d_prog_59_method_13_code_96 : decode prog_59_method_13_code 96 = .ok (.bipush 48, 2) := by decide +kernel
theorem d_prog_59_method_13_code_98 : decode prog_59_method_13_code 98 = .ok (.lshr, 1) := by decide +kernel
theorem d_prog_59_method_13_code_99 : decode prog_59_method_13_code 99 = .ok (.ladd, 1) := by decide +kernel
theorem d_prog_59_method_13_code_100 : decode prog_59_method_13_code 100 = .ok (.lstore_n 3, 1) := by decide +kernel
theorem d_prog_59_method_13_code_101 : decode prog_59_method_13_code 101 = .ok (.lload_n 1, 1) := by decide +kernel
theorem d_prog_59_method_13_code_102 : decode prog_59_method_13_code 102 = .ok (.ldc2_w 34, 3) := by decide +kernel
theorem d_prog_59_method_13_code_105 : decode prog_59_method_13_code 105 = .ok (.land, 1) := by decide +kernel
theorem d_prog_59_method_13_code_106 : decode prog_59_method_13_code 106 = .ok (.lstore_n 1, 1) := by decide +kernel
theorem d_prog_59_method_13_code_107 : decode prog_59_method_13_code 107 = .ok (.lload 17, 2) := by decide +kernel
theorem d_prog_59_method_13_code_109 : decode prog_59_method_13_code 109 = .ok (.ldc2_w 56, 3) := by decide +kernel
theorem d_prog_59_method_13_code_112 : decode prog_59_method_13_code 112 = .ok (.land, 1) := by decide +kernel
theorem d_prog_59_method_13_code_113 : decode prog_59_method_13_code 113 = .ok (.bipush 32, 2) := by decide +kernel
theorem d_prog_59_method_13_code_115 : decode prog_59_method_13_code 115 = .ok (.lshl, 1) := by decide +kernel
theorem d_prog_59_method_13_code_116 : decode prog_59_method_13_code 116 = .ok (.lstore 19, 2) := by decide +kernel
theorem d_prog_59_method_13_code_118 : decode prog_59_method_13_code 118 = .ok (.lload 17, 2) := by decide +kernel
theorem d_prog_59_method_13_code_120 : decode prog_59_method_13_code 120 = .ok (.bipush 16, 2) := by decide +kernel
theorem d_prog_59_method_13_code_122 : decode prog_59_method_13_code 122 = .ok (.lshr, 1) := by decide +kernel
theorem d_prog_59_method_13_code_123 : decode prog_59_method_13_code 123 = .ok (.lstore 21, 2) := by decide +kernel
theorem d_prog_59_method_13_code_125 : decode prog_59_method_13_code 125 = .ok (.aload_n 0, 1) := by decide +kernel
theorem d_prog_59_method_13_code_126 : decode prog_59_method_13_code 126 = .ok (.iconst 0, 1) := by decide +kernel
theorem d_prog_59_method_13_code_127 : decode prog_59_method_13_code 127 = .ok (.lload_n 1, 1) := by decide +kernel
theorem d_prog_59_method_13_code_128 : decode prog_59_method_13_code 128 = .ok (.lload 17, 2) := by decide +kernel
theorem d_prog_59_method_13_code_130 : decode prog_59_method_13_code 130 = .ok (.ladd, 1) := by decide +kernel
theorem d_prog_59_method_13_code_131 : decode prog_59_method_13_code 131 = .ok (.lload 19, 2) := by decide +kernel
theorem d_prog_59_method_13_code_133 : decode prog_59_method_13_code 133 = .ok (.lsub, 1) := by decide +kernel
theorem d_prog_59_method_13_code_134 : decode prog_59_method_13_code 134 = .ok (.lastore, 1) := by decide +kernel
theorem d_prog_59_method_13_code_135 : decode prog_59_method_13_code 135 = .ok (.aload_n 0, 1) := by decide +kernel
theorem d_prog_59_method_13_code_136 : decode prog_59_method_13_code 136 = .ok (.iconst 1, 1) := by decide +kernel
theorem d_prog_59_method_13_code_137 : decode prog_59_method_13_code 137 = .ok (.lload_n 3, 1) := by decide +kernel
theorem d_prog_59_method_13_code_138 : decode prog_59_method_13_code 138 = .ok (.lload 21, 2) := by decide +kernel
theorem d_prog_59_method_13_code_140 : decode prog_59_method_13_code 140 = .ok (.lsub, 1) := by decide +kernel
theorem d_prog_59_method_13_code_141 : decode prog_59_method_13_code 141 = .ok (.lastore, 1) := by decide +kernel
theorem d_prog_59_method_13_code_142 : decode prog_59_method_13_code 142 = .ok (.aload_n 0, 1) := by decide +kernel
theorem d_prog_59_method_13_code_143 : decode prog_59_method_13_code 143 = .ok (.iconst 2, 1) := by decide +kernel
theorem d_prog_59_method_13_code_144 : decode prog_59_method_13_code 144 = .ok (.lload 5, 2) := by decide +kernel
theorem d_prog_59_method_13_code_146 : decode prog_59_method_13_code 146 = .ok (.lload 17, 2) := by decide +kernel
theorem d_prog_59_method_13_code_148 : decode prog_59_method_13_code 148 = .ok (.ladd, 1) := by decide +kernel
theorem d_prog_59_method_13_code_149 : decode prog_59_method_13_code 149 = .ok (.lload 19, 2) := by decide +kernel
theorem d_prog_59_method_13_code_151 : decode prog_59_method_13_code 151 = .ok (.ladd, 1) := by decide +kernel
theorem d_prog_59_method_13_code_152 : decode prog_59_method_13_code 152 = .ok (.lastore, 1) := by decide +kernel
theorem d_prog_59_method_13_code_153 : decode prog_59_method_13_code 153 = .ok (.aload_n 0, 1) := by decide +kernel
theorem d_prog_59_method_13_code_154 : decode prog_59_method_13_code 154 = .ok (.iconst 3, 1) := by decide +kernel
theorem d_prog_59_method_13_code_155 : decode prog_59_method_13_code 155 = .ok (.lload 7, 2) := by decide +kernel
theorem d_prog_59_method_13_code_157 : decode prog_59_method_13_code 157 = .ok (.lload 21, 2) := by decide +kernel
theorem d_prog_59_method_13_code_159 : decode prog_59_method_13_code 159 = .ok (.ladd, 1) := by decide +kernel
theorem d_prog_59_method_13_code_160 : decode prog_59_method_13_code 160 = .ok (.lastore, 1) := by decide +kernel
theorem d_prog_59_method_13_code_161 : decode prog_59_method_13_code 161 = .ok (.aload_n 0, 1) := by decide +kernel
theorem d_prog_59_method_13_code_162 : decode prog_59_method_13_code 162 = .ok (.iconst 4, 1) := by decide +kernel
theorem d_prog_59_method_13_code_163 : decode prog_59_method_13_code 163 = .ok (.lload 9, 2) := by decide +kernel
theorem d_prog_59_method_13_code_165 : decode prog_59_method_13_code 165 = .ok (.lastore, 1) := by decide +kernel
theorem d_prog_59_method_13_code_166 : decode prog_59_method_13_code 166 = .ok (.aload_n 0, 1) := by decide +kernel
theorem d_prog_59_method_13_code_167 : decode prog_59_method_13_code 167 = .ok (.iconst 5, 1) := by decide +kernel
theorem d_prog_59_method_13_code_168 : decode prog_59_method_13_code 168 = .ok (.lload 11, 2) := by decide +kernel
theorem d_prog_59_method_13_code_170 : decode prog_59_method_13_code 170 = .ok (.lastore, 1) := by decide +kernel
theorem d_prog_59_method_13_code_171 : decode prog_59_method_13_code 171 = .ok (.aload_n 0, 1) := by decide +kernel
theorem d_prog_59_method_13_code_172 : decode prog_59_method_13_code 172 = .ok (.bipush 6, 2) := by decide +kernel
theorem d_prog_59_method_13_code_174 : decode prog_59_method_13_code 174 = .ok (.lload 13, 2) := by decide +kernel
theorem d_prog_59_method_13_code_176 : decode prog_59_method_13_code 176 = .ok (.lastore, 1) := by decide +kernel
theorem d_prog_59_method_13_code_177 : decode prog_59_method_13_code 177 = .ok (.aload_n 0, 1) := by decide +kernel
theorem d_prog_59_method_13_code_178 : decode prog_59_method_13_code 178 = .ok (.bipush 7, 2) := by decide +kernel
theorem d_prog_59_method_13_code_180 : decode prog_59_method_13_code 180 = .ok (.lload 15, 2) := by decide +kernel
theorem d_prog_59_method_13_code_182 : decode prog_59_method_13_code 182 = .ok (.lastore, 1) := by decide +kernel
theorem d_prog_59_method_13_code_183 : decode prog_59_method_13_code 183 = .ok (.return_, 1) := by decide +kernel
def Qrm_store (Z : State) (out : Addr) (x0 : Int64) (x1 : Int64) (x2 : Int64) (x3 : Int64) (x4 : Int64) (x5 : Int64) (x6 : Int64) (x7 : Int64) (k : ClassId) (o0 : Int64) (o1 : Int64) (o2 : Int64) (o3 : Int64) (o4 : Int64) (o5 : Int64) (o6 : Int64) (o7 : Int64) (h0 : Heap) (n0 : Nat) (v_ : Option Value) (h_ : Heap) (L_ : List Loc) : Prop := ∃ (r0 : Int64), ∃ (r1 : Int64), ∃ (r2 : Int64), ∃ (r3 : Int64), ∃ (r4 : Int64), ∃ (r5 : Int64), ∃ (r6 : Int64), ∃ (r7 : Int64), v_ = none ∧ Fr n0 L_ ∧ Keep h0 h_ [out] ∧ Arv Z h_ out k .long (8 : Int32) [(.long r0), (.long r1), (.long r2), (.long r3), (.long r4), (.long r5), (.long r6), (.long r7)] (.long (0 : Int64)) ∧ own_R 562949953421440 r0 r1 r2 r3 r4 r5 r6 r7 ∧ own_M (own_W x0 x1 x2 x3 x4 x5 x6 x7 - own_W r0 r1 r2 r3 r4 r5 r6 r7)
theorem ef_rm_store (m : MethodId) (x0 : Addr) (x1 : Int64) (x2 : Int64) (x3 : Int64) (x4 : Int64) (x5 : Int64) (x6 : Int64) (x7 : Int64) (x8 : Int64) : entryFrame m #[(.ref x0), (.long x1), (.long x2), (.long x3), (.long x4), (.long x5), (.long x6), (.long x7), (.long x8)] 23 = mkF m 0 #[.val (.ref x0), .val (.long x1), .second, .val (.long x2), .second, .val (.long x3), .second, .val (.long x4), .second, .val (.long x5), .second, .val (.long x6), .second, .val (.long x7), .second, .val (.long x8), .second, .unset, .unset, .unset, .unset, .unset, .unset] [] := by first | (simp [entryFrame, mkF, argsToLocals, Value.category]; done) | rfl
theorem pn_com_example_guard3_guard3_P384Field : plainName "com/example/guard3/guard3/P384Field" = true := by first | (simp [plainName, overriddenIn]; done) | decide +kernel
set_option maxRecDepth 65536 in
set_option maxHeartbeats 40000000 in
theorem rm_store (l : Launch) (Z : State) (aZ : Array Value) (hw : ∀ d ∈ tables_1, d.before aZ Z = true) (ws : List Jvm.Cond) (out : Addr) (x0 : Int64) (x1 : Int64) (x2 : Int64) (x3 : Int64) (x4 : Int64) (x5 : Int64) (x6 : Int64) (x7 : Int64) (k : ClassId) (o0 : Int64) (o1 : Int64) (o2 : Int64) (o3 : Int64) (o4 : Int64) (o5 : Int64) (o6 : Int64) (o7 : Int64) (h0 : Heap) (n0 : Nat) (Z0 : n0 ≤ h0.size) (Ao : Arv Z h0 out k .long (8 : Int32) [(.long o0), (.long o1), (.long o2), (.long o3), (.long o4), (.long o5), (.long o6), (.long o7)] (.long (0 : Int64))) (go : n0 ≤ out) (hR : own_R 9007199254740992 x0 x1 x2 x3 x4 x5 x6 x7) :
    MetFree l (⟨"com/example/guard3/guard3/P384Field", "store", "([JJJJJJJJJ)V"⟩ : MethodName) (head1 (Jvm.Cond.code (⟨"com/example/guard3/guard3/P384Field", "store", "([JJJJJJJJJ)V"⟩ : MethodName) prog_59_method_13_code 23 none :: ws) ({ frames := 0, cells := 0, slots := 0, locals := 0 } : Room)) (fun a_ U_ => a_ = #[(.ref out), (.long x0), (.long x1), (.long x2), (.long x3), (.long x4), (.long x5), (.long x6), (.long x7)] ∧ Z.Warmed39 U_.vm ∧ U_.heap = h0) (fun _ _ _ _ _ => True) (fun _ U_ o_ U2_ => ∃ v_ L_, o_ = .returned v_ ∧ Qrm_store Z out x0 x1 x2 x3 x4 x5 x6 x7 k o0 o1 o2 o3 o4 o5 o6 o7 h0 n0 v_ U2_.heap L_ ∧ FrameEnd U_ o_ U2_ L_ ({ frames := 0, cells := 0, slots := 0, locals := 0 } : Room).cells ({ frames := 0, cells := 0, slots := 0, locals := 0 } : Room).slots) := by
  refine MetFree.of_bodySF (plainFor_of_name pn_com_example_guard3_guard3_P384Field) hisR ?_
  intro p e s m args below meth cO s₁ Bd hml0 hP hK
  obtain ⟨rfl, hZW, hh⟩ := hP
  have hEX := Bd.exec
  have hBY := Bd.bytes
  have hMX : cO.maxLocals = 23 := hml0
  have hOW : s.vm.findClass "com/example/guard3/guard3/P384Field" = some m.cls := findClass_of_methodNamed Bd.named
  have hNM := (name_of_methodNamed Bd.named Bd.method).1
  have hLK := Bd.notSynchronized
  have hRT := Bd.returns
  have X0 : Stand p l e ({ frames := 0, cells := 0, slots := 0, locals := 0 } : Room) s m #[(.ref out), (.long x0), (.long x1), (.long x2), (.long x3), (.long x4), (.long x5), (.long x6), (.long x7)] below meth cO s₁ [] 0 0 := Stand.of_body Bd
  have e0 : s₁.heap = h0 := by rw [← hh, Bd.state]; rfl
  have N0 := Fr.nil n0
  have K0 : Keep h0 h0 [out] := Keep.refl _ _
  show Done p e below s (Qrm_store Z out x0 x1 x2 x3 x4 x5 x6 x7 k o0 o1 o2 o3 o4 o5 o6 o7 h0 n0) ({ frames := 0, cells := 0, slots := 0, locals := 0 } : Room).cells ({ frames := 0, cells := 0, slots := 0, locals := 0 } : Room).slots (s₁.setTop (entryFrame m #[(.ref out), (.long x0), (.long x1), (.long x2), (.long x3), (.long x4), (.long x5), (.long x6), (.long x7)] 23))
  refine Done.pre (fun t_ k_ => castTop (ef_rm_store m out x0 x1 x2 x3 x4 x5 x6 x7) k_) ?_
  show Done _ _ _ _ _ _ _ (s₁.setTop (mkF m 0 #[Rv out, Lv x0, Zs, Lv x1, Zs, Lv x2, Zs, Lv x3, Zs, Lv x4, Zs, Lv x5, Zs, Lv x6, Zs, Lv x7, Zs, Us, Us, Us, Us, Us, Us] []))
  have sg_1 : ∀ tt_, Steps p.tables e below (s₁.setTop (mkF m 5 #[Rv out, Lv x0, Zs, Lv x1, Zs, Lv x2, Zs, Lv x3, Zs, Lv x4, Zs, Lv x5, Zs, Lv x6, Zs, Lv x7, Zs, Us, Us, Us, Us, Us, Us] [(.long (x7 >>> ((48 : Int32) &&& 0x3f).toInt64))])) tt_ → Steps p.tables e below (s₁.setTop (mkF m 0 #[Rv out, Lv x0, Zs, Lv x1, Zs, Lv x2, Zs, Lv x3, Zs, Lv x4, Zs, Lv x5, Zs, Lv x6, Zs, Lv x7, Zs, Us, Us, Us, Us, Us, Us] [])) tt_ := by
    intro tt_ kt_
    refine XS.lload X0.here hEX rfl (hb hBY d_prog_59_method_13_code_0) rfl ?_
    show Steps p.tables e below (s₁.setTop (mkF m 2 #[Rv out, Lv x0, Zs, Lv x1, Zs, Lv x2, Zs, Lv x3, Zs, Lv x4, Zs, Lv x5, Zs, Lv x6, Zs, Lv x7, Zs, Us, Us, Us, Us, Us, Us] [(.long x7)])) tt_
    refine XS.bipush X0.here hEX rfl (hb hBY d_prog_59_method_13_code_2) ?_
    show Steps p.tables e below (s₁.setTop (mkF m 4 #[Rv out, Lv x0, Zs, Lv x1, Zs, Lv x2, Zs, Lv x3, Zs, Lv x4, Zs, Lv x5, Zs, Lv x6, Zs, Lv x7, Zs, Us, Us, Us, Us, Us, Us] [(.int (48 : Int32)), (.long x7)])) tt_
    refine XS.lshr X0.here hEX rfl (hb hBY d_prog_59_method_13_code_4) rfl ?_
    exact kt_
  refine Done.pre sg_1 ?_
  show Done _ _ _ _ _ _ _ (s₁.setTop (mkF m 5 #[Rv out, Lv x0, Zs, Lv x1, Zs, Lv x2, Zs, Lv x3, Zs, Lv x4, Zs, Lv x5, Zs, Lv x6, Zs, Lv x7, Zs, Us, Us, Us, Us, Us, Us] [(.long (x7 >>> ((48 : Int32) &&& 0x3f).toInt64))]))
  obtain ⟨c, hc⟩ : ∃ z : Int64, z = (x7 >>> ((48 : Int32) &&& 0x3f).toInt64) := ⟨_, rfl⟩
  rw [← hc]
  show Done _ _ _ _ _ _ _ (s₁.setTop (mkF m 5 #[Rv out, Lv x0, Zs, Lv x1, Zs, Lv x2, Zs, Lv x3, Zs, Lv x4, Zs, Lv x5, Zs, Lv x6, Zs, Lv x7, Zs, Us, Us, Us, Us, Us, Us] [(.long c)]))
  have sg_2 : ∀ tt_, Steps p.tables e below (s₁.setTop (mkF m 19 #[Rv out, Lv x0, Zs, Lv x1, Zs, Lv x2, Zs, Lv x3, Zs, Lv x4, Zs, Lv x5, Zs, Lv x6, Zs, Lv x7, Zs, Lv c, Zs, Us, Us, Us, Us] [(.long ((x7 &&& (281474976710655 : Int64)) + (x6 >>> ((48 : Int32) &&& 0x3f).toInt64)))])) tt_ → Steps p.tables e below (s₁.setTop (mkF m 5 #[Rv out, Lv x0, Zs, Lv x1, Zs, Lv x2, Zs, Lv x3, Zs, Lv x4, Zs, Lv x5, Zs, Lv x6, Zs, Lv x7, Zs, Us, Us, Us, Us, Us, Us] [(.long c)])) tt_ := by
    intro tt_ kt_
    refine XS.lstore X0.here hEX rfl (hb hBY d_prog_59_method_13_code_5) rfl (l' := #[Rv out, Lv x0, Zs, Lv x1, Zs, Lv x2, Zs, Lv x3, Zs, Lv x4, Zs, Lv x5, Zs, Lv x6, Zs, Lv x7, Zs, Lv c, Zs, Us, Us, Us, Us]) rfl ?_
    show Steps p.tables e below (s₁.setTop (mkF m 7 #[Rv out, Lv x0, Zs, Lv x1, Zs, Lv x2, Zs, Lv x3, Zs, Lv x4, Zs, Lv x5, Zs, Lv x6, Zs, Lv x7, Zs, Lv c, Zs, Us, Us, Us, Us] [])) tt_
    refine XS.lload X0.here hEX rfl (hb hBY d_prog_59_method_13_code_7) rfl ?_
    show Steps p.tables e below (s₁.setTop (mkF m 9 #[Rv out, Lv x0, Zs, Lv x1, Zs, Lv x2, Zs, Lv x3, Zs, Lv x4, Zs, Lv x5, Zs, Lv x6, Zs, Lv x7, Zs, Lv c, Zs, Us, Us, Us, Us] [(.long x7)])) tt_
    refine X0.ldc2Long hEX hOW (mvT hZW (hw _ (List.mem_of_getElem? (i := 23) rfl))) (g := (mkF m 9 #[Rv out, Lv x0, Zs, Lv x1, Zs, Lv x2, Zs, Lv x3, Zs, Lv x4, Zs, Lv x5, Zs, Lv x6, Zs, Lv x7, Zs, Lv c, Zs, Us, Us, Us, Us] [(.long x7)])) rfl (hb hBY d_prog_59_method_13_code_9) _ ?_
    show Steps p.tables e below (s₁.setTop (mkF m 12 #[Rv out, Lv x0, Zs, Lv x1, Zs, Lv x2, Zs, Lv x3, Zs, Lv x4, Zs, Lv x5, Zs, Lv x6, Zs, Lv x7, Zs, Lv c, Zs, Us, Us, Us, Us] [(.long (281474976710655 : Int64)), (.long x7)])) tt_
    refine XS.land X0.here hEX rfl (hb hBY d_prog_59_method_13_code_12) rfl ?_
    show Steps p.tables e below (s₁.setTop (mkF m 13 #[Rv out, Lv x0, Zs, Lv x1, Zs, Lv x2, Zs, Lv x3, Zs, Lv x4, Zs, Lv x5, Zs, Lv x6, Zs, Lv x7, Zs, Lv c, Zs, Us, Us, Us, Us] [(.long (x7 &&& (281474976710655 : Int64)))])) tt_
    refine XS.lload X0.here hEX rfl (hb hBY d_prog_59_method_13_code_13) rfl ?_
    show Steps p.tables e below (s₁.setTop (mkF m 15 #[Rv out, Lv x0, Zs, Lv x1, Zs, Lv x2, Zs, Lv x3, Zs, Lv x4, Zs, Lv x5, Zs, Lv x6, Zs, Lv x7, Zs, Lv c, Zs, Us, Us, Us, Us] [(.long x6), (.long (x7 &&& (281474976710655 : Int64)))])) tt_
    refine XS.bipush X0.here hEX rfl (hb hBY d_prog_59_method_13_code_15) ?_
    show Steps p.tables e below (s₁.setTop (mkF m 17 #[Rv out, Lv x0, Zs, Lv x1, Zs, Lv x2, Zs, Lv x3, Zs, Lv x4, Zs, Lv x5, Zs, Lv x6, Zs, Lv x7, Zs, Lv c, Zs, Us, Us, Us, Us] [(.int (48 : Int32)), (.long x6), (.long (x7 &&& (281474976710655 : Int64)))])) tt_
    refine XS.lshr X0.here hEX rfl (hb hBY d_prog_59_method_13_code_17) rfl ?_
    show Steps p.tables e below (s₁.setTop (mkF m 18 #[Rv out, Lv x0, Zs, Lv x1, Zs, Lv x2, Zs, Lv x3, Zs, Lv x4, Zs, Lv x5, Zs, Lv x6, Zs, Lv x7, Zs, Lv c, Zs, Us, Us, Us, Us] [(.long (x6 >>> ((48 : Int32) &&& 0x3f).toInt64)), (.long (x7 &&& (281474976710655 : Int64)))])) tt_
    refine XS.ladd X0.here hEX rfl (hb hBY d_prog_59_method_13_code_18) rfl ?_
    exact kt_
  refine Done.pre sg_2 ?_
  show Done _ _ _ _ _ _ _ (s₁.setTop (mkF m 19 #[Rv out, Lv x0, Zs, Lv x1, Zs, Lv x2, Zs, Lv x3, Zs, Lv x4, Zs, Lv x5, Zs, Lv x6, Zs, Lv x7, Zs, Lv c, Zs, Us, Us, Us, Us] [(.long ((x7 &&& (281474976710655 : Int64)) + (x6 >>> ((48 : Int32) &&& 0x3f).toInt64)))]))
  obtain ⟨y7, hy7⟩ : ∃ z : Int64, z = ((x7 &&& (281474976710655 : Int64)) + (x6 >>> ((48 : Int32) &&& 0x3f).toInt64)) := ⟨_, rfl⟩
  rw [← hy7]
  show Done _ _ _ _ _ _ _ (s₁.setTop (mkF m 19 #[Rv out, Lv x0, Zs, Lv x1, Zs, Lv x2, Zs, Lv x3, Zs, Lv x4, Zs, Lv x5, Zs, Lv x6, Zs, Lv x7, Zs, Lv c, Zs, Us, Us, Us, Us] [(.long y7)]))
  have sg_3 : ∀ tt_, Steps p.tables e below (s₁.setTop (mkF m 33 #[Rv out, Lv x0, Zs, Lv x1, Zs, Lv x2, Zs, Lv x3, Zs, Lv x4, Zs, Lv x5, Zs, Lv x6, Zs, Lv y7, Zs, Lv c, Zs, Us, Us, Us, Us] [(.long ((x6 &&& (281474976710655 : Int64)) + (x5 >>> ((48 : Int32) &&& 0x3f).toInt64)))])) tt_ → Steps p.tables e below (s₁.setTop (mkF m 19 #[Rv out, Lv x0, Zs, Lv x1, Zs, Lv x2, Zs, Lv x3, Zs, Lv x4, Zs, Lv x5, Zs, Lv x6, Zs, Lv x7, Zs, Lv c, Zs, Us, Us, Us, Us] [(.long y7)])) tt_ := by
    intro tt_ kt_
    refine XS.lstore X0.here hEX rfl (hb hBY d_prog_59_method_13_code_19) rfl (l' := #[Rv out, Lv x0, Zs, Lv x1, Zs, Lv x2, Zs, Lv x3, Zs, Lv x4, Zs, Lv x5, Zs, Lv x6, Zs, Lv y7, Zs, Lv c, Zs, Us, Us, Us, Us]) rfl ?_
    show Steps p.tables e below (s₁.setTop (mkF m 21 #[Rv out, Lv x0, Zs, Lv x1, Zs, Lv x2, Zs, Lv x3, Zs, Lv x4, Zs, Lv x5, Zs, Lv x6, Zs, Lv y7, Zs, Lv c, Zs, Us, Us, Us, Us] [])) tt_
    refine XS.lload X0.here hEX rfl (hb hBY d_prog_59_method_13_code_21) rfl ?_
    show Steps p.tables e below (s₁.setTop (mkF m 23 #[Rv out, Lv x0, Zs, Lv x1, Zs, Lv x2, Zs, Lv x3, Zs, Lv x4, Zs, Lv x5, Zs, Lv x6, Zs, Lv y7, Zs, Lv c, Zs, Us, Us, Us, Us] [(.long x6)])) tt_
    refine X0.ldc2Long hEX hOW (mvT hZW (hw _ (List.mem_of_getElem? (i := 23) rfl))) (g := (mkF m 23 #[Rv out, Lv x0, Zs, Lv x1, Zs, Lv x2, Zs, Lv x3, Zs, Lv x4, Zs, Lv x5, Zs, Lv x6, Zs, Lv y7, Zs, Lv c, Zs, Us, Us, Us, Us] [(.long x6)])) rfl (hb hBY d_prog_59_method_13_code_23) _ ?_
    show Steps p.tables e below (s₁.setTop (mkF m 26 #[Rv out, Lv x0, Zs, Lv x1, Zs, Lv x2, Zs, Lv x3, Zs, Lv x4, Zs, Lv x5, Zs, Lv x6, Zs, Lv y7, Zs, Lv c, Zs, Us, Us, Us, Us] [(.long (281474976710655 : Int64)), (.long x6)])) tt_
    refine XS.land X0.here hEX rfl (hb hBY d_prog_59_method_13_code_26) rfl ?_
    show Steps p.tables e below (s₁.setTop (mkF m 27 #[Rv out, Lv x0, Zs, Lv x1, Zs, Lv x2, Zs, Lv x3, Zs, Lv x4, Zs, Lv x5, Zs, Lv x6, Zs, Lv y7, Zs, Lv c, Zs, Us, Us, Us, Us] [(.long (x6 &&& (281474976710655 : Int64)))])) tt_
    refine XS.lload X0.here hEX rfl (hb hBY d_prog_59_method_13_code_27) rfl ?_
    show Steps p.tables e below (s₁.setTop (mkF m 29 #[Rv out, Lv x0, Zs, Lv x1, Zs, Lv x2, Zs, Lv x3, Zs, Lv x4, Zs, Lv x5, Zs, Lv x6, Zs, Lv y7, Zs, Lv c, Zs, Us, Us, Us, Us] [(.long x5), (.long (x6 &&& (281474976710655 : Int64)))])) tt_
    refine XS.bipush X0.here hEX rfl (hb hBY d_prog_59_method_13_code_29) ?_
    show Steps p.tables e below (s₁.setTop (mkF m 31 #[Rv out, Lv x0, Zs, Lv x1, Zs, Lv x2, Zs, Lv x3, Zs, Lv x4, Zs, Lv x5, Zs, Lv x6, Zs, Lv y7, Zs, Lv c, Zs, Us, Us, Us, Us] [(.int (48 : Int32)), (.long x5), (.long (x6 &&& (281474976710655 : Int64)))])) tt_
    refine XS.lshr X0.here hEX rfl (hb hBY d_prog_59_method_13_code_31) rfl ?_
    show Steps p.tables e below (s₁.setTop (mkF m 32 #[Rv out, Lv x0, Zs, Lv x1, Zs, Lv x2, Zs, Lv x3, Zs, Lv x4, Zs, Lv x5, Zs, Lv x6, Zs, Lv y7, Zs, Lv c, Zs, Us, Us, Us, Us] [(.long (x5 >>> ((48 : Int32) &&& 0x3f).toInt64)), (.long (x6 &&& (281474976710655 : Int64)))])) tt_
    refine XS.ladd X0.here hEX rfl (hb hBY d_prog_59_method_13_code_32) rfl ?_
    exact kt_
  refine Done.pre sg_3 ?_
  show Done _ _ _ _ _ _ _ (s₁.setTop (mkF m 33 #[Rv out, Lv x0, Zs, Lv x1, Zs, Lv x2, Zs, Lv x3, Zs, Lv x4, Zs, Lv x5, Zs, Lv x6, Zs, Lv y7, Zs, Lv c, Zs, Us, Us, Us, Us] [(.long ((x6 &&& (281474976710655 : Int64)) + (x5 >>> ((48 : Int32) &&& 0x3f).toInt64)))]))
  obtain ⟨y6, hy6⟩ : ∃ z : Int64, z = ((x6 &&& (281474976710655 : Int64)) + (x5 >>> ((48 : Int32) &&& 0x3f).toInt64)) := ⟨_, rfl⟩
  rw [← hy6]
  show Done _ _ _ _ _ _ _ (s₁.setTop (mkF m 33 #[Rv out, Lv x0, Zs, Lv x1, Zs, Lv x2, Zs, Lv x3, Zs, Lv x4, Zs, Lv x5, Zs, Lv x6, Zs, Lv y7, Zs, Lv c, Zs, Us, Us, Us, Us] [(.long y6)]))
  have sg_4 : ∀ tt_, Steps p.tables e below (s₁.setTop (mkF m 47 #[Rv out, Lv x0, Zs, Lv x1, Zs, Lv x2, Zs, Lv x3, Zs, Lv x4, Zs, Lv x5, Zs, Lv y6, Zs, Lv y7, Zs, Lv c, Zs, Us, Us, Us, Us] [(.long ((x5 &&& (281474976710655 : Int64)) + (x4 >>> ((48 : Int32) &&& 0x3f).toInt64)))])) tt_ → Steps p.tables e below (s₁.setTop (mkF m 33 #[Rv out, Lv x0, Zs, Lv x1, Zs, Lv x2, Zs, Lv x3, Zs, Lv x4, Zs, Lv x5, Zs, Lv x6, Zs, Lv y7, Zs, Lv c, Zs, Us, Us, Us, Us] [(.long y6)])) tt_ := by
    intro tt_ kt_
    refine XS.lstore X0.here hEX rfl (hb hBY d_prog_59_method_13_code_33) rfl (l' := #[Rv out, Lv x0, Zs, Lv x1, Zs, Lv x2, Zs, Lv x3, Zs, Lv x4, Zs, Lv x5, Zs, Lv y6, Zs, Lv y7, Zs, Lv c, Zs, Us, Us, Us, Us]) rfl ?_
    show Steps p.tables e below (s₁.setTop (mkF m 35 #[Rv out, Lv x0, Zs, Lv x1, Zs, Lv x2, Zs, Lv x3, Zs, Lv x4, Zs, Lv x5, Zs, Lv y6, Zs, Lv y7, Zs, Lv c, Zs, Us, Us, Us, Us] [])) tt_
    refine XS.lload X0.here hEX rfl (hb hBY d_prog_59_method_13_code_35) rfl ?_
    show Steps p.tables e below (s₁.setTop (mkF m 37 #[Rv out, Lv x0, Zs, Lv x1, Zs, Lv x2, Zs, Lv x3, Zs, Lv x4, Zs, Lv x5, Zs, Lv y6, Zs, Lv y7, Zs, Lv c, Zs, Us, Us, Us, Us] [(.long x5)])) tt_
    refine X0.ldc2Long hEX hOW (mvT hZW (hw _ (List.mem_of_getElem? (i := 23) rfl))) (g := (mkF m 37 #[Rv out, Lv x0, Zs, Lv x1, Zs, Lv x2, Zs, Lv x3, Zs, Lv x4, Zs, Lv x5, Zs, Lv y6, Zs, Lv y7, Zs, Lv c, Zs, Us, Us, Us, Us] [(.long x5)])) rfl (hb hBY d_prog_59_method_13_code_37) _ ?_
    show Steps p.tables e below (s₁.setTop (mkF m 40 #[Rv out, Lv x0, Zs, Lv x1, Zs, Lv x2, Zs, Lv x3, Zs, Lv x4, Zs, Lv x5, Zs, Lv y6, Zs, Lv y7, Zs, Lv c, Zs, Us, Us, Us, Us] [(.long (281474976710655 : Int64)), (.long x5)])) tt_
    refine XS.land X0.here hEX rfl (hb hBY d_prog_59_method_13_code_40) rfl ?_
    show Steps p.tables e below (s₁.setTop (mkF m 41 #[Rv out, Lv x0, Zs, Lv x1, Zs, Lv x2, Zs, Lv x3, Zs, Lv x4, Zs, Lv x5, Zs, Lv y6, Zs, Lv y7, Zs, Lv c, Zs, Us, Us, Us, Us] [(.long (x5 &&& (281474976710655 : Int64)))])) tt_
    refine XS.lload X0.here hEX rfl (hb hBY d_prog_59_method_13_code_41) rfl ?_
    show Steps p.tables e below (s₁.setTop (mkF m 43 #[Rv out, Lv x0, Zs, Lv x1, Zs, Lv x2, Zs, Lv x3, Zs, Lv x4, Zs, Lv x5, Zs, Lv y6, Zs, Lv y7, Zs, Lv c, Zs, Us, Us, Us, Us] [(.long x4), (.long (x5 &&& (281474976710655 : Int64)))])) tt_
    refine XS.bipush X0.here hEX rfl (hb hBY d_prog_59_method_13_code_43) ?_
    show Steps p.tables e below (s₁.setTop (mkF m 45 #[Rv out, Lv x0, Zs, Lv x1, Zs, Lv x2, Zs, Lv x3, Zs, Lv x4, Zs, Lv x5, Zs, Lv y6, Zs, Lv y7, Zs, Lv c, Zs, Us, Us, Us, Us] [(.int (48 : Int32)), (.long x4), (.long (x5 &&& (281474976710655 : Int64)))])) tt_
    refine XS.lshr X0.here hEX rfl (hb hBY d_prog_59_method_13_code_45) rfl ?_
    show Steps p.tables e below (s₁.setTop (mkF m 46 #[Rv out, Lv x0, Zs, Lv x1, Zs, Lv x2, Zs, Lv x3, Zs, Lv x4, Zs, Lv x5, Zs, Lv y6, Zs, Lv y7, Zs, Lv c, Zs, Us, Us, Us, Us] [(.long (x4 >>> ((48 : Int32) &&& 0x3f).toInt64)), (.long (x5 &&& (281474976710655 : Int64)))])) tt_
    refine XS.ladd X0.here hEX rfl (hb hBY d_prog_59_method_13_code_46) rfl ?_
    exact kt_
  refine Done.pre sg_4 ?_
  show Done _ _ _ _ _ _ _ (s₁.setTop (mkF m 47 #[Rv out, Lv x0, Zs, Lv x1, Zs, Lv x2, Zs, Lv x3, Zs, Lv x4, Zs, Lv x5, Zs, Lv y6, Zs, Lv y7, Zs, Lv c, Zs, Us, Us, Us, Us] [(.long ((x5 &&& (281474976710655 : Int64)) + (x4 >>> ((48 : Int32) &&& 0x3f).toInt64)))]))
  obtain ⟨y5, hy5⟩ : ∃ z : Int64, z = ((x5 &&& (281474976710655 : Int64)) + (x4 >>> ((48 : Int32) &&& 0x3f).toInt64)) := ⟨_, rfl⟩
  rw [← hy5]
  show Done _ _ _ _ _ _ _ (s₁.setTop (mkF m 47 #[Rv out, Lv x0, Zs, Lv x1, Zs, Lv x2, Zs, Lv x3, Zs, Lv x4, Zs, Lv x5, Zs, Lv y6, Zs, Lv y7, Zs, Lv c, Zs, Us, Us, Us, Us] [(.long y5)]))
  have sg_5 : ∀ tt_, Steps p.tables e below (s₁.setTop (mkF m 61 #[Rv out, Lv x0, Zs, Lv x1, Zs, Lv x2, Zs, Lv x3, Zs, Lv x4, Zs, Lv y5, Zs, Lv y6, Zs, Lv y7, Zs, Lv c, Zs, Us, Us, Us, Us] [(.long ((x4 &&& (281474976710655 : Int64)) + (x3 >>> ((48 : Int32) &&& 0x3f).toInt64)))])) tt_ → Steps p.tables e below (s₁.setTop (mkF m 47 #[Rv out, Lv x0, Zs, Lv x1, Zs, Lv x2, Zs, Lv x3, Zs, Lv x4, Zs, Lv x5, Zs, Lv y6, Zs, Lv y7, Zs, Lv c, Zs, Us, Us, Us, Us] [(.long y5)])) tt_ := by
    intro tt_ kt_
    refine XS.lstore X0.here hEX rfl (hb hBY d_prog_59_method_13_code_47) rfl (l' := #[Rv out, Lv x0, Zs, Lv x1, Zs, Lv x2, Zs, Lv x3, Zs, Lv x4, Zs, Lv y5, Zs, Lv y6, Zs, Lv y7, Zs, Lv c, Zs, Us, Us, Us, Us]) rfl ?_
    show Steps p.tables e below (s₁.setTop (mkF m 49 #[Rv out, Lv x0, Zs, Lv x1, Zs, Lv x2, Zs, Lv x3, Zs, Lv x4, Zs, Lv y5, Zs, Lv y6, Zs, Lv y7, Zs, Lv c, Zs, Us, Us, Us, Us] [])) tt_
    refine XS.lload X0.here hEX rfl (hb hBY d_prog_59_method_13_code_49) rfl ?_
    show Steps p.tables e below (s₁.setTop (mkF m 51 #[Rv out, Lv x0, Zs, Lv x1, Zs, Lv x2, Zs, Lv x3, Zs, Lv x4, Zs, Lv y5, Zs, Lv y6, Zs, Lv y7, Zs, Lv c, Zs, Us, Us, Us, Us] [(.long x4)])) tt_
    refine X0.ldc2Long hEX hOW (mvT hZW (hw _ (List.mem_of_getElem? (i := 23) rfl))) (g := (mkF m 51 #[Rv out, Lv x0, Zs, Lv x1, Zs, Lv x2, Zs, Lv x3, Zs, Lv x4, Zs, Lv y5, Zs, Lv y6, Zs, Lv y7, Zs, Lv c, Zs, Us, Us, Us, Us] [(.long x4)])) rfl (hb hBY d_prog_59_method_13_code_51) _ ?_
    show Steps p.tables e below (s₁.setTop (mkF m 54 #[Rv out, Lv x0, Zs, Lv x1, Zs, Lv x2, Zs, Lv x3, Zs, Lv x4, Zs, Lv y5, Zs, Lv y6, Zs, Lv y7, Zs, Lv c, Zs, Us, Us, Us, Us] [(.long (281474976710655 : Int64)), (.long x4)])) tt_
    refine XS.land X0.here hEX rfl (hb hBY d_prog_59_method_13_code_54) rfl ?_
    show Steps p.tables e below (s₁.setTop (mkF m 55 #[Rv out, Lv x0, Zs, Lv x1, Zs, Lv x2, Zs, Lv x3, Zs, Lv x4, Zs, Lv y5, Zs, Lv y6, Zs, Lv y7, Zs, Lv c, Zs, Us, Us, Us, Us] [(.long (x4 &&& (281474976710655 : Int64)))])) tt_
    refine XS.lload X0.here hEX rfl (hb hBY d_prog_59_method_13_code_55) rfl ?_
    show Steps p.tables e below (s₁.setTop (mkF m 57 #[Rv out, Lv x0, Zs, Lv x1, Zs, Lv x2, Zs, Lv x3, Zs, Lv x4, Zs, Lv y5, Zs, Lv y6, Zs, Lv y7, Zs, Lv c, Zs, Us, Us, Us, Us] [(.long x3), (.long (x4 &&& (281474976710655 : Int64)))])) tt_
    refine XS.bipush X0.here hEX rfl (hb hBY d_prog_59_method_13_code_57) ?_
    show Steps p.tables e below (s₁.setTop (mkF m 59 #[Rv out, Lv x0, Zs, Lv x1, Zs, Lv x2, Zs, Lv x3, Zs, Lv x4, Zs, Lv y5, Zs, Lv y6, Zs, Lv y7, Zs, Lv c, Zs, Us, Us, Us, Us] [(.int (48 : Int32)), (.long x3), (.long (x4 &&& (281474976710655 : Int64)))])) tt_
    refine XS.lshr X0.here hEX rfl (hb hBY d_prog_59_method_13_code_59) rfl ?_
    show Steps p.tables e below (s₁.setTop (mkF m 60 #[Rv out, Lv x0, Zs, Lv x1, Zs, Lv x2, Zs, Lv x3, Zs, Lv x4, Zs, Lv y5, Zs, Lv y6, Zs, Lv y7, Zs, Lv c, Zs, Us, Us, Us, Us] [(.long (x3 >>> ((48 : Int32) &&& 0x3f).toInt64)), (.long (x4 &&& (281474976710655 : Int64)))])) tt_
    refine XS.ladd X0.here hEX rfl (hb hBY d_prog_59_method_13_code_60) rfl ?_
    exact kt_
  refine Done.pre sg_5 ?_
  show Done _ _ _ _ _ _ _ (s₁.setTop (mkF m 61 #[Rv out, Lv x0, Zs, Lv x1, Zs, Lv x2, Zs, Lv x3, Zs, Lv x4, Zs, Lv y5, Zs, Lv y6, Zs, Lv y7, Zs, Lv c, Zs, Us, Us, Us, Us] [(.long ((x4 &&& (281474976710655 : Int64)) + (x3 >>> ((48 : Int32) &&& 0x3f).toInt64)))]))
  obtain ⟨y4, hy4⟩ : ∃ z : Int64, z = ((x4 &&& (281474976710655 : Int64)) + (x3 >>> ((48 : Int32) &&& 0x3f).toInt64)) := ⟨_, rfl⟩
  rw [← hy4]
  show Done _ _ _ _ _ _ _ (s₁.setTop (mkF m 61 #[Rv out, Lv x0, Zs, Lv x1, Zs, Lv x2, Zs, Lv x3, Zs, Lv x4, Zs, Lv y5, Zs, Lv y6, Zs, Lv y7, Zs, Lv c, Zs, Us, Us, Us, Us] [(.long y4)]))
  have sg_6 : ∀ tt_, Steps p.tables e below (s₁.setTop (mkF m 75 #[Rv out, Lv x0, Zs, Lv x1, Zs, Lv x2, Zs, Lv x3, Zs, Lv y4, Zs, Lv y5, Zs, Lv y6, Zs, Lv y7, Zs, Lv c, Zs, Us, Us, Us, Us] [(.long ((x3 &&& (281474976710655 : Int64)) + (x2 >>> ((48 : Int32) &&& 0x3f).toInt64)))])) tt_ → Steps p.tables e below (s₁.setTop (mkF m 61 #[Rv out, Lv x0, Zs, Lv x1, Zs, Lv x2, Zs, Lv x3, Zs, Lv x4, Zs, Lv y5, Zs, Lv y6, Zs, Lv y7, Zs, Lv c, Zs, Us, Us, Us, Us] [(.long y4)])) tt_ := by
    intro tt_ kt_
    refine XS.lstore X0.here hEX rfl (hb hBY d_prog_59_method_13_code_61) rfl (l' := #[Rv out, Lv x0, Zs, Lv x1, Zs, Lv x2, Zs, Lv x3, Zs, Lv y4, Zs, Lv y5, Zs, Lv y6, Zs, Lv y7, Zs, Lv c, Zs, Us, Us, Us, Us]) rfl ?_
    show Steps p.tables e below (s₁.setTop (mkF m 63 #[Rv out, Lv x0, Zs, Lv x1, Zs, Lv x2, Zs, Lv x3, Zs, Lv y4, Zs, Lv y5, Zs, Lv y6, Zs, Lv y7, Zs, Lv c, Zs, Us, Us, Us, Us] [])) tt_
    refine XS.lload X0.here hEX rfl (hb hBY d_prog_59_method_13_code_63) rfl ?_
    show Steps p.tables e below (s₁.setTop (mkF m 65 #[Rv out, Lv x0, Zs, Lv x1, Zs, Lv x2, Zs, Lv x3, Zs, Lv y4, Zs, Lv y5, Zs, Lv y6, Zs, Lv y7, Zs, Lv c, Zs, Us, Us, Us, Us] [(.long x3)])) tt_
    refine X0.ldc2Long hEX hOW (mvT hZW (hw _ (List.mem_of_getElem? (i := 23) rfl))) (g := (mkF m 65 #[Rv out, Lv x0, Zs, Lv x1, Zs, Lv x2, Zs, Lv x3, Zs, Lv y4, Zs, Lv y5, Zs, Lv y6, Zs, Lv y7, Zs, Lv c, Zs, Us, Us, Us, Us] [(.long x3)])) rfl (hb hBY d_prog_59_method_13_code_65) _ ?_
    show Steps p.tables e below (s₁.setTop (mkF m 68 #[Rv out, Lv x0, Zs, Lv x1, Zs, Lv x2, Zs, Lv x3, Zs, Lv y4, Zs, Lv y5, Zs, Lv y6, Zs, Lv y7, Zs, Lv c, Zs, Us, Us, Us, Us] [(.long (281474976710655 : Int64)), (.long x3)])) tt_
    refine XS.land X0.here hEX rfl (hb hBY d_prog_59_method_13_code_68) rfl ?_
    show Steps p.tables e below (s₁.setTop (mkF m 69 #[Rv out, Lv x0, Zs, Lv x1, Zs, Lv x2, Zs, Lv x3, Zs, Lv y4, Zs, Lv y5, Zs, Lv y6, Zs, Lv y7, Zs, Lv c, Zs, Us, Us, Us, Us] [(.long (x3 &&& (281474976710655 : Int64)))])) tt_
    refine XS.lload X0.here hEX rfl (hb hBY d_prog_59_method_13_code_69) rfl ?_
    show Steps p.tables e below (s₁.setTop (mkF m 71 #[Rv out, Lv x0, Zs, Lv x1, Zs, Lv x2, Zs, Lv x3, Zs, Lv y4, Zs, Lv y5, Zs, Lv y6, Zs, Lv y7, Zs, Lv c, Zs, Us, Us, Us, Us] [(.long x2), (.long (x3 &&& (281474976710655 : Int64)))])) tt_
    refine XS.bipush X0.here hEX rfl (hb hBY d_prog_59_method_13_code_71) ?_
    show Steps p.tables e below (s₁.setTop (mkF m 73 #[Rv out, Lv x0, Zs, Lv x1, Zs, Lv x2, Zs, Lv x3, Zs, Lv y4, Zs, Lv y5, Zs, Lv y6, Zs, Lv y7, Zs, Lv c, Zs, Us, Us, Us, Us] [(.int (48 : Int32)), (.long x2), (.long (x3 &&& (281474976710655 : Int64)))])) tt_
    refine XS.lshr X0.here hEX rfl (hb hBY d_prog_59_method_13_code_73) rfl ?_
    show Steps p.tables e below (s₁.setTop (mkF m 74 #[Rv out, Lv x0, Zs, Lv x1, Zs, Lv x2, Zs, Lv x3, Zs, Lv y4, Zs, Lv y5, Zs, Lv y6, Zs, Lv y7, Zs, Lv c, Zs, Us, Us, Us, Us] [(.long (x2 >>> ((48 : Int32) &&& 0x3f).toInt64)), (.long (x3 &&& (281474976710655 : Int64)))])) tt_
    refine XS.ladd X0.here hEX rfl (hb hBY d_prog_59_method_13_code_74) rfl ?_
    exact kt_
  refine Done.pre sg_6 ?_
  show Done _ _ _ _ _ _ _ (s₁.setTop (mkF m 75 #[Rv out, Lv x0, Zs, Lv x1, Zs, Lv x2, Zs, Lv x3, Zs, Lv y4, Zs, Lv y5, Zs, Lv y6, Zs, Lv y7, Zs, Lv c, Zs, Us, Us, Us, Us] [(.long ((x3 &&& (281474976710655 : Int64)) + (x2 >>> ((48 : Int32) &&& 0x3f).toInt64)))]))
  obtain ⟨y3, hy3⟩ : ∃ z : Int64, z = ((x3 &&& (281474976710655 : Int64)) + (x2 >>> ((48 : Int32) &&& 0x3f).toInt64)) := ⟨_, rfl⟩
  rw [← hy3]
  show Done _ _ _ _ _ _ _ (s₁.setTop (mkF m 75 #[Rv out, Lv x0, Zs, Lv x1, Zs, Lv x2, Zs, Lv x3, Zs, Lv y4, Zs, Lv y5, Zs, Lv y6, Zs, Lv y7, Zs, Lv c, Zs, Us, Us, Us, Us] [(.long y3)]))
  have sg_7 : ∀ tt_, Steps p.tables e below (s₁.setTop (mkF m 88 #[Rv out, Lv x0, Zs, Lv x1, Zs, Lv x2, Zs, Lv y3, Zs, Lv y4, Zs, Lv y5, Zs, Lv y6, Zs, Lv y7, Zs, Lv c, Zs, Us, Us, Us, Us] [(.long ((x2 &&& (281474976710655 : Int64)) + (x1 >>> ((48 : Int32) &&& 0x3f).toInt64)))])) tt_ → Steps p.tables e below (s₁.setTop (mkF m 75 #[Rv out, Lv x0, Zs, Lv x1, Zs, Lv x2, Zs, Lv x3, Zs, Lv y4, Zs, Lv y5, Zs, Lv y6, Zs, Lv y7, Zs, Lv c, Zs, Us, Us, Us, Us] [(.long y3)])) tt_ := by
    intro tt_ kt_
    refine XS.lstore X0.here hEX rfl (hb hBY d_prog_59_method_13_code_75) rfl (l' := #[Rv out, Lv x0, Zs, Lv x1, Zs, Lv x2, Zs, Lv y3, Zs, Lv y4, Zs, Lv y5, Zs, Lv y6, Zs, Lv y7, Zs, Lv c, Zs, Us, Us, Us, Us]) rfl ?_
    show Steps p.tables e below (s₁.setTop (mkF m 77 #[Rv out, Lv x0, Zs, Lv x1, Zs, Lv x2, Zs, Lv y3, Zs, Lv y4, Zs, Lv y5, Zs, Lv y6, Zs, Lv y7, Zs, Lv c, Zs, Us, Us, Us, Us] [])) tt_
    refine XS.lload X0.here hEX rfl (hb hBY d_prog_59_method_13_code_77) rfl ?_
    show Steps p.tables e below (s₁.setTop (mkF m 79 #[Rv out, Lv x0, Zs, Lv x1, Zs, Lv x2, Zs, Lv y3, Zs, Lv y4, Zs, Lv y5, Zs, Lv y6, Zs, Lv y7, Zs, Lv c, Zs, Us, Us, Us, Us] [(.long x2)])) tt_
    refine X0.ldc2Long hEX hOW (mvT hZW (hw _ (List.mem_of_getElem? (i := 23) rfl))) (g := (mkF m 79 #[Rv out, Lv x0, Zs, Lv x1, Zs, Lv x2, Zs, Lv y3, Zs, Lv y4, Zs, Lv y5, Zs, Lv y6, Zs, Lv y7, Zs, Lv c, Zs, Us, Us, Us, Us] [(.long x2)])) rfl (hb hBY d_prog_59_method_13_code_79) _ ?_
    show Steps p.tables e below (s₁.setTop (mkF m 82 #[Rv out, Lv x0, Zs, Lv x1, Zs, Lv x2, Zs, Lv y3, Zs, Lv y4, Zs, Lv y5, Zs, Lv y6, Zs, Lv y7, Zs, Lv c, Zs, Us, Us, Us, Us] [(.long (281474976710655 : Int64)), (.long x2)])) tt_
    refine XS.land X0.here hEX rfl (hb hBY d_prog_59_method_13_code_82) rfl ?_
    show Steps p.tables e below (s₁.setTop (mkF m 83 #[Rv out, Lv x0, Zs, Lv x1, Zs, Lv x2, Zs, Lv y3, Zs, Lv y4, Zs, Lv y5, Zs, Lv y6, Zs, Lv y7, Zs, Lv c, Zs, Us, Us, Us, Us] [(.long (x2 &&& (281474976710655 : Int64)))])) tt_
    refine XS.lloadN X0.here hEX rfl (hb hBY d_prog_59_method_13_code_83) rfl ?_
    show Steps p.tables e below (s₁.setTop (mkF m 84 #[Rv out, Lv x0, Zs, Lv x1, Zs, Lv x2, Zs, Lv y3, Zs, Lv y4, Zs, Lv y5, Zs, Lv y6, Zs, Lv y7, Zs, Lv c, Zs, Us, Us, Us, Us] [(.long x1), (.long (x2 &&& (281474976710655 : Int64)))])) tt_
    refine XS.bipush X0.here hEX rfl (hb hBY d_prog_59_method_13_code_84) ?_
    show Steps p.tables e below (s₁.setTop (mkF m 86 #[Rv out, Lv x0, Zs, Lv x1, Zs, Lv x2, Zs, Lv y3, Zs, Lv y4, Zs, Lv y5, Zs, Lv y6, Zs, Lv y7, Zs, Lv c, Zs, Us, Us, Us, Us] [(.int (48 : Int32)), (.long x1), (.long (x2 &&& (281474976710655 : Int64)))])) tt_
    refine XS.lshr X0.here hEX rfl (hb hBY d_prog_59_method_13_code_86) rfl ?_
    show Steps p.tables e below (s₁.setTop (mkF m 87 #[Rv out, Lv x0, Zs, Lv x1, Zs, Lv x2, Zs, Lv y3, Zs, Lv y4, Zs, Lv y5, Zs, Lv y6, Zs, Lv y7, Zs, Lv c, Zs, Us, Us, Us, Us] [(.long (x1 >>> ((48 : Int32) &&& 0x3f).toInt64)), (.long (x2 &&& (281474976710655 : Int64)))])) tt_
    refine XS.ladd X0.here hEX rfl (hb hBY d_prog_59_method_13_code_87) rfl ?_
    exact kt_
  refine Done.pre sg_7 ?_
  show Done _ _ _ _ _ _ _ (s₁.setTop (mkF m 88 #[Rv out, Lv x0, Zs, Lv x1, Zs, Lv x2, Zs, Lv y3, Zs, Lv y4, Zs, Lv y5, Zs, Lv y6, Zs, Lv y7, Zs, Lv c, Zs, Us, Us, Us, Us] [(.long ((x2 &&& (281474976710655 : Int64)) + (x1 >>> ((48 : Int32) &&& 0x3f).toInt64)))]))
  obtain ⟨y2, hy2⟩ : ∃ z : Int64, z = ((x2 &&& (281474976710655 : Int64)) + (x1 >>> ((48 : Int32) &&& 0x3f).toInt64)) := ⟨_, rfl⟩
  rw [← hy2]
  show Done _ _ _ _ _ _ _ (s₁.setTop (mkF m 88 #[Rv out, Lv x0, Zs, Lv x1, Zs, Lv x2, Zs, Lv y3, Zs, Lv y4, Zs, Lv y5, Zs, Lv y6, Zs, Lv y7, Zs, Lv c, Zs, Us, Us, Us, Us] [(.long y2)]))
  have sg_8 : ∀ tt_, Steps p.tables e below (s₁.setTop (mkF m 100 #[Rv out, Lv x0, Zs, Lv x1, Zs, Lv y2, Zs, Lv y3, Zs, Lv y4, Zs, Lv y5, Zs, Lv y6, Zs, Lv y7, Zs, Lv c, Zs, Us, Us, Us, Us] [(.long ((x1 &&& (281474976710655 : Int64)) + (x0 >>> ((48 : Int32) &&& 0x3f).toInt64)))])) tt_ → Steps p.tables e below (s₁.setTop (mkF m 88 #[Rv out, Lv x0, Zs, Lv x1, Zs, Lv x2, Zs, Lv y3, Zs, Lv y4, Zs, Lv y5, Zs, Lv y6, Zs, Lv y7, Zs, Lv c, Zs, Us, Us, Us, Us] [(.long y2)])) tt_ := by
    intro tt_ kt_
    refine XS.lstore X0.here hEX rfl (hb hBY d_prog_59_method_13_code_88) rfl (l' := #[Rv out, Lv x0, Zs, Lv x1, Zs, Lv y2, Zs, Lv y3, Zs, Lv y4, Zs, Lv y5, Zs, Lv y6, Zs, Lv y7, Zs, Lv c, Zs, Us, Us, Us, Us]) rfl ?_
    show Steps p.tables e below (s₁.setTop (mkF m 90 #[Rv out, Lv x0, Zs, Lv x1, Zs, Lv y2, Zs, Lv y3, Zs, Lv y4, Zs, Lv y5, Zs, Lv y6, Zs, Lv y7, Zs, Lv c, Zs, Us, Us, Us, Us] [])) tt_
    refine XS.lloadN X0.here hEX rfl (hb hBY d_prog_59_method_13_code_90) rfl ?_
    show Steps p.tables e below (s₁.setTop (mkF m 91 #[Rv out, Lv x0, Zs, Lv x1, Zs, Lv y2, Zs, Lv y3, Zs, Lv y4, Zs, Lv y5, Zs, Lv y6, Zs, Lv y7, Zs, Lv c, Zs, Us, Us, Us, Us] [(.long x1)])) tt_
    refine X0.ldc2Long hEX hOW (mvT hZW (hw _ (List.mem_of_getElem? (i := 23) rfl))) (g := (mkF m 91 #[Rv out, Lv x0, Zs, Lv x1, Zs, Lv y2, Zs, Lv y3, Zs, Lv y4, Zs, Lv y5, Zs, Lv y6, Zs, Lv y7, Zs, Lv c, Zs, Us, Us, Us, Us] [(.long x1)])) rfl (hb hBY d_prog_59_method_13_code_91) _ ?_
    show Steps p.tables e below (s₁.setTop (mkF m 94 #[Rv out, Lv x0, Zs, Lv x1, Zs, Lv y2, Zs, Lv y3, Zs, Lv y4, Zs, Lv y5, Zs, Lv y6, Zs, Lv y7, Zs, Lv c, Zs, Us, Us, Us, Us] [(.long (281474976710655 : Int64)), (.long x1)])) tt_
    refine XS.land X0.here hEX rfl (hb hBY d_prog_59_method_13_code_94) rfl ?_
    show Steps p.tables e below (s₁.setTop (mkF m 95 #[Rv out, Lv x0, Zs, Lv x1, Zs, Lv y2, Zs, Lv y3, Zs, Lv y4, Zs, Lv y5, Zs, Lv y6, Zs, Lv y7, Zs, Lv c, Zs, Us, Us, Us, Us] [(.long (x1 &&& (281474976710655 : Int64)))])) tt_
    refine XS.lloadN X0.here hEX rfl (hb hBY d_prog_59_method_13_code_95) rfl ?_
    show Steps p.tables e below (s₁.setTop (mkF m 96 #[Rv out, Lv x0, Zs, Lv x1, Zs, Lv y2, Zs, Lv y3, Zs, Lv y4, Zs, Lv y5, Zs, Lv y6, Zs, Lv y7, Zs, Lv c, Zs, Us, Us, Us, Us] [(.long x0), (.long (x1 &&& (281474976710655 : Int64)))])) tt_
    refine XS.bipush X0.here hEX rfl (hb hBY d_prog_59_method_13_code_96) ?_
    show Steps p.tables e below (s₁.setTop (mkF m 98 #[Rv out, Lv x0, Zs, Lv x1, Zs, Lv y2, Zs, Lv y3, Zs, Lv y4, Zs, Lv y5, Zs, Lv y6, Zs, Lv y7, Zs, Lv c, Zs, Us, Us, Us, Us] [(.int (48 : Int32)), (.long x0), (.long (x1 &&& (281474976710655 : Int64)))])) tt_
    refine XS.lshr X0.here hEX rfl (hb hBY d_prog_59_method_13_code_98) rfl ?_
    show Steps p.tables e below (s₁.setTop (mkF m 99 #[Rv out, Lv x0, Zs, Lv x1, Zs, Lv y2, Zs, Lv y3, Zs, Lv y4, Zs, Lv y5, Zs, Lv y6, Zs, Lv y7, Zs, Lv c, Zs, Us, Us, Us, Us] [(.long (x0 >>> ((48 : Int32) &&& 0x3f).toInt64)), (.long (x1 &&& (281474976710655 : Int64)))])) tt_
    refine XS.ladd X0.here hEX rfl (hb hBY d_prog_59_method_13_code_99) rfl ?_
    exact kt_
  refine Done.pre sg_8 ?_
  show Done _ _ _ _ _ _ _ (s₁.setTop (mkF m 100 #[Rv out, Lv x0, Zs, Lv x1, Zs, Lv y2, Zs, Lv y3, Zs, Lv y4, Zs, Lv y5, Zs, Lv y6, Zs, Lv y7, Zs, Lv c, Zs, Us, Us, Us, Us] [(.long ((x1 &&& (281474976710655 : Int64)) + (x0 >>> ((48 : Int32) &&& 0x3f).toInt64)))]))
  obtain ⟨y1, hy1⟩ : ∃ z : Int64, z = ((x1 &&& (281474976710655 : Int64)) + (x0 >>> ((48 : Int32) &&& 0x3f).toInt64)) := ⟨_, rfl⟩
  rw [← hy1]
  show Done _ _ _ _ _ _ _ (s₁.setTop (mkF m 100 #[Rv out, Lv x0, Zs, Lv x1, Zs, Lv y2, Zs, Lv y3, Zs, Lv y4, Zs, Lv y5, Zs, Lv y6, Zs, Lv y7, Zs, Lv c, Zs, Us, Us, Us, Us] [(.long y1)]))
  have sg_9 : ∀ tt_, Steps p.tables e below (s₁.setTop (mkF m 106 #[Rv out, Lv x0, Zs, Lv y1, Zs, Lv y2, Zs, Lv y3, Zs, Lv y4, Zs, Lv y5, Zs, Lv y6, Zs, Lv y7, Zs, Lv c, Zs, Us, Us, Us, Us] [(.long (x0 &&& (281474976710655 : Int64)))])) tt_ → Steps p.tables e below (s₁.setTop (mkF m 100 #[Rv out, Lv x0, Zs, Lv x1, Zs, Lv y2, Zs, Lv y3, Zs, Lv y4, Zs, Lv y5, Zs, Lv y6, Zs, Lv y7, Zs, Lv c, Zs, Us, Us, Us, Us] [(.long y1)])) tt_ := by
    intro tt_ kt_
    refine XS.lstoreN X0.here hEX rfl (hb hBY d_prog_59_method_13_code_100) rfl (l' := #[Rv out, Lv x0, Zs, Lv y1, Zs, Lv y2, Zs, Lv y3, Zs, Lv y4, Zs, Lv y5, Zs, Lv y6, Zs, Lv y7, Zs, Lv c, Zs, Us, Us, Us, Us]) rfl ?_
    show Steps p.tables e below (s₁.setTop (mkF m 101 #[Rv out, Lv x0, Zs, Lv y1, Zs, Lv y2, Zs, Lv y3, Zs, Lv y4, Zs, Lv y5, Zs, Lv y6, Zs, Lv y7, Zs, Lv c, Zs, Us, Us, Us, Us] [])) tt_
    refine XS.lloadN X0.here hEX rfl (hb hBY d_prog_59_method_13_code_101) rfl ?_
    show Steps p.tables e below (s₁.setTop (mkF m 102 #[Rv out, Lv x0, Zs, Lv y1, Zs, Lv y2, Zs, Lv y3, Zs, Lv y4, Zs, Lv y5, Zs, Lv y6, Zs, Lv y7, Zs, Lv c, Zs, Us, Us, Us, Us] [(.long x0)])) tt_
    refine X0.ldc2Long hEX hOW (mvT hZW (hw _ (List.mem_of_getElem? (i := 23) rfl))) (g := (mkF m 102 #[Rv out, Lv x0, Zs, Lv y1, Zs, Lv y2, Zs, Lv y3, Zs, Lv y4, Zs, Lv y5, Zs, Lv y6, Zs, Lv y7, Zs, Lv c, Zs, Us, Us, Us, Us] [(.long x0)])) rfl (hb hBY d_prog_59_method_13_code_102) _ ?_
    show Steps p.tables e below (s₁.setTop (mkF m 105 #[Rv out, Lv x0, Zs, Lv y1, Zs, Lv y2, Zs, Lv y3, Zs, Lv y4, Zs, Lv y5, Zs, Lv y6, Zs, Lv y7, Zs, Lv c, Zs, Us, Us, Us, Us] [(.long (281474976710655 : Int64)), (.long x0)])) tt_
    refine XS.land X0.here hEX rfl (hb hBY d_prog_59_method_13_code_105) rfl ?_
    exact kt_
  refine Done.pre sg_9 ?_
  show Done _ _ _ _ _ _ _ (s₁.setTop (mkF m 106 #[Rv out, Lv x0, Zs, Lv y1, Zs, Lv y2, Zs, Lv y3, Zs, Lv y4, Zs, Lv y5, Zs, Lv y6, Zs, Lv y7, Zs, Lv c, Zs, Us, Us, Us, Us] [(.long (x0 &&& (281474976710655 : Int64)))]))
  obtain ⟨y0, hy0⟩ : ∃ z : Int64, z = (x0 &&& (281474976710655 : Int64)) := ⟨_, rfl⟩
  rw [← hy0]
  show Done _ _ _ _ _ _ _ (s₁.setTop (mkF m 106 #[Rv out, Lv x0, Zs, Lv y1, Zs, Lv y2, Zs, Lv y3, Zs, Lv y4, Zs, Lv y5, Zs, Lv y6, Zs, Lv y7, Zs, Lv c, Zs, Us, Us, Us, Us] [(.long y0)]))
  have sg_10 : ∀ tt_, Steps p.tables e below (s₁.setTop (mkF m 116 #[Rv out, Lv y0, Zs, Lv y1, Zs, Lv y2, Zs, Lv y3, Zs, Lv y4, Zs, Lv y5, Zs, Lv y6, Zs, Lv y7, Zs, Lv c, Zs, Us, Us, Us, Us] [(.long ((c &&& (65535 : Int64)) <<< ((32 : Int32) &&& 0x3f).toInt64))])) tt_ → Steps p.tables e below (s₁.setTop (mkF m 106 #[Rv out, Lv x0, Zs, Lv y1, Zs, Lv y2, Zs, Lv y3, Zs, Lv y4, Zs, Lv y5, Zs, Lv y6, Zs, Lv y7, Zs, Lv c, Zs, Us, Us, Us, Us] [(.long y0)])) tt_ := by
    intro tt_ kt_
    refine XS.lstoreN X0.here hEX rfl (hb hBY d_prog_59_method_13_code_106) rfl (l' := #[Rv out, Lv y0, Zs, Lv y1, Zs, Lv y2, Zs, Lv y3, Zs, Lv y4, Zs, Lv y5, Zs, Lv y6, Zs, Lv y7, Zs, Lv c, Zs, Us, Us, Us, Us]) rfl ?_
    show Steps p.tables e below (s₁.setTop (mkF m 107 #[Rv out, Lv y0, Zs, Lv y1, Zs, Lv y2, Zs, Lv y3, Zs, Lv y4, Zs, Lv y5, Zs, Lv y6, Zs, Lv y7, Zs, Lv c, Zs, Us, Us, Us, Us] [])) tt_
    refine XS.lload X0.here hEX rfl (hb hBY d_prog_59_method_13_code_107) rfl ?_
    show Steps p.tables e below (s₁.setTop (mkF m 109 #[Rv out, Lv y0, Zs, Lv y1, Zs, Lv y2, Zs, Lv y3, Zs, Lv y4, Zs, Lv y5, Zs, Lv y6, Zs, Lv y7, Zs, Lv c, Zs, Us, Us, Us, Us] [(.long c)])) tt_
    refine X0.ldc2Long hEX hOW (mvT hZW (hw _ (List.mem_of_getElem? (i := 24) rfl))) (g := (mkF m 109 #[Rv out, Lv y0, Zs, Lv y1, Zs, Lv y2, Zs, Lv y3, Zs, Lv y4, Zs, Lv y5, Zs, Lv y6, Zs, Lv y7, Zs, Lv c, Zs, Us, Us, Us, Us] [(.long c)])) rfl (hb hBY d_prog_59_method_13_code_109) _ ?_
    show Steps p.tables e below (s₁.setTop (mkF m 112 #[Rv out, Lv y0, Zs, Lv y1, Zs, Lv y2, Zs, Lv y3, Zs, Lv y4, Zs, Lv y5, Zs, Lv y6, Zs, Lv y7, Zs, Lv c, Zs, Us, Us, Us, Us] [(.long (65535 : Int64)), (.long c)])) tt_
    refine XS.land X0.here hEX rfl (hb hBY d_prog_59_method_13_code_112) rfl ?_
    show Steps p.tables e below (s₁.setTop (mkF m 113 #[Rv out, Lv y0, Zs, Lv y1, Zs, Lv y2, Zs, Lv y3, Zs, Lv y4, Zs, Lv y5, Zs, Lv y6, Zs, Lv y7, Zs, Lv c, Zs, Us, Us, Us, Us] [(.long (c &&& (65535 : Int64)))])) tt_
    refine XS.bipush X0.here hEX rfl (hb hBY d_prog_59_method_13_code_113) ?_
    show Steps p.tables e below (s₁.setTop (mkF m 115 #[Rv out, Lv y0, Zs, Lv y1, Zs, Lv y2, Zs, Lv y3, Zs, Lv y4, Zs, Lv y5, Zs, Lv y6, Zs, Lv y7, Zs, Lv c, Zs, Us, Us, Us, Us] [(.int (32 : Int32)), (.long (c &&& (65535 : Int64)))])) tt_
    refine XS.lshl X0.here hEX rfl (hb hBY d_prog_59_method_13_code_115) rfl ?_
    exact kt_
  refine Done.pre sg_10 ?_
  show Done _ _ _ _ _ _ _ (s₁.setTop (mkF m 116 #[Rv out, Lv y0, Zs, Lv y1, Zs, Lv y2, Zs, Lv y3, Zs, Lv y4, Zs, Lv y5, Zs, Lv y6, Zs, Lv y7, Zs, Lv c, Zs, Us, Us, Us, Us] [(.long ((c &&& (65535 : Int64)) <<< ((32 : Int32) &&& 0x3f).toInt64))]))
  obtain ⟨lo, hlo⟩ : ∃ z : Int64, z = ((c &&& (65535 : Int64)) <<< ((32 : Int32) &&& 0x3f).toInt64) := ⟨_, rfl⟩
  rw [← hlo]
  show Done _ _ _ _ _ _ _ (s₁.setTop (mkF m 116 #[Rv out, Lv y0, Zs, Lv y1, Zs, Lv y2, Zs, Lv y3, Zs, Lv y4, Zs, Lv y5, Zs, Lv y6, Zs, Lv y7, Zs, Lv c, Zs, Us, Us, Us, Us] [(.long lo)]))
  have sg_11 : ∀ tt_, Steps p.tables e below (s₁.setTop (mkF m 123 #[Rv out, Lv y0, Zs, Lv y1, Zs, Lv y2, Zs, Lv y3, Zs, Lv y4, Zs, Lv y5, Zs, Lv y6, Zs, Lv y7, Zs, Lv c, Zs, Lv lo, Zs, Us, Us] [(.long (c >>> ((16 : Int32) &&& 0x3f).toInt64))])) tt_ → Steps p.tables e below (s₁.setTop (mkF m 116 #[Rv out, Lv y0, Zs, Lv y1, Zs, Lv y2, Zs, Lv y3, Zs, Lv y4, Zs, Lv y5, Zs, Lv y6, Zs, Lv y7, Zs, Lv c, Zs, Us, Us, Us, Us] [(.long lo)])) tt_ := by
    intro tt_ kt_
    refine XS.lstore X0.here hEX rfl (hb hBY d_prog_59_method_13_code_116) rfl (l' := #[Rv out, Lv y0, Zs, Lv y1, Zs, Lv y2, Zs, Lv y3, Zs, Lv y4, Zs, Lv y5, Zs, Lv y6, Zs, Lv y7, Zs, Lv c, Zs, Lv lo, Zs, Us, Us]) rfl ?_
    show Steps p.tables e below (s₁.setTop (mkF m 118 #[Rv out, Lv y0, Zs, Lv y1, Zs, Lv y2, Zs, Lv y3, Zs, Lv y4, Zs, Lv y5, Zs, Lv y6, Zs, Lv y7, Zs, Lv c, Zs, Lv lo, Zs, Us, Us] [])) tt_
    refine XS.lload X0.here hEX rfl (hb hBY d_prog_59_method_13_code_118) rfl ?_
    show Steps p.tables e below (s₁.setTop (mkF m 120 #[Rv out, Lv y0, Zs, Lv y1, Zs, Lv y2, Zs, Lv y3, Zs, Lv y4, Zs, Lv y5, Zs, Lv y6, Zs, Lv y7, Zs, Lv c, Zs, Lv lo, Zs, Us, Us] [(.long c)])) tt_
    refine XS.bipush X0.here hEX rfl (hb hBY d_prog_59_method_13_code_120) ?_
    show Steps p.tables e below (s₁.setTop (mkF m 122 #[Rv out, Lv y0, Zs, Lv y1, Zs, Lv y2, Zs, Lv y3, Zs, Lv y4, Zs, Lv y5, Zs, Lv y6, Zs, Lv y7, Zs, Lv c, Zs, Lv lo, Zs, Us, Us] [(.int (16 : Int32)), (.long c)])) tt_
    refine XS.lshr X0.here hEX rfl (hb hBY d_prog_59_method_13_code_122) rfl ?_
    exact kt_
  refine Done.pre sg_11 ?_
  show Done _ _ _ _ _ _ _ (s₁.setTop (mkF m 123 #[Rv out, Lv y0, Zs, Lv y1, Zs, Lv y2, Zs, Lv y3, Zs, Lv y4, Zs, Lv y5, Zs, Lv y6, Zs, Lv y7, Zs, Lv c, Zs, Lv lo, Zs, Us, Us] [(.long (c >>> ((16 : Int32) &&& 0x3f).toInt64))]))
  obtain ⟨hi, hhi⟩ : ∃ z : Int64, z = (c >>> ((16 : Int32) &&& 0x3f).toInt64) := ⟨_, rfl⟩
  rw [← hhi]
  show Done _ _ _ _ _ _ _ (s₁.setTop (mkF m 123 #[Rv out, Lv y0, Zs, Lv y1, Zs, Lv y2, Zs, Lv y3, Zs, Lv y4, Zs, Lv y5, Zs, Lv y6, Zs, Lv y7, Zs, Lv c, Zs, Lv lo, Zs, Us, Us] [(.long hi)]))
  have sg_13 : ∀ tt_, Steps p.tables e below (s₁.setTop (mkF m 134 #[Rv out, Lv y0, Zs, Lv y1, Zs, Lv y2, Zs, Lv y3, Zs, Lv y4, Zs, Lv y5, Zs, Lv y6, Zs, Lv y7, Zs, Lv c, Zs, Lv lo, Zs, Lv hi, Zs] [(.long ((y0 + c) - lo)), (.int (0 : Int32)), (.ref out)])) tt_ → Steps p.tables e below (s₁.setTop (mkF m 123 #[Rv out, Lv y0, Zs, Lv y1, Zs, Lv y2, Zs, Lv y3, Zs, Lv y4, Zs, Lv y5, Zs, Lv y6, Zs, Lv y7, Zs, Lv c, Zs, Lv lo, Zs, Us, Us] [(.long hi)])) tt_ := by
    intro tt_ kt_
    refine XS.lstore X0.here hEX rfl (hb hBY d_prog_59_method_13_code_123) rfl (l' := #[Rv out, Lv y0, Zs, Lv y1, Zs, Lv y2, Zs, Lv y3, Zs, Lv y4, Zs, Lv y5, Zs, Lv y6, Zs, Lv y7, Zs, Lv c, Zs, Lv lo, Zs, Lv hi, Zs]) rfl ?_
    show Steps p.tables e below (s₁.setTop (mkF m 125 #[Rv out, Lv y0, Zs, Lv y1, Zs, Lv y2, Zs, Lv y3, Zs, Lv y4, Zs, Lv y5, Zs, Lv y6, Zs, Lv y7, Zs, Lv c, Zs, Lv lo, Zs, Lv hi, Zs] [])) tt_
    refine XS.aloadN X0.here hEX rfl (hb hBY d_prog_59_method_13_code_125) rfl rfl ?_
    show Steps p.tables e below (s₁.setTop (mkF m 126 #[Rv out, Lv y0, Zs, Lv y1, Zs, Lv y2, Zs, Lv y3, Zs, Lv y4, Zs, Lv y5, Zs, Lv y6, Zs, Lv y7, Zs, Lv c, Zs, Lv lo, Zs, Lv hi, Zs] [(.ref out)])) tt_
    refine XS.iconst X0.here hEX rfl (hb hBY d_prog_59_method_13_code_126) ?_
    show Steps p.tables e below (s₁.setTop (mkF m 127 #[Rv out, Lv y0, Zs, Lv y1, Zs, Lv y2, Zs, Lv y3, Zs, Lv y4, Zs, Lv y5, Zs, Lv y6, Zs, Lv y7, Zs, Lv c, Zs, Lv lo, Zs, Lv hi, Zs] [(.int (0 : Int32)), (.ref out)])) tt_
    refine XS.lloadN X0.here hEX rfl (hb hBY d_prog_59_method_13_code_127) rfl ?_
    show Steps p.tables e below (s₁.setTop (mkF m 128 #[Rv out, Lv y0, Zs, Lv y1, Zs, Lv y2, Zs, Lv y3, Zs, Lv y4, Zs, Lv y5, Zs, Lv y6, Zs, Lv y7, Zs, Lv c, Zs, Lv lo, Zs, Lv hi, Zs] [(.long y0), (.int (0 : Int32)), (.ref out)])) tt_
    refine XS.lload X0.here hEX rfl (hb hBY d_prog_59_method_13_code_128) rfl ?_
    show Steps p.tables e below (s₁.setTop (mkF m 130 #[Rv out, Lv y0, Zs, Lv y1, Zs, Lv y2, Zs, Lv y3, Zs, Lv y4, Zs, Lv y5, Zs, Lv y6, Zs, Lv y7, Zs, Lv c, Zs, Lv lo, Zs, Lv hi, Zs] [(.long c), (.long y0), (.int (0 : Int32)), (.ref out)])) tt_
    refine XS.ladd X0.here hEX rfl (hb hBY d_prog_59_method_13_code_130) rfl ?_
    show Steps p.tables e below (s₁.setTop (mkF m 131 #[Rv out, Lv y0, Zs, Lv y1, Zs, Lv y2, Zs, Lv y3, Zs, Lv y4, Zs, Lv y5, Zs, Lv y6, Zs, Lv y7, Zs, Lv c, Zs, Lv lo, Zs, Lv hi, Zs] [(.long (y0 + c)), (.int (0 : Int32)), (.ref out)])) tt_
    refine XS.lload X0.here hEX rfl (hb hBY d_prog_59_method_13_code_131) rfl ?_
    show Steps p.tables e below (s₁.setTop (mkF m 133 #[Rv out, Lv y0, Zs, Lv y1, Zs, Lv y2, Zs, Lv y3, Zs, Lv y4, Zs, Lv y5, Zs, Lv y6, Zs, Lv y7, Zs, Lv c, Zs, Lv lo, Zs, Lv hi, Zs] [(.long lo), (.long (y0 + c)), (.int (0 : Int32)), (.ref out)])) tt_
    refine XS.lsub X0.here hEX rfl (hb hBY d_prog_59_method_13_code_133) rfl ?_
    exact kt_
  refine Done.pre sg_13 ?_
  obtain ⟨cl_12, Ar_12, q_12, S_12, N__12, H_12, G_12⟩ := id Ao
  have hin_12 : ¬ ((0 : Int32) < 0 ∨ cl_12.slots.size ≤ ((0 : Int32)).toNatClampNeg) := inb_of S_12 ⟨by decide, by decide⟩
  obtain ⟨T_14, h_14, X_14, e_14, W_14, st_14⟩ := stJ X0 hEX hZW e0 Ar_12 (j := (0 : Int32)) hin_12 (g := (mkF m 134 #[Rv out, Lv y0, Zs, Lv y1, Zs, Lv y2, Zs, Lv y3, Zs, Lv y4, Zs, Lv y5, Zs, Lv y6, Zs, Lv y7, Zs, Lv c, Zs, Lv lo, Zs, Lv hi, Zs] [(.long ((y0 + c) - lo)), (.int (0 : Int32)), (.ref out)])) rfl rfl (hb hBY d_prog_59_method_13_code_134)
  have N_14 := Fr.snoc X_14 N0 go
  have K__15 : Keep h0 h_14 [out] := K0.wr W_14 (Or.inl (List.mem_of_getElem? (i := 0) rfl))
  have f_16 : Arv Z h_14 out k .long (8 : Int32) [(.long ((y0 + c) - lo)), (.long o1), (.long o2), (.long o3), (.long o4), (.long o5), (.long o6), (.long o7)] (.long (0 : Int64)) := Arv.set Ar_12 q_12 S_12 N__12 H_12 G_12 rfl W_14 0 rfl (Nat.le_of_ble_eq_true rfl)
  refine Done.pre st_14 ?_
  show Done _ _ _ _ _ _ _ (T_14.setTop (mkF m 135 #[Rv out, Lv y0, Zs, Lv y1, Zs, Lv y2, Zs, Lv y3, Zs, Lv y4, Zs, Lv y5, Zs, Lv y6, Zs, Lv y7, Zs, Lv c, Zs, Lv lo, Zs, Lv hi, Zs] []))
  have sg_18 : ∀ tt_, Steps p.tables e below (T_14.setTop (mkF m 141 #[Rv out, Lv y0, Zs, Lv y1, Zs, Lv y2, Zs, Lv y3, Zs, Lv y4, Zs, Lv y5, Zs, Lv y6, Zs, Lv y7, Zs, Lv c, Zs, Lv lo, Zs, Lv hi, Zs] [(.long (y1 - hi)), (.int (1 : Int32)), (.ref out)])) tt_ → Steps p.tables e below (T_14.setTop (mkF m 135 #[Rv out, Lv y0, Zs, Lv y1, Zs, Lv y2, Zs, Lv y3, Zs, Lv y4, Zs, Lv y5, Zs, Lv y6, Zs, Lv y7, Zs, Lv c, Zs, Lv lo, Zs, Lv hi, Zs] [])) tt_ := by
    intro tt_ kt_
    refine XS.aloadN X_14.here hEX rfl (hb hBY d_prog_59_method_13_code_135) rfl rfl ?_
    show Steps p.tables e below (T_14.setTop (mkF m 136 #[Rv out, Lv y0, Zs, Lv y1, Zs, Lv y2, Zs, Lv y3, Zs, Lv y4, Zs, Lv y5, Zs, Lv y6, Zs, Lv y7, Zs, Lv c, Zs, Lv lo, Zs, Lv hi, Zs] [(.ref out)])) tt_
    refine XS.iconst X_14.here hEX rfl (hb hBY d_prog_59_method_13_code_136) ?_
    show Steps p.tables e below (T_14.setTop (mkF m 137 #[Rv out, Lv y0, Zs, Lv y1, Zs, Lv y2, Zs, Lv y3, Zs, Lv y4, Zs, Lv y5, Zs, Lv y6, Zs, Lv y7, Zs, Lv c, Zs, Lv lo, Zs, Lv hi, Zs] [(.int (1 : Int32)), (.ref out)])) tt_
    refine XS.lloadN X_14.here hEX rfl (hb hBY d_prog_59_method_13_code_137) rfl ?_
    show Steps p.tables e below (T_14.setTop (mkF m 138 #[Rv out, Lv y0, Zs, Lv y1, Zs, Lv y2, Zs, Lv y3, Zs, Lv y4, Zs, Lv y5, Zs, Lv y6, Zs, Lv y7, Zs, Lv c, Zs, Lv lo, Zs, Lv hi, Zs] [(.long y1), (.int (1 : Int32)), (.ref out)])) tt_
    refine XS.lload X_14.here hEX rfl (hb hBY d_prog_59_method_13_code_138) rfl ?_
    show Steps p.tables e below (T_14.setTop (mkF m 140 #[Rv out, Lv y0, Zs, Lv y1, Zs, Lv y2, Zs, Lv y3, Zs, Lv y4, Zs, Lv y5, Zs, Lv y6, Zs, Lv y7, Zs, Lv c, Zs, Lv lo, Zs, Lv hi, Zs] [(.long hi), (.long y1), (.int (1 : Int32)), (.ref out)])) tt_
    refine XS.lsub X_14.here hEX rfl (hb hBY d_prog_59_method_13_code_140) rfl ?_
    exact kt_
  refine Done.pre sg_18 ?_
  obtain ⟨cl_17, Ar_17, q_17, S_17, N__17, H_17, G_17⟩ := id f_16
  have hin_17 : ¬ ((1 : Int32) < 0 ∨ cl_17.slots.size ≤ ((1 : Int32)).toNatClampNeg) := inb_of S_17 ⟨by decide, by decide⟩
  obtain ⟨T_19, h_19, X_19, e_19, W_19, st_19⟩ := stJ X_14 hEX hZW e_14 Ar_17 (j := (1 : Int32)) hin_17 (g := (mkF m 141 #[Rv out, Lv y0, Zs, Lv y1, Zs, Lv y2, Zs, Lv y3, Zs, Lv y4, Zs, Lv y5, Zs, Lv y6, Zs, Lv y7, Zs, Lv c, Zs, Lv lo, Zs, Lv hi, Zs] [(.long (y1 - hi)), (.int (1 : Int32)), (.ref out)])) rfl rfl (hb hBY d_prog_59_method_13_code_141)
  have N_19 := Fr.snoc X_19 N_14 go
  have K__20 : Keep h0 h_19 [out] := K__15.wr W_19 (Or.inl (List.mem_of_getElem? (i := 0) rfl))
  have f_21 : Arv Z h_19 out k .long (8 : Int32) [(.long ((y0 + c) - lo)), (.long (y1 - hi)), (.long o2), (.long o3), (.long o4), (.long o5), (.long o6), (.long o7)] (.long (0 : Int64)) := Arv.set Ar_17 q_17 S_17 N__17 H_17 G_17 rfl W_19 1 rfl (Nat.le_of_ble_eq_true rfl)
  refine Done.pre st_19 ?_
  show Done _ _ _ _ _ _ _ (T_19.setTop (mkF m 142 #[Rv out, Lv y0, Zs, Lv y1, Zs, Lv y2, Zs, Lv y3, Zs, Lv y4, Zs, Lv y5, Zs, Lv y6, Zs, Lv y7, Zs, Lv c, Zs, Lv lo, Zs, Lv hi, Zs] []))
  have sg_23 : ∀ tt_, Steps p.tables e below (T_19.setTop (mkF m 152 #[Rv out, Lv y0, Zs, Lv y1, Zs, Lv y2, Zs, Lv y3, Zs, Lv y4, Zs, Lv y5, Zs, Lv y6, Zs, Lv y7, Zs, Lv c, Zs, Lv lo, Zs, Lv hi, Zs] [(.long ((y2 + c) + lo)), (.int (2 : Int32)), (.ref out)])) tt_ → Steps p.tables e below (T_19.setTop (mkF m 142 #[Rv out, Lv y0, Zs, Lv y1, Zs, Lv y2, Zs, Lv y3, Zs, Lv y4, Zs, Lv y5, Zs, Lv y6, Zs, Lv y7, Zs, Lv c, Zs, Lv lo, Zs, Lv hi, Zs] [])) tt_ := by
    intro tt_ kt_
    refine XS.aloadN X_19.here hEX rfl (hb hBY d_prog_59_method_13_code_142) rfl rfl ?_
    show Steps p.tables e below (T_19.setTop (mkF m 143 #[Rv out, Lv y0, Zs, Lv y1, Zs, Lv y2, Zs, Lv y3, Zs, Lv y4, Zs, Lv y5, Zs, Lv y6, Zs, Lv y7, Zs, Lv c, Zs, Lv lo, Zs, Lv hi, Zs] [(.ref out)])) tt_
    refine XS.iconst X_19.here hEX rfl (hb hBY d_prog_59_method_13_code_143) ?_
    show Steps p.tables e below (T_19.setTop (mkF m 144 #[Rv out, Lv y0, Zs, Lv y1, Zs, Lv y2, Zs, Lv y3, Zs, Lv y4, Zs, Lv y5, Zs, Lv y6, Zs, Lv y7, Zs, Lv c, Zs, Lv lo, Zs, Lv hi, Zs] [(.int (2 : Int32)), (.ref out)])) tt_
    refine XS.lload X_19.here hEX rfl (hb hBY d_prog_59_method_13_code_144) rfl ?_
    show Steps p.tables e below (T_19.setTop (mkF m 146 #[Rv out, Lv y0, Zs, Lv y1, Zs, Lv y2, Zs, Lv y3, Zs, Lv y4, Zs, Lv y5, Zs, Lv y6, Zs, Lv y7, Zs, Lv c, Zs, Lv lo, Zs, Lv hi, Zs] [(.long y2), (.int (2 : Int32)), (.ref out)])) tt_
    refine XS.lload X_19.here hEX rfl (hb hBY d_prog_59_method_13_code_146) rfl ?_
    show Steps p.tables e below (T_19.setTop (mkF m 148 #[Rv out, Lv y0, Zs, Lv y1, Zs, Lv y2, Zs, Lv y3, Zs, Lv y4, Zs, Lv y5, Zs, Lv y6, Zs, Lv y7, Zs, Lv c, Zs, Lv lo, Zs, Lv hi, Zs] [(.long c), (.long y2), (.int (2 : Int32)), (.ref out)])) tt_
    refine XS.ladd X_19.here hEX rfl (hb hBY d_prog_59_method_13_code_148) rfl ?_
    show Steps p.tables e below (T_19.setTop (mkF m 149 #[Rv out, Lv y0, Zs, Lv y1, Zs, Lv y2, Zs, Lv y3, Zs, Lv y4, Zs, Lv y5, Zs, Lv y6, Zs, Lv y7, Zs, Lv c, Zs, Lv lo, Zs, Lv hi, Zs] [(.long (y2 + c)), (.int (2 : Int32)), (.ref out)])) tt_
    refine XS.lload X_19.here hEX rfl (hb hBY d_prog_59_method_13_code_149) rfl ?_
    show Steps p.tables e below (T_19.setTop (mkF m 151 #[Rv out, Lv y0, Zs, Lv y1, Zs, Lv y2, Zs, Lv y3, Zs, Lv y4, Zs, Lv y5, Zs, Lv y6, Zs, Lv y7, Zs, Lv c, Zs, Lv lo, Zs, Lv hi, Zs] [(.long lo), (.long (y2 + c)), (.int (2 : Int32)), (.ref out)])) tt_
    refine XS.ladd X_19.here hEX rfl (hb hBY d_prog_59_method_13_code_151) rfl ?_
    exact kt_
  refine Done.pre sg_23 ?_
  obtain ⟨cl_22, Ar_22, q_22, S_22, N__22, H_22, G_22⟩ := id f_21
  have hin_22 : ¬ ((2 : Int32) < 0 ∨ cl_22.slots.size ≤ ((2 : Int32)).toNatClampNeg) := inb_of S_22 ⟨by decide, by decide⟩
  obtain ⟨T_24, h_24, X_24, e_24, W_24, st_24⟩ := stJ X_19 hEX hZW e_19 Ar_22 (j := (2 : Int32)) hin_22 (g := (mkF m 152 #[Rv out, Lv y0, Zs, Lv y1, Zs, Lv y2, Zs, Lv y3, Zs, Lv y4, Zs, Lv y5, Zs, Lv y6, Zs, Lv y7, Zs, Lv c, Zs, Lv lo, Zs, Lv hi, Zs] [(.long ((y2 + c) + lo)), (.int (2 : Int32)), (.ref out)])) rfl rfl (hb hBY d_prog_59_method_13_code_152)
  have N_24 := Fr.snoc X_24 N_19 go
  have K__25 : Keep h0 h_24 [out] := K__20.wr W_24 (Or.inl (List.mem_of_getElem? (i := 0) rfl))
  have f_26 : Arv Z h_24 out k .long (8 : Int32) [(.long ((y0 + c) - lo)), (.long (y1 - hi)), (.long ((y2 + c) + lo)), (.long o3), (.long o4), (.long o5), (.long o6), (.long o7)] (.long (0 : Int64)) := Arv.set Ar_22 q_22 S_22 N__22 H_22 G_22 rfl W_24 2 rfl (Nat.le_of_ble_eq_true rfl)
  refine Done.pre st_24 ?_
  show Done _ _ _ _ _ _ _ (T_24.setTop (mkF m 153 #[Rv out, Lv y0, Zs, Lv y1, Zs, Lv y2, Zs, Lv y3, Zs, Lv y4, Zs, Lv y5, Zs, Lv y6, Zs, Lv y7, Zs, Lv c, Zs, Lv lo, Zs, Lv hi, Zs] []))
  have sg_28 : ∀ tt_, Steps p.tables e below (T_24.setTop (mkF m 160 #[Rv out, Lv y0, Zs, Lv y1, Zs, Lv y2, Zs, Lv y3, Zs, Lv y4, Zs, Lv y5, Zs, Lv y6, Zs, Lv y7, Zs, Lv c, Zs, Lv lo, Zs, Lv hi, Zs] [(.long (y3 + hi)), (.int (3 : Int32)), (.ref out)])) tt_ → Steps p.tables e below (T_24.setTop (mkF m 153 #[Rv out, Lv y0, Zs, Lv y1, Zs, Lv y2, Zs, Lv y3, Zs, Lv y4, Zs, Lv y5, Zs, Lv y6, Zs, Lv y7, Zs, Lv c, Zs, Lv lo, Zs, Lv hi, Zs] [])) tt_ := by
    intro tt_ kt_
    refine XS.aloadN X_24.here hEX rfl (hb hBY d_prog_59_method_13_code_153) rfl rfl ?_
    show Steps p.tables e below (T_24.setTop (mkF m 154 #[Rv out, Lv y0, Zs, Lv y1, Zs, Lv y2, Zs, Lv y3, Zs, Lv y4, Zs, Lv y5, Zs, Lv y6, Zs, Lv y7, Zs, Lv c, Zs, Lv lo, Zs, Lv hi, Zs] [(.ref out)])) tt_
    refine XS.iconst X_24.here hEX rfl (hb hBY d_prog_59_method_13_code_154) ?_
    show Steps p.tables e below (T_24.setTop (mkF m 155 #[Rv out, Lv y0, Zs, Lv y1, Zs, Lv y2, Zs, Lv y3, Zs, Lv y4, Zs, Lv y5, Zs, Lv y6, Zs, Lv y7, Zs, Lv c, Zs, Lv lo, Zs, Lv hi, Zs] [(.int (3 : Int32)), (.ref out)])) tt_
    refine XS.lload X_24.here hEX rfl (hb hBY d_prog_59_method_13_code_155) rfl ?_
    show Steps p.tables e below (T_24.setTop (mkF m 157 #[Rv out, Lv y0, Zs, Lv y1, Zs, Lv y2, Zs, Lv y3, Zs, Lv y4, Zs, Lv y5, Zs, Lv y6, Zs, Lv y7, Zs, Lv c, Zs, Lv lo, Zs, Lv hi, Zs] [(.long y3), (.int (3 : Int32)), (.ref out)])) tt_
    refine XS.lload X_24.here hEX rfl (hb hBY d_prog_59_method_13_code_157) rfl ?_
    show Steps p.tables e below (T_24.setTop (mkF m 159 #[Rv out, Lv y0, Zs, Lv y1, Zs, Lv y2, Zs, Lv y3, Zs, Lv y4, Zs, Lv y5, Zs, Lv y6, Zs, Lv y7, Zs, Lv c, Zs, Lv lo, Zs, Lv hi, Zs] [(.long hi), (.long y3), (.int (3 : Int32)), (.ref out)])) tt_
    refine XS.ladd X_24.here hEX rfl (hb hBY d_prog_59_method_13_code_159) rfl ?_
    exact kt_
  refine Done.pre sg_28 ?_
  obtain ⟨cl_27, Ar_27, q_27, S_27, N__27, H_27, G_27⟩ := id f_26
  have hin_27 : ¬ ((3 : Int32) < 0 ∨ cl_27.slots.size ≤ ((3 : Int32)).toNatClampNeg) := inb_of S_27 ⟨by decide, by decide⟩
  obtain ⟨T_29, h_29, X_29, e_29, W_29, st_29⟩ := stJ X_24 hEX hZW e_24 Ar_27 (j := (3 : Int32)) hin_27 (g := (mkF m 160 #[Rv out, Lv y0, Zs, Lv y1, Zs, Lv y2, Zs, Lv y3, Zs, Lv y4, Zs, Lv y5, Zs, Lv y6, Zs, Lv y7, Zs, Lv c, Zs, Lv lo, Zs, Lv hi, Zs] [(.long (y3 + hi)), (.int (3 : Int32)), (.ref out)])) rfl rfl (hb hBY d_prog_59_method_13_code_160)
  have N_29 := Fr.snoc X_29 N_24 go
  have K__30 : Keep h0 h_29 [out] := K__25.wr W_29 (Or.inl (List.mem_of_getElem? (i := 0) rfl))
  have f_31 : Arv Z h_29 out k .long (8 : Int32) [(.long ((y0 + c) - lo)), (.long (y1 - hi)), (.long ((y2 + c) + lo)), (.long (y3 + hi)), (.long o4), (.long o5), (.long o6), (.long o7)] (.long (0 : Int64)) := Arv.set Ar_27 q_27 S_27 N__27 H_27 G_27 rfl W_29 3 rfl (Nat.le_of_ble_eq_true rfl)
  refine Done.pre st_29 ?_
  show Done _ _ _ _ _ _ _ (T_29.setTop (mkF m 161 #[Rv out, Lv y0, Zs, Lv y1, Zs, Lv y2, Zs, Lv y3, Zs, Lv y4, Zs, Lv y5, Zs, Lv y6, Zs, Lv y7, Zs, Lv c, Zs, Lv lo, Zs, Lv hi, Zs] []))
  have sg_33 : ∀ tt_, Steps p.tables e below (T_29.setTop (mkF m 165 #[Rv out, Lv y0, Zs, Lv y1, Zs, Lv y2, Zs, Lv y3, Zs, Lv y4, Zs, Lv y5, Zs, Lv y6, Zs, Lv y7, Zs, Lv c, Zs, Lv lo, Zs, Lv hi, Zs] [(.long y4), (.int (4 : Int32)), (.ref out)])) tt_ → Steps p.tables e below (T_29.setTop (mkF m 161 #[Rv out, Lv y0, Zs, Lv y1, Zs, Lv y2, Zs, Lv y3, Zs, Lv y4, Zs, Lv y5, Zs, Lv y6, Zs, Lv y7, Zs, Lv c, Zs, Lv lo, Zs, Lv hi, Zs] [])) tt_ := by
    intro tt_ kt_
    refine XS.aloadN X_29.here hEX rfl (hb hBY d_prog_59_method_13_code_161) rfl rfl ?_
    show Steps p.tables e below (T_29.setTop (mkF m 162 #[Rv out, Lv y0, Zs, Lv y1, Zs, Lv y2, Zs, Lv y3, Zs, Lv y4, Zs, Lv y5, Zs, Lv y6, Zs, Lv y7, Zs, Lv c, Zs, Lv lo, Zs, Lv hi, Zs] [(.ref out)])) tt_
    refine XS.iconst X_29.here hEX rfl (hb hBY d_prog_59_method_13_code_162) ?_
    show Steps p.tables e below (T_29.setTop (mkF m 163 #[Rv out, Lv y0, Zs, Lv y1, Zs, Lv y2, Zs, Lv y3, Zs, Lv y4, Zs, Lv y5, Zs, Lv y6, Zs, Lv y7, Zs, Lv c, Zs, Lv lo, Zs, Lv hi, Zs] [(.int (4 : Int32)), (.ref out)])) tt_
    refine XS.lload X_29.here hEX rfl (hb hBY d_prog_59_method_13_code_163) rfl ?_
    exact kt_
  refine Done.pre sg_33 ?_
  obtain ⟨cl_32, Ar_32, q_32, S_32, N__32, H_32, G_32⟩ := id f_31
  have hin_32 : ¬ ((4 : Int32) < 0 ∨ cl_32.slots.size ≤ ((4 : Int32)).toNatClampNeg) := inb_of S_32 ⟨by decide, by decide⟩
  obtain ⟨T_34, h_34, X_34, e_34, W_34, st_34⟩ := stJ X_29 hEX hZW e_29 Ar_32 (j := (4 : Int32)) hin_32 (g := (mkF m 165 #[Rv out, Lv y0, Zs, Lv y1, Zs, Lv y2, Zs, Lv y3, Zs, Lv y4, Zs, Lv y5, Zs, Lv y6, Zs, Lv y7, Zs, Lv c, Zs, Lv lo, Zs, Lv hi, Zs] [(.long y4), (.int (4 : Int32)), (.ref out)])) rfl rfl (hb hBY d_prog_59_method_13_code_165)
  have N_34 := Fr.snoc X_34 N_29 go
  have K__35 : Keep h0 h_34 [out] := K__30.wr W_34 (Or.inl (List.mem_of_getElem? (i := 0) rfl))
  have f_36 : Arv Z h_34 out k .long (8 : Int32) [(.long ((y0 + c) - lo)), (.long (y1 - hi)), (.long ((y2 + c) + lo)), (.long (y3 + hi)), (.long y4), (.long o5), (.long o6), (.long o7)] (.long (0 : Int64)) := Arv.set Ar_32 q_32 S_32 N__32 H_32 G_32 rfl W_34 4 rfl (Nat.le_of_ble_eq_true rfl)
  refine Done.pre st_34 ?_
  show Done _ _ _ _ _ _ _ (T_34.setTop (mkF m 166 #[Rv out, Lv y0, Zs, Lv y1, Zs, Lv y2, Zs, Lv y3, Zs, Lv y4, Zs, Lv y5, Zs, Lv y6, Zs, Lv y7, Zs, Lv c, Zs, Lv lo, Zs, Lv hi, Zs] []))
  have sg_38 : ∀ tt_, Steps p.tables e below (T_34.setTop (mkF m 170 #[Rv out, Lv y0, Zs, Lv y1, Zs, Lv y2, Zs, Lv y3, Zs, Lv y4, Zs, Lv y5, Zs, Lv y6, Zs, Lv y7, Zs, Lv c, Zs, Lv lo, Zs, Lv hi, Zs] [(.long y5), (.int (5 : Int32)), (.ref out)])) tt_ → Steps p.tables e below (T_34.setTop (mkF m 166 #[Rv out, Lv y0, Zs, Lv y1, Zs, Lv y2, Zs, Lv y3, Zs, Lv y4, Zs, Lv y5, Zs, Lv y6, Zs, Lv y7, Zs, Lv c, Zs, Lv lo, Zs, Lv hi, Zs] [])) tt_ := by
    intro tt_ kt_
    refine XS.aloadN X_34.here hEX rfl (hb hBY d_prog_59_method_13_code_166) rfl rfl ?_
    show Steps p.tables e below (T_34.setTop (mkF m 167 #[Rv out, Lv y0, Zs, Lv y1, Zs, Lv y2, Zs, Lv y3, Zs, Lv y4, Zs, Lv y5, Zs, Lv y6, Zs, Lv y7, Zs, Lv c, Zs, Lv lo, Zs, Lv hi, Zs] [(.ref out)])) tt_
    refine XS.iconst X_34.here hEX rfl (hb hBY d_prog_59_method_13_code_167) ?_
    show Steps p.tables e below (T_34.setTop (mkF m 168 #[Rv out, Lv y0, Zs, Lv y1, Zs, Lv y2, Zs, Lv y3, Zs, Lv y4, Zs, Lv y5, Zs, Lv y6, Zs, Lv y7, Zs, Lv c, Zs, Lv lo, Zs, Lv hi, Zs] [(.int (5 : Int32)), (.ref out)])) tt_
    refine XS.lload X_34.here hEX rfl (hb hBY d_prog_59_method_13_code_168) rfl ?_
    exact kt_
  refine Done.pre sg_38 ?_
  obtain ⟨cl_37, Ar_37, q_37, S_37, N__37, H_37, G_37⟩ := id f_36
  have hin_37 : ¬ ((5 : Int32) < 0 ∨ cl_37.slots.size ≤ ((5 : Int32)).toNatClampNeg) := inb_of S_37 ⟨by decide, by decide⟩
  obtain ⟨T_39, h_39, X_39, e_39, W_39, st_39⟩ := stJ X_34 hEX hZW e_34 Ar_37 (j := (5 : Int32)) hin_37 (g := (mkF m 170 #[Rv out, Lv y0, Zs, Lv y1, Zs, Lv y2, Zs, Lv y3, Zs, Lv y4, Zs, Lv y5, Zs, Lv y6, Zs, Lv y7, Zs, Lv c, Zs, Lv lo, Zs, Lv hi, Zs] [(.long y5), (.int (5 : Int32)), (.ref out)])) rfl rfl (hb hBY d_prog_59_method_13_code_170)
  have N_39 := Fr.snoc X_39 N_34 go
  have K__40 : Keep h0 h_39 [out] := K__35.wr W_39 (Or.inl (List.mem_of_getElem? (i := 0) rfl))
  have f_41 : Arv Z h_39 out k .long (8 : Int32) [(.long ((y0 + c) - lo)), (.long (y1 - hi)), (.long ((y2 + c) + lo)), (.long (y3 + hi)), (.long y4), (.long y5), (.long o6), (.long o7)] (.long (0 : Int64)) := Arv.set Ar_37 q_37 S_37 N__37 H_37 G_37 rfl W_39 5 rfl (Nat.le_of_ble_eq_true rfl)
  refine Done.pre st_39 ?_
  show Done _ _ _ _ _ _ _ (T_39.setTop (mkF m 171 #[Rv out, Lv y0, Zs, Lv y1, Zs, Lv y2, Zs, Lv y3, Zs, Lv y4, Zs, Lv y5, Zs, Lv y6, Zs, Lv y7, Zs, Lv c, Zs, Lv lo, Zs, Lv hi, Zs] []))
  have sg_43 : ∀ tt_, Steps p.tables e below (T_39.setTop (mkF m 176 #[Rv out, Lv y0, Zs, Lv y1, Zs, Lv y2, Zs, Lv y3, Zs, Lv y4, Zs, Lv y5, Zs, Lv y6, Zs, Lv y7, Zs, Lv c, Zs, Lv lo, Zs, Lv hi, Zs] [(.long y6), (.int (6 : Int32)), (.ref out)])) tt_ → Steps p.tables e below (T_39.setTop (mkF m 171 #[Rv out, Lv y0, Zs, Lv y1, Zs, Lv y2, Zs, Lv y3, Zs, Lv y4, Zs, Lv y5, Zs, Lv y6, Zs, Lv y7, Zs, Lv c, Zs, Lv lo, Zs, Lv hi, Zs] [])) tt_ := by
    intro tt_ kt_
    refine XS.aloadN X_39.here hEX rfl (hb hBY d_prog_59_method_13_code_171) rfl rfl ?_
    show Steps p.tables e below (T_39.setTop (mkF m 172 #[Rv out, Lv y0, Zs, Lv y1, Zs, Lv y2, Zs, Lv y3, Zs, Lv y4, Zs, Lv y5, Zs, Lv y6, Zs, Lv y7, Zs, Lv c, Zs, Lv lo, Zs, Lv hi, Zs] [(.ref out)])) tt_
    refine XS.bipush X_39.here hEX rfl (hb hBY d_prog_59_method_13_code_172) ?_
    show Steps p.tables e below (T_39.setTop (mkF m 174 #[Rv out, Lv y0, Zs, Lv y1, Zs, Lv y2, Zs, Lv y3, Zs, Lv y4, Zs, Lv y5, Zs, Lv y6, Zs, Lv y7, Zs, Lv c, Zs, Lv lo, Zs, Lv hi, Zs] [(.int (6 : Int32)), (.ref out)])) tt_
    refine XS.lload X_39.here hEX rfl (hb hBY d_prog_59_method_13_code_174) rfl ?_
    exact kt_
  refine Done.pre sg_43 ?_
  obtain ⟨cl_42, Ar_42, q_42, S_42, N__42, H_42, G_42⟩ := id f_41
  have hin_42 : ¬ ((6 : Int32) < 0 ∨ cl_42.slots.size ≤ ((6 : Int32)).toNatClampNeg) := inb_of S_42 ⟨by decide, by decide⟩
  obtain ⟨T_44, h_44, X_44, e_44, W_44, st_44⟩ := stJ X_39 hEX hZW e_39 Ar_42 (j := (6 : Int32)) hin_42 (g := (mkF m 176 #[Rv out, Lv y0, Zs, Lv y1, Zs, Lv y2, Zs, Lv y3, Zs, Lv y4, Zs, Lv y5, Zs, Lv y6, Zs, Lv y7, Zs, Lv c, Zs, Lv lo, Zs, Lv hi, Zs] [(.long y6), (.int (6 : Int32)), (.ref out)])) rfl rfl (hb hBY d_prog_59_method_13_code_176)
  have N_44 := Fr.snoc X_44 N_39 go
  have K__45 : Keep h0 h_44 [out] := K__40.wr W_44 (Or.inl (List.mem_of_getElem? (i := 0) rfl))
  have f_46 : Arv Z h_44 out k .long (8 : Int32) [(.long ((y0 + c) - lo)), (.long (y1 - hi)), (.long ((y2 + c) + lo)), (.long (y3 + hi)), (.long y4), (.long y5), (.long y6), (.long o7)] (.long (0 : Int64)) := Arv.set Ar_42 q_42 S_42 N__42 H_42 G_42 rfl W_44 6 rfl (Nat.le_of_ble_eq_true rfl)
  refine Done.pre st_44 ?_
  show Done _ _ _ _ _ _ _ (T_44.setTop (mkF m 177 #[Rv out, Lv y0, Zs, Lv y1, Zs, Lv y2, Zs, Lv y3, Zs, Lv y4, Zs, Lv y5, Zs, Lv y6, Zs, Lv y7, Zs, Lv c, Zs, Lv lo, Zs, Lv hi, Zs] []))
  have sg_48 : ∀ tt_, Steps p.tables e below (T_44.setTop (mkF m 182 #[Rv out, Lv y0, Zs, Lv y1, Zs, Lv y2, Zs, Lv y3, Zs, Lv y4, Zs, Lv y5, Zs, Lv y6, Zs, Lv y7, Zs, Lv c, Zs, Lv lo, Zs, Lv hi, Zs] [(.long y7), (.int (7 : Int32)), (.ref out)])) tt_ → Steps p.tables e below (T_44.setTop (mkF m 177 #[Rv out, Lv y0, Zs, Lv y1, Zs, Lv y2, Zs, Lv y3, Zs, Lv y4, Zs, Lv y5, Zs, Lv y6, Zs, Lv y7, Zs, Lv c, Zs, Lv lo, Zs, Lv hi, Zs] [])) tt_ := by
    intro tt_ kt_
    refine XS.aloadN X_44.here hEX rfl (hb hBY d_prog_59_method_13_code_177) rfl rfl ?_
    show Steps p.tables e below (T_44.setTop (mkF m 178 #[Rv out, Lv y0, Zs, Lv y1, Zs, Lv y2, Zs, Lv y3, Zs, Lv y4, Zs, Lv y5, Zs, Lv y6, Zs, Lv y7, Zs, Lv c, Zs, Lv lo, Zs, Lv hi, Zs] [(.ref out)])) tt_
    refine XS.bipush X_44.here hEX rfl (hb hBY d_prog_59_method_13_code_178) ?_
    show Steps p.tables e below (T_44.setTop (mkF m 180 #[Rv out, Lv y0, Zs, Lv y1, Zs, Lv y2, Zs, Lv y3, Zs, Lv y4, Zs, Lv y5, Zs, Lv y6, Zs, Lv y7, Zs, Lv c, Zs, Lv lo, Zs, Lv hi, Zs] [(.int (7 : Int32)), (.ref out)])) tt_
    refine XS.lload X_44.here hEX rfl (hb hBY d_prog_59_method_13_code_180) rfl ?_
    exact kt_
  refine Done.pre sg_48 ?_
  obtain ⟨cl_47, Ar_47, q_47, S_47, N__47, H_47, G_47⟩ := id f_46
  have hin_47 : ¬ ((7 : Int32) < 0 ∨ cl_47.slots.size ≤ ((7 : Int32)).toNatClampNeg) := inb_of S_47 ⟨by decide, by decide⟩
  obtain ⟨T_49, h_49, X_49, e_49, W_49, st_49⟩ := stJ X_44 hEX hZW e_44 Ar_47 (j := (7 : Int32)) hin_47 (g := (mkF m 182 #[Rv out, Lv y0, Zs, Lv y1, Zs, Lv y2, Zs, Lv y3, Zs, Lv y4, Zs, Lv y5, Zs, Lv y6, Zs, Lv y7, Zs, Lv c, Zs, Lv lo, Zs, Lv hi, Zs] [(.long y7), (.int (7 : Int32)), (.ref out)])) rfl rfl (hb hBY d_prog_59_method_13_code_182)
  have N_49 := Fr.snoc X_49 N_44 go
  have K__50 : Keep h0 h_49 [out] := K__45.wr W_49 (Or.inl (List.mem_of_getElem? (i := 0) rfl))
  have f_51 : Arv Z h_49 out k .long (8 : Int32) [(.long ((y0 + c) - lo)), (.long (y1 - hi)), (.long ((y2 + c) + lo)), (.long (y3 + hi)), (.long y4), (.long y5), (.long y6), (.long y7)] (.long (0 : Int64)) := Arv.set Ar_47 q_47 S_47 N__47 H_47 G_47 rfl W_49 7 rfl (Nat.le_of_ble_eq_true rfl)
  refine Done.pre st_49 ?_
  show Done _ _ _ _ _ _ _ (T_49.setTop (mkF m 183 #[Rv out, Lv y0, Zs, Lv y1, Zs, Lv y2, Zs, Lv y3, Zs, Lv y4, Zs, Lv y5, Zs, Lv y6, Zs, Lv y7, Zs, Lv c, Zs, Lv lo, Zs, Lv hi, Zs] []))
  exact Done.retV X_49 hEX hLK hRT (hb hBY d_prog_59_method_13_code_183) (by rw [e_49]; exact ⟨((y0 + c) - lo), (y1 - hi), ((y2 + c) + lo), (y3 + hi), y4, y5, y6, y7, rfl, N_49, K__50, f_51, (own_store x0 x1 x2 x3 x4 x5 x6 x7 c y7 y6 y5 y4 y3 y2 y1 y0 lo hi hR hc hy7 hy6 hy5 hy4 hy3 hy2 hy1 hy0 hlo hhi).1, (own_store x0 x1 x2 x3 x4 x5 x6 x7 c y7 y6 y5 y4 y3 y2 y1 y0 lo hi hR hc hy7 hy6 hy5 hy4 hy3 hy2 hy1 hy0 hlo hhi).2⟩) (by decide) (by decide)
theorem d_prog_59_method_8_code_0 : decode prog_59_method_8_code 0 = .ok (.aload_n 2, 1) := by decide +kernel
theorem d_prog_59_method_8_code_1 : decode prog_59_method_8_code 1 = .ok (.aload_n 0, 1) := by decide +kernel
theorem d_prog_59_method_8_code_2 : decode prog_59_method_8_code 2 = .ok (.iconst 0, 1) := by decide +kernel
theorem d_prog_59_method_8_code_3 : decode prog_59_method_8_code 3 = .ok (.laload, 1) := by decide +kernel
theorem d_prog_59_method_8_code_4 : decode prog_59_method_8_code 4 = .ok (.aload_n 1, 1) := by decide +kernel
theorem d_prog_59_method_8_code_5 : decode prog_59_method_8_code 5 = .ok (.iconst 0, 1) := by decide +kernel
theorem d_prog_59_method_8_code_6 : decode prog_59_method_8_code 6 = .ok (.laload, 1) := by decide +kernel
theorem d_prog_59_method_8_code_7 : decode prog_59_method_8_code 7 = .ok (.ladd, 1) := by decide +kernel
theorem d_prog_59_method_8_code_8 : decode prog_59_method_8_code 8 = .ok (.aload_n 0, 1) := by decide +kernel
theorem d_prog_59_method_8_code_9 : decode prog_59_method_8_code 9 = .ok (.iconst 1, 1) := by decide +kernel
theorem d_prog_59_method_8_code_10 : decode prog_59_method_8_code 10 = .ok (.laload, 1) := by decide +kernel
theorem d_prog_59_method_8_code_11 : decode prog_59_method_8_code 11 = .ok (.aload_n 1, 1) := by decide +kernel
theorem d_prog_59_method_8_code_12 : decode prog_59_method_8_code 12 = .ok (.iconst 1, 1) := by decide +kernel
theorem d_prog_59_method_8_code_13 : decode prog_59_method_8_code 13 = .ok (.laload, 1) := by decide +kernel
theorem d_prog_59_method_8_code_14 : decode prog_59_method_8_code 14 = .ok (.ladd, 1) := by decide +kernel
theorem d_prog_59_method_8_code_15 : decode prog_59_method_8_code 15 = .ok (.aload_n 0, 1) := by decide +kernel
theorem d_prog_59_method_8_code_16 : decode prog_59_method_8_code 16 = .ok (.iconst 2, 1) := by decide +kernel
theorem d_prog_59_method_8_code_17 : decode prog_59_method_8_code 17 = .ok (.laload, 1) := by decide +kernel
theorem d_prog_59_method_8_code_18 : decode prog_59_method_8_code 18 = .ok (.aload_n 1, 1) := by decide +kernel
theorem d_prog_59_method_8_code_19 : decode prog_59_method_8_code 19 = .ok (.iconst 2, 1) := by decide +kernel
theorem d_prog_59_method_8_code_20 : decode prog_59_method_8_code 20 = .ok (.laload, 1) := by decide +kernel
theorem d_prog_59_method_8_code_21 : decode prog_59_method_8_code 21 = .ok (.ladd, 1) := by decide +kernel
theorem d_prog_59_method_8_code_22 : decode prog_59_method_8_code 22 = .ok (.aload_n 0, 1) := by decide +kernel
theorem d_prog_59_method_8_code_23 : decode prog_59_method_8_code 23 = .ok (.iconst 3, 1) := by decide +kernel
theorem d_prog_59_method_8_code_24 : decode prog_59_method_8_code 24 = .ok (.laload, 1) := by decide +kernel
theorem d_prog_59_method_8_code_25 : decode prog_59_method_8_code 25 = .ok (.aload_n 1, 1) := by decide +kernel
theorem d_prog_59_method_8_code_26 : decode prog_59_method_8_code 26 = .ok (.iconst 3, 1) := by decide +kernel
theorem d_prog_59_method_8_code_27 : decode prog_59_method_8_code 27 = .ok (.laload, 1) := by decide +kernel
theorem d_prog_59_method_8_code_28 : decode prog_59_method_8_code 28 = .ok (.ladd, 1) := by decide +kernel
theorem d_prog_59_method_8_code_29 : decode prog_59_method_8_code 29 = .ok (.aload_n 0, 1) := by decide +kernel
theorem d_prog_59_method_8_code_30 : decode prog_59_method_8_code 30 = .ok (.iconst 4, 1) := by decide +kernel
theorem d_prog_59_method_8_code_31 : decode prog_59_method_8_code 31 = .ok (.laload, 1) := by decide +kernel
theorem d_prog_59_method_8_code_32 : decode prog_59_method_8_code 32 = .ok (.aload_n 1, 1) := by decide +kernel
theorem d_prog_59_method_8_code_33 : decode prog_59_method_8_code 33 = .ok (.iconst 4, 1) := by decide +kernel
theorem d_prog_59_method_8_code_34 : decode prog_59_method_8_code 34 = .ok (.laload, 1) := by decide +kernel
theorem d_prog_59_method_8_code_35 : decode prog_59_method_8_code 35 = .ok (.ladd, 1) := by decide +kernel
theorem d_prog_59_method_8_code_36 : decode prog_59_method_8_code 36 = .ok (.aload_n 0, 1) := by decide +kernel
theorem d_prog_59_method_8_code_37 : decode prog_59_method_8_code 37 = .ok (.iconst 5, 1) := by decide +kernel
theorem d_prog_59_method_8_code_38 : decode prog_59_method_8_code 38 = .ok (.laload, 1) := by decide +kernel
theorem d_prog_59_method_8_code_39 : decode prog_59_method_8_code 39 = .ok (.aload_n 1, 1) := by decide +kernel
theorem d_prog_59_method_8_code_40 : decode prog_59_method_8_code 40 = .ok (.iconst 5, 1) := by decide +kernel
theorem d_prog_59_method_8_code_41 : decode prog_59_method_8_code 41 = .ok (.laload, 1) := by decide +kernel
theorem d_prog_59_method_8_code_42 : decode prog_59_method_8_code 42 = .ok (.ladd, 1) := by decide +kernel
theorem d_prog_59_method_8_code_43 : decode prog_59_method_8_code 43 = .ok (.aload_n 0, 1) := by decide +kernel
theorem d_prog_59_method_8_code_44 : decode prog_59_method_8_code 44 = .ok (.bipush 6, 2) := by decide +kernel
theorem d_prog_59_method_8_code_46 : decode prog_59_method_8_code 46 = .ok (.laload, 1) := by decide +kernel
theorem d_prog_59_method_8_code_47 : decode prog_59_method_8_code 47 = .ok (.aload_n 1, 1) := by decide +kernel
theorem d_prog_59_method_8_code_48 : decode prog_59_method_8_code 48 = .ok (.bipush 6, 2) := by decide +kernel
theorem d_prog_59_method_8_code_50 : decode prog_59_method_8_code 50 = .ok (.laload, 1) := by decide +kernel
theorem d_prog_59_method_8_code_51 : decode prog_59_method_8_code 51 = .ok (.ladd, 1) := by decide +kernel
theorem d_prog_59_method_8_code_52 : decode prog_59_method_8_code 52 = .ok (.aload_n 0, 1) := by decide +kernel
theorem d_prog_59_method_8_code_53 : decode prog_59_method_8_code 53 = .ok (.bipush 7, 2) := by decide +kernel
theorem d_prog_59_method_8_code_55 : decode prog_59_method_8_code 55 = .ok (.laload, 1) := by decide +kernel
theorem d_prog_59_method_8_code_56 : decode prog_59_method_8_code 56 = .ok (.aload_n 1, 1) := by decide +kernel
theorem d_prog_59_method_8_code_57 : decode prog_59_method_8_code 57 = .ok (.bipush 7, 2) := by decide +kernel
theorem d_prog_59_method_8_code_59 : decode prog_59_method_8_code 59 = .ok (.laload, 1) := by decide +kernel
theorem d_prog_59_method_8_code_60 : decode prog_59_method_8_code 60 = .ok (.ladd, 1) := by decide +kernel
theorem d_prog_59_method_8_code_61 : decode prog_59_method_8_code 61 = .ok (.invokestatic 46, 3) := by decide +kernel
theorem pd___JJJJJJJJJ_V_8 : parseMethodDescriptor "([JJJJJJJJJ)V" = some ⟨[(.array .long), .long, .long, .long, .long, .long, .long, .long, .long], none⟩ := by decide +kernel
theorem d_prog_59_method_8_code_64 : decode prog_59_method_8_code 64 = .ok (.return_, 1) := by decide +kernel
def Qrm_add_abo (Z : State) (a : Addr) (b : Addr) (o : Addr) (k_a : ClassId) (u_a_0 : Int64) (u_a_1 : Int64) (u_a_2 : Int64) (u_a_3 : Int64) (u_a_4 : Int64) (u_a_5 : Int64) (u_a_6 : Int64) (u_a_7 : Int64) (k_b : ClassId) (u_b_0 : Int64) (u_b_1 : Int64) (u_b_2 : Int64) (u_b_3 : Int64) (u_b_4 : Int64) (u_b_5 : Int64) (u_b_6 : Int64) (u_b_7 : Int64) (k_o : ClassId) (u_o_0 : Int64) (u_o_1 : Int64) (u_o_2 : Int64) (u_o_3 : Int64) (u_o_4 : Int64) (u_o_5 : Int64) (u_o_6 : Int64) (u_o_7 : Int64) (h0 : Heap) (n0 : Nat) (v_ : Option Value) (h_ : Heap) (L_ : List Loc) : Prop := ∃ (r0 : Int64), ∃ (r1 : Int64), ∃ (r2 : Int64), ∃ (r3 : Int64), ∃ (r4 : Int64), ∃ (r5 : Int64), ∃ (r6 : Int64), ∃ (r7 : Int64), v_ = none ∧ Fr n0 L_ ∧ Keep h0 h_ [o] ∧ Arv Z h_ o k_o .long (8 : Int32) [(.long r0), (.long r1), (.long r2), (.long r3), (.long r4), (.long r5), (.long r6), (.long r7)] (.long (0 : Int64)) ∧ own_R 562949953421440 r0 r1 r2 r3 r4 r5 r6 r7 ∧ own_M ((own_W u_a_0 u_a_1 u_a_2 u_a_3 u_a_4 u_a_5 u_a_6 u_a_7 + own_W u_b_0 u_b_1 u_b_2 u_b_3 u_b_4 u_b_5 u_b_6 u_b_7) - own_W r0 r1 r2 r3 r4 r5 r6 r7)
theorem ef_rm_add_abo (m : MethodId) (x0 : Addr) (x1 : Addr) (x2 : Addr) : entryFrame m #[(.ref x0), (.ref x1), (.ref x2)] 3 = mkF m 0 #[.val (.ref x0), .val (.ref x1), .val (.ref x2)] [] := by first | (simp [entryFrame, mkF, argsToLocals, Value.category]; done) | rfl
set_option maxRecDepth 65536 in
set_option maxHeartbeats 40000000 in
theorem rm_add_abo (l : Launch) (Z : State) (aZ : Array Value) (hw : ∀ d ∈ tables_1, d.before aZ Z = true) (ws : List Jvm.Cond) (a : Addr) (b : Addr) (o : Addr) (k_a : ClassId) (u_a_0 : Int64) (u_a_1 : Int64) (u_a_2 : Int64) (u_a_3 : Int64) (u_a_4 : Int64) (u_a_5 : Int64) (u_a_6 : Int64) (u_a_7 : Int64) (k_b : ClassId) (u_b_0 : Int64) (u_b_1 : Int64) (u_b_2 : Int64) (u_b_3 : Int64) (u_b_4 : Int64) (u_b_5 : Int64) (u_b_6 : Int64) (u_b_7 : Int64) (k_o : ClassId) (u_o_0 : Int64) (u_o_1 : Int64) (u_o_2 : Int64) (u_o_3 : Int64) (u_o_4 : Int64) (u_o_5 : Int64) (u_o_6 : Int64) (u_o_7 : Int64) (h0 : Heap) (n0 : Nat) (Z0 : n0 ≤ h0.size) (A_a : Arv Z h0 a k_a .long (8 : Int32) [(.long u_a_0), (.long u_a_1), (.long u_a_2), (.long u_a_3), (.long u_a_4), (.long u_a_5), (.long u_a_6), (.long u_a_7)] (.long (0 : Int64))) (A_b : Arv Z h0 b k_b .long (8 : Int32) [(.long u_b_0), (.long u_b_1), (.long u_b_2), (.long u_b_3), (.long u_b_4), (.long u_b_5), (.long u_b_6), (.long u_b_7)] (.long (0 : Int64))) (A_o : Arv Z h0 o k_o .long (8 : Int32) [(.long u_o_0), (.long u_o_1), (.long u_o_2), (.long u_o_3), (.long u_o_4), (.long u_o_5), (.long u_o_6), (.long u_o_7)] (.long (0 : Int64))) (go : n0 ≤ o) (ne_a_b : a ≠ b) (ne_a_o : a ≠ o) (ne_b_o : b ≠ o) (hRa : own_R 1125899906842624 u_a_0 u_a_1 u_a_2 u_a_3 u_a_4 u_a_5 u_a_6 u_a_7) (hRb : own_R 1125899906842624 u_b_0 u_b_1 u_b_2 u_b_3 u_b_4 u_b_5 u_b_6 u_b_7) :
    MetFree l (⟨"com/example/guard3/guard3/P384Field", "add", "([J[J[J)V"⟩ : MethodName) (head1 (Jvm.Cond.code (⟨"com/example/guard3/guard3/P384Field", "add", "([J[J[J)V"⟩ : MethodName) prog_59_method_8_code 3 none :: ws) ({ frames := 1, cells := 0, slots := 0, locals := 34 } : Room)) (fun a_ U_ => a_ = #[(.ref a), (.ref b), (.ref o)] ∧ Z.Warmed39 U_.vm ∧ U_.heap = h0) (fun _ _ _ _ _ => True) (fun _ U_ o_ U2_ => ∃ v_ L_, o_ = .returned v_ ∧ Qrm_add_abo Z a b o k_a u_a_0 u_a_1 u_a_2 u_a_3 u_a_4 u_a_5 u_a_6 u_a_7 k_b u_b_0 u_b_1 u_b_2 u_b_3 u_b_4 u_b_5 u_b_6 u_b_7 k_o u_o_0 u_o_1 u_o_2 u_o_3 u_o_4 u_o_5 u_o_6 u_o_7 h0 n0 v_ U2_.heap L_ ∧ FrameEnd U_ o_ U2_ L_ ({ frames := 1, cells := 0, slots := 0, locals := 34 } : Room).cells ({ frames := 1, cells := 0, slots := 0, locals := 34 } : Room).slots) := by
  refine MetFree.of_bodySF (plainFor_of_name pn_com_example_guard3_guard3_P384Field) hisR ?_
  intro p e s m args below meth cO s₁ Bd hml0 hP hK
  obtain ⟨rfl, hZW, hh⟩ := hP
  have hEX := Bd.exec
  have hBY := Bd.bytes
  have hMX : cO.maxLocals = 3 := hml0
  have hOW : s.vm.findClass "com/example/guard3/guard3/P384Field" = some m.cls := findClass_of_methodNamed Bd.named
  have hNM := (name_of_methodNamed Bd.named Bd.method).1
  have hLK := Bd.notSynchronized
  have hRT := Bd.returns
  have X0 : Stand p l e ({ frames := 1, cells := 0, slots := 0, locals := 34 } : Room) s m #[(.ref a), (.ref b), (.ref o)] below meth cO s₁ [] 0 0 := Stand.of_body Bd
  have e0 : s₁.heap = h0 := by rw [← hh, Bd.state]; rfl
  have N0 := Fr.nil n0
  have K0 : Keep h0 h0 [o] := Keep.refl _ _
  show Done p e below s (Qrm_add_abo Z a b o k_a u_a_0 u_a_1 u_a_2 u_a_3 u_a_4 u_a_5 u_a_6 u_a_7 k_b u_b_0 u_b_1 u_b_2 u_b_3 u_b_4 u_b_5 u_b_6 u_b_7 k_o u_o_0 u_o_1 u_o_2 u_o_3 u_o_4 u_o_5 u_o_6 u_o_7 h0 n0) ({ frames := 1, cells := 0, slots := 0, locals := 34 } : Room).cells ({ frames := 1, cells := 0, slots := 0, locals := 34 } : Room).slots (s₁.setTop (entryFrame m #[(.ref a), (.ref b), (.ref o)] 3))
  refine Done.pre (fun t_ k_ => castTop (ef_rm_add_abo m a b o) k_) ?_
  show Done _ _ _ _ _ _ _ (s₁.setTop (mkF m 0 #[Rv a, Rv b, Rv o] []))
  obtain ⟨cl_1, Ar_1, q_1, S_1, N__1, H_1, G_1⟩ := id A_a
  have hin_1 : ¬ ((0 : Int32) < 0 ∨ cl_1.slots.size ≤ ((0 : Int32)).toNatClampNeg) := inb_of S_1 ⟨by decide, by decide⟩
  have hat_1 : cl_1.slots[((0 : Int32)).toNatClampNeg]? = some (.long u_a_0) := H_1.at hin_1 rfl
  obtain ⟨cl_2, Ar_2, q_2, S_2, N__2, H_2, G_2⟩ := id A_b
  have hin_2 : ¬ ((0 : Int32) < 0 ∨ cl_2.slots.size ≤ ((0 : Int32)).toNatClampNeg) := inb_of S_2 ⟨by decide, by decide⟩
  have hat_2 : cl_2.slots[((0 : Int32)).toNatClampNeg]? = some (.long u_b_0) := H_2.at hin_2 rfl
  obtain ⟨cl_3, Ar_3, q_3, S_3, N__3, H_3, G_3⟩ := id A_a
  have hin_3 : ¬ ((1 : Int32) < 0 ∨ cl_3.slots.size ≤ ((1 : Int32)).toNatClampNeg) := inb_of S_3 ⟨by decide, by decide⟩
  have hat_3 : cl_3.slots[((1 : Int32)).toNatClampNeg]? = some (.long u_a_1) := H_3.at hin_3 rfl
  obtain ⟨cl_4, Ar_4, q_4, S_4, N__4, H_4, G_4⟩ := id A_b
  have hin_4 : ¬ ((1 : Int32) < 0 ∨ cl_4.slots.size ≤ ((1 : Int32)).toNatClampNeg) := inb_of S_4 ⟨by decide, by decide⟩
  have hat_4 : cl_4.slots[((1 : Int32)).toNatClampNeg]? = some (.long u_b_1) := H_4.at hin_4 rfl
  obtain ⟨cl_5, Ar_5, q_5, S_5, N__5, H_5, G_5⟩ := id A_a
  have hin_5 : ¬ ((2 : Int32) < 0 ∨ cl_5.slots.size ≤ ((2 : Int32)).toNatClampNeg) := inb_of S_5 ⟨by decide, by decide⟩
  have hat_5 : cl_5.slots[((2 : Int32)).toNatClampNeg]? = some (.long u_a_2) := H_5.at hin_5 rfl
  obtain ⟨cl_6, Ar_6, q_6, S_6, N__6, H_6, G_6⟩ := id A_b
  have hin_6 : ¬ ((2 : Int32) < 0 ∨ cl_6.slots.size ≤ ((2 : Int32)).toNatClampNeg) := inb_of S_6 ⟨by decide, by decide⟩
  have hat_6 : cl_6.slots[((2 : Int32)).toNatClampNeg]? = some (.long u_b_2) := H_6.at hin_6 rfl
  obtain ⟨cl_7, Ar_7, q_7, S_7, N__7, H_7, G_7⟩ := id A_a
  have hin_7 : ¬ ((3 : Int32) < 0 ∨ cl_7.slots.size ≤ ((3 : Int32)).toNatClampNeg) := inb_of S_7 ⟨by decide, by decide⟩
  have hat_7 : cl_7.slots[((3 : Int32)).toNatClampNeg]? = some (.long u_a_3) := H_7.at hin_7 rfl
  obtain ⟨cl_8, Ar_8, q_8, S_8, N__8, H_8, G_8⟩ := id A_b
  have hin_8 : ¬ ((3 : Int32) < 0 ∨ cl_8.slots.size ≤ ((3 : Int32)).toNatClampNeg) := inb_of S_8 ⟨by decide, by decide⟩
  have hat_8 : cl_8.slots[((3 : Int32)).toNatClampNeg]? = some (.long u_b_3) := H_8.at hin_8 rfl
  obtain ⟨cl_9, Ar_9, q_9, S_9, N__9, H_9, G_9⟩ := id A_a
  have hin_9 : ¬ ((4 : Int32) < 0 ∨ cl_9.slots.size ≤ ((4 : Int32)).toNatClampNeg) := inb_of S_9 ⟨by decide, by decide⟩
  have hat_9 : cl_9.slots[((4 : Int32)).toNatClampNeg]? = some (.long u_a_4) := H_9.at hin_9 rfl
  obtain ⟨cl_10, Ar_10, q_10, S_10, N__10, H_10, G_10⟩ := id A_b
  have hin_10 : ¬ ((4 : Int32) < 0 ∨ cl_10.slots.size ≤ ((4 : Int32)).toNatClampNeg) := inb_of S_10 ⟨by decide, by decide⟩
  have hat_10 : cl_10.slots[((4 : Int32)).toNatClampNeg]? = some (.long u_b_4) := H_10.at hin_10 rfl
  obtain ⟨cl_11, Ar_11, q_11, S_11, N__11, H_11, G_11⟩ := id A_a
  have hin_11 : ¬ ((5 : Int32) < 0 ∨ cl_11.slots.size ≤ ((5 : Int32)).toNatClampNeg) := inb_of S_11 ⟨by decide, by decide⟩
  have hat_11 : cl_11.slots[((5 : Int32)).toNatClampNeg]? = some (.long u_a_5) := H_11.at hin_11 rfl
  obtain ⟨cl_12, Ar_12, q_12, S_12, N__12, H_12, G_12⟩ := id A_b
  have hin_12 : ¬ ((5 : Int32) < 0 ∨ cl_12.slots.size ≤ ((5 : Int32)).toNatClampNeg) := inb_of S_12 ⟨by decide, by decide⟩
  have hat_12 : cl_12.slots[((5 : Int32)).toNatClampNeg]? = some (.long u_b_5) := H_12.at hin_12 rfl
  obtain ⟨cl_13, Ar_13, q_13, S_13, N__13, H_13, G_13⟩ := id A_a
  have hin_13 : ¬ ((6 : Int32) < 0 ∨ cl_13.slots.size ≤ ((6 : Int32)).toNatClampNeg) := inb_of S_13 ⟨by decide, by decide⟩
  have hat_13 : cl_13.slots[((6 : Int32)).toNatClampNeg]? = some (.long u_a_6) := H_13.at hin_13 rfl
  obtain ⟨cl_14, Ar_14, q_14, S_14, N__14, H_14, G_14⟩ := id A_b
  have hin_14 : ¬ ((6 : Int32) < 0 ∨ cl_14.slots.size ≤ ((6 : Int32)).toNatClampNeg) := inb_of S_14 ⟨by decide, by decide⟩
  have hat_14 : cl_14.slots[((6 : Int32)).toNatClampNeg]? = some (.long u_b_6) := H_14.at hin_14 rfl
  obtain ⟨cl_15, Ar_15, q_15, S_15, N__15, H_15, G_15⟩ := id A_a
  have hin_15 : ¬ ((7 : Int32) < 0 ∨ cl_15.slots.size ≤ ((7 : Int32)).toNatClampNeg) := inb_of S_15 ⟨by decide, by decide⟩
  have hat_15 : cl_15.slots[((7 : Int32)).toNatClampNeg]? = some (.long u_a_7) := H_15.at hin_15 rfl
  obtain ⟨cl_16, Ar_16, q_16, S_16, N__16, H_16, G_16⟩ := id A_b
  have hin_16 : ¬ ((7 : Int32) < 0 ∨ cl_16.slots.size ≤ ((7 : Int32)).toNatClampNeg) := inb_of S_16 ⟨by decide, by decide⟩
  have hat_16 : cl_16.slots[((7 : Int32)).toNatClampNeg]? = some (.long u_b_7) := H_16.at hin_16 rfl
  have sg_17 : ∀ tt_, Steps p.tables e below (s₁.setTop (mkF m 61 #[Rv a, Rv b, Rv o] [(.long (u_a_7 + u_b_7)), (.long (u_a_6 + u_b_6)), (.long (u_a_5 + u_b_5)), (.long (u_a_4 + u_b_4)), (.long (u_a_3 + u_b_3)), (.long (u_a_2 + u_b_2)), (.long (u_a_1 + u_b_1)), (.long (u_a_0 + u_b_0)), (.ref o)])) tt_ → Steps p.tables e below (s₁.setTop (mkF m 0 #[Rv a, Rv b, Rv o] [])) tt_ := by
    intro tt_ kt_
    refine XS.aloadN X0.here hEX rfl (hb hBY d_prog_59_method_8_code_0) rfl rfl ?_
    show Steps p.tables e below (s₁.setTop (mkF m 1 #[Rv a, Rv b, Rv o] [(.ref o)])) tt_
    refine XS.aloadN X0.here hEX rfl (hb hBY d_prog_59_method_8_code_1) rfl rfl ?_
    show Steps p.tables e below (s₁.setTop (mkF m 2 #[Rv a, Rv b, Rv o] [(.ref a), (.ref o)])) tt_
    refine XS.iconst X0.here hEX rfl (hb hBY d_prog_59_method_8_code_2) ?_
    show Steps p.tables e below (s₁.setTop (mkF m 3 #[Rv a, Rv b, Rv o] [(.int (0 : Int32)), (.ref a), (.ref o)])) tt_
    refine X0.laload hEX (j := (0 : Int32)) (v := (.long u_a_0)) (by rw [e0]; exact Ar_1.1) (State.isArrayOf_alike hZW.alike Ar_1.2.1) Ar_1.2.2 hin_1 hat_1 (g := (mkF m 3 #[Rv a, Rv b, Rv o] [(.int (0 : Int32)), (.ref a), (.ref o)])) rfl rfl (hb hBY d_prog_59_method_8_code_3) _ ?_
    show Steps p.tables e below (s₁.setTop (mkF m 4 #[Rv a, Rv b, Rv o] [(.long u_a_0), (.ref o)])) tt_
    refine XS.aloadN X0.here hEX rfl (hb hBY d_prog_59_method_8_code_4) rfl rfl ?_
    show Steps p.tables e below (s₁.setTop (mkF m 5 #[Rv a, Rv b, Rv o] [(.ref b), (.long u_a_0), (.ref o)])) tt_
    refine XS.iconst X0.here hEX rfl (hb hBY d_prog_59_method_8_code_5) ?_
    show Steps p.tables e below (s₁.setTop (mkF m 6 #[Rv a, Rv b, Rv o] [(.int (0 : Int32)), (.ref b), (.long u_a_0), (.ref o)])) tt_
    refine X0.laload hEX (j := (0 : Int32)) (v := (.long u_b_0)) (by rw [e0]; exact Ar_2.1) (State.isArrayOf_alike hZW.alike Ar_2.2.1) Ar_2.2.2 hin_2 hat_2 (g := (mkF m 6 #[Rv a, Rv b, Rv o] [(.int (0 : Int32)), (.ref b), (.long u_a_0), (.ref o)])) rfl rfl (hb hBY d_prog_59_method_8_code_6) _ ?_
    show Steps p.tables e below (s₁.setTop (mkF m 7 #[Rv a, Rv b, Rv o] [(.long u_b_0), (.long u_a_0), (.ref o)])) tt_
    refine XS.ladd X0.here hEX rfl (hb hBY d_prog_59_method_8_code_7) rfl ?_
    show Steps p.tables e below (s₁.setTop (mkF m 8 #[Rv a, Rv b, Rv o] [(.long (u_a_0 + u_b_0)), (.ref o)])) tt_
    refine XS.aloadN X0.here hEX rfl (hb hBY d_prog_59_method_8_code_8) rfl rfl ?_
    show Steps p.tables e below (s₁.setTop (mkF m 9 #[Rv a, Rv b, Rv o] [(.ref a), (.long (u_a_0 + u_b_0)), (.ref o)])) tt_
    refine XS.iconst X0.here hEX rfl (hb hBY d_prog_59_method_8_code_9) ?_
    show Steps p.tables e below (s₁.setTop (mkF m 10 #[Rv a, Rv b, Rv o] [(.int (1 : Int32)), (.ref a), (.long (u_a_0 + u_b_0)), (.ref o)])) tt_
    refine X0.laload hEX (j := (1 : Int32)) (v := (.long u_a_1)) (by rw [e0]; exact Ar_3.1) (State.isArrayOf_alike hZW.alike Ar_3.2.1) Ar_3.2.2 hin_3 hat_3 (g := (mkF m 10 #[Rv a, Rv b, Rv o] [(.int (1 : Int32)), (.ref a), (.long (u_a_0 + u_b_0)), (.ref o)])) rfl rfl (hb hBY d_prog_59_method_8_code_10) _ ?_
    show Steps p.tables e below (s₁.setTop (mkF m 11 #[Rv a, Rv b, Rv o] [(.long u_a_1), (.long (u_a_0 + u_b_0)), (.ref o)])) tt_
    refine XS.aloadN X0.here hEX rfl (hb hBY d_prog_59_method_8_code_11) rfl rfl ?_
    show Steps p.tables e below (s₁.setTop (mkF m 12 #[Rv a, Rv b, Rv o] [(.ref b), (.long u_a_1), (.long (u_a_0 + u_b_0)), (.ref o)])) tt_
    refine XS.iconst X0.here hEX rfl (hb hBY d_prog_59_method_8_code_12) ?_
    show Steps p.tables e below (s₁.setTop (mkF m 13 #[Rv a, Rv b, Rv o] [(.int (1 : Int32)), (.ref b), (.long u_a_1), (.long (u_a_0 + u_b_0)), (.ref o)])) tt_
    refine X0.laload hEX (j := (1 : Int32)) (v := (.long u_b_1)) (by rw [e0]; exact Ar_4.1) (State.isArrayOf_alike hZW.alike Ar_4.2.1) Ar_4.2.2 hin_4 hat_4 (g := (mkF m 13 #[Rv a, Rv b, Rv o] [(.int (1 : Int32)), (.ref b), (.long u_a_1), (.long (u_a_0 + u_b_0)), (.ref o)])) rfl rfl (hb hBY d_prog_59_method_8_code_13) _ ?_
    show Steps p.tables e below (s₁.setTop (mkF m 14 #[Rv a, Rv b, Rv o] [(.long u_b_1), (.long u_a_1), (.long (u_a_0 + u_b_0)), (.ref o)])) tt_
    refine XS.ladd X0.here hEX rfl (hb hBY d_prog_59_method_8_code_14) rfl ?_
    show Steps p.tables e below (s₁.setTop (mkF m 15 #[Rv a, Rv b, Rv o] [(.long (u_a_1 + u_b_1)), (.long (u_a_0 + u_b_0)), (.ref o)])) tt_
    refine XS.aloadN X0.here hEX rfl (hb hBY d_prog_59_method_8_code_15) rfl rfl ?_
    show Steps p.tables e below (s₁.setTop (mkF m 16 #[Rv a, Rv b, Rv o] [(.ref a), (.long (u_a_1 + u_b_1)), (.long (u_a_0 + u_b_0)), (.ref o)])) tt_
    refine XS.iconst X0.here hEX rfl (hb hBY d_prog_59_method_8_code_16) ?_
    show Steps p.tables e below (s₁.setTop (mkF m 17 #[Rv a, Rv b, Rv o] [(.int (2 : Int32)), (.ref a), (.long (u_a_1 + u_b_1)), (.long (u_a_0 + u_b_0)), (.ref o)])) tt_
    refine X0.laload hEX (j := (2 : Int32)) (v := (.long u_a_2)) (by rw [e0]; exact Ar_5.1) (State.isArrayOf_alike hZW.alike Ar_5.2.1) Ar_5.2.2 hin_5 hat_5 (g := (mkF m 17 #[Rv a, Rv b, Rv o] [(.int (2 : Int32)), (.ref a), (.long (u_a_1 + u_b_1)), (.long (u_a_0 + u_b_0)), (.ref o)])) rfl rfl (hb hBY d_prog_59_method_8_code_17) _ ?_
    show Steps p.tables e below (s₁.setTop (mkF m 18 #[Rv a, Rv b, Rv o] [(.long u_a_2), (.long (u_a_1 + u_b_1)), (.long (u_a_0 + u_b_0)), (.ref o)])) tt_
    refine XS.aloadN X0.here hEX rfl (hb hBY d_prog_59_method_8_code_18) rfl rfl ?_
    show Steps p.tables e below (s₁.setTop (mkF m 19 #[Rv a, Rv b, Rv o] [(.ref b), (.long u_a_2), (.long (u_a_1 + u_b_1)), (.long (u_a_0 + u_b_0)), (.ref o)])) tt_
    refine XS.iconst X0.here hEX rfl (hb hBY d_prog_59_method_8_code_19) ?_
    show Steps p.tables e below (s₁.setTop (mkF m 20 #[Rv a, Rv b, Rv o] [(.int (2 : Int32)), (.ref b), (.long u_a_2), (.long (u_a_1 + u_b_1)), (.long (u_a_0 + u_b_0)), (.ref o)])) tt_
    refine X0.laload hEX (j := (2 : Int32)) (v := (.long u_b_2)) (by rw [e0]; exact Ar_6.1) (State.isArrayOf_alike hZW.alike Ar_6.2.1) Ar_6.2.2 hin_6 hat_6 (g := (mkF m 20 #[Rv a, Rv b, Rv o] [(.int (2 : Int32)), (.ref b), (.long u_a_2), (.long (u_a_1 + u_b_1)), (.long (u_a_0 + u_b_0)), (.ref o)])) rfl rfl (hb hBY d_prog_59_method_8_code_20) _ ?_
    show Steps p.tables e below (s₁.setTop (mkF m 21 #[Rv a, Rv b, Rv o] [(.long u_b_2), (.long u_a_2), (.long (u_a_1 + u_b_1)), (.long (u_a_0 + u_b_0)), (.ref o)])) tt_
    refine XS.ladd X0.here hEX rfl (hb hBY d_prog_59_method_8_code_21) rfl ?_
    show Steps p.tables e below (s₁.setTop (mkF m 22 #[Rv a, Rv b, Rv o] [(.long (u_a_2 + u_b_2)), (.long (u_a_1 + u_b_1)), (.long (u_a_0 + u_b_0)), (.ref o)])) tt_
    refine XS.aloadN X0.here hEX rfl (hb hBY d_prog_59_method_8_code_22) rfl rfl ?_
    show Steps p.tables e below (s₁.setTop (mkF m 23 #[Rv a, Rv b, Rv o] [(.ref a), (.long (u_a_2 + u_b_2)), (.long (u_a_1 + u_b_1)), (.long (u_a_0 + u_b_0)), (.ref o)])) tt_
    refine XS.iconst X0.here hEX rfl (hb hBY d_prog_59_method_8_code_23) ?_
    show Steps p.tables e below (s₁.setTop (mkF m 24 #[Rv a, Rv b, Rv o] [(.int (3 : Int32)), (.ref a), (.long (u_a_2 + u_b_2)), (.long (u_a_1 + u_b_1)), (.long (u_a_0 + u_b_0)), (.ref o)])) tt_
    refine X0.laload hEX (j := (3 : Int32)) (v := (.long u_a_3)) (by rw [e0]; exact Ar_7.1) (State.isArrayOf_alike hZW.alike Ar_7.2.1) Ar_7.2.2 hin_7 hat_7 (g := (mkF m 24 #[Rv a, Rv b, Rv o] [(.int (3 : Int32)), (.ref a), (.long (u_a_2 + u_b_2)), (.long (u_a_1 + u_b_1)), (.long (u_a_0 + u_b_0)), (.ref o)])) rfl rfl (hb hBY d_prog_59_method_8_code_24) _ ?_
    show Steps p.tables e below (s₁.setTop (mkF m 25 #[Rv a, Rv b, Rv o] [(.long u_a_3), (.long (u_a_2 + u_b_2)), (.long (u_a_1 + u_b_1)), (.long (u_a_0 + u_b_0)), (.ref o)])) tt_
    refine XS.aloadN X0.here hEX rfl (hb hBY d_prog_59_method_8_code_25) rfl rfl ?_
    show Steps p.tables e below (s₁.setTop (mkF m 26 #[Rv a, Rv b, Rv o] [(.ref b), (.long u_a_3), (.long (u_a_2 + u_b_2)), (.long (u_a_1 + u_b_1)), (.long (u_a_0 + u_b_0)), (.ref o)])) tt_
    refine XS.iconst X0.here hEX rfl (hb hBY d_prog_59_method_8_code_26) ?_
    show Steps p.tables e below (s₁.setTop (mkF m 27 #[Rv a, Rv b, Rv o] [(.int (3 : Int32)), (.ref b), (.long u_a_3), (.long (u_a_2 + u_b_2)), (.long (u_a_1 + u_b_1)), (.long (u_a_0 + u_b_0)), (.ref o)])) tt_
    refine X0.laload hEX (j := (3 : Int32)) (v := (.long u_b_3)) (by rw [e0]; exact Ar_8.1) (State.isArrayOf_alike hZW.alike Ar_8.2.1) Ar_8.2.2 hin_8 hat_8 (g := (mkF m 27 #[Rv a, Rv b, Rv o] [(.int (3 : Int32)), (.ref b), (.long u_a_3), (.long (u_a_2 + u_b_2)), (.long (u_a_1 + u_b_1)), (.long (u_a_0 + u_b_0)), (.ref o)])) rfl rfl (hb hBY d_prog_59_method_8_code_27) _ ?_
    show Steps p.tables e below (s₁.setTop (mkF m 28 #[Rv a, Rv b, Rv o] [(.long u_b_3), (.long u_a_3), (.long (u_a_2 + u_b_2)), (.long (u_a_1 + u_b_1)), (.long (u_a_0 + u_b_0)), (.ref o)])) tt_
    refine XS.ladd X0.here hEX rfl (hb hBY d_prog_59_method_8_code_28) rfl ?_
    show Steps p.tables e below (s₁.setTop (mkF m 29 #[Rv a, Rv b, Rv o] [(.long (u_a_3 + u_b_3)), (.long (u_a_2 + u_b_2)), (.long (u_a_1 + u_b_1)), (.long (u_a_0 + u_b_0)), (.ref o)])) tt_
    refine XS.aloadN X0.here hEX rfl (hb hBY d_prog_59_method_8_code_29) rfl rfl ?_
    show Steps p.tables e below (s₁.setTop (mkF m 30 #[Rv a, Rv b, Rv o] [(.ref a), (.long (u_a_3 + u_b_3)), (.long (u_a_2 + u_b_2)), (.long (u_a_1 + u_b_1)), (.long (u_a_0 + u_b_0)), (.ref o)])) tt_
    refine XS.iconst X0.here hEX rfl (hb hBY d_prog_59_method_8_code_30) ?_
    show Steps p.tables e below (s₁.setTop (mkF m 31 #[Rv a, Rv b, Rv o] [(.int (4 : Int32)), (.ref a), (.long (u_a_3 + u_b_3)), (.long (u_a_2 + u_b_2)), (.long (u_a_1 + u_b_1)), (.long (u_a_0 + u_b_0)), (.ref o)])) tt_
    refine X0.laload hEX (j := (4 : Int32)) (v := (.long u_a_4)) (by rw [e0]; exact Ar_9.1) (State.isArrayOf_alike hZW.alike Ar_9.2.1) Ar_9.2.2 hin_9 hat_9 (g := (mkF m 31 #[Rv a, Rv b, Rv o] [(.int (4 : Int32)), (.ref a), (.long (u_a_3 + u_b_3)), (.long (u_a_2 + u_b_2)), (.long (u_a_1 + u_b_1)), (.long (u_a_0 + u_b_0)), (.ref o)])) rfl rfl (hb hBY d_prog_59_method_8_code_31) _ ?_
    show Steps p.tables e below (s₁.setTop (mkF m 32 #[Rv a, Rv b, Rv o] [(.long u_a_4), (.long (u_a_3 + u_b_3)), (.long (u_a_2 + u_b_2)), (.long (u_a_1 + u_b_1)), (.long (u_a_0 + u_b_0)), (.ref o)])) tt_
    refine XS.aloadN X0.here hEX rfl (hb hBY d_prog_59_method_8_code_32) rfl rfl ?_
    show Steps p.tables e below (s₁.setTop (mkF m 33 #[Rv a, Rv b, Rv o] [(.ref b), (.long u_a_4), (.long (u_a_3 + u_b_3)), (.long (u_a_2 + u_b_2)), (.long (u_a_1 + u_b_1)), (.long (u_a_0 + u_b_0)), (.ref o)])) tt_
    refine XS.iconst X0.here hEX rfl (hb hBY d_prog_59_method_8_code_33) ?_
    show Steps p.tables e below (s₁.setTop (mkF m 34 #[Rv a, Rv b, Rv o] [(.int (4 : Int32)), (.ref b), (.long u_a_4), (.long (u_a_3 + u_b_3)), (.long (u_a_2 + u_b_2)), (.long (u_a_1 + u_b_1)), (.long (u_a_0 + u_b_0)), (.ref o)])) tt_
    refine X0.laload hEX (j := (4 : Int32)) (v := (.long u_b_4)) (by rw [e0]; exact Ar_10.1) (State.isArrayOf_alike hZW.alike Ar_10.2.1) Ar_10.2.2 hin_10 hat_10 (g := (mkF m 34 #[Rv a, Rv b, Rv o] [(.int (4 : Int32)), (.ref b), (.long u_a_4), (.long (u_a_3 + u_b_3)), (.long (u_a_2 + u_b_2)), (.long (u_a_1 + u_b_1)), (.long (u_a_0 + u_b_0)), (.ref o)])) rfl rfl (hb hBY d_prog_59_method_8_code_34) _ ?_
    show Steps p.tables e below (s₁.setTop (mkF m 35 #[Rv a, Rv b, Rv o] [(.long u_b_4), (.long u_a_4), (.long (u_a_3 + u_b_3)), (.long (u_a_2 + u_b_2)), (.long (u_a_1 + u_b_1)), (.long (u_a_0 + u_b_0)), (.ref o)])) tt_
    refine XS.ladd X0.here hEX rfl (hb hBY d_prog_59_method_8_code_35) rfl ?_
    show Steps p.tables e below (s₁.setTop (mkF m 36 #[Rv a, Rv b, Rv o] [(.long (u_a_4 + u_b_4)), (.long (u_a_3 + u_b_3)), (.long (u_a_2 + u_b_2)), (.long (u_a_1 + u_b_1)), (.long (u_a_0 + u_b_0)), (.ref o)])) tt_
    refine XS.aloadN X0.here hEX rfl (hb hBY d_prog_59_method_8_code_36) rfl rfl ?_
    show Steps p.tables e below (s₁.setTop (mkF m 37 #[Rv a, Rv b, Rv o] [(.ref a), (.long (u_a_4 + u_b_4)), (.long (u_a_3 + u_b_3)), (.long (u_a_2 + u_b_2)), (.long (u_a_1 + u_b_1)), (.long (u_a_0 + u_b_0)), (.ref o)])) tt_
    refine XS.iconst X0.here hEX rfl (hb hBY d_prog_59_method_8_code_37) ?_
    show Steps p.tables e below (s₁.setTop (mkF m 38 #[Rv a, Rv b, Rv o] [(.int (5 : Int32)), (.ref a), (.long (u_a_4 + u_b_4)), (.long (u_a_3 + u_b_3)), (.long (u_a_2 + u_b_2)), (.long (u_a_1 + u_b_1)), (.long (u_a_0 + u_b_0)), (.ref o)])) tt_
    refine X0.laload hEX (j := (5 : Int32)) (v := (.long u_a_5)) (by rw [e0]; exact Ar_11.1) (State.isArrayOf_alike hZW.alike Ar_11.2.1) Ar_11.2.2 hin_11 hat_11 (g := (mkF m 38 #[Rv a, Rv b, Rv o] [(.int (5 : Int32)), (.ref a), (.long (u_a_4 + u_b_4)), (.long (u_a_3 + u_b_3)), (.long (u_a_2 + u_b_2)), (.long (u_a_1 + u_b_1)), (.long (u_a_0 + u_b_0)), (.ref o)])) rfl rfl (hb hBY d_prog_59_method_8_code_38) _ ?_
    show Steps p.tables e below (s₁.setTop (mkF m 39 #[Rv a, Rv b, Rv o] [(.long u_a_5), (.long (u_a_4 + u_b_4)), (.long (u_a_3 + u_b_3)), (.long (u_a_2 + u_b_2)), (.long (u_a_1 + u_b_1)), (.long (u_a_0 + u_b_0)), (.ref o)])) tt_
    refine XS.aloadN X0.here hEX rfl (hb hBY d_prog_59_method_8_code_39) rfl rfl ?_
    show Steps p.tables e below (s₁.setTop (mkF m 40 #[Rv a, Rv b, Rv o] [(.ref b), (.long u_a_5), (.long (u_a_4 + u_b_4)), (.long (u_a_3 + u_b_3)), (.long (u_a_2 + u_b_2)), (.long (u_a_1 + u_b_1)), (.long (u_a_0 + u_b_0)), (.ref o)])) tt_
    refine XS.iconst X0.here hEX rfl (hb hBY d_prog_59_method_8_code_40) ?_
    show Steps p.tables e below (s₁.setTop (mkF m 41 #[Rv a, Rv b, Rv o] [(.int (5 : Int32)), (.ref b), (.long u_a_5), (.long (u_a_4 + u_b_4)), (.long (u_a_3 + u_b_3)), (.long (u_a_2 + u_b_2)), (.long (u_a_1 + u_b_1)), (.long (u_a_0 + u_b_0)), (.ref o)])) tt_
    refine X0.laload hEX (j := (5 : Int32)) (v := (.long u_b_5)) (by rw [e0]; exact Ar_12.1) (State.isArrayOf_alike hZW.alike Ar_12.2.1) Ar_12.2.2 hin_12 hat_12 (g := (mkF m 41 #[Rv a, Rv b, Rv o] [(.int (5 : Int32)), (.ref b), (.long u_a_5), (.long (u_a_4 + u_b_4)), (.long (u_a_3 + u_b_3)), (.long (u_a_2 + u_b_2)), (.long (u_a_1 + u_b_1)), (.long (u_a_0 + u_b_0)), (.ref o)])) rfl rfl (hb hBY d_prog_59_method_8_code_41) _ ?_
    show Steps p.tables e below (s₁.setTop (mkF m 42 #[Rv a, Rv b, Rv o] [(.long u_b_5), (.long u_a_5), (.long (u_a_4 + u_b_4)), (.long (u_a_3 + u_b_3)), (.long (u_a_2 + u_b_2)), (.long (u_a_1 + u_b_1)), (.long (u_a_0 + u_b_0)), (.ref o)])) tt_
    refine XS.ladd X0.here hEX rfl (hb hBY d_prog_59_method_8_code_42) rfl ?_
    show Steps p.tables e below (s₁.setTop (mkF m 43 #[Rv a, Rv b, Rv o] [(.long (u_a_5 + u_b_5)), (.long (u_a_4 + u_b_4)), (.long (u_a_3 + u_b_3)), (.long (u_a_2 + u_b_2)), (.long (u_a_1 + u_b_1)), (.long (u_a_0 + u_b_0)), (.ref o)])) tt_
    refine XS.aloadN X0.here hEX rfl (hb hBY d_prog_59_method_8_code_43) rfl rfl ?_
    show Steps p.tables e below (s₁.setTop (mkF m 44 #[Rv a, Rv b, Rv o] [(.ref a), (.long (u_a_5 + u_b_5)), (.long (u_a_4 + u_b_4)), (.long (u_a_3 + u_b_3)), (.long (u_a_2 + u_b_2)), (.long (u_a_1 + u_b_1)), (.long (u_a_0 + u_b_0)), (.ref o)])) tt_
    refine XS.bipush X0.here hEX rfl (hb hBY d_prog_59_method_8_code_44) ?_
    show Steps p.tables e below (s₁.setTop (mkF m 46 #[Rv a, Rv b, Rv o] [(.int (6 : Int32)), (.ref a), (.long (u_a_5 + u_b_5)), (.long (u_a_4 + u_b_4)), (.long (u_a_3 + u_b_3)), (.long (u_a_2 + u_b_2)), (.long (u_a_1 + u_b_1)), (.long (u_a_0 + u_b_0)), (.ref o)])) tt_
    refine X0.laload hEX (j := (6 : Int32)) (v := (.long u_a_6)) (by rw [e0]; exact Ar_13.1) (State.isArrayOf_alike hZW.alike Ar_13.2.1) Ar_13.2.2 hin_13 hat_13 (g := (mkF m 46 #[Rv a, Rv b, Rv o] [(.int (6 : Int32)), (.ref a), (.long (u_a_5 + u_b_5)), (.long (u_a_4 + u_b_4)), (.long (u_a_3 + u_b_3)), (.long (u_a_2 + u_b_2)), (.long (u_a_1 + u_b_1)), (.long (u_a_0 + u_b_0)), (.ref o)])) rfl rfl (hb hBY d_prog_59_method_8_code_46) _ ?_
    show Steps p.tables e below (s₁.setTop (mkF m 47 #[Rv a, Rv b, Rv o] [(.long u_a_6), (.long (u_a_5 + u_b_5)), (.long (u_a_4 + u_b_4)), (.long (u_a_3 + u_b_3)), (.long (u_a_2 + u_b_2)), (.long (u_a_1 + u_b_1)), (.long (u_a_0 + u_b_0)), (.ref o)])) tt_
    refine XS.aloadN X0.here hEX rfl (hb hBY d_prog_59_method_8_code_47) rfl rfl ?_
    show Steps p.tables e below (s₁.setTop (mkF m 48 #[Rv a, Rv b, Rv o] [(.ref b), (.long u_a_6), (.long (u_a_5 + u_b_5)), (.long (u_a_4 + u_b_4)), (.long (u_a_3 + u_b_3)), (.long (u_a_2 + u_b_2)), (.long (u_a_1 + u_b_1)), (.long (u_a_0 + u_b_0)), (.ref o)])) tt_
    refine XS.bipush X0.here hEX rfl (hb hBY d_prog_59_method_8_code_48) ?_
    show Steps p.tables e below (s₁.setTop (mkF m 50 #[Rv a, Rv b, Rv o] [(.int (6 : Int32)), (.ref b), (.long u_a_6), (.long (u_a_5 + u_b_5)), (.long (u_a_4 + u_b_4)), (.long (u_a_3 + u_b_3)), (.long (u_a_2 + u_b_2)), (.long (u_a_1 + u_b_1)), (.long (u_a_0 + u_b_0)), (.ref o)])) tt_
    refine X0.laload hEX (j := (6 : Int32)) (v := (.long u_b_6)) (by rw [e0]; exact Ar_14.1) (State.isArrayOf_alike hZW.alike Ar_14.2.1) Ar_14.2.2 hin_14 hat_14 (g := (mkF m 50 #[Rv a, Rv b, Rv o] [(.int (6 : Int32)), (.ref b), (.long u_a_6), (.long (u_a_5 + u_b_5)), (.long (u_a_4 + u_b_4)), (.long (u_a_3 + u_b_3)), (.long (u_a_2 + u_b_2)), (.long (u_a_1 + u_b_1)), (.long (u_a_0 + u_b_0)), (.ref o)])) rfl rfl (hb hBY d_prog_59_method_8_code_50) _ ?_
    show Steps p.tables e below (s₁.setTop (mkF m 51 #[Rv a, Rv b, Rv o] [(.long u_b_6), (.long u_a_6), (.long (u_a_5 + u_b_5)), (.long (u_a_4 + u_b_4)), (.long (u_a_3 + u_b_3)), (.long (u_a_2 + u_b_2)), (.long (u_a_1 + u_b_1)), (.long (u_a_0 + u_b_0)), (.ref o)])) tt_
    refine XS.ladd X0.here hEX rfl (hb hBY d_prog_59_method_8_code_51) rfl ?_
    show Steps p.tables e below (s₁.setTop (mkF m 52 #[Rv a, Rv b, Rv o] [(.long (u_a_6 + u_b_6)), (.long (u_a_5 + u_b_5)), (.long (u_a_4 + u_b_4)), (.long (u_a_3 + u_b_3)), (.long (u_a_2 + u_b_2)), (.long (u_a_1 + u_b_1)), (.long (u_a_0 + u_b_0)), (.ref o)])) tt_
    refine XS.aloadN X0.here hEX rfl (hb hBY d_prog_59_method_8_code_52) rfl rfl ?_
    show Steps p.tables e below (s₁.setTop (mkF m 53 #[Rv a, Rv b, Rv o] [(.ref a), (.long (u_a_6 + u_b_6)), (.long (u_a_5 + u_b_5)), (.long (u_a_4 + u_b_4)), (.long (u_a_3 + u_b_3)), (.long (u_a_2 + u_b_2)), (.long (u_a_1 + u_b_1)), (.long (u_a_0 + u_b_0)), (.ref o)])) tt_
    refine XS.bipush X0.here hEX rfl (hb hBY d_prog_59_method_8_code_53) ?_
    show Steps p.tables e below (s₁.setTop (mkF m 55 #[Rv a, Rv b, Rv o] [(.int (7 : Int32)), (.ref a), (.long (u_a_6 + u_b_6)), (.long (u_a_5 + u_b_5)), (.long (u_a_4 + u_b_4)), (.long (u_a_3 + u_b_3)), (.long (u_a_2 + u_b_2)), (.long (u_a_1 + u_b_1)), (.long (u_a_0 + u_b_0)), (.ref o)])) tt_
    refine X0.laload hEX (j := (7 : Int32)) (v := (.long u_a_7)) (by rw [e0]; exact Ar_15.1) (State.isArrayOf_alike hZW.alike Ar_15.2.1) Ar_15.2.2 hin_15 hat_15 (g := (mkF m 55 #[Rv a, Rv b, Rv o] [(.int (7 : Int32)), (.ref a), (.long (u_a_6 + u_b_6)), (.long (u_a_5 + u_b_5)), (.long (u_a_4 + u_b_4)), (.long (u_a_3 + u_b_3)), (.long (u_a_2 + u_b_2)), (.long (u_a_1 + u_b_1)), (.long (u_a_0 + u_b_0)), (.ref o)])) rfl rfl (hb hBY d_prog_59_method_8_code_55) _ ?_
    show Steps p.tables e below (s₁.setTop (mkF m 56 #[Rv a, Rv b, Rv o] [(.long u_a_7), (.long (u_a_6 + u_b_6)), (.long (u_a_5 + u_b_5)), (.long (u_a_4 + u_b_4)), (.long (u_a_3 + u_b_3)), (.long (u_a_2 + u_b_2)), (.long (u_a_1 + u_b_1)), (.long (u_a_0 + u_b_0)), (.ref o)])) tt_
    refine XS.aloadN X0.here hEX rfl (hb hBY d_prog_59_method_8_code_56) rfl rfl ?_
    show Steps p.tables e below (s₁.setTop (mkF m 57 #[Rv a, Rv b, Rv o] [(.ref b), (.long u_a_7), (.long (u_a_6 + u_b_6)), (.long (u_a_5 + u_b_5)), (.long (u_a_4 + u_b_4)), (.long (u_a_3 + u_b_3)), (.long (u_a_2 + u_b_2)), (.long (u_a_1 + u_b_1)), (.long (u_a_0 + u_b_0)), (.ref o)])) tt_
    refine XS.bipush X0.here hEX rfl (hb hBY d_prog_59_method_8_code_57) ?_
    show Steps p.tables e below (s₁.setTop (mkF m 59 #[Rv a, Rv b, Rv o] [(.int (7 : Int32)), (.ref b), (.long u_a_7), (.long (u_a_6 + u_b_6)), (.long (u_a_5 + u_b_5)), (.long (u_a_4 + u_b_4)), (.long (u_a_3 + u_b_3)), (.long (u_a_2 + u_b_2)), (.long (u_a_1 + u_b_1)), (.long (u_a_0 + u_b_0)), (.ref o)])) tt_
    refine X0.laload hEX (j := (7 : Int32)) (v := (.long u_b_7)) (by rw [e0]; exact Ar_16.1) (State.isArrayOf_alike hZW.alike Ar_16.2.1) Ar_16.2.2 hin_16 hat_16 (g := (mkF m 59 #[Rv a, Rv b, Rv o] [(.int (7 : Int32)), (.ref b), (.long u_a_7), (.long (u_a_6 + u_b_6)), (.long (u_a_5 + u_b_5)), (.long (u_a_4 + u_b_4)), (.long (u_a_3 + u_b_3)), (.long (u_a_2 + u_b_2)), (.long (u_a_1 + u_b_1)), (.long (u_a_0 + u_b_0)), (.ref o)])) rfl rfl (hb hBY d_prog_59_method_8_code_59) _ ?_
    show Steps p.tables e below (s₁.setTop (mkF m 60 #[Rv a, Rv b, Rv o] [(.long u_b_7), (.long u_a_7), (.long (u_a_6 + u_b_6)), (.long (u_a_5 + u_b_5)), (.long (u_a_4 + u_b_4)), (.long (u_a_3 + u_b_3)), (.long (u_a_2 + u_b_2)), (.long (u_a_1 + u_b_1)), (.long (u_a_0 + u_b_0)), (.ref o)])) tt_
    refine XS.ladd X0.here hEX rfl (hb hBY d_prog_59_method_8_code_60) rfl ?_
    exact kt_
  refine Done.pre sg_17 ?_
  obtain ⟨_, _, ⟨T_18, L_18, k_18, n_18⟩, -, X_18, ⟨Lc_18, hQ_18, l_18, y_18, z_18⟩, st_18⟩ := Jvm.LawKit.callS X0 hEX (y := (⟨"com/example/guard3/guard3/P384Field", "store", "([JJJJJJJJJ)V"⟩ : MethodName)) hOW (mvT hZW (hw _ (List.mem_of_getElem? (i := 20) rfl))) (mvT hZW (hw _ (List.mem_of_getElem? (i := 21) rfl))) (mvT hZW (hw _ (List.mem_of_getElem? (i := 18) rfl))) (mvT hZW (hw _ (List.mem_of_getElem? (i := 22) rfl))) (by decide) (backOf (W := 0) (rm_store l Z aZ hw [] o (u_a_0 + u_b_0) (u_a_1 + u_b_1) (u_a_2 + u_b_2) (u_a_3 + u_b_3) (u_a_4 + u_b_4) (u_a_5 + u_b_5) (u_a_6 + u_b_6) (u_a_7 + u_b_7) k_o u_o_0 u_o_1 u_o_2 u_o_3 u_o_4 u_o_5 u_o_6 u_o_7 h0 n0 (Nat.le_trans Z0 K0.1) A_o go (own_Rup _ _ _ _ _ _ _ _ _ _ (by decide) (own_addb 1125899906842624 (by decide) u_a_0 u_a_1 u_a_2 u_a_3 u_a_4 u_a_5 u_a_6 u_a_7 u_b_0 u_b_1 u_b_2 u_b_3 u_b_4 u_b_5 u_b_6 u_b_7 hRa hRb).1)) hZW (hw _ (List.mem_of_getElem? (i := 22) rfl)) (hw _ (List.mem_of_getElem? (i := 18) rfl)) (by decide) (by decide)) (g := (mkF m 61 #[Rv a, Rv b, Rv o] [(.long (u_a_7 + u_b_7)), (.long (u_a_6 + u_b_6)), (.long (u_a_5 + u_b_5)), (.long (u_a_4 + u_b_4)), (.long (u_a_3 + u_b_3)), (.long (u_a_2 + u_b_2)), (.long (u_a_1 + u_b_1)), (.long (u_a_0 + u_b_0)), (.ref o)])) rfl (by rw [hMX]; rfl) (argsL := [(.ref o), (.long (u_a_0 + u_b_0)), (.long (u_a_1 + u_b_1)), (.long (u_a_2 + u_b_2)), (.long (u_a_3 + u_b_3)), (.long (u_a_4 + u_b_4)), (.long (u_a_5 + u_b_5)), (.long (u_a_6 + u_b_6)), (.long (u_a_7 + u_b_7))]) (rest := []) (lenOf pd___JJJJJJJJJ_V_8 rfl) rfl (by show 2 * 0 + _ ≤ _; exact Nat.le_of_eq rfl) (hb hBY d_prog_59_method_8_code_61) (fun _ _ => ⟨rfl, e0, (by decide : 0 + 0 ≤ _), (by decide : 0 + 0 ≤ _)⟩)
  dsimp only [Pt.U, Pt.locs, Pt.cells, Pt.slots] at X_18 l_18 y_18 z_18 st_18 hQ_18
  subst l_18 y_18 z_18
  obtain ⟨r0__18, r1__18, r2__18, r3__18, r4__18, r5__18, r6__18, r7__18, rfl, N_18q, K_18, hq_18_0, hq_18_1, hq_18_2⟩ := hQ_18
  have N_18 := Fr.app N0 N_18q
  have K__19 : Keep h0 T_18.heap [o] := K0.trans K_18 (allS (Or.inl (List.mem_of_getElem? (i := 0) rfl)) all0)
  have f_20 : Arv Z T_18.heap a k_a .long (8 : Int32) [(.long u_a_0), (.long u_a_1), (.long u_a_2), (.long u_a_3), (.long u_a_4), (.long u_a_5), (.long u_a_6), (.long u_a_7)] (.long (0 : Int64)) := A_a.keep K_18 (ninS ne_a_o nin0)
  have f_21 : Arv Z T_18.heap b k_b .long (8 : Int32) [(.long u_b_0), (.long u_b_1), (.long u_b_2), (.long u_b_3), (.long u_b_4), (.long u_b_5), (.long u_b_6), (.long u_b_7)] (.long (0 : Int64)) := A_b.keep K_18 (ninS ne_b_o nin0)
  refine Done.pre (fun _ k_ => st_18 _ k_) ?_
  show Done _ _ _ _ _ _ _ (T_18.setTop (mkF m 64 #[Rv a, Rv b, Rv o] []))
  exact Done.retV X_18 hEX hLK hRT (hb hBY d_prog_59_method_8_code_64) (by exact ⟨r0__18, r1__18, r2__18, r3__18, r4__18, r5__18, r6__18, r7__18, rfl, N_18, K__19, hq_18_0, hq_18_1, (by have q := hq_18_2; rw [(own_addb 1125899906842624 (by decide) u_a_0 u_a_1 u_a_2 u_a_3 u_a_4 u_a_5 u_a_6 u_a_7 u_b_0 u_b_1 u_b_2 u_b_3 u_b_4 u_b_5 u_b_6 u_b_7 hRa hRb).2] at q; exact q)⟩) (by decide) (by decide)
def Qrm_add_aba (Z : State) (a : Addr) (b : Addr) (k_a : ClassId) (u_a_0 : Int64) (u_a_1 : Int64) (u_a_2 : Int64) (u_a_3 : Int64) (u_a_4 : Int64) (u_a_5 : Int64) (u_a_6 : Int64) (u_a_7 : Int64) (k_b : ClassId) (u_b_0 : Int64) (u_b_1 : Int64) (u_b_2 : Int64) (u_b_3 : Int64) (u_b_4 : Int64) (u_b_5 : Int64) (u_b_6 : Int64) (u_b_7 : Int64) (h0 : Heap) (n0 : Nat) (v_ : Option Value) (h_ : Heap) (L_ : List Loc) : Prop := ∃ (r0 : Int64), ∃ (r1 : Int64), ∃ (r2 : Int64), ∃ (r3 : Int64), ∃ (r4 : Int64), ∃ (r5 : Int64), ∃ (r6 : Int64), ∃ (r7 : Int64), v_ = none ∧ Fr n0 L_ ∧ Keep h0 h_ [a] ∧ Arv Z h_ a k_a .long (8 : Int32) [(.long r0), (.long r1), (.long r2), (.long r3), (.long r4), (.long r5), (.long r6), (.long r7)] (.long (0 : Int64)) ∧ own_R 562949953421440 r0 r1 r2 r3 r4 r5 r6 r7 ∧ own_M ((own_W u_a_0 u_a_1 u_a_2 u_a_3 u_a_4 u_a_5 u_a_6 u_a_7 + own_W u_b_0 u_b_1 u_b_2 u_b_3 u_b_4 u_b_5 u_b_6 u_b_7) - own_W r0 r1 r2 r3 r4 r5 r6 r7)
theorem ef_rm_add_aba (m : MethodId) (x0 : Addr) (x1 : Addr) (x2 : Addr) : entryFrame m #[(.ref x2), (.ref x1), (.ref x2)] 3 = mkF m 0 #[.val (.ref x2), .val (.ref x1), .val (.ref x2)] [] := by first | (simp [entryFrame, mkF, argsToLocals, Value.category]; done) | rfl
set_option maxRecDepth 65536 in
set_option maxHeartbeats 40000000 in
theorem rm_add_aba (l : Launch) (Z : State) (aZ : Array Value) (hw : ∀ d ∈ tables_1, d.before aZ Z = true) (ws : List Jvm.Cond) (a : Addr) (b : Addr) (k_a : ClassId) (u_a_0 : Int64) (u_a_1 : Int64) (u_a_2 : Int64) (u_a_3 : Int64) (u_a_4 : Int64) (u_a_5 : Int64) (u_a_6 : Int64) (u_a_7 : Int64) (k_b : ClassId) (u_b_0 : Int64) (u_b_1 : Int64) (u_b_2 : Int64) (u_b_3 : Int64) (u_b_4 : Int64) (u_b_5 : Int64) (u_b_6 : Int64) (u_b_7 : Int64) (h0 : Heap) (n0 : Nat) (Z0 : n0 ≤ h0.size) (A_a : Arv Z h0 a k_a .long (8 : Int32) [(.long u_a_0), (.long u_a_1), (.long u_a_2), (.long u_a_3), (.long u_a_4), (.long u_a_5), (.long u_a_6), (.long u_a_7)] (.long (0 : Int64))) (A_b : Arv Z h0 b k_b .long (8 : Int32) [(.long u_b_0), (.long u_b_1), (.long u_b_2), (.long u_b_3), (.long u_b_4), (.long u_b_5), (.long u_b_6), (.long u_b_7)] (.long (0 : Int64))) (go : n0 ≤ a) (ne_a_b : a ≠ b) (hRa : own_R 1125899906842624 u_a_0 u_a_1 u_a_2 u_a_3 u_a_4 u_a_5 u_a_6 u_a_7) (hRb : own_R 1125899906842624 u_b_0 u_b_1 u_b_2 u_b_3 u_b_4 u_b_5 u_b_6 u_b_7) :
    MetFree l (⟨"com/example/guard3/guard3/P384Field", "add", "([J[J[J)V"⟩ : MethodName) (head1 (Jvm.Cond.code (⟨"com/example/guard3/guard3/P384Field", "add", "([J[J[J)V"⟩ : MethodName) prog_59_method_8_code 3 none :: ws) ({ frames := 1, cells := 0, slots := 0, locals := 34 } : Room)) (fun a_ U_ => a_ = #[(.ref a), (.ref b), (.ref a)] ∧ Z.Warmed39 U_.vm ∧ U_.heap = h0) (fun _ _ _ _ _ => True) (fun _ U_ o_ U2_ => ∃ v_ L_, o_ = .returned v_ ∧ Qrm_add_aba Z a b k_a u_a_0 u_a_1 u_a_2 u_a_3 u_a_4 u_a_5 u_a_6 u_a_7 k_b u_b_0 u_b_1 u_b_2 u_b_3 u_b_4 u_b_5 u_b_6 u_b_7 h0 n0 v_ U2_.heap L_ ∧ FrameEnd U_ o_ U2_ L_ ({ frames := 1, cells := 0, slots := 0, locals := 34 } : Room).cells ({ frames := 1, cells := 0, slots := 0, locals := 34 } : Room).slots) := by
  refine MetFree.of_bodySF (plainFor_of_name pn_com_example_guard3_guard3_P384Field) hisR ?_
  intro p e s m args below meth cO s₁ Bd hml0 hP hK
  obtain ⟨rfl, hZW, hh⟩ := hP
  have hEX := Bd.exec
  have hBY := Bd.bytes
  have hMX : cO.maxLocals = 3 := hml0
  have hOW : s.vm.findClass "com/example/guard3/guard3/P384Field" = some m.cls := findClass_of_methodNamed Bd.named
  have hNM := (name_of_methodNamed Bd.named Bd.method).1
  have hLK := Bd.notSynchronized
  have hRT := Bd.returns
  have X0 : Stand p l e ({ frames := 1, cells := 0, slots := 0, locals := 34 } : Room) s m #[(.ref a), (.ref b), (.ref a)] below meth cO s₁ [] 0 0 := Stand.of_body Bd
  have e0 : s₁.heap = h0 := by rw [← hh, Bd.state]; rfl
  have N0 := Fr.nil n0
  have K0 : Keep h0 h0 [a] := Keep.refl _ _
  show Done p e below s (Qrm_add_aba Z a b k_a u_a_0 u_a_1 u_a_2 u_a_3 u_a_4 u_a_5 u_a_6 u_a_7 k_b u_b_0 u_b_1 u_b_2 u_b_3 u_b_4 u_b_5 u_b_6 u_b_7 h0 n0) ({ frames := 1, cells := 0, slots := 0, locals := 34 } : Room).cells ({ frames := 1, cells := 0, slots := 0, locals := 34 } : Room).slots (s₁.setTop (entryFrame m #[(.ref a), (.ref b), (.ref a)] 3))
  refine Done.pre (fun t_ k_ => castTop (ef_rm_add_aba m a b a) k_) ?_
  show Done _ _ _ _ _ _ _ (s₁.setTop (mkF m 0 #[Rv a, Rv b, Rv a] []))
  obtain ⟨cl_1, Ar_1, q_1, S_1, N__1, H_1, G_1⟩ := id A_a
  have hin_1 : ¬ ((0 : Int32) < 0 ∨ cl_1.slots.size ≤ ((0 : Int32)).toNatClampNeg) := inb_of S_1 ⟨by decide, by decide⟩
  have hat_1 : cl_1.slots[((0 : Int32)).toNatClampNeg]? = some (.long u_a_0) := H_1.at hin_1 rfl
  obtain ⟨cl_2, Ar_2, q_2, S_2, N__2, H_2, G_2⟩ := id A_b
  have hin_2 : ¬ ((0 : Int32) < 0 ∨ cl_2.slots.size ≤ ((0 : Int32)).toNatClampNeg) := inb_of S_2 ⟨by decide, by decide⟩
  have hat_2 : cl_2.slots[((0 : Int32)).toNatClampNeg]? = some (.long u_b_0) := H_2.at hin_2 rfl
  obtain ⟨cl_3, Ar_3, q_3, S_3, N__3, H_3, G_3⟩ := id A_a
  have hin_3 : ¬ ((1 : Int32) < 0 ∨ cl_3.slots.size ≤ ((1 : Int32)).toNatClampNeg) := inb_of S_3 ⟨by decide, by decide⟩
  have hat_3 : cl_3.slots[((1 : Int32)).toNatClampNeg]? = some (.long u_a_1) := H_3.at hin_3 rfl
  obtain ⟨cl_4, Ar_4, q_4, S_4, N__4, H_4, G_4⟩ := id A_b
  have hin_4 : ¬ ((1 : Int32) < 0 ∨ cl_4.slots.size ≤ ((1 : Int32)).toNatClampNeg) := inb_of S_4 ⟨by decide, by decide⟩
  have hat_4 : cl_4.slots[((1 : Int32)).toNatClampNeg]? = some (.long u_b_1) := H_4.at hin_4 rfl
  obtain ⟨cl_5, Ar_5, q_5, S_5, N__5, H_5, G_5⟩ := id A_a
  have hin_5 : ¬ ((2 : Int32) < 0 ∨ cl_5.slots.size ≤ ((2 : Int32)).toNatClampNeg) := inb_of S_5 ⟨by decide, by decide⟩
  have hat_5 : cl_5.slots[((2 : Int32)).toNatClampNeg]? = some (.long u_a_2) := H_5.at hin_5 rfl
  obtain ⟨cl_6, Ar_6, q_6, S_6, N__6, H_6, G_6⟩ := id A_b
  have hin_6 : ¬ ((2 : Int32) < 0 ∨ cl_6.slots.size ≤ ((2 : Int32)).toNatClampNeg) := inb_of S_6 ⟨by decide, by decide⟩
  have hat_6 : cl_6.slots[((2 : Int32)).toNatClampNeg]? = some (.long u_b_2) := H_6.at hin_6 rfl
  obtain ⟨cl_7, Ar_7, q_7, S_7, N__7, H_7, G_7⟩ := id A_a
  have hin_7 : ¬ ((3 : Int32) < 0 ∨ cl_7.slots.size ≤ ((3 : Int32)).toNatClampNeg) := inb_of S_7 ⟨by decide, by decide⟩
  have hat_7 : cl_7.slots[((3 : Int32)).toNatClampNeg]? = some (.long u_a_3) := H_7.at hin_7 rfl
  obtain ⟨cl_8, Ar_8, q_8, S_8, N__8, H_8, G_8⟩ := id A_b
  have hin_8 : ¬ ((3 : Int32) < 0 ∨ cl_8.slots.size ≤ ((3 : Int32)).toNatClampNeg) := inb_of S_8 ⟨by decide, by decide⟩
  have hat_8 : cl_8.slots[((3 : Int32)).toNatClampNeg]? = some (.long u_b_3) := H_8.at hin_8 rfl
  obtain ⟨cl_9, Ar_9, q_9, S_9, N__9, H_9, G_9⟩ := id A_a
  have hin_9 : ¬ ((4 : Int32) < 0 ∨ cl_9.slots.size ≤ ((4 : Int32)).toNatClampNeg) := inb_of S_9 ⟨by decide, by decide⟩
  have hat_9 : cl_9.slots[((4 : Int32)).toNatClampNeg]? = some (.long u_a_4) := H_9.at hin_9 rfl
  obtain ⟨cl_10, Ar_10, q_10, S_10, N__10, H_10, G_10⟩ := id A_b
  have hin_10 : ¬ ((4 : Int32) < 0 ∨ cl_10.slots.size ≤ ((4 : Int32)).toNatClampNeg) := inb_of S_10 ⟨by decide, by decide⟩
  have hat_10 : cl_10.slots[((4 : Int32)).toNatClampNeg]? = some (.long u_b_4) := H_10.at hin_10 rfl
  obtain ⟨cl_11, Ar_11, q_11, S_11, N__11, H_11, G_11⟩ := id A_a
  have hin_11 : ¬ ((5 : Int32) < 0 ∨ cl_11.slots.size ≤ ((5 : Int32)).toNatClampNeg) := inb_of S_11 ⟨by decide, by decide⟩
  have hat_11 : cl_11.slots[((5 : Int32)).toNatClampNeg]? = some (.long u_a_5) := H_11.at hin_11 rfl
  obtain ⟨cl_12, Ar_12, q_12, S_12, N__12, H_12, G_12⟩ := id A_b
  have hin_12 : ¬ ((5 : Int32) < 0 ∨ cl_12.slots.size ≤ ((5 : Int32)).toNatClampNeg) := inb_of S_12 ⟨by decide, by decide⟩
  have hat_12 : cl_12.slots[((5 : Int32)).toNatClampNeg]? = some (.long u_b_5) := H_12.at hin_12 rfl
  obtain ⟨cl_13, Ar_13, q_13, S_13, N__13, H_13, G_13⟩ := id A_a
  have hin_13 : ¬ ((6 : Int32) < 0 ∨ cl_13.slots.size ≤ ((6 : Int32)).toNatClampNeg) := inb_of S_13 ⟨by decide, by decide⟩
  have hat_13 : cl_13.slots[((6 : Int32)).toNatClampNeg]? = some (.long u_a_6) := H_13.at hin_13 rfl
  obtain ⟨cl_14, Ar_14, q_14, S_14, N__14, H_14, G_14⟩ := id A_b
  have hin_14 : ¬ ((6 : Int32) < 0 ∨ cl_14.slots.size ≤ ((6 : Int32)).toNatClampNeg) := inb_of S_14 ⟨by decide, by decide⟩
  have hat_14 : cl_14.slots[((6 : Int32)).toNatClampNeg]? = some (.long u_b_6) := H_14.at hin_14 rfl
  obtain ⟨cl_15, Ar_15, q_15, S_15, N__15, H_15, G_15⟩ := id A_a
  have hin_15 : ¬ ((7 : Int32) < 0 ∨ cl_15.slots.size ≤ ((7 : Int32)).toNatClampNeg) := inb_of S_15 ⟨by decide, by decide⟩
  have hat_15 : cl_15.slots[((7 : Int32)).toNatClampNeg]? = some (.long u_a_7) := H_15.at hin_15 rfl
  obtain ⟨cl_16, Ar_16, q_16, S_16, N__16, H_16, G_16⟩ := id A_b
  have hin_16 : ¬ ((7 : Int32) < 0 ∨ cl_16.slots.size ≤ ((7 : Int32)).toNatClampNeg) := inb_of S_16 ⟨by decide, by decide⟩
  have hat_16 : cl_16.slots[((7 : Int32)).toNatClampNeg]? = some (.long u_b_7) := H_16.at hin_16 rfl
  have sg_17 : ∀ tt_, Steps p.tables e below (s₁.setTop (mkF m 61 #[Rv a, Rv b, Rv a] [(.long (u_a_7 + u_b_7)), (.long (u_a_6 + u_b_6)), (.long (u_a_5 + u_b_5)), (.long (u_a_4 + u_b_4)), (.long (u_a_3 + u_b_3)), (.long (u_a_2 + u_b_2)), (.long (u_a_1 + u_b_1)), (.long (u_a_0 + u_b_0)), (.ref a)])) tt_ → Steps p.tables e below (s₁.setTop (mkF m 0 #[Rv a, Rv b, Rv a] [])) tt_ := by
    intro tt_ kt_
    refine XS.aloadN X0.here hEX rfl (hb hBY d_prog_59_method_8_code_0) rfl rfl ?_
    show Steps p.tables e below (s₁.setTop (mkF m 1 #[Rv a, Rv b, Rv a] [(.ref a)])) tt_
    refine XS.aloadN X0.here hEX rfl (hb hBY d_prog_59_method_8_code_1) rfl rfl ?_
    show Steps p.tables e below (s₁.setTop (mkF m 2 #[Rv a, Rv b, Rv a] [(.ref a), (.ref a)])) tt_
    refine XS.iconst X0.here hEX rfl (hb hBY d_prog_59_method_8_code_2) ?_
    show Steps p.tables e below (s₁.setTop (mkF m 3 #[Rv a, Rv b, Rv a] [(.int (0 : Int32)), (.ref a), (.ref a)])) tt_
    refine X0.laload hEX (j := (0 : Int32)) (v := (.long u_a_0)) (by rw [e0]; exact Ar_1.1) (State.isArrayOf_alike hZW.alike Ar_1.2.1) Ar_1.2.2 hin_1 hat_1 (g := (mkF m 3 #[Rv a, Rv b, Rv a] [(.int (0 : Int32)), (.ref a), (.ref a)])) rfl rfl (hb hBY d_prog_59_method_8_code_3) _ ?_
    show Steps p.tables e below (s₁.setTop (mkF m 4 #[Rv a, Rv b, Rv a] [(.long u_a_0), (.ref a)])) tt_
    refine XS.aloadN X0.here hEX rfl (hb hBY d_prog_59_method_8_code_4) rfl rfl ?_
    show Steps p.tables e below (s₁.setTop (mkF m 5 #[Rv a, Rv b, Rv a] [(.ref b), (.long u_a_0), (.ref a)])) tt_
    refine XS.iconst X0.here hEX rfl (hb hBY d_prog_59_method_8_code_5) ?_
    show Steps p.tables e below (s₁.setTop (mkF m 6 #[Rv a, Rv b, Rv a] [(.int (0 : Int32)), (.ref b), (.long u_a_0), (.ref a)])) tt_
    refine X0.laload hEX (j := (0 : Int32)) (v := (.long u_b_0)) (by rw [e0]; exact Ar_2.1) (State.isArrayOf_alike hZW.alike Ar_2.2.1) Ar_2.2.2 hin_2 hat_2 (g := (mkF m 6 #[Rv a, Rv b, Rv a] [(.int (0 : Int32)), (.ref b), (.long u_a_0), (.ref a)])) rfl rfl (hb hBY d_prog_59_method_8_code_6) _ ?_
    show Steps p.tables e below (s₁.setTop (mkF m 7 #[Rv a, Rv b, Rv a] [(.long u_b_0), (.long u_a_0), (.ref a)])) tt_
    refine XS.ladd X0.here hEX rfl (hb hBY d_prog_59_method_8_code_7) rfl ?_
    show Steps p.tables e below (s₁.setTop (mkF m 8 #[Rv a, Rv b, Rv a] [(.long (u_a_0 + u_b_0)), (.ref a)])) tt_
    refine XS.aloadN X0.here hEX rfl (hb hBY d_prog_59_method_8_code_8) rfl rfl ?_
    show Steps p.tables e below (s₁.setTop (mkF m 9 #[Rv a, Rv b, Rv a] [(.ref a), (.long (u_a_0 + u_b_0)), (.ref a)])) tt_
    refine XS.iconst X0.here hEX rfl (hb hBY d_prog_59_method_8_code_9) ?_
    show Steps p.tables e below (s₁.setTop (mkF m 10 #[Rv a, Rv b, Rv a] [(.int (1 : Int32)), (.ref a), (.long (u_a_0 + u_b_0)), (.ref a)])) tt_
    refine X0.laload hEX (j := (1 : Int32)) (v := (.long u_a_1)) (by rw [e0]; exact Ar_3.1) (State.isArrayOf_alike hZW.alike Ar_3.2.1) Ar_3.2.2 hin_3 hat_3 (g := (mkF m 10 #[Rv a, Rv b, Rv a] [(.int (1 : Int32)), (.ref a), (.long (u_a_0 + u_b_0)), (.ref a)])) rfl rfl (hb hBY d_prog_59_method_8_code_10) _ ?_
    show Steps p.tables e below (s₁.setTop (mkF m 11 #[Rv a, Rv b, Rv a] [(.long u_a_1), (.long (u_a_0 + u_b_0)), (.ref a)])) tt_
    refine XS.aloadN X0.here hEX rfl (hb hBY d_prog_59_method_8_code_11) rfl rfl ?_
    show Steps p.tables e below (s₁.setTop (mkF m 12 #[Rv a, Rv b, Rv a] [(.ref b), (.long u_a_1), (.long (u_a_0 + u_b_0)), (.ref a)])) tt_
    refine XS.iconst X0.here hEX rfl (hb hBY d_prog_59_method_8_code_12) ?_
    show Steps p.tables e below (s₁.setTop (mkF m 13 #[Rv a, Rv b, Rv a] [(.int (1 : Int32)), (.ref b), (.long u_a_1), (.long (u_a_0 + u_b_0)), (.ref a)])) tt_
    refine X0.laload hEX (j := (1 : Int32)) (v := (.long u_b_1)) (by rw [e0]; exact Ar_4.1) (State.isArrayOf_alike hZW.alike Ar_4.2.1) Ar_4.2.2 hin_4 hat_4 (g := (mkF m 13 #[Rv a, Rv b, Rv a] [(.int (1 : Int32)), (.ref b), (.long u_a_1), (.long (u_a_0 + u_b_0)), (.ref a)])) rfl rfl (hb hBY d_prog_59_method_8_code_13) _ ?_
    show Steps p.tables e below (s₁.setTop (mkF m 14 #[Rv a, Rv b, Rv a] [(.long u_b_1), (.long u_a_1), (.long (u_a_0 + u_b_0)), (.ref a)])) tt_
    refine XS.ladd X0.here hEX rfl (hb hBY d_prog_59_method_8_code_14) rfl ?_
    show Steps p.tables e below (s₁.setTop (mkF m 15 #[Rv a, Rv b, Rv a] [(.long (u_a_1 + u_b_1)), (.long (u_a_0 + u_b_0)), (.ref a)])) tt_
    refine XS.aloadN X0.here hEX rfl (hb hBY d_prog_59_method_8_code_15) rfl rfl ?_
    show Steps p.tables e below (s₁.setTop (mkF m 16 #[Rv a, Rv b, Rv a] [(.ref a), (.long (u_a_1 + u_b_1)), (.long (u_a_0 + u_b_0)), (.ref a)])) tt_
    refine XS.iconst X0.here hEX rfl (hb hBY d_prog_59_method_8_code_16) ?_
    show Steps p.tables e below (s₁.setTop (mkF m 17 #[Rv a, Rv b, Rv a] [(.int (2 : Int32)), (.ref a), (.long (u_a_1 + u_b_1)), (.long (u_a_0 + u_b_0)), (.ref a)])) tt_
    refine X0.laload hEX (j := (2 : Int32)) (v := (.long u_a_2)) (by rw [e0]; exact Ar_5.1) (State.isArrayOf_alike hZW.alike Ar_5.2.1) Ar_5.2.2 hin_5 hat_5 (g := (mkF m 17 #[Rv a, Rv b, Rv a] [(.int (2 : Int32)), (.ref a), (.long (u_a_1 + u_b_1)), (.long (u_a_0 + u_b_0)), (.ref a)])) rfl rfl (hb hBY d_prog_59_method_8_code_17) _ ?_
    show Steps p.tables e below (s₁.setTop (mkF m 18 #[Rv a, Rv b, Rv a] [(.long u_a_2), (.long (u_a_1 + u_b_1)), (.long (u_a_0 + u_b_0)), (.ref a)])) tt_
    refine XS.aloadN X0.here hEX rfl (hb hBY d_prog_59_method_8_code_18) rfl rfl ?_
    show Steps p.tables e below (s₁.setTop (mkF m 19 #[Rv a, Rv b, Rv a] [(.ref b), (.long u_a_2), (.long (u_a_1 + u_b_1)), (.long (u_a_0 + u_b_0)), (.ref a)])) tt_
    refine XS.iconst X0.here hEX rfl (hb hBY d_prog_59_method_8_code_19) ?_
    show Steps p.tables e below (s₁.setTop (mkF m 20 #[Rv a, Rv b, Rv a] [(.int (2 : Int32)), (.ref b), (.long u_a_2), (.long (u_a_1 + u_b_1)), (.long (u_a_0 + u_b_0)), (.ref a)])) tt_
    refine X0.laload hEX (j := (2 : Int32)) (v := (.long u_b_2)) (by rw [e0]; exact Ar_6.1) (State.isArrayOf_alike hZW.alike Ar_6.2.1) Ar_6.2.2 hin_6 hat_6 (g := (mkF m 20 #[Rv a, Rv b, Rv a] [(.int (2 : Int32)), (.ref b), (.long u_a_2), (.long (u_a_1 + u_b_1)), (.long (u_a_0 + u_b_0)), (.ref a)])) rfl rfl (hb hBY d_prog_59_method_8_code_20) _ ?_
    show Steps p.tables e below (s₁.setTop (mkF m 21 #[Rv a, Rv b, Rv a] [(.long u_b_2), (.long u_a_2), (.long (u_a_1 + u_b_1)), (.long (u_a_0 + u_b_0)), (.ref a)])) tt_
    refine XS.ladd X0.here hEX rfl (hb hBY d_prog_59_method_8_code_21) rfl ?_
    show Steps p.tables e below (s₁.setTop (mkF m 22 #[Rv a, Rv b, Rv a] [(.long (u_a_2 + u_b_2)), (.long (u_a_1 + u_b_1)), (.long (u_a_0 + u_b_0)), (.ref a)])) tt_
    refine XS.aloadN X0.here hEX rfl (hb hBY d_prog_59_method_8_code_22) rfl rfl ?_
    show Steps p.tables e below (s₁.setTop (mkF m 23 #[Rv a, Rv b, Rv a] [(.ref a), (.long (u_a_2 + u_b_2)), (.long (u_a_1 + u_b_1)), (.long (u_a_0 + u_b_0)), (.ref a)])) tt_
    refine XS.iconst X0.here hEX rfl (hb hBY d_prog_59_method_8_code_23) ?_
    show Steps p.tables e below (s₁.setTop (mkF m 24 #[Rv a, Rv b, Rv a] [(.int (3 : Int32)), (.ref a), (.long (u_a_2 + u_b_2)), (.long (u_a_1 + u_b_1)), (.long (u_a_0 + u_b_0)), (.ref a)])) tt_
    refine X0.laload hEX (j := (3 : Int32)) (v := (.long u_a_3)) (by rw [e0]; exact Ar_7.1) (State.isArrayOf_alike hZW.alike Ar_7.2.1) Ar_7.2.2 hin_7 hat_7 (g := (mkF m 24 #[Rv a, Rv b, Rv a] [(.int (3 : Int32)), (.ref a), (.long (u_a_2 + u_b_2)), (.long (u_a_1 + u_b_1)), (.long (u_a_0 + u_b_0)), (.ref a)])) rfl rfl (hb hBY d_prog_59_method_8_code_24) _ ?_
    show Steps p.tables e below (s₁.setTop (mkF m 25 #[Rv a, Rv b, Rv a] [(.long u_a_3), (.long (u_a_2 + u_b_2)), (.long (u_a_1 + u_b_1)), (.long (u_a_0 + u_b_0)), (.ref a)])) tt_
    refine XS.aloadN X0.here hEX rfl (hb hBY d_prog_59_method_8_code_25) rfl rfl ?_
    show Steps p.tables e below (s₁.setTop (mkF m 26 #[Rv a, Rv b, Rv a] [(.ref b), (.long u_a_3), (.long (u_a_2 + u_b_2)), (.long (u_a_1 + u_b_1)), (.long (u_a_0 + u_b_0)), (.ref a)])) tt_
    refine XS.iconst X0.here hEX rfl (hb hBY d_prog_59_method_8_code_26) ?_
    show Steps p.tables e below (s₁.setTop (mkF m 27 #[Rv a, Rv b, Rv a] [(.int (3 : Int32)), (.ref b), (.long u_a_3), (.long (u_a_2 + u_b_2)), (.long (u_a_1 + u_b_1)), (.long (u_a_0 + u_b_0)), (.ref a)])) tt_
    refine X0.laload hEX (j := (3 : Int32)) (v := (.long u_b_3)) (by rw [e0]; exact Ar_8.1) (State.isArrayOf_alike hZW.alike Ar_8.2.1) Ar_8.2.2 hin_8 hat_8 (g := (mkF m 27 #[Rv a, Rv b, Rv a] [(.int (3 : Int32)), (.ref b), (.long u_a_3), (.long (u_a_2 + u_b_2)), (.long (u_a_1 + u_b_1)), (.long (u_a_0 + u_b_0)), (.ref a)])) rfl rfl (hb hBY d_prog_59_method_8_code_27) _ ?_
    show Steps p.tables e below (s₁.setTop (mkF m 28 #[Rv a, Rv b, Rv a] [(.long u_b_3), (.long u_a_3), (.long (u_a_2 + u_b_2)), (.long (u_a_1 + u_b_1)), (.long (u_a_0 + u_b_0)), (.ref a)])) tt_
    refine XS.ladd X0.here hEX rfl (hb hBY d_prog_59_method_8_code_28) rfl ?_
    show Steps p.tables e below (s₁.setTop (mkF m 29 #[Rv a, Rv b, Rv a] [(.long (u_a_3 + u_b_3)), (.long (u_a_2 + u_b_2)), (.long (u_a_1 + u_b_1)), (.long (u_a_0 + u_b_0)), (.ref a)])) tt_
    refine XS.aloadN X0.here hEX rfl (hb hBY d_prog_59_method_8_code_29) rfl rfl ?_
    show Steps p.tables e below (s₁.setTop (mkF m 30 #[Rv a, Rv b, Rv a] [(.ref a), (.long (u_a_3 + u_b_3)), (.long (u_a_2 + u_b_2)), (.long (u_a_1 + u_b_1)), (.long (u_a_0 + u_b_0)), (.ref a)])) tt_
    refine XS.iconst X0.here hEX rfl (hb hBY d_prog_59_method_8_code_30) ?_
    show Steps p.tables e below (s₁.setTop (mkF m 31 #[Rv a, Rv b, Rv a] [(.int (4 : Int32)), (.ref a), (.long (u_a_3 + u_b_3)), (.long (u_a_2 + u_b_2)), (.long (u_a_1 + u_b_1)), (.long (u_a_0 + u_b_0)), (.ref a)])) tt_
    refine X0.laload hEX (j := (4 : Int32)) (v := (.long u_a_4)) (by rw [e0]; exact Ar_9.1) (State.isArrayOf_alike hZW.alike Ar_9.2.1) Ar_9.2.2 hin_9 hat_9 (g := (mkF m 31 #[Rv a, Rv b, Rv a] [(.int (4 : Int32)), (.ref a), (.long (u_a_3 + u_b_3)), (.long (u_a_2 + u_b_2)), (.long (u_a_1 + u_b_1)), (.long (u_a_0 + u_b_0)), (.ref a)])) rfl rfl (hb hBY d_prog_59_method_8_code_31) _ ?_
    show Steps p.tables e below (s₁.setTop (mkF m 32 #[Rv a, Rv b, Rv a] [(.long u_a_4), (.long (u_a_3 + u_b_3)), (.long (u_a_2 + u_b_2)), (.long (u_a_1 + u_b_1)), (.long (u_a_0 + u_b_0)), (.ref a)])) tt_
    refine XS.aloadN X0.here hEX rfl (hb hBY d_prog_59_method_8_code_32) rfl rfl ?_
    show Steps p.tables e below (s₁.setTop (mkF m 33 #[Rv a, Rv b, Rv a] [(.ref b), (.long u_a_4), (.long (u_a_3 + u_b_3)), (.long (u_a_2 + u_b_2)), (.long (u_a_1 + u_b_1)), (.long (u_a_0 + u_b_0)), (.ref a)])) tt_
    refine XS.iconst X0.here hEX rfl (hb hBY d_prog_59_method_8_code_33) ?_
    show Steps p.tables e below (s₁.setTop (mkF m 34 #[Rv a, Rv b, Rv a] [(.int (4 : Int32)), (.ref b), (.long u_a_4), (.long (u_a_3 + u_b_3)), (.long (u_a_2 + u_b_2)), (.long (u_a_1 + u_b_1)), (.long (u_a_0 + u_b_0)), (.ref a)])) tt_
    refine X0.laload hEX (j := (4 : Int32)) (v := (.long u_b_4)) (by rw [e0]; exact Ar_10.1) (State.isArrayOf_alike hZW.alike Ar_10.2.1) Ar_10.2.2 hin_10 hat_10 (g := (mkF m 34 #[Rv a, Rv b, Rv a] [(.int (4 : Int32)), (.ref b), (.long u_a_4), (.long (u_a_3 + u_b_3)), (.long (u_a_2 + u_b_2)), (.long (u_a_1 + u_b_1)), (.long (u_a_0 + u_b_0)), (.ref a)])) rfl rfl (hb hBY d_prog_59_method_8_code_34) _ ?_
    show Steps p.tables e below (s₁.setTop (mkF m 35 #[Rv a, Rv b, Rv a] [(.long u_b_4), (.long u_a_4), (.long (u_a_3 + u_b_3)), (.long (u_a_2 + u_b_2)), (.long (u_a_1 + u_b_1)), (.long (u_a_0 + u_b_0)), (.ref a)])) tt_
    refine XS.ladd X0.here hEX rfl (hb hBY d_prog_59_method_8_code_35) rfl ?_
    show Steps p.tables e below (s₁.setTop (mkF m 36 #[Rv a, Rv b, Rv a] [(.long (u_a_4 + u_b_4)), (.long (u_a_3 + u_b_3)), (.long (u_a_2 + u_b_2)), (.long (u_a_1 + u_b_1)), (.long (u_a_0 + u_b_0)), (.ref a)])) tt_
    refine XS.aloadN X0.here hEX rfl (hb hBY d_prog_59_method_8_code_36) rfl rfl ?_
    show Steps p.tables e below (s₁.setTop (mkF m 37 #[Rv a, Rv b, Rv a] [(.ref a), (.long (u_a_4 + u_b_4)), (.long (u_a_3 + u_b_3)), (.long (u_a_2 + u_b_2)), (.long (u_a_1 + u_b_1)), (.long (u_a_0 + u_b_0)), (.ref a)])) tt_
    refine XS.iconst X0.here hEX rfl (hb hBY d_prog_59_method_8_code_37) ?_
    show Steps p.tables e below (s₁.setTop (mkF m 38 #[Rv a, Rv b, Rv a] [(.int (5 : Int32)), (.ref a), (.long (u_a_4 + u_b_4)), (.long (u_a_3 + u_b_3)), (.long (u_a_2 + u_b_2)), (.long (u_a_1 + u_b_1)), (.long (u_a_0 + u_b_0)), (.ref a)])) tt_
    refine X0.laload hEX (j := (5 : Int32)) (v := (.long u_a_5)) (by rw [e0]; exact Ar_11.1) (State.isArrayOf_alike hZW.alike Ar_11.2.1) Ar_11.2.2 hin_11 hat_11 (g := (mkF m 38 #[Rv a, Rv b, Rv a] [(.int (5 : Int32)), (.ref a), (.long (u_a_4 + u_b_4)), (.long (u_a_3 + u_b_3)), (.long (u_a_2 + u_b_2)), (.long (u_a_1 + u_b_1)), (.long (u_a_0 + u_b_0)), (.ref a)])) rfl rfl (hb hBY d_prog_59_method_8_code_38) _ ?_
    show Steps p.tables e below (s₁.setTop (mkF m 39 #[Rv a, Rv b, Rv a] [(.long u_a_5), (.long (u_a_4 + u_b_4)), (.long (u_a_3 + u_b_3)), (.long (u_a_2 + u_b_2)), (.long (u_a_1 + u_b_1)), (.long (u_a_0 + u_b_0)), (.ref a)])) tt_
    refine XS.aloadN X0.here hEX rfl (hb hBY d_prog_59_method_8_code_39) rfl rfl ?_
    show Steps p.tables e below (s₁.setTop (mkF m 40 #[Rv a, Rv b, Rv a] [(.ref b), (.long u_a_5), (.long (u_a_4 + u_b_4)), (.long (u_a_3 + u_b_3)), (.long (u_a_2 + u_b_2)), (.long (u_a_1 + u_b_1)), (.long (u_a_0 + u_b_0)), (.ref a)])) tt_
    refine XS.iconst X0.here hEX rfl (hb hBY d_prog_59_method_8_code_40) ?_
    show Steps p.tables e below (s₁.setTop (mkF m 41 #[Rv a, Rv b, Rv a] [(.int (5 : Int32)), (.ref b), (.long u_a_5), (.long (u_a_4 + u_b_4)), (.long (u_a_3 + u_b_3)), (.long (u_a_2 + u_b_2)), (.long (u_a_1 + u_b_1)), (.long (u_a_0 + u_b_0)), (.ref a)])) tt_
    refine X0.laload hEX (j := (5 : Int32)) (v := (.long u_b_5)) (by rw [e0]; exact Ar_12.1) (State.isArrayOf_alike hZW.alike Ar_12.2.1) Ar_12.2.2 hin_12 hat_12 (g := (mkF m 41 #[Rv a, Rv b, Rv a] [(.int (5 : Int32)), (.ref b), (.long u_a_5), (.long (u_a_4 + u_b_4)), (.long (u_a_3 + u_b_3)), (.long (u_a_2 + u_b_2)), (.long (u_a_1 + u_b_1)), (.long (u_a_0 + u_b_0)), (.ref a)])) rfl rfl (hb hBY d_prog_59_method_8_code_41) _ ?_
    show Steps p.tables e below (s₁.setTop (mkF m 42 #[Rv a, Rv b, Rv a] [(.long u_b_5), (.long u_a_5), (.long (u_a_4 + u_b_4)), (.long (u_a_3 + u_b_3)), (.long (u_a_2 + u_b_2)), (.long (u_a_1 + u_b_1)), (.long (u_a_0 + u_b_0)), (.ref a)])) tt_
    refine XS.ladd X0.here hEX rfl (hb hBY d_prog_59_method_8_code_42) rfl ?_
    show Steps p.tables e below (s₁.setTop (mkF m 43 #[Rv a, Rv b, Rv a] [(.long (u_a_5 + u_b_5)), (.long (u_a_4 + u_b_4)), (.long (u_a_3 + u_b_3)), (.long (u_a_2 + u_b_2)), (.long (u_a_1 + u_b_1)), (.long (u_a_0 + u_b_0)), (.ref a)])) tt_
    refine XS.aloadN X0.here hEX rfl (hb hBY d_prog_59_method_8_code_43) rfl rfl ?_
    show Steps p.tables e below (s₁.setTop (mkF m 44 #[Rv a, Rv b, Rv a] [(.ref a), (.long (u_a_5 + u_b_5)), (.long (u_a_4 + u_b_4)), (.long (u_a_3 + u_b_3)), (.long (u_a_2 + u_b_2)), (.long (u_a_1 + u_b_1)), (.long (u_a_0 + u_b_0)), (.ref a)])) tt_
    refine XS.bipush X0.here hEX rfl (hb hBY d_prog_59_method_8_code_44) ?_
    show Steps p.tables e below (s₁.setTop (mkF m 46 #[Rv a, Rv b, Rv a] [(.int (6 : Int32)), (.ref a), (.long (u_a_5 + u_b_5)), (.long (u_a_4 + u_b_4)), (.long (u_a_3 + u_b_3)), (.long (u_a_2 + u_b_2)), (.long (u_a_1 + u_b_1)), (.long (u_a_0 + u_b_0)), (.ref a)])) tt_
    refine X0.laload hEX (j := (6 : Int32)) (v := (.long u_a_6)) (by rw [e0]; exact Ar_13.1) (State.isArrayOf_alike hZW.alike Ar_13.2.1) Ar_13.2.2 hin_13 hat_13 (g := (mkF m 46 #[Rv a, Rv b, Rv a] [(.int (6 : Int32)), (.ref a), (.long (u_a_5 + u_b_5)), (.long (u_a_4 + u_b_4)), (.long (u_a_3 + u_b_3)), (.long (u_a_2 + u_b_2)), (.long (u_a_1 + u_b_1)), (.long (u_a_0 + u_b_0)), (.ref a)])) rfl rfl (hb hBY d_prog_59_method_8_code_46) _ ?_
    show Steps p.tables e below (s₁.setTop (mkF m 47 #[Rv a, Rv b, Rv a] [(.long u_a_6), (.long (u_a_5 + u_b_5)), (.long (u_a_4 + u_b_4)), (.long (u_a_3 + u_b_3)), (.long (u_a_2 + u_b_2)), (.long (u_a_1 + u_b_1)), (.long (u_a_0 + u_b_0)), (.ref a)])) tt_
    refine XS.aloadN X0.here hEX rfl (hb hBY d_prog_59_method_8_code_47) rfl rfl ?_
    show Steps p.tables e below (s₁.setTop (mkF m 48 #[Rv a, Rv b, Rv a] [(.ref b), (.long u_a_6), (.long (u_a_5 + u_b_5)), (.long (u_a_4 + u_b_4)), (.long (u_a_3 + u_b_3)), (.long (u_a_2 + u_b_2)), (.long (u_a_1 + u_b_1)), (.long (u_a_0 + u_b_0)), (.ref a)])) tt_
    refine XS.bipush X0.here hEX rfl (hb hBY d_prog_59_method_8_code_48) ?_
    show Steps p.tables e below (s₁.setTop (mkF m 50 #[Rv a, Rv b, Rv a] [(.int (6 : Int32)), (.ref b), (.long u_a_6), (.long (u_a_5 + u_b_5)), (.long (u_a_4 + u_b_4)), (.long (u_a_3 + u_b_3)), (.long (u_a_2 + u_b_2)), (.long (u_a_1 + u_b_1)), (.long (u_a_0 + u_b_0)), (.ref a)])) tt_
    refine X0.laload hEX (j := (6 : Int32)) (v := (.long u_b_6)) (by rw [e0]; exact Ar_14.1) (State.isArrayOf_alike hZW.alike Ar_14.2.1) Ar_14.2.2 hin_14 hat_14 (g := (mkF m 50 #[Rv a, Rv b, Rv a] [(.int (6 : Int32)), (.ref b), (.long u_a_6), (.long (u_a_5 + u_b_5)), (.long (u_a_4 + u_b_4)), (.long (u_a_3 + u_b_3)), (.long (u_a_2 + u_b_2)), (.long (u_a_1 + u_b_1)), (.long (u_a_0 + u_b_0)), (.ref a)])) rfl rfl (hb hBY d_prog_59_method_8_code_50) _ ?_
    show Steps p.tables e below (s₁.setTop (mkF m 51 #[Rv a, Rv b, Rv a] [(.long u_b_6), (.long u_a_6), (.long (u_a_5 + u_b_5)), (.long (u_a_4 + u_b_4)), (.long (u_a_3 + u_b_3)), (.long (u_a_2 + u_b_2)), (.long (u_a_1 + u_b_1)), (.long (u_a_0 + u_b_0)), (.ref a)])) tt_
    refine XS.ladd X0.here hEX rfl (hb hBY d_prog_59_method_8_code_51) rfl ?_
    show Steps p.tables e below (s₁.setTop (mkF m 52 #[Rv a, Rv b, Rv a] [(.long (u_a_6 + u_b_6)), (.long (u_a_5 + u_b_5)), (.long (u_a_4 + u_b_4)), (.long (u_a_3 + u_b_3)), (.long (u_a_2 + u_b_2)), (.long (u_a_1 + u_b_1)), (.long (u_a_0 + u_b_0)), (.ref a)])) tt_
    refine XS.aloadN X0.here hEX rfl (hb hBY d_prog_59_method_8_code_52) rfl rfl ?_
    show Steps p.tables e below (s₁.setTop (mkF m 53 #[Rv a, Rv b, Rv a] [(.ref a), (.long (u_a_6 + u_b_6)), (.long (u_a_5 + u_b_5)), (.long (u_a_4 + u_b_4)), (.long (u_a_3 + u_b_3)), (.long (u_a_2 + u_b_2)), (.long (u_a_1 + u_b_1)), (.long (u_a_0 + u_b_0)), (.ref a)])) tt_
    refine XS.bipush X0.here hEX rfl (hb hBY d_prog_59_method_8_code_53) ?_
    show Steps p.tables e below (s₁.setTop (mkF m 55 #[Rv a, Rv b, Rv a] [(.int (7 : Int32)), (.ref a), (.long (u_a_6 + u_b_6)), (.long (u_a_5 + u_b_5)), (.long (u_a_4 + u_b_4)), (.long (u_a_3 + u_b_3)), (.long (u_a_2 + u_b_2)), (.long (u_a_1 + u_b_1)), (.long (u_a_0 + u_b_0)), (.ref a)])) tt_
    refine X0.laload hEX (j := (7 : Int32)) (v := (.long u_a_7)) (by rw [e0]; exact Ar_15.1) (State.isArrayOf_alike hZW.alike Ar_15.2.1) Ar_15.2.2 hin_15 hat_15 (g := (mkF m 55 #[Rv a, Rv b, Rv a] [(.int (7 : Int32)), (.ref a), (.long (u_a_6 + u_b_6)), (.long (u_a_5 + u_b_5)), (.long (u_a_4 + u_b_4)), (.long (u_a_3 + u_b_3)), (.long (u_a_2 + u_b_2)), (.long (u_a_1 + u_b_1)), (.long (u_a_0 + u_b_0)), (.ref a)])) rfl rfl (hb hBY d_prog_59_method_8_code_55) _ ?_
    show Steps p.tables e below (s₁.setTop (mkF m 56 #[Rv a, Rv b, Rv a] [(.long u_a_7), (.long (u_a_6 + u_b_6)), (.long (u_a_5 + u_b_5)), (.long (u_a_4 + u_b_4)), (.long (u_a_3 + u_b_3)), (.long (u_a_2 + u_b_2)), (.long (u_a_1 + u_b_1)), (.long (u_a_0 + u_b_0)), (.ref a)])) tt_
    refine XS.aloadN X0.here hEX rfl (hb hBY d_prog_59_method_8_code_56) rfl rfl ?_
    show Steps p.tables e below (s₁.setTop (mkF m 57 #[Rv a, Rv b, Rv a] [(.ref b), (.long u_a_7), (.long (u_a_6 + u_b_6)), (.long (u_a_5 + u_b_5)), (.long (u_a_4 + u_b_4)), (.long (u_a_3 + u_b_3)), (.long (u_a_2 + u_b_2)), (.long (u_a_1 + u_b_1)), (.long (u_a_0 + u_b_0)), (.ref a)])) tt_
    refine XS.bipush X0.here hEX rfl (hb hBY d_prog_59_method_8_code_57) ?_
    show Steps p.tables e below (s₁.setTop (mkF m 59 #[Rv a, Rv b, Rv a] [(.int (7 : Int32)), (.ref b), (.long u_a_7), (.long (u_a_6 + u_b_6)), (.long (u_a_5 + u_b_5)), (.long (u_a_4 + u_b_4)), (.long (u_a_3 + u_b_3)), (.long (u_a_2 + u_b_2)), (.long (u_a_1 + u_b_1)), (.long (u_a_0 + u_b_0)), (.ref a)])) tt_
    refine X0.laload hEX (j := (7 : Int32)) (v := (.long u_b_7)) (by rw [e0]; exact Ar_16.1) (State.isArrayOf_alike hZW.alike Ar_16.2.1) Ar_16.2.2 hin_16 hat_16 (g := (mkF m 59 #[Rv a, Rv b, Rv a] [(.int (7 : Int32)), (.ref b), (.long u_a_7), (.long (u_a_6 + u_b_6)), (.long (u_a_5 + u_b_5)), (.long (u_a_4 + u_b_4)), (.long (u_a_3 + u_b_3)), (.long (u_a_2 + u_b_2)), (.long (u_a_1 + u_b_1)), (.long (u_a_0 + u_b_0)), (.ref a)])) rfl rfl (hb hBY d_prog_59_method_8_code_59) _ ?_
    show Steps p.tables e below (s₁.setTop (mkF m 60 #[Rv a, Rv b, Rv a] [(.long u_b_7), (.long u_a_7), (.long (u_a_6 + u_b_6)), (.long (u_a_5 + u_b_5)), (.long (u_a_4 + u_b_4)), (.long (u_a_3 + u_b_3)), (.long (u_a_2 + u_b_2)), (.long (u_a_1 + u_b_1)), (.long (u_a_0 + u_b_0)), (.ref a)])) tt_
    refine XS.ladd X0.here hEX rfl (hb hBY d_prog_59_method_8_code_60) rfl ?_
    exact kt_
  refine Done.pre sg_17 ?_
  obtain ⟨_, _, ⟨T_18, L_18, k_18, n_18⟩, -, X_18, ⟨Lc_18, hQ_18, l_18, y_18, z_18⟩, st_18⟩ := Jvm.LawKit.callS X0 hEX (y := (⟨"com/example/guard3/guard3/P384Field", "store", "([JJJJJJJJJ)V"⟩ : MethodName)) hOW (mvT hZW (hw _ (List.mem_of_getElem? (i := 20) rfl))) (mvT hZW (hw _ (List.mem_of_getElem? (i := 21) rfl))) (mvT hZW (hw _ (List.mem_of_getElem? (i := 18) rfl))) (mvT hZW (hw _ (List.mem_of_getElem? (i := 22) rfl))) (by decide) (backOf (W := 0) (rm_store l Z aZ hw [] a (u_a_0 + u_b_0) (u_a_1 + u_b_1) (u_a_2 + u_b_2) (u_a_3 + u_b_3) (u_a_4 + u_b_4) (u_a_5 + u_b_5) (u_a_6 + u_b_6) (u_a_7 + u_b_7) k_a u_a_0 u_a_1 u_a_2 u_a_3 u_a_4 u_a_5 u_a_6 u_a_7 h0 n0 (Nat.le_trans Z0 K0.1) A_a go (own_Rup _ _ _ _ _ _ _ _ _ _ (by decide) (own_addb 1125899906842624 (by decide) u_a_0 u_a_1 u_a_2 u_a_3 u_a_4 u_a_5 u_a_6 u_a_7 u_b_0 u_b_1 u_b_2 u_b_3 u_b_4 u_b_5 u_b_6 u_b_7 hRa hRb).1)) hZW (hw _ (List.mem_of_getElem? (i := 22) rfl)) (hw _ (List.mem_of_getElem? (i := 18) rfl)) (by decide) (by decide)) (g := (mkF m 61 #[Rv a, Rv b, Rv a] [(.long (u_a_7 + u_b_7)), (.long (u_a_6 + u_b_6)), (.long (u_a_5 + u_b_5)), (.long (u_a_4 + u_b_4)), (.long (u_a_3 + u_b_3)), (.long (u_a_2 + u_b_2)), (.long (u_a_1 + u_b_1)), (.long (u_a_0 + u_b_0)), (.ref a)])) rfl (by rw [hMX]; rfl) (argsL := [(.ref a), (.long (u_a_0 + u_b_0)), (.long (u_a_1 + u_b_1)), (.long (u_a_2 + u_b_2)), (.long (u_a_3 + u_b_3)), (.long (u_a_4 + u_b_4)), (.long (u_a_5 + u_b_5)), (.long (u_a_6 + u_b_6)), (.long (u_a_7 + u_b_7))]) (rest := []) (lenOf pd___JJJJJJJJJ_V_8 rfl) rfl (by show 2 * 0 + _ ≤ _; exact Nat.le_of_eq rfl) (hb hBY d_prog_59_method_8_code_61) (fun _ _ => ⟨rfl, e0, (by decide : 0 + 0 ≤ _), (by decide : 0 + 0 ≤ _)⟩)
  dsimp only [Pt.U, Pt.locs, Pt.cells, Pt.slots] at X_18 l_18 y_18 z_18 st_18 hQ_18
  subst l_18 y_18 z_18
  obtain ⟨r0__18, r1__18, r2__18, r3__18, r4__18, r5__18, r6__18, r7__18, rfl, N_18q, K_18, hq_18_0, hq_18_1, hq_18_2⟩ := hQ_18
  have N_18 := Fr.app N0 N_18q
  have K__19 : Keep h0 T_18.heap [a] := K0.trans K_18 (allS (Or.inl (List.mem_of_getElem? (i := 0) rfl)) all0)
  have f_20 : Arv Z T_18.heap b k_b .long (8 : Int32) [(.long u_b_0), (.long u_b_1), (.long u_b_2), (.long u_b_3), (.long u_b_4), (.long u_b_5), (.long u_b_6), (.long u_b_7)] (.long (0 : Int64)) := A_b.keep K_18 (ninS (Ne.symm ne_a_b) nin0)
  refine Done.pre (fun _ k_ => st_18 _ k_) ?_
  show Done _ _ _ _ _ _ _ (T_18.setTop (mkF m 64 #[Rv a, Rv b, Rv a] []))
  exact Done.retV X_18 hEX hLK hRT (hb hBY d_prog_59_method_8_code_64) (by exact ⟨r0__18, r1__18, r2__18, r3__18, r4__18, r5__18, r6__18, r7__18, rfl, N_18, K__19, hq_18_0, hq_18_1, (by have q := hq_18_2; rw [(own_addb 1125899906842624 (by decide) u_a_0 u_a_1 u_a_2 u_a_3 u_a_4 u_a_5 u_a_6 u_a_7 u_b_0 u_b_1 u_b_2 u_b_3 u_b_4 u_b_5 u_b_6 u_b_7 hRa hRb).2] at q; exact q)⟩) (by decide) (by decide)
def Qrm_add_abb (Z : State) (a : Addr) (b : Addr) (k_a : ClassId) (u_a_0 : Int64) (u_a_1 : Int64) (u_a_2 : Int64) (u_a_3 : Int64) (u_a_4 : Int64) (u_a_5 : Int64) (u_a_6 : Int64) (u_a_7 : Int64) (k_b : ClassId) (u_b_0 : Int64) (u_b_1 : Int64) (u_b_2 : Int64) (u_b_3 : Int64) (u_b_4 : Int64) (u_b_5 : Int64) (u_b_6 : Int64) (u_b_7 : Int64) (h0 : Heap) (n0 : Nat) (v_ : Option Value) (h_ : Heap) (L_ : List Loc) : Prop := ∃ (r0 : Int64), ∃ (r1 : Int64), ∃ (r2 : Int64), ∃ (r3 : Int64), ∃ (r4 : Int64), ∃ (r5 : Int64), ∃ (r6 : Int64), ∃ (r7 : Int64), v_ = none ∧ Fr n0 L_ ∧ Keep h0 h_ [b] ∧ Arv Z h_ b k_b .long (8 : Int32) [(.long r0), (.long r1), (.long r2), (.long r3), (.long r4), (.long r5), (.long r6), (.long r7)] (.long (0 : Int64)) ∧ own_R 562949953421440 r0 r1 r2 r3 r4 r5 r6 r7 ∧ own_M ((own_W u_a_0 u_a_1 u_a_2 u_a_3 u_a_4 u_a_5 u_a_6 u_a_7 + own_W u_b_0 u_b_1 u_b_2 u_b_3 u_b_4 u_b_5 u_b_6 u_b_7) - own_W r0 r1 r2 r3 r4 r5 r6 r7)
theorem ef_rm_add_abb (m : MethodId) (x0 : Addr) (x1 : Addr) (x2 : Addr) : entryFrame m #[(.ref x0), (.ref x2), (.ref x2)] 3 = mkF m 0 #[.val (.ref x0), .val (.ref x2), .val (.ref x2)] [] := by first | (simp [entryFrame, mkF, argsToLocals, Value.category]; done) | rfl
set_option maxRecDepth 65536 in
set_option maxHeartbeats 40000000 in
theorem rm_add_abb (l : Launch) (Z : State) (aZ : Array Value) (hw : ∀ d ∈ tables_1, d.before aZ Z = true) (ws : List Jvm.Cond) (a : Addr) (b : Addr) (k_a : ClassId) (u_a_0 : Int64) (u_a_1 : Int64) (u_a_2 : Int64) (u_a_3 : Int64) (u_a_4 : Int64) (u_a_5 : Int64) (u_a_6 : Int64) (u_a_7 : Int64) (k_b : ClassId) (u_b_0 : Int64) (u_b_1 : Int64) (u_b_2 : Int64) (u_b_3 : Int64) (u_b_4 : Int64) (u_b_5 : Int64) (u_b_6 : Int64) (u_b_7 : Int64) (h0 : Heap) (n0 : Nat) (Z0 : n0 ≤ h0.size) (A_a : Arv Z h0 a k_a .long (8 : Int32) [(.long u_a_0), (.long u_a_1), (.long u_a_2), (.long u_a_3), (.long u_a_4), (.long u_a_5), (.long u_a_6), (.long u_a_7)] (.long (0 : Int64))) (A_b : Arv Z h0 b k_b .long (8 : Int32) [(.long u_b_0), (.long u_b_1), (.long u_b_2), (.long u_b_3), (.long u_b_4), (.long u_b_5), (.long u_b_6), (.long u_b_7)] (.long (0 : Int64))) (go : n0 ≤ b) (ne_a_b : a ≠ b) (hRa : own_R 1125899906842624 u_a_0 u_a_1 u_a_2 u_a_3 u_a_4 u_a_5 u_a_6 u_a_7) (hRb : own_R 1125899906842624 u_b_0 u_b_1 u_b_2 u_b_3 u_b_4 u_b_5 u_b_6 u_b_7) :
    MetFree l (⟨"com/example/guard3/guard3/P384Field", "add", "([J[J[J)V"⟩ : MethodName) (head1 (Jvm.Cond.code (⟨"com/example/guard3/guard3/P384Field", "add", "([J[J[J)V"⟩ : MethodName) prog_59_method_8_code 3 none :: ws) ({ frames := 1, cells := 0, slots := 0, locals := 34 } : Room)) (fun a_ U_ => a_ = #[(.ref a), (.ref b), (.ref b)] ∧ Z.Warmed39 U_.vm ∧ U_.heap = h0) (fun _ _ _ _ _ => True) (fun _ U_ o_ U2_ => ∃ v_ L_, o_ = .returned v_ ∧ Qrm_add_abb Z a b k_a u_a_0 u_a_1 u_a_2 u_a_3 u_a_4 u_a_5 u_a_6 u_a_7 k_b u_b_0 u_b_1 u_b_2 u_b_3 u_b_4 u_b_5 u_b_6 u_b_7 h0 n0 v_ U2_.heap L_ ∧ FrameEnd U_ o_ U2_ L_ ({ frames := 1, cells := 0, slots := 0, locals := 34 } : Room).cells ({ frames := 1, cells := 0, slots := 0, locals := 34 } : Room).slots) := by
  refine MetFree.of_bodySF (plainFor_of_name pn_com_example_guard3_guard3_P384Field) hisR ?_
  intro p e s m args below meth cO s₁ Bd hml0 hP hK
  obtain ⟨rfl, hZW, hh⟩ := hP
  have hEX := Bd.exec
  have hBY := Bd.bytes
  have hMX : cO.maxLocals = 3 := hml0
  have hOW : s.vm.findClass "com/example/guard3/guard3/P384Field" = some m.cls := findClass_of_methodNamed Bd.named
  have hNM := (name_of_methodNamed Bd.named Bd.method).1
  have hLK := Bd.notSynchronized
  have hRT := Bd.returns
  have X0 : Stand p l e ({ frames := 1, cells := 0, slots := 0, locals := 34 } : Room) s m #[(.ref a), (.ref b), (.ref b)] below meth cO s₁ [] 0 0 := Stand.of_body Bd
  have e0 : s₁.heap = h0 := by rw [← hh, Bd.state]; rfl
  have N0 := Fr.nil n0
  have K0 : Keep h0 h0 [b] := Keep.refl _ _
  show Done p e below s (Qrm_add_abb Z a b k_a u_a_0 u_a_1 u_a_2 u_a_3 u_a_4 u_a_5 u_a_6 u_a_7 k_b u_b_0 u_b_1 u_b_2 u_b_3 u_b_4 u_b_5 u_b_6 u_b_7 h0 n0) ({ frames := 1, cells := 0, slots := 0, locals := 34 } : Room).cells ({ frames := 1, cells := 0, slots := 0, locals := 34 } : Room).slots (s₁.setTop (entryFrame m #[(.ref a), (.ref b), (.ref b)] 3))
  refine Done.pre (fun t_ k_ => castTop (ef_rm_add_abb m a b b) k_) ?_
  show Done _ _ _ _ _ _ _ (s₁.setTop (mkF m 0 #[Rv a, Rv b, Rv b] []))
  obtain ⟨cl_1, Ar_1, q_1, S_1, N__1, H_1, G_1⟩ := id A_a
  have hin_1 : ¬ ((0 : Int32) < 0 ∨ cl_1.slots.size ≤ ((0 : Int32)).toNatClampNeg) := inb_of S_1 ⟨by decide, by decide⟩
  have hat_1 : cl_1.slots[((0 : Int32)).toNatClampNeg]? = some (.long u_a_0) := H_1.at hin_1 rfl
  obtain ⟨cl_2, Ar_2, q_2, S_2, N__2, H_2, G_2⟩ := id A_b
  have hin_2 : ¬ ((0 : Int32) < 0 ∨ cl_2.slots.size ≤ ((0 : Int32)).toNatClampNeg) := inb_of S_2 ⟨by decide, by decide⟩
  have hat_2 : cl_2.slots[((0 : Int32)).toNatClampNeg]? = some (.long u_b_0) := H_2.at hin_2 rfl
  obtain ⟨cl_3, Ar_3, q_3, S_3, N__3, H_3, G_3⟩ := id A_a
  have hin_3 : ¬ ((1 : Int32) < 0 ∨ cl_3.slots.size ≤ ((1 : Int32)).toNatClampNeg) := inb_of S_3 ⟨by decide, by decide⟩
  have hat_3 : cl_3.slots[((1 : Int32)).toNatClampNeg]? = some (.long u_a_1) := H_3.at hin_3 rfl
  obtain ⟨cl_4, Ar_4, q_4, S_4, N__4, H_4, G_4⟩ := id A_b
  have hin_4 : ¬ ((1 : Int32) < 0 ∨ cl_4.slots.size ≤ ((1 : Int32)).toNatClampNeg) := inb_of S_4 ⟨by decide, by decide⟩
  have hat_4 : cl_4.slots[((1 : Int32)).toNatClampNeg]? = some (.long u_b_1) := H_4.at hin_4 rfl
  obtain ⟨cl_5, Ar_5, q_5, S_5, N__5, H_5, G_5⟩ := id A_a
  have hin_5 : ¬ ((2 : Int32) < 0 ∨ cl_5.slots.size ≤ ((2 : Int32)).toNatClampNeg) := inb_of S_5 ⟨by decide, by decide⟩
  have hat_5 : cl_5.slots[((2 : Int32)).toNatClampNeg]? = some (.long u_a_2) := H_5.at hin_5 rfl
  obtain ⟨cl_6, Ar_6, q_6, S_6, N__6, H_6, G_6⟩ := id A_b
  have hin_6 : ¬ ((2 : Int32) < 0 ∨ cl_6.slots.size ≤ ((2 : Int32)).toNatClampNeg) := inb_of S_6 ⟨by decide, by decide⟩
  have hat_6 : cl_6.slots[((2 : Int32)).toNatClampNeg]? = some (.long u_b_2) := H_6.at hin_6 rfl
  obtain ⟨cl_7, Ar_7, q_7, S_7, N__7, H_7, G_7⟩ := id A_a
  have hin_7 : ¬ ((3 : Int32) < 0 ∨ cl_7.slots.size ≤ ((3 : Int32)).toNatClampNeg) := inb_of S_7 ⟨by decide, by decide⟩
  have hat_7 : cl_7.slots[((3 : Int32)).toNatClampNeg]? = some (.long u_a_3) := H_7.at hin_7 rfl
  obtain ⟨cl_8, Ar_8, q_8, S_8, N__8, H_8, G_8⟩ := id A_b
  have hin_8 : ¬ ((3 : Int32) < 0 ∨ cl_8.slots.size ≤ ((3 : Int32)).toNatClampNeg) := inb_of S_8 ⟨by decide, by decide⟩
  have hat_8 : cl_8.slots[((3 : Int32)).toNatClampNeg]? = some (.long u_b_3) := H_8.at hin_8 rfl
  obtain ⟨cl_9, Ar_9, q_9, S_9, N__9, H_9, G_9⟩ := id A_a
  have hin_9 : ¬ ((4 : Int32) < 0 ∨ cl_9.slots.size ≤ ((4 : Int32)).toNatClampNeg) := inb_of S_9 ⟨by decide, by decide⟩
  have hat_9 : cl_9.slots[((4 : Int32)).toNatClampNeg]? = some (.long u_a_4) := H_9.at hin_9 rfl
  obtain ⟨cl_10, Ar_10, q_10, S_10, N__10, H_10, G_10⟩ := id A_b
  have hin_10 : ¬ ((4 : Int32) < 0 ∨ cl_10.slots.size ≤ ((4 : Int32)).toNatClampNeg) := inb_of S_10 ⟨by decide, by decide⟩
  have hat_10 : cl_10.slots[((4 : Int32)).toNatClampNeg]? = some (.long u_b_4) := H_10.at hin_10 rfl
  obtain ⟨cl_11, Ar_11, q_11, S_11, N__11, H_11, G_11⟩ := id A_a
  have hin_11 : ¬ ((5 : Int32) < 0 ∨ cl_11.slots.size ≤ ((5 : Int32)).toNatClampNeg) := inb_of S_11 ⟨by decide, by decide⟩
  have hat_11 : cl_11.slots[((5 : Int32)).toNatClampNeg]? = some (.long u_a_5) := H_11.at hin_11 rfl
  obtain ⟨cl_12, Ar_12, q_12, S_12, N__12, H_12, G_12⟩ := id A_b
  have hin_12 : ¬ ((5 : Int32) < 0 ∨ cl_12.slots.size ≤ ((5 : Int32)).toNatClampNeg) := inb_of S_12 ⟨by decide, by decide⟩
  have hat_12 : cl_12.slots[((5 : Int32)).toNatClampNeg]? = some (.long u_b_5) := H_12.at hin_12 rfl
  obtain ⟨cl_13, Ar_13, q_13, S_13, N__13, H_13, G_13⟩ := id A_a
  have hin_13 : ¬ ((6 : Int32) < 0 ∨ cl_13.slots.size ≤ ((6 : Int32)).toNatClampNeg) := inb_of S_13 ⟨by decide, by decide⟩
  have hat_13 : cl_13.slots[((6 : Int32)).toNatClampNeg]? = some (.long u_a_6) := H_13.at hin_13 rfl
  obtain ⟨cl_14, Ar_14, q_14, S_14, N__14, H_14, G_14⟩ := id A_b
  have hin_14 : ¬ ((6 : Int32) < 0 ∨ cl_14.slots.size ≤ ((6 : Int32)).toNatClampNeg) := inb_of S_14 ⟨by decide, by decide⟩
  have hat_14 : cl_14.slots[((6 : Int32)).toNatClampNeg]? = some (.long u_b_6) := H_14.at hin_14 rfl
  obtain ⟨cl_15, Ar_15, q_15, S_15, N__15, H_15, G_15⟩ := id A_a
  have hin_15 : ¬ ((7 : Int32) < 0 ∨ cl_15.slots.size ≤ ((7 : Int32)).toNatClampNeg) := inb_of S_15 ⟨by decide, by decide⟩
  have hat_15 : cl_15.slots[((7 : Int32)).toNatClampNeg]? = some (.long u_a_7) := H_15.at hin_15 rfl
  obtain ⟨cl_16, Ar_16, q_16, S_16, N__16, H_16, G_16⟩ := id A_b
  have hin_16 : ¬ ((7 : Int32) < 0 ∨ cl_16.slots.size ≤ ((7 : Int32)).toNatClampNeg) := inb_of S_16 ⟨by decide, by decide⟩
  have hat_16 : cl_16.slots[((7 : Int32)).toNatClampNeg]? = some (.long u_b_7) := H_16.at hin_16 rfl
  have sg_17 : ∀ tt_, Steps p.tables e below (s₁.setTop (mkF m 61 #[Rv a, Rv b, Rv b] [(.long (u_a_7 + u_b_7)), (.long (u_a_6 + u_b_6)), (.long (u_a_5 + u_b_5)), (.long (u_a_4 + u_b_4)), (.long (u_a_3 + u_b_3)), (.long (u_a_2 + u_b_2)), (.long (u_a_1 + u_b_1)), (.long (u_a_0 + u_b_0)), (.ref b)])) tt_ → Steps p.tables e below (s₁.setTop (mkF m 0 #[Rv a, Rv b, Rv b] [])) tt_ := by
    intro tt_ kt_
    refine XS.aloadN X0.here hEX rfl (hb hBY d_prog_59_method_8_code_0) rfl rfl ?_
    show Steps p.tables e below (s₁.setTop (mkF m 1 #[Rv a, Rv b, Rv b] [(.ref b)])) tt_
    refine XS.aloadN X0.here hEX rfl (hb hBY d_prog_59_method_8_code_1) rfl rfl ?_
    show Steps p.tables e below (s₁.setTop (mkF m 2 #[Rv a, Rv b, Rv b] [(.ref a), (.ref b)])) tt_
    refine XS.iconst X0.here hEX rfl (hb hBY d_prog_59_method_8_code_2) ?_
    show Steps p.tables e below (s₁.setTop (mkF m 3 #[Rv a, Rv b, Rv b] [(.int (0 : Int32)), (.ref a), (.ref b)])) tt_
    refine X0.laload hEX (j := (0 : Int32)) (v := (.long u_a_0)) (by rw [e0]; exact Ar_1.1) (State.isArrayOf_alike hZW.alike Ar_1.2.1) Ar_1.2.2 hin_1 hat_1 (g := (mkF m 3 #[Rv a, Rv b, Rv b] [(.int (0 : Int32)), (.ref a), (.ref b)])) rfl rfl (hb hBY d_prog_59_method_8_code_3) _ ?_
    show Steps p.tables e below (s₁.setTop (mkF m 4 #[Rv a, Rv b, Rv b] [(.long u_a_0), (.ref b)])) tt_
    refine XS.aloadN X0.here hEX rfl (hb hBY d_prog_59_method_8_code_4) rfl rfl ?_
    show Steps p.tables e below (s₁.setTop (mkF m 5 #[Rv a, Rv b, Rv b] [(.ref b), (.long u_a_0), (.ref b)])) tt_
    refine XS.iconst X0.here hEX rfl (hb hBY d_prog_59_method_8_code_5) ?_
    show Steps p.tables e below (s₁.setTop (mkF m 6 #[Rv a, Rv b, Rv b] [(.int (0 : Int32)), (.ref b), (.long u_a_0), (.ref b)])) tt_
    refine X0.laload hEX (j := (0 : Int32)) (v := (.long u_b_0)) (by rw [e0]; exact Ar_2.1) (State.isArrayOf_alike hZW.alike Ar_2.2.1) Ar_2.2.2 hin_2 hat_2 (g := (mkF m 6 #[Rv a, Rv b, Rv b] [(.int (0 : Int32)), (.ref b), (.long u_a_0), (.ref b)])) rfl rfl (hb hBY d_prog_59_method_8_code_6) _ ?_
    show Steps p.tables e below (s₁.setTop (mkF m 7 #[Rv a, Rv b, Rv b] [(.long u_b_0), (.long u_a_0), (.ref b)])) tt_
    refine XS.ladd X0.here hEX rfl (hb hBY d_prog_59_method_8_code_7) rfl ?_
    show Steps p.tables e below (s₁.setTop (mkF m 8 #[Rv a, Rv b, Rv b] [(.long (u_a_0 + u_b_0)), (.ref b)])) tt_
    refine XS.aloadN X0.here hEX rfl (hb hBY d_prog_59_method_8_code_8) rfl rfl ?_
    show Steps p.tables e below (s₁.setTop (mkF m 9 #[Rv a, Rv b, Rv b] [(.ref a), (.long (u_a_0 + u_b_0)), (.ref b)])) tt_
    refine XS.iconst X0.here hEX rfl (hb hBY d_prog_59_method_8_code_9) ?_
    show Steps p.tables e below (s₁.setTop (mkF m 10 #[Rv a, Rv b, Rv b] [(.int (1 : Int32)), (.ref a), (.long (u_a_0 + u_b_0)), (.ref b)])) tt_
    refine X0.laload hEX (j := (1 : Int32)) (v := (.long u_a_1)) (by rw [e0]; exact Ar_3.1) (State.isArrayOf_alike hZW.alike Ar_3.2.1) Ar_3.2.2 hin_3 hat_3 (g := (mkF m 10 #[Rv a, Rv b, Rv b] [(.int (1 : Int32)), (.ref a), (.long (u_a_0 + u_b_0)), (.ref b)])) rfl rfl (hb hBY d_prog_59_method_8_code_10) _ ?_
    show Steps p.tables e below (s₁.setTop (mkF m 11 #[Rv a, Rv b, Rv b] [(.long u_a_1), (.long (u_a_0 + u_b_0)), (.ref b)])) tt_
    refine XS.aloadN X0.here hEX rfl (hb hBY d_prog_59_method_8_code_11) rfl rfl ?_
    show Steps p.tables e below (s₁.setTop (mkF m 12 #[Rv a, Rv b, Rv b] [(.ref b), (.long u_a_1), (.long (u_a_0 + u_b_0)), (.ref b)])) tt_
    refine XS.iconst X0.here hEX rfl (hb hBY d_prog_59_method_8_code_12) ?_
    show Steps p.tables e below (s₁.setTop (mkF m 13 #[Rv a, Rv b, Rv b] [(.int (1 : Int32)), (.ref b), (.long u_a_1), (.long (u_a_0 + u_b_0)), (.ref b)])) tt_
    refine X0.laload hEX (j := (1 : Int32)) (v := (.long u_b_1)) (by rw [e0]; exact Ar_4.1) (State.isArrayOf_alike hZW.alike Ar_4.2.1) Ar_4.2.2 hin_4 hat_4 (g := (mkF m 13 #[Rv a, Rv b, Rv b] [(.int (1 : Int32)), (.ref b), (.long u_a_1), (.long (u_a_0 + u_b_0)), (.ref b)])) rfl rfl (hb hBY d_prog_59_method_8_code_13) _ ?_
    show Steps p.tables e below (s₁.setTop (mkF m 14 #[Rv a, Rv b, Rv b] [(.long u_b_1), (.long u_a_1), (.long (u_a_0 + u_b_0)), (.ref b)])) tt_
    refine XS.ladd X0.here hEX rfl (hb hBY d_prog_59_method_8_code_14) rfl ?_
    show Steps p.tables e below (s₁.setTop (mkF m 15 #[Rv a, Rv b, Rv b] [(.long (u_a_1 + u_b_1)), (.long (u_a_0 + u_b_0)), (.ref b)])) tt_
    refine XS.aloadN X0.here hEX rfl (hb hBY d_prog_59_method_8_code_15) rfl rfl ?_
    show Steps p.tables e below (s₁.setTop (mkF m 16 #[Rv a, Rv b, Rv b] [(.ref a), (.long (u_a_1 + u_b_1)), (.long (u_a_0 + u_b_0)), (.ref b)])) tt_
    refine XS.iconst X0.here hEX rfl (hb hBY d_prog_59_method_8_code_16) ?_
    show Steps p.tables e below (s₁.setTop (mkF m 17 #[Rv a, Rv b, Rv b] [(.int (2 : Int32)), (.ref a), (.long (u_a_1 + u_b_1)), (.long (u_a_0 + u_b_0)), (.ref b)])) tt_
    refine X0.laload hEX (j := (2 : Int32)) (v := (.long u_a_2)) (by rw [e0]; exact Ar_5.1) (State.isArrayOf_alike hZW.alike Ar_5.2.1) Ar_5.2.2 hin_5 hat_5 (g := (mkF m 17 #[Rv a, Rv b, Rv b] [(.int (2 : Int32)), (.ref a), (.long (u_a_1 + u_b_1)), (.long (u_a_0 + u_b_0)), (.ref b)])) rfl rfl (hb hBY d_prog_59_method_8_code_17) _ ?_
    show Steps p.tables e below (s₁.setTop (mkF m 18 #[Rv a, Rv b, Rv b] [(.long u_a_2), (.long (u_a_1 + u_b_1)), (.long (u_a_0 + u_b_0)), (.ref b)])) tt_
    refine XS.aloadN X0.here hEX rfl (hb hBY d_prog_59_method_8_code_18) rfl rfl ?_
    show Steps p.tables e below (s₁.setTop (mkF m 19 #[Rv a, Rv b, Rv b] [(.ref b), (.long u_a_2), (.long (u_a_1 + u_b_1)), (.long (u_a_0 + u_b_0)), (.ref b)])) tt_
    refine XS.iconst X0.here hEX rfl (hb hBY d_prog_59_method_8_code_19) ?_
    show Steps p.tables e below (s₁.setTop (mkF m 20 #[Rv a, Rv b, Rv b] [(.int (2 : Int32)), (.ref b), (.long u_a_2), (.long (u_a_1 + u_b_1)), (.long (u_a_0 + u_b_0)), (.ref b)])) tt_
    refine X0.laload hEX (j := (2 : Int32)) (v := (.long u_b_2)) (by rw [e0]; exact Ar_6.1) (State.isArrayOf_alike hZW.alike Ar_6.2.1) Ar_6.2.2 hin_6 hat_6 (g := (mkF m 20 #[Rv a, Rv b, Rv b] [(.int (2 : Int32)), (.ref b), (.long u_a_2), (.long (u_a_1 + u_b_1)), (.long (u_a_0 + u_b_0)), (.ref b)])) rfl rfl (hb hBY d_prog_59_method_8_code_20) _ ?_
    show Steps p.tables e below (s₁.setTop (mkF m 21 #[Rv a, Rv b, Rv b] [(.long u_b_2), (.long u_a_2), (.long (u_a_1 + u_b_1)), (.long (u_a_0 + u_b_0)), (.ref b)])) tt_
    refine XS.ladd X0.here hEX rfl (hb hBY d_prog_59_method_8_code_21) rfl ?_
    show Steps p.tables e below (s₁.setTop (mkF m 22 #[Rv a, Rv b, Rv b] [(.long (u_a_2 + u_b_2)), (.long (u_a_1 + u_b_1)), (.long (u_a_0 + u_b_0)), (.ref b)])) tt_
    refine XS.aloadN X0.here hEX rfl (hb hBY d_prog_59_method_8_code_22) rfl rfl ?_
    show Steps p.tables e below (s₁.setTop (mkF m 23 #[Rv a, Rv b, Rv b] [(.ref a), (.long (u_a_2 + u_b_2)), (.long (u_a_1 + u_b_1)), (.long (u_a_0 + u_b_0)), (.ref b)])) tt_
    refine XS.iconst X0.here hEX rfl (hb hBY d_prog_59_method_8_code_23) ?_
    show Steps p.tables e below (s₁.setTop (mkF m 24 #[Rv a, Rv b, Rv b] [(.int (3 : Int32)), (.ref a), (.long (u_a_2 + u_b_2)), (.long (u_a_1 + u_b_1)), (.long (u_a_0 + u_b_0)), (.ref b)])) tt_
    refine X0.laload hEX (j := (3 : Int32)) (v := (.long u_a_3)) (by rw [e0]; exact Ar_7.1) (State.isArrayOf_alike hZW.alike Ar_7.2.1) Ar_7.2.2 hin_7 hat_7 (g := (mkF m 24 #[Rv a, Rv b, Rv b] [(.int (3 : Int32)), (.ref a), (.long (u_a_2 + u_b_2)), (.long (u_a_1 + u_b_1)), (.long (u_a_0 + u_b_0)), (.ref b)])) rfl rfl (hb hBY d_prog_59_method_8_code_24) _ ?_
    show Steps p.tables e below (s₁.setTop (mkF m 25 #[Rv a, Rv b, Rv b] [(.long u_a_3), (.long (u_a_2 + u_b_2)), (.long (u_a_1 + u_b_1)), (.long (u_a_0 + u_b_0)), (.ref b)])) tt_
    refine XS.aloadN X0.here hEX rfl (hb hBY d_prog_59_method_8_code_25) rfl rfl ?_
    show Steps p.tables e below (s₁.setTop (mkF m 26 #[Rv a, Rv b, Rv b] [(.ref b), (.long u_a_3), (.long (u_a_2 + u_b_2)), (.long (u_a_1 + u_b_1)), (.long (u_a_0 + u_b_0)), (.ref b)])) tt_
    refine XS.iconst X0.here hEX rfl (hb hBY d_prog_59_method_8_code_26) ?_
    show Steps p.tables e below (s₁.setTop (mkF m 27 #[Rv a, Rv b, Rv b] [(.int (3 : Int32)), (.ref b), (.long u_a_3), (.long (u_a_2 + u_b_2)), (.long (u_a_1 + u_b_1)), (.long (u_a_0 + u_b_0)), (.ref b)])) tt_
    refine X0.laload hEX (j := (3 : Int32)) (v := (.long u_b_3)) (by rw [e0]; exact Ar_8.1) (State.isArrayOf_alike hZW.alike Ar_8.2.1) Ar_8.2.2 hin_8 hat_8 (g := (mkF m 27 #[Rv a, Rv b, Rv b] [(.int (3 : Int32)), (.ref b), (.long u_a_3), (.long (u_a_2 + u_b_2)), (.long (u_a_1 + u_b_1)), (.long (u_a_0 + u_b_0)), (.ref b)])) rfl rfl (hb hBY d_prog_59_method_8_code_27) _ ?_
    show Steps p.tables e below (s₁.setTop (mkF m 28 #[Rv a, Rv b, Rv b] [(.long u_b_3), (.long u_a_3), (.long (u_a_2 + u_b_2)), (.long (u_a_1 + u_b_1)), (.long (u_a_0 + u_b_0)), (.ref b)])) tt_
    refine XS.ladd X0.here hEX rfl (hb hBY d_prog_59_method_8_code_28) rfl ?_
    show Steps p.tables e below (s₁.setTop (mkF m 29 #[Rv a, Rv b, Rv b] [(.long (u_a_3 + u_b_3)), (.long (u_a_2 + u_b_2)), (.long (u_a_1 + u_b_1)), (.long (u_a_0 + u_b_0)), (.ref b)])) tt_
    refine XS.aloadN X0.here hEX rfl (hb hBY d_prog_59_method_8_code_29) rfl rfl ?_
    show Steps p.tables e below (s₁.setTop (mkF m 30 #[Rv a, Rv b, Rv b] [(.ref a), (.long (u_a_3 + u_b_3)), (.long (u_a_2 + u_b_2)), (.long (u_a_1 + u_b_1)), (.long (u_a_0 + u_b_0)), (.ref b)])) tt_
    refine XS.iconst X0.here hEX rfl (hb hBY d_prog_59_method_8_code_30) ?_
    show Steps p.tables e below (s₁.setTop (mkF m 31 #[Rv a, Rv b, Rv b] [(.int (4 : Int32)), (.ref a), (.long (u_a_3 + u_b_3)), (.long (u_a_2 + u_b_2)), (.long (u_a_1 + u_b_1)), (.long (u_a_0 + u_b_0)), (.ref b)])) tt_
    refine X0.laload hEX (j := (4 : Int32)) (v := (.long u_a_4)) (by rw [e0]; exact Ar_9.1) (State.isArrayOf_alike hZW.alike Ar_9.2.1) Ar_9.2.2 hin_9 hat_9 (g := (mkF m 31 #[Rv a, Rv b, Rv b] [(.int (4 : Int32)), (.ref a), (.long (u_a_3 + u_b_3)), (.long (u_a_2 + u_b_2)), (.long (u_a_1 + u_b_1)), (.long (u_a_0 + u_b_0)), (.ref b)])) rfl rfl (hb hBY d_prog_59_method_8_code_31) _ ?_
    show Steps p.tables e below (s₁.setTop (mkF m 32 #[Rv a, Rv b, Rv b] [(.long u_a_4), (.long (u_a_3 + u_b_3)), (.long (u_a_2 + u_b_2)), (.long (u_a_1 + u_b_1)), (.long (u_a_0 + u_b_0)), (.ref b)])) tt_
    refine XS.aloadN X0.here hEX rfl (hb hBY d_prog_59_method_8_code_32) rfl rfl ?_
    show Steps p.tables e below (s₁.setTop (mkF m 33 #[Rv a, Rv b, Rv b] [(.ref b), (.long u_a_4), (.long (u_a_3 + u_b_3)), (.long (u_a_2 + u_b_2)), (.long (u_a_1 + u_b_1)), (.long (u_a_0 + u_b_0)), (.ref b)])) tt_
    refine XS.iconst X0.here hEX rfl (hb hBY d_prog_59_method_8_code_33) ?_
    show Steps p.tables e below (s₁.setTop (mkF m 34 #[Rv a, Rv b, Rv b] [(.int (4 : Int32)), (.ref b), (.long u_a_4), (.long (u_a_3 + u_b_3)), (.long (u_a_2 + u_b_2)), (.long (u_a_1 + u_b_1)), (.long (u_a_0 + u_b_0)), (.ref b)])) tt_
    refine X0.laload hEX (j := (4 : Int32)) (v := (.long u_b_4)) (by rw [e0]; exact Ar_10.1) (State.isArrayOf_alike hZW.alike Ar_10.2.1) Ar_10.2.2 hin_10 hat_10 (g := (mkF m 34 #[Rv a, Rv b, Rv b] [(.int (4 : Int32)), (.ref b), (.long u_a_4), (.long (u_a_3 + u_b_3)), (.long (u_a_2 + u_b_2)), (.long (u_a_1 + u_b_1)), (.long (u_a_0 + u_b_0)), (.ref b)])) rfl rfl (hb hBY d_prog_59_method_8_code_34) _ ?_
    show Steps p.tables e below (s₁.setTop (mkF m 35 #[Rv a, Rv b, Rv b] [(.long u_b_4), (.long u_a_4), (.long (u_a_3 + u_b_3)), (.long (u_a_2 + u_b_2)), (.long (u_a_1 + u_b_1)), (.long (u_a_0 + u_b_0)), (.ref b)])) tt_
    refine XS.ladd X0.here hEX rfl (hb hBY d_prog_59_method_8_code_35) rfl ?_
    show Steps p.tables e below (s₁.setTop (mkF m 36 #[Rv a, Rv b, Rv b] [(.long (u_a_4 + u_b_4)), (.long (u_a_3 + u_b_3)), (.long (u_a_2 + u_b_2)), (.long (u_a_1 + u_b_1)), (.long (u_a_0 + u_b_0)), (.ref b)])) tt_
    refine XS.aloadN X0.here hEX rfl (hb hBY d_prog_59_method_8_code_36) rfl rfl ?_
    show Steps p.tables e below (s₁.setTop (mkF m 37 #[Rv a, Rv b, Rv b] [(.ref a), (.long (u_a_4 + u_b_4)), (.long (u_a_3 + u_b_3)), (.long (u_a_2 + u_b_2)), (.long (u_a_1 + u_b_1)), (.long (u_a_0 + u_b_0)), (.ref b)])) tt_
    refine XS.iconst X0.here hEX rfl (hb hBY d_prog_59_method_8_code_37) ?_
    show Steps p.tables e below (s₁.setTop (mkF m 38 #[Rv a, Rv b, Rv b] [(.int (5 : Int32)), (.ref a), (.long (u_a_4 + u_b_4)), (.long (u_a_3 + u_b_3)), (.long (u_a_2 + u_b_2)), (.long (u_a_1 + u_b_1)), (.long (u_a_0 + u_b_0)), (.ref b)])) tt_
    refine X0.laload hEX (j := (5 : Int32)) (v := (.long u_a_5)) (by rw [e0]; exact Ar_11.1) (State.isArrayOf_alike hZW.alike Ar_11.2.1) Ar_11.2.2 hin_11 hat_11 (g := (mkF m 38 #[Rv a, Rv b, Rv b] [(.int (5 : Int32)), (.ref a), (.long (u_a_4 + u_b_4)), (.long (u_a_3 + u_b_3)), (.long (u_a_2 + u_b_2)), (.long (u_a_1 + u_b_1)), (.long (u_a_0 + u_b_0)), (.ref b)])) rfl rfl (hb hBY d_prog_59_method_8_code_38) _ ?_
    show Steps p.tables e below (s₁.setTop (mkF m 39 #[Rv a, Rv b, Rv b] [(.long u_a_5), (.long (u_a_4 + u_b_4)), (.long (u_a_3 + u_b_3)), (.long (u_a_2 + u_b_2)), (.long (u_a_1 + u_b_1)), (.long (u_a_0 + u_b_0)), (.ref b)])) tt_
    refine XS.aloadN X0.here hEX rfl (hb hBY d_prog_59_method_8_code_39) rfl rfl ?_
    show Steps p.tables e below (s₁.setTop (mkF m 40 #[Rv a, Rv b, Rv b] [(.ref b), (.long u_a_5), (.long (u_a_4 + u_b_4)), (.long (u_a_3 + u_b_3)), (.long (u_a_2 + u_b_2)), (.long (u_a_1 + u_b_1)), (.long (u_a_0 + u_b_0)), (.ref b)])) tt_
    refine XS.iconst X0.here hEX rfl (hb hBY d_prog_59_method_8_code_40) ?_
    show Steps p.tables e below (s₁.setTop (mkF m 41 #[Rv a, Rv b, Rv b] [(.int (5 : Int32)), (.ref b), (.long u_a_5), (.long (u_a_4 + u_b_4)), (.long (u_a_3 + u_b_3)), (.long (u_a_2 + u_b_2)), (.long (u_a_1 + u_b_1)), (.long (u_a_0 + u_b_0)), (.ref b)])) tt_
    refine X0.laload hEX (j := (5 : Int32)) (v := (.long u_b_5)) (by rw [e0]; exact Ar_12.1) (State.isArrayOf_alike hZW.alike Ar_12.2.1) Ar_12.2.2 hin_12 hat_12 (g := (mkF m 41 #[Rv a, Rv b, Rv b] [(.int (5 : Int32)), (.ref b), (.long u_a_5), (.long (u_a_4 + u_b_4)), (.long (u_a_3 + u_b_3)), (.long (u_a_2 + u_b_2)), (.long (u_a_1 + u_b_1)), (.long (u_a_0 + u_b_0)), (.ref b)])) rfl rfl (hb hBY d_prog_59_method_8_code_41) _ ?_
    show Steps p.tables e below (s₁.setTop (mkF m 42 #[Rv a, Rv b, Rv b] [(.long u_b_5), (.long u_a_5), (.long (u_a_4 + u_b_4)), (.long (u_a_3 + u_b_3)), (.long (u_a_2 + u_b_2)), (.long (u_a_1 + u_b_1)), (.long (u_a_0 + u_b_0)), (.ref b)])) tt_
    refine XS.ladd X0.here hEX rfl (hb hBY d_prog_59_method_8_code_42) rfl ?_
    show Steps p.tables e below (s₁.setTop (mkF m 43 #[Rv a, Rv b, Rv b] [(.long (u_a_5 + u_b_5)), (.long (u_a_4 + u_b_4)), (.long (u_a_3 + u_b_3)), (.long (u_a_2 + u_b_2)), (.long (u_a_1 + u_b_1)), (.long (u_a_0 + u_b_0)), (.ref b)])) tt_
    refine XS.aloadN X0.here hEX rfl (hb hBY d_prog_59_method_8_code_43) rfl rfl ?_
    show Steps p.tables e below (s₁.setTop (mkF m 44 #[Rv a, Rv b, Rv b] [(.ref a), (.long (u_a_5 + u_b_5)), (.long (u_a_4 + u_b_4)), (.long (u_a_3 + u_b_3)), (.long (u_a_2 + u_b_2)), (.long (u_a_1 + u_b_1)), (.long (u_a_0 + u_b_0)), (.ref b)])) tt_
    refine XS.bipush X0.here hEX rfl (hb hBY d_prog_59_method_8_code_44) ?_
    show Steps p.tables e below (s₁.setTop (mkF m 46 #[Rv a, Rv b, Rv b] [(.int (6 : Int32)), (.ref a), (.long (u_a_5 + u_b_5)), (.long (u_a_4 + u_b_4)), (.long (u_a_3 + u_b_3)), (.long (u_a_2 + u_b_2)), (.long (u_a_1 + u_b_1)), (.long (u_a_0 + u_b_0)), (.ref b)])) tt_
    refine X0.laload hEX (j := (6 : Int32)) (v := (.long u_a_6)) (by rw [e0]; exact Ar_13.1) (State.isArrayOf_alike hZW.alike Ar_13.2.1) Ar_13.2.2 hin_13 hat_13 (g := (mkF m 46 #[Rv a, Rv b, Rv b] [(.int (6 : Int32)), (.ref a), (.long (u_a_5 + u_b_5)), (.long (u_a_4 + u_b_4)), (.long (u_a_3 + u_b_3)), (.long (u_a_2 + u_b_2)), (.long (u_a_1 + u_b_1)), (.long (u_a_0 + u_b_0)), (.ref b)])) rfl rfl (hb hBY d_prog_59_method_8_code_46) _ ?_
    show Steps p.tables e below (s₁.setTop (mkF m 47 #[Rv a, Rv b, Rv b] [(.long u_a_6), (.long (u_a_5 + u_b_5)), (.long (u_a_4 + u_b_4)), (.long (u_a_3 + u_b_3)), (.long (u_a_2 + u_b_2)), (.long (u_a_1 + u_b_1)), (.long (u_a_0 + u_b_0)), (.ref b)])) tt_
    refine XS.aloadN X0.here hEX rfl (hb hBY d_prog_59_method_8_code_47) rfl rfl ?_
    show Steps p.tables e below (s₁.setTop (mkF m 48 #[Rv a, Rv b, Rv b] [(.ref b), (.long u_a_6), (.long (u_a_5 + u_b_5)), (.long (u_a_4 + u_b_4)), (.long (u_a_3 + u_b_3)), (.long (u_a_2 + u_b_2)), (.long (u_a_1 + u_b_1)), (.long (u_a_0 + u_b_0)), (.ref b)])) tt_
    refine XS.bipush X0.here hEX rfl (hb hBY d_prog_59_method_8_code_48) ?_
    show Steps p.tables e below (s₁.setTop (mkF m 50 #[Rv a, Rv b, Rv b] [(.int (6 : Int32)), (.ref b), (.long u_a_6), (.long (u_a_5 + u_b_5)), (.long (u_a_4 + u_b_4)), (.long (u_a_3 + u_b_3)), (.long (u_a_2 + u_b_2)), (.long (u_a_1 + u_b_1)), (.long (u_a_0 + u_b_0)), (.ref b)])) tt_
    refine X0.laload hEX (j := (6 : Int32)) (v := (.long u_b_6)) (by rw [e0]; exact Ar_14.1) (State.isArrayOf_alike hZW.alike Ar_14.2.1) Ar_14.2.2 hin_14 hat_14 (g := (mkF m 50 #[Rv a, Rv b, Rv b] [(.int (6 : Int32)), (.ref b), (.long u_a_6), (.long (u_a_5 + u_b_5)), (.long (u_a_4 + u_b_4)), (.long (u_a_3 + u_b_3)), (.long (u_a_2 + u_b_2)), (.long (u_a_1 + u_b_1)), (.long (u_a_0 + u_b_0)), (.ref b)])) rfl rfl (hb hBY d_prog_59_method_8_code_50) _ ?_
    show Steps p.tables e below (s₁.setTop (mkF m 51 #[Rv a, Rv b, Rv b] [(.long u_b_6), (.long u_a_6), (.long (u_a_5 + u_b_5)), (.long (u_a_4 + u_b_4)), (.long (u_a_3 + u_b_3)), (.long (u_a_2 + u_b_2)), (.long (u_a_1 + u_b_1)), (.long (u_a_0 + u_b_0)), (.ref b)])) tt_
    refine XS.ladd X0.here hEX rfl (hb hBY d_prog_59_method_8_code_51) rfl ?_
    show Steps p.tables e below (s₁.setTop (mkF m 52 #[Rv a, Rv b, Rv b] [(.long (u_a_6 + u_b_6)), (.long (u_a_5 + u_b_5)), (.long (u_a_4 + u_b_4)), (.long (u_a_3 + u_b_3)), (.long (u_a_2 + u_b_2)), (.long (u_a_1 + u_b_1)), (.long (u_a_0 + u_b_0)), (.ref b)])) tt_
    refine XS.aloadN X0.here hEX rfl (hb hBY d_prog_59_method_8_code_52) rfl rfl ?_
    show Steps p.tables e below (s₁.setTop (mkF m 53 #[Rv a, Rv b, Rv b] [(.ref a), (.long (u_a_6 + u_b_6)), (.long (u_a_5 + u_b_5)), (.long (u_a_4 + u_b_4)), (.long (u_a_3 + u_b_3)), (.long (u_a_2 + u_b_2)), (.long (u_a_1 + u_b_1)), (.long (u_a_0 + u_b_0)), (.ref b)])) tt_
    refine XS.bipush X0.here hEX rfl (hb hBY d_prog_59_method_8_code_53) ?_
    show Steps p.tables e below (s₁.setTop (mkF m 55 #[Rv a, Rv b, Rv b] [(.int (7 : Int32)), (.ref a), (.long (u_a_6 + u_b_6)), (.long (u_a_5 + u_b_5)), (.long (u_a_4 + u_b_4)), (.long (u_a_3 + u_b_3)), (.long (u_a_2 + u_b_2)), (.long (u_a_1 + u_b_1)), (.long (u_a_0 + u_b_0)), (.ref b)])) tt_
    refine X0.laload hEX (j := (7 : Int32)) (v := (.long u_a_7)) (by rw [e0]; exact Ar_15.1) (State.isArrayOf_alike hZW.alike Ar_15.2.1) Ar_15.2.2 hin_15 hat_15 (g := (mkF m 55 #[Rv a, Rv b, Rv b] [(.int (7 : Int32)), (.ref a), (.long (u_a_6 + u_b_6)), (.long (u_a_5 + u_b_5)), (.long (u_a_4 + u_b_4)), (.long (u_a_3 + u_b_3)), (.long (u_a_2 + u_b_2)), (.long (u_a_1 + u_b_1)), (.long (u_a_0 + u_b_0)), (.ref b)])) rfl rfl (hb hBY d_prog_59_method_8_code_55) _ ?_
    show Steps p.tables e below (s₁.setTop (mkF m 56 #[Rv a, Rv b, Rv b] [(.long u_a_7), (.long (u_a_6 + u_b_6)), (.long (u_a_5 + u_b_5)), (.long (u_a_4 + u_b_4)), (.long (u_a_3 + u_b_3)), (.long (u_a_2 + u_b_2)), (.long (u_a_1 + u_b_1)), (.long (u_a_0 + u_b_0)), (.ref b)])) tt_
    refine XS.aloadN X0.here hEX rfl (hb hBY d_prog_59_method_8_code_56) rfl rfl ?_
    show Steps p.tables e below (s₁.setTop (mkF m 57 #[Rv a, Rv b, Rv b] [(.ref b), (.long u_a_7), (.long (u_a_6 + u_b_6)), (.long (u_a_5 + u_b_5)), (.long (u_a_4 + u_b_4)), (.long (u_a_3 + u_b_3)), (.long (u_a_2 + u_b_2)), (.long (u_a_1 + u_b_1)), (.long (u_a_0 + u_b_0)), (.ref b)])) tt_
    refine XS.bipush X0.here hEX rfl (hb hBY d_prog_59_method_8_code_57) ?_
    show Steps p.tables e below (s₁.setTop (mkF m 59 #[Rv a, Rv b, Rv b] [(.int (7 : Int32)), (.ref b), (.long u_a_7), (.long (u_a_6 + u_b_6)), (.long (u_a_5 + u_b_5)), (.long (u_a_4 + u_b_4)), (.long (u_a_3 + u_b_3)), (.long (u_a_2 + u_b_2)), (.long (u_a_1 + u_b_1)), (.long (u_a_0 + u_b_0)), (.ref b)])) tt_
    refine X0.laload hEX (j := (7 : Int32)) (v := (.long u_b_7)) (by rw [e0]; exact Ar_16.1) (State.isArrayOf_alike hZW.alike Ar_16.2.1) Ar_16.2.2 hin_16 hat_16 (g := (mkF m 59 #[Rv a, Rv b, Rv b] [(.int (7 : Int32)), (.ref b), (.long u_a_7), (.long (u_a_6 + u_b_6)), (.long (u_a_5 + u_b_5)), (.long (u_a_4 + u_b_4)), (.long (u_a_3 + u_b_3)), (.long (u_a_2 + u_b_2)), (.long (u_a_1 + u_b_1)), (.long (u_a_0 + u_b_0)), (.ref b)])) rfl rfl (hb hBY d_prog_59_method_8_code_59) _ ?_
    show Steps p.tables e below (s₁.setTop (mkF m 60 #[Rv a, Rv b, Rv b] [(.long u_b_7), (.long u_a_7), (.long (u_a_6 + u_b_6)), (.long (u_a_5 + u_b_5)), (.long (u_a_4 + u_b_4)), (.long (u_a_3 + u_b_3)), (.long (u_a_2 + u_b_2)), (.long (u_a_1 + u_b_1)), (.long (u_a_0 + u_b_0)), (.ref b)])) tt_
    refine XS.ladd X0.here hEX rfl (hb hBY d_prog_59_method_8_code_60) rfl ?_
    exact kt_
  refine Done.pre sg_17 ?_
  obtain ⟨_, _, ⟨T_18, L_18, k_18, n_18⟩, -, X_18, ⟨Lc_18, hQ_18, l_18, y_18, z_18⟩, st_18⟩ := Jvm.LawKit.callS X0 hEX (y := (⟨"com/example/guard3/guard3/P384Field", "store", "([JJJJJJJJJ)V"⟩ : MethodName)) hOW (mvT hZW (hw _ (List.mem_of_getElem? (i := 20) rfl))) (mvT hZW (hw _ (List.mem_of_getElem? (i := 21) rfl))) (mvT hZW (hw _ (List.mem_of_getElem? (i := 18) rfl))) (mvT hZW (hw _ (List.mem_of_getElem? (i := 22) rfl))) (by decide) (backOf (W := 0) (rm_store l Z aZ hw [] b (u_a_0 + u_b_0) (u_a_1 + u_b_1) (u_a_2 + u_b_2) (u_a_3 + u_b_3) (u_a_4 + u_b_4) (u_a_5 + u_b_5) (u_a_6 + u_b_6) (u_a_7 + u_b_7) k_b u_b_0 u_b_1 u_b_2 u_b_3 u_b_4 u_b_5 u_b_6 u_b_7 h0 n0 (Nat.le_trans Z0 K0.1) A_b go (own_Rup _ _ _ _ _ _ _ _ _ _ (by decide) (own_addb 1125899906842624 (by decide) u_a_0 u_a_1 u_a_2 u_a_3 u_a_4 u_a_5 u_a_6 u_a_7 u_b_0 u_b_1 u_b_2 u_b_3 u_b_4 u_b_5 u_b_6 u_b_7 hRa hRb).1)) hZW (hw _ (List.mem_of_getElem? (i := 22) rfl)) (hw _ (List.mem_of_getElem? (i := 18) rfl)) (by decide) (by decide)) (g := (mkF m 61 #[Rv a, Rv b, Rv b] [(.long (u_a_7 + u_b_7)), (.long (u_a_6 + u_b_6)), (.long (u_a_5 + u_b_5)), (.long (u_a_4 + u_b_4)), (.long (u_a_3 + u_b_3)), (.long (u_a_2 + u_b_2)), (.long (u_a_1 + u_b_1)), (.long (u_a_0 + u_b_0)), (.ref b)])) rfl (by rw [hMX]; rfl) (argsL := [(.ref b), (.long (u_a_0 + u_b_0)), (.long (u_a_1 + u_b_1)), (.long (u_a_2 + u_b_2)), (.long (u_a_3 + u_b_3)), (.long (u_a_4 + u_b_4)), (.long (u_a_5 + u_b_5)), (.long (u_a_6 + u_b_6)), (.long (u_a_7 + u_b_7))]) (rest := []) (lenOf pd___JJJJJJJJJ_V_8 rfl) rfl (by show 2 * 0 + _ ≤ _; exact Nat.le_of_eq rfl) (hb hBY d_prog_59_method_8_code_61) (fun _ _ => ⟨rfl, e0, (by decide : 0 + 0 ≤ _), (by decide : 0 + 0 ≤ _)⟩)
  dsimp only [Pt.U, Pt.locs, Pt.cells, Pt.slots] at X_18 l_18 y_18 z_18 st_18 hQ_18
  subst l_18 y_18 z_18
  obtain ⟨r0__18, r1__18, r2__18, r3__18, r4__18, r5__18, r6__18, r7__18, rfl, N_18q, K_18, hq_18_0, hq_18_1, hq_18_2⟩ := hQ_18
  have N_18 := Fr.app N0 N_18q
  have K__19 : Keep h0 T_18.heap [b] := K0.trans K_18 (allS (Or.inl (List.mem_of_getElem? (i := 0) rfl)) all0)
  have f_20 : Arv Z T_18.heap a k_a .long (8 : Int32) [(.long u_a_0), (.long u_a_1), (.long u_a_2), (.long u_a_3), (.long u_a_4), (.long u_a_5), (.long u_a_6), (.long u_a_7)] (.long (0 : Int64)) := A_a.keep K_18 (ninS ne_a_b nin0)
  refine Done.pre (fun _ k_ => st_18 _ k_) ?_
  show Done _ _ _ _ _ _ _ (T_18.setTop (mkF m 64 #[Rv a, Rv b, Rv b] []))
  exact Done.retV X_18 hEX hLK hRT (hb hBY d_prog_59_method_8_code_64) (by exact ⟨r0__18, r1__18, r2__18, r3__18, r4__18, r5__18, r6__18, r7__18, rfl, N_18, K__19, hq_18_0, hq_18_1, (by have q := hq_18_2; rw [(own_addb 1125899906842624 (by decide) u_a_0 u_a_1 u_a_2 u_a_3 u_a_4 u_a_5 u_a_6 u_a_7 u_b_0 u_b_1 u_b_2 u_b_3 u_b_4 u_b_5 u_b_6 u_b_7 hRa hRb).2] at q; exact q)⟩) (by decide) (by decide)
theorem d_prog_59_method_9_code_0 : decode prog_59_method_9_code 0 = .ok (.aload_n 2, 1) := by decide +kernel
theorem d_prog_59_method_9_code_1 : decode prog_59_method_9_code 1 = .ok (.aload_n 0, 1) := by decide +kernel
theorem d_prog_59_method_9_code_2 : decode prog_59_method_9_code 2 = .ok (.iconst 0, 1) := by decide +kernel
theorem d_prog_59_method_9_code_3 : decode prog_59_method_9_code 3 = .ok (.laload, 1) := by decide +kernel
theorem d_prog_59_method_9_code_4 : decode prog_59_method_9_code 4 = .ok (.aload_n 1, 1) := by decide +kernel
theorem d_prog_59_method_9_code_5 : decode prog_59_method_9_code 5 = .ok (.iconst 0, 1) := by decide +kernel
theorem d_prog_59_method_9_code_6 : decode prog_59_method_9_code 6 = .ok (.laload, 1) := by decide +kernel
theorem d_prog_59_method_9_code_7 : decode prog_59_method_9_code 7 = .ok (.lsub, 1) := by decide +kernel
theorem d_prog_59_method_9_code_8 : decode prog_59_method_9_code 8 = .ok (.aload_n 0, 1) := by decide +kernel
theorem d_prog_59_method_9_code_9 : decode prog_59_method_9_code 9 = .ok (.iconst 1, 1) := by decide +kernel
theorem d_prog_59_method_9_code_10 : decode prog_59_method_9_code 10 = .ok (.laload, 1) := by decide +kernel
theorem d_prog_59_method_9_code_11 : decode prog_59_method_9_code 11 = .ok (.aload_n 1, 1) := by decide +kernel
theorem d_prog_59_method_9_code_12 : decode prog_59_method_9_code 12 = .ok (.iconst 1, 1) := by decide +kernel
theorem d_prog_59_method_9_code_13 : decode prog_59_method_9_code 13 = .ok (.laload, 1) := by decide +kernel
theorem d_prog_59_method_9_code_14 : decode prog_59_method_9_code 14 = .ok (.lsub, 1) := by decide +kernel
theorem d_prog_59_method_9_code_15 : decode prog_59_method_9_code 15 = .ok (.aload_n 0, 1) := by decide +kernel
theorem d_prog_59_method_9_code_16 : decode prog_59_method_9_code 16 = .ok (.iconst 2, 1) := by decide +kernel
theorem d_prog_59_method_9_code_17 : decode prog_59_method_9_code 17 = .ok (.laload, 1) := by decide +kernel
theorem d_prog_59_method_9_code_18 : decode prog_59_method_9_code 18 = .ok (.aload_n 1, 1) := by decide +kernel
theorem d_prog_59_method_9_code_19 : decode prog_59_method_9_code 19 = .ok (.iconst 2, 1) := by decide +kernel
theorem d_prog_59_method_9_code_20 : decode prog_59_method_9_code 20 = .ok (.laload, 1) := by decide +kernel
theorem d_prog_59_method_9_code_21 : decode prog_59_method_9_code 21 = .ok (.lsub, 1) := by decide +kernel
theorem d_prog_59_method_9_code_22 : decode prog_59_method_9_code 22 = .ok (.aload_n 0, 1) := by decide +kernel
theorem d_prog_59_method_9_code_23 : decode prog_59_method_9_code 23 = .ok (.iconst 3, 1) := by decide +kernel
theorem d_prog_59_method_9_code_24 : decode prog_59_method_9_code 24 = .ok (.laload, 1) := by decide +kernel
theorem d_prog_59_method_9_code_25 : decode prog_59_method_9_code 25 = .ok (.aload_n 1, 1) := by decide +kernel
theorem d_prog_59_method_9_code_26 : decode prog_59_method_9_code 26 = .ok (.iconst 3, 1) := by decide +kernel
theorem d_prog_59_method_9_code_27 : decode prog_59_method_9_code 27 = .ok (.laload, 1) := by decide +kernel
theorem d_prog_59_method_9_code_28 : decode prog_59_method_9_code 28 = .ok (.lsub, 1) := by decide +kernel
theorem d_prog_59_method_9_code_29 : decode prog_59_method_9_code 29 = .ok (.aload_n 0, 1) := by decide +kernel
theorem d_prog_59_method_9_code_30 : decode prog_59_method_9_code 30 = .ok (.iconst 4, 1) := by decide +kernel
theorem d_prog_59_method_9_code_31 : decode prog_59_method_9_code 31 = .ok (.laload, 1) := by decide +kernel
theorem d_prog_59_method_9_code_32 : decode prog_59_method_9_code 32 = .ok (.aload_n 1, 1) := by decide +kernel
theorem d_prog_59_method_9_code_33 : decode prog_59_method_9_code 33 = .ok (.iconst 4, 1) := by decide +kernel
theorem d_prog_59_method_9_code_34 : decode prog_59_method_9_code 34 = .ok (.laload, 1) := by decide +kernel
theorem d_prog_59_method_9_code_35 : decode prog_59_method_9_code 35 = .ok (.lsub, 1) := by decide +kernel
theorem d_prog_59_method_9_code_36 : decode prog_59_method_9_code 36 = .ok (.aload_n 0, 1) := by decide +kernel
theorem d_prog_59_method_9_code_37 : decode prog_59_method_9_code 37 = .ok (.iconst 5, 1) := by decide +kernel
theorem d_prog_59_method_9_code_38 : decode prog_59_method_9_code 38 = .ok (.laload, 1) := by decide +kernel
theorem d_prog_59_method_9_code_39 : decode prog_59_method_9_code 39 = .ok (.aload_n 1, 1) := by decide +kernel
theorem d_prog_59_method_9_code_40 : decode prog_59_method_9_code 40 = .ok (.iconst 5, 1) := by decide +kernel
theorem d_prog_59_method_9_code_41 : decode prog_59_method_9_code 41 = .ok (.laload, 1) := by decide +kernel
theorem d_prog_59_method_9_code_42 : decode prog_59_method_9_code 42 = .ok (.lsub, 1) := by decide +kernel
theorem d_prog_59_method_9_code_43 : decode prog_59_method_9_code 43 = .ok (.aload_n 0, 1) := by decide +kernel
theorem d_prog_59_method_9_code_44 : decode prog_59_method_9_code 44 = .ok (.bipush 6, 2) := by decide +kernel
theorem d_prog_59_method_9_code_46 : decode prog_59_method_9_code 46 = .ok (.laload, 1) := by decide +kernel
theorem d_prog_59_method_9_code_47 : decode prog_59_method_9_code 47 = .ok (.aload_n 1, 1) := by decide +kernel
theorem d_prog_59_method_9_code_48 : decode prog_59_method_9_code 48 = .ok (.bipush 6, 2) := by decide +kernel
theorem d_prog_59_method_9_code_50 : decode prog_59_method_9_code 50 = .ok (.laload, 1) := by decide +kernel
theorem d_prog_59_method_9_code_51 : decode prog_59_method_9_code 51 = .ok (.lsub, 1) := by decide +kernel
theorem d_prog_59_method_9_code_52 : decode prog_59_method_9_code 52 = .ok (.aload_n 0, 1) := by decide +kernel
theorem d_prog_59_method_9_code_53 : decode prog_59_method_9_code 53 = .ok (.bipush 7, 2) := by decide +kernel
theorem d_prog_59_method_9_code_55 : decode prog_59_method_9_code 55 = .ok (.laload, 1) := by decide +kernel
theorem d_prog_59_method_9_code_56 : decode prog_59_method_9_code 56 = .ok (.aload_n 1, 1) := by decide +kernel
theorem d_prog_59_method_9_code_57 : decode prog_59_method_9_code 57 = .ok (.bipush 7, 2) := by decide +kernel
theorem d_prog_59_method_9_code_59 : decode prog_59_method_9_code 59 = .ok (.laload, 1) := by decide +kernel
theorem d_prog_59_method_9_code_60 : decode prog_59_method_9_code 60 = .ok (.lsub, 1) := by decide +kernel
theorem d_prog_59_method_9_code_61 : decode prog_59_method_9_code 61 = .ok (.invokestatic 46, 3) := by decide +kernel
theorem d_prog_59_method_9_code_64 : decode prog_59_method_9_code 64 = .ok (.return_, 1) := by decide +kernel
def Qrm_subtract_abo (Z : State) (a : Addr) (b : Addr) (o : Addr) (k_a : ClassId) (u_a_0 : Int64) (u_a_1 : Int64) (u_a_2 : Int64) (u_a_3 : Int64) (u_a_4 : Int64) (u_a_5 : Int64) (u_a_6 : Int64) (u_a_7 : Int64) (k_b : ClassId) (u_b_0 : Int64) (u_b_1 : Int64) (u_b_2 : Int64) (u_b_3 : Int64) (u_b_4 : Int64) (u_b_5 : Int64) (u_b_6 : Int64) (u_b_7 : Int64) (k_o : ClassId) (u_o_0 : Int64) (u_o_1 : Int64) (u_o_2 : Int64) (u_o_3 : Int64) (u_o_4 : Int64) (u_o_5 : Int64) (u_o_6 : Int64) (u_o_7 : Int64) (h0 : Heap) (n0 : Nat) (v_ : Option Value) (h_ : Heap) (L_ : List Loc) : Prop := ∃ (r0 : Int64), ∃ (r1 : Int64), ∃ (r2 : Int64), ∃ (r3 : Int64), ∃ (r4 : Int64), ∃ (r5 : Int64), ∃ (r6 : Int64), ∃ (r7 : Int64), v_ = none ∧ Fr n0 L_ ∧ Keep h0 h_ [o] ∧ Arv Z h_ o k_o .long (8 : Int32) [(.long r0), (.long r1), (.long r2), (.long r3), (.long r4), (.long r5), (.long r6), (.long r7)] (.long (0 : Int64)) ∧ own_R 562949953421440 r0 r1 r2 r3 r4 r5 r6 r7 ∧ own_M ((own_W u_a_0 u_a_1 u_a_2 u_a_3 u_a_4 u_a_5 u_a_6 u_a_7 - own_W u_b_0 u_b_1 u_b_2 u_b_3 u_b_4 u_b_5 u_b_6 u_b_7) - own_W r0 r1 r2 r3 r4 r5 r6 r7)
theorem ef_rm_subtract_abo (m : MethodId) (x0 : Addr) (x1 : Addr) (x2 : Addr) : entryFrame m #[(.ref x0), (.ref x1), (.ref x2)] 3 = mkF m 0 #[.val (.ref x0), .val (.ref x1), .val (.ref x2)] [] := by first | (simp [entryFrame, mkF, argsToLocals, Value.category]; done) | rfl
set_option maxRecDepth 65536 in
set_option maxHeartbeats 40000000 in
theorem rm_subtract_abo (l : Launch) (Z : State) (aZ : Array Value) (hw : ∀ d ∈ tables_1, d.before aZ Z = true) (ws : List Jvm.Cond) (a : Addr) (b : Addr) (o : Addr) (k_a : ClassId) (u_a_0 : Int64) (u_a_1 : Int64) (u_a_2 : Int64) (u_a_3 : Int64) (u_a_4 : Int64) (u_a_5 : Int64) (u_a_6 : Int64) (u_a_7 : Int64) (k_b : ClassId) (u_b_0 : Int64) (u_b_1 : Int64) (u_b_2 : Int64) (u_b_3 : Int64) (u_b_4 : Int64) (u_b_5 : Int64) (u_b_6 : Int64) (u_b_7 : Int64) (k_o : ClassId) (u_o_0 : Int64) (u_o_1 : Int64) (u_o_2 : Int64) (u_o_3 : Int64) (u_o_4 : Int64) (u_o_5 : Int64) (u_o_6 : Int64) (u_o_7 : Int64) (h0 : Heap) (n0 : Nat) (Z0 : n0 ≤ h0.size) (A_a : Arv Z h0 a k_a .long (8 : Int32) [(.long u_a_0), (.long u_a_1), (.long u_a_2), (.long u_a_3), (.long u_a_4), (.long u_a_5), (.long u_a_6), (.long u_a_7)] (.long (0 : Int64))) (A_b : Arv Z h0 b k_b .long (8 : Int32) [(.long u_b_0), (.long u_b_1), (.long u_b_2), (.long u_b_3), (.long u_b_4), (.long u_b_5), (.long u_b_6), (.long u_b_7)] (.long (0 : Int64))) (A_o : Arv Z h0 o k_o .long (8 : Int32) [(.long u_o_0), (.long u_o_1), (.long u_o_2), (.long u_o_3), (.long u_o_4), (.long u_o_5), (.long u_o_6), (.long u_o_7)] (.long (0 : Int64))) (go : n0 ≤ o) (ne_a_b : a ≠ b) (ne_a_o : a ≠ o) (ne_b_o : b ≠ o) (hRa : own_R 1125899906842624 u_a_0 u_a_1 u_a_2 u_a_3 u_a_4 u_a_5 u_a_6 u_a_7) (hRb : own_R 1125899906842624 u_b_0 u_b_1 u_b_2 u_b_3 u_b_4 u_b_5 u_b_6 u_b_7) :
    MetFree l (⟨"com/example/guard3/guard3/P384Field", "subtract", "([J[J[J)V"⟩ : MethodName) (head1 (Jvm.Cond.code (⟨"com/example/guard3/guard3/P384Field", "subtract", "([J[J[J)V"⟩ : MethodName) prog_59_method_9_code 3 none :: ws) ({ frames := 1, cells := 0, slots := 0, locals := 34 } : Room)) (fun a_ U_ => a_ = #[(.ref a), (.ref b), (.ref o)] ∧ Z.Warmed39 U_.vm ∧ U_.heap = h0) (fun _ _ _ _ _ => True) (fun _ U_ o_ U2_ => ∃ v_ L_, o_ = .returned v_ ∧ Qrm_subtract_abo Z a b o k_a u_a_0 u_a_1 u_a_2 u_a_3 u_a_4 u_a_5 u_a_6 u_a_7 k_b u_b_0 u_b_1 u_b_2 u_b_3 u_b_4 u_b_5 u_b_6 u_b_7 k_o u_o_0 u_o_1 u_o_2 u_o_3 u_o_4 u_o_5 u_o_6 u_o_7 h0 n0 v_ U2_.heap L_ ∧ FrameEnd U_ o_ U2_ L_ ({ frames := 1, cells := 0, slots := 0, locals := 34 } : Room).cells ({ frames := 1, cells := 0, slots := 0, locals := 34 } : Room).slots) := by
  refine MetFree.of_bodySF (plainFor_of_name pn_com_example_guard3_guard3_P384Field) hisR ?_
  intro p e s m args below meth cO s₁ Bd hml0 hP hK
  obtain ⟨rfl, hZW, hh⟩ := hP
  have hEX := Bd.exec
  have hBY := Bd.bytes
  have hMX : cO.maxLocals = 3 := hml0
  have hOW : s.vm.findClass "com/example/guard3/guard3/P384Field" = some m.cls := findClass_of_methodNamed Bd.named
  have hNM := (name_of_methodNamed Bd.named Bd.method).1
  have hLK := Bd.notSynchronized
  have hRT := Bd.returns
  have X0 : Stand p l e ({ frames := 1, cells := 0, slots := 0, locals := 34 } : Room) s m #[(.ref a), (.ref b), (.ref o)] below meth cO s₁ [] 0 0 := Stand.of_body Bd
  have e0 : s₁.heap = h0 := by rw [← hh, Bd.state]; rfl
  have N0 := Fr.nil n0
  have K0 : Keep h0 h0 [o] := Keep.refl _ _
  show Done p e below s (Qrm_subtract_abo Z a b o k_a u_a_0 u_a_1 u_a_2 u_a_3 u_a_4 u_a_5 u_a_6 u_a_7 k_b u_b_0 u_b_1 u_b_2 u_b_3 u_b_4 u_b_5 u_b_6 u_b_7 k_o u_o_0 u_o_1 u_o_2 u_o_3 u_o_4 u_o_5 u_o_6 u_o_7 h0 n0) ({ frames := 1, cells := 0, slots := 0, locals := 34 } : Room).cells ({ frames := 1, cells := 0, slots := 0, locals := 34 } : Room).slots (s₁.setTop (entryFrame m #[(.ref a), (.ref b), (.ref o)] 3))
  refine Done.pre (fun t_ k_ => castTop (ef_rm_subtract_abo m a b o) k_) ?_
  show Done _ _ _ _ _ _ _ (s₁.setTop (mkF m 0 #[Rv a, Rv b, Rv o] []))
  obtain ⟨cl_1, Ar_1, q_1, S_1, N__1, H_1, G_1⟩ := id A_a
  have hin_1 : ¬ ((0 : Int32) < 0 ∨ cl_1.slots.size ≤ ((0 : Int32)).toNatClampNeg) := inb_of S_1 ⟨by decide, by decide⟩
  have hat_1 : cl_1.slots[((0 : Int32)).toNatClampNeg]? = some (.long u_a_0) := H_1.at hin_1 rfl
  obtain ⟨cl_2, Ar_2, q_2, S_2, N__2, H_2, G_2⟩ := id A_b
  have hin_2 : ¬ ((0 : Int32) < 0 ∨ cl_2.slots.size ≤ ((0 : Int32)).toNatClampNeg) := inb_of S_2 ⟨by decide, by decide⟩
  have hat_2 : cl_2.slots[((0 : Int32)).toNatClampNeg]? = some (.long u_b_0) := H_2.at hin_2 rfl
  obtain ⟨cl_3, Ar_3, q_3, S_3, N__3, H_3, G_3⟩ := id A_a
  have hin_3 : ¬ ((1 : Int32) < 0 ∨ cl_3.slots.size ≤ ((1 : Int32)).toNatClampNeg) := inb_of S_3 ⟨by decide, by decide⟩
  have hat_3 : cl_3.slots[((1 : Int32)).toNatClampNeg]? = some (.long u_a_1) := H_3.at hin_3 rfl
  obtain ⟨cl_4, Ar_4, q_4, S_4, N__4, H_4, G_4⟩ := id A_b
  have hin_4 : ¬ ((1 : Int32) < 0 ∨ cl_4.slots.size ≤ ((1 : Int32)).toNatClampNeg) := inb_of S_4 ⟨by decide, by decide⟩
  have hat_4 : cl_4.slots[((1 : Int32)).toNatClampNeg]? = some (.long u_b_1) := H_4.at hin_4 rfl
  obtain ⟨cl_5, Ar_5, q_5, S_5, N__5, H_5, G_5⟩ := id A_a
  have hin_5 : ¬ ((2 : Int32) < 0 ∨ cl_5.slots.size ≤ ((2 : Int32)).toNatClampNeg) := inb_of S_5 ⟨by decide, by decide⟩
  have hat_5 : cl_5.slots[((2 : Int32)).toNatClampNeg]? = some (.long u_a_2) := H_5.at hin_5 rfl
  obtain ⟨cl_6, Ar_6, q_6, S_6, N__6, H_6, G_6⟩ := id A_b
  have hin_6 : ¬ ((2 : Int32) < 0 ∨ cl_6.slots.size ≤ ((2 : Int32)).toNatClampNeg) := inb_of S_6 ⟨by decide, by decide⟩
  have hat_6 : cl_6.slots[((2 : Int32)).toNatClampNeg]? = some (.long u_b_2) := H_6.at hin_6 rfl
  obtain ⟨cl_7, Ar_7, q_7, S_7, N__7, H_7, G_7⟩ := id A_a
  have hin_7 : ¬ ((3 : Int32) < 0 ∨ cl_7.slots.size ≤ ((3 : Int32)).toNatClampNeg) := inb_of S_7 ⟨by decide, by decide⟩
  have hat_7 : cl_7.slots[((3 : Int32)).toNatClampNeg]? = some (.long u_a_3) := H_7.at hin_7 rfl
  obtain ⟨cl_8, Ar_8, q_8, S_8, N__8, H_8, G_8⟩ := id A_b
  have hin_8 : ¬ ((3 : Int32) < 0 ∨ cl_8.slots.size ≤ ((3 : Int32)).toNatClampNeg) := inb_of S_8 ⟨by decide, by decide⟩
  have hat_8 : cl_8.slots[((3 : Int32)).toNatClampNeg]? = some (.long u_b_3) := H_8.at hin_8 rfl
  obtain ⟨cl_9, Ar_9, q_9, S_9, N__9, H_9, G_9⟩ := id A_a
  have hin_9 : ¬ ((4 : Int32) < 0 ∨ cl_9.slots.size ≤ ((4 : Int32)).toNatClampNeg) := inb_of S_9 ⟨by decide, by decide⟩
  have hat_9 : cl_9.slots[((4 : Int32)).toNatClampNeg]? = some (.long u_a_4) := H_9.at hin_9 rfl
  obtain ⟨cl_10, Ar_10, q_10, S_10, N__10, H_10, G_10⟩ := id A_b
  have hin_10 : ¬ ((4 : Int32) < 0 ∨ cl_10.slots.size ≤ ((4 : Int32)).toNatClampNeg) := inb_of S_10 ⟨by decide, by decide⟩
  have hat_10 : cl_10.slots[((4 : Int32)).toNatClampNeg]? = some (.long u_b_4) := H_10.at hin_10 rfl
  obtain ⟨cl_11, Ar_11, q_11, S_11, N__11, H_11, G_11⟩ := id A_a
  have hin_11 : ¬ ((5 : Int32) < 0 ∨ cl_11.slots.size ≤ ((5 : Int32)).toNatClampNeg) := inb_of S_11 ⟨by decide, by decide⟩
  have hat_11 : cl_11.slots[((5 : Int32)).toNatClampNeg]? = some (.long u_a_5) := H_11.at hin_11 rfl
  obtain ⟨cl_12, Ar_12, q_12, S_12, N__12, H_12, G_12⟩ := id A_b
  have hin_12 : ¬ ((5 : Int32) < 0 ∨ cl_12.slots.size ≤ ((5 : Int32)).toNatClampNeg) := inb_of S_12 ⟨by decide, by decide⟩
  have hat_12 : cl_12.slots[((5 : Int32)).toNatClampNeg]? = some (.long u_b_5) := H_12.at hin_12 rfl
  obtain ⟨cl_13, Ar_13, q_13, S_13, N__13, H_13, G_13⟩ := id A_a
  have hin_13 : ¬ ((6 : Int32) < 0 ∨ cl_13.slots.size ≤ ((6 : Int32)).toNatClampNeg) := inb_of S_13 ⟨by decide, by decide⟩
  have hat_13 : cl_13.slots[((6 : Int32)).toNatClampNeg]? = some (.long u_a_6) := H_13.at hin_13 rfl
  obtain ⟨cl_14, Ar_14, q_14, S_14, N__14, H_14, G_14⟩ := id A_b
  have hin_14 : ¬ ((6 : Int32) < 0 ∨ cl_14.slots.size ≤ ((6 : Int32)).toNatClampNeg) := inb_of S_14 ⟨by decide, by decide⟩
  have hat_14 : cl_14.slots[((6 : Int32)).toNatClampNeg]? = some (.long u_b_6) := H_14.at hin_14 rfl
  obtain ⟨cl_15, Ar_15, q_15, S_15, N__15, H_15, G_15⟩ := id A_a
  have hin_15 : ¬ ((7 : Int32) < 0 ∨ cl_15.slots.size ≤ ((7 : Int32)).toNatClampNeg) := inb_of S_15 ⟨by decide, by decide⟩
  have hat_15 : cl_15.slots[((7 : Int32)).toNatClampNeg]? = some (.long u_a_7) := H_15.at hin_15 rfl
  obtain ⟨cl_16, Ar_16, q_16, S_16, N__16, H_16, G_16⟩ := id A_b
  have hin_16 : ¬ ((7 : Int32) < 0 ∨ cl_16.slots.size ≤ ((7 : Int32)).toNatClampNeg) := inb_of S_16 ⟨by decide, by decide⟩
  have hat_16 : cl_16.slots[((7 : Int32)).toNatClampNeg]? = some (.long u_b_7) := H_16.at hin_16 rfl
  have sg_17 : ∀ tt_, Steps p.tables e below (s₁.setTop (mkF m 61 #[Rv a, Rv b, Rv o] [(.long (u_a_7 - u_b_7)), (.long (u_a_6 - u_b_6)), (.long (u_a_5 - u_b_5)), (.long (u_a_4 - u_b_4)), (.long (u_a_3 - u_b_3)), (.long (u_a_2 - u_b_2)), (.long (u_a_1 - u_b_1)), (.long (u_a_0 - u_b_0)), (.ref o)])) tt_ → Steps p.tables e below (s₁.setTop (mkF m 0 #[Rv a, Rv b, Rv o] [])) tt_ := by
    intro tt_ kt_
    refine XS.aloadN X0.here hEX rfl (hb hBY d_prog_59_method_9_code_0) rfl rfl ?_
    show Steps p.tables e below (s₁.setTop (mkF m 1 #[Rv a, Rv b, Rv o] [(.ref o)])) tt_
    refine XS.aloadN X0.here hEX rfl (hb hBY d_prog_59_method_9_code_1) rfl rfl ?_
    show Steps p.tables e below (s₁.setTop (mkF m 2 #[Rv a, Rv b, Rv o] [(.ref a), (.ref o)])) tt_
    refine XS.iconst X0.here hEX rfl (hb hBY d_prog_59_method_9_code_2) ?_
    show Steps p.tables e below (s₁.setTop (mkF m 3 #[Rv a, Rv b, Rv o] [(.int (0 : Int32)), (.ref a), (.ref o)])) tt_
    refine X0.laload hEX (j := (0 : Int32)) (v := (.long u_a_0)) (by rw [e0]; exact Ar_1.1) (State.isArrayOf_alike hZW.alike Ar_1.2.1) Ar_1.2.2 hin_1 hat_1 (g := (mkF m 3 #[Rv a, Rv b, Rv o] [(.int (0 : Int32)), (.ref a), (.ref o)])) rfl rfl (hb hBY d_prog_59_method_9_code_3) _ ?_
    show Steps p.tables e below (s₁.setTop (mkF m 4 #[Rv a, Rv b, Rv o] [(.long u_a_0), (.ref o)])) tt_
    refine XS.aloadN X0.here hEX rfl (hb hBY d_prog_59_method_9_code_4) rfl rfl ?_
    show Steps p.tables e below (s₁.setTop (mkF m 5 #[Rv a, Rv b, Rv o] [(.ref b), (.long u_a_0), (.ref o)])) tt_
    refine XS.iconst X0.here hEX rfl (hb hBY d_prog_59_method_9_code_5) ?_
    show Steps p.tables e below (s₁.setTop (mkF m 6 #[Rv a, Rv b, Rv o] [(.int (0 : Int32)), (.ref b), (.long u_a_0), (.ref o)])) tt_
    refine X0.laload hEX (j := (0 : Int32)) (v := (.long u_b_0)) (by rw [e0]; exact Ar_2.1) (State.isArrayOf_alike hZW.alike Ar_2.2.1) Ar_2.2.2 hin_2 hat_2 (g := (mkF m 6 #[Rv a, Rv b, Rv o] [(.int (0 : Int32)), (.ref b), (.long u_a_0), (.ref o)])) rfl rfl (hb hBY d_prog_59_method_9_code_6) _ ?_
    show Steps p.tables e below (s₁.setTop (mkF m 7 #[Rv a, Rv b, Rv o] [(.long u_b_0), (.long u_a_0), (.ref o)])) tt_
    refine XS.lsub X0.here hEX rfl (hb hBY d_prog_59_method_9_code_7) rfl ?_
    show Steps p.tables e below (s₁.setTop (mkF m 8 #[Rv a, Rv b, Rv o] [(.long (u_a_0 - u_b_0)), (.ref o)])) tt_
    refine XS.aloadN X0.here hEX rfl (hb hBY d_prog_59_method_9_code_8) rfl rfl ?_
    show Steps p.tables e below (s₁.setTop (mkF m 9 #[Rv a, Rv b, Rv o] [(.ref a), (.long (u_a_0 - u_b_0)), (.ref o)])) tt_
    refine XS.iconst X0.here hEX rfl (hb hBY d_prog_59_method_9_code_9) ?_
    show Steps p.tables e below (s₁.setTop (mkF m 10 #[Rv a, Rv b, Rv o] [(.int (1 : Int32)), (.ref a), (.long (u_a_0 - u_b_0)), (.ref o)])) tt_
    refine X0.laload hEX (j := (1 : Int32)) (v := (.long u_a_1)) (by rw [e0]; exact Ar_3.1) (State.isArrayOf_alike hZW.alike Ar_3.2.1) Ar_3.2.2 hin_3 hat_3 (g := (mkF m 10 #[Rv a, Rv b, Rv o] [(.int (1 : Int32)), (.ref a), (.long (u_a_0 - u_b_0)), (.ref o)])) rfl rfl (hb hBY d_prog_59_method_9_code_10) _ ?_
    show Steps p.tables e below (s₁.setTop (mkF m 11 #[Rv a, Rv b, Rv o] [(.long u_a_1), (.long (u_a_0 - u_b_0)), (.ref o)])) tt_
    refine XS.aloadN X0.here hEX rfl (hb hBY d_prog_59_method_9_code_11) rfl rfl ?_
    show Steps p.tables e below (s₁.setTop (mkF m 12 #[Rv a, Rv b, Rv o] [(.ref b), (.long u_a_1), (.long (u_a_0 - u_b_0)), (.ref o)])) tt_
    refine XS.iconst X0.here hEX rfl (hb hBY d_prog_59_method_9_code_12) ?_
    show Steps p.tables e below (s₁.setTop (mkF m 13 #[Rv a, Rv b, Rv o] [(.int (1 : Int32)), (.ref b), (.long u_a_1), (.long (u_a_0 - u_b_0)), (.ref o)])) tt_
    refine X0.laload hEX (j := (1 : Int32)) (v := (.long u_b_1)) (by rw [e0]; exact Ar_4.1) (State.isArrayOf_alike hZW.alike Ar_4.2.1) Ar_4.2.2 hin_4 hat_4 (g := (mkF m 13 #[Rv a, Rv b, Rv o] [(.int (1 : Int32)), (.ref b), (.long u_a_1), (.long (u_a_0 - u_b_0)), (.ref o)])) rfl rfl (hb hBY d_prog_59_method_9_code_13) _ ?_
    show Steps p.tables e below (s₁.setTop (mkF m 14 #[Rv a, Rv b, Rv o] [(.long u_b_1), (.long u_a_1), (.long (u_a_0 - u_b_0)), (.ref o)])) tt_
    refine XS.lsub X0.here hEX rfl (hb hBY d_prog_59_method_9_code_14) rfl ?_
    show Steps p.tables e below (s₁.setTop (mkF m 15 #[Rv a, Rv b, Rv o] [(.long (u_a_1 - u_b_1)), (.long (u_a_0 - u_b_0)), (.ref o)])) tt_
    refine XS.aloadN X0.here hEX rfl (hb hBY d_prog_59_method_9_code_15) rfl rfl ?_
    show Steps p.tables e below (s₁.setTop (mkF m 16 #[Rv a, Rv b, Rv o] [(.ref a), (.long (u_a_1 - u_b_1)), (.long (u_a_0 - u_b_0)), (.ref o)])) tt_
    refine XS.iconst X0.here hEX rfl (hb hBY d_prog_59_method_9_code_16) ?_
    show Steps p.tables e below (s₁.setTop (mkF m 17 #[Rv a, Rv b, Rv o] [(.int (2 : Int32)), (.ref a), (.long (u_a_1 - u_b_1)), (.long (u_a_0 - u_b_0)), (.ref o)])) tt_
    refine X0.laload hEX (j := (2 : Int32)) (v := (.long u_a_2)) (by rw [e0]; exact Ar_5.1) (State.isArrayOf_alike hZW.alike Ar_5.2.1) Ar_5.2.2 hin_5 hat_5 (g := (mkF m 17 #[Rv a, Rv b, Rv o] [(.int (2 : Int32)), (.ref a), (.long (u_a_1 - u_b_1)), (.long (u_a_0 - u_b_0)), (.ref o)])) rfl rfl (hb hBY d_prog_59_method_9_code_17) _ ?_
    show Steps p.tables e below (s₁.setTop (mkF m 18 #[Rv a, Rv b, Rv o] [(.long u_a_2), (.long (u_a_1 - u_b_1)), (.long (u_a_0 - u_b_0)), (.ref o)])) tt_
    refine XS.aloadN X0.here hEX rfl (hb hBY d_prog_59_method_9_code_18) rfl rfl ?_
    show Steps p.tables e below (s₁.setTop (mkF m 19 #[Rv a, Rv b, Rv o] [(.ref b), (.long u_a_2), (.long (u_a_1 - u_b_1)), (.long (u_a_0 - u_b_0)), (.ref o)])) tt_
    refine XS.iconst X0.here hEX rfl (hb hBY d_prog_59_method_9_code_19) ?_
    show Steps p.tables e below (s₁.setTop (mkF m 20 #[Rv a, Rv b, Rv o] [(.int (2 : Int32)), (.ref b), (.long u_a_2), (.long (u_a_1 - u_b_1)), (.long (u_a_0 - u_b_0)), (.ref o)])) tt_
    refine X0.laload hEX (j := (2 : Int32)) (v := (.long u_b_2)) (by rw [e0]; exact Ar_6.1) (State.isArrayOf_alike hZW.alike Ar_6.2.1) Ar_6.2.2 hin_6 hat_6 (g := (mkF m 20 #[Rv a, Rv b, Rv o] [(.int (2 : Int32)), (.ref b), (.long u_a_2), (.long (u_a_1 - u_b_1)), (.long (u_a_0 - u_b_0)), (.ref o)])) rfl rfl (hb hBY d_prog_59_method_9_code_20) _ ?_
    show Steps p.tables e below (s₁.setTop (mkF m 21 #[Rv a, Rv b, Rv o] [(.long u_b_2), (.long u_a_2), (.long (u_a_1 - u_b_1)), (.long (u_a_0 - u_b_0)), (.ref o)])) tt_
    refine XS.lsub X0.here hEX rfl (hb hBY d_prog_59_method_9_code_21) rfl ?_
    show Steps p.tables e below (s₁.setTop (mkF m 22 #[Rv a, Rv b, Rv o] [(.long (u_a_2 - u_b_2)), (.long (u_a_1 - u_b_1)), (.long (u_a_0 - u_b_0)), (.ref o)])) tt_
    refine XS.aloadN X0.here hEX rfl (hb hBY d_prog_59_method_9_code_22) rfl rfl ?_
    show Steps p.tables e below (s₁.setTop (mkF m 23 #[Rv a, Rv b, Rv o] [(.ref a), (.long (u_a_2 - u_b_2)), (.long (u_a_1 - u_b_1)), (.long (u_a_0 - u_b_0)), (.ref o)])) tt_
    refine XS.iconst X0.here hEX rfl (hb hBY d_prog_59_method_9_code_23) ?_
    show Steps p.tables e below (s₁.setTop (mkF m 24 #[Rv a, Rv b, Rv o] [(.int (3 : Int32)), (.ref a), (.long (u_a_2 - u_b_2)), (.long (u_a_1 - u_b_1)), (.long (u_a_0 - u_b_0)), (.ref o)])) tt_
    refine X0.laload hEX (j := (3 : Int32)) (v := (.long u_a_3)) (by rw [e0]; exact Ar_7.1) (State.isArrayOf_alike hZW.alike Ar_7.2.1) Ar_7.2.2 hin_7 hat_7 (g := (mkF m 24 #[Rv a, Rv b, Rv o] [(.int (3 : Int32)), (.ref a), (.long (u_a_2 - u_b_2)), (.long (u_a_1 - u_b_1)), (.long (u_a_0 - u_b_0)), (.ref o)])) rfl rfl (hb hBY d_prog_59_method_9_code_24) _ ?_
    show Steps p.tables e below (s₁.setTop (mkF m 25 #[Rv a, Rv b, Rv o] [(.long u_a_3), (.long (u_a_2 - u_b_2)), (.long (u_a_1 - u_b_1)), (.long (u_a_0 - u_b_0)), (.ref o)])) tt_
    refine XS.aloadN X0.here hEX rfl (hb hBY d_prog_59_method_9_code_25) rfl rfl ?_
    show Steps p.tables e below (s₁.setTop (mkF m 26 #[Rv a, Rv b, Rv o] [(.ref b), (.long u_a_3), (.long (u_a_2 - u_b_2)), (.long (u_a_1 - u_b_1)), (.long (u_a_0 - u_b_0)), (.ref o)])) tt_
    refine XS.iconst X0.here hEX rfl (hb hBY d_prog_59_method_9_code_26) ?_
    show Steps p.tables e below (s₁.setTop (mkF m 27 #[Rv a, Rv b, Rv o] [(.int (3 : Int32)), (.ref b), (.long u_a_3), (.long (u_a_2 - u_b_2)), (.long (u_a_1 - u_b_1)), (.long (u_a_0 - u_b_0)), (.ref o)])) tt_
    refine X0.laload hEX (j := (3 : Int32)) (v := (.long u_b_3)) (by rw [e0]; exact Ar_8.1) (State.isArrayOf_alike hZW.alike Ar_8.2.1) Ar_8.2.2 hin_8 hat_8 (g := (mkF m 27 #[Rv a, Rv b, Rv o] [(.int (3 : Int32)), (.ref b), (.long u_a_3), (.long (u_a_2 - u_b_2)), (.long (u_a_1 - u_b_1)), (.long (u_a_0 - u_b_0)), (.ref o)])) rfl rfl (hb hBY d_prog_59_method_9_code_27) _ ?_
    show Steps p.tables e below (s₁.setTop (mkF m 28 #[Rv a, Rv b, Rv o] [(.long u_b_3), (.long u_a_3), (.long (u_a_2 - u_b_2)), (.long (u_a_1 - u_b_1)), (.long (u_a_0 - u_b_0)), (.ref o)])) tt_
    refine XS.lsub X0.here hEX rfl (hb hBY d_prog_59_method_9_code_28) rfl ?_
    show Steps p.tables e below (s₁.setTop (mkF m 29 #[Rv a, Rv b, Rv o] [(.long (u_a_3 - u_b_3)), (.long (u_a_2 - u_b_2)), (.long (u_a_1 - u_b_1)), (.long (u_a_0 - u_b_0)), (.ref o)])) tt_
    refine XS.aloadN X0.here hEX rfl (hb hBY d_prog_59_method_9_code_29) rfl rfl ?_
    show Steps p.tables e below (s₁.setTop (mkF m 30 #[Rv a, Rv b, Rv o] [(.ref a), (.long (u_a_3 - u_b_3)), (.long (u_a_2 - u_b_2)), (.long (u_a_1 - u_b_1)), (.long (u_a_0 - u_b_0)), (.ref o)])) tt_
    refine XS.iconst X0.here hEX rfl (hb hBY d_prog_59_method_9_code_30) ?_
    show Steps p.tables e below (s₁.setTop (mkF m 31 #[Rv a, Rv b, Rv o] [(.int (4 : Int32)), (.ref a), (.long (u_a_3 - u_b_3)), (.long (u_a_2 - u_b_2)), (.long (u_a_1 - u_b_1)), (.long (u_a_0 - u_b_0)), (.ref o)])) tt_
    refine X0.laload hEX (j := (4 : Int32)) (v := (.long u_a_4)) (by rw [e0]; exact Ar_9.1) (State.isArrayOf_alike hZW.alike Ar_9.2.1) Ar_9.2.2 hin_9 hat_9 (g := (mkF m 31 #[Rv a, Rv b, Rv o] [(.int (4 : Int32)), (.ref a), (.long (u_a_3 - u_b_3)), (.long (u_a_2 - u_b_2)), (.long (u_a_1 - u_b_1)), (.long (u_a_0 - u_b_0)), (.ref o)])) rfl rfl (hb hBY d_prog_59_method_9_code_31) _ ?_
    show Steps p.tables e below (s₁.setTop (mkF m 32 #[Rv a, Rv b, Rv o] [(.long u_a_4), (.long (u_a_3 - u_b_3)), (.long (u_a_2 - u_b_2)), (.long (u_a_1 - u_b_1)), (.long (u_a_0 - u_b_0)), (.ref o)])) tt_
    refine XS.aloadN X0.here hEX rfl (hb hBY d_prog_59_method_9_code_32) rfl rfl ?_
    show Steps p.tables e below (s₁.setTop (mkF m 33 #[Rv a, Rv b, Rv o] [(.ref b), (.long u_a_4), (.long (u_a_3 - u_b_3)), (.long (u_a_2 - u_b_2)), (.long (u_a_1 - u_b_1)), (.long (u_a_0 - u_b_0)), (.ref o)])) tt_
    refine XS.iconst X0.here hEX rfl (hb hBY d_prog_59_method_9_code_33) ?_
    show Steps p.tables e below (s₁.setTop (mkF m 34 #[Rv a, Rv b, Rv o] [(.int (4 : Int32)), (.ref b), (.long u_a_4), (.long (u_a_3 - u_b_3)), (.long (u_a_2 - u_b_2)), (.long (u_a_1 - u_b_1)), (.long (u_a_0 - u_b_0)), (.ref o)])) tt_
    refine X0.laload hEX (j := (4 : Int32)) (v := (.long u_b_4)) (by rw [e0]; exact Ar_10.1) (State.isArrayOf_alike hZW.alike Ar_10.2.1) Ar_10.2.2 hin_10 hat_10 (g := (mkF m 34 #[Rv a, Rv b, Rv o] [(.int (4 : Int32)), (.ref b), (.long u_a_4), (.long (u_a_3 - u_b_3)), (.long (u_a_2 - u_b_2)), (.long (u_a_1 - u_b_1)), (.long (u_a_0 - u_b_0)), (.ref o)])) rfl rfl (hb hBY d_prog_59_method_9_code_34) _ ?_
    show Steps p.tables e below (s₁.setTop (mkF m 35 #[Rv a, Rv b, Rv o] [(.long u_b_4), (.long u_a_4), (.long (u_a_3 - u_b_3)), (.long (u_a_2 - u_b_2)), (.long (u_a_1 - u_b_1)), (.long (u_a_0 - u_b_0)), (.ref o)])) tt_
    refine XS.lsub X0.here hEX rfl (hb hBY d_prog_59_method_9_code_35) rfl ?_
    show Steps p.tables e below (s₁.setTop (mkF m 36 #[Rv a, Rv b, Rv o] [(.long (u_a_4 - u_b_4)), (.long (u_a_3 - u_b_3)), (.long (u_a_2 - u_b_2)), (.long (u_a_1 - u_b_1)), (.long (u_a_0 - u_b_0)), (.ref o)])) tt_
    refine XS.aloadN X0.here hEX rfl (hb hBY d_prog_59_method_9_code_36) rfl rfl ?_
    show Steps p.tables e below (s₁.setTop (mkF m 37 #[Rv a, Rv b, Rv o] [(.ref a), (.long (u_a_4 - u_b_4)), (.long (u_a_3 - u_b_3)), (.long (u_a_2 - u_b_2)), (.long (u_a_1 - u_b_1)), (.long (u_a_0 - u_b_0)), (.ref o)])) tt_
    refine XS.iconst X0.here hEX rfl (hb hBY d_prog_59_method_9_code_37) ?_
    show Steps p.tables e below (s₁.setTop (mkF m 38 #[Rv a, Rv b, Rv o] [(.int (5 : Int32)), (.ref a), (.long (u_a_4 - u_b_4)), (.long (u_a_3 - u_b_3)), (.long (u_a_2 - u_b_2)), (.long (u_a_1 - u_b_1)), (.long (u_a_0 - u_b_0)), (.ref o)])) tt_
    refine X0.laload hEX (j := (5 : Int32)) (v := (.long u_a_5)) (by rw [e0]; exact Ar_11.1) (State.isArrayOf_alike hZW.alike Ar_11.2.1) Ar_11.2.2 hin_11 hat_11 (g := (mkF m 38 #[Rv a, Rv b, Rv o] [(.int (5 : Int32)), (.ref a), (.long (u_a_4 - u_b_4)), (.long (u_a_3 - u_b_3)), (.long (u_a_2 - u_b_2)), (.long (u_a_1 - u_b_1)), (.long (u_a_0 - u_b_0)), (.ref o)])) rfl rfl (hb hBY d_prog_59_method_9_code_38) _ ?_
    show Steps p.tables e below (s₁.setTop (mkF m 39 #[Rv a, Rv b, Rv o] [(.long u_a_5), (.long (u_a_4 - u_b_4)), (.long (u_a_3 - u_b_3)), (.long (u_a_2 - u_b_2)), (.long (u_a_1 - u_b_1)), (.long (u_a_0 - u_b_0)), (.ref o)])) tt_
    refine XS.aloadN X0.here hEX rfl (hb hBY d_prog_59_method_9_code_39) rfl rfl ?_
    show Steps p.tables e below (s₁.setTop (mkF m 40 #[Rv a, Rv b, Rv o] [(.ref b), (.long u_a_5), (.long (u_a_4 - u_b_4)), (.long (u_a_3 - u_b_3)), (.long (u_a_2 - u_b_2)), (.long (u_a_1 - u_b_1)), (.long (u_a_0 - u_b_0)), (.ref o)])) tt_
    refine XS.iconst X0.here hEX rfl (hb hBY d_prog_59_method_9_code_40) ?_
    show Steps p.tables e below (s₁.setTop (mkF m 41 #[Rv a, Rv b, Rv o] [(.int (5 : Int32)), (.ref b), (.long u_a_5), (.long (u_a_4 - u_b_4)), (.long (u_a_3 - u_b_3)), (.long (u_a_2 - u_b_2)), (.long (u_a_1 - u_b_1)), (.long (u_a_0 - u_b_0)), (.ref o)])) tt_
    refine X0.laload hEX (j := (5 : Int32)) (v := (.long u_b_5)) (by rw [e0]; exact Ar_12.1) (State.isArrayOf_alike hZW.alike Ar_12.2.1) Ar_12.2.2 hin_12 hat_12 (g := (mkF m 41 #[Rv a, Rv b, Rv o] [(.int (5 : Int32)), (.ref b), (.long u_a_5), (.long (u_a_4 - u_b_4)), (.long (u_a_3 - u_b_3)), (.long (u_a_2 - u_b_2)), (.long (u_a_1 - u_b_1)), (.long (u_a_0 - u_b_0)), (.ref o)])) rfl rfl (hb hBY d_prog_59_method_9_code_41) _ ?_
    show Steps p.tables e below (s₁.setTop (mkF m 42 #[Rv a, Rv b, Rv o] [(.long u_b_5), (.long u_a_5), (.long (u_a_4 - u_b_4)), (.long (u_a_3 - u_b_3)), (.long (u_a_2 - u_b_2)), (.long (u_a_1 - u_b_1)), (.long (u_a_0 - u_b_0)), (.ref o)])) tt_
    refine XS.lsub X0.here hEX rfl (hb hBY d_prog_59_method_9_code_42) rfl ?_
    show Steps p.tables e below (s₁.setTop (mkF m 43 #[Rv a, Rv b, Rv o] [(.long (u_a_5 - u_b_5)), (.long (u_a_4 - u_b_4)), (.long (u_a_3 - u_b_3)), (.long (u_a_2 - u_b_2)), (.long (u_a_1 - u_b_1)), (.long (u_a_0 - u_b_0)), (.ref o)])) tt_
    refine XS.aloadN X0.here hEX rfl (hb hBY d_prog_59_method_9_code_43) rfl rfl ?_
    show Steps p.tables e below (s₁.setTop (mkF m 44 #[Rv a, Rv b, Rv o] [(.ref a), (.long (u_a_5 - u_b_5)), (.long (u_a_4 - u_b_4)), (.long (u_a_3 - u_b_3)), (.long (u_a_2 - u_b_2)), (.long (u_a_1 - u_b_1)), (.long (u_a_0 - u_b_0)), (.ref o)])) tt_
    refine XS.bipush X0.here hEX rfl (hb hBY d_prog_59_method_9_code_44) ?_
    show Steps p.tables e below (s₁.setTop (mkF m 46 #[Rv a, Rv b, Rv o] [(.int (6 : Int32)), (.ref a), (.long (u_a_5 - u_b_5)), (.long (u_a_4 - u_b_4)), (.long (u_a_3 - u_b_3)), (.long (u_a_2 - u_b_2)), (.long (u_a_1 - u_b_1)), (.long (u_a_0 - u_b_0)), (.ref o)])) tt_
    refine X0.laload hEX (j := (6 : Int32)) (v := (.long u_a_6)) (by rw [e0]; exact Ar_13.1) (State.isArrayOf_alike hZW.alike Ar_13.2.1) Ar_13.2.2 hin_13 hat_13 (g := (mkF m 46 #[Rv a, Rv b, Rv o] [(.int (6 : Int32)), (.ref a), (.long (u_a_5 - u_b_5)), (.long (u_a_4 - u_b_4)), (.long (u_a_3 - u_b_3)), (.long (u_a_2 - u_b_2)), (.long (u_a_1 - u_b_1)), (.long (u_a_0 - u_b_0)), (.ref o)])) rfl rfl (hb hBY d_prog_59_method_9_code_46) _ ?_
    show Steps p.tables e below (s₁.setTop (mkF m 47 #[Rv a, Rv b, Rv o] [(.long u_a_6), (.long (u_a_5 - u_b_5)), (.long (u_a_4 - u_b_4)), (.long (u_a_3 - u_b_3)), (.long (u_a_2 - u_b_2)), (.long (u_a_1 - u_b_1)), (.long (u_a_0 - u_b_0)), (.ref o)])) tt_
    refine XS.aloadN X0.here hEX rfl (hb hBY d_prog_59_method_9_code_47) rfl rfl ?_
    show Steps p.tables e below (s₁.setTop (mkF m 48 #[Rv a, Rv b, Rv o] [(.ref b), (.long u_a_6), (.long (u_a_5 - u_b_5)), (.long (u_a_4 - u_b_4)), (.long (u_a_3 - u_b_3)), (.long (u_a_2 - u_b_2)), (.long (u_a_1 - u_b_1)), (.long (u_a_0 - u_b_0)), (.ref o)])) tt_
    refine XS.bipush X0.here hEX rfl (hb hBY d_prog_59_method_9_code_48) ?_
    show Steps p.tables e below (s₁.setTop (mkF m 50 #[Rv a, Rv b, Rv o] [(.int (6 : Int32)), (.ref b), (.long u_a_6), (.long (u_a_5 - u_b_5)), (.long (u_a_4 - u_b_4)), (.long (u_a_3 - u_b_3)), (.long (u_a_2 - u_b_2)), (.long (u_a_1 - u_b_1)), (.long (u_a_0 - u_b_0)), (.ref o)])) tt_
    refine X0.laload hEX (j := (6 : Int32)) (v := (.long u_b_6)) (by rw [e0]; exact Ar_14.1) (State.isArrayOf_alike hZW.alike Ar_14.2.1) Ar_14.2.2 hin_14 hat_14 (g := (mkF m 50 #[Rv a, Rv b, Rv o] [(.int (6 : Int32)), (.ref b), (.long u_a_6), (.long (u_a_5 - u_b_5)), (.long (u_a_4 - u_b_4)), (.long (u_a_3 - u_b_3)), (.long (u_a_2 - u_b_2)), (.long (u_a_1 - u_b_1)), (.long (u_a_0 - u_b_0)), (.ref o)])) rfl rfl (hb hBY d_prog_59_method_9_code_50) _ ?_
    show Steps p.tables e below (s₁.setTop (mkF m 51 #[Rv a, Rv b, Rv o] [(.long u_b_6), (.long u_a_6), (.long (u_a_5 - u_b_5)), (.long (u_a_4 - u_b_4)), (.long (u_a_3 - u_b_3)), (.long (u_a_2 - u_b_2)), (.long (u_a_1 - u_b_1)), (.long (u_a_0 - u_b_0)), (.ref o)])) tt_
    refine XS.lsub X0.here hEX rfl (hb hBY d_prog_59_method_9_code_51) rfl ?_
    show Steps p.tables e below (s₁.setTop (mkF m 52 #[Rv a, Rv b, Rv o] [(.long (u_a_6 - u_b_6)), (.long (u_a_5 - u_b_5)), (.long (u_a_4 - u_b_4)), (.long (u_a_3 - u_b_3)), (.long (u_a_2 - u_b_2)), (.long (u_a_1 - u_b_1)), (.long (u_a_0 - u_b_0)), (.ref o)])) tt_
    refine XS.aloadN X0.here hEX rfl (hb hBY d_prog_59_method_9_code_52) rfl rfl ?_
    show Steps p.tables e below (s₁.setTop (mkF m 53 #[Rv a, Rv b, Rv o] [(.ref a), (.long (u_a_6 - u_b_6)), (.long (u_a_5 - u_b_5)), (.long (u_a_4 - u_b_4)), (.long (u_a_3 - u_b_3)), (.long (u_a_2 - u_b_2)), (.long (u_a_1 - u_b_1)), (.long (u_a_0 - u_b_0)), (.ref o)])) tt_
    refine XS.bipush X0.here hEX rfl (hb hBY d_prog_59_method_9_code_53) ?_
    show Steps p.tables e below (s₁.setTop (mkF m 55 #[Rv a, Rv b, Rv o] [(.int (7 : Int32)), (.ref a), (.long (u_a_6 - u_b_6)), (.long (u_a_5 - u_b_5)), (.long (u_a_4 - u_b_4)), (.long (u_a_3 - u_b_3)), (.long (u_a_2 - u_b_2)), (.long (u_a_1 - u_b_1)), (.long (u_a_0 - u_b_0)), (.ref o)])) tt_
    refine X0.laload hEX (j := (7 : Int32)) (v := (.long u_a_7)) (by rw [e0]; exact Ar_15.1) (State.isArrayOf_alike hZW.alike Ar_15.2.1) Ar_15.2.2 hin_15 hat_15 (g := (mkF m 55 #[Rv a, Rv b, Rv o] [(.int (7 : Int32)), (.ref a), (.long (u_a_6 - u_b_6)), (.long (u_a_5 - u_b_5)), (.long (u_a_4 - u_b_4)), (.long (u_a_3 - u_b_3)), (.long (u_a_2 - u_b_2)), (.long (u_a_1 - u_b_1)), (.long (u_a_0 - u_b_0)), (.ref o)])) rfl rfl (hb hBY d_prog_59_method_9_code_55) _ ?_
    show Steps p.tables e below (s₁.setTop (mkF m 56 #[Rv a, Rv b, Rv o] [(.long u_a_7), (.long (u_a_6 - u_b_6)), (.long (u_a_5 - u_b_5)), (.long (u_a_4 - u_b_4)), (.long (u_a_3 - u_b_3)), (.long (u_a_2 - u_b_2)), (.long (u_a_1 - u_b_1)), (.long (u_a_0 - u_b_0)), (.ref o)])) tt_
    refine XS.aloadN X0.here hEX rfl (hb hBY d_prog_59_method_9_code_56) rfl rfl ?_
    show Steps p.tables e below (s₁.setTop (mkF m 57 #[Rv a, Rv b, Rv o] [(.ref b), (.long u_a_7), (.long (u_a_6 - u_b_6)), (.long (u_a_5 - u_b_5)), (.long (u_a_4 - u_b_4)), (.long (u_a_3 - u_b_3)), (.long (u_a_2 - u_b_2)), (.long (u_a_1 - u_b_1)), (.long (u_a_0 - u_b_0)), (.ref o)])) tt_
    refine XS.bipush X0.here hEX rfl (hb hBY d_prog_59_method_9_code_57) ?_
    show Steps p.tables e below (s₁.setTop (mkF m 59 #[Rv a, Rv b, Rv o] [(.int (7 : Int32)), (.ref b), (.long u_a_7), (.long (u_a_6 - u_b_6)), (.long (u_a_5 - u_b_5)), (.long (u_a_4 - u_b_4)), (.long (u_a_3 - u_b_3)), (.long (u_a_2 - u_b_2)), (.long (u_a_1 - u_b_1)), (.long (u_a_0 - u_b_0)), (.ref o)])) tt_
    refine X0.laload hEX (j := (7 : Int32)) (v := (.long u_b_7)) (by rw [e0]; exact Ar_16.1) (State.isArrayOf_alike hZW.alike Ar_16.2.1) Ar_16.2.2 hin_16 hat_16 (g := (mkF m 59 #[Rv a, Rv b, Rv o] [(.int (7 : Int32)), (.ref b), (.long u_a_7), (.long (u_a_6 - u_b_6)), (.long (u_a_5 - u_b_5)), (.long (u_a_4 - u_b_4)), (.long (u_a_3 - u_b_3)), (.long (u_a_2 - u_b_2)), (.long (u_a_1 - u_b_1)), (.long (u_a_0 - u_b_0)), (.ref o)])) rfl rfl (hb hBY d_prog_59_method_9_code_59) _ ?_
    show Steps p.tables e below (s₁.setTop (mkF m 60 #[Rv a, Rv b, Rv o] [(.long u_b_7), (.long u_a_7), (.long (u_a_6 - u_b_6)), (.long (u_a_5 - u_b_5)), (.long (u_a_4 - u_b_4)), (.long (u_a_3 - u_b_3)), (.long (u_a_2 - u_b_2)), (.long (u_a_1 - u_b_1)), (.long (u_a_0 - u_b_0)), (.ref o)])) tt_
    refine XS.lsub X0.here hEX rfl (hb hBY d_prog_59_method_9_code_60) rfl ?_
    exact kt_
  refine Done.pre sg_17 ?_
  obtain ⟨_, _, ⟨T_18, L_18, k_18, n_18⟩, -, X_18, ⟨Lc_18, hQ_18, l_18, y_18, z_18⟩, st_18⟩ := Jvm.LawKit.callS X0 hEX (y := (⟨"com/example/guard3/guard3/P384Field", "store", "([JJJJJJJJJ)V"⟩ : MethodName)) hOW (mvT hZW (hw _ (List.mem_of_getElem? (i := 20) rfl))) (mvT hZW (hw _ (List.mem_of_getElem? (i := 21) rfl))) (mvT hZW (hw _ (List.mem_of_getElem? (i := 18) rfl))) (mvT hZW (hw _ (List.mem_of_getElem? (i := 22) rfl))) (by decide) (backOf (W := 0) (rm_store l Z aZ hw [] o (u_a_0 - u_b_0) (u_a_1 - u_b_1) (u_a_2 - u_b_2) (u_a_3 - u_b_3) (u_a_4 - u_b_4) (u_a_5 - u_b_5) (u_a_6 - u_b_6) (u_a_7 - u_b_7) k_o u_o_0 u_o_1 u_o_2 u_o_3 u_o_4 u_o_5 u_o_6 u_o_7 h0 n0 (Nat.le_trans Z0 K0.1) A_o go (own_Rup _ _ _ _ _ _ _ _ _ _ (by decide) (own_subb 1125899906842624 (by decide) u_a_0 u_a_1 u_a_2 u_a_3 u_a_4 u_a_5 u_a_6 u_a_7 u_b_0 u_b_1 u_b_2 u_b_3 u_b_4 u_b_5 u_b_6 u_b_7 hRa hRb).1)) hZW (hw _ (List.mem_of_getElem? (i := 22) rfl)) (hw _ (List.mem_of_getElem? (i := 18) rfl)) (by decide) (by decide)) (g := (mkF m 61 #[Rv a, Rv b, Rv o] [(.long (u_a_7 - u_b_7)), (.long (u_a_6 - u_b_6)), (.long (u_a_5 - u_b_5)), (.long (u_a_4 - u_b_4)), (.long (u_a_3 - u_b_3)), (.long (u_a_2 - u_b_2)), (.long (u_a_1 - u_b_1)), (.long (u_a_0 - u_b_0)), (.ref o)])) rfl (by rw [hMX]; rfl) (argsL := [(.ref o), (.long (u_a_0 - u_b_0)), (.long (u_a_1 - u_b_1)), (.long (u_a_2 - u_b_2)), (.long (u_a_3 - u_b_3)), (.long (u_a_4 - u_b_4)), (.long (u_a_5 - u_b_5)), (.long (u_a_6 - u_b_6)), (.long (u_a_7 - u_b_7))]) (rest := []) (lenOf pd___JJJJJJJJJ_V_8 rfl) rfl (by show 2 * 0 + _ ≤ _; exact Nat.le_of_eq rfl) (hb hBY d_prog_59_method_9_code_61) (fun _ _ => ⟨rfl, e0, (by decide : 0 + 0 ≤ _), (by decide : 0 + 0 ≤ _)⟩)
  dsimp only [Pt.U, Pt.locs, Pt.cells, Pt.slots] at X_18 l_18 y_18 z_18 st_18 hQ_18
  subst l_18 y_18 z_18
  obtain ⟨r0__18, r1__18, r2__18, r3__18, r4__18, r5__18, r6__18, r7__18, rfl, N_18q, K_18, hq_18_0, hq_18_1, hq_18_2⟩ := hQ_18
  have N_18 := Fr.app N0 N_18q
  have K__19 : Keep h0 T_18.heap [o] := K0.trans K_18 (allS (Or.inl (List.mem_of_getElem? (i := 0) rfl)) all0)
  have f_20 : Arv Z T_18.heap a k_a .long (8 : Int32) [(.long u_a_0), (.long u_a_1), (.long u_a_2), (.long u_a_3), (.long u_a_4), (.long u_a_5), (.long u_a_6), (.long u_a_7)] (.long (0 : Int64)) := A_a.keep K_18 (ninS ne_a_o nin0)
  have f_21 : Arv Z T_18.heap b k_b .long (8 : Int32) [(.long u_b_0), (.long u_b_1), (.long u_b_2), (.long u_b_3), (.long u_b_4), (.long u_b_5), (.long u_b_6), (.long u_b_7)] (.long (0 : Int64)) := A_b.keep K_18 (ninS ne_b_o nin0)
  refine Done.pre (fun _ k_ => st_18 _ k_) ?_
  show Done _ _ _ _ _ _ _ (T_18.setTop (mkF m 64 #[Rv a, Rv b, Rv o] []))
  exact Done.retV X_18 hEX hLK hRT (hb hBY d_prog_59_method_9_code_64) (by exact ⟨r0__18, r1__18, r2__18, r3__18, r4__18, r5__18, r6__18, r7__18, rfl, N_18, K__19, hq_18_0, hq_18_1, (by have q := hq_18_2; rw [(own_subb 1125899906842624 (by decide) u_a_0 u_a_1 u_a_2 u_a_3 u_a_4 u_a_5 u_a_6 u_a_7 u_b_0 u_b_1 u_b_2 u_b_3 u_b_4 u_b_5 u_b_6 u_b_7 hRa hRb).2] at q; exact q)⟩) (by decide) (by decide)
def Qrm_subtract_aba (Z : State) (a : Addr) (b : Addr) (k_a : ClassId) (u_a_0 : Int64) (u_a_1 : Int64) (u_a_2 : Int64) (u_a_3 : Int64) (u_a_4 : Int64) (u_a_5 : Int64) (u_a_6 : Int64) (u_a_7 : Int64) (k_b : ClassId) (u_b_0 : Int64) (u_b_1 : Int64) (u_b_2 : Int64) (u_b_3 : Int64) (u_b_4 : Int64) (u_b_5 : Int64) (u_b_6 : Int64) (u_b_7 : Int64) (h0 : Heap) (n0 : Nat) (v_ : Option Value) (h_ : Heap) (L_ : List Loc) : Prop := ∃ (r0 : Int64), ∃ (r1 : Int64), ∃ (r2 : Int64), ∃ (r3 : Int64), ∃ (r4 : Int64), ∃ (r5 : Int64), ∃ (r6 : Int64), ∃ (r7 : Int64), v_ = none ∧ Fr n0 L_ ∧ Keep h0 h_ [a] ∧ Arv Z h_ a k_a .long (8 : Int32) [(.long r0), (.long r1), (.long r2), (.long r3), (.long r4), (.long r5), (.long r6), (.long r7)] (.long (0 : Int64)) ∧ own_R 562949953421440 r0 r1 r2 r3 r4 r5 r6 r7 ∧ own_M ((own_W u_a_0 u_a_1 u_a_2 u_a_3 u_a_4 u_a_5 u_a_6 u_a_7 - own_W u_b_0 u_b_1 u_b_2 u_b_3 u_b_4 u_b_5 u_b_6 u_b_7) - own_W r0 r1 r2 r3 r4 r5 r6 r7)
theorem ef_rm_subtract_aba (m : MethodId) (x0 : Addr) (x1 : Addr) (x2 : Addr) : entryFrame m #[(.ref x2), (.ref x1), (.ref x2)] 3 = mkF m 0 #[.val (.ref x2), .val (.ref x1), .val (.ref x2)] [] := by first | (simp [entryFrame, mkF, argsToLocals, Value.category]; done) | rfl
set_option maxRecDepth 65536 in
set_option maxHeartbeats 40000000 in
theorem rm_subtract_aba (l : Launch) (Z : State) (aZ : Array Value) (hw : ∀ d ∈ tables_1, d.before aZ Z = true) (ws : List Jvm.Cond) (a : Addr) (b : Addr) (k_a : ClassId) (u_a_0 : Int64) (u_a_1 : Int64) (u_a_2 : Int64) (u_a_3 : Int64) (u_a_4 : Int64) (u_a_5 : Int64) (u_a_6 : Int64) (u_a_7 : Int64) (k_b : ClassId) (u_b_0 : Int64) (u_b_1 : Int64) (u_b_2 : Int64) (u_b_3 : Int64) (u_b_4 : Int64) (u_b_5 : Int64) (u_b_6 : Int64) (u_b_7 : Int64) (h0 : Heap) (n0 : Nat) (Z0 : n0 ≤ h0.size) (A_a : Arv Z h0 a k_a .long (8 : Int32) [(.long u_a_0), (.long u_a_1), (.long u_a_2), (.long u_a_3), (.long u_a_4), (.long u_a_5), (.long u_a_6), (.long u_a_7)] (.long (0 : Int64))) (A_b : Arv Z h0 b k_b .long (8 : Int32) [(.long u_b_0), (.long u_b_1), (.long u_b_2), (.long u_b_3), (.long u_b_4), (.long u_b_5), (.long u_b_6), (.long u_b_7)] (.long (0 : Int64))) (go : n0 ≤ a) (ne_a_b : a ≠ b) (hRa : own_R 1125899906842624 u_a_0 u_a_1 u_a_2 u_a_3 u_a_4 u_a_5 u_a_6 u_a_7) (hRb : own_R 1125899906842624 u_b_0 u_b_1 u_b_2 u_b_3 u_b_4 u_b_5 u_b_6 u_b_7) :
    MetFree l (⟨"com/example/guard3/guard3/P384Field", "subtract", "([J[J[J)V"⟩ : MethodName) (head1 (Jvm.Cond.code (⟨"com/example/guard3/guard3/P384Field", "subtract", "([J[J[J)V"⟩ : MethodName) prog_59_method_9_code 3 none :: ws) ({ frames := 1, cells := 0, slots := 0, locals := 34 } : Room)) (fun a_ U_ => a_ = #[(.ref a), (.ref b), (.ref a)] ∧ Z.Warmed39 U_.vm ∧ U_.heap = h0) (fun _ _ _ _ _ => True) (fun _ U_ o_ U2_ => ∃ v_ L_, o_ = .returned v_ ∧ Qrm_subtract_aba Z a b k_a u_a_0 u_a_1 u_a_2 u_a_3 u_a_4 u_a_5 u_a_6 u_a_7 k_b u_b_0 u_b_1 u_b_2 u_b_3 u_b_4 u_b_5 u_b_6 u_b_7 h0 n0 v_ U2_.heap L_ ∧ FrameEnd U_ o_ U2_ L_ ({ frames := 1, cells := 0, slots := 0, locals := 34 } : Room).cells ({ frames := 1, cells := 0, slots := 0, locals := 34 } : Room).slots) := by
  refine MetFree.of_bodySF (plainFor_of_name pn_com_example_guard3_guard3_P384Field) hisR ?_
  intro p e s m args below meth cO s₁ Bd hml0 hP hK
  obtain ⟨rfl, hZW, hh⟩ := hP
  have hEX := Bd.exec
  have hBY := Bd.bytes
  have hMX : cO.maxLocals = 3 := hml0
  have hOW : s.vm.findClass "com/example/guard3/guard3/P384Field" = some m.cls := findClass_of_methodNamed Bd.named
  have hNM := (name_of_methodNamed Bd.named Bd.method).1
  have hLK := Bd.notSynchronized
  have hRT := Bd.returns
  have X0 : Stand p l e ({ frames := 1, cells := 0, slots := 0, locals := 34 } : Room) s m #[(.ref a), (.ref b), (.ref a)] below meth cO s₁ [] 0 0 := Stand.of_body Bd
  have e0 : s₁.heap = h0 := by rw [← hh, Bd.state]; rfl
  have N0 := Fr.nil n0
  have K0 : Keep h0 h0 [a] := Keep.refl _ _
  show Done p e below s (Qrm_subtract_aba Z a b k_a u_a_0 u_a_1 u_a_2 u_a_3 u_a_4 u_a_5 u_a_6 u_a_7 k_b u_b_0 u_b_1 u_b_2 u_b_3 u_b_4 u_b_5 u_b_6 u_b_7 h0 n0) ({ frames := 1, cells := 0, slots := 0, locals := 34 } : Room).cells ({ frames := 1, cells := 0, slots := 0, locals := 34 } : Room).slots (s₁.setTop (entryFrame m #[(.ref a), (.ref b), (.ref a)] 3))
  refine Done.pre (fun t_ k_ => castTop (ef_rm_subtract_aba m a b a) k_) ?_
  show Done _ _ _ _ _ _ _ (s₁.setTop (mkF m 0 #[Rv a, Rv b, Rv a] []))
  obtain ⟨cl_1, Ar_1, q_1, S_1, N__1, H_1, G_1⟩ := id A_a
  have hin_1 : ¬ ((0 : Int32) < 0 ∨ cl_1.slots.size ≤ ((0 : Int32)).toNatClampNeg) := inb_of S_1 ⟨by decide, by decide⟩
  have hat_1 : cl_1.slots[((0 : Int32)).toNatClampNeg]? = some (.long u_a_0) := H_1.at hin_1 rfl
  obtain ⟨cl_2, Ar_2, q_2, S_2, N__2, H_2, G_2⟩ := id A_b
  have hin_2 : ¬ ((0 : Int32) < 0 ∨ cl_2.slots.size ≤ ((0 : Int32)).toNatClampNeg) := inb_of S_2 ⟨by decide, by decide⟩
  have hat_2 : cl_2.slots[((0 : Int32)).toNatClampNeg]? = some (.long u_b_0) := H_2.at hin_2 rfl
  obtain ⟨cl_3, Ar_3, q_3, S_3, N__3, H_3, G_3⟩ := id A_a
  have hin_3 : ¬ ((1 : Int32) < 0 ∨ cl_3.slots.size ≤ ((1 : Int32)).toNatClampNeg) := inb_of S_3 ⟨by decide, by decide⟩
  have hat_3 : cl_3.slots[((1 : Int32)).toNatClampNeg]? = some (.long u_a_1) := H_3.at hin_3 rfl
  obtain ⟨cl_4, Ar_4, q_4, S_4, N__4, H_4, G_4⟩ := id A_b
  have hin_4 : ¬ ((1 : Int32) < 0 ∨ cl_4.slots.size ≤ ((1 : Int32)).toNatClampNeg) := inb_of S_4 ⟨by decide, by decide⟩
  have hat_4 : cl_4.slots[((1 : Int32)).toNatClampNeg]? = some (.long u_b_1) := H_4.at hin_4 rfl
  obtain ⟨cl_5, Ar_5, q_5, S_5, N__5, H_5, G_5⟩ := id A_a
  have hin_5 : ¬ ((2 : Int32) < 0 ∨ cl_5.slots.size ≤ ((2 : Int32)).toNatClampNeg) := inb_of S_5 ⟨by decide, by decide⟩
  have hat_5 : cl_5.slots[((2 : Int32)).toNatClampNeg]? = some (.long u_a_2) := H_5.at hin_5 rfl
  obtain ⟨cl_6, Ar_6, q_6, S_6, N__6, H_6, G_6⟩ := id A_b
  have hin_6 : ¬ ((2 : Int32) < 0 ∨ cl_6.slots.size ≤ ((2 : Int32)).toNatClampNeg) := inb_of S_6 ⟨by decide, by decide⟩
  have hat_6 : cl_6.slots[((2 : Int32)).toNatClampNeg]? = some (.long u_b_2) := H_6.at hin_6 rfl
  obtain ⟨cl_7, Ar_7, q_7, S_7, N__7, H_7, G_7⟩ := id A_a
  have hin_7 : ¬ ((3 : Int32) < 0 ∨ cl_7.slots.size ≤ ((3 : Int32)).toNatClampNeg) := inb_of S_7 ⟨by decide, by decide⟩
  have hat_7 : cl_7.slots[((3 : Int32)).toNatClampNeg]? = some (.long u_a_3) := H_7.at hin_7 rfl
  obtain ⟨cl_8, Ar_8, q_8, S_8, N__8, H_8, G_8⟩ := id A_b
  have hin_8 : ¬ ((3 : Int32) < 0 ∨ cl_8.slots.size ≤ ((3 : Int32)).toNatClampNeg) := inb_of S_8 ⟨by decide, by decide⟩
  have hat_8 : cl_8.slots[((3 : Int32)).toNatClampNeg]? = some (.long u_b_3) := H_8.at hin_8 rfl
  obtain ⟨cl_9, Ar_9, q_9, S_9, N__9, H_9, G_9⟩ := id A_a
  have hin_9 : ¬ ((4 : Int32) < 0 ∨ cl_9.slots.size ≤ ((4 : Int32)).toNatClampNeg) := inb_of S_9 ⟨by decide, by decide⟩
  have hat_9 : cl_9.slots[((4 : Int32)).toNatClampNeg]? = some (.long u_a_4) := H_9.at hin_9 rfl
  obtain ⟨cl_10, Ar_10, q_10, S_10, N__10, H_10, G_10⟩ := id A_b
  have hin_10 : ¬ ((4 : Int32) < 0 ∨ cl_10.slots.size ≤ ((4 : Int32)).toNatClampNeg) := inb_of S_10 ⟨by decide, by decide⟩
  have hat_10 : cl_10.slots[((4 : Int32)).toNatClampNeg]? = some (.long u_b_4) := H_10.at hin_10 rfl
  obtain ⟨cl_11, Ar_11, q_11, S_11, N__11, H_11, G_11⟩ := id A_a
  have hin_11 : ¬ ((5 : Int32) < 0 ∨ cl_11.slots.size ≤ ((5 : Int32)).toNatClampNeg) := inb_of S_11 ⟨by decide, by decide⟩
  have hat_11 : cl_11.slots[((5 : Int32)).toNatClampNeg]? = some (.long u_a_5) := H_11.at hin_11 rfl
  obtain ⟨cl_12, Ar_12, q_12, S_12, N__12, H_12, G_12⟩ := id A_b
  have hin_12 : ¬ ((5 : Int32) < 0 ∨ cl_12.slots.size ≤ ((5 : Int32)).toNatClampNeg) := inb_of S_12 ⟨by decide, by decide⟩
  have hat_12 : cl_12.slots[((5 : Int32)).toNatClampNeg]? = some (.long u_b_5) := H_12.at hin_12 rfl
  obtain ⟨cl_13, Ar_13, q_13, S_13, N__13, H_13, G_13⟩ := id A_a
  have hin_13 : ¬ ((6 : Int32) < 0 ∨ cl_13.slots.size ≤ ((6 : Int32)).toNatClampNeg) := inb_of S_13 ⟨by decide, by decide⟩
  have hat_13 : cl_13.slots[((6 : Int32)).toNatClampNeg]? = some (.long u_a_6) := H_13.at hin_13 rfl
  obtain ⟨cl_14, Ar_14, q_14, S_14, N__14, H_14, G_14⟩ := id A_b
  have hin_14 : ¬ ((6 : Int32) < 0 ∨ cl_14.slots.size ≤ ((6 : Int32)).toNatClampNeg) := inb_of S_14 ⟨by decide, by decide⟩
  have hat_14 : cl_14.slots[((6 : Int32)).toNatClampNeg]? = some (.long u_b_6) := H_14.at hin_14 rfl
  obtain ⟨cl_15, Ar_15, q_15, S_15, N__15, H_15, G_15⟩ := id A_a
  have hin_15 : ¬ ((7 : Int32) < 0 ∨ cl_15.slots.size ≤ ((7 : Int32)).toNatClampNeg) := inb_of S_15 ⟨by decide, by decide⟩
  have hat_15 : cl_15.slots[((7 : Int32)).toNatClampNeg]? = some (.long u_a_7) := H_15.at hin_15 rfl
  obtain ⟨cl_16, Ar_16, q_16, S_16, N__16, H_16, G_16⟩ := id A_b
  have hin_16 : ¬ ((7 : Int32) < 0 ∨ cl_16.slots.size ≤ ((7 : Int32)).toNatClampNeg) := inb_of S_16 ⟨by decide, by decide⟩
  have hat_16 : cl_16.slots[((7 : Int32)).toNatClampNeg]? = some (.long u_b_7) := H_16.at hin_16 rfl
  have sg_17 : ∀ tt_, Steps p.tables e below (s₁.setTop (mkF m 61 #[Rv a, Rv b, Rv a] [(.long (u_a_7 - u_b_7)), (.long (u_a_6 - u_b_6)), (.long (u_a_5 - u_b_5)), (.long (u_a_4 - u_b_4)), (.long (u_a_3 - u_b_3)), (.long (u_a_2 - u_b_2)), (.long (u_a_1 - u_b_1)), (.long (u_a_0 - u_b_0)), (.ref a)])) tt_ → Steps p.tables e below (s₁.setTop (mkF m 0 #[Rv a, Rv b, Rv a] [])) tt_ := by
    intro tt_ kt_
    refine XS.aloadN X0.here hEX rfl (hb hBY d_prog_59_method_9_code_0) rfl rfl ?_
    show Steps p.tables e below (s₁.setTop (mkF m 1 #[Rv a, Rv b, Rv a] [(.ref a)])) tt_
    refine XS.aloadN X0.here hEX rfl (hb hBY d_prog_59_method_9_code_1) rfl rfl ?_
    show Steps p.tables e below (s₁.setTop (mkF m 2 #[Rv a, Rv b, Rv a] [(.ref a), (.ref a)])) tt_
    refine XS.iconst X0.here hEX rfl (hb hBY d_prog_59_method_9_code_2) ?_
    show Steps p.tables e below (s₁.setTop (mkF m 3 #[Rv a, Rv b, Rv a] [(.int (0 : Int32)), (.ref a), (.ref a)])) tt_
    refine X0.laload hEX (j := (0 : Int32)) (v := (.long u_a_0)) (by rw [e0]; exact Ar_1.1) (State.isArrayOf_alike hZW.alike Ar_1.2.1) Ar_1.2.2 hin_1 hat_1 (g := (mkF m 3 #[Rv a, Rv b, Rv a] [(.int (0 : Int32)), (.ref a), (.ref a)])) rfl rfl (hb hBY d_prog_59_method_9_code_3) _ ?_
    show Steps p.tables e below (s₁.setTop (mkF m 4 #[Rv a, Rv b, Rv a] [(.long u_a_0), (.ref a)])) tt_
    refine XS.aloadN X0.here hEX rfl (hb hBY d_prog_59_method_9_code_4) rfl rfl ?_
    show Steps p.tables e below (s₁.setTop (mkF m 5 #[Rv a, Rv b, Rv a] [(.ref b), (.long u_a_0), (.ref a)])) tt_
    refine XS.iconst X0.here hEX rfl (hb hBY d_prog_59_method_9_code_5) ?_
    show Steps p.tables e below (s₁.setTop (mkF m 6 #[Rv a, Rv b, Rv a] [(.int (0 : Int32)), (.ref b), (.long u_a_0), (.ref a)])) tt_
    refine X0.laload hEX (j := (0 : Int32)) (v := (.long u_b_0)) (by rw [e0]; exact Ar_2.1) (State.isArrayOf_alike hZW.alike Ar_2.2.1) Ar_2.2.2 hin_2 hat_2 (g := (mkF m 6 #[Rv a, Rv b, Rv a] [(.int (0 : Int32)), (.ref b), (.long u_a_0), (.ref a)])) rfl rfl (hb hBY d_prog_59_method_9_code_6) _ ?_
    show Steps p.tables e below (s₁.setTop (mkF m 7 #[Rv a, Rv b, Rv a] [(.long u_b_0), (.long u_a_0), (.ref a)])) tt_
    refine XS.lsub X0.here hEX rfl (hb hBY d_prog_59_method_9_code_7) rfl ?_
    show Steps p.tables e below (s₁.setTop (mkF m 8 #[Rv a, Rv b, Rv a] [(.long (u_a_0 - u_b_0)), (.ref a)])) tt_
    refine XS.aloadN X0.here hEX rfl (hb hBY d_prog_59_method_9_code_8) rfl rfl ?_
    show Steps p.tables e below (s₁.setTop (mkF m 9 #[Rv a, Rv b, Rv a] [(.ref a), (.long (u_a_0 - u_b_0)), (.ref a)])) tt_
    refine XS.iconst X0.here hEX rfl (hb hBY d_prog_59_method_9_code_9) ?_
    show Steps p.tables e below (s₁.setTop (mkF m 10 #[Rv a, Rv b, Rv a] [(.int (1 : Int32)), (.ref a), (.long (u_a_0 - u_b_0)), (.ref a)])) tt_
    refine X0.laload hEX (j := (1 : Int32)) (v := (.long u_a_1)) (by rw [e0]; exact Ar_3.1) (State.isArrayOf_alike hZW.alike Ar_3.2.1) Ar_3.2.2 hin_3 hat_3 (g := (mkF m 10 #[Rv a, Rv b, Rv a] [(.int (1 : Int32)), (.ref a), (.long (u_a_0 - u_b_0)), (.ref a)])) rfl rfl (hb hBY d_prog_59_method_9_code_10) _ ?_
    show Steps p.tables e below (s₁.setTop (mkF m 11 #[Rv a, Rv b, Rv a] [(.long u_a_1), (.long (u_a_0 - u_b_0)), (.ref a)])) tt_
    refine XS.aloadN X0.here hEX rfl (hb hBY d_prog_59_method_9_code_11) rfl rfl ?_
    show Steps p.tables e below (s₁.setTop (mkF m 12 #[Rv a, Rv b, Rv a] [(.ref b), (.long u_a_1), (.long (u_a_0 - u_b_0)), (.ref a)])) tt_
    refine XS.iconst X0.here hEX rfl (hb hBY d_prog_59_method_9_code_12) ?_
    show Steps p.tables e below (s₁.setTop (mkF m 13 #[Rv a, Rv b, Rv a] [(.int (1 : Int32)), (.ref b), (.long u_a_1), (.long (u_a_0 - u_b_0)), (.ref a)])) tt_
    refine X0.laload hEX (j := (1 : Int32)) (v := (.long u_b_1)) (by rw [e0]; exact Ar_4.1) (State.isArrayOf_alike hZW.alike Ar_4.2.1) Ar_4.2.2 hin_4 hat_4 (g := (mkF m 13 #[Rv a, Rv b, Rv a] [(.int (1 : Int32)), (.ref b), (.long u_a_1), (.long (u_a_0 - u_b_0)), (.ref a)])) rfl rfl (hb hBY d_prog_59_method_9_code_13) _ ?_
    show Steps p.tables e below (s₁.setTop (mkF m 14 #[Rv a, Rv b, Rv a] [(.long u_b_1), (.long u_a_1), (.long (u_a_0 - u_b_0)), (.ref a)])) tt_
    refine XS.lsub X0.here hEX rfl (hb hBY d_prog_59_method_9_code_14) rfl ?_
    show Steps p.tables e below (s₁.setTop (mkF m 15 #[Rv a, Rv b, Rv a] [(.long (u_a_1 - u_b_1)), (.long (u_a_0 - u_b_0)), (.ref a)])) tt_
    refine XS.aloadN X0.here hEX rfl (hb hBY d_prog_59_method_9_code_15) rfl rfl ?_
    show Steps p.tables e below (s₁.setTop (mkF m 16 #[Rv a, Rv b, Rv a] [(.ref a), (.long (u_a_1 - u_b_1)), (.long (u_a_0 - u_b_0)), (.ref a)])) tt_
    refine XS.iconst X0.here hEX rfl (hb hBY d_prog_59_method_9_code_16) ?_
    show Steps p.tables e below (s₁.setTop (mkF m 17 #[Rv a, Rv b, Rv a] [(.int (2 : Int32)), (.ref a), (.long (u_a_1 - u_b_1)), (.long (u_a_0 - u_b_0)), (.ref a)])) tt_
    refine X0.laload hEX (j := (2 : Int32)) (v := (.long u_a_2)) (by rw [e0]; exact Ar_5.1) (State.isArrayOf_alike hZW.alike Ar_5.2.1) Ar_5.2.2 hin_5 hat_5 (g := (mkF m 17 #[Rv a, Rv b, Rv a] [(.int (2 : Int32)), (.ref a), (.long (u_a_1 - u_b_1)), (.long (u_a_0 - u_b_0)), (.ref a)])) rfl rfl (hb hBY d_prog_59_method_9_code_17) _ ?_
    show Steps p.tables e below (s₁.setTop (mkF m 18 #[Rv a, Rv b, Rv a] [(.long u_a_2), (.long (u_a_1 - u_b_1)), (.long (u_a_0 - u_b_0)), (.ref a)])) tt_
    refine XS.aloadN X0.here hEX rfl (hb hBY d_prog_59_method_9_code_18) rfl rfl ?_
    show Steps p.tables e below (s₁.setTop (mkF m 19 #[Rv a, Rv b, Rv a] [(.ref b), (.long u_a_2), (.long (u_a_1 - u_b_1)), (.long (u_a_0 - u_b_0)), (.ref a)])) tt_
    refine XS.iconst X0.here hEX rfl (hb hBY d_prog_59_method_9_code_19) ?_
    show Steps p.tables e below (s₁.setTop (mkF m 20 #[Rv a, Rv b, Rv a] [(.int (2 : Int32)), (.ref b), (.long u_a_2), (.long (u_a_1 - u_b_1)), (.long (u_a_0 - u_b_0)), (.ref a)])) tt_
    refine X0.laload hEX (j := (2 : Int32)) (v := (.long u_b_2)) (by rw [e0]; exact Ar_6.1) (State.isArrayOf_alike hZW.alike Ar_6.2.1) Ar_6.2.2 hin_6 hat_6 (g := (mkF m 20 #[Rv a, Rv b, Rv a] [(.int (2 : Int32)), (.ref b), (.long u_a_2), (.long (u_a_1 - u_b_1)), (.long (u_a_0 - u_b_0)), (.ref a)])) rfl rfl (hb hBY d_prog_59_method_9_code_20) _ ?_
    show Steps p.tables e below (s₁.setTop (mkF m 21 #[Rv a, Rv b, Rv a] [(.long u_b_2), (.long u_a_2), (.long (u_a_1 - u_b_1)), (.long (u_a_0 - u_b_0)), (.ref a)])) tt_
    refine XS.lsub X0.here hEX rfl (hb hBY d_prog_59_method_9_code_21) rfl ?_
    show Steps p.tables e below (s₁.setTop (mkF m 22 #[Rv a, Rv b, Rv a] [(.long (u_a_2 - u_b_2)), (.long (u_a_1 - u_b_1)), (.long (u_a_0 - u_b_0)), (.ref a)])) tt_
    refine XS.aloadN X0.here hEX rfl (hb hBY d_prog_59_method_9_code_22) rfl rfl ?_
    show Steps p.tables e below (s₁.setTop (mkF m 23 #[Rv a, Rv b, Rv a] [(.ref a), (.long (u_a_2 - u_b_2)), (.long (u_a_1 - u_b_1)), (.long (u_a_0 - u_b_0)), (.ref a)])) tt_
    refine XS.iconst X0.here hEX rfl (hb hBY d_prog_59_method_9_code_23) ?_
    show Steps p.tables e below (s₁.setTop (mkF m 24 #[Rv a, Rv b, Rv a] [(.int (3 : Int32)), (.ref a), (.long (u_a_2 - u_b_2)), (.long (u_a_1 - u_b_1)), (.long (u_a_0 - u_b_0)), (.ref a)])) tt_
    refine X0.laload hEX (j := (3 : Int32)) (v := (.long u_a_3)) (by rw [e0]; exact Ar_7.1) (State.isArrayOf_alike hZW.alike Ar_7.2.1) Ar_7.2.2 hin_7 hat_7 (g := (mkF m 24 #[Rv a, Rv b, Rv a] [(.int (3 : Int32)), (.ref a), (.long (u_a_2 - u_b_2)), (.long (u_a_1 - u_b_1)), (.long (u_a_0 - u_b_0)), (.ref a)])) rfl rfl (hb hBY d_prog_59_method_9_code_24) _ ?_
    show Steps p.tables e below (s₁.setTop (mkF m 25 #[Rv a, Rv b, Rv a] [(.long u_a_3), (.long (u_a_2 - u_b_2)), (.long (u_a_1 - u_b_1)), (.long (u_a_0 - u_b_0)), (.ref a)])) tt_
    refine XS.aloadN X0.here hEX rfl (hb hBY d_prog_59_method_9_code_25) rfl rfl ?_
    show Steps p.tables e below (s₁.setTop (mkF m 26 #[Rv a, Rv b, Rv a] [(.ref b), (.long u_a_3), (.long (u_a_2 - u_b_2)), (.long (u_a_1 - u_b_1)), (.long (u_a_0 - u_b_0)), (.ref a)])) tt_
    refine XS.iconst X0.here hEX rfl (hb hBY d_prog_59_method_9_code_26) ?_
    show Steps p.tables e below (s₁.setTop (mkF m 27 #[Rv a, Rv b, Rv a] [(.int (3 : Int32)), (.ref b), (.long u_a_3), (.long (u_a_2 - u_b_2)), (.long (u_a_1 - u_b_1)), (.long (u_a_0 - u_b_0)), (.ref a)])) tt_
    refine X0.laload hEX (j := (3 : Int32)) (v := (.long u_b_3)) (by rw [e0]; exact Ar_8.1) (State.isArrayOf_alike hZW.alike Ar_8.2.1) Ar_8.2.2 hin_8 hat_8 (g := (mkF m 27 #[Rv a, Rv b, Rv a] [(.int (3 : Int32)), (.ref b), (.long u_a_3), (.long (u_a_2 - u_b_2)), (.long (u_a_1 - u_b_1)), (.long (u_a_0 - u_b_0)), (.ref a)])) rfl rfl (hb hBY d_prog_59_method_9_code_27) _ ?_
    show Steps p.tables e below (s₁.setTop (mkF m 28 #[Rv a, Rv b, Rv a] [(.long u_b_3), (.long u_a_3), (.long (u_a_2 - u_b_2)), (.long (u_a_1 - u_b_1)), (.long (u_a_0 - u_b_0)), (.ref a)])) tt_
    refine XS.lsub X0.here hEX rfl (hb hBY d_prog_59_method_9_code_28) rfl ?_
    show Steps p.tables e below (s₁.setTop (mkF m 29 #[Rv a, Rv b, Rv a] [(.long (u_a_3 - u_b_3)), (.long (u_a_2 - u_b_2)), (.long (u_a_1 - u_b_1)), (.long (u_a_0 - u_b_0)), (.ref a)])) tt_
    refine XS.aloadN X0.here hEX rfl (hb hBY d_prog_59_method_9_code_29) rfl rfl ?_
    show Steps p.tables e below (s₁.setTop (mkF m 30 #[Rv a, Rv b, Rv a] [(.ref a), (.long (u_a_3 - u_b_3)), (.long (u_a_2 - u_b_2)), (.long (u_a_1 - u_b_1)), (.long (u_a_0 - u_b_0)), (.ref a)])) tt_
    refine XS.iconst X0.here hEX rfl (hb hBY d_prog_59_method_9_code_30) ?_
    show Steps p.tables e below (s₁.setTop (mkF m 31 #[Rv a, Rv b, Rv a] [(.int (4 : Int32)), (.ref a), (.long (u_a_3 - u_b_3)), (.long (u_a_2 - u_b_2)), (.long (u_a_1 - u_b_1)), (.long (u_a_0 - u_b_0)), (.ref a)])) tt_
    refine X0.laload hEX (j := (4 : Int32)) (v := (.long u_a_4)) (by rw [e0]; exact Ar_9.1) (State.isArrayOf_alike hZW.alike Ar_9.2.1) Ar_9.2.2 hin_9 hat_9 (g := (mkF m 31 #[Rv a, Rv b, Rv a] [(.int (4 : Int32)), (.ref a), (.long (u_a_3 - u_b_3)), (.long (u_a_2 - u_b_2)), (.long (u_a_1 - u_b_1)), (.long (u_a_0 - u_b_0)), (.ref a)])) rfl rfl (hb hBY d_prog_59_method_9_code_31) _ ?_
    show Steps p.tables e below (s₁.setTop (mkF m 32 #[Rv a, Rv b, Rv a] [(.long u_a_4), (.long (u_a_3 - u_b_3)), (.long (u_a_2 - u_b_2)), (.long (u_a_1 - u_b_1)), (.long (u_a_0 - u_b_0)), (.ref a)])) tt_
    refine XS.aloadN X0.here hEX rfl (hb hBY d_prog_59_method_9_code_32) rfl rfl ?_
    show Steps p.tables e below (s₁.setTop (mkF m 33 #[Rv a, Rv b, Rv a] [(.ref b), (.long u_a_4), (.long (u_a_3 - u_b_3)), (.long (u_a_2 - u_b_2)), (.long (u_a_1 - u_b_1)), (.long (u_a_0 - u_b_0)), (.ref a)])) tt_
    refine XS.iconst X0.here hEX rfl (hb hBY d_prog_59_method_9_code_33) ?_
    show Steps p.tables e below (s₁.setTop (mkF m 34 #[Rv a, Rv b, Rv a] [(.int (4 : Int32)), (.ref b), (.long u_a_4), (.long (u_a_3 - u_b_3)), (.long (u_a_2 - u_b_2)), (.long (u_a_1 - u_b_1)), (.long (u_a_0 - u_b_0)), (.ref a)])) tt_
    refine X0.laload hEX (j := (4 : Int32)) (v := (.long u_b_4)) (by rw [e0]; exact Ar_10.1) (State.isArrayOf_alike hZW.alike Ar_10.2.1) Ar_10.2.2 hin_10 hat_10 (g := (mkF m 34 #[Rv a, Rv b, Rv a] [(.int (4 : Int32)), (.ref b), (.long u_a_4), (.long (u_a_3 - u_b_3)), (.long (u_a_2 - u_b_2)), (.long (u_a_1 - u_b_1)), (.long (u_a_0 - u_b_0)), (.ref a)])) rfl rfl (hb hBY d_prog_59_method_9_code_34) _ ?_
    show Steps p.tables e below (s₁.setTop (mkF m 35 #[Rv a, Rv b, Rv a] [(.long u_b_4), (.long u_a_4), (.long (u_a_3 - u_b_3)), (.long (u_a_2 - u_b_2)), (.long (u_a_1 - u_b_1)), (.long (u_a_0 - u_b_0)), (.ref a)])) tt_
    refine XS.lsub X0.here hEX rfl (hb hBY d_prog_59_method_9_code_35) rfl ?_
    show Steps p.tables e below (s₁.setTop (mkF m 36 #[Rv a, Rv b, Rv a] [(.long (u_a_4 - u_b_4)), (.long (u_a_3 - u_b_3)), (.long (u_a_2 - u_b_2)), (.long (u_a_1 - u_b_1)), (.long (u_a_0 - u_b_0)), (.ref a)])) tt_
    refine XS.aloadN X0.here hEX rfl (hb hBY d_prog_59_method_9_code_36) rfl rfl ?_
    show Steps p.tables e below (s₁.setTop (mkF m 37 #[Rv a, Rv b, Rv a] [(.ref a), (.long (u_a_4 - u_b_4)), (.long (u_a_3 - u_b_3)), (.long (u_a_2 - u_b_2)), (.long (u_a_1 - u_b_1)), (.long (u_a_0 - u_b_0)), (.ref a)])) tt_
    refine XS.iconst X0.here hEX rfl (hb hBY d_prog_59_method_9_code_37) ?_
    show Steps p.tables e below (s₁.setTop (mkF m 38 #[Rv a, Rv b, Rv a] [(.int (5 : Int32)), (.ref a), (.long (u_a_4 - u_b_4)), (.long (u_a_3 - u_b_3)), (.long (u_a_2 - u_b_2)), (.long (u_a_1 - u_b_1)), (.long (u_a_0 - u_b_0)), (.ref a)])) tt_
    refine X0.laload hEX (j := (5 : Int32)) (v := (.long u_a_5)) (by rw [e0]; exact Ar_11.1) (State.isArrayOf_alike hZW.alike Ar_11.2.1) Ar_11.2.2 hin_11 hat_11 (g := (mkF m 38 #[Rv a, Rv b, Rv a] [(.int (5 : Int32)), (.ref a), (.long (u_a_4 - u_b_4)), (.long (u_a_3 - u_b_3)), (.long (u_a_2 - u_b_2)), (.long (u_a_1 - u_b_1)), (.long (u_a_0 - u_b_0)), (.ref a)])) rfl rfl (hb hBY d_prog_59_method_9_code_38) _ ?_
    show Steps p.tables e below (s₁.setTop (mkF m 39 #[Rv a, Rv b, Rv a] [(.long u_a_5), (.long (u_a_4 - u_b_4)), (.long (u_a_3 - u_b_3)), (.long (u_a_2 - u_b_2)), (.long (u_a_1 - u_b_1)), (.long (u_a_0 - u_b_0)), (.ref a)])) tt_
    refine XS.aloadN X0.here hEX rfl (hb hBY d_prog_59_method_9_code_39) rfl rfl ?_
    show Steps p.tables e below (s₁.setTop (mkF m 40 #[Rv a, Rv b, Rv a] [(.ref b), (.long u_a_5), (.long (u_a_4 - u_b_4)), (.long (u_a_3 - u_b_3)), (.long (u_a_2 - u_b_2)), (.long (u_a_1 - u_b_1)), (.long (u_a_0 - u_b_0)), (.ref a)])) tt_
    refine XS.iconst X0.here hEX rfl (hb hBY d_prog_59_method_9_code_40) ?_
    show Steps p.tables e below (s₁.setTop (mkF m 41 #[Rv a, Rv b, Rv a] [(.int (5 : Int32)), (.ref b), (.long u_a_5), (.long (u_a_4 - u_b_4)), (.long (u_a_3 - u_b_3)), (.long (u_a_2 - u_b_2)), (.long (u_a_1 - u_b_1)), (.long (u_a_0 - u_b_0)), (.ref a)])) tt_
    refine X0.laload hEX (j := (5 : Int32)) (v := (.long u_b_5)) (by rw [e0]; exact Ar_12.1) (State.isArrayOf_alike hZW.alike Ar_12.2.1) Ar_12.2.2 hin_12 hat_12 (g := (mkF m 41 #[Rv a, Rv b, Rv a] [(.int (5 : Int32)), (.ref b), (.long u_a_5), (.long (u_a_4 - u_b_4)), (.long (u_a_3 - u_b_3)), (.long (u_a_2 - u_b_2)), (.long (u_a_1 - u_b_1)), (.long (u_a_0 - u_b_0)), (.ref a)])) rfl rfl (hb hBY d_prog_59_method_9_code_41) _ ?_
    show Steps p.tables e below (s₁.setTop (mkF m 42 #[Rv a, Rv b, Rv a] [(.long u_b_5), (.long u_a_5), (.long (u_a_4 - u_b_4)), (.long (u_a_3 - u_b_3)), (.long (u_a_2 - u_b_2)), (.long (u_a_1 - u_b_1)), (.long (u_a_0 - u_b_0)), (.ref a)])) tt_
    refine XS.lsub X0.here hEX rfl (hb hBY d_prog_59_method_9_code_42) rfl ?_
    show Steps p.tables e below (s₁.setTop (mkF m 43 #[Rv a, Rv b, Rv a] [(.long (u_a_5 - u_b_5)), (.long (u_a_4 - u_b_4)), (.long (u_a_3 - u_b_3)), (.long (u_a_2 - u_b_2)), (.long (u_a_1 - u_b_1)), (.long (u_a_0 - u_b_0)), (.ref a)])) tt_
    refine XS.aloadN X0.here hEX rfl (hb hBY d_prog_59_method_9_code_43) rfl rfl ?_
    show Steps p.tables e below (s₁.setTop (mkF m 44 #[Rv a, Rv b, Rv a] [(.ref a), (.long (u_a_5 - u_b_5)), (.long (u_a_4 - u_b_4)), (.long (u_a_3 - u_b_3)), (.long (u_a_2 - u_b_2)), (.long (u_a_1 - u_b_1)), (.long (u_a_0 - u_b_0)), (.ref a)])) tt_
    refine XS.bipush X0.here hEX rfl (hb hBY d_prog_59_method_9_code_44) ?_
    show Steps p.tables e below (s₁.setTop (mkF m 46 #[Rv a, Rv b, Rv a] [(.int (6 : Int32)), (.ref a), (.long (u_a_5 - u_b_5)), (.long (u_a_4 - u_b_4)), (.long (u_a_3 - u_b_3)), (.long (u_a_2 - u_b_2)), (.long (u_a_1 - u_b_1)), (.long (u_a_0 - u_b_0)), (.ref a)])) tt_
    refine X0.laload hEX (j := (6 : Int32)) (v := (.long u_a_6)) (by rw [e0]; exact Ar_13.1) (State.isArrayOf_alike hZW.alike Ar_13.2.1) Ar_13.2.2 hin_13 hat_13 (g := (mkF m 46 #[Rv a, Rv b, Rv a] [(.int (6 : Int32)), (.ref a), (.long (u_a_5 - u_b_5)), (.long (u_a_4 - u_b_4)), (.long (u_a_3 - u_b_3)), (.long (u_a_2 - u_b_2)), (.long (u_a_1 - u_b_1)), (.long (u_a_0 - u_b_0)), (.ref a)])) rfl rfl (hb hBY d_prog_59_method_9_code_46) _ ?_
    show Steps p.tables e below (s₁.setTop (mkF m 47 #[Rv a, Rv b, Rv a] [(.long u_a_6), (.long (u_a_5 - u_b_5)), (.long (u_a_4 - u_b_4)), (.long (u_a_3 - u_b_3)), (.long (u_a_2 - u_b_2)), (.long (u_a_1 - u_b_1)), (.long (u_a_0 - u_b_0)), (.ref a)])) tt_
    refine XS.aloadN X0.here hEX rfl (hb hBY d_prog_59_method_9_code_47) rfl rfl ?_
    show Steps p.tables e below (s₁.setTop (mkF m 48 #[Rv a, Rv b, Rv a] [(.ref b), (.long u_a_6), (.long (u_a_5 - u_b_5)), (.long (u_a_4 - u_b_4)), (.long (u_a_3 - u_b_3)), (.long (u_a_2 - u_b_2)), (.long (u_a_1 - u_b_1)), (.long (u_a_0 - u_b_0)), (.ref a)])) tt_
    refine XS.bipush X0.here hEX rfl (hb hBY d_prog_59_method_9_code_48) ?_
    show Steps p.tables e below (s₁.setTop (mkF m 50 #[Rv a, Rv b, Rv a] [(.int (6 : Int32)), (.ref b), (.long u_a_6), (.long (u_a_5 - u_b_5)), (.long (u_a_4 - u_b_4)), (.long (u_a_3 - u_b_3)), (.long (u_a_2 - u_b_2)), (.long (u_a_1 - u_b_1)), (.long (u_a_0 - u_b_0)), (.ref a)])) tt_
    refine X0.laload hEX (j := (6 : Int32)) (v := (.long u_b_6)) (by rw [e0]; exact Ar_14.1) (State.isArrayOf_alike hZW.alike Ar_14.2.1) Ar_14.2.2 hin_14 hat_14 (g := (mkF m 50 #[Rv a, Rv b, Rv a] [(.int (6 : Int32)), (.ref b), (.long u_a_6), (.long (u_a_5 - u_b_5)), (.long (u_a_4 - u_b_4)), (.long (u_a_3 - u_b_3)), (.long (u_a_2 - u_b_2)), (.long (u_a_1 - u_b_1)), (.long (u_a_0 - u_b_0)), (.ref a)])) rfl rfl (hb hBY d_prog_59_method_9_code_50) _ ?_
    show Steps p.tables e below (s₁.setTop (mkF m 51 #[Rv a, Rv b, Rv a] [(.long u_b_6), (.long u_a_6), (.long (u_a_5 - u_b_5)), (.long (u_a_4 - u_b_4)), (.long (u_a_3 - u_b_3)), (.long (u_a_2 - u_b_2)), (.long (u_a_1 - u_b_1)), (.long (u_a_0 - u_b_0)), (.ref a)])) tt_
    refine XS.lsub X0.here hEX rfl (hb hBY d_prog_59_method_9_code_51) rfl ?_
    show Steps p.tables e below (s₁.setTop (mkF m 52 #[Rv a, Rv b, Rv a] [(.long (u_a_6 - u_b_6)), (.long (u_a_5 - u_b_5)), (.long (u_a_4 - u_b_4)), (.long (u_a_3 - u_b_3)), (.long (u_a_2 - u_b_2)), (.long (u_a_1 - u_b_1)), (.long (u_a_0 - u_b_0)), (.ref a)])) tt_
    refine XS.aloadN X0.here hEX rfl (hb hBY d_prog_59_method_9_code_52) rfl rfl ?_
    show Steps p.tables e below (s₁.setTop (mkF m 53 #[Rv a, Rv b, Rv a] [(.ref a), (.long (u_a_6 - u_b_6)), (.long (u_a_5 - u_b_5)), (.long (u_a_4 - u_b_4)), (.long (u_a_3 - u_b_3)), (.long (u_a_2 - u_b_2)), (.long (u_a_1 - u_b_1)), (.long (u_a_0 - u_b_0)), (.ref a)])) tt_
    refine XS.bipush X0.here hEX rfl (hb hBY d_prog_59_method_9_code_53) ?_
    show Steps p.tables e below (s₁.setTop (mkF m 55 #[Rv a, Rv b, Rv a] [(.int (7 : Int32)), (.ref a), (.long (u_a_6 - u_b_6)), (.long (u_a_5 - u_b_5)), (.long (u_a_4 - u_b_4)), (.long (u_a_3 - u_b_3)), (.long (u_a_2 - u_b_2)), (.long (u_a_1 - u_b_1)), (.long (u_a_0 - u_b_0)), (.ref a)])) tt_
    refine X0.laload hEX (j := (7 : Int32)) (v := (.long u_a_7)) (by rw [e0]; exact Ar_15.1) (State.isArrayOf_alike hZW.alike Ar_15.2.1) Ar_15.2.2 hin_15 hat_15 (g := (mkF m 55 #[Rv a, Rv b, Rv a] [(.int (7 : Int32)), (.ref a), (.long (u_a_6 - u_b_6)), (.long (u_a_5 - u_b_5)), (.long (u_a_4 - u_b_4)), (.long (u_a_3 - u_b_3)), (.long (u_a_2 - u_b_2)), (.long (u_a_1 - u_b_1)), (.long (u_a_0 - u_b_0)), (.ref a)])) rfl rfl (hb hBY d_prog_59_method_9_code_55) _ ?_
    show Steps p.tables e below (s₁.setTop (mkF m 56 #[Rv a, Rv b, Rv a] [(.long u_a_7), (.long (u_a_6 - u_b_6)), (.long (u_a_5 - u_b_5)), (.long (u_a_4 - u_b_4)), (.long (u_a_3 - u_b_3)), (.long (u_a_2 - u_b_2)), (.long (u_a_1 - u_b_1)), (.long (u_a_0 - u_b_0)), (.ref a)])) tt_
    refine XS.aloadN X0.here hEX rfl (hb hBY d_prog_59_method_9_code_56) rfl rfl ?_
    show Steps p.tables e below (s₁.setTop (mkF m 57 #[Rv a, Rv b, Rv a] [(.ref b), (.long u_a_7), (.long (u_a_6 - u_b_6)), (.long (u_a_5 - u_b_5)), (.long (u_a_4 - u_b_4)), (.long (u_a_3 - u_b_3)), (.long (u_a_2 - u_b_2)), (.long (u_a_1 - u_b_1)), (.long (u_a_0 - u_b_0)), (.ref a)])) tt_
    refine XS.bipush X0.here hEX rfl (hb hBY d_prog_59_method_9_code_57) ?_
    show Steps p.tables e below (s₁.setTop (mkF m 59 #[Rv a, Rv b, Rv a] [(.int (7 : Int32)), (.ref b), (.long u_a_7), (.long (u_a_6 - u_b_6)), (.long (u_a_5 - u_b_5)), (.long (u_a_4 - u_b_4)), (.long (u_a_3 - u_b_3)), (.long (u_a_2 - u_b_2)), (.long (u_a_1 - u_b_1)), (.long (u_a_0 - u_b_0)), (.ref a)])) tt_
    refine X0.laload hEX (j := (7 : Int32)) (v := (.long u_b_7)) (by rw [e0]; exact Ar_16.1) (State.isArrayOf_alike hZW.alike Ar_16.2.1) Ar_16.2.2 hin_16 hat_16 (g := (mkF m 59 #[Rv a, Rv b, Rv a] [(.int (7 : Int32)), (.ref b), (.long u_a_7), (.long (u_a_6 - u_b_6)), (.long (u_a_5 - u_b_5)), (.long (u_a_4 - u_b_4)), (.long (u_a_3 - u_b_3)), (.long (u_a_2 - u_b_2)), (.long (u_a_1 - u_b_1)), (.long (u_a_0 - u_b_0)), (.ref a)])) rfl rfl (hb hBY d_prog_59_method_9_code_59) _ ?_
    show Steps p.tables e below (s₁.setTop (mkF m 60 #[Rv a, Rv b, Rv a] [(.long u_b_7), (.long u_a_7), (.long (u_a_6 - u_b_6)), (.long (u_a_5 - u_b_5)), (.long (u_a_4 - u_b_4)), (.long (u_a_3 - u_b_3)), (.long (u_a_2 - u_b_2)), (.long (u_a_1 - u_b_1)), (.long (u_a_0 - u_b_0)), (.ref a)])) tt_
    refine XS.lsub X0.here hEX rfl (hb hBY d_prog_59_method_9_code_60) rfl ?_
    exact kt_
  refine Done.pre sg_17 ?_
  obtain ⟨_, _, ⟨T_18, L_18, k_18, n_18⟩, -, X_18, ⟨Lc_18, hQ_18, l_18, y_18, z_18⟩, st_18⟩ := Jvm.LawKit.callS X0 hEX (y := (⟨"com/example/guard3/guard3/P384Field", "store", "([JJJJJJJJJ)V"⟩ : MethodName)) hOW (mvT hZW (hw _ (List.mem_of_getElem? (i := 20) rfl))) (mvT hZW (hw _ (List.mem_of_getElem? (i := 21) rfl))) (mvT hZW (hw _ (List.mem_of_getElem? (i := 18) rfl))) (mvT hZW (hw _ (List.mem_of_getElem? (i := 22) rfl))) (by decide) (backOf (W := 0) (rm_store l Z aZ hw [] a (u_a_0 - u_b_0) (u_a_1 - u_b_1) (u_a_2 - u_b_2) (u_a_3 - u_b_3) (u_a_4 - u_b_4) (u_a_5 - u_b_5) (u_a_6 - u_b_6) (u_a_7 - u_b_7) k_a u_a_0 u_a_1 u_a_2 u_a_3 u_a_4 u_a_5 u_a_6 u_a_7 h0 n0 (Nat.le_trans Z0 K0.1) A_a go (own_Rup _ _ _ _ _ _ _ _ _ _ (by decide) (own_subb 1125899906842624 (by decide) u_a_0 u_a_1 u_a_2 u_a_3 u_a_4 u_a_5 u_a_6 u_a_7 u_b_0 u_b_1 u_b_2 u_b_3 u_b_4 u_b_5 u_b_6 u_b_7 hRa hRb).1)) hZW (hw _ (List.mem_of_getElem? (i := 22) rfl)) (hw _ (List.mem_of_getElem? (i := 18) rfl)) (by decide) (by decide)) (g := (mkF m 61 #[Rv a, Rv b, Rv a] [(.long (u_a_7 - u_b_7)), (.long (u_a_6 - u_b_6)), (.long (u_a_5 - u_b_5)), (.long (u_a_4 - u_b_4)), (.long (u_a_3 - u_b_3)), (.long (u_a_2 - u_b_2)), (.long (u_a_1 - u_b_1)), (.long (u_a_0 - u_b_0)), (.ref a)])) rfl (by rw [hMX]; rfl) (argsL := [(.ref a), (.long (u_a_0 - u_b_0)), (.long (u_a_1 - u_b_1)), (.long (u_a_2 - u_b_2)), (.long (u_a_3 - u_b_3)), (.long (u_a_4 - u_b_4)), (.long (u_a_5 - u_b_5)), (.long (u_a_6 - u_b_6)), (.long (u_a_7 - u_b_7))]) (rest := []) (lenOf pd___JJJJJJJJJ_V_8 rfl) rfl (by show 2 * 0 + _ ≤ _; exact Nat.le_of_eq rfl) (hb hBY d_prog_59_method_9_code_61) (fun _ _ => ⟨rfl, e0, (by decide : 0 + 0 ≤ _), (by decide : 0 + 0 ≤ _)⟩)
  dsimp only [Pt.U, Pt.locs, Pt.cells, Pt.slots] at X_18 l_18 y_18 z_18 st_18 hQ_18
  subst l_18 y_18 z_18
  obtain ⟨r0__18, r1__18, r2__18, r3__18, r4__18, r5__18, r6__18, r7__18, rfl, N_18q, K_18, hq_18_0, hq_18_1, hq_18_2⟩ := hQ_18
  have N_18 := Fr.app N0 N_18q
  have K__19 : Keep h0 T_18.heap [a] := K0.trans K_18 (allS (Or.inl (List.mem_of_getElem? (i := 0) rfl)) all0)
  have f_20 : Arv Z T_18.heap b k_b .long (8 : Int32) [(.long u_b_0), (.long u_b_1), (.long u_b_2), (.long u_b_3), (.long u_b_4), (.long u_b_5), (.long u_b_6), (.long u_b_7)] (.long (0 : Int64)) := A_b.keep K_18 (ninS (Ne.symm ne_a_b) nin0)
  refine Done.pre (fun _ k_ => st_18 _ k_) ?_
  show Done _ _ _ _ _ _ _ (T_18.setTop (mkF m 64 #[Rv a, Rv b, Rv a] []))
  exact Done.retV X_18 hEX hLK hRT (hb hBY d_prog_59_method_9_code_64) (by exact ⟨r0__18, r1__18, r2__18, r3__18, r4__18, r5__18, r6__18, r7__18, rfl, N_18, K__19, hq_18_0, hq_18_1, (by have q := hq_18_2; rw [(own_subb 1125899906842624 (by decide) u_a_0 u_a_1 u_a_2 u_a_3 u_a_4 u_a_5 u_a_6 u_a_7 u_b_0 u_b_1 u_b_2 u_b_3 u_b_4 u_b_5 u_b_6 u_b_7 hRa hRb).2] at q; exact q)⟩) (by decide) (by decide)
theorem d_prog_59_method_15_code_0 : decode prog_59_method_15_code 0 = .ok (.lconst 0, 1) := by decide +kernel
theorem d_prog_59_method_15_code_1 : decode prog_59_method_15_code 1 = .ok (.lstore_n 1, 1) := by decide +kernel
theorem d_prog_59_method_15_code_2 : decode prog_59_method_15_code 2 = .ok (.iconst 0, 1) := by decide +kernel
theorem d_prog_59_method_15_code_3 : decode prog_59_method_15_code 3 = .ok (.istore_n 3, 1) := by decide +kernel
theorem d_prog_59_method_15_code_4 : decode prog_59_method_15_code 4 = .ok (.iload_n 3, 1) := by decide +kernel
theorem d_prog_59_method_15_code_5 : decode prog_59_method_15_code 5 = .ok (.bipush 8, 2) := by decide +kernel
theorem d_prog_59_method_15_code_7 : decode prog_59_method_15_code 7 = .ok (.if_icmp .ge 31, 3) := by decide +kernel
theorem d_prog_59_method_15_code_10 : decode prog_59_method_15_code 10 = .ok (.aload_n 0, 1) := by decide +kernel
theorem d_prog_59_method_15_code_11 : decode prog_59_method_15_code 11 = .ok (.iload_n 3, 1) := by decide +kernel
theorem d_prog_59_method_15_code_12 : decode prog_59_method_15_code 12 = .ok (.laload, 1) := by decide +kernel
theorem d_prog_59_method_15_code_13 : decode prog_59_method_15_code 13 = .ok (.lload_n 1, 1) := by decide +kernel
theorem d_prog_59_method_15_code_14 : decode prog_59_method_15_code 14 = .ok (.ladd, 1) := by decide +kernel
theorem d_prog_59_method_15_code_15 : decode prog_59_method_15_code 15 = .ok (.lstore 4, 2) := by decide +kernel
theorem d_prog_59_method_15_code_17 : decode prog_59_method_15_code 17 = .ok (.aload_n 0, 1) := by decide +kernel
theorem d_prog_59_method_15_code_18 : decode prog_59_method_15_code 18 = .ok (.iload_n 3, 1) := by decide +kernel
theorem d_prog_59_method_15_code_19 : decode prog_59_method_15_code 19 = .ok (.lload 4, 2) := by decide +kernel
theorem d_prog_59_method_15_code_21 : decode prog_59_method_15_code 21 = .ok (.ldc2_w 34, 3) := by decide +kernel
theorem d_prog_59_method_15_code_24 : decode prog_59_method_15_code 24 = .ok (.land, 1) := by decide +kernel
theorem d_prog_59_method_15_code_25 : decode prog_59_method_15_code 25 = .ok (.lastore, 1) := by decide +kernel
theorem d_prog_59_method_15_code_26 : decode prog_59_method_15_code 26 = .ok (.lload 4, 2) := by decide +kernel
theorem d_prog_59_method_15_code_28 : decode prog_59_method_15_code 28 = .ok (.bipush 48, 2) := by decide +kernel
theorem d_prog_59_method_15_code_30 : decode prog_59_method_15_code 30 = .ok (.lshr, 1) := by decide +kernel
theorem d_prog_59_method_15_code_31 : decode prog_59_method_15_code 31 = .ok (.lstore_n 1, 1) := by decide +kernel
theorem d_prog_59_method_15_code_32 : decode prog_59_method_15_code 32 = .ok (.iinc 3 1, 3) := by decide +kernel
theorem d_prog_59_method_15_code_35 : decode prog_59_method_15_code 35 = .ok (.goto (-31), 3) := by decide +kernel
theorem d_prog_59_method_15_code_38 : decode prog_59_method_15_code 38 = .ok (.lload_n 1, 1) := by decide +kernel
theorem d_prog_59_method_15_code_39 : decode prog_59_method_15_code 39 = .ok (.lreturn, 1) := by decide +kernel
def Qrm_prop (Z : State) (a : Addr) (k : ClassId) (x0 : Int64) (x1 : Int64) (x2 : Int64) (x3 : Int64) (x4 : Int64) (x5 : Int64) (x6 : Int64) (x7 : Int64) (h0 : Heap) (n0 : Nat) (v_ : Option Value) (h_ : Heap) (L_ : List Loc) : Prop := ∃ (y0 : Int64), ∃ (y1 : Int64), ∃ (y2 : Int64), ∃ (y3 : Int64), ∃ (y4 : Int64), ∃ (y5 : Int64), ∃ (y6 : Int64), ∃ (y7 : Int64), ∃ (cy : Int64), v_ = some (.long cy) ∧ Fr n0 L_ ∧ Keep h0 h_ [a] ∧ Arv Z h_ a k .long (8 : Int32) [(.long y0), (.long y1), (.long y2), (.long y3), (.long y4), (.long y5), (.long y6), (.long y7)] (.long (0 : Int64)) ∧ own_C y0 y1 y2 y3 y4 y5 y6 y7 ∧ own_W y0 y1 y2 y3 y4 y5 y6 y7 + cy.toInt * 39402006196394479212279040100143613805079739270465446667948293404245721771497210611414266254884915640806627990306816 = own_W x0 x1 x2 x3 x4 x5 x6 x7
theorem ef_rm_prop (m : MethodId) (x0 : Addr) : entryFrame m #[(.ref x0)] 6 = mkF m 0 #[.val (.ref x0), .unset, .unset, .unset, .unset, .unset] [] := by first | (simp [entryFrame, mkF, argsToLocals, Value.category]; done) | rfl
set_option maxRecDepth 65536 in
set_option maxHeartbeats 40000000 in
theorem rm_prop (l : Launch) (Z : State) (aZ : Array Value) (hw : ∀ d ∈ tables_1, d.before aZ Z = true) (ws : List Jvm.Cond) (a : Addr) (k : ClassId) (x0 : Int64) (x1 : Int64) (x2 : Int64) (x3 : Int64) (x4 : Int64) (x5 : Int64) (x6 : Int64) (x7 : Int64) (h0 : Heap) (n0 : Nat) (Z0 : n0 ≤ h0.size) (Aa : Arv Z h0 a k .long (8 : Int32) [(.long x0), (.long x1), (.long x2), (.long x3), (.long x4), (.long x5), (.long x6), (.long x7)] (.long (0 : Int64))) (ga : n0 ≤ a) (hR : own_R 4503599627370496 x0 x1 x2 x3 x4 x5 x6 x7) :
    MetFree l (⟨"com/example/guard3/guard3/P384Field", "propagate", "([J)J"⟩ : MethodName) (head1 (Jvm.Cond.code (⟨"com/example/guard3/guard3/P384Field", "propagate", "([J)J"⟩ : MethodName) prog_59_method_15_code 6 (some .long) :: ws) ({ frames := 0, cells := 0, slots := 0, locals := 0 } : Room)) (fun a_ U_ => a_ = #[(.ref a)] ∧ Z.Warmed39 U_.vm ∧ U_.heap = h0) (fun _ _ _ _ _ => True) (fun _ U_ o_ U2_ => ∃ v_ L_, o_ = .returned v_ ∧ Qrm_prop Z a k x0 x1 x2 x3 x4 x5 x6 x7 h0 n0 v_ U2_.heap L_ ∧ FrameEnd U_ o_ U2_ L_ ({ frames := 0, cells := 0, slots := 0, locals := 0 } : Room).cells ({ frames := 0, cells := 0, slots := 0, locals := 0 } : Room).slots) := by
  refine MetFree.of_bodySF (plainFor_of_name pn_com_example_guard3_guard3_P384Field) hisR ?_
  intro p e s m args below meth cO s₁ Bd hml0 hP hK
  obtain ⟨rfl, hZW, hh⟩ := hP
  have hEX := Bd.exec
  have hBY := Bd.bytes
  have hMX : cO.maxLocals = 6 := hml0
  have hOW : s.vm.findClass "com/example/guard3/guard3/P384Field" = some m.cls := findClass_of_methodNamed Bd.named
  have hNM := (name_of_methodNamed Bd.named Bd.method).1
  have hLK := Bd.notSynchronized
  have hRT := Bd.returns
  have X0 : Stand p l e ({ frames := 0, cells := 0, slots := 0, locals := 0 } : Room) s m #[(.ref a)] below meth cO s₁ [] 0 0 := Stand.of_body Bd
  have e0 : s₁.heap = h0 := by rw [← hh, Bd.state]; rfl
  have N0 := Fr.nil n0
  have K0 : Keep h0 h0 [a] := Keep.refl _ _
  show Done p e below s (Qrm_prop Z a k x0 x1 x2 x3 x4 x5 x6 x7 h0 n0) ({ frames := 0, cells := 0, slots := 0, locals := 0 } : Room).cells ({ frames := 0, cells := 0, slots := 0, locals := 0 } : Room).slots (s₁.setTop (entryFrame m #[(.ref a)] 6))
  refine Done.pre (fun t_ k_ => castTop (ef_rm_prop m a) k_) ?_
  show Done _ _ _ _ _ _ _ (s₁.setTop (mkF m 0 #[Rv a, Us, Us, Us, Us, Us] []))
  obtain ⟨cl_1, Ar_1, q_1, S_1, N__1, H_1, G_1⟩ := id Aa
  have hin_1 : ¬ ((0 : Int32) < 0 ∨ cl_1.slots.size ≤ ((0 : Int32)).toNatClampNeg) := inb_of S_1 ⟨by decide, by decide⟩
  have hat_1 : cl_1.slots[((0 : Int32)).toNatClampNeg]? = some (.long x0) := H_1.at hin_1 rfl
  have sg_2 : ∀ tt_, Steps p.tables e below (s₁.setTop (mkF m 15 #[Rv a, Lv (0 : Int64), Zs, Iv (0 : Int32), Us, Us] [(.long (x0 + (0 : Int64)))])) tt_ → Steps p.tables e below (s₁.setTop (mkF m 0 #[Rv a, Us, Us, Us, Us, Us] [])) tt_ := by
    intro tt_ kt_
    refine XS.lconst X0.here hEX rfl (hb hBY d_prog_59_method_15_code_0) ?_
    show Steps p.tables e below (s₁.setTop (mkF m 1 #[Rv a, Us, Us, Us, Us, Us] [(.long (0 : Int64))])) tt_
    refine XS.lstoreN X0.here hEX rfl (hb hBY d_prog_59_method_15_code_1) rfl (l' := #[Rv a, Lv (0 : Int64), Zs, Us, Us, Us]) rfl ?_
    show Steps p.tables e below (s₁.setTop (mkF m 2 #[Rv a, Lv (0 : Int64), Zs, Us, Us, Us] [])) tt_
    refine XS.iconst X0.here hEX rfl (hb hBY d_prog_59_method_15_code_2) ?_
    show Steps p.tables e below (s₁.setTop (mkF m 3 #[Rv a, Lv (0 : Int64), Zs, Us, Us, Us] [(.int (0 : Int32))])) tt_
    refine XS.istoreN X0.here hEX rfl (hb hBY d_prog_59_method_15_code_3) rfl (l' := #[Rv a, Lv (0 : Int64), Zs, Iv (0 : Int32), Us, Us]) rfl ?_
    show Steps p.tables e below (s₁.setTop (mkF m 4 #[Rv a, Lv (0 : Int64), Zs, Iv (0 : Int32), Us, Us] [])) tt_
    refine XS.iloadN X0.here hEX rfl (hb hBY d_prog_59_method_15_code_4) rfl ?_
    show Steps p.tables e below (s₁.setTop (mkF m 5 #[Rv a, Lv (0 : Int64), Zs, Iv (0 : Int32), Us, Us] [(.int (0 : Int32))])) tt_
    refine XS.bipush X0.here hEX rfl (hb hBY d_prog_59_method_15_code_5) ?_
    show Steps p.tables e below (s₁.setTop (mkF m 7 #[Rv a, Lv (0 : Int64), Zs, Iv (0 : Int32), Us, Us] [(.int (8 : Int32)), (.int (0 : Int32))])) tt_
    refine XS.icmpNo X0.here hEX rfl (hb hBY d_prog_59_method_15_code_7) rfl (tlt (by decide : (0 : Int32) < (8 : Int32))).2.1 ?_
    show Steps p.tables e below (s₁.setTop (mkF m 10 #[Rv a, Lv (0 : Int64), Zs, Iv (0 : Int32), Us, Us] [])) tt_
    refine XS.aloadN X0.here hEX rfl (hb hBY d_prog_59_method_15_code_10) rfl rfl ?_
    show Steps p.tables e below (s₁.setTop (mkF m 11 #[Rv a, Lv (0 : Int64), Zs, Iv (0 : Int32), Us, Us] [(.ref a)])) tt_
    refine XS.iloadN X0.here hEX rfl (hb hBY d_prog_59_method_15_code_11) rfl ?_
    show Steps p.tables e below (s₁.setTop (mkF m 12 #[Rv a, Lv (0 : Int64), Zs, Iv (0 : Int32), Us, Us] [(.int (0 : Int32)), (.ref a)])) tt_
    refine X0.laload hEX (j := (0 : Int32)) (v := (.long x0)) (by rw [e0]; exact Ar_1.1) (State.isArrayOf_alike hZW.alike Ar_1.2.1) Ar_1.2.2 hin_1 hat_1 (g := (mkF m 12 #[Rv a, Lv (0 : Int64), Zs, Iv (0 : Int32), Us, Us] [(.int (0 : Int32)), (.ref a)])) rfl rfl (hb hBY d_prog_59_method_15_code_12) _ ?_
    show Steps p.tables e below (s₁.setTop (mkF m 13 #[Rv a, Lv (0 : Int64), Zs, Iv (0 : Int32), Us, Us] [(.long x0)])) tt_
    refine XS.lloadN X0.here hEX rfl (hb hBY d_prog_59_method_15_code_13) rfl ?_
    show Steps p.tables e below (s₁.setTop (mkF m 14 #[Rv a, Lv (0 : Int64), Zs, Iv (0 : Int32), Us, Us] [(.long (0 : Int64)), (.long x0)])) tt_
    refine XS.ladd X0.here hEX rfl (hb hBY d_prog_59_method_15_code_14) rfl ?_
    exact kt_
  refine Done.pre sg_2 ?_
  show Done _ _ _ _ _ _ _ (s₁.setTop (mkF m 15 #[Rv a, Lv (0 : Int64), Zs, Iv (0 : Int32), Us, Us] [(.long (x0 + (0 : Int64)))]))
  obtain ⟨t0, ht0⟩ : ∃ z : Int64, z = (x0 + (0 : Int64)) := ⟨_, rfl⟩
  rw [← ht0]
  show Done _ _ _ _ _ _ _ (s₁.setTop (mkF m 15 #[Rv a, Lv (0 : Int64), Zs, Iv (0 : Int32), Us, Us] [(.long t0)]))
  have sg_4 : ∀ tt_, Steps p.tables e below (s₁.setTop (mkF m 25 #[Rv a, Lv (0 : Int64), Zs, Iv (0 : Int32), Lv t0, Zs] [(.long (t0 &&& (281474976710655 : Int64))), (.int (0 : Int32)), (.ref a)])) tt_ → Steps p.tables e below (s₁.setTop (mkF m 15 #[Rv a, Lv (0 : Int64), Zs, Iv (0 : Int32), Us, Us] [(.long t0)])) tt_ := by
    intro tt_ kt_
    refine XS.lstore X0.here hEX rfl (hb hBY d_prog_59_method_15_code_15) rfl (l' := #[Rv a, Lv (0 : Int64), Zs, Iv (0 : Int32), Lv t0, Zs]) rfl ?_
    show Steps p.tables e below (s₁.setTop (mkF m 17 #[Rv a, Lv (0 : Int64), Zs, Iv (0 : Int32), Lv t0, Zs] [])) tt_
    refine XS.aloadN X0.here hEX rfl (hb hBY d_prog_59_method_15_code_17) rfl rfl ?_
    show Steps p.tables e below (s₁.setTop (mkF m 18 #[Rv a, Lv (0 : Int64), Zs, Iv (0 : Int32), Lv t0, Zs] [(.ref a)])) tt_
    refine XS.iloadN X0.here hEX rfl (hb hBY d_prog_59_method_15_code_18) rfl ?_
    show Steps p.tables e below (s₁.setTop (mkF m 19 #[Rv a, Lv (0 : Int64), Zs, Iv (0 : Int32), Lv t0, Zs] [(.int (0 : Int32)), (.ref a)])) tt_
    refine XS.lload X0.here hEX rfl (hb hBY d_prog_59_method_15_code_19) rfl ?_
    show Steps p.tables e below (s₁.setTop (mkF m 21 #[Rv a, Lv (0 : Int64), Zs, Iv (0 : Int32), Lv t0, Zs] [(.long t0), (.int (0 : Int32)), (.ref a)])) tt_
    refine X0.ldc2Long hEX hOW (mvT hZW (hw _ (List.mem_of_getElem? (i := 23) rfl))) (g := (mkF m 21 #[Rv a, Lv (0 : Int64), Zs, Iv (0 : Int32), Lv t0, Zs] [(.long t0), (.int (0 : Int32)), (.ref a)])) rfl (hb hBY d_prog_59_method_15_code_21) _ ?_
    show Steps p.tables e below (s₁.setTop (mkF m 24 #[Rv a, Lv (0 : Int64), Zs, Iv (0 : Int32), Lv t0, Zs] [(.long (281474976710655 : Int64)), (.long t0), (.int (0 : Int32)), (.ref a)])) tt_
    refine XS.land X0.here hEX rfl (hb hBY d_prog_59_method_15_code_24) rfl ?_
    exact kt_
  refine Done.pre sg_4 ?_
  obtain ⟨cl_3, Ar_3, q_3, S_3, N__3, H_3, G_3⟩ := id Aa
  have hin_3 : ¬ ((0 : Int32) < 0 ∨ cl_3.slots.size ≤ ((0 : Int32)).toNatClampNeg) := inb_of S_3 ⟨by decide, by decide⟩
  obtain ⟨T_5, h_5, X_5, e_5, W_5, st_5⟩ := stJ X0 hEX hZW e0 Ar_3 (j := (0 : Int32)) hin_3 (g := (mkF m 25 #[Rv a, Lv (0 : Int64), Zs, Iv (0 : Int32), Lv t0, Zs] [(.long (t0 &&& (281474976710655 : Int64))), (.int (0 : Int32)), (.ref a)])) rfl rfl (hb hBY d_prog_59_method_15_code_25)
  have N_5 := Fr.snoc X_5 N0 ga
  have K__6 : Keep h0 h_5 [a] := K0.wr W_5 (Or.inl (List.mem_of_getElem? (i := 0) rfl))
  have f_7 : Arv Z h_5 a k .long (8 : Int32) [(.long (t0 &&& (281474976710655 : Int64))), (.long x1), (.long x2), (.long x3), (.long x4), (.long x5), (.long x6), (.long x7)] (.long (0 : Int64)) := Arv.set Ar_3 q_3 S_3 N__3 H_3 G_3 rfl W_5 0 rfl (Nat.le_of_ble_eq_true rfl)
  refine Done.pre st_5 ?_
  show Done _ _ _ _ _ _ _ (T_5.setTop (mkF m 26 #[Rv a, Lv (0 : Int64), Zs, Iv (0 : Int32), Lv t0, Zs] []))
  obtain ⟨cl_8, Ar_8, q_8, S_8, N__8, H_8, G_8⟩ := id f_7
  have hin_8 : ¬ ((1 : Int32) < 0 ∨ cl_8.slots.size ≤ ((1 : Int32)).toNatClampNeg) := inb_of S_8 ⟨by decide, by decide⟩
  have hat_8 : cl_8.slots[((1 : Int32)).toNatClampNeg]? = some (.long x1) := H_8.at hin_8 rfl
  have sg_9 : ∀ tt_, Steps p.tables e below (T_5.setTop (mkF m 15 #[Rv a, Lv (t0 >>> ((48 : Int32) &&& 0x3f).toInt64), Zs, Iv (1 : Int32), Lv t0, Zs] [(.long (x1 + (t0 >>> ((48 : Int32) &&& 0x3f).toInt64)))])) tt_ → Steps p.tables e below (T_5.setTop (mkF m 26 #[Rv a, Lv (0 : Int64), Zs, Iv (0 : Int32), Lv t0, Zs] [])) tt_ := by
    intro tt_ kt_
    refine XS.lload X_5.here hEX rfl (hb hBY d_prog_59_method_15_code_26) rfl ?_
    show Steps p.tables e below (T_5.setTop (mkF m 28 #[Rv a, Lv (0 : Int64), Zs, Iv (0 : Int32), Lv t0, Zs] [(.long t0)])) tt_
    refine XS.bipush X_5.here hEX rfl (hb hBY d_prog_59_method_15_code_28) ?_
    show Steps p.tables e below (T_5.setTop (mkF m 30 #[Rv a, Lv (0 : Int64), Zs, Iv (0 : Int32), Lv t0, Zs] [(.int (48 : Int32)), (.long t0)])) tt_
    refine XS.lshr X_5.here hEX rfl (hb hBY d_prog_59_method_15_code_30) rfl ?_
    show Steps p.tables e below (T_5.setTop (mkF m 31 #[Rv a, Lv (0 : Int64), Zs, Iv (0 : Int32), Lv t0, Zs] [(.long (t0 >>> ((48 : Int32) &&& 0x3f).toInt64))])) tt_
    refine XS.lstoreN X_5.here hEX rfl (hb hBY d_prog_59_method_15_code_31) rfl (l' := #[Rv a, Lv (t0 >>> ((48 : Int32) &&& 0x3f).toInt64), Zs, Iv (0 : Int32), Lv t0, Zs]) rfl ?_
    show Steps p.tables e below (T_5.setTop (mkF m 32 #[Rv a, Lv (t0 >>> ((48 : Int32) &&& 0x3f).toInt64), Zs, Iv (0 : Int32), Lv t0, Zs] [])) tt_
    refine XS.iinc X_5.here hEX rfl (hb hBY d_prog_59_method_15_code_32) rfl (l' := #[Rv a, Lv (t0 >>> ((48 : Int32) &&& 0x3f).toInt64), Zs, Iv (1 : Int32), Lv t0, Zs]) rfl ?_
    show Steps p.tables e below (T_5.setTop (mkF m 35 #[Rv a, Lv (t0 >>> ((48 : Int32) &&& 0x3f).toInt64), Zs, Iv (1 : Int32), Lv t0, Zs] [])) tt_
    refine XS.goto X_5.here hEX rfl (pc0 := 35) (pc' := 4) rfl (hb hBY d_prog_59_method_15_code_35) (by decide) (by decide) ?_
    show Steps p.tables e below (T_5.setTop (mkF m 4 #[Rv a, Lv (t0 >>> ((48 : Int32) &&& 0x3f).toInt64), Zs, Iv (1 : Int32), Lv t0, Zs] [])) tt_
    refine XS.iloadN X_5.here hEX rfl (hb hBY d_prog_59_method_15_code_4) rfl ?_
    show Steps p.tables e below (T_5.setTop (mkF m 5 #[Rv a, Lv (t0 >>> ((48 : Int32) &&& 0x3f).toInt64), Zs, Iv (1 : Int32), Lv t0, Zs] [(.int (1 : Int32))])) tt_
    refine XS.bipush X_5.here hEX rfl (hb hBY d_prog_59_method_15_code_5) ?_
    show Steps p.tables e below (T_5.setTop (mkF m 7 #[Rv a, Lv (t0 >>> ((48 : Int32) &&& 0x3f).toInt64), Zs, Iv (1 : Int32), Lv t0, Zs] [(.int (8 : Int32)), (.int (1 : Int32))])) tt_
    refine XS.icmpNo X_5.here hEX rfl (hb hBY d_prog_59_method_15_code_7) rfl (tlt (by decide : (1 : Int32) < (8 : Int32))).2.1 ?_
    show Steps p.tables e below (T_5.setTop (mkF m 10 #[Rv a, Lv (t0 >>> ((48 : Int32) &&& 0x3f).toInt64), Zs, Iv (1 : Int32), Lv t0, Zs] [])) tt_
    refine XS.aloadN X_5.here hEX rfl (hb hBY d_prog_59_method_15_code_10) rfl rfl ?_
    show Steps p.tables e below (T_5.setTop (mkF m 11 #[Rv a, Lv (t0 >>> ((48 : Int32) &&& 0x3f).toInt64), Zs, Iv (1 : Int32), Lv t0, Zs] [(.ref a)])) tt_
    refine XS.iloadN X_5.here hEX rfl (hb hBY d_prog_59_method_15_code_11) rfl ?_
    show Steps p.tables e below (T_5.setTop (mkF m 12 #[Rv a, Lv (t0 >>> ((48 : Int32) &&& 0x3f).toInt64), Zs, Iv (1 : Int32), Lv t0, Zs] [(.int (1 : Int32)), (.ref a)])) tt_
    refine X_5.laload hEX (j := (1 : Int32)) (v := (.long x1)) (by rw [e_5]; exact Ar_8.1) (State.isArrayOf_alike hZW.alike Ar_8.2.1) Ar_8.2.2 hin_8 hat_8 (g := (mkF m 12 #[Rv a, Lv (t0 >>> ((48 : Int32) &&& 0x3f).toInt64), Zs, Iv (1 : Int32), Lv t0, Zs] [(.int (1 : Int32)), (.ref a)])) rfl rfl (hb hBY d_prog_59_method_15_code_12) _ ?_
    show Steps p.tables e below (T_5.setTop (mkF m 13 #[Rv a, Lv (t0 >>> ((48 : Int32) &&& 0x3f).toInt64), Zs, Iv (1 : Int32), Lv t0, Zs] [(.long x1)])) tt_
    refine XS.lloadN X_5.here hEX rfl (hb hBY d_prog_59_method_15_code_13) rfl ?_
    show Steps p.tables e below (T_5.setTop (mkF m 14 #[Rv a, Lv (t0 >>> ((48 : Int32) &&& 0x3f).toInt64), Zs, Iv (1 : Int32), Lv t0, Zs] [(.long (t0 >>> ((48 : Int32) &&& 0x3f).toInt64)), (.long x1)])) tt_
    refine XS.ladd X_5.here hEX rfl (hb hBY d_prog_59_method_15_code_14) rfl ?_
    exact kt_
  refine Done.pre sg_9 ?_
  show Done _ _ _ _ _ _ _ (T_5.setTop (mkF m 15 #[Rv a, Lv (t0 >>> ((48 : Int32) &&& 0x3f).toInt64), Zs, Iv (1 : Int32), Lv t0, Zs] [(.long (x1 + (t0 >>> ((48 : Int32) &&& 0x3f).toInt64)))]))
  obtain ⟨t1, ht1⟩ : ∃ z : Int64, z = (x1 + (t0 >>> ((48 : Int32) &&& 0x3f).toInt64)) := ⟨_, rfl⟩
  rw [← ht1]
  show Done _ _ _ _ _ _ _ (T_5.setTop (mkF m 15 #[Rv a, Lv (t0 >>> ((48 : Int32) &&& 0x3f).toInt64), Zs, Iv (1 : Int32), Lv t0, Zs] [(.long t1)]))
  have sg_11 : ∀ tt_, Steps p.tables e below (T_5.setTop (mkF m 25 #[Rv a, Lv (t0 >>> ((48 : Int32) &&& 0x3f).toInt64), Zs, Iv (1 : Int32), Lv t1, Zs] [(.long (t1 &&& (281474976710655 : Int64))), (.int (1 : Int32)), (.ref a)])) tt_ → Steps p.tables e below (T_5.setTop (mkF m 15 #[Rv a, Lv (t0 >>> ((48 : Int32) &&& 0x3f).toInt64), Zs, Iv (1 : Int32), Lv t0, Zs] [(.long t1)])) tt_ := by
    intro tt_ kt_
    refine XS.lstore X_5.here hEX rfl (hb hBY d_prog_59_method_15_code_15) rfl (l' := #[Rv a, Lv (t0 >>> ((48 : Int32) &&& 0x3f).toInt64), Zs, Iv (1 : Int32), Lv t1, Zs]) rfl ?_
    show Steps p.tables e below (T_5.setTop (mkF m 17 #[Rv a, Lv (t0 >>> ((48 : Int32) &&& 0x3f).toInt64), Zs, Iv (1 : Int32), Lv t1, Zs] [])) tt_
    refine XS.aloadN X_5.here hEX rfl (hb hBY d_prog_59_method_15_code_17) rfl rfl ?_
    show Steps p.tables e below (T_5.setTop (mkF m 18 #[Rv a, Lv (t0 >>> ((48 : Int32) &&& 0x3f).toInt64), Zs, Iv (1 : Int32), Lv t1, Zs] [(.ref a)])) tt_
    refine XS.iloadN X_5.here hEX rfl (hb hBY d_prog_59_method_15_code_18) rfl ?_
    show Steps p.tables e below (T_5.setTop (mkF m 19 #[Rv a, Lv (t0 >>> ((48 : Int32) &&& 0x3f).toInt64), Zs, Iv (1 : Int32), Lv t1, Zs] [(.int (1 : Int32)), (.ref a)])) tt_
    refine XS.lload X_5.here hEX rfl (hb hBY d_prog_59_method_15_code_19) rfl ?_
    show Steps p.tables e below (T_5.setTop (mkF m 21 #[Rv a, Lv (t0 >>> ((48 : Int32) &&& 0x3f).toInt64), Zs, Iv (1 : Int32), Lv t1, Zs] [(.long t1), (.int (1 : Int32)), (.ref a)])) tt_
    refine X_5.ldc2Long hEX hOW (mvT hZW (hw _ (List.mem_of_getElem? (i := 23) rfl))) (g := (mkF m 21 #[Rv a, Lv (t0 >>> ((48 : Int32) &&& 0x3f).toInt64), Zs, Iv (1 : Int32), Lv t1, Zs] [(.long t1), (.int (1 : Int32)), (.ref a)])) rfl (hb hBY d_prog_59_method_15_code_21) _ ?_
    show Steps p.tables e below (T_5.setTop (mkF m 24 #[Rv a, Lv (t0 >>> ((48 : Int32) &&& 0x3f).toInt64), Zs, Iv (1 : Int32), Lv t1, Zs] [(.long (281474976710655 : Int64)), (.long t1), (.int (1 : Int32)), (.ref a)])) tt_
    refine XS.land X_5.here hEX rfl (hb hBY d_prog_59_method_15_code_24) rfl ?_
    exact kt_
  refine Done.pre sg_11 ?_
  obtain ⟨cl_10, Ar_10, q_10, S_10, N__10, H_10, G_10⟩ := id f_7
  have hin_10 : ¬ ((1 : Int32) < 0 ∨ cl_10.slots.size ≤ ((1 : Int32)).toNatClampNeg) := inb_of S_10 ⟨by decide, by decide⟩
  obtain ⟨T_12, h_12, X_12, e_12, W_12, st_12⟩ := stJ X_5 hEX hZW e_5 Ar_10 (j := (1 : Int32)) hin_10 (g := (mkF m 25 #[Rv a, Lv (t0 >>> ((48 : Int32) &&& 0x3f).toInt64), Zs, Iv (1 : Int32), Lv t1, Zs] [(.long (t1 &&& (281474976710655 : Int64))), (.int (1 : Int32)), (.ref a)])) rfl rfl (hb hBY d_prog_59_method_15_code_25)
  have N_12 := Fr.snoc X_12 N_5 ga
  have K__13 : Keep h0 h_12 [a] := K__6.wr W_12 (Or.inl (List.mem_of_getElem? (i := 0) rfl))
  have f_14 : Arv Z h_12 a k .long (8 : Int32) [(.long (t0 &&& (281474976710655 : Int64))), (.long (t1 &&& (281474976710655 : Int64))), (.long x2), (.long x3), (.long x4), (.long x5), (.long x6), (.long x7)] (.long (0 : Int64)) := Arv.set Ar_10 q_10 S_10 N__10 H_10 G_10 rfl W_12 1 rfl (Nat.le_of_ble_eq_true rfl)
  refine Done.pre st_12 ?_
  show Done _ _ _ _ _ _ _ (T_12.setTop (mkF m 26 #[Rv a, Lv (t0 >>> ((48 : Int32) &&& 0x3f).toInt64), Zs, Iv (1 : Int32), Lv t1, Zs] []))
  obtain ⟨cl_15, Ar_15, q_15, S_15, N__15, H_15, G_15⟩ := id f_14
  have hin_15 : ¬ ((2 : Int32) < 0 ∨ cl_15.slots.size ≤ ((2 : Int32)).toNatClampNeg) := inb_of S_15 ⟨by decide, by decide⟩
  have hat_15 : cl_15.slots[((2 : Int32)).toNatClampNeg]? = some (.long x2) := H_15.at hin_15 rfl
  have sg_16 : ∀ tt_, Steps p.tables e below (T_12.setTop (mkF m 15 #[Rv a, Lv (t1 >>> ((48 : Int32) &&& 0x3f).toInt64), Zs, Iv (2 : Int32), Lv t1, Zs] [(.long (x2 + (t1 >>> ((48 : Int32) &&& 0x3f).toInt64)))])) tt_ → Steps p.tables e below (T_12.setTop (mkF m 26 #[Rv a, Lv (t0 >>> ((48 : Int32) &&& 0x3f).toInt64), Zs, Iv (1 : Int32), Lv t1, Zs] [])) tt_ := by
    intro tt_ kt_
    refine XS.lload X_12.here hEX rfl (hb hBY d_prog_59_method_15_code_26) rfl ?_
    show Steps p.tables e below (T_12.setTop (mkF m 28 #[Rv a, Lv (t0 >>> ((48 : Int32) &&& 0x3f).toInt64), Zs, Iv (1 : Int32), Lv t1, Zs] [(.long t1)])) tt_
    refine XS.bipush X_12.here hEX rfl (hb hBY d_prog_59_method_15_code_28) ?_
    show Steps p.tables e below (T_12.setTop (mkF m 30 #[Rv a, Lv (t0 >>> ((48 : Int32) &&& 0x3f).toInt64), Zs, Iv (1 : Int32), Lv t1, Zs] [(.int (48 : Int32)), (.long t1)])) tt_
    refine XS.lshr X_12.here hEX rfl (hb hBY d_prog_59_method_15_code_30) rfl ?_
    show Steps p.tables e below (T_12.setTop (mkF m 31 #[Rv a, Lv (t0 >>> ((48 : Int32) &&& 0x3f).toInt64), Zs, Iv (1 : Int32), Lv t1, Zs] [(.long (t1 >>> ((48 : Int32) &&& 0x3f).toInt64))])) tt_
    refine XS.lstoreN X_12.here hEX rfl (hb hBY d_prog_59_method_15_code_31) rfl (l' := #[Rv a, Lv (t1 >>> ((48 : Int32) &&& 0x3f).toInt64), Zs, Iv (1 : Int32), Lv t1, Zs]) rfl ?_
    show Steps p.tables e below (T_12.setTop (mkF m 32 #[Rv a, Lv (t1 >>> ((48 : Int32) &&& 0x3f).toInt64), Zs, Iv (1 : Int32), Lv t1, Zs] [])) tt_
    refine XS.iinc X_12.here hEX rfl (hb hBY d_prog_59_method_15_code_32) rfl (l' := #[Rv a, Lv (t1 >>> ((48 : Int32) &&& 0x3f).toInt64), Zs, Iv (2 : Int32), Lv t1, Zs]) rfl ?_
    show Steps p.tables e below (T_12.setTop (mkF m 35 #[Rv a, Lv (t1 >>> ((48 : Int32) &&& 0x3f).toInt64), Zs, Iv (2 : Int32), Lv t1, Zs] [])) tt_
    refine XS.goto X_12.here hEX rfl (pc0 := 35) (pc' := 4) rfl (hb hBY d_prog_59_method_15_code_35) (by decide) (by decide) ?_
    show Steps p.tables e below (T_12.setTop (mkF m 4 #[Rv a, Lv (t1 >>> ((48 : Int32) &&& 0x3f).toInt64), Zs, Iv (2 : Int32), Lv t1, Zs] [])) tt_
    refine XS.iloadN X_12.here hEX rfl (hb hBY d_prog_59_method_15_code_4) rfl ?_
    show Steps p.tables e below (T_12.setTop (mkF m 5 #[Rv a, Lv (t1 >>> ((48 : Int32) &&& 0x3f).toInt64), Zs, Iv (2 : Int32), Lv t1, Zs] [(.int (2 : Int32))])) tt_
    refine XS.bipush X_12.here hEX rfl (hb hBY d_prog_59_method_15_code_5) ?_
    show Steps p.tables e below (T_12.setTop (mkF m 7 #[Rv a, Lv (t1 >>> ((48 : Int32) &&& 0x3f).toInt64), Zs, Iv (2 : Int32), Lv t1, Zs] [(.int (8 : Int32)), (.int (2 : Int32))])) tt_
    refine XS.icmpNo X_12.here hEX rfl (hb hBY d_prog_59_method_15_code_7) rfl (tlt (by decide : (2 : Int32) < (8 : Int32))).2.1 ?_
    show Steps p.tables e below (T_12.setTop (mkF m 10 #[Rv a, Lv (t1 >>> ((48 : Int32) &&& 0x3f).toInt64), Zs, Iv (2 : Int32), Lv t1, Zs] [])) tt_
    refine XS.aloadN X_12.here hEX rfl (hb hBY d_prog_59_method_15_code_10) rfl rfl ?_
    show Steps p.tables e below (T_12.setTop (mkF m 11 #[Rv a, Lv (t1 >>> ((48 : Int32) &&& 0x3f).toInt64), Zs, Iv (2 : Int32), Lv t1, Zs] [(.ref a)])) tt_
    refine XS.iloadN X_12.here hEX rfl (hb hBY d_prog_59_method_15_code_11) rfl ?_
    show Steps p.tables e below (T_12.setTop (mkF m 12 #[Rv a, Lv (t1 >>> ((48 : Int32) &&& 0x3f).toInt64), Zs, Iv (2 : Int32), Lv t1, Zs] [(.int (2 : Int32)), (.ref a)])) tt_
    refine X_12.laload hEX (j := (2 : Int32)) (v := (.long x2)) (by rw [e_12]; exact Ar_15.1) (State.isArrayOf_alike hZW.alike Ar_15.2.1) Ar_15.2.2 hin_15 hat_15 (g := (mkF m 12 #[Rv a, Lv (t1 >>> ((48 : Int32) &&& 0x3f).toInt64), Zs, Iv (2 : Int32), Lv t1, Zs] [(.int (2 : Int32)), (.ref a)])) rfl rfl (hb hBY d_prog_59_method_15_code_12) _ ?_
    show Steps p.tables e below (T_12.setTop (mkF m 13 #[Rv a, Lv (t1 >>> ((48 : Int32) &&& 0x3f).toInt64), Zs, Iv (2 : Int32), Lv t1, Zs] [(.long x2)])) tt_
    refine XS.lloadN X_12.here hEX rfl (hb hBY d_prog_59_method_15_code_13) rfl ?_
    show Steps p.tables e below (T_12.setTop (mkF m 14 #[Rv a, Lv (t1 >>> ((48 : Int32) &&& 0x3f).toInt64), Zs, Iv (2 : Int32), Lv t1, Zs] [(.long (t1 >>> ((48 : Int32) &&& 0x3f).toInt64)), (.long x2)])) tt_
    refine XS.ladd X_12.here hEX rfl (hb hBY d_prog_59_method_15_code_14) rfl ?_
    exact kt_
  refine Done.pre sg_16 ?_
  show Done _ _ _ _ _ _ _ (T_12.setTop (mkF m 15 #[Rv a, Lv (t1 >>> ((48 : Int32) &&& 0x3f).toInt64), Zs, Iv (2 : Int32), Lv t1, Zs] [(.long (x2 + (t1 >>> ((48 : Int32) &&& 0x3f).toInt64)))]))
  obtain ⟨t2, ht2⟩ : ∃ z : Int64, z = (x2 + (t1 >>> ((48 : Int32) &&& 0x3f).toInt64)) := ⟨_, rfl⟩
  rw [← ht2]
  show Done _ _ _ _ _ _ _ (T_12.setTop (mkF m 15 #[Rv a, Lv (t1 >>> ((48 : Int32) &&& 0x3f).toInt64), Zs, Iv (2 : Int32), Lv t1, Zs] [(.long t2)]))
  have sg_18 : ∀ tt_, Steps p.tables e below (T_12.setTop (mkF m 25 #[Rv a, Lv (t1 >>> ((48 : Int32) &&& 0x3f).toInt64), Zs, Iv (2 : Int32), Lv t2, Zs] [(.long (t2 &&& (281474976710655 : Int64))), (.int (2 : Int32)), (.ref a)])) tt_ → Steps p.tables e below (T_12.setTop (mkF m 15 #[Rv a, Lv (t1 >>> ((48 : Int32) &&& 0x3f).toInt64), Zs, Iv (2 : Int32), Lv t1, Zs] [(.long t2)])) tt_ := by
    intro tt_ kt_
    refine XS.lstore X_12.here hEX rfl (hb hBY d_prog_59_method_15_code_15) rfl (l' := #[Rv a, Lv (t1 >>> ((48 : Int32) &&& 0x3f).toInt64), Zs, Iv (2 : Int32), Lv t2, Zs]) rfl ?_
    show Steps p.tables e below (T_12.setTop (mkF m 17 #[Rv a, Lv (t1 >>> ((48 : Int32) &&& 0x3f).toInt64), Zs, Iv (2 : Int32), Lv t2, Zs] [])) tt_
    refine XS.aloadN X_12.here hEX rfl (hb hBY d_prog_59_method_15_code_17) rfl rfl ?_
    show Steps p.tables e below (T_12.setTop (mkF m 18 #[Rv a, Lv (t1 >>> ((48 : Int32) &&& 0x3f).toInt64), Zs, Iv (2 : Int32), Lv t2, Zs] [(.ref a)])) tt_
    refine XS.iloadN X_12.here hEX rfl (hb hBY d_prog_59_method_15_code_18) rfl ?_
    show Steps p.tables e below (T_12.setTop (mkF m 19 #[Rv a, Lv (t1 >>> ((48 : Int32) &&& 0x3f).toInt64), Zs, Iv (2 : Int32), Lv t2, Zs] [(.int (2 : Int32)), (.ref a)])) tt_
    refine XS.lload X_12.here hEX rfl (hb hBY d_prog_59_method_15_code_19) rfl ?_
    show Steps p.tables e below (T_12.setTop (mkF m 21 #[Rv a, Lv (t1 >>> ((48 : Int32) &&& 0x3f).toInt64), Zs, Iv (2 : Int32), Lv t2, Zs] [(.long t2), (.int (2 : Int32)), (.ref a)])) tt_
    refine X_12.ldc2Long hEX hOW (mvT hZW (hw _ (List.mem_of_getElem? (i := 23) rfl))) (g := (mkF m 21 #[Rv a, Lv (t1 >>> ((48 : Int32) &&& 0x3f).toInt64), Zs, Iv (2 : Int32), Lv t2, Zs] [(.long t2), (.int (2 : Int32)), (.ref a)])) rfl (hb hBY d_prog_59_method_15_code_21) _ ?_
    show Steps p.tables e below (T_12.setTop (mkF m 24 #[Rv a, Lv (t1 >>> ((48 : Int32) &&& 0x3f).toInt64), Zs, Iv (2 : Int32), Lv t2, Zs] [(.long (281474976710655 : Int64)), (.long t2), (.int (2 : Int32)), (.ref a)])) tt_
    refine XS.land X_12.here hEX rfl (hb hBY d_prog_59_method_15_code_24) rfl ?_
    exact kt_
  refine Done.pre sg_18 ?_
  obtain ⟨cl_17, Ar_17, q_17, S_17, N__17, H_17, G_17⟩ := id f_14
  have hin_17 : ¬ ((2 : Int32) < 0 ∨ cl_17.slots.size ≤ ((2 : Int32)).toNatClampNeg) := inb_of S_17 ⟨by decide, by decide⟩
  obtain ⟨T_19, h_19, X_19, e_19, W_19, st_19⟩ := stJ X_12 hEX hZW e_12 Ar_17 (j := (2 : Int32)) hin_17 (g := (mkF m 25 #[Rv a, Lv (t1 >>> ((48 : Int32) &&& 0x3f).toInt64), Zs, Iv (2 : Int32), Lv t2, Zs] [(.long (t2 &&& (281474976710655 : Int64))), (.int (2 : Int32)), (.ref a)])) rfl rfl (hb hBY d_prog_59_method_15_code_25)
  have N_19 := Fr.snoc X_19 N_12 ga
  have K__20 : Keep h0 h_19 [a] := K__13.wr W_19 (Or.inl (List.mem_of_getElem? (i := 0) rfl))
  have f_21 : Arv Z h_19 a k .long (8 : Int32) [(.long (t0 &&& (281474976710655 : Int64))), (.long (t1 &&& (281474976710655 : Int64))), (.long (t2 &&& (281474976710655 : Int64))), (.long x3), (.long x4), (.long x5), (.long x6), (.long x7)] (.long (0 : Int64)) := Arv.set Ar_17 q_17 S_17 N__17 H_17 G_17 rfl W_19 2 rfl (Nat.le_of_ble_eq_true rfl)
  refine Done.pre st_19 ?_
  show Done _ _ _ _ _ _ _ (T_19.setTop (mkF m 26 #[Rv a, Lv (t1 >>> ((48 : Int32) &&& 0x3f).toInt64), Zs, Iv (2 : Int32), Lv t2, Zs] []))
  obtain ⟨cl_22, Ar_22, q_22, S_22, N__22, H_22, G_22⟩ := id f_21
  have hin_22 : ¬ ((3 : Int32) < 0 ∨ cl_22.slots.size ≤ ((3 : Int32)).toNatClampNeg) := inb_of S_22 ⟨by decide, by decide⟩
  have hat_22 : cl_22.slots[((3 : Int32)).toNatClampNeg]? = some (.long x3) := H_22.at hin_22 rfl
  have sg_23 : ∀ tt_, Steps p.tables e below (T_19.setTop (mkF m 15 #[Rv a, Lv (t2 >>> ((48 : Int32) &&& 0x3f).toInt64), Zs, Iv (3 : Int32), Lv t2, Zs] [(.long (x3 + (t2 >>> ((48 : Int32) &&& 0x3f).toInt64)))])) tt_ → Steps p.tables e below (T_19.setTop (mkF m 26 #[Rv a, Lv (t1 >>> ((48 : Int32) &&& 0x3f).toInt64), Zs, Iv (2 : Int32), Lv t2, Zs] [])) tt_ := by
    intro tt_ kt_
    refine XS.lload X_19.here hEX rfl (hb hBY d_prog_59_method_15_code_26) rfl ?_
    show Steps p.tables e below (T_19.setTop (mkF m 28 #[Rv a, Lv (t1 >>> ((48 : Int32) &&& 0x3f).toInt64), Zs, Iv (2 : Int32), Lv t2, Zs] [(.long t2)])) tt_
    refine XS.bipush X_19.here hEX rfl (hb hBY d_prog_59_method_15_code_28) ?_
    show Steps p.tables e below (T_19.setTop (mkF m 30 #[Rv a, Lv (t1 >>> ((48 : Int32) &&& 0x3f).toInt64), Zs, Iv (2 : Int32), Lv t2, Zs] [(.int (48 : Int32)), (.long t2)])) tt_
    refine XS.lshr X_19.here hEX rfl (hb hBY d_prog_59_method_15_code_30) rfl ?_
    show Steps p.tables e below (T_19.setTop (mkF m 31 #[Rv a, Lv (t1 >>> ((48 : Int32) &&& 0x3f).toInt64), Zs, Iv (2 : Int32), Lv t2, Zs] [(.long (t2 >>> ((48 : Int32) &&& 0x3f).toInt64))])) tt_
    refine XS.lstoreN X_19.here hEX rfl (hb hBY d_prog_59_method_15_code_31) rfl (l' := #[Rv a, Lv (t2 >>> ((48 : Int32) &&& 0x3f).toInt64), Zs, Iv (2 : Int32), Lv t2, Zs]) rfl ?_
    show Steps p.tables e below (T_19.setTop (mkF m 32 #[Rv a, Lv (t2 >>> ((48 : Int32) &&& 0x3f).toInt64), Zs, Iv (2 : Int32), Lv t2, Zs] [])) tt_
    refine XS.iinc X_19.here hEX rfl (hb hBY d_prog_59_method_15_code_32) rfl (l' := #[Rv a, Lv (t2 >>> ((48 : Int32) &&& 0x3f).toInt64), Zs, Iv (3 : Int32), Lv t2, Zs]) rfl ?_
    show Steps p.tables e below (T_19.setTop (mkF m 35 #[Rv a, Lv (t2 >>> ((48 : Int32) &&& 0x3f).toInt64), Zs, Iv (3 : Int32), Lv t2, Zs] [])) tt_
    refine XS.goto X_19.here hEX rfl (pc0 := 35) (pc' := 4) rfl (hb hBY d_prog_59_method_15_code_35) (by decide) (by decide) ?_
    show Steps p.tables e below (T_19.setTop (mkF m 4 #[Rv a, Lv (t2 >>> ((48 : Int32) &&& 0x3f).toInt64), Zs, Iv (3 : Int32), Lv t2, Zs] [])) tt_
    refine XS.iloadN X_19.here hEX rfl (hb hBY d_prog_59_method_15_code_4) rfl ?_
    show Steps p.tables e below (T_19.setTop (mkF m 5 #[Rv a, Lv (t2 >>> ((48 : Int32) &&& 0x3f).toInt64), Zs, Iv (3 : Int32), Lv t2, Zs] [(.int (3 : Int32))])) tt_
    refine XS.bipush X_19.here hEX rfl (hb hBY d_prog_59_method_15_code_5) ?_
    show Steps p.tables e below (T_19.setTop (mkF m 7 #[Rv a, Lv (t2 >>> ((48 : Int32) &&& 0x3f).toInt64), Zs, Iv (3 : Int32), Lv t2, Zs] [(.int (8 : Int32)), (.int (3 : Int32))])) tt_
    refine XS.icmpNo X_19.here hEX rfl (hb hBY d_prog_59_method_15_code_7) rfl (tlt (by decide : (3 : Int32) < (8 : Int32))).2.1 ?_
    show Steps p.tables e below (T_19.setTop (mkF m 10 #[Rv a, Lv (t2 >>> ((48 : Int32) &&& 0x3f).toInt64), Zs, Iv (3 : Int32), Lv t2, Zs] [])) tt_
    refine XS.aloadN X_19.here hEX rfl (hb hBY d_prog_59_method_15_code_10) rfl rfl ?_
    show Steps p.tables e below (T_19.setTop (mkF m 11 #[Rv a, Lv (t2 >>> ((48 : Int32) &&& 0x3f).toInt64), Zs, Iv (3 : Int32), Lv t2, Zs] [(.ref a)])) tt_
    refine XS.iloadN X_19.here hEX rfl (hb hBY d_prog_59_method_15_code_11) rfl ?_
    show Steps p.tables e below (T_19.setTop (mkF m 12 #[Rv a, Lv (t2 >>> ((48 : Int32) &&& 0x3f).toInt64), Zs, Iv (3 : Int32), Lv t2, Zs] [(.int (3 : Int32)), (.ref a)])) tt_
    refine X_19.laload hEX (j := (3 : Int32)) (v := (.long x3)) (by rw [e_19]; exact Ar_22.1) (State.isArrayOf_alike hZW.alike Ar_22.2.1) Ar_22.2.2 hin_22 hat_22 (g := (mkF m 12 #[Rv a, Lv (t2 >>> ((48 : Int32) &&& 0x3f).toInt64), Zs, Iv (3 : Int32), Lv t2, Zs] [(.int (3 : Int32)), (.ref a)])) rfl rfl (hb hBY d_prog_59_method_15_code_12) _ ?_
    show Steps p.tables e below (T_19.setTop (mkF m 13 #[Rv a, Lv (t2 >>> ((48 : Int32) &&& 0x3f).toInt64), Zs, Iv (3 : Int32), Lv t2, Zs] [(.long x3)])) tt_
    refine XS.lloadN X_19.here hEX rfl (hb hBY d_prog_59_method_15_code_13) rfl ?_
    show Steps p.tables e below (T_19.setTop (mkF m 14 #[Rv a, Lv (t2 >>> ((48 : Int32) &&& 0x3f).toInt64), Zs, Iv (3 : Int32), Lv t2, Zs] [(.long (t2 >>> ((48 : Int32) &&& 0x3f).toInt64)), (.long x3)])) tt_
    refine XS.ladd X_19.here hEX rfl (hb hBY d_prog_59_method_15_code_14) rfl ?_
    exact kt_
  refine Done.pre sg_23 ?_
  show Done _ _ _ _ _ _ _ (T_19.setTop (mkF m 15 #[Rv a, Lv (t2 >>> ((48 : Int32) &&& 0x3f).toInt64), Zs, Iv (3 : Int32), Lv t2, Zs] [(.long (x3 + (t2 >>> ((48 : Int32) &&& 0x3f).toInt64)))]))
  obtain ⟨t3, ht3⟩ : ∃ z : Int64, z = (x3 + (t2 >>> ((48 : Int32) &&& 0x3f).toInt64)) := ⟨_, rfl⟩
  rw [← ht3]
  show Done _ _ _ _ _ _ _ (T_19.setTop (mkF m 15 #[Rv a, Lv (t2 >>> ((48 : Int32) &&& 0x3f).toInt64), Zs, Iv (3 : Int32), Lv t2, Zs] [(.long t3)]))
  have sg_25 : ∀ tt_, Steps p.tables e below (T_19.setTop (mkF m 25 #[Rv a, Lv (t2 >>> ((48 : Int32) &&& 0x3f).toInt64), Zs, Iv (3 : Int32), Lv t3, Zs] [(.long (t3 &&& (281474976710655 : Int64))), (.int (3 : Int32)), (.ref a)])) tt_ → Steps p.tables e below (T_19.setTop (mkF m 15 #[Rv a, Lv (t2 >>> ((48 : Int32) &&& 0x3f).toInt64), Zs, Iv (3 : Int32), Lv t2, Zs] [(.long t3)])) tt_ := by
    intro tt_ kt_
    refine XS.lstore X_19.here hEX rfl (hb hBY d_prog_59_method_15_code_15) rfl (l' := #[Rv a, Lv (t2 >>> ((48 : Int32) &&& 0x3f).toInt64), Zs, Iv (3 : Int32), Lv t3, Zs]) rfl ?_
    show Steps p.tables e below (T_19.setTop (mkF m 17 #[Rv a, Lv (t2 >>> ((48 : Int32) &&& 0x3f).toInt64), Zs, Iv (3 : Int32), Lv t3, Zs] [])) tt_
    refine XS.aloadN X_19.here hEX rfl (hb hBY d_prog_59_method_15_code_17) rfl rfl ?_
    show Steps p.tables e below (T_19.setTop (mkF m 18 #[Rv a, Lv (t2 >>> ((48 : Int32) &&& 0x3f).toInt64), Zs, Iv (3 : Int32), Lv t3, Zs] [(.ref a)])) tt_
    refine XS.iloadN X_19.here hEX rfl (hb hBY d_prog_59_method_15_code_18) rfl ?_
    show Steps p.tables e below (T_19.setTop (mkF m 19 #[Rv a, Lv (t2 >>> ((48 : Int32) &&& 0x3f).toInt64), Zs, Iv (3 : Int32), Lv t3, Zs] [(.int (3 : Int32)), (.ref a)])) tt_
    refine XS.lload X_19.here hEX rfl (hb hBY d_prog_59_method_15_code_19) rfl ?_
    show Steps p.tables e below (T_19.setTop (mkF m 21 #[Rv a, Lv (t2 >>> ((48 : Int32) &&& 0x3f).toInt64), Zs, Iv (3 : Int32), Lv t3, Zs] [(.long t3), (.int (3 : Int32)), (.ref a)])) tt_
    refine X_19.ldc2Long hEX hOW (mvT hZW (hw _ (List.mem_of_getElem? (i := 23) rfl))) (g := (mkF m 21 #[Rv a, Lv (t2 >>> ((48 : Int32) &&& 0x3f).toInt64), Zs, Iv (3 : Int32), Lv t3, Zs] [(.long t3), (.int (3 : Int32)), (.ref a)])) rfl (hb hBY d_prog_59_method_15_code_21) _ ?_
    show Steps p.tables e below (T_19.setTop (mkF m 24 #[Rv a, Lv (t2 >>> ((48 : Int32) &&& 0x3f).toInt64), Zs, Iv (3 : Int32), Lv t3, Zs] [(.long (281474976710655 : Int64)), (.long t3), (.int (3 : Int32)), (.ref a)])) tt_
    refine XS.land X_19.here hEX rfl (hb hBY d_prog_59_method_15_code_24) rfl ?_
    exact kt_
  refine Done.pre sg_25 ?_
  obtain ⟨cl_24, Ar_24, q_24, S_24, N__24, H_24, G_24⟩ := id f_21
  have hin_24 : ¬ ((3 : Int32) < 0 ∨ cl_24.slots.size ≤ ((3 : Int32)).toNatClampNeg) := inb_of S_24 ⟨by decide, by decide⟩
  obtain ⟨T_26, h_26, X_26, e_26, W_26, st_26⟩ := stJ X_19 hEX hZW e_19 Ar_24 (j := (3 : Int32)) hin_24 (g := (mkF m 25 #[Rv a, Lv (t2 >>> ((48 : Int32) &&& 0x3f).toInt64), Zs, Iv (3 : Int32), Lv t3, Zs] [(.long (t3 &&& (281474976710655 : Int64))), (.int (3 : Int32)), (.ref a)])) rfl rfl (hb hBY d_prog_59_method_15_code_25)
  have N_26 := Fr.snoc X_26 N_19 ga
  have K__27 : Keep h0 h_26 [a] := K__20.wr W_26 (Or.inl (List.mem_of_getElem? (i := 0) rfl))
  have f_28 : Arv Z h_26 a k .long (8 : Int32) [(.long (t0 &&& (281474976710655 : Int64))), (.long (t1 &&& (281474976710655 : Int64))), (.long (t2 &&& (281474976710655 : Int64))), (.long (t3 &&& (281474976710655 : Int64))), (.long x4), (.long x5), (.long x6), (.long x7)] (.long (0 : Int64)) := Arv.set Ar_24 q_24 S_24 N__24 H_24 G_24 rfl W_26 3 rfl (Nat.le_of_ble_eq_true rfl)
  refine Done.pre st_26 ?_
  show Done _ _ _ _ _ _ _ (T_26.setTop (mkF m 26 #[Rv a, Lv (t2 >>> ((48 : Int32) &&& 0x3f).toInt64), Zs, Iv (3 : Int32), Lv t3, Zs] []))
  obtain ⟨cl_29, Ar_29, q_29, S_29, N__29, H_29, G_29⟩ := id f_28
  have hin_29 : ¬ ((4 : Int32) < 0 ∨ cl_29.slots.size ≤ ((4 : Int32)).toNatClampNeg) := inb_of S_29 ⟨by decide, by decide⟩
  have hat_29 : cl_29.slots[((4 : Int32)).toNatClampNeg]? = some (.long x4) := H_29.at hin_29 rfl
  have sg_30 : ∀ tt_, Steps p.tables e below (T_26.setTop (mkF m 15 #[Rv a, Lv (t3 >>> ((48 : Int32) &&& 0x3f).toInt64), Zs, Iv (4 : Int32), Lv t3, Zs] [(.long (x4 + (t3 >>> ((48 : Int32) &&& 0x3f).toInt64)))])) tt_ → Steps p.tables e below (T_26.setTop (mkF m 26 #[Rv a, Lv (t2 >>> ((48 : Int32) &&& 0x3f).toInt64), Zs, Iv (3 : Int32), Lv t3, Zs] [])) tt_ := by
    intro tt_ kt_
    refine XS.lload X_26.here hEX rfl (hb hBY d_prog_59_method_15_code_26) rfl ?_
    show Steps p.tables e below (T_26.setTop (mkF m 28 #[Rv a, Lv (t2 >>> ((48 : Int32) &&& 0x3f).toInt64), Zs, Iv (3 : Int32), Lv t3, Zs] [(.long t3)])) tt_
    refine XS.bipush X_26.here hEX rfl (hb hBY d_prog_59_method_15_code_28) ?_
    show Steps p.tables e below (T_26.setTop (mkF m 30 #[Rv a, Lv (t2 >>> ((48 : Int32) &&& 0x3f).toInt64), Zs, Iv (3 : Int32), Lv t3, Zs] [(.int (48 : Int32)), (.long t3)])) tt_
    refine XS.lshr X_26.here hEX rfl (hb hBY d_prog_59_method_15_code_30) rfl ?_
    show Steps p.tables e below (T_26.setTop (mkF m 31 #[Rv a, Lv (t2 >>> ((48 : Int32) &&& 0x3f).toInt64), Zs, Iv (3 : Int32), Lv t3, Zs] [(.long (t3 >>> ((48 : Int32) &&& 0x3f).toInt64))])) tt_
    refine XS.lstoreN X_26.here hEX rfl (hb hBY d_prog_59_method_15_code_31) rfl (l' := #[Rv a, Lv (t3 >>> ((48 : Int32) &&& 0x3f).toInt64), Zs, Iv (3 : Int32), Lv t3, Zs]) rfl ?_
    show Steps p.tables e below (T_26.setTop (mkF m 32 #[Rv a, Lv (t3 >>> ((48 : Int32) &&& 0x3f).toInt64), Zs, Iv (3 : Int32), Lv t3, Zs] [])) tt_
    refine XS.iinc X_26.here hEX rfl (hb hBY d_prog_59_method_15_code_32) rfl (l' := #[Rv a, Lv (t3 >>> ((48 : Int32) &&& 0x3f).toInt64), Zs, Iv (4 : Int32), Lv t3, Zs]) rfl ?_
    show Steps p.tables e below (T_26.setTop (mkF m 35 #[Rv a, Lv (t3 >>> ((48 : Int32) &&& 0x3f).toInt64), Zs, Iv (4 : Int32), Lv t3, Zs] [])) tt_
    refine XS.goto X_26.here hEX rfl (pc0 := 35) (pc' := 4) rfl (hb hBY d_prog_59_method_15_code_35) (by decide) (by decide) ?_
    show Steps p.tables e below (T_26.setTop (mkF m 4 #[Rv a, Lv (t3 >>> ((48 : Int32) &&& 0x3f).toInt64), Zs, Iv (4 : Int32), Lv t3, Zs] [])) tt_
    refine XS.iloadN X_26.here hEX rfl (hb hBY d_prog_59_method_15_code_4) rfl ?_
    show Steps p.tables e below (T_26.setTop (mkF m 5 #[Rv a, Lv (t3 >>> ((48 : Int32) &&& 0x3f).toInt64), Zs, Iv (4 : Int32), Lv t3, Zs] [(.int (4 : Int32))])) tt_
    refine XS.bipush X_26.here hEX rfl (hb hBY d_prog_59_method_15_code_5) ?_
    show Steps p.tables e below (T_26.setTop (mkF m 7 #[Rv a, Lv (t3 >>> ((48 : Int32) &&& 0x3f).toInt64), Zs, Iv (4 : Int32), Lv t3, Zs] [(.int (8 : Int32)), (.int (4 : Int32))])) tt_
    refine XS.icmpNo X_26.here hEX rfl (hb hBY d_prog_59_method_15_code_7) rfl (tlt (by decide : (4 : Int32) < (8 : Int32))).2.1 ?_
    show Steps p.tables e below (T_26.setTop (mkF m 10 #[Rv a, Lv (t3 >>> ((48 : Int32) &&& 0x3f).toInt64), Zs, Iv (4 : Int32), Lv t3, Zs] [])) tt_
    refine XS.aloadN X_26.here hEX rfl (hb hBY d_prog_59_method_15_code_10) rfl rfl ?_
    show Steps p.tables e below (T_26.setTop (mkF m 11 #[Rv a, Lv (t3 >>> ((48 : Int32) &&& 0x3f).toInt64), Zs, Iv (4 : Int32), Lv t3, Zs] [(.ref a)])) tt_
    refine XS.iloadN X_26.here hEX rfl (hb hBY d_prog_59_method_15_code_11) rfl ?_
    show Steps p.tables e below (T_26.setTop (mkF m 12 #[Rv a, Lv (t3 >>> ((48 : Int32) &&& 0x3f).toInt64), Zs, Iv (4 : Int32), Lv t3, Zs] [(.int (4 : Int32)), (.ref a)])) tt_
    refine X_26.laload hEX (j := (4 : Int32)) (v := (.long x4)) (by rw [e_26]; exact Ar_29.1) (State.isArrayOf_alike hZW.alike Ar_29.2.1) Ar_29.2.2 hin_29 hat_29 (g := (mkF m 12 #[Rv a, Lv (t3 >>> ((48 : Int32) &&& 0x3f).toInt64), Zs, Iv (4 : Int32), Lv t3, Zs] [(.int (4 : Int32)), (.ref a)])) rfl rfl (hb hBY d_prog_59_method_15_code_12) _ ?_
    show Steps p.tables e below (T_26.setTop (mkF m 13 #[Rv a, Lv (t3 >>> ((48 : Int32) &&& 0x3f).toInt64), Zs, Iv (4 : Int32), Lv t3, Zs] [(.long x4)])) tt_
    refine XS.lloadN X_26.here hEX rfl (hb hBY d_prog_59_method_15_code_13) rfl ?_
    show Steps p.tables e below (T_26.setTop (mkF m 14 #[Rv a, Lv (t3 >>> ((48 : Int32) &&& 0x3f).toInt64), Zs, Iv (4 : Int32), Lv t3, Zs] [(.long (t3 >>> ((48 : Int32) &&& 0x3f).toInt64)), (.long x4)])) tt_
    refine XS.ladd X_26.here hEX rfl (hb hBY d_prog_59_method_15_code_14) rfl ?_
    exact kt_
  refine Done.pre sg_30 ?_
  show Done _ _ _ _ _ _ _ (T_26.setTop (mkF m 15 #[Rv a, Lv (t3 >>> ((48 : Int32) &&& 0x3f).toInt64), Zs, Iv (4 : Int32), Lv t3, Zs] [(.long (x4 + (t3 >>> ((48 : Int32) &&& 0x3f).toInt64)))]))
  obtain ⟨t4, ht4⟩ : ∃ z : Int64, z = (x4 + (t3 >>> ((48 : Int32) &&& 0x3f).toInt64)) := ⟨_, rfl⟩
  rw [← ht4]
  show Done _ _ _ _ _ _ _ (T_26.setTop (mkF m 15 #[Rv a, Lv (t3 >>> ((48 : Int32) &&& 0x3f).toInt64), Zs, Iv (4 : Int32), Lv t3, Zs] [(.long t4)]))
  have sg_32 : ∀ tt_, Steps p.tables e below (T_26.setTop (mkF m 25 #[Rv a, Lv (t3 >>> ((48 : Int32) &&& 0x3f).toInt64), Zs, Iv (4 : Int32), Lv t4, Zs] [(.long (t4 &&& (281474976710655 : Int64))), (.int (4 : Int32)), (.ref a)])) tt_ → Steps p.tables e below (T_26.setTop (mkF m 15 #[Rv a, Lv (t3 >>> ((48 : Int32) &&& 0x3f).toInt64), Zs, Iv (4 : Int32), Lv t3, Zs] [(.long t4)])) tt_ := by
    intro tt_ kt_
    refine XS.lstore X_26.here hEX rfl (hb hBY d_prog_59_method_15_code_15) rfl (l' := #[Rv a, Lv (t3 >>> ((48 : Int32) &&& 0x3f).toInt64), Zs, Iv (4 : Int32), Lv t4, Zs]) rfl ?_
    show Steps p.tables e below (T_26.setTop (mkF m 17 #[Rv a, Lv (t3 >>> ((48 : Int32) &&& 0x3f).toInt64), Zs, Iv (4 : Int32), Lv t4, Zs] [])) tt_
    refine XS.aloadN X_26.here hEX rfl (hb hBY d_prog_59_method_15_code_17) rfl rfl ?_
    show Steps p.tables e below (T_26.setTop (mkF m 18 #[Rv a, Lv (t3 >>> ((48 : Int32) &&& 0x3f).toInt64), Zs, Iv (4 : Int32), Lv t4, Zs] [(.ref a)])) tt_
    refine XS.iloadN X_26.here hEX rfl (hb hBY d_prog_59_method_15_code_18) rfl ?_
    show Steps p.tables e below (T_26.setTop (mkF m 19 #[Rv a, Lv (t3 >>> ((48 : Int32) &&& 0x3f).toInt64), Zs, Iv (4 : Int32), Lv t4, Zs] [(.int (4 : Int32)), (.ref a)])) tt_
    refine XS.lload X_26.here hEX rfl (hb hBY d_prog_59_method_15_code_19) rfl ?_
    show Steps p.tables e below (T_26.setTop (mkF m 21 #[Rv a, Lv (t3 >>> ((48 : Int32) &&& 0x3f).toInt64), Zs, Iv (4 : Int32), Lv t4, Zs] [(.long t4), (.int (4 : Int32)), (.ref a)])) tt_
    refine X_26.ldc2Long hEX hOW (mvT hZW (hw _ (List.mem_of_getElem? (i := 23) rfl))) (g := (mkF m 21 #[Rv a, Lv (t3 >>> ((48 : Int32) &&& 0x3f).toInt64), Zs, Iv (4 : Int32), Lv t4, Zs] [(.long t4), (.int (4 : Int32)), (.ref a)])) rfl (hb hBY d_prog_59_method_15_code_21) _ ?_
    show Steps p.tables e below (T_26.setTop (mkF m 24 #[Rv a, Lv (t3 >>> ((48 : Int32) &&& 0x3f).toInt64), Zs, Iv (4 : Int32), Lv t4, Zs] [(.long (281474976710655 : Int64)), (.long t4), (.int (4 : Int32)), (.ref a)])) tt_
    refine XS.land X_26.here hEX rfl (hb hBY d_prog_59_method_15_code_24) rfl ?_
    exact kt_
  refine Done.pre sg_32 ?_
  obtain ⟨cl_31, Ar_31, q_31, S_31, N__31, H_31, G_31⟩ := id f_28
  have hin_31 : ¬ ((4 : Int32) < 0 ∨ cl_31.slots.size ≤ ((4 : Int32)).toNatClampNeg) := inb_of S_31 ⟨by decide, by decide⟩
  obtain ⟨T_33, h_33, X_33, e_33, W_33, st_33⟩ := stJ X_26 hEX hZW e_26 Ar_31 (j := (4 : Int32)) hin_31 (g := (mkF m 25 #[Rv a, Lv (t3 >>> ((48 : Int32) &&& 0x3f).toInt64), Zs, Iv (4 : Int32), Lv t4, Zs] [(.long (t4 &&& (281474976710655 : Int64))), (.int (4 : Int32)), (.ref a)])) rfl rfl (hb hBY d_prog_59_method_15_code_25)
  have N_33 := Fr.snoc X_33 N_26 ga
  have K__34 : Keep h0 h_33 [a] := K__27.wr W_33 (Or.inl (List.mem_of_getElem? (i := 0) rfl))
  have f_35 : Arv Z h_33 a k .long (8 : Int32) [(.long (t0 &&& (281474976710655 : Int64))), (.long (t1 &&& (281474976710655 : Int64))), (.long (t2 &&& (281474976710655 : Int64))), (.long (t3 &&& (281474976710655 : Int64))), (.long (t4 &&& (281474976710655 : Int64))), (.long x5), (.long x6), (.long x7)] (.long (0 : Int64)) := Arv.set Ar_31 q_31 S_31 N__31 H_31 G_31 rfl W_33 4 rfl (Nat.le_of_ble_eq_true rfl)
  refine Done.pre st_33 ?_
  show Done _ _ _ _ _ _ _ (T_33.setTop (mkF m 26 #[Rv a, Lv (t3 >>> ((48 : Int32) &&& 0x3f).toInt64), Zs, Iv (4 : Int32), Lv t4, Zs] []))
  obtain ⟨cl_36, Ar_36, q_36, S_36, N__36, H_36, G_36⟩ := id f_35
  have hin_36 : ¬ ((5 : Int32) < 0 ∨ cl_36.slots.size ≤ ((5 : Int32)).toNatClampNeg) := inb_of S_36 ⟨by decide, by decide⟩
  have hat_36 : cl_36.slots[((5 : Int32)).toNatClampNeg]? = some (.long x5) := H_36.at hin_36 rfl
  have sg_37 : ∀ tt_, Steps p.tables e below (T_33.setTop (mkF m 15 #[Rv a, Lv (t4 >>> ((48 : Int32) &&& 0x3f).toInt64), Zs, Iv (5 : Int32), Lv t4, Zs] [(.long (x5 + (t4 >>> ((48 : Int32) &&& 0x3f).toInt64)))])) tt_ → Steps p.tables e below (T_33.setTop (mkF m 26 #[Rv a, Lv (t3 >>> ((48 : Int32) &&& 0x3f).toInt64), Zs, Iv (4 : Int32), Lv t4, Zs] [])) tt_ := by
    intro tt_ kt_
    refine XS.lload X_33.here hEX rfl (hb hBY d_prog_59_method_15_code_26) rfl ?_
    show Steps p.tables e below (T_33.setTop (mkF m 28 #[Rv a, Lv (t3 >>> ((48 : Int32) &&& 0x3f).toInt64), Zs, Iv (4 : Int32), Lv t4, Zs] [(.long t4)])) tt_
    refine XS.bipush X_33.here hEX rfl (hb hBY d_prog_59_method_15_code_28) ?_
    show Steps p.tables e below (T_33.setTop (mkF m 30 #[Rv a, Lv (t3 >>> ((48 : Int32) &&& 0x3f).toInt64), Zs, Iv (4 : Int32), Lv t4, Zs] [(.int (48 : Int32)), (.long t4)])) tt_
    refine XS.lshr X_33.here hEX rfl (hb hBY d_prog_59_method_15_code_30) rfl ?_
    show Steps p.tables e below (T_33.setTop (mkF m 31 #[Rv a, Lv (t3 >>> ((48 : Int32) &&& 0x3f).toInt64), Zs, Iv (4 : Int32), Lv t4, Zs] [(.long (t4 >>> ((48 : Int32) &&& 0x3f).toInt64))])) tt_
    refine XS.lstoreN X_33.here hEX rfl (hb hBY d_prog_59_method_15_code_31) rfl (l' := #[Rv a, Lv (t4 >>> ((48 : Int32) &&& 0x3f).toInt64), Zs, Iv (4 : Int32), Lv t4, Zs]) rfl ?_
    show Steps p.tables e below (T_33.setTop (mkF m 32 #[Rv a, Lv (t4 >>> ((48 : Int32) &&& 0x3f).toInt64), Zs, Iv (4 : Int32), Lv t4, Zs] [])) tt_
    refine XS.iinc X_33.here hEX rfl (hb hBY d_prog_59_method_15_code_32) rfl (l' := #[Rv a, Lv (t4 >>> ((48 : Int32) &&& 0x3f).toInt64), Zs, Iv (5 : Int32), Lv t4, Zs]) rfl ?_
    show Steps p.tables e below (T_33.setTop (mkF m 35 #[Rv a, Lv (t4 >>> ((48 : Int32) &&& 0x3f).toInt64), Zs, Iv (5 : Int32), Lv t4, Zs] [])) tt_
    refine XS.goto X_33.here hEX rfl (pc0 := 35) (pc' := 4) rfl (hb hBY d_prog_59_method_15_code_35) (by decide) (by decide) ?_
    show Steps p.tables e below (T_33.setTop (mkF m 4 #[Rv a, Lv (t4 >>> ((48 : Int32) &&& 0x3f).toInt64), Zs, Iv (5 : Int32), Lv t4, Zs] [])) tt_
    refine XS.iloadN X_33.here hEX rfl (hb hBY d_prog_59_method_15_code_4) rfl ?_
    show Steps p.tables e below (T_33.setTop (mkF m 5 #[Rv a, Lv (t4 >>> ((48 : Int32) &&& 0x3f).toInt64), Zs, Iv (5 : Int32), Lv t4, Zs] [(.int (5 : Int32))])) tt_
    refine XS.bipush X_33.here hEX rfl (hb hBY d_prog_59_method_15_code_5) ?_
    show Steps p.tables e below (T_33.setTop (mkF m 7 #[Rv a, Lv (t4 >>> ((48 : Int32) &&& 0x3f).toInt64), Zs, Iv (5 : Int32), Lv t4, Zs] [(.int (8 : Int32)), (.int (5 : Int32))])) tt_
    refine XS.icmpNo X_33.here hEX rfl (hb hBY d_prog_59_method_15_code_7) rfl (tlt (by decide : (5 : Int32) < (8 : Int32))).2.1 ?_
    show Steps p.tables e below (T_33.setTop (mkF m 10 #[Rv a, Lv (t4 >>> ((48 : Int32) &&& 0x3f).toInt64), Zs, Iv (5 : Int32), Lv t4, Zs] [])) tt_
    refine XS.aloadN X_33.here hEX rfl (hb hBY d_prog_59_method_15_code_10) rfl rfl ?_
    show Steps p.tables e below (T_33.setTop (mkF m 11 #[Rv a, Lv (t4 >>> ((48 : Int32) &&& 0x3f).toInt64), Zs, Iv (5 : Int32), Lv t4, Zs] [(.ref a)])) tt_
    refine XS.iloadN X_33.here hEX rfl (hb hBY d_prog_59_method_15_code_11) rfl ?_
    show Steps p.tables e below (T_33.setTop (mkF m 12 #[Rv a, Lv (t4 >>> ((48 : Int32) &&& 0x3f).toInt64), Zs, Iv (5 : Int32), Lv t4, Zs] [(.int (5 : Int32)), (.ref a)])) tt_
    refine X_33.laload hEX (j := (5 : Int32)) (v := (.long x5)) (by rw [e_33]; exact Ar_36.1) (State.isArrayOf_alike hZW.alike Ar_36.2.1) Ar_36.2.2 hin_36 hat_36 (g := (mkF m 12 #[Rv a, Lv (t4 >>> ((48 : Int32) &&& 0x3f).toInt64), Zs, Iv (5 : Int32), Lv t4, Zs] [(.int (5 : Int32)), (.ref a)])) rfl rfl (hb hBY d_prog_59_method_15_code_12) _ ?_
    show Steps p.tables e below (T_33.setTop (mkF m 13 #[Rv a, Lv (t4 >>> ((48 : Int32) &&& 0x3f).toInt64), Zs, Iv (5 : Int32), Lv t4, Zs] [(.long x5)])) tt_
    refine XS.lloadN X_33.here hEX rfl (hb hBY d_prog_59_method_15_code_13) rfl ?_
    show Steps p.tables e below (T_33.setTop (mkF m 14 #[Rv a, Lv (t4 >>> ((48 : Int32) &&& 0x3f).toInt64), Zs, Iv (5 : Int32), Lv t4, Zs] [(.long (t4 >>> ((48 : Int32) &&& 0x3f).toInt64)), (.long x5)])) tt_
    refine XS.ladd X_33.here hEX rfl (hb hBY d_prog_59_method_15_code_14) rfl ?_
    exact kt_
  refine Done.pre sg_37 ?_
  show Done _ _ _ _ _ _ _ (T_33.setTop (mkF m 15 #[Rv a, Lv (t4 >>> ((48 : Int32) &&& 0x3f).toInt64), Zs, Iv (5 : Int32), Lv t4, Zs] [(.long (x5 + (t4 >>> ((48 : Int32) &&& 0x3f).toInt64)))]))
  obtain ⟨t5, ht5⟩ : ∃ z : Int64, z = (x5 + (t4 >>> ((48 : Int32) &&& 0x3f).toInt64)) := ⟨_, rfl⟩
  rw [← ht5]
  show Done _ _ _ _ _ _ _ (T_33.setTop (mkF m 15 #[Rv a, Lv (t4 >>> ((48 : Int32) &&& 0x3f).toInt64), Zs, Iv (5 : Int32), Lv t4, Zs] [(.long t5)]))
  have sg_39 : ∀ tt_, Steps p.tables e below (T_33.setTop (mkF m 25 #[Rv a, Lv (t4 >>> ((48 : Int32) &&& 0x3f).toInt64), Zs, Iv (5 : Int32), Lv t5, Zs] [(.long (t5 &&& (281474976710655 : Int64))), (.int (5 : Int32)), (.ref a)])) tt_ → Steps p.tables e below (T_33.setTop (mkF m 15 #[Rv a, Lv (t4 >>> ((48 : Int32) &&& 0x3f).toInt64), Zs, Iv (5 : Int32), Lv t4, Zs] [(.long t5)])) tt_ := by
    intro tt_ kt_
    refine XS.lstore X_33.here hEX rfl (hb hBY d_prog_59_method_15_code_15) rfl (l' := #[Rv a, Lv (t4 >>> ((48 : Int32) &&& 0x3f).toInt64), Zs, Iv (5 : Int32), Lv t5, Zs]) rfl ?_
    show Steps p.tables e below (T_33.setTop (mkF m 17 #[Rv a, Lv (t4 >>> ((48 : Int32) &&& 0x3f).toInt64), Zs, Iv (5 : Int32), Lv t5, Zs] [])) tt_
    refine XS.aloadN X_33.here hEX rfl (hb hBY d_prog_59_method_15_code_17) rfl rfl ?_
    show Steps p.tables e below (T_33.setTop (mkF m 18 #[Rv a, Lv (t4 >>> ((48 : Int32) &&& 0x3f).toInt64), Zs, Iv (5 : Int32), Lv t5, Zs] [(.ref a)])) tt_
    refine XS.iloadN X_33.here hEX rfl (hb hBY d_prog_59_method_15_code_18) rfl ?_
    show Steps p.tables e below (T_33.setTop (mkF m 19 #[Rv a, Lv (t4 >>> ((48 : Int32) &&& 0x3f).toInt64), Zs, Iv (5 : Int32), Lv t5, Zs] [(.int (5 : Int32)), (.ref a)])) tt_
    refine XS.lload X_33.here hEX rfl (hb hBY d_prog_59_method_15_code_19) rfl ?_
    show Steps p.tables e below (T_33.setTop (mkF m 21 #[Rv a, Lv (t4 >>> ((48 : Int32) &&& 0x3f).toInt64), Zs, Iv (5 : Int32), Lv t5, Zs] [(.long t5), (.int (5 : Int32)), (.ref a)])) tt_
    refine X_33.ldc2Long hEX hOW (mvT hZW (hw _ (List.mem_of_getElem? (i := 23) rfl))) (g := (mkF m 21 #[Rv a, Lv (t4 >>> ((48 : Int32) &&& 0x3f).toInt64), Zs, Iv (5 : Int32), Lv t5, Zs] [(.long t5), (.int (5 : Int32)), (.ref a)])) rfl (hb hBY d_prog_59_method_15_code_21) _ ?_
    show Steps p.tables e below (T_33.setTop (mkF m 24 #[Rv a, Lv (t4 >>> ((48 : Int32) &&& 0x3f).toInt64), Zs, Iv (5 : Int32), Lv t5, Zs] [(.long (281474976710655 : Int64)), (.long t5), (.int (5 : Int32)), (.ref a)])) tt_
    refine XS.land X_33.here hEX rfl (hb hBY d_prog_59_method_15_code_24) rfl ?_
    exact kt_
  refine Done.pre sg_39 ?_
  obtain ⟨cl_38, Ar_38, q_38, S_38, N__38, H_38, G_38⟩ := id f_35
  have hin_38 : ¬ ((5 : Int32) < 0 ∨ cl_38.slots.size ≤ ((5 : Int32)).toNatClampNeg) := inb_of S_38 ⟨by decide, by decide⟩
  obtain ⟨T_40, h_40, X_40, e_40, W_40, st_40⟩ := stJ X_33 hEX hZW e_33 Ar_38 (j := (5 : Int32)) hin_38 (g := (mkF m 25 #[Rv a, Lv (t4 >>> ((48 : Int32) &&& 0x3f).toInt64), Zs, Iv (5 : Int32), Lv t5, Zs] [(.long (t5 &&& (281474976710655 : Int64))), (.int (5 : Int32)), (.ref a)])) rfl rfl (hb hBY d_prog_59_method_15_code_25)
  have N_40 := Fr.snoc X_40 N_33 ga
  have K__41 : Keep h0 h_40 [a] := K__34.wr W_40 (Or.inl (List.mem_of_getElem? (i := 0) rfl))
  have f_42 : Arv Z h_40 a k .long (8 : Int32) [(.long (t0 &&& (281474976710655 : Int64))), (.long (t1 &&& (281474976710655 : Int64))), (.long (t2 &&& (281474976710655 : Int64))), (.long (t3 &&& (281474976710655 : Int64))), (.long (t4 &&& (281474976710655 : Int64))), (.long (t5 &&& (281474976710655 : Int64))), (.long x6), (.long x7)] (.long (0 : Int64)) := Arv.set Ar_38 q_38 S_38 N__38 H_38 G_38 rfl W_40 5 rfl (Nat.le_of_ble_eq_true rfl)
  refine Done.pre st_40 ?_
  show Done _ _ _ _ _ _ _ (T_40.setTop (mkF m 26 #[Rv a, Lv (t4 >>> ((48 : Int32) &&& 0x3f).toInt64), Zs, Iv (5 : Int32), Lv t5, Zs] []))
  obtain ⟨cl_43, Ar_43, q_43, S_43, N__43, H_43, G_43⟩ := id f_42
  have hin_43 : ¬ ((6 : Int32) < 0 ∨ cl_43.slots.size ≤ ((6 : Int32)).toNatClampNeg) := inb_of S_43 ⟨by decide, by decide⟩
  have hat_43 : cl_43.slots[((6 : Int32)).toNatClampNeg]? = some (.long x6) := H_43.at hin_43 rfl
  have sg_44 : ∀ tt_, Steps p.tables e below (T_40.setTop (mkF m 15 #[Rv a, Lv (t5 >>> ((48 : Int32) &&& 0x3f).toInt64), Zs, Iv (6 : Int32), Lv t5, Zs] [(.long (x6 + (t5 >>> ((48 : Int32) &&& 0x3f).toInt64)))])) tt_ → Steps p.tables e below (T_40.setTop (mkF m 26 #[Rv a, Lv (t4 >>> ((48 : Int32) &&& 0x3f).toInt64), Zs, Iv (5 : Int32), Lv t5, Zs] [])) tt_ := by
    intro tt_ kt_
    refine XS.lload X_40.here hEX rfl (hb hBY d_prog_59_method_15_code_26) rfl ?_
    show Steps p.tables e below (T_40.setTop (mkF m 28 #[Rv a, Lv (t4 >>> ((48 : Int32) &&& 0x3f).toInt64), Zs, Iv (5 : Int32), Lv t5, Zs] [(.long t5)])) tt_
    refine XS.bipush X_40.here hEX rfl (hb hBY d_prog_59_method_15_code_28) ?_
    show Steps p.tables e below (T_40.setTop (mkF m 30 #[Rv a, Lv (t4 >>> ((48 : Int32) &&& 0x3f).toInt64), Zs, Iv (5 : Int32), Lv t5, Zs] [(.int (48 : Int32)), (.long t5)])) tt_
    refine XS.lshr X_40.here hEX rfl (hb hBY d_prog_59_method_15_code_30) rfl ?_
    show Steps p.tables e below (T_40.setTop (mkF m 31 #[Rv a, Lv (t4 >>> ((48 : Int32) &&& 0x3f).toInt64), Zs, Iv (5 : Int32), Lv t5, Zs] [(.long (t5 >>> ((48 : Int32) &&& 0x3f).toInt64))])) tt_
    refine XS.lstoreN X_40.here hEX rfl (hb hBY d_prog_59_method_15_code_31) rfl (l' := #[Rv a, Lv (t5 >>> ((48 : Int32) &&& 0x3f).toInt64), Zs, Iv (5 : Int32), Lv t5, Zs]) rfl ?_
    show Steps p.tables e below (T_40.setTop (mkF m 32 #[Rv a, Lv (t5 >>> ((48 : Int32) &&& 0x3f).toInt64), Zs, Iv (5 : Int32), Lv t5, Zs] [])) tt_
    refine XS.iinc X_40.here hEX rfl (hb hBY d_prog_59_method_15_code_32) rfl (l' := #[Rv a, Lv (t5 >>> ((48 : Int32) &&& 0x3f).toInt64), Zs, Iv (6 : Int32), Lv t5, Zs]) rfl ?_
    show Steps p.tables e below (T_40.setTop (mkF m 35 #[Rv a, Lv (t5 >>> ((48 : Int32) &&& 0x3f).toInt64), Zs, Iv (6 : Int32), Lv t5, Zs] [])) tt_
    refine XS.goto X_40.here hEX rfl (pc0 := 35) (pc' := 4) rfl (hb hBY d_prog_59_method_15_code_35) (by decide) (by decide) ?_
    show Steps p.tables e below (T_40.setTop (mkF m 4 #[Rv a, Lv (t5 >>> ((48 : Int32) &&& 0x3f).toInt64), Zs, Iv (6 : Int32), Lv t5, Zs] [])) tt_
    refine XS.iloadN X_40.here hEX rfl (hb hBY d_prog_59_method_15_code_4) rfl ?_
    show Steps p.tables e below (T_40.setTop (mkF m 5 #[Rv a, Lv (t5 >>> ((48 : Int32) &&& 0x3f).toInt64), Zs, Iv (6 : Int32), Lv t5, Zs] [(.int (6 : Int32))])) tt_
    refine XS.bipush X_40.here hEX rfl (hb hBY d_prog_59_method_15_code_5) ?_
    show Steps p.tables e below (T_40.setTop (mkF m 7 #[Rv a, Lv (t5 >>> ((48 : Int32) &&& 0x3f).toInt64), Zs, Iv (6 : Int32), Lv t5, Zs] [(.int (8 : Int32)), (.int (6 : Int32))])) tt_
    refine XS.icmpNo X_40.here hEX rfl (hb hBY d_prog_59_method_15_code_7) rfl (tlt (by decide : (6 : Int32) < (8 : Int32))).2.1 ?_
    show Steps p.tables e below (T_40.setTop (mkF m 10 #[Rv a, Lv (t5 >>> ((48 : Int32) &&& 0x3f).toInt64), Zs, Iv (6 : Int32), Lv t5, Zs] [])) tt_
    refine XS.aloadN X_40.here hEX rfl (hb hBY d_prog_59_method_15_code_10) rfl rfl ?_
    show Steps p.tables e below (T_40.setTop (mkF m 11 #[Rv a, Lv (t5 >>> ((48 : Int32) &&& 0x3f).toInt64), Zs, Iv (6 : Int32), Lv t5, Zs] [(.ref a)])) tt_
    refine XS.iloadN X_40.here hEX rfl (hb hBY d_prog_59_method_15_code_11) rfl ?_
    show Steps p.tables e below (T_40.setTop (mkF m 12 #[Rv a, Lv (t5 >>> ((48 : Int32) &&& 0x3f).toInt64), Zs, Iv (6 : Int32), Lv t5, Zs] [(.int (6 : Int32)), (.ref a)])) tt_
    refine X_40.laload hEX (j := (6 : Int32)) (v := (.long x6)) (by rw [e_40]; exact Ar_43.1) (State.isArrayOf_alike hZW.alike Ar_43.2.1) Ar_43.2.2 hin_43 hat_43 (g := (mkF m 12 #[Rv a, Lv (t5 >>> ((48 : Int32) &&& 0x3f).toInt64), Zs, Iv (6 : Int32), Lv t5, Zs] [(.int (6 : Int32)), (.ref a)])) rfl rfl (hb hBY d_prog_59_method_15_code_12) _ ?_
    show Steps p.tables e below (T_40.setTop (mkF m 13 #[Rv a, Lv (t5 >>> ((48 : Int32) &&& 0x3f).toInt64), Zs, Iv (6 : Int32), Lv t5, Zs] [(.long x6)])) tt_
    refine XS.lloadN X_40.here hEX rfl (hb hBY d_prog_59_method_15_code_13) rfl ?_
    show Steps p.tables e below (T_40.setTop (mkF m 14 #[Rv a, Lv (t5 >>> ((48 : Int32) &&& 0x3f).toInt64), Zs, Iv (6 : Int32), Lv t5, Zs] [(.long (t5 >>> ((48 : Int32) &&& 0x3f).toInt64)), (.long x6)])) tt_
    refine XS.ladd X_40.here hEX rfl (hb hBY d_prog_59_method_15_code_14) rfl ?_
    exact kt_
  refine Done.pre sg_44 ?_
  show Done _ _ _ _ _ _ _ (T_40.setTop (mkF m 15 #[Rv a, Lv (t5 >>> ((48 : Int32) &&& 0x3f).toInt64), Zs, Iv (6 : Int32), Lv t5, Zs] [(.long (x6 + (t5 >>> ((48 : Int32) &&& 0x3f).toInt64)))]))
  obtain ⟨t6, ht6⟩ : ∃ z : Int64, z = (x6 + (t5 >>> ((48 : Int32) &&& 0x3f).toInt64)) := ⟨_, rfl⟩
  rw [← ht6]
  show Done _ _ _ _ _ _ _ (T_40.setTop (mkF m 15 #[Rv a, Lv (t5 >>> ((48 : Int32) &&& 0x3f).toInt64), Zs, Iv (6 : Int32), Lv t5, Zs] [(.long t6)]))
  have sg_46 : ∀ tt_, Steps p.tables e below (T_40.setTop (mkF m 25 #[Rv a, Lv (t5 >>> ((48 : Int32) &&& 0x3f).toInt64), Zs, Iv (6 : Int32), Lv t6, Zs] [(.long (t6 &&& (281474976710655 : Int64))), (.int (6 : Int32)), (.ref a)])) tt_ → Steps p.tables e below (T_40.setTop (mkF m 15 #[Rv a, Lv (t5 >>> ((48 : Int32) &&& 0x3f).toInt64), Zs, Iv (6 : Int32), Lv t5, Zs] [(.long t6)])) tt_ := by
    intro tt_ kt_
    refine XS.lstore X_40.here hEX rfl (hb hBY d_prog_59_method_15_code_15) rfl (l' := #[Rv a, Lv (t5 >>> ((48 : Int32) &&& 0x3f).toInt64), Zs, Iv (6 : Int32), Lv t6, Zs]) rfl ?_
    show Steps p.tables e below (T_40.setTop (mkF m 17 #[Rv a, Lv (t5 >>> ((48 : Int32) &&& 0x3f).toInt64), Zs, Iv (6 : Int32), Lv t6, Zs] [])) tt_
    refine XS.aloadN X_40.here hEX rfl (hb hBY d_prog_59_method_15_code_17) rfl rfl ?_
    show Steps p.tables e below (T_40.setTop (mkF m 18 #[Rv a, Lv (t5 >>> ((48 : Int32) &&& 0x3f).toInt64), Zs, Iv (6 : Int32), Lv t6, Zs] [(.ref a)])) tt_
    refine XS.iloadN X_40.here hEX rfl (hb hBY d_prog_59_method_15_code_18) rfl ?_
    show Steps p.tables e below (T_40.setTop (mkF m 19 #[Rv a, Lv (t5 >>> ((48 : Int32) &&& 0x3f).toInt64), Zs, Iv (6 : Int32), Lv t6, Zs] [(.int (6 : Int32)), (.ref a)])) tt_
    refine XS.lload X_40.here hEX rfl (hb hBY d_prog_59_method_15_code_19) rfl ?_
    show Steps p.tables e below (T_40.setTop (mkF m 21 #[Rv a, Lv (t5 >>> ((48 : Int32) &&& 0x3f).toInt64), Zs, Iv (6 : Int32), Lv t6, Zs] [(.long t6), (.int (6 : Int32)), (.ref a)])) tt_
    refine X_40.ldc2Long hEX hOW (mvT hZW (hw _ (List.mem_of_getElem? (i := 23) rfl))) (g := (mkF m 21 #[Rv a, Lv (t5 >>> ((48 : Int32) &&& 0x3f).toInt64), Zs, Iv (6 : Int32), Lv t6, Zs] [(.long t6), (.int (6 : Int32)), (.ref a)])) rfl (hb hBY d_prog_59_method_15_code_21) _ ?_
    show Steps p.tables e below (T_40.setTop (mkF m 24 #[Rv a, Lv (t5 >>> ((48 : Int32) &&& 0x3f).toInt64), Zs, Iv (6 : Int32), Lv t6, Zs] [(.long (281474976710655 : Int64)), (.long t6), (.int (6 : Int32)), (.ref a)])) tt_
    refine XS.land X_40.here hEX rfl (hb hBY d_prog_59_method_15_code_24) rfl ?_
    exact kt_
  refine Done.pre sg_46 ?_
  obtain ⟨cl_45, Ar_45, q_45, S_45, N__45, H_45, G_45⟩ := id f_42
  have hin_45 : ¬ ((6 : Int32) < 0 ∨ cl_45.slots.size ≤ ((6 : Int32)).toNatClampNeg) := inb_of S_45 ⟨by decide, by decide⟩
  obtain ⟨T_47, h_47, X_47, e_47, W_47, st_47⟩ := stJ X_40 hEX hZW e_40 Ar_45 (j := (6 : Int32)) hin_45 (g := (mkF m 25 #[Rv a, Lv (t5 >>> ((48 : Int32) &&& 0x3f).toInt64), Zs, Iv (6 : Int32), Lv t6, Zs] [(.long (t6 &&& (281474976710655 : Int64))), (.int (6 : Int32)), (.ref a)])) rfl rfl (hb hBY d_prog_59_method_15_code_25)
  have N_47 := Fr.snoc X_47 N_40 ga
  have K__48 : Keep h0 h_47 [a] := K__41.wr W_47 (Or.inl (List.mem_of_getElem? (i := 0) rfl))
  have f_49 : Arv Z h_47 a k .long (8 : Int32) [(.long (t0 &&& (281474976710655 : Int64))), (.long (t1 &&& (281474976710655 : Int64))), (.long (t2 &&& (281474976710655 : Int64))), (.long (t3 &&& (281474976710655 : Int64))), (.long (t4 &&& (281474976710655 : Int64))), (.long (t5 &&& (281474976710655 : Int64))), (.long (t6 &&& (281474976710655 : Int64))), (.long x7)] (.long (0 : Int64)) := Arv.set Ar_45 q_45 S_45 N__45 H_45 G_45 rfl W_47 6 rfl (Nat.le_of_ble_eq_true rfl)
  refine Done.pre st_47 ?_
  show Done _ _ _ _ _ _ _ (T_47.setTop (mkF m 26 #[Rv a, Lv (t5 >>> ((48 : Int32) &&& 0x3f).toInt64), Zs, Iv (6 : Int32), Lv t6, Zs] []))
  obtain ⟨cl_50, Ar_50, q_50, S_50, N__50, H_50, G_50⟩ := id f_49
  have hin_50 : ¬ ((7 : Int32) < 0 ∨ cl_50.slots.size ≤ ((7 : Int32)).toNatClampNeg) := inb_of S_50 ⟨by decide, by decide⟩
  have hat_50 : cl_50.slots[((7 : Int32)).toNatClampNeg]? = some (.long x7) := H_50.at hin_50 rfl
  have sg_51 : ∀ tt_, Steps p.tables e below (T_47.setTop (mkF m 15 #[Rv a, Lv (t6 >>> ((48 : Int32) &&& 0x3f).toInt64), Zs, Iv (7 : Int32), Lv t6, Zs] [(.long (x7 + (t6 >>> ((48 : Int32) &&& 0x3f).toInt64)))])) tt_ → Steps p.tables e below (T_47.setTop (mkF m 26 #[Rv a, Lv (t5 >>> ((48 : Int32) &&& 0x3f).toInt64), Zs, Iv (6 : Int32), Lv t6, Zs] [])) tt_ := by
    intro tt_ kt_
    refine XS.lload X_47.here hEX rfl (hb hBY d_prog_59_method_15_code_26) rfl ?_
    show Steps p.tables e below (T_47.setTop (mkF m 28 #[Rv a, Lv (t5 >>> ((48 : Int32) &&& 0x3f).toInt64), Zs, Iv (6 : Int32), Lv t6, Zs] [(.long t6)])) tt_
    refine XS.bipush X_47.here hEX rfl (hb hBY d_prog_59_method_15_code_28) ?_
    show Steps p.tables e below (T_47.setTop (mkF m 30 #[Rv a, Lv (t5 >>> ((48 : Int32) &&& 0x3f).toInt64), Zs, Iv (6 : Int32), Lv t6, Zs] [(.int (48 : Int32)), (.long t6)])) tt_
    refine XS.lshr X_47.here hEX rfl (hb hBY d_prog_59_method_15_code_30) rfl ?_
    show Steps p.tables e below (T_47.setTop (mkF m 31 #[Rv a, Lv (t5 >>> ((48 : Int32) &&& 0x3f).toInt64), Zs, Iv (6 : Int32), Lv t6, Zs] [(.long (t6 >>> ((48 : Int32) &&& 0x3f).toInt64))])) tt_
    refine XS.lstoreN X_47.here hEX rfl (hb hBY d_prog_59_method_15_code_31) rfl (l' := #[Rv a, Lv (t6 >>> ((48 : Int32) &&& 0x3f).toInt64), Zs, Iv (6 : Int32), Lv t6, Zs]) rfl ?_
    show Steps p.tables e below (T_47.setTop (mkF m 32 #[Rv a, Lv (t6 >>> ((48 : Int32) &&& 0x3f).toInt64), Zs, Iv (6 : Int32), Lv t6, Zs] [])) tt_
    refine XS.iinc X_47.here hEX rfl (hb hBY d_prog_59_method_15_code_32) rfl (l' := #[Rv a, Lv (t6 >>> ((48 : Int32) &&& 0x3f).toInt64), Zs, Iv (7 : Int32), Lv t6, Zs]) rfl ?_
    show Steps p.tables e below (T_47.setTop (mkF m 35 #[Rv a, Lv (t6 >>> ((48 : Int32) &&& 0x3f).toInt64), Zs, Iv (7 : Int32), Lv t6, Zs] [])) tt_
    refine XS.goto X_47.here hEX rfl (pc0 := 35) (pc' := 4) rfl (hb hBY d_prog_59_method_15_code_35) (by decide) (by decide) ?_
    show Steps p.tables e below (T_47.setTop (mkF m 4 #[Rv a, Lv (t6 >>> ((48 : Int32) &&& 0x3f).toInt64), Zs, Iv (7 : Int32), Lv t6, Zs] [])) tt_
    refine XS.iloadN X_47.here hEX rfl (hb hBY d_prog_59_method_15_code_4) rfl ?_
    show Steps p.tables e below (T_47.setTop (mkF m 5 #[Rv a, Lv (t6 >>> ((48 : Int32) &&& 0x3f).toInt64), Zs, Iv (7 : Int32), Lv t6, Zs] [(.int (7 : Int32))])) tt_
    refine XS.bipush X_47.here hEX rfl (hb hBY d_prog_59_method_15_code_5) ?_
    show Steps p.tables e below (T_47.setTop (mkF m 7 #[Rv a, Lv (t6 >>> ((48 : Int32) &&& 0x3f).toInt64), Zs, Iv (7 : Int32), Lv t6, Zs] [(.int (8 : Int32)), (.int (7 : Int32))])) tt_
    refine XS.icmpNo X_47.here hEX rfl (hb hBY d_prog_59_method_15_code_7) rfl (tlt (by decide : (7 : Int32) < (8 : Int32))).2.1 ?_
    show Steps p.tables e below (T_47.setTop (mkF m 10 #[Rv a, Lv (t6 >>> ((48 : Int32) &&& 0x3f).toInt64), Zs, Iv (7 : Int32), Lv t6, Zs] [])) tt_
    refine XS.aloadN X_47.here hEX rfl (hb hBY d_prog_59_method_15_code_10) rfl rfl ?_
    show Steps p.tables e below (T_47.setTop (mkF m 11 #[Rv a, Lv (t6 >>> ((48 : Int32) &&& 0x3f).toInt64), Zs, Iv (7 : Int32), Lv t6, Zs] [(.ref a)])) tt_
    refine XS.iloadN X_47.here hEX rfl (hb hBY d_prog_59_method_15_code_11) rfl ?_
    show Steps p.tables e below (T_47.setTop (mkF m 12 #[Rv a, Lv (t6 >>> ((48 : Int32) &&& 0x3f).toInt64), Zs, Iv (7 : Int32), Lv t6, Zs] [(.int (7 : Int32)), (.ref a)])) tt_
    refine X_47.laload hEX (j := (7 : Int32)) (v := (.long x7)) (by rw [e_47]; exact Ar_50.1) (State.isArrayOf_alike hZW.alike Ar_50.2.1) Ar_50.2.2 hin_50 hat_50 (g := (mkF m 12 #[Rv a, Lv (t6 >>> ((48 : Int32) &&& 0x3f).toInt64), Zs, Iv (7 : Int32), Lv t6, Zs] [(.int (7 : Int32)), (.ref a)])) rfl rfl (hb hBY d_prog_59_method_15_code_12) _ ?_
    show Steps p.tables e below (T_47.setTop (mkF m 13 #[Rv a, Lv (t6 >>> ((48 : Int32) &&& 0x3f).toInt64), Zs, Iv (7 : Int32), Lv t6, Zs] [(.long x7)])) tt_
    refine XS.lloadN X_47.here hEX rfl (hb hBY d_prog_59_method_15_code_13) rfl ?_
    show Steps p.tables e below (T_47.setTop (mkF m 14 #[Rv a, Lv (t6 >>> ((48 : Int32) &&& 0x3f).toInt64), Zs, Iv (7 : Int32), Lv t6, Zs] [(.long (t6 >>> ((48 : Int32) &&& 0x3f).toInt64)), (.long x7)])) tt_
    refine XS.ladd X_47.here hEX rfl (hb hBY d_prog_59_method_15_code_14) rfl ?_
    exact kt_
  refine Done.pre sg_51 ?_
  show Done _ _ _ _ _ _ _ (T_47.setTop (mkF m 15 #[Rv a, Lv (t6 >>> ((48 : Int32) &&& 0x3f).toInt64), Zs, Iv (7 : Int32), Lv t6, Zs] [(.long (x7 + (t6 >>> ((48 : Int32) &&& 0x3f).toInt64)))]))
  obtain ⟨t7, ht7⟩ : ∃ z : Int64, z = (x7 + (t6 >>> ((48 : Int32) &&& 0x3f).toInt64)) := ⟨_, rfl⟩
  rw [← ht7]
  show Done _ _ _ _ _ _ _ (T_47.setTop (mkF m 15 #[Rv a, Lv (t6 >>> ((48 : Int32) &&& 0x3f).toInt64), Zs, Iv (7 : Int32), Lv t6, Zs] [(.long t7)]))
  have sg_53 : ∀ tt_, Steps p.tables e below (T_47.setTop (mkF m 25 #[Rv a, Lv (t6 >>> ((48 : Int32) &&& 0x3f).toInt64), Zs, Iv (7 : Int32), Lv t7, Zs] [(.long (t7 &&& (281474976710655 : Int64))), (.int (7 : Int32)), (.ref a)])) tt_ → Steps p.tables e below (T_47.setTop (mkF m 15 #[Rv a, Lv (t6 >>> ((48 : Int32) &&& 0x3f).toInt64), Zs, Iv (7 : Int32), Lv t6, Zs] [(.long t7)])) tt_ := by
    intro tt_ kt_
    refine XS.lstore X_47.here hEX rfl (hb hBY d_prog_59_method_15_code_15) rfl (l' := #[Rv a, Lv (t6 >>> ((48 : Int32) &&& 0x3f).toInt64), Zs, Iv (7 : Int32), Lv t7, Zs]) rfl ?_
    show Steps p.tables e below (T_47.setTop (mkF m 17 #[Rv a, Lv (t6 >>> ((48 : Int32) &&& 0x3f).toInt64), Zs, Iv (7 : Int32), Lv t7, Zs] [])) tt_
    refine XS.aloadN X_47.here hEX rfl (hb hBY d_prog_59_method_15_code_17) rfl rfl ?_
    show Steps p.tables e below (T_47.setTop (mkF m 18 #[Rv a, Lv (t6 >>> ((48 : Int32) &&& 0x3f).toInt64), Zs, Iv (7 : Int32), Lv t7, Zs] [(.ref a)])) tt_
    refine XS.iloadN X_47.here hEX rfl (hb hBY d_prog_59_method_15_code_18) rfl ?_
    show Steps p.tables e below (T_47.setTop (mkF m 19 #[Rv a, Lv (t6 >>> ((48 : Int32) &&& 0x3f).toInt64), Zs, Iv (7 : Int32), Lv t7, Zs] [(.int (7 : Int32)), (.ref a)])) tt_
    refine XS.lload X_47.here hEX rfl (hb hBY d_prog_59_method_15_code_19) rfl ?_
    show Steps p.tables e below (T_47.setTop (mkF m 21 #[Rv a, Lv (t6 >>> ((48 : Int32) &&& 0x3f).toInt64), Zs, Iv (7 : Int32), Lv t7, Zs] [(.long t7), (.int (7 : Int32)), (.ref a)])) tt_
    refine X_47.ldc2Long hEX hOW (mvT hZW (hw _ (List.mem_of_getElem? (i := 23) rfl))) (g := (mkF m 21 #[Rv a, Lv (t6 >>> ((48 : Int32) &&& 0x3f).toInt64), Zs, Iv (7 : Int32), Lv t7, Zs] [(.long t7), (.int (7 : Int32)), (.ref a)])) rfl (hb hBY d_prog_59_method_15_code_21) _ ?_
    show Steps p.tables e below (T_47.setTop (mkF m 24 #[Rv a, Lv (t6 >>> ((48 : Int32) &&& 0x3f).toInt64), Zs, Iv (7 : Int32), Lv t7, Zs] [(.long (281474976710655 : Int64)), (.long t7), (.int (7 : Int32)), (.ref a)])) tt_
    refine XS.land X_47.here hEX rfl (hb hBY d_prog_59_method_15_code_24) rfl ?_
    exact kt_
  refine Done.pre sg_53 ?_
  obtain ⟨cl_52, Ar_52, q_52, S_52, N__52, H_52, G_52⟩ := id f_49
  have hin_52 : ¬ ((7 : Int32) < 0 ∨ cl_52.slots.size ≤ ((7 : Int32)).toNatClampNeg) := inb_of S_52 ⟨by decide, by decide⟩
  obtain ⟨T_54, h_54, X_54, e_54, W_54, st_54⟩ := stJ X_47 hEX hZW e_47 Ar_52 (j := (7 : Int32)) hin_52 (g := (mkF m 25 #[Rv a, Lv (t6 >>> ((48 : Int32) &&& 0x3f).toInt64), Zs, Iv (7 : Int32), Lv t7, Zs] [(.long (t7 &&& (281474976710655 : Int64))), (.int (7 : Int32)), (.ref a)])) rfl rfl (hb hBY d_prog_59_method_15_code_25)
  have N_54 := Fr.snoc X_54 N_47 ga
  have K__55 : Keep h0 h_54 [a] := K__48.wr W_54 (Or.inl (List.mem_of_getElem? (i := 0) rfl))
  have f_56 : Arv Z h_54 a k .long (8 : Int32) [(.long (t0 &&& (281474976710655 : Int64))), (.long (t1 &&& (281474976710655 : Int64))), (.long (t2 &&& (281474976710655 : Int64))), (.long (t3 &&& (281474976710655 : Int64))), (.long (t4 &&& (281474976710655 : Int64))), (.long (t5 &&& (281474976710655 : Int64))), (.long (t6 &&& (281474976710655 : Int64))), (.long (t7 &&& (281474976710655 : Int64)))] (.long (0 : Int64)) := Arv.set Ar_52 q_52 S_52 N__52 H_52 G_52 rfl W_54 7 rfl (Nat.le_of_ble_eq_true rfl)
  refine Done.pre st_54 ?_
  show Done _ _ _ _ _ _ _ (T_54.setTop (mkF m 26 #[Rv a, Lv (t6 >>> ((48 : Int32) &&& 0x3f).toInt64), Zs, Iv (7 : Int32), Lv t7, Zs] []))
  have sg_57 : ∀ tt_, Steps p.tables e below (T_54.setTop (mkF m 39 #[Rv a, Lv (t7 >>> ((48 : Int32) &&& 0x3f).toInt64), Zs, Iv (8 : Int32), Lv t7, Zs] [(.long (t7 >>> ((48 : Int32) &&& 0x3f).toInt64))])) tt_ → Steps p.tables e below (T_54.setTop (mkF m 26 #[Rv a, Lv (t6 >>> ((48 : Int32) &&& 0x3f).toInt64), Zs, Iv (7 : Int32), Lv t7, Zs] [])) tt_ := by
    intro tt_ kt_
    refine XS.lload X_54.here hEX rfl (hb hBY d_prog_59_method_15_code_26) rfl ?_
    show Steps p.tables e below (T_54.setTop (mkF m 28 #[Rv a, Lv (t6 >>> ((48 : Int32) &&& 0x3f).toInt64), Zs, Iv (7 : Int32), Lv t7, Zs] [(.long t7)])) tt_
    refine XS.bipush X_54.here hEX rfl (hb hBY d_prog_59_method_15_code_28) ?_
    show Steps p.tables e below (T_54.setTop (mkF m 30 #[Rv a, Lv (t6 >>> ((48 : Int32) &&& 0x3f).toInt64), Zs, Iv (7 : Int32), Lv t7, Zs] [(.int (48 : Int32)), (.long t7)])) tt_
    refine XS.lshr X_54.here hEX rfl (hb hBY d_prog_59_method_15_code_30) rfl ?_
    show Steps p.tables e below (T_54.setTop (mkF m 31 #[Rv a, Lv (t6 >>> ((48 : Int32) &&& 0x3f).toInt64), Zs, Iv (7 : Int32), Lv t7, Zs] [(.long (t7 >>> ((48 : Int32) &&& 0x3f).toInt64))])) tt_
    refine XS.lstoreN X_54.here hEX rfl (hb hBY d_prog_59_method_15_code_31) rfl (l' := #[Rv a, Lv (t7 >>> ((48 : Int32) &&& 0x3f).toInt64), Zs, Iv (7 : Int32), Lv t7, Zs]) rfl ?_
    show Steps p.tables e below (T_54.setTop (mkF m 32 #[Rv a, Lv (t7 >>> ((48 : Int32) &&& 0x3f).toInt64), Zs, Iv (7 : Int32), Lv t7, Zs] [])) tt_
    refine XS.iinc X_54.here hEX rfl (hb hBY d_prog_59_method_15_code_32) rfl (l' := #[Rv a, Lv (t7 >>> ((48 : Int32) &&& 0x3f).toInt64), Zs, Iv (8 : Int32), Lv t7, Zs]) rfl ?_
    show Steps p.tables e below (T_54.setTop (mkF m 35 #[Rv a, Lv (t7 >>> ((48 : Int32) &&& 0x3f).toInt64), Zs, Iv (8 : Int32), Lv t7, Zs] [])) tt_
    refine XS.goto X_54.here hEX rfl (pc0 := 35) (pc' := 4) rfl (hb hBY d_prog_59_method_15_code_35) (by decide) (by decide) ?_
    show Steps p.tables e below (T_54.setTop (mkF m 4 #[Rv a, Lv (t7 >>> ((48 : Int32) &&& 0x3f).toInt64), Zs, Iv (8 : Int32), Lv t7, Zs] [])) tt_
    refine XS.iloadN X_54.here hEX rfl (hb hBY d_prog_59_method_15_code_4) rfl ?_
    show Steps p.tables e below (T_54.setTop (mkF m 5 #[Rv a, Lv (t7 >>> ((48 : Int32) &&& 0x3f).toInt64), Zs, Iv (8 : Int32), Lv t7, Zs] [(.int (8 : Int32))])) tt_
    refine XS.bipush X_54.here hEX rfl (hb hBY d_prog_59_method_15_code_5) ?_
    show Steps p.tables e below (T_54.setTop (mkF m 7 #[Rv a, Lv (t7 >>> ((48 : Int32) &&& 0x3f).toInt64), Zs, Iv (8 : Int32), Lv t7, Zs] [(.int (8 : Int32)), (.int (8 : Int32))])) tt_
    refine XS.icmpYes X_54.here hEX rfl (pc0 := 7) (pc' := 38) rfl (hb hBY d_prog_59_method_15_code_7) rfl (flt (by decide : ¬ ((8 : Int32) < (8 : Int32)))).2.1 (by decide) (by decide) ?_
    show Steps p.tables e below (T_54.setTop (mkF m 38 #[Rv a, Lv (t7 >>> ((48 : Int32) &&& 0x3f).toInt64), Zs, Iv (8 : Int32), Lv t7, Zs] [])) tt_
    refine XS.lloadN X_54.here hEX rfl (hb hBY d_prog_59_method_15_code_38) rfl ?_
    exact kt_
  refine Done.pre sg_57 ?_
  exact Done.retL X_54 hEX hLK hRT (hb hBY d_prog_59_method_15_code_39) (by rw [e_54]; exact ⟨(t0 &&& (281474976710655 : Int64)), (t1 &&& (281474976710655 : Int64)), (t2 &&& (281474976710655 : Int64)), (t3 &&& (281474976710655 : Int64)), (t4 &&& (281474976710655 : Int64)), (t5 &&& (281474976710655 : Int64)), (t6 &&& (281474976710655 : Int64)), (t7 &&& (281474976710655 : Int64)), (t7 >>> ((48 : Int32) &&& 0x3f).toInt64), rfl, N_54, K__55, f_56, (own_prop x0 x1 x2 x3 x4 x5 x6 x7 t0 t1 t2 t3 t4 t5 t6 t7 (t7 >>> ((48 : Int32) &&& 0x3f).toInt64) hR ht0 ht1 ht2 ht3 ht4 ht5 ht6 ht7 rfl).1, (own_prop x0 x1 x2 x3 x4 x5 x6 x7 t0 t1 t2 t3 t4 t5 t6 t7 (t7 >>> ((48 : Int32) &&& 0x3f).toInt64) hR ht0 ht1 ht2 ht3 ht4 ht5 ht6 ht7 rfl).2⟩) (by decide) (by decide)
theorem d_prog_59_method_14_code_0 : decode prog_59_method_14_code 0 = .ok (.lload_n 1, 1) := by decide +kernel
theorem d_prog_59_method_14_code_1 : decode prog_59_method_14_code 1 = .ok (.ldc2_w 56, 3) := by decide +kernel
theorem d_prog_59_method_14_code_4 : decode prog_59_method_14_code 4 = .ok (.land, 1) := by decide +kernel
theorem d_prog_59_method_14_code_5 : decode prog_59_method_14_code 5 = .ok (.bipush 32, 2) := by decide +kernel
theorem d_prog_59_method_14_code_7 : decode prog_59_method_14_code 7 = .ok (.lshl, 1) := by decide +kernel
theorem d_prog_59_method_14_code_8 : decode prog_59_method_14_code 8 = .ok (.lstore_n 3, 1) := by decide +kernel
theorem d_prog_59_method_14_code_9 : decode prog_59_method_14_code 9 = .ok (.lload_n 1, 1) := by decide +kernel
theorem d_prog_59_method_14_code_10 : decode prog_59_method_14_code 10 = .ok (.bipush 16, 2) := by decide +kernel
theorem d_prog_59_method_14_code_12 : decode prog_59_method_14_code 12 = .ok (.lshr, 1) := by decide +kernel
theorem d_prog_59_method_14_code_13 : decode prog_59_method_14_code 13 = .ok (.lstore 5, 2) := by decide +kernel
theorem d_prog_59_method_14_code_15 : decode prog_59_method_14_code 15 = .ok (.aload_n 0, 1) := by decide +kernel
theorem d_prog_59_method_14_code_16 : decode prog_59_method_14_code 16 = .ok (.iconst 0, 1) := by decide +kernel
theorem d_prog_59_method_14_code_17 : decode prog_59_method_14_code 17 = .ok (.dup2, 1) := by decide +kernel
theorem d_prog_59_method_14_code_18 : decode prog_59_method_14_code 18 = .ok (.laload, 1) := by decide +kernel
theorem d_prog_59_method_14_code_19 : decode prog_59_method_14_code 19 = .ok (.lload_n 1, 1) := by decide +kernel
theorem d_prog_59_method_14_code_20 : decode prog_59_method_14_code 20 = .ok (.lload_n 3, 1) := by decide +kernel
theorem d_prog_59_method_14_code_21 : decode prog_59_method_14_code 21 = .ok (.lsub, 1) := by decide +kernel
theorem d_prog_59_method_14_code_22 : decode prog_59_method_14_code 22 = .ok (.ladd, 1) := by decide +kernel
theorem d_prog_59_method_14_code_23 : decode prog_59_method_14_code 23 = .ok (.lastore, 1) := by decide +kernel
theorem d_prog_59_method_14_code_24 : decode prog_59_method_14_code 24 = .ok (.aload_n 0, 1) := by decide +kernel
theorem d_prog_59_method_14_code_25 : decode prog_59_method_14_code 25 = .ok (.iconst 1, 1) := by decide +kernel
theorem d_prog_59_method_14_code_26 : decode prog_59_method_14_code 26 = .ok (.dup2, 1) := by decide +kernel
theorem d_prog_59_method_14_code_27 : decode prog_59_method_14_code 27 = .ok (.laload, 1) := by decide +kernel
theorem d_prog_59_method_14_code_28 : decode prog_59_method_14_code 28 = .ok (.lload 5, 2) := by decide +kernel
theorem d_prog_59_method_14_code_30 : decode prog_59_method_14_code 30 = .ok (.lsub, 1) := by decide +kernel
theorem d_prog_59_method_14_code_31 : decode prog_59_method_14_code 31 = .ok (.lastore, 1) := by decide +kernel
theorem d_prog_59_method_14_code_32 : decode prog_59_method_14_code 32 = .ok (.aload_n 0, 1) := by decide +kernel
theorem d_prog_59_method_14_code_33 : decode prog_59_method_14_code 33 = .ok (.iconst 2, 1) := by decide +kernel
theorem d_prog_59_method_14_code_34 : decode prog_59_method_14_code 34 = .ok (.dup2, 1) := by decide +kernel
theorem d_prog_59_method_14_code_35 : decode prog_59_method_14_code 35 = .ok (.laload, 1) := by decide +kernel
theorem d_prog_59_method_14_code_36 : decode prog_59_method_14_code 36 = .ok (.lload_n 1, 1) := by decide +kernel
theorem d_prog_59_method_14_code_37 : decode prog_59_method_14_code 37 = .ok (.lload_n 3, 1) := by decide +kernel
theorem d_prog_59_method_14_code_38 : decode prog_59_method_14_code 38 = .ok (.ladd, 1) := by decide +kernel
theorem d_prog_59_method_14_code_39 : decode prog_59_method_14_code 39 = .ok (.ladd, 1) := by decide +kernel
theorem d_prog_59_method_14_code_40 : decode prog_59_method_14_code 40 = .ok (.lastore, 1) := by decide +kernel
theorem d_prog_59_method_14_code_41 : decode prog_59_method_14_code 41 = .ok (.aload_n 0, 1) := by decide +kernel
theorem d_prog_59_method_14_code_42 : decode prog_59_method_14_code 42 = .ok (.iconst 3, 1) := by decide +kernel
theorem d_prog_59_method_14_code_43 : decode prog_59_method_14_code 43 = .ok (.dup2, 1) := by decide +kernel
theorem d_prog_59_method_14_code_44 : decode prog_59_method_14_code 44 = .ok (.laload, 1) := by decide +kernel
theorem d_prog_59_method_14_code_45 : decode prog_59_method_14_code 45 = .ok (.lload 5, 2) := by decide +kernel
theorem d_prog_59_method_14_code_47 : decode prog_59_method_14_code 47 = .ok (.ladd, 1) := by decide +kernel
theorem d_prog_59_method_14_code_48 : decode prog_59_method_14_code 48 = .ok (.lastore, 1) := by decide +kernel
theorem d_prog_59_method_14_code_49 : decode prog_59_method_14_code 49 = .ok (.return_, 1) := by decide +kernel
def Qrm_fold (Z : State) (a : Addr) (c : Int64) (k : ClassId) (x0 : Int64) (x1 : Int64) (x2 : Int64) (x3 : Int64) (x4 : Int64) (x5 : Int64) (x6 : Int64) (x7 : Int64) (h0 : Heap) (n0 : Nat) (v_ : Option Value) (h_ : Heap) (L_ : List Loc) : Prop := ∃ (z0 : Int64), ∃ (z1 : Int64), ∃ (z2 : Int64), ∃ (z3 : Int64), ∃ (z4 : Int64), ∃ (z5 : Int64), ∃ (z6 : Int64), ∃ (z7 : Int64), v_ = none ∧ Fr n0 L_ ∧ Keep h0 h_ [a] ∧ Arv Z h_ a k .long (8 : Int32) [(.long z0), (.long z1), (.long z2), (.long z3), (.long z4), (.long z5), (.long z6), (.long z7)] (.long (0 : Int64)) ∧ own_R 562949953421440 z0 z1 z2 z3 z4 z5 z6 z7 ∧ own_W z0 z1 z2 z3 z4 z5 z6 z7 = own_W x0 x1 x2 x3 x4 x5 x6 x7 + c.toInt * 340282367000166625977638945021017194497
theorem ef_rm_fold (m : MethodId) (x0 : Addr) (x1 : Int64) : entryFrame m #[(.ref x0), (.long x1)] 7 = mkF m 0 #[.val (.ref x0), .val (.long x1), .second, .unset, .unset, .unset, .unset] [] := by first | (simp [entryFrame, mkF, argsToLocals, Value.category]; done) | rfl
set_option maxRecDepth 65536 in
set_option maxHeartbeats 40000000 in
theorem rm_fold (l : Launch) (Z : State) (aZ : Array Value) (hw : ∀ d ∈ tables_1, d.before aZ Z = true) (ws : List Jvm.Cond) (a : Addr) (c : Int64) (k : ClassId) (x0 : Int64) (x1 : Int64) (x2 : Int64) (x3 : Int64) (x4 : Int64) (x5 : Int64) (x6 : Int64) (x7 : Int64) (h0 : Heap) (n0 : Nat) (Z0 : n0 ≤ h0.size) (Aa : Arv Z h0 a k .long (8 : Int32) [(.long x0), (.long x1), (.long x2), (.long x3), (.long x4), (.long x5), (.long x6), (.long x7)] (.long (0 : Int64))) (ga : n0 ≤ a) (hC : own_C x0 x1 x2 x3 x4 x5 x6 x7) (hc : -8 ≤ c.toInt ∧ c.toInt ≤ 8) :
    MetFree l (⟨"com/example/guard3/guard3/P384Field", "fold", "([JJ)V"⟩ : MethodName) (head1 (Jvm.Cond.code (⟨"com/example/guard3/guard3/P384Field", "fold", "([JJ)V"⟩ : MethodName) prog_59_method_14_code 7 none :: ws) ({ frames := 0, cells := 0, slots := 0, locals := 0 } : Room)) (fun a_ U_ => a_ = #[(.ref a), (.long c)] ∧ Z.Warmed39 U_.vm ∧ U_.heap = h0) (fun _ _ _ _ _ => True) (fun _ U_ o_ U2_ => ∃ v_ L_, o_ = .returned v_ ∧ Qrm_fold Z a c k x0 x1 x2 x3 x4 x5 x6 x7 h0 n0 v_ U2_.heap L_ ∧ FrameEnd U_ o_ U2_ L_ ({ frames := 0, cells := 0, slots := 0, locals := 0 } : Room).cells ({ frames := 0, cells := 0, slots := 0, locals := 0 } : Room).slots) := by
  refine MetFree.of_bodySF (plainFor_of_name pn_com_example_guard3_guard3_P384Field) hisR ?_
  intro p e s m args below meth cO s₁ Bd hml0 hP hK
  obtain ⟨rfl, hZW, hh⟩ := hP
  have hEX := Bd.exec
  have hBY := Bd.bytes
  have hMX : cO.maxLocals = 7 := hml0
  have hOW : s.vm.findClass "com/example/guard3/guard3/P384Field" = some m.cls := findClass_of_methodNamed Bd.named
  have hNM := (name_of_methodNamed Bd.named Bd.method).1
  have hLK := Bd.notSynchronized
  have hRT := Bd.returns
  have X0 : Stand p l e ({ frames := 0, cells := 0, slots := 0, locals := 0 } : Room) s m #[(.ref a), (.long c)] below meth cO s₁ [] 0 0 := Stand.of_body Bd
  have e0 : s₁.heap = h0 := by rw [← hh, Bd.state]; rfl
  have N0 := Fr.nil n0
  have K0 : Keep h0 h0 [a] := Keep.refl _ _
  show Done p e below s (Qrm_fold Z a c k x0 x1 x2 x3 x4 x5 x6 x7 h0 n0) ({ frames := 0, cells := 0, slots := 0, locals := 0 } : Room).cells ({ frames := 0, cells := 0, slots := 0, locals := 0 } : Room).slots (s₁.setTop (entryFrame m #[(.ref a), (.long c)] 7))
  refine Done.pre (fun t_ k_ => castTop (ef_rm_fold m a c) k_) ?_
  show Done _ _ _ _ _ _ _ (s₁.setTop (mkF m 0 #[Rv a, Lv c, Zs, Us, Us, Us, Us] []))
  have sg_1 : ∀ tt_, Steps p.tables e below (s₁.setTop (mkF m 8 #[Rv a, Lv c, Zs, Us, Us, Us, Us] [(.long ((c &&& (65535 : Int64)) <<< ((32 : Int32) &&& 0x3f).toInt64))])) tt_ → Steps p.tables e below (s₁.setTop (mkF m 0 #[Rv a, Lv c, Zs, Us, Us, Us, Us] [])) tt_ := by
    intro tt_ kt_
    refine XS.lloadN X0.here hEX rfl (hb hBY d_prog_59_method_14_code_0) rfl ?_
    show Steps p.tables e below (s₁.setTop (mkF m 1 #[Rv a, Lv c, Zs, Us, Us, Us, Us] [(.long c)])) tt_
    refine X0.ldc2Long hEX hOW (mvT hZW (hw _ (List.mem_of_getElem? (i := 24) rfl))) (g := (mkF m 1 #[Rv a, Lv c, Zs, Us, Us, Us, Us] [(.long c)])) rfl (hb hBY d_prog_59_method_14_code_1) _ ?_
    show Steps p.tables e below (s₁.setTop (mkF m 4 #[Rv a, Lv c, Zs, Us, Us, Us, Us] [(.long (65535 : Int64)), (.long c)])) tt_
    refine XS.land X0.here hEX rfl (hb hBY d_prog_59_method_14_code_4) rfl ?_
    show Steps p.tables e below (s₁.setTop (mkF m 5 #[Rv a, Lv c, Zs, Us, Us, Us, Us] [(.long (c &&& (65535 : Int64)))])) tt_
    refine XS.bipush X0.here hEX rfl (hb hBY d_prog_59_method_14_code_5) ?_
    show Steps p.tables e below (s₁.setTop (mkF m 7 #[Rv a, Lv c, Zs, Us, Us, Us, Us] [(.int (32 : Int32)), (.long (c &&& (65535 : Int64)))])) tt_
    refine XS.lshl X0.here hEX rfl (hb hBY d_prog_59_method_14_code_7) rfl ?_
    exact kt_
  refine Done.pre sg_1 ?_
  show Done _ _ _ _ _ _ _ (s₁.setTop (mkF m 8 #[Rv a, Lv c, Zs, Us, Us, Us, Us] [(.long ((c &&& (65535 : Int64)) <<< ((32 : Int32) &&& 0x3f).toInt64))]))
  obtain ⟨lo, hlo⟩ : ∃ z : Int64, z = ((c &&& (65535 : Int64)) <<< ((32 : Int32) &&& 0x3f).toInt64) := ⟨_, rfl⟩
  rw [← hlo]
  show Done _ _ _ _ _ _ _ (s₁.setTop (mkF m 8 #[Rv a, Lv c, Zs, Us, Us, Us, Us] [(.long lo)]))
  have sg_2 : ∀ tt_, Steps p.tables e below (s₁.setTop (mkF m 13 #[Rv a, Lv c, Zs, Lv lo, Zs, Us, Us] [(.long (c >>> ((16 : Int32) &&& 0x3f).toInt64))])) tt_ → Steps p.tables e below (s₁.setTop (mkF m 8 #[Rv a, Lv c, Zs, Us, Us, Us, Us] [(.long lo)])) tt_ := by
    intro tt_ kt_
    refine XS.lstoreN X0.here hEX rfl (hb hBY d_prog_59_method_14_code_8) rfl (l' := #[Rv a, Lv c, Zs, Lv lo, Zs, Us, Us]) rfl ?_
    show Steps p.tables e below (s₁.setTop (mkF m 9 #[Rv a, Lv c, Zs, Lv lo, Zs, Us, Us] [])) tt_
    refine XS.lloadN X0.here hEX rfl (hb hBY d_prog_59_method_14_code_9) rfl ?_
    show Steps p.tables e below (s₁.setTop (mkF m 10 #[Rv a, Lv c, Zs, Lv lo, Zs, Us, Us] [(.long c)])) tt_
    refine XS.bipush X0.here hEX rfl (hb hBY d_prog_59_method_14_code_10) ?_
    show Steps p.tables e below (s₁.setTop (mkF m 12 #[Rv a, Lv c, Zs, Lv lo, Zs, Us, Us] [(.int (16 : Int32)), (.long c)])) tt_
    refine XS.lshr X0.here hEX rfl (hb hBY d_prog_59_method_14_code_12) rfl ?_
    exact kt_
  refine Done.pre sg_2 ?_
  show Done _ _ _ _ _ _ _ (s₁.setTop (mkF m 13 #[Rv a, Lv c, Zs, Lv lo, Zs, Us, Us] [(.long (c >>> ((16 : Int32) &&& 0x3f).toInt64))]))
  obtain ⟨hi, hhi⟩ : ∃ z : Int64, z = (c >>> ((16 : Int32) &&& 0x3f).toInt64) := ⟨_, rfl⟩
  rw [← hhi]
  show Done _ _ _ _ _ _ _ (s₁.setTop (mkF m 13 #[Rv a, Lv c, Zs, Lv lo, Zs, Us, Us] [(.long hi)]))
  obtain ⟨cl_3, Ar_3, q_3, S_3, N__3, H_3, G_3⟩ := id Aa
  have hin_3 : ¬ ((0 : Int32) < 0 ∨ cl_3.slots.size ≤ ((0 : Int32)).toNatClampNeg) := inb_of S_3 ⟨by decide, by decide⟩
  have hat_3 : cl_3.slots[((0 : Int32)).toNatClampNeg]? = some (.long x0) := H_3.at hin_3 rfl
  have sg_5 : ∀ tt_, Steps p.tables e below (s₁.setTop (mkF m 23 #[Rv a, Lv c, Zs, Lv lo, Zs, Lv hi, Zs] [(.long (x0 + (c - lo))), (.int (0 : Int32)), (.ref a)])) tt_ → Steps p.tables e below (s₁.setTop (mkF m 13 #[Rv a, Lv c, Zs, Lv lo, Zs, Us, Us] [(.long hi)])) tt_ := by
    intro tt_ kt_
    refine XS.lstore X0.here hEX rfl (hb hBY d_prog_59_method_14_code_13) rfl (l' := #[Rv a, Lv c, Zs, Lv lo, Zs, Lv hi, Zs]) rfl ?_
    show Steps p.tables e below (s₁.setTop (mkF m 15 #[Rv a, Lv c, Zs, Lv lo, Zs, Lv hi, Zs] [])) tt_
    refine XS.aloadN X0.here hEX rfl (hb hBY d_prog_59_method_14_code_15) rfl rfl ?_
    show Steps p.tables e below (s₁.setTop (mkF m 16 #[Rv a, Lv c, Zs, Lv lo, Zs, Lv hi, Zs] [(.ref a)])) tt_
    refine XS.iconst X0.here hEX rfl (hb hBY d_prog_59_method_14_code_16) ?_
    show Steps p.tables e below (s₁.setTop (mkF m 17 #[Rv a, Lv c, Zs, Lv lo, Zs, Lv hi, Zs] [(.int (0 : Int32)), (.ref a)])) tt_
    refine XT.dup2 X0.here hEX rfl (hb hBY d_prog_59_method_14_code_17) rfl rfl rfl ?_
    show Steps p.tables e below (s₁.setTop (mkF m 18 #[Rv a, Lv c, Zs, Lv lo, Zs, Lv hi, Zs] [(.int (0 : Int32)), (.ref a), (.int (0 : Int32)), (.ref a)])) tt_
    refine X0.laload hEX (j := (0 : Int32)) (v := (.long x0)) (by rw [e0]; exact Ar_3.1) (State.isArrayOf_alike hZW.alike Ar_3.2.1) Ar_3.2.2 hin_3 hat_3 (g := (mkF m 18 #[Rv a, Lv c, Zs, Lv lo, Zs, Lv hi, Zs] [(.int (0 : Int32)), (.ref a), (.int (0 : Int32)), (.ref a)])) rfl rfl (hb hBY d_prog_59_method_14_code_18) _ ?_
    show Steps p.tables e below (s₁.setTop (mkF m 19 #[Rv a, Lv c, Zs, Lv lo, Zs, Lv hi, Zs] [(.long x0), (.int (0 : Int32)), (.ref a)])) tt_
    refine XS.lloadN X0.here hEX rfl (hb hBY d_prog_59_method_14_code_19) rfl ?_
    show Steps p.tables e below (s₁.setTop (mkF m 20 #[Rv a, Lv c, Zs, Lv lo, Zs, Lv hi, Zs] [(.long c), (.long x0), (.int (0 : Int32)), (.ref a)])) tt_
    refine XS.lloadN X0.here hEX rfl (hb hBY d_prog_59_method_14_code_20) rfl ?_
    show Steps p.tables e below (s₁.setTop (mkF m 21 #[Rv a, Lv c, Zs, Lv lo, Zs, Lv hi, Zs] [(.long lo), (.long c), (.long x0), (.int (0 : Int32)), (.ref a)])) tt_
    refine XS.lsub X0.here hEX rfl (hb hBY d_prog_59_method_14_code_21) rfl ?_
    show Steps p.tables e below (s₁.setTop (mkF m 22 #[Rv a, Lv c, Zs, Lv lo, Zs, Lv hi, Zs] [(.long (c - lo)), (.long x0), (.int (0 : Int32)), (.ref a)])) tt_
    refine XS.ladd X0.here hEX rfl (hb hBY d_prog_59_method_14_code_22) rfl ?_
    exact kt_
  refine Done.pre sg_5 ?_
  obtain ⟨cl_4, Ar_4, q_4, S_4, N__4, H_4, G_4⟩ := id Aa
  have hin_4 : ¬ ((0 : Int32) < 0 ∨ cl_4.slots.size ≤ ((0 : Int32)).toNatClampNeg) := inb_of S_4 ⟨by decide, by decide⟩
  obtain ⟨T_6, h_6, X_6, e_6, W_6, st_6⟩ := stJ X0 hEX hZW e0 Ar_4 (j := (0 : Int32)) hin_4 (g := (mkF m 23 #[Rv a, Lv c, Zs, Lv lo, Zs, Lv hi, Zs] [(.long (x0 + (c - lo))), (.int (0 : Int32)), (.ref a)])) rfl rfl (hb hBY d_prog_59_method_14_code_23)
  have N_6 := Fr.snoc X_6 N0 ga
  have K__7 : Keep h0 h_6 [a] := K0.wr W_6 (Or.inl (List.mem_of_getElem? (i := 0) rfl))
  have f_8 : Arv Z h_6 a k .long (8 : Int32) [(.long (x0 + (c - lo))), (.long x1), (.long x2), (.long x3), (.long x4), (.long x5), (.long x6), (.long x7)] (.long (0 : Int64)) := Arv.set Ar_4 q_4 S_4 N__4 H_4 G_4 rfl W_6 0 rfl (Nat.le_of_ble_eq_true rfl)
  refine Done.pre st_6 ?_
  show Done _ _ _ _ _ _ _ (T_6.setTop (mkF m 24 #[Rv a, Lv c, Zs, Lv lo, Zs, Lv hi, Zs] []))
  obtain ⟨cl_9, Ar_9, q_9, S_9, N__9, H_9, G_9⟩ := id f_8
  have hin_9 : ¬ ((1 : Int32) < 0 ∨ cl_9.slots.size ≤ ((1 : Int32)).toNatClampNeg) := inb_of S_9 ⟨by decide, by decide⟩
  have hat_9 : cl_9.slots[((1 : Int32)).toNatClampNeg]? = some (.long x1) := H_9.at hin_9 rfl
  have sg_11 : ∀ tt_, Steps p.tables e below (T_6.setTop (mkF m 31 #[Rv a, Lv c, Zs, Lv lo, Zs, Lv hi, Zs] [(.long (x1 - hi)), (.int (1 : Int32)), (.ref a)])) tt_ → Steps p.tables e below (T_6.setTop (mkF m 24 #[Rv a, Lv c, Zs, Lv lo, Zs, Lv hi, Zs] [])) tt_ := by
    intro tt_ kt_
    refine XS.aloadN X_6.here hEX rfl (hb hBY d_prog_59_method_14_code_24) rfl rfl ?_
    show Steps p.tables e below (T_6.setTop (mkF m 25 #[Rv a, Lv c, Zs, Lv lo, Zs, Lv hi, Zs] [(.ref a)])) tt_
    refine XS.iconst X_6.here hEX rfl (hb hBY d_prog_59_method_14_code_25) ?_
    show Steps p.tables e below (T_6.setTop (mkF m 26 #[Rv a, Lv c, Zs, Lv lo, Zs, Lv hi, Zs] [(.int (1 : Int32)), (.ref a)])) tt_
    refine XT.dup2 X_6.here hEX rfl (hb hBY d_prog_59_method_14_code_26) rfl rfl rfl ?_
    show Steps p.tables e below (T_6.setTop (mkF m 27 #[Rv a, Lv c, Zs, Lv lo, Zs, Lv hi, Zs] [(.int (1 : Int32)), (.ref a), (.int (1 : Int32)), (.ref a)])) tt_
    refine X_6.laload hEX (j := (1 : Int32)) (v := (.long x1)) (by rw [e_6]; exact Ar_9.1) (State.isArrayOf_alike hZW.alike Ar_9.2.1) Ar_9.2.2 hin_9 hat_9 (g := (mkF m 27 #[Rv a, Lv c, Zs, Lv lo, Zs, Lv hi, Zs] [(.int (1 : Int32)), (.ref a), (.int (1 : Int32)), (.ref a)])) rfl rfl (hb hBY d_prog_59_method_14_code_27) _ ?_
    show Steps p.tables e below (T_6.setTop (mkF m 28 #[Rv a, Lv c, Zs, Lv lo, Zs, Lv hi, Zs] [(.long x1), (.int (1 : Int32)), (.ref a)])) tt_
    refine XS.lload X_6.here hEX rfl (hb hBY d_prog_59_method_14_code_28) rfl ?_
    show Steps p.tables e below (T_6.setTop (mkF m 30 #[Rv a, Lv c, Zs, Lv lo, Zs, Lv hi, Zs] [(.long hi), (.long x1), (.int (1 : Int32)), (.ref a)])) tt_
    refine XS.lsub X_6.here hEX rfl (hb hBY d_prog_59_method_14_code_30) rfl ?_
    exact kt_
  refine Done.pre sg_11 ?_
  obtain ⟨cl_10, Ar_10, q_10, S_10, N__10, H_10, G_10⟩ := id f_8
  have hin_10 : ¬ ((1 : Int32) < 0 ∨ cl_10.slots.size ≤ ((1 : Int32)).toNatClampNeg) := inb_of S_10 ⟨by decide, by decide⟩
  obtain ⟨T_12, h_12, X_12, e_12, W_12, st_12⟩ := stJ X_6 hEX hZW e_6 Ar_10 (j := (1 : Int32)) hin_10 (g := (mkF m 31 #[Rv a, Lv c, Zs, Lv lo, Zs, Lv hi, Zs] [(.long (x1 - hi)), (.int (1 : Int32)), (.ref a)])) rfl rfl (hb hBY d_prog_59_method_14_code_31)
  have N_12 := Fr.snoc X_12 N_6 ga
  have K__13 : Keep h0 h_12 [a] := K__7.wr W_12 (Or.inl (List.mem_of_getElem? (i := 0) rfl))
  have f_14 : Arv Z h_12 a k .long (8 : Int32) [(.long (x0 + (c - lo))), (.long (x1 - hi)), (.long x2), (.long x3), (.long x4), (.long x5), (.long x6), (.long x7)] (.long (0 : Int64)) := Arv.set Ar_10 q_10 S_10 N__10 H_10 G_10 rfl W_12 1 rfl (Nat.le_of_ble_eq_true rfl)
  refine Done.pre st_12 ?_
  show Done _ _ _ _ _ _ _ (T_12.setTop (mkF m 32 #[Rv a, Lv c, Zs, Lv lo, Zs, Lv hi, Zs] []))
  obtain ⟨cl_15, Ar_15, q_15, S_15, N__15, H_15, G_15⟩ := id f_14
  have hin_15 : ¬ ((2 : Int32) < 0 ∨ cl_15.slots.size ≤ ((2 : Int32)).toNatClampNeg) := inb_of S_15 ⟨by decide, by decide⟩
  have hat_15 : cl_15.slots[((2 : Int32)).toNatClampNeg]? = some (.long x2) := H_15.at hin_15 rfl
  have sg_17 : ∀ tt_, Steps p.tables e below (T_12.setTop (mkF m 40 #[Rv a, Lv c, Zs, Lv lo, Zs, Lv hi, Zs] [(.long (x2 + (c + lo))), (.int (2 : Int32)), (.ref a)])) tt_ → Steps p.tables e below (T_12.setTop (mkF m 32 #[Rv a, Lv c, Zs, Lv lo, Zs, Lv hi, Zs] [])) tt_ := by
    intro tt_ kt_
    refine XS.aloadN X_12.here hEX rfl (hb hBY d_prog_59_method_14_code_32) rfl rfl ?_
    show Steps p.tables e below (T_12.setTop (mkF m 33 #[Rv a, Lv c, Zs, Lv lo, Zs, Lv hi, Zs] [(.ref a)])) tt_
    refine XS.iconst X_12.here hEX rfl (hb hBY d_prog_59_method_14_code_33) ?_
    show Steps p.tables e below (T_12.setTop (mkF m 34 #[Rv a, Lv c, Zs, Lv lo, Zs, Lv hi, Zs] [(.int (2 : Int32)), (.ref a)])) tt_
    refine XT.dup2 X_12.here hEX rfl (hb hBY d_prog_59_method_14_code_34) rfl rfl rfl ?_
    show Steps p.tables e below (T_12.setTop (mkF m 35 #[Rv a, Lv c, Zs, Lv lo, Zs, Lv hi, Zs] [(.int (2 : Int32)), (.ref a), (.int (2 : Int32)), (.ref a)])) tt_
    refine X_12.laload hEX (j := (2 : Int32)) (v := (.long x2)) (by rw [e_12]; exact Ar_15.1) (State.isArrayOf_alike hZW.alike Ar_15.2.1) Ar_15.2.2 hin_15 hat_15 (g := (mkF m 35 #[Rv a, Lv c, Zs, Lv lo, Zs, Lv hi, Zs] [(.int (2 : Int32)), (.ref a), (.int (2 : Int32)), (.ref a)])) rfl rfl (hb hBY d_prog_59_method_14_code_35) _ ?_
    show Steps p.tables e below (T_12.setTop (mkF m 36 #[Rv a, Lv c, Zs, Lv lo, Zs, Lv hi, Zs] [(.long x2), (.int (2 : Int32)), (.ref a)])) tt_
    refine XS.lloadN X_12.here hEX rfl (hb hBY d_prog_59_method_14_code_36) rfl ?_
    show Steps p.tables e below (T_12.setTop (mkF m 37 #[Rv a, Lv c, Zs, Lv lo, Zs, Lv hi, Zs] [(.long c), (.long x2), (.int (2 : Int32)), (.ref a)])) tt_
    refine XS.lloadN X_12.here hEX rfl (hb hBY d_prog_59_method_14_code_37) rfl ?_
    show Steps p.tables e below (T_12.setTop (mkF m 38 #[Rv a, Lv c, Zs, Lv lo, Zs, Lv hi, Zs] [(.long lo), (.long c), (.long x2), (.int (2 : Int32)), (.ref a)])) tt_
    refine XS.ladd X_12.here hEX rfl (hb hBY d_prog_59_method_14_code_38) rfl ?_
    show Steps p.tables e below (T_12.setTop (mkF m 39 #[Rv a, Lv c, Zs, Lv lo, Zs, Lv hi, Zs] [(.long (c + lo)), (.long x2), (.int (2 : Int32)), (.ref a)])) tt_
    refine XS.ladd X_12.here hEX rfl (hb hBY d_prog_59_method_14_code_39) rfl ?_
    exact kt_
  refine Done.pre sg_17 ?_
  obtain ⟨cl_16, Ar_16, q_16, S_16, N__16, H_16, G_16⟩ := id f_14
  have hin_16 : ¬ ((2 : Int32) < 0 ∨ cl_16.slots.size ≤ ((2 : Int32)).toNatClampNeg) := inb_of S_16 ⟨by decide, by decide⟩
  obtain ⟨T_18, h_18, X_18, e_18, W_18, st_18⟩ := stJ X_12 hEX hZW e_12 Ar_16 (j := (2 : Int32)) hin_16 (g := (mkF m 40 #[Rv a, Lv c, Zs, Lv lo, Zs, Lv hi, Zs] [(.long (x2 + (c + lo))), (.int (2 : Int32)), (.ref a)])) rfl rfl (hb hBY d_prog_59_method_14_code_40)
  have N_18 := Fr.snoc X_18 N_12 ga
  have K__19 : Keep h0 h_18 [a] := K__13.wr W_18 (Or.inl (List.mem_of_getElem? (i := 0) rfl))
  have f_20 : Arv Z h_18 a k .long (8 : Int32) [(.long (x0 + (c - lo))), (.long (x1 - hi)), (.long (x2 + (c + lo))), (.long x3), (.long x4), (.long x5), (.long x6), (.long x7)] (.long (0 : Int64)) := Arv.set Ar_16 q_16 S_16 N__16 H_16 G_16 rfl W_18 2 rfl (Nat.le_of_ble_eq_true rfl)
  refine Done.pre st_18 ?_
  show Done _ _ _ _ _ _ _ (T_18.setTop (mkF m 41 #[Rv a, Lv c, Zs, Lv lo, Zs, Lv hi, Zs] []))
  obtain ⟨cl_21, Ar_21, q_21, S_21, N__21, H_21, G_21⟩ := id f_20
  have hin_21 : ¬ ((3 : Int32) < 0 ∨ cl_21.slots.size ≤ ((3 : Int32)).toNatClampNeg) := inb_of S_21 ⟨by decide, by decide⟩
  have hat_21 : cl_21.slots[((3 : Int32)).toNatClampNeg]? = some (.long x3) := H_21.at hin_21 rfl
  have sg_23 : ∀ tt_, Steps p.tables e below (T_18.setTop (mkF m 48 #[Rv a, Lv c, Zs, Lv lo, Zs, Lv hi, Zs] [(.long (x3 + hi)), (.int (3 : Int32)), (.ref a)])) tt_ → Steps p.tables e below (T_18.setTop (mkF m 41 #[Rv a, Lv c, Zs, Lv lo, Zs, Lv hi, Zs] [])) tt_ := by
    intro tt_ kt_
    refine XS.aloadN X_18.here hEX rfl (hb hBY d_prog_59_method_14_code_41) rfl rfl ?_
    show Steps p.tables e below (T_18.setTop (mkF m 42 #[Rv a, Lv c, Zs, Lv lo, Zs, Lv hi, Zs] [(.ref a)])) tt_
    refine XS.iconst X_18.here hEX rfl (hb hBY d_prog_59_method_14_code_42) ?_
    show Steps p.tables e below (T_18.setTop (mkF m 43 #[Rv a, Lv c, Zs, Lv lo, Zs, Lv hi, Zs] [(.int (3 : Int32)), (.ref a)])) tt_
    refine XT.dup2 X_18.here hEX rfl (hb hBY d_prog_59_method_14_code_43) rfl rfl rfl ?_
    show Steps p.tables e below (T_18.setTop (mkF m 44 #[Rv a, Lv c, Zs, Lv lo, Zs, Lv hi, Zs] [(.int (3 : Int32)), (.ref a), (.int (3 : Int32)), (.ref a)])) tt_
    refine X_18.laload hEX (j := (3 : Int32)) (v := (.long x3)) (by rw [e_18]; exact Ar_21.1) (State.isArrayOf_alike hZW.alike Ar_21.2.1) Ar_21.2.2 hin_21 hat_21 (g := (mkF m 44 #[Rv a, Lv c, Zs, Lv lo, Zs, Lv hi, Zs] [(.int (3 : Int32)), (.ref a), (.int (3 : Int32)), (.ref a)])) rfl rfl (hb hBY d_prog_59_method_14_code_44) _ ?_
    show Steps p.tables e below (T_18.setTop (mkF m 45 #[Rv a, Lv c, Zs, Lv lo, Zs, Lv hi, Zs] [(.long x3), (.int (3 : Int32)), (.ref a)])) tt_
    refine XS.lload X_18.here hEX rfl (hb hBY d_prog_59_method_14_code_45) rfl ?_
    show Steps p.tables e below (T_18.setTop (mkF m 47 #[Rv a, Lv c, Zs, Lv lo, Zs, Lv hi, Zs] [(.long hi), (.long x3), (.int (3 : Int32)), (.ref a)])) tt_
    refine XS.ladd X_18.here hEX rfl (hb hBY d_prog_59_method_14_code_47) rfl ?_
    exact kt_
  refine Done.pre sg_23 ?_
  obtain ⟨cl_22, Ar_22, q_22, S_22, N__22, H_22, G_22⟩ := id f_20
  have hin_22 : ¬ ((3 : Int32) < 0 ∨ cl_22.slots.size ≤ ((3 : Int32)).toNatClampNeg) := inb_of S_22 ⟨by decide, by decide⟩
  obtain ⟨T_24, h_24, X_24, e_24, W_24, st_24⟩ := stJ X_18 hEX hZW e_18 Ar_22 (j := (3 : Int32)) hin_22 (g := (mkF m 48 #[Rv a, Lv c, Zs, Lv lo, Zs, Lv hi, Zs] [(.long (x3 + hi)), (.int (3 : Int32)), (.ref a)])) rfl rfl (hb hBY d_prog_59_method_14_code_48)
  have N_24 := Fr.snoc X_24 N_18 ga
  have K__25 : Keep h0 h_24 [a] := K__19.wr W_24 (Or.inl (List.mem_of_getElem? (i := 0) rfl))
  have f_26 : Arv Z h_24 a k .long (8 : Int32) [(.long (x0 + (c - lo))), (.long (x1 - hi)), (.long (x2 + (c + lo))), (.long (x3 + hi)), (.long x4), (.long x5), (.long x6), (.long x7)] (.long (0 : Int64)) := Arv.set Ar_22 q_22 S_22 N__22 H_22 G_22 rfl W_24 3 rfl (Nat.le_of_ble_eq_true rfl)
  refine Done.pre st_24 ?_
  show Done _ _ _ _ _ _ _ (T_24.setTop (mkF m 49 #[Rv a, Lv c, Zs, Lv lo, Zs, Lv hi, Zs] []))
  exact Done.retV X_24 hEX hLK hRT (hb hBY d_prog_59_method_14_code_49) (by rw [e_24]; exact ⟨(x0 + (c - lo)), (x1 - hi), (x2 + (c + lo)), (x3 + hi), x4, x5, x6, x7, rfl, N_24, K__25, f_26, (own_fold x0 x1 x2 x3 x4 x5 x6 x7 c lo hi hC hc hlo hhi).1, (own_fold x0 x1 x2 x3 x4 x5 x6 x7 c lo hi hC hc hlo hhi).2⟩) (by decide) (by decide)
theorem d_prog_59_method_16_code_0 : decode prog_59_method_16_code 0 = .ok (.aload_n 0, 1) := by decide +kernel
theorem d_prog_59_method_16_code_1 : decode prog_59_method_16_code 1 = .ok (.invokevirtual 58, 3) := by decide +kernel
theorem d_prog_59_method_16_code_4 : decode prog_59_method_16_code 4 = .ok (.checkcast 59, 3) := by decide +kernel
theorem d_prog_59_method_16_code_7 : decode prog_59_method_16_code 7 = .ok (.astore_n 1, 1) := by decide +kernel
theorem d_prog_59_method_16_code_8 : decode prog_59_method_16_code 8 = .ok (.aload_n 1, 1) := by decide +kernel
theorem d_prog_59_method_16_code_9 : decode prog_59_method_16_code 9 = .ok (.invokestatic 64, 3) := by decide +kernel
theorem pd___J_J_4 : parseMethodDescriptor "([J)J" = some ⟨[(.array .long)], some .long⟩ := by decide +kernel
theorem d_prog_59_method_16_code_12 : decode prog_59_method_16_code 12 = .ok (.lstore_n 2, 1) := by decide +kernel
theorem d_prog_59_method_16_code_32 : decode prog_59_method_16_code 32 = .ok (.aload_n 1, 1) := by decide +kernel
theorem d_prog_59_method_16_code_33 : decode prog_59_method_16_code 33 = .ok (.invokevirtual 58, 3) := by decide +kernel
theorem d_prog_59_method_16_code_36 : decode prog_59_method_16_code 36 = .ok (.checkcast 59, 3) := by decide +kernel
theorem d_prog_59_method_16_code_39 : decode prog_59_method_16_code 39 = .ok (.astore 4, 2) := by decide +kernel
theorem d_prog_59_method_16_code_41 : decode prog_59_method_16_code 41 = .ok (.aload 4, 2) := by decide +kernel
theorem d_prog_59_method_16_code_43 : decode prog_59_method_16_code 43 = .ok (.lconst 1, 1) := by decide +kernel
theorem d_prog_59_method_16_code_44 : decode prog_59_method_16_code 44 = .ok (.invokestatic 68, 3) := by decide +kernel
theorem pd___JJ_V_7 : parseMethodDescriptor "([JJ)V" = some ⟨[(.array .long), .long], none⟩ := by decide +kernel
theorem d_prog_59_method_16_code_47 : decode prog_59_method_16_code 47 = .ok (.aload 4, 2) := by decide +kernel
theorem d_prog_59_method_16_code_49 : decode prog_59_method_16_code 49 = .ok (.invokestatic 64, 3) := by decide +kernel
theorem d_prog_59_method_16_code_52 : decode prog_59_method_16_code 52 = .ok (.lconst 0, 1) := by decide +kernel
theorem d_prog_59_method_16_code_53 : decode prog_59_method_16_code 53 = .ok (.lcmp, 1) := by decide +kernel
theorem d_prog_59_method_16_code_54 : decode prog_59_method_16_code 54 = .ok (.ifCond .eq 8, 3) := by decide +kernel
theorem d_prog_59_method_16_code_62 : decode prog_59_method_16_code 62 = .ok (.aload_n 1, 1) := by decide +kernel
theorem d_prog_59_method_16_code_63 : decode prog_59_method_16_code 63 = .ok (.areturn, 1) := by decide +kernel
theorem d_prog_59_method_16_code_57 : decode prog_59_method_16_code 57 = .ok (.aload 4, 2) := by decide +kernel
theorem d_prog_59_method_16_code_59 : decode prog_59_method_16_code 59 = .ok (.goto 4, 3) := by decide +kernel
theorem d_prog_59_method_16_code_13 : decode prog_59_method_16_code 13 = .ok (.lload_n 2, 1) := by decide +kernel
theorem d_prog_59_method_16_code_14 : decode prog_59_method_16_code 14 = .ok (.lconst 0, 1) := by decide +kernel
theorem d_prog_59_method_16_code_15 : decode prog_59_method_16_code 15 = .ok (.lcmp, 1) := by decide +kernel
theorem d_prog_59_method_16_code_16 : decode prog_59_method_16_code 16 = .ok (.ifCond .eq 16, 3) := by decide +kernel
theorem d_prog_59_method_16_code_19 : decode prog_59_method_16_code 19 = .ok (.aload_n 1, 1) := by decide +kernel
theorem d_prog_59_method_16_code_20 : decode prog_59_method_16_code 20 = .ok (.lload_n 2, 1) := by decide +kernel
theorem d_prog_59_method_16_code_21 : decode prog_59_method_16_code 21 = .ok (.invokestatic 68, 3) := by decide +kernel
theorem d_prog_59_method_16_code_24 : decode prog_59_method_16_code 24 = .ok (.aload_n 1, 1) := by decide +kernel
theorem d_prog_59_method_16_code_25 : decode prog_59_method_16_code 25 = .ok (.invokestatic 64, 3) := by decide +kernel
theorem d_prog_59_method_16_code_28 : decode prog_59_method_16_code 28 = .ok (.lstore_n 2, 1) := by decide +kernel
theorem d_prog_59_method_16_code_29 : decode prog_59_method_16_code 29 = .ok (.goto (-16), 3) := by decide +kernel
def Qrm_canon (Z : State) (a : Addr) (k : ClassId) (x0 : Int64) (x1 : Int64) (x2 : Int64) (x3 : Int64) (x4 : Int64) (x5 : Int64) (x6 : Int64) (x7 : Int64) (h0 : Heap) (n0 : Nat) (v_ : Option Value) (h_ : Heap) (L_ : List Loc) : Prop := ∃ (r : Addr), ∃ (kr : ClassId), v_ = some (.ref r) ∧ Fr n0 L_ ∧ Keep h0 h_ [] ∧ Arv Z h_ r kr .long (8 : Int32) [(.long (0 : Int64)), (.long (0 : Int64)), (.long (0 : Int64)), (.long (0 : Int64)), (.long (0 : Int64)), (.long (0 : Int64)), (.long (0 : Int64)), (.long (0 : Int64))] (.long (0 : Int64)) ∧ h0.size ≤ r
theorem ef_rm_canon (m : MethodId) (x0 : Addr) : entryFrame m #[(.ref x0)] 5 = mkF m 0 #[.val (.ref x0), .unset, .unset, .unset, .unset] [] := by first | (simp [entryFrame, mkF, argsToLocals, Value.category]; done) | rfl
set_option maxRecDepth 65536 in
set_option maxHeartbeats 40000000 in
theorem rm_canon (l : Launch) (Z : State) (aZ : Array Value) (hw : ∀ d ∈ tables_1, d.before aZ Z = true) (ws : List Jvm.Cond) (a : Addr) (k : ClassId) (x0 : Int64) (x1 : Int64) (x2 : Int64) (x3 : Int64) (x4 : Int64) (x5 : Int64) (x6 : Int64) (x7 : Int64) (h0 : Heap) (n0 : Nat) (Z0 : n0 ≤ h0.size) (Aa : Arv Z h0 a k .long (8 : Int32) [(.long x0), (.long x1), (.long x2), (.long x3), (.long x4), (.long x5), (.long x6), (.long x7)] (.long (0 : Int64))) (Ea : Exa Z h0 a "[J") (hR : own_R 562949953421440 x0 x1 x2 x3 x4 x5 x6 x7) (hM : own_M (own_W x0 x1 x2 x3 x4 x5 x6 x7)) :
    MetFree l (⟨"com/example/guard3/guard3/P384Field", "canonical", "([J)[J"⟩ : MethodName) (head1 (Jvm.Cond.code (⟨"com/example/guard3/guard3/P384Field", "canonical", "([J)[J"⟩ : MethodName) prog_59_method_16_code 5 (some (.array .long)) :: ws) ({ frames := 1, cells := 2, slots := 16, locals := 18 } : Room)) (fun a_ U_ => a_ = #[(.ref a)] ∧ Z.Warmed39 U_.vm ∧ U_.heap = h0) (fun _ _ _ _ _ => True) (fun _ U_ o_ U2_ => ∃ v_ L_, o_ = .returned v_ ∧ Qrm_canon Z a k x0 x1 x2 x3 x4 x5 x6 x7 h0 n0 v_ U2_.heap L_ ∧ FrameEnd U_ o_ U2_ L_ ({ frames := 1, cells := 2, slots := 16, locals := 18 } : Room).cells ({ frames := 1, cells := 2, slots := 16, locals := 18 } : Room).slots) := by
  refine MetFree.of_bodySF (plainFor_of_name pn_com_example_guard3_guard3_P384Field) hisR ?_
  intro p e s m args below meth cO s₁ Bd hml0 hP hK
  obtain ⟨rfl, hZW, hh⟩ := hP
  have hEX := Bd.exec
  have hBY := Bd.bytes
  have hMX : cO.maxLocals = 5 := hml0
  have hOW : s.vm.findClass "com/example/guard3/guard3/P384Field" = some m.cls := findClass_of_methodNamed Bd.named
  have hNM := (name_of_methodNamed Bd.named Bd.method).1
  have hLK := Bd.notSynchronized
  have hRT := Bd.returns
  have X0 : Stand p l e ({ frames := 1, cells := 2, slots := 16, locals := 18 } : Room) s m #[(.ref a)] below meth cO s₁ [] 0 0 := Stand.of_body Bd
  have e0 : s₁.heap = h0 := by rw [← hh, Bd.state]; rfl
  have N0 := Fr.nil n0
  have K0 : Keep h0 h0 [] := Keep.refl _ _
  show Done p e below s (Qrm_canon Z a k x0 x1 x2 x3 x4 x5 x6 x7 h0 n0) ({ frames := 1, cells := 2, slots := 16, locals := 18 } : Room).cells ({ frames := 1, cells := 2, slots := 16, locals := 18 } : Room).slots (s₁.setTop (entryFrame m #[(.ref a)] 5))
  refine Done.pre (fun t_ k_ => castTop (ef_rm_canon m a) k_) ?_
  show Done _ _ _ _ _ _ _ (s₁.setTop (mkF m 0 #[Rv a, Us, Us, Us, Us] []))
  have sg_1 : ∀ tt_, Steps p.tables e below (s₁.setTop (mkF m 1 #[Rv a, Us, Us, Us, Us] [(.ref a)])) tt_ → Steps p.tables e below (s₁.setTop (mkF m 0 #[Rv a, Us, Us, Us, Us] [])) tt_ := by
    intro tt_ kt_
    refine XS.aloadN X0.here hEX rfl (hb hBY d_prog_59_method_16_code_0) rfl rfl ?_
    exact kt_
  refine Done.pre sg_1 ?_
  obtain ⟨T_2, h_2, X_2, e_2, E_2, A_2, B_2, st_2⟩ := cloneH X0 hEX hZW hOW (hw _ (List.mem_of_getElem? (i := 41) rfl)) (hw _ (List.mem_of_getElem? (i := 42) rfl)) (hw _ (List.mem_of_getElem? (i := 46) rfl)) (hw _ (List.mem_of_getElem? (i := 44) rfl)) (hw _ (List.mem_of_getElem? (i := 45) rfl)) (hw _ (List.mem_of_getElem? (i := 47) rfl)) e0 (Arv.arh Aa) Ea (g := (mkF m 1 #[Rv a, Us, Us, Us, Us] [(.ref a)])) rfl (by rw [hMX]; rfl) rfl (hb hBY d_prog_59_method_16_code_1) (by decide) (W := 0) (cap := 8) (by show 2 * 0 + _ ≤ _; exact Nat.le_of_eq rfl) (by decide) (by decide) (by decide) (by decide)
  obtain ⟨b_2, g_2⟩ : ∃ z, z = h0.size := ⟨_, rfl⟩
  rw [← g_2] at A_2 B_2 st_2
  have sz_b_2 : h0.size ≤ b_2 := Nat.le_trans K0.1 (Nat.le_of_eq g_2.symm)
  have ge_b_2 : n0 ≤ b_2 := Nat.le_trans Z0 sz_b_2
  have ne_a_b_2 : a ≠ b_2 := Nat.ne_of_lt (Nat.lt_of_lt_of_le Aa.lt (Nat.le_of_eq g_2.symm))
  have K__3 : Keep h0 h_2 [] := K0.ext E_2
  have f_4 : Arv Z h_2 a k .long (8 : Int32) [(.long x0), (.long x1), (.long x2), (.long x3), (.long x4), (.long x5), (.long x6), (.long x7)] (.long (0 : Int64)) := Aa.ext E_2
  have f_5 : Exa Z h_2 a "[J" := Ea.ext E_2
  have f_6 : Arv Z h_2 b_2 k .long (8 : Int32) [(.long x0), (.long x1), (.long x2), (.long x3), (.long x4), (.long x5), (.long x6), (.long x7)] (.long (0 : Int64)) := A_2
  refine Done.pre st_2 ?_
  show Done _ _ _ _ _ _ _ (T_2.setTop (mkF m 4 #[Rv a, Us, Us, Us, Us] [(.ref b_2)]))
  obtain ⟨T_7, X_7, e_7, st_7⟩ := castY X_2 hEX hZW hOW (hw _ (List.mem_of_getElem? (i := 48) rfl)) e_2 (Ins.self B_2) (g := (mkF m 4 #[Rv a, Us, Us, Us, Us] [(.ref b_2)])) rfl rfl (hb hBY d_prog_59_method_16_code_4)
  refine Done.pre st_7 ?_
  show Done _ _ _ _ _ _ _ (T_7.setTop (mkF m 7 #[Rv a, Us, Us, Us, Us] [(.ref b_2)]))
  have sg_8 : ∀ tt_, Steps p.tables e below (T_7.setTop (mkF m 9 #[Rv a, Rv b_2, Us, Us, Us] [(.ref b_2)])) tt_ → Steps p.tables e below (T_7.setTop (mkF m 7 #[Rv a, Us, Us, Us, Us] [(.ref b_2)])) tt_ := by
    intro tt_ kt_
    refine XS.astoreN X_7.here hEX rfl (hb hBY d_prog_59_method_16_code_7) rfl rfl (l' := #[Rv a, Rv b_2, Us, Us, Us]) rfl ?_
    show Steps p.tables e below (T_7.setTop (mkF m 8 #[Rv a, Rv b_2, Us, Us, Us] [])) tt_
    refine XS.aloadN X_7.here hEX rfl (hb hBY d_prog_59_method_16_code_8) rfl rfl ?_
    exact kt_
  refine Done.pre sg_8 ?_
  obtain ⟨_, _, ⟨T_9, L_9, k_9, n_9⟩, -, X_9, ⟨Lc_9, hQ_9, l_9, y_9, z_9⟩, st_9⟩ := Jvm.LawKit.callS X_7 hEX (y := (⟨"com/example/guard3/guard3/P384Field", "propagate", "([J)J"⟩ : MethodName)) hOW (mvT hZW (hw _ (List.mem_of_getElem? (i := 50) rfl))) (mvT hZW (hw _ (List.mem_of_getElem? (i := 51) rfl))) (mvT hZW (hw _ (List.mem_of_getElem? (i := 18) rfl))) (mvT hZW (hw _ (List.mem_of_getElem? (i := 52) rfl))) (by decide) (backOf (W := 0) (rm_prop l Z aZ hw [] b_2 k x0 x1 x2 x3 x4 x5 x6 x7 h_2 n0 (Nat.le_trans Z0 K__3.1) f_6 ge_b_2 (own_Rup _ _ _ _ _ _ _ _ _ _ (by decide) hR)) hZW (hw _ (List.mem_of_getElem? (i := 52) rfl)) (hw _ (List.mem_of_getElem? (i := 18) rfl)) (by decide) (by decide)) (g := (mkF m 9 #[Rv a, Rv b_2, Us, Us, Us] [(.ref b_2)])) rfl (by rw [hMX]; rfl) (argsL := [(.ref b_2)]) (rest := []) (lenOf pd___J_J_4 rfl) rfl (by show 2 * 0 + _ ≤ _; exact Nat.le_of_eq rfl) (hb hBY d_prog_59_method_16_code_9) (fun _ _ => ⟨rfl, e_7, (by decide : 1 + 0 ≤ _), (by decide : 8 + 0 ≤ _)⟩)
  dsimp only [Pt.U, Pt.locs, Pt.cells, Pt.slots] at X_9 l_9 y_9 z_9 st_9 hQ_9
  subst l_9 y_9 z_9
  obtain ⟨ya0, ya1, ya2, ya3, ya4, ya5, ya6, ya7, ca, rfl, N_9q, K_9, hq_9_0, hq_9_1, hq_9_2⟩ := hQ_9
  have N_9 := Fr.app N0 N_9q
  have K__10 : Keep h0 T_9.heap [] := K__3.trans K_9 (allS (Or.inr sz_b_2) all0)
  have f_11 : Arv Z T_9.heap a k .long (8 : Int32) [(.long x0), (.long x1), (.long x2), (.long x3), (.long x4), (.long x5), (.long x6), (.long x7)] (.long (0 : Int64)) := f_4.keep K_9 (ninS ne_a_b_2 nin0)
  have f_12 : Exa Z T_9.heap a "[J" := f_5.keep K_9
  have f_13 : Exa Z T_9.heap b_2 "[J" := B_2.keep K_9
  refine Done.pre (fun _ k_ => st_9 _ k_) ?_
  show Done _ _ _ _ _ _ _ (T_9.setTop (mkF m 12 #[Rv a, Rv b_2, Us, Us, Us] [(.long ca)]))
  have hCa := hq_9_1
  have hWa := hq_9_2
  have hca := own_cy1 _ _ _ hWa (own_Wrng _ _ _ _ _ _ _ _ hCa) (own_WR _ _ _ _ _ _ _ _ hR)
  have sg_14 : ∀ tt_, Steps p.tables e below (T_9.setTop (mkF m 13 #[Rv a, Rv b_2, Lv ca, Zs, Us] [])) tt_ → Steps p.tables e below (T_9.setTop (mkF m 12 #[Rv a, Rv b_2, Us, Us, Us] [(.long ca)])) tt_ := by
    intro tt_ kt_
    refine XS.lstoreN X_9.here hEX rfl (hb hBY d_prog_59_method_16_code_12) rfl (l' := #[Rv a, Rv b_2, Lv ca, Zs, Us]) rfl ?_
    exact kt_
  refine Done.pre sg_14 ?_
  have jn_15 : ∀ (T_16 : State) (h_17 : Heap) (L_18 : List Loc) (X_19 : Stand p l e ({ frames := 1, cells := 2, slots := 16, locals := 18 } : Room) s m #[(.ref a)] below meth cO T_16 L_18 1 8) (e_20 : T_16.heap = h_17) (N_21 : Fr n0 L_18) (K__22 : Keep h0 h_17 []) (cz : Int64) (y0 : Int64) (y1 : Int64) (y2 : Int64) (y3 : Int64) (y4 : Int64) (y5 : Int64) (y6 : Int64) (y7 : Int64) (f_23 : Arv Z h_17 a k .long (8 : Int32) [(.long x0), (.long x1), (.long x2), (.long x3), (.long x4), (.long x5), (.long x6), (.long x7)] (.long (0 : Int64))) (f_24 : Exa Z h_17 a "[J") (f_25 : Exa Z h_17 b_2 "[J") (f_26 : Arv Z h_17 b_2 k .long (8 : Int32) [(.long y0), (.long y1), (.long y2), (.long y3), (.long y4), (.long y5), (.long y6), (.long y7)] (.long (0 : Int64))) (hCy : own_C y0 y1 y2 y3 y4 y5 y6 y7) (hMy : own_M (own_W y0 y1 y2 y3 y4 y5 y6 y7)), Done p e below s (Qrm_canon Z a k x0 x1 x2 x3 x4 x5 x6 x7 h0 n0) ({ frames := 1, cells := 2, slots := 16, locals := 18 } : Room).cells ({ frames := 1, cells := 2, slots := 16, locals := 18 } : Room).slots (T_16.setTop (mkF m 32 #[Rv a, Rv b_2, Lv cz, Zs, Us] [])) := by
    intro T_16 h_17 L_18 X_19 e_20 N_21 K__22 cz y0 y1 y2 y3 y4 y5 y6 y7 f_23 f_24 f_25 f_26 hCy hMy
    show Done _ _ _ _ _ _ _ (T_16.setTop (mkF m 32 #[Rv a, Rv b_2, Lv cz, Zs, Us] []))
    have sg_27 : ∀ tt_, Steps p.tables e below (T_16.setTop (mkF m 33 #[Rv a, Rv b_2, Lv cz, Zs, Us] [(.ref b_2)])) tt_ → Steps p.tables e below (T_16.setTop (mkF m 32 #[Rv a, Rv b_2, Lv cz, Zs, Us] [])) tt_ := by
      intro tt_ kt_
      refine XS.aloadN X_19.here hEX rfl (hb hBY d_prog_59_method_16_code_32) rfl rfl ?_
      exact kt_
    refine Done.pre sg_27 ?_
    obtain ⟨T_28, h_28, X_28, e_28, E_28, A_28, B_28, st_28⟩ := cloneH X_19 hEX hZW hOW (hw _ (List.mem_of_getElem? (i := 41) rfl)) (hw _ (List.mem_of_getElem? (i := 42) rfl)) (hw _ (List.mem_of_getElem? (i := 46) rfl)) (hw _ (List.mem_of_getElem? (i := 44) rfl)) (hw _ (List.mem_of_getElem? (i := 45) rfl)) (hw _ (List.mem_of_getElem? (i := 47) rfl)) e_20 (Arv.arh f_26) f_25 (g := (mkF m 33 #[Rv a, Rv b_2, Lv cz, Zs, Us] [(.ref b_2)])) rfl (by rw [hMX]; rfl) rfl (hb hBY d_prog_59_method_16_code_33) (by decide) (W := 0) (cap := 8) (by show 2 * 0 + _ ≤ _; exact Nat.le_of_eq rfl) (by decide) (by decide) (by decide) (by decide)
    obtain ⟨b_28, g_28⟩ : ∃ z, z = h_17.size := ⟨_, rfl⟩
    rw [← g_28] at A_28 B_28 st_28
    have sz_b_28 : h0.size ≤ b_28 := Nat.le_trans K__22.1 (Nat.le_of_eq g_28.symm)
    have ge_b_28 : n0 ≤ b_28 := Nat.le_trans Z0 sz_b_28
    have ne_a_b_28 : a ≠ b_28 := Nat.ne_of_lt (Nat.lt_of_lt_of_le f_23.lt (Nat.le_of_eq g_28.symm))
    have ne_b_2_b_28 : b_2 ≠ b_28 := Nat.ne_of_lt (Nat.lt_of_lt_of_le f_25.lt (Nat.le_of_eq g_28.symm))
    have K__29 : Keep h0 h_28 [] := K__22.ext E_28
    have f_30 : Arv Z h_28 a k .long (8 : Int32) [(.long x0), (.long x1), (.long x2), (.long x3), (.long x4), (.long x5), (.long x6), (.long x7)] (.long (0 : Int64)) := f_23.ext E_28
    have f_31 : Exa Z h_28 a "[J" := f_24.ext E_28
    have f_32 : Exa Z h_28 b_2 "[J" := f_25.ext E_28
    have f_33 : Arv Z h_28 b_2 k .long (8 : Int32) [(.long y0), (.long y1), (.long y2), (.long y3), (.long y4), (.long y5), (.long y6), (.long y7)] (.long (0 : Int64)) := f_26.ext E_28
    have f_34 : Arv Z h_28 b_28 k .long (8 : Int32) [(.long y0), (.long y1), (.long y2), (.long y3), (.long y4), (.long y5), (.long y6), (.long y7)] (.long (0 : Int64)) := A_28
    refine Done.pre st_28 ?_
    show Done _ _ _ _ _ _ _ (T_28.setTop (mkF m 36 #[Rv a, Rv b_2, Lv cz, Zs, Us] [(.ref b_28)]))
    obtain ⟨T_35, X_35, e_35, st_35⟩ := castY X_28 hEX hZW hOW (hw _ (List.mem_of_getElem? (i := 48) rfl)) e_28 (Ins.self B_28) (g := (mkF m 36 #[Rv a, Rv b_2, Lv cz, Zs, Us] [(.ref b_28)])) rfl rfl (hb hBY d_prog_59_method_16_code_36)
    refine Done.pre st_35 ?_
    show Done _ _ _ _ _ _ _ (T_35.setTop (mkF m 39 #[Rv a, Rv b_2, Lv cz, Zs, Us] [(.ref b_28)]))
    have sg_36 : ∀ tt_, Steps p.tables e below (T_35.setTop (mkF m 44 #[Rv a, Rv b_2, Lv cz, Zs, Rv b_28] [(.long (1 : Int64)), (.ref b_28)])) tt_ → Steps p.tables e below (T_35.setTop (mkF m 39 #[Rv a, Rv b_2, Lv cz, Zs, Us] [(.ref b_28)])) tt_ := by
      intro tt_ kt_
      refine XS.astore X_35.here hEX rfl (hb hBY d_prog_59_method_16_code_39) rfl rfl (l' := #[Rv a, Rv b_2, Lv cz, Zs, Rv b_28]) rfl ?_
      show Steps p.tables e below (T_35.setTop (mkF m 41 #[Rv a, Rv b_2, Lv cz, Zs, Rv b_28] [])) tt_
      refine XS.aload X_35.here hEX rfl (hb hBY d_prog_59_method_16_code_41) rfl rfl ?_
      show Steps p.tables e below (T_35.setTop (mkF m 43 #[Rv a, Rv b_2, Lv cz, Zs, Rv b_28] [(.ref b_28)])) tt_
      refine XS.lconst X_35.here hEX rfl (hb hBY d_prog_59_method_16_code_43) ?_
      exact kt_
    refine Done.pre sg_36 ?_
    obtain ⟨_, _, ⟨T_37, L_37, k_37, n_37⟩, -, X_37, ⟨Lc_37, hQ_37, l_37, y_37, z_37⟩, st_37⟩ := Jvm.LawKit.callS X_35 hEX (y := (⟨"com/example/guard3/guard3/P384Field", "fold", "([JJ)V"⟩ : MethodName)) hOW (mvT hZW (hw _ (List.mem_of_getElem? (i := 53) rfl))) (mvT hZW (hw _ (List.mem_of_getElem? (i := 54) rfl))) (mvT hZW (hw _ (List.mem_of_getElem? (i := 18) rfl))) (mvT hZW (hw _ (List.mem_of_getElem? (i := 55) rfl))) (by decide) (backOf (W := 0) (rm_fold l Z aZ hw [] b_28 (1 : Int64) k y0 y1 y2 y3 y4 y5 y6 y7 h_28 n0 (Nat.le_trans Z0 K__29.1) f_34 ge_b_28 hCy (by decide)) hZW (hw _ (List.mem_of_getElem? (i := 55) rfl)) (hw _ (List.mem_of_getElem? (i := 18) rfl)) (by decide) (by decide)) (g := (mkF m 44 #[Rv a, Rv b_2, Lv cz, Zs, Rv b_28] [(.long (1 : Int64)), (.ref b_28)])) rfl (by rw [hMX]; rfl) (argsL := [(.ref b_28), (.long (1 : Int64))]) (rest := []) (lenOf pd___JJ_V_7 rfl) rfl (by show 2 * 0 + _ ≤ _; exact Nat.le_of_eq rfl) (hb hBY d_prog_59_method_16_code_44) (fun _ _ => ⟨rfl, e_35, (by decide : 2 + 0 ≤ _), (by decide : 16 + 0 ≤ _)⟩)
    dsimp only [Pt.U, Pt.locs, Pt.cells, Pt.slots] at X_37 l_37 y_37 z_37 st_37 hQ_37
    subst l_37 y_37 z_37
    obtain ⟨zd0, zd1, zd2, zd3, zd4, zd5, zd6, zd7, rfl, N_37q, K_37, hq_37_0, hq_37_1, hq_37_2⟩ := hQ_37
    have N_37 := Fr.app N_21 N_37q
    have K__38 : Keep h0 T_37.heap [] := K__29.trans K_37 (allS (Or.inr sz_b_28) all0)
    have f_39 : Arv Z T_37.heap a k .long (8 : Int32) [(.long x0), (.long x1), (.long x2), (.long x3), (.long x4), (.long x5), (.long x6), (.long x7)] (.long (0 : Int64)) := f_30.keep K_37 (ninS ne_a_b_28 nin0)
    have f_40 : Exa Z T_37.heap a "[J" := f_31.keep K_37
    have f_41 : Exa Z T_37.heap b_2 "[J" := f_32.keep K_37
    have f_42 : Arv Z T_37.heap b_2 k .long (8 : Int32) [(.long y0), (.long y1), (.long y2), (.long y3), (.long y4), (.long y5), (.long y6), (.long y7)] (.long (0 : Int64)) := f_33.keep K_37 (ninS ne_b_2_b_28 nin0)
    have f_43 : Exa Z T_37.heap b_28 "[J" := B_28.keep K_37
    refine Done.pre (fun _ k_ => st_37 _ k_) ?_
    show Done _ _ _ _ _ _ _ (T_37.setTop (mkF m 47 #[Rv a, Rv b_2, Lv cz, Zs, Rv b_28] []))
    have hRd := hq_37_1
    have hZd := hq_37_2
    have sg_44 : ∀ tt_, Steps p.tables e below (T_37.setTop (mkF m 49 #[Rv a, Rv b_2, Lv cz, Zs, Rv b_28] [(.ref b_28)])) tt_ → Steps p.tables e below (T_37.setTop (mkF m 47 #[Rv a, Rv b_2, Lv cz, Zs, Rv b_28] [])) tt_ := by
      intro tt_ kt_
      refine XS.aload X_37.here hEX rfl (hb hBY d_prog_59_method_16_code_47) rfl rfl ?_
      exact kt_
    refine Done.pre sg_44 ?_
    obtain ⟨_, _, ⟨T_45, L_45, k_45, n_45⟩, -, X_45, ⟨Lc_45, hQ_45, l_45, y_45, z_45⟩, st_45⟩ := Jvm.LawKit.callS X_37 hEX (y := (⟨"com/example/guard3/guard3/P384Field", "propagate", "([J)J"⟩ : MethodName)) hOW (mvT hZW (hw _ (List.mem_of_getElem? (i := 50) rfl))) (mvT hZW (hw _ (List.mem_of_getElem? (i := 51) rfl))) (mvT hZW (hw _ (List.mem_of_getElem? (i := 18) rfl))) (mvT hZW (hw _ (List.mem_of_getElem? (i := 52) rfl))) (by decide) (backOf (W := 0) (rm_prop l Z aZ hw [] b_28 k zd0 zd1 zd2 zd3 zd4 zd5 zd6 zd7 T_37.heap n0 (Nat.le_trans Z0 K__38.1) hq_37_0 ge_b_28 (own_Rup _ _ _ _ _ _ _ _ _ _ (by decide) hRd)) hZW (hw _ (List.mem_of_getElem? (i := 52) rfl)) (hw _ (List.mem_of_getElem? (i := 18) rfl)) (by decide) (by decide)) (g := (mkF m 49 #[Rv a, Rv b_2, Lv cz, Zs, Rv b_28] [(.ref b_28)])) rfl (by rw [hMX]; rfl) (argsL := [(.ref b_28)]) (rest := []) (lenOf pd___J_J_4 rfl) rfl (by show 2 * 0 + _ ≤ _; exact Nat.le_of_eq rfl) (hb hBY d_prog_59_method_16_code_49) (fun _ _ => ⟨rfl, rfl, (by decide : 2 + 0 ≤ _), (by decide : 16 + 0 ≤ _)⟩)
    dsimp only [Pt.U, Pt.locs, Pt.cells, Pt.slots] at X_45 l_45 y_45 z_45 st_45 hQ_45
    subst l_45 y_45 z_45
    obtain ⟨yd0, yd1, yd2, yd3, yd4, yd5, yd6, yd7, cd, rfl, N_45q, K_45, hq_45_0, hq_45_1, hq_45_2⟩ := hQ_45
    have N_45 := Fr.app N_37 N_45q
    have K__46 : Keep h0 T_45.heap [] := K__38.trans K_45 (allS (Or.inr sz_b_28) all0)
    have f_47 : Arv Z T_45.heap a k .long (8 : Int32) [(.long x0), (.long x1), (.long x2), (.long x3), (.long x4), (.long x5), (.long x6), (.long x7)] (.long (0 : Int64)) := f_39.keep K_45 (ninS ne_a_b_28 nin0)
    have f_48 : Exa Z T_45.heap a "[J" := f_40.keep K_45
    have f_49 : Exa Z T_45.heap b_2 "[J" := f_41.keep K_45
    have f_50 : Arv Z T_45.heap b_2 k .long (8 : Int32) [(.long y0), (.long y1), (.long y2), (.long y3), (.long y4), (.long y5), (.long y6), (.long y7)] (.long (0 : Int64)) := f_42.keep K_45 (ninS ne_b_2_b_28 nin0)
    have f_51 : Exa Z T_45.heap b_28 "[J" := f_43.keep K_45
    refine Done.pre (fun _ k_ => st_45 _ k_) ?_
    show Done _ _ _ _ _ _ _ (T_45.setTop (mkF m 52 #[Rv a, Rv b_2, Lv cz, Zs, Rv b_28] [(.long cd)]))
    have hCd := hq_45_1
    have hWd := hq_45_2
    have hEnd := own_end0 _ _ _ _ hMy (own_Wrng _ _ _ _ _ _ _ _ hCy) hZd hWd (own_Wrng _ _ _ _ _ _ _ _ hCd)
    have sg_52 : ∀ tt_, Steps p.tables e below (T_45.setTop (mkF m 54 #[Rv a, Rv b_2, Lv cz, Zs, Rv b_28] [(.int (lcmpW cd (0 : Int64)))])) tt_ → Steps p.tables e below (T_45.setTop (mkF m 52 #[Rv a, Rv b_2, Lv cz, Zs, Rv b_28] [(.long cd)])) tt_ := by
      intro tt_ kt_
      refine XS.lconst X_45.here hEX rfl (hb hBY d_prog_59_method_16_code_52) ?_
      show Steps p.tables e below (T_45.setTop (mkF m 53 #[Rv a, Rv b_2, Lv cz, Zs, Rv b_28] [(.long (0 : Int64)), (.long cd)])) tt_
      refine XS.lcmp X_45.here hEX rfl (hb hBY d_prog_59_method_16_code_53) rfl ?_
      exact kt_
    refine Done.pre sg_52 ?_
    by_cases hc54 : cd = (0 : Int64)
    · skip
      have sg_53 : ∀ tt_, Steps p.tables e below (T_45.setTop (mkF m 63 #[Rv a, Rv b_2, Lv cz, Zs, Rv b_28] [(.ref b_2)])) tt_ → Steps p.tables e below (T_45.setTop (mkF m 54 #[Rv a, Rv b_2, Lv cz, Zs, Rv b_28] [(.int (lcmpW cd (0 : Int64)))])) tt_ := by
        intro tt_ kt_
        refine XS.ifYes X_45.here hEX rfl (pc0 := 54) (pc' := 62) rfl (hb hBY d_prog_59_method_16_code_54) rfl ((if0 _ _).trans (teq ((lw_eq _ _).mpr hc54)).1) (by decide) (by decide) ?_
        show Steps p.tables e below (T_45.setTop (mkF m 62 #[Rv a, Rv b_2, Lv cz, Zs, Rv b_28] [])) tt_
        refine XS.aloadN X_45.here hEX rfl (hb hBY d_prog_59_method_16_code_62) rfl rfl ?_
        exact kt_
      refine Done.pre sg_53 ?_
      exact Done.retA X_45 hEX hLK hRT rfl rfl (hb hBY d_prog_59_method_16_code_63) (by exact ⟨b_2, k, rfl, N_45, K__46, (by obtain ⟨w0, w1, w2, w3, w4, w5, w6, w7⟩ := (own_zero _ _ _ _ _ _ _ _ hCy (hEnd.1 ((own_toI cd).mp hc54))); have q := f_50; rw [w0, w1, w2, w3, w4, w5, w6, w7] at q; exact q), sz_b_2⟩) (by decide) (by decide)
    · skip
      have sg_54 : ∀ tt_, Steps p.tables e below (T_45.setTop (mkF m 63 #[Rv a, Rv b_2, Lv cz, Zs, Rv b_28] [(.ref b_28)])) tt_ → Steps p.tables e below (T_45.setTop (mkF m 54 #[Rv a, Rv b_2, Lv cz, Zs, Rv b_28] [(.int (lcmpW cd (0 : Int64)))])) tt_ := by
        intro tt_ kt_
        refine XS.ifNo X_45.here hEX rfl (hb hBY d_prog_59_method_16_code_54) rfl ((if0 _ _).trans (feq (fun q => hc54 ((lw_eq _ _).mp q))).1) ?_
        show Steps p.tables e below (T_45.setTop (mkF m 57 #[Rv a, Rv b_2, Lv cz, Zs, Rv b_28] [])) tt_
        refine XS.aload X_45.here hEX rfl (hb hBY d_prog_59_method_16_code_57) rfl rfl ?_
        show Steps p.tables e below (T_45.setTop (mkF m 59 #[Rv a, Rv b_2, Lv cz, Zs, Rv b_28] [(.ref b_28)])) tt_
        refine XS.goto X_45.here hEX rfl (pc0 := 59) (pc' := 63) rfl (hb hBY d_prog_59_method_16_code_59) (by decide) (by decide) ?_
        exact kt_
      refine Done.pre sg_54 ?_
      exact Done.retA X_45 hEX hLK hRT rfl rfl (hb hBY d_prog_59_method_16_code_63) (by exact ⟨b_28, k, rfl, N_45, K__46, (by obtain ⟨w0, w1, w2, w3, w4, w5, w6, w7⟩ := (own_zero _ _ _ _ _ _ _ _ hCd (hEnd.2 (fun q => hc54 ((own_toI cd).mpr q)))); have q := hq_45_0; rw [w0, w1, w2, w3, w4, w5, w6, w7] at q; exact q), sz_b_28⟩) (by decide) (by decide)
  show Done _ _ _ _ _ _ _ (T_9.setTop (mkF m 13 #[Rv a, Rv b_2, Lv ca, Zs, Us] []))
  have sg_55 : ∀ tt_, Steps p.tables e below (T_9.setTop (mkF m 16 #[Rv a, Rv b_2, Lv ca, Zs, Us] [(.int (lcmpW ca (0 : Int64)))])) tt_ → Steps p.tables e below (T_9.setTop (mkF m 13 #[Rv a, Rv b_2, Lv ca, Zs, Us] [])) tt_ := by
    intro tt_ kt_
    refine XS.lloadN X_9.here hEX rfl (hb hBY d_prog_59_method_16_code_13) rfl ?_
    show Steps p.tables e below (T_9.setTop (mkF m 14 #[Rv a, Rv b_2, Lv ca, Zs, Us] [(.long ca)])) tt_
    refine XS.lconst X_9.here hEX rfl (hb hBY d_prog_59_method_16_code_14) ?_
    show Steps p.tables e below (T_9.setTop (mkF m 15 #[Rv a, Rv b_2, Lv ca, Zs, Us] [(.long (0 : Int64)), (.long ca)])) tt_
    refine XS.lcmp X_9.here hEX rfl (hb hBY d_prog_59_method_16_code_15) rfl ?_
    exact kt_
  refine Done.pre sg_55 ?_
  by_cases hc16 : ca = (0 : Int64)
  · skip
    have sg_56 : ∀ tt_, Steps p.tables e below (T_9.setTop (mkF m 32 #[Rv a, Rv b_2, Lv ca, Zs, Us] [])) tt_ → Steps p.tables e below (T_9.setTop (mkF m 16 #[Rv a, Rv b_2, Lv ca, Zs, Us] [(.int (lcmpW ca (0 : Int64)))])) tt_ := by
      intro tt_ kt_
      refine XS.ifYes X_9.here hEX rfl (pc0 := 16) (pc' := 32) rfl (hb hBY d_prog_59_method_16_code_16) rfl ((if0 _ _).trans (teq ((lw_eq _ _).mpr hc16)).1) (by decide) (by decide) ?_
      exact kt_
    refine Done.pre sg_56 ?_
    exact jn_15 T_9 T_9.heap _ X_9 rfl N_9 K__10 (ca) (ya0) (ya1) (ya2) (ya3) (ya4) (ya5) (ya6) (ya7) f_11 f_12 f_13 hq_9_0 hCa (own_M1 _ _ _ hWa hM ((own_toI ca).mp hc16))
  · skip
    have hna : ¬ ca = (0 : Int64) := hc16
    have sg_57 : ∀ tt_, Steps p.tables e below (T_9.setTop (mkF m 21 #[Rv a, Rv b_2, Lv ca, Zs, Us] [(.long ca), (.ref b_2)])) tt_ → Steps p.tables e below (T_9.setTop (mkF m 16 #[Rv a, Rv b_2, Lv ca, Zs, Us] [(.int (lcmpW ca (0 : Int64)))])) tt_ := by
      intro tt_ kt_
      refine XS.ifNo X_9.here hEX rfl (hb hBY d_prog_59_method_16_code_16) rfl ((if0 _ _).trans (feq (fun q => hc16 ((lw_eq _ _).mp q))).1) ?_
      show Steps p.tables e below (T_9.setTop (mkF m 19 #[Rv a, Rv b_2, Lv ca, Zs, Us] [])) tt_
      refine XS.aloadN X_9.here hEX rfl (hb hBY d_prog_59_method_16_code_19) rfl rfl ?_
      show Steps p.tables e below (T_9.setTop (mkF m 20 #[Rv a, Rv b_2, Lv ca, Zs, Us] [(.ref b_2)])) tt_
      refine XS.lloadN X_9.here hEX rfl (hb hBY d_prog_59_method_16_code_20) rfl ?_
      exact kt_
    refine Done.pre sg_57 ?_
    obtain ⟨_, _, ⟨T_58, L_58, k_58, n_58⟩, -, X_58, ⟨Lc_58, hQ_58, l_58, y_58, z_58⟩, st_58⟩ := Jvm.LawKit.callS X_9 hEX (y := (⟨"com/example/guard3/guard3/P384Field", "fold", "([JJ)V"⟩ : MethodName)) hOW (mvT hZW (hw _ (List.mem_of_getElem? (i := 53) rfl))) (mvT hZW (hw _ (List.mem_of_getElem? (i := 54) rfl))) (mvT hZW (hw _ (List.mem_of_getElem? (i := 18) rfl))) (mvT hZW (hw _ (List.mem_of_getElem? (i := 55) rfl))) (by decide) (backOf (W := 0) (rm_fold l Z aZ hw [] b_2 ca k ya0 ya1 ya2 ya3 ya4 ya5 ya6 ya7 T_9.heap n0 (Nat.le_trans Z0 K__10.1) hq_9_0 ge_b_2 hCa hca) hZW (hw _ (List.mem_of_getElem? (i := 55) rfl)) (hw _ (List.mem_of_getElem? (i := 18) rfl)) (by decide) (by decide)) (g := (mkF m 21 #[Rv a, Rv b_2, Lv ca, Zs, Us] [(.long ca), (.ref b_2)])) rfl (by rw [hMX]; rfl) (argsL := [(.ref b_2), (.long ca)]) (rest := []) (lenOf pd___JJ_V_7 rfl) rfl (by show 2 * 0 + _ ≤ _; exact Nat.le_of_eq rfl) (hb hBY d_prog_59_method_16_code_21) (fun _ _ => ⟨rfl, rfl, (by decide : 1 + 0 ≤ _), (by decide : 8 + 0 ≤ _)⟩)
    dsimp only [Pt.U, Pt.locs, Pt.cells, Pt.slots] at X_58 l_58 y_58 z_58 st_58 hQ_58
    subst l_58 y_58 z_58
    obtain ⟨za0, za1, za2, za3, za4, za5, za6, za7, rfl, N_58q, K_58, hq_58_0, hq_58_1, hq_58_2⟩ := hQ_58
    have N_58 := Fr.app N_9 N_58q
    have K__59 : Keep h0 T_58.heap [] := K__10.trans K_58 (allS (Or.inr sz_b_2) all0)
    have f_60 : Arv Z T_58.heap a k .long (8 : Int32) [(.long x0), (.long x1), (.long x2), (.long x3), (.long x4), (.long x5), (.long x6), (.long x7)] (.long (0 : Int64)) := f_11.keep K_58 (ninS ne_a_b_2 nin0)
    have f_61 : Exa Z T_58.heap a "[J" := f_12.keep K_58
    have f_62 : Exa Z T_58.heap b_2 "[J" := f_13.keep K_58
    refine Done.pre (fun _ k_ => st_58 _ k_) ?_
    show Done _ _ _ _ _ _ _ (T_58.setTop (mkF m 24 #[Rv a, Rv b_2, Lv ca, Zs, Us] []))
    have hRa := hq_58_1
    have hZa := hq_58_2
    have sg_63 : ∀ tt_, Steps p.tables e below (T_58.setTop (mkF m 25 #[Rv a, Rv b_2, Lv ca, Zs, Us] [(.ref b_2)])) tt_ → Steps p.tables e below (T_58.setTop (mkF m 24 #[Rv a, Rv b_2, Lv ca, Zs, Us] [])) tt_ := by
      intro tt_ kt_
      refine XS.aloadN X_58.here hEX rfl (hb hBY d_prog_59_method_16_code_24) rfl rfl ?_
      exact kt_
    refine Done.pre sg_63 ?_
    obtain ⟨_, _, ⟨T_64, L_64, k_64, n_64⟩, -, X_64, ⟨Lc_64, hQ_64, l_64, y_64, z_64⟩, st_64⟩ := Jvm.LawKit.callS X_58 hEX (y := (⟨"com/example/guard3/guard3/P384Field", "propagate", "([J)J"⟩ : MethodName)) hOW (mvT hZW (hw _ (List.mem_of_getElem? (i := 50) rfl))) (mvT hZW (hw _ (List.mem_of_getElem? (i := 51) rfl))) (mvT hZW (hw _ (List.mem_of_getElem? (i := 18) rfl))) (mvT hZW (hw _ (List.mem_of_getElem? (i := 52) rfl))) (by decide) (backOf (W := 0) (rm_prop l Z aZ hw [] b_2 k za0 za1 za2 za3 za4 za5 za6 za7 T_58.heap n0 (Nat.le_trans Z0 K__59.1) hq_58_0 ge_b_2 (own_Rup _ _ _ _ _ _ _ _ _ _ (by decide) hRa)) hZW (hw _ (List.mem_of_getElem? (i := 52) rfl)) (hw _ (List.mem_of_getElem? (i := 18) rfl)) (by decide) (by decide)) (g := (mkF m 25 #[Rv a, Rv b_2, Lv ca, Zs, Us] [(.ref b_2)])) rfl (by rw [hMX]; rfl) (argsL := [(.ref b_2)]) (rest := []) (lenOf pd___J_J_4 rfl) rfl (by show 2 * 0 + _ ≤ _; exact Nat.le_of_eq rfl) (hb hBY d_prog_59_method_16_code_25) (fun _ _ => ⟨rfl, rfl, (by decide : 1 + 0 ≤ _), (by decide : 8 + 0 ≤ _)⟩)
    dsimp only [Pt.U, Pt.locs, Pt.cells, Pt.slots] at X_64 l_64 y_64 z_64 st_64 hQ_64
    subst l_64 y_64 z_64
    obtain ⟨yb0, yb1, yb2, yb3, yb4, yb5, yb6, yb7, cb, rfl, N_64q, K_64, hq_64_0, hq_64_1, hq_64_2⟩ := hQ_64
    have N_64 := Fr.app N_58 N_64q
    have K__65 : Keep h0 T_64.heap [] := K__59.trans K_64 (allS (Or.inr sz_b_2) all0)
    have f_66 : Arv Z T_64.heap a k .long (8 : Int32) [(.long x0), (.long x1), (.long x2), (.long x3), (.long x4), (.long x5), (.long x6), (.long x7)] (.long (0 : Int64)) := f_60.keep K_64 (ninS ne_a_b_2 nin0)
    have f_67 : Exa Z T_64.heap a "[J" := f_61.keep K_64
    have f_68 : Exa Z T_64.heap b_2 "[J" := f_62.keep K_64
    refine Done.pre (fun _ k_ => st_64 _ k_) ?_
    show Done _ _ _ _ _ _ _ (T_64.setTop (mkF m 28 #[Rv a, Rv b_2, Lv ca, Zs, Us] [(.long cb)]))
    have hCb := hq_64_1
    have hWb := hq_64_2
    have hcb1 := own_cy2 _ _ _ _ _ hZa hWb (own_Wrng _ _ _ _ _ _ _ _ hCa) (own_Wrng _ _ _ _ _ _ _ _ hCb) hca
    have hcb : -8 ≤ cb.toInt ∧ cb.toInt ≤ 8 := ⟨by omega, by omega⟩
    have hMb := own_M2 _ _ _ _ _ _ hWa hZa hWb hM
    have sg_70 : ∀ tt_, Steps p.tables e below (T_64.setTop (mkF m 16 #[Rv a, Rv b_2, Lv cb, Zs, Us] [(.int (lcmpW cb (0 : Int64)))])) tt_ → Steps p.tables e below (T_64.setTop (mkF m 28 #[Rv a, Rv b_2, Lv ca, Zs, Us] [(.long cb)])) tt_ := by
      intro tt_ kt_
      refine XS.lstoreN X_64.here hEX rfl (hb hBY d_prog_59_method_16_code_28) rfl (l' := #[Rv a, Rv b_2, Lv cb, Zs, Us]) rfl ?_
      show Steps p.tables e below (T_64.setTop (mkF m 29 #[Rv a, Rv b_2, Lv cb, Zs, Us] [])) tt_
      refine XS.goto X_64.here hEX rfl (pc0 := 29) (pc' := 13) rfl (hb hBY d_prog_59_method_16_code_29) (by decide) (by decide) ?_
      show Steps p.tables e below (T_64.setTop (mkF m 13 #[Rv a, Rv b_2, Lv cb, Zs, Us] [])) tt_
      refine XS.lloadN X_64.here hEX rfl (hb hBY d_prog_59_method_16_code_13) rfl ?_
      show Steps p.tables e below (T_64.setTop (mkF m 14 #[Rv a, Rv b_2, Lv cb, Zs, Us] [(.long cb)])) tt_
      refine XS.lconst X_64.here hEX rfl (hb hBY d_prog_59_method_16_code_14) ?_
      show Steps p.tables e below (T_64.setTop (mkF m 15 #[Rv a, Rv b_2, Lv cb, Zs, Us] [(.long (0 : Int64)), (.long cb)])) tt_
      refine XS.lcmp X_64.here hEX rfl (hb hBY d_prog_59_method_16_code_15) rfl ?_
      exact kt_
    refine Done.pre sg_70 ?_
    by_cases hc16__69 : cb = (0 : Int64)
    · skip
      have sg_71 : ∀ tt_, Steps p.tables e below (T_64.setTop (mkF m 32 #[Rv a, Rv b_2, Lv cb, Zs, Us] [])) tt_ → Steps p.tables e below (T_64.setTop (mkF m 16 #[Rv a, Rv b_2, Lv cb, Zs, Us] [(.int (lcmpW cb (0 : Int64)))])) tt_ := by
        intro tt_ kt_
        refine XS.ifYes X_64.here hEX rfl (pc0 := 16) (pc' := 32) rfl (hb hBY d_prog_59_method_16_code_16) rfl ((if0 _ _).trans (teq ((lw_eq _ _).mpr hc16__69)).1) (by decide) (by decide) ?_
        exact kt_
      refine Done.pre sg_71 ?_
      exact jn_15 T_64 T_64.heap _ X_64 rfl N_64 K__65 (cb) (yb0) (yb1) (yb2) (yb3) (yb4) (yb5) (yb6) (yb7) f_66 f_67 f_68 hq_64_0 hCb (own_M0 _ _ hMb ((own_toI cb).mp hc16__69))
    · skip
      have hnb : ¬ cb = (0 : Int64) := hc16__69
      have sg_72 : ∀ tt_, Steps p.tables e below (T_64.setTop (mkF m 21 #[Rv a, Rv b_2, Lv cb, Zs, Us] [(.long cb), (.ref b_2)])) tt_ → Steps p.tables e below (T_64.setTop (mkF m 16 #[Rv a, Rv b_2, Lv cb, Zs, Us] [(.int (lcmpW cb (0 : Int64)))])) tt_ := by
        intro tt_ kt_
        refine XS.ifNo X_64.here hEX rfl (hb hBY d_prog_59_method_16_code_16) rfl ((if0 _ _).trans (feq (fun q => hc16__69 ((lw_eq _ _).mp q))).1) ?_
        show Steps p.tables e below (T_64.setTop (mkF m 19 #[Rv a, Rv b_2, Lv cb, Zs, Us] [])) tt_
        refine XS.aloadN X_64.here hEX rfl (hb hBY d_prog_59_method_16_code_19) rfl rfl ?_
        show Steps p.tables e below (T_64.setTop (mkF m 20 #[Rv a, Rv b_2, Lv cb, Zs, Us] [(.ref b_2)])) tt_
        refine XS.lloadN X_64.here hEX rfl (hb hBY d_prog_59_method_16_code_20) rfl ?_
        exact kt_
      refine Done.pre sg_72 ?_
      obtain ⟨_, _, ⟨T_73, L_73, k_73, n_73⟩, -, X_73, ⟨Lc_73, hQ_73, l_73, y_73, z_73⟩, st_73⟩ := Jvm.LawKit.callS X_64 hEX (y := (⟨"com/example/guard3/guard3/P384Field", "fold", "([JJ)V"⟩ : MethodName)) hOW (mvT hZW (hw _ (List.mem_of_getElem? (i := 53) rfl))) (mvT hZW (hw _ (List.mem_of_getElem? (i := 54) rfl))) (mvT hZW (hw _ (List.mem_of_getElem? (i := 18) rfl))) (mvT hZW (hw _ (List.mem_of_getElem? (i := 55) rfl))) (by decide) (backOf (W := 0) (rm_fold l Z aZ hw [] b_2 cb k yb0 yb1 yb2 yb3 yb4 yb5 yb6 yb7 T_64.heap n0 (Nat.le_trans Z0 K__65.1) hq_64_0 ge_b_2 hCb hcb) hZW (hw _ (List.mem_of_getElem? (i := 55) rfl)) (hw _ (List.mem_of_getElem? (i := 18) rfl)) (by decide) (by decide)) (g := (mkF m 21 #[Rv a, Rv b_2, Lv cb, Zs, Us] [(.long cb), (.ref b_2)])) rfl (by rw [hMX]; rfl) (argsL := [(.ref b_2), (.long cb)]) (rest := []) (lenOf pd___JJ_V_7 rfl) rfl (by show 2 * 0 + _ ≤ _; exact Nat.le_of_eq rfl) (hb hBY d_prog_59_method_16_code_21) (fun _ _ => ⟨rfl, rfl, (by decide : 1 + 0 ≤ _), (by decide : 8 + 0 ≤ _)⟩)
      dsimp only [Pt.U, Pt.locs, Pt.cells, Pt.slots] at X_73 l_73 y_73 z_73 st_73 hQ_73
      subst l_73 y_73 z_73
      obtain ⟨zb0, zb1, zb2, zb3, zb4, zb5, zb6, zb7, rfl, N_73q, K_73, hq_73_0, hq_73_1, hq_73_2⟩ := hQ_73
      have N_73 := Fr.app N_64 N_73q
      have K__74 : Keep h0 T_73.heap [] := K__65.trans K_73 (allS (Or.inr sz_b_2) all0)
      have f_75 : Arv Z T_73.heap a k .long (8 : Int32) [(.long x0), (.long x1), (.long x2), (.long x3), (.long x4), (.long x5), (.long x6), (.long x7)] (.long (0 : Int64)) := f_66.keep K_73 (ninS ne_a_b_2 nin0)
      have f_76 : Exa Z T_73.heap a "[J" := f_67.keep K_73
      have f_77 : Exa Z T_73.heap b_2 "[J" := f_68.keep K_73
      refine Done.pre (fun _ k_ => st_73 _ k_) ?_
      show Done _ _ _ _ _ _ _ (T_73.setTop (mkF m 24 #[Rv a, Rv b_2, Lv cb, Zs, Us] []))
      have hRb := hq_73_1
      have hZb := hq_73_2
      have sg_78 : ∀ tt_, Steps p.tables e below (T_73.setTop (mkF m 25 #[Rv a, Rv b_2, Lv cb, Zs, Us] [(.ref b_2)])) tt_ → Steps p.tables e below (T_73.setTop (mkF m 24 #[Rv a, Rv b_2, Lv cb, Zs, Us] [])) tt_ := by
        intro tt_ kt_
        refine XS.aloadN X_73.here hEX rfl (hb hBY d_prog_59_method_16_code_24) rfl rfl ?_
        exact kt_
      refine Done.pre sg_78 ?_
      obtain ⟨_, _, ⟨T_79, L_79, k_79, n_79⟩, -, X_79, ⟨Lc_79, hQ_79, l_79, y_79, z_79⟩, st_79⟩ := Jvm.LawKit.callS X_73 hEX (y := (⟨"com/example/guard3/guard3/P384Field", "propagate", "([J)J"⟩ : MethodName)) hOW (mvT hZW (hw _ (List.mem_of_getElem? (i := 50) rfl))) (mvT hZW (hw _ (List.mem_of_getElem? (i := 51) rfl))) (mvT hZW (hw _ (List.mem_of_getElem? (i := 18) rfl))) (mvT hZW (hw _ (List.mem_of_getElem? (i := 52) rfl))) (by decide) (backOf (W := 0) (rm_prop l Z aZ hw [] b_2 k zb0 zb1 zb2 zb3 zb4 zb5 zb6 zb7 T_73.heap n0 (Nat.le_trans Z0 K__74.1) hq_73_0 ge_b_2 (own_Rup _ _ _ _ _ _ _ _ _ _ (by decide) hRb)) hZW (hw _ (List.mem_of_getElem? (i := 52) rfl)) (hw _ (List.mem_of_getElem? (i := 18) rfl)) (by decide) (by decide)) (g := (mkF m 25 #[Rv a, Rv b_2, Lv cb, Zs, Us] [(.ref b_2)])) rfl (by rw [hMX]; rfl) (argsL := [(.ref b_2)]) (rest := []) (lenOf pd___J_J_4 rfl) rfl (by show 2 * 0 + _ ≤ _; exact Nat.le_of_eq rfl) (hb hBY d_prog_59_method_16_code_25) (fun _ _ => ⟨rfl, rfl, (by decide : 1 + 0 ≤ _), (by decide : 8 + 0 ≤ _)⟩)
      dsimp only [Pt.U, Pt.locs, Pt.cells, Pt.slots] at X_79 l_79 y_79 z_79 st_79 hQ_79
      subst l_79 y_79 z_79
      obtain ⟨yc0, yc1, yc2, yc3, yc4, yc5, yc6, yc7, cc, rfl, N_79q, K_79, hq_79_0, hq_79_1, hq_79_2⟩ := hQ_79
      have N_79 := Fr.app N_73 N_79q
      have K__80 : Keep h0 T_79.heap [] := K__74.trans K_79 (allS (Or.inr sz_b_2) all0)
      have f_81 : Arv Z T_79.heap a k .long (8 : Int32) [(.long x0), (.long x1), (.long x2), (.long x3), (.long x4), (.long x5), (.long x6), (.long x7)] (.long (0 : Int64)) := f_75.keep K_79 (ninS ne_a_b_2 nin0)
      have f_82 : Exa Z T_79.heap a "[J" := f_76.keep K_79
      have f_83 : Exa Z T_79.heap b_2 "[J" := f_77.keep K_79
      refine Done.pre (fun _ k_ => st_79 _ k_) ?_
      show Done _ _ _ _ _ _ _ (T_79.setTop (mkF m 28 #[Rv a, Rv b_2, Lv cb, Zs, Us] [(.long cc)]))
      have hCc := hq_79_1
      have hWc := hq_79_2
      have hc0 : cc.toInt = 0 := own_cy3 _ _ _ _ _ _ _ _ hZa hWb hZb hWc (own_Wrng _ _ _ _ _ _ _ _ hCa) (own_Wrng _ _ _ _ _ _ _ _ hCb) (own_Wrng _ _ _ _ _ _ _ _ hCc) hca (fun q => hnb ((own_toI cb).mpr q))
      have hMc := own_M2 _ _ _ _ _ _ rfl hZb hWc hMb
      have sg_84 : ∀ tt_, Steps p.tables e below (T_79.setTop (mkF m 32 #[Rv a, Rv b_2, Lv cc, Zs, Us] [])) tt_ → Steps p.tables e below (T_79.setTop (mkF m 28 #[Rv a, Rv b_2, Lv cb, Zs, Us] [(.long cc)])) tt_ := by
        intro tt_ kt_
        refine XS.lstoreN X_79.here hEX rfl (hb hBY d_prog_59_method_16_code_28) rfl (l' := #[Rv a, Rv b_2, Lv cc, Zs, Us]) rfl ?_
        show Steps p.tables e below (T_79.setTop (mkF m 29 #[Rv a, Rv b_2, Lv cc, Zs, Us] [])) tt_
        refine XS.goto X_79.here hEX rfl (pc0 := 29) (pc' := 13) rfl (hb hBY d_prog_59_method_16_code_29) (by decide) (by decide) ?_
        show Steps p.tables e below (T_79.setTop (mkF m 13 #[Rv a, Rv b_2, Lv cc, Zs, Us] [])) tt_
        refine XS.lloadN X_79.here hEX rfl (hb hBY d_prog_59_method_16_code_13) rfl ?_
        show Steps p.tables e below (T_79.setTop (mkF m 14 #[Rv a, Rv b_2, Lv cc, Zs, Us] [(.long cc)])) tt_
        refine XS.lconst X_79.here hEX rfl (hb hBY d_prog_59_method_16_code_14) ?_
        show Steps p.tables e below (T_79.setTop (mkF m 15 #[Rv a, Rv b_2, Lv cc, Zs, Us] [(.long (0 : Int64)), (.long cc)])) tt_
        refine XS.lcmp X_79.here hEX rfl (hb hBY d_prog_59_method_16_code_15) rfl ?_
        show Steps p.tables e below (T_79.setTop (mkF m 16 #[Rv a, Rv b_2, Lv cc, Zs, Us] [(.int (lcmpW cc (0 : Int64)))])) tt_
        refine XS.ifYes X_79.here hEX rfl (pc0 := 16) (pc' := 32) rfl (hb hBY d_prog_59_method_16_code_16) rfl ((if0 _ _).trans (teq ((lw_eq _ _).mpr ((own_toI cc).mpr hc0 : cc = (0 : Int64)))).1) (by decide) (by decide) ?_
        exact kt_
      refine Done.pre sg_84 ?_
      exact jn_15 T_79 T_79.heap _ X_79 rfl N_79 K__80 (cc) (yc0) (yc1) (yc2) (yc3) (yc4) (yc5) (yc6) (yc7) f_81 f_82 f_83 hq_79_0 hCc (own_M0 _ _ hMc hc0)
theorem d_prog_59_method_5_code_0 : decode prog_59_method_5_code 0 = .ok (.aload_n 0, 1) := by decide +kernel
theorem d_prog_59_method_5_code_1 : decode prog_59_method_5_code 1 = .ok (.invokestatic 27, 3) := by decide +kernel
theorem pd___J__J_6 : parseMethodDescriptor "([J)[J" = some ⟨[(.array .long)], some (.array .long)⟩ := by decide +kernel
theorem d_prog_59_method_5_code_4 : decode prog_59_method_5_code 4 = .ok (.astore_n 1, 1) := by decide +kernel
theorem d_prog_59_method_5_code_5 : decode prog_59_method_5_code 5 = .ok (.iconst 0, 1) := by decide +kernel
theorem d_prog_59_method_5_code_6 : decode prog_59_method_5_code 6 = .ok (.istore_n 2, 1) := by decide +kernel
theorem d_prog_59_method_5_code_7 : decode prog_59_method_5_code 7 = .ok (.iload_n 2, 1) := by decide +kernel
theorem d_prog_59_method_5_code_8 : decode prog_59_method_5_code 8 = .ok (.bipush 8, 2) := by decide +kernel
theorem d_prog_59_method_5_code_10 : decode prog_59_method_5_code 10 = .ok (.if_icmp .ge 19, 3) := by decide +kernel
theorem d_prog_59_method_5_code_13 : decode prog_59_method_5_code 13 = .ok (.aload_n 1, 1) := by decide +kernel
theorem d_prog_59_method_5_code_14 : decode prog_59_method_5_code 14 = .ok (.iload_n 2, 1) := by decide +kernel
theorem d_prog_59_method_5_code_15 : decode prog_59_method_5_code 15 = .ok (.laload, 1) := by decide +kernel
theorem d_prog_59_method_5_code_16 : decode prog_59_method_5_code 16 = .ok (.lconst 0, 1) := by decide +kernel
theorem d_prog_59_method_5_code_17 : decode prog_59_method_5_code 17 = .ok (.lcmp, 1) := by decide +kernel
theorem d_prog_59_method_5_code_18 : decode prog_59_method_5_code 18 = .ok (.ifCond .eq 5, 3) := by decide +kernel
theorem d_prog_59_method_5_code_23 : decode prog_59_method_5_code 23 = .ok (.iinc 2 1, 3) := by decide +kernel
theorem d_prog_59_method_5_code_26 : decode prog_59_method_5_code 26 = .ok (.goto (-19), 3) := by decide +kernel
theorem d_prog_59_method_5_code_29 : decode prog_59_method_5_code 29 = .ok (.iconst 1, 1) := by decide +kernel
theorem d_prog_59_method_5_code_30 : decode prog_59_method_5_code 30 = .ok (.ireturn, 1) := by decide +kernel
def Qrm_isz (Z : State) (a : Addr) (k : ClassId) (x0 : Int64) (x1 : Int64) (x2 : Int64) (x3 : Int64) (x4 : Int64) (x5 : Int64) (x6 : Int64) (x7 : Int64) (h0 : Heap) (n0 : Nat) (v_ : Option Value) (h_ : Heap) (L_ : List Loc) : Prop := v_ = some (.int (1 : Int32)) ∧ Fr n0 L_ ∧ Keep h0 h_ []
theorem ef_rm_isz (m : MethodId) (x0 : Addr) : entryFrame m #[(.ref x0)] 3 = mkF m 0 #[.val (.ref x0), .unset, .unset] [] := by first | (simp [entryFrame, mkF, argsToLocals, Value.category]; done) | rfl
set_option maxRecDepth 65536 in
set_option maxHeartbeats 40000000 in
theorem rm_isz (l : Launch) (Z : State) (aZ : Array Value) (hw : ∀ d ∈ tables_1, d.before aZ Z = true) (ws : List Jvm.Cond) (a : Addr) (k : ClassId) (x0 : Int64) (x1 : Int64) (x2 : Int64) (x3 : Int64) (x4 : Int64) (x5 : Int64) (x6 : Int64) (x7 : Int64) (h0 : Heap) (n0 : Nat) (Z0 : n0 ≤ h0.size) (Aa : Arv Z h0 a k .long (8 : Int32) [(.long x0), (.long x1), (.long x2), (.long x3), (.long x4), (.long x5), (.long x6), (.long x7)] (.long (0 : Int64))) (Ea : Exa Z h0 a "[J") (hR : own_R 562949953421440 x0 x1 x2 x3 x4 x5 x6 x7) (hM : own_M (own_W x0 x1 x2 x3 x4 x5 x6 x7)) :
    MetFree l (⟨"com/example/guard3/guard3/P384Field", "isZero", "([J)Z"⟩ : MethodName) (head1 (Jvm.Cond.code (⟨"com/example/guard3/guard3/P384Field", "isZero", "([J)Z"⟩ : MethodName) prog_59_method_5_code 3 (some .boolean) :: ws) ({ frames := 2, cells := 2, slots := 16, locals := 34 } : Room)) (fun a_ U_ => a_ = #[(.ref a)] ∧ Z.Warmed39 U_.vm ∧ U_.heap = h0) (fun _ _ _ _ _ => True) (fun _ U_ o_ U2_ => ∃ v_ L_, o_ = .returned v_ ∧ Qrm_isz Z a k x0 x1 x2 x3 x4 x5 x6 x7 h0 n0 v_ U2_.heap L_ ∧ FrameEnd U_ o_ U2_ L_ ({ frames := 2, cells := 2, slots := 16, locals := 34 } : Room).cells ({ frames := 2, cells := 2, slots := 16, locals := 34 } : Room).slots) := by
  refine MetFree.of_bodySF (plainFor_of_name pn_com_example_guard3_guard3_P384Field) hisR ?_
  intro p e s m args below meth cO s₁ Bd hml0 hP hK
  obtain ⟨rfl, hZW, hh⟩ := hP
  have hEX := Bd.exec
  have hBY := Bd.bytes
  have hMX : cO.maxLocals = 3 := hml0
  have hOW : s.vm.findClass "com/example/guard3/guard3/P384Field" = some m.cls := findClass_of_methodNamed Bd.named
  have hNM := (name_of_methodNamed Bd.named Bd.method).1
  have hLK := Bd.notSynchronized
  have hRT := Bd.returns
  have X0 : Stand p l e ({ frames := 2, cells := 2, slots := 16, locals := 34 } : Room) s m #[(.ref a)] below meth cO s₁ [] 0 0 := Stand.of_body Bd
  have e0 : s₁.heap = h0 := by rw [← hh, Bd.state]; rfl
  have N0 := Fr.nil n0
  have K0 : Keep h0 h0 [] := Keep.refl _ _
  show Done p e below s (Qrm_isz Z a k x0 x1 x2 x3 x4 x5 x6 x7 h0 n0) ({ frames := 2, cells := 2, slots := 16, locals := 34 } : Room).cells ({ frames := 2, cells := 2, slots := 16, locals := 34 } : Room).slots (s₁.setTop (entryFrame m #[(.ref a)] 3))
  refine Done.pre (fun t_ k_ => castTop (ef_rm_isz m a) k_) ?_
  show Done _ _ _ _ _ _ _ (s₁.setTop (mkF m 0 #[Rv a, Us, Us] []))
  have sg_1 : ∀ tt_, Steps p.tables e below (s₁.setTop (mkF m 1 #[Rv a, Us, Us] [(.ref a)])) tt_ → Steps p.tables e below (s₁.setTop (mkF m 0 #[Rv a, Us, Us] [])) tt_ := by
    intro tt_ kt_
    refine XS.aloadN X0.here hEX rfl (hb hBY d_prog_59_method_5_code_0) rfl rfl ?_
    exact kt_
  refine Done.pre sg_1 ?_
  obtain ⟨_, _, ⟨T_2, L_2, k_2, n_2⟩, -, X_2, ⟨Lc_2, hQ_2, l_2, y_2, z_2⟩, st_2⟩ := Jvm.LawKit.callS X0 hEX (y := (⟨"com/example/guard3/guard3/P384Field", "canonical", "([J)[J"⟩ : MethodName)) hOW (mvT hZW (hw _ (List.mem_of_getElem? (i := 38) rfl))) (mvT hZW (hw _ (List.mem_of_getElem? (i := 39) rfl))) (mvT hZW (hw _ (List.mem_of_getElem? (i := 18) rfl))) (mvT hZW (hw _ (List.mem_of_getElem? (i := 40) rfl))) (by decide) (backOf (W := 0) (rm_canon l Z aZ hw [] a k x0 x1 x2 x3 x4 x5 x6 x7 h0 n0 (Nat.le_trans Z0 K0.1) Aa Ea hR hM) hZW (hw _ (List.mem_of_getElem? (i := 40) rfl)) (hw _ (List.mem_of_getElem? (i := 18) rfl)) (by decide) (by decide)) (g := (mkF m 1 #[Rv a, Us, Us] [(.ref a)])) rfl (by rw [hMX]; rfl) (argsL := [(.ref a)]) (rest := []) (lenOf pd___J__J_6 rfl) rfl (by show 2 * 0 + _ ≤ _; exact Nat.le_of_eq rfl) (hb hBY d_prog_59_method_5_code_1) (fun _ _ => ⟨rfl, e0, (by decide : 0 + 2 ≤ _), (by decide : 0 + 16 ≤ _)⟩)
  dsimp only [Pt.U, Pt.locs, Pt.cells, Pt.slots] at X_2 l_2 y_2 z_2 st_2 hQ_2
  subst l_2 y_2 z_2
  obtain ⟨r__2, kr__2, rfl, N_2q, K_2, hq_2_0, hq_2_1⟩ := hQ_2
  have N_2 := Fr.app N0 N_2q
  have K__3 : Keep h0 T_2.heap [] := K0.trans K_2 all0
  have f_4 : Arv Z T_2.heap a k .long (8 : Int32) [(.long x0), (.long x1), (.long x2), (.long x3), (.long x4), (.long x5), (.long x6), (.long x7)] (.long (0 : Int64)) := Aa.keep K_2 nin0
  have f_5 : Exa Z T_2.heap a "[J" := Ea.keep K_2
  have sz_r__2 : h0.size ≤ r__2 := Nat.le_trans K0.1 hq_2_1
  have ne_a_r__2 : a ≠ r__2 := Nat.ne_of_lt (Nat.lt_of_lt_of_le Aa.lt hq_2_1)
  refine Done.pre (fun _ k_ => st_2 _ k_) ?_
  show Done _ _ _ _ _ _ _ (T_2.setTop (mkF m 4 #[Rv a, Us, Us] [(.ref r__2)]))
  obtain ⟨cl_6, Ar_6, q_6, S_6, N__6, H_6, G_6⟩ := id hq_2_0
  have hin_6 : ¬ ((0 : Int32) < 0 ∨ cl_6.slots.size ≤ ((0 : Int32)).toNatClampNeg) := inb_of S_6 ⟨by decide, by decide⟩
  have hat_6 : cl_6.slots[((0 : Int32)).toNatClampNeg]? = some (.long (0 : Int64)) := H_6.at hin_6 rfl
  obtain ⟨cl_7, Ar_7, q_7, S_7, N__7, H_7, G_7⟩ := id hq_2_0
  have hin_7 : ¬ ((1 : Int32) < 0 ∨ cl_7.slots.size ≤ ((1 : Int32)).toNatClampNeg) := inb_of S_7 ⟨by decide, by decide⟩
  have hat_7 : cl_7.slots[((1 : Int32)).toNatClampNeg]? = some (.long (0 : Int64)) := H_7.at hin_7 rfl
  obtain ⟨cl_8, Ar_8, q_8, S_8, N__8, H_8, G_8⟩ := id hq_2_0
  have hin_8 : ¬ ((2 : Int32) < 0 ∨ cl_8.slots.size ≤ ((2 : Int32)).toNatClampNeg) := inb_of S_8 ⟨by decide, by decide⟩
  have hat_8 : cl_8.slots[((2 : Int32)).toNatClampNeg]? = some (.long (0 : Int64)) := H_8.at hin_8 rfl
  obtain ⟨cl_9, Ar_9, q_9, S_9, N__9, H_9, G_9⟩ := id hq_2_0
  have hin_9 : ¬ ((3 : Int32) < 0 ∨ cl_9.slots.size ≤ ((3 : Int32)).toNatClampNeg) := inb_of S_9 ⟨by decide, by decide⟩
  have hat_9 : cl_9.slots[((3 : Int32)).toNatClampNeg]? = some (.long (0 : Int64)) := H_9.at hin_9 rfl
  obtain ⟨cl_10, Ar_10, q_10, S_10, N__10, H_10, G_10⟩ := id hq_2_0
  have hin_10 : ¬ ((4 : Int32) < 0 ∨ cl_10.slots.size ≤ ((4 : Int32)).toNatClampNeg) := inb_of S_10 ⟨by decide, by decide⟩
  have hat_10 : cl_10.slots[((4 : Int32)).toNatClampNeg]? = some (.long (0 : Int64)) := H_10.at hin_10 rfl
  obtain ⟨cl_11, Ar_11, q_11, S_11, N__11, H_11, G_11⟩ := id hq_2_0
  have hin_11 : ¬ ((5 : Int32) < 0 ∨ cl_11.slots.size ≤ ((5 : Int32)).toNatClampNeg) := inb_of S_11 ⟨by decide, by decide⟩
  have hat_11 : cl_11.slots[((5 : Int32)).toNatClampNeg]? = some (.long (0 : Int64)) := H_11.at hin_11 rfl
  obtain ⟨cl_12, Ar_12, q_12, S_12, N__12, H_12, G_12⟩ := id hq_2_0
  have hin_12 : ¬ ((6 : Int32) < 0 ∨ cl_12.slots.size ≤ ((6 : Int32)).toNatClampNeg) := inb_of S_12 ⟨by decide, by decide⟩
  have hat_12 : cl_12.slots[((6 : Int32)).toNatClampNeg]? = some (.long (0 : Int64)) := H_12.at hin_12 rfl
  obtain ⟨cl_13, Ar_13, q_13, S_13, N__13, H_13, G_13⟩ := id hq_2_0
  have hin_13 : ¬ ((7 : Int32) < 0 ∨ cl_13.slots.size ≤ ((7 : Int32)).toNatClampNeg) := inb_of S_13 ⟨by decide, by decide⟩
  have hat_13 : cl_13.slots[((7 : Int32)).toNatClampNeg]? = some (.long (0 : Int64)) := H_13.at hin_13 rfl
  have sg_14 : ∀ tt_, Steps p.tables e below (T_2.setTop (mkF m 30 #[Rv a, Rv r__2, Iv (8 : Int32)] [(.int (1 : Int32))])) tt_ → Steps p.tables e below (T_2.setTop (mkF m 4 #[Rv a, Us, Us] [(.ref r__2)])) tt_ := by
    intro tt_ kt_
    refine XS.astoreN X_2.here hEX rfl (hb hBY d_prog_59_method_5_code_4) rfl rfl (l' := #[Rv a, Rv r__2, Us]) rfl ?_
    show Steps p.tables e below (T_2.setTop (mkF m 5 #[Rv a, Rv r__2, Us] [])) tt_
    refine XS.iconst X_2.here hEX rfl (hb hBY d_prog_59_method_5_code_5) ?_
    show Steps p.tables e below (T_2.setTop (mkF m 6 #[Rv a, Rv r__2, Us] [(.int (0 : Int32))])) tt_
    refine XS.istoreN X_2.here hEX rfl (hb hBY d_prog_59_method_5_code_6) rfl (l' := #[Rv a, Rv r__2, Iv (0 : Int32)]) rfl ?_
    show Steps p.tables e below (T_2.setTop (mkF m 7 #[Rv a, Rv r__2, Iv (0 : Int32)] [])) tt_
    refine XS.iloadN X_2.here hEX rfl (hb hBY d_prog_59_method_5_code_7) rfl ?_
    show Steps p.tables e below (T_2.setTop (mkF m 8 #[Rv a, Rv r__2, Iv (0 : Int32)] [(.int (0 : Int32))])) tt_
    refine XS.bipush X_2.here hEX rfl (hb hBY d_prog_59_method_5_code_8) ?_
    show Steps p.tables e below (T_2.setTop (mkF m 10 #[Rv a, Rv r__2, Iv (0 : Int32)] [(.int (8 : Int32)), (.int (0 : Int32))])) tt_
    refine XS.icmpNo X_2.here hEX rfl (hb hBY d_prog_59_method_5_code_10) rfl (tlt (by decide : (0 : Int32) < (8 : Int32))).2.1 ?_
    show Steps p.tables e below (T_2.setTop (mkF m 13 #[Rv a, Rv r__2, Iv (0 : Int32)] [])) tt_
    refine XS.aloadN X_2.here hEX rfl (hb hBY d_prog_59_method_5_code_13) rfl rfl ?_
    show Steps p.tables e below (T_2.setTop (mkF m 14 #[Rv a, Rv r__2, Iv (0 : Int32)] [(.ref r__2)])) tt_
    refine XS.iloadN X_2.here hEX rfl (hb hBY d_prog_59_method_5_code_14) rfl ?_
    show Steps p.tables e below (T_2.setTop (mkF m 15 #[Rv a, Rv r__2, Iv (0 : Int32)] [(.int (0 : Int32)), (.ref r__2)])) tt_
    refine X_2.laload hEX (j := (0 : Int32)) (v := (.long (0 : Int64))) Ar_6.1 (State.isArrayOf_alike hZW.alike Ar_6.2.1) Ar_6.2.2 hin_6 hat_6 (g := (mkF m 15 #[Rv a, Rv r__2, Iv (0 : Int32)] [(.int (0 : Int32)), (.ref r__2)])) rfl rfl (hb hBY d_prog_59_method_5_code_15) _ ?_
    show Steps p.tables e below (T_2.setTop (mkF m 16 #[Rv a, Rv r__2, Iv (0 : Int32)] [(.long (0 : Int64))])) tt_
    refine XS.lconst X_2.here hEX rfl (hb hBY d_prog_59_method_5_code_16) ?_
    show Steps p.tables e below (T_2.setTop (mkF m 17 #[Rv a, Rv r__2, Iv (0 : Int32)] [(.long (0 : Int64)), (.long (0 : Int64))])) tt_
    refine XS.lcmp X_2.here hEX rfl (hb hBY d_prog_59_method_5_code_17) rfl ?_
    show Steps p.tables e below (T_2.setTop (mkF m 18 #[Rv a, Rv r__2, Iv (0 : Int32)] [(.int (lcmpW (0 : Int64) (0 : Int64)))])) tt_
    refine XS.ifYes X_2.here hEX rfl (pc0 := 18) (pc' := 23) rfl (hb hBY d_prog_59_method_5_code_18) rfl ((if0 _ _).trans (teq ((lw_eq _ _).mpr (by decide : (0 : Int64) = (0 : Int64)))).1) (by decide) (by decide) ?_
    show Steps p.tables e below (T_2.setTop (mkF m 23 #[Rv a, Rv r__2, Iv (0 : Int32)] [])) tt_
    refine XS.iinc X_2.here hEX rfl (hb hBY d_prog_59_method_5_code_23) rfl (l' := #[Rv a, Rv r__2, Iv (1 : Int32)]) rfl ?_
    show Steps p.tables e below (T_2.setTop (mkF m 26 #[Rv a, Rv r__2, Iv (1 : Int32)] [])) tt_
    refine XS.goto X_2.here hEX rfl (pc0 := 26) (pc' := 7) rfl (hb hBY d_prog_59_method_5_code_26) (by decide) (by decide) ?_
    show Steps p.tables e below (T_2.setTop (mkF m 7 #[Rv a, Rv r__2, Iv (1 : Int32)] [])) tt_
    refine XS.iloadN X_2.here hEX rfl (hb hBY d_prog_59_method_5_code_7) rfl ?_
    show Steps p.tables e below (T_2.setTop (mkF m 8 #[Rv a, Rv r__2, Iv (1 : Int32)] [(.int (1 : Int32))])) tt_
    refine XS.bipush X_2.here hEX rfl (hb hBY d_prog_59_method_5_code_8) ?_
    show Steps p.tables e below (T_2.setTop (mkF m 10 #[Rv a, Rv r__2, Iv (1 : Int32)] [(.int (8 : Int32)), (.int (1 : Int32))])) tt_
    refine XS.icmpNo X_2.here hEX rfl (hb hBY d_prog_59_method_5_code_10) rfl (tlt (by decide : (1 : Int32) < (8 : Int32))).2.1 ?_
    show Steps p.tables e below (T_2.setTop (mkF m 13 #[Rv a, Rv r__2, Iv (1 : Int32)] [])) tt_
    refine XS.aloadN X_2.here hEX rfl (hb hBY d_prog_59_method_5_code_13) rfl rfl ?_
    show Steps p.tables e below (T_2.setTop (mkF m 14 #[Rv a, Rv r__2, Iv (1 : Int32)] [(.ref r__2)])) tt_
    refine XS.iloadN X_2.here hEX rfl (hb hBY d_prog_59_method_5_code_14) rfl ?_
    show Steps p.tables e below (T_2.setTop (mkF m 15 #[Rv a, Rv r__2, Iv (1 : Int32)] [(.int (1 : Int32)), (.ref r__2)])) tt_
    refine X_2.laload hEX (j := (1 : Int32)) (v := (.long (0 : Int64))) Ar_7.1 (State.isArrayOf_alike hZW.alike Ar_7.2.1) Ar_7.2.2 hin_7 hat_7 (g := (mkF m 15 #[Rv a, Rv r__2, Iv (1 : Int32)] [(.int (1 : Int32)), (.ref r__2)])) rfl rfl (hb hBY d_prog_59_method_5_code_15) _ ?_
    show Steps p.tables e below (T_2.setTop (mkF m 16 #[Rv a, Rv r__2, Iv (1 : Int32)] [(.long (0 : Int64))])) tt_
    refine XS.lconst X_2.here hEX rfl (hb hBY d_prog_59_method_5_code_16) ?_
    show Steps p.tables e below (T_2.setTop (mkF m 17 #[Rv a, Rv r__2, Iv (1 : Int32)] [(.long (0 : Int64)), (.long (0 : Int64))])) tt_
    refine XS.lcmp X_2.here hEX rfl (hb hBY d_prog_59_method_5_code_17) rfl ?_
    show Steps p.tables e below (T_2.setTop (mkF m 18 #[Rv a, Rv r__2, Iv (1 : Int32)] [(.int (lcmpW (0 : Int64) (0 : Int64)))])) tt_
    refine XS.ifYes X_2.here hEX rfl (pc0 := 18) (pc' := 23) rfl (hb hBY d_prog_59_method_5_code_18) rfl ((if0 _ _).trans (teq ((lw_eq _ _).mpr (by decide : (0 : Int64) = (0 : Int64)))).1) (by decide) (by decide) ?_
    show Steps p.tables e below (T_2.setTop (mkF m 23 #[Rv a, Rv r__2, Iv (1 : Int32)] [])) tt_
    refine XS.iinc X_2.here hEX rfl (hb hBY d_prog_59_method_5_code_23) rfl (l' := #[Rv a, Rv r__2, Iv (2 : Int32)]) rfl ?_
    show Steps p.tables e below (T_2.setTop (mkF m 26 #[Rv a, Rv r__2, Iv (2 : Int32)] [])) tt_
    refine XS.goto X_2.here hEX rfl (pc0 := 26) (pc' := 7) rfl (hb hBY d_prog_59_method_5_code_26) (by decide) (by decide) ?_
    show Steps p.tables e below (T_2.setTop (mkF m 7 #[Rv a, Rv r__2, Iv (2 : Int32)] [])) tt_
    refine XS.iloadN X_2.here hEX rfl (hb hBY d_prog_59_method_5_code_7) rfl ?_
    show Steps p.tables e below (T_2.setTop (mkF m 8 #[Rv a, Rv r__2, Iv (2 : Int32)] [(.int (2 : Int32))])) tt_
    refine XS.bipush X_2.here hEX rfl (hb hBY d_prog_59_method_5_code_8) ?_
    show Steps p.tables e below (T_2.setTop (mkF m 10 #[Rv a, Rv r__2, Iv (2 : Int32)] [(.int (8 : Int32)), (.int (2 : Int32))])) tt_
    refine XS.icmpNo X_2.here hEX rfl (hb hBY d_prog_59_method_5_code_10) rfl (tlt (by decide : (2 : Int32) < (8 : Int32))).2.1 ?_
    show Steps p.tables e below (T_2.setTop (mkF m 13 #[Rv a, Rv r__2, Iv (2 : Int32)] [])) tt_
    refine XS.aloadN X_2.here hEX rfl (hb hBY d_prog_59_method_5_code_13) rfl rfl ?_
    show Steps p.tables e below (T_2.setTop (mkF m 14 #[Rv a, Rv r__2, Iv (2 : Int32)] [(.ref r__2)])) tt_
    refine XS.iloadN X_2.here hEX rfl (hb hBY d_prog_59_method_5_code_14) rfl ?_
    show Steps p.tables e below (T_2.setTop (mkF m 15 #[Rv a, Rv r__2, Iv (2 : Int32)] [(.int (2 : Int32)), (.ref r__2)])) tt_
    refine X_2.laload hEX (j := (2 : Int32)) (v := (.long (0 : Int64))) Ar_8.1 (State.isArrayOf_alike hZW.alike Ar_8.2.1) Ar_8.2.2 hin_8 hat_8 (g := (mkF m 15 #[Rv a, Rv r__2, Iv (2 : Int32)] [(.int (2 : Int32)), (.ref r__2)])) rfl rfl (hb hBY d_prog_59_method_5_code_15) _ ?_
    show Steps p.tables e below (T_2.setTop (mkF m 16 #[Rv a, Rv r__2, Iv (2 : Int32)] [(.long (0 : Int64))])) tt_
    refine XS.lconst X_2.here hEX rfl (hb hBY d_prog_59_method_5_code_16) ?_
    show Steps p.tables e below (T_2.setTop (mkF m 17 #[Rv a, Rv r__2, Iv (2 : Int32)] [(.long (0 : Int64)), (.long (0 : Int64))])) tt_
    refine XS.lcmp X_2.here hEX rfl (hb hBY d_prog_59_method_5_code_17) rfl ?_
    show Steps p.tables e below (T_2.setTop (mkF m 18 #[Rv a, Rv r__2, Iv (2 : Int32)] [(.int (lcmpW (0 : Int64) (0 : Int64)))])) tt_
    refine XS.ifYes X_2.here hEX rfl (pc0 := 18) (pc' := 23) rfl (hb hBY d_prog_59_method_5_code_18) rfl ((if0 _ _).trans (teq ((lw_eq _ _).mpr (by decide : (0 : Int64) = (0 : Int64)))).1) (by decide) (by decide) ?_
    show Steps p.tables e below (T_2.setTop (mkF m 23 #[Rv a, Rv r__2, Iv (2 : Int32)] [])) tt_
    refine XS.iinc X_2.here hEX rfl (hb hBY d_prog_59_method_5_code_23) rfl (l' := #[Rv a, Rv r__2, Iv (3 : Int32)]) rfl ?_
    show Steps p.tables e below (T_2.setTop (mkF m 26 #[Rv a, Rv r__2, Iv (3 : Int32)] [])) tt_
    refine XS.goto X_2.here hEX rfl (pc0 := 26) (pc' := 7) rfl (hb hBY d_prog_59_method_5_code_26) (by decide) (by decide) ?_
    show Steps p.tables e below (T_2.setTop (mkF m 7 #[Rv a, Rv r__2, Iv (3 : Int32)] [])) tt_
    refine XS.iloadN X_2.here hEX rfl (hb hBY d_prog_59_method_5_code_7) rfl ?_
    show Steps p.tables e below (T_2.setTop (mkF m 8 #[Rv a, Rv r__2, Iv (3 : Int32)] [(.int (3 : Int32))])) tt_
    refine XS.bipush X_2.here hEX rfl (hb hBY d_prog_59_method_5_code_8) ?_
    show Steps p.tables e below (T_2.setTop (mkF m 10 #[Rv a, Rv r__2, Iv (3 : Int32)] [(.int (8 : Int32)), (.int (3 : Int32))])) tt_
    refine XS.icmpNo X_2.here hEX rfl (hb hBY d_prog_59_method_5_code_10) rfl (tlt (by decide : (3 : Int32) < (8 : Int32))).2.1 ?_
    show Steps p.tables e below (T_2.setTop (mkF m 13 #[Rv a, Rv r__2, Iv (3 : Int32)] [])) tt_
    refine XS.aloadN X_2.here hEX rfl (hb hBY d_prog_59_method_5_code_13) rfl rfl ?_
    show Steps p.tables e below (T_2.setTop (mkF m 14 #[Rv a, Rv r__2, Iv (3 : Int32)] [(.ref r__2)])) tt_
    refine XS.iloadN X_2.here hEX rfl (hb hBY d_prog_59_method_5_code_14) rfl ?_
    show Steps p.tables e below (T_2.setTop (mkF m 15 #[Rv a, Rv r__2, Iv (3 : Int32)] [(.int (3 : Int32)), (.ref r__2)])) tt_
    refine X_2.laload hEX (j := (3 : Int32)) (v := (.long (0 : Int64))) Ar_9.1 (State.isArrayOf_alike hZW.alike Ar_9.2.1) Ar_9.2.2 hin_9 hat_9 (g := (mkF m 15 #[Rv a, Rv r__2, Iv (3 : Int32)] [(.int (3 : Int32)), (.ref r__2)])) rfl rfl (hb hBY d_prog_59_method_5_code_15) _ ?_
    show Steps p.tables e below (T_2.setTop (mkF m 16 #[Rv a, Rv r__2, Iv (3 : Int32)] [(.long (0 : Int64))])) tt_
    refine XS.lconst X_2.here hEX rfl (hb hBY d_prog_59_method_5_code_16) ?_
    show Steps p.tables e below (T_2.setTop (mkF m 17 #[Rv a, Rv r__2, Iv (3 : Int32)] [(.long (0 : Int64)), (.long (0 : Int64))])) tt_
    refine XS.lcmp X_2.here hEX rfl (hb hBY d_prog_59_method_5_code_17) rfl ?_
    show Steps p.tables e below (T_2.setTop (mkF m 18 #[Rv a, Rv r__2, Iv (3 : Int32)] [(.int (lcmpW (0 : Int64) (0 : Int64)))])) tt_
    refine XS.ifYes X_2.here hEX rfl (pc0 := 18) (pc' := 23) rfl (hb hBY d_prog_59_method_5_code_18) rfl ((if0 _ _).trans (teq ((lw_eq _ _).mpr (by decide : (0 : Int64) = (0 : Int64)))).1) (by decide) (by decide) ?_
    show Steps p.tables e below (T_2.setTop (mkF m 23 #[Rv a, Rv r__2, Iv (3 : Int32)] [])) tt_
    refine XS.iinc X_2.here hEX rfl (hb hBY d_prog_59_method_5_code_23) rfl (l' := #[Rv a, Rv r__2, Iv (4 : Int32)]) rfl ?_
    show Steps p.tables e below (T_2.setTop (mkF m 26 #[Rv a, Rv r__2, Iv (4 : Int32)] [])) tt_
    refine XS.goto X_2.here hEX rfl (pc0 := 26) (pc' := 7) rfl (hb hBY d_prog_59_method_5_code_26) (by decide) (by decide) ?_
    show Steps p.tables e below (T_2.setTop (mkF m 7 #[Rv a, Rv r__2, Iv (4 : Int32)] [])) tt_
    refine XS.iloadN X_2.here hEX rfl (hb hBY d_prog_59_method_5_code_7) rfl ?_
    show Steps p.tables e below (T_2.setTop (mkF m 8 #[Rv a, Rv r__2, Iv (4 : Int32)] [(.int (4 : Int32))])) tt_
    refine XS.bipush X_2.here hEX rfl (hb hBY d_prog_59_method_5_code_8) ?_
    show Steps p.tables e below (T_2.setTop (mkF m 10 #[Rv a, Rv r__2, Iv (4 : Int32)] [(.int (8 : Int32)), (.int (4 : Int32))])) tt_
    refine XS.icmpNo X_2.here hEX rfl (hb hBY d_prog_59_method_5_code_10) rfl (tlt (by decide : (4 : Int32) < (8 : Int32))).2.1 ?_
    show Steps p.tables e below (T_2.setTop (mkF m 13 #[Rv a, Rv r__2, Iv (4 : Int32)] [])) tt_
    refine XS.aloadN X_2.here hEX rfl (hb hBY d_prog_59_method_5_code_13) rfl rfl ?_
    show Steps p.tables e below (T_2.setTop (mkF m 14 #[Rv a, Rv r__2, Iv (4 : Int32)] [(.ref r__2)])) tt_
    refine XS.iloadN X_2.here hEX rfl (hb hBY d_prog_59_method_5_code_14) rfl ?_
    show Steps p.tables e below (T_2.setTop (mkF m 15 #[Rv a, Rv r__2, Iv (4 : Int32)] [(.int (4 : Int32)), (.ref r__2)])) tt_
    refine X_2.laload hEX (j := (4 : Int32)) (v := (.long (0 : Int64))) Ar_10.1 (State.isArrayOf_alike hZW.alike Ar_10.2.1) Ar_10.2.2 hin_10 hat_10 (g := (mkF m 15 #[Rv a, Rv r__2, Iv (4 : Int32)] [(.int (4 : Int32)), (.ref r__2)])) rfl rfl (hb hBY d_prog_59_method_5_code_15) _ ?_
    show Steps p.tables e below (T_2.setTop (mkF m 16 #[Rv a, Rv r__2, Iv (4 : Int32)] [(.long (0 : Int64))])) tt_
    refine XS.lconst X_2.here hEX rfl (hb hBY d_prog_59_method_5_code_16) ?_
    show Steps p.tables e below (T_2.setTop (mkF m 17 #[Rv a, Rv r__2, Iv (4 : Int32)] [(.long (0 : Int64)), (.long (0 : Int64))])) tt_
    refine XS.lcmp X_2.here hEX rfl (hb hBY d_prog_59_method_5_code_17) rfl ?_
    show Steps p.tables e below (T_2.setTop (mkF m 18 #[Rv a, Rv r__2, Iv (4 : Int32)] [(.int (lcmpW (0 : Int64) (0 : Int64)))])) tt_
    refine XS.ifYes X_2.here hEX rfl (pc0 := 18) (pc' := 23) rfl (hb hBY d_prog_59_method_5_code_18) rfl ((if0 _ _).trans (teq ((lw_eq _ _).mpr (by decide : (0 : Int64) = (0 : Int64)))).1) (by decide) (by decide) ?_
    show Steps p.tables e below (T_2.setTop (mkF m 23 #[Rv a, Rv r__2, Iv (4 : Int32)] [])) tt_
    refine XS.iinc X_2.here hEX rfl (hb hBY d_prog_59_method_5_code_23) rfl (l' := #[Rv a, Rv r__2, Iv (5 : Int32)]) rfl ?_
    show Steps p.tables e below (T_2.setTop (mkF m 26 #[Rv a, Rv r__2, Iv (5 : Int32)] [])) tt_
    refine XS.goto X_2.here hEX rfl (pc0 := 26) (pc' := 7) rfl (hb hBY d_prog_59_method_5_code_26) (by decide) (by decide) ?_
    show Steps p.tables e below (T_2.setTop (mkF m 7 #[Rv a, Rv r__2, Iv (5 : Int32)] [])) tt_
    refine XS.iloadN X_2.here hEX rfl (hb hBY d_prog_59_method_5_code_7) rfl ?_
    show Steps p.tables e below (T_2.setTop (mkF m 8 #[Rv a, Rv r__2, Iv (5 : Int32)] [(.int (5 : Int32))])) tt_
    refine XS.bipush X_2.here hEX rfl (hb hBY d_prog_59_method_5_code_8) ?_
    show Steps p.tables e below (T_2.setTop (mkF m 10 #[Rv a, Rv r__2, Iv (5 : Int32)] [(.int (8 : Int32)), (.int (5 : Int32))])) tt_
    refine XS.icmpNo X_2.here hEX rfl (hb hBY d_prog_59_method_5_code_10) rfl (tlt (by decide : (5 : Int32) < (8 : Int32))).2.1 ?_
    show Steps p.tables e below (T_2.setTop (mkF m 13 #[Rv a, Rv r__2, Iv (5 : Int32)] [])) tt_
    refine XS.aloadN X_2.here hEX rfl (hb hBY d_prog_59_method_5_code_13) rfl rfl ?_
    show Steps p.tables e below (T_2.setTop (mkF m 14 #[Rv a, Rv r__2, Iv (5 : Int32)] [(.ref r__2)])) tt_
    refine XS.iloadN X_2.here hEX rfl (hb hBY d_prog_59_method_5_code_14) rfl ?_
    show Steps p.tables e below (T_2.setTop (mkF m 15 #[Rv a, Rv r__2, Iv (5 : Int32)] [(.int (5 : Int32)), (.ref r__2)])) tt_
    refine X_2.laload hEX (j := (5 : Int32)) (v := (.long (0 : Int64))) Ar_11.1 (State.isArrayOf_alike hZW.alike Ar_11.2.1) Ar_11.2.2 hin_11 hat_11 (g := (mkF m 15 #[Rv a, Rv r__2, Iv (5 : Int32)] [(.int (5 : Int32)), (.ref r__2)])) rfl rfl (hb hBY d_prog_59_method_5_code_15) _ ?_
    show Steps p.tables e below (T_2.setTop (mkF m 16 #[Rv a, Rv r__2, Iv (5 : Int32)] [(.long (0 : Int64))])) tt_
    refine XS.lconst X_2.here hEX rfl (hb hBY d_prog_59_method_5_code_16) ?_
    show Steps p.tables e below (T_2.setTop (mkF m 17 #[Rv a, Rv r__2, Iv (5 : Int32)] [(.long (0 : Int64)), (.long (0 : Int64))])) tt_
    refine XS.lcmp X_2.here hEX rfl (hb hBY d_prog_59_method_5_code_17) rfl ?_
    show Steps p.tables e below (T_2.setTop (mkF m 18 #[Rv a, Rv r__2, Iv (5 : Int32)] [(.int (lcmpW (0 : Int64) (0 : Int64)))])) tt_
    refine XS.ifYes X_2.here hEX rfl (pc0 := 18) (pc' := 23) rfl (hb hBY d_prog_59_method_5_code_18) rfl ((if0 _ _).trans (teq ((lw_eq _ _).mpr (by decide : (0 : Int64) = (0 : Int64)))).1) (by decide) (by decide) ?_
    show Steps p.tables e below (T_2.setTop (mkF m 23 #[Rv a, Rv r__2, Iv (5 : Int32)] [])) tt_
    refine XS.iinc X_2.here hEX rfl (hb hBY d_prog_59_method_5_code_23) rfl (l' := #[Rv a, Rv r__2, Iv (6 : Int32)]) rfl ?_
    show Steps p.tables e below (T_2.setTop (mkF m 26 #[Rv a, Rv r__2, Iv (6 : Int32)] [])) tt_
    refine XS.goto X_2.here hEX rfl (pc0 := 26) (pc' := 7) rfl (hb hBY d_prog_59_method_5_code_26) (by decide) (by decide) ?_
    show Steps p.tables e below (T_2.setTop (mkF m 7 #[Rv a, Rv r__2, Iv (6 : Int32)] [])) tt_
    refine XS.iloadN X_2.here hEX rfl (hb hBY d_prog_59_method_5_code_7) rfl ?_
    show Steps p.tables e below (T_2.setTop (mkF m 8 #[Rv a, Rv r__2, Iv (6 : Int32)] [(.int (6 : Int32))])) tt_
    refine XS.bipush X_2.here hEX rfl (hb hBY d_prog_59_method_5_code_8) ?_
    show Steps p.tables e below (T_2.setTop (mkF m 10 #[Rv a, Rv r__2, Iv (6 : Int32)] [(.int (8 : Int32)), (.int (6 : Int32))])) tt_
    refine XS.icmpNo X_2.here hEX rfl (hb hBY d_prog_59_method_5_code_10) rfl (tlt (by decide : (6 : Int32) < (8 : Int32))).2.1 ?_
    show Steps p.tables e below (T_2.setTop (mkF m 13 #[Rv a, Rv r__2, Iv (6 : Int32)] [])) tt_
    refine XS.aloadN X_2.here hEX rfl (hb hBY d_prog_59_method_5_code_13) rfl rfl ?_
    show Steps p.tables e below (T_2.setTop (mkF m 14 #[Rv a, Rv r__2, Iv (6 : Int32)] [(.ref r__2)])) tt_
    refine XS.iloadN X_2.here hEX rfl (hb hBY d_prog_59_method_5_code_14) rfl ?_
    show Steps p.tables e below (T_2.setTop (mkF m 15 #[Rv a, Rv r__2, Iv (6 : Int32)] [(.int (6 : Int32)), (.ref r__2)])) tt_
    refine X_2.laload hEX (j := (6 : Int32)) (v := (.long (0 : Int64))) Ar_12.1 (State.isArrayOf_alike hZW.alike Ar_12.2.1) Ar_12.2.2 hin_12 hat_12 (g := (mkF m 15 #[Rv a, Rv r__2, Iv (6 : Int32)] [(.int (6 : Int32)), (.ref r__2)])) rfl rfl (hb hBY d_prog_59_method_5_code_15) _ ?_
    show Steps p.tables e below (T_2.setTop (mkF m 16 #[Rv a, Rv r__2, Iv (6 : Int32)] [(.long (0 : Int64))])) tt_
    refine XS.lconst X_2.here hEX rfl (hb hBY d_prog_59_method_5_code_16) ?_
    show Steps p.tables e below (T_2.setTop (mkF m 17 #[Rv a, Rv r__2, Iv (6 : Int32)] [(.long (0 : Int64)), (.long (0 : Int64))])) tt_
    refine XS.lcmp X_2.here hEX rfl (hb hBY d_prog_59_method_5_code_17) rfl ?_
    show Steps p.tables e below (T_2.setTop (mkF m 18 #[Rv a, Rv r__2, Iv (6 : Int32)] [(.int (lcmpW (0 : Int64) (0 : Int64)))])) tt_
    refine XS.ifYes X_2.here hEX rfl (pc0 := 18) (pc' := 23) rfl (hb hBY d_prog_59_method_5_code_18) rfl ((if0 _ _).trans (teq ((lw_eq _ _).mpr (by decide : (0 : Int64) = (0 : Int64)))).1) (by decide) (by decide) ?_
    show Steps p.tables e below (T_2.setTop (mkF m 23 #[Rv a, Rv r__2, Iv (6 : Int32)] [])) tt_
    refine XS.iinc X_2.here hEX rfl (hb hBY d_prog_59_method_5_code_23) rfl (l' := #[Rv a, Rv r__2, Iv (7 : Int32)]) rfl ?_
    show Steps p.tables e below (T_2.setTop (mkF m 26 #[Rv a, Rv r__2, Iv (7 : Int32)] [])) tt_
    refine XS.goto X_2.here hEX rfl (pc0 := 26) (pc' := 7) rfl (hb hBY d_prog_59_method_5_code_26) (by decide) (by decide) ?_
    show Steps p.tables e below (T_2.setTop (mkF m 7 #[Rv a, Rv r__2, Iv (7 : Int32)] [])) tt_
    refine XS.iloadN X_2.here hEX rfl (hb hBY d_prog_59_method_5_code_7) rfl ?_
    show Steps p.tables e below (T_2.setTop (mkF m 8 #[Rv a, Rv r__2, Iv (7 : Int32)] [(.int (7 : Int32))])) tt_
    refine XS.bipush X_2.here hEX rfl (hb hBY d_prog_59_method_5_code_8) ?_
    show Steps p.tables e below (T_2.setTop (mkF m 10 #[Rv a, Rv r__2, Iv (7 : Int32)] [(.int (8 : Int32)), (.int (7 : Int32))])) tt_
    refine XS.icmpNo X_2.here hEX rfl (hb hBY d_prog_59_method_5_code_10) rfl (tlt (by decide : (7 : Int32) < (8 : Int32))).2.1 ?_
    show Steps p.tables e below (T_2.setTop (mkF m 13 #[Rv a, Rv r__2, Iv (7 : Int32)] [])) tt_
    refine XS.aloadN X_2.here hEX rfl (hb hBY d_prog_59_method_5_code_13) rfl rfl ?_
    show Steps p.tables e below (T_2.setTop (mkF m 14 #[Rv a, Rv r__2, Iv (7 : Int32)] [(.ref r__2)])) tt_
    refine XS.iloadN X_2.here hEX rfl (hb hBY d_prog_59_method_5_code_14) rfl ?_
    show Steps p.tables e below (T_2.setTop (mkF m 15 #[Rv a, Rv r__2, Iv (7 : Int32)] [(.int (7 : Int32)), (.ref r__2)])) tt_
    refine X_2.laload hEX (j := (7 : Int32)) (v := (.long (0 : Int64))) Ar_13.1 (State.isArrayOf_alike hZW.alike Ar_13.2.1) Ar_13.2.2 hin_13 hat_13 (g := (mkF m 15 #[Rv a, Rv r__2, Iv (7 : Int32)] [(.int (7 : Int32)), (.ref r__2)])) rfl rfl (hb hBY d_prog_59_method_5_code_15) _ ?_
    show Steps p.tables e below (T_2.setTop (mkF m 16 #[Rv a, Rv r__2, Iv (7 : Int32)] [(.long (0 : Int64))])) tt_
    refine XS.lconst X_2.here hEX rfl (hb hBY d_prog_59_method_5_code_16) ?_
    show Steps p.tables e below (T_2.setTop (mkF m 17 #[Rv a, Rv r__2, Iv (7 : Int32)] [(.long (0 : Int64)), (.long (0 : Int64))])) tt_
    refine XS.lcmp X_2.here hEX rfl (hb hBY d_prog_59_method_5_code_17) rfl ?_
    show Steps p.tables e below (T_2.setTop (mkF m 18 #[Rv a, Rv r__2, Iv (7 : Int32)] [(.int (lcmpW (0 : Int64) (0 : Int64)))])) tt_
    refine XS.ifYes X_2.here hEX rfl (pc0 := 18) (pc' := 23) rfl (hb hBY d_prog_59_method_5_code_18) rfl ((if0 _ _).trans (teq ((lw_eq _ _).mpr (by decide : (0 : Int64) = (0 : Int64)))).1) (by decide) (by decide) ?_
    show Steps p.tables e below (T_2.setTop (mkF m 23 #[Rv a, Rv r__2, Iv (7 : Int32)] [])) tt_
    refine XS.iinc X_2.here hEX rfl (hb hBY d_prog_59_method_5_code_23) rfl (l' := #[Rv a, Rv r__2, Iv (8 : Int32)]) rfl ?_
    show Steps p.tables e below (T_2.setTop (mkF m 26 #[Rv a, Rv r__2, Iv (8 : Int32)] [])) tt_
    refine XS.goto X_2.here hEX rfl (pc0 := 26) (pc' := 7) rfl (hb hBY d_prog_59_method_5_code_26) (by decide) (by decide) ?_
    show Steps p.tables e below (T_2.setTop (mkF m 7 #[Rv a, Rv r__2, Iv (8 : Int32)] [])) tt_
    refine XS.iloadN X_2.here hEX rfl (hb hBY d_prog_59_method_5_code_7) rfl ?_
    show Steps p.tables e below (T_2.setTop (mkF m 8 #[Rv a, Rv r__2, Iv (8 : Int32)] [(.int (8 : Int32))])) tt_
    refine XS.bipush X_2.here hEX rfl (hb hBY d_prog_59_method_5_code_8) ?_
    show Steps p.tables e below (T_2.setTop (mkF m 10 #[Rv a, Rv r__2, Iv (8 : Int32)] [(.int (8 : Int32)), (.int (8 : Int32))])) tt_
    refine XS.icmpYes X_2.here hEX rfl (pc0 := 10) (pc' := 29) rfl (hb hBY d_prog_59_method_5_code_10) rfl (flt (by decide : ¬ ((8 : Int32) < (8 : Int32)))).2.1 (by decide) (by decide) ?_
    show Steps p.tables e below (T_2.setTop (mkF m 29 #[Rv a, Rv r__2, Iv (8 : Int32)] [])) tt_
    refine XS.iconst X_2.here hEX rfl (hb hBY d_prog_59_method_5_code_29) ?_
    exact kt_
  refine Done.pre sg_14 ?_
  exact Done.retN X_2 hEX hLK (t := .boolean) hRT (by simp) (hb hBY d_prog_59_method_5_code_30) (by exact ⟨rfl, N_2, K__3⟩) (by decide) (by decide)
theorem d_method_6_code_0 : decode method_6_code 0 = .ok (.lload_n 0, 1) := by decide +kernel
theorem d_method_6_code_1 : decode method_6_code 1 = .ok (.ldc2_w 13, 3) := by decide +kernel
theorem d_method_6_code_4 : decode method_6_code 4 = .ok (.lcmp, 1) := by decide +kernel
theorem d_method_6_code_5 : decode method_6_code 5 = .ok (.ifCond .le 15, 3) := by decide +kernel
theorem d_method_6_code_8 : decode method_6_code 8 = .ok (.lload_n 0, 1) := by decide +kernel
theorem d_method_6_code_9 : decode method_6_code 9 = .ok (.ldc2_w 18, 3) := by decide +kernel
theorem d_method_6_code_12 : decode method_6_code 12 = .ok (.lcmp, 1) := by decide +kernel
theorem d_method_6_code_13 : decode method_6_code 13 = .ok (.ifCond .ge 7, 3) := by decide +kernel
theorem d_method_6_code_16 : decode method_6_code 16 = .ok (.iconst 1, 1) := by decide +kernel
theorem d_method_6_code_17 : decode method_6_code 17 = .ok (.goto 4, 3) := by decide +kernel
theorem d_method_6_code_21 : decode method_6_code 21 = .ok (.ireturn, 1) := by decide +kernel
def Qrm_inr (Z : State) (v : Int64) (h0 : Heap) (n0 : Nat) (v_ : Option Value) (h_ : Heap) (L_ : List Loc) : Prop := v_ = some (.int (1 : Int32)) ∧ Fr n0 L_ ∧ h_ = h0
theorem ef_rm_inr (m : MethodId) (x0 : Int64) : entryFrame m #[(.long x0)] 2 = mkF m 0 #[.val (.long x0), .second] [] := by first | (simp [entryFrame, mkF, argsToLocals, Value.category]; done) | rfl
set_option maxRecDepth 65536 in
set_option maxHeartbeats 40000000 in
theorem rm_inr (l : Launch) (Z : State) (aZ : Array Value) (hw : ∀ d ∈ tables_1, d.before aZ Z = true) (ws : List Jvm.Cond) (v : Int64) (h0 : Heap) (n0 : Nat) (Z0 : n0 ≤ h0.size) (hlo : (-1125899906842624 : Int64) < v) (hhi : v < (1125899906842624 : Int64)) :
    MetFree l (⟨"com/example/guard3/guard3/P384FieldAddPinLaw", "inRange", "(J)Z"⟩ : MethodName) (head1 (Jvm.Cond.code (⟨"com/example/guard3/guard3/P384FieldAddPinLaw", "inRange", "(J)Z"⟩ : MethodName) method_6_code 2 (some .boolean) :: ws) ({ frames := 0, cells := 0, slots := 0, locals := 0 } : Room)) (fun a_ U_ => a_ = #[(.long v)] ∧ Z.Warmed39 U_.vm ∧ U_.heap = h0) (fun _ _ _ _ _ => True) (fun _ U_ o_ U2_ => ∃ v_ L_, o_ = .returned v_ ∧ Qrm_inr Z v h0 n0 v_ U2_.heap L_ ∧ FrameEnd U_ o_ U2_ L_ ({ frames := 0, cells := 0, slots := 0, locals := 0 } : Room).cells ({ frames := 0, cells := 0, slots := 0, locals := 0 } : Room).slots) := by
  refine MetFree.of_bodySF (plainFor_of_name pn_com_example_guard3_guard3_P384FieldAddPinLaw) hisR ?_
  intro p e s m args below meth cO s₁ Bd hml0 hP hK
  obtain ⟨rfl, hZW, hh⟩ := hP
  have hEX := Bd.exec
  have hBY := Bd.bytes
  have hMX : cO.maxLocals = 2 := hml0
  have hOW : s.vm.findClass "com/example/guard3/guard3/P384FieldAddPinLaw" = some m.cls := findClass_of_methodNamed Bd.named
  have hNM := (name_of_methodNamed Bd.named Bd.method).1
  have hLK := Bd.notSynchronized
  have hRT := Bd.returns
  have X0 : Stand p l e ({ frames := 0, cells := 0, slots := 0, locals := 0 } : Room) s m #[(.long v)] below meth cO s₁ [] 0 0 := Stand.of_body Bd
  have e0 : s₁.heap = h0 := by rw [← hh, Bd.state]; rfl
  have N0 := Fr.nil n0
  have K0 : Keep h0 h0 [] := Keep.refl _ _
  show Done p e below s (Qrm_inr Z v h0 n0) ({ frames := 0, cells := 0, slots := 0, locals := 0 } : Room).cells ({ frames := 0, cells := 0, slots := 0, locals := 0 } : Room).slots (s₁.setTop (entryFrame m #[(.long v)] 2))
  refine Done.pre (fun t_ k_ => castTop (ef_rm_inr m v) k_) ?_
  show Done _ _ _ _ _ _ _ (s₁.setTop (mkF m 0 #[Lv v, Zs] []))
  have sg_1 : ∀ tt_, Steps p.tables e below (s₁.setTop (mkF m 21 #[Lv v, Zs] [(.int (1 : Int32))])) tt_ → Steps p.tables e below (s₁.setTop (mkF m 0 #[Lv v, Zs] [])) tt_ := by
    intro tt_ kt_
    refine XS.lloadN X0.here hEX rfl (hb hBY d_method_6_code_0) rfl ?_
    show Steps p.tables e below (s₁.setTop (mkF m 1 #[Lv v, Zs] [(.long v)])) tt_
    refine X0.ldc2Long hEX hOW (mvT hZW (hw _ (List.mem_of_getElem? (i := 11) rfl))) (g := (mkF m 1 #[Lv v, Zs] [(.long v)])) rfl (hb hBY d_method_6_code_1) _ ?_
    show Steps p.tables e below (s₁.setTop (mkF m 4 #[Lv v, Zs] [(.long (-1125899906842624 : Int64)), (.long v)])) tt_
    refine XS.lcmp X0.here hEX rfl (hb hBY d_method_6_code_4) rfl ?_
    show Steps p.tables e below (s₁.setTop (mkF m 5 #[Lv v, Zs] [(.int (lcmpW v (-1125899906842624 : Int64)))])) tt_
    refine XS.ifNo X0.here hEX rfl (hb hBY d_method_6_code_5) rfl ((if0 _ _).trans (tlt ((lw_gt _ _).mpr (hlo : (-1125899906842624 : Int64) < v))).2.2.2) ?_
    show Steps p.tables e below (s₁.setTop (mkF m 8 #[Lv v, Zs] [])) tt_
    refine XS.lloadN X0.here hEX rfl (hb hBY d_method_6_code_8) rfl ?_
    show Steps p.tables e below (s₁.setTop (mkF m 9 #[Lv v, Zs] [(.long v)])) tt_
    refine X0.ldc2Long hEX hOW (mvT hZW (hw _ (List.mem_of_getElem? (i := 28) rfl))) (g := (mkF m 9 #[Lv v, Zs] [(.long v)])) rfl (hb hBY d_method_6_code_9) _ ?_
    show Steps p.tables e below (s₁.setTop (mkF m 12 #[Lv v, Zs] [(.long (1125899906842624 : Int64)), (.long v)])) tt_
    refine XS.lcmp X0.here hEX rfl (hb hBY d_method_6_code_12) rfl ?_
    show Steps p.tables e below (s₁.setTop (mkF m 13 #[Lv v, Zs] [(.int (lcmpW v (1125899906842624 : Int64)))])) tt_
    refine XS.ifNo X0.here hEX rfl (hb hBY d_method_6_code_13) rfl ((if0 _ _).trans (tlt ((lw_lt _ _).mpr (hhi : v < (1125899906842624 : Int64)))).2.1) ?_
    show Steps p.tables e below (s₁.setTop (mkF m 16 #[Lv v, Zs] [])) tt_
    refine XS.iconst X0.here hEX rfl (hb hBY d_method_6_code_16) ?_
    show Steps p.tables e below (s₁.setTop (mkF m 17 #[Lv v, Zs] [(.int (1 : Int32))])) tt_
    refine XS.goto X0.here hEX rfl (pc0 := 17) (pc' := 21) rfl (hb hBY d_method_6_code_17) (by decide) (by decide) ?_
    exact kt_
  refine Done.pre sg_1 ?_
  exact Done.retN X0 hEX hLK (t := .boolean) hRT (by simp) (hb hBY d_method_6_code_21) (by rw [e0]; exact ⟨rfl, N0, rfl⟩) (by decide) (by decide)
theorem d_method_7_code_0 : decode method_7_code 0 = .ok (.aload_n 0, 1) := by decide +kernel
theorem d_method_7_code_1 : decode method_7_code 1 = .ok (.iconst 0, 1) := by decide +kernel
theorem d_method_7_code_2 : decode method_7_code 2 = .ok (.laload, 1) := by decide +kernel
theorem d_method_7_code_3 : decode method_7_code 3 = .ok (.aload_n 1, 1) := by decide +kernel
theorem d_method_7_code_4 : decode method_7_code 4 = .ok (.iconst 0, 1) := by decide +kernel
theorem d_method_7_code_5 : decode method_7_code 5 = .ok (.laload, 1) := by decide +kernel
theorem d_method_7_code_6 : decode method_7_code 6 = .ok (.lcmp, 1) := by decide +kernel
theorem d_method_7_code_7 : decode method_7_code 7 = .ok (.ifCond .ne 81, 3) := by decide +kernel
theorem d_method_7_code_10 : decode method_7_code 10 = .ok (.aload_n 0, 1) := by decide +kernel
theorem d_method_7_code_11 : decode method_7_code 11 = .ok (.iconst 1, 1) := by decide +kernel
theorem d_method_7_code_12 : decode method_7_code 12 = .ok (.laload, 1) := by decide +kernel
theorem d_method_7_code_13 : decode method_7_code 13 = .ok (.aload_n 1, 1) := by decide +kernel
theorem d_method_7_code_14 : decode method_7_code 14 = .ok (.iconst 1, 1) := by decide +kernel
theorem d_method_7_code_15 : decode method_7_code 15 = .ok (.laload, 1) := by decide +kernel
theorem d_method_7_code_16 : decode method_7_code 16 = .ok (.lcmp, 1) := by decide +kernel
theorem d_method_7_code_17 : decode method_7_code 17 = .ok (.ifCond .ne 71, 3) := by decide +kernel
theorem d_method_7_code_20 : decode method_7_code 20 = .ok (.aload_n 0, 1) := by decide +kernel
theorem d_method_7_code_21 : decode method_7_code 21 = .ok (.iconst 2, 1) := by decide +kernel
theorem d_method_7_code_22 : decode method_7_code 22 = .ok (.laload, 1) := by decide +kernel
theorem d_method_7_code_23 : decode method_7_code 23 = .ok (.aload_n 1, 1) := by decide +kernel
theorem d_method_7_code_24 : decode method_7_code 24 = .ok (.iconst 2, 1) := by decide +kernel
theorem d_method_7_code_25 : decode method_7_code 25 = .ok (.laload, 1) := by decide +kernel
theorem d_method_7_code_26 : decode method_7_code 26 = .ok (.lcmp, 1) := by decide +kernel
theorem d_method_7_code_27 : decode method_7_code 27 = .ok (.ifCond .ne 61, 3) := by decide +kernel
theorem d_method_7_code_30 : decode method_7_code 30 = .ok (.aload_n 0, 1) := by decide +kernel
theorem d_method_7_code_31 : decode method_7_code 31 = .ok (.iconst 3, 1) := by decide +kernel
theorem d_method_7_code_32 : decode method_7_code 32 = .ok (.laload, 1) := by decide +kernel
theorem d_method_7_code_33 : decode method_7_code 33 = .ok (.aload_n 1, 1) := by decide +kernel
theorem d_method_7_code_34 : decode method_7_code 34 = .ok (.iconst 3, 1) := by decide +kernel
theorem d_method_7_code_35 : decode method_7_code 35 = .ok (.laload, 1) := by decide +kernel
theorem d_method_7_code_36 : decode method_7_code 36 = .ok (.lcmp, 1) := by decide +kernel
theorem d_method_7_code_37 : decode method_7_code 37 = .ok (.ifCond .ne 51, 3) := by decide +kernel
theorem d_method_7_code_40 : decode method_7_code 40 = .ok (.aload_n 0, 1) := by decide +kernel
theorem d_method_7_code_41 : decode method_7_code 41 = .ok (.iconst 4, 1) := by decide +kernel
theorem d_method_7_code_42 : decode method_7_code 42 = .ok (.laload, 1) := by decide +kernel
theorem d_method_7_code_43 : decode method_7_code 43 = .ok (.aload_n 1, 1) := by decide +kernel
theorem d_method_7_code_44 : decode method_7_code 44 = .ok (.iconst 4, 1) := by decide +kernel
theorem d_method_7_code_45 : decode method_7_code 45 = .ok (.laload, 1) := by decide +kernel
theorem d_method_7_code_46 : decode method_7_code 46 = .ok (.lcmp, 1) := by decide +kernel
theorem d_method_7_code_47 : decode method_7_code 47 = .ok (.ifCond .ne 41, 3) := by decide +kernel
theorem d_method_7_code_50 : decode method_7_code 50 = .ok (.aload_n 0, 1) := by decide +kernel
theorem d_method_7_code_51 : decode method_7_code 51 = .ok (.iconst 5, 1) := by decide +kernel
theorem d_method_7_code_52 : decode method_7_code 52 = .ok (.laload, 1) := by decide +kernel
theorem d_method_7_code_53 : decode method_7_code 53 = .ok (.aload_n 1, 1) := by decide +kernel
theorem d_method_7_code_54 : decode method_7_code 54 = .ok (.iconst 5, 1) := by decide +kernel
theorem d_method_7_code_55 : decode method_7_code 55 = .ok (.laload, 1) := by decide +kernel
theorem d_method_7_code_56 : decode method_7_code 56 = .ok (.lcmp, 1) := by decide +kernel
theorem d_method_7_code_57 : decode method_7_code 57 = .ok (.ifCond .ne 31, 3) := by decide +kernel
theorem d_method_7_code_60 : decode method_7_code 60 = .ok (.aload_n 0, 1) := by decide +kernel
theorem d_method_7_code_61 : decode method_7_code 61 = .ok (.bipush 6, 2) := by decide +kernel
theorem d_method_7_code_63 : decode method_7_code 63 = .ok (.laload, 1) := by decide +kernel
theorem d_method_7_code_64 : decode method_7_code 64 = .ok (.aload_n 1, 1) := by decide +kernel
theorem d_method_7_code_65 : decode method_7_code 65 = .ok (.bipush 6, 2) := by decide +kernel
theorem d_method_7_code_67 : decode method_7_code 67 = .ok (.laload, 1) := by decide +kernel
theorem d_method_7_code_68 : decode method_7_code 68 = .ok (.lcmp, 1) := by decide +kernel
theorem d_method_7_code_69 : decode method_7_code 69 = .ok (.ifCond .ne 19, 3) := by decide +kernel
theorem d_method_7_code_72 : decode method_7_code 72 = .ok (.aload_n 0, 1) := by decide +kernel
theorem d_method_7_code_73 : decode method_7_code 73 = .ok (.bipush 7, 2) := by decide +kernel
theorem d_method_7_code_75 : decode method_7_code 75 = .ok (.laload, 1) := by decide +kernel
theorem d_method_7_code_76 : decode method_7_code 76 = .ok (.aload_n 1, 1) := by decide +kernel
theorem d_method_7_code_77 : decode method_7_code 77 = .ok (.bipush 7, 2) := by decide +kernel
theorem d_method_7_code_79 : decode method_7_code 79 = .ok (.laload, 1) := by decide +kernel
theorem d_method_7_code_80 : decode method_7_code 80 = .ok (.lcmp, 1) := by decide +kernel
theorem d_method_7_code_81 : decode method_7_code 81 = .ok (.ifCond .ne 7, 3) := by decide +kernel
theorem d_method_7_code_84 : decode method_7_code 84 = .ok (.iconst 1, 1) := by decide +kernel
theorem d_method_7_code_85 : decode method_7_code 85 = .ok (.goto 4, 3) := by decide +kernel
theorem d_method_7_code_89 : decode method_7_code 89 = .ok (.ireturn, 1) := by decide +kernel
def Qrm_same (Z : State) (a : Addr) (b : Addr) (ka : ClassId) (kb : ClassId) (x0 : Int64) (x1 : Int64) (x2 : Int64) (x3 : Int64) (x4 : Int64) (x5 : Int64) (x6 : Int64) (x7 : Int64) (h0 : Heap) (n0 : Nat) (v_ : Option Value) (h_ : Heap) (L_ : List Loc) : Prop := v_ = some (.int (1 : Int32)) ∧ Fr n0 L_ ∧ h_ = h0
theorem ef_rm_same (m : MethodId) (x0 : Addr) (x1 : Addr) : entryFrame m #[(.ref x0), (.ref x1)] 2 = mkF m 0 #[.val (.ref x0), .val (.ref x1)] [] := by first | (simp [entryFrame, mkF, argsToLocals, Value.category]; done) | rfl
set_option maxRecDepth 65536 in
set_option maxHeartbeats 40000000 in
theorem rm_same (l : Launch) (Z : State) (aZ : Array Value) (hw : ∀ d ∈ tables_1, d.before aZ Z = true) (ws : List Jvm.Cond) (a : Addr) (b : Addr) (ka : ClassId) (kb : ClassId) (x0 : Int64) (x1 : Int64) (x2 : Int64) (x3 : Int64) (x4 : Int64) (x5 : Int64) (x6 : Int64) (x7 : Int64) (h0 : Heap) (n0 : Nat) (Z0 : n0 ≤ h0.size) (A1 : Arv Z h0 a ka .long (8 : Int32) [(.long x0), (.long x1), (.long x2), (.long x3), (.long x4), (.long x5), (.long x6), (.long x7)] (.long (0 : Int64))) (A2 : Arv Z h0 b kb .long (8 : Int32) [(.long x0), (.long x1), (.long x2), (.long x3), (.long x4), (.long x5), (.long x6), (.long x7)] (.long (0 : Int64))) :
    MetFree l (⟨"com/example/guard3/guard3/P384FieldAddPinLaw", "same", "([J[J)Z"⟩ : MethodName) (head1 (Jvm.Cond.code (⟨"com/example/guard3/guard3/P384FieldAddPinLaw", "same", "([J[J)Z"⟩ : MethodName) method_7_code 2 (some .boolean) :: ws) ({ frames := 0, cells := 0, slots := 0, locals := 0 } : Room)) (fun a_ U_ => a_ = #[(.ref a), (.ref b)] ∧ Z.Warmed39 U_.vm ∧ U_.heap = h0) (fun _ _ _ _ _ => True) (fun _ U_ o_ U2_ => ∃ v_ L_, o_ = .returned v_ ∧ Qrm_same Z a b ka kb x0 x1 x2 x3 x4 x5 x6 x7 h0 n0 v_ U2_.heap L_ ∧ FrameEnd U_ o_ U2_ L_ ({ frames := 0, cells := 0, slots := 0, locals := 0 } : Room).cells ({ frames := 0, cells := 0, slots := 0, locals := 0 } : Room).slots) := by
  refine MetFree.of_bodySF (plainFor_of_name pn_com_example_guard3_guard3_P384FieldAddPinLaw) hisR ?_
  intro p e s m args below meth cO s₁ Bd hml0 hP hK
  obtain ⟨rfl, hZW, hh⟩ := hP
  have hEX := Bd.exec
  have hBY := Bd.bytes
  have hMX : cO.maxLocals = 2 := hml0
  have hOW : s.vm.findClass "com/example/guard3/guard3/P384FieldAddPinLaw" = some m.cls := findClass_of_methodNamed Bd.named
  have hNM := (name_of_methodNamed Bd.named Bd.method).1
  have hLK := Bd.notSynchronized
  have hRT := Bd.returns
  have X0 : Stand p l e ({ frames := 0, cells := 0, slots := 0, locals := 0 } : Room) s m #[(.ref a), (.ref b)] below meth cO s₁ [] 0 0 := Stand.of_body Bd
  have e0 : s₁.heap = h0 := by rw [← hh, Bd.state]; rfl
  have N0 := Fr.nil n0
  have K0 : Keep h0 h0 [] := Keep.refl _ _
  show Done p e below s (Qrm_same Z a b ka kb x0 x1 x2 x3 x4 x5 x6 x7 h0 n0) ({ frames := 0, cells := 0, slots := 0, locals := 0 } : Room).cells ({ frames := 0, cells := 0, slots := 0, locals := 0 } : Room).slots (s₁.setTop (entryFrame m #[(.ref a), (.ref b)] 2))
  refine Done.pre (fun t_ k_ => castTop (ef_rm_same m a b) k_) ?_
  show Done _ _ _ _ _ _ _ (s₁.setTop (mkF m 0 #[Rv a, Rv b] []))
  obtain ⟨cl_1, Ar_1, q_1, S_1, N__1, H_1, G_1⟩ := id A1
  have hin_1 : ¬ ((0 : Int32) < 0 ∨ cl_1.slots.size ≤ ((0 : Int32)).toNatClampNeg) := inb_of S_1 ⟨by decide, by decide⟩
  have hat_1 : cl_1.slots[((0 : Int32)).toNatClampNeg]? = some (.long x0) := H_1.at hin_1 rfl
  obtain ⟨cl_2, Ar_2, q_2, S_2, N__2, H_2, G_2⟩ := id A2
  have hin_2 : ¬ ((0 : Int32) < 0 ∨ cl_2.slots.size ≤ ((0 : Int32)).toNatClampNeg) := inb_of S_2 ⟨by decide, by decide⟩
  have hat_2 : cl_2.slots[((0 : Int32)).toNatClampNeg]? = some (.long x0) := H_2.at hin_2 rfl
  obtain ⟨cl_3, Ar_3, q_3, S_3, N__3, H_3, G_3⟩ := id A1
  have hin_3 : ¬ ((1 : Int32) < 0 ∨ cl_3.slots.size ≤ ((1 : Int32)).toNatClampNeg) := inb_of S_3 ⟨by decide, by decide⟩
  have hat_3 : cl_3.slots[((1 : Int32)).toNatClampNeg]? = some (.long x1) := H_3.at hin_3 rfl
  obtain ⟨cl_4, Ar_4, q_4, S_4, N__4, H_4, G_4⟩ := id A2
  have hin_4 : ¬ ((1 : Int32) < 0 ∨ cl_4.slots.size ≤ ((1 : Int32)).toNatClampNeg) := inb_of S_4 ⟨by decide, by decide⟩
  have hat_4 : cl_4.slots[((1 : Int32)).toNatClampNeg]? = some (.long x1) := H_4.at hin_4 rfl
  obtain ⟨cl_5, Ar_5, q_5, S_5, N__5, H_5, G_5⟩ := id A1
  have hin_5 : ¬ ((2 : Int32) < 0 ∨ cl_5.slots.size ≤ ((2 : Int32)).toNatClampNeg) := inb_of S_5 ⟨by decide, by decide⟩
  have hat_5 : cl_5.slots[((2 : Int32)).toNatClampNeg]? = some (.long x2) := H_5.at hin_5 rfl
  obtain ⟨cl_6, Ar_6, q_6, S_6, N__6, H_6, G_6⟩ := id A2
  have hin_6 : ¬ ((2 : Int32) < 0 ∨ cl_6.slots.size ≤ ((2 : Int32)).toNatClampNeg) := inb_of S_6 ⟨by decide, by decide⟩
  have hat_6 : cl_6.slots[((2 : Int32)).toNatClampNeg]? = some (.long x2) := H_6.at hin_6 rfl
  obtain ⟨cl_7, Ar_7, q_7, S_7, N__7, H_7, G_7⟩ := id A1
  have hin_7 : ¬ ((3 : Int32) < 0 ∨ cl_7.slots.size ≤ ((3 : Int32)).toNatClampNeg) := inb_of S_7 ⟨by decide, by decide⟩
  have hat_7 : cl_7.slots[((3 : Int32)).toNatClampNeg]? = some (.long x3) := H_7.at hin_7 rfl
  obtain ⟨cl_8, Ar_8, q_8, S_8, N__8, H_8, G_8⟩ := id A2
  have hin_8 : ¬ ((3 : Int32) < 0 ∨ cl_8.slots.size ≤ ((3 : Int32)).toNatClampNeg) := inb_of S_8 ⟨by decide, by decide⟩
  have hat_8 : cl_8.slots[((3 : Int32)).toNatClampNeg]? = some (.long x3) := H_8.at hin_8 rfl
  obtain ⟨cl_9, Ar_9, q_9, S_9, N__9, H_9, G_9⟩ := id A1
  have hin_9 : ¬ ((4 : Int32) < 0 ∨ cl_9.slots.size ≤ ((4 : Int32)).toNatClampNeg) := inb_of S_9 ⟨by decide, by decide⟩
  have hat_9 : cl_9.slots[((4 : Int32)).toNatClampNeg]? = some (.long x4) := H_9.at hin_9 rfl
  obtain ⟨cl_10, Ar_10, q_10, S_10, N__10, H_10, G_10⟩ := id A2
  have hin_10 : ¬ ((4 : Int32) < 0 ∨ cl_10.slots.size ≤ ((4 : Int32)).toNatClampNeg) := inb_of S_10 ⟨by decide, by decide⟩
  have hat_10 : cl_10.slots[((4 : Int32)).toNatClampNeg]? = some (.long x4) := H_10.at hin_10 rfl
  obtain ⟨cl_11, Ar_11, q_11, S_11, N__11, H_11, G_11⟩ := id A1
  have hin_11 : ¬ ((5 : Int32) < 0 ∨ cl_11.slots.size ≤ ((5 : Int32)).toNatClampNeg) := inb_of S_11 ⟨by decide, by decide⟩
  have hat_11 : cl_11.slots[((5 : Int32)).toNatClampNeg]? = some (.long x5) := H_11.at hin_11 rfl
  obtain ⟨cl_12, Ar_12, q_12, S_12, N__12, H_12, G_12⟩ := id A2
  have hin_12 : ¬ ((5 : Int32) < 0 ∨ cl_12.slots.size ≤ ((5 : Int32)).toNatClampNeg) := inb_of S_12 ⟨by decide, by decide⟩
  have hat_12 : cl_12.slots[((5 : Int32)).toNatClampNeg]? = some (.long x5) := H_12.at hin_12 rfl
  obtain ⟨cl_13, Ar_13, q_13, S_13, N__13, H_13, G_13⟩ := id A1
  have hin_13 : ¬ ((6 : Int32) < 0 ∨ cl_13.slots.size ≤ ((6 : Int32)).toNatClampNeg) := inb_of S_13 ⟨by decide, by decide⟩
  have hat_13 : cl_13.slots[((6 : Int32)).toNatClampNeg]? = some (.long x6) := H_13.at hin_13 rfl
  obtain ⟨cl_14, Ar_14, q_14, S_14, N__14, H_14, G_14⟩ := id A2
  have hin_14 : ¬ ((6 : Int32) < 0 ∨ cl_14.slots.size ≤ ((6 : Int32)).toNatClampNeg) := inb_of S_14 ⟨by decide, by decide⟩
  have hat_14 : cl_14.slots[((6 : Int32)).toNatClampNeg]? = some (.long x6) := H_14.at hin_14 rfl
  obtain ⟨cl_15, Ar_15, q_15, S_15, N__15, H_15, G_15⟩ := id A1
  have hin_15 : ¬ ((7 : Int32) < 0 ∨ cl_15.slots.size ≤ ((7 : Int32)).toNatClampNeg) := inb_of S_15 ⟨by decide, by decide⟩
  have hat_15 : cl_15.slots[((7 : Int32)).toNatClampNeg]? = some (.long x7) := H_15.at hin_15 rfl
  obtain ⟨cl_16, Ar_16, q_16, S_16, N__16, H_16, G_16⟩ := id A2
  have hin_16 : ¬ ((7 : Int32) < 0 ∨ cl_16.slots.size ≤ ((7 : Int32)).toNatClampNeg) := inb_of S_16 ⟨by decide, by decide⟩
  have hat_16 : cl_16.slots[((7 : Int32)).toNatClampNeg]? = some (.long x7) := H_16.at hin_16 rfl
  have sg_17 : ∀ tt_, Steps p.tables e below (s₁.setTop (mkF m 89 #[Rv a, Rv b] [(.int (1 : Int32))])) tt_ → Steps p.tables e below (s₁.setTop (mkF m 0 #[Rv a, Rv b] [])) tt_ := by
    intro tt_ kt_
    refine XS.aloadN X0.here hEX rfl (hb hBY d_method_7_code_0) rfl rfl ?_
    show Steps p.tables e below (s₁.setTop (mkF m 1 #[Rv a, Rv b] [(.ref a)])) tt_
    refine XS.iconst X0.here hEX rfl (hb hBY d_method_7_code_1) ?_
    show Steps p.tables e below (s₁.setTop (mkF m 2 #[Rv a, Rv b] [(.int (0 : Int32)), (.ref a)])) tt_
    refine X0.laload hEX (j := (0 : Int32)) (v := (.long x0)) (by rw [e0]; exact Ar_1.1) (State.isArrayOf_alike hZW.alike Ar_1.2.1) Ar_1.2.2 hin_1 hat_1 (g := (mkF m 2 #[Rv a, Rv b] [(.int (0 : Int32)), (.ref a)])) rfl rfl (hb hBY d_method_7_code_2) _ ?_
    show Steps p.tables e below (s₁.setTop (mkF m 3 #[Rv a, Rv b] [(.long x0)])) tt_
    refine XS.aloadN X0.here hEX rfl (hb hBY d_method_7_code_3) rfl rfl ?_
    show Steps p.tables e below (s₁.setTop (mkF m 4 #[Rv a, Rv b] [(.ref b), (.long x0)])) tt_
    refine XS.iconst X0.here hEX rfl (hb hBY d_method_7_code_4) ?_
    show Steps p.tables e below (s₁.setTop (mkF m 5 #[Rv a, Rv b] [(.int (0 : Int32)), (.ref b), (.long x0)])) tt_
    refine X0.laload hEX (j := (0 : Int32)) (v := (.long x0)) (by rw [e0]; exact Ar_2.1) (State.isArrayOf_alike hZW.alike Ar_2.2.1) Ar_2.2.2 hin_2 hat_2 (g := (mkF m 5 #[Rv a, Rv b] [(.int (0 : Int32)), (.ref b), (.long x0)])) rfl rfl (hb hBY d_method_7_code_5) _ ?_
    show Steps p.tables e below (s₁.setTop (mkF m 6 #[Rv a, Rv b] [(.long x0), (.long x0)])) tt_
    refine XS.lcmp X0.here hEX rfl (hb hBY d_method_7_code_6) rfl ?_
    show Steps p.tables e below (s₁.setTop (mkF m 7 #[Rv a, Rv b] [(.int (lcmpW x0 x0))])) tt_
    refine XS.ifNo X0.here hEX rfl (hb hBY d_method_7_code_7) rfl ((if0 _ _).trans (teq ((lw_eq _ _).mpr (rfl : x0 = x0))).2) ?_
    show Steps p.tables e below (s₁.setTop (mkF m 10 #[Rv a, Rv b] [])) tt_
    refine XS.aloadN X0.here hEX rfl (hb hBY d_method_7_code_10) rfl rfl ?_
    show Steps p.tables e below (s₁.setTop (mkF m 11 #[Rv a, Rv b] [(.ref a)])) tt_
    refine XS.iconst X0.here hEX rfl (hb hBY d_method_7_code_11) ?_
    show Steps p.tables e below (s₁.setTop (mkF m 12 #[Rv a, Rv b] [(.int (1 : Int32)), (.ref a)])) tt_
    refine X0.laload hEX (j := (1 : Int32)) (v := (.long x1)) (by rw [e0]; exact Ar_3.1) (State.isArrayOf_alike hZW.alike Ar_3.2.1) Ar_3.2.2 hin_3 hat_3 (g := (mkF m 12 #[Rv a, Rv b] [(.int (1 : Int32)), (.ref a)])) rfl rfl (hb hBY d_method_7_code_12) _ ?_
    show Steps p.tables e below (s₁.setTop (mkF m 13 #[Rv a, Rv b] [(.long x1)])) tt_
    refine XS.aloadN X0.here hEX rfl (hb hBY d_method_7_code_13) rfl rfl ?_
    show Steps p.tables e below (s₁.setTop (mkF m 14 #[Rv a, Rv b] [(.ref b), (.long x1)])) tt_
    refine XS.iconst X0.here hEX rfl (hb hBY d_method_7_code_14) ?_
    show Steps p.tables e below (s₁.setTop (mkF m 15 #[Rv a, Rv b] [(.int (1 : Int32)), (.ref b), (.long x1)])) tt_
    refine X0.laload hEX (j := (1 : Int32)) (v := (.long x1)) (by rw [e0]; exact Ar_4.1) (State.isArrayOf_alike hZW.alike Ar_4.2.1) Ar_4.2.2 hin_4 hat_4 (g := (mkF m 15 #[Rv a, Rv b] [(.int (1 : Int32)), (.ref b), (.long x1)])) rfl rfl (hb hBY d_method_7_code_15) _ ?_
    show Steps p.tables e below (s₁.setTop (mkF m 16 #[Rv a, Rv b] [(.long x1), (.long x1)])) tt_
    refine XS.lcmp X0.here hEX rfl (hb hBY d_method_7_code_16) rfl ?_
    show Steps p.tables e below (s₁.setTop (mkF m 17 #[Rv a, Rv b] [(.int (lcmpW x1 x1))])) tt_
    refine XS.ifNo X0.here hEX rfl (hb hBY d_method_7_code_17) rfl ((if0 _ _).trans (teq ((lw_eq _ _).mpr (rfl : x1 = x1))).2) ?_
    show Steps p.tables e below (s₁.setTop (mkF m 20 #[Rv a, Rv b] [])) tt_
    refine XS.aloadN X0.here hEX rfl (hb hBY d_method_7_code_20) rfl rfl ?_
    show Steps p.tables e below (s₁.setTop (mkF m 21 #[Rv a, Rv b] [(.ref a)])) tt_
    refine XS.iconst X0.here hEX rfl (hb hBY d_method_7_code_21) ?_
    show Steps p.tables e below (s₁.setTop (mkF m 22 #[Rv a, Rv b] [(.int (2 : Int32)), (.ref a)])) tt_
    refine X0.laload hEX (j := (2 : Int32)) (v := (.long x2)) (by rw [e0]; exact Ar_5.1) (State.isArrayOf_alike hZW.alike Ar_5.2.1) Ar_5.2.2 hin_5 hat_5 (g := (mkF m 22 #[Rv a, Rv b] [(.int (2 : Int32)), (.ref a)])) rfl rfl (hb hBY d_method_7_code_22) _ ?_
    show Steps p.tables e below (s₁.setTop (mkF m 23 #[Rv a, Rv b] [(.long x2)])) tt_
    refine XS.aloadN X0.here hEX rfl (hb hBY d_method_7_code_23) rfl rfl ?_
    show Steps p.tables e below (s₁.setTop (mkF m 24 #[Rv a, Rv b] [(.ref b), (.long x2)])) tt_
    refine XS.iconst X0.here hEX rfl (hb hBY d_method_7_code_24) ?_
    show Steps p.tables e below (s₁.setTop (mkF m 25 #[Rv a, Rv b] [(.int (2 : Int32)), (.ref b), (.long x2)])) tt_
    refine X0.laload hEX (j := (2 : Int32)) (v := (.long x2)) (by rw [e0]; exact Ar_6.1) (State.isArrayOf_alike hZW.alike Ar_6.2.1) Ar_6.2.2 hin_6 hat_6 (g := (mkF m 25 #[Rv a, Rv b] [(.int (2 : Int32)), (.ref b), (.long x2)])) rfl rfl (hb hBY d_method_7_code_25) _ ?_
    show Steps p.tables e below (s₁.setTop (mkF m 26 #[Rv a, Rv b] [(.long x2), (.long x2)])) tt_
    refine XS.lcmp X0.here hEX rfl (hb hBY d_method_7_code_26) rfl ?_
    show Steps p.tables e below (s₁.setTop (mkF m 27 #[Rv a, Rv b] [(.int (lcmpW x2 x2))])) tt_
    refine XS.ifNo X0.here hEX rfl (hb hBY d_method_7_code_27) rfl ((if0 _ _).trans (teq ((lw_eq _ _).mpr (rfl : x2 = x2))).2) ?_
    show Steps p.tables e below (s₁.setTop (mkF m 30 #[Rv a, Rv b] [])) tt_
    refine XS.aloadN X0.here hEX rfl (hb hBY d_method_7_code_30) rfl rfl ?_
    show Steps p.tables e below (s₁.setTop (mkF m 31 #[Rv a, Rv b] [(.ref a)])) tt_
    refine XS.iconst X0.here hEX rfl (hb hBY d_method_7_code_31) ?_
    show Steps p.tables e below (s₁.setTop (mkF m 32 #[Rv a, Rv b] [(.int (3 : Int32)), (.ref a)])) tt_
    refine X0.laload hEX (j := (3 : Int32)) (v := (.long x3)) (by rw [e0]; exact Ar_7.1) (State.isArrayOf_alike hZW.alike Ar_7.2.1) Ar_7.2.2 hin_7 hat_7 (g := (mkF m 32 #[Rv a, Rv b] [(.int (3 : Int32)), (.ref a)])) rfl rfl (hb hBY d_method_7_code_32) _ ?_
    show Steps p.tables e below (s₁.setTop (mkF m 33 #[Rv a, Rv b] [(.long x3)])) tt_
    refine XS.aloadN X0.here hEX rfl (hb hBY d_method_7_code_33) rfl rfl ?_
    show Steps p.tables e below (s₁.setTop (mkF m 34 #[Rv a, Rv b] [(.ref b), (.long x3)])) tt_
    refine XS.iconst X0.here hEX rfl (hb hBY d_method_7_code_34) ?_
    show Steps p.tables e below (s₁.setTop (mkF m 35 #[Rv a, Rv b] [(.int (3 : Int32)), (.ref b), (.long x3)])) tt_
    refine X0.laload hEX (j := (3 : Int32)) (v := (.long x3)) (by rw [e0]; exact Ar_8.1) (State.isArrayOf_alike hZW.alike Ar_8.2.1) Ar_8.2.2 hin_8 hat_8 (g := (mkF m 35 #[Rv a, Rv b] [(.int (3 : Int32)), (.ref b), (.long x3)])) rfl rfl (hb hBY d_method_7_code_35) _ ?_
    show Steps p.tables e below (s₁.setTop (mkF m 36 #[Rv a, Rv b] [(.long x3), (.long x3)])) tt_
    refine XS.lcmp X0.here hEX rfl (hb hBY d_method_7_code_36) rfl ?_
    show Steps p.tables e below (s₁.setTop (mkF m 37 #[Rv a, Rv b] [(.int (lcmpW x3 x3))])) tt_
    refine XS.ifNo X0.here hEX rfl (hb hBY d_method_7_code_37) rfl ((if0 _ _).trans (teq ((lw_eq _ _).mpr (rfl : x3 = x3))).2) ?_
    show Steps p.tables e below (s₁.setTop (mkF m 40 #[Rv a, Rv b] [])) tt_
    refine XS.aloadN X0.here hEX rfl (hb hBY d_method_7_code_40) rfl rfl ?_
    show Steps p.tables e below (s₁.setTop (mkF m 41 #[Rv a, Rv b] [(.ref a)])) tt_
    refine XS.iconst X0.here hEX rfl (hb hBY d_method_7_code_41) ?_
    show Steps p.tables e below (s₁.setTop (mkF m 42 #[Rv a, Rv b] [(.int (4 : Int32)), (.ref a)])) tt_
    refine X0.laload hEX (j := (4 : Int32)) (v := (.long x4)) (by rw [e0]; exact Ar_9.1) (State.isArrayOf_alike hZW.alike Ar_9.2.1) Ar_9.2.2 hin_9 hat_9 (g := (mkF m 42 #[Rv a, Rv b] [(.int (4 : Int32)), (.ref a)])) rfl rfl (hb hBY d_method_7_code_42) _ ?_
    show Steps p.tables e below (s₁.setTop (mkF m 43 #[Rv a, Rv b] [(.long x4)])) tt_
    refine XS.aloadN X0.here hEX rfl (hb hBY d_method_7_code_43) rfl rfl ?_
    show Steps p.tables e below (s₁.setTop (mkF m 44 #[Rv a, Rv b] [(.ref b), (.long x4)])) tt_
    refine XS.iconst X0.here hEX rfl (hb hBY d_method_7_code_44) ?_
    show Steps p.tables e below (s₁.setTop (mkF m 45 #[Rv a, Rv b] [(.int (4 : Int32)), (.ref b), (.long x4)])) tt_
    refine X0.laload hEX (j := (4 : Int32)) (v := (.long x4)) (by rw [e0]; exact Ar_10.1) (State.isArrayOf_alike hZW.alike Ar_10.2.1) Ar_10.2.2 hin_10 hat_10 (g := (mkF m 45 #[Rv a, Rv b] [(.int (4 : Int32)), (.ref b), (.long x4)])) rfl rfl (hb hBY d_method_7_code_45) _ ?_
    show Steps p.tables e below (s₁.setTop (mkF m 46 #[Rv a, Rv b] [(.long x4), (.long x4)])) tt_
    refine XS.lcmp X0.here hEX rfl (hb hBY d_method_7_code_46) rfl ?_
    show Steps p.tables e below (s₁.setTop (mkF m 47 #[Rv a, Rv b] [(.int (lcmpW x4 x4))])) tt_
    refine XS.ifNo X0.here hEX rfl (hb hBY d_method_7_code_47) rfl ((if0 _ _).trans (teq ((lw_eq _ _).mpr (rfl : x4 = x4))).2) ?_
    show Steps p.tables e below (s₁.setTop (mkF m 50 #[Rv a, Rv b] [])) tt_
    refine XS.aloadN X0.here hEX rfl (hb hBY d_method_7_code_50) rfl rfl ?_
    show Steps p.tables e below (s₁.setTop (mkF m 51 #[Rv a, Rv b] [(.ref a)])) tt_
    refine XS.iconst X0.here hEX rfl (hb hBY d_method_7_code_51) ?_
    show Steps p.tables e below (s₁.setTop (mkF m 52 #[Rv a, Rv b] [(.int (5 : Int32)), (.ref a)])) tt_
    refine X0.laload hEX (j := (5 : Int32)) (v := (.long x5)) (by rw [e0]; exact Ar_11.1) (State.isArrayOf_alike hZW.alike Ar_11.2.1) Ar_11.2.2 hin_11 hat_11 (g := (mkF m 52 #[Rv a, Rv b] [(.int (5 : Int32)), (.ref a)])) rfl rfl (hb hBY d_method_7_code_52) _ ?_
    show Steps p.tables e below (s₁.setTop (mkF m 53 #[Rv a, Rv b] [(.long x5)])) tt_
    refine XS.aloadN X0.here hEX rfl (hb hBY d_method_7_code_53) rfl rfl ?_
    show Steps p.tables e below (s₁.setTop (mkF m 54 #[Rv a, Rv b] [(.ref b), (.long x5)])) tt_
    refine XS.iconst X0.here hEX rfl (hb hBY d_method_7_code_54) ?_
    show Steps p.tables e below (s₁.setTop (mkF m 55 #[Rv a, Rv b] [(.int (5 : Int32)), (.ref b), (.long x5)])) tt_
    refine X0.laload hEX (j := (5 : Int32)) (v := (.long x5)) (by rw [e0]; exact Ar_12.1) (State.isArrayOf_alike hZW.alike Ar_12.2.1) Ar_12.2.2 hin_12 hat_12 (g := (mkF m 55 #[Rv a, Rv b] [(.int (5 : Int32)), (.ref b), (.long x5)])) rfl rfl (hb hBY d_method_7_code_55) _ ?_
    show Steps p.tables e below (s₁.setTop (mkF m 56 #[Rv a, Rv b] [(.long x5), (.long x5)])) tt_
    refine XS.lcmp X0.here hEX rfl (hb hBY d_method_7_code_56) rfl ?_
    show Steps p.tables e below (s₁.setTop (mkF m 57 #[Rv a, Rv b] [(.int (lcmpW x5 x5))])) tt_
    refine XS.ifNo X0.here hEX rfl (hb hBY d_method_7_code_57) rfl ((if0 _ _).trans (teq ((lw_eq _ _).mpr (rfl : x5 = x5))).2) ?_
    show Steps p.tables e below (s₁.setTop (mkF m 60 #[Rv a, Rv b] [])) tt_
    refine XS.aloadN X0.here hEX rfl (hb hBY d_method_7_code_60) rfl rfl ?_
    show Steps p.tables e below (s₁.setTop (mkF m 61 #[Rv a, Rv b] [(.ref a)])) tt_
    refine XS.bipush X0.here hEX rfl (hb hBY d_method_7_code_61) ?_
    show Steps p.tables e below (s₁.setTop (mkF m 63 #[Rv a, Rv b] [(.int (6 : Int32)), (.ref a)])) tt_
    refine X0.laload hEX (j := (6 : Int32)) (v := (.long x6)) (by rw [e0]; exact Ar_13.1) (State.isArrayOf_alike hZW.alike Ar_13.2.1) Ar_13.2.2 hin_13 hat_13 (g := (mkF m 63 #[Rv a, Rv b] [(.int (6 : Int32)), (.ref a)])) rfl rfl (hb hBY d_method_7_code_63) _ ?_
    show Steps p.tables e below (s₁.setTop (mkF m 64 #[Rv a, Rv b] [(.long x6)])) tt_
    refine XS.aloadN X0.here hEX rfl (hb hBY d_method_7_code_64) rfl rfl ?_
    show Steps p.tables e below (s₁.setTop (mkF m 65 #[Rv a, Rv b] [(.ref b), (.long x6)])) tt_
    refine XS.bipush X0.here hEX rfl (hb hBY d_method_7_code_65) ?_
    show Steps p.tables e below (s₁.setTop (mkF m 67 #[Rv a, Rv b] [(.int (6 : Int32)), (.ref b), (.long x6)])) tt_
    refine X0.laload hEX (j := (6 : Int32)) (v := (.long x6)) (by rw [e0]; exact Ar_14.1) (State.isArrayOf_alike hZW.alike Ar_14.2.1) Ar_14.2.2 hin_14 hat_14 (g := (mkF m 67 #[Rv a, Rv b] [(.int (6 : Int32)), (.ref b), (.long x6)])) rfl rfl (hb hBY d_method_7_code_67) _ ?_
    show Steps p.tables e below (s₁.setTop (mkF m 68 #[Rv a, Rv b] [(.long x6), (.long x6)])) tt_
    refine XS.lcmp X0.here hEX rfl (hb hBY d_method_7_code_68) rfl ?_
    show Steps p.tables e below (s₁.setTop (mkF m 69 #[Rv a, Rv b] [(.int (lcmpW x6 x6))])) tt_
    refine XS.ifNo X0.here hEX rfl (hb hBY d_method_7_code_69) rfl ((if0 _ _).trans (teq ((lw_eq _ _).mpr (rfl : x6 = x6))).2) ?_
    show Steps p.tables e below (s₁.setTop (mkF m 72 #[Rv a, Rv b] [])) tt_
    refine XS.aloadN X0.here hEX rfl (hb hBY d_method_7_code_72) rfl rfl ?_
    show Steps p.tables e below (s₁.setTop (mkF m 73 #[Rv a, Rv b] [(.ref a)])) tt_
    refine XS.bipush X0.here hEX rfl (hb hBY d_method_7_code_73) ?_
    show Steps p.tables e below (s₁.setTop (mkF m 75 #[Rv a, Rv b] [(.int (7 : Int32)), (.ref a)])) tt_
    refine X0.laload hEX (j := (7 : Int32)) (v := (.long x7)) (by rw [e0]; exact Ar_15.1) (State.isArrayOf_alike hZW.alike Ar_15.2.1) Ar_15.2.2 hin_15 hat_15 (g := (mkF m 75 #[Rv a, Rv b] [(.int (7 : Int32)), (.ref a)])) rfl rfl (hb hBY d_method_7_code_75) _ ?_
    show Steps p.tables e below (s₁.setTop (mkF m 76 #[Rv a, Rv b] [(.long x7)])) tt_
    refine XS.aloadN X0.here hEX rfl (hb hBY d_method_7_code_76) rfl rfl ?_
    show Steps p.tables e below (s₁.setTop (mkF m 77 #[Rv a, Rv b] [(.ref b), (.long x7)])) tt_
    refine XS.bipush X0.here hEX rfl (hb hBY d_method_7_code_77) ?_
    show Steps p.tables e below (s₁.setTop (mkF m 79 #[Rv a, Rv b] [(.int (7 : Int32)), (.ref b), (.long x7)])) tt_
    refine X0.laload hEX (j := (7 : Int32)) (v := (.long x7)) (by rw [e0]; exact Ar_16.1) (State.isArrayOf_alike hZW.alike Ar_16.2.1) Ar_16.2.2 hin_16 hat_16 (g := (mkF m 79 #[Rv a, Rv b] [(.int (7 : Int32)), (.ref b), (.long x7)])) rfl rfl (hb hBY d_method_7_code_79) _ ?_
    show Steps p.tables e below (s₁.setTop (mkF m 80 #[Rv a, Rv b] [(.long x7), (.long x7)])) tt_
    refine XS.lcmp X0.here hEX rfl (hb hBY d_method_7_code_80) rfl ?_
    show Steps p.tables e below (s₁.setTop (mkF m 81 #[Rv a, Rv b] [(.int (lcmpW x7 x7))])) tt_
    refine XS.ifNo X0.here hEX rfl (hb hBY d_method_7_code_81) rfl ((if0 _ _).trans (teq ((lw_eq _ _).mpr (rfl : x7 = x7))).2) ?_
    show Steps p.tables e below (s₁.setTop (mkF m 84 #[Rv a, Rv b] [])) tt_
    refine XS.iconst X0.here hEX rfl (hb hBY d_method_7_code_84) ?_
    show Steps p.tables e below (s₁.setTop (mkF m 85 #[Rv a, Rv b] [(.int (1 : Int32))])) tt_
    refine XS.goto X0.here hEX rfl (pc0 := 85) (pc' := 89) rfl (hb hBY d_method_7_code_85) (by decide) (by decide) ?_
    exact kt_
  refine Done.pre sg_17 ?_
  exact Done.retN X0 hEX hLK (t := .boolean) hRT (by simp) (hb hBY d_method_7_code_89) (by rw [e0]; exact ⟨rfl, N0, rfl⟩) (by decide) (by decide)
theorem pd__JJJJJ__J_3 : parseMethodDescriptor "(JJJJJ)[J" = some ⟨[.long, .long, .long, .long, .long], some (.array .long)⟩ := by decide +kernel
theorem pd___J_J_J_V_10 : parseMethodDescriptor "([J[J[J)V" = some ⟨[(.array .long), (.array .long), (.array .long)], none⟩ := by decide +kernel
theorem pd__J_Z_1 : parseMethodDescriptor "(J)Z" = some ⟨[.long], some .boolean⟩ := by decide +kernel
theorem pd___J_J_Z_9 : parseMethodDescriptor "([J[J)Z" = some ⟨[(.array .long), (.array .long)], some .boolean⟩ := by decide +kernel
theorem pd___J_Z_5 : parseMethodDescriptor "([J)Z" = some ⟨[(.array .long)], some .boolean⟩ := by decide +kernel
def Qrm0 (Z : State) (q1 : Int64) (q2 : Int64) (q3 : Int64) (q4 : Int64) (q5 : Int64) (p6 : Int32) (h0 : Heap) (n0 : Nat) (v_ : Option Value) (h_ : Heap) (L_ : List Loc) : Prop := v_ = some (.int (1 : Int32)) ∧ Fr n0 L_ ∧ Keep h0 h_ []
theorem ef_rm0 (m : MethodId) (x0 : Int64) (x1 : Int64) (x2 : Int64) (x3 : Int64) (x4 : Int64) (x5 : Int32) : entryFrame m #[(.long x0), (.long x1), (.long x2), (.long x3), (.long x4), (.int x5)] maxLocals = mkF m 0 #[.val (.long x0), .second, .val (.long x1), .second, .val (.long x2), .second, .val (.long x3), .second, .val (.long x4), .second, .val (.int x5), .unset, .unset, .unset, .unset, .unset, .unset, .unset, .unset] [] := by first | (simp [entryFrame, mkF, argsToLocals, Value.category, maxLocals]; done) | rfl
set_option maxRecDepth 65536 in
set_option maxHeartbeats 40000000 in
theorem rm0 (l : Launch) (Z : State) (aZ : Array Value) (hw : ∀ d ∈ tables_1, d.before aZ Z = true) (ws : List Jvm.Cond) (q1 : Int64) (q2 : Int64) (q3 : Int64) (q4 : Int64) (q5 : Int64) (p6 : Int32) (h0 : Heap) (n0 : Nat) (Z0 : n0 ≤ h0.size) :
    MetFree l x (head1 (Jvm.Cond.code x code maxLocals ret :: ws) room_1) (fun a_ U_ => a_ = #[(.long q1), (.long q2), (.long q3), (.long q4), (.long q5), (.int p6)] ∧ Z.Warmed39 U_.vm ∧ U_.heap = h0) (fun _ _ _ _ _ => True) (fun _ U_ o_ U2_ => ∃ v_ L_, o_ = .returned v_ ∧ Qrm0 Z q1 q2 q3 q4 q5 p6 h0 n0 v_ U2_.heap L_ ∧ FrameEnd U_ o_ U2_ L_ room_1.cells room_1.slots) := by
  refine MetFree.of_bodySF (plainFor_of_name pn_com_example_guard3_guard3_P384FieldAddPinLaw) hisR ?_
  intro p e s m args below meth cO s₁ Bd hml0 hP hK
  obtain ⟨rfl, hZW, hh⟩ := hP
  have hEX := Bd.exec
  have hBY := Bd.bytes
  have hMX : cO.maxLocals = 19 := hml0
  have hOW : s.vm.findClass "com/example/guard3/guard3/P384FieldAddPinLaw" = some m.cls := findClass_of_methodNamed Bd.named
  have hNM := (name_of_methodNamed Bd.named Bd.method).1
  have hLK := Bd.notSynchronized
  have hRT := Bd.returns
  have X0 : Stand p l e room_1 s m #[(.long q1), (.long q2), (.long q3), (.long q4), (.long q5), (.int p6)] below meth cO s₁ [] 0 0 := Stand.of_body Bd
  have e0 : s₁.heap = h0 := by rw [← hh, Bd.state]; rfl
  have N0 := Fr.nil n0
  have K0 : Keep h0 h0 [] := Keep.refl _ _
  show Done p e below s (Qrm0 Z q1 q2 q3 q4 q5 p6 h0 n0) room_1.cells room_1.slots (s₁.setTop (entryFrame m #[(.long q1), (.long q2), (.long q3), (.long q4), (.long q5), (.int p6)] maxLocals))
  refine Done.pre (fun t_ k_ => castTop (ef_rm0 m q1 q2 q3 q4 q5 p6) k_) ?_
  show Done _ _ _ _ _ _ _ (s₁.setTop (mkF m 0 #[Lv q1, Zs, Lv q2, Zs, Lv q3, Zs, Lv q4, Zs, Lv q5, Zs, Iv p6, Us, Us, Us, Us, Us, Us, Us, Us] []))
  have sg_1 : ∀ tt_, Steps p.tables e below (s₁.setTop (mkF m 8 #[Lv q1, Zs, Lv q2, Zs, Lv q3, Zs, Lv q4, Zs, Lv q5, Zs, Iv p6, Us, Us, Us, Us, Us, Us, Us, Us] [(.long q5), (.long q4), (.long q3), (.long q2), (.long q1)])) tt_ → Steps p.tables e below (s₁.setTop (mkF m 0 #[Lv q1, Zs, Lv q2, Zs, Lv q3, Zs, Lv q4, Zs, Lv q5, Zs, Iv p6, Us, Us, Us, Us, Us, Us, Us, Us] [])) tt_ := by
    intro tt_ kt_
    refine XS.lloadN X0.here hEX rfl (hb hBY at_0) rfl ?_
    show Steps p.tables e below (s₁.setTop (mkF m 1 #[Lv q1, Zs, Lv q2, Zs, Lv q3, Zs, Lv q4, Zs, Lv q5, Zs, Iv p6, Us, Us, Us, Us, Us, Us, Us, Us] [(.long q1)])) tt_
    refine XS.lloadN X0.here hEX rfl (hb hBY at_1) rfl ?_
    show Steps p.tables e below (s₁.setTop (mkF m 2 #[Lv q1, Zs, Lv q2, Zs, Lv q3, Zs, Lv q4, Zs, Lv q5, Zs, Iv p6, Us, Us, Us, Us, Us, Us, Us, Us] [(.long q2), (.long q1)])) tt_
    refine XS.lload X0.here hEX rfl (hb hBY at_2) rfl ?_
    show Steps p.tables e below (s₁.setTop (mkF m 4 #[Lv q1, Zs, Lv q2, Zs, Lv q3, Zs, Lv q4, Zs, Lv q5, Zs, Iv p6, Us, Us, Us, Us, Us, Us, Us, Us] [(.long q3), (.long q2), (.long q1)])) tt_
    refine XS.lload X0.here hEX rfl (hb hBY at_4) rfl ?_
    show Steps p.tables e below (s₁.setTop (mkF m 6 #[Lv q1, Zs, Lv q2, Zs, Lv q3, Zs, Lv q4, Zs, Lv q5, Zs, Iv p6, Us, Us, Us, Us, Us, Us, Us, Us] [(.long q4), (.long q3), (.long q2), (.long q1)])) tt_
    refine XS.lload X0.here hEX rfl (hb hBY at_6) rfl ?_
    exact kt_
  refine Done.pre sg_1 ?_
  obtain ⟨_, _, ⟨T_2, L_2, k_2, n_2⟩, -, X_2, ⟨Lc_2, hQ_2, l_2, y_2, z_2⟩, st_2⟩ := Jvm.LawKit.callS X0 hEX (y := (⟨"com/example/guard3/guard3/P384FieldAddPinLaw", "elementA", "(JJJJJ)[J"⟩ : MethodName)) hOW (mvT hZW (hw _ (List.mem_of_getElem? (i := 0) rfl))) (mvT hZW (hw _ (List.mem_of_getElem? (i := 1) rfl))) (mvT hZW (hw _ (List.mem_of_getElem? (i := 2) rfl))) (mvT hZW (hw _ (List.mem_of_getElem? (i := 3) rfl))) (by decide) (backOf (W := 0) (rm_ea l Z aZ hw [] q1 q2 q3 q4 q5 h0 n0 (Nat.le_trans Z0 K0.1) ) hZW (hw _ (List.mem_of_getElem? (i := 3) rfl)) (hw _ (List.mem_of_getElem? (i := 2) rfl)) (by decide) (by decide)) (g := (mkF m 8 #[Lv q1, Zs, Lv q2, Zs, Lv q3, Zs, Lv q4, Zs, Lv q5, Zs, Iv p6, Us, Us, Us, Us, Us, Us, Us, Us] [(.long q5), (.long q4), (.long q3), (.long q2), (.long q1)])) rfl (by rw [hMX]; rfl) (argsL := [(.long q1), (.long q2), (.long q3), (.long q4), (.long q5)]) (rest := []) (lenOf pd__JJJJJ__J_3 rfl) rfl (by show 2 * 0 + _ ≤ _; exact Nat.le_of_eq rfl) (hb hBY at_8) (fun _ _ => ⟨rfl, e0, (by decide : 0 + 1 ≤ _), (by decide : 0 + 8 ≤ _)⟩)
  dsimp only [Pt.U, Pt.locs, Pt.cells, Pt.slots] at X_2 l_2 y_2 z_2 st_2 hQ_2
  subst l_2 y_2 z_2
  obtain ⟨b__2, kb__2, rfl, N_2q, K_2, hq_2_0, hq_2_1⟩ := hQ_2
  have N_2 := Fr.app N0 N_2q
  have K__3 : Keep h0 T_2.heap [] := K0.trans K_2 all0
  have sz_b__2 : h0.size ≤ b__2 := Nat.le_trans K0.1 hq_2_1
  refine Done.pre (fun _ k_ => st_2 _ k_) ?_
  show Done _ _ _ _ _ _ _ (T_2.setTop (mkF m 11 #[Lv q1, Zs, Lv q2, Zs, Lv q3, Zs, Lv q4, Zs, Lv q5, Zs, Iv p6, Us, Us, Us, Us, Us, Us, Us, Us] [(.ref b__2)]))
  have sg_4 : ∀ tt_, Steps p.tables e below (T_2.setTop (mkF m 21 #[Lv q1, Zs, Lv q2, Zs, Lv q3, Zs, Lv q4, Zs, Lv q5, Zs, Iv p6, Rv b__2, Us, Us, Us, Us, Us, Us, Us] [(.long q5), (.long q4), (.long q3), (.long q2), (.long q1)])) tt_ → Steps p.tables e below (T_2.setTop (mkF m 11 #[Lv q1, Zs, Lv q2, Zs, Lv q3, Zs, Lv q4, Zs, Lv q5, Zs, Iv p6, Us, Us, Us, Us, Us, Us, Us, Us] [(.ref b__2)])) tt_ := by
    intro tt_ kt_
    refine XS.astore X_2.here hEX rfl (hb hBY at_11) rfl rfl (l' := #[Lv q1, Zs, Lv q2, Zs, Lv q3, Zs, Lv q4, Zs, Lv q5, Zs, Iv p6, Rv b__2, Us, Us, Us, Us, Us, Us, Us]) rfl ?_
    show Steps p.tables e below (T_2.setTop (mkF m 13 #[Lv q1, Zs, Lv q2, Zs, Lv q3, Zs, Lv q4, Zs, Lv q5, Zs, Iv p6, Rv b__2, Us, Us, Us, Us, Us, Us, Us] [])) tt_
    refine XS.lloadN X_2.here hEX rfl (hb hBY at_13) rfl ?_
    show Steps p.tables e below (T_2.setTop (mkF m 14 #[Lv q1, Zs, Lv q2, Zs, Lv q3, Zs, Lv q4, Zs, Lv q5, Zs, Iv p6, Rv b__2, Us, Us, Us, Us, Us, Us, Us] [(.long q1)])) tt_
    refine XS.lloadN X_2.here hEX rfl (hb hBY at_14) rfl ?_
    show Steps p.tables e below (T_2.setTop (mkF m 15 #[Lv q1, Zs, Lv q2, Zs, Lv q3, Zs, Lv q4, Zs, Lv q5, Zs, Iv p6, Rv b__2, Us, Us, Us, Us, Us, Us, Us] [(.long q2), (.long q1)])) tt_
    refine XS.lload X_2.here hEX rfl (hb hBY at_15) rfl ?_
    show Steps p.tables e below (T_2.setTop (mkF m 17 #[Lv q1, Zs, Lv q2, Zs, Lv q3, Zs, Lv q4, Zs, Lv q5, Zs, Iv p6, Rv b__2, Us, Us, Us, Us, Us, Us, Us] [(.long q3), (.long q2), (.long q1)])) tt_
    refine XS.lload X_2.here hEX rfl (hb hBY at_17) rfl ?_
    show Steps p.tables e below (T_2.setTop (mkF m 19 #[Lv q1, Zs, Lv q2, Zs, Lv q3, Zs, Lv q4, Zs, Lv q5, Zs, Iv p6, Rv b__2, Us, Us, Us, Us, Us, Us, Us] [(.long q4), (.long q3), (.long q2), (.long q1)])) tt_
    refine XS.lload X_2.here hEX rfl (hb hBY at_19) rfl ?_
    exact kt_
  refine Done.pre sg_4 ?_
  obtain ⟨_, _, ⟨T_5, L_5, k_5, n_5⟩, -, X_5, ⟨Lc_5, hQ_5, l_5, y_5, z_5⟩, st_5⟩ := Jvm.LawKit.callS X_2 hEX (y := (⟨"com/example/guard3/guard3/P384FieldAddPinLaw", "elementB", "(JJJJJ)[J"⟩ : MethodName)) hOW (mvT hZW (hw _ (List.mem_of_getElem? (i := 12) rfl))) (mvT hZW (hw _ (List.mem_of_getElem? (i := 13) rfl))) (mvT hZW (hw _ (List.mem_of_getElem? (i := 2) rfl))) (mvT hZW (hw _ (List.mem_of_getElem? (i := 14) rfl))) (by decide) (backOf (W := 0) (rm_eb l Z aZ hw [] q1 q2 q3 q4 q5 T_2.heap n0 (Nat.le_trans Z0 K__3.1) ) hZW (hw _ (List.mem_of_getElem? (i := 14) rfl)) (hw _ (List.mem_of_getElem? (i := 2) rfl)) (by decide) (by decide)) (g := (mkF m 21 #[Lv q1, Zs, Lv q2, Zs, Lv q3, Zs, Lv q4, Zs, Lv q5, Zs, Iv p6, Rv b__2, Us, Us, Us, Us, Us, Us, Us] [(.long q5), (.long q4), (.long q3), (.long q2), (.long q1)])) rfl (by rw [hMX]; rfl) (argsL := [(.long q1), (.long q2), (.long q3), (.long q4), (.long q5)]) (rest := []) (lenOf pd__JJJJJ__J_3 rfl) rfl (by show 2 * 0 + _ ≤ _; exact Nat.le_of_eq rfl) (hb hBY at_21) (fun _ _ => ⟨rfl, rfl, (by decide : 1 + 1 ≤ _), (by decide : 8 + 8 ≤ _)⟩)
  dsimp only [Pt.U, Pt.locs, Pt.cells, Pt.slots] at X_5 l_5 y_5 z_5 st_5 hQ_5
  subst l_5 y_5 z_5
  obtain ⟨b__5, kb__5, rfl, N_5q, K_5, hq_5_0, hq_5_1⟩ := hQ_5
  have N_5 := Fr.app N_2 N_5q
  have K__6 : Keep h0 T_5.heap [] := K__3.trans K_5 all0
  have f_7 : Arv Z T_5.heap b__2 kb__2 .long (8 : Int32) [(.long (own_limb q1 (0 : Int32))), (.long (own_limb q2 (11 : Int32))), (.long (own_limb q3 (22 : Int32))), (.long (own_limb q4 (33 : Int32))), (.long (own_limb q5 (44 : Int32))), (.long (own_limb q1 (55 : Int32))), (.long (own_limb q2 (2 : Int32))), (.long (own_limb q3 (13 : Int32)))] (.long (0 : Int64)) := hq_2_0.keep K_5 nin0
  have sz_b__5 : h0.size ≤ b__5 := Nat.le_trans K__3.1 hq_5_1
  have ne_b__2_b__5 : b__2 ≠ b__5 := Nat.ne_of_lt (Nat.lt_of_lt_of_le hq_2_0.lt hq_5_1)
  refine Done.pre (fun _ k_ => st_5 _ k_) ?_
  show Done _ _ _ _ _ _ _ (T_5.setTop (mkF m 24 #[Lv q1, Zs, Lv q2, Zs, Lv q3, Zs, Lv q4, Zs, Lv q5, Zs, Iv p6, Rv b__2, Us, Us, Us, Us, Us, Us, Us] [(.ref b__5)]))
  have sg_8 : ∀ tt_, Steps p.tables e below (T_5.setTop (mkF m 34 #[Lv q1, Zs, Lv q2, Zs, Lv q3, Zs, Lv q4, Zs, Lv q5, Zs, Iv p6, Rv b__2, Rv b__5, Us, Us, Us, Us, Us, Us] [(.long q5), (.long q4), (.long q3), (.long q2), (.long q1)])) tt_ → Steps p.tables e below (T_5.setTop (mkF m 24 #[Lv q1, Zs, Lv q2, Zs, Lv q3, Zs, Lv q4, Zs, Lv q5, Zs, Iv p6, Rv b__2, Us, Us, Us, Us, Us, Us, Us] [(.ref b__5)])) tt_ := by
    intro tt_ kt_
    refine XS.astore X_5.here hEX rfl (hb hBY at_24) rfl rfl (l' := #[Lv q1, Zs, Lv q2, Zs, Lv q3, Zs, Lv q4, Zs, Lv q5, Zs, Iv p6, Rv b__2, Rv b__5, Us, Us, Us, Us, Us, Us]) rfl ?_
    show Steps p.tables e below (T_5.setTop (mkF m 26 #[Lv q1, Zs, Lv q2, Zs, Lv q3, Zs, Lv q4, Zs, Lv q5, Zs, Iv p6, Rv b__2, Rv b__5, Us, Us, Us, Us, Us, Us] [])) tt_
    refine XS.lloadN X_5.here hEX rfl (hb hBY at_26) rfl ?_
    show Steps p.tables e below (T_5.setTop (mkF m 27 #[Lv q1, Zs, Lv q2, Zs, Lv q3, Zs, Lv q4, Zs, Lv q5, Zs, Iv p6, Rv b__2, Rv b__5, Us, Us, Us, Us, Us, Us] [(.long q1)])) tt_
    refine XS.lloadN X_5.here hEX rfl (hb hBY at_27) rfl ?_
    show Steps p.tables e below (T_5.setTop (mkF m 28 #[Lv q1, Zs, Lv q2, Zs, Lv q3, Zs, Lv q4, Zs, Lv q5, Zs, Iv p6, Rv b__2, Rv b__5, Us, Us, Us, Us, Us, Us] [(.long q2), (.long q1)])) tt_
    refine XS.lload X_5.here hEX rfl (hb hBY at_28) rfl ?_
    show Steps p.tables e below (T_5.setTop (mkF m 30 #[Lv q1, Zs, Lv q2, Zs, Lv q3, Zs, Lv q4, Zs, Lv q5, Zs, Iv p6, Rv b__2, Rv b__5, Us, Us, Us, Us, Us, Us] [(.long q3), (.long q2), (.long q1)])) tt_
    refine XS.lload X_5.here hEX rfl (hb hBY at_30) rfl ?_
    show Steps p.tables e below (T_5.setTop (mkF m 32 #[Lv q1, Zs, Lv q2, Zs, Lv q3, Zs, Lv q4, Zs, Lv q5, Zs, Iv p6, Rv b__2, Rv b__5, Us, Us, Us, Us, Us, Us] [(.long q4), (.long q3), (.long q2), (.long q1)])) tt_
    refine XS.lload X_5.here hEX rfl (hb hBY at_32) rfl ?_
    exact kt_
  refine Done.pre sg_8 ?_
  obtain ⟨_, _, ⟨T_9, L_9, k_9, n_9⟩, -, X_9, ⟨Lc_9, hQ_9, l_9, y_9, z_9⟩, st_9⟩ := Jvm.LawKit.callS X_5 hEX (y := (⟨"com/example/guard3/guard3/P384FieldAddPinLaw", "elementA", "(JJJJJ)[J"⟩ : MethodName)) hOW (mvT hZW (hw _ (List.mem_of_getElem? (i := 0) rfl))) (mvT hZW (hw _ (List.mem_of_getElem? (i := 1) rfl))) (mvT hZW (hw _ (List.mem_of_getElem? (i := 2) rfl))) (mvT hZW (hw _ (List.mem_of_getElem? (i := 3) rfl))) (by decide) (backOf (W := 0) (rm_ea l Z aZ hw [] q1 q2 q3 q4 q5 T_5.heap n0 (Nat.le_trans Z0 K__6.1) ) hZW (hw _ (List.mem_of_getElem? (i := 3) rfl)) (hw _ (List.mem_of_getElem? (i := 2) rfl)) (by decide) (by decide)) (g := (mkF m 34 #[Lv q1, Zs, Lv q2, Zs, Lv q3, Zs, Lv q4, Zs, Lv q5, Zs, Iv p6, Rv b__2, Rv b__5, Us, Us, Us, Us, Us, Us] [(.long q5), (.long q4), (.long q3), (.long q2), (.long q1)])) rfl (by rw [hMX]; rfl) (argsL := [(.long q1), (.long q2), (.long q3), (.long q4), (.long q5)]) (rest := []) (lenOf pd__JJJJJ__J_3 rfl) rfl (by show 2 * 0 + _ ≤ _; exact Nat.le_of_eq rfl) (hb hBY at_34) (fun _ _ => ⟨rfl, rfl, (by decide : 2 + 1 ≤ _), (by decide : 16 + 8 ≤ _)⟩)
  dsimp only [Pt.U, Pt.locs, Pt.cells, Pt.slots] at X_9 l_9 y_9 z_9 st_9 hQ_9
  subst l_9 y_9 z_9
  obtain ⟨b__9, kb__9, rfl, N_9q, K_9, hq_9_0, hq_9_1⟩ := hQ_9
  have N_9 := Fr.app N_5 N_9q
  have K__10 : Keep h0 T_9.heap [] := K__6.trans K_9 all0
  have f_11 : Arv Z T_9.heap b__2 kb__2 .long (8 : Int32) [(.long (own_limb q1 (0 : Int32))), (.long (own_limb q2 (11 : Int32))), (.long (own_limb q3 (22 : Int32))), (.long (own_limb q4 (33 : Int32))), (.long (own_limb q5 (44 : Int32))), (.long (own_limb q1 (55 : Int32))), (.long (own_limb q2 (2 : Int32))), (.long (own_limb q3 (13 : Int32)))] (.long (0 : Int64)) := f_7.keep K_9 nin0
  have f_12 : Arv Z T_9.heap b__5 kb__5 .long (8 : Int32) [(.long (own_limb q3 (5 : Int32))), (.long (own_limb q4 (22 : Int32))), (.long (own_limb q5 (39 : Int32))), (.long (own_limb q1 (56 : Int32))), (.long (own_limb q2 (9 : Int32))), (.long (own_limb q3 (26 : Int32))), (.long (own_limb q4 (43 : Int32))), (.long (own_limb q5 (60 : Int32)))] (.long (0 : Int64)) := hq_5_0.keep K_9 nin0
  have sz_b__9 : h0.size ≤ b__9 := Nat.le_trans K__6.1 hq_9_1
  have ne_b__2_b__9 : b__2 ≠ b__9 := Nat.ne_of_lt (Nat.lt_of_lt_of_le f_7.lt hq_9_1)
  have ne_b__5_b__9 : b__5 ≠ b__9 := Nat.ne_of_lt (Nat.lt_of_lt_of_le hq_5_0.lt hq_9_1)
  refine Done.pre (fun _ k_ => st_9 _ k_) ?_
  show Done _ _ _ _ _ _ _ (T_9.setTop (mkF m 37 #[Lv q1, Zs, Lv q2, Zs, Lv q3, Zs, Lv q4, Zs, Lv q5, Zs, Iv p6, Rv b__2, Rv b__5, Us, Us, Us, Us, Us, Us] [(.ref b__9)]))
  have sg_13 : ∀ tt_, Steps p.tables e below (T_9.setTop (mkF m 47 #[Lv q1, Zs, Lv q2, Zs, Lv q3, Zs, Lv q4, Zs, Lv q5, Zs, Iv p6, Rv b__2, Rv b__5, Rv b__9, Us, Us, Us, Us, Us] [(.long q5), (.long q4), (.long q3), (.long q2), (.long q1)])) tt_ → Steps p.tables e below (T_9.setTop (mkF m 37 #[Lv q1, Zs, Lv q2, Zs, Lv q3, Zs, Lv q4, Zs, Lv q5, Zs, Iv p6, Rv b__2, Rv b__5, Us, Us, Us, Us, Us, Us] [(.ref b__9)])) tt_ := by
    intro tt_ kt_
    refine XS.astore X_9.here hEX rfl (hb hBY at_37) rfl rfl (l' := #[Lv q1, Zs, Lv q2, Zs, Lv q3, Zs, Lv q4, Zs, Lv q5, Zs, Iv p6, Rv b__2, Rv b__5, Rv b__9, Us, Us, Us, Us, Us]) rfl ?_
    show Steps p.tables e below (T_9.setTop (mkF m 39 #[Lv q1, Zs, Lv q2, Zs, Lv q3, Zs, Lv q4, Zs, Lv q5, Zs, Iv p6, Rv b__2, Rv b__5, Rv b__9, Us, Us, Us, Us, Us] [])) tt_
    refine XS.lloadN X_9.here hEX rfl (hb hBY at_39) rfl ?_
    show Steps p.tables e below (T_9.setTop (mkF m 40 #[Lv q1, Zs, Lv q2, Zs, Lv q3, Zs, Lv q4, Zs, Lv q5, Zs, Iv p6, Rv b__2, Rv b__5, Rv b__9, Us, Us, Us, Us, Us] [(.long q1)])) tt_
    refine XS.lloadN X_9.here hEX rfl (hb hBY at_40) rfl ?_
    show Steps p.tables e below (T_9.setTop (mkF m 41 #[Lv q1, Zs, Lv q2, Zs, Lv q3, Zs, Lv q4, Zs, Lv q5, Zs, Iv p6, Rv b__2, Rv b__5, Rv b__9, Us, Us, Us, Us, Us] [(.long q2), (.long q1)])) tt_
    refine XS.lload X_9.here hEX rfl (hb hBY at_41) rfl ?_
    show Steps p.tables e below (T_9.setTop (mkF m 43 #[Lv q1, Zs, Lv q2, Zs, Lv q3, Zs, Lv q4, Zs, Lv q5, Zs, Iv p6, Rv b__2, Rv b__5, Rv b__9, Us, Us, Us, Us, Us] [(.long q3), (.long q2), (.long q1)])) tt_
    refine XS.lload X_9.here hEX rfl (hb hBY at_43) rfl ?_
    show Steps p.tables e below (T_9.setTop (mkF m 45 #[Lv q1, Zs, Lv q2, Zs, Lv q3, Zs, Lv q4, Zs, Lv q5, Zs, Iv p6, Rv b__2, Rv b__5, Rv b__9, Us, Us, Us, Us, Us] [(.long q4), (.long q3), (.long q2), (.long q1)])) tt_
    refine XS.lload X_9.here hEX rfl (hb hBY at_45) rfl ?_
    exact kt_
  refine Done.pre sg_13 ?_
  obtain ⟨_, _, ⟨T_14, L_14, k_14, n_14⟩, -, X_14, ⟨Lc_14, hQ_14, l_14, y_14, z_14⟩, st_14⟩ := Jvm.LawKit.callS X_9 hEX (y := (⟨"com/example/guard3/guard3/P384FieldAddPinLaw", "elementB", "(JJJJJ)[J"⟩ : MethodName)) hOW (mvT hZW (hw _ (List.mem_of_getElem? (i := 12) rfl))) (mvT hZW (hw _ (List.mem_of_getElem? (i := 13) rfl))) (mvT hZW (hw _ (List.mem_of_getElem? (i := 2) rfl))) (mvT hZW (hw _ (List.mem_of_getElem? (i := 14) rfl))) (by decide) (backOf (W := 0) (rm_eb l Z aZ hw [] q1 q2 q3 q4 q5 T_9.heap n0 (Nat.le_trans Z0 K__10.1) ) hZW (hw _ (List.mem_of_getElem? (i := 14) rfl)) (hw _ (List.mem_of_getElem? (i := 2) rfl)) (by decide) (by decide)) (g := (mkF m 47 #[Lv q1, Zs, Lv q2, Zs, Lv q3, Zs, Lv q4, Zs, Lv q5, Zs, Iv p6, Rv b__2, Rv b__5, Rv b__9, Us, Us, Us, Us, Us] [(.long q5), (.long q4), (.long q3), (.long q2), (.long q1)])) rfl (by rw [hMX]; rfl) (argsL := [(.long q1), (.long q2), (.long q3), (.long q4), (.long q5)]) (rest := []) (lenOf pd__JJJJJ__J_3 rfl) rfl (by show 2 * 0 + _ ≤ _; exact Nat.le_of_eq rfl) (hb hBY at_47) (fun _ _ => ⟨rfl, rfl, (by decide : 3 + 1 ≤ _), (by decide : 24 + 8 ≤ _)⟩)
  dsimp only [Pt.U, Pt.locs, Pt.cells, Pt.slots] at X_14 l_14 y_14 z_14 st_14 hQ_14
  subst l_14 y_14 z_14
  obtain ⟨b__14, kb__14, rfl, N_14q, K_14, hq_14_0, hq_14_1⟩ := hQ_14
  have N_14 := Fr.app N_9 N_14q
  have K__15 : Keep h0 T_14.heap [] := K__10.trans K_14 all0
  have f_16 : Arv Z T_14.heap b__2 kb__2 .long (8 : Int32) [(.long (own_limb q1 (0 : Int32))), (.long (own_limb q2 (11 : Int32))), (.long (own_limb q3 (22 : Int32))), (.long (own_limb q4 (33 : Int32))), (.long (own_limb q5 (44 : Int32))), (.long (own_limb q1 (55 : Int32))), (.long (own_limb q2 (2 : Int32))), (.long (own_limb q3 (13 : Int32)))] (.long (0 : Int64)) := f_11.keep K_14 nin0
  have f_17 : Arv Z T_14.heap b__5 kb__5 .long (8 : Int32) [(.long (own_limb q3 (5 : Int32))), (.long (own_limb q4 (22 : Int32))), (.long (own_limb q5 (39 : Int32))), (.long (own_limb q1 (56 : Int32))), (.long (own_limb q2 (9 : Int32))), (.long (own_limb q3 (26 : Int32))), (.long (own_limb q4 (43 : Int32))), (.long (own_limb q5 (60 : Int32)))] (.long (0 : Int64)) := f_12.keep K_14 nin0
  have f_18 : Arv Z T_14.heap b__9 kb__9 .long (8 : Int32) [(.long (own_limb q1 (0 : Int32))), (.long (own_limb q2 (11 : Int32))), (.long (own_limb q3 (22 : Int32))), (.long (own_limb q4 (33 : Int32))), (.long (own_limb q5 (44 : Int32))), (.long (own_limb q1 (55 : Int32))), (.long (own_limb q2 (2 : Int32))), (.long (own_limb q3 (13 : Int32)))] (.long (0 : Int64)) := hq_9_0.keep K_14 nin0
  have sz_b__14 : h0.size ≤ b__14 := Nat.le_trans K__10.1 hq_14_1
  have ne_b__2_b__14 : b__2 ≠ b__14 := Nat.ne_of_lt (Nat.lt_of_lt_of_le f_11.lt hq_14_1)
  have ne_b__5_b__14 : b__5 ≠ b__14 := Nat.ne_of_lt (Nat.lt_of_lt_of_le f_12.lt hq_14_1)
  have ne_b__9_b__14 : b__9 ≠ b__14 := Nat.ne_of_lt (Nat.lt_of_lt_of_le hq_9_0.lt hq_14_1)
  refine Done.pre (fun _ k_ => st_14 _ k_) ?_
  show Done _ _ _ _ _ _ _ (T_14.setTop (mkF m 50 #[Lv q1, Zs, Lv q2, Zs, Lv q3, Zs, Lv q4, Zs, Lv q5, Zs, Iv p6, Rv b__2, Rv b__5, Rv b__9, Us, Us, Us, Us, Us] [(.ref b__14)]))
  have sg_19 : ∀ tt_, Steps p.tables e below (T_14.setTop (mkF m 54 #[Lv q1, Zs, Lv q2, Zs, Lv q3, Zs, Lv q4, Zs, Lv q5, Zs, Iv p6, Rv b__2, Rv b__5, Rv b__9, Rv b__14, Us, Us, Us, Us] [(.int (8 : Int32))])) tt_ → Steps p.tables e below (T_14.setTop (mkF m 50 #[Lv q1, Zs, Lv q2, Zs, Lv q3, Zs, Lv q4, Zs, Lv q5, Zs, Iv p6, Rv b__2, Rv b__5, Rv b__9, Us, Us, Us, Us, Us] [(.ref b__14)])) tt_ := by
    intro tt_ kt_
    refine XS.astore X_14.here hEX rfl (hb hBY at_50) rfl rfl (l' := #[Lv q1, Zs, Lv q2, Zs, Lv q3, Zs, Lv q4, Zs, Lv q5, Zs, Iv p6, Rv b__2, Rv b__5, Rv b__9, Rv b__14, Us, Us, Us, Us]) rfl ?_
    show Steps p.tables e below (T_14.setTop (mkF m 52 #[Lv q1, Zs, Lv q2, Zs, Lv q3, Zs, Lv q4, Zs, Lv q5, Zs, Iv p6, Rv b__2, Rv b__5, Rv b__9, Rv b__14, Us, Us, Us, Us] [])) tt_
    refine XS.bipush X_14.here hEX rfl (hb hBY at_52) ?_
    exact kt_
  refine Done.pre sg_19 ?_
  obtain ⟨T_20, h_20, k_20, X_20, e_20, E_20, A_20, B_20, st_20⟩ := newPE X_14 hEX hZW (hw _ (List.mem_of_getElem? (i := 4) rfl)) rfl (g := (mkF m 54 #[Lv q1, Zs, Lv q2, Zs, Lv q3, Zs, Lv q4, Zs, Lv q5, Zs, Iv p6, Rv b__2, Rv b__5, Rv b__9, Rv b__14, Us, Us, Us, Us] [(.int (8 : Int32))])) rfl (hb hBY at_54) rfl (by decide) (cap := 8) (by decide) (by decide) (by decide) (by decide) (ad := "[J") (by decide)
  obtain ⟨b_20, g_20⟩ : ∃ z, z = T_14.heap.size := ⟨_, rfl⟩
  rw [← g_20] at A_20 B_20 st_20
  have sz_b_20 : h0.size ≤ b_20 := Nat.le_trans K__15.1 (Nat.le_of_eq g_20.symm)
  have ge_b_20 : n0 ≤ b_20 := Nat.le_trans Z0 sz_b_20
  have ne_b__2_b_20 : b__2 ≠ b_20 := Nat.ne_of_lt (Nat.lt_of_lt_of_le f_16.lt (Nat.le_of_eq g_20.symm))
  have ne_b__5_b_20 : b__5 ≠ b_20 := Nat.ne_of_lt (Nat.lt_of_lt_of_le f_17.lt (Nat.le_of_eq g_20.symm))
  have ne_b__9_b_20 : b__9 ≠ b_20 := Nat.ne_of_lt (Nat.lt_of_lt_of_le f_18.lt (Nat.le_of_eq g_20.symm))
  have ne_b__14_b_20 : b__14 ≠ b_20 := Nat.ne_of_lt (Nat.lt_of_lt_of_le hq_14_0.lt (Nat.le_of_eq g_20.symm))
  have K__21 : Keep h0 h_20 [] := K__15.ext E_20
  have f_22 : Arv Z h_20 b__2 kb__2 .long (8 : Int32) [(.long (own_limb q1 (0 : Int32))), (.long (own_limb q2 (11 : Int32))), (.long (own_limb q3 (22 : Int32))), (.long (own_limb q4 (33 : Int32))), (.long (own_limb q5 (44 : Int32))), (.long (own_limb q1 (55 : Int32))), (.long (own_limb q2 (2 : Int32))), (.long (own_limb q3 (13 : Int32)))] (.long (0 : Int64)) := f_16.ext E_20
  have f_23 : Arv Z h_20 b__5 kb__5 .long (8 : Int32) [(.long (own_limb q3 (5 : Int32))), (.long (own_limb q4 (22 : Int32))), (.long (own_limb q5 (39 : Int32))), (.long (own_limb q1 (56 : Int32))), (.long (own_limb q2 (9 : Int32))), (.long (own_limb q3 (26 : Int32))), (.long (own_limb q4 (43 : Int32))), (.long (own_limb q5 (60 : Int32)))] (.long (0 : Int64)) := f_17.ext E_20
  have f_24 : Arv Z h_20 b__9 kb__9 .long (8 : Int32) [(.long (own_limb q1 (0 : Int32))), (.long (own_limb q2 (11 : Int32))), (.long (own_limb q3 (22 : Int32))), (.long (own_limb q4 (33 : Int32))), (.long (own_limb q5 (44 : Int32))), (.long (own_limb q1 (55 : Int32))), (.long (own_limb q2 (2 : Int32))), (.long (own_limb q3 (13 : Int32)))] (.long (0 : Int64)) := f_18.ext E_20
  have f_25 : Arv Z h_20 b__14 kb__14 .long (8 : Int32) [(.long (own_limb q3 (5 : Int32))), (.long (own_limb q4 (22 : Int32))), (.long (own_limb q5 (39 : Int32))), (.long (own_limb q1 (56 : Int32))), (.long (own_limb q2 (9 : Int32))), (.long (own_limb q3 (26 : Int32))), (.long (own_limb q4 (43 : Int32))), (.long (own_limb q5 (60 : Int32)))] (.long (0 : Int64)) := hq_14_0.ext E_20
  have f_26 : Arv Z h_20 b_20 k_20 .long (8 : Int32) [(.long (0 : Int64)), (.long (0 : Int64)), (.long (0 : Int64)), (.long (0 : Int64)), (.long (0 : Int64)), (.long (0 : Int64)), (.long (0 : Int64)), (.long (0 : Int64))] (.long (0 : Int64)) := (Arv.new A_20 (by decide)).pad (pad_rep [] (.long (0 : Int64)) 8)
  refine Done.pre st_20 ?_
  show Done _ _ _ _ _ _ _ (T_20.setTop (mkF m 56 #[Lv q1, Zs, Lv q2, Zs, Lv q3, Zs, Lv q4, Zs, Lv q5, Zs, Iv p6, Rv b__2, Rv b__5, Rv b__9, Rv b__14, Us, Us, Us, Us] [(.ref b_20)]))
  have sg_27 : ∀ tt_, Steps p.tables e below (T_20.setTop (mkF m 60 #[Lv q1, Zs, Lv q2, Zs, Lv q3, Zs, Lv q4, Zs, Lv q5, Zs, Iv p6, Rv b__2, Rv b__5, Rv b__9, Rv b__14, Rv b_20, Us, Us, Us] [(.int (8 : Int32))])) tt_ → Steps p.tables e below (T_20.setTop (mkF m 56 #[Lv q1, Zs, Lv q2, Zs, Lv q3, Zs, Lv q4, Zs, Lv q5, Zs, Iv p6, Rv b__2, Rv b__5, Rv b__9, Rv b__14, Us, Us, Us, Us] [(.ref b_20)])) tt_ := by
    intro tt_ kt_
    refine XS.astore X_20.here hEX rfl (hb hBY at_56) rfl rfl (l' := #[Lv q1, Zs, Lv q2, Zs, Lv q3, Zs, Lv q4, Zs, Lv q5, Zs, Iv p6, Rv b__2, Rv b__5, Rv b__9, Rv b__14, Rv b_20, Us, Us, Us]) rfl ?_
    show Steps p.tables e below (T_20.setTop (mkF m 58 #[Lv q1, Zs, Lv q2, Zs, Lv q3, Zs, Lv q4, Zs, Lv q5, Zs, Iv p6, Rv b__2, Rv b__5, Rv b__9, Rv b__14, Rv b_20, Us, Us, Us] [])) tt_
    refine XS.bipush X_20.here hEX rfl (hb hBY at_58) ?_
    exact kt_
  refine Done.pre sg_27 ?_
  obtain ⟨T_28, h_28, k_28, X_28, e_28, E_28, A_28, B_28, st_28⟩ := newPE X_20 hEX hZW (hw _ (List.mem_of_getElem? (i := 4) rfl)) e_20 (g := (mkF m 60 #[Lv q1, Zs, Lv q2, Zs, Lv q3, Zs, Lv q4, Zs, Lv q5, Zs, Iv p6, Rv b__2, Rv b__5, Rv b__9, Rv b__14, Rv b_20, Us, Us, Us] [(.int (8 : Int32))])) rfl (hb hBY at_60) rfl (by decide) (cap := 8) (by decide) (by decide) (by decide) (by decide) (ad := "[J") (by decide)
  obtain ⟨b_28, g_28⟩ : ∃ z, z = h_20.size := ⟨_, rfl⟩
  rw [← g_28] at A_28 B_28 st_28
  have sz_b_28 : h0.size ≤ b_28 := Nat.le_trans K__21.1 (Nat.le_of_eq g_28.symm)
  have ge_b_28 : n0 ≤ b_28 := Nat.le_trans Z0 sz_b_28
  have ne_b__2_b_28 : b__2 ≠ b_28 := Nat.ne_of_lt (Nat.lt_of_lt_of_le f_22.lt (Nat.le_of_eq g_28.symm))
  have ne_b__5_b_28 : b__5 ≠ b_28 := Nat.ne_of_lt (Nat.lt_of_lt_of_le f_23.lt (Nat.le_of_eq g_28.symm))
  have ne_b__9_b_28 : b__9 ≠ b_28 := Nat.ne_of_lt (Nat.lt_of_lt_of_le f_24.lt (Nat.le_of_eq g_28.symm))
  have ne_b__14_b_28 : b__14 ≠ b_28 := Nat.ne_of_lt (Nat.lt_of_lt_of_le f_25.lt (Nat.le_of_eq g_28.symm))
  have ne_b_20_b_28 : b_20 ≠ b_28 := Nat.ne_of_lt (Nat.lt_of_lt_of_le B_20.lt (Nat.le_of_eq g_28.symm))
  have K__29 : Keep h0 h_28 [] := K__21.ext E_28
  have f_30 : Arv Z h_28 b__2 kb__2 .long (8 : Int32) [(.long (own_limb q1 (0 : Int32))), (.long (own_limb q2 (11 : Int32))), (.long (own_limb q3 (22 : Int32))), (.long (own_limb q4 (33 : Int32))), (.long (own_limb q5 (44 : Int32))), (.long (own_limb q1 (55 : Int32))), (.long (own_limb q2 (2 : Int32))), (.long (own_limb q3 (13 : Int32)))] (.long (0 : Int64)) := f_22.ext E_28
  have f_31 : Arv Z h_28 b__5 kb__5 .long (8 : Int32) [(.long (own_limb q3 (5 : Int32))), (.long (own_limb q4 (22 : Int32))), (.long (own_limb q5 (39 : Int32))), (.long (own_limb q1 (56 : Int32))), (.long (own_limb q2 (9 : Int32))), (.long (own_limb q3 (26 : Int32))), (.long (own_limb q4 (43 : Int32))), (.long (own_limb q5 (60 : Int32)))] (.long (0 : Int64)) := f_23.ext E_28
  have f_32 : Arv Z h_28 b__9 kb__9 .long (8 : Int32) [(.long (own_limb q1 (0 : Int32))), (.long (own_limb q2 (11 : Int32))), (.long (own_limb q3 (22 : Int32))), (.long (own_limb q4 (33 : Int32))), (.long (own_limb q5 (44 : Int32))), (.long (own_limb q1 (55 : Int32))), (.long (own_limb q2 (2 : Int32))), (.long (own_limb q3 (13 : Int32)))] (.long (0 : Int64)) := f_24.ext E_28
  have f_33 : Arv Z h_28 b__14 kb__14 .long (8 : Int32) [(.long (own_limb q3 (5 : Int32))), (.long (own_limb q4 (22 : Int32))), (.long (own_limb q5 (39 : Int32))), (.long (own_limb q1 (56 : Int32))), (.long (own_limb q2 (9 : Int32))), (.long (own_limb q3 (26 : Int32))), (.long (own_limb q4 (43 : Int32))), (.long (own_limb q5 (60 : Int32)))] (.long (0 : Int64)) := f_25.ext E_28
  have f_34 : Exa Z h_28 b_20 "[J" := B_20.ext E_28
  have f_35 : Arv Z h_28 b_20 k_20 .long (8 : Int32) [(.long (0 : Int64)), (.long (0 : Int64)), (.long (0 : Int64)), (.long (0 : Int64)), (.long (0 : Int64)), (.long (0 : Int64)), (.long (0 : Int64)), (.long (0 : Int64))] (.long (0 : Int64)) := f_26.ext E_28
  have f_36 : Arv Z h_28 b_28 k_28 .long (8 : Int32) [(.long (0 : Int64)), (.long (0 : Int64)), (.long (0 : Int64)), (.long (0 : Int64)), (.long (0 : Int64)), (.long (0 : Int64)), (.long (0 : Int64)), (.long (0 : Int64))] (.long (0 : Int64)) := (Arv.new A_28 (by decide)).pad (pad_rep [] (.long (0 : Int64)) 8)
  refine Done.pre st_28 ?_
  show Done _ _ _ _ _ _ _ (T_28.setTop (mkF m 62 #[Lv q1, Zs, Lv q2, Zs, Lv q3, Zs, Lv q4, Zs, Lv q5, Zs, Iv p6, Rv b__2, Rv b__5, Rv b__9, Rv b__14, Rv b_20, Us, Us, Us] [(.ref b_28)]))
  have sg_37 : ∀ tt_, Steps p.tables e below (T_28.setTop (mkF m 71 #[Lv q1, Zs, Lv q2, Zs, Lv q3, Zs, Lv q4, Zs, Lv q5, Zs, Iv p6, Rv b__2, Rv b__5, Rv b__9, Rv b__14, Rv b_20, Rv b_28, Us, Us] [(.int ((p6 &&& (2147483647 : Int32)) % (3 : Int32)))])) tt_ → Steps p.tables e below (T_28.setTop (mkF m 62 #[Lv q1, Zs, Lv q2, Zs, Lv q3, Zs, Lv q4, Zs, Lv q5, Zs, Iv p6, Rv b__2, Rv b__5, Rv b__9, Rv b__14, Rv b_20, Us, Us, Us] [(.ref b_28)])) tt_ := by
    intro tt_ kt_
    refine XS.astore X_28.here hEX rfl (hb hBY at_62) rfl rfl (l' := #[Lv q1, Zs, Lv q2, Zs, Lv q3, Zs, Lv q4, Zs, Lv q5, Zs, Iv p6, Rv b__2, Rv b__5, Rv b__9, Rv b__14, Rv b_20, Rv b_28, Us, Us]) rfl ?_
    show Steps p.tables e below (T_28.setTop (mkF m 64 #[Lv q1, Zs, Lv q2, Zs, Lv q3, Zs, Lv q4, Zs, Lv q5, Zs, Iv p6, Rv b__2, Rv b__5, Rv b__9, Rv b__14, Rv b_20, Rv b_28, Us, Us] [])) tt_
    refine XS.iload X_28.here hEX rfl (hb hBY at_64) rfl ?_
    show Steps p.tables e below (T_28.setTop (mkF m 66 #[Lv q1, Zs, Lv q2, Zs, Lv q3, Zs, Lv q4, Zs, Lv q5, Zs, Iv p6, Rv b__2, Rv b__5, Rv b__9, Rv b__14, Rv b_20, Rv b_28, Us, Us] [(.int p6)])) tt_
    refine X_28.ldcInt hEX hOW (mvT hZW (hw _ (List.mem_of_getElem? (i := 15) rfl))) (g := (mkF m 66 #[Lv q1, Zs, Lv q2, Zs, Lv q3, Zs, Lv q4, Zs, Lv q5, Zs, Iv p6, Rv b__2, Rv b__5, Rv b__9, Rv b__14, Rv b_20, Rv b_28, Us, Us] [(.int p6)])) rfl (hb hBY at_66) _ ?_
    show Steps p.tables e below (T_28.setTop (mkF m 68 #[Lv q1, Zs, Lv q2, Zs, Lv q3, Zs, Lv q4, Zs, Lv q5, Zs, Iv p6, Rv b__2, Rv b__5, Rv b__9, Rv b__14, Rv b_20, Rv b_28, Us, Us] [(.int (2147483647 : Int32)), (.int p6)])) tt_
    refine XS.iand X_28.here hEX rfl (hb hBY at_68) rfl ?_
    show Steps p.tables e below (T_28.setTop (mkF m 69 #[Lv q1, Zs, Lv q2, Zs, Lv q3, Zs, Lv q4, Zs, Lv q5, Zs, Iv p6, Rv b__2, Rv b__5, Rv b__9, Rv b__14, Rv b_20, Rv b_28, Us, Us] [(.int (p6 &&& (2147483647 : Int32)))])) tt_
    refine XS.iconst X_28.here hEX rfl (hb hBY at_69) ?_
    show Steps p.tables e below (T_28.setTop (mkF m 70 #[Lv q1, Zs, Lv q2, Zs, Lv q3, Zs, Lv q4, Zs, Lv q5, Zs, Iv p6, Rv b__2, Rv b__5, Rv b__9, Rv b__14, Rv b_20, Rv b_28, Us, Us] [(.int (3 : Int32)), (.int (p6 &&& (2147483647 : Int32)))])) tt_
    refine iremM X_28 hEX rfl (hb hBY at_70) rfl (by decide) ?_
    exact kt_
  refine Done.pre sg_37 ?_
  show Done _ _ _ _ _ _ _ (T_28.setTop (mkF m 71 #[Lv q1, Zs, Lv q2, Zs, Lv q3, Zs, Lv q4, Zs, Lv q5, Zs, Iv p6, Rv b__2, Rv b__5, Rv b__9, Rv b__14, Rv b_20, Rv b_28, Us, Us] [(.int ((p6 &&& (2147483647 : Int32)) % (3 : Int32)))]))
  obtain ⟨md, hmd⟩ : ∃ z : Int32, z = ((p6 &&& (2147483647 : Int32)) % (3 : Int32)) := ⟨_, rfl⟩
  rw [← hmd]
  have hm3 := own_n p6
  rw [← hmd] at hm3
  rcases hm3 with rfl | rfl | rfl
  · skip
    show Done _ _ _ _ _ _ _ (T_28.setTop (mkF m 71 #[Lv q1, Zs, Lv q2, Zs, Lv q3, Zs, Lv q4, Zs, Lv q5, Zs, Iv p6, Rv b__2, Rv b__5, Rv b__9, Rv b__14, Rv b_20, Rv b_28, Us, Us] [(.int (0 : Int32))]))
    have sg_38 : ∀ tt_, Steps p.tables e below (T_28.setTop (mkF m 106 #[Lv q1, Zs, Lv q2, Zs, Lv q3, Zs, Lv q4, Zs, Lv q5, Zs, Iv p6, Rv b__2, Rv b__5, Rv b__9, Rv b__14, Rv b_20, Rv b_28, Iv (0 : Int32), Rv b_20] [(.ref b_20), (.ref b__5), (.ref b__2)])) tt_ → Steps p.tables e below (T_28.setTop (mkF m 71 #[Lv q1, Zs, Lv q2, Zs, Lv q3, Zs, Lv q4, Zs, Lv q5, Zs, Iv p6, Rv b__2, Rv b__5, Rv b__9, Rv b__14, Rv b_20, Rv b_28, Us, Us] [(.int (0 : Int32))])) tt_ := by
      intro tt_ kt_
      refine XS.istore X_28.here hEX rfl (hb hBY at_71) rfl (l' := #[Lv q1, Zs, Lv q2, Zs, Lv q3, Zs, Lv q4, Zs, Lv q5, Zs, Iv p6, Rv b__2, Rv b__5, Rv b__9, Rv b__14, Rv b_20, Rv b_28, Iv (0 : Int32), Us]) rfl ?_
      show Steps p.tables e below (T_28.setTop (mkF m 73 #[Lv q1, Zs, Lv q2, Zs, Lv q3, Zs, Lv q4, Zs, Lv q5, Zs, Iv p6, Rv b__2, Rv b__5, Rv b__9, Rv b__14, Rv b_20, Rv b_28, Iv (0 : Int32), Us] [])) tt_
      refine XS.aload X_28.here hEX rfl (hb hBY at_73) rfl rfl ?_
      show Steps p.tables e below (T_28.setTop (mkF m 75 #[Lv q1, Zs, Lv q2, Zs, Lv q3, Zs, Lv q4, Zs, Lv q5, Zs, Iv p6, Rv b__2, Rv b__5, Rv b__9, Rv b__14, Rv b_20, Rv b_28, Iv (0 : Int32), Us] [(.ref b_20)])) tt_
      refine XS.astore X_28.here hEX rfl (hb hBY at_75) rfl rfl (l' := #[Lv q1, Zs, Lv q2, Zs, Lv q3, Zs, Lv q4, Zs, Lv q5, Zs, Iv p6, Rv b__2, Rv b__5, Rv b__9, Rv b__14, Rv b_20, Rv b_28, Iv (0 : Int32), Rv b_20]) rfl ?_
      show Steps p.tables e below (T_28.setTop (mkF m 77 #[Lv q1, Zs, Lv q2, Zs, Lv q3, Zs, Lv q4, Zs, Lv q5, Zs, Iv p6, Rv b__2, Rv b__5, Rv b__9, Rv b__14, Rv b_20, Rv b_28, Iv (0 : Int32), Rv b_20] [])) tt_
      refine XS.iload X_28.here hEX rfl (hb hBY at_77) rfl ?_
      show Steps p.tables e below (T_28.setTop (mkF m 79 #[Lv q1, Zs, Lv q2, Zs, Lv q3, Zs, Lv q4, Zs, Lv q5, Zs, Iv p6, Rv b__2, Rv b__5, Rv b__9, Rv b__14, Rv b_20, Rv b_28, Iv (0 : Int32), Rv b_20] [(.int (0 : Int32))])) tt_
      refine XS.iconst X_28.here hEX rfl (hb hBY at_79) ?_
      show Steps p.tables e below (T_28.setTop (mkF m 80 #[Lv q1, Zs, Lv q2, Zs, Lv q3, Zs, Lv q4, Zs, Lv q5, Zs, Iv p6, Rv b__2, Rv b__5, Rv b__9, Rv b__14, Rv b_20, Rv b_28, Iv (0 : Int32), Rv b_20] [(.int (1 : Int32)), (.int (0 : Int32))])) tt_
      refine XS.icmpYes X_28.here hEX rfl (pc0 := 80) (pc' := 90) rfl (hb hBY at_80) rfl (feq (by decide : ¬ ((0 : Int32) = (1 : Int32)))).2 (by decide) (by decide) ?_
      show Steps p.tables e below (T_28.setTop (mkF m 90 #[Lv q1, Zs, Lv q2, Zs, Lv q3, Zs, Lv q4, Zs, Lv q5, Zs, Iv p6, Rv b__2, Rv b__5, Rv b__9, Rv b__14, Rv b_20, Rv b_28, Iv (0 : Int32), Rv b_20] [])) tt_
      refine XS.iload X_28.here hEX rfl (hb hBY at_90) rfl ?_
      show Steps p.tables e below (T_28.setTop (mkF m 92 #[Lv q1, Zs, Lv q2, Zs, Lv q3, Zs, Lv q4, Zs, Lv q5, Zs, Iv p6, Rv b__2, Rv b__5, Rv b__9, Rv b__14, Rv b_20, Rv b_28, Iv (0 : Int32), Rv b_20] [(.int (0 : Int32))])) tt_
      refine XS.iconst X_28.here hEX rfl (hb hBY at_92) ?_
      show Steps p.tables e below (T_28.setTop (mkF m 93 #[Lv q1, Zs, Lv q2, Zs, Lv q3, Zs, Lv q4, Zs, Lv q5, Zs, Iv p6, Rv b__2, Rv b__5, Rv b__9, Rv b__14, Rv b_20, Rv b_28, Iv (0 : Int32), Rv b_20] [(.int (2 : Int32)), (.int (0 : Int32))])) tt_
      refine XS.icmpYes X_28.here hEX rfl (pc0 := 93) (pc' := 100) rfl (hb hBY at_93) rfl (feq (by decide : ¬ ((0 : Int32) = (2 : Int32)))).2 (by decide) (by decide) ?_
      show Steps p.tables e below (T_28.setTop (mkF m 100 #[Lv q1, Zs, Lv q2, Zs, Lv q3, Zs, Lv q4, Zs, Lv q5, Zs, Iv p6, Rv b__2, Rv b__5, Rv b__9, Rv b__14, Rv b_20, Rv b_28, Iv (0 : Int32), Rv b_20] [])) tt_
      refine XS.aload X_28.here hEX rfl (hb hBY at_100) rfl rfl ?_
      show Steps p.tables e below (T_28.setTop (mkF m 102 #[Lv q1, Zs, Lv q2, Zs, Lv q3, Zs, Lv q4, Zs, Lv q5, Zs, Iv p6, Rv b__2, Rv b__5, Rv b__9, Rv b__14, Rv b_20, Rv b_28, Iv (0 : Int32), Rv b_20] [(.ref b__2)])) tt_
      refine XS.aload X_28.here hEX rfl (hb hBY at_102) rfl rfl ?_
      show Steps p.tables e below (T_28.setTop (mkF m 104 #[Lv q1, Zs, Lv q2, Zs, Lv q3, Zs, Lv q4, Zs, Lv q5, Zs, Iv p6, Rv b__2, Rv b__5, Rv b__9, Rv b__14, Rv b_20, Rv b_28, Iv (0 : Int32), Rv b_20] [(.ref b__5), (.ref b__2)])) tt_
      refine XS.aload X_28.here hEX rfl (hb hBY at_104) rfl rfl ?_
      exact kt_
    refine Done.pre sg_38 ?_
    obtain ⟨_, _, ⟨T_39, L_39, k_39, n_39⟩, -, X_39, ⟨Lc_39, hQ_39, l_39, y_39, z_39⟩, st_39⟩ := Jvm.LawKit.callS X_28 hEX (y := (⟨"com/example/guard3/guard3/P384Field", "add", "([J[J[J)V"⟩ : MethodName)) hOW (mvT hZW (hw _ (List.mem_of_getElem? (i := 16) rfl))) (mvT hZW (hw _ (List.mem_of_getElem? (i := 17) rfl))) (mvT hZW (hw _ (List.mem_of_getElem? (i := 18) rfl))) (mvT hZW (hw _ (List.mem_of_getElem? (i := 19) rfl))) (by decide) (backOf (W := 0) (rm_add_abo l Z aZ hw [] b__2 b__5 b_20 kb__2 (own_limb q1 (0 : Int32)) (own_limb q2 (11 : Int32)) (own_limb q3 (22 : Int32)) (own_limb q4 (33 : Int32)) (own_limb q5 (44 : Int32)) (own_limb q1 (55 : Int32)) (own_limb q2 (2 : Int32)) (own_limb q3 (13 : Int32)) kb__5 (own_limb q3 (5 : Int32)) (own_limb q4 (22 : Int32)) (own_limb q5 (39 : Int32)) (own_limb q1 (56 : Int32)) (own_limb q2 (9 : Int32)) (own_limb q3 (26 : Int32)) (own_limb q4 (43 : Int32)) (own_limb q5 (60 : Int32)) k_20 (0 : Int64) (0 : Int64) (0 : Int64) (0 : Int64) (0 : Int64) (0 : Int64) (0 : Int64) (0 : Int64) h_28 n0 (Nat.le_trans Z0 K__29.1) f_30 f_31 f_35 ge_b_20 ne_b__2_b__5 ne_b__2_b_20 ne_b__5_b_20 ⟨own_limbR _ _, own_limbR _ _, own_limbR _ _, own_limbR _ _, own_limbR _ _, own_limbR _ _, own_limbR _ _, own_limbR _ _⟩ ⟨own_limbR _ _, own_limbR _ _, own_limbR _ _, own_limbR _ _, own_limbR _ _, own_limbR _ _, own_limbR _ _, own_limbR _ _⟩) hZW (hw _ (List.mem_of_getElem? (i := 19) rfl)) (hw _ (List.mem_of_getElem? (i := 18) rfl)) (by decide) (by decide)) (g := (mkF m 106 #[Lv q1, Zs, Lv q2, Zs, Lv q3, Zs, Lv q4, Zs, Lv q5, Zs, Iv p6, Rv b__2, Rv b__5, Rv b__9, Rv b__14, Rv b_20, Rv b_28, Iv (0 : Int32), Rv b_20] [(.ref b_20), (.ref b__5), (.ref b__2)])) rfl (by rw [hMX]; rfl) (argsL := [(.ref b__2), (.ref b__5), (.ref b_20)]) (rest := []) (lenOf pd___J_J_J_V_10 rfl) rfl (by show 2 * 0 + _ ≤ _; exact Nat.le_of_eq rfl) (hb hBY at_106) (fun _ _ => ⟨rfl, e_28, (by decide : 6 + 0 ≤ _), (by decide : 48 + 0 ≤ _)⟩)
    dsimp only [Pt.U, Pt.locs, Pt.cells, Pt.slots] at X_39 l_39 y_39 z_39 st_39 hQ_39
    subst l_39 y_39 z_39
    obtain ⟨r0, r1, r2, r3, r4, r5, r6, r7, rfl, N_39q, K_39, hq_39_0, hq_39_1, hq_39_2⟩ := hQ_39
    have N_39 := Fr.app N_14 N_39q
    have K__40 : Keep h0 T_39.heap [] := K__29.trans K_39 (allS (Or.inr sz_b_20) all0)
    have f_41 : Arv Z T_39.heap b__2 kb__2 .long (8 : Int32) [(.long (own_limb q1 (0 : Int32))), (.long (own_limb q2 (11 : Int32))), (.long (own_limb q3 (22 : Int32))), (.long (own_limb q4 (33 : Int32))), (.long (own_limb q5 (44 : Int32))), (.long (own_limb q1 (55 : Int32))), (.long (own_limb q2 (2 : Int32))), (.long (own_limb q3 (13 : Int32)))] (.long (0 : Int64)) := f_30.keep K_39 (ninS ne_b__2_b_20 nin0)
    have f_42 : Arv Z T_39.heap b__5 kb__5 .long (8 : Int32) [(.long (own_limb q3 (5 : Int32))), (.long (own_limb q4 (22 : Int32))), (.long (own_limb q5 (39 : Int32))), (.long (own_limb q1 (56 : Int32))), (.long (own_limb q2 (9 : Int32))), (.long (own_limb q3 (26 : Int32))), (.long (own_limb q4 (43 : Int32))), (.long (own_limb q5 (60 : Int32)))] (.long (0 : Int64)) := f_31.keep K_39 (ninS ne_b__5_b_20 nin0)
    have f_43 : Arv Z T_39.heap b__9 kb__9 .long (8 : Int32) [(.long (own_limb q1 (0 : Int32))), (.long (own_limb q2 (11 : Int32))), (.long (own_limb q3 (22 : Int32))), (.long (own_limb q4 (33 : Int32))), (.long (own_limb q5 (44 : Int32))), (.long (own_limb q1 (55 : Int32))), (.long (own_limb q2 (2 : Int32))), (.long (own_limb q3 (13 : Int32)))] (.long (0 : Int64)) := f_32.keep K_39 (ninS ne_b__9_b_20 nin0)
    have f_44 : Arv Z T_39.heap b__14 kb__14 .long (8 : Int32) [(.long (own_limb q3 (5 : Int32))), (.long (own_limb q4 (22 : Int32))), (.long (own_limb q5 (39 : Int32))), (.long (own_limb q1 (56 : Int32))), (.long (own_limb q2 (9 : Int32))), (.long (own_limb q3 (26 : Int32))), (.long (own_limb q4 (43 : Int32))), (.long (own_limb q5 (60 : Int32)))] (.long (0 : Int64)) := f_33.keep K_39 (ninS ne_b__14_b_20 nin0)
    have f_45 : Exa Z T_39.heap b_20 "[J" := f_34.keep K_39
    have f_46 : Exa Z T_39.heap b_28 "[J" := B_28.keep K_39
    have f_47 : Arv Z T_39.heap b_28 k_28 .long (8 : Int32) [(.long (0 : Int64)), (.long (0 : Int64)), (.long (0 : Int64)), (.long (0 : Int64)), (.long (0 : Int64)), (.long (0 : Int64)), (.long (0 : Int64)), (.long (0 : Int64))] (.long (0 : Int64)) := f_36.keep K_39 (ninS (Ne.symm ne_b_20_b_28) nin0)
    refine Done.pre (fun _ k_ => st_39 _ k_) ?_
    show Done _ _ _ _ _ _ _ (T_39.setTop (mkF m 109 #[Lv q1, Zs, Lv q2, Zs, Lv q3, Zs, Lv q4, Zs, Lv q5, Zs, Iv p6, Rv b__2, Rv b__5, Rv b__9, Rv b__14, Rv b_20, Rv b_28, Iv (0 : Int32), Rv b_20] []))
    have hRr := hq_39_1
    have hMr := hq_39_2
    obtain ⟨cl_48, Ar_48, q_48, S_48, N__48, H_48, G_48⟩ := id hq_39_0
    have hin_48 : ¬ ((0 : Int32) < 0 ∨ cl_48.slots.size ≤ ((0 : Int32)).toNatClampNeg) := inb_of S_48 ⟨by decide, by decide⟩
    have hat_48 : cl_48.slots[((0 : Int32)).toNatClampNeg]? = some (.long r0) := H_48.at hin_48 rfl
    have sg_49 : ∀ tt_, Steps p.tables e below (T_39.setTop (mkF m 113 #[Lv q1, Zs, Lv q2, Zs, Lv q3, Zs, Lv q4, Zs, Lv q5, Zs, Iv p6, Rv b__2, Rv b__5, Rv b__9, Rv b__14, Rv b_20, Rv b_28, Iv (0 : Int32), Rv b_20] [(.long r0)])) tt_ → Steps p.tables e below (T_39.setTop (mkF m 109 #[Lv q1, Zs, Lv q2, Zs, Lv q3, Zs, Lv q4, Zs, Lv q5, Zs, Iv p6, Rv b__2, Rv b__5, Rv b__9, Rv b__14, Rv b_20, Rv b_28, Iv (0 : Int32), Rv b_20] [])) tt_ := by
      intro tt_ kt_
      refine XS.aload X_39.here hEX rfl (hb hBY at_109) rfl rfl ?_
      show Steps p.tables e below (T_39.setTop (mkF m 111 #[Lv q1, Zs, Lv q2, Zs, Lv q3, Zs, Lv q4, Zs, Lv q5, Zs, Iv p6, Rv b__2, Rv b__5, Rv b__9, Rv b__14, Rv b_20, Rv b_28, Iv (0 : Int32), Rv b_20] [(.ref b_20)])) tt_
      refine XS.iconst X_39.here hEX rfl (hb hBY at_111) ?_
      show Steps p.tables e below (T_39.setTop (mkF m 112 #[Lv q1, Zs, Lv q2, Zs, Lv q3, Zs, Lv q4, Zs, Lv q5, Zs, Iv p6, Rv b__2, Rv b__5, Rv b__9, Rv b__14, Rv b_20, Rv b_28, Iv (0 : Int32), Rv b_20] [(.int (0 : Int32)), (.ref b_20)])) tt_
      refine X_39.laload hEX (j := (0 : Int32)) (v := (.long r0)) Ar_48.1 (State.isArrayOf_alike hZW.alike Ar_48.2.1) Ar_48.2.2 hin_48 hat_48 (g := (mkF m 112 #[Lv q1, Zs, Lv q2, Zs, Lv q3, Zs, Lv q4, Zs, Lv q5, Zs, Iv p6, Rv b__2, Rv b__5, Rv b__9, Rv b__14, Rv b_20, Rv b_28, Iv (0 : Int32), Rv b_20] [(.int (0 : Int32)), (.ref b_20)])) rfl rfl (hb hBY at_112) _ ?_
      exact kt_
    refine Done.pre sg_49 ?_
    obtain ⟨_, _, ⟨T_50, L_50, k_50, n_50⟩, -, X_50, ⟨Lc_50, hQ_50, l_50, y_50, z_50⟩, st_50⟩ := Jvm.LawKit.callS X_39 hEX (y := (⟨"com/example/guard3/guard3/P384FieldAddPinLaw", "inRange", "(J)Z"⟩ : MethodName)) hOW (mvT hZW (hw _ (List.mem_of_getElem? (i := 25) rfl))) (mvT hZW (hw _ (List.mem_of_getElem? (i := 26) rfl))) (mvT hZW (hw _ (List.mem_of_getElem? (i := 2) rfl))) (mvT hZW (hw _ (List.mem_of_getElem? (i := 27) rfl))) (by decide) (backOf (W := 0) (rm_inr l Z aZ hw [] r0 T_39.heap n0 (Nat.le_trans Z0 K__40.1) (own_inlo _ hRr.1) (own_inhi _ hRr.1)) hZW (hw _ (List.mem_of_getElem? (i := 27) rfl)) (hw _ (List.mem_of_getElem? (i := 2) rfl)) (by decide) (by decide)) (g := (mkF m 113 #[Lv q1, Zs, Lv q2, Zs, Lv q3, Zs, Lv q4, Zs, Lv q5, Zs, Iv p6, Rv b__2, Rv b__5, Rv b__9, Rv b__14, Rv b_20, Rv b_28, Iv (0 : Int32), Rv b_20] [(.long r0)])) rfl (by rw [hMX]; rfl) (argsL := [(.long r0)]) (rest := []) (lenOf pd__J_Z_1 rfl) rfl (by show 2 * 0 + _ ≤ _; exact Nat.le_of_eq rfl) (hb hBY at_113) (fun _ _ => ⟨rfl, rfl, (by decide : 6 + 0 ≤ _), (by decide : 48 + 0 ≤ _)⟩)
    dsimp only [Pt.U, Pt.locs, Pt.cells, Pt.slots] at X_50 l_50 y_50 z_50 st_50 hQ_50
    subst l_50 y_50 z_50
    obtain ⟨rfl, N_50q, e_50⟩ := hQ_50
    have N_50 := Fr.app N_39 N_50q
    refine Done.pre (fun _ k_ => st_50 _ k_) ?_
    show Done _ _ _ _ _ _ _ (T_50.setTop (mkF m 116 #[Lv q1, Zs, Lv q2, Zs, Lv q3, Zs, Lv q4, Zs, Lv q5, Zs, Iv p6, Rv b__2, Rv b__5, Rv b__9, Rv b__14, Rv b_20, Rv b_28, Iv (0 : Int32), Rv b_20] [(.int (1 : Int32))]))
    obtain ⟨cl_51, Ar_51, q_51, S_51, N__51, H_51, G_51⟩ := id hq_39_0
    have hin_51 : ¬ ((1 : Int32) < 0 ∨ cl_51.slots.size ≤ ((1 : Int32)).toNatClampNeg) := inb_of S_51 ⟨by decide, by decide⟩
    have hat_51 : cl_51.slots[((1 : Int32)).toNatClampNeg]? = some (.long r1) := H_51.at hin_51 rfl
    have sg_52 : ∀ tt_, Steps p.tables e below (T_50.setTop (mkF m 123 #[Lv q1, Zs, Lv q2, Zs, Lv q3, Zs, Lv q4, Zs, Lv q5, Zs, Iv p6, Rv b__2, Rv b__5, Rv b__9, Rv b__14, Rv b_20, Rv b_28, Iv (0 : Int32), Rv b_20] [(.long r1)])) tt_ → Steps p.tables e below (T_50.setTop (mkF m 116 #[Lv q1, Zs, Lv q2, Zs, Lv q3, Zs, Lv q4, Zs, Lv q5, Zs, Iv p6, Rv b__2, Rv b__5, Rv b__9, Rv b__14, Rv b_20, Rv b_28, Iv (0 : Int32), Rv b_20] [(.int (1 : Int32))])) tt_ := by
      intro tt_ kt_
      refine XS.ifNo X_50.here hEX rfl (hb hBY at_116) rfl ((if0 _ _).trans (feq (by decide : ¬ ((1 : Int32) = (0 : Int32)))).1) ?_
      show Steps p.tables e below (T_50.setTop (mkF m 119 #[Lv q1, Zs, Lv q2, Zs, Lv q3, Zs, Lv q4, Zs, Lv q5, Zs, Iv p6, Rv b__2, Rv b__5, Rv b__9, Rv b__14, Rv b_20, Rv b_28, Iv (0 : Int32), Rv b_20] [])) tt_
      refine XS.aload X_50.here hEX rfl (hb hBY at_119) rfl rfl ?_
      show Steps p.tables e below (T_50.setTop (mkF m 121 #[Lv q1, Zs, Lv q2, Zs, Lv q3, Zs, Lv q4, Zs, Lv q5, Zs, Iv p6, Rv b__2, Rv b__5, Rv b__9, Rv b__14, Rv b_20, Rv b_28, Iv (0 : Int32), Rv b_20] [(.ref b_20)])) tt_
      refine XS.iconst X_50.here hEX rfl (hb hBY at_121) ?_
      show Steps p.tables e below (T_50.setTop (mkF m 122 #[Lv q1, Zs, Lv q2, Zs, Lv q3, Zs, Lv q4, Zs, Lv q5, Zs, Iv p6, Rv b__2, Rv b__5, Rv b__9, Rv b__14, Rv b_20, Rv b_28, Iv (0 : Int32), Rv b_20] [(.int (1 : Int32)), (.ref b_20)])) tt_
      refine X_50.laload hEX (j := (1 : Int32)) (v := (.long r1)) (by rw [e_50]; exact Ar_51.1) (State.isArrayOf_alike hZW.alike Ar_51.2.1) Ar_51.2.2 hin_51 hat_51 (g := (mkF m 122 #[Lv q1, Zs, Lv q2, Zs, Lv q3, Zs, Lv q4, Zs, Lv q5, Zs, Iv p6, Rv b__2, Rv b__5, Rv b__9, Rv b__14, Rv b_20, Rv b_28, Iv (0 : Int32), Rv b_20] [(.int (1 : Int32)), (.ref b_20)])) rfl rfl (hb hBY at_122) _ ?_
      exact kt_
    refine Done.pre sg_52 ?_
    obtain ⟨_, _, ⟨T_53, L_53, k_53, n_53⟩, -, X_53, ⟨Lc_53, hQ_53, l_53, y_53, z_53⟩, st_53⟩ := Jvm.LawKit.callS X_50 hEX (y := (⟨"com/example/guard3/guard3/P384FieldAddPinLaw", "inRange", "(J)Z"⟩ : MethodName)) hOW (mvT hZW (hw _ (List.mem_of_getElem? (i := 25) rfl))) (mvT hZW (hw _ (List.mem_of_getElem? (i := 26) rfl))) (mvT hZW (hw _ (List.mem_of_getElem? (i := 2) rfl))) (mvT hZW (hw _ (List.mem_of_getElem? (i := 27) rfl))) (by decide) (backOf (W := 0) (rm_inr l Z aZ hw [] r1 T_39.heap n0 (Nat.le_trans Z0 K__40.1) (own_inlo _ hRr.2.1) (own_inhi _ hRr.2.1)) hZW (hw _ (List.mem_of_getElem? (i := 27) rfl)) (hw _ (List.mem_of_getElem? (i := 2) rfl)) (by decide) (by decide)) (g := (mkF m 123 #[Lv q1, Zs, Lv q2, Zs, Lv q3, Zs, Lv q4, Zs, Lv q5, Zs, Iv p6, Rv b__2, Rv b__5, Rv b__9, Rv b__14, Rv b_20, Rv b_28, Iv (0 : Int32), Rv b_20] [(.long r1)])) rfl (by rw [hMX]; rfl) (argsL := [(.long r1)]) (rest := []) (lenOf pd__J_Z_1 rfl) rfl (by show 2 * 0 + _ ≤ _; exact Nat.le_of_eq rfl) (hb hBY at_123) (fun _ _ => ⟨rfl, e_50, (by decide : 6 + 0 ≤ _), (by decide : 48 + 0 ≤ _)⟩)
    dsimp only [Pt.U, Pt.locs, Pt.cells, Pt.slots] at X_53 l_53 y_53 z_53 st_53 hQ_53
    subst l_53 y_53 z_53
    obtain ⟨rfl, N_53q, e_53⟩ := hQ_53
    have N_53 := Fr.app N_50 N_53q
    refine Done.pre (fun _ k_ => st_53 _ k_) ?_
    show Done _ _ _ _ _ _ _ (T_53.setTop (mkF m 126 #[Lv q1, Zs, Lv q2, Zs, Lv q3, Zs, Lv q4, Zs, Lv q5, Zs, Iv p6, Rv b__2, Rv b__5, Rv b__9, Rv b__14, Rv b_20, Rv b_28, Iv (0 : Int32), Rv b_20] [(.int (1 : Int32))]))
    obtain ⟨cl_54, Ar_54, q_54, S_54, N__54, H_54, G_54⟩ := id hq_39_0
    have hin_54 : ¬ ((2 : Int32) < 0 ∨ cl_54.slots.size ≤ ((2 : Int32)).toNatClampNeg) := inb_of S_54 ⟨by decide, by decide⟩
    have hat_54 : cl_54.slots[((2 : Int32)).toNatClampNeg]? = some (.long r2) := H_54.at hin_54 rfl
    have sg_55 : ∀ tt_, Steps p.tables e below (T_53.setTop (mkF m 133 #[Lv q1, Zs, Lv q2, Zs, Lv q3, Zs, Lv q4, Zs, Lv q5, Zs, Iv p6, Rv b__2, Rv b__5, Rv b__9, Rv b__14, Rv b_20, Rv b_28, Iv (0 : Int32), Rv b_20] [(.long r2)])) tt_ → Steps p.tables e below (T_53.setTop (mkF m 126 #[Lv q1, Zs, Lv q2, Zs, Lv q3, Zs, Lv q4, Zs, Lv q5, Zs, Iv p6, Rv b__2, Rv b__5, Rv b__9, Rv b__14, Rv b_20, Rv b_28, Iv (0 : Int32), Rv b_20] [(.int (1 : Int32))])) tt_ := by
      intro tt_ kt_
      refine XS.ifNo X_53.here hEX rfl (hb hBY at_126) rfl ((if0 _ _).trans (feq (by decide : ¬ ((1 : Int32) = (0 : Int32)))).1) ?_
      show Steps p.tables e below (T_53.setTop (mkF m 129 #[Lv q1, Zs, Lv q2, Zs, Lv q3, Zs, Lv q4, Zs, Lv q5, Zs, Iv p6, Rv b__2, Rv b__5, Rv b__9, Rv b__14, Rv b_20, Rv b_28, Iv (0 : Int32), Rv b_20] [])) tt_
      refine XS.aload X_53.here hEX rfl (hb hBY at_129) rfl rfl ?_
      show Steps p.tables e below (T_53.setTop (mkF m 131 #[Lv q1, Zs, Lv q2, Zs, Lv q3, Zs, Lv q4, Zs, Lv q5, Zs, Iv p6, Rv b__2, Rv b__5, Rv b__9, Rv b__14, Rv b_20, Rv b_28, Iv (0 : Int32), Rv b_20] [(.ref b_20)])) tt_
      refine XS.iconst X_53.here hEX rfl (hb hBY at_131) ?_
      show Steps p.tables e below (T_53.setTop (mkF m 132 #[Lv q1, Zs, Lv q2, Zs, Lv q3, Zs, Lv q4, Zs, Lv q5, Zs, Iv p6, Rv b__2, Rv b__5, Rv b__9, Rv b__14, Rv b_20, Rv b_28, Iv (0 : Int32), Rv b_20] [(.int (2 : Int32)), (.ref b_20)])) tt_
      refine X_53.laload hEX (j := (2 : Int32)) (v := (.long r2)) (by rw [e_53]; exact Ar_54.1) (State.isArrayOf_alike hZW.alike Ar_54.2.1) Ar_54.2.2 hin_54 hat_54 (g := (mkF m 132 #[Lv q1, Zs, Lv q2, Zs, Lv q3, Zs, Lv q4, Zs, Lv q5, Zs, Iv p6, Rv b__2, Rv b__5, Rv b__9, Rv b__14, Rv b_20, Rv b_28, Iv (0 : Int32), Rv b_20] [(.int (2 : Int32)), (.ref b_20)])) rfl rfl (hb hBY at_132) _ ?_
      exact kt_
    refine Done.pre sg_55 ?_
    obtain ⟨_, _, ⟨T_56, L_56, k_56, n_56⟩, -, X_56, ⟨Lc_56, hQ_56, l_56, y_56, z_56⟩, st_56⟩ := Jvm.LawKit.callS X_53 hEX (y := (⟨"com/example/guard3/guard3/P384FieldAddPinLaw", "inRange", "(J)Z"⟩ : MethodName)) hOW (mvT hZW (hw _ (List.mem_of_getElem? (i := 25) rfl))) (mvT hZW (hw _ (List.mem_of_getElem? (i := 26) rfl))) (mvT hZW (hw _ (List.mem_of_getElem? (i := 2) rfl))) (mvT hZW (hw _ (List.mem_of_getElem? (i := 27) rfl))) (by decide) (backOf (W := 0) (rm_inr l Z aZ hw [] r2 T_39.heap n0 (Nat.le_trans Z0 K__40.1) (own_inlo _ hRr.2.2.1) (own_inhi _ hRr.2.2.1)) hZW (hw _ (List.mem_of_getElem? (i := 27) rfl)) (hw _ (List.mem_of_getElem? (i := 2) rfl)) (by decide) (by decide)) (g := (mkF m 133 #[Lv q1, Zs, Lv q2, Zs, Lv q3, Zs, Lv q4, Zs, Lv q5, Zs, Iv p6, Rv b__2, Rv b__5, Rv b__9, Rv b__14, Rv b_20, Rv b_28, Iv (0 : Int32), Rv b_20] [(.long r2)])) rfl (by rw [hMX]; rfl) (argsL := [(.long r2)]) (rest := []) (lenOf pd__J_Z_1 rfl) rfl (by show 2 * 0 + _ ≤ _; exact Nat.le_of_eq rfl) (hb hBY at_133) (fun _ _ => ⟨rfl, e_53, (by decide : 6 + 0 ≤ _), (by decide : 48 + 0 ≤ _)⟩)
    dsimp only [Pt.U, Pt.locs, Pt.cells, Pt.slots] at X_56 l_56 y_56 z_56 st_56 hQ_56
    subst l_56 y_56 z_56
    obtain ⟨rfl, N_56q, e_56⟩ := hQ_56
    have N_56 := Fr.app N_53 N_56q
    refine Done.pre (fun _ k_ => st_56 _ k_) ?_
    show Done _ _ _ _ _ _ _ (T_56.setTop (mkF m 136 #[Lv q1, Zs, Lv q2, Zs, Lv q3, Zs, Lv q4, Zs, Lv q5, Zs, Iv p6, Rv b__2, Rv b__5, Rv b__9, Rv b__14, Rv b_20, Rv b_28, Iv (0 : Int32), Rv b_20] [(.int (1 : Int32))]))
    obtain ⟨cl_57, Ar_57, q_57, S_57, N__57, H_57, G_57⟩ := id hq_39_0
    have hin_57 : ¬ ((3 : Int32) < 0 ∨ cl_57.slots.size ≤ ((3 : Int32)).toNatClampNeg) := inb_of S_57 ⟨by decide, by decide⟩
    have hat_57 : cl_57.slots[((3 : Int32)).toNatClampNeg]? = some (.long r3) := H_57.at hin_57 rfl
    have sg_58 : ∀ tt_, Steps p.tables e below (T_56.setTop (mkF m 143 #[Lv q1, Zs, Lv q2, Zs, Lv q3, Zs, Lv q4, Zs, Lv q5, Zs, Iv p6, Rv b__2, Rv b__5, Rv b__9, Rv b__14, Rv b_20, Rv b_28, Iv (0 : Int32), Rv b_20] [(.long r3)])) tt_ → Steps p.tables e below (T_56.setTop (mkF m 136 #[Lv q1, Zs, Lv q2, Zs, Lv q3, Zs, Lv q4, Zs, Lv q5, Zs, Iv p6, Rv b__2, Rv b__5, Rv b__9, Rv b__14, Rv b_20, Rv b_28, Iv (0 : Int32), Rv b_20] [(.int (1 : Int32))])) tt_ := by
      intro tt_ kt_
      refine XS.ifNo X_56.here hEX rfl (hb hBY at_136) rfl ((if0 _ _).trans (feq (by decide : ¬ ((1 : Int32) = (0 : Int32)))).1) ?_
      show Steps p.tables e below (T_56.setTop (mkF m 139 #[Lv q1, Zs, Lv q2, Zs, Lv q3, Zs, Lv q4, Zs, Lv q5, Zs, Iv p6, Rv b__2, Rv b__5, Rv b__9, Rv b__14, Rv b_20, Rv b_28, Iv (0 : Int32), Rv b_20] [])) tt_
      refine XS.aload X_56.here hEX rfl (hb hBY at_139) rfl rfl ?_
      show Steps p.tables e below (T_56.setTop (mkF m 141 #[Lv q1, Zs, Lv q2, Zs, Lv q3, Zs, Lv q4, Zs, Lv q5, Zs, Iv p6, Rv b__2, Rv b__5, Rv b__9, Rv b__14, Rv b_20, Rv b_28, Iv (0 : Int32), Rv b_20] [(.ref b_20)])) tt_
      refine XS.iconst X_56.here hEX rfl (hb hBY at_141) ?_
      show Steps p.tables e below (T_56.setTop (mkF m 142 #[Lv q1, Zs, Lv q2, Zs, Lv q3, Zs, Lv q4, Zs, Lv q5, Zs, Iv p6, Rv b__2, Rv b__5, Rv b__9, Rv b__14, Rv b_20, Rv b_28, Iv (0 : Int32), Rv b_20] [(.int (3 : Int32)), (.ref b_20)])) tt_
      refine X_56.laload hEX (j := (3 : Int32)) (v := (.long r3)) (by rw [e_56]; exact Ar_57.1) (State.isArrayOf_alike hZW.alike Ar_57.2.1) Ar_57.2.2 hin_57 hat_57 (g := (mkF m 142 #[Lv q1, Zs, Lv q2, Zs, Lv q3, Zs, Lv q4, Zs, Lv q5, Zs, Iv p6, Rv b__2, Rv b__5, Rv b__9, Rv b__14, Rv b_20, Rv b_28, Iv (0 : Int32), Rv b_20] [(.int (3 : Int32)), (.ref b_20)])) rfl rfl (hb hBY at_142) _ ?_
      exact kt_
    refine Done.pre sg_58 ?_
    obtain ⟨_, _, ⟨T_59, L_59, k_59, n_59⟩, -, X_59, ⟨Lc_59, hQ_59, l_59, y_59, z_59⟩, st_59⟩ := Jvm.LawKit.callS X_56 hEX (y := (⟨"com/example/guard3/guard3/P384FieldAddPinLaw", "inRange", "(J)Z"⟩ : MethodName)) hOW (mvT hZW (hw _ (List.mem_of_getElem? (i := 25) rfl))) (mvT hZW (hw _ (List.mem_of_getElem? (i := 26) rfl))) (mvT hZW (hw _ (List.mem_of_getElem? (i := 2) rfl))) (mvT hZW (hw _ (List.mem_of_getElem? (i := 27) rfl))) (by decide) (backOf (W := 0) (rm_inr l Z aZ hw [] r3 T_39.heap n0 (Nat.le_trans Z0 K__40.1) (own_inlo _ hRr.2.2.2.1) (own_inhi _ hRr.2.2.2.1)) hZW (hw _ (List.mem_of_getElem? (i := 27) rfl)) (hw _ (List.mem_of_getElem? (i := 2) rfl)) (by decide) (by decide)) (g := (mkF m 143 #[Lv q1, Zs, Lv q2, Zs, Lv q3, Zs, Lv q4, Zs, Lv q5, Zs, Iv p6, Rv b__2, Rv b__5, Rv b__9, Rv b__14, Rv b_20, Rv b_28, Iv (0 : Int32), Rv b_20] [(.long r3)])) rfl (by rw [hMX]; rfl) (argsL := [(.long r3)]) (rest := []) (lenOf pd__J_Z_1 rfl) rfl (by show 2 * 0 + _ ≤ _; exact Nat.le_of_eq rfl) (hb hBY at_143) (fun _ _ => ⟨rfl, e_56, (by decide : 6 + 0 ≤ _), (by decide : 48 + 0 ≤ _)⟩)
    dsimp only [Pt.U, Pt.locs, Pt.cells, Pt.slots] at X_59 l_59 y_59 z_59 st_59 hQ_59
    subst l_59 y_59 z_59
    obtain ⟨rfl, N_59q, e_59⟩ := hQ_59
    have N_59 := Fr.app N_56 N_59q
    refine Done.pre (fun _ k_ => st_59 _ k_) ?_
    show Done _ _ _ _ _ _ _ (T_59.setTop (mkF m 146 #[Lv q1, Zs, Lv q2, Zs, Lv q3, Zs, Lv q4, Zs, Lv q5, Zs, Iv p6, Rv b__2, Rv b__5, Rv b__9, Rv b__14, Rv b_20, Rv b_28, Iv (0 : Int32), Rv b_20] [(.int (1 : Int32))]))
    obtain ⟨cl_60, Ar_60, q_60, S_60, N__60, H_60, G_60⟩ := id hq_39_0
    have hin_60 : ¬ ((4 : Int32) < 0 ∨ cl_60.slots.size ≤ ((4 : Int32)).toNatClampNeg) := inb_of S_60 ⟨by decide, by decide⟩
    have hat_60 : cl_60.slots[((4 : Int32)).toNatClampNeg]? = some (.long r4) := H_60.at hin_60 rfl
    have sg_61 : ∀ tt_, Steps p.tables e below (T_59.setTop (mkF m 153 #[Lv q1, Zs, Lv q2, Zs, Lv q3, Zs, Lv q4, Zs, Lv q5, Zs, Iv p6, Rv b__2, Rv b__5, Rv b__9, Rv b__14, Rv b_20, Rv b_28, Iv (0 : Int32), Rv b_20] [(.long r4)])) tt_ → Steps p.tables e below (T_59.setTop (mkF m 146 #[Lv q1, Zs, Lv q2, Zs, Lv q3, Zs, Lv q4, Zs, Lv q5, Zs, Iv p6, Rv b__2, Rv b__5, Rv b__9, Rv b__14, Rv b_20, Rv b_28, Iv (0 : Int32), Rv b_20] [(.int (1 : Int32))])) tt_ := by
      intro tt_ kt_
      refine XS.ifNo X_59.here hEX rfl (hb hBY at_146) rfl ((if0 _ _).trans (feq (by decide : ¬ ((1 : Int32) = (0 : Int32)))).1) ?_
      show Steps p.tables e below (T_59.setTop (mkF m 149 #[Lv q1, Zs, Lv q2, Zs, Lv q3, Zs, Lv q4, Zs, Lv q5, Zs, Iv p6, Rv b__2, Rv b__5, Rv b__9, Rv b__14, Rv b_20, Rv b_28, Iv (0 : Int32), Rv b_20] [])) tt_
      refine XS.aload X_59.here hEX rfl (hb hBY at_149) rfl rfl ?_
      show Steps p.tables e below (T_59.setTop (mkF m 151 #[Lv q1, Zs, Lv q2, Zs, Lv q3, Zs, Lv q4, Zs, Lv q5, Zs, Iv p6, Rv b__2, Rv b__5, Rv b__9, Rv b__14, Rv b_20, Rv b_28, Iv (0 : Int32), Rv b_20] [(.ref b_20)])) tt_
      refine XS.iconst X_59.here hEX rfl (hb hBY at_151) ?_
      show Steps p.tables e below (T_59.setTop (mkF m 152 #[Lv q1, Zs, Lv q2, Zs, Lv q3, Zs, Lv q4, Zs, Lv q5, Zs, Iv p6, Rv b__2, Rv b__5, Rv b__9, Rv b__14, Rv b_20, Rv b_28, Iv (0 : Int32), Rv b_20] [(.int (4 : Int32)), (.ref b_20)])) tt_
      refine X_59.laload hEX (j := (4 : Int32)) (v := (.long r4)) (by rw [e_59]; exact Ar_60.1) (State.isArrayOf_alike hZW.alike Ar_60.2.1) Ar_60.2.2 hin_60 hat_60 (g := (mkF m 152 #[Lv q1, Zs, Lv q2, Zs, Lv q3, Zs, Lv q4, Zs, Lv q5, Zs, Iv p6, Rv b__2, Rv b__5, Rv b__9, Rv b__14, Rv b_20, Rv b_28, Iv (0 : Int32), Rv b_20] [(.int (4 : Int32)), (.ref b_20)])) rfl rfl (hb hBY at_152) _ ?_
      exact kt_
    refine Done.pre sg_61 ?_
    obtain ⟨_, _, ⟨T_62, L_62, k_62, n_62⟩, -, X_62, ⟨Lc_62, hQ_62, l_62, y_62, z_62⟩, st_62⟩ := Jvm.LawKit.callS X_59 hEX (y := (⟨"com/example/guard3/guard3/P384FieldAddPinLaw", "inRange", "(J)Z"⟩ : MethodName)) hOW (mvT hZW (hw _ (List.mem_of_getElem? (i := 25) rfl))) (mvT hZW (hw _ (List.mem_of_getElem? (i := 26) rfl))) (mvT hZW (hw _ (List.mem_of_getElem? (i := 2) rfl))) (mvT hZW (hw _ (List.mem_of_getElem? (i := 27) rfl))) (by decide) (backOf (W := 0) (rm_inr l Z aZ hw [] r4 T_39.heap n0 (Nat.le_trans Z0 K__40.1) (own_inlo _ hRr.2.2.2.2.1) (own_inhi _ hRr.2.2.2.2.1)) hZW (hw _ (List.mem_of_getElem? (i := 27) rfl)) (hw _ (List.mem_of_getElem? (i := 2) rfl)) (by decide) (by decide)) (g := (mkF m 153 #[Lv q1, Zs, Lv q2, Zs, Lv q3, Zs, Lv q4, Zs, Lv q5, Zs, Iv p6, Rv b__2, Rv b__5, Rv b__9, Rv b__14, Rv b_20, Rv b_28, Iv (0 : Int32), Rv b_20] [(.long r4)])) rfl (by rw [hMX]; rfl) (argsL := [(.long r4)]) (rest := []) (lenOf pd__J_Z_1 rfl) rfl (by show 2 * 0 + _ ≤ _; exact Nat.le_of_eq rfl) (hb hBY at_153) (fun _ _ => ⟨rfl, e_59, (by decide : 6 + 0 ≤ _), (by decide : 48 + 0 ≤ _)⟩)
    dsimp only [Pt.U, Pt.locs, Pt.cells, Pt.slots] at X_62 l_62 y_62 z_62 st_62 hQ_62
    subst l_62 y_62 z_62
    obtain ⟨rfl, N_62q, e_62⟩ := hQ_62
    have N_62 := Fr.app N_59 N_62q
    refine Done.pre (fun _ k_ => st_62 _ k_) ?_
    show Done _ _ _ _ _ _ _ (T_62.setTop (mkF m 156 #[Lv q1, Zs, Lv q2, Zs, Lv q3, Zs, Lv q4, Zs, Lv q5, Zs, Iv p6, Rv b__2, Rv b__5, Rv b__9, Rv b__14, Rv b_20, Rv b_28, Iv (0 : Int32), Rv b_20] [(.int (1 : Int32))]))
    obtain ⟨cl_63, Ar_63, q_63, S_63, N__63, H_63, G_63⟩ := id hq_39_0
    have hin_63 : ¬ ((5 : Int32) < 0 ∨ cl_63.slots.size ≤ ((5 : Int32)).toNatClampNeg) := inb_of S_63 ⟨by decide, by decide⟩
    have hat_63 : cl_63.slots[((5 : Int32)).toNatClampNeg]? = some (.long r5) := H_63.at hin_63 rfl
    have sg_64 : ∀ tt_, Steps p.tables e below (T_62.setTop (mkF m 163 #[Lv q1, Zs, Lv q2, Zs, Lv q3, Zs, Lv q4, Zs, Lv q5, Zs, Iv p6, Rv b__2, Rv b__5, Rv b__9, Rv b__14, Rv b_20, Rv b_28, Iv (0 : Int32), Rv b_20] [(.long r5)])) tt_ → Steps p.tables e below (T_62.setTop (mkF m 156 #[Lv q1, Zs, Lv q2, Zs, Lv q3, Zs, Lv q4, Zs, Lv q5, Zs, Iv p6, Rv b__2, Rv b__5, Rv b__9, Rv b__14, Rv b_20, Rv b_28, Iv (0 : Int32), Rv b_20] [(.int (1 : Int32))])) tt_ := by
      intro tt_ kt_
      refine XS.ifNo X_62.here hEX rfl (hb hBY at_156) rfl ((if0 _ _).trans (feq (by decide : ¬ ((1 : Int32) = (0 : Int32)))).1) ?_
      show Steps p.tables e below (T_62.setTop (mkF m 159 #[Lv q1, Zs, Lv q2, Zs, Lv q3, Zs, Lv q4, Zs, Lv q5, Zs, Iv p6, Rv b__2, Rv b__5, Rv b__9, Rv b__14, Rv b_20, Rv b_28, Iv (0 : Int32), Rv b_20] [])) tt_
      refine XS.aload X_62.here hEX rfl (hb hBY at_159) rfl rfl ?_
      show Steps p.tables e below (T_62.setTop (mkF m 161 #[Lv q1, Zs, Lv q2, Zs, Lv q3, Zs, Lv q4, Zs, Lv q5, Zs, Iv p6, Rv b__2, Rv b__5, Rv b__9, Rv b__14, Rv b_20, Rv b_28, Iv (0 : Int32), Rv b_20] [(.ref b_20)])) tt_
      refine XS.iconst X_62.here hEX rfl (hb hBY at_161) ?_
      show Steps p.tables e below (T_62.setTop (mkF m 162 #[Lv q1, Zs, Lv q2, Zs, Lv q3, Zs, Lv q4, Zs, Lv q5, Zs, Iv p6, Rv b__2, Rv b__5, Rv b__9, Rv b__14, Rv b_20, Rv b_28, Iv (0 : Int32), Rv b_20] [(.int (5 : Int32)), (.ref b_20)])) tt_
      refine X_62.laload hEX (j := (5 : Int32)) (v := (.long r5)) (by rw [e_62]; exact Ar_63.1) (State.isArrayOf_alike hZW.alike Ar_63.2.1) Ar_63.2.2 hin_63 hat_63 (g := (mkF m 162 #[Lv q1, Zs, Lv q2, Zs, Lv q3, Zs, Lv q4, Zs, Lv q5, Zs, Iv p6, Rv b__2, Rv b__5, Rv b__9, Rv b__14, Rv b_20, Rv b_28, Iv (0 : Int32), Rv b_20] [(.int (5 : Int32)), (.ref b_20)])) rfl rfl (hb hBY at_162) _ ?_
      exact kt_
    refine Done.pre sg_64 ?_
    obtain ⟨_, _, ⟨T_65, L_65, k_65, n_65⟩, -, X_65, ⟨Lc_65, hQ_65, l_65, y_65, z_65⟩, st_65⟩ := Jvm.LawKit.callS X_62 hEX (y := (⟨"com/example/guard3/guard3/P384FieldAddPinLaw", "inRange", "(J)Z"⟩ : MethodName)) hOW (mvT hZW (hw _ (List.mem_of_getElem? (i := 25) rfl))) (mvT hZW (hw _ (List.mem_of_getElem? (i := 26) rfl))) (mvT hZW (hw _ (List.mem_of_getElem? (i := 2) rfl))) (mvT hZW (hw _ (List.mem_of_getElem? (i := 27) rfl))) (by decide) (backOf (W := 0) (rm_inr l Z aZ hw [] r5 T_39.heap n0 (Nat.le_trans Z0 K__40.1) (own_inlo _ hRr.2.2.2.2.2.1) (own_inhi _ hRr.2.2.2.2.2.1)) hZW (hw _ (List.mem_of_getElem? (i := 27) rfl)) (hw _ (List.mem_of_getElem? (i := 2) rfl)) (by decide) (by decide)) (g := (mkF m 163 #[Lv q1, Zs, Lv q2, Zs, Lv q3, Zs, Lv q4, Zs, Lv q5, Zs, Iv p6, Rv b__2, Rv b__5, Rv b__9, Rv b__14, Rv b_20, Rv b_28, Iv (0 : Int32), Rv b_20] [(.long r5)])) rfl (by rw [hMX]; rfl) (argsL := [(.long r5)]) (rest := []) (lenOf pd__J_Z_1 rfl) rfl (by show 2 * 0 + _ ≤ _; exact Nat.le_of_eq rfl) (hb hBY at_163) (fun _ _ => ⟨rfl, e_62, (by decide : 6 + 0 ≤ _), (by decide : 48 + 0 ≤ _)⟩)
    dsimp only [Pt.U, Pt.locs, Pt.cells, Pt.slots] at X_65 l_65 y_65 z_65 st_65 hQ_65
    subst l_65 y_65 z_65
    obtain ⟨rfl, N_65q, e_65⟩ := hQ_65
    have N_65 := Fr.app N_62 N_65q
    refine Done.pre (fun _ k_ => st_65 _ k_) ?_
    show Done _ _ _ _ _ _ _ (T_65.setTop (mkF m 166 #[Lv q1, Zs, Lv q2, Zs, Lv q3, Zs, Lv q4, Zs, Lv q5, Zs, Iv p6, Rv b__2, Rv b__5, Rv b__9, Rv b__14, Rv b_20, Rv b_28, Iv (0 : Int32), Rv b_20] [(.int (1 : Int32))]))
    obtain ⟨cl_66, Ar_66, q_66, S_66, N__66, H_66, G_66⟩ := id hq_39_0
    have hin_66 : ¬ ((6 : Int32) < 0 ∨ cl_66.slots.size ≤ ((6 : Int32)).toNatClampNeg) := inb_of S_66 ⟨by decide, by decide⟩
    have hat_66 : cl_66.slots[((6 : Int32)).toNatClampNeg]? = some (.long r6) := H_66.at hin_66 rfl
    have sg_67 : ∀ tt_, Steps p.tables e below (T_65.setTop (mkF m 174 #[Lv q1, Zs, Lv q2, Zs, Lv q3, Zs, Lv q4, Zs, Lv q5, Zs, Iv p6, Rv b__2, Rv b__5, Rv b__9, Rv b__14, Rv b_20, Rv b_28, Iv (0 : Int32), Rv b_20] [(.long r6)])) tt_ → Steps p.tables e below (T_65.setTop (mkF m 166 #[Lv q1, Zs, Lv q2, Zs, Lv q3, Zs, Lv q4, Zs, Lv q5, Zs, Iv p6, Rv b__2, Rv b__5, Rv b__9, Rv b__14, Rv b_20, Rv b_28, Iv (0 : Int32), Rv b_20] [(.int (1 : Int32))])) tt_ := by
      intro tt_ kt_
      refine XS.ifNo X_65.here hEX rfl (hb hBY at_166) rfl ((if0 _ _).trans (feq (by decide : ¬ ((1 : Int32) = (0 : Int32)))).1) ?_
      show Steps p.tables e below (T_65.setTop (mkF m 169 #[Lv q1, Zs, Lv q2, Zs, Lv q3, Zs, Lv q4, Zs, Lv q5, Zs, Iv p6, Rv b__2, Rv b__5, Rv b__9, Rv b__14, Rv b_20, Rv b_28, Iv (0 : Int32), Rv b_20] [])) tt_
      refine XS.aload X_65.here hEX rfl (hb hBY at_169) rfl rfl ?_
      show Steps p.tables e below (T_65.setTop (mkF m 171 #[Lv q1, Zs, Lv q2, Zs, Lv q3, Zs, Lv q4, Zs, Lv q5, Zs, Iv p6, Rv b__2, Rv b__5, Rv b__9, Rv b__14, Rv b_20, Rv b_28, Iv (0 : Int32), Rv b_20] [(.ref b_20)])) tt_
      refine XS.bipush X_65.here hEX rfl (hb hBY at_171) ?_
      show Steps p.tables e below (T_65.setTop (mkF m 173 #[Lv q1, Zs, Lv q2, Zs, Lv q3, Zs, Lv q4, Zs, Lv q5, Zs, Iv p6, Rv b__2, Rv b__5, Rv b__9, Rv b__14, Rv b_20, Rv b_28, Iv (0 : Int32), Rv b_20] [(.int (6 : Int32)), (.ref b_20)])) tt_
      refine X_65.laload hEX (j := (6 : Int32)) (v := (.long r6)) (by rw [e_65]; exact Ar_66.1) (State.isArrayOf_alike hZW.alike Ar_66.2.1) Ar_66.2.2 hin_66 hat_66 (g := (mkF m 173 #[Lv q1, Zs, Lv q2, Zs, Lv q3, Zs, Lv q4, Zs, Lv q5, Zs, Iv p6, Rv b__2, Rv b__5, Rv b__9, Rv b__14, Rv b_20, Rv b_28, Iv (0 : Int32), Rv b_20] [(.int (6 : Int32)), (.ref b_20)])) rfl rfl (hb hBY at_173) _ ?_
      exact kt_
    refine Done.pre sg_67 ?_
    obtain ⟨_, _, ⟨T_68, L_68, k_68, n_68⟩, -, X_68, ⟨Lc_68, hQ_68, l_68, y_68, z_68⟩, st_68⟩ := Jvm.LawKit.callS X_65 hEX (y := (⟨"com/example/guard3/guard3/P384FieldAddPinLaw", "inRange", "(J)Z"⟩ : MethodName)) hOW (mvT hZW (hw _ (List.mem_of_getElem? (i := 25) rfl))) (mvT hZW (hw _ (List.mem_of_getElem? (i := 26) rfl))) (mvT hZW (hw _ (List.mem_of_getElem? (i := 2) rfl))) (mvT hZW (hw _ (List.mem_of_getElem? (i := 27) rfl))) (by decide) (backOf (W := 0) (rm_inr l Z aZ hw [] r6 T_39.heap n0 (Nat.le_trans Z0 K__40.1) (own_inlo _ hRr.2.2.2.2.2.2.1) (own_inhi _ hRr.2.2.2.2.2.2.1)) hZW (hw _ (List.mem_of_getElem? (i := 27) rfl)) (hw _ (List.mem_of_getElem? (i := 2) rfl)) (by decide) (by decide)) (g := (mkF m 174 #[Lv q1, Zs, Lv q2, Zs, Lv q3, Zs, Lv q4, Zs, Lv q5, Zs, Iv p6, Rv b__2, Rv b__5, Rv b__9, Rv b__14, Rv b_20, Rv b_28, Iv (0 : Int32), Rv b_20] [(.long r6)])) rfl (by rw [hMX]; rfl) (argsL := [(.long r6)]) (rest := []) (lenOf pd__J_Z_1 rfl) rfl (by show 2 * 0 + _ ≤ _; exact Nat.le_of_eq rfl) (hb hBY at_174) (fun _ _ => ⟨rfl, e_65, (by decide : 6 + 0 ≤ _), (by decide : 48 + 0 ≤ _)⟩)
    dsimp only [Pt.U, Pt.locs, Pt.cells, Pt.slots] at X_68 l_68 y_68 z_68 st_68 hQ_68
    subst l_68 y_68 z_68
    obtain ⟨rfl, N_68q, e_68⟩ := hQ_68
    have N_68 := Fr.app N_65 N_68q
    refine Done.pre (fun _ k_ => st_68 _ k_) ?_
    show Done _ _ _ _ _ _ _ (T_68.setTop (mkF m 177 #[Lv q1, Zs, Lv q2, Zs, Lv q3, Zs, Lv q4, Zs, Lv q5, Zs, Iv p6, Rv b__2, Rv b__5, Rv b__9, Rv b__14, Rv b_20, Rv b_28, Iv (0 : Int32), Rv b_20] [(.int (1 : Int32))]))
    obtain ⟨cl_69, Ar_69, q_69, S_69, N__69, H_69, G_69⟩ := id hq_39_0
    have hin_69 : ¬ ((7 : Int32) < 0 ∨ cl_69.slots.size ≤ ((7 : Int32)).toNatClampNeg) := inb_of S_69 ⟨by decide, by decide⟩
    have hat_69 : cl_69.slots[((7 : Int32)).toNatClampNeg]? = some (.long r7) := H_69.at hin_69 rfl
    have sg_70 : ∀ tt_, Steps p.tables e below (T_68.setTop (mkF m 185 #[Lv q1, Zs, Lv q2, Zs, Lv q3, Zs, Lv q4, Zs, Lv q5, Zs, Iv p6, Rv b__2, Rv b__5, Rv b__9, Rv b__14, Rv b_20, Rv b_28, Iv (0 : Int32), Rv b_20] [(.long r7)])) tt_ → Steps p.tables e below (T_68.setTop (mkF m 177 #[Lv q1, Zs, Lv q2, Zs, Lv q3, Zs, Lv q4, Zs, Lv q5, Zs, Iv p6, Rv b__2, Rv b__5, Rv b__9, Rv b__14, Rv b_20, Rv b_28, Iv (0 : Int32), Rv b_20] [(.int (1 : Int32))])) tt_ := by
      intro tt_ kt_
      refine XS.ifNo X_68.here hEX rfl (hb hBY at_177) rfl ((if0 _ _).trans (feq (by decide : ¬ ((1 : Int32) = (0 : Int32)))).1) ?_
      show Steps p.tables e below (T_68.setTop (mkF m 180 #[Lv q1, Zs, Lv q2, Zs, Lv q3, Zs, Lv q4, Zs, Lv q5, Zs, Iv p6, Rv b__2, Rv b__5, Rv b__9, Rv b__14, Rv b_20, Rv b_28, Iv (0 : Int32), Rv b_20] [])) tt_
      refine XS.aload X_68.here hEX rfl (hb hBY at_180) rfl rfl ?_
      show Steps p.tables e below (T_68.setTop (mkF m 182 #[Lv q1, Zs, Lv q2, Zs, Lv q3, Zs, Lv q4, Zs, Lv q5, Zs, Iv p6, Rv b__2, Rv b__5, Rv b__9, Rv b__14, Rv b_20, Rv b_28, Iv (0 : Int32), Rv b_20] [(.ref b_20)])) tt_
      refine XS.bipush X_68.here hEX rfl (hb hBY at_182) ?_
      show Steps p.tables e below (T_68.setTop (mkF m 184 #[Lv q1, Zs, Lv q2, Zs, Lv q3, Zs, Lv q4, Zs, Lv q5, Zs, Iv p6, Rv b__2, Rv b__5, Rv b__9, Rv b__14, Rv b_20, Rv b_28, Iv (0 : Int32), Rv b_20] [(.int (7 : Int32)), (.ref b_20)])) tt_
      refine X_68.laload hEX (j := (7 : Int32)) (v := (.long r7)) (by rw [e_68]; exact Ar_69.1) (State.isArrayOf_alike hZW.alike Ar_69.2.1) Ar_69.2.2 hin_69 hat_69 (g := (mkF m 184 #[Lv q1, Zs, Lv q2, Zs, Lv q3, Zs, Lv q4, Zs, Lv q5, Zs, Iv p6, Rv b__2, Rv b__5, Rv b__9, Rv b__14, Rv b_20, Rv b_28, Iv (0 : Int32), Rv b_20] [(.int (7 : Int32)), (.ref b_20)])) rfl rfl (hb hBY at_184) _ ?_
      exact kt_
    refine Done.pre sg_70 ?_
    obtain ⟨_, _, ⟨T_71, L_71, k_71, n_71⟩, -, X_71, ⟨Lc_71, hQ_71, l_71, y_71, z_71⟩, st_71⟩ := Jvm.LawKit.callS X_68 hEX (y := (⟨"com/example/guard3/guard3/P384FieldAddPinLaw", "inRange", "(J)Z"⟩ : MethodName)) hOW (mvT hZW (hw _ (List.mem_of_getElem? (i := 25) rfl))) (mvT hZW (hw _ (List.mem_of_getElem? (i := 26) rfl))) (mvT hZW (hw _ (List.mem_of_getElem? (i := 2) rfl))) (mvT hZW (hw _ (List.mem_of_getElem? (i := 27) rfl))) (by decide) (backOf (W := 0) (rm_inr l Z aZ hw [] r7 T_39.heap n0 (Nat.le_trans Z0 K__40.1) (own_inlo _ hRr.2.2.2.2.2.2.2) (own_inhi _ hRr.2.2.2.2.2.2.2)) hZW (hw _ (List.mem_of_getElem? (i := 27) rfl)) (hw _ (List.mem_of_getElem? (i := 2) rfl)) (by decide) (by decide)) (g := (mkF m 185 #[Lv q1, Zs, Lv q2, Zs, Lv q3, Zs, Lv q4, Zs, Lv q5, Zs, Iv p6, Rv b__2, Rv b__5, Rv b__9, Rv b__14, Rv b_20, Rv b_28, Iv (0 : Int32), Rv b_20] [(.long r7)])) rfl (by rw [hMX]; rfl) (argsL := [(.long r7)]) (rest := []) (lenOf pd__J_Z_1 rfl) rfl (by show 2 * 0 + _ ≤ _; exact Nat.le_of_eq rfl) (hb hBY at_185) (fun _ _ => ⟨rfl, e_68, (by decide : 6 + 0 ≤ _), (by decide : 48 + 0 ≤ _)⟩)
    dsimp only [Pt.U, Pt.locs, Pt.cells, Pt.slots] at X_71 l_71 y_71 z_71 st_71 hQ_71
    subst l_71 y_71 z_71
    obtain ⟨rfl, N_71q, e_71⟩ := hQ_71
    have N_71 := Fr.app N_68 N_71q
    refine Done.pre (fun _ k_ => st_71 _ k_) ?_
    show Done _ _ _ _ _ _ _ (T_71.setTop (mkF m 188 #[Lv q1, Zs, Lv q2, Zs, Lv q3, Zs, Lv q4, Zs, Lv q5, Zs, Iv p6, Rv b__2, Rv b__5, Rv b__9, Rv b__14, Rv b_20, Rv b_28, Iv (0 : Int32), Rv b_20] [(.int (1 : Int32))]))
    have sg_72 : ∀ tt_, Steps p.tables e below (T_71.setTop (mkF m 203 #[Lv q1, Zs, Lv q2, Zs, Lv q3, Zs, Lv q4, Zs, Lv q5, Zs, Iv p6, Rv b__2, Rv b__5, Rv b__9, Rv b__14, Rv b_20, Rv b_28, Iv (0 : Int32), Rv b_20] [(.ref b__9), (.ref b__2)])) tt_ → Steps p.tables e below (T_71.setTop (mkF m 188 #[Lv q1, Zs, Lv q2, Zs, Lv q3, Zs, Lv q4, Zs, Lv q5, Zs, Iv p6, Rv b__2, Rv b__5, Rv b__9, Rv b__14, Rv b_20, Rv b_28, Iv (0 : Int32), Rv b_20] [(.int (1 : Int32))])) tt_ := by
      intro tt_ kt_
      refine XS.ifYes X_71.here hEX rfl (pc0 := 188) (pc' := 193) rfl (hb hBY at_188) rfl ((if0 _ _).trans (feq (by decide : ¬ ((1 : Int32) = (0 : Int32)))).2) (by decide) (by decide) ?_
      show Steps p.tables e below (T_71.setTop (mkF m 193 #[Lv q1, Zs, Lv q2, Zs, Lv q3, Zs, Lv q4, Zs, Lv q5, Zs, Iv p6, Rv b__2, Rv b__5, Rv b__9, Rv b__14, Rv b_20, Rv b_28, Iv (0 : Int32), Rv b_20] [])) tt_
      refine XS.iload X_71.here hEX rfl (hb hBY at_193) rfl ?_
      show Steps p.tables e below (T_71.setTop (mkF m 195 #[Lv q1, Zs, Lv q2, Zs, Lv q3, Zs, Lv q4, Zs, Lv q5, Zs, Iv p6, Rv b__2, Rv b__5, Rv b__9, Rv b__14, Rv b_20, Rv b_28, Iv (0 : Int32), Rv b_20] [(.int (0 : Int32))])) tt_
      refine XS.iconst X_71.here hEX rfl (hb hBY at_195) ?_
      show Steps p.tables e below (T_71.setTop (mkF m 196 #[Lv q1, Zs, Lv q2, Zs, Lv q3, Zs, Lv q4, Zs, Lv q5, Zs, Iv p6, Rv b__2, Rv b__5, Rv b__9, Rv b__14, Rv b_20, Rv b_28, Iv (0 : Int32), Rv b_20] [(.int (1 : Int32)), (.int (0 : Int32))])) tt_
      refine XS.icmpNo X_71.here hEX rfl (hb hBY at_196) rfl (feq (by decide : ¬ ((0 : Int32) = (1 : Int32)))).1 ?_
      show Steps p.tables e below (T_71.setTop (mkF m 199 #[Lv q1, Zs, Lv q2, Zs, Lv q3, Zs, Lv q4, Zs, Lv q5, Zs, Iv p6, Rv b__2, Rv b__5, Rv b__9, Rv b__14, Rv b_20, Rv b_28, Iv (0 : Int32), Rv b_20] [])) tt_
      refine XS.aload X_71.here hEX rfl (hb hBY at_199) rfl rfl ?_
      show Steps p.tables e below (T_71.setTop (mkF m 201 #[Lv q1, Zs, Lv q2, Zs, Lv q3, Zs, Lv q4, Zs, Lv q5, Zs, Iv p6, Rv b__2, Rv b__5, Rv b__9, Rv b__14, Rv b_20, Rv b_28, Iv (0 : Int32), Rv b_20] [(.ref b__2)])) tt_
      refine XS.aload X_71.here hEX rfl (hb hBY at_201) rfl rfl ?_
      exact kt_
    refine Done.pre sg_72 ?_
    obtain ⟨_, _, ⟨T_73, L_73, k_73, n_73⟩, -, X_73, ⟨Lc_73, hQ_73, l_73, y_73, z_73⟩, st_73⟩ := Jvm.LawKit.callS X_71 hEX (y := (⟨"com/example/guard3/guard3/P384FieldAddPinLaw", "same", "([J[J)Z"⟩ : MethodName)) hOW (mvT hZW (hw _ (List.mem_of_getElem? (i := 29) rfl))) (mvT hZW (hw _ (List.mem_of_getElem? (i := 30) rfl))) (mvT hZW (hw _ (List.mem_of_getElem? (i := 2) rfl))) (mvT hZW (hw _ (List.mem_of_getElem? (i := 31) rfl))) (by decide) (backOf (W := 0) (rm_same l Z aZ hw [] b__2 b__9 kb__2 kb__9 (own_limb q1 (0 : Int32)) (own_limb q2 (11 : Int32)) (own_limb q3 (22 : Int32)) (own_limb q4 (33 : Int32)) (own_limb q5 (44 : Int32)) (own_limb q1 (55 : Int32)) (own_limb q2 (2 : Int32)) (own_limb q3 (13 : Int32)) T_39.heap n0 (Nat.le_trans Z0 K__40.1) f_41 f_43) hZW (hw _ (List.mem_of_getElem? (i := 31) rfl)) (hw _ (List.mem_of_getElem? (i := 2) rfl)) (by decide) (by decide)) (g := (mkF m 203 #[Lv q1, Zs, Lv q2, Zs, Lv q3, Zs, Lv q4, Zs, Lv q5, Zs, Iv p6, Rv b__2, Rv b__5, Rv b__9, Rv b__14, Rv b_20, Rv b_28, Iv (0 : Int32), Rv b_20] [(.ref b__9), (.ref b__2)])) rfl (by rw [hMX]; rfl) (argsL := [(.ref b__2), (.ref b__9)]) (rest := []) (lenOf pd___J_J_Z_9 rfl) rfl (by show 2 * 0 + _ ≤ _; exact Nat.le_of_eq rfl) (hb hBY at_203) (fun _ _ => ⟨rfl, e_71, (by decide : 6 + 0 ≤ _), (by decide : 48 + 0 ≤ _)⟩)
    dsimp only [Pt.U, Pt.locs, Pt.cells, Pt.slots] at X_73 l_73 y_73 z_73 st_73 hQ_73
    subst l_73 y_73 z_73
    obtain ⟨rfl, N_73q, e_73⟩ := hQ_73
    have N_73 := Fr.app N_71 N_73q
    refine Done.pre (fun _ k_ => st_73 _ k_) ?_
    show Done _ _ _ _ _ _ _ (T_73.setTop (mkF m 206 #[Lv q1, Zs, Lv q2, Zs, Lv q3, Zs, Lv q4, Zs, Lv q5, Zs, Iv p6, Rv b__2, Rv b__5, Rv b__9, Rv b__14, Rv b_20, Rv b_28, Iv (0 : Int32), Rv b_20] [(.int (1 : Int32))]))
    have sg_74 : ∀ tt_, Steps p.tables e below (T_73.setTop (mkF m 221 #[Lv q1, Zs, Lv q2, Zs, Lv q3, Zs, Lv q4, Zs, Lv q5, Zs, Iv p6, Rv b__2, Rv b__5, Rv b__9, Rv b__14, Rv b_20, Rv b_28, Iv (0 : Int32), Rv b_20] [(.ref b__14), (.ref b__5)])) tt_ → Steps p.tables e below (T_73.setTop (mkF m 206 #[Lv q1, Zs, Lv q2, Zs, Lv q3, Zs, Lv q4, Zs, Lv q5, Zs, Iv p6, Rv b__2, Rv b__5, Rv b__9, Rv b__14, Rv b_20, Rv b_28, Iv (0 : Int32), Rv b_20] [(.int (1 : Int32))])) tt_ := by
      intro tt_ kt_
      refine XS.ifYes X_73.here hEX rfl (pc0 := 206) (pc' := 211) rfl (hb hBY at_206) rfl ((if0 _ _).trans (feq (by decide : ¬ ((1 : Int32) = (0 : Int32)))).2) (by decide) (by decide) ?_
      show Steps p.tables e below (T_73.setTop (mkF m 211 #[Lv q1, Zs, Lv q2, Zs, Lv q3, Zs, Lv q4, Zs, Lv q5, Zs, Iv p6, Rv b__2, Rv b__5, Rv b__9, Rv b__14, Rv b_20, Rv b_28, Iv (0 : Int32), Rv b_20] [])) tt_
      refine XS.iload X_73.here hEX rfl (hb hBY at_211) rfl ?_
      show Steps p.tables e below (T_73.setTop (mkF m 213 #[Lv q1, Zs, Lv q2, Zs, Lv q3, Zs, Lv q4, Zs, Lv q5, Zs, Iv p6, Rv b__2, Rv b__5, Rv b__9, Rv b__14, Rv b_20, Rv b_28, Iv (0 : Int32), Rv b_20] [(.int (0 : Int32))])) tt_
      refine XS.iconst X_73.here hEX rfl (hb hBY at_213) ?_
      show Steps p.tables e below (T_73.setTop (mkF m 214 #[Lv q1, Zs, Lv q2, Zs, Lv q3, Zs, Lv q4, Zs, Lv q5, Zs, Iv p6, Rv b__2, Rv b__5, Rv b__9, Rv b__14, Rv b_20, Rv b_28, Iv (0 : Int32), Rv b_20] [(.int (2 : Int32)), (.int (0 : Int32))])) tt_
      refine XS.icmpNo X_73.here hEX rfl (hb hBY at_214) rfl (feq (by decide : ¬ ((0 : Int32) = (2 : Int32)))).1 ?_
      show Steps p.tables e below (T_73.setTop (mkF m 217 #[Lv q1, Zs, Lv q2, Zs, Lv q3, Zs, Lv q4, Zs, Lv q5, Zs, Iv p6, Rv b__2, Rv b__5, Rv b__9, Rv b__14, Rv b_20, Rv b_28, Iv (0 : Int32), Rv b_20] [])) tt_
      refine XS.aload X_73.here hEX rfl (hb hBY at_217) rfl rfl ?_
      show Steps p.tables e below (T_73.setTop (mkF m 219 #[Lv q1, Zs, Lv q2, Zs, Lv q3, Zs, Lv q4, Zs, Lv q5, Zs, Iv p6, Rv b__2, Rv b__5, Rv b__9, Rv b__14, Rv b_20, Rv b_28, Iv (0 : Int32), Rv b_20] [(.ref b__5)])) tt_
      refine XS.aload X_73.here hEX rfl (hb hBY at_219) rfl rfl ?_
      exact kt_
    refine Done.pre sg_74 ?_
    obtain ⟨_, _, ⟨T_75, L_75, k_75, n_75⟩, -, X_75, ⟨Lc_75, hQ_75, l_75, y_75, z_75⟩, st_75⟩ := Jvm.LawKit.callS X_73 hEX (y := (⟨"com/example/guard3/guard3/P384FieldAddPinLaw", "same", "([J[J)Z"⟩ : MethodName)) hOW (mvT hZW (hw _ (List.mem_of_getElem? (i := 29) rfl))) (mvT hZW (hw _ (List.mem_of_getElem? (i := 30) rfl))) (mvT hZW (hw _ (List.mem_of_getElem? (i := 2) rfl))) (mvT hZW (hw _ (List.mem_of_getElem? (i := 31) rfl))) (by decide) (backOf (W := 0) (rm_same l Z aZ hw [] b__5 b__14 kb__5 kb__14 (own_limb q3 (5 : Int32)) (own_limb q4 (22 : Int32)) (own_limb q5 (39 : Int32)) (own_limb q1 (56 : Int32)) (own_limb q2 (9 : Int32)) (own_limb q3 (26 : Int32)) (own_limb q4 (43 : Int32)) (own_limb q5 (60 : Int32)) T_39.heap n0 (Nat.le_trans Z0 K__40.1) f_42 f_44) hZW (hw _ (List.mem_of_getElem? (i := 31) rfl)) (hw _ (List.mem_of_getElem? (i := 2) rfl)) (by decide) (by decide)) (g := (mkF m 221 #[Lv q1, Zs, Lv q2, Zs, Lv q3, Zs, Lv q4, Zs, Lv q5, Zs, Iv p6, Rv b__2, Rv b__5, Rv b__9, Rv b__14, Rv b_20, Rv b_28, Iv (0 : Int32), Rv b_20] [(.ref b__14), (.ref b__5)])) rfl (by rw [hMX]; rfl) (argsL := [(.ref b__5), (.ref b__14)]) (rest := []) (lenOf pd___J_J_Z_9 rfl) rfl (by show 2 * 0 + _ ≤ _; exact Nat.le_of_eq rfl) (hb hBY at_221) (fun _ _ => ⟨rfl, e_73, (by decide : 6 + 0 ≤ _), (by decide : 48 + 0 ≤ _)⟩)
    dsimp only [Pt.U, Pt.locs, Pt.cells, Pt.slots] at X_75 l_75 y_75 z_75 st_75 hQ_75
    subst l_75 y_75 z_75
    obtain ⟨rfl, N_75q, e_75⟩ := hQ_75
    have N_75 := Fr.app N_73 N_75q
    refine Done.pre (fun _ k_ => st_75 _ k_) ?_
    show Done _ _ _ _ _ _ _ (T_75.setTop (mkF m 224 #[Lv q1, Zs, Lv q2, Zs, Lv q3, Zs, Lv q4, Zs, Lv q5, Zs, Iv p6, Rv b__2, Rv b__5, Rv b__9, Rv b__14, Rv b_20, Rv b_28, Iv (0 : Int32), Rv b_20] [(.int (1 : Int32))]))
    have sg_76 : ∀ tt_, Steps p.tables e below (T_75.setTop (mkF m 235 #[Lv q1, Zs, Lv q2, Zs, Lv q3, Zs, Lv q4, Zs, Lv q5, Zs, Iv p6, Rv b__2, Rv b__5, Rv b__9, Rv b__14, Rv b_20, Rv b_28, Iv (0 : Int32), Rv b_20] [(.ref b_28), (.ref b__9), (.ref b_20)])) tt_ → Steps p.tables e below (T_75.setTop (mkF m 224 #[Lv q1, Zs, Lv q2, Zs, Lv q3, Zs, Lv q4, Zs, Lv q5, Zs, Iv p6, Rv b__2, Rv b__5, Rv b__9, Rv b__14, Rv b_20, Rv b_28, Iv (0 : Int32), Rv b_20] [(.int (1 : Int32))])) tt_ := by
      intro tt_ kt_
      refine XS.ifYes X_75.here hEX rfl (pc0 := 224) (pc' := 229) rfl (hb hBY at_224) rfl ((if0 _ _).trans (feq (by decide : ¬ ((1 : Int32) = (0 : Int32)))).2) (by decide) (by decide) ?_
      show Steps p.tables e below (T_75.setTop (mkF m 229 #[Lv q1, Zs, Lv q2, Zs, Lv q3, Zs, Lv q4, Zs, Lv q5, Zs, Iv p6, Rv b__2, Rv b__5, Rv b__9, Rv b__14, Rv b_20, Rv b_28, Iv (0 : Int32), Rv b_20] [])) tt_
      refine XS.aload X_75.here hEX rfl (hb hBY at_229) rfl rfl ?_
      show Steps p.tables e below (T_75.setTop (mkF m 231 #[Lv q1, Zs, Lv q2, Zs, Lv q3, Zs, Lv q4, Zs, Lv q5, Zs, Iv p6, Rv b__2, Rv b__5, Rv b__9, Rv b__14, Rv b_20, Rv b_28, Iv (0 : Int32), Rv b_20] [(.ref b_20)])) tt_
      refine XS.aload X_75.here hEX rfl (hb hBY at_231) rfl rfl ?_
      show Steps p.tables e below (T_75.setTop (mkF m 233 #[Lv q1, Zs, Lv q2, Zs, Lv q3, Zs, Lv q4, Zs, Lv q5, Zs, Iv p6, Rv b__2, Rv b__5, Rv b__9, Rv b__14, Rv b_20, Rv b_28, Iv (0 : Int32), Rv b_20] [(.ref b__9), (.ref b_20)])) tt_
      refine XS.aload X_75.here hEX rfl (hb hBY at_233) rfl rfl ?_
      exact kt_
    refine Done.pre sg_76 ?_
    obtain ⟨_, _, ⟨T_77, L_77, k_77, n_77⟩, -, X_77, ⟨Lc_77, hQ_77, l_77, y_77, z_77⟩, st_77⟩ := Jvm.LawKit.callS X_75 hEX (y := (⟨"com/example/guard3/guard3/P384Field", "subtract", "([J[J[J)V"⟩ : MethodName)) hOW (mvT hZW (hw _ (List.mem_of_getElem? (i := 32) rfl))) (mvT hZW (hw _ (List.mem_of_getElem? (i := 33) rfl))) (mvT hZW (hw _ (List.mem_of_getElem? (i := 18) rfl))) (mvT hZW (hw _ (List.mem_of_getElem? (i := 34) rfl))) (by decide) (backOf (W := 0) (rm_subtract_abo l Z aZ hw [] b_20 b__9 b_28 k_20 r0 r1 r2 r3 r4 r5 r6 r7 kb__9 (own_limb q1 (0 : Int32)) (own_limb q2 (11 : Int32)) (own_limb q3 (22 : Int32)) (own_limb q4 (33 : Int32)) (own_limb q5 (44 : Int32)) (own_limb q1 (55 : Int32)) (own_limb q2 (2 : Int32)) (own_limb q3 (13 : Int32)) k_28 (0 : Int64) (0 : Int64) (0 : Int64) (0 : Int64) (0 : Int64) (0 : Int64) (0 : Int64) (0 : Int64) T_39.heap n0 (Nat.le_trans Z0 K__40.1) hq_39_0 f_43 f_47 ge_b_28 (Ne.symm ne_b__9_b_20) ne_b_20_b_28 ne_b__9_b_28 (own_Rup _ _ _ _ _ _ _ _ _ _ (by decide) hRr) ⟨own_limbR _ _, own_limbR _ _, own_limbR _ _, own_limbR _ _, own_limbR _ _, own_limbR _ _, own_limbR _ _, own_limbR _ _⟩) hZW (hw _ (List.mem_of_getElem? (i := 34) rfl)) (hw _ (List.mem_of_getElem? (i := 18) rfl)) (by decide) (by decide)) (g := (mkF m 235 #[Lv q1, Zs, Lv q2, Zs, Lv q3, Zs, Lv q4, Zs, Lv q5, Zs, Iv p6, Rv b__2, Rv b__5, Rv b__9, Rv b__14, Rv b_20, Rv b_28, Iv (0 : Int32), Rv b_20] [(.ref b_28), (.ref b__9), (.ref b_20)])) rfl (by rw [hMX]; rfl) (argsL := [(.ref b_20), (.ref b__9), (.ref b_28)]) (rest := []) (lenOf pd___J_J_J_V_10 rfl) rfl (by show 2 * 0 + _ ≤ _; exact Nat.le_of_eq rfl) (hb hBY at_235) (fun _ _ => ⟨rfl, e_75, (by decide : 6 + 0 ≤ _), (by decide : 48 + 0 ≤ _)⟩)
    dsimp only [Pt.U, Pt.locs, Pt.cells, Pt.slots] at X_77 l_77 y_77 z_77 st_77 hQ_77
    subst l_77 y_77 z_77
    obtain ⟨s0, s1, s2, s3, s4, s5, s6, s7, rfl, N_77q, K_77, hq_77_0, hq_77_1, hq_77_2⟩ := hQ_77
    have N_77 := Fr.app N_75 N_77q
    have K__78 : Keep h0 T_77.heap [] := K__40.trans K_77 (allS (Or.inr sz_b_28) all0)
    have f_79 : Arv Z T_77.heap b__2 kb__2 .long (8 : Int32) [(.long (own_limb q1 (0 : Int32))), (.long (own_limb q2 (11 : Int32))), (.long (own_limb q3 (22 : Int32))), (.long (own_limb q4 (33 : Int32))), (.long (own_limb q5 (44 : Int32))), (.long (own_limb q1 (55 : Int32))), (.long (own_limb q2 (2 : Int32))), (.long (own_limb q3 (13 : Int32)))] (.long (0 : Int64)) := f_41.keep K_77 (ninS ne_b__2_b_28 nin0)
    have f_80 : Arv Z T_77.heap b__5 kb__5 .long (8 : Int32) [(.long (own_limb q3 (5 : Int32))), (.long (own_limb q4 (22 : Int32))), (.long (own_limb q5 (39 : Int32))), (.long (own_limb q1 (56 : Int32))), (.long (own_limb q2 (9 : Int32))), (.long (own_limb q3 (26 : Int32))), (.long (own_limb q4 (43 : Int32))), (.long (own_limb q5 (60 : Int32)))] (.long (0 : Int64)) := f_42.keep K_77 (ninS ne_b__5_b_28 nin0)
    have f_81 : Arv Z T_77.heap b__9 kb__9 .long (8 : Int32) [(.long (own_limb q1 (0 : Int32))), (.long (own_limb q2 (11 : Int32))), (.long (own_limb q3 (22 : Int32))), (.long (own_limb q4 (33 : Int32))), (.long (own_limb q5 (44 : Int32))), (.long (own_limb q1 (55 : Int32))), (.long (own_limb q2 (2 : Int32))), (.long (own_limb q3 (13 : Int32)))] (.long (0 : Int64)) := f_43.keep K_77 (ninS ne_b__9_b_28 nin0)
    have f_82 : Arv Z T_77.heap b__14 kb__14 .long (8 : Int32) [(.long (own_limb q3 (5 : Int32))), (.long (own_limb q4 (22 : Int32))), (.long (own_limb q5 (39 : Int32))), (.long (own_limb q1 (56 : Int32))), (.long (own_limb q2 (9 : Int32))), (.long (own_limb q3 (26 : Int32))), (.long (own_limb q4 (43 : Int32))), (.long (own_limb q5 (60 : Int32)))] (.long (0 : Int64)) := f_44.keep K_77 (ninS ne_b__14_b_28 nin0)
    have f_83 : Exa Z T_77.heap b_20 "[J" := f_45.keep K_77
    have f_84 : Exa Z T_77.heap b_28 "[J" := f_46.keep K_77
    have f_85 : Arv Z T_77.heap b_20 k_20 .long (8 : Int32) [(.long r0), (.long r1), (.long r2), (.long r3), (.long r4), (.long r5), (.long r6), (.long r7)] (.long (0 : Int64)) := hq_39_0.keep K_77 (ninS ne_b_20_b_28 nin0)
    refine Done.pre (fun _ k_ => st_77 _ k_) ?_
    show Done _ _ _ _ _ _ _ (T_77.setTop (mkF m 238 #[Lv q1, Zs, Lv q2, Zs, Lv q3, Zs, Lv q4, Zs, Lv q5, Zs, Iv p6, Rv b__2, Rv b__5, Rv b__9, Rv b__14, Rv b_20, Rv b_28, Iv (0 : Int32), Rv b_20] []))
    have hRs := hq_77_1
    have hMs := hq_77_2
    have sg_86 : ∀ tt_, Steps p.tables e below (T_77.setTop (mkF m 244 #[Lv q1, Zs, Lv q2, Zs, Lv q3, Zs, Lv q4, Zs, Lv q5, Zs, Iv p6, Rv b__2, Rv b__5, Rv b__9, Rv b__14, Rv b_20, Rv b_28, Iv (0 : Int32), Rv b_20] [(.ref b_28), (.ref b__14), (.ref b_28)])) tt_ → Steps p.tables e below (T_77.setTop (mkF m 238 #[Lv q1, Zs, Lv q2, Zs, Lv q3, Zs, Lv q4, Zs, Lv q5, Zs, Iv p6, Rv b__2, Rv b__5, Rv b__9, Rv b__14, Rv b_20, Rv b_28, Iv (0 : Int32), Rv b_20] [])) tt_ := by
      intro tt_ kt_
      refine XS.aload X_77.here hEX rfl (hb hBY at_238) rfl rfl ?_
      show Steps p.tables e below (T_77.setTop (mkF m 240 #[Lv q1, Zs, Lv q2, Zs, Lv q3, Zs, Lv q4, Zs, Lv q5, Zs, Iv p6, Rv b__2, Rv b__5, Rv b__9, Rv b__14, Rv b_20, Rv b_28, Iv (0 : Int32), Rv b_20] [(.ref b_28)])) tt_
      refine XS.aload X_77.here hEX rfl (hb hBY at_240) rfl rfl ?_
      show Steps p.tables e below (T_77.setTop (mkF m 242 #[Lv q1, Zs, Lv q2, Zs, Lv q3, Zs, Lv q4, Zs, Lv q5, Zs, Iv p6, Rv b__2, Rv b__5, Rv b__9, Rv b__14, Rv b_20, Rv b_28, Iv (0 : Int32), Rv b_20] [(.ref b__14), (.ref b_28)])) tt_
      refine XS.aload X_77.here hEX rfl (hb hBY at_242) rfl rfl ?_
      exact kt_
    refine Done.pre sg_86 ?_
    obtain ⟨_, _, ⟨T_87, L_87, k_87, n_87⟩, -, X_87, ⟨Lc_87, hQ_87, l_87, y_87, z_87⟩, st_87⟩ := Jvm.LawKit.callS X_77 hEX (y := (⟨"com/example/guard3/guard3/P384Field", "subtract", "([J[J[J)V"⟩ : MethodName)) hOW (mvT hZW (hw _ (List.mem_of_getElem? (i := 32) rfl))) (mvT hZW (hw _ (List.mem_of_getElem? (i := 33) rfl))) (mvT hZW (hw _ (List.mem_of_getElem? (i := 18) rfl))) (mvT hZW (hw _ (List.mem_of_getElem? (i := 34) rfl))) (by decide) (backOf (W := 0) (rm_subtract_aba l Z aZ hw [] b_28 b__14 k_28 s0 s1 s2 s3 s4 s5 s6 s7 kb__14 (own_limb q3 (5 : Int32)) (own_limb q4 (22 : Int32)) (own_limb q5 (39 : Int32)) (own_limb q1 (56 : Int32)) (own_limb q2 (9 : Int32)) (own_limb q3 (26 : Int32)) (own_limb q4 (43 : Int32)) (own_limb q5 (60 : Int32)) T_77.heap n0 (Nat.le_trans Z0 K__78.1) hq_77_0 f_82 ge_b_28 (Ne.symm ne_b__14_b_28) (own_Rup _ _ _ _ _ _ _ _ _ _ (by decide) hRs) ⟨own_limbR _ _, own_limbR _ _, own_limbR _ _, own_limbR _ _, own_limbR _ _, own_limbR _ _, own_limbR _ _, own_limbR _ _⟩) hZW (hw _ (List.mem_of_getElem? (i := 34) rfl)) (hw _ (List.mem_of_getElem? (i := 18) rfl)) (by decide) (by decide)) (g := (mkF m 244 #[Lv q1, Zs, Lv q2, Zs, Lv q3, Zs, Lv q4, Zs, Lv q5, Zs, Iv p6, Rv b__2, Rv b__5, Rv b__9, Rv b__14, Rv b_20, Rv b_28, Iv (0 : Int32), Rv b_20] [(.ref b_28), (.ref b__14), (.ref b_28)])) rfl (by rw [hMX]; rfl) (argsL := [(.ref b_28), (.ref b__14), (.ref b_28)]) (rest := []) (lenOf pd___J_J_J_V_10 rfl) rfl (by show 2 * 0 + _ ≤ _; exact Nat.le_of_eq rfl) (hb hBY at_244) (fun _ _ => ⟨rfl, rfl, (by decide : 6 + 0 ≤ _), (by decide : 48 + 0 ≤ _)⟩)
    dsimp only [Pt.U, Pt.locs, Pt.cells, Pt.slots] at X_87 l_87 y_87 z_87 st_87 hQ_87
    subst l_87 y_87 z_87
    obtain ⟨u0, u1, u2, u3, u4, u5, u6, u7, rfl, N_87q, K_87, hq_87_0, hq_87_1, hq_87_2⟩ := hQ_87
    have N_87 := Fr.app N_77 N_87q
    have K__88 : Keep h0 T_87.heap [] := K__78.trans K_87 (allS (Or.inr sz_b_28) all0)
    have f_89 : Arv Z T_87.heap b__2 kb__2 .long (8 : Int32) [(.long (own_limb q1 (0 : Int32))), (.long (own_limb q2 (11 : Int32))), (.long (own_limb q3 (22 : Int32))), (.long (own_limb q4 (33 : Int32))), (.long (own_limb q5 (44 : Int32))), (.long (own_limb q1 (55 : Int32))), (.long (own_limb q2 (2 : Int32))), (.long (own_limb q3 (13 : Int32)))] (.long (0 : Int64)) := f_79.keep K_87 (ninS ne_b__2_b_28 nin0)
    have f_90 : Arv Z T_87.heap b__5 kb__5 .long (8 : Int32) [(.long (own_limb q3 (5 : Int32))), (.long (own_limb q4 (22 : Int32))), (.long (own_limb q5 (39 : Int32))), (.long (own_limb q1 (56 : Int32))), (.long (own_limb q2 (9 : Int32))), (.long (own_limb q3 (26 : Int32))), (.long (own_limb q4 (43 : Int32))), (.long (own_limb q5 (60 : Int32)))] (.long (0 : Int64)) := f_80.keep K_87 (ninS ne_b__5_b_28 nin0)
    have f_91 : Arv Z T_87.heap b__9 kb__9 .long (8 : Int32) [(.long (own_limb q1 (0 : Int32))), (.long (own_limb q2 (11 : Int32))), (.long (own_limb q3 (22 : Int32))), (.long (own_limb q4 (33 : Int32))), (.long (own_limb q5 (44 : Int32))), (.long (own_limb q1 (55 : Int32))), (.long (own_limb q2 (2 : Int32))), (.long (own_limb q3 (13 : Int32)))] (.long (0 : Int64)) := f_81.keep K_87 (ninS ne_b__9_b_28 nin0)
    have f_92 : Arv Z T_87.heap b__14 kb__14 .long (8 : Int32) [(.long (own_limb q3 (5 : Int32))), (.long (own_limb q4 (22 : Int32))), (.long (own_limb q5 (39 : Int32))), (.long (own_limb q1 (56 : Int32))), (.long (own_limb q2 (9 : Int32))), (.long (own_limb q3 (26 : Int32))), (.long (own_limb q4 (43 : Int32))), (.long (own_limb q5 (60 : Int32)))] (.long (0 : Int64)) := f_82.keep K_87 (ninS ne_b__14_b_28 nin0)
    have f_93 : Exa Z T_87.heap b_20 "[J" := f_83.keep K_87
    have f_94 : Exa Z T_87.heap b_28 "[J" := f_84.keep K_87
    have f_95 : Arv Z T_87.heap b_20 k_20 .long (8 : Int32) [(.long r0), (.long r1), (.long r2), (.long r3), (.long r4), (.long r5), (.long r6), (.long r7)] (.long (0 : Int64)) := f_85.keep K_87 (ninS ne_b_20_b_28 nin0)
    refine Done.pre (fun _ k_ => st_87 _ k_) ?_
    show Done _ _ _ _ _ _ _ (T_87.setTop (mkF m 247 #[Lv q1, Zs, Lv q2, Zs, Lv q3, Zs, Lv q4, Zs, Lv q5, Zs, Iv p6, Rv b__2, Rv b__5, Rv b__9, Rv b__14, Rv b_20, Rv b_28, Iv (0 : Int32), Rv b_20] []))
    have hRu := hq_87_1
    have hMu := hq_87_2
    have sg_96 : ∀ tt_, Steps p.tables e below (T_87.setTop (mkF m 249 #[Lv q1, Zs, Lv q2, Zs, Lv q3, Zs, Lv q4, Zs, Lv q5, Zs, Iv p6, Rv b__2, Rv b__5, Rv b__9, Rv b__14, Rv b_20, Rv b_28, Iv (0 : Int32), Rv b_20] [(.ref b_28)])) tt_ → Steps p.tables e below (T_87.setTop (mkF m 247 #[Lv q1, Zs, Lv q2, Zs, Lv q3, Zs, Lv q4, Zs, Lv q5, Zs, Iv p6, Rv b__2, Rv b__5, Rv b__9, Rv b__14, Rv b_20, Rv b_28, Iv (0 : Int32), Rv b_20] [])) tt_ := by
      intro tt_ kt_
      refine XS.aload X_87.here hEX rfl (hb hBY at_247) rfl rfl ?_
      exact kt_
    refine Done.pre sg_96 ?_
    obtain ⟨_, _, ⟨T_97, L_97, k_97, n_97⟩, -, X_97, ⟨Lc_97, hQ_97, l_97, y_97, z_97⟩, st_97⟩ := Jvm.LawKit.callS X_87 hEX (y := (⟨"com/example/guard3/guard3/P384Field", "isZero", "([J)Z"⟩ : MethodName)) hOW (mvT hZW (hw _ (List.mem_of_getElem? (i := 35) rfl))) (mvT hZW (hw _ (List.mem_of_getElem? (i := 36) rfl))) (mvT hZW (hw _ (List.mem_of_getElem? (i := 18) rfl))) (mvT hZW (hw _ (List.mem_of_getElem? (i := 37) rfl))) (by decide) (backOf (W := 0) (rm_isz l Z aZ hw [] b_28 k_28 u0 u1 u2 u3 u4 u5 u6 u7 T_87.heap n0 (Nat.le_trans Z0 K__88.1) hq_87_0 f_94 hRu (own_sumM _ _ _ _ _ hMr hMs hMu)) hZW (hw _ (List.mem_of_getElem? (i := 37) rfl)) (hw _ (List.mem_of_getElem? (i := 18) rfl)) (by decide) (by decide)) (g := (mkF m 249 #[Lv q1, Zs, Lv q2, Zs, Lv q3, Zs, Lv q4, Zs, Lv q5, Zs, Iv p6, Rv b__2, Rv b__5, Rv b__9, Rv b__14, Rv b_20, Rv b_28, Iv (0 : Int32), Rv b_20] [(.ref b_28)])) rfl (by rw [hMX]; rfl) (argsL := [(.ref b_28)]) (rest := []) (lenOf pd___J_Z_5 rfl) rfl (by show 2 * 0 + _ ≤ _; exact Nat.le_of_eq rfl) (hb hBY at_249) (fun _ _ => ⟨rfl, rfl, (by decide : 6 + 2 ≤ _), (by decide : 48 + 16 ≤ _)⟩)
    dsimp only [Pt.U, Pt.locs, Pt.cells, Pt.slots] at X_97 l_97 y_97 z_97 st_97 hQ_97
    subst l_97 y_97 z_97
    obtain ⟨rfl, N_97q, K_97⟩ := hQ_97
    have N_97 := Fr.app N_87 N_97q
    have K__98 : Keep h0 T_97.heap [] := K__88.trans K_97 all0
    have f_99 : Arv Z T_97.heap b__2 kb__2 .long (8 : Int32) [(.long (own_limb q1 (0 : Int32))), (.long (own_limb q2 (11 : Int32))), (.long (own_limb q3 (22 : Int32))), (.long (own_limb q4 (33 : Int32))), (.long (own_limb q5 (44 : Int32))), (.long (own_limb q1 (55 : Int32))), (.long (own_limb q2 (2 : Int32))), (.long (own_limb q3 (13 : Int32)))] (.long (0 : Int64)) := f_89.keep K_97 nin0
    have f_100 : Arv Z T_97.heap b__5 kb__5 .long (8 : Int32) [(.long (own_limb q3 (5 : Int32))), (.long (own_limb q4 (22 : Int32))), (.long (own_limb q5 (39 : Int32))), (.long (own_limb q1 (56 : Int32))), (.long (own_limb q2 (9 : Int32))), (.long (own_limb q3 (26 : Int32))), (.long (own_limb q4 (43 : Int32))), (.long (own_limb q5 (60 : Int32)))] (.long (0 : Int64)) := f_90.keep K_97 nin0
    have f_101 : Arv Z T_97.heap b__9 kb__9 .long (8 : Int32) [(.long (own_limb q1 (0 : Int32))), (.long (own_limb q2 (11 : Int32))), (.long (own_limb q3 (22 : Int32))), (.long (own_limb q4 (33 : Int32))), (.long (own_limb q5 (44 : Int32))), (.long (own_limb q1 (55 : Int32))), (.long (own_limb q2 (2 : Int32))), (.long (own_limb q3 (13 : Int32)))] (.long (0 : Int64)) := f_91.keep K_97 nin0
    have f_102 : Arv Z T_97.heap b__14 kb__14 .long (8 : Int32) [(.long (own_limb q3 (5 : Int32))), (.long (own_limb q4 (22 : Int32))), (.long (own_limb q5 (39 : Int32))), (.long (own_limb q1 (56 : Int32))), (.long (own_limb q2 (9 : Int32))), (.long (own_limb q3 (26 : Int32))), (.long (own_limb q4 (43 : Int32))), (.long (own_limb q5 (60 : Int32)))] (.long (0 : Int64)) := f_92.keep K_97 nin0
    have f_103 : Exa Z T_97.heap b_20 "[J" := f_93.keep K_97
    have f_104 : Exa Z T_97.heap b_28 "[J" := f_94.keep K_97
    have f_105 : Arv Z T_97.heap b_20 k_20 .long (8 : Int32) [(.long r0), (.long r1), (.long r2), (.long r3), (.long r4), (.long r5), (.long r6), (.long r7)] (.long (0 : Int64)) := f_95.keep K_97 nin0
    have f_106 : Arv Z T_97.heap b_28 k_28 .long (8 : Int32) [(.long u0), (.long u1), (.long u2), (.long u3), (.long u4), (.long u5), (.long u6), (.long u7)] (.long (0 : Int64)) := hq_87_0.keep K_97 nin0
    refine Done.pre (fun _ k_ => st_97 _ k_) ?_
    show Done _ _ _ _ _ _ _ (T_97.setTop (mkF m 252 #[Lv q1, Zs, Lv q2, Zs, Lv q3, Zs, Lv q4, Zs, Lv q5, Zs, Iv p6, Rv b__2, Rv b__5, Rv b__9, Rv b__14, Rv b_20, Rv b_28, Iv (0 : Int32), Rv b_20] [(.int (1 : Int32))]))
    exact Done.retN X_97 hEX hLK (t := .boolean) hRT (by simp) (hb hBY at_252) (by exact ⟨rfl, N_97, K__98⟩) (by decide) (by decide)
  · skip
    show Done _ _ _ _ _ _ _ (T_28.setTop (mkF m 71 #[Lv q1, Zs, Lv q2, Zs, Lv q3, Zs, Lv q4, Zs, Lv q5, Zs, Iv p6, Rv b__2, Rv b__5, Rv b__9, Rv b__14, Rv b_20, Rv b_28, Us, Us] [(.int (1 : Int32))]))
    have sg_107 : ∀ tt_, Steps p.tables e below (T_28.setTop (mkF m 106 #[Lv q1, Zs, Lv q2, Zs, Lv q3, Zs, Lv q4, Zs, Lv q5, Zs, Iv p6, Rv b__2, Rv b__5, Rv b__9, Rv b__14, Rv b_20, Rv b_28, Iv (1 : Int32), Rv b__2] [(.ref b__2), (.ref b__5), (.ref b__2)])) tt_ → Steps p.tables e below (T_28.setTop (mkF m 71 #[Lv q1, Zs, Lv q2, Zs, Lv q3, Zs, Lv q4, Zs, Lv q5, Zs, Iv p6, Rv b__2, Rv b__5, Rv b__9, Rv b__14, Rv b_20, Rv b_28, Us, Us] [(.int (1 : Int32))])) tt_ := by
      intro tt_ kt_
      refine XS.istore X_28.here hEX rfl (hb hBY at_71) rfl (l' := #[Lv q1, Zs, Lv q2, Zs, Lv q3, Zs, Lv q4, Zs, Lv q5, Zs, Iv p6, Rv b__2, Rv b__5, Rv b__9, Rv b__14, Rv b_20, Rv b_28, Iv (1 : Int32), Us]) rfl ?_
      show Steps p.tables e below (T_28.setTop (mkF m 73 #[Lv q1, Zs, Lv q2, Zs, Lv q3, Zs, Lv q4, Zs, Lv q5, Zs, Iv p6, Rv b__2, Rv b__5, Rv b__9, Rv b__14, Rv b_20, Rv b_28, Iv (1 : Int32), Us] [])) tt_
      refine XS.aload X_28.here hEX rfl (hb hBY at_73) rfl rfl ?_
      show Steps p.tables e below (T_28.setTop (mkF m 75 #[Lv q1, Zs, Lv q2, Zs, Lv q3, Zs, Lv q4, Zs, Lv q5, Zs, Iv p6, Rv b__2, Rv b__5, Rv b__9, Rv b__14, Rv b_20, Rv b_28, Iv (1 : Int32), Us] [(.ref b_20)])) tt_
      refine XS.astore X_28.here hEX rfl (hb hBY at_75) rfl rfl (l' := #[Lv q1, Zs, Lv q2, Zs, Lv q3, Zs, Lv q4, Zs, Lv q5, Zs, Iv p6, Rv b__2, Rv b__5, Rv b__9, Rv b__14, Rv b_20, Rv b_28, Iv (1 : Int32), Rv b_20]) rfl ?_
      show Steps p.tables e below (T_28.setTop (mkF m 77 #[Lv q1, Zs, Lv q2, Zs, Lv q3, Zs, Lv q4, Zs, Lv q5, Zs, Iv p6, Rv b__2, Rv b__5, Rv b__9, Rv b__14, Rv b_20, Rv b_28, Iv (1 : Int32), Rv b_20] [])) tt_
      refine XS.iload X_28.here hEX rfl (hb hBY at_77) rfl ?_
      show Steps p.tables e below (T_28.setTop (mkF m 79 #[Lv q1, Zs, Lv q2, Zs, Lv q3, Zs, Lv q4, Zs, Lv q5, Zs, Iv p6, Rv b__2, Rv b__5, Rv b__9, Rv b__14, Rv b_20, Rv b_28, Iv (1 : Int32), Rv b_20] [(.int (1 : Int32))])) tt_
      refine XS.iconst X_28.here hEX rfl (hb hBY at_79) ?_
      show Steps p.tables e below (T_28.setTop (mkF m 80 #[Lv q1, Zs, Lv q2, Zs, Lv q3, Zs, Lv q4, Zs, Lv q5, Zs, Iv p6, Rv b__2, Rv b__5, Rv b__9, Rv b__14, Rv b_20, Rv b_28, Iv (1 : Int32), Rv b_20] [(.int (1 : Int32)), (.int (1 : Int32))])) tt_
      refine XS.icmpNo X_28.here hEX rfl (hb hBY at_80) rfl (teq (by decide : (1 : Int32) = (1 : Int32))).2 ?_
      show Steps p.tables e below (T_28.setTop (mkF m 83 #[Lv q1, Zs, Lv q2, Zs, Lv q3, Zs, Lv q4, Zs, Lv q5, Zs, Iv p6, Rv b__2, Rv b__5, Rv b__9, Rv b__14, Rv b_20, Rv b_28, Iv (1 : Int32), Rv b_20] [])) tt_
      refine XS.aload X_28.here hEX rfl (hb hBY at_83) rfl rfl ?_
      show Steps p.tables e below (T_28.setTop (mkF m 85 #[Lv q1, Zs, Lv q2, Zs, Lv q3, Zs, Lv q4, Zs, Lv q5, Zs, Iv p6, Rv b__2, Rv b__5, Rv b__9, Rv b__14, Rv b_20, Rv b_28, Iv (1 : Int32), Rv b_20] [(.ref b__2)])) tt_
      refine XS.astore X_28.here hEX rfl (hb hBY at_85) rfl rfl (l' := #[Lv q1, Zs, Lv q2, Zs, Lv q3, Zs, Lv q4, Zs, Lv q5, Zs, Iv p6, Rv b__2, Rv b__5, Rv b__9, Rv b__14, Rv b_20, Rv b_28, Iv (1 : Int32), Rv b__2]) rfl ?_
      show Steps p.tables e below (T_28.setTop (mkF m 87 #[Lv q1, Zs, Lv q2, Zs, Lv q3, Zs, Lv q4, Zs, Lv q5, Zs, Iv p6, Rv b__2, Rv b__5, Rv b__9, Rv b__14, Rv b_20, Rv b_28, Iv (1 : Int32), Rv b__2] [])) tt_
      refine XS.goto X_28.here hEX rfl (pc0 := 87) (pc' := 100) rfl (hb hBY at_87) (by decide) (by decide) ?_
      show Steps p.tables e below (T_28.setTop (mkF m 100 #[Lv q1, Zs, Lv q2, Zs, Lv q3, Zs, Lv q4, Zs, Lv q5, Zs, Iv p6, Rv b__2, Rv b__5, Rv b__9, Rv b__14, Rv b_20, Rv b_28, Iv (1 : Int32), Rv b__2] [])) tt_
      refine XS.aload X_28.here hEX rfl (hb hBY at_100) rfl rfl ?_
      show Steps p.tables e below (T_28.setTop (mkF m 102 #[Lv q1, Zs, Lv q2, Zs, Lv q3, Zs, Lv q4, Zs, Lv q5, Zs, Iv p6, Rv b__2, Rv b__5, Rv b__9, Rv b__14, Rv b_20, Rv b_28, Iv (1 : Int32), Rv b__2] [(.ref b__2)])) tt_
      refine XS.aload X_28.here hEX rfl (hb hBY at_102) rfl rfl ?_
      show Steps p.tables e below (T_28.setTop (mkF m 104 #[Lv q1, Zs, Lv q2, Zs, Lv q3, Zs, Lv q4, Zs, Lv q5, Zs, Iv p6, Rv b__2, Rv b__5, Rv b__9, Rv b__14, Rv b_20, Rv b_28, Iv (1 : Int32), Rv b__2] [(.ref b__5), (.ref b__2)])) tt_
      refine XS.aload X_28.here hEX rfl (hb hBY at_104) rfl rfl ?_
      exact kt_
    refine Done.pre sg_107 ?_
    obtain ⟨_, _, ⟨T_108, L_108, k_108, n_108⟩, -, X_108, ⟨Lc_108, hQ_108, l_108, y_108, z_108⟩, st_108⟩ := Jvm.LawKit.callS X_28 hEX (y := (⟨"com/example/guard3/guard3/P384Field", "add", "([J[J[J)V"⟩ : MethodName)) hOW (mvT hZW (hw _ (List.mem_of_getElem? (i := 16) rfl))) (mvT hZW (hw _ (List.mem_of_getElem? (i := 17) rfl))) (mvT hZW (hw _ (List.mem_of_getElem? (i := 18) rfl))) (mvT hZW (hw _ (List.mem_of_getElem? (i := 19) rfl))) (by decide) (backOf (W := 0) (rm_add_aba l Z aZ hw [] b__2 b__5 kb__2 (own_limb q1 (0 : Int32)) (own_limb q2 (11 : Int32)) (own_limb q3 (22 : Int32)) (own_limb q4 (33 : Int32)) (own_limb q5 (44 : Int32)) (own_limb q1 (55 : Int32)) (own_limb q2 (2 : Int32)) (own_limb q3 (13 : Int32)) kb__5 (own_limb q3 (5 : Int32)) (own_limb q4 (22 : Int32)) (own_limb q5 (39 : Int32)) (own_limb q1 (56 : Int32)) (own_limb q2 (9 : Int32)) (own_limb q3 (26 : Int32)) (own_limb q4 (43 : Int32)) (own_limb q5 (60 : Int32)) h_28 n0 (Nat.le_trans Z0 K__29.1) f_30 f_31 (Nat.le_trans Z0 sz_b__2) ne_b__2_b__5 ⟨own_limbR _ _, own_limbR _ _, own_limbR _ _, own_limbR _ _, own_limbR _ _, own_limbR _ _, own_limbR _ _, own_limbR _ _⟩ ⟨own_limbR _ _, own_limbR _ _, own_limbR _ _, own_limbR _ _, own_limbR _ _, own_limbR _ _, own_limbR _ _, own_limbR _ _⟩) hZW (hw _ (List.mem_of_getElem? (i := 19) rfl)) (hw _ (List.mem_of_getElem? (i := 18) rfl)) (by decide) (by decide)) (g := (mkF m 106 #[Lv q1, Zs, Lv q2, Zs, Lv q3, Zs, Lv q4, Zs, Lv q5, Zs, Iv p6, Rv b__2, Rv b__5, Rv b__9, Rv b__14, Rv b_20, Rv b_28, Iv (1 : Int32), Rv b__2] [(.ref b__2), (.ref b__5), (.ref b__2)])) rfl (by rw [hMX]; rfl) (argsL := [(.ref b__2), (.ref b__5), (.ref b__2)]) (rest := []) (lenOf pd___J_J_J_V_10 rfl) rfl (by show 2 * 0 + _ ≤ _; exact Nat.le_of_eq rfl) (hb hBY at_106) (fun _ _ => ⟨rfl, e_28, (by decide : 6 + 0 ≤ _), (by decide : 48 + 0 ≤ _)⟩)
    dsimp only [Pt.U, Pt.locs, Pt.cells, Pt.slots] at X_108 l_108 y_108 z_108 st_108 hQ_108
    subst l_108 y_108 z_108
    obtain ⟨r0, r1, r2, r3, r4, r5, r6, r7, rfl, N_108q, K_108, hq_108_0, hq_108_1, hq_108_2⟩ := hQ_108
    have N_108 := Fr.app N_14 N_108q
    have K__109 : Keep h0 T_108.heap [] := K__29.trans K_108 (allS (Or.inr sz_b__2) all0)
    have f_110 : Arv Z T_108.heap b__5 kb__5 .long (8 : Int32) [(.long (own_limb q3 (5 : Int32))), (.long (own_limb q4 (22 : Int32))), (.long (own_limb q5 (39 : Int32))), (.long (own_limb q1 (56 : Int32))), (.long (own_limb q2 (9 : Int32))), (.long (own_limb q3 (26 : Int32))), (.long (own_limb q4 (43 : Int32))), (.long (own_limb q5 (60 : Int32)))] (.long (0 : Int64)) := f_31.keep K_108 (ninS (Ne.symm ne_b__2_b__5) nin0)
    have f_111 : Arv Z T_108.heap b__9 kb__9 .long (8 : Int32) [(.long (own_limb q1 (0 : Int32))), (.long (own_limb q2 (11 : Int32))), (.long (own_limb q3 (22 : Int32))), (.long (own_limb q4 (33 : Int32))), (.long (own_limb q5 (44 : Int32))), (.long (own_limb q1 (55 : Int32))), (.long (own_limb q2 (2 : Int32))), (.long (own_limb q3 (13 : Int32)))] (.long (0 : Int64)) := f_32.keep K_108 (ninS (Ne.symm ne_b__2_b__9) nin0)
    have f_112 : Arv Z T_108.heap b__14 kb__14 .long (8 : Int32) [(.long (own_limb q3 (5 : Int32))), (.long (own_limb q4 (22 : Int32))), (.long (own_limb q5 (39 : Int32))), (.long (own_limb q1 (56 : Int32))), (.long (own_limb q2 (9 : Int32))), (.long (own_limb q3 (26 : Int32))), (.long (own_limb q4 (43 : Int32))), (.long (own_limb q5 (60 : Int32)))] (.long (0 : Int64)) := f_33.keep K_108 (ninS (Ne.symm ne_b__2_b__14) nin0)
    have f_113 : Exa Z T_108.heap b_20 "[J" := f_34.keep K_108
    have f_114 : Arv Z T_108.heap b_20 k_20 .long (8 : Int32) [(.long (0 : Int64)), (.long (0 : Int64)), (.long (0 : Int64)), (.long (0 : Int64)), (.long (0 : Int64)), (.long (0 : Int64)), (.long (0 : Int64)), (.long (0 : Int64))] (.long (0 : Int64)) := f_35.keep K_108 (ninS (Ne.symm ne_b__2_b_20) nin0)
    have f_115 : Exa Z T_108.heap b_28 "[J" := B_28.keep K_108
    have f_116 : Arv Z T_108.heap b_28 k_28 .long (8 : Int32) [(.long (0 : Int64)), (.long (0 : Int64)), (.long (0 : Int64)), (.long (0 : Int64)), (.long (0 : Int64)), (.long (0 : Int64)), (.long (0 : Int64)), (.long (0 : Int64))] (.long (0 : Int64)) := f_36.keep K_108 (ninS (Ne.symm ne_b__2_b_28) nin0)
    refine Done.pre (fun _ k_ => st_108 _ k_) ?_
    show Done _ _ _ _ _ _ _ (T_108.setTop (mkF m 109 #[Lv q1, Zs, Lv q2, Zs, Lv q3, Zs, Lv q4, Zs, Lv q5, Zs, Iv p6, Rv b__2, Rv b__5, Rv b__9, Rv b__14, Rv b_20, Rv b_28, Iv (1 : Int32), Rv b__2] []))
    have hRr := hq_108_1
    have hMr := hq_108_2
    obtain ⟨cl_117, Ar_117, q_117, S_117, N__117, H_117, G_117⟩ := id hq_108_0
    have hin_117 : ¬ ((0 : Int32) < 0 ∨ cl_117.slots.size ≤ ((0 : Int32)).toNatClampNeg) := inb_of S_117 ⟨by decide, by decide⟩
    have hat_117 : cl_117.slots[((0 : Int32)).toNatClampNeg]? = some (.long r0) := H_117.at hin_117 rfl
    have sg_118 : ∀ tt_, Steps p.tables e below (T_108.setTop (mkF m 113 #[Lv q1, Zs, Lv q2, Zs, Lv q3, Zs, Lv q4, Zs, Lv q5, Zs, Iv p6, Rv b__2, Rv b__5, Rv b__9, Rv b__14, Rv b_20, Rv b_28, Iv (1 : Int32), Rv b__2] [(.long r0)])) tt_ → Steps p.tables e below (T_108.setTop (mkF m 109 #[Lv q1, Zs, Lv q2, Zs, Lv q3, Zs, Lv q4, Zs, Lv q5, Zs, Iv p6, Rv b__2, Rv b__5, Rv b__9, Rv b__14, Rv b_20, Rv b_28, Iv (1 : Int32), Rv b__2] [])) tt_ := by
      intro tt_ kt_
      refine XS.aload X_108.here hEX rfl (hb hBY at_109) rfl rfl ?_
      show Steps p.tables e below (T_108.setTop (mkF m 111 #[Lv q1, Zs, Lv q2, Zs, Lv q3, Zs, Lv q4, Zs, Lv q5, Zs, Iv p6, Rv b__2, Rv b__5, Rv b__9, Rv b__14, Rv b_20, Rv b_28, Iv (1 : Int32), Rv b__2] [(.ref b__2)])) tt_
      refine XS.iconst X_108.here hEX rfl (hb hBY at_111) ?_
      show Steps p.tables e below (T_108.setTop (mkF m 112 #[Lv q1, Zs, Lv q2, Zs, Lv q3, Zs, Lv q4, Zs, Lv q5, Zs, Iv p6, Rv b__2, Rv b__5, Rv b__9, Rv b__14, Rv b_20, Rv b_28, Iv (1 : Int32), Rv b__2] [(.int (0 : Int32)), (.ref b__2)])) tt_
      refine X_108.laload hEX (j := (0 : Int32)) (v := (.long r0)) Ar_117.1 (State.isArrayOf_alike hZW.alike Ar_117.2.1) Ar_117.2.2 hin_117 hat_117 (g := (mkF m 112 #[Lv q1, Zs, Lv q2, Zs, Lv q3, Zs, Lv q4, Zs, Lv q5, Zs, Iv p6, Rv b__2, Rv b__5, Rv b__9, Rv b__14, Rv b_20, Rv b_28, Iv (1 : Int32), Rv b__2] [(.int (0 : Int32)), (.ref b__2)])) rfl rfl (hb hBY at_112) _ ?_
      exact kt_
    refine Done.pre sg_118 ?_
    obtain ⟨_, _, ⟨T_119, L_119, k_119, n_119⟩, -, X_119, ⟨Lc_119, hQ_119, l_119, y_119, z_119⟩, st_119⟩ := Jvm.LawKit.callS X_108 hEX (y := (⟨"com/example/guard3/guard3/P384FieldAddPinLaw", "inRange", "(J)Z"⟩ : MethodName)) hOW (mvT hZW (hw _ (List.mem_of_getElem? (i := 25) rfl))) (mvT hZW (hw _ (List.mem_of_getElem? (i := 26) rfl))) (mvT hZW (hw _ (List.mem_of_getElem? (i := 2) rfl))) (mvT hZW (hw _ (List.mem_of_getElem? (i := 27) rfl))) (by decide) (backOf (W := 0) (rm_inr l Z aZ hw [] r0 T_108.heap n0 (Nat.le_trans Z0 K__109.1) (own_inlo _ hRr.1) (own_inhi _ hRr.1)) hZW (hw _ (List.mem_of_getElem? (i := 27) rfl)) (hw _ (List.mem_of_getElem? (i := 2) rfl)) (by decide) (by decide)) (g := (mkF m 113 #[Lv q1, Zs, Lv q2, Zs, Lv q3, Zs, Lv q4, Zs, Lv q5, Zs, Iv p6, Rv b__2, Rv b__5, Rv b__9, Rv b__14, Rv b_20, Rv b_28, Iv (1 : Int32), Rv b__2] [(.long r0)])) rfl (by rw [hMX]; rfl) (argsL := [(.long r0)]) (rest := []) (lenOf pd__J_Z_1 rfl) rfl (by show 2 * 0 + _ ≤ _; exact Nat.le_of_eq rfl) (hb hBY at_113) (fun _ _ => ⟨rfl, rfl, (by decide : 6 + 0 ≤ _), (by decide : 48 + 0 ≤ _)⟩)
    dsimp only [Pt.U, Pt.locs, Pt.cells, Pt.slots] at X_119 l_119 y_119 z_119 st_119 hQ_119
    subst l_119 y_119 z_119
    obtain ⟨rfl, N_119q, e_119⟩ := hQ_119
    have N_119 := Fr.app N_108 N_119q
    refine Done.pre (fun _ k_ => st_119 _ k_) ?_
    show Done _ _ _ _ _ _ _ (T_119.setTop (mkF m 116 #[Lv q1, Zs, Lv q2, Zs, Lv q3, Zs, Lv q4, Zs, Lv q5, Zs, Iv p6, Rv b__2, Rv b__5, Rv b__9, Rv b__14, Rv b_20, Rv b_28, Iv (1 : Int32), Rv b__2] [(.int (1 : Int32))]))
    obtain ⟨cl_120, Ar_120, q_120, S_120, N__120, H_120, G_120⟩ := id hq_108_0
    have hin_120 : ¬ ((1 : Int32) < 0 ∨ cl_120.slots.size ≤ ((1 : Int32)).toNatClampNeg) := inb_of S_120 ⟨by decide, by decide⟩
    have hat_120 : cl_120.slots[((1 : Int32)).toNatClampNeg]? = some (.long r1) := H_120.at hin_120 rfl
    have sg_121 : ∀ tt_, Steps p.tables e below (T_119.setTop (mkF m 123 #[Lv q1, Zs, Lv q2, Zs, Lv q3, Zs, Lv q4, Zs, Lv q5, Zs, Iv p6, Rv b__2, Rv b__5, Rv b__9, Rv b__14, Rv b_20, Rv b_28, Iv (1 : Int32), Rv b__2] [(.long r1)])) tt_ → Steps p.tables e below (T_119.setTop (mkF m 116 #[Lv q1, Zs, Lv q2, Zs, Lv q3, Zs, Lv q4, Zs, Lv q5, Zs, Iv p6, Rv b__2, Rv b__5, Rv b__9, Rv b__14, Rv b_20, Rv b_28, Iv (1 : Int32), Rv b__2] [(.int (1 : Int32))])) tt_ := by
      intro tt_ kt_
      refine XS.ifNo X_119.here hEX rfl (hb hBY at_116) rfl ((if0 _ _).trans (feq (by decide : ¬ ((1 : Int32) = (0 : Int32)))).1) ?_
      show Steps p.tables e below (T_119.setTop (mkF m 119 #[Lv q1, Zs, Lv q2, Zs, Lv q3, Zs, Lv q4, Zs, Lv q5, Zs, Iv p6, Rv b__2, Rv b__5, Rv b__9, Rv b__14, Rv b_20, Rv b_28, Iv (1 : Int32), Rv b__2] [])) tt_
      refine XS.aload X_119.here hEX rfl (hb hBY at_119) rfl rfl ?_
      show Steps p.tables e below (T_119.setTop (mkF m 121 #[Lv q1, Zs, Lv q2, Zs, Lv q3, Zs, Lv q4, Zs, Lv q5, Zs, Iv p6, Rv b__2, Rv b__5, Rv b__9, Rv b__14, Rv b_20, Rv b_28, Iv (1 : Int32), Rv b__2] [(.ref b__2)])) tt_
      refine XS.iconst X_119.here hEX rfl (hb hBY at_121) ?_
      show Steps p.tables e below (T_119.setTop (mkF m 122 #[Lv q1, Zs, Lv q2, Zs, Lv q3, Zs, Lv q4, Zs, Lv q5, Zs, Iv p6, Rv b__2, Rv b__5, Rv b__9, Rv b__14, Rv b_20, Rv b_28, Iv (1 : Int32), Rv b__2] [(.int (1 : Int32)), (.ref b__2)])) tt_
      refine X_119.laload hEX (j := (1 : Int32)) (v := (.long r1)) (by rw [e_119]; exact Ar_120.1) (State.isArrayOf_alike hZW.alike Ar_120.2.1) Ar_120.2.2 hin_120 hat_120 (g := (mkF m 122 #[Lv q1, Zs, Lv q2, Zs, Lv q3, Zs, Lv q4, Zs, Lv q5, Zs, Iv p6, Rv b__2, Rv b__5, Rv b__9, Rv b__14, Rv b_20, Rv b_28, Iv (1 : Int32), Rv b__2] [(.int (1 : Int32)), (.ref b__2)])) rfl rfl (hb hBY at_122) _ ?_
      exact kt_
    refine Done.pre sg_121 ?_
    obtain ⟨_, _, ⟨T_122, L_122, k_122, n_122⟩, -, X_122, ⟨Lc_122, hQ_122, l_122, y_122, z_122⟩, st_122⟩ := Jvm.LawKit.callS X_119 hEX (y := (⟨"com/example/guard3/guard3/P384FieldAddPinLaw", "inRange", "(J)Z"⟩ : MethodName)) hOW (mvT hZW (hw _ (List.mem_of_getElem? (i := 25) rfl))) (mvT hZW (hw _ (List.mem_of_getElem? (i := 26) rfl))) (mvT hZW (hw _ (List.mem_of_getElem? (i := 2) rfl))) (mvT hZW (hw _ (List.mem_of_getElem? (i := 27) rfl))) (by decide) (backOf (W := 0) (rm_inr l Z aZ hw [] r1 T_108.heap n0 (Nat.le_trans Z0 K__109.1) (own_inlo _ hRr.2.1) (own_inhi _ hRr.2.1)) hZW (hw _ (List.mem_of_getElem? (i := 27) rfl)) (hw _ (List.mem_of_getElem? (i := 2) rfl)) (by decide) (by decide)) (g := (mkF m 123 #[Lv q1, Zs, Lv q2, Zs, Lv q3, Zs, Lv q4, Zs, Lv q5, Zs, Iv p6, Rv b__2, Rv b__5, Rv b__9, Rv b__14, Rv b_20, Rv b_28, Iv (1 : Int32), Rv b__2] [(.long r1)])) rfl (by rw [hMX]; rfl) (argsL := [(.long r1)]) (rest := []) (lenOf pd__J_Z_1 rfl) rfl (by show 2 * 0 + _ ≤ _; exact Nat.le_of_eq rfl) (hb hBY at_123) (fun _ _ => ⟨rfl, e_119, (by decide : 6 + 0 ≤ _), (by decide : 48 + 0 ≤ _)⟩)
    dsimp only [Pt.U, Pt.locs, Pt.cells, Pt.slots] at X_122 l_122 y_122 z_122 st_122 hQ_122
    subst l_122 y_122 z_122
    obtain ⟨rfl, N_122q, e_122⟩ := hQ_122
    have N_122 := Fr.app N_119 N_122q
    refine Done.pre (fun _ k_ => st_122 _ k_) ?_
    show Done _ _ _ _ _ _ _ (T_122.setTop (mkF m 126 #[Lv q1, Zs, Lv q2, Zs, Lv q3, Zs, Lv q4, Zs, Lv q5, Zs, Iv p6, Rv b__2, Rv b__5, Rv b__9, Rv b__14, Rv b_20, Rv b_28, Iv (1 : Int32), Rv b__2] [(.int (1 : Int32))]))
    obtain ⟨cl_123, Ar_123, q_123, S_123, N__123, H_123, G_123⟩ := id hq_108_0
    have hin_123 : ¬ ((2 : Int32) < 0 ∨ cl_123.slots.size ≤ ((2 : Int32)).toNatClampNeg) := inb_of S_123 ⟨by decide, by decide⟩
    have hat_123 : cl_123.slots[((2 : Int32)).toNatClampNeg]? = some (.long r2) := H_123.at hin_123 rfl
    have sg_124 : ∀ tt_, Steps p.tables e below (T_122.setTop (mkF m 133 #[Lv q1, Zs, Lv q2, Zs, Lv q3, Zs, Lv q4, Zs, Lv q5, Zs, Iv p6, Rv b__2, Rv b__5, Rv b__9, Rv b__14, Rv b_20, Rv b_28, Iv (1 : Int32), Rv b__2] [(.long r2)])) tt_ → Steps p.tables e below (T_122.setTop (mkF m 126 #[Lv q1, Zs, Lv q2, Zs, Lv q3, Zs, Lv q4, Zs, Lv q5, Zs, Iv p6, Rv b__2, Rv b__5, Rv b__9, Rv b__14, Rv b_20, Rv b_28, Iv (1 : Int32), Rv b__2] [(.int (1 : Int32))])) tt_ := by
      intro tt_ kt_
      refine XS.ifNo X_122.here hEX rfl (hb hBY at_126) rfl ((if0 _ _).trans (feq (by decide : ¬ ((1 : Int32) = (0 : Int32)))).1) ?_
      show Steps p.tables e below (T_122.setTop (mkF m 129 #[Lv q1, Zs, Lv q2, Zs, Lv q3, Zs, Lv q4, Zs, Lv q5, Zs, Iv p6, Rv b__2, Rv b__5, Rv b__9, Rv b__14, Rv b_20, Rv b_28, Iv (1 : Int32), Rv b__2] [])) tt_
      refine XS.aload X_122.here hEX rfl (hb hBY at_129) rfl rfl ?_
      show Steps p.tables e below (T_122.setTop (mkF m 131 #[Lv q1, Zs, Lv q2, Zs, Lv q3, Zs, Lv q4, Zs, Lv q5, Zs, Iv p6, Rv b__2, Rv b__5, Rv b__9, Rv b__14, Rv b_20, Rv b_28, Iv (1 : Int32), Rv b__2] [(.ref b__2)])) tt_
      refine XS.iconst X_122.here hEX rfl (hb hBY at_131) ?_
      show Steps p.tables e below (T_122.setTop (mkF m 132 #[Lv q1, Zs, Lv q2, Zs, Lv q3, Zs, Lv q4, Zs, Lv q5, Zs, Iv p6, Rv b__2, Rv b__5, Rv b__9, Rv b__14, Rv b_20, Rv b_28, Iv (1 : Int32), Rv b__2] [(.int (2 : Int32)), (.ref b__2)])) tt_
      refine X_122.laload hEX (j := (2 : Int32)) (v := (.long r2)) (by rw [e_122]; exact Ar_123.1) (State.isArrayOf_alike hZW.alike Ar_123.2.1) Ar_123.2.2 hin_123 hat_123 (g := (mkF m 132 #[Lv q1, Zs, Lv q2, Zs, Lv q3, Zs, Lv q4, Zs, Lv q5, Zs, Iv p6, Rv b__2, Rv b__5, Rv b__9, Rv b__14, Rv b_20, Rv b_28, Iv (1 : Int32), Rv b__2] [(.int (2 : Int32)), (.ref b__2)])) rfl rfl (hb hBY at_132) _ ?_
      exact kt_
    refine Done.pre sg_124 ?_
    obtain ⟨_, _, ⟨T_125, L_125, k_125, n_125⟩, -, X_125, ⟨Lc_125, hQ_125, l_125, y_125, z_125⟩, st_125⟩ := Jvm.LawKit.callS X_122 hEX (y := (⟨"com/example/guard3/guard3/P384FieldAddPinLaw", "inRange", "(J)Z"⟩ : MethodName)) hOW (mvT hZW (hw _ (List.mem_of_getElem? (i := 25) rfl))) (mvT hZW (hw _ (List.mem_of_getElem? (i := 26) rfl))) (mvT hZW (hw _ (List.mem_of_getElem? (i := 2) rfl))) (mvT hZW (hw _ (List.mem_of_getElem? (i := 27) rfl))) (by decide) (backOf (W := 0) (rm_inr l Z aZ hw [] r2 T_108.heap n0 (Nat.le_trans Z0 K__109.1) (own_inlo _ hRr.2.2.1) (own_inhi _ hRr.2.2.1)) hZW (hw _ (List.mem_of_getElem? (i := 27) rfl)) (hw _ (List.mem_of_getElem? (i := 2) rfl)) (by decide) (by decide)) (g := (mkF m 133 #[Lv q1, Zs, Lv q2, Zs, Lv q3, Zs, Lv q4, Zs, Lv q5, Zs, Iv p6, Rv b__2, Rv b__5, Rv b__9, Rv b__14, Rv b_20, Rv b_28, Iv (1 : Int32), Rv b__2] [(.long r2)])) rfl (by rw [hMX]; rfl) (argsL := [(.long r2)]) (rest := []) (lenOf pd__J_Z_1 rfl) rfl (by show 2 * 0 + _ ≤ _; exact Nat.le_of_eq rfl) (hb hBY at_133) (fun _ _ => ⟨rfl, e_122, (by decide : 6 + 0 ≤ _), (by decide : 48 + 0 ≤ _)⟩)
    dsimp only [Pt.U, Pt.locs, Pt.cells, Pt.slots] at X_125 l_125 y_125 z_125 st_125 hQ_125
    subst l_125 y_125 z_125
    obtain ⟨rfl, N_125q, e_125⟩ := hQ_125
    have N_125 := Fr.app N_122 N_125q
    refine Done.pre (fun _ k_ => st_125 _ k_) ?_
    show Done _ _ _ _ _ _ _ (T_125.setTop (mkF m 136 #[Lv q1, Zs, Lv q2, Zs, Lv q3, Zs, Lv q4, Zs, Lv q5, Zs, Iv p6, Rv b__2, Rv b__5, Rv b__9, Rv b__14, Rv b_20, Rv b_28, Iv (1 : Int32), Rv b__2] [(.int (1 : Int32))]))
    obtain ⟨cl_126, Ar_126, q_126, S_126, N__126, H_126, G_126⟩ := id hq_108_0
    have hin_126 : ¬ ((3 : Int32) < 0 ∨ cl_126.slots.size ≤ ((3 : Int32)).toNatClampNeg) := inb_of S_126 ⟨by decide, by decide⟩
    have hat_126 : cl_126.slots[((3 : Int32)).toNatClampNeg]? = some (.long r3) := H_126.at hin_126 rfl
    have sg_127 : ∀ tt_, Steps p.tables e below (T_125.setTop (mkF m 143 #[Lv q1, Zs, Lv q2, Zs, Lv q3, Zs, Lv q4, Zs, Lv q5, Zs, Iv p6, Rv b__2, Rv b__5, Rv b__9, Rv b__14, Rv b_20, Rv b_28, Iv (1 : Int32), Rv b__2] [(.long r3)])) tt_ → Steps p.tables e below (T_125.setTop (mkF m 136 #[Lv q1, Zs, Lv q2, Zs, Lv q3, Zs, Lv q4, Zs, Lv q5, Zs, Iv p6, Rv b__2, Rv b__5, Rv b__9, Rv b__14, Rv b_20, Rv b_28, Iv (1 : Int32), Rv b__2] [(.int (1 : Int32))])) tt_ := by
      intro tt_ kt_
      refine XS.ifNo X_125.here hEX rfl (hb hBY at_136) rfl ((if0 _ _).trans (feq (by decide : ¬ ((1 : Int32) = (0 : Int32)))).1) ?_
      show Steps p.tables e below (T_125.setTop (mkF m 139 #[Lv q1, Zs, Lv q2, Zs, Lv q3, Zs, Lv q4, Zs, Lv q5, Zs, Iv p6, Rv b__2, Rv b__5, Rv b__9, Rv b__14, Rv b_20, Rv b_28, Iv (1 : Int32), Rv b__2] [])) tt_
      refine XS.aload X_125.here hEX rfl (hb hBY at_139) rfl rfl ?_
      show Steps p.tables e below (T_125.setTop (mkF m 141 #[Lv q1, Zs, Lv q2, Zs, Lv q3, Zs, Lv q4, Zs, Lv q5, Zs, Iv p6, Rv b__2, Rv b__5, Rv b__9, Rv b__14, Rv b_20, Rv b_28, Iv (1 : Int32), Rv b__2] [(.ref b__2)])) tt_
      refine XS.iconst X_125.here hEX rfl (hb hBY at_141) ?_
      show Steps p.tables e below (T_125.setTop (mkF m 142 #[Lv q1, Zs, Lv q2, Zs, Lv q3, Zs, Lv q4, Zs, Lv q5, Zs, Iv p6, Rv b__2, Rv b__5, Rv b__9, Rv b__14, Rv b_20, Rv b_28, Iv (1 : Int32), Rv b__2] [(.int (3 : Int32)), (.ref b__2)])) tt_
      refine X_125.laload hEX (j := (3 : Int32)) (v := (.long r3)) (by rw [e_125]; exact Ar_126.1) (State.isArrayOf_alike hZW.alike Ar_126.2.1) Ar_126.2.2 hin_126 hat_126 (g := (mkF m 142 #[Lv q1, Zs, Lv q2, Zs, Lv q3, Zs, Lv q4, Zs, Lv q5, Zs, Iv p6, Rv b__2, Rv b__5, Rv b__9, Rv b__14, Rv b_20, Rv b_28, Iv (1 : Int32), Rv b__2] [(.int (3 : Int32)), (.ref b__2)])) rfl rfl (hb hBY at_142) _ ?_
      exact kt_
    refine Done.pre sg_127 ?_
    obtain ⟨_, _, ⟨T_128, L_128, k_128, n_128⟩, -, X_128, ⟨Lc_128, hQ_128, l_128, y_128, z_128⟩, st_128⟩ := Jvm.LawKit.callS X_125 hEX (y := (⟨"com/example/guard3/guard3/P384FieldAddPinLaw", "inRange", "(J)Z"⟩ : MethodName)) hOW (mvT hZW (hw _ (List.mem_of_getElem? (i := 25) rfl))) (mvT hZW (hw _ (List.mem_of_getElem? (i := 26) rfl))) (mvT hZW (hw _ (List.mem_of_getElem? (i := 2) rfl))) (mvT hZW (hw _ (List.mem_of_getElem? (i := 27) rfl))) (by decide) (backOf (W := 0) (rm_inr l Z aZ hw [] r3 T_108.heap n0 (Nat.le_trans Z0 K__109.1) (own_inlo _ hRr.2.2.2.1) (own_inhi _ hRr.2.2.2.1)) hZW (hw _ (List.mem_of_getElem? (i := 27) rfl)) (hw _ (List.mem_of_getElem? (i := 2) rfl)) (by decide) (by decide)) (g := (mkF m 143 #[Lv q1, Zs, Lv q2, Zs, Lv q3, Zs, Lv q4, Zs, Lv q5, Zs, Iv p6, Rv b__2, Rv b__5, Rv b__9, Rv b__14, Rv b_20, Rv b_28, Iv (1 : Int32), Rv b__2] [(.long r3)])) rfl (by rw [hMX]; rfl) (argsL := [(.long r3)]) (rest := []) (lenOf pd__J_Z_1 rfl) rfl (by show 2 * 0 + _ ≤ _; exact Nat.le_of_eq rfl) (hb hBY at_143) (fun _ _ => ⟨rfl, e_125, (by decide : 6 + 0 ≤ _), (by decide : 48 + 0 ≤ _)⟩)
    dsimp only [Pt.U, Pt.locs, Pt.cells, Pt.slots] at X_128 l_128 y_128 z_128 st_128 hQ_128
    subst l_128 y_128 z_128
    obtain ⟨rfl, N_128q, e_128⟩ := hQ_128
    have N_128 := Fr.app N_125 N_128q
    refine Done.pre (fun _ k_ => st_128 _ k_) ?_
    show Done _ _ _ _ _ _ _ (T_128.setTop (mkF m 146 #[Lv q1, Zs, Lv q2, Zs, Lv q3, Zs, Lv q4, Zs, Lv q5, Zs, Iv p6, Rv b__2, Rv b__5, Rv b__9, Rv b__14, Rv b_20, Rv b_28, Iv (1 : Int32), Rv b__2] [(.int (1 : Int32))]))
    obtain ⟨cl_129, Ar_129, q_129, S_129, N__129, H_129, G_129⟩ := id hq_108_0
    have hin_129 : ¬ ((4 : Int32) < 0 ∨ cl_129.slots.size ≤ ((4 : Int32)).toNatClampNeg) := inb_of S_129 ⟨by decide, by decide⟩
    have hat_129 : cl_129.slots[((4 : Int32)).toNatClampNeg]? = some (.long r4) := H_129.at hin_129 rfl
    have sg_130 : ∀ tt_, Steps p.tables e below (T_128.setTop (mkF m 153 #[Lv q1, Zs, Lv q2, Zs, Lv q3, Zs, Lv q4, Zs, Lv q5, Zs, Iv p6, Rv b__2, Rv b__5, Rv b__9, Rv b__14, Rv b_20, Rv b_28, Iv (1 : Int32), Rv b__2] [(.long r4)])) tt_ → Steps p.tables e below (T_128.setTop (mkF m 146 #[Lv q1, Zs, Lv q2, Zs, Lv q3, Zs, Lv q4, Zs, Lv q5, Zs, Iv p6, Rv b__2, Rv b__5, Rv b__9, Rv b__14, Rv b_20, Rv b_28, Iv (1 : Int32), Rv b__2] [(.int (1 : Int32))])) tt_ := by
      intro tt_ kt_
      refine XS.ifNo X_128.here hEX rfl (hb hBY at_146) rfl ((if0 _ _).trans (feq (by decide : ¬ ((1 : Int32) = (0 : Int32)))).1) ?_
      show Steps p.tables e below (T_128.setTop (mkF m 149 #[Lv q1, Zs, Lv q2, Zs, Lv q3, Zs, Lv q4, Zs, Lv q5, Zs, Iv p6, Rv b__2, Rv b__5, Rv b__9, Rv b__14, Rv b_20, Rv b_28, Iv (1 : Int32), Rv b__2] [])) tt_
      refine XS.aload X_128.here hEX rfl (hb hBY at_149) rfl rfl ?_
      show Steps p.tables e below (T_128.setTop (mkF m 151 #[Lv q1, Zs, Lv q2, Zs, Lv q3, Zs, Lv q4, Zs, Lv q5, Zs, Iv p6, Rv b__2, Rv b__5, Rv b__9, Rv b__14, Rv b_20, Rv b_28, Iv (1 : Int32), Rv b__2] [(.ref b__2)])) tt_
      refine XS.iconst X_128.here hEX rfl (hb hBY at_151) ?_
      show Steps p.tables e below (T_128.setTop (mkF m 152 #[Lv q1, Zs, Lv q2, Zs, Lv q3, Zs, Lv q4, Zs, Lv q5, Zs, Iv p6, Rv b__2, Rv b__5, Rv b__9, Rv b__14, Rv b_20, Rv b_28, Iv (1 : Int32), Rv b__2] [(.int (4 : Int32)), (.ref b__2)])) tt_
      refine X_128.laload hEX (j := (4 : Int32)) (v := (.long r4)) (by rw [e_128]; exact Ar_129.1) (State.isArrayOf_alike hZW.alike Ar_129.2.1) Ar_129.2.2 hin_129 hat_129 (g := (mkF m 152 #[Lv q1, Zs, Lv q2, Zs, Lv q3, Zs, Lv q4, Zs, Lv q5, Zs, Iv p6, Rv b__2, Rv b__5, Rv b__9, Rv b__14, Rv b_20, Rv b_28, Iv (1 : Int32), Rv b__2] [(.int (4 : Int32)), (.ref b__2)])) rfl rfl (hb hBY at_152) _ ?_
      exact kt_
    refine Done.pre sg_130 ?_
    obtain ⟨_, _, ⟨T_131, L_131, k_131, n_131⟩, -, X_131, ⟨Lc_131, hQ_131, l_131, y_131, z_131⟩, st_131⟩ := Jvm.LawKit.callS X_128 hEX (y := (⟨"com/example/guard3/guard3/P384FieldAddPinLaw", "inRange", "(J)Z"⟩ : MethodName)) hOW (mvT hZW (hw _ (List.mem_of_getElem? (i := 25) rfl))) (mvT hZW (hw _ (List.mem_of_getElem? (i := 26) rfl))) (mvT hZW (hw _ (List.mem_of_getElem? (i := 2) rfl))) (mvT hZW (hw _ (List.mem_of_getElem? (i := 27) rfl))) (by decide) (backOf (W := 0) (rm_inr l Z aZ hw [] r4 T_108.heap n0 (Nat.le_trans Z0 K__109.1) (own_inlo _ hRr.2.2.2.2.1) (own_inhi _ hRr.2.2.2.2.1)) hZW (hw _ (List.mem_of_getElem? (i := 27) rfl)) (hw _ (List.mem_of_getElem? (i := 2) rfl)) (by decide) (by decide)) (g := (mkF m 153 #[Lv q1, Zs, Lv q2, Zs, Lv q3, Zs, Lv q4, Zs, Lv q5, Zs, Iv p6, Rv b__2, Rv b__5, Rv b__9, Rv b__14, Rv b_20, Rv b_28, Iv (1 : Int32), Rv b__2] [(.long r4)])) rfl (by rw [hMX]; rfl) (argsL := [(.long r4)]) (rest := []) (lenOf pd__J_Z_1 rfl) rfl (by show 2 * 0 + _ ≤ _; exact Nat.le_of_eq rfl) (hb hBY at_153) (fun _ _ => ⟨rfl, e_128, (by decide : 6 + 0 ≤ _), (by decide : 48 + 0 ≤ _)⟩)
    dsimp only [Pt.U, Pt.locs, Pt.cells, Pt.slots] at X_131 l_131 y_131 z_131 st_131 hQ_131
    subst l_131 y_131 z_131
    obtain ⟨rfl, N_131q, e_131⟩ := hQ_131
    have N_131 := Fr.app N_128 N_131q
    refine Done.pre (fun _ k_ => st_131 _ k_) ?_
    show Done _ _ _ _ _ _ _ (T_131.setTop (mkF m 156 #[Lv q1, Zs, Lv q2, Zs, Lv q3, Zs, Lv q4, Zs, Lv q5, Zs, Iv p6, Rv b__2, Rv b__5, Rv b__9, Rv b__14, Rv b_20, Rv b_28, Iv (1 : Int32), Rv b__2] [(.int (1 : Int32))]))
    obtain ⟨cl_132, Ar_132, q_132, S_132, N__132, H_132, G_132⟩ := id hq_108_0
    have hin_132 : ¬ ((5 : Int32) < 0 ∨ cl_132.slots.size ≤ ((5 : Int32)).toNatClampNeg) := inb_of S_132 ⟨by decide, by decide⟩
    have hat_132 : cl_132.slots[((5 : Int32)).toNatClampNeg]? = some (.long r5) := H_132.at hin_132 rfl
    have sg_133 : ∀ tt_, Steps p.tables e below (T_131.setTop (mkF m 163 #[Lv q1, Zs, Lv q2, Zs, Lv q3, Zs, Lv q4, Zs, Lv q5, Zs, Iv p6, Rv b__2, Rv b__5, Rv b__9, Rv b__14, Rv b_20, Rv b_28, Iv (1 : Int32), Rv b__2] [(.long r5)])) tt_ → Steps p.tables e below (T_131.setTop (mkF m 156 #[Lv q1, Zs, Lv q2, Zs, Lv q3, Zs, Lv q4, Zs, Lv q5, Zs, Iv p6, Rv b__2, Rv b__5, Rv b__9, Rv b__14, Rv b_20, Rv b_28, Iv (1 : Int32), Rv b__2] [(.int (1 : Int32))])) tt_ := by
      intro tt_ kt_
      refine XS.ifNo X_131.here hEX rfl (hb hBY at_156) rfl ((if0 _ _).trans (feq (by decide : ¬ ((1 : Int32) = (0 : Int32)))).1) ?_
      show Steps p.tables e below (T_131.setTop (mkF m 159 #[Lv q1, Zs, Lv q2, Zs, Lv q3, Zs, Lv q4, Zs, Lv q5, Zs, Iv p6, Rv b__2, Rv b__5, Rv b__9, Rv b__14, Rv b_20, Rv b_28, Iv (1 : Int32), Rv b__2] [])) tt_
      refine XS.aload X_131.here hEX rfl (hb hBY at_159) rfl rfl ?_
      show Steps p.tables e below (T_131.setTop (mkF m 161 #[Lv q1, Zs, Lv q2, Zs, Lv q3, Zs, Lv q4, Zs, Lv q5, Zs, Iv p6, Rv b__2, Rv b__5, Rv b__9, Rv b__14, Rv b_20, Rv b_28, Iv (1 : Int32), Rv b__2] [(.ref b__2)])) tt_
      refine XS.iconst X_131.here hEX rfl (hb hBY at_161) ?_
      show Steps p.tables e below (T_131.setTop (mkF m 162 #[Lv q1, Zs, Lv q2, Zs, Lv q3, Zs, Lv q4, Zs, Lv q5, Zs, Iv p6, Rv b__2, Rv b__5, Rv b__9, Rv b__14, Rv b_20, Rv b_28, Iv (1 : Int32), Rv b__2] [(.int (5 : Int32)), (.ref b__2)])) tt_
      refine X_131.laload hEX (j := (5 : Int32)) (v := (.long r5)) (by rw [e_131]; exact Ar_132.1) (State.isArrayOf_alike hZW.alike Ar_132.2.1) Ar_132.2.2 hin_132 hat_132 (g := (mkF m 162 #[Lv q1, Zs, Lv q2, Zs, Lv q3, Zs, Lv q4, Zs, Lv q5, Zs, Iv p6, Rv b__2, Rv b__5, Rv b__9, Rv b__14, Rv b_20, Rv b_28, Iv (1 : Int32), Rv b__2] [(.int (5 : Int32)), (.ref b__2)])) rfl rfl (hb hBY at_162) _ ?_
      exact kt_
    refine Done.pre sg_133 ?_
    obtain ⟨_, _, ⟨T_134, L_134, k_134, n_134⟩, -, X_134, ⟨Lc_134, hQ_134, l_134, y_134, z_134⟩, st_134⟩ := Jvm.LawKit.callS X_131 hEX (y := (⟨"com/example/guard3/guard3/P384FieldAddPinLaw", "inRange", "(J)Z"⟩ : MethodName)) hOW (mvT hZW (hw _ (List.mem_of_getElem? (i := 25) rfl))) (mvT hZW (hw _ (List.mem_of_getElem? (i := 26) rfl))) (mvT hZW (hw _ (List.mem_of_getElem? (i := 2) rfl))) (mvT hZW (hw _ (List.mem_of_getElem? (i := 27) rfl))) (by decide) (backOf (W := 0) (rm_inr l Z aZ hw [] r5 T_108.heap n0 (Nat.le_trans Z0 K__109.1) (own_inlo _ hRr.2.2.2.2.2.1) (own_inhi _ hRr.2.2.2.2.2.1)) hZW (hw _ (List.mem_of_getElem? (i := 27) rfl)) (hw _ (List.mem_of_getElem? (i := 2) rfl)) (by decide) (by decide)) (g := (mkF m 163 #[Lv q1, Zs, Lv q2, Zs, Lv q3, Zs, Lv q4, Zs, Lv q5, Zs, Iv p6, Rv b__2, Rv b__5, Rv b__9, Rv b__14, Rv b_20, Rv b_28, Iv (1 : Int32), Rv b__2] [(.long r5)])) rfl (by rw [hMX]; rfl) (argsL := [(.long r5)]) (rest := []) (lenOf pd__J_Z_1 rfl) rfl (by show 2 * 0 + _ ≤ _; exact Nat.le_of_eq rfl) (hb hBY at_163) (fun _ _ => ⟨rfl, e_131, (by decide : 6 + 0 ≤ _), (by decide : 48 + 0 ≤ _)⟩)
    dsimp only [Pt.U, Pt.locs, Pt.cells, Pt.slots] at X_134 l_134 y_134 z_134 st_134 hQ_134
    subst l_134 y_134 z_134
    obtain ⟨rfl, N_134q, e_134⟩ := hQ_134
    have N_134 := Fr.app N_131 N_134q
    refine Done.pre (fun _ k_ => st_134 _ k_) ?_
    show Done _ _ _ _ _ _ _ (T_134.setTop (mkF m 166 #[Lv q1, Zs, Lv q2, Zs, Lv q3, Zs, Lv q4, Zs, Lv q5, Zs, Iv p6, Rv b__2, Rv b__5, Rv b__9, Rv b__14, Rv b_20, Rv b_28, Iv (1 : Int32), Rv b__2] [(.int (1 : Int32))]))
    obtain ⟨cl_135, Ar_135, q_135, S_135, N__135, H_135, G_135⟩ := id hq_108_0
    have hin_135 : ¬ ((6 : Int32) < 0 ∨ cl_135.slots.size ≤ ((6 : Int32)).toNatClampNeg) := inb_of S_135 ⟨by decide, by decide⟩
    have hat_135 : cl_135.slots[((6 : Int32)).toNatClampNeg]? = some (.long r6) := H_135.at hin_135 rfl
    have sg_136 : ∀ tt_, Steps p.tables e below (T_134.setTop (mkF m 174 #[Lv q1, Zs, Lv q2, Zs, Lv q3, Zs, Lv q4, Zs, Lv q5, Zs, Iv p6, Rv b__2, Rv b__5, Rv b__9, Rv b__14, Rv b_20, Rv b_28, Iv (1 : Int32), Rv b__2] [(.long r6)])) tt_ → Steps p.tables e below (T_134.setTop (mkF m 166 #[Lv q1, Zs, Lv q2, Zs, Lv q3, Zs, Lv q4, Zs, Lv q5, Zs, Iv p6, Rv b__2, Rv b__5, Rv b__9, Rv b__14, Rv b_20, Rv b_28, Iv (1 : Int32), Rv b__2] [(.int (1 : Int32))])) tt_ := by
      intro tt_ kt_
      refine XS.ifNo X_134.here hEX rfl (hb hBY at_166) rfl ((if0 _ _).trans (feq (by decide : ¬ ((1 : Int32) = (0 : Int32)))).1) ?_
      show Steps p.tables e below (T_134.setTop (mkF m 169 #[Lv q1, Zs, Lv q2, Zs, Lv q3, Zs, Lv q4, Zs, Lv q5, Zs, Iv p6, Rv b__2, Rv b__5, Rv b__9, Rv b__14, Rv b_20, Rv b_28, Iv (1 : Int32), Rv b__2] [])) tt_
      refine XS.aload X_134.here hEX rfl (hb hBY at_169) rfl rfl ?_
      show Steps p.tables e below (T_134.setTop (mkF m 171 #[Lv q1, Zs, Lv q2, Zs, Lv q3, Zs, Lv q4, Zs, Lv q5, Zs, Iv p6, Rv b__2, Rv b__5, Rv b__9, Rv b__14, Rv b_20, Rv b_28, Iv (1 : Int32), Rv b__2] [(.ref b__2)])) tt_
      refine XS.bipush X_134.here hEX rfl (hb hBY at_171) ?_
      show Steps p.tables e below (T_134.setTop (mkF m 173 #[Lv q1, Zs, Lv q2, Zs, Lv q3, Zs, Lv q4, Zs, Lv q5, Zs, Iv p6, Rv b__2, Rv b__5, Rv b__9, Rv b__14, Rv b_20, Rv b_28, Iv (1 : Int32), Rv b__2] [(.int (6 : Int32)), (.ref b__2)])) tt_
      refine X_134.laload hEX (j := (6 : Int32)) (v := (.long r6)) (by rw [e_134]; exact Ar_135.1) (State.isArrayOf_alike hZW.alike Ar_135.2.1) Ar_135.2.2 hin_135 hat_135 (g := (mkF m 173 #[Lv q1, Zs, Lv q2, Zs, Lv q3, Zs, Lv q4, Zs, Lv q5, Zs, Iv p6, Rv b__2, Rv b__5, Rv b__9, Rv b__14, Rv b_20, Rv b_28, Iv (1 : Int32), Rv b__2] [(.int (6 : Int32)), (.ref b__2)])) rfl rfl (hb hBY at_173) _ ?_
      exact kt_
    refine Done.pre sg_136 ?_
    obtain ⟨_, _, ⟨T_137, L_137, k_137, n_137⟩, -, X_137, ⟨Lc_137, hQ_137, l_137, y_137, z_137⟩, st_137⟩ := Jvm.LawKit.callS X_134 hEX (y := (⟨"com/example/guard3/guard3/P384FieldAddPinLaw", "inRange", "(J)Z"⟩ : MethodName)) hOW (mvT hZW (hw _ (List.mem_of_getElem? (i := 25) rfl))) (mvT hZW (hw _ (List.mem_of_getElem? (i := 26) rfl))) (mvT hZW (hw _ (List.mem_of_getElem? (i := 2) rfl))) (mvT hZW (hw _ (List.mem_of_getElem? (i := 27) rfl))) (by decide) (backOf (W := 0) (rm_inr l Z aZ hw [] r6 T_108.heap n0 (Nat.le_trans Z0 K__109.1) (own_inlo _ hRr.2.2.2.2.2.2.1) (own_inhi _ hRr.2.2.2.2.2.2.1)) hZW (hw _ (List.mem_of_getElem? (i := 27) rfl)) (hw _ (List.mem_of_getElem? (i := 2) rfl)) (by decide) (by decide)) (g := (mkF m 174 #[Lv q1, Zs, Lv q2, Zs, Lv q3, Zs, Lv q4, Zs, Lv q5, Zs, Iv p6, Rv b__2, Rv b__5, Rv b__9, Rv b__14, Rv b_20, Rv b_28, Iv (1 : Int32), Rv b__2] [(.long r6)])) rfl (by rw [hMX]; rfl) (argsL := [(.long r6)]) (rest := []) (lenOf pd__J_Z_1 rfl) rfl (by show 2 * 0 + _ ≤ _; exact Nat.le_of_eq rfl) (hb hBY at_174) (fun _ _ => ⟨rfl, e_134, (by decide : 6 + 0 ≤ _), (by decide : 48 + 0 ≤ _)⟩)
    dsimp only [Pt.U, Pt.locs, Pt.cells, Pt.slots] at X_137 l_137 y_137 z_137 st_137 hQ_137
    subst l_137 y_137 z_137
    obtain ⟨rfl, N_137q, e_137⟩ := hQ_137
    have N_137 := Fr.app N_134 N_137q
    refine Done.pre (fun _ k_ => st_137 _ k_) ?_
    show Done _ _ _ _ _ _ _ (T_137.setTop (mkF m 177 #[Lv q1, Zs, Lv q2, Zs, Lv q3, Zs, Lv q4, Zs, Lv q5, Zs, Iv p6, Rv b__2, Rv b__5, Rv b__9, Rv b__14, Rv b_20, Rv b_28, Iv (1 : Int32), Rv b__2] [(.int (1 : Int32))]))
    obtain ⟨cl_138, Ar_138, q_138, S_138, N__138, H_138, G_138⟩ := id hq_108_0
    have hin_138 : ¬ ((7 : Int32) < 0 ∨ cl_138.slots.size ≤ ((7 : Int32)).toNatClampNeg) := inb_of S_138 ⟨by decide, by decide⟩
    have hat_138 : cl_138.slots[((7 : Int32)).toNatClampNeg]? = some (.long r7) := H_138.at hin_138 rfl
    have sg_139 : ∀ tt_, Steps p.tables e below (T_137.setTop (mkF m 185 #[Lv q1, Zs, Lv q2, Zs, Lv q3, Zs, Lv q4, Zs, Lv q5, Zs, Iv p6, Rv b__2, Rv b__5, Rv b__9, Rv b__14, Rv b_20, Rv b_28, Iv (1 : Int32), Rv b__2] [(.long r7)])) tt_ → Steps p.tables e below (T_137.setTop (mkF m 177 #[Lv q1, Zs, Lv q2, Zs, Lv q3, Zs, Lv q4, Zs, Lv q5, Zs, Iv p6, Rv b__2, Rv b__5, Rv b__9, Rv b__14, Rv b_20, Rv b_28, Iv (1 : Int32), Rv b__2] [(.int (1 : Int32))])) tt_ := by
      intro tt_ kt_
      refine XS.ifNo X_137.here hEX rfl (hb hBY at_177) rfl ((if0 _ _).trans (feq (by decide : ¬ ((1 : Int32) = (0 : Int32)))).1) ?_
      show Steps p.tables e below (T_137.setTop (mkF m 180 #[Lv q1, Zs, Lv q2, Zs, Lv q3, Zs, Lv q4, Zs, Lv q5, Zs, Iv p6, Rv b__2, Rv b__5, Rv b__9, Rv b__14, Rv b_20, Rv b_28, Iv (1 : Int32), Rv b__2] [])) tt_
      refine XS.aload X_137.here hEX rfl (hb hBY at_180) rfl rfl ?_
      show Steps p.tables e below (T_137.setTop (mkF m 182 #[Lv q1, Zs, Lv q2, Zs, Lv q3, Zs, Lv q4, Zs, Lv q5, Zs, Iv p6, Rv b__2, Rv b__5, Rv b__9, Rv b__14, Rv b_20, Rv b_28, Iv (1 : Int32), Rv b__2] [(.ref b__2)])) tt_
      refine XS.bipush X_137.here hEX rfl (hb hBY at_182) ?_
      show Steps p.tables e below (T_137.setTop (mkF m 184 #[Lv q1, Zs, Lv q2, Zs, Lv q3, Zs, Lv q4, Zs, Lv q5, Zs, Iv p6, Rv b__2, Rv b__5, Rv b__9, Rv b__14, Rv b_20, Rv b_28, Iv (1 : Int32), Rv b__2] [(.int (7 : Int32)), (.ref b__2)])) tt_
      refine X_137.laload hEX (j := (7 : Int32)) (v := (.long r7)) (by rw [e_137]; exact Ar_138.1) (State.isArrayOf_alike hZW.alike Ar_138.2.1) Ar_138.2.2 hin_138 hat_138 (g := (mkF m 184 #[Lv q1, Zs, Lv q2, Zs, Lv q3, Zs, Lv q4, Zs, Lv q5, Zs, Iv p6, Rv b__2, Rv b__5, Rv b__9, Rv b__14, Rv b_20, Rv b_28, Iv (1 : Int32), Rv b__2] [(.int (7 : Int32)), (.ref b__2)])) rfl rfl (hb hBY at_184) _ ?_
      exact kt_
    refine Done.pre sg_139 ?_
    obtain ⟨_, _, ⟨T_140, L_140, k_140, n_140⟩, -, X_140, ⟨Lc_140, hQ_140, l_140, y_140, z_140⟩, st_140⟩ := Jvm.LawKit.callS X_137 hEX (y := (⟨"com/example/guard3/guard3/P384FieldAddPinLaw", "inRange", "(J)Z"⟩ : MethodName)) hOW (mvT hZW (hw _ (List.mem_of_getElem? (i := 25) rfl))) (mvT hZW (hw _ (List.mem_of_getElem? (i := 26) rfl))) (mvT hZW (hw _ (List.mem_of_getElem? (i := 2) rfl))) (mvT hZW (hw _ (List.mem_of_getElem? (i := 27) rfl))) (by decide) (backOf (W := 0) (rm_inr l Z aZ hw [] r7 T_108.heap n0 (Nat.le_trans Z0 K__109.1) (own_inlo _ hRr.2.2.2.2.2.2.2) (own_inhi _ hRr.2.2.2.2.2.2.2)) hZW (hw _ (List.mem_of_getElem? (i := 27) rfl)) (hw _ (List.mem_of_getElem? (i := 2) rfl)) (by decide) (by decide)) (g := (mkF m 185 #[Lv q1, Zs, Lv q2, Zs, Lv q3, Zs, Lv q4, Zs, Lv q5, Zs, Iv p6, Rv b__2, Rv b__5, Rv b__9, Rv b__14, Rv b_20, Rv b_28, Iv (1 : Int32), Rv b__2] [(.long r7)])) rfl (by rw [hMX]; rfl) (argsL := [(.long r7)]) (rest := []) (lenOf pd__J_Z_1 rfl) rfl (by show 2 * 0 + _ ≤ _; exact Nat.le_of_eq rfl) (hb hBY at_185) (fun _ _ => ⟨rfl, e_137, (by decide : 6 + 0 ≤ _), (by decide : 48 + 0 ≤ _)⟩)
    dsimp only [Pt.U, Pt.locs, Pt.cells, Pt.slots] at X_140 l_140 y_140 z_140 st_140 hQ_140
    subst l_140 y_140 z_140
    obtain ⟨rfl, N_140q, e_140⟩ := hQ_140
    have N_140 := Fr.app N_137 N_140q
    refine Done.pre (fun _ k_ => st_140 _ k_) ?_
    show Done _ _ _ _ _ _ _ (T_140.setTop (mkF m 188 #[Lv q1, Zs, Lv q2, Zs, Lv q3, Zs, Lv q4, Zs, Lv q5, Zs, Iv p6, Rv b__2, Rv b__5, Rv b__9, Rv b__14, Rv b_20, Rv b_28, Iv (1 : Int32), Rv b__2] [(.int (1 : Int32))]))
    have sg_141 : ∀ tt_, Steps p.tables e below (T_140.setTop (mkF m 221 #[Lv q1, Zs, Lv q2, Zs, Lv q3, Zs, Lv q4, Zs, Lv q5, Zs, Iv p6, Rv b__2, Rv b__5, Rv b__9, Rv b__14, Rv b_20, Rv b_28, Iv (1 : Int32), Rv b__2] [(.ref b__14), (.ref b__5)])) tt_ → Steps p.tables e below (T_140.setTop (mkF m 188 #[Lv q1, Zs, Lv q2, Zs, Lv q3, Zs, Lv q4, Zs, Lv q5, Zs, Iv p6, Rv b__2, Rv b__5, Rv b__9, Rv b__14, Rv b_20, Rv b_28, Iv (1 : Int32), Rv b__2] [(.int (1 : Int32))])) tt_ := by
      intro tt_ kt_
      refine XS.ifYes X_140.here hEX rfl (pc0 := 188) (pc' := 193) rfl (hb hBY at_188) rfl ((if0 _ _).trans (feq (by decide : ¬ ((1 : Int32) = (0 : Int32)))).2) (by decide) (by decide) ?_
      show Steps p.tables e below (T_140.setTop (mkF m 193 #[Lv q1, Zs, Lv q2, Zs, Lv q3, Zs, Lv q4, Zs, Lv q5, Zs, Iv p6, Rv b__2, Rv b__5, Rv b__9, Rv b__14, Rv b_20, Rv b_28, Iv (1 : Int32), Rv b__2] [])) tt_
      refine XS.iload X_140.here hEX rfl (hb hBY at_193) rfl ?_
      show Steps p.tables e below (T_140.setTop (mkF m 195 #[Lv q1, Zs, Lv q2, Zs, Lv q3, Zs, Lv q4, Zs, Lv q5, Zs, Iv p6, Rv b__2, Rv b__5, Rv b__9, Rv b__14, Rv b_20, Rv b_28, Iv (1 : Int32), Rv b__2] [(.int (1 : Int32))])) tt_
      refine XS.iconst X_140.here hEX rfl (hb hBY at_195) ?_
      show Steps p.tables e below (T_140.setTop (mkF m 196 #[Lv q1, Zs, Lv q2, Zs, Lv q3, Zs, Lv q4, Zs, Lv q5, Zs, Iv p6, Rv b__2, Rv b__5, Rv b__9, Rv b__14, Rv b_20, Rv b_28, Iv (1 : Int32), Rv b__2] [(.int (1 : Int32)), (.int (1 : Int32))])) tt_
      refine XS.icmpYes X_140.here hEX rfl (pc0 := 196) (pc' := 211) rfl (hb hBY at_196) rfl (teq (by decide : (1 : Int32) = (1 : Int32))).1 (by decide) (by decide) ?_
      show Steps p.tables e below (T_140.setTop (mkF m 211 #[Lv q1, Zs, Lv q2, Zs, Lv q3, Zs, Lv q4, Zs, Lv q5, Zs, Iv p6, Rv b__2, Rv b__5, Rv b__9, Rv b__14, Rv b_20, Rv b_28, Iv (1 : Int32), Rv b__2] [])) tt_
      refine XS.iload X_140.here hEX rfl (hb hBY at_211) rfl ?_
      show Steps p.tables e below (T_140.setTop (mkF m 213 #[Lv q1, Zs, Lv q2, Zs, Lv q3, Zs, Lv q4, Zs, Lv q5, Zs, Iv p6, Rv b__2, Rv b__5, Rv b__9, Rv b__14, Rv b_20, Rv b_28, Iv (1 : Int32), Rv b__2] [(.int (1 : Int32))])) tt_
      refine XS.iconst X_140.here hEX rfl (hb hBY at_213) ?_
      show Steps p.tables e below (T_140.setTop (mkF m 214 #[Lv q1, Zs, Lv q2, Zs, Lv q3, Zs, Lv q4, Zs, Lv q5, Zs, Iv p6, Rv b__2, Rv b__5, Rv b__9, Rv b__14, Rv b_20, Rv b_28, Iv (1 : Int32), Rv b__2] [(.int (2 : Int32)), (.int (1 : Int32))])) tt_
      refine XS.icmpNo X_140.here hEX rfl (hb hBY at_214) rfl (feq (by decide : ¬ ((1 : Int32) = (2 : Int32)))).1 ?_
      show Steps p.tables e below (T_140.setTop (mkF m 217 #[Lv q1, Zs, Lv q2, Zs, Lv q3, Zs, Lv q4, Zs, Lv q5, Zs, Iv p6, Rv b__2, Rv b__5, Rv b__9, Rv b__14, Rv b_20, Rv b_28, Iv (1 : Int32), Rv b__2] [])) tt_
      refine XS.aload X_140.here hEX rfl (hb hBY at_217) rfl rfl ?_
      show Steps p.tables e below (T_140.setTop (mkF m 219 #[Lv q1, Zs, Lv q2, Zs, Lv q3, Zs, Lv q4, Zs, Lv q5, Zs, Iv p6, Rv b__2, Rv b__5, Rv b__9, Rv b__14, Rv b_20, Rv b_28, Iv (1 : Int32), Rv b__2] [(.ref b__5)])) tt_
      refine XS.aload X_140.here hEX rfl (hb hBY at_219) rfl rfl ?_
      exact kt_
    refine Done.pre sg_141 ?_
    obtain ⟨_, _, ⟨T_142, L_142, k_142, n_142⟩, -, X_142, ⟨Lc_142, hQ_142, l_142, y_142, z_142⟩, st_142⟩ := Jvm.LawKit.callS X_140 hEX (y := (⟨"com/example/guard3/guard3/P384FieldAddPinLaw", "same", "([J[J)Z"⟩ : MethodName)) hOW (mvT hZW (hw _ (List.mem_of_getElem? (i := 29) rfl))) (mvT hZW (hw _ (List.mem_of_getElem? (i := 30) rfl))) (mvT hZW (hw _ (List.mem_of_getElem? (i := 2) rfl))) (mvT hZW (hw _ (List.mem_of_getElem? (i := 31) rfl))) (by decide) (backOf (W := 0) (rm_same l Z aZ hw [] b__5 b__14 kb__5 kb__14 (own_limb q3 (5 : Int32)) (own_limb q4 (22 : Int32)) (own_limb q5 (39 : Int32)) (own_limb q1 (56 : Int32)) (own_limb q2 (9 : Int32)) (own_limb q3 (26 : Int32)) (own_limb q4 (43 : Int32)) (own_limb q5 (60 : Int32)) T_108.heap n0 (Nat.le_trans Z0 K__109.1) f_110 f_112) hZW (hw _ (List.mem_of_getElem? (i := 31) rfl)) (hw _ (List.mem_of_getElem? (i := 2) rfl)) (by decide) (by decide)) (g := (mkF m 221 #[Lv q1, Zs, Lv q2, Zs, Lv q3, Zs, Lv q4, Zs, Lv q5, Zs, Iv p6, Rv b__2, Rv b__5, Rv b__9, Rv b__14, Rv b_20, Rv b_28, Iv (1 : Int32), Rv b__2] [(.ref b__14), (.ref b__5)])) rfl (by rw [hMX]; rfl) (argsL := [(.ref b__5), (.ref b__14)]) (rest := []) (lenOf pd___J_J_Z_9 rfl) rfl (by show 2 * 0 + _ ≤ _; exact Nat.le_of_eq rfl) (hb hBY at_221) (fun _ _ => ⟨rfl, e_140, (by decide : 6 + 0 ≤ _), (by decide : 48 + 0 ≤ _)⟩)
    dsimp only [Pt.U, Pt.locs, Pt.cells, Pt.slots] at X_142 l_142 y_142 z_142 st_142 hQ_142
    subst l_142 y_142 z_142
    obtain ⟨rfl, N_142q, e_142⟩ := hQ_142
    have N_142 := Fr.app N_140 N_142q
    refine Done.pre (fun _ k_ => st_142 _ k_) ?_
    show Done _ _ _ _ _ _ _ (T_142.setTop (mkF m 224 #[Lv q1, Zs, Lv q2, Zs, Lv q3, Zs, Lv q4, Zs, Lv q5, Zs, Iv p6, Rv b__2, Rv b__5, Rv b__9, Rv b__14, Rv b_20, Rv b_28, Iv (1 : Int32), Rv b__2] [(.int (1 : Int32))]))
    have sg_143 : ∀ tt_, Steps p.tables e below (T_142.setTop (mkF m 235 #[Lv q1, Zs, Lv q2, Zs, Lv q3, Zs, Lv q4, Zs, Lv q5, Zs, Iv p6, Rv b__2, Rv b__5, Rv b__9, Rv b__14, Rv b_20, Rv b_28, Iv (1 : Int32), Rv b__2] [(.ref b_28), (.ref b__9), (.ref b__2)])) tt_ → Steps p.tables e below (T_142.setTop (mkF m 224 #[Lv q1, Zs, Lv q2, Zs, Lv q3, Zs, Lv q4, Zs, Lv q5, Zs, Iv p6, Rv b__2, Rv b__5, Rv b__9, Rv b__14, Rv b_20, Rv b_28, Iv (1 : Int32), Rv b__2] [(.int (1 : Int32))])) tt_ := by
      intro tt_ kt_
      refine XS.ifYes X_142.here hEX rfl (pc0 := 224) (pc' := 229) rfl (hb hBY at_224) rfl ((if0 _ _).trans (feq (by decide : ¬ ((1 : Int32) = (0 : Int32)))).2) (by decide) (by decide) ?_
      show Steps p.tables e below (T_142.setTop (mkF m 229 #[Lv q1, Zs, Lv q2, Zs, Lv q3, Zs, Lv q4, Zs, Lv q5, Zs, Iv p6, Rv b__2, Rv b__5, Rv b__9, Rv b__14, Rv b_20, Rv b_28, Iv (1 : Int32), Rv b__2] [])) tt_
      refine XS.aload X_142.here hEX rfl (hb hBY at_229) rfl rfl ?_
      show Steps p.tables e below (T_142.setTop (mkF m 231 #[Lv q1, Zs, Lv q2, Zs, Lv q3, Zs, Lv q4, Zs, Lv q5, Zs, Iv p6, Rv b__2, Rv b__5, Rv b__9, Rv b__14, Rv b_20, Rv b_28, Iv (1 : Int32), Rv b__2] [(.ref b__2)])) tt_
      refine XS.aload X_142.here hEX rfl (hb hBY at_231) rfl rfl ?_
      show Steps p.tables e below (T_142.setTop (mkF m 233 #[Lv q1, Zs, Lv q2, Zs, Lv q3, Zs, Lv q4, Zs, Lv q5, Zs, Iv p6, Rv b__2, Rv b__5, Rv b__9, Rv b__14, Rv b_20, Rv b_28, Iv (1 : Int32), Rv b__2] [(.ref b__9), (.ref b__2)])) tt_
      refine XS.aload X_142.here hEX rfl (hb hBY at_233) rfl rfl ?_
      exact kt_
    refine Done.pre sg_143 ?_
    obtain ⟨_, _, ⟨T_144, L_144, k_144, n_144⟩, -, X_144, ⟨Lc_144, hQ_144, l_144, y_144, z_144⟩, st_144⟩ := Jvm.LawKit.callS X_142 hEX (y := (⟨"com/example/guard3/guard3/P384Field", "subtract", "([J[J[J)V"⟩ : MethodName)) hOW (mvT hZW (hw _ (List.mem_of_getElem? (i := 32) rfl))) (mvT hZW (hw _ (List.mem_of_getElem? (i := 33) rfl))) (mvT hZW (hw _ (List.mem_of_getElem? (i := 18) rfl))) (mvT hZW (hw _ (List.mem_of_getElem? (i := 34) rfl))) (by decide) (backOf (W := 0) (rm_subtract_abo l Z aZ hw [] b__2 b__9 b_28 kb__2 r0 r1 r2 r3 r4 r5 r6 r7 kb__9 (own_limb q1 (0 : Int32)) (own_limb q2 (11 : Int32)) (own_limb q3 (22 : Int32)) (own_limb q4 (33 : Int32)) (own_limb q5 (44 : Int32)) (own_limb q1 (55 : Int32)) (own_limb q2 (2 : Int32)) (own_limb q3 (13 : Int32)) k_28 (0 : Int64) (0 : Int64) (0 : Int64) (0 : Int64) (0 : Int64) (0 : Int64) (0 : Int64) (0 : Int64) T_108.heap n0 (Nat.le_trans Z0 K__109.1) hq_108_0 f_111 f_116 ge_b_28 ne_b__2_b__9 ne_b__2_b_28 ne_b__9_b_28 (own_Rup _ _ _ _ _ _ _ _ _ _ (by decide) hRr) ⟨own_limbR _ _, own_limbR _ _, own_limbR _ _, own_limbR _ _, own_limbR _ _, own_limbR _ _, own_limbR _ _, own_limbR _ _⟩) hZW (hw _ (List.mem_of_getElem? (i := 34) rfl)) (hw _ (List.mem_of_getElem? (i := 18) rfl)) (by decide) (by decide)) (g := (mkF m 235 #[Lv q1, Zs, Lv q2, Zs, Lv q3, Zs, Lv q4, Zs, Lv q5, Zs, Iv p6, Rv b__2, Rv b__5, Rv b__9, Rv b__14, Rv b_20, Rv b_28, Iv (1 : Int32), Rv b__2] [(.ref b_28), (.ref b__9), (.ref b__2)])) rfl (by rw [hMX]; rfl) (argsL := [(.ref b__2), (.ref b__9), (.ref b_28)]) (rest := []) (lenOf pd___J_J_J_V_10 rfl) rfl (by show 2 * 0 + _ ≤ _; exact Nat.le_of_eq rfl) (hb hBY at_235) (fun _ _ => ⟨rfl, e_142, (by decide : 6 + 0 ≤ _), (by decide : 48 + 0 ≤ _)⟩)
    dsimp only [Pt.U, Pt.locs, Pt.cells, Pt.slots] at X_144 l_144 y_144 z_144 st_144 hQ_144
    subst l_144 y_144 z_144
    obtain ⟨s0, s1, s2, s3, s4, s5, s6, s7, rfl, N_144q, K_144, hq_144_0, hq_144_1, hq_144_2⟩ := hQ_144
    have N_144 := Fr.app N_142 N_144q
    have K__145 : Keep h0 T_144.heap [] := K__109.trans K_144 (allS (Or.inr sz_b_28) all0)
    have f_146 : Arv Z T_144.heap b__5 kb__5 .long (8 : Int32) [(.long (own_limb q3 (5 : Int32))), (.long (own_limb q4 (22 : Int32))), (.long (own_limb q5 (39 : Int32))), (.long (own_limb q1 (56 : Int32))), (.long (own_limb q2 (9 : Int32))), (.long (own_limb q3 (26 : Int32))), (.long (own_limb q4 (43 : Int32))), (.long (own_limb q5 (60 : Int32)))] (.long (0 : Int64)) := f_110.keep K_144 (ninS ne_b__5_b_28 nin0)
    have f_147 : Arv Z T_144.heap b__9 kb__9 .long (8 : Int32) [(.long (own_limb q1 (0 : Int32))), (.long (own_limb q2 (11 : Int32))), (.long (own_limb q3 (22 : Int32))), (.long (own_limb q4 (33 : Int32))), (.long (own_limb q5 (44 : Int32))), (.long (own_limb q1 (55 : Int32))), (.long (own_limb q2 (2 : Int32))), (.long (own_limb q3 (13 : Int32)))] (.long (0 : Int64)) := f_111.keep K_144 (ninS ne_b__9_b_28 nin0)
    have f_148 : Arv Z T_144.heap b__14 kb__14 .long (8 : Int32) [(.long (own_limb q3 (5 : Int32))), (.long (own_limb q4 (22 : Int32))), (.long (own_limb q5 (39 : Int32))), (.long (own_limb q1 (56 : Int32))), (.long (own_limb q2 (9 : Int32))), (.long (own_limb q3 (26 : Int32))), (.long (own_limb q4 (43 : Int32))), (.long (own_limb q5 (60 : Int32)))] (.long (0 : Int64)) := f_112.keep K_144 (ninS ne_b__14_b_28 nin0)
    have f_149 : Exa Z T_144.heap b_20 "[J" := f_113.keep K_144
    have f_150 : Arv Z T_144.heap b_20 k_20 .long (8 : Int32) [(.long (0 : Int64)), (.long (0 : Int64)), (.long (0 : Int64)), (.long (0 : Int64)), (.long (0 : Int64)), (.long (0 : Int64)), (.long (0 : Int64)), (.long (0 : Int64))] (.long (0 : Int64)) := f_114.keep K_144 (ninS ne_b_20_b_28 nin0)
    have f_151 : Exa Z T_144.heap b_28 "[J" := f_115.keep K_144
    have f_152 : Arv Z T_144.heap b__2 kb__2 .long (8 : Int32) [(.long r0), (.long r1), (.long r2), (.long r3), (.long r4), (.long r5), (.long r6), (.long r7)] (.long (0 : Int64)) := hq_108_0.keep K_144 (ninS ne_b__2_b_28 nin0)
    refine Done.pre (fun _ k_ => st_144 _ k_) ?_
    show Done _ _ _ _ _ _ _ (T_144.setTop (mkF m 238 #[Lv q1, Zs, Lv q2, Zs, Lv q3, Zs, Lv q4, Zs, Lv q5, Zs, Iv p6, Rv b__2, Rv b__5, Rv b__9, Rv b__14, Rv b_20, Rv b_28, Iv (1 : Int32), Rv b__2] []))
    have hRs := hq_144_1
    have hMs := hq_144_2
    have sg_153 : ∀ tt_, Steps p.tables e below (T_144.setTop (mkF m 244 #[Lv q1, Zs, Lv q2, Zs, Lv q3, Zs, Lv q4, Zs, Lv q5, Zs, Iv p6, Rv b__2, Rv b__5, Rv b__9, Rv b__14, Rv b_20, Rv b_28, Iv (1 : Int32), Rv b__2] [(.ref b_28), (.ref b__14), (.ref b_28)])) tt_ → Steps p.tables e below (T_144.setTop (mkF m 238 #[Lv q1, Zs, Lv q2, Zs, Lv q3, Zs, Lv q4, Zs, Lv q5, Zs, Iv p6, Rv b__2, Rv b__5, Rv b__9, Rv b__14, Rv b_20, Rv b_28, Iv (1 : Int32), Rv b__2] [])) tt_ := by
      intro tt_ kt_
      refine XS.aload X_144.here hEX rfl (hb hBY at_238) rfl rfl ?_
      show Steps p.tables e below (T_144.setTop (mkF m 240 #[Lv q1, Zs, Lv q2, Zs, Lv q3, Zs, Lv q4, Zs, Lv q5, Zs, Iv p6, Rv b__2, Rv b__5, Rv b__9, Rv b__14, Rv b_20, Rv b_28, Iv (1 : Int32), Rv b__2] [(.ref b_28)])) tt_
      refine XS.aload X_144.here hEX rfl (hb hBY at_240) rfl rfl ?_
      show Steps p.tables e below (T_144.setTop (mkF m 242 #[Lv q1, Zs, Lv q2, Zs, Lv q3, Zs, Lv q4, Zs, Lv q5, Zs, Iv p6, Rv b__2, Rv b__5, Rv b__9, Rv b__14, Rv b_20, Rv b_28, Iv (1 : Int32), Rv b__2] [(.ref b__14), (.ref b_28)])) tt_
      refine XS.aload X_144.here hEX rfl (hb hBY at_242) rfl rfl ?_
      exact kt_
    refine Done.pre sg_153 ?_
    obtain ⟨_, _, ⟨T_154, L_154, k_154, n_154⟩, -, X_154, ⟨Lc_154, hQ_154, l_154, y_154, z_154⟩, st_154⟩ := Jvm.LawKit.callS X_144 hEX (y := (⟨"com/example/guard3/guard3/P384Field", "subtract", "([J[J[J)V"⟩ : MethodName)) hOW (mvT hZW (hw _ (List.mem_of_getElem? (i := 32) rfl))) (mvT hZW (hw _ (List.mem_of_getElem? (i := 33) rfl))) (mvT hZW (hw _ (List.mem_of_getElem? (i := 18) rfl))) (mvT hZW (hw _ (List.mem_of_getElem? (i := 34) rfl))) (by decide) (backOf (W := 0) (rm_subtract_aba l Z aZ hw [] b_28 b__14 k_28 s0 s1 s2 s3 s4 s5 s6 s7 kb__14 (own_limb q3 (5 : Int32)) (own_limb q4 (22 : Int32)) (own_limb q5 (39 : Int32)) (own_limb q1 (56 : Int32)) (own_limb q2 (9 : Int32)) (own_limb q3 (26 : Int32)) (own_limb q4 (43 : Int32)) (own_limb q5 (60 : Int32)) T_144.heap n0 (Nat.le_trans Z0 K__145.1) hq_144_0 f_148 ge_b_28 (Ne.symm ne_b__14_b_28) (own_Rup _ _ _ _ _ _ _ _ _ _ (by decide) hRs) ⟨own_limbR _ _, own_limbR _ _, own_limbR _ _, own_limbR _ _, own_limbR _ _, own_limbR _ _, own_limbR _ _, own_limbR _ _⟩) hZW (hw _ (List.mem_of_getElem? (i := 34) rfl)) (hw _ (List.mem_of_getElem? (i := 18) rfl)) (by decide) (by decide)) (g := (mkF m 244 #[Lv q1, Zs, Lv q2, Zs, Lv q3, Zs, Lv q4, Zs, Lv q5, Zs, Iv p6, Rv b__2, Rv b__5, Rv b__9, Rv b__14, Rv b_20, Rv b_28, Iv (1 : Int32), Rv b__2] [(.ref b_28), (.ref b__14), (.ref b_28)])) rfl (by rw [hMX]; rfl) (argsL := [(.ref b_28), (.ref b__14), (.ref b_28)]) (rest := []) (lenOf pd___J_J_J_V_10 rfl) rfl (by show 2 * 0 + _ ≤ _; exact Nat.le_of_eq rfl) (hb hBY at_244) (fun _ _ => ⟨rfl, rfl, (by decide : 6 + 0 ≤ _), (by decide : 48 + 0 ≤ _)⟩)
    dsimp only [Pt.U, Pt.locs, Pt.cells, Pt.slots] at X_154 l_154 y_154 z_154 st_154 hQ_154
    subst l_154 y_154 z_154
    obtain ⟨u0, u1, u2, u3, u4, u5, u6, u7, rfl, N_154q, K_154, hq_154_0, hq_154_1, hq_154_2⟩ := hQ_154
    have N_154 := Fr.app N_144 N_154q
    have K__155 : Keep h0 T_154.heap [] := K__145.trans K_154 (allS (Or.inr sz_b_28) all0)
    have f_156 : Arv Z T_154.heap b__5 kb__5 .long (8 : Int32) [(.long (own_limb q3 (5 : Int32))), (.long (own_limb q4 (22 : Int32))), (.long (own_limb q5 (39 : Int32))), (.long (own_limb q1 (56 : Int32))), (.long (own_limb q2 (9 : Int32))), (.long (own_limb q3 (26 : Int32))), (.long (own_limb q4 (43 : Int32))), (.long (own_limb q5 (60 : Int32)))] (.long (0 : Int64)) := f_146.keep K_154 (ninS ne_b__5_b_28 nin0)
    have f_157 : Arv Z T_154.heap b__9 kb__9 .long (8 : Int32) [(.long (own_limb q1 (0 : Int32))), (.long (own_limb q2 (11 : Int32))), (.long (own_limb q3 (22 : Int32))), (.long (own_limb q4 (33 : Int32))), (.long (own_limb q5 (44 : Int32))), (.long (own_limb q1 (55 : Int32))), (.long (own_limb q2 (2 : Int32))), (.long (own_limb q3 (13 : Int32)))] (.long (0 : Int64)) := f_147.keep K_154 (ninS ne_b__9_b_28 nin0)
    have f_158 : Arv Z T_154.heap b__14 kb__14 .long (8 : Int32) [(.long (own_limb q3 (5 : Int32))), (.long (own_limb q4 (22 : Int32))), (.long (own_limb q5 (39 : Int32))), (.long (own_limb q1 (56 : Int32))), (.long (own_limb q2 (9 : Int32))), (.long (own_limb q3 (26 : Int32))), (.long (own_limb q4 (43 : Int32))), (.long (own_limb q5 (60 : Int32)))] (.long (0 : Int64)) := f_148.keep K_154 (ninS ne_b__14_b_28 nin0)
    have f_159 : Exa Z T_154.heap b_20 "[J" := f_149.keep K_154
    have f_160 : Arv Z T_154.heap b_20 k_20 .long (8 : Int32) [(.long (0 : Int64)), (.long (0 : Int64)), (.long (0 : Int64)), (.long (0 : Int64)), (.long (0 : Int64)), (.long (0 : Int64)), (.long (0 : Int64)), (.long (0 : Int64))] (.long (0 : Int64)) := f_150.keep K_154 (ninS ne_b_20_b_28 nin0)
    have f_161 : Exa Z T_154.heap b_28 "[J" := f_151.keep K_154
    have f_162 : Arv Z T_154.heap b__2 kb__2 .long (8 : Int32) [(.long r0), (.long r1), (.long r2), (.long r3), (.long r4), (.long r5), (.long r6), (.long r7)] (.long (0 : Int64)) := f_152.keep K_154 (ninS ne_b__2_b_28 nin0)
    refine Done.pre (fun _ k_ => st_154 _ k_) ?_
    show Done _ _ _ _ _ _ _ (T_154.setTop (mkF m 247 #[Lv q1, Zs, Lv q2, Zs, Lv q3, Zs, Lv q4, Zs, Lv q5, Zs, Iv p6, Rv b__2, Rv b__5, Rv b__9, Rv b__14, Rv b_20, Rv b_28, Iv (1 : Int32), Rv b__2] []))
    have hRu := hq_154_1
    have hMu := hq_154_2
    have sg_163 : ∀ tt_, Steps p.tables e below (T_154.setTop (mkF m 249 #[Lv q1, Zs, Lv q2, Zs, Lv q3, Zs, Lv q4, Zs, Lv q5, Zs, Iv p6, Rv b__2, Rv b__5, Rv b__9, Rv b__14, Rv b_20, Rv b_28, Iv (1 : Int32), Rv b__2] [(.ref b_28)])) tt_ → Steps p.tables e below (T_154.setTop (mkF m 247 #[Lv q1, Zs, Lv q2, Zs, Lv q3, Zs, Lv q4, Zs, Lv q5, Zs, Iv p6, Rv b__2, Rv b__5, Rv b__9, Rv b__14, Rv b_20, Rv b_28, Iv (1 : Int32), Rv b__2] [])) tt_ := by
      intro tt_ kt_
      refine XS.aload X_154.here hEX rfl (hb hBY at_247) rfl rfl ?_
      exact kt_
    refine Done.pre sg_163 ?_
    obtain ⟨_, _, ⟨T_164, L_164, k_164, n_164⟩, -, X_164, ⟨Lc_164, hQ_164, l_164, y_164, z_164⟩, st_164⟩ := Jvm.LawKit.callS X_154 hEX (y := (⟨"com/example/guard3/guard3/P384Field", "isZero", "([J)Z"⟩ : MethodName)) hOW (mvT hZW (hw _ (List.mem_of_getElem? (i := 35) rfl))) (mvT hZW (hw _ (List.mem_of_getElem? (i := 36) rfl))) (mvT hZW (hw _ (List.mem_of_getElem? (i := 18) rfl))) (mvT hZW (hw _ (List.mem_of_getElem? (i := 37) rfl))) (by decide) (backOf (W := 0) (rm_isz l Z aZ hw [] b_28 k_28 u0 u1 u2 u3 u4 u5 u6 u7 T_154.heap n0 (Nat.le_trans Z0 K__155.1) hq_154_0 f_161 hRu (own_sumM _ _ _ _ _ hMr hMs hMu)) hZW (hw _ (List.mem_of_getElem? (i := 37) rfl)) (hw _ (List.mem_of_getElem? (i := 18) rfl)) (by decide) (by decide)) (g := (mkF m 249 #[Lv q1, Zs, Lv q2, Zs, Lv q3, Zs, Lv q4, Zs, Lv q5, Zs, Iv p6, Rv b__2, Rv b__5, Rv b__9, Rv b__14, Rv b_20, Rv b_28, Iv (1 : Int32), Rv b__2] [(.ref b_28)])) rfl (by rw [hMX]; rfl) (argsL := [(.ref b_28)]) (rest := []) (lenOf pd___J_Z_5 rfl) rfl (by show 2 * 0 + _ ≤ _; exact Nat.le_of_eq rfl) (hb hBY at_249) (fun _ _ => ⟨rfl, rfl, (by decide : 6 + 2 ≤ _), (by decide : 48 + 16 ≤ _)⟩)
    dsimp only [Pt.U, Pt.locs, Pt.cells, Pt.slots] at X_164 l_164 y_164 z_164 st_164 hQ_164
    subst l_164 y_164 z_164
    obtain ⟨rfl, N_164q, K_164⟩ := hQ_164
    have N_164 := Fr.app N_154 N_164q
    have K__165 : Keep h0 T_164.heap [] := K__155.trans K_164 all0
    have f_166 : Arv Z T_164.heap b__5 kb__5 .long (8 : Int32) [(.long (own_limb q3 (5 : Int32))), (.long (own_limb q4 (22 : Int32))), (.long (own_limb q5 (39 : Int32))), (.long (own_limb q1 (56 : Int32))), (.long (own_limb q2 (9 : Int32))), (.long (own_limb q3 (26 : Int32))), (.long (own_limb q4 (43 : Int32))), (.long (own_limb q5 (60 : Int32)))] (.long (0 : Int64)) := f_156.keep K_164 nin0
    have f_167 : Arv Z T_164.heap b__9 kb__9 .long (8 : Int32) [(.long (own_limb q1 (0 : Int32))), (.long (own_limb q2 (11 : Int32))), (.long (own_limb q3 (22 : Int32))), (.long (own_limb q4 (33 : Int32))), (.long (own_limb q5 (44 : Int32))), (.long (own_limb q1 (55 : Int32))), (.long (own_limb q2 (2 : Int32))), (.long (own_limb q3 (13 : Int32)))] (.long (0 : Int64)) := f_157.keep K_164 nin0
    have f_168 : Arv Z T_164.heap b__14 kb__14 .long (8 : Int32) [(.long (own_limb q3 (5 : Int32))), (.long (own_limb q4 (22 : Int32))), (.long (own_limb q5 (39 : Int32))), (.long (own_limb q1 (56 : Int32))), (.long (own_limb q2 (9 : Int32))), (.long (own_limb q3 (26 : Int32))), (.long (own_limb q4 (43 : Int32))), (.long (own_limb q5 (60 : Int32)))] (.long (0 : Int64)) := f_158.keep K_164 nin0
    have f_169 : Exa Z T_164.heap b_20 "[J" := f_159.keep K_164
    have f_170 : Arv Z T_164.heap b_20 k_20 .long (8 : Int32) [(.long (0 : Int64)), (.long (0 : Int64)), (.long (0 : Int64)), (.long (0 : Int64)), (.long (0 : Int64)), (.long (0 : Int64)), (.long (0 : Int64)), (.long (0 : Int64))] (.long (0 : Int64)) := f_160.keep K_164 nin0
    have f_171 : Exa Z T_164.heap b_28 "[J" := f_161.keep K_164
    have f_172 : Arv Z T_164.heap b__2 kb__2 .long (8 : Int32) [(.long r0), (.long r1), (.long r2), (.long r3), (.long r4), (.long r5), (.long r6), (.long r7)] (.long (0 : Int64)) := f_162.keep K_164 nin0
    have f_173 : Arv Z T_164.heap b_28 k_28 .long (8 : Int32) [(.long u0), (.long u1), (.long u2), (.long u3), (.long u4), (.long u5), (.long u6), (.long u7)] (.long (0 : Int64)) := hq_154_0.keep K_164 nin0
    refine Done.pre (fun _ k_ => st_164 _ k_) ?_
    show Done _ _ _ _ _ _ _ (T_164.setTop (mkF m 252 #[Lv q1, Zs, Lv q2, Zs, Lv q3, Zs, Lv q4, Zs, Lv q5, Zs, Iv p6, Rv b__2, Rv b__5, Rv b__9, Rv b__14, Rv b_20, Rv b_28, Iv (1 : Int32), Rv b__2] [(.int (1 : Int32))]))
    exact Done.retN X_164 hEX hLK (t := .boolean) hRT (by simp) (hb hBY at_252) (by exact ⟨rfl, N_164, K__165⟩) (by decide) (by decide)
  · skip
    show Done _ _ _ _ _ _ _ (T_28.setTop (mkF m 71 #[Lv q1, Zs, Lv q2, Zs, Lv q3, Zs, Lv q4, Zs, Lv q5, Zs, Iv p6, Rv b__2, Rv b__5, Rv b__9, Rv b__14, Rv b_20, Rv b_28, Us, Us] [(.int (2 : Int32))]))
    have sg_174 : ∀ tt_, Steps p.tables e below (T_28.setTop (mkF m 106 #[Lv q1, Zs, Lv q2, Zs, Lv q3, Zs, Lv q4, Zs, Lv q5, Zs, Iv p6, Rv b__2, Rv b__5, Rv b__9, Rv b__14, Rv b_20, Rv b_28, Iv (2 : Int32), Rv b__5] [(.ref b__5), (.ref b__5), (.ref b__2)])) tt_ → Steps p.tables e below (T_28.setTop (mkF m 71 #[Lv q1, Zs, Lv q2, Zs, Lv q3, Zs, Lv q4, Zs, Lv q5, Zs, Iv p6, Rv b__2, Rv b__5, Rv b__9, Rv b__14, Rv b_20, Rv b_28, Us, Us] [(.int (2 : Int32))])) tt_ := by
      intro tt_ kt_
      refine XS.istore X_28.here hEX rfl (hb hBY at_71) rfl (l' := #[Lv q1, Zs, Lv q2, Zs, Lv q3, Zs, Lv q4, Zs, Lv q5, Zs, Iv p6, Rv b__2, Rv b__5, Rv b__9, Rv b__14, Rv b_20, Rv b_28, Iv (2 : Int32), Us]) rfl ?_
      show Steps p.tables e below (T_28.setTop (mkF m 73 #[Lv q1, Zs, Lv q2, Zs, Lv q3, Zs, Lv q4, Zs, Lv q5, Zs, Iv p6, Rv b__2, Rv b__5, Rv b__9, Rv b__14, Rv b_20, Rv b_28, Iv (2 : Int32), Us] [])) tt_
      refine XS.aload X_28.here hEX rfl (hb hBY at_73) rfl rfl ?_
      show Steps p.tables e below (T_28.setTop (mkF m 75 #[Lv q1, Zs, Lv q2, Zs, Lv q3, Zs, Lv q4, Zs, Lv q5, Zs, Iv p6, Rv b__2, Rv b__5, Rv b__9, Rv b__14, Rv b_20, Rv b_28, Iv (2 : Int32), Us] [(.ref b_20)])) tt_
      refine XS.astore X_28.here hEX rfl (hb hBY at_75) rfl rfl (l' := #[Lv q1, Zs, Lv q2, Zs, Lv q3, Zs, Lv q4, Zs, Lv q5, Zs, Iv p6, Rv b__2, Rv b__5, Rv b__9, Rv b__14, Rv b_20, Rv b_28, Iv (2 : Int32), Rv b_20]) rfl ?_
      show Steps p.tables e below (T_28.setTop (mkF m 77 #[Lv q1, Zs, Lv q2, Zs, Lv q3, Zs, Lv q4, Zs, Lv q5, Zs, Iv p6, Rv b__2, Rv b__5, Rv b__9, Rv b__14, Rv b_20, Rv b_28, Iv (2 : Int32), Rv b_20] [])) tt_
      refine XS.iload X_28.here hEX rfl (hb hBY at_77) rfl ?_
      show Steps p.tables e below (T_28.setTop (mkF m 79 #[Lv q1, Zs, Lv q2, Zs, Lv q3, Zs, Lv q4, Zs, Lv q5, Zs, Iv p6, Rv b__2, Rv b__5, Rv b__9, Rv b__14, Rv b_20, Rv b_28, Iv (2 : Int32), Rv b_20] [(.int (2 : Int32))])) tt_
      refine XS.iconst X_28.here hEX rfl (hb hBY at_79) ?_
      show Steps p.tables e below (T_28.setTop (mkF m 80 #[Lv q1, Zs, Lv q2, Zs, Lv q3, Zs, Lv q4, Zs, Lv q5, Zs, Iv p6, Rv b__2, Rv b__5, Rv b__9, Rv b__14, Rv b_20, Rv b_28, Iv (2 : Int32), Rv b_20] [(.int (1 : Int32)), (.int (2 : Int32))])) tt_
      refine XS.icmpYes X_28.here hEX rfl (pc0 := 80) (pc' := 90) rfl (hb hBY at_80) rfl (feq (by decide : ¬ ((2 : Int32) = (1 : Int32)))).2 (by decide) (by decide) ?_
      show Steps p.tables e below (T_28.setTop (mkF m 90 #[Lv q1, Zs, Lv q2, Zs, Lv q3, Zs, Lv q4, Zs, Lv q5, Zs, Iv p6, Rv b__2, Rv b__5, Rv b__9, Rv b__14, Rv b_20, Rv b_28, Iv (2 : Int32), Rv b_20] [])) tt_
      refine XS.iload X_28.here hEX rfl (hb hBY at_90) rfl ?_
      show Steps p.tables e below (T_28.setTop (mkF m 92 #[Lv q1, Zs, Lv q2, Zs, Lv q3, Zs, Lv q4, Zs, Lv q5, Zs, Iv p6, Rv b__2, Rv b__5, Rv b__9, Rv b__14, Rv b_20, Rv b_28, Iv (2 : Int32), Rv b_20] [(.int (2 : Int32))])) tt_
      refine XS.iconst X_28.here hEX rfl (hb hBY at_92) ?_
      show Steps p.tables e below (T_28.setTop (mkF m 93 #[Lv q1, Zs, Lv q2, Zs, Lv q3, Zs, Lv q4, Zs, Lv q5, Zs, Iv p6, Rv b__2, Rv b__5, Rv b__9, Rv b__14, Rv b_20, Rv b_28, Iv (2 : Int32), Rv b_20] [(.int (2 : Int32)), (.int (2 : Int32))])) tt_
      refine XS.icmpNo X_28.here hEX rfl (hb hBY at_93) rfl (teq (by decide : (2 : Int32) = (2 : Int32))).2 ?_
      show Steps p.tables e below (T_28.setTop (mkF m 96 #[Lv q1, Zs, Lv q2, Zs, Lv q3, Zs, Lv q4, Zs, Lv q5, Zs, Iv p6, Rv b__2, Rv b__5, Rv b__9, Rv b__14, Rv b_20, Rv b_28, Iv (2 : Int32), Rv b_20] [])) tt_
      refine XS.aload X_28.here hEX rfl (hb hBY at_96) rfl rfl ?_
      show Steps p.tables e below (T_28.setTop (mkF m 98 #[Lv q1, Zs, Lv q2, Zs, Lv q3, Zs, Lv q4, Zs, Lv q5, Zs, Iv p6, Rv b__2, Rv b__5, Rv b__9, Rv b__14, Rv b_20, Rv b_28, Iv (2 : Int32), Rv b_20] [(.ref b__5)])) tt_
      refine XS.astore X_28.here hEX rfl (hb hBY at_98) rfl rfl (l' := #[Lv q1, Zs, Lv q2, Zs, Lv q3, Zs, Lv q4, Zs, Lv q5, Zs, Iv p6, Rv b__2, Rv b__5, Rv b__9, Rv b__14, Rv b_20, Rv b_28, Iv (2 : Int32), Rv b__5]) rfl ?_
      show Steps p.tables e below (T_28.setTop (mkF m 100 #[Lv q1, Zs, Lv q2, Zs, Lv q3, Zs, Lv q4, Zs, Lv q5, Zs, Iv p6, Rv b__2, Rv b__5, Rv b__9, Rv b__14, Rv b_20, Rv b_28, Iv (2 : Int32), Rv b__5] [])) tt_
      refine XS.aload X_28.here hEX rfl (hb hBY at_100) rfl rfl ?_
      show Steps p.tables e below (T_28.setTop (mkF m 102 #[Lv q1, Zs, Lv q2, Zs, Lv q3, Zs, Lv q4, Zs, Lv q5, Zs, Iv p6, Rv b__2, Rv b__5, Rv b__9, Rv b__14, Rv b_20, Rv b_28, Iv (2 : Int32), Rv b__5] [(.ref b__2)])) tt_
      refine XS.aload X_28.here hEX rfl (hb hBY at_102) rfl rfl ?_
      show Steps p.tables e below (T_28.setTop (mkF m 104 #[Lv q1, Zs, Lv q2, Zs, Lv q3, Zs, Lv q4, Zs, Lv q5, Zs, Iv p6, Rv b__2, Rv b__5, Rv b__9, Rv b__14, Rv b_20, Rv b_28, Iv (2 : Int32), Rv b__5] [(.ref b__5), (.ref b__2)])) tt_
      refine XS.aload X_28.here hEX rfl (hb hBY at_104) rfl rfl ?_
      exact kt_
    refine Done.pre sg_174 ?_
    obtain ⟨_, _, ⟨T_175, L_175, k_175, n_175⟩, -, X_175, ⟨Lc_175, hQ_175, l_175, y_175, z_175⟩, st_175⟩ := Jvm.LawKit.callS X_28 hEX (y := (⟨"com/example/guard3/guard3/P384Field", "add", "([J[J[J)V"⟩ : MethodName)) hOW (mvT hZW (hw _ (List.mem_of_getElem? (i := 16) rfl))) (mvT hZW (hw _ (List.mem_of_getElem? (i := 17) rfl))) (mvT hZW (hw _ (List.mem_of_getElem? (i := 18) rfl))) (mvT hZW (hw _ (List.mem_of_getElem? (i := 19) rfl))) (by decide) (backOf (W := 0) (rm_add_abb l Z aZ hw [] b__2 b__5 kb__2 (own_limb q1 (0 : Int32)) (own_limb q2 (11 : Int32)) (own_limb q3 (22 : Int32)) (own_limb q4 (33 : Int32)) (own_limb q5 (44 : Int32)) (own_limb q1 (55 : Int32)) (own_limb q2 (2 : Int32)) (own_limb q3 (13 : Int32)) kb__5 (own_limb q3 (5 : Int32)) (own_limb q4 (22 : Int32)) (own_limb q5 (39 : Int32)) (own_limb q1 (56 : Int32)) (own_limb q2 (9 : Int32)) (own_limb q3 (26 : Int32)) (own_limb q4 (43 : Int32)) (own_limb q5 (60 : Int32)) h_28 n0 (Nat.le_trans Z0 K__29.1) f_30 f_31 (Nat.le_trans Z0 sz_b__5) ne_b__2_b__5 ⟨own_limbR _ _, own_limbR _ _, own_limbR _ _, own_limbR _ _, own_limbR _ _, own_limbR _ _, own_limbR _ _, own_limbR _ _⟩ ⟨own_limbR _ _, own_limbR _ _, own_limbR _ _, own_limbR _ _, own_limbR _ _, own_limbR _ _, own_limbR _ _, own_limbR _ _⟩) hZW (hw _ (List.mem_of_getElem? (i := 19) rfl)) (hw _ (List.mem_of_getElem? (i := 18) rfl)) (by decide) (by decide)) (g := (mkF m 106 #[Lv q1, Zs, Lv q2, Zs, Lv q3, Zs, Lv q4, Zs, Lv q5, Zs, Iv p6, Rv b__2, Rv b__5, Rv b__9, Rv b__14, Rv b_20, Rv b_28, Iv (2 : Int32), Rv b__5] [(.ref b__5), (.ref b__5), (.ref b__2)])) rfl (by rw [hMX]; rfl) (argsL := [(.ref b__2), (.ref b__5), (.ref b__5)]) (rest := []) (lenOf pd___J_J_J_V_10 rfl) rfl (by show 2 * 0 + _ ≤ _; exact Nat.le_of_eq rfl) (hb hBY at_106) (fun _ _ => ⟨rfl, e_28, (by decide : 6 + 0 ≤ _), (by decide : 48 + 0 ≤ _)⟩)
    dsimp only [Pt.U, Pt.locs, Pt.cells, Pt.slots] at X_175 l_175 y_175 z_175 st_175 hQ_175
    subst l_175 y_175 z_175
    obtain ⟨r0, r1, r2, r3, r4, r5, r6, r7, rfl, N_175q, K_175, hq_175_0, hq_175_1, hq_175_2⟩ := hQ_175
    have N_175 := Fr.app N_14 N_175q
    have K__176 : Keep h0 T_175.heap [] := K__29.trans K_175 (allS (Or.inr sz_b__5) all0)
    have f_177 : Arv Z T_175.heap b__2 kb__2 .long (8 : Int32) [(.long (own_limb q1 (0 : Int32))), (.long (own_limb q2 (11 : Int32))), (.long (own_limb q3 (22 : Int32))), (.long (own_limb q4 (33 : Int32))), (.long (own_limb q5 (44 : Int32))), (.long (own_limb q1 (55 : Int32))), (.long (own_limb q2 (2 : Int32))), (.long (own_limb q3 (13 : Int32)))] (.long (0 : Int64)) := f_30.keep K_175 (ninS ne_b__2_b__5 nin0)
    have f_178 : Arv Z T_175.heap b__9 kb__9 .long (8 : Int32) [(.long (own_limb q1 (0 : Int32))), (.long (own_limb q2 (11 : Int32))), (.long (own_limb q3 (22 : Int32))), (.long (own_limb q4 (33 : Int32))), (.long (own_limb q5 (44 : Int32))), (.long (own_limb q1 (55 : Int32))), (.long (own_limb q2 (2 : Int32))), (.long (own_limb q3 (13 : Int32)))] (.long (0 : Int64)) := f_32.keep K_175 (ninS (Ne.symm ne_b__5_b__9) nin0)
    have f_179 : Arv Z T_175.heap b__14 kb__14 .long (8 : Int32) [(.long (own_limb q3 (5 : Int32))), (.long (own_limb q4 (22 : Int32))), (.long (own_limb q5 (39 : Int32))), (.long (own_limb q1 (56 : Int32))), (.long (own_limb q2 (9 : Int32))), (.long (own_limb q3 (26 : Int32))), (.long (own_limb q4 (43 : Int32))), (.long (own_limb q5 (60 : Int32)))] (.long (0 : Int64)) := f_33.keep K_175 (ninS (Ne.symm ne_b__5_b__14) nin0)
    have f_180 : Exa Z T_175.heap b_20 "[J" := f_34.keep K_175
    have f_181 : Arv Z T_175.heap b_20 k_20 .long (8 : Int32) [(.long (0 : Int64)), (.long (0 : Int64)), (.long (0 : Int64)), (.long (0 : Int64)), (.long (0 : Int64)), (.long (0 : Int64)), (.long (0 : Int64)), (.long (0 : Int64))] (.long (0 : Int64)) := f_35.keep K_175 (ninS (Ne.symm ne_b__5_b_20) nin0)
    have f_182 : Exa Z T_175.heap b_28 "[J" := B_28.keep K_175
    have f_183 : Arv Z T_175.heap b_28 k_28 .long (8 : Int32) [(.long (0 : Int64)), (.long (0 : Int64)), (.long (0 : Int64)), (.long (0 : Int64)), (.long (0 : Int64)), (.long (0 : Int64)), (.long (0 : Int64)), (.long (0 : Int64))] (.long (0 : Int64)) := f_36.keep K_175 (ninS (Ne.symm ne_b__5_b_28) nin0)
    refine Done.pre (fun _ k_ => st_175 _ k_) ?_
    show Done _ _ _ _ _ _ _ (T_175.setTop (mkF m 109 #[Lv q1, Zs, Lv q2, Zs, Lv q3, Zs, Lv q4, Zs, Lv q5, Zs, Iv p6, Rv b__2, Rv b__5, Rv b__9, Rv b__14, Rv b_20, Rv b_28, Iv (2 : Int32), Rv b__5] []))
    have hRr := hq_175_1
    have hMr := hq_175_2
    obtain ⟨cl_184, Ar_184, q_184, S_184, N__184, H_184, G_184⟩ := id hq_175_0
    have hin_184 : ¬ ((0 : Int32) < 0 ∨ cl_184.slots.size ≤ ((0 : Int32)).toNatClampNeg) := inb_of S_184 ⟨by decide, by decide⟩
    have hat_184 : cl_184.slots[((0 : Int32)).toNatClampNeg]? = some (.long r0) := H_184.at hin_184 rfl
    have sg_185 : ∀ tt_, Steps p.tables e below (T_175.setTop (mkF m 113 #[Lv q1, Zs, Lv q2, Zs, Lv q3, Zs, Lv q4, Zs, Lv q5, Zs, Iv p6, Rv b__2, Rv b__5, Rv b__9, Rv b__14, Rv b_20, Rv b_28, Iv (2 : Int32), Rv b__5] [(.long r0)])) tt_ → Steps p.tables e below (T_175.setTop (mkF m 109 #[Lv q1, Zs, Lv q2, Zs, Lv q3, Zs, Lv q4, Zs, Lv q5, Zs, Iv p6, Rv b__2, Rv b__5, Rv b__9, Rv b__14, Rv b_20, Rv b_28, Iv (2 : Int32), Rv b__5] [])) tt_ := by
      intro tt_ kt_
      refine XS.aload X_175.here hEX rfl (hb hBY at_109) rfl rfl ?_
      show Steps p.tables e below (T_175.setTop (mkF m 111 #[Lv q1, Zs, Lv q2, Zs, Lv q3, Zs, Lv q4, Zs, Lv q5, Zs, Iv p6, Rv b__2, Rv b__5, Rv b__9, Rv b__14, Rv b_20, Rv b_28, Iv (2 : Int32), Rv b__5] [(.ref b__5)])) tt_
      refine XS.iconst X_175.here hEX rfl (hb hBY at_111) ?_
      show Steps p.tables e below (T_175.setTop (mkF m 112 #[Lv q1, Zs, Lv q2, Zs, Lv q3, Zs, Lv q4, Zs, Lv q5, Zs, Iv p6, Rv b__2, Rv b__5, Rv b__9, Rv b__14, Rv b_20, Rv b_28, Iv (2 : Int32), Rv b__5] [(.int (0 : Int32)), (.ref b__5)])) tt_
      refine X_175.laload hEX (j := (0 : Int32)) (v := (.long r0)) Ar_184.1 (State.isArrayOf_alike hZW.alike Ar_184.2.1) Ar_184.2.2 hin_184 hat_184 (g := (mkF m 112 #[Lv q1, Zs, Lv q2, Zs, Lv q3, Zs, Lv q4, Zs, Lv q5, Zs, Iv p6, Rv b__2, Rv b__5, Rv b__9, Rv b__14, Rv b_20, Rv b_28, Iv (2 : Int32), Rv b__5] [(.int (0 : Int32)), (.ref b__5)])) rfl rfl (hb hBY at_112) _ ?_
      exact kt_
    refine Done.pre sg_185 ?_
    obtain ⟨_, _, ⟨T_186, L_186, k_186, n_186⟩, -, X_186, ⟨Lc_186, hQ_186, l_186, y_186, z_186⟩, st_186⟩ := Jvm.LawKit.callS X_175 hEX (y := (⟨"com/example/guard3/guard3/P384FieldAddPinLaw", "inRange", "(J)Z"⟩ : MethodName)) hOW (mvT hZW (hw _ (List.mem_of_getElem? (i := 25) rfl))) (mvT hZW (hw _ (List.mem_of_getElem? (i := 26) rfl))) (mvT hZW (hw _ (List.mem_of_getElem? (i := 2) rfl))) (mvT hZW (hw _ (List.mem_of_getElem? (i := 27) rfl))) (by decide) (backOf (W := 0) (rm_inr l Z aZ hw [] r0 T_175.heap n0 (Nat.le_trans Z0 K__176.1) (own_inlo _ hRr.1) (own_inhi _ hRr.1)) hZW (hw _ (List.mem_of_getElem? (i := 27) rfl)) (hw _ (List.mem_of_getElem? (i := 2) rfl)) (by decide) (by decide)) (g := (mkF m 113 #[Lv q1, Zs, Lv q2, Zs, Lv q3, Zs, Lv q4, Zs, Lv q5, Zs, Iv p6, Rv b__2, Rv b__5, Rv b__9, Rv b__14, Rv b_20, Rv b_28, Iv (2 : Int32), Rv b__5] [(.long r0)])) rfl (by rw [hMX]; rfl) (argsL := [(.long r0)]) (rest := []) (lenOf pd__J_Z_1 rfl) rfl (by show 2 * 0 + _ ≤ _; exact Nat.le_of_eq rfl) (hb hBY at_113) (fun _ _ => ⟨rfl, rfl, (by decide : 6 + 0 ≤ _), (by decide : 48 + 0 ≤ _)⟩)
    dsimp only [Pt.U, Pt.locs, Pt.cells, Pt.slots] at X_186 l_186 y_186 z_186 st_186 hQ_186
    subst l_186 y_186 z_186
    obtain ⟨rfl, N_186q, e_186⟩ := hQ_186
    have N_186 := Fr.app N_175 N_186q
    refine Done.pre (fun _ k_ => st_186 _ k_) ?_
    show Done _ _ _ _ _ _ _ (T_186.setTop (mkF m 116 #[Lv q1, Zs, Lv q2, Zs, Lv q3, Zs, Lv q4, Zs, Lv q5, Zs, Iv p6, Rv b__2, Rv b__5, Rv b__9, Rv b__14, Rv b_20, Rv b_28, Iv (2 : Int32), Rv b__5] [(.int (1 : Int32))]))
    obtain ⟨cl_187, Ar_187, q_187, S_187, N__187, H_187, G_187⟩ := id hq_175_0
    have hin_187 : ¬ ((1 : Int32) < 0 ∨ cl_187.slots.size ≤ ((1 : Int32)).toNatClampNeg) := inb_of S_187 ⟨by decide, by decide⟩
    have hat_187 : cl_187.slots[((1 : Int32)).toNatClampNeg]? = some (.long r1) := H_187.at hin_187 rfl
    have sg_188 : ∀ tt_, Steps p.tables e below (T_186.setTop (mkF m 123 #[Lv q1, Zs, Lv q2, Zs, Lv q3, Zs, Lv q4, Zs, Lv q5, Zs, Iv p6, Rv b__2, Rv b__5, Rv b__9, Rv b__14, Rv b_20, Rv b_28, Iv (2 : Int32), Rv b__5] [(.long r1)])) tt_ → Steps p.tables e below (T_186.setTop (mkF m 116 #[Lv q1, Zs, Lv q2, Zs, Lv q3, Zs, Lv q4, Zs, Lv q5, Zs, Iv p6, Rv b__2, Rv b__5, Rv b__9, Rv b__14, Rv b_20, Rv b_28, Iv (2 : Int32), Rv b__5] [(.int (1 : Int32))])) tt_ := by
      intro tt_ kt_
      refine XS.ifNo X_186.here hEX rfl (hb hBY at_116) rfl ((if0 _ _).trans (feq (by decide : ¬ ((1 : Int32) = (0 : Int32)))).1) ?_
      show Steps p.tables e below (T_186.setTop (mkF m 119 #[Lv q1, Zs, Lv q2, Zs, Lv q3, Zs, Lv q4, Zs, Lv q5, Zs, Iv p6, Rv b__2, Rv b__5, Rv b__9, Rv b__14, Rv b_20, Rv b_28, Iv (2 : Int32), Rv b__5] [])) tt_
      refine XS.aload X_186.here hEX rfl (hb hBY at_119) rfl rfl ?_
      show Steps p.tables e below (T_186.setTop (mkF m 121 #[Lv q1, Zs, Lv q2, Zs, Lv q3, Zs, Lv q4, Zs, Lv q5, Zs, Iv p6, Rv b__2, Rv b__5, Rv b__9, Rv b__14, Rv b_20, Rv b_28, Iv (2 : Int32), Rv b__5] [(.ref b__5)])) tt_
      refine XS.iconst X_186.here hEX rfl (hb hBY at_121) ?_
      show Steps p.tables e below (T_186.setTop (mkF m 122 #[Lv q1, Zs, Lv q2, Zs, Lv q3, Zs, Lv q4, Zs, Lv q5, Zs, Iv p6, Rv b__2, Rv b__5, Rv b__9, Rv b__14, Rv b_20, Rv b_28, Iv (2 : Int32), Rv b__5] [(.int (1 : Int32)), (.ref b__5)])) tt_
      refine X_186.laload hEX (j := (1 : Int32)) (v := (.long r1)) (by rw [e_186]; exact Ar_187.1) (State.isArrayOf_alike hZW.alike Ar_187.2.1) Ar_187.2.2 hin_187 hat_187 (g := (mkF m 122 #[Lv q1, Zs, Lv q2, Zs, Lv q3, Zs, Lv q4, Zs, Lv q5, Zs, Iv p6, Rv b__2, Rv b__5, Rv b__9, Rv b__14, Rv b_20, Rv b_28, Iv (2 : Int32), Rv b__5] [(.int (1 : Int32)), (.ref b__5)])) rfl rfl (hb hBY at_122) _ ?_
      exact kt_
    refine Done.pre sg_188 ?_
    obtain ⟨_, _, ⟨T_189, L_189, k_189, n_189⟩, -, X_189, ⟨Lc_189, hQ_189, l_189, y_189, z_189⟩, st_189⟩ := Jvm.LawKit.callS X_186 hEX (y := (⟨"com/example/guard3/guard3/P384FieldAddPinLaw", "inRange", "(J)Z"⟩ : MethodName)) hOW (mvT hZW (hw _ (List.mem_of_getElem? (i := 25) rfl))) (mvT hZW (hw _ (List.mem_of_getElem? (i := 26) rfl))) (mvT hZW (hw _ (List.mem_of_getElem? (i := 2) rfl))) (mvT hZW (hw _ (List.mem_of_getElem? (i := 27) rfl))) (by decide) (backOf (W := 0) (rm_inr l Z aZ hw [] r1 T_175.heap n0 (Nat.le_trans Z0 K__176.1) (own_inlo _ hRr.2.1) (own_inhi _ hRr.2.1)) hZW (hw _ (List.mem_of_getElem? (i := 27) rfl)) (hw _ (List.mem_of_getElem? (i := 2) rfl)) (by decide) (by decide)) (g := (mkF m 123 #[Lv q1, Zs, Lv q2, Zs, Lv q3, Zs, Lv q4, Zs, Lv q5, Zs, Iv p6, Rv b__2, Rv b__5, Rv b__9, Rv b__14, Rv b_20, Rv b_28, Iv (2 : Int32), Rv b__5] [(.long r1)])) rfl (by rw [hMX]; rfl) (argsL := [(.long r1)]) (rest := []) (lenOf pd__J_Z_1 rfl) rfl (by show 2 * 0 + _ ≤ _; exact Nat.le_of_eq rfl) (hb hBY at_123) (fun _ _ => ⟨rfl, e_186, (by decide : 6 + 0 ≤ _), (by decide : 48 + 0 ≤ _)⟩)
    dsimp only [Pt.U, Pt.locs, Pt.cells, Pt.slots] at X_189 l_189 y_189 z_189 st_189 hQ_189
    subst l_189 y_189 z_189
    obtain ⟨rfl, N_189q, e_189⟩ := hQ_189
    have N_189 := Fr.app N_186 N_189q
    refine Done.pre (fun _ k_ => st_189 _ k_) ?_
    show Done _ _ _ _ _ _ _ (T_189.setTop (mkF m 126 #[Lv q1, Zs, Lv q2, Zs, Lv q3, Zs, Lv q4, Zs, Lv q5, Zs, Iv p6, Rv b__2, Rv b__5, Rv b__9, Rv b__14, Rv b_20, Rv b_28, Iv (2 : Int32), Rv b__5] [(.int (1 : Int32))]))
    obtain ⟨cl_190, Ar_190, q_190, S_190, N__190, H_190, G_190⟩ := id hq_175_0
    have hin_190 : ¬ ((2 : Int32) < 0 ∨ cl_190.slots.size ≤ ((2 : Int32)).toNatClampNeg) := inb_of S_190 ⟨by decide, by decide⟩
    have hat_190 : cl_190.slots[((2 : Int32)).toNatClampNeg]? = some (.long r2) := H_190.at hin_190 rfl
    have sg_191 : ∀ tt_, Steps p.tables e below (T_189.setTop (mkF m 133 #[Lv q1, Zs, Lv q2, Zs, Lv q3, Zs, Lv q4, Zs, Lv q5, Zs, Iv p6, Rv b__2, Rv b__5, Rv b__9, Rv b__14, Rv b_20, Rv b_28, Iv (2 : Int32), Rv b__5] [(.long r2)])) tt_ → Steps p.tables e below (T_189.setTop (mkF m 126 #[Lv q1, Zs, Lv q2, Zs, Lv q3, Zs, Lv q4, Zs, Lv q5, Zs, Iv p6, Rv b__2, Rv b__5, Rv b__9, Rv b__14, Rv b_20, Rv b_28, Iv (2 : Int32), Rv b__5] [(.int (1 : Int32))])) tt_ := by
      intro tt_ kt_
      refine XS.ifNo X_189.here hEX rfl (hb hBY at_126) rfl ((if0 _ _).trans (feq (by decide : ¬ ((1 : Int32) = (0 : Int32)))).1) ?_
      show Steps p.tables e below (T_189.setTop (mkF m 129 #[Lv q1, Zs, Lv q2, Zs, Lv q3, Zs, Lv q4, Zs, Lv q5, Zs, Iv p6, Rv b__2, Rv b__5, Rv b__9, Rv b__14, Rv b_20, Rv b_28, Iv (2 : Int32), Rv b__5] [])) tt_
      refine XS.aload X_189.here hEX rfl (hb hBY at_129) rfl rfl ?_
      show Steps p.tables e below (T_189.setTop (mkF m 131 #[Lv q1, Zs, Lv q2, Zs, Lv q3, Zs, Lv q4, Zs, Lv q5, Zs, Iv p6, Rv b__2, Rv b__5, Rv b__9, Rv b__14, Rv b_20, Rv b_28, Iv (2 : Int32), Rv b__5] [(.ref b__5)])) tt_
      refine XS.iconst X_189.here hEX rfl (hb hBY at_131) ?_
      show Steps p.tables e below (T_189.setTop (mkF m 132 #[Lv q1, Zs, Lv q2, Zs, Lv q3, Zs, Lv q4, Zs, Lv q5, Zs, Iv p6, Rv b__2, Rv b__5, Rv b__9, Rv b__14, Rv b_20, Rv b_28, Iv (2 : Int32), Rv b__5] [(.int (2 : Int32)), (.ref b__5)])) tt_
      refine X_189.laload hEX (j := (2 : Int32)) (v := (.long r2)) (by rw [e_189]; exact Ar_190.1) (State.isArrayOf_alike hZW.alike Ar_190.2.1) Ar_190.2.2 hin_190 hat_190 (g := (mkF m 132 #[Lv q1, Zs, Lv q2, Zs, Lv q3, Zs, Lv q4, Zs, Lv q5, Zs, Iv p6, Rv b__2, Rv b__5, Rv b__9, Rv b__14, Rv b_20, Rv b_28, Iv (2 : Int32), Rv b__5] [(.int (2 : Int32)), (.ref b__5)])) rfl rfl (hb hBY at_132) _ ?_
      exact kt_
    refine Done.pre sg_191 ?_
    obtain ⟨_, _, ⟨T_192, L_192, k_192, n_192⟩, -, X_192, ⟨Lc_192, hQ_192, l_192, y_192, z_192⟩, st_192⟩ := Jvm.LawKit.callS X_189 hEX (y := (⟨"com/example/guard3/guard3/P384FieldAddPinLaw", "inRange", "(J)Z"⟩ : MethodName)) hOW (mvT hZW (hw _ (List.mem_of_getElem? (i := 25) rfl))) (mvT hZW (hw _ (List.mem_of_getElem? (i := 26) rfl))) (mvT hZW (hw _ (List.mem_of_getElem? (i := 2) rfl))) (mvT hZW (hw _ (List.mem_of_getElem? (i := 27) rfl))) (by decide) (backOf (W := 0) (rm_inr l Z aZ hw [] r2 T_175.heap n0 (Nat.le_trans Z0 K__176.1) (own_inlo _ hRr.2.2.1) (own_inhi _ hRr.2.2.1)) hZW (hw _ (List.mem_of_getElem? (i := 27) rfl)) (hw _ (List.mem_of_getElem? (i := 2) rfl)) (by decide) (by decide)) (g := (mkF m 133 #[Lv q1, Zs, Lv q2, Zs, Lv q3, Zs, Lv q4, Zs, Lv q5, Zs, Iv p6, Rv b__2, Rv b__5, Rv b__9, Rv b__14, Rv b_20, Rv b_28, Iv (2 : Int32), Rv b__5] [(.long r2)])) rfl (by rw [hMX]; rfl) (argsL := [(.long r2)]) (rest := []) (lenOf pd__J_Z_1 rfl) rfl (by show 2 * 0 + _ ≤ _; exact Nat.le_of_eq rfl) (hb hBY at_133) (fun _ _ => ⟨rfl, e_189, (by decide : 6 + 0 ≤ _), (by decide : 48 + 0 ≤ _)⟩)
    dsimp only [Pt.U, Pt.locs, Pt.cells, Pt.slots] at X_192 l_192 y_192 z_192 st_192 hQ_192
    subst l_192 y_192 z_192
    obtain ⟨rfl, N_192q, e_192⟩ := hQ_192
    have N_192 := Fr.app N_189 N_192q
    refine Done.pre (fun _ k_ => st_192 _ k_) ?_
    show Done _ _ _ _ _ _ _ (T_192.setTop (mkF m 136 #[Lv q1, Zs, Lv q2, Zs, Lv q3, Zs, Lv q4, Zs, Lv q5, Zs, Iv p6, Rv b__2, Rv b__5, Rv b__9, Rv b__14, Rv b_20, Rv b_28, Iv (2 : Int32), Rv b__5] [(.int (1 : Int32))]))
    obtain ⟨cl_193, Ar_193, q_193, S_193, N__193, H_193, G_193⟩ := id hq_175_0
    have hin_193 : ¬ ((3 : Int32) < 0 ∨ cl_193.slots.size ≤ ((3 : Int32)).toNatClampNeg) := inb_of S_193 ⟨by decide, by decide⟩
    have hat_193 : cl_193.slots[((3 : Int32)).toNatClampNeg]? = some (.long r3) := H_193.at hin_193 rfl
    have sg_194 : ∀ tt_, Steps p.tables e below (T_192.setTop (mkF m 143 #[Lv q1, Zs, Lv q2, Zs, Lv q3, Zs, Lv q4, Zs, Lv q5, Zs, Iv p6, Rv b__2, Rv b__5, Rv b__9, Rv b__14, Rv b_20, Rv b_28, Iv (2 : Int32), Rv b__5] [(.long r3)])) tt_ → Steps p.tables e below (T_192.setTop (mkF m 136 #[Lv q1, Zs, Lv q2, Zs, Lv q3, Zs, Lv q4, Zs, Lv q5, Zs, Iv p6, Rv b__2, Rv b__5, Rv b__9, Rv b__14, Rv b_20, Rv b_28, Iv (2 : Int32), Rv b__5] [(.int (1 : Int32))])) tt_ := by
      intro tt_ kt_
      refine XS.ifNo X_192.here hEX rfl (hb hBY at_136) rfl ((if0 _ _).trans (feq (by decide : ¬ ((1 : Int32) = (0 : Int32)))).1) ?_
      show Steps p.tables e below (T_192.setTop (mkF m 139 #[Lv q1, Zs, Lv q2, Zs, Lv q3, Zs, Lv q4, Zs, Lv q5, Zs, Iv p6, Rv b__2, Rv b__5, Rv b__9, Rv b__14, Rv b_20, Rv b_28, Iv (2 : Int32), Rv b__5] [])) tt_
      refine XS.aload X_192.here hEX rfl (hb hBY at_139) rfl rfl ?_
      show Steps p.tables e below (T_192.setTop (mkF m 141 #[Lv q1, Zs, Lv q2, Zs, Lv q3, Zs, Lv q4, Zs, Lv q5, Zs, Iv p6, Rv b__2, Rv b__5, Rv b__9, Rv b__14, Rv b_20, Rv b_28, Iv (2 : Int32), Rv b__5] [(.ref b__5)])) tt_
      refine XS.iconst X_192.here hEX rfl (hb hBY at_141) ?_
      show Steps p.tables e below (T_192.setTop (mkF m 142 #[Lv q1, Zs, Lv q2, Zs, Lv q3, Zs, Lv q4, Zs, Lv q5, Zs, Iv p6, Rv b__2, Rv b__5, Rv b__9, Rv b__14, Rv b_20, Rv b_28, Iv (2 : Int32), Rv b__5] [(.int (3 : Int32)), (.ref b__5)])) tt_
      refine X_192.laload hEX (j := (3 : Int32)) (v := (.long r3)) (by rw [e_192]; exact Ar_193.1) (State.isArrayOf_alike hZW.alike Ar_193.2.1) Ar_193.2.2 hin_193 hat_193 (g := (mkF m 142 #[Lv q1, Zs, Lv q2, Zs, Lv q3, Zs, Lv q4, Zs, Lv q5, Zs, Iv p6, Rv b__2, Rv b__5, Rv b__9, Rv b__14, Rv b_20, Rv b_28, Iv (2 : Int32), Rv b__5] [(.int (3 : Int32)), (.ref b__5)])) rfl rfl (hb hBY at_142) _ ?_
      exact kt_
    refine Done.pre sg_194 ?_
    obtain ⟨_, _, ⟨T_195, L_195, k_195, n_195⟩, -, X_195, ⟨Lc_195, hQ_195, l_195, y_195, z_195⟩, st_195⟩ := Jvm.LawKit.callS X_192 hEX (y := (⟨"com/example/guard3/guard3/P384FieldAddPinLaw", "inRange", "(J)Z"⟩ : MethodName)) hOW (mvT hZW (hw _ (List.mem_of_getElem? (i := 25) rfl))) (mvT hZW (hw _ (List.mem_of_getElem? (i := 26) rfl))) (mvT hZW (hw _ (List.mem_of_getElem? (i := 2) rfl))) (mvT hZW (hw _ (List.mem_of_getElem? (i := 27) rfl))) (by decide) (backOf (W := 0) (rm_inr l Z aZ hw [] r3 T_175.heap n0 (Nat.le_trans Z0 K__176.1) (own_inlo _ hRr.2.2.2.1) (own_inhi _ hRr.2.2.2.1)) hZW (hw _ (List.mem_of_getElem? (i := 27) rfl)) (hw _ (List.mem_of_getElem? (i := 2) rfl)) (by decide) (by decide)) (g := (mkF m 143 #[Lv q1, Zs, Lv q2, Zs, Lv q3, Zs, Lv q4, Zs, Lv q5, Zs, Iv p6, Rv b__2, Rv b__5, Rv b__9, Rv b__14, Rv b_20, Rv b_28, Iv (2 : Int32), Rv b__5] [(.long r3)])) rfl (by rw [hMX]; rfl) (argsL := [(.long r3)]) (rest := []) (lenOf pd__J_Z_1 rfl) rfl (by show 2 * 0 + _ ≤ _; exact Nat.le_of_eq rfl) (hb hBY at_143) (fun _ _ => ⟨rfl, e_192, (by decide : 6 + 0 ≤ _), (by decide : 48 + 0 ≤ _)⟩)
    dsimp only [Pt.U, Pt.locs, Pt.cells, Pt.slots] at X_195 l_195 y_195 z_195 st_195 hQ_195
    subst l_195 y_195 z_195
    obtain ⟨rfl, N_195q, e_195⟩ := hQ_195
    have N_195 := Fr.app N_192 N_195q
    refine Done.pre (fun _ k_ => st_195 _ k_) ?_
    show Done _ _ _ _ _ _ _ (T_195.setTop (mkF m 146 #[Lv q1, Zs, Lv q2, Zs, Lv q3, Zs, Lv q4, Zs, Lv q5, Zs, Iv p6, Rv b__2, Rv b__5, Rv b__9, Rv b__14, Rv b_20, Rv b_28, Iv (2 : Int32), Rv b__5] [(.int (1 : Int32))]))
    obtain ⟨cl_196, Ar_196, q_196, S_196, N__196, H_196, G_196⟩ := id hq_175_0
    have hin_196 : ¬ ((4 : Int32) < 0 ∨ cl_196.slots.size ≤ ((4 : Int32)).toNatClampNeg) := inb_of S_196 ⟨by decide, by decide⟩
    have hat_196 : cl_196.slots[((4 : Int32)).toNatClampNeg]? = some (.long r4) := H_196.at hin_196 rfl
    have sg_197 : ∀ tt_, Steps p.tables e below (T_195.setTop (mkF m 153 #[Lv q1, Zs, Lv q2, Zs, Lv q3, Zs, Lv q4, Zs, Lv q5, Zs, Iv p6, Rv b__2, Rv b__5, Rv b__9, Rv b__14, Rv b_20, Rv b_28, Iv (2 : Int32), Rv b__5] [(.long r4)])) tt_ → Steps p.tables e below (T_195.setTop (mkF m 146 #[Lv q1, Zs, Lv q2, Zs, Lv q3, Zs, Lv q4, Zs, Lv q5, Zs, Iv p6, Rv b__2, Rv b__5, Rv b__9, Rv b__14, Rv b_20, Rv b_28, Iv (2 : Int32), Rv b__5] [(.int (1 : Int32))])) tt_ := by
      intro tt_ kt_
      refine XS.ifNo X_195.here hEX rfl (hb hBY at_146) rfl ((if0 _ _).trans (feq (by decide : ¬ ((1 : Int32) = (0 : Int32)))).1) ?_
      show Steps p.tables e below (T_195.setTop (mkF m 149 #[Lv q1, Zs, Lv q2, Zs, Lv q3, Zs, Lv q4, Zs, Lv q5, Zs, Iv p6, Rv b__2, Rv b__5, Rv b__9, Rv b__14, Rv b_20, Rv b_28, Iv (2 : Int32), Rv b__5] [])) tt_
      refine XS.aload X_195.here hEX rfl (hb hBY at_149) rfl rfl ?_
      show Steps p.tables e below (T_195.setTop (mkF m 151 #[Lv q1, Zs, Lv q2, Zs, Lv q3, Zs, Lv q4, Zs, Lv q5, Zs, Iv p6, Rv b__2, Rv b__5, Rv b__9, Rv b__14, Rv b_20, Rv b_28, Iv (2 : Int32), Rv b__5] [(.ref b__5)])) tt_
      refine XS.iconst X_195.here hEX rfl (hb hBY at_151) ?_
      show Steps p.tables e below (T_195.setTop (mkF m 152 #[Lv q1, Zs, Lv q2, Zs, Lv q3, Zs, Lv q4, Zs, Lv q5, Zs, Iv p6, Rv b__2, Rv b__5, Rv b__9, Rv b__14, Rv b_20, Rv b_28, Iv (2 : Int32), Rv b__5] [(.int (4 : Int32)), (.ref b__5)])) tt_
      refine X_195.laload hEX (j := (4 : Int32)) (v := (.long r4)) (by rw [e_195]; exact Ar_196.1) (State.isArrayOf_alike hZW.alike Ar_196.2.1) Ar_196.2.2 hin_196 hat_196 (g := (mkF m 152 #[Lv q1, Zs, Lv q2, Zs, Lv q3, Zs, Lv q4, Zs, Lv q5, Zs, Iv p6, Rv b__2, Rv b__5, Rv b__9, Rv b__14, Rv b_20, Rv b_28, Iv (2 : Int32), Rv b__5] [(.int (4 : Int32)), (.ref b__5)])) rfl rfl (hb hBY at_152) _ ?_
      exact kt_
    refine Done.pre sg_197 ?_
    obtain ⟨_, _, ⟨T_198, L_198, k_198, n_198⟩, -, X_198, ⟨Lc_198, hQ_198, l_198, y_198, z_198⟩, st_198⟩ := Jvm.LawKit.callS X_195 hEX (y := (⟨"com/example/guard3/guard3/P384FieldAddPinLaw", "inRange", "(J)Z"⟩ : MethodName)) hOW (mvT hZW (hw _ (List.mem_of_getElem? (i := 25) rfl))) (mvT hZW (hw _ (List.mem_of_getElem? (i := 26) rfl))) (mvT hZW (hw _ (List.mem_of_getElem? (i := 2) rfl))) (mvT hZW (hw _ (List.mem_of_getElem? (i := 27) rfl))) (by decide) (backOf (W := 0) (rm_inr l Z aZ hw [] r4 T_175.heap n0 (Nat.le_trans Z0 K__176.1) (own_inlo _ hRr.2.2.2.2.1) (own_inhi _ hRr.2.2.2.2.1)) hZW (hw _ (List.mem_of_getElem? (i := 27) rfl)) (hw _ (List.mem_of_getElem? (i := 2) rfl)) (by decide) (by decide)) (g := (mkF m 153 #[Lv q1, Zs, Lv q2, Zs, Lv q3, Zs, Lv q4, Zs, Lv q5, Zs, Iv p6, Rv b__2, Rv b__5, Rv b__9, Rv b__14, Rv b_20, Rv b_28, Iv (2 : Int32), Rv b__5] [(.long r4)])) rfl (by rw [hMX]; rfl) (argsL := [(.long r4)]) (rest := []) (lenOf pd__J_Z_1 rfl) rfl (by show 2 * 0 + _ ≤ _; exact Nat.le_of_eq rfl) (hb hBY at_153) (fun _ _ => ⟨rfl, e_195, (by decide : 6 + 0 ≤ _), (by decide : 48 + 0 ≤ _)⟩)
    dsimp only [Pt.U, Pt.locs, Pt.cells, Pt.slots] at X_198 l_198 y_198 z_198 st_198 hQ_198
    subst l_198 y_198 z_198
    obtain ⟨rfl, N_198q, e_198⟩ := hQ_198
    have N_198 := Fr.app N_195 N_198q
    refine Done.pre (fun _ k_ => st_198 _ k_) ?_
    show Done _ _ _ _ _ _ _ (T_198.setTop (mkF m 156 #[Lv q1, Zs, Lv q2, Zs, Lv q3, Zs, Lv q4, Zs, Lv q5, Zs, Iv p6, Rv b__2, Rv b__5, Rv b__9, Rv b__14, Rv b_20, Rv b_28, Iv (2 : Int32), Rv b__5] [(.int (1 : Int32))]))
    obtain ⟨cl_199, Ar_199, q_199, S_199, N__199, H_199, G_199⟩ := id hq_175_0
    have hin_199 : ¬ ((5 : Int32) < 0 ∨ cl_199.slots.size ≤ ((5 : Int32)).toNatClampNeg) := inb_of S_199 ⟨by decide, by decide⟩
    have hat_199 : cl_199.slots[((5 : Int32)).toNatClampNeg]? = some (.long r5) := H_199.at hin_199 rfl
    have sg_200 : ∀ tt_, Steps p.tables e below (T_198.setTop (mkF m 163 #[Lv q1, Zs, Lv q2, Zs, Lv q3, Zs, Lv q4, Zs, Lv q5, Zs, Iv p6, Rv b__2, Rv b__5, Rv b__9, Rv b__14, Rv b_20, Rv b_28, Iv (2 : Int32), Rv b__5] [(.long r5)])) tt_ → Steps p.tables e below (T_198.setTop (mkF m 156 #[Lv q1, Zs, Lv q2, Zs, Lv q3, Zs, Lv q4, Zs, Lv q5, Zs, Iv p6, Rv b__2, Rv b__5, Rv b__9, Rv b__14, Rv b_20, Rv b_28, Iv (2 : Int32), Rv b__5] [(.int (1 : Int32))])) tt_ := by
      intro tt_ kt_
      refine XS.ifNo X_198.here hEX rfl (hb hBY at_156) rfl ((if0 _ _).trans (feq (by decide : ¬ ((1 : Int32) = (0 : Int32)))).1) ?_
      show Steps p.tables e below (T_198.setTop (mkF m 159 #[Lv q1, Zs, Lv q2, Zs, Lv q3, Zs, Lv q4, Zs, Lv q5, Zs, Iv p6, Rv b__2, Rv b__5, Rv b__9, Rv b__14, Rv b_20, Rv b_28, Iv (2 : Int32), Rv b__5] [])) tt_
      refine XS.aload X_198.here hEX rfl (hb hBY at_159) rfl rfl ?_
      show Steps p.tables e below (T_198.setTop (mkF m 161 #[Lv q1, Zs, Lv q2, Zs, Lv q3, Zs, Lv q4, Zs, Lv q5, Zs, Iv p6, Rv b__2, Rv b__5, Rv b__9, Rv b__14, Rv b_20, Rv b_28, Iv (2 : Int32), Rv b__5] [(.ref b__5)])) tt_
      refine XS.iconst X_198.here hEX rfl (hb hBY at_161) ?_
      show Steps p.tables e below (T_198.setTop (mkF m 162 #[Lv q1, Zs, Lv q2, Zs, Lv q3, Zs, Lv q4, Zs, Lv q5, Zs, Iv p6, Rv b__2, Rv b__5, Rv b__9, Rv b__14, Rv b_20, Rv b_28, Iv (2 : Int32), Rv b__5] [(.int (5 : Int32)), (.ref b__5)])) tt_
      refine X_198.laload hEX (j := (5 : Int32)) (v := (.long r5)) (by rw [e_198]; exact Ar_199.1) (State.isArrayOf_alike hZW.alike Ar_199.2.1) Ar_199.2.2 hin_199 hat_199 (g := (mkF m 162 #[Lv q1, Zs, Lv q2, Zs, Lv q3, Zs, Lv q4, Zs, Lv q5, Zs, Iv p6, Rv b__2, Rv b__5, Rv b__9, Rv b__14, Rv b_20, Rv b_28, Iv (2 : Int32), Rv b__5] [(.int (5 : Int32)), (.ref b__5)])) rfl rfl (hb hBY at_162) _ ?_
      exact kt_
    refine Done.pre sg_200 ?_
    obtain ⟨_, _, ⟨T_201, L_201, k_201, n_201⟩, -, X_201, ⟨Lc_201, hQ_201, l_201, y_201, z_201⟩, st_201⟩ := Jvm.LawKit.callS X_198 hEX (y := (⟨"com/example/guard3/guard3/P384FieldAddPinLaw", "inRange", "(J)Z"⟩ : MethodName)) hOW (mvT hZW (hw _ (List.mem_of_getElem? (i := 25) rfl))) (mvT hZW (hw _ (List.mem_of_getElem? (i := 26) rfl))) (mvT hZW (hw _ (List.mem_of_getElem? (i := 2) rfl))) (mvT hZW (hw _ (List.mem_of_getElem? (i := 27) rfl))) (by decide) (backOf (W := 0) (rm_inr l Z aZ hw [] r5 T_175.heap n0 (Nat.le_trans Z0 K__176.1) (own_inlo _ hRr.2.2.2.2.2.1) (own_inhi _ hRr.2.2.2.2.2.1)) hZW (hw _ (List.mem_of_getElem? (i := 27) rfl)) (hw _ (List.mem_of_getElem? (i := 2) rfl)) (by decide) (by decide)) (g := (mkF m 163 #[Lv q1, Zs, Lv q2, Zs, Lv q3, Zs, Lv q4, Zs, Lv q5, Zs, Iv p6, Rv b__2, Rv b__5, Rv b__9, Rv b__14, Rv b_20, Rv b_28, Iv (2 : Int32), Rv b__5] [(.long r5)])) rfl (by rw [hMX]; rfl) (argsL := [(.long r5)]) (rest := []) (lenOf pd__J_Z_1 rfl) rfl (by show 2 * 0 + _ ≤ _; exact Nat.le_of_eq rfl) (hb hBY at_163) (fun _ _ => ⟨rfl, e_198, (by decide : 6 + 0 ≤ _), (by decide : 48 + 0 ≤ _)⟩)
    dsimp only [Pt.U, Pt.locs, Pt.cells, Pt.slots] at X_201 l_201 y_201 z_201 st_201 hQ_201
    subst l_201 y_201 z_201
    obtain ⟨rfl, N_201q, e_201⟩ := hQ_201
    have N_201 := Fr.app N_198 N_201q
    refine Done.pre (fun _ k_ => st_201 _ k_) ?_
    show Done _ _ _ _ _ _ _ (T_201.setTop (mkF m 166 #[Lv q1, Zs, Lv q2, Zs, Lv q3, Zs, Lv q4, Zs, Lv q5, Zs, Iv p6, Rv b__2, Rv b__5, Rv b__9, Rv b__14, Rv b_20, Rv b_28, Iv (2 : Int32), Rv b__5] [(.int (1 : Int32))]))
    obtain ⟨cl_202, Ar_202, q_202, S_202, N__202, H_202, G_202⟩ := id hq_175_0
    have hin_202 : ¬ ((6 : Int32) < 0 ∨ cl_202.slots.size ≤ ((6 : Int32)).toNatClampNeg) := inb_of S_202 ⟨by decide, by decide⟩
    have hat_202 : cl_202.slots[((6 : Int32)).toNatClampNeg]? = some (.long r6) := H_202.at hin_202 rfl
    have sg_203 : ∀ tt_, Steps p.tables e below (T_201.setTop (mkF m 174 #[Lv q1, Zs, Lv q2, Zs, Lv q3, Zs, Lv q4, Zs, Lv q5, Zs, Iv p6, Rv b__2, Rv b__5, Rv b__9, Rv b__14, Rv b_20, Rv b_28, Iv (2 : Int32), Rv b__5] [(.long r6)])) tt_ → Steps p.tables e below (T_201.setTop (mkF m 166 #[Lv q1, Zs, Lv q2, Zs, Lv q3, Zs, Lv q4, Zs, Lv q5, Zs, Iv p6, Rv b__2, Rv b__5, Rv b__9, Rv b__14, Rv b_20, Rv b_28, Iv (2 : Int32), Rv b__5] [(.int (1 : Int32))])) tt_ := by
      intro tt_ kt_
      refine XS.ifNo X_201.here hEX rfl (hb hBY at_166) rfl ((if0 _ _).trans (feq (by decide : ¬ ((1 : Int32) = (0 : Int32)))).1) ?_
      show Steps p.tables e below (T_201.setTop (mkF m 169 #[Lv q1, Zs, Lv q2, Zs, Lv q3, Zs, Lv q4, Zs, Lv q5, Zs, Iv p6, Rv b__2, Rv b__5, Rv b__9, Rv b__14, Rv b_20, Rv b_28, Iv (2 : Int32), Rv b__5] [])) tt_
      refine XS.aload X_201.here hEX rfl (hb hBY at_169) rfl rfl ?_
      show Steps p.tables e below (T_201.setTop (mkF m 171 #[Lv q1, Zs, Lv q2, Zs, Lv q3, Zs, Lv q4, Zs, Lv q5, Zs, Iv p6, Rv b__2, Rv b__5, Rv b__9, Rv b__14, Rv b_20, Rv b_28, Iv (2 : Int32), Rv b__5] [(.ref b__5)])) tt_
      refine XS.bipush X_201.here hEX rfl (hb hBY at_171) ?_
      show Steps p.tables e below (T_201.setTop (mkF m 173 #[Lv q1, Zs, Lv q2, Zs, Lv q3, Zs, Lv q4, Zs, Lv q5, Zs, Iv p6, Rv b__2, Rv b__5, Rv b__9, Rv b__14, Rv b_20, Rv b_28, Iv (2 : Int32), Rv b__5] [(.int (6 : Int32)), (.ref b__5)])) tt_
      refine X_201.laload hEX (j := (6 : Int32)) (v := (.long r6)) (by rw [e_201]; exact Ar_202.1) (State.isArrayOf_alike hZW.alike Ar_202.2.1) Ar_202.2.2 hin_202 hat_202 (g := (mkF m 173 #[Lv q1, Zs, Lv q2, Zs, Lv q3, Zs, Lv q4, Zs, Lv q5, Zs, Iv p6, Rv b__2, Rv b__5, Rv b__9, Rv b__14, Rv b_20, Rv b_28, Iv (2 : Int32), Rv b__5] [(.int (6 : Int32)), (.ref b__5)])) rfl rfl (hb hBY at_173) _ ?_
      exact kt_
    refine Done.pre sg_203 ?_
    obtain ⟨_, _, ⟨T_204, L_204, k_204, n_204⟩, -, X_204, ⟨Lc_204, hQ_204, l_204, y_204, z_204⟩, st_204⟩ := Jvm.LawKit.callS X_201 hEX (y := (⟨"com/example/guard3/guard3/P384FieldAddPinLaw", "inRange", "(J)Z"⟩ : MethodName)) hOW (mvT hZW (hw _ (List.mem_of_getElem? (i := 25) rfl))) (mvT hZW (hw _ (List.mem_of_getElem? (i := 26) rfl))) (mvT hZW (hw _ (List.mem_of_getElem? (i := 2) rfl))) (mvT hZW (hw _ (List.mem_of_getElem? (i := 27) rfl))) (by decide) (backOf (W := 0) (rm_inr l Z aZ hw [] r6 T_175.heap n0 (Nat.le_trans Z0 K__176.1) (own_inlo _ hRr.2.2.2.2.2.2.1) (own_inhi _ hRr.2.2.2.2.2.2.1)) hZW (hw _ (List.mem_of_getElem? (i := 27) rfl)) (hw _ (List.mem_of_getElem? (i := 2) rfl)) (by decide) (by decide)) (g := (mkF m 174 #[Lv q1, Zs, Lv q2, Zs, Lv q3, Zs, Lv q4, Zs, Lv q5, Zs, Iv p6, Rv b__2, Rv b__5, Rv b__9, Rv b__14, Rv b_20, Rv b_28, Iv (2 : Int32), Rv b__5] [(.long r6)])) rfl (by rw [hMX]; rfl) (argsL := [(.long r6)]) (rest := []) (lenOf pd__J_Z_1 rfl) rfl (by show 2 * 0 + _ ≤ _; exact Nat.le_of_eq rfl) (hb hBY at_174) (fun _ _ => ⟨rfl, e_201, (by decide : 6 + 0 ≤ _), (by decide : 48 + 0 ≤ _)⟩)
    dsimp only [Pt.U, Pt.locs, Pt.cells, Pt.slots] at X_204 l_204 y_204 z_204 st_204 hQ_204
    subst l_204 y_204 z_204
    obtain ⟨rfl, N_204q, e_204⟩ := hQ_204
    have N_204 := Fr.app N_201 N_204q
    refine Done.pre (fun _ k_ => st_204 _ k_) ?_
    show Done _ _ _ _ _ _ _ (T_204.setTop (mkF m 177 #[Lv q1, Zs, Lv q2, Zs, Lv q3, Zs, Lv q4, Zs, Lv q5, Zs, Iv p6, Rv b__2, Rv b__5, Rv b__9, Rv b__14, Rv b_20, Rv b_28, Iv (2 : Int32), Rv b__5] [(.int (1 : Int32))]))
    obtain ⟨cl_205, Ar_205, q_205, S_205, N__205, H_205, G_205⟩ := id hq_175_0
    have hin_205 : ¬ ((7 : Int32) < 0 ∨ cl_205.slots.size ≤ ((7 : Int32)).toNatClampNeg) := inb_of S_205 ⟨by decide, by decide⟩
    have hat_205 : cl_205.slots[((7 : Int32)).toNatClampNeg]? = some (.long r7) := H_205.at hin_205 rfl
    have sg_206 : ∀ tt_, Steps p.tables e below (T_204.setTop (mkF m 185 #[Lv q1, Zs, Lv q2, Zs, Lv q3, Zs, Lv q4, Zs, Lv q5, Zs, Iv p6, Rv b__2, Rv b__5, Rv b__9, Rv b__14, Rv b_20, Rv b_28, Iv (2 : Int32), Rv b__5] [(.long r7)])) tt_ → Steps p.tables e below (T_204.setTop (mkF m 177 #[Lv q1, Zs, Lv q2, Zs, Lv q3, Zs, Lv q4, Zs, Lv q5, Zs, Iv p6, Rv b__2, Rv b__5, Rv b__9, Rv b__14, Rv b_20, Rv b_28, Iv (2 : Int32), Rv b__5] [(.int (1 : Int32))])) tt_ := by
      intro tt_ kt_
      refine XS.ifNo X_204.here hEX rfl (hb hBY at_177) rfl ((if0 _ _).trans (feq (by decide : ¬ ((1 : Int32) = (0 : Int32)))).1) ?_
      show Steps p.tables e below (T_204.setTop (mkF m 180 #[Lv q1, Zs, Lv q2, Zs, Lv q3, Zs, Lv q4, Zs, Lv q5, Zs, Iv p6, Rv b__2, Rv b__5, Rv b__9, Rv b__14, Rv b_20, Rv b_28, Iv (2 : Int32), Rv b__5] [])) tt_
      refine XS.aload X_204.here hEX rfl (hb hBY at_180) rfl rfl ?_
      show Steps p.tables e below (T_204.setTop (mkF m 182 #[Lv q1, Zs, Lv q2, Zs, Lv q3, Zs, Lv q4, Zs, Lv q5, Zs, Iv p6, Rv b__2, Rv b__5, Rv b__9, Rv b__14, Rv b_20, Rv b_28, Iv (2 : Int32), Rv b__5] [(.ref b__5)])) tt_
      refine XS.bipush X_204.here hEX rfl (hb hBY at_182) ?_
      show Steps p.tables e below (T_204.setTop (mkF m 184 #[Lv q1, Zs, Lv q2, Zs, Lv q3, Zs, Lv q4, Zs, Lv q5, Zs, Iv p6, Rv b__2, Rv b__5, Rv b__9, Rv b__14, Rv b_20, Rv b_28, Iv (2 : Int32), Rv b__5] [(.int (7 : Int32)), (.ref b__5)])) tt_
      refine X_204.laload hEX (j := (7 : Int32)) (v := (.long r7)) (by rw [e_204]; exact Ar_205.1) (State.isArrayOf_alike hZW.alike Ar_205.2.1) Ar_205.2.2 hin_205 hat_205 (g := (mkF m 184 #[Lv q1, Zs, Lv q2, Zs, Lv q3, Zs, Lv q4, Zs, Lv q5, Zs, Iv p6, Rv b__2, Rv b__5, Rv b__9, Rv b__14, Rv b_20, Rv b_28, Iv (2 : Int32), Rv b__5] [(.int (7 : Int32)), (.ref b__5)])) rfl rfl (hb hBY at_184) _ ?_
      exact kt_
    refine Done.pre sg_206 ?_
    obtain ⟨_, _, ⟨T_207, L_207, k_207, n_207⟩, -, X_207, ⟨Lc_207, hQ_207, l_207, y_207, z_207⟩, st_207⟩ := Jvm.LawKit.callS X_204 hEX (y := (⟨"com/example/guard3/guard3/P384FieldAddPinLaw", "inRange", "(J)Z"⟩ : MethodName)) hOW (mvT hZW (hw _ (List.mem_of_getElem? (i := 25) rfl))) (mvT hZW (hw _ (List.mem_of_getElem? (i := 26) rfl))) (mvT hZW (hw _ (List.mem_of_getElem? (i := 2) rfl))) (mvT hZW (hw _ (List.mem_of_getElem? (i := 27) rfl))) (by decide) (backOf (W := 0) (rm_inr l Z aZ hw [] r7 T_175.heap n0 (Nat.le_trans Z0 K__176.1) (own_inlo _ hRr.2.2.2.2.2.2.2) (own_inhi _ hRr.2.2.2.2.2.2.2)) hZW (hw _ (List.mem_of_getElem? (i := 27) rfl)) (hw _ (List.mem_of_getElem? (i := 2) rfl)) (by decide) (by decide)) (g := (mkF m 185 #[Lv q1, Zs, Lv q2, Zs, Lv q3, Zs, Lv q4, Zs, Lv q5, Zs, Iv p6, Rv b__2, Rv b__5, Rv b__9, Rv b__14, Rv b_20, Rv b_28, Iv (2 : Int32), Rv b__5] [(.long r7)])) rfl (by rw [hMX]; rfl) (argsL := [(.long r7)]) (rest := []) (lenOf pd__J_Z_1 rfl) rfl (by show 2 * 0 + _ ≤ _; exact Nat.le_of_eq rfl) (hb hBY at_185) (fun _ _ => ⟨rfl, e_204, (by decide : 6 + 0 ≤ _), (by decide : 48 + 0 ≤ _)⟩)
    dsimp only [Pt.U, Pt.locs, Pt.cells, Pt.slots] at X_207 l_207 y_207 z_207 st_207 hQ_207
    subst l_207 y_207 z_207
    obtain ⟨rfl, N_207q, e_207⟩ := hQ_207
    have N_207 := Fr.app N_204 N_207q
    refine Done.pre (fun _ k_ => st_207 _ k_) ?_
    show Done _ _ _ _ _ _ _ (T_207.setTop (mkF m 188 #[Lv q1, Zs, Lv q2, Zs, Lv q3, Zs, Lv q4, Zs, Lv q5, Zs, Iv p6, Rv b__2, Rv b__5, Rv b__9, Rv b__14, Rv b_20, Rv b_28, Iv (2 : Int32), Rv b__5] [(.int (1 : Int32))]))
    have sg_208 : ∀ tt_, Steps p.tables e below (T_207.setTop (mkF m 203 #[Lv q1, Zs, Lv q2, Zs, Lv q3, Zs, Lv q4, Zs, Lv q5, Zs, Iv p6, Rv b__2, Rv b__5, Rv b__9, Rv b__14, Rv b_20, Rv b_28, Iv (2 : Int32), Rv b__5] [(.ref b__9), (.ref b__2)])) tt_ → Steps p.tables e below (T_207.setTop (mkF m 188 #[Lv q1, Zs, Lv q2, Zs, Lv q3, Zs, Lv q4, Zs, Lv q5, Zs, Iv p6, Rv b__2, Rv b__5, Rv b__9, Rv b__14, Rv b_20, Rv b_28, Iv (2 : Int32), Rv b__5] [(.int (1 : Int32))])) tt_ := by
      intro tt_ kt_
      refine XS.ifYes X_207.here hEX rfl (pc0 := 188) (pc' := 193) rfl (hb hBY at_188) rfl ((if0 _ _).trans (feq (by decide : ¬ ((1 : Int32) = (0 : Int32)))).2) (by decide) (by decide) ?_
      show Steps p.tables e below (T_207.setTop (mkF m 193 #[Lv q1, Zs, Lv q2, Zs, Lv q3, Zs, Lv q4, Zs, Lv q5, Zs, Iv p6, Rv b__2, Rv b__5, Rv b__9, Rv b__14, Rv b_20, Rv b_28, Iv (2 : Int32), Rv b__5] [])) tt_
      refine XS.iload X_207.here hEX rfl (hb hBY at_193) rfl ?_
      show Steps p.tables e below (T_207.setTop (mkF m 195 #[Lv q1, Zs, Lv q2, Zs, Lv q3, Zs, Lv q4, Zs, Lv q5, Zs, Iv p6, Rv b__2, Rv b__5, Rv b__9, Rv b__14, Rv b_20, Rv b_28, Iv (2 : Int32), Rv b__5] [(.int (2 : Int32))])) tt_
      refine XS.iconst X_207.here hEX rfl (hb hBY at_195) ?_
      show Steps p.tables e below (T_207.setTop (mkF m 196 #[Lv q1, Zs, Lv q2, Zs, Lv q3, Zs, Lv q4, Zs, Lv q5, Zs, Iv p6, Rv b__2, Rv b__5, Rv b__9, Rv b__14, Rv b_20, Rv b_28, Iv (2 : Int32), Rv b__5] [(.int (1 : Int32)), (.int (2 : Int32))])) tt_
      refine XS.icmpNo X_207.here hEX rfl (hb hBY at_196) rfl (feq (by decide : ¬ ((2 : Int32) = (1 : Int32)))).1 ?_
      show Steps p.tables e below (T_207.setTop (mkF m 199 #[Lv q1, Zs, Lv q2, Zs, Lv q3, Zs, Lv q4, Zs, Lv q5, Zs, Iv p6, Rv b__2, Rv b__5, Rv b__9, Rv b__14, Rv b_20, Rv b_28, Iv (2 : Int32), Rv b__5] [])) tt_
      refine XS.aload X_207.here hEX rfl (hb hBY at_199) rfl rfl ?_
      show Steps p.tables e below (T_207.setTop (mkF m 201 #[Lv q1, Zs, Lv q2, Zs, Lv q3, Zs, Lv q4, Zs, Lv q5, Zs, Iv p6, Rv b__2, Rv b__5, Rv b__9, Rv b__14, Rv b_20, Rv b_28, Iv (2 : Int32), Rv b__5] [(.ref b__2)])) tt_
      refine XS.aload X_207.here hEX rfl (hb hBY at_201) rfl rfl ?_
      exact kt_
    refine Done.pre sg_208 ?_
    obtain ⟨_, _, ⟨T_209, L_209, k_209, n_209⟩, -, X_209, ⟨Lc_209, hQ_209, l_209, y_209, z_209⟩, st_209⟩ := Jvm.LawKit.callS X_207 hEX (y := (⟨"com/example/guard3/guard3/P384FieldAddPinLaw", "same", "([J[J)Z"⟩ : MethodName)) hOW (mvT hZW (hw _ (List.mem_of_getElem? (i := 29) rfl))) (mvT hZW (hw _ (List.mem_of_getElem? (i := 30) rfl))) (mvT hZW (hw _ (List.mem_of_getElem? (i := 2) rfl))) (mvT hZW (hw _ (List.mem_of_getElem? (i := 31) rfl))) (by decide) (backOf (W := 0) (rm_same l Z aZ hw [] b__2 b__9 kb__2 kb__9 (own_limb q1 (0 : Int32)) (own_limb q2 (11 : Int32)) (own_limb q3 (22 : Int32)) (own_limb q4 (33 : Int32)) (own_limb q5 (44 : Int32)) (own_limb q1 (55 : Int32)) (own_limb q2 (2 : Int32)) (own_limb q3 (13 : Int32)) T_175.heap n0 (Nat.le_trans Z0 K__176.1) f_177 f_178) hZW (hw _ (List.mem_of_getElem? (i := 31) rfl)) (hw _ (List.mem_of_getElem? (i := 2) rfl)) (by decide) (by decide)) (g := (mkF m 203 #[Lv q1, Zs, Lv q2, Zs, Lv q3, Zs, Lv q4, Zs, Lv q5, Zs, Iv p6, Rv b__2, Rv b__5, Rv b__9, Rv b__14, Rv b_20, Rv b_28, Iv (2 : Int32), Rv b__5] [(.ref b__9), (.ref b__2)])) rfl (by rw [hMX]; rfl) (argsL := [(.ref b__2), (.ref b__9)]) (rest := []) (lenOf pd___J_J_Z_9 rfl) rfl (by show 2 * 0 + _ ≤ _; exact Nat.le_of_eq rfl) (hb hBY at_203) (fun _ _ => ⟨rfl, e_207, (by decide : 6 + 0 ≤ _), (by decide : 48 + 0 ≤ _)⟩)
    dsimp only [Pt.U, Pt.locs, Pt.cells, Pt.slots] at X_209 l_209 y_209 z_209 st_209 hQ_209
    subst l_209 y_209 z_209
    obtain ⟨rfl, N_209q, e_209⟩ := hQ_209
    have N_209 := Fr.app N_207 N_209q
    refine Done.pre (fun _ k_ => st_209 _ k_) ?_
    show Done _ _ _ _ _ _ _ (T_209.setTop (mkF m 206 #[Lv q1, Zs, Lv q2, Zs, Lv q3, Zs, Lv q4, Zs, Lv q5, Zs, Iv p6, Rv b__2, Rv b__5, Rv b__9, Rv b__14, Rv b_20, Rv b_28, Iv (2 : Int32), Rv b__5] [(.int (1 : Int32))]))
    have sg_210 : ∀ tt_, Steps p.tables e below (T_209.setTop (mkF m 235 #[Lv q1, Zs, Lv q2, Zs, Lv q3, Zs, Lv q4, Zs, Lv q5, Zs, Iv p6, Rv b__2, Rv b__5, Rv b__9, Rv b__14, Rv b_20, Rv b_28, Iv (2 : Int32), Rv b__5] [(.ref b_28), (.ref b__9), (.ref b__5)])) tt_ → Steps p.tables e below (T_209.setTop (mkF m 206 #[Lv q1, Zs, Lv q2, Zs, Lv q3, Zs, Lv q4, Zs, Lv q5, Zs, Iv p6, Rv b__2, Rv b__5, Rv b__9, Rv b__14, Rv b_20, Rv b_28, Iv (2 : Int32), Rv b__5] [(.int (1 : Int32))])) tt_ := by
      intro tt_ kt_
      refine XS.ifYes X_209.here hEX rfl (pc0 := 206) (pc' := 211) rfl (hb hBY at_206) rfl ((if0 _ _).trans (feq (by decide : ¬ ((1 : Int32) = (0 : Int32)))).2) (by decide) (by decide) ?_
      show Steps p.tables e below (T_209.setTop (mkF m 211 #[Lv q1, Zs, Lv q2, Zs, Lv q3, Zs, Lv q4, Zs, Lv q5, Zs, Iv p6, Rv b__2, Rv b__5, Rv b__9, Rv b__14, Rv b_20, Rv b_28, Iv (2 : Int32), Rv b__5] [])) tt_
      refine XS.iload X_209.here hEX rfl (hb hBY at_211) rfl ?_
      show Steps p.tables e below (T_209.setTop (mkF m 213 #[Lv q1, Zs, Lv q2, Zs, Lv q3, Zs, Lv q4, Zs, Lv q5, Zs, Iv p6, Rv b__2, Rv b__5, Rv b__9, Rv b__14, Rv b_20, Rv b_28, Iv (2 : Int32), Rv b__5] [(.int (2 : Int32))])) tt_
      refine XS.iconst X_209.here hEX rfl (hb hBY at_213) ?_
      show Steps p.tables e below (T_209.setTop (mkF m 214 #[Lv q1, Zs, Lv q2, Zs, Lv q3, Zs, Lv q4, Zs, Lv q5, Zs, Iv p6, Rv b__2, Rv b__5, Rv b__9, Rv b__14, Rv b_20, Rv b_28, Iv (2 : Int32), Rv b__5] [(.int (2 : Int32)), (.int (2 : Int32))])) tt_
      refine XS.icmpYes X_209.here hEX rfl (pc0 := 214) (pc' := 229) rfl (hb hBY at_214) rfl (teq (by decide : (2 : Int32) = (2 : Int32))).1 (by decide) (by decide) ?_
      show Steps p.tables e below (T_209.setTop (mkF m 229 #[Lv q1, Zs, Lv q2, Zs, Lv q3, Zs, Lv q4, Zs, Lv q5, Zs, Iv p6, Rv b__2, Rv b__5, Rv b__9, Rv b__14, Rv b_20, Rv b_28, Iv (2 : Int32), Rv b__5] [])) tt_
      refine XS.aload X_209.here hEX rfl (hb hBY at_229) rfl rfl ?_
      show Steps p.tables e below (T_209.setTop (mkF m 231 #[Lv q1, Zs, Lv q2, Zs, Lv q3, Zs, Lv q4, Zs, Lv q5, Zs, Iv p6, Rv b__2, Rv b__5, Rv b__9, Rv b__14, Rv b_20, Rv b_28, Iv (2 : Int32), Rv b__5] [(.ref b__5)])) tt_
      refine XS.aload X_209.here hEX rfl (hb hBY at_231) rfl rfl ?_
      show Steps p.tables e below (T_209.setTop (mkF m 233 #[Lv q1, Zs, Lv q2, Zs, Lv q3, Zs, Lv q4, Zs, Lv q5, Zs, Iv p6, Rv b__2, Rv b__5, Rv b__9, Rv b__14, Rv b_20, Rv b_28, Iv (2 : Int32), Rv b__5] [(.ref b__9), (.ref b__5)])) tt_
      refine XS.aload X_209.here hEX rfl (hb hBY at_233) rfl rfl ?_
      exact kt_
    refine Done.pre sg_210 ?_
    obtain ⟨_, _, ⟨T_211, L_211, k_211, n_211⟩, -, X_211, ⟨Lc_211, hQ_211, l_211, y_211, z_211⟩, st_211⟩ := Jvm.LawKit.callS X_209 hEX (y := (⟨"com/example/guard3/guard3/P384Field", "subtract", "([J[J[J)V"⟩ : MethodName)) hOW (mvT hZW (hw _ (List.mem_of_getElem? (i := 32) rfl))) (mvT hZW (hw _ (List.mem_of_getElem? (i := 33) rfl))) (mvT hZW (hw _ (List.mem_of_getElem? (i := 18) rfl))) (mvT hZW (hw _ (List.mem_of_getElem? (i := 34) rfl))) (by decide) (backOf (W := 0) (rm_subtract_abo l Z aZ hw [] b__5 b__9 b_28 kb__5 r0 r1 r2 r3 r4 r5 r6 r7 kb__9 (own_limb q1 (0 : Int32)) (own_limb q2 (11 : Int32)) (own_limb q3 (22 : Int32)) (own_limb q4 (33 : Int32)) (own_limb q5 (44 : Int32)) (own_limb q1 (55 : Int32)) (own_limb q2 (2 : Int32)) (own_limb q3 (13 : Int32)) k_28 (0 : Int64) (0 : Int64) (0 : Int64) (0 : Int64) (0 : Int64) (0 : Int64) (0 : Int64) (0 : Int64) T_175.heap n0 (Nat.le_trans Z0 K__176.1) hq_175_0 f_178 f_183 ge_b_28 ne_b__5_b__9 ne_b__5_b_28 ne_b__9_b_28 (own_Rup _ _ _ _ _ _ _ _ _ _ (by decide) hRr) ⟨own_limbR _ _, own_limbR _ _, own_limbR _ _, own_limbR _ _, own_limbR _ _, own_limbR _ _, own_limbR _ _, own_limbR _ _⟩) hZW (hw _ (List.mem_of_getElem? (i := 34) rfl)) (hw _ (List.mem_of_getElem? (i := 18) rfl)) (by decide) (by decide)) (g := (mkF m 235 #[Lv q1, Zs, Lv q2, Zs, Lv q3, Zs, Lv q4, Zs, Lv q5, Zs, Iv p6, Rv b__2, Rv b__5, Rv b__9, Rv b__14, Rv b_20, Rv b_28, Iv (2 : Int32), Rv b__5] [(.ref b_28), (.ref b__9), (.ref b__5)])) rfl (by rw [hMX]; rfl) (argsL := [(.ref b__5), (.ref b__9), (.ref b_28)]) (rest := []) (lenOf pd___J_J_J_V_10 rfl) rfl (by show 2 * 0 + _ ≤ _; exact Nat.le_of_eq rfl) (hb hBY at_235) (fun _ _ => ⟨rfl, e_209, (by decide : 6 + 0 ≤ _), (by decide : 48 + 0 ≤ _)⟩)
    dsimp only [Pt.U, Pt.locs, Pt.cells, Pt.slots] at X_211 l_211 y_211 z_211 st_211 hQ_211
    subst l_211 y_211 z_211
    obtain ⟨s0, s1, s2, s3, s4, s5, s6, s7, rfl, N_211q, K_211, hq_211_0, hq_211_1, hq_211_2⟩ := hQ_211
    have N_211 := Fr.app N_209 N_211q
    have K__212 : Keep h0 T_211.heap [] := K__176.trans K_211 (allS (Or.inr sz_b_28) all0)
    have f_213 : Arv Z T_211.heap b__2 kb__2 .long (8 : Int32) [(.long (own_limb q1 (0 : Int32))), (.long (own_limb q2 (11 : Int32))), (.long (own_limb q3 (22 : Int32))), (.long (own_limb q4 (33 : Int32))), (.long (own_limb q5 (44 : Int32))), (.long (own_limb q1 (55 : Int32))), (.long (own_limb q2 (2 : Int32))), (.long (own_limb q3 (13 : Int32)))] (.long (0 : Int64)) := f_177.keep K_211 (ninS ne_b__2_b_28 nin0)
    have f_214 : Arv Z T_211.heap b__9 kb__9 .long (8 : Int32) [(.long (own_limb q1 (0 : Int32))), (.long (own_limb q2 (11 : Int32))), (.long (own_limb q3 (22 : Int32))), (.long (own_limb q4 (33 : Int32))), (.long (own_limb q5 (44 : Int32))), (.long (own_limb q1 (55 : Int32))), (.long (own_limb q2 (2 : Int32))), (.long (own_limb q3 (13 : Int32)))] (.long (0 : Int64)) := f_178.keep K_211 (ninS ne_b__9_b_28 nin0)
    have f_215 : Arv Z T_211.heap b__14 kb__14 .long (8 : Int32) [(.long (own_limb q3 (5 : Int32))), (.long (own_limb q4 (22 : Int32))), (.long (own_limb q5 (39 : Int32))), (.long (own_limb q1 (56 : Int32))), (.long (own_limb q2 (9 : Int32))), (.long (own_limb q3 (26 : Int32))), (.long (own_limb q4 (43 : Int32))), (.long (own_limb q5 (60 : Int32)))] (.long (0 : Int64)) := f_179.keep K_211 (ninS ne_b__14_b_28 nin0)
    have f_216 : Exa Z T_211.heap b_20 "[J" := f_180.keep K_211
    have f_217 : Arv Z T_211.heap b_20 k_20 .long (8 : Int32) [(.long (0 : Int64)), (.long (0 : Int64)), (.long (0 : Int64)), (.long (0 : Int64)), (.long (0 : Int64)), (.long (0 : Int64)), (.long (0 : Int64)), (.long (0 : Int64))] (.long (0 : Int64)) := f_181.keep K_211 (ninS ne_b_20_b_28 nin0)
    have f_218 : Exa Z T_211.heap b_28 "[J" := f_182.keep K_211
    have f_219 : Arv Z T_211.heap b__5 kb__5 .long (8 : Int32) [(.long r0), (.long r1), (.long r2), (.long r3), (.long r4), (.long r5), (.long r6), (.long r7)] (.long (0 : Int64)) := hq_175_0.keep K_211 (ninS ne_b__5_b_28 nin0)
    refine Done.pre (fun _ k_ => st_211 _ k_) ?_
    show Done _ _ _ _ _ _ _ (T_211.setTop (mkF m 238 #[Lv q1, Zs, Lv q2, Zs, Lv q3, Zs, Lv q4, Zs, Lv q5, Zs, Iv p6, Rv b__2, Rv b__5, Rv b__9, Rv b__14, Rv b_20, Rv b_28, Iv (2 : Int32), Rv b__5] []))
    have hRs := hq_211_1
    have hMs := hq_211_2
    have sg_220 : ∀ tt_, Steps p.tables e below (T_211.setTop (mkF m 244 #[Lv q1, Zs, Lv q2, Zs, Lv q3, Zs, Lv q4, Zs, Lv q5, Zs, Iv p6, Rv b__2, Rv b__5, Rv b__9, Rv b__14, Rv b_20, Rv b_28, Iv (2 : Int32), Rv b__5] [(.ref b_28), (.ref b__14), (.ref b_28)])) tt_ → Steps p.tables e below (T_211.setTop (mkF m 238 #[Lv q1, Zs, Lv q2, Zs, Lv q3, Zs, Lv q4, Zs, Lv q5, Zs, Iv p6, Rv b__2, Rv b__5, Rv b__9, Rv b__14, Rv b_20, Rv b_28, Iv (2 : Int32), Rv b__5] [])) tt_ := by
      intro tt_ kt_
      refine XS.aload X_211.here hEX rfl (hb hBY at_238) rfl rfl ?_
      show Steps p.tables e below (T_211.setTop (mkF m 240 #[Lv q1, Zs, Lv q2, Zs, Lv q3, Zs, Lv q4, Zs, Lv q5, Zs, Iv p6, Rv b__2, Rv b__5, Rv b__9, Rv b__14, Rv b_20, Rv b_28, Iv (2 : Int32), Rv b__5] [(.ref b_28)])) tt_
      refine XS.aload X_211.here hEX rfl (hb hBY at_240) rfl rfl ?_
      show Steps p.tables e below (T_211.setTop (mkF m 242 #[Lv q1, Zs, Lv q2, Zs, Lv q3, Zs, Lv q4, Zs, Lv q5, Zs, Iv p6, Rv b__2, Rv b__5, Rv b__9, Rv b__14, Rv b_20, Rv b_28, Iv (2 : Int32), Rv b__5] [(.ref b__14), (.ref b_28)])) tt_
      refine XS.aload X_211.here hEX rfl (hb hBY at_242) rfl rfl ?_
      exact kt_
    refine Done.pre sg_220 ?_
    obtain ⟨_, _, ⟨T_221, L_221, k_221, n_221⟩, -, X_221, ⟨Lc_221, hQ_221, l_221, y_221, z_221⟩, st_221⟩ := Jvm.LawKit.callS X_211 hEX (y := (⟨"com/example/guard3/guard3/P384Field", "subtract", "([J[J[J)V"⟩ : MethodName)) hOW (mvT hZW (hw _ (List.mem_of_getElem? (i := 32) rfl))) (mvT hZW (hw _ (List.mem_of_getElem? (i := 33) rfl))) (mvT hZW (hw _ (List.mem_of_getElem? (i := 18) rfl))) (mvT hZW (hw _ (List.mem_of_getElem? (i := 34) rfl))) (by decide) (backOf (W := 0) (rm_subtract_aba l Z aZ hw [] b_28 b__14 k_28 s0 s1 s2 s3 s4 s5 s6 s7 kb__14 (own_limb q3 (5 : Int32)) (own_limb q4 (22 : Int32)) (own_limb q5 (39 : Int32)) (own_limb q1 (56 : Int32)) (own_limb q2 (9 : Int32)) (own_limb q3 (26 : Int32)) (own_limb q4 (43 : Int32)) (own_limb q5 (60 : Int32)) T_211.heap n0 (Nat.le_trans Z0 K__212.1) hq_211_0 f_215 ge_b_28 (Ne.symm ne_b__14_b_28) (own_Rup _ _ _ _ _ _ _ _ _ _ (by decide) hRs) ⟨own_limbR _ _, own_limbR _ _, own_limbR _ _, own_limbR _ _, own_limbR _ _, own_limbR _ _, own_limbR _ _, own_limbR _ _⟩) hZW (hw _ (List.mem_of_getElem? (i := 34) rfl)) (hw _ (List.mem_of_getElem? (i := 18) rfl)) (by decide) (by decide)) (g := (mkF m 244 #[Lv q1, Zs, Lv q2, Zs, Lv q3, Zs, Lv q4, Zs, Lv q5, Zs, Iv p6, Rv b__2, Rv b__5, Rv b__9, Rv b__14, Rv b_20, Rv b_28, Iv (2 : Int32), Rv b__5] [(.ref b_28), (.ref b__14), (.ref b_28)])) rfl (by rw [hMX]; rfl) (argsL := [(.ref b_28), (.ref b__14), (.ref b_28)]) (rest := []) (lenOf pd___J_J_J_V_10 rfl) rfl (by show 2 * 0 + _ ≤ _; exact Nat.le_of_eq rfl) (hb hBY at_244) (fun _ _ => ⟨rfl, rfl, (by decide : 6 + 0 ≤ _), (by decide : 48 + 0 ≤ _)⟩)
    dsimp only [Pt.U, Pt.locs, Pt.cells, Pt.slots] at X_221 l_221 y_221 z_221 st_221 hQ_221
    subst l_221 y_221 z_221
    obtain ⟨u0, u1, u2, u3, u4, u5, u6, u7, rfl, N_221q, K_221, hq_221_0, hq_221_1, hq_221_2⟩ := hQ_221
    have N_221 := Fr.app N_211 N_221q
    have K__222 : Keep h0 T_221.heap [] := K__212.trans K_221 (allS (Or.inr sz_b_28) all0)
    have f_223 : Arv Z T_221.heap b__2 kb__2 .long (8 : Int32) [(.long (own_limb q1 (0 : Int32))), (.long (own_limb q2 (11 : Int32))), (.long (own_limb q3 (22 : Int32))), (.long (own_limb q4 (33 : Int32))), (.long (own_limb q5 (44 : Int32))), (.long (own_limb q1 (55 : Int32))), (.long (own_limb q2 (2 : Int32))), (.long (own_limb q3 (13 : Int32)))] (.long (0 : Int64)) := f_213.keep K_221 (ninS ne_b__2_b_28 nin0)
    have f_224 : Arv Z T_221.heap b__9 kb__9 .long (8 : Int32) [(.long (own_limb q1 (0 : Int32))), (.long (own_limb q2 (11 : Int32))), (.long (own_limb q3 (22 : Int32))), (.long (own_limb q4 (33 : Int32))), (.long (own_limb q5 (44 : Int32))), (.long (own_limb q1 (55 : Int32))), (.long (own_limb q2 (2 : Int32))), (.long (own_limb q3 (13 : Int32)))] (.long (0 : Int64)) := f_214.keep K_221 (ninS ne_b__9_b_28 nin0)
    have f_225 : Arv Z T_221.heap b__14 kb__14 .long (8 : Int32) [(.long (own_limb q3 (5 : Int32))), (.long (own_limb q4 (22 : Int32))), (.long (own_limb q5 (39 : Int32))), (.long (own_limb q1 (56 : Int32))), (.long (own_limb q2 (9 : Int32))), (.long (own_limb q3 (26 : Int32))), (.long (own_limb q4 (43 : Int32))), (.long (own_limb q5 (60 : Int32)))] (.long (0 : Int64)) := f_215.keep K_221 (ninS ne_b__14_b_28 nin0)
    have f_226 : Exa Z T_221.heap b_20 "[J" := f_216.keep K_221
    have f_227 : Arv Z T_221.heap b_20 k_20 .long (8 : Int32) [(.long (0 : Int64)), (.long (0 : Int64)), (.long (0 : Int64)), (.long (0 : Int64)), (.long (0 : Int64)), (.long (0 : Int64)), (.long (0 : Int64)), (.long (0 : Int64))] (.long (0 : Int64)) := f_217.keep K_221 (ninS ne_b_20_b_28 nin0)
    have f_228 : Exa Z T_221.heap b_28 "[J" := f_218.keep K_221
    have f_229 : Arv Z T_221.heap b__5 kb__5 .long (8 : Int32) [(.long r0), (.long r1), (.long r2), (.long r3), (.long r4), (.long r5), (.long r6), (.long r7)] (.long (0 : Int64)) := f_219.keep K_221 (ninS ne_b__5_b_28 nin0)
    refine Done.pre (fun _ k_ => st_221 _ k_) ?_
    show Done _ _ _ _ _ _ _ (T_221.setTop (mkF m 247 #[Lv q1, Zs, Lv q2, Zs, Lv q3, Zs, Lv q4, Zs, Lv q5, Zs, Iv p6, Rv b__2, Rv b__5, Rv b__9, Rv b__14, Rv b_20, Rv b_28, Iv (2 : Int32), Rv b__5] []))
    have hRu := hq_221_1
    have hMu := hq_221_2
    have sg_230 : ∀ tt_, Steps p.tables e below (T_221.setTop (mkF m 249 #[Lv q1, Zs, Lv q2, Zs, Lv q3, Zs, Lv q4, Zs, Lv q5, Zs, Iv p6, Rv b__2, Rv b__5, Rv b__9, Rv b__14, Rv b_20, Rv b_28, Iv (2 : Int32), Rv b__5] [(.ref b_28)])) tt_ → Steps p.tables e below (T_221.setTop (mkF m 247 #[Lv q1, Zs, Lv q2, Zs, Lv q3, Zs, Lv q4, Zs, Lv q5, Zs, Iv p6, Rv b__2, Rv b__5, Rv b__9, Rv b__14, Rv b_20, Rv b_28, Iv (2 : Int32), Rv b__5] [])) tt_ := by
      intro tt_ kt_
      refine XS.aload X_221.here hEX rfl (hb hBY at_247) rfl rfl ?_
      exact kt_
    refine Done.pre sg_230 ?_
    obtain ⟨_, _, ⟨T_231, L_231, k_231, n_231⟩, -, X_231, ⟨Lc_231, hQ_231, l_231, y_231, z_231⟩, st_231⟩ := Jvm.LawKit.callS X_221 hEX (y := (⟨"com/example/guard3/guard3/P384Field", "isZero", "([J)Z"⟩ : MethodName)) hOW (mvT hZW (hw _ (List.mem_of_getElem? (i := 35) rfl))) (mvT hZW (hw _ (List.mem_of_getElem? (i := 36) rfl))) (mvT hZW (hw _ (List.mem_of_getElem? (i := 18) rfl))) (mvT hZW (hw _ (List.mem_of_getElem? (i := 37) rfl))) (by decide) (backOf (W := 0) (rm_isz l Z aZ hw [] b_28 k_28 u0 u1 u2 u3 u4 u5 u6 u7 T_221.heap n0 (Nat.le_trans Z0 K__222.1) hq_221_0 f_228 hRu (own_sumM _ _ _ _ _ hMr hMs hMu)) hZW (hw _ (List.mem_of_getElem? (i := 37) rfl)) (hw _ (List.mem_of_getElem? (i := 18) rfl)) (by decide) (by decide)) (g := (mkF m 249 #[Lv q1, Zs, Lv q2, Zs, Lv q3, Zs, Lv q4, Zs, Lv q5, Zs, Iv p6, Rv b__2, Rv b__5, Rv b__9, Rv b__14, Rv b_20, Rv b_28, Iv (2 : Int32), Rv b__5] [(.ref b_28)])) rfl (by rw [hMX]; rfl) (argsL := [(.ref b_28)]) (rest := []) (lenOf pd___J_Z_5 rfl) rfl (by show 2 * 0 + _ ≤ _; exact Nat.le_of_eq rfl) (hb hBY at_249) (fun _ _ => ⟨rfl, rfl, (by decide : 6 + 2 ≤ _), (by decide : 48 + 16 ≤ _)⟩)
    dsimp only [Pt.U, Pt.locs, Pt.cells, Pt.slots] at X_231 l_231 y_231 z_231 st_231 hQ_231
    subst l_231 y_231 z_231
    obtain ⟨rfl, N_231q, K_231⟩ := hQ_231
    have N_231 := Fr.app N_221 N_231q
    have K__232 : Keep h0 T_231.heap [] := K__222.trans K_231 all0
    have f_233 : Arv Z T_231.heap b__2 kb__2 .long (8 : Int32) [(.long (own_limb q1 (0 : Int32))), (.long (own_limb q2 (11 : Int32))), (.long (own_limb q3 (22 : Int32))), (.long (own_limb q4 (33 : Int32))), (.long (own_limb q5 (44 : Int32))), (.long (own_limb q1 (55 : Int32))), (.long (own_limb q2 (2 : Int32))), (.long (own_limb q3 (13 : Int32)))] (.long (0 : Int64)) := f_223.keep K_231 nin0
    have f_234 : Arv Z T_231.heap b__9 kb__9 .long (8 : Int32) [(.long (own_limb q1 (0 : Int32))), (.long (own_limb q2 (11 : Int32))), (.long (own_limb q3 (22 : Int32))), (.long (own_limb q4 (33 : Int32))), (.long (own_limb q5 (44 : Int32))), (.long (own_limb q1 (55 : Int32))), (.long (own_limb q2 (2 : Int32))), (.long (own_limb q3 (13 : Int32)))] (.long (0 : Int64)) := f_224.keep K_231 nin0
    have f_235 : Arv Z T_231.heap b__14 kb__14 .long (8 : Int32) [(.long (own_limb q3 (5 : Int32))), (.long (own_limb q4 (22 : Int32))), (.long (own_limb q5 (39 : Int32))), (.long (own_limb q1 (56 : Int32))), (.long (own_limb q2 (9 : Int32))), (.long (own_limb q3 (26 : Int32))), (.long (own_limb q4 (43 : Int32))), (.long (own_limb q5 (60 : Int32)))] (.long (0 : Int64)) := f_225.keep K_231 nin0
    have f_236 : Exa Z T_231.heap b_20 "[J" := f_226.keep K_231
    have f_237 : Arv Z T_231.heap b_20 k_20 .long (8 : Int32) [(.long (0 : Int64)), (.long (0 : Int64)), (.long (0 : Int64)), (.long (0 : Int64)), (.long (0 : Int64)), (.long (0 : Int64)), (.long (0 : Int64)), (.long (0 : Int64))] (.long (0 : Int64)) := f_227.keep K_231 nin0
    have f_238 : Exa Z T_231.heap b_28 "[J" := f_228.keep K_231
    have f_239 : Arv Z T_231.heap b__5 kb__5 .long (8 : Int32) [(.long r0), (.long r1), (.long r2), (.long r3), (.long r4), (.long r5), (.long r6), (.long r7)] (.long (0 : Int64)) := f_229.keep K_231 nin0
    have f_240 : Arv Z T_231.heap b_28 k_28 .long (8 : Int32) [(.long u0), (.long u1), (.long u2), (.long u3), (.long u4), (.long u5), (.long u6), (.long u7)] (.long (0 : Int64)) := hq_221_0.keep K_231 nin0
    refine Done.pre (fun _ k_ => st_231 _ k_) ?_
    show Done _ _ _ _ _ _ _ (T_231.setTop (mkF m 252 #[Lv q1, Zs, Lv q2, Zs, Lv q3, Zs, Lv q4, Zs, Lv q5, Zs, Iv p6, Rv b__2, Rv b__5, Rv b__9, Rv b__14, Rv b_20, Rv b_28, Iv (2 : Int32), Rv b__5] [(.int (1 : Int32))]))
    exact Done.retN X_231 hEX hLK (t := .boolean) hRT (by simp) (hb hBY at_252) (by exact ⟨rfl, N_231, K__232⟩) (by decide) (by decide)
set_option maxRecDepth 65536 in
set_option maxHeartbeats 40000000 in
theorem comes_1 {Post : Tables → Env → Array Value → State → Outcome → State → Prop} (hpost : ∀ tb e args s v u, (limb_1_1.after args s (.returned v) u = true ∧ limb_1_2.after args s (.returned v) u = true ∧ True) → FrameEnd s (.returned v) u (Jvm.fieldLocs frame_1_writes args s ++ Jvm.arrayLocs frame_1_arrays args s ++ Jvm.staticLocs frame_1_statics s) 24 192 → Post tb e args s (.returned v) u) :
    ArmFor flags0 classFile x code maxLocals ret World_1 tables_1 room_1 Calls_1 rest_1 Pre_1 Post := by
  intro l hfl _ _ p e ha hc hk s m args below hf hA hF happ hP
  obtain ⟨hcalls, hrest, hpre⟩ := hP
  obtain ⟨-, -, -, hnamed, -, -, -, hat⟩ := (Spec.applies_iff hf).mp happ
  obtain ⟨hg, hn⟩ := and_e (Cond.before_iff.mp (show (Jvm.Cond.and given_1 narrow_1).before args s = true from hpre))
  obtain ⟨g1a, g1b⟩ := and_e hg
  obtain ⟨g2a, g2b⟩ := and_e g1b
  obtain ⟨g3a, g3b⟩ := and_e g2b
  obtain ⟨g4a, g4b⟩ := and_e g3b
  obtain ⟨g5a, g5b⟩ := and_e g4b
  obtain ⟨g6a, g6b⟩ := and_e g5b
  obtain ⟨w0, w1, w2, w3, w4, w5, rfl⟩ : ∃ w0 w1 w2 w3 w4 w5 : Value, args = #[w0, w1, w2, w3, w4, w5] := by
    have hs : args.size = 6 := by simpa [Cond.value, given_1] using g1a
    obtain ⟨L⟩ := args
    match L, hs with
    | [w0, w1, w2, w3, w4, w5], _ => exact ⟨w0, w1, w2, w3, w4, w5, rfl⟩
  have hw := fun d (hd : d ∈ tables_1) => atoms_spec (ws := Jvm.Cond.code x code maxLocals ret :: tables_1) hat d (List.mem_cons_of_mem _ hd)
  have hfit : Fit s := fun {y c} hc i hi => by
    obtain ⟨ha, rfl⟩ := Array.getElem?_eq_some_iff.mp hc
    have q := List.all_eq_true.mp ((Array.all_eq_true_iff_forall_mem.mp hF) _ (Array.getElem_mem ha)) i (List.mem_range.mpr hi)
    simpa [Array.getElem?_eq_getElem hi] using q
  obtain ⟨i0, ei0⟩ := isL_v g2a
  obtain rfl : w0 = (.long i0) := Option.some.inj ei0
  obtain ⟨i1, ei1⟩ := isL_v g3a
  obtain rfl : w1 = (.long i1) := Option.some.inj ei1
  obtain ⟨i2, ei2⟩ := isL_v g4a
  obtain rfl : w2 = (.long i2) := Option.some.inj ei2
  obtain ⟨i3, ei3⟩ := isL_v g5a
  obtain rfl : w3 = (.long i3) := Option.some.inj ei3
  obtain ⟨i4, ei4⟩ := isL_v g6a
  obtain rfl : w4 = (.long i4) := Option.some.inj ei4
  obtain ⟨i5, ei5⟩ := is_v g6b
  obtain rfl : w5 = (.int i5) := Option.some.inj ei5
  obtain ⟨n, o, h1, h2, h3, _, L, rfl, ⟨rfl, N, -⟩, hq⟩ := rm0 l s _ hw tables_1 i0 i1 i2 i3 i4 i5  s.heap s.heap.size (Nat.le_refl _)  p e ha hc hk s m _ below hf ((Spec.applies_iff_loose hf).mp happ).1 ⟨rfl, State.Warmed39.refl s, rfl⟩ trivial
  refine ⟨n, _, h1, h2, h3, hpost _ _ _ _ _ _ ⟨Cond.after_iff.mpr rfl, Cond.after_iff.mpr (eq_i res_at (Term.int_eval (1)) rfl), trivial⟩ ⟨hq.1, hq.2.1, (hq.2.2.sift fun y hy => Or.inr (N y hy)).mono (by decide) (by decide)⟩⟩
theorem main_1_1 : Claimed_1_1 := comes_1 fun _ _ _ _ _ _ h hF => ⟨h.1, hF⟩
theorem main_1_2 : Claimed_1_2 := comes_1 fun _ _ _ _ _ _ h hF => ⟨h.2.1, hF⟩
end Jvm.Pilot.@@N@@
namespace Jvm.Pilot.@@N@@
open Jvm Jvm.ClassFile Sem Op Lib Jvm.Free Jvm.Stand Jvm.Pilot.@@N@@.Jvm.D
/-! MADE BY PROGRAM (witnessworld.py) out of the Statement's table words and the real class files: 9 classes; the members and pool entries that the words name. The judged class is class 1, her method 7. -/
namespace start1
open Jvm.ClassFile
def u (s : String) : CpInfo := .utf8 (stringToUtf16 s)
/-- a pool by its gaps: so many unusable entries, then the entry; so many at the end -/
def gap : Nat → List CpInfo → List CpInfo
  | 0, r => r
  | n + 1, r => .unusable :: gap n r
def poolList (es : List (Nat × CpInfo)) (last : Nat) : List CpInfo := es.foldr (fun e r => gap e.1 (e.2 :: r)) (gap last [])
def pool (es : List (Nat × CpInfo)) (last : Nat) : Array CpInfo := ⟨poolList es last⟩
def fileOf (pool : Array CpInfo) (this : Nat) (attrs : Array Attribute := #[]) (ms : Array MethodInfo := #[]) (fl : Nat := 33) (sup : Nat := 0) (ifs : Array Nat := #[]) (fds : Array FieldInfo := #[]) : ClassFile where
  minorVersion := 0
  majorVersion := 65
  constantPool := pool
  accessFlags := fl
  thisClass := this
  superClass := sup
  interfaces := ifs
  fields := fds
  methods := ms
  attributes := attrs
def plain (name : String) (sup : Option ClassId) : Class where
  name := name
  kind := .ordinary
  loader := none
  accessFlags := 33
  super := sup
  interfaces := #[]
  cf := none
  fields := #[]
  methods := #[]
  instanceTypes := #[]
  staticTypes := #[]
  resolved := #[]
  callSites := []
  init := .initialized
  statics := none
  mirror := none

def pool0 : Array CpInfo := pool [(5, u "<init>"), (0, u "()V"), (1, .class_ 10), (1, u "java/lang/Object"), (85, u "clone"), (0, u "()Ljava/lang/Object;")] 26

def k0m0 : Method := { name := "<init>", desc := "()V", sig := { parameters := [], returnType := none }, accessFlags := 1, code := none }
def k0m1 : Method := { name := "clone", desc := "()Ljava/lang/Object;", sig := { parameters := [], returnType := some (.object "java/lang/Object") }, accessFlags := 260, code := none }
/-- java/lang/Object -/
def k0 : Class := { plain "java/lang/Object" none with
  accessFlags := 33
  interfaces := #[]
  cf := some (fileOf pool0 8 #[] #[{ accessFlags := 1, nameIndex := 5, descriptorIndex := 6, attributes := #[] }, { accessFlags := 260, nameIndex := 96, descriptorIndex := 97, attributes := #[] }] 33 0 #[] #[])
  fields := #[]
  methods := #[k0m0, k0m1]
  instanceTypes := #[]
  staticTypes := #[]
  resolved := Array.replicate 124 none
  statics := none }

def pool1 : Array CpInfo := pool [(2, .class_ 4), (1, u "java/lang/Object"), (0, u "<init>"), (0, u "()V"), (0, .methodref 8 9), (0, .class_ 10), (0, .nameAndType 11 12), (0, u "com/example/guard3/guard3/P384FieldAddPinLaw"), (0, u "rot"), (0, u "(JI)J"), (0, .long 18445618173802708992), (1, .methodref 8 16), (0, .nameAndType 17 12), (0, u "limb"), (0, .long 1125899906842624), (1, .methodref 8 21), (0, .nameAndType 22 23), (0, u "elementA"), (0, u "(JJJJJ)[J"), (0, .methodref 8 25), (0, .nameAndType 26 23), (0, u "elementB"), (0, .integer 2147483647), (0, .methodref 29 30), (0, .class_ 31), (0, .nameAndType 32 33), (0, u "com/example/guard3/guard3/P384Field"), (0, u "add"), (0, u "([J[J[J)V"), (0, .methodref 8 35), (0, .nameAndType 36 37), (0, u "inRange"), (0, u "(J)Z"), (0, .methodref 8 39), (0, .nameAndType 40 41), (0, u "same"), (0, u "([J[J)Z"), (0, .methodref 29 43), (0, .nameAndType 44 33), (0, u "subtract"), (0, .methodref 29 46), (0, .nameAndType 47 48), (0, u "isZero"), (0, u "([J)Z"), (3, u "law"), (0, u "(JJJJJI)Z")] 4

def k1m0 : Method := { name := "<init>", desc := "()V", sig := { parameters := [], returnType := none }, accessFlags := 2, code := none }
def k1c1 : Code := { maxStack := 6, maxLocals := 3, code := method_2_code, exceptionTable := #[], attributes := #[] }
def k1m1 : Method := { name := "rot", desc := "(JI)J", sig := { parameters := [.long, .int], returnType := some .long }, accessFlags := 10, code := some k1c1 }
def k1c2 : Code := { maxStack := 4, maxLocals := 5, code := method_3_code, exceptionTable := #[], attributes := #[] }
def k1m2 : Method := { name := "limb", desc := "(JI)J", sig := { parameters := [.long, .int], returnType := some .long }, accessFlags := 10, code := some k1c2 }
def k1c3 : Code := { maxStack := 6, maxLocals := 10, code := method_4_code, exceptionTable := #[], attributes := #[] }
def k1m3 : Method := { name := "elementA", desc := "(JJJJJ)[J", sig := { parameters := [.long, .long, .long, .long, .long], returnType := some (.array .long) }, accessFlags := 10, code := some k1c3 }
def k1c4 : Code := { maxStack := 6, maxLocals := 10, code := method_5_code, exceptionTable := #[], attributes := #[] }
def k1m4 : Method := { name := "elementB", desc := "(JJJJJ)[J", sig := { parameters := [.long, .long, .long, .long, .long], returnType := some (.array .long) }, accessFlags := 10, code := some k1c4 }
def k1c5 : Code := { maxStack := 4, maxLocals := 2, code := method_6_code, exceptionTable := #[], attributes := #[] }
def k1m5 : Method := { name := "inRange", desc := "(J)Z", sig := { parameters := [.long], returnType := some .boolean }, accessFlags := 10, code := some k1c5 }
def k1c6 : Code := { maxStack := 4, maxLocals := 2, code := method_7_code, exceptionTable := #[], attributes := #[] }
def k1m6 : Method := { name := "same", desc := "([J[J)Z", sig := { parameters := [(.array .long), (.array .long)], returnType := some .boolean }, accessFlags := 10, code := some k1c6 }
def k1c7 : Code := { maxStack := 10, maxLocals := 19, code := code, exceptionTable := #[], attributes := #[] }
def k1m7 : Method := { name := "law", desc := "(JJJJJI)Z", sig := { parameters := [.long, .long, .long, .long, .long, .int], returnType := some .boolean }, accessFlags := 9, code := some k1c7 }
/-- com/example/guard3/guard3/P384FieldAddPinLaw -/
def k1 : Class := { plain "com/example/guard3/guard3/P384FieldAddPinLaw" (some 0) with
  accessFlags := 49
  interfaces := #[]
  cf := some (fileOf pool1 8 #[] #[{ accessFlags := 2, nameIndex := 5, descriptorIndex := 6, attributes := #[] }, { accessFlags := 10, nameIndex := 11, descriptorIndex := 12, attributes := #[] }, { accessFlags := 10, nameIndex := 17, descriptorIndex := 12, attributes := #[] }, { accessFlags := 10, nameIndex := 22, descriptorIndex := 23, attributes := #[] }, { accessFlags := 10, nameIndex := 26, descriptorIndex := 23, attributes := #[] }, { accessFlags := 10, nameIndex := 36, descriptorIndex := 37, attributes := #[] }, { accessFlags := 10, nameIndex := 40, descriptorIndex := 41, attributes := #[] }, { accessFlags := 9, nameIndex := 52, descriptorIndex := 53, attributes := #[] }] 49 2 #[] #[])
  fields := #[]
  methods := #[k1m0, k1m1, k1m2, k1m3, k1m4, k1m5, k1m6, k1m7]
  instanceTypes := #[]
  staticTypes := #[]
  resolved := Array.replicate 58 none
  statics := none }

def pool2 : Array CpInfo := pool [(1, .class_ 2), (0, u "com/example/guard3/guard3/P384Field"), (1, .class_ 6), (1, u "java/lang/Object"), (0, u "<init>"), (0, u "()V"), (18, .methodref 1 28), (0, .nameAndType 29 30), (0, u "canonical"), (0, u "([J)[J"), (3, .long 281474976710655), (11, .methodref 1 47), (0, .nameAndType 48 49), (0, u "store"), (0, u "([JJJJJJJJJ)V"), (6, .long 65535), (1, .methodref 59 60), (0, .class_ 61), (0, .nameAndType 62 63), (0, u "[J"), (0, u "clone"), (0, u "()Ljava/lang/Object;"), (0, .methodref 1 65), (0, .nameAndType 66 67), (0, u "propagate"), (0, u "([J)J"), (0, .methodref 1 69), (0, .nameAndType 70 71), (0, u "fold"), (0, u "([JJ)V"), (3, u "Ljava/math/BigInteger;"), (6, u "subtract"), (3, u "add"), (2, u "P"), (0, u "LIMBS"), (0, u "I"), (2, u "LIMB_BITS"), (1, u "MASK"), (0, u "J"), (0, u "LOW_16"), (0, u "BYTES_PER_LIMB"), (1, u "BYTES"), (9, u "isZero"), (0, u "([J)Z"), (1, u "([J[J[J)V")] 7

def k2m0 : Method := { name := "<init>", desc := "()V", sig := { parameters := [], returnType := none }, accessFlags := 2, code := none }
def k2c1 : Code := { maxStack := 4, maxLocals := 3, code := prog_59_method_5_code, exceptionTable := #[], attributes := #[] }
def k2m1 : Method := { name := "isZero", desc := "([J)Z", sig := { parameters := [(.array .long)], returnType := some .boolean }, accessFlags := 8, code := some k2c1 }
def k2c2 : Code := { maxStack := 19, maxLocals := 3, code := prog_59_method_8_code, exceptionTable := #[], attributes := #[] }
def k2m2 : Method := { name := "add", desc := "([J[J[J)V", sig := { parameters := [(.array .long), (.array .long), (.array .long)], returnType := none }, accessFlags := 8, code := some k2c2 }
def k2c3 : Code := { maxStack := 19, maxLocals := 3, code := prog_59_method_9_code, exceptionTable := #[], attributes := #[] }
def k2m3 : Method := { name := "subtract", desc := "([J[J[J)V", sig := { parameters := [(.array .long), (.array .long), (.array .long)], returnType := none }, accessFlags := 8, code := some k2c3 }
def k2c4 : Code := { maxStack := 6, maxLocals := 23, code := prog_59_method_13_code, exceptionTable := #[], attributes := #[] }
def k2m4 : Method := { name := "store", desc := "([JJJJJJJJJ)V", sig := { parameters := [(.array .long), .long, .long, .long, .long, .long, .long, .long, .long], returnType := none }, accessFlags := 10, code := some k2c4 }
def k2c5 : Code := { maxStack := 8, maxLocals := 7, code := prog_59_method_14_code, exceptionTable := #[], attributes := #[] }
def k2m5 : Method := { name := "fold", desc := "([JJ)V", sig := { parameters := [(.array .long), .long], returnType := none }, accessFlags := 10, code := some k2c5 }
def k2c6 : Code := { maxStack := 6, maxLocals := 6, code := prog_59_method_15_code, exceptionTable := #[], attributes := #[] }
def k2m6 : Method := { name := "propagate", desc := "([J)J", sig := { parameters := [(.array .long)], returnType := some .long }, accessFlags := 10, code := some k2c6 }
def k2c7 : Code := { maxStack := 4, maxLocals := 5, code := prog_59_method_16_code, exceptionTable := #[], attributes := #[] }
def k2m7 : Method := { name := "canonical", desc := "([J)[J", sig := { parameters := [(.array .long)], returnType := some (.array .long) }, accessFlags := 10, code := some k2c7 }
/-- com/example/guard3/guard3/P384Field -/
def k2 : Class := { plain "com/example/guard3/guard3/P384Field" (some 0) with
  accessFlags := 32
  interfaces := #[]
  cf := some (fileOf pool2 1 #[] #[{ accessFlags := 2, nameIndex := 7, descriptorIndex := 8, attributes := #[] }, { accessFlags := 8, nameIndex := 111, descriptorIndex := 112, attributes := #[] }, { accessFlags := 8, nameIndex := 86, descriptorIndex := 114, attributes := #[] }, { accessFlags := 8, nameIndex := 82, descriptorIndex := 114, attributes := #[] }, { accessFlags := 10, nameIndex := 48, descriptorIndex := 49, attributes := #[] }, { accessFlags := 10, nameIndex := 70, descriptorIndex := 71, attributes := #[] }, { accessFlags := 10, nameIndex := 66, descriptorIndex := 67, attributes := #[] }, { accessFlags := 10, nameIndex := 29, descriptorIndex := 30, attributes := #[] }] 32 4 #[] #[{ accessFlags := 24, nameIndex := 90, descriptorIndex := 91, attributes := #[] }, { accessFlags := 24, nameIndex := 89, descriptorIndex := 75, attributes := #[] }, { accessFlags := 24, nameIndex := 94, descriptorIndex := 91, attributes := #[] }, { accessFlags := 26, nameIndex := 96, descriptorIndex := 97, attributes := #[] }, { accessFlags := 26, nameIndex := 98, descriptorIndex := 97, attributes := #[] }, { accessFlags := 26, nameIndex := 99, descriptorIndex := 91, attributes := #[] }, { accessFlags := 26, nameIndex := 101, descriptorIndex := 91, attributes := #[] }])
  fields := #[{ name := "LIMBS", type := .int, accessFlags := 24, slot := 0, constantValue := 0 }, { name := "P", type := (.object "java/math/BigInteger"), accessFlags := 24, slot := 1, constantValue := 0 }, { name := "LIMB_BITS", type := .int, accessFlags := 24, slot := 2, constantValue := 0 }, { name := "MASK", type := .long, accessFlags := 26, slot := 3, constantValue := 0 }, { name := "LOW_16", type := .long, accessFlags := 26, slot := 4, constantValue := 0 }, { name := "BYTES_PER_LIMB", type := .int, accessFlags := 26, slot := 5, constantValue := 0 }, { name := "BYTES", type := .int, accessFlags := 26, slot := 6, constantValue := 0 }]
  methods := #[k2m0, k2m1, k2m2, k2m3, k2m4, k2m5, k2m6, k2m7]
  instanceTypes := #[]
  staticTypes := #[.int, (.object "java/math/BigInteger"), .int, .long, .long, .int, .int]
  resolved := Array.replicate 122 none
  statics := none }

def pool3 : Array CpInfo := pool [(1, .class_ 2), (0, u "java/lang/Cloneable"), (0, .class_ 4), (0, u "java/lang/Object")] 2

/-- java/lang/Cloneable -/
def k3 : Class := { plain "java/lang/Cloneable" (some 0) with
  accessFlags := 1537
  interfaces := #[]
  cf := some (fileOf pool3 1 #[] #[] 1537 3 #[] #[])
  fields := #[]
  methods := #[]
  instanceTypes := #[]
  staticTypes := #[]
  resolved := Array.replicate 7 none
  statics := none }

def pool4 : Array CpInfo := pool [(1, u "java/io/Serializable"), (0, .class_ 1), (0, u "java/lang/Object"), (0, .class_ 3)] 3

/-- java/io/Serializable -/
def k4 : Class := { plain "java/io/Serializable" (some 0) with
  accessFlags := 1537
  interfaces := #[]
  cf := some (fileOf pool4 2 #[] #[] 1537 4 #[] #[])
  fields := #[]
  methods := #[]
  instanceTypes := #[]
  staticTypes := #[]
  resolved := Array.replicate 8 none
  statics := none }

/-- the primitive byte -/
def k5 : Class := { plain "byte" none with kind := .primitive 'B', accessFlags := 0x411 }
/-- [B -/
def k6 : Class := { plain "[B" (some 0) with kind := .array 5 .byte, interfaces := #[3, 4], accessFlags := 1041 }

/-- the primitive long -/
def k7 : Class := { plain "long" none with kind := .primitive 'J', accessFlags := 0x411 }
/-- [J -/
def k8 : Class := { plain "[J" (some 0) with kind := .array 7 .long, interfaces := #[3, 4], accessFlags := 1041 }

def heap : Heap := #[]
def classes : Array Class := #[k0, k1, k2, k3, k4, k5, k6, k7, k8]
def interned : List (Array UInt16 × Addr) := []
def slotsUsed : Nat := 0
def theMethod : MethodId := ⟨1, 7⟩
def args0 : Array Value := #[.long 7, .long 8, .long 9, .long 3, .long 2, .int 5]
def aboutOver (below : List Frame) : State where
  vm := { classes := classes, interned := interned.toArray }
  heap := heap
  slotsUsed := slotsUsed
  threads := #[{ frames := .invoking theMethod args0 :: below }]
def below0 : List Frame := [.native { method := ⟨0, 0⟩, args := #[] }]
def about1 : State := aboutOver below0
def p0 : Program := .bare "" "" ""
def e0 : Env := launch0.env 0 0 0
theorem w_frames : about1.frames = Frame.invoking theMethod args0 :: below0 := rfl
set_option maxRecDepth 65536 in
theorem w_args : argsFit about1.vm theMethod args0 = true := by decide +kernel
set_option maxRecDepth 65536 in
theorem w_heap : heapFits about1 = true := by decide +kernel
set_option maxRecDepth 65536 in
theorem w_runnable : about1.curStatus? = some .runnable := by decide +kernel
set_option maxRecDepth 65536 in
theorem w_alone : about1.alone = true := by decide +kernel
set_option maxRecDepth 65536 in
theorem w_named : about1.methodNamed? x = some theMethod := by decide +kernel
set_option maxRecDepth 65536 in
theorem w_hears : about1.hears theMethod below0 = true := by decide +kernel
set_option maxRecDepth 65536 in
theorem w_ripe : about1.ripe theMethod args0 below0 = true := by decide +kernel
theorem w_running : about1.status = .running := rfl
set_option maxRecDepth 65536 in
theorem w_room : about1.hasRoom e0.platform room_1 = true :=
  launch0.hasRoom_least _ room_1 (by decide +kernel) (by decide +kernel) (by decide +kernel) (by decide +kernel) (by decide +kernel) (by decide +kernel)
theorem allAtoms_all (ts : List Jvm.Cond) (a : Array Jvm.Value) (st : Jvm.State) : (allAtoms ts).before a st = ts.all (fun c => c.before a st) := by
  induction ts with
  | nil => rfl
  | cons c t ih =>
    show (Jvm.Cond.and c (allAtoms t)).before a st = _
    rw [Jvm.Cond.before_and, ih, List.all_cons]
def words1 : List Jvm.Cond := Jvm.Cond.code x code maxLocals ret :: tables_1
/-- a 'code' word, met by the world's own term for the bytes: nothing is compared byte by byte -/
theorem code_word {y : MethodName} {bytes : ByteArray} {mx : Nat} {rt : Option FieldType} {a : Array Value} {s : State} {m : MethodId} {meth : Method} {c : Code} (h1 : s.methodNamed? y = some m) (h2 : s.vm.method? m = some meth) (h3 : meth.code = some c) (h4 : c.code = bytes)
    (h5 : (c.maxLocals == mx && c.exceptionTable.isEmpty && decide (c.maxStack ≤ mostOperands) && decide (meth.sig.returnType = rt) && !meth.locks && decide (parseMethodDescriptor y.desc = some meth.sig)) = true) : (Jvm.Cond.code y bytes mx rt).before a s = true := by
  simp only [Bool.and_eq_true, beq_iff_eq, Bool.not_eq_true', decide_eq_true_eq] at h5
  obtain ⟨⟨⟨⟨⟨g1, g2⟩, g3⟩, g4⟩, g5⟩, g6⟩ := h5
  simp [Cond.before, Cond.holds, Cond.value, h1, h2, h3, h4, g1, g2, g3, g4, g5, g6]
def isCode : Jvm.Cond → Bool
  | .code _ _ _ _ => true
  | _ => false
theorem all_split {L : List Jvm.Cond} {P : Jvm.Cond → Bool} (h1 : L.all (fun c => isCode c || P c) = true) (h2 : ∀ c ∈ L.filter isCode, P c = true) : L.all P = true := by
  refine List.all_eq_true.mpr fun c hc => ?_
  have h := List.all_eq_true.mp h1 c hc
  rcases Bool.eq_false_or_eq_true (isCode c) with hi | hi
  · exact h2 c (List.mem_filter.mpr ⟨hc, hi⟩)
  · simpa [hi] using h
set_option maxRecDepth 65536 in
theorem w_c0 : (Jvm.Cond.code x code maxLocals ret).before args0 about1 = true := code_word (m := ⟨1, 7⟩) (meth := k1m7) (c := k1c7) (by decide +kernel) rfl rfl rfl (by decide +kernel)
set_option maxRecDepth 65536 in
theorem w_c1 : (Jvm.Cond.code ({ cls := "com/example/guard3/guard3/P384FieldAddPinLaw", name := "elementA", desc := "(JJJJJ)[J" } : Jvm.MethodName) method_4_code (10 : Nat) (Option.some (Jvm.ClassFile.FieldType.array Jvm.ClassFile.FieldType.long))).before args0 about1 = true := code_word (m := ⟨1, 3⟩) (meth := k1m3) (c := k1c3) (by decide +kernel) rfl rfl rfl (by decide +kernel)
set_option maxRecDepth 65536 in
theorem w_c2 : (Jvm.Cond.code ({ cls := "com/example/guard3/guard3/P384FieldAddPinLaw", name := "limb", desc := "(JI)J" } : Jvm.MethodName) method_3_code (5 : Nat) (Option.some Jvm.ClassFile.FieldType.long)).before args0 about1 = true := code_word (m := ⟨1, 2⟩) (meth := k1m2) (c := k1c2) (by decide +kernel) rfl rfl rfl (by decide +kernel)
set_option maxRecDepth 65536 in
theorem w_c3 : (Jvm.Cond.code ({ cls := "com/example/guard3/guard3/P384FieldAddPinLaw", name := "rot", desc := "(JI)J" } : Jvm.MethodName) method_2_code (3 : Nat) (Option.some Jvm.ClassFile.FieldType.long)).before args0 about1 = true := code_word (m := ⟨1, 1⟩) (meth := k1m1) (c := k1c1) (by decide +kernel) rfl rfl rfl (by decide +kernel)
set_option maxRecDepth 65536 in
theorem w_c4 : (Jvm.Cond.code ({ cls := "com/example/guard3/guard3/P384FieldAddPinLaw", name := "elementB", desc := "(JJJJJ)[J" } : Jvm.MethodName) method_5_code (10 : Nat) (Option.some (Jvm.ClassFile.FieldType.array Jvm.ClassFile.FieldType.long))).before args0 about1 = true := code_word (m := ⟨1, 4⟩) (meth := k1m4) (c := k1c4) (by decide +kernel) rfl rfl rfl (by decide +kernel)
set_option maxRecDepth 65536 in
theorem w_c5 : (Jvm.Cond.code ({ cls := "com/example/guard3/guard3/P384Field", name := "add", desc := "([J[J[J)V" } : Jvm.MethodName) prog_59_method_8_code (3 : Nat) (Option.none : Option Jvm.ClassFile.FieldType)).before args0 about1 = true := code_word (m := ⟨2, 2⟩) (meth := k2m2) (c := k2c2) (by decide +kernel) rfl rfl rfl (by decide +kernel)
set_option maxRecDepth 65536 in
theorem w_c6 : (Jvm.Cond.code ({ cls := "com/example/guard3/guard3/P384Field", name := "store", desc := "([JJJJJJJJJ)V" } : Jvm.MethodName) prog_59_method_13_code (23 : Nat) (Option.none : Option Jvm.ClassFile.FieldType)).before args0 about1 = true := code_word (m := ⟨2, 4⟩) (meth := k2m4) (c := k2c4) (by decide +kernel) rfl rfl rfl (by decide +kernel)
set_option maxRecDepth 65536 in
theorem w_c7 : (Jvm.Cond.code ({ cls := "com/example/guard3/guard3/P384FieldAddPinLaw", name := "inRange", desc := "(J)Z" } : Jvm.MethodName) method_6_code (2 : Nat) (Option.some Jvm.ClassFile.FieldType.boolean)).before args0 about1 = true := code_word (m := ⟨1, 5⟩) (meth := k1m5) (c := k1c5) (by decide +kernel) rfl rfl rfl (by decide +kernel)
set_option maxRecDepth 65536 in
theorem w_c8 : (Jvm.Cond.code ({ cls := "com/example/guard3/guard3/P384FieldAddPinLaw", name := "same", desc := "([J[J)Z" } : Jvm.MethodName) method_7_code (2 : Nat) (Option.some Jvm.ClassFile.FieldType.boolean)).before args0 about1 = true := code_word (m := ⟨1, 6⟩) (meth := k1m6) (c := k1c6) (by decide +kernel) rfl rfl rfl (by decide +kernel)
set_option maxRecDepth 65536 in
theorem w_c9 : (Jvm.Cond.code ({ cls := "com/example/guard3/guard3/P384Field", name := "subtract", desc := "([J[J[J)V" } : Jvm.MethodName) prog_59_method_9_code (3 : Nat) (Option.none : Option Jvm.ClassFile.FieldType)).before args0 about1 = true := code_word (m := ⟨2, 3⟩) (meth := k2m3) (c := k2c3) (by decide +kernel) rfl rfl rfl (by decide +kernel)
set_option maxRecDepth 65536 in
theorem w_c10 : (Jvm.Cond.code ({ cls := "com/example/guard3/guard3/P384Field", name := "isZero", desc := "([J)Z" } : Jvm.MethodName) prog_59_method_5_code (3 : Nat) (Option.some Jvm.ClassFile.FieldType.boolean)).before args0 about1 = true := code_word (m := ⟨2, 1⟩) (meth := k2m1) (c := k2c1) (by decide +kernel) rfl rfl rfl (by decide +kernel)
set_option maxRecDepth 65536 in
theorem w_c11 : (Jvm.Cond.code ({ cls := "com/example/guard3/guard3/P384Field", name := "canonical", desc := "([J)[J" } : Jvm.MethodName) prog_59_method_16_code (5 : Nat) (Option.some (Jvm.ClassFile.FieldType.array Jvm.ClassFile.FieldType.long))).before args0 about1 = true := code_word (m := ⟨2, 7⟩) (meth := k2m7) (c := k2c7) (by decide +kernel) rfl rfl rfl (by decide +kernel)
set_option maxRecDepth 65536 in
theorem w_c12 : (Jvm.Cond.code ({ cls := "com/example/guard3/guard3/P384Field", name := "propagate", desc := "([J)J" } : Jvm.MethodName) prog_59_method_15_code (6 : Nat) (Option.some Jvm.ClassFile.FieldType.long)).before args0 about1 = true := code_word (m := ⟨2, 6⟩) (meth := k2m6) (c := k2c6) (by decide +kernel) rfl rfl rfl (by decide +kernel)
set_option maxRecDepth 65536 in
theorem w_c13 : (Jvm.Cond.code ({ cls := "com/example/guard3/guard3/P384Field", name := "fold", desc := "([JJ)V" } : Jvm.MethodName) prog_59_method_14_code (7 : Nat) (Option.none : Option Jvm.ClassFile.FieldType)).before args0 about1 = true := code_word (m := ⟨2, 5⟩) (meth := k2m5) (c := k2c5) (by decide +kernel) rfl rfl rfl (by decide +kernel)
def codes1 : List Jvm.Cond := [Jvm.Cond.code x code maxLocals ret, Jvm.Cond.code ({ cls := "com/example/guard3/guard3/P384FieldAddPinLaw", name := "elementA", desc := "(JJJJJ)[J" } : Jvm.MethodName) method_4_code (10 : Nat) (Option.some (Jvm.ClassFile.FieldType.array Jvm.ClassFile.FieldType.long)), Jvm.Cond.code ({ cls := "com/example/guard3/guard3/P384FieldAddPinLaw", name := "limb", desc := "(JI)J" } : Jvm.MethodName) method_3_code (5 : Nat) (Option.some Jvm.ClassFile.FieldType.long), Jvm.Cond.code ({ cls := "com/example/guard3/guard3/P384FieldAddPinLaw", name := "rot", desc := "(JI)J" } : Jvm.MethodName) method_2_code (3 : Nat) (Option.some Jvm.ClassFile.FieldType.long), Jvm.Cond.code ({ cls := "com/example/guard3/guard3/P384FieldAddPinLaw", name := "elementB", desc := "(JJJJJ)[J" } : Jvm.MethodName) method_5_code (10 : Nat) (Option.some (Jvm.ClassFile.FieldType.array Jvm.ClassFile.FieldType.long)), Jvm.Cond.code ({ cls := "com/example/guard3/guard3/P384Field", name := "add", desc := "([J[J[J)V" } : Jvm.MethodName) prog_59_method_8_code (3 : Nat) (Option.none : Option Jvm.ClassFile.FieldType), Jvm.Cond.code ({ cls := "com/example/guard3/guard3/P384Field", name := "store", desc := "([JJJJJJJJJ)V" } : Jvm.MethodName) prog_59_method_13_code (23 : Nat) (Option.none : Option Jvm.ClassFile.FieldType), Jvm.Cond.code ({ cls := "com/example/guard3/guard3/P384FieldAddPinLaw", name := "inRange", desc := "(J)Z" } : Jvm.MethodName) method_6_code (2 : Nat) (Option.some Jvm.ClassFile.FieldType.boolean), Jvm.Cond.code ({ cls := "com/example/guard3/guard3/P384FieldAddPinLaw", name := "same", desc := "([J[J)Z" } : Jvm.MethodName) method_7_code (2 : Nat) (Option.some Jvm.ClassFile.FieldType.boolean), Jvm.Cond.code ({ cls := "com/example/guard3/guard3/P384Field", name := "subtract", desc := "([J[J[J)V" } : Jvm.MethodName) prog_59_method_9_code (3 : Nat) (Option.none : Option Jvm.ClassFile.FieldType), Jvm.Cond.code ({ cls := "com/example/guard3/guard3/P384Field", name := "isZero", desc := "([J)Z" } : Jvm.MethodName) prog_59_method_5_code (3 : Nat) (Option.some Jvm.ClassFile.FieldType.boolean), Jvm.Cond.code ({ cls := "com/example/guard3/guard3/P384Field", name := "canonical", desc := "([J)[J" } : Jvm.MethodName) prog_59_method_16_code (5 : Nat) (Option.some (Jvm.ClassFile.FieldType.array Jvm.ClassFile.FieldType.long)), Jvm.Cond.code ({ cls := "com/example/guard3/guard3/P384Field", name := "propagate", desc := "([J)J" } : Jvm.MethodName) prog_59_method_15_code (6 : Nat) (Option.some Jvm.ClassFile.FieldType.long), Jvm.Cond.code ({ cls := "com/example/guard3/guard3/P384Field", name := "fold", desc := "([JJ)V" } : Jvm.MethodName) prog_59_method_14_code (7 : Nat) (Option.none : Option Jvm.ClassFile.FieldType)]
set_option maxRecDepth 65536 in
theorem codes_eq : words1.filter isCode = codes1 := rfl
theorem w_codes : ∀ c ∈ words1.filter isCode, c.before args0 about1 = true := by
  rw [codes_eq]
  intro c hc
  simp only [codes1, List.mem_cons, List.not_mem_nil, or_false] at hc
  rcases hc with rfl | rfl | rfl | rfl | rfl | rfl | rfl | rfl | rfl | rfl | rfl | rfl | rfl | rfl
  · exact w_c0
  · exact w_c1
  · exact w_c2
  · exact w_c3
  · exact w_c4
  · exact w_c5
  · exact w_c6
  · exact w_c7
  · exact w_c8
  · exact w_c9
  · exact w_c10
  · exact w_c11
  · exact w_c12
  · exact w_c13
set_option maxRecDepth 65536 in
theorem w_t1 : (words1.take 24).all (fun c => isCode c || c.before args0 about1) = true := by decide +kernel
set_option maxRecDepth 65536 in
theorem w_t2 : ((words1.drop 24).take 24).all (fun c => isCode c || c.before args0 about1) = true := by decide +kernel
set_option maxRecDepth 65536 in
theorem w_t3 : ((words1.drop 24).drop 24).all (fun c => isCode c || c.before args0 about1) = true := by decide +kernel
theorem w_tables : (allAtoms (Jvm.Cond.code x code maxLocals ret :: tables_1)).before args0 about1 = true := by
  rw [allAtoms_all]
  show words1.all (fun c => c.before args0 about1) = true
  refine all_split ?_ w_codes
  rw [← List.take_append_drop 24 words1, List.all_append, w_t1, ← List.take_append_drop 24 (words1.drop 24), List.all_append, w_t2, w_t3]
  rfl
set_option maxRecDepth 65536 in
theorem w_case : (Jvm.Cond.and given_1 narrow_1).before args0 about1 = true := by decide +kernel
theorem w_applies : (headSpec (Jvm.Cond.code x code maxLocals ret :: tables_1) room_1).applies x e0.platform about1 = true :=
  (Spec.applies_iff w_frames).mpr ⟨w_running, w_runnable, w_alone, w_named, w_hears, w_ripe, w_room, w_tables⟩
theorem atStart : AtStart classFile x code maxLocals ret World_1 tables_1 room_1 Calls_1 rest_1 Pre_1 launch0 p0 e0 about1 theMethod args0 below0 :=
  ⟨lists_1, trivial, launch0.admits_env _ _ _, launch0.least_env, fairChoices_fair.cas, fairChoices_fair.clock, w_frames, w_args, w_heap, w_applies, trivial, trivial, w_case⟩
end start1
theorem witness_1 : WitnessClaimed_1 := ⟨start1.p0, start1.e0, start1.about1, start1.theMethod, start1.args0, start1.below0, start1.atStart⟩
end Jvm.Pilot.@@N@@
