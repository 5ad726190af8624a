import JvmDerived
import JvmDerived.Pilot.@@N@@Statement
import JvmDerived.Pilot.@@N@@Code
set_option linter.unusedVariables false
set_option linter.unusedSimpArgs false
namespace Jvm.RoadKit
open Sem ClassFile Op Lib Jvm.Stand Jvm.Free Jvm.LawKit
section New
variable {p : Program} {l : Launch} {e : Env} {R : Room} {s : State} {m : MethodId} {args : Array Value} {below : List Frame} {meth : Method} {c : Code} {T : State} {locs : List Loc} {cells slots : Nat}
theorem retI (X : Stand p l e R s m args below meth c T locs cells slots) (hEX : p.tables.exec = Jvm.exec) {pc : Nat} {Ls : Array Slot} {z : Int32} {rest : List Value} (hRT : meth.sig.returnType = some .int) (hd : decode c.code pc = .ok (.ireturn, 1)) {fs : List Frame}
    (hl : ∀ (f : JFrame) (acts : List Action), f.method = m → f.locked = none → f.entered = [] → (doReturn e (T.setTop f) acts (some (.int z))).1 = T.setFrames fs) : Steps p.tables e below (T.setTop (mkF m pc Ls (.int z :: rest))) (T.setFrames fs) := by
  have hm' : T.vm.method? m = some meth := X.method'
  have hn : narrow .int (.int z) = .int z := rfl
  show Steps p.tables e below (T.setTop { method := m, pc := pc, locals := Ls, stack := _ :: rest, locked := none }) _
  jvm_step X.here [X.here.top, hEX, hd, hm', hRT, hn]
  first | (intro acts; rw [hl _ acts rfl rfl rfl]) | rw [hl _ _ rfl rfl rfl]
  exact Steps.refl _
abbrev Us : Slot := .unset
abbrev Zs : Slot := .second
abbrev Nv : Slot := .val .null
abbrev Iv (x : Int32) : Slot := .val (.int x)
abbrev Lv (x : Int64) : Slot := .val (.long x)
abbrev Rv (x : Addr) : Slot := .val (.ref x)
/-- the body comes to its end from st: it returns v, and Q holds of v, of the heap and of the places written -/
def Done (p : Program) (e : Env) (below : List Frame) (s : State) (Q : Option Value → Heap → List Loc → Prop) (kc ks : Nat) (st : State) : Prop :=
  ∃ (s₂ : State) (o : Outcome), Steps p.tables e below st s₂ ∧ s₂.status = .running ∧ Ended s₂ below o ∧ ∃ v L, o = .returned v ∧ Q v s₂.heap L ∧ FrameEnd s o s₂ L kc ks
variable {Q : Option Value → Heap → List Loc → Prop} {kc ks : Nat}
theorem Done.pre {st st' : State} (h : ∀ t, Steps p.tables e below st' t → Steps p.tables e below st t) (D : Done p e below s Q kc ks st') : Done p e below s Q kc ks st := by
  obtain ⟨s₂, o, h1, r⟩ := D
  exact ⟨s₂, o, h _ h1, r⟩
theorem Done.retI (X : Stand p l e R s m args below meth c T locs cells slots) (hEX : p.tables.exec = Jvm.exec) (hLK : meth.locks = false) {pc : Nat} {Ls : Array Slot} {z : Int32} {rest : List Value} (hRT : meth.sig.returnType = some .int) (hd : decode c.code pc = .ok (.ireturn, 1))
    (hQ : Q (some (.int z)) T.heap locs) (hc : cells ≤ kc) (hs : slots ≤ ks) : Done p e below s Q kc ks (T.setTop (mkF m pc Ls (.int z :: rest))) := by
  obtain ⟨fs, hr, hrun, hended, hW, hsame⟩ := X.leave (v := some (.int z)) (fun h => by rw [hRT] at h; cases h) hLK
  exact ⟨_, _, Jvm.RoadKit.retI X hEX hRT hd hr, hrun, hended, _, _, rfl, hQ, ⟨_, rfl⟩, hW, hsame.mono hc hs⟩
theorem Done.retN (X : Stand p l e R s m args below meth c T locs cells slots) (hEX : p.tables.exec = Jvm.exec) (hLK : meth.locks = false) {pc : Nat} {Ls : Array Slot} {z : Int32} {t : FieldType} {rest : List Value} (hRT : meth.sig.returnType = some t) (ht : t = .boolean ∨ t = .byte ∨ t = .char ∨ t = .short) (hd : decode c.code pc = .ok (.ireturn, 1))
    (hQ : Q (some (.int (nar t z))) T.heap locs) (hc : cells ≤ kc) (hs : slots ≤ ks) : Done p e below s Q kc ks (T.setTop (mkF m pc Ls (.int z :: rest))) := by
  obtain ⟨fs, hr, hrun, hended, hW, hsame⟩ := X.leave (v := some (.int (nar t z))) (fun h => by rw [hRT] at h; cases h) hLK
  exact ⟨_, _, Jvm.RoadKit.retN X hEX hRT ht hd hr, hrun, hended, _, _, rfl, hQ, ⟨_, rfl⟩, hW, hsame.mono hc hs⟩
theorem Done.retL (X : Stand p l e R s m args below meth c T locs cells slots) (hEX : p.tables.exec = Jvm.exec) (hLK : meth.locks = false) {pc : Nat} {Ls : Array Slot} {z : Int64} {rest : List Value} (hRT : meth.sig.returnType = some .long) (hd : decode c.code pc = .ok (.lreturn, 1))
    (hQ : Q (some (.long z)) T.heap locs) (hc : cells ≤ kc) (hs : slots ≤ ks) : Done p e below s Q kc ks (T.setTop (mkF m pc Ls (.long z :: rest))) := by
  obtain ⟨fs, hr, hrun, hended, hW, hsame⟩ := X.leave (v := some (.long z)) (fun h => by rw [hRT] at h; cases h) hLK
  exact ⟨_, _, retOut X hEX hRT rfl (Or.inr (Or.inl ⟨rfl, rfl, _, rfl⟩)) hd hr, hrun, hended, _, _, rfl, hQ, ⟨_, rfl⟩, hW, hsame.mono hc hs⟩
theorem Done.retA (X : Stand p l e R s m args below meth c T locs cells slots) (hEX : p.tables.exec = Jvm.exec) (hLK : meth.locks = false) {pc : Nat} {Ls : Array Slot} {w : Value} {t : FieldType} {rest : List Value} (hRT : meth.sig.returnType = some t) (ht : t.isReference = true) (hw : w.isRef = true) (hd : decode c.code pc = .ok (.areturn, 1))
    (hQ : Q (some w) T.heap locs) (hc : cells ≤ kc) (hs : slots ≤ ks) : Done p e below s Q kc ks (T.setTop (mkF m pc Ls (w :: rest))) := by
  obtain ⟨fs, hr, hrun, hended, hW, hsame⟩ := X.leave (v := some w) (fun h => by rw [hRT] at h; cases h) hLK
  have hn : narrow t w = w := by cases t <;> first | rfl | (simp [FieldType.isReference] at ht)
  exact ⟨_, _, retOut X hEX hRT hn (Or.inr (Or.inr (Or.inr (Or.inr ⟨rfl, ht, hw⟩)))) hd hr, hrun, hended, _, _, rfl, hQ, ⟨_, rfl⟩, hW, hsame.mono hc hs⟩
theorem Done.retV (X : Stand p l e R s m args below meth c T locs cells slots) (hEX : p.tables.exec = Jvm.exec) (hLK : meth.locks = false) {pc : Nat} {Ls : Array Slot} (hRT : meth.sig.returnType = none) (hd : decode c.code pc = .ok (.return_, 1))
    (hQ : Q none T.heap locs) (hc : cells ≤ kc) (hs : slots ≤ ks) : Done p e below s Q kc ks (T.setTop (mkF m pc Ls [])) := by
  obtain ⟨fs, hr, hrun, hended, hW, hsame⟩ := X.leave (v := none) (fun _ => rfl) hLK
  exact ⟨_, _, X.returnOut hEX hRT hd hr, hrun, hended, _, _, rfl, hQ, ⟨_, rfl⟩, hW, hsame.mono hc hs⟩
end New
end Jvm.RoadKit
namespace Jvm.Pilot.@@N@@
open Jvm Jvm.ClassFile Sem Op Lib Jvm.Free Jvm.Stand Jvm.LawKit Jvm.RoadKit Bundle Jvm.Pilot.@@N@@.Jvm.D

def own_V (x0 x1 x2 x3 x4 x5 x6 x7 : Int) : Int := x0 * 1 + x1 * 281474976710656 + x2 * 79228162514264337593543950336 + x3 * 22300745198530623141535718272648361505980416 + x4 * 6277101735386680763835789423207666416102355444464034512896 + x5 * 1766847064778384329583297500742918515827483896875618958121606201292619776 + x6 * 497323236409786642155382248146820840100456150797347717440463976893159497012533375533056 + x7 * 139984046386112763159840142535527767382602843577165595931249318810236991948760059086304843329475444736
def own_W (x0 x1 x2 x3 x4 x5 x6 x7 : Int64) : Int := own_V x0.toInt x1.toInt x2.toInt x3.toInt x4.toInt x5.toInt x6.toInt x7.toInt
def own_R (m : Int) (x0 x1 x2 x3 x4 x5 x6 x7 : Int64) : Prop := (-m ≤ x0.toInt ∧ x0.toInt ≤ m) ∧ (-m ≤ x1.toInt ∧ x1.toInt ≤ m) ∧ (-m ≤ x2.toInt ∧ x2.toInt ≤ m) ∧ (-m ≤ x3.toInt ∧ x3.toInt ≤ m) ∧ (-m ≤ x4.toInt ∧ x4.toInt ≤ m) ∧ (-m ≤ x5.toInt ∧ x5.toInt ≤ m) ∧ (-m ≤ x6.toInt ∧ x6.toInt ≤ m) ∧ (-m ≤ x7.toInt ∧ x7.toInt ≤ m)
def own_C (x0 x1 x2 x3 x4 x5 x6 x7 : Int64) : Prop := (0 ≤ x0.toInt ∧ x0.toInt < 281474976710656) ∧ (0 ≤ x1.toInt ∧ x1.toInt < 281474976710656) ∧ (0 ≤ x2.toInt ∧ x2.toInt < 281474976710656) ∧ (0 ≤ x3.toInt ∧ x3.toInt < 281474976710656) ∧ (0 ≤ x4.toInt ∧ x4.toInt < 281474976710656) ∧ (0 ≤ x5.toInt ∧ x5.toInt < 281474976710656) ∧ (0 ≤ x6.toInt ∧ x6.toInt < 281474976710656) ∧ (0 ≤ x7.toInt ∧ x7.toInt < 281474976710656)
def own_M (w : Int) : Prop := ∃ c : Int, w = c * 39402006196394479212279040100143613805079739270465446667948293404245721771496870329047266088258938001861606973112319

theorem own_shr (x : Int64) : (x >>> ((48 : Int32) &&& 0x3f).toInt64).toInt = x.toInt / 281474976710656 := by
  rw [c_lshr x (48 : Int32) 48 (by decide)]; rfl
theorem own_msk (x : Int64) : (x &&& (281474976710655 : Int64)).toInt = x.toInt % 281474976710656 := by
  rw [c_maskL x (281474976710655 : Int64) 48 (by decide) (by decide +kernel)]; rfl
theorem own_car (x y z : Int64) (hx : z = (x &&& (281474976710655 : Int64)) + (y >>> ((48 : Int32) &&& 0x3f).toInt64)) (hy : -9007199254740992 ≤ y.toInt ∧ y.toInt ≤ 9007199254740992) : z.toInt = x.toInt % 281474976710656 + y.toInt / 281474976710656 := by
  have h1 := own_shr y
  have h2 := own_msk x
  have h3 := c_ladd (x &&& (281474976710655 : Int64)) (y >>> ((48 : Int32) &&& 0x3f).toInt64)
  have h4 := rng64 ((x &&& (281474976710655 : Int64)) + (y >>> ((48 : Int32) &&& 0x3f).toInt64))
  rw [hx]; omega
theorem own_lo (c l : Int64) (hl : l = ((c &&& (65535 : Int64)) <<< ((32 : Int32) &&& 0x3f).toInt64)) : l.toInt = (c.toInt % 65536) * 4294967296 := by
  have h1 := c_lshl (c &&& (65535 : Int64)) (32 : Int32) 32 (by decide)
  have h2 := c_maskL c (65535 : Int64) 16 (by decide) (by decide +kernel)
  have h4 := rng64 ((c &&& (65535 : Int64)) <<< ((32 : Int32) &&& 0x3f).toInt64)
  have e1 : ((2 ^ 32 : Nat) : Int) = 4294967296 := rfl
  have e2 : ((2 ^ 16 : Nat) : Int) = 65536 := rfl
  rw [e2] at h2
  rw [h2, e1] at h1
  rw [hl]; omega
theorem own_hi (c l : Int64) (hl : l = (c >>> ((16 : Int32) &&& 0x3f).toInt64)) : l.toInt = c.toInt / 65536 := by
  rw [hl, c_lshr c (16 : Int32) 16 (by decide)]; rfl
theorem own_add (x y z : Int64) (m : Int) (hz : z = x + y) (hx : -m ≤ x.toInt ∧ x.toInt ≤ m) (hy : -m ≤ y.toInt ∧ y.toInt ≤ m) (hm : m ≤ 2305843009213693952) : z.toInt = x.toInt + y.toInt := by
  have h3 := c_ladd x y
  have h4 := rng64 (x + y)
  rw [hz]; omega
theorem own_sub (x y z : Int64) (m : Int) (hz : z = x - y) (hx : -m ≤ x.toInt ∧ x.toInt ≤ m) (hy : -m ≤ y.toInt ∧ y.toInt ≤ m) (hm : m ≤ 2305843009213693952) : z.toInt = x.toInt - y.toInt := by
  have h3 := c_lsub x y
  have h4 := rng64 (x - y)
  rw [hz]; omega
theorem own_store (x0 x1 x2 x3 x4 x5 x6 x7 c y7 y6 y5 y4 y3 y2 y1 y0 lo hi : Int64) (hR : own_R 9007199254740992 x0 x1 x2 x3 x4 x5 x6 x7) (hc : c = (x7 >>> ((48 : Int32) &&& 0x3f).toInt64)) (h7 : y7 = (x7 &&& (281474976710655 : Int64)) + (x6 >>> ((48 : Int32) &&& 0x3f).toInt64)) (h6 : y6 = (x6 &&& (281474976710655 : Int64)) + (x5 >>> ((48 : Int32) &&& 0x3f).toInt64)) (h5 : y5 = (x5 &&& (281474976710655 : Int64)) + (x4 >>> ((48 : Int32) &&& 0x3f).toInt64)) (h4 : y4 = (x4 &&& (281474976710655 : Int64)) + (x3 >>> ((48 : Int32) &&& 0x3f).toInt64)) (h3 : y3 = (x3 &&& (281474976710655 : Int64)) + (x2 >>> ((48 : Int32) &&& 0x3f).toInt64)) (h2 : y2 = (x2 &&& (281474976710655 : Int64)) + (x1 >>> ((48 : Int32) &&& 0x3f).toInt64)) (h1 : y1 = (x1 &&& (281474976710655 : Int64)) + (x0 >>> ((48 : Int32) &&& 0x3f).toInt64)) (h0 : y0 = (x0 &&& (281474976710655 : Int64))) (hlo : lo = ((c &&& (65535 : Int64)) <<< ((32 : Int32) &&& 0x3f).toInt64)) (hhi : hi = (c >>> ((16 : Int32) &&& 0x3f).toInt64)) :
    own_R 562949953421440 ((y0 + c) - lo) (y1 - hi) ((y2 + c) + lo) (y3 + hi) y4 y5 y6 y7 ∧ own_M (own_W x0 x1 x2 x3 x4 x5 x6 x7 - own_W ((y0 + c) - lo) (y1 - hi) ((y2 + c) + lo) (y3 + hi) y4 y5 y6 y7) := by
  obtain ⟨b0, b1, b2, b3, b4, b5, b6, b7⟩ := hR
  have ec : c.toInt = x7.toInt / 281474976710656 := by rw [hc]; exact own_shr x7
  have e1 := own_car x1 x0 y1 h1 b0
  have e2 := own_car x2 x1 y2 h2 b1
  have e3 := own_car x3 x2 y3 h3 b2
  have e4 := own_car x4 x3 y4 h4 b3
  have e5 := own_car x5 x4 y5 h5 b4
  have e6 := own_car x6 x5 y6 h6 b5
  have e7 := own_car x7 x6 y7 h7 b6
  have e0 : y0.toInt = x0.toInt % 281474976710656 := by rw [h0]; exact own_msk x0
  have el := own_lo c lo hlo
  have eh := own_hi c hi hhi
  clear hc h1 h2 h3 h4 h5 h6 h7 h0 hlo hhi
  have s0 := own_add y0 c (y0 + c) 1152921504606846976 rfl (by omega) (by omega) (by decide)
  have r0 := own_sub (y0 + c) lo ((y0 + c) - lo) 1152921504606846976 rfl (by omega) (by omega) (by decide)
  have r1 := own_sub y1 hi (y1 - hi) 1152921504606846976 rfl (by omega) (by omega) (by decide)
  have s2 := own_add y2 c (y2 + c) 1152921504606846976 rfl (by omega) (by omega) (by decide)
  have r2 := own_add (y2 + c) lo ((y2 + c) + lo) 1152921504606846976 rfl (by omega) (by omega) (by decide)
  have r3 := own_add y3 hi (y3 + hi) 1152921504606846976 rfl (by omega) (by omega) (by decide)
  rw [s0] at r0
  rw [s2] at r2
  refine ⟨⟨by omega, by omega, by omega, by omega, by omega, by omega, by omega, by omega⟩, ⟨c.toInt, ?_⟩⟩
  unfold own_W own_V
  rw [r0, r1, r2, r3]
  omega

theorem own_prop (x0 x1 x2 x3 x4 x5 x6 x7 t0 t1 t2 t3 t4 t5 t6 t7 cy : Int64) (hR : own_R 4503599627370496 x0 x1 x2 x3 x4 x5 x6 x7) (h0 : t0 = x0 + (0 : Int64)) (h1 : t1 = x1 + (t0 >>> ((48 : Int32) &&& 0x3f).toInt64)) (h2 : t2 = x2 + (t1 >>> ((48 : Int32) &&& 0x3f).toInt64)) (h3 : t3 = x3 + (t2 >>> ((48 : Int32) &&& 0x3f).toInt64)) (h4 : t4 = x4 + (t3 >>> ((48 : Int32) &&& 0x3f).toInt64)) (h5 : t5 = x5 + (t4 >>> ((48 : Int32) &&& 0x3f).toInt64)) (h6 : t6 = x6 + (t5 >>> ((48 : Int32) &&& 0x3f).toInt64)) (h7 : t7 = x7 + (t6 >>> ((48 : Int32) &&& 0x3f).toInt64)) (hcy : cy = (t7 >>> ((48 : Int32) &&& 0x3f).toInt64)) :
    own_C (t0 &&& (281474976710655 : Int64)) (t1 &&& (281474976710655 : Int64)) (t2 &&& (281474976710655 : Int64)) (t3 &&& (281474976710655 : Int64)) (t4 &&& (281474976710655 : Int64)) (t5 &&& (281474976710655 : Int64)) (t6 &&& (281474976710655 : Int64)) (t7 &&& (281474976710655 : Int64)) ∧ own_W (t0 &&& (281474976710655 : Int64)) (t1 &&& (281474976710655 : Int64)) (t2 &&& (281474976710655 : Int64)) (t3 &&& (281474976710655 : Int64)) (t4 &&& (281474976710655 : Int64)) (t5 &&& (281474976710655 : Int64)) (t6 &&& (281474976710655 : Int64)) (t7 &&& (281474976710655 : Int64)) + cy.toInt * 39402006196394479212279040100143613805079739270465446667948293404245721771497210611414266254884915640806627990306816 = own_W x0 x1 x2 x3 x4 x5 x6 x7 := by
  obtain ⟨b0, b1, b2, b3, b4, b5, b6, b7⟩ := hR
  have z0 : (0 : Int64).toInt = 0 := rfl
  have e0 := own_add x0 (0 : Int64) t0 1152921504606846976 h0 (by omega) (by omega) (by decide)
  rw [z0] at e0
  have e1 := own_add x1 (t0 >>> ((48 : Int32) &&& 0x3f).toInt64) t1 1152921504606846976 h1 (by omega) (by rw [own_shr]; omega) (by decide)
  rw [own_shr] at e1
  have e2 := own_add x2 (t1 >>> ((48 : Int32) &&& 0x3f).toInt64) t2 1152921504606846976 h2 (by omega) (by rw [own_shr]; omega) (by decide)
  rw [own_shr] at e2
  have e3 := own_add x3 (t2 >>> ((48 : Int32) &&& 0x3f).toInt64) t3 1152921504606846976 h3 (by omega) (by rw [own_shr]; omega) (by decide)
  rw [own_shr] at e3
  have e4 := own_add x4 (t3 >>> ((48 : Int32) &&& 0x3f).toInt64) t4 1152921504606846976 h4 (by omega) (by rw [own_shr]; omega) (by decide)
  rw [own_shr] at e4
  have e5 := own_add x5 (t4 >>> ((48 : Int32) &&& 0x3f).toInt64) t5 1152921504606846976 h5 (by omega) (by rw [own_shr]; omega) (by decide)
  rw [own_shr] at e5
  have e6 := own_add x6 (t5 >>> ((48 : Int32) &&& 0x3f).toInt64) t6 1152921504606846976 h6 (by omega) (by rw [own_shr]; omega) (by decide)
  rw [own_shr] at e6
  have e7 := own_add x7 (t6 >>> ((48 : Int32) &&& 0x3f).toInt64) t7 1152921504606846976 h7 (by omega) (by rw [own_shr]; omega) (by decide)
  rw [own_shr] at e7
  have ecy : cy.toInt = t7.toInt / 281474976710656 := by rw [hcy]; exact own_shr t7
  have m0 := own_msk t0
  have m1 := own_msk t1
  have m2 := own_msk t2
  have m3 := own_msk t3
  have m4 := own_msk t4
  have m5 := own_msk t5
  have m6 := own_msk t6
  have m7 := own_msk t7
  clear h0 h1 h2 h3 h4 h5 h6 h7 hcy
  refine ⟨?_, ?_⟩
  · unfold own_C; rw [m0, m1, m2, m3, m4, m5, m6, m7]; omega
  · unfold own_W own_V; rw [m0, m1, m2, m3, m4, m5, m6, m7]; omega
theorem own_fold (x0 x1 x2 x3 x4 x5 x6 x7 c lo hi : Int64) (hC : own_C x0 x1 x2 x3 x4 x5 x6 x7) (hc : -8 ≤ c.toInt ∧ c.toInt ≤ 8) (hlo : lo = ((c &&& (65535 : Int64)) <<< ((32 : Int32) &&& 0x3f).toInt64)) (hhi : hi = (c >>> ((16 : Int32) &&& 0x3f).toInt64)) :
    own_R 562949953421440 (x0 + (c - lo)) (x1 - hi) (x2 + (c + lo)) (x3 + hi) x4 x5 x6 x7 ∧ own_W (x0 + (c - lo)) (x1 - hi) (x2 + (c + lo)) (x3 + hi) x4 x5 x6 x7 = own_W x0 x1 x2 x3 x4 x5 x6 x7 + c.toInt * 340282367000166625977638945021017194497 := by
  obtain ⟨b0, b1, b2, b3, b4, b5, b6, b7⟩ := hC
  have el := own_lo c lo hlo
  have eh := own_hi c hi hhi
  clear hlo hhi
  have s0 := own_sub c lo (c - lo) 1152921504606846976 rfl (by omega) (by omega) (by decide)
  have r0 := own_add x0 (c - lo) (x0 + (c - lo)) 1152921504606846976 rfl (by omega) (by omega) (by decide)
  have r1 := own_sub x1 hi (x1 - hi) 1152921504606846976 rfl (by omega) (by omega) (by decide)
  have s2 := own_add c lo (c + lo) 1152921504606846976 rfl (by omega) (by omega) (by decide)
  have r2 := own_add x2 (c + lo) (x2 + (c + lo)) 1152921504606846976 rfl (by omega) (by omega) (by decide)
  have r3 := own_add x3 hi (x3 + hi) 1152921504606846976 rfl (by omega) (by omega) (by decide)
  rw [s0] at r0
  rw [s2] at r2
  refine ⟨⟨by omega, by omega, by omega, by omega, by omega, by omega, by omega, by omega⟩, ?_⟩
  unfold own_W own_V
  rw [r0, r1, r2, r3]
  omega
theorem own_Wrng (x0 x1 x2 x3 x4 x5 x6 x7 : Int64) (hC : own_C x0 x1 x2 x3 x4 x5 x6 x7) : 0 ≤ own_W x0 x1 x2 x3 x4 x5 x6 x7 ∧ own_W x0 x1 x2 x3 x4 x5 x6 x7 < 39402006196394479212279040100143613805079739270465446667948293404245721771497210611414266254884915640806627990306816 := by
  obtain ⟨b0, b1, b2, b3, b4, b5, b6, b7⟩ := hC
  unfold own_W own_V; omega
theorem own_WR (x0 x1 x2 x3 x4 x5 x6 x7 : Int64) (hR : own_R 562949953421440 x0 x1 x2 x3 x4 x5 x6 x7) : -157608024785577916849116160400574455220318957081861786671793173616982887085988842445657065019539662563226511961227264 ≤ own_W x0 x1 x2 x3 x4 x5 x6 x7 ∧ own_W x0 x1 x2 x3 x4 x5 x6 x7 ≤ 157608024785577916849116160400574455220318957081861786671793173616982887085988842445657065019539662563226511961227264 := by
  obtain ⟨b0, b1, b2, b3, b4, b5, b6, b7⟩ := hR
  unfold own_W own_V; omega
theorem own_zero (x0 x1 x2 x3 x4 x5 x6 x7 : Int64) (hC : own_C x0 x1 x2 x3 x4 x5 x6 x7) (h : own_W x0 x1 x2 x3 x4 x5 x6 x7 = 0) : x0 = (0 : Int64) ∧ x1 = (0 : Int64) ∧ x2 = (0 : Int64) ∧ x3 = (0 : Int64) ∧ x4 = (0 : Int64) ∧ x5 = (0 : Int64) ∧ x6 = (0 : Int64) ∧ x7 = (0 : Int64) := by
  obtain ⟨b0, b1, b2, b3, b4, b5, b6, b7⟩ := hC
  unfold own_W own_V at h
  have z0 : (0 : Int64).toInt = 0 := rfl
  refine ⟨Int64.toInt_inj.mp (by rw [z0]; omega), Int64.toInt_inj.mp (by rw [z0]; omega), Int64.toInt_inj.mp (by rw [z0]; omega), Int64.toInt_inj.mp (by rw [z0]; omega), Int64.toInt_inj.mp (by rw [z0]; omega), Int64.toInt_inj.mp (by rw [z0]; omega), Int64.toInt_inj.mp (by rw [z0]; omega), Int64.toInt_inj.mp (by rw [z0]; omega)⟩
theorem own_Rup (m m' : Int) (x0 x1 x2 x3 x4 x5 x6 x7 : Int64) (hm : m ≤ m') (h : own_R m x0 x1 x2 x3 x4 x5 x6 x7) : own_R m' x0 x1 x2 x3 x4 x5 x6 x7 := by
  obtain ⟨b0, b1, b2, b3, b4, b5, b6, b7⟩ := h
  exact ⟨by omega, by omega, by omega, by omega, by omega, by omega, by omega, by omega⟩

theorem own_cy1 (W Y cy : Int) (h : Y + cy * 39402006196394479212279040100143613805079739270465446667948293404245721771497210611414266254884915640806627990306816 = W) (hy : 0 ≤ Y ∧ Y < 39402006196394479212279040100143613805079739270465446667948293404245721771497210611414266254884915640806627990306816) (hw : -157608024785577916849116160400574455220318957081861786671793173616982887085988842445657065019539662563226511961227264 ≤ W ∧ W ≤ 157608024785577916849116160400574455220318957081861786671793173616982887085988842445657065019539662563226511961227264) : -8 ≤ cy ∧ cy ≤ 8 := by omega
theorem own_cy2 (Y1 c1 Y2 c2 Z : Int) (hz : Z = Y1 + c1 * 340282367000166625977638945021017194497) (h : Y2 + c2 * 39402006196394479212279040100143613805079739270465446667948293404245721771497210611414266254884915640806627990306816 = Z) (hy1 : 0 ≤ Y1 ∧ Y1 < 39402006196394479212279040100143613805079739270465446667948293404245721771497210611414266254884915640806627990306816) (hy2 : 0 ≤ Y2 ∧ Y2 < 39402006196394479212279040100143613805079739270465446667948293404245721771497210611414266254884915640806627990306816) (hc : -8 ≤ c1 ∧ c1 ≤ 8) : -1 ≤ c2 ∧ c2 ≤ 1 := by omega
theorem own_cy3 (Y1 c1 Y2 c2 Z Y3 c3 Z2 : Int) (hz : Z = Y1 + c1 * 340282367000166625977638945021017194497) (h : Y2 + c2 * 39402006196394479212279040100143613805079739270465446667948293404245721771497210611414266254884915640806627990306816 = Z) (hz2 : Z2 = Y2 + c2 * 340282367000166625977638945021017194497) (h2 : Y3 + c3 * 39402006196394479212279040100143613805079739270465446667948293404245721771497210611414266254884915640806627990306816 = Z2) (hy1 : 0 ≤ Y1 ∧ Y1 < 39402006196394479212279040100143613805079739270465446667948293404245721771497210611414266254884915640806627990306816) (hy2 : 0 ≤ Y2 ∧ Y2 < 39402006196394479212279040100143613805079739270465446667948293404245721771497210611414266254884915640806627990306816) (hy3 : 0 ≤ Y3 ∧ Y3 < 39402006196394479212279040100143613805079739270465446667948293404245721771497210611414266254884915640806627990306816) (hc : -8 ≤ c1 ∧ c1 ≤ 8) (hn : c2 ≠ 0) : c3 = 0 := by omega
theorem own_M1 (W Y cy : Int) (h : Y + cy * 39402006196394479212279040100143613805079739270465446667948293404245721771497210611414266254884915640806627990306816 = W) (hm : own_M W) (hz : cy = 0) : own_M Y := by
  obtain ⟨k, hk⟩ := hm; exact ⟨k, by omega⟩
theorem own_M2 (W Y c1 Y2 c2 Z : Int) (h1 : Y + c1 * 39402006196394479212279040100143613805079739270465446667948293404245721771497210611414266254884915640806627990306816 = W) (hz : Z = Y + c1 * 340282367000166625977638945021017194497) (h : Y2 + c2 * 39402006196394479212279040100143613805079739270465446667948293404245721771497210611414266254884915640806627990306816 = Z) (hm : own_M W) : own_M (Y2 + c2 * 39402006196394479212279040100143613805079739270465446667948293404245721771497210611414266254884915640806627990306816) := by
  obtain ⟨k, hk⟩ := hm; exact ⟨k - c1, by omega⟩
theorem own_M0 (a b : Int) (h : own_M (a + b * 39402006196394479212279040100143613805079739270465446667948293404245721771497210611414266254884915640806627990306816)) (hz : b = 0) : own_M a := by
  obtain ⟨k, hk⟩ := h; exact ⟨k, by omega⟩
theorem own_end0 (Y Z Y4 c4 : Int) (hm : own_M Y) (hy : 0 ≤ Y ∧ Y < 39402006196394479212279040100143613805079739270465446667948293404245721771497210611414266254884915640806627990306816) (hz : Z = Y + 1 * 340282367000166625977638945021017194497) (h : Y4 + c4 * 39402006196394479212279040100143613805079739270465446667948293404245721771497210611414266254884915640806627990306816 = Z) (hy4 : 0 ≤ Y4 ∧ Y4 < 39402006196394479212279040100143613805079739270465446667948293404245721771497210611414266254884915640806627990306816) : (c4 = 0 → Y = 0) ∧ (c4 ≠ 0 → Y4 = 0) := by
  obtain ⟨k, hk⟩ := hm
  have hk2 : k = 0 ∨ k = 1 := by omega
  rcases hk2 with q | q <;> subst q <;> omega
theorem own_toI (c : Int64) : (c = (0 : Int64)) ↔ c.toInt = 0 := by rw [← Int64.toInt_inj]; rfl
theorem own_inlo (v : Int64) (h : -562949953421440 ≤ v.toInt ∧ v.toInt ≤ 562949953421440) : (-1125899906842624 : Int64) < v := by
  rw [Int64.lt_iff_toInt_lt]; have e : (-1125899906842624 : Int64).toInt = -1125899906842624 := rfl
  omega
theorem own_inhi (v : Int64) (h : -562949953421440 ≤ v.toInt ∧ v.toInt ≤ 562949953421440) : v < (1125899906842624 : Int64) := by
  rw [Int64.lt_iff_toInt_lt]; have e : (1125899906842624 : Int64).toInt = 1125899906842624 := rfl
  omega
theorem own_addb (m : Int) (hm : m ≤ 1152921504606846976) (a0 a1 a2 a3 a4 a5 a6 a7 b0 b1 b2 b3 b4 b5 b6 b7 : Int64) (ha : own_R m a0 a1 a2 a3 a4 a5 a6 a7) (hb : own_R m b0 b1 b2 b3 b4 b5 b6 b7) : own_R (2 * m) (a0 + b0) (a1 + b1) (a2 + b2) (a3 + b3) (a4 + b4) (a5 + b5) (a6 + b6) (a7 + b7) ∧ own_W (a0 + b0) (a1 + b1) (a2 + b2) (a3 + b3) (a4 + b4) (a5 + b5) (a6 + b6) (a7 + b7) = own_W a0 a1 a2 a3 a4 a5 a6 a7 + own_W b0 b1 b2 b3 b4 b5 b6 b7 := by
  obtain ⟨p0, p1, p2, p3, p4, p5, p6, p7⟩ := ha
  obtain ⟨q0, q1, q2, q3, q4, q5, q6, q7⟩ := hb
  have e0 := own_add a0 b0 (a0 + b0) m rfl p0 q0 (by omega)
  have e1 := own_add a1 b1 (a1 + b1) m rfl p1 q1 (by omega)
  have e2 := own_add a2 b2 (a2 + b2) m rfl p2 q2 (by omega)
  have e3 := own_add a3 b3 (a3 + b3) m rfl p3 q3 (by omega)
  have e4 := own_add a4 b4 (a4 + b4) m rfl p4 q4 (by omega)
  have e5 := own_add a5 b5 (a5 + b5) m rfl p5 q5 (by omega)
  have e6 := own_add a6 b6 (a6 + b6) m rfl p6 q6 (by omega)
  have e7 := own_add a7 b7 (a7 + b7) m rfl p7 q7 (by omega)
  refine ⟨⟨by omega, by omega, by omega, by omega, by omega, by omega, by omega, by omega⟩, ?_⟩
  unfold own_W own_V; rw [e0, e1, e2, e3, e4, e5, e6, e7]; omega
theorem own_subb (m : Int) (hm : m ≤ 1152921504606846976) (a0 a1 a2 a3 a4 a5 a6 a7 b0 b1 b2 b3 b4 b5 b6 b7 : Int64) (ha : own_R m a0 a1 a2 a3 a4 a5 a6 a7) (hb : own_R m b0 b1 b2 b3 b4 b5 b6 b7) : own_R (2 * m) (a0 - b0) (a1 - b1) (a2 - b2) (a3 - b3) (a4 - b4) (a5 - b5) (a6 - b6) (a7 - b7) ∧ own_W (a0 - b0) (a1 - b1) (a2 - b2) (a3 - b3) (a4 - b4) (a5 - b5) (a6 - b6) (a7 - b7) = own_W a0 a1 a2 a3 a4 a5 a6 a7 - own_W b0 b1 b2 b3 b4 b5 b6 b7 := by
  obtain ⟨p0, p1, p2, p3, p4, p5, p6, p7⟩ := ha
  obtain ⟨q0, q1, q2, q3, q4, q5, q6, q7⟩ := hb
  have e0 := own_sub a0 b0 (a0 - b0) m rfl p0 q0 (by omega)
  have e1 := own_sub a1 b1 (a1 - b1) m rfl p1 q1 (by omega)
  have e2 := own_sub a2 b2 (a2 - b2) m rfl p2 q2 (by omega)
  have e3 := own_sub a3 b3 (a3 - b3) m rfl p3 q3 (by omega)
  have e4 := own_sub a4 b4 (a4 - b4) m rfl p4 q4 (by omega)
  have e5 := own_sub a5 b5 (a5 - b5) m rfl p5 q5 (by omega)
  have e6 := own_sub a6 b6 (a6 - b6) m rfl p6 q6 (by omega)
  have e7 := own_sub a7 b7 (a7 - b7) m rfl p7 q7 (by omega)
  refine ⟨⟨by omega, by omega, by omega, by omega, by omega, by omega, by omega, by omega⟩, ?_⟩
  unfold own_W own_V; rw [e0, e1, e2, e3, e4, e5, e6, e7]; omega

def own_maxL (x y : Int64) : Int64 := if x < y then y else x
theorem own_limR (x : Int64) : -1125899906842624 ≤ (own_maxL (x >>> ((13 : Int32) &&& 0x3f).toInt64) (-1125899906842623 : Int64)).toInt ∧ (own_maxL (x >>> ((13 : Int32) &&& 0x3f).toInt64) (-1125899906842623 : Int64)).toInt ≤ 1125899906842624 := by
  have h1 := c_lshr x (13 : Int32) 13 (by decide)
  have h2 := rng64 x
  have e : ((2 ^ 13 : Nat) : Int) = 8192 := rfl
  rw [e] at h1
  rw [own_maxL]
  split
  · decide
  · omega
theorem own_neg (x : Int64) (h : -1125899906842624 ≤ x.toInt ∧ x.toInt ≤ 1125899906842624) : (-x).toInt = -x.toInt := by
  have h1 := c_lneg x
  have h2 := rng64 (-x)
  omega
theorem own_negR (a0 a1 a2 a3 a4 a5 a6 a7 : Int64) (h : own_R 1125899906842624 a0 a1 a2 a3 a4 a5 a6 a7) : own_R 1125899906842624 (-a0) (-a1) (-a2) (-a3) (-a4) (-a5) (-a6) (-a7) ∧ own_W (-a0) (-a1) (-a2) (-a3) (-a4) (-a5) (-a6) (-a7) = -own_W a0 a1 a2 a3 a4 a5 a6 a7 := by
  obtain ⟨b0, b1, b2, b3, b4, b5, b6, b7⟩ := h
  have e0 := own_neg a0 b0
  have e1 := own_neg a1 b1
  have e2 := own_neg a2 b2
  have e3 := own_neg a3 b3
  have e4 := own_neg a4 b4
  have e5 := own_neg a5 b5
  have e6 := own_neg a6 b6
  have e7 := own_neg a7 b7
  refine ⟨⟨by omega, by omega, by omega, by omega, by omega, by omega, by omega, by omega⟩, ?_⟩
  unfold own_W own_V; rw [e0, e1, e2, e3, e4, e5, e6, e7]; omega
theorem own_md (x : Int32) : (x &&& (3 : Int32)) = (0 : Int32) ∨ (x &&& (3 : Int32)) = (1 : Int32) ∨ (x &&& (3 : Int32)) = (2 : Int32) ∨ (x &&& (3 : Int32)) = (3 : Int32) := by
  have h1 := c_mask x (3 : Int32) 2 (by decide) (by decide)
  have e0 : (0 : Int32).toInt = 0 := rfl
  have e1 : (1 : Int32).toInt = 1 := rfl
  have e2 : (2 : Int32).toInt = 2 := rfl
  have e3 : (3 : Int32).toInt = 3 := rfl
  rw [← Int32.toInt_inj, ← Int32.toInt_inj, ← Int32.toInt_inj, ← Int32.toInt_inj]
  omega
theorem own_sumM (A B r s u nA : Int) (hn : nA = -A) (h1 : own_M ((A - B) - r)) (h2 : own_M ((r + B) - s)) (h3 : own_M ((s + nA) - u)) : own_M u := by
  obtain ⟨c1, h1⟩ := h1; obtain ⟨c2, h2⟩ := h2; obtain ⟨c3, h3⟩ := h3
  exact ⟨-(c1 + c2 + c3), by omega⟩
theorem d_jdk_29_method_66_code_0 : decode jdk_29_method_66_code 0 = .ok (.lload_n 0, 1) := by decide +kernel
theorem d_jdk_29_method_66_code_1 : decode jdk_29_method_66_code 1 = .ok (.lload_n 2, 1) := by decide +kernel
theorem d_jdk_29_method_66_code_2 : decode jdk_29_method_66_code 2 = .ok (.lcmp, 1) := by decide +kernel
theorem d_jdk_29_method_66_code_3 : decode jdk_29_method_66_code 3 = .ok (.ifCond .lt 7, 3) := by decide +kernel
theorem d_jdk_29_method_66_code_10 : decode jdk_29_method_66_code 10 = .ok (.lload_n 2, 1) := by decide +kernel
theorem d_jdk_29_method_66_code_11 : decode jdk_29_method_66_code 11 = .ok (.lreturn, 1) := by decide +kernel
theorem d_jdk_29_method_66_code_6 : decode jdk_29_method_66_code 6 = .ok (.lload_n 0, 1) := by decide +kernel
theorem d_jdk_29_method_66_code_7 : decode jdk_29_method_66_code 7 = .ok (.goto 4, 3) := by decide +kernel
def Qrm_max (Z : State) (x : Int64) (y : Int64) (h0 : Heap) (n0 : Nat) (v_ : Option Value) (h_ : Heap) (L_ : List Loc) : Prop := v_ = some (.long (own_maxL x y)) ∧ Fr n0 L_ ∧ h_ = h0
theorem ef_rm_max (m : MethodId) (x0 : Int64) (x1 : Int64) : entryFrame m #[(.long x0), (.long x1)] 4 = mkF m 0 #[.val (.long x0), .second, .val (.long x1), .second] [] := by first | (simp [entryFrame, mkF, argsToLocals, Value.category]; done) | rfl
set_option maxRecDepth 65536 in
set_option maxHeartbeats 40000000 in
theorem rm_max (l : Launch) (Z : State) (aZ : Array Value) (hw : ∀ d ∈ tables_1, d.before aZ Z = true) (ws : List Jvm.Cond) (x : Int64) (y : Int64) (h0 : Heap) (n0 : Nat) (Z0 : n0 ≤ h0.size) :
    MetFree l (⟨"java/lang/Math", "max", "(JJ)J"⟩ : MethodName) (head1 (Jvm.Cond.code (⟨"java/lang/Math", "max", "(JJ)J"⟩ : MethodName) jdk_29_method_66_code 4 (some .long) :: ws) ({ frames := 0, cells := 0, slots := 0, locals := 0 } : Room)) (fun a_ U_ => a_ = #[(.long x), (.long y)] ∧ Z.Warmed39 U_.vm ∧ U_.heap = h0) (fun _ _ _ _ _ => True) (fun _ U_ o_ U2_ => ∃ v_ L_, o_ = .returned v_ ∧ Qrm_max Z x y h0 n0 v_ U2_.heap L_ ∧ FrameEnd U_ o_ U2_ L_ ({ frames := 0, cells := 0, slots := 0, locals := 0 } : Room).cells ({ frames := 0, cells := 0, slots := 0, locals := 0 } : Room).slots) := by
  refine MetFree.of_bodySF (Jvm.Free.JP.mathPlain rfl (by decide +kernel)) hisR ?_
  intro p e s m args below meth cO s₁ Bd hml0 hP hK
  obtain ⟨rfl, hZW, hh⟩ := hP
  have hEX := Bd.exec
  have hBY := Bd.bytes
  have hMX : cO.maxLocals = 4 := hml0
  have hOW : s.vm.findClass "java/lang/Math" = some m.cls := findClass_of_methodNamed Bd.named
  have hNM := (name_of_methodNamed Bd.named Bd.method).1
  have hLK := Bd.notSynchronized
  have hRT := Bd.returns
  have X0 : Stand p l e ({ frames := 0, cells := 0, slots := 0, locals := 0 } : Room) s m #[(.long x), (.long y)] below meth cO s₁ [] 0 0 := Stand.of_body Bd
  have e0 : s₁.heap = h0 := by rw [← hh, Bd.state]; rfl
  have N0 := Fr.nil n0
  have K0 : Keep h0 h0 [] := Keep.refl _ _
  show Done p e below s (Qrm_max Z x y h0 n0) ({ frames := 0, cells := 0, slots := 0, locals := 0 } : Room).cells ({ frames := 0, cells := 0, slots := 0, locals := 0 } : Room).slots (s₁.setTop (entryFrame m #[(.long x), (.long y)] 4))
  refine Done.pre (fun t_ k_ => castTop (ef_rm_max m x y) k_) ?_
  show Done _ _ _ _ _ _ _ (s₁.setTop (mkF m 0 #[Lv x, Zs, Lv y, Zs] []))
  have sg_1 : ∀ tt_, Steps p.tables e below (s₁.setTop (mkF m 3 #[Lv x, Zs, Lv y, Zs] [(.int (lcmpW x y))])) tt_ → Steps p.tables e below (s₁.setTop (mkF m 0 #[Lv x, Zs, Lv y, Zs] [])) tt_ := by
    intro tt_ kt_
    refine XS.lloadN X0.here hEX rfl (hb hBY d_jdk_29_method_66_code_0) rfl ?_
    show Steps p.tables e below (s₁.setTop (mkF m 1 #[Lv x, Zs, Lv y, Zs] [(.long x)])) tt_
    refine XS.lloadN X0.here hEX rfl (hb hBY d_jdk_29_method_66_code_1) rfl ?_
    show Steps p.tables e below (s₁.setTop (mkF m 2 #[Lv x, Zs, Lv y, Zs] [(.long y), (.long x)])) tt_
    refine XS.lcmp X0.here hEX rfl (hb hBY d_jdk_29_method_66_code_2) rfl ?_
    exact kt_
  refine Done.pre sg_1 ?_
  by_cases hc3 : x < y
  · skip
    have sg_2 : ∀ tt_, Steps p.tables e below (s₁.setTop (mkF m 11 #[Lv x, Zs, Lv y, Zs] [(.long y)])) tt_ → Steps p.tables e below (s₁.setTop (mkF m 3 #[Lv x, Zs, Lv y, Zs] [(.int (lcmpW x y))])) tt_ := by
      intro tt_ kt_
      refine XS.ifYes X0.here hEX rfl (pc0 := 3) (pc' := 10) rfl (hb hBY d_jdk_29_method_66_code_3) rfl ((if0 _ _).trans (tlt ((lw_lt _ _).mpr hc3)).1) (by decide) (by decide) ?_
      show Steps p.tables e below (s₁.setTop (mkF m 10 #[Lv x, Zs, Lv y, Zs] [])) tt_
      refine XS.lloadN X0.here hEX rfl (hb hBY d_jdk_29_method_66_code_10) rfl ?_
      exact kt_
    refine Done.pre sg_2 ?_
    exact Done.retL X0 hEX hLK hRT (hb hBY d_jdk_29_method_66_code_11) (by rw [e0]; exact ⟨(by rw [own_maxL, if_pos hc3]), N0, rfl⟩) (by decide) (by decide)
  · skip
    have sg_3 : ∀ tt_, Steps p.tables e below (s₁.setTop (mkF m 11 #[Lv x, Zs, Lv y, Zs] [(.long x)])) tt_ → Steps p.tables e below (s₁.setTop (mkF m 3 #[Lv x, Zs, Lv y, Zs] [(.int (lcmpW x y))])) tt_ := by
      intro tt_ kt_
      refine XS.ifNo X0.here hEX rfl (hb hBY d_jdk_29_method_66_code_3) rfl ((if0 _ _).trans (flt (fun q => hc3 ((lw_lt _ _).mp q))).1) ?_
      show Steps p.tables e below (s₁.setTop (mkF m 6 #[Lv x, Zs, Lv y, Zs] [])) tt_
      refine XS.lloadN X0.here hEX rfl (hb hBY d_jdk_29_method_66_code_6) rfl ?_
      show Steps p.tables e below (s₁.setTop (mkF m 7 #[Lv x, Zs, Lv y, Zs] [(.long x)])) tt_
      refine XS.goto X0.here hEX rfl (pc0 := 7) (pc' := 11) rfl (hb hBY d_jdk_29_method_66_code_7) (by decide) (by decide) ?_
      exact kt_
    refine Done.pre sg_3 ?_
    exact Done.retL X0 hEX hLK hRT (hb hBY d_jdk_29_method_66_code_11) (by rw [e0]; exact ⟨(by rw [own_maxL, if_neg hc3]), N0, rfl⟩) (by decide) (by decide)
theorem d_method_2_code_0 : decode method_2_code 0 = .ok (.lload_n 0, 1) := by decide +kernel
theorem d_method_2_code_1 : decode method_2_code 1 = .ok (.bipush 13, 2) := by decide +kernel
theorem d_method_2_code_3 : decode method_2_code 3 = .ok (.lshr, 1) := by decide +kernel
theorem d_method_2_code_4 : decode method_2_code 4 = .ok (.ldc2_w 7, 3) := by decide +kernel
theorem d_method_2_code_7 : decode method_2_code 7 = .ok (.invokestatic 9, 3) := by decide +kernel
theorem pd__JJ_J_3 : parseMethodDescriptor "(JJ)J" = some ⟨[.long, .long], some .long⟩ := by decide +kernel
theorem d_method_2_code_10 : decode method_2_code 10 = .ok (.lreturn, 1) := by decide +kernel
def Qrm_lim (Z : State) (x : Int64) (h0 : Heap) (n0 : Nat) (v_ : Option Value) (h_ : Heap) (L_ : List Loc) : Prop := ∃ (r : Int64), v_ = some (.long r) ∧ Fr n0 L_ ∧ h_ = h0 ∧ -1125899906842624 ≤ r.toInt ∧ r.toInt ≤ 1125899906842624
theorem ef_rm_lim (m : MethodId) (x0 : Int64) : entryFrame m #[(.long x0)] 2 = mkF m 0 #[.val (.long x0), .second] [] := by first | (simp [entryFrame, mkF, argsToLocals, Value.category]; done) | rfl
theorem pn_com_example_guard3_guard3_P384FieldSubtractPinLaw : plainName "com/example/guard3/guard3/P384FieldSubtractPinLaw" = true := by first | (simp [plainName, overriddenIn]; done) | decide +kernel
set_option maxRecDepth 65536 in
set_option maxHeartbeats 40000000 in
theorem rm_lim (l : Launch) (Z : State) (aZ : Array Value) (hw : ∀ d ∈ tables_1, d.before aZ Z = true) (ws : List Jvm.Cond) (x : Int64) (h0 : Heap) (n0 : Nat) (Z0 : n0 ≤ h0.size) :
    MetFree l (⟨"com/example/guard3/guard3/P384FieldSubtractPinLaw", "lim", "(J)J"⟩ : MethodName) (head1 (Jvm.Cond.code (⟨"com/example/guard3/guard3/P384FieldSubtractPinLaw", "lim", "(J)J"⟩ : MethodName) method_2_code 2 (some .long) :: ws) ({ frames := 1, cells := 0, slots := 0, locals := 15 } : Room)) (fun a_ U_ => a_ = #[(.long x)] ∧ Z.Warmed39 U_.vm ∧ U_.heap = h0) (fun _ _ _ _ _ => True) (fun _ U_ o_ U2_ => ∃ v_ L_, o_ = .returned v_ ∧ Qrm_lim Z x h0 n0 v_ U2_.heap L_ ∧ FrameEnd U_ o_ U2_ L_ ({ frames := 1, cells := 0, slots := 0, locals := 15 } : Room).cells ({ frames := 1, cells := 0, slots := 0, locals := 15 } : Room).slots) := by
  refine MetFree.of_bodySF (plainFor_of_name pn_com_example_guard3_guard3_P384FieldSubtractPinLaw) hisR ?_
  intro p e s m args below meth cO s₁ Bd hml0 hP hK
  obtain ⟨rfl, hZW, hh⟩ := hP
  have hEX := Bd.exec
  have hBY := Bd.bytes
  have hMX : cO.maxLocals = 2 := hml0
  have hOW : s.vm.findClass "com/example/guard3/guard3/P384FieldSubtractPinLaw" = some m.cls := findClass_of_methodNamed Bd.named
  have hNM := (name_of_methodNamed Bd.named Bd.method).1
  have hLK := Bd.notSynchronized
  have hRT := Bd.returns
  have X0 : Stand p l e ({ frames := 1, cells := 0, slots := 0, locals := 15 } : Room) s m #[(.long x)] below meth cO s₁ [] 0 0 := Stand.of_body Bd
  have e0 : s₁.heap = h0 := by rw [← hh, Bd.state]; rfl
  have N0 := Fr.nil n0
  have K0 : Keep h0 h0 [] := Keep.refl _ _
  show Done p e below s (Qrm_lim Z x h0 n0) ({ frames := 1, cells := 0, slots := 0, locals := 15 } : Room).cells ({ frames := 1, cells := 0, slots := 0, locals := 15 } : Room).slots (s₁.setTop (entryFrame m #[(.long x)] 2))
  refine Done.pre (fun t_ k_ => castTop (ef_rm_lim m x) k_) ?_
  show Done _ _ _ _ _ _ _ (s₁.setTop (mkF m 0 #[Lv x, Zs] []))
  have sg_1 : ∀ tt_, Steps p.tables e below (s₁.setTop (mkF m 7 #[Lv x, Zs] [(.long (-1125899906842623 : Int64)), (.long (x >>> ((13 : Int32) &&& 0x3f).toInt64))])) tt_ → Steps p.tables e below (s₁.setTop (mkF m 0 #[Lv x, Zs] [])) tt_ := by
    intro tt_ kt_
    refine XS.lloadN X0.here hEX rfl (hb hBY d_method_2_code_0) rfl ?_
    show Steps p.tables e below (s₁.setTop (mkF m 1 #[Lv x, Zs] [(.long x)])) tt_
    refine XS.bipush X0.here hEX rfl (hb hBY d_method_2_code_1) ?_
    show Steps p.tables e below (s₁.setTop (mkF m 3 #[Lv x, Zs] [(.int (13 : Int32)), (.long x)])) tt_
    refine XS.lshr X0.here hEX rfl (hb hBY d_method_2_code_3) rfl ?_
    show Steps p.tables e below (s₁.setTop (mkF m 4 #[Lv x, Zs] [(.long (x >>> ((13 : Int32) &&& 0x3f).toInt64))])) tt_
    refine X0.ldc2Long hEX hOW (mvT hZW (hw _ (List.mem_of_getElem? (i := 4) rfl))) (g := (mkF m 4 #[Lv x, Zs] [(.long (x >>> ((13 : Int32) &&& 0x3f).toInt64))])) rfl (hb hBY d_method_2_code_4) _ ?_
    exact kt_
  refine Done.pre sg_1 ?_
  obtain ⟨_, _, ⟨T_2, L_2, k_2, n_2⟩, -, X_2, ⟨Lc_2, hQ_2, l_2, y_2, z_2⟩, st_2⟩ := Jvm.LawKit.callS X0 hEX (y := (⟨"java/lang/Math", "max", "(JJ)J"⟩ : MethodName)) hOW (mvT hZW (hw _ (List.mem_of_getElem? (i := 5) rfl))) (mvT hZW (hw _ (List.mem_of_getElem? (i := 6) rfl))) (mvT hZW (hw _ (List.mem_of_getElem? (i := 7) rfl))) (mvT hZW (hw _ (List.mem_of_getElem? (i := 8) rfl))) (by decide) (backOf (W := 0) (rm_max l Z aZ hw [] (x >>> ((13 : Int32) &&& 0x3f).toInt64) (-1125899906842623 : Int64) h0 n0 (Nat.le_trans Z0 K0.1) ) hZW (hw _ (List.mem_of_getElem? (i := 8) rfl)) (hw _ (List.mem_of_getElem? (i := 7) rfl)) (by decide) (by decide)) (g := (mkF m 7 #[Lv x, Zs] [(.long (-1125899906842623 : Int64)), (.long (x >>> ((13 : Int32) &&& 0x3f).toInt64))])) rfl (by rw [hMX]; rfl) (argsL := [(.long (x >>> ((13 : Int32) &&& 0x3f).toInt64)), (.long (-1125899906842623 : Int64))]) (rest := []) (lenOf pd__JJ_J_3 rfl) rfl (by show 2 * 0 + _ ≤ _; exact Nat.le_of_eq rfl) (hb hBY d_method_2_code_7) (fun _ _ => ⟨rfl, e0, (by decide : 0 + 0 ≤ _), (by decide : 0 + 0 ≤ _)⟩)
  dsimp only [Pt.U, Pt.locs, Pt.cells, Pt.slots] at X_2 l_2 y_2 z_2 st_2 hQ_2
  subst l_2 y_2 z_2
  obtain ⟨rfl, N_2q, e_2⟩ := hQ_2
  have N_2 := Fr.app N0 N_2q
  refine Done.pre (fun _ k_ => st_2 _ k_) ?_
  show Done _ _ _ _ _ _ _ (T_2.setTop (mkF m 10 #[Lv x, Zs] [(.long (own_maxL (x >>> ((13 : Int32) &&& 0x3f).toInt64) (-1125899906842623 : Int64)))]))
  exact Done.retL X_2 hEX hLK hRT (hb hBY d_method_2_code_10) (by rw [e_2]; exact ⟨(own_maxL (x >>> ((13 : Int32) &&& 0x3f).toInt64) (-1125899906842623 : Int64)), rfl, N_2, rfl, (own_limR x)⟩) (by decide) (by decide)
theorem d_prog_59_method_13_code_0 : decode prog_59_method_13_code 0 = .ok (.lload 15, 2) := by decide +kernel
theorem d_prog_59_method_13_code_2 : decode prog_59_method_13_code 2 = .ok (.bipush 48, 2) := by decide +kernel
theorem d_prog_59_method_13_code_4 : decode prog_59_method_13_code 4 = .ok (.lshr, 1) := by decide +kernel
theorem d_prog_59_method_13_code_5 : decode prog_59_method_13_code 5 = .ok (.lstore 17, 2) := by decide +kernel
theorem d_prog_59_method_13_code_7 : decode prog_59_method_13_code 7 = .ok (.lload 15, 2) := by decide +kernel
theorem d_prog_59_method_13_code_9 : decode prog_59_method_13_code 9 = .ok (.ldc2_w 34, 3) := by decide +kernel
theorem d_prog_59_method_13_code_12 : decode prog_59_method_13_code 12 = .ok (.land, 1) := by decide +kernel
theorem d_prog_59_method_13_code_13 : decode prog_59_method_13_code 13 = .ok (.lload 13, 2) := by decide +kernel
theorem d_prog_59_method_13_code_15 : decode prog_59_method_13_code 15 = .ok (.bipush 48, 2) := by decide +kernel
theorem d_prog_59_method_13_code_17 : decode prog_59_method_13_code 17 = .ok (.lshr, 1) := by decide +kernel
theorem d_prog_59_method_13_code_18 : decode prog_59_method_13_code 18 = .ok (.ladd, 1) := by decide +kernel
theorem d_prog_59_method_13_code_19 : decode prog_59_method_13_code 19 = .ok (.lstore 15, 2) := by decide +kernel
theorem d_prog_59_method_13_code_21 : decode prog_59_method_13_code 21 = .ok (.lload 13, 2) := by decide +kernel
theorem d_prog_59_method_13_code_23 : decode prog_59_method_13_code 23 = .ok (.ldc2_w 34, 3) := by decide +kernel
theorem d_prog_59_method_13_code_26 : decode prog_59_method_13_code 26 = .ok (.land, 1) := by decide +kernel
theorem d_prog_59_method_13_code_27 : decode prog_59_method_13_code 27 = .ok (.lload 11, 2) := by decide +kernel
theorem d_prog_59_method_13_code_29 : decode prog_59_method_13_code 29 = .ok (.bipush 48, 2) := by decide +kernel
theorem d_prog_59_method_13_code_31 : decode prog_59_method_13_code 31 = .ok (.lshr, 1) := by decide +kernel
theorem d_prog_59_method_13_code_32 : decode prog_59_method_13_code 32 = .ok (.ladd, 1) := by decide +kernel
theorem d_prog_59_method_13_code_33 : decode prog_59_method_13_code 33 = .ok (.lstore 13, 2) := by decide +kernel
theorem d_prog_59_method_13_code_35 : decode prog_59_method_13_code 35 = .ok (.lload 11, 2) := by decide +kernel
theorem d_prog_59_method_13_code_37 : decode prog_59_method_13_code 37 = .ok (.ldc2_w 34, 3) := by decide +kernel
theorem d_prog_59_method_13_code_40 : decode prog_59_method_13_code 40 = .ok (.land, 1) := by decide +kernel
theorem d_prog_59_method_13_code_41 : decode prog_59_method_13_code 41 = .ok (.lload 9, 2) := by decide +kernel
theorem d_prog_59_method_13_code_43 : decode prog_59_method_13_code 43 = .ok (.bipush 48, 2) := by decide +kernel
theorem d_prog_59_method_13_code_45 : decode prog_59_method_13_code 45 = .ok (.lshr, 1) := by decide +kernel
theorem d_prog_59_method_13_code_46 : decode prog_59_method_13_code 46 = .ok (.ladd, 1) := by decide +kernel
theorem d_prog_59_method_13_code_47 : decode prog_59_method_13_code 47 = .ok (.lstore 11, 2) := by decide +kernel
theorem d_prog_59_method_13_code_49 : decode prog_59_method_13_code 49 = .ok (.lload 9, 2) := by decide +kernel
theorem d_prog_59_method_13_code_51 : decode prog_59_method_13_code 51 = .ok (.ldc2_w 34, 3) := by decide +kernel
theorem d_prog_59_method_13_code_54 : decode prog_59_method_13_code 54 = .ok (.land, 1) := by decide +kernel
theorem d_prog_59_method_13_code_55 : decode prog_59_method_13_code 55 = .ok (.lload 7, 2) := by decide +kernel
theorem d_prog_59_method_13_code_57 : decode prog_59_method_13_code 57 = .ok (.bipush 48, 2) := by decide +kernel
theorem d_prog_59_method_13_code_59 : decode prog_59_method_13_code 59 = .ok (.lshr, 1) := by decide +kernel
theorem d_prog_59_method_13_code_60 : decode prog_59_method_13_code 60 = .ok (.ladd, 1) := by decide +kernel
theorem d_prog_59_method_13_code_61 : decode prog_59_method_13_code 61 = .ok (.lstore 9, 2) := by decide +kernel
theorem d_prog_59_method_13_code_63 : decode prog_59_method_13_code 63 = .ok (.lload 7, 2) := by decide +kernel
theorem d_prog_59_method_13_code_65 : decode prog_59_method_13_code 65 = .ok (.ldc2_w 34, 3) := by decide +kernel
theorem d_prog_59_method_13_code_68 : decode prog_59_method_13_code 68 = .ok (.land, 1) := by decide +kernel
theorem d_prog_59_method_13_code_69 : decode prog_59_method_13_code 69 = .ok (.lload 5, 2) := by decide +kernel
theorem d_prog_59_method_13_code_71 : decode prog_59_method_13_code 71 = .ok (.bipush 48, 2) := by decide +kernel
theorem d_prog_59_method_13_code_73 : decode prog_59_method_13_code 73 = .ok (.lshr, 1) := by decide +kernel
theorem d_prog_59_method_13_code_74 : decode prog_59_method_13_code 74 = .ok (.ladd, 1) := by decide +kernel
theorem d_prog_59_method_13_code_75 : decode prog_59_method_13_code 75 = .ok (.lstore 7, 2) := by decide +kernel
theorem d_prog_59_method_13_code_77 : decode prog_59_method_13_code 77 = .ok (.lload 5, 2) := by decide +kernel
theorem d_prog_59_method_13_code_79 : decode prog_59_method_13_code 79 = .ok (.ldc2_w 34, 3) := by decide +kernel
theorem d_prog_59_method_13_code_82 : decode prog_59_method_13_code 82 = .ok (.land, 1) := by decide +kernel
theorem d_prog_59_method_13_code_83 : decode prog_59_method_13_code 83 = .ok (.lload_n 3, 1) := by decide +kernel
theorem d_prog_59_method_13_code_84 : decode prog_59_method_13_code 84 = .ok (.bipush 48, 2) := by decide +kernel
theorem d_prog_59_method_13_code_86 : decode prog_59_method_13_code 86 = .ok (.lshr, 1) := by decide +kernel
theorem d_prog_59_method_13_code_87 : decode prog_59_method_13_code 87 = .ok (.ladd, 1) := by decide +kernel
theorem d_prog_59_method_13_code_88 : decode prog_59_method_13_code 88 = .ok (.lstore 5, 2) := by decide +kernel
theorem d_prog_59_method_13_code_90 : decode prog_59_method_13_code 90 = .ok (.lload_n 3, 1) := by decide +kernel
theorem d_prog_59_method_13_code_91 : decode prog_59_method_13_code 91 = .ok (.ldc2_w 34, 3) := by decide +kernel
theorem d_prog_59_method_13_code_94 : decode prog_59_method_13_code 94 = .ok (.land, 1) := by decide +kernel
theorem d_prog_59_method_13_code_95 : decode prog_59_method_13_code 95 = .ok (.lload_n 1, 1) := by decide +kernel
theorem d_prog_59_method_13_code_96 : decode prog_59_method_13_code 96 = .ok (.bipush 48, 2) := by decide +kernel
theorem d_prog_59_method_13_code_98 : decode prog_59_method_13_code 98 = .ok (.lshr, 1) := by decide +kernel
theorem d_prog_59_method_13_code_99 : decode prog_59_method_13_code 99 = .ok (.ladd, 1) := by decide +kernel
theorem d_prog_59_method_13_code_100 : decode prog_59_method_13_code 100 = .ok (.lstore_n 3, 1) := by decide +kernel
theorem d_prog_59_method_13_code_101 : decode prog_59_method_13_code 101 = .ok (.lload_n 1, 1) := by decide +kernel
theorem d_prog_59_method_13_code_102 : decode prog_59_method_13_code 102 = .ok (.ldc2_w 34, 3) := by decide +kernel
theorem d_prog_59_method_13_code_105 : decode prog_59_method_13_code 105 = .ok (.land, 1) := by decide +kernel
theorem d_prog_59_method_13_code_106 : decode prog_59_method_13_code 106 = .ok (.lstore_n 1, 1) := by decide +kernel
theorem d_prog_59_method_13_code_107 : decode prog_59_method_13_code 107 = .ok (.lload 17, 2) := by decide +kernel
theorem d_prog_59_method_13_code_109 : decode prog_59_method_13_code 109 = .ok (.ldc2_w 56, 3) := by decide +kernel
theorem d_prog_59_method_13_code_112 : decode prog_59_method_13_code 112 = .ok (.land, 1) := by decide +kernel
theorem d_prog_59_method_13_code_113 : decode prog_59_method_13_code 113 = .ok (.bipush 32, 2) := by decide +kernel
theorem d_prog_59_method_13_code_115 : decode prog_59_method_13_code 115 = .ok (.lshl, 1) := by decide +kernel
theorem d_prog_59_method_13_code_116 : decode prog_59_method_13_code 116 = .ok (.lstore 19, 2) := by decide +kernel
theorem d_prog_59_method_13_code_118 : decode prog_59_method_13_code 118 = .ok (.lload 17, 2) := by decide +kernel
theorem d_prog_59_method_13_code_120 : decode prog_59_method_13_code 120 = .ok (.bipush 16, 2) := by decide +kernel
theorem d_prog_59_method_13_code_122 : decode prog_59_method_13_code 122 = .ok (.lshr, 1) := by decide +kernel
theorem d_prog_59_method_13_code_123 : decode prog_59_method_13_code 123 = .ok (.lstore 21, 2) := by decide +kernel
theorem d_prog_59_method_13_code_125 : decode prog_59_method_13_code 125 = .ok (.aload_n 0, 1) := by decide +kernel
theorem d_prog_59_method_13_code_126 : decode prog_59_method_13_code 126 = .ok (.iconst 0, 1) := by decide +kernel
theorem d_prog_59_method_13_code_127 : decode prog_59_method_13_code 127 = .ok (.lload_n 1, 1) := by decide +kernel
theorem d_prog_59_method_13_code_128 : decode prog_59_method_13_code 128 = .ok (.lload 17, 2) := by decide +kernel
theorem d_prog_59_method_13_code_130 : decode prog_59_method_13_code 130 = .ok (.ladd, 1) := by decide +kernel
theorem d_prog_59_method_13_code_131 : decode prog_59_method_13_code 131 = .ok (.lload 19, 2) := by decide +kernel
theorem d_prog_59_method_13_code_133 : decode prog_59_method_13_code 133 = .ok (.lsub, 1) := by decide +kernel
theorem d_prog_59_method_13_code_134 : decode prog_59_method_13_code 134 = .ok (.lastore, 1) := by decide +kernel
theorem d_prog_59_method_13_code_135 : decode prog_59_method_13_code 135 = .ok (.aload_n 0, 1) := by decide +kernel
theorem d_prog_59_method_13_code_136 : decode prog_59_method_13_code 136 = .ok (.iconst 1, 1) := by decide +kernel
theorem d_prog_59_method_13_code_137 : decode prog_59_method_13_code 137 = .ok (.lload_n 3, 1) := by decide +kernel
theorem d_prog_59_method_13_code_138 : decode prog_59_method_13_code 138 = .ok (.lload 21, 2) := by decide +kernel
theorem d_prog_59_method_13_code_140 : decode prog_59_method_13_code 140 = .ok (.lsub, 1) := by decide +kernel
theorem d_prog_59_method_13_code_141 : decode prog_59_method_13_code 141 = .ok (.lastore, 1) := by decide +kernel
theorem d_prog_59_method_13_code_142 : decode prog_59_method_13_code 142 = .ok (.aload_n 0, 1) := by decide +kernel
theorem d_prog_59_method_13_code_143 : decode prog_59_method_13_code 143 = .ok (.iconst 2, 1) := by decide +kernel
theorem d_prog_59_method_13_code_144 : decode prog_59_method_13_code 144 = .ok (.lload 5, 2) := by decide +kernel
theorem d_prog_59_method_13_code_146 : decode prog_59_method_13_code 146 = .ok (.lload 17, 2) := by decide +kernel
theorem d_prog_59_method_13_code_148 : decode prog_59_method_13_code 148 = .ok (.ladd, 1) := by decide +kernel
theorem d_prog_59_method_13_code_149 : decode prog_59_method_13_code 149 = .ok (.lload 19, 2) := by decide +kernel
theorem d_prog_59_method_13_code_151 : decode prog_59_method_13_code 151 = .ok (.ladd, 1) := by decide +kernel
theorem d_prog_59_method_13_code_152 : decode prog_59_method_13_code 152 = .ok (.lastore, 1) := by decide +kernel
theorem d_prog_59_method_13_code_153 : decode prog_59_method_13_code 153 = .ok (.aload_n 0, 1) := by decide +kernel
theorem d_prog_59_method_13_code_154 : decode prog_59_method_13_code 154 = .ok (.iconst 3, 1) := by decide +kernel
theorem d_prog_59_method_13_code_155 : decode prog_59_method_13_code 155 = .ok (.lload 7, 2) := by decide +kernel
theorem d_prog_59_method_13_code_157 : decode prog_59_method_13_code 157 = .ok (.lload 21, 2) := by decide +kernel
theorem d_prog_59_method_13_code_159 : decode prog_59_method_13_code 159 = .ok (.ladd, 1) := by decide +kernel
theorem d_prog_59_method_13_code_160 : decode prog_59_method_13_code 160 = .ok (.lastore, 1) := by decide +kernel
theorem d_prog_59_method_13_code_161 : decode prog_59_method_13_code 161 = .ok (.aload_n 0, 1) := by decide +kernel
theorem d_prog_59_method_13_code_162 : decode prog_59_method_13_code 162 = .ok (.iconst 4, 1) := by decide +kernel
theorem d_prog_59_method_13_code_163 : decode prog_59_method_13_code 163 = .ok (.lload 9, 2) := by decide +kernel
theorem d_prog_59_method_13_code_165 : decode prog_59_method_13_code 165 = .ok (.lastore, 1) := by decide +kernel
theorem d_prog_59_method_13_code_166 : decode prog_59_method_13_code 166 = .ok (.aload_n 0, 1) := by decide +kernel
theorem d_prog_59_method_13_code_167 : decode prog_59_method_13_code 167 = .ok (.iconst 5, 1) := by decide +kernel
theorem d_prog_59_method_13_code_168 : decode prog_59_method_13_code 168 = .ok (.lload 11, 2) := by decide +kernel
theorem d_prog_59_method_13_code_170 : decode prog_59_method_13_code 170 = .ok (.lastore, 1) := by decide +kernel
theorem d_prog_59_method_13_code_171 : decode prog_59_method_13_code 171 = .ok (.aload_n 0, 1) := by decide +kernel
theorem d_prog_59_method_13_code_172 : decode prog_59_method_13_code 172 = .ok (.bipush 6, 2) := by decide +kernel
theorem d_prog_59_method_13_code_174 : decode prog_59_method_13_code 174 = .ok (.lload 13, 2) := by decide +kernel
theorem d_prog_59_method_13_code_176 : decode prog_59_method_13_code 176 = .ok (.lastore, 1) := by decide +kernel
theorem d_prog_59_method_13_code_177 : decode prog_59_method_13_code 177 = .ok (.aload_n 0, 1) := by decide +kernel
theorem d_prog_59_method_13_code_178 : decode prog_59_method_13_code 178 = .ok (.bipush 7, 2) := by decide +kernel
theorem d_prog_59_method_13_code_180 : decode prog_59_method_13_code 180 = .ok (.lload 15, 2) := by decide +kernel
theorem d_prog_59_method_13_code_182 : decode prog_59_method_13_code 182 = .ok (.lastore, 1) := by decide +kernel
theorem d_prog_59_method_13_code_183 : decode prog_59_method_13_code 183 = .ok (.return_, 1) := by decide +kernel
def Qrm_store (Z : State) (out : Addr) (x0 : Int64) (x1 : Int64) (x2 : Int64) (x3 : Int64) (x4 : Int64) (x5 : Int64) (x6 : Int64) (x7 : Int64) (k : ClassId) (o0 : Int64) (o1 : Int64) (o2 : Int64) (o3 : Int64) (o4 : Int64) (o5 : Int64) (o6 : Int64) (o7 : Int64) (h0 : Heap) (n0 : Nat) (v_ : Option Value) (h_ : Heap) (L_ : List Loc) : Prop := ∃ (r0 : Int64), ∃ (r1 : Int64), ∃ (r2 : Int64), ∃ (r3 : Int64), ∃ (r4 : Int64), ∃ (r5 : Int64), ∃ (r6 : Int64), ∃ (r7 : Int64), v_ = none ∧ Fr n0 L_ ∧ Keep h0 h_ [out] ∧ Arv Z h_ out k .long (8 : Int32) [(.long r0), (.long r1), (.long r2), (.long r3), (.long r4), (.long r5), (.long r6), (.long r7)] (.long (0 : Int64)) ∧ own_R 562949953421440 r0 r1 r2 r3 r4 r5 r6 r7 ∧ own_M (own_W x0 x1 x2 x3 x4 x5 x6 x7 - own_W r0 r1 r2 r3 r4 r5 r6 r7)
theorem ef_rm_store (m : MethodId) (x0 : Addr) (x1 : Int64) (x2 : Int64) (x3 : Int64) (x4 : Int64) (x5 : Int64) (x6 : Int64) (x7 : Int64) (x8 : Int64) : entryFrame m #[(.ref x0), (.long x1), (.long x2), (.long x3), (.long x4), (.long x5), (.long x6), (.long x7), (.long x8)] 23 = mkF m 0 #[.val (.ref x0), .val (.long x1), .second, .val (.long x2), .second, .val (.long x3), .second, .val (.long x4), .second, .val (.long x5), .second, .val (.long x6), .second, .val (.long x7), .second, .val (.long x8), .second, .unset, .unset, .unset, .unset, .unset, .unset] [] := by first | (simp [entryFrame, mkF, argsToLocals, Value.category]; done) | rfl
theorem pn_com_example_guard3_guard3_P384Field : plainName "com/example/guard3/guard3/P384Field" = true := by first | (simp [plainName, overriddenIn]; done) | decide +kernel
set_option maxRecDepth 65536 in
set_option maxHeartbeats 40000000 in
theorem rm_store (l : Launch) (Z : State) (aZ : Array Value) (hw : ∀ d ∈ tables_1, d.before aZ Z = true) (ws : List Jvm.Cond) (out : Addr) (x0 : Int64) (x1 : Int64) (x2 : Int64) (x3 : Int64) (x4 : Int64) (x5 : Int64) (x6 : Int64) (x7 : Int64) (k : ClassId) (o0 : Int64) (o1 : Int64) (o2 : Int64) (o3 : Int64) (o4 : Int64) (o5 : Int64) (o6 : Int64) (o7 : Int64) (h0 : Heap) (n0 : Nat) (Z0 : n0 ≤ h0.size) (Ao : Arv Z h0 out k .long (8 : Int32) [(.long o0), (.long o1), (.long o2), (.long o3), (.long o4), (.long o5), (.long o6), (.long o7)] (.long (0 : Int64))) (go : n0 ≤ out) (hR : own_R 9007199254740992 x0 x1 x2 x3 x4 x5 x6 x7) :
    MetFree l (⟨"com/example/guard3/guard3/P384Field", "store", "([JJJJJJJJJ)V"⟩ : MethodName) (head1 (Jvm.Cond.code (⟨"com/example/guard3/guard3/P384Field", "store", "([JJJJJJJJJ)V"⟩ : MethodName) prog_59_method_13_code 23 none :: ws) ({ frames := 0, cells := 0, slots := 0, locals := 0 } : Room)) (fun a_ U_ => a_ = #[(.ref out), (.long x0), (.long x1), (.long x2), (.long x3), (.long x4), (.long x5), (.long x6), (.long x7)] ∧ Z.Warmed39 U_.vm ∧ U_.heap = h0) (fun _ _ _ _ _ => True) (fun _ U_ o_ U2_ => ∃ v_ L_, o_ = .returned v_ ∧ Qrm_store Z out x0 x1 x2 x3 x4 x5 x6 x7 k o0 o1 o2 o3 o4 o5 o6 o7 h0 n0 v_ U2_.heap L_ ∧ FrameEnd U_ o_ U2_ L_ ({ frames := 0, cells := 0, slots := 0, locals := 0 } : Room).cells ({ frames := 0, cells := 0, slots := 0, locals := 0 } : Room).slots) := by
  refine MetFree.of_bodySF (plainFor_of_name pn_com_example_guard3_guard3_P384Field) hisR ?_
  intro p e s m args below meth cO s₁ Bd hml0 hP hK
  obtain ⟨rfl, hZW, hh⟩ := hP
  have hEX := Bd.exec
  have hBY := Bd.bytes
  have hMX : cO.maxLocals = 23 := hml0
  have hOW : s.vm.findClass "com/example/guard3/guard3/P384Field" = some m.cls := findClass_of_methodNamed Bd.named
  have hNM := (name_of_methodNamed Bd.named Bd.method).1
  have hLK := Bd.notSynchronized
  have hRT := Bd.returns
  have X0 : Stand p l e ({ frames := 0, cells := 0, slots := 0, locals := 0 } : Room) s m #[(.ref out), (.long x0), (.long x1), (.long x2), (.long x3), (.long x4), (.long x5), (.long x6), (.long x7)] below meth cO s₁ [] 0 0 := Stand.of_body Bd
  have e0 : s₁.heap = h0 := by rw [← hh, Bd.state]; rfl
  have N0 := Fr.nil n0
  have K0 : Keep h0 h0 [out] := Keep.refl _ _
  show Done p e below s (Qrm_store Z out x0 x1 x2 x3 x4 x5 x6 x7 k o0 o1 o2 o3 o4 o5 o6 o7 h0 n0) ({ frames := 0, cells := 0, slots := 0, locals := 0 } : Room).cells ({ frames := 0, cells := 0, slots := 0, locals := 0 } : Room).slots (s₁.setTop (entryFrame m #[(.ref out), (.long x0), (.long x1), (.long x2), (.long x3), (.long x4), (.long x5), (.long x6), (.long x7)] 23))
  refine Done.pre (fun t_ k_ => castTop (ef_rm_store m out x0 x1 x2 x3 x4 x5 x6 x7) k_) ?_
  show Done _ _ _ _ _ _ _ (s₁.setTop (mkF m 0 #[Rv out, Lv x0, Zs, Lv x1, Zs, Lv x2, Zs, Lv x3, Zs, Lv x4, Zs, Lv x5, Zs, Lv x6, Zs, Lv x7, Zs, Us, Us, Us, Us, Us, Us] []))
  have sg_1 : ∀ tt_, Steps p.tables e below (s₁.setTop (mkF m 5 #[Rv out, Lv x0, Zs, Lv x1, Zs, Lv x2, Zs, Lv x3, Zs, Lv x4, Zs, Lv x5, Zs, Lv x6, Zs, Lv x7, Zs, Us, Us, Us, Us, Us, Us] [(.long (x7 >>> ((48 : Int32) &&& 0x3f).toInt64))])) tt_ → Steps p.tables e below (s₁.setTop (mkF m 0 #[Rv out, Lv x0, Zs, Lv x1, Zs, Lv x2, Zs, Lv x3, Zs, Lv x4, Zs, Lv x5, Zs, Lv x6, Zs, Lv x7, Zs, Us, Us, Us, Us, Us, Us] [])) tt_ := by
    intro tt_ kt_
    refine XS.lload X0.here hEX rfl (hb hBY d_prog_59_method_13_code_0) rfl ?_
    show Steps p.tables e below (s₁.setTop (mkF m 2 #[Rv out, Lv x0, Zs, Lv x1, Zs, Lv x2, Zs, Lv x3, Zs, Lv x4, Zs, Lv x5, Zs, Lv x6, Zs, Lv x7, Zs, Us, Us, Us, Us, Us, Us] [(.long x7)])) tt_
    refine XS.bipush X0.here hEX rfl (hb hBY d_prog_59_method_13_code_2) ?_
    show Steps p.tables e below (s₁.setTop (mkF m 4 #[Rv out, Lv x0, Zs, Lv x1, Zs, Lv x2, Zs, Lv x3, Zs, Lv x4, Zs, Lv x5, Zs, Lv x6, Zs, Lv x7, Zs, Us, Us, Us, Us, Us, Us] [(.int (48 : Int32)), (.long x7)])) tt_
    refine XS.lshr X0.here hEX rfl (hb hBY d_prog_59_method_13_code_4) rfl ?_
    exact kt_
  refine Done.pre sg_1 ?_
  show Done _ _ _ _ _ _ _ (s₁.setTop (mkF m 5 #[Rv out, Lv x0, Zs, Lv x1, Zs, Lv x2, Zs, Lv x3, Zs, Lv x4, Zs, Lv x5, Zs, Lv x6, Zs, Lv x7, Zs, Us, Us, Us, Us, Us, Us] [(.long (x7 >>> ((48 : Int32) &&& 0x3f).toInt64))]))
  obtain ⟨c, hc⟩ : ∃ z : Int64, z = (x7 >>> ((48 : Int32) &&& 0x3f).toInt64) := ⟨_, rfl⟩
  rw [← hc]
  show Done _ _ _ _ _ _ _ (s₁.setTop (mkF m 5 #[Rv out, Lv x0, Zs, Lv x1, Zs, Lv x2, Zs, Lv x3, Zs, Lv x4, Zs, Lv x5, Zs, Lv x6, Zs, Lv x7, Zs, Us, Us, Us, Us, Us, Us] [(.long c)]))
  have sg_2 : ∀ tt_, Steps p.tables e below (s₁.setTop (mkF m 19 #[Rv out, Lv x0, Zs, Lv x1, Zs, Lv x2, Zs, Lv x3, Zs, Lv x4, Zs, Lv x5, Zs, Lv x6, Zs, Lv x7, Zs, Lv c, Zs, Us, Us, Us, Us] [(.long ((x7 &&& (281474976710655 : Int64)) + (x6 >>> ((48 : Int32) &&& 0x3f).toInt64)))])) tt_ → Steps p.tables e below (s₁.setTop (mkF m 5 #[Rv out, Lv x0, Zs, Lv x1, Zs, Lv x2, Zs, Lv x3, Zs, Lv x4, Zs, Lv x5, Zs, Lv x6, Zs, Lv x7, Zs, Us, Us, Us, Us, Us, Us] [(.long c)])) tt_ := by
    intro tt_ kt_
    refine XS.lstore X0.here hEX rfl (hb hBY d_prog_59_method_13_code_5) rfl (l' := #[Rv out, Lv x0, Zs, Lv x1, Zs, Lv x2, Zs, Lv x3, Zs, Lv x4, Zs, Lv x5, Zs, Lv x6, Zs, Lv x7, Zs, Lv c, Zs, Us, Us, Us, Us]) rfl ?_
    show Steps p.tables e below (s₁.setTop (mkF m 7 #[Rv out, Lv x0, Zs, Lv x1, Zs, Lv x2, Zs, Lv x3, Zs, Lv x4, Zs, Lv x5, Zs, Lv x6, Zs, Lv x7, Zs, Lv c, Zs, Us, Us, Us, Us] [])) tt_
    refine XS.lload X0.here hEX rfl (hb hBY d_prog_59_method_13_code_7) rfl ?_
    show Steps p.tables e below (s₁.setTop (mkF m 9 #[Rv out, Lv x0, Zs, Lv x1, Zs, Lv x2, Zs, Lv x3, Zs, Lv x4, Zs, Lv x5, Zs, Lv x6, Zs, Lv x7, Zs, Lv c, Zs, Us, Us, Us, Us] [(.long x7)])) tt_
    refine X0.ldc2Long hEX hOW (mvT hZW (hw _ (List.mem_of_getElem? (i := 17) rfl))) (g := (mkF m 9 #[Rv out, Lv x0, Zs, Lv x1, Zs, Lv x2, Zs, Lv x3, Zs, Lv x4, Zs, Lv x5, Zs, Lv x6, Zs, Lv x7, Zs, Lv c, Zs, Us, Us, Us, Us] [(.long x7)])) rfl (hb hBY d_prog_59_method_13_code_9) _ ?_
    show Steps p.tables e below (s₁.setTop (mkF m 12 #[Rv out, Lv x0, Zs, Lv x1, Zs, Lv x2, Zs, Lv x3, Zs, Lv x4, Zs, Lv x5, Zs, Lv x6, Zs, Lv x7, Zs, Lv c, Zs, Us, Us, Us, Us] [(.long (281474976710655 : Int64)), (.long x7)])) tt_
    refine XS.land X0.here hEX rfl (hb hBY d_prog_59_method_13_code_12) rfl ?_
    show Steps p.tables e below (s₁.setTop (mkF m 13 #[Rv out, Lv x0, Zs, Lv x1, Zs, Lv x2, Zs, Lv x3, Zs, Lv x4, Zs, Lv x5, Zs, Lv x6, Zs, Lv x7, Zs, Lv c, Zs, Us, Us, Us, Us] [(.long (x7 &&& (281474976710655 : Int64)))])) tt_
    refine XS.lload X0.here hEX rfl (hb hBY d_prog_59_method_13_code_13) rfl ?_
    show Steps p.tables e below (s₁.setTop (mkF m 15 #[Rv out, Lv x0, Zs, Lv x1, Zs, Lv x2, Zs, Lv x3, Zs, Lv x4, Zs, Lv x5, Zs, Lv x6, Zs, Lv x7, Zs, Lv c, Zs, Us, Us, Us, Us] [(.long x6), (.long (x7 &&& (281474976710655 : Int64)))])) tt_
    refine XS.bipush X0.here hEX rfl (hb hBY d_prog_59_method_13_code_15) ?_
    show Steps p.tables e below (s₁.setTop (mkF m 17 #[Rv out, Lv x0, Zs, Lv x1, Zs, Lv x2, Zs, Lv x3, Zs, Lv x4, Zs, Lv x5, Zs, Lv x6, Zs, Lv x7, Zs, Lv c, Zs, Us, Us, Us, Us] [(.int (48 : Int32)), (.long x6), (.long (x7 &&& (281474976710655 : Int64)))])) tt_
    refine XS.lshr X0.here hEX rfl (hb hBY d_prog_59_method_13_code_17) rfl ?_
    show Steps p.tables e below (s₁.setTop (mkF m 18 #[Rv out, Lv x0, Zs, Lv x1, Zs, Lv x2, Zs, Lv x3, Zs, Lv x4, Zs, Lv x5, Zs, Lv x6, Zs, Lv x7, Zs, Lv c, Zs, Us, Us, Us, Us] [(.long (x6 >>> ((48 : Int32) &&& 0x3f).toInt64)), (.long (x7 &&& (281474976710655 : Int64)))])) tt_
    refine XS.ladd X0.here hEX rfl (hb hBY d_prog_59_method_13_code_18) rfl ?_
    exact kt_
  refine Done.pre sg_2 ?_
  show Done _ _ _ _ _ _ _ (s₁.setTop (mkF m 19 #[Rv out, Lv x0, Zs, Lv x1, Zs, Lv x2, Zs, Lv x3, Zs, Lv x4, Zs, Lv x5, Zs, Lv x6, Zs, Lv x7, Zs, Lv c, Zs, Us, Us, Us, Us] [(.long ((x7 &&& (281474976710655 : Int64)) + (x6 >>> ((48 : Int32) &&& 0x3f).toInt64)))]))
  obtain ⟨y7, hy7⟩ : ∃ z : Int64, z = ((x7 &&& (281474976710655 : Int64)) + (x6 >>> ((48 : Int32) &&& 0x3f).toInt64)) := ⟨_, rfl⟩
  rw [← hy7]
  show Done _ _ _ _ _ _ _ (s₁.setTop (mkF m 19 #[Rv out, Lv x0, Zs, Lv x1, Zs, Lv x2, Zs, Lv x3, Zs, Lv x4, Zs, Lv x5, Zs, Lv x6, Zs, Lv x7, Zs, Lv c, Zs, Us, Us, Us, Us] [(.long y7)]))
  have sg_3 : ∀ tt_, Steps p.tables e below (s₁.setTop (mkF m 33 #[Rv out, Lv x0, Zs, Lv x1, Zs, Lv x2, Zs, Lv x3, Zs, Lv x4, Zs, Lv x5, Zs, Lv x6, Zs, Lv y7, Zs, Lv c, Zs, Us, Us, Us, Us] [(.long ((x6 &&& (281474976710655 : Int64)) + (x5 >>> ((48 : Int32) &&& 0x3f).toInt64)))])) tt_ → Steps p.tables e below (s₁.setTop (mkF m 19 #[Rv out, Lv x0, Zs, Lv x1, Zs, Lv x2, Zs, Lv x3, Zs, Lv x4, Zs, Lv x5, Zs, Lv x6, Zs, Lv x7, Zs, Lv c, Zs, Us, Us, Us, Us] [(.long y7)])) tt_ := by
    intro tt_ kt_
    refine XS.lstore X0.here hEX rfl (hb hBY d_prog_59_method_13_code_19) rfl (l' := #[Rv out, Lv x0, Zs, Lv x1, Zs, Lv x2, Zs, Lv x3, Zs, Lv x4, Zs, Lv x5, Zs, Lv x6, Zs, Lv y7, Zs, Lv c, Zs, Us, Us, Us, Us]) rfl ?_
    show Steps p.tables e below (s₁.setTop (mkF m 21 #[Rv out, Lv x0, Zs, Lv x1, Zs, Lv x2, Zs, Lv x3, Zs, Lv x4, Zs, Lv x5, Zs, Lv x6, Zs, Lv y7, Zs, Lv c, Zs, Us, Us, Us, Us] [])) tt_
    refine XS.lload X0.here hEX rfl (hb hBY d_prog_59_method_13_code_21) rfl ?_
    show Steps p.tables e below (s₁.setTop (mkF m 23 #[Rv out, Lv x0, Zs, Lv x1, Zs, Lv x2, Zs, Lv x3, Zs, Lv x4, Zs, Lv x5, Zs, Lv x6, Zs, Lv y7, Zs, Lv c, Zs, Us, Us, Us, Us] [(.long x6)])) tt_
    refine X0.ldc2Long hEX hOW (mvT hZW (hw _ (List.mem_of_getElem? (i := 17) rfl))) (g := (mkF m 23 #[Rv out, Lv x0, Zs, Lv x1, Zs, Lv x2, Zs, Lv x3, Zs, Lv x4, Zs, Lv x5, Zs, Lv x6, Zs, Lv y7, Zs, Lv c, Zs, Us, Us, Us, Us] [(.long x6)])) rfl (hb hBY d_prog_59_method_13_code_23) _ ?_
    show Steps p.tables e below (s₁.setTop (mkF m 26 #[Rv out, Lv x0, Zs, Lv x1, Zs, Lv x2, Zs, Lv x3, Zs, Lv x4, Zs, Lv x5, Zs, Lv x6, Zs, Lv y7, Zs, Lv c, Zs, Us, Us, Us, Us] [(.long (281474976710655 : Int64)), (.long x6)])) tt_
    refine XS.land X0.here hEX rfl (hb hBY d_prog_59_method_13_code_26) rfl ?_
    show Steps p.tables e below (s₁.setTop (mkF m 27 #[Rv out, Lv x0, Zs, Lv x1, Zs, Lv x2, Zs, Lv x3, Zs, Lv x4, Zs, Lv x5, Zs, Lv x6, Zs, Lv y7, Zs, Lv c, Zs, Us, Us, Us, Us] [(.long (x6 &&& (281474976710655 : Int64)))])) tt_
    refine XS.lload X0.here hEX rfl (hb hBY d_prog_59_method_13_code_27) rfl ?_
    show Steps p.tables e below (s₁.setTop (mkF m 29 #[Rv out, Lv x0, Zs, Lv x1, Zs, Lv x2, Zs, Lv x3, Zs, Lv x4, Zs, Lv x5, Zs, Lv x6, Zs, Lv y7, Zs, Lv c, Zs, Us, Us, Us, Us] [(.long x5), (.long (x6 &&& (281474976710655 : Int64)))])) tt_
    refine XS.bipush X0.here hEX rfl (hb hBY d_prog_59_method_13_code_29) ?_
    show Steps p.tables e below (s₁.setTop (mkF m 31 #[Rv out, Lv x0, Zs, Lv x1, Zs, Lv x2, Zs, Lv x3, Zs, Lv x4, Zs, Lv x5, Zs, Lv x6, Zs, Lv y7, Zs, Lv c, Zs, Us, Us, Us, Us] [(.int (48 : Int32)), (.long x5), (.long (x6 &&& (281474976710655 : Int64)))])) tt_
    refine XS.lshr X0.here hEX rfl (hb hBY d_prog_59_method_13_code_31) rfl ?_
    show Steps p.tables e below (s₁.setTop (mkF m 32 #[Rv out, Lv x0, Zs, Lv x1, Zs, Lv x2, Zs, Lv x3, Zs, Lv x4, Zs, Lv x5, Zs, Lv x6, Zs, Lv y7, Zs, Lv c, Zs, Us, Us, Us, Us] [(.long (x5 >>> ((48 : Int32) &&& 0x3f).toInt64)), (.long (x6 &&& (281474976710655 : Int64)))])) tt_
    refine XS.ladd X0.here hEX rfl (hb hBY d_prog_59_method_13_code_32) rfl ?_
    exact kt_
  refine Done.pre sg_3 ?_
  show Done _ _ _ _ _ _ _ (s₁.setTop (mkF m 33 #[Rv out, Lv x0, Zs, Lv x1, Zs, Lv x2, Zs, Lv x3, Zs, Lv x4, Zs, Lv x5, Zs, Lv x6, Zs, Lv y7, Zs, Lv c, Zs, Us, Us, Us, Us] [(.long ((x6 &&& (281474976710655 : Int64)) + (x5 >>> ((48 : Int32) &&& 0x3f).toInt64)))]))
  obtain ⟨y6, hy6⟩ : ∃ z : Int64, z = ((x6 &&& (281474976710655 : Int64)) + (x5 >>> ((48 : Int32) &&& 0x3f).toInt64)) := ⟨_, rfl⟩
  rw [← hy6]
  show Done _ _ _ _ _ _ _ (s₁.setTop (mkF m 33 #[Rv out, Lv x0, Zs, Lv x1, Zs, Lv x2, Zs, Lv x3, Zs, Lv x4, Zs, Lv x5, Zs, Lv x6, Zs, Lv y7, Zs, Lv c, Zs, Us, Us, Us, Us] [(.long y6)]))
  have sg_4 : ∀ tt_, Steps p.tables e below (s₁.setTop (mkF m 47 #[Rv out, Lv x0, Zs, Lv x1, Zs, Lv x2, Zs, Lv x3, Zs, Lv x4, Zs, Lv x5, Zs, Lv y6, Zs, Lv y7, Zs, Lv c, Zs, Us, Us, Us, Us] [(.long ((x5 &&& (281474976710655 : Int64)) + (x4 >>> ((48 : Int32) &&& 0x3f).toInt64)))])) tt_ → Steps p.tables e below (s₁.setTop (mkF m 33 #[Rv out, Lv x0, Zs, Lv x1, Zs, Lv x2, Zs, Lv x3, Zs, Lv x4, Zs, Lv x5, Zs, Lv x6, Zs, Lv y7, Zs, Lv c, Zs, Us, Us, Us, Us] [(.long y6)])) tt_ := by
    intro tt_ kt_
    refine XS.lstore X0.here hEX rfl (hb hBY d_prog_59_method_13_code_33) rfl (l' := #[Rv out, Lv x0, Zs, Lv x1, Zs, Lv x2, Zs, Lv x3, Zs, Lv x4, Zs, Lv x5, Zs, Lv y6, Zs, Lv y7, Zs, Lv c, Zs, Us, Us, Us, Us]) rfl ?_
    show Steps p.tables e below (s₁.setTop (mkF m 35 #[Rv out, Lv x0, Zs, Lv x1, Zs, Lv x2, Zs, Lv x3, Zs, Lv x4, Zs, Lv x5, Zs, Lv y6, Zs, Lv y7, Zs, Lv c, Zs, Us, Us, Us, Us] [])) tt_
    refine XS.lload X0.here hEX rfl (hb hBY d_prog_59_method_13_code_35) rfl ?_
    show Steps p.tables e below (s₁.setTop (mkF m 37 #[Rv out, Lv x0, Zs, Lv x1, Zs, Lv x2, Zs, Lv x3, Zs, Lv x4, Zs, Lv x5, Zs, Lv y6, Zs, Lv y7, Zs, Lv c, Zs, Us, Us, Us, Us] [(.long x5)])) tt_
    refine X0.ldc2Long hEX hOW (mvT hZW (hw _ (List.mem_of_getElem? (i := 17) rfl))) (g := (mkF m 37 #[Rv out, Lv x0, Zs, Lv x1, Zs, Lv x2, Zs, Lv x3, Zs, Lv x4, Zs, Lv x5, Zs, Lv y6, Zs, Lv y7, Zs, Lv c, Zs, Us, Us, Us, Us] [(.long x5)])) rfl (hb hBY d_prog_59_method_13_code_37) _ ?_
    show Steps p.tables e below (s₁.setTop (mkF m 40 #[Rv out, Lv x0, Zs, Lv x1, Zs, Lv x2, Zs, Lv x3, Zs, Lv x4, Zs, Lv x5, Zs, Lv y6, Zs, Lv y7, Zs, Lv c, Zs, Us, Us, Us, Us] [(.long (281474976710655 : Int64)), (.long x5)])) tt_
    refine XS.land X0.here hEX rfl (hb hBY d_prog_59_method_13_code_40) rfl ?_
    show Steps p.tables e below (s₁.setTop (mkF m 41 #[Rv out, Lv x0, Zs, Lv x1, Zs, Lv x2, Zs, Lv x3, Zs, Lv x4, Zs, Lv x5, Zs, Lv y6, Zs, Lv y7, Zs, Lv c, Zs, Us, Us, Us, Us] [(.long (x5 &&& (281474976710655 : Int64)))])) tt_
    refine XS.lload X0.here hEX rfl (hb hBY d_prog_59_method_13_code_41) rfl ?_
    show Steps p.tables e below (s₁.setTop (mkF m 43 #[Rv out, Lv x0, Zs, Lv x1, Zs, Lv x2, Zs, Lv x3, Zs, Lv x4, Zs, Lv x5, Zs, Lv y6, Zs, Lv y7, Zs, Lv c, Zs, Us, Us, Us, Us] [(.long x4), (.long (x5 &&& (281474976710655 : Int64)))])) tt_
    refine XS.bipush X0.here hEX rfl (hb hBY d_prog_59_method_13_code_43) ?_
    show Steps p.tables e below (s₁.setTop (mkF m 45 #[Rv out, Lv x0, Zs, Lv x1, Zs, Lv x2, Zs, Lv x3, Zs, Lv x4, Zs, Lv x5, Zs, Lv y6, Zs, Lv y7, Zs, Lv c, Zs, Us, Us, Us, Us] [(.int (48 : Int32)), (.long x4), (.long (x5 &&& (281474976710655 : Int64)))])) tt_
    refine XS.lshr X0.here hEX rfl (hb hBY d_prog_59_method_13_code_45) rfl ?_
    show Steps p.tables e below (s₁.setTop (mkF m 46 #[Rv out, Lv x0, Zs, Lv x1, Zs, Lv x2, Zs, Lv x3, Zs, Lv x4, Zs, Lv x5, Zs, Lv y6, Zs, Lv y7, Zs, Lv c, Zs, Us, Us, Us, Us] [(.long (x4 >>> ((48 : Int32) &&& 0x3f).toInt64)), (.long (x5 &&& (281474976710655 : Int64)))])) tt_
    refine XS.ladd X0.here hEX rfl (hb hBY d_prog_59_method_13_code_46) rfl ?_
    exact kt_
  refine Done.pre sg_4 ?_
  show Done _ _ _ _ _ _ _ (s₁.setTop (mkF m 47 #[Rv out, Lv x0, Zs, Lv x1, Zs, Lv x2, Zs, Lv x3, Zs, Lv x4, Zs, Lv x5, Zs, Lv y6, Zs, Lv y7, Zs, Lv c, Zs, Us, Us, Us, Us] [(.long ((x5 &&& (281474976710655 : Int64)) + (x4 >>> ((48 : Int32) &&& 0x3f).toInt64)))]))
  obtain ⟨y5, hy5⟩ : ∃ z : Int64, z = ((x5 &&& (281474976710655 : Int64)) + (x4 >>> ((48 : Int32) &&& 0x3f).toInt64)) := ⟨_, rfl⟩
  rw [← hy5]
  show Done _ _ _ _ _ _ _ (s₁.setTop (mkF m 47 #[Rv out, Lv x0, Zs, Lv x1, Zs, Lv x2, Zs, Lv x3, Zs, Lv x4, Zs, Lv x5, Zs, Lv y6, Zs, Lv y7, Zs, Lv c, Zs, Us, Us, Us, Us] [(.long y5)]))
  have sg_5 : ∀ tt_, Steps p.tables e below (s₁.setTop (mkF m 61 #[Rv out, Lv x0, Zs, Lv x1, Zs, Lv x2, Zs, Lv x3, Zs, Lv x4, Zs, Lv y5, Zs, Lv y6, Zs, Lv y7, Zs, Lv c, Zs, Us, Us, Us, Us] [(.long ((x4 &&& (281474976710655 : Int64)) + (x3 >>> ((48 : Int32) &&& 0x3f).toInt64)))])) tt_ → Steps p.tables e below (s₁.setTop (mkF m 47 #[Rv out, Lv x0, Zs, Lv x1, Zs, Lv x2, Zs, Lv x3, Zs, Lv x4, Zs, Lv x5, Zs, Lv y6, Zs, Lv y7, Zs, Lv c, Zs, Us, Us, Us, Us] [(.long y5)])) tt_ := by
    intro tt_ kt_
    refine XS.lstore X0.here hEX rfl (hb hBY d_prog_59_method_13_code_47) rfl (l' := #[Rv out, Lv x0, Zs, Lv x1, Zs, Lv x2, Zs, Lv x3, Zs, Lv x4, Zs, Lv y5, Zs, Lv y6, Zs, Lv y7, Zs, Lv c, Zs, Us, Us, Us, Us]) rfl ?_
    show Steps p.tables e below (s₁.setTop (mkF m 49 #[Rv out, Lv x0, Zs, Lv x1, Zs, Lv x2, Zs, Lv x3, Zs, Lv x4, Zs, Lv y5, Zs, Lv y6, Zs, Lv y7, Zs, Lv c, Zs, Us, Us, Us, Us] [])) tt_
    refine XS.lload X0.here hEX rfl (hb hBY d_prog_59_method_13_code_49) rfl ?_
    show Steps p.tables e below (s₁.setTop (mkF m 51 #[Rv out, Lv x0, Zs, Lv x1, Zs, Lv x2, Zs, Lv x3, Zs, Lv x4, Zs, Lv y5, Zs, Lv y6, Zs, Lv y7, Zs, Lv c, Zs, Us, Us, Us, Us] [(.long x4)])) tt_
    refine X0.ldc2Long hEX hOW (mvT hZW (hw _ (List.mem_of_getElem? (i := 17) rfl))) (g := (mkF m 51 #[Rv out, Lv x0, Zs, Lv x1, Zs, Lv x2, Zs, Lv x3, Zs, Lv x4, Zs, Lv y5, Zs, Lv y6, Zs, Lv y7, Zs, Lv c, Zs, Us, Us, Us, Us] [(.long x4)])) rfl (hb hBY d_prog_59_method_13_code_51) _ ?_
    show Steps p.tables e below (s₁.setTop (mkF m 54 #[Rv out, Lv x0, Zs, Lv x1, Zs, Lv x2, Zs, Lv x3, Zs, Lv x4, Zs, Lv y5, Zs, Lv y6, Zs, Lv y7, Zs, Lv c, Zs, Us, Us, Us, Us] [(.long (281474976710655 : Int64)), (.long x4)])) tt_
    refine XS.land X0.here hEX rfl (hb hBY d_prog_59_method_13_code_54) rfl ?_
    show Steps p.tables e below (s₁.setTop (mkF m 55 #[Rv out, Lv x0, Zs, Lv x1, Zs, Lv x2, Zs, Lv x3, Zs, Lv x4, Zs, Lv y5, Zs, Lv y6, Zs, Lv y7, Zs, Lv c, Zs, Us, Us, Us, Us] [(.long (x4 &&& (281474976710655 : Int64)))])) tt_
    refine XS.lload X0.here hEX rfl (hb hBY d_prog_59_method_13_code_55) rfl ?_
    show Steps p.tables e below (s₁.setTop (mkF m 57 #[Rv out, Lv x0, Zs, Lv x1, Zs, Lv x2, Zs, Lv x3, Zs, Lv x4, Zs, Lv y5, Zs, Lv y6, Zs, Lv y7, Zs, Lv c, Zs, Us, Us, Us, Us] [(.long x3), (.long (x4 &&& (281474976710655 : Int64)))])) tt_
    refine XS.bipush X0.here hEX rfl (hb hBY d_prog_59_method_13_code_57) ?_
    show Steps p.tables e below (s₁.setTop (mkF m 59 #[Rv out, Lv x0, Zs, Lv x1, Zs, Lv x2, Zs, Lv x3, Zs, Lv x4, Zs, Lv y5, Zs, Lv y6, Zs, Lv y7, Zs, Lv c, Zs, Us, Us, Us, Us] [(.int (48 : Int32)), (.long x3), (.long (x4 &&& (281474976710655 : Int64)))])) tt_
    refine XS.lshr X0.here hEX rfl (hb hBY d_prog_59_method_13_code_59) rfl ?_
    show Steps p.tables e below (s₁.setTop (mkF m 60 #[Rv out, Lv x0, Zs, Lv x1, Zs, Lv x2, Zs, Lv x3, Zs, Lv x4, Zs, Lv y5, Zs, Lv y6, Zs, Lv y7, Zs, Lv c, Zs, Us, Us, Us, Us] [(.long (x3 >>> ((48 : Int32) &&& 0x3f).toInt64)), (.long (x4 &&& (281474976710655 : Int64)))])) tt_
    refine XS.ladd X0.here hEX rfl (hb hBY d_prog_59_method_13_code_60) rfl ?_
    exact kt_
  refine Done.pre sg_5 ?_
  show Done _ _ _ _ _ _ _ (s₁.setTop (mkF m 61 #[Rv out, Lv x0, Zs, Lv x1, Zs, Lv x2, Zs, Lv x3, Zs, Lv x4, Zs, Lv y5, Zs, Lv y6, Zs, Lv y7, Zs, Lv c, Zs, Us, Us, Us, Us] [(.long ((x4 &&& (281474976710655 : Int64)) + (x3 >>> ((48 : Int32) &&& 0x3f).toInt64)))]))
  obtain ⟨y4, hy4⟩ : ∃ z : Int64, z = ((x4 &&& (281474976710655 : Int64)) + (x3 >>> ((48 : Int32) &&& 0x3f).toInt64)) := ⟨_, rfl⟩
  rw [← hy4]
  show Done _ _ _ _ _ _ _ (s₁.setTop (mkF m 61 #[Rv out, Lv x0, Zs, Lv x1, Zs, Lv x2, Zs, Lv x3, Zs, Lv x4, Zs, Lv y5, Zs, Lv y6, Zs, Lv y7, Zs, Lv c, Zs, Us, Us, Us, Us] [(.long y4)]))
  have sg_6 : ∀ tt_, Steps p.tables e below (s₁.setTop (mkF m 75 #[Rv out, Lv x0, Zs, Lv x1, Zs, Lv x2, Zs, Lv x3, Zs, Lv y4, Zs, Lv y5, Zs, Lv y6, Zs, Lv y7, Zs, Lv c, Zs, Us, Us, Us, Us] [(.long ((x3 &&& (281474976710655 : Int64)) + (x2 >>> ((48 : Int32) &&& 0x3f).toInt64)))])) tt_ → Steps p.tables e below (s₁.setTop (mkF m 61 #[Rv out, Lv x0, Zs, Lv x1, Zs, Lv x2, Zs, Lv x3, Zs, Lv x4, Zs, Lv y5, Zs, Lv y6, Zs, Lv y7, Zs, Lv c, Zs, Us, Us, Us, Us] [(.long y4)])) tt_ := by
    intro tt_ kt_
    refine XS.lstore X0.here hEX rfl (hb hBY d_prog_59_method_13_code_61) rfl (l' := #[Rv out, Lv x0, Zs, Lv x1, Zs, Lv x2, Zs, Lv x3, Zs, Lv y4, Zs, Lv y5, Zs, Lv y6, Zs, Lv y7, Zs, Lv c, Zs, Us, Us, Us, Us]) rfl ?_
    show Steps p.tables e below (s₁.setTop (mkF m 63 #[Rv out, Lv x0, Zs, Lv x1, Zs, Lv x2, Zs, Lv x3, Zs, Lv y4, Zs, Lv y5, Zs, Lv y6, Zs, Lv y7, Zs, Lv c, Zs, Us, Us, Us, Us] [])) tt_
    refine XS.lload X0.here hEX rfl (hb hBY d_prog_59_method_13_code_63) rfl ?_
    show Steps p.tables e below (s₁.setTop (mkF m 65 #[Rv out, Lv x0, Zs, Lv x1, Zs, Lv x2, Zs, Lv x3, Zs, Lv y4, Zs, Lv y5, Zs, Lv y6, Zs, Lv y7, Zs, Lv c, Zs, Us, Us, Us, Us] [(.long x3)])) tt_
    refine X0.ldc2Long hEX hOW (mvT hZW (hw _ (List.mem_of_getElem? (i := 17) rfl))) (g := (mkF m 65 #[Rv out, Lv x0, Zs, Lv x1, Zs, Lv x2, Zs, Lv x3, Zs, Lv y4, Zs, Lv y5, Zs, Lv y6, Zs, Lv y7, Zs, Lv c, Zs, Us, Us, Us, Us] [(.long x3)])) rfl (hb hBY d_prog_59_method_13_code_65) _ ?_
    show Steps p.tables e below (s₁.setTop (mkF m 68 #[Rv out, Lv x0, Zs, Lv x1, Zs, Lv x2, Zs, Lv x3, Zs, Lv y4, Zs, Lv y5, Zs, Lv y6, Zs, Lv y7, Zs, Lv c, Zs, Us, Us, Us, Us] [(.long (281474976710655 : Int64)), (.long x3)])) tt_
    refine XS.land X0.here hEX rfl (hb hBY d_prog_59_method_13_code_68) rfl ?_
    show Steps p.tables e below (s₁.setTop (mkF m 69 #[Rv out, Lv x0, Zs, Lv x1, Zs, Lv x2, Zs, Lv x3, Zs, Lv y4, Zs, Lv y5, Zs, Lv y6, Zs, Lv y7, Zs, Lv c, Zs, Us, Us, Us, Us] [(.long (x3 &&& (281474976710655 : Int64)))])) tt_
    refine XS.lload X0.here hEX rfl (hb hBY d_prog_59_method_13_code_69) rfl ?_
    show Steps p.tables e below (s₁.setTop (mkF m 71 #[Rv out, Lv x0, Zs, Lv x1, Zs, Lv x2, Zs, Lv x3, Zs, Lv y4, Zs, Lv y5, Zs, Lv y6, Zs, Lv y7, Zs, Lv c, Zs, Us, Us, Us, Us] [(.long x2), (.long (x3 &&& (281474976710655 : Int64)))])) tt_
    refine XS.bipush X0.here hEX rfl (hb hBY d_prog_59_method_13_code_71) ?_
    show Steps p.tables e below (s₁.setTop (mkF m 73 #[Rv out, Lv x0, Zs, Lv x1, Zs, Lv x2, Zs, Lv x3, Zs, Lv y4, Zs, Lv y5, Zs, Lv y6, Zs, Lv y7, Zs, Lv c, Zs, Us, Us, Us, Us] [(.int (48 : Int32)), (.long x2), (.long (x3 &&& (281474976710655 : Int64)))])) tt_
    refine XS.lshr X0.here hEX rfl (hb hBY d_prog_59_method_13_code_73) rfl ?_
    show Steps p.tables e below (s₁.setTop (mkF m 74 #[Rv out, Lv x0, Zs, Lv x1, Zs, Lv x2, Zs, Lv x3, Zs, Lv y4, Zs, Lv y5, Zs, Lv y6, Zs, Lv y7, Zs, Lv c, Zs, Us, Us, Us, Us] [(.long (x2 >>> ((48 : Int32) &&& 0x3f).toInt64)), (.long (x3 &&& (281474976710655 : Int64)))])) tt_
    refine XS.ladd X0.here hEX rfl (hb hBY d_prog_59_method_13_code_74) rfl ?_
    exact kt_
  refine Done.pre sg_6 ?_
  show Done _ _ _ _ _ _ _ (s₁.setTop (mkF m 75 #[Rv out, Lv x0, Zs, Lv x1, Zs, Lv x2, Zs, Lv x3, Zs, Lv y4, Zs, Lv y5, Zs, Lv y6, Zs, Lv y7, Zs, Lv c, Zs, Us, Us, Us, Us] [(.long ((x3 &&& (281474976710655 : Int64)) + (x2 >>> ((48 : Int32) &&& 0x3f).toInt64)))]))
  obtain ⟨y3, hy3⟩ : ∃ z : Int64, z = ((x3 &&& (281474976710655 : Int64)) + (x2 >>> ((48 : Int32) &&& 0x3f).toInt64)) := ⟨_, rfl⟩
  rw [← hy3]
  show Done _ _ _ _ _ _ _ (s₁.setTop (mkF m 75 #[Rv out, Lv x0, Zs, Lv x1, Zs, Lv x2, Zs, Lv x3, Zs, Lv y4, Zs, Lv y5, Zs, Lv y6, Zs, Lv y7, Zs, Lv c, Zs, Us, Us, Us, Us] [(.long y3)]))
  have sg_7 : ∀ tt_, Steps p.tables e below (s₁.setTop (mkF m 88 #[Rv out, Lv x0, Zs, Lv x1, Zs, Lv x2, Zs, Lv y3, Zs, Lv y4, Zs, Lv y5, Zs, Lv y6, Zs, Lv y7, Zs, Lv c, Zs, Us, Us, Us, Us] [(.long ((x2 &&& (281474976710655 : Int64)) + (x1 >>> ((48 : Int32) &&& 0x3f).toInt64)))])) tt_ → Steps p.tables e below (s₁.setTop (mkF m 75 #[Rv out, Lv x0, Zs, Lv x1, Zs, Lv x2, Zs, Lv x3, Zs, Lv y4, Zs, Lv y5, Zs, Lv y6, Zs, Lv y7, Zs, Lv c, Zs, Us, Us, Us, Us] [(.long y3)])) tt_ := by
    intro tt_ kt_
    refine XS.lstore X0.here hEX rfl (hb hBY d_prog_59_method_13_code_75) rfl (l' := #[Rv out, Lv x0, Zs, Lv x1, Zs, Lv x2, Zs, Lv y3, Zs, Lv y4, Zs, Lv y5, Zs, Lv y6, Zs, Lv y7, Zs, Lv c, Zs, Us, Us, Us, Us]) rfl ?_
    show Steps p.tables e below (s₁.setTop (mkF m 77 #[Rv out, Lv x0, Zs, Lv x1, Zs, Lv x2, Zs, Lv y3, Zs, Lv y4, Zs, Lv y5, Zs, Lv y6, Zs, Lv y7, Zs, Lv c, Zs, Us, Us, Us, Us] [])) tt_
    refine XS.lload X0.here hEX rfl (hb hBY d_prog_59_method_13_code_77) rfl ?_
    show Steps p.tables e below (s₁.setTop (mkF m 79 #[Rv out, Lv x0, Zs, Lv x1, Zs, Lv x2, Zs, Lv y3, Zs, Lv y4, Zs, Lv y5, Zs, Lv y6, Zs, Lv y7, Zs, Lv c, Zs, Us, Us, Us, Us] [(.long x2)])) tt_
    refine X0.ldc2Long hEX hOW (mvT hZW (hw _ (List.mem_of_getElem? (i := 17) rfl))) (g := (mkF m 79 #[Rv out, Lv x0, Zs, Lv x1, Zs, Lv x2, Zs, Lv y3, Zs, Lv y4, Zs, Lv y5, Zs, Lv y6, Zs, Lv y7, Zs, Lv c, Zs, Us, Us, Us, Us] [(.long x2)])) rfl (hb hBY d_prog_59_method_13_code_79) _ ?_
    show Steps p.tables e below (s₁.setTop (mkF m 82 #[Rv out, Lv x0, Zs, Lv x1, Zs, Lv x2, Zs, Lv y3, Zs, Lv y4, Zs, Lv y5, Zs, Lv y6, Zs, Lv y7, Zs, Lv c, Zs, Us, Us, Us, Us] [(.long (281474976710655 : Int64)), (.long x2)])) tt_
    refine XS.land X0.here hEX rfl (hb hBY d_prog_59_method_13_code_82) rfl ?_
    show Steps p.tables e below (s₁.setTop (mkF m 83 #[Rv out, Lv x0, Zs, Lv x1, Zs, Lv x2, Zs, Lv y3, Zs, Lv y4, Zs, Lv y5, Zs, Lv y6, Zs, Lv y7, Zs, Lv c, Zs, Us, Us, Us, Us] [(.long (x2 &&& (281474976710655 : Int64)))])) tt_
    refine XS.lloadN X0.here hEX rfl (hb hBY d_prog_59_method_13_code_83) rfl ?_
    show Steps p.tables e below (s₁.setTop (mkF m 84 #[Rv out, Lv x0, Zs, Lv x1, Zs, Lv x2, Zs, Lv y3, Zs, Lv y4, Zs, Lv y5, Zs, Lv y6, Zs, Lv y7, Zs, Lv c, Zs, Us, Us, Us, Us] [(.long x1), (.long (x2 &&& (281474976710655 : Int64)))])) tt_
    refine XS.bipush X0.here hEX rfl (hb hBY d_prog_59_method_13_code_84) ?_
    show Steps p.tables e below (s₁.setTop (mkF m 86 #[Rv out, Lv x0, Zs, Lv x1, Zs, Lv x2, Zs, Lv y3, Zs, Lv y4, Zs, Lv y5, Zs, Lv y6, Zs, Lv y7, Zs, Lv c, Zs, Us, Us, Us, Us] [(.int (48 : Int32)), (.long x1), (.long (x2 &&& (281474976710655 : Int64)))])) tt_
    refine XS.lshr X0.here hEX rfl (hb hBY d_prog_59_method_13_code_86) rfl ?_
    show Steps p.tables e below (s₁.setTop (mkF m 87 #[Rv out, Lv x0, Zs, Lv x1, Zs, Lv x2, Zs, Lv y3, Zs, Lv y4, Zs, Lv y5, Zs, Lv y6, Zs, Lv y7, Zs, Lv c, Zs, Us, Us, Us, Us] [(.long (x1 >>> ((48 : Int32) &&& 0x3f).toInt64)), (.long (x2 &&& (281474976710655 : Int64)))])) tt_
    refine XS.ladd X0.here hEX rfl (hb hBY d_prog_59_method_13_code_87) rfl ?_
    exact kt_
  refine Done.pre sg_7 ?_
  show Done _ _ _ _ _ _ _ (s₁.setTop (mkF m 88 #[Rv out, Lv x0, Zs, Lv x1, Zs, Lv x2, Zs, Lv y3, Zs, Lv y4, Zs, Lv y5, Zs, Lv y6, Zs, Lv y7, Zs, Lv c, Zs, Us, Us, Us, Us] [(.long ((x2 &&& (281474976710655 : Int64)) + (x1 >>> ((48 : Int32) &&& 0x3f).toInt64)))]))
  obtain ⟨y2, hy2⟩ : ∃ z : Int64, z = ((x2 &&& (281474976710655 : Int64)) + (x1 >>> ((48 : Int32) &&& 0x3f).toInt64)) := ⟨_, rfl⟩
  rw [← hy2]
  show Done _ _ _ _ _ _ _ (s₁.setTop (mkF m 88 #[Rv out, Lv x0, Zs, Lv x1, Zs, Lv x2, Zs, Lv y3, Zs, Lv y4, Zs, Lv y5, Zs, Lv y6, Zs, Lv y7, Zs, Lv c, Zs, Us, Us, Us, Us] [(.long y2)]))
  have sg_8 : ∀ tt_, Steps p.tables e below (s₁.setTop (mkF m 100 #[Rv out, Lv x0, Zs, Lv x1, Zs, Lv y2, Zs, Lv y3, Zs, Lv y4, Zs, Lv y5, Zs, Lv y6, Zs, Lv y7, Zs, Lv c, Zs, Us, Us, Us, Us] [(.long ((x1 &&& (281474976710655 : Int64)) + (x0 >>> ((48 : Int32) &&& 0x3f).toInt64)))])) tt_ → Steps p.tables e below (s₁.setTop (mkF m 88 #[Rv out, Lv x0, Zs, Lv x1, Zs, Lv x2, Zs, Lv y3, Zs, Lv y4, Zs, Lv y5, Zs, Lv y6, Zs, Lv y7, Zs, Lv c, Zs, Us, Us, Us, Us] [(.long y2)])) tt_ := by
    intro tt_ kt_
    refine XS.lstore X0.here hEX rfl (hb hBY d_prog_59_method_13_code_88) rfl (l' := #[Rv out, Lv x0, Zs, Lv x1, Zs, Lv y2, Zs, Lv y3, Zs, Lv y4, Zs, Lv y5, Zs, Lv y6, Zs, Lv y7, Zs, Lv c, Zs, Us, Us, Us, Us]) rfl ?_
    show Steps p.tables e below (s₁.setTop (mkF m 90 #[Rv out, Lv x0, Zs, Lv x1, Zs, Lv y2, Zs, Lv y3, Zs, Lv y4, Zs, Lv y5, Zs, Lv y6, Zs, Lv y7, Zs, Lv c, Zs, Us, Us, Us, Us] [])) tt_
    refine XS.lloadN X0.here hEX rfl (hb hBY d_prog_59_method_13_code_90) rfl ?_
    show Steps p.tables e below (s₁.setTop (mkF m 91 #[Rv out, Lv x0, Zs, Lv x1, Zs, Lv y2, Zs, Lv y3, Zs, Lv y4, Zs, Lv y5, Zs, Lv y6, Zs, Lv y7, Zs, Lv c, Zs, Us, Us, Us, Us] [(.long x1)])) tt_
    refine X0.ldc2Long hEX hOW (mvT hZW (hw _ (List.mem_of_getElem? (i := 17) rfl))) (g := (mkF m 91 #[Rv out, Lv x0, Zs, Lv x1, Zs, Lv y2, Zs, Lv y3, Zs, Lv y4, Zs, Lv y5, Zs, Lv y6, Zs, Lv y7, Zs, Lv c, Zs, Us, Us, Us, Us] [(.long x1)])) rfl (hb hBY d_prog_59_method_13_code_91) _ ?_
    show Steps p.tables e below (s₁.setTop (mkF m 94 #[Rv out, Lv x0, Zs, Lv x1, Zs, Lv y2, Zs, Lv y3, Zs, Lv y4, Zs, Lv y5, Zs, Lv y6, Zs, Lv y7, Zs, Lv c, Zs, Us, Us, Us, Us] [(.long (281474976710655 : Int64)), (.long x1)])) tt_
    refine XS.land X0.here hEX rfl (hb hBY d_prog_59_method_13_code_94) rfl ?_
    show Steps p.tables e below (s₁.setTop (mkF m 95 #[Rv out, Lv x0, Zs, Lv x1, Zs, Lv y2, Zs, Lv y3, Zs, Lv y4, Zs, Lv y5, Zs, Lv y6, Zs, Lv y7, Zs, Lv c, Zs, Us, Us, Us, Us] [(.long (x1 &&& (281474976710655 : Int64)))])) tt_
    refine XS.lloadN X0.here hEX rfl (hb hBY d_prog_59_method_13_code_95) rfl ?_
    show Steps p.tables e below (s₁.setTop (mkF m 96 #[Rv out, Lv x0, Zs, Lv x1, Zs, Lv y2, Zs, Lv y3, Zs, Lv y4, Zs, Lv y5, Zs, Lv y6, Zs, Lv y7, Zs, Lv c, Zs, Us, Us, Us, Us] [(.long x0), (.long (x1 &&& (281474976710655 : Int64)))])) tt_
    refine XS.bipush X0.here hEX rfl (hb hBY d_prog_59_method_13_code_96) ?_
    show Steps p.tables e below (s₁.setTop (mkF m 98 #[Rv out, Lv x0, Zs, Lv x1, Zs, Lv y2, Zs, Lv y3, Zs, Lv y4, Zs, Lv y5, Zs, Lv y6, Zs, Lv y7, Zs, Lv c, Zs, Us, Us, Us, Us] [(.int (48 : Int32)), (.long x0), (.long (x1 &&& (281474976710655 : Int64)))])) tt_
    refine XS.lshr X0.here hEX rfl (hb hBY d_prog_59_method_13_code_98) rfl ?_
    show Steps p.tables e below (s₁.setTop (mkF m 99 #[Rv out, Lv x0, Zs, Lv x1, Zs, Lv y2, Zs, Lv y3, Zs, Lv y4, Zs, Lv y5, Zs, Lv y6, Zs, Lv y7, Zs, Lv c, Zs, Us, Us, Us, Us] [(.long (x0 >>> ((48 : Int32) &&& 0x3f).toInt64)), (.long (x1 &&& (281474976710655 : Int64)))])) tt_
    refine XS.ladd X0.here hEX rfl (hb hBY d_prog_59_method_13_code_99) rfl ?_
    exact kt_
  refine Done.pre sg_8 ?_
  show Done _ _ _ _ _ _ _ (s₁.setTop (mkF m 100 #[Rv out, Lv x0, Zs, Lv x1, Zs, Lv y2, Zs, Lv y3, Zs, Lv y4, Zs, Lv y5, Zs, Lv y6, Zs, Lv y7, Zs, Lv c, Zs, Us, Us, Us, Us] [(.long ((x1 &&& (281474976710655 : Int64)) + (x0 >>> ((48 : Int32) &&& 0x3f).toInt64)))]))
  obtain ⟨y1, hy1⟩ : ∃ z : Int64, z = ((x1 &&& (281474976710655 : Int64)) + (x0 >>> ((48 : Int32) &&& 0x3f).toInt64)) := ⟨_, rfl⟩
  rw [← hy1]
  show Done _ _ _ _ _ _ _ (s₁.setTop (mkF m 100 #[Rv out, Lv x0, Zs, Lv x1, Zs, Lv y2, Zs, Lv y3, Zs, Lv y4, Zs, Lv y5, Zs, Lv y6, Zs, Lv y7, Zs, Lv c, Zs, Us, Us, Us, Us] [(.long y1)]))
  have sg_9 : ∀ tt_, Steps p.tables e below (s₁.setTop (mkF m 106 #[Rv out, Lv x0, Zs, Lv y1, Zs, Lv y2, Zs, Lv y3, Zs, Lv y4, Zs, Lv y5, Zs, Lv y6, Zs, Lv y7, Zs, Lv c, Zs, Us, Us, Us, Us] [(.long (x0 &&& (281474976710655 : Int64)))])) tt_ → Steps p.tables e below (s₁.setTop (mkF m 100 #[Rv out, Lv x0, Zs, Lv x1, Zs, Lv y2, Zs, Lv y3, Zs, Lv y4, Zs, Lv y5, Zs, Lv y6, Zs, Lv y7, Zs, Lv c, Zs, Us, Us, Us, Us] [(.long y1)])) tt_ := by
    intro tt_ kt_
    refine XS.lstoreN X0.here hEX rfl (hb hBY d_prog_59_method_13_code_100) rfl (l' := #[Rv out, Lv x0, Zs, Lv y1, Zs, Lv y2, Zs, Lv y3, Zs, Lv y4, Zs, Lv y5, Zs, Lv y6, Zs, Lv y7, Zs, Lv c, Zs, Us, Us, Us, Us]) rfl ?_
    show Steps p.tables e below (s₁.setTop (mkF m 101 #[Rv out, Lv x0, Zs, Lv y1, Zs, Lv y2, Zs, Lv y3, Zs, Lv y4, Zs, Lv y5, Zs, Lv y6, Zs, Lv y7, Zs, Lv c, Zs, Us, Us, Us, Us] [])) tt_
    refine XS.lloadN X0.here hEX rfl (hb hBY d_prog_59_method_13_code_101) rfl ?_
    show Steps p.tables e below (s₁.setTop (mkF m 102 #[Rv out, Lv x0, Zs, Lv y1, Zs, Lv y2, Zs, Lv y3, Zs, Lv y4, Zs, Lv y5, Zs, Lv y6, Zs, Lv y7, Zs, Lv c, Zs, Us, Us, Us, Us] [(.long x0)])) tt_
    refine X0.ldc2Long hEX hOW (mvT hZW (hw _ (List.mem_of_getElem? (i := 17) rfl))) (g := (mkF m 102 #[Rv out, Lv x0, Zs, Lv y1, Zs, Lv y2, Zs, Lv y3, Zs, Lv y4, Zs, Lv y5, Zs, Lv y6, Zs, Lv y7, Zs, Lv c, Zs, Us, Us, Us, Us] [(.long x0)])) rfl (hb hBY d_prog_59_method_13_code_102) _ ?_
    show Steps p.tables e below (s₁.setTop (mkF m 105 #[Rv out, Lv x0, Zs, Lv y1, Zs, Lv y2, Zs, Lv y3, Zs, Lv y4, Zs, Lv y5, Zs, Lv y6, Zs, Lv y7, Zs, Lv c, Zs, Us, Us, Us, Us] [(.long (281474976710655 : Int64)), (.long x0)])) tt_
    refine XS.land X0.here hEX rfl (hb hBY d_prog_59_method_13_code_105) rfl ?_
    exact kt_
  refine Done.pre sg_9 ?_
  show Done _ _ _ _ _ _ _ (s₁.setTop (mkF m 106 #[Rv out, Lv x0, Zs, Lv y1, Zs, Lv y2, Zs, Lv y3, Zs, Lv y4, Zs, Lv y5, Zs, Lv y6, Zs, Lv y7, Zs, Lv c, Zs, Us, Us, Us, Us] [(.long (x0 &&& (281474976710655 : Int64)))]))
  obtain ⟨y0, hy0⟩ : ∃ z : Int64, z = (x0 &&& (281474976710655 : Int64)) := ⟨_, rfl⟩
  rw [← hy0]
  show Done _ _ _ _ _ _ _ (s₁.setTop (mkF m 106 #[Rv out, Lv x0, Zs, Lv y1, Zs, Lv y2, Zs, Lv y3, Zs, Lv y4, Zs, Lv y5, Zs, Lv y6, Zs, Lv y7, Zs, Lv c, Zs, Us, Us, Us, Us] [(.long y0)]))
  have sg_10 : ∀ tt_, Steps p.tables e below (s₁.setTop (mkF m 116 #[Rv out, Lv y0, Zs, Lv y1, Zs, Lv y2, Zs, Lv y3, Zs, Lv y4, Zs, Lv y5, Zs, Lv y6, Zs, Lv y7, Zs, Lv c, Zs, Us, Us, Us, Us] [(.long ((c &&& (65535 : Int64)) <<< ((32 : Int32) &&& 0x3f).toInt64))])) tt_ → Steps p.tables e below (s₁.setTop (mkF m 106 #[Rv out, Lv x0, Zs, Lv y1, Zs, Lv y2, Zs, Lv y3, Zs, Lv y4, Zs, Lv y5, Zs, Lv y6, Zs, Lv y7, Zs, Lv c, Zs, Us, Us, Us, Us] [(.long y0)])) tt_ := by
    intro tt_ kt_
    refine XS.lstoreN X0.here hEX rfl (hb hBY d_prog_59_method_13_code_106) rfl (l' := #[Rv out, Lv y0, Zs, Lv y1, Zs, Lv y2, Zs, Lv y3, Zs, Lv y4, Zs, Lv y5, Zs, Lv y6, Zs, Lv y7, Zs, Lv c, Zs, Us, Us, Us, Us]) rfl ?_
    show Steps p.tables e below (s₁.setTop (mkF m 107 #[Rv out, Lv y0, Zs, Lv y1, Zs, Lv y2, Zs, Lv y3, Zs, Lv y4, Zs, Lv y5, Zs, Lv y6, Zs, Lv y7, Zs, Lv c, Zs, Us, Us, Us, Us] [])) tt_
    refine XS.lload X0.here hEX rfl (hb hBY d_prog_59_method_13_code_107) rfl ?_
    show Steps p.tables e below (s₁.setTop (mkF m 109 #[Rv out, Lv y0, Zs, Lv y1, Zs, Lv y2, Zs, Lv y3, Zs, Lv y4, Zs, Lv y5, Zs, Lv y6, Zs, Lv y7, Zs, Lv c, Zs, Us, Us, Us, Us] [(.long c)])) tt_
    refine X0.ldc2Long hEX hOW (mvT hZW (hw _ (List.mem_of_getElem? (i := 18) rfl))) (g := (mkF m 109 #[Rv out, Lv y0, Zs, Lv y1, Zs, Lv y2, Zs, Lv y3, Zs, Lv y4, Zs, Lv y5, Zs, Lv y6, Zs, Lv y7, Zs, Lv c, Zs, Us, Us, Us, Us] [(.long c)])) rfl (hb hBY d_prog_59_method_13_code_109) _ ?_
    show Steps p.tables e below (s₁.setTop (mkF m 112 #[Rv out, Lv y0, Zs, Lv y1, Zs, Lv y2, Zs, Lv y3, Zs, Lv y4, Zs, Lv y5, Zs, Lv y6, Zs, Lv y7, Zs, Lv c, Zs, Us, Us, Us, Us] [(.long (65535 : Int64)), (.long c)])) tt_
    refine XS.land X0.here hEX rfl (hb hBY d_prog_59_method_13_code_112) rfl ?_
    show Steps p.tables e below (s₁.setTop (mkF m 113 #[Rv out, Lv y0, Zs, Lv y1, Zs, Lv y2, Zs, Lv y3, Zs, Lv y4, Zs, Lv y5, Zs, Lv y6, Zs, Lv y7, Zs, Lv c, Zs, Us, Us, Us, Us] [(.long (c &&& (65535 : Int64)))])) tt_
    refine XS.bipush X0.here hEX rfl (hb hBY d_prog_59_method_13_code_113) ?_
    show Steps p.tables e below (s₁.setTop (mkF m 115 #[Rv out, Lv y0, Zs, Lv y1, Zs, Lv y2, Zs, Lv y3, Zs, Lv y4, Zs, Lv y5, Zs, Lv y6, Zs, Lv y7, Zs, Lv c, Zs, Us, Us, Us, Us] [(.int (32 : Int32)), (.long (c &&& (65535 : Int64)))])) tt_
    refine XS.lshl X0.here hEX rfl (hb hBY d_prog_59_method_13_code_115) rfl ?_
    exact kt_
  refine Done.pre sg_10 ?_
  show Done _ _ _ _ _ _ _ (s₁.setTop (mkF m 116 #[Rv out, Lv y0, Zs, Lv y1, Zs, Lv y2, Zs, Lv y3, Zs, Lv y4, Zs, Lv y5, Zs, Lv y6, Zs, Lv y7, Zs, Lv c, Zs, Us, Us, Us, Us] [(.long ((c &&& (65535 : Int64)) <<< ((32 : Int32) &&& 0x3f).toInt64))]))
  obtain ⟨lo, hlo⟩ : ∃ z : Int64, z = ((c &&& (65535 : Int64)) <<< ((32 : Int32) &&& 0x3f).toInt64) := ⟨_, rfl⟩
  rw [← hlo]
  show Done _ _ _ _ _ _ _ (s₁.setTop (mkF m 116 #[Rv out, Lv y0, Zs, Lv y1, Zs, Lv y2, Zs, Lv y3, Zs, Lv y4, Zs, Lv y5, Zs, Lv y6, Zs, Lv y7, Zs, Lv c, Zs, Us, Us, Us, Us] [(.long lo)]))
  have sg_11 : ∀ tt_, Steps p.tables e below (s₁.setTop (mkF m 123 #[Rv out, Lv y0, Zs, Lv y1, Zs, Lv y2, Zs, Lv y3, Zs, Lv y4, Zs, Lv y5, Zs, Lv y6, Zs, Lv y7, Zs, Lv c, Zs, Lv lo, Zs, Us, Us] [(.long (c >>> ((16 : Int32) &&& 0x3f).toInt64))])) tt_ → Steps p.tables e below (s₁.setTop (mkF m 116 #[Rv out, Lv y0, Zs, Lv y1, Zs, Lv y2, Zs, Lv y3, Zs, Lv y4, Zs, Lv y5, Zs, Lv y6, Zs, Lv y7, Zs, Lv c, Zs, Us, Us, Us, Us] [(.long lo)])) tt_ := by
    intro tt_ kt_
    refine XS.lstore X0.here hEX rfl (hb hBY d_prog_59_method_13_code_116) rfl (l' := #[Rv out, Lv y0, Zs, Lv y1, Zs, Lv y2, Zs, Lv y3, Zs, Lv y4, Zs, Lv y5, Zs, Lv y6, Zs, Lv y7, Zs, Lv c, Zs, Lv lo, Zs, Us, Us]) rfl ?_
    show Steps p.tables e below (s₁.setTop (mkF m 118 #[Rv out, Lv y0, Zs, Lv y1, Zs, Lv y2, Zs, Lv y3, Zs, Lv y4, Zs, Lv y5, Zs, Lv y6, Zs, Lv y7, Zs, Lv c, Zs, Lv lo, Zs, Us, Us] [])) tt_
    refine XS.lload X0.here hEX rfl (hb hBY d_prog_59_method_13_code_118) rfl ?_
    show Steps p.tables e below (s₁.setTop (mkF m 120 #[Rv out, Lv y0, Zs, Lv y1, Zs, Lv y2, Zs, Lv y3, Zs, Lv y4, Zs, Lv y5, Zs, Lv y6, Zs, Lv y7, Zs, Lv c, Zs, Lv lo, Zs, Us, Us] [(.long c)])) tt_
    refine XS.bipush X0.here hEX rfl (hb hBY d_prog_59_method_13_code_120) ?_
    show Steps p.tables e below (s₁.setTop (mkF m 122 #[Rv out, Lv y0, Zs, Lv y1, Zs, Lv y2, Zs, Lv y3, Zs, Lv y4, Zs, Lv y5, Zs, Lv y6, Zs, Lv y7, Zs, Lv c, Zs, Lv lo, Zs, Us, Us] [(.int (16 : Int32)), (.long c)])) tt_
    refine XS.lshr X0.here hEX rfl (hb hBY d_prog_59_method_13_code_122) rfl ?_
    exact kt_
  refine Done.pre sg_11 ?_
  show Done _ _ _ _ _ _ _ (s₁.setTop (mkF m 123 #[Rv out, Lv y0, Zs, Lv y1, Zs, Lv y2, Zs, Lv y3, Zs, Lv y4, Zs, Lv y5, Zs, Lv y6, Zs, Lv y7, Zs, Lv c, Zs, Lv lo, Zs, Us, Us] [(.long (c >>> ((16 : Int32) &&& 0x3f).toInt64))]))
  obtain ⟨hi, hhi⟩ : ∃ z : Int64, z = (c >>> ((16 : Int32) &&& 0x3f).toInt64) := ⟨_, rfl⟩
  rw [← hhi]
  show Done _ _ _ _ _ _ _ (s₁.setTop (mkF m 123 #[Rv out, Lv y0, Zs, Lv y1, Zs, Lv y2, Zs, Lv y3, Zs, Lv y4, Zs, Lv y5, Zs, Lv y6, Zs, Lv y7, Zs, Lv c, Zs, Lv lo, Zs, Us, Us] [(.long hi)]))
  have sg_13 : ∀ tt_, Steps p.tables e below (s₁.setTop (mkF m 134 #[Rv out, Lv y0, Zs, Lv y1, Zs, Lv y2, Zs, Lv y3, Zs, Lv y4, Zs, Lv y5, Zs, Lv y6, Zs, Lv y7, Zs, Lv c, Zs, Lv lo, Zs, Lv hi, Zs] [(.long ((y0 + c) - lo)), (.int (0 : Int32)), (.ref out)])) tt_ → Steps p.tables e below (s₁.setTop (mkF m 123 #[Rv out, Lv y0, Zs, Lv y1, Zs, Lv y2, Zs, Lv y3, Zs, Lv y4, Zs, Lv y5, Zs, Lv y6, Zs, Lv y7, Zs, Lv c, Zs, Lv lo, Zs, Us, Us] [(.long hi)])) tt_ := by
    intro tt_ kt_
    refine XS.lstore X0.here hEX rfl (hb hBY d_prog_59_method_13_code_123) rfl (l' := #[Rv out, Lv y0, Zs, Lv y1, Zs, Lv y2, Zs, Lv y3, Zs, Lv y4, Zs, Lv y5, Zs, Lv y6, Zs, Lv y7, Zs, Lv c, Zs, Lv lo, Zs, Lv hi, Zs]) rfl ?_
    show Steps p.tables e below (s₁.setTop (mkF m 125 #[Rv out, Lv y0, Zs, Lv y1, Zs, Lv y2, Zs, Lv y3, Zs, Lv y4, Zs, Lv y5, Zs, Lv y6, Zs, Lv y7, Zs, Lv c, Zs, Lv lo, Zs, Lv hi, Zs] [])) tt_
    refine XS.aloadN X0.here hEX rfl (hb hBY d_prog_59_method_13_code_125) rfl rfl ?_
    show Steps p.tables e below (s₁.setTop (mkF m 126 #[Rv out, Lv y0, Zs, Lv y1, Zs, Lv y2, Zs, Lv y3, Zs, Lv y4, Zs, Lv y5, Zs, Lv y6, Zs, Lv y7, Zs, Lv c, Zs, Lv lo, Zs, Lv hi, Zs] [(.ref out)])) tt_
    refine XS.iconst X0.here hEX rfl (hb hBY d_prog_59_method_13_code_126) ?_
    show Steps p.tables e below (s₁.setTop (mkF m 127 #[Rv out, Lv y0, Zs, Lv y1, Zs, Lv y2, Zs, Lv y3, Zs, Lv y4, Zs, Lv y5, Zs, Lv y6, Zs, Lv y7, Zs, Lv c, Zs, Lv lo, Zs, Lv hi, Zs] [(.int (0 : Int32)), (.ref out)])) tt_
    refine XS.lloadN X0.here hEX rfl (hb hBY d_prog_59_method_13_code_127) rfl ?_
    show Steps p.tables e below (s₁.setTop (mkF m 128 #[Rv out, Lv y0, Zs, Lv y1, Zs, Lv y2, Zs, Lv y3, Zs, Lv y4, Zs, Lv y5, Zs, Lv y6, Zs, Lv y7, Zs, Lv c, Zs, Lv lo, Zs, Lv hi, Zs] [(.long y0), (.int (0 : Int32)), (.ref out)])) tt_
    refine XS.lload X0.here hEX rfl (hb hBY d_prog_59_method_13_code_128) rfl ?_
    show Steps p.tables e below (s₁.setTop (mkF m 130 #[Rv out, Lv y0, Zs, Lv y1, Zs, Lv y2, Zs, Lv y3, Zs, Lv y4, Zs, Lv y5, Zs, Lv y6, Zs, Lv y7, Zs, Lv c, Zs, Lv lo, Zs, Lv hi, Zs] [(.long c), (.long y0), (.int (0 : Int32)), (.ref out)])) tt_
    refine XS.ladd X0.here hEX rfl (hb hBY d_prog_59_method_13_code_130) rfl ?_
    show Steps p.tables e below (s₁.setTop (mkF m 131 #[Rv out, Lv y0, Zs, Lv y1, Zs, Lv y2, Zs, Lv y3, Zs, Lv y4, Zs, Lv y5, Zs, Lv y6, Zs, Lv y7, Zs, Lv c, Zs, Lv lo, Zs, Lv hi, Zs] [(.long (y0 + c)), (.int (0 : Int32)), (.ref out)])) tt_
    refine XS.lload X0.here hEX rfl (hb hBY d_prog_59_method_13_code_131) rfl ?_
    show Steps p.tables e below (s₁.setTop (mkF m 133 #[Rv out, Lv y0, Zs, Lv y1, Zs, Lv y2, Zs, Lv y3, Zs, Lv y4, Zs, Lv y5, Zs, Lv y6, Zs, Lv y7, Zs, Lv c, Zs, Lv lo, Zs, Lv hi, Zs] [(.long lo), (.long (y0 + c)), (.int (0 : Int32)), (.ref out)])) tt_
    refine XS.lsub X0.here hEX rfl (hb hBY d_prog_59_method_13_code_133) rfl ?_
    exact kt_
  refine Done.pre sg_13 ?_
  obtain ⟨cl_12, Ar_12, q_12, S_12, N__12, H_12, G_12⟩ := id Ao
  have hin_12 : ¬ ((0 : Int32) < 0 ∨ cl_12.slots.size ≤ ((0 : Int32)).toNatClampNeg) := inb_of S_12 ⟨by decide, by decide⟩
  obtain ⟨T_14, h_14, X_14, e_14, W_14, st_14⟩ := stJ X0 hEX hZW e0 Ar_12 (j := (0 : Int32)) hin_12 (g := (mkF m 134 #[Rv out, Lv y0, Zs, Lv y1, Zs, Lv y2, Zs, Lv y3, Zs, Lv y4, Zs, Lv y5, Zs, Lv y6, Zs, Lv y7, Zs, Lv c, Zs, Lv lo, Zs, Lv hi, Zs] [(.long ((y0 + c) - lo)), (.int (0 : Int32)), (.ref out)])) rfl rfl (hb hBY d_prog_59_method_13_code_134)
  have N_14 := Fr.snoc X_14 N0 go
  have K__15 : Keep h0 h_14 [out] := K0.wr W_14 (Or.inl (List.mem_of_getElem? (i := 0) rfl))
  have f_16 : Arv Z h_14 out k .long (8 : Int32) [(.long ((y0 + c) - lo)), (.long o1), (.long o2), (.long o3), (.long o4), (.long o5), (.long o6), (.long o7)] (.long (0 : Int64)) := Arv.set Ar_12 q_12 S_12 N__12 H_12 G_12 rfl W_14 0 rfl (Nat.le_of_ble_eq_true rfl)
  refine Done.pre st_14 ?_
  show Done _ _ _ _ _ _ _ (T_14.setTop (mkF m 135 #[Rv out, Lv y0, Zs, Lv y1, Zs, Lv y2, Zs, Lv y3, Zs, Lv y4, Zs, Lv y5, Zs, Lv y6, Zs, Lv y7, Zs, Lv c, Zs, Lv lo, Zs, Lv hi, Zs] []))
  have sg_18 : ∀ tt_, Steps p.tables e below (T_14.setTop (mkF m 141 #[Rv out, Lv y0, Zs, Lv y1, Zs, Lv y2, Zs, Lv y3, Zs, Lv y4, Zs, Lv y5, Zs, Lv y6, Zs, Lv y7, Zs, Lv c, Zs, Lv lo, Zs, Lv hi, Zs] [(.long (y1 - hi)), (.int (1 : Int32)), (.ref out)])) tt_ → Steps p.tables e below (T_14.setTop (mkF m 135 #[Rv out, Lv y0, Zs, Lv y1, Zs, Lv y2, Zs, Lv y3, Zs, Lv y4, Zs, Lv y5, Zs, Lv y6, Zs, Lv y7, Zs, Lv c, Zs, Lv lo, Zs, Lv hi, Zs] [])) tt_ := by
    intro tt_ kt_
    refine XS.aloadN X_14.here hEX rfl (hb hBY d_prog_59_method_13_code_135) rfl rfl ?_
    show Steps p.tables e below (T_14.setTop (mkF m 136 #[Rv out, Lv y0, Zs, Lv y1, Zs, Lv y2, Zs, Lv y3, Zs, Lv y4, Zs, Lv y5, Zs, Lv y6, Zs, Lv y7, Zs, Lv c, Zs, Lv lo, Zs, Lv hi, Zs] [(.ref out)])) tt_
    refine XS.iconst X_14.here hEX rfl (hb hBY d_prog_59_method_13_code_136) ?_
    show Steps p.tables e below (T_14.setTop (mkF m 137 #[Rv out, Lv y0, Zs, Lv y1, Zs, Lv y2, Zs, Lv y3, Zs, Lv y4, Zs, Lv y5, Zs, Lv y6, Zs, Lv y7, Zs, Lv c, Zs, Lv lo, Zs, Lv hi, Zs] [(.int (1 : Int32)), (.ref out)])) tt_
    refine XS.lloadN X_14.here hEX rfl (hb hBY d_prog_59_method_13_code_137) rfl ?_
    show Steps p.tables e below (T_14.setTop (mkF m 138 #[Rv out, Lv y0, Zs, Lv y1, Zs, Lv y2, Zs, Lv y3, Zs, Lv y4, Zs, Lv y5, Zs, Lv y6, Zs, Lv y7, Zs, Lv c, Zs, Lv lo, Zs, Lv hi, Zs] [(.long y1), (.int (1 : Int32)), (.ref out)])) tt_
    refine XS.lload X_14.here hEX rfl (hb hBY d_prog_59_method_13_code_138) rfl ?_
    show Steps p.tables e below (T_14.setTop (mkF m 140 #[Rv out, Lv y0, Zs, Lv y1, Zs, Lv y2, Zs, Lv y3, Zs, Lv y4, Zs, Lv y5, Zs, Lv y6, Zs, Lv y7, Zs, Lv c, Zs, Lv lo, Zs, Lv hi, Zs] [(.long hi), (.long y1), (.int (1 : Int32)), (.ref out)])) tt_
    refine XS.lsub X_14.here hEX rfl (hb hBY d_prog_59_method_13_code_140) rfl ?_
    exact kt_
  refine Done.pre sg_18 ?_
  obtain ⟨cl_17, Ar_17, q_17, S_17, N__17, H_17, G_17⟩ := id f_16
  have hin_17 : ¬ ((1 : Int32) < 0 ∨ cl_17.slots.size ≤ ((1 : Int32)).toNatClampNeg) := inb_of S_17 ⟨by decide, by decide⟩
  obtain ⟨T_19, h_19, X_19, e_19, W_19, st_19⟩ := stJ X_14 hEX hZW e_14 Ar_17 (j := (1 : Int32)) hin_17 (g := (mkF m 141 #[Rv out, Lv y0, Zs, Lv y1, Zs, Lv y2, Zs, Lv y3, Zs, Lv y4, Zs, Lv y5, Zs, Lv y6, Zs, Lv y7, Zs, Lv c, Zs, Lv lo, Zs, Lv hi, Zs] [(.long (y1 - hi)), (.int (1 : Int32)), (.ref out)])) rfl rfl (hb hBY d_prog_59_method_13_code_141)
  have N_19 := Fr.snoc X_19 N_14 go
  have K__20 : Keep h0 h_19 [out] := K__15.wr W_19 (Or.inl (List.mem_of_getElem? (i := 0) rfl))
  have f_21 : Arv Z h_19 out k .long (8 : Int32) [(.long ((y0 + c) - lo)), (.long (y1 - hi)), (.long o2), (.long o3), (.long o4), (.long o5), (.long o6), (.long o7)] (.long (0 : Int64)) := Arv.set Ar_17 q_17 S_17 N__17 H_17 G_17 rfl W_19 1 rfl (Nat.le_of_ble_eq_true rfl)
  refine Done.pre st_19 ?_
  show Done _ _ _ _ _ _ _ (T_19.setTop (mkF m 142 #[Rv out, Lv y0, Zs, Lv y1, Zs, Lv y2, Zs, Lv y3, Zs, Lv y4, Zs, Lv y5, Zs, Lv y6, Zs, Lv y7, Zs, Lv c, Zs, Lv lo, Zs, Lv hi, Zs] []))
  have sg_23 : ∀ tt_, Steps p.tables e below (T_19.setTop (mkF m 152 #[Rv out, Lv y0, Zs, Lv y1, Zs, Lv y2, Zs, Lv y3, Zs, Lv y4, Zs, Lv y5, Zs, Lv y6, Zs, Lv y7, Zs, Lv c, Zs, Lv lo, Zs, Lv hi, Zs] [(.long ((y2 + c) + lo)), (.int (2 : Int32)), (.ref out)])) tt_ → Steps p.tables e below (T_19.setTop (mkF m 142 #[Rv out, Lv y0, Zs, Lv y1, Zs, Lv y2, Zs, Lv y3, Zs, Lv y4, Zs, Lv y5, Zs, Lv y6, Zs, Lv y7, Zs, Lv c, Zs, Lv lo, Zs, Lv hi, Zs] [])) tt_ := by
    intro tt_ kt_
    refine XS.aloadN X_19.here hEX rfl (hb hBY d_prog_59_method_13_code_142) rfl rfl ?_
    show Steps p.tables e below (T_19.setTop (mkF m 143 #[Rv out, Lv y0, Zs, Lv y1, Zs, Lv y2, Zs, Lv y3, Zs, Lv y4, Zs, Lv y5, Zs, Lv y6, Zs, Lv y7, Zs, Lv c, Zs, Lv lo, Zs, Lv hi, Zs] [(.ref out)])) tt_
    refine XS.iconst X_19.here hEX rfl (hb hBY d_prog_59_method_13_code_143) ?_
    show Steps p.tables e below (T_19.setTop (mkF m 144 #[Rv out, Lv y0, Zs, Lv y1, Zs, Lv y2, Zs, Lv y3, Zs, Lv y4, Zs, Lv y5, Zs, Lv y6, Zs, Lv y7, Zs, Lv c, Zs, Lv lo, Zs, Lv hi, Zs] [(.int (2 : Int32)), (.ref out)])) tt_
    refine XS.lload X_19.here hEX rfl (hb hBY d_prog_59_method_13_code_144) rfl ?_
    show Steps p.tables e below (T_19.setTop (mkF m 146 #[Rv out, Lv y0, Zs, Lv y1, Zs, Lv y2, Zs, Lv y3, Zs, Lv y4, Zs, Lv y5, Zs, Lv y6, Zs, Lv y7, Zs, Lv c, Zs, Lv lo, Zs, Lv hi, Zs] [(.long y2), (.int (2 : Int32)), (.ref out)])) tt_
    refine XS.lload X_19.here hEX rfl (hb hBY d_prog_59_method_13_code_146) rfl ?_
    show Steps p.tables e below (T_19.setTop (mkF m 148 #[Rv out, Lv y0, Zs, Lv y1, Zs, Lv y2, Zs, Lv y3, Zs, Lv y4, Zs, Lv y5, Zs, Lv y6, Zs, Lv y7, Zs, Lv c, Zs, Lv lo, Zs, Lv hi, Zs] [(.long c), (.long y2), (.int (2 : Int32)), (.ref out)])) tt_
    refine XS.ladd X_19.here hEX rfl (hb hBY d_prog_59_method_13_code_148) rfl ?_
    show Steps p.tables e below (T_19.setTop (mkF m 149 #[Rv out, Lv y0, Zs, Lv y1, Zs, Lv y2, Zs, Lv y3, Zs, Lv y4, Zs, Lv y5, Zs, Lv y6, Zs, Lv y7, Zs, Lv c, Zs, Lv lo, Zs, Lv hi, Zs] [(.long (y2 + c)), (.int (2 : Int32)), (.ref out)])) tt_
    refine XS.lload X_19.here hEX rfl (hb hBY d_prog_59_method_13_code_149) rfl ?_
    show Steps p.tables e below (T_19.setTop (mkF m 151 #[Rv out, Lv y0, Zs, Lv y1, Zs, Lv y2, Zs, Lv y3, Zs, Lv y4, Zs, Lv y5, Zs, Lv y6, Zs, Lv y7, Zs, Lv c, Zs, Lv lo, Zs, Lv hi, Zs] [(.long lo), (.long (y2 + c)), (.int (2 : Int32)), (.ref out)])) tt_
    refine XS.ladd X_19.here hEX rfl (hb hBY d_prog_59_method_13_code_151) rfl ?_
    exact kt_
  refine Done.pre sg_23 ?_
  obtain ⟨cl_22, Ar_22, q_22, S_22, N__22, H_22, G_22⟩ := id f_21
  have hin_22 : ¬ ((2 : Int32) < 0 ∨ cl_22.slots.size ≤ ((2 : Int32)).toNatClampNeg) := inb_of S_22 ⟨by decide, by decide⟩
  obtain ⟨T_24, h_24, X_24, e_24, W_24, st_24⟩ := stJ X_19 hEX hZW e_19 Ar_22 (j := (2 : Int32)) hin_22 (g := (mkF m 152 #[Rv out, Lv y0, Zs, Lv y1, Zs, Lv y2, Zs, Lv y3, Zs, Lv y4, Zs, Lv y5, Zs, Lv y6, Zs, Lv y7, Zs, Lv c, Zs, Lv lo, Zs, Lv hi, Zs] [(.long ((y2 + c) + lo)), (.int (2 : Int32)), (.ref out)])) rfl rfl (hb hBY d_prog_59_method_13_code_152)
  have N_24 := Fr.snoc X_24 N_19 go
  have K__25 : Keep h0 h_24 [out] := K__20.wr W_24 (Or.inl (List.mem_of_getElem? (i := 0) rfl))
  have f_26 : Arv Z h_24 out k .long (8 : Int32) [(.long ((y0 + c) - lo)), (.long (y1 - hi)), (.long ((y2 + c) + lo)), (.long o3), (.long o4), (.long o5), (.long o6), (.long o7)] (.long (0 : Int64)) := Arv.set Ar_22 q_22 S_22 N__22 H_22 G_22 rfl W_24 2 rfl (Nat.le_of_ble_eq_true rfl)
  refine Done.pre st_24 ?_
  show Done _ _ _ _ _ _ _ (T_24.setTop (mkF m 153 #[Rv out, Lv y0, Zs, Lv y1, Zs, Lv y2, Zs, Lv y3, Zs, Lv y4, Zs, Lv y5, Zs, Lv y6, Zs, Lv y7, Zs, Lv c, Zs, Lv lo, Zs, Lv hi, Zs] []))
  have sg_28 : ∀ tt_, Steps p.tables e below (T_24.setTop (mkF m 160 #[Rv out, Lv y0, Zs, Lv y1, Zs, Lv y2, Zs, Lv y3, Zs, Lv y4, Zs, Lv y5, Zs, Lv y6, Zs, Lv y7, Zs, Lv c, Zs, Lv lo, Zs, Lv hi, Zs] [(.long (y3 + hi)), (.int (3 : Int32)), (.ref out)])) tt_ → Steps p.tables e below (T_24.setTop (mkF m 153 #[Rv out, Lv y0, Zs, Lv y1, Zs, Lv y2, Zs, Lv y3, Zs, Lv y4, Zs, Lv y5, Zs, Lv y6, Zs, Lv y7, Zs, Lv c, Zs, Lv lo, Zs, Lv hi, Zs] [])) tt_ := by
    intro tt_ kt_
    refine XS.aloadN X_24.here hEX rfl (hb hBY d_prog_59_method_13_code_153) rfl rfl ?_
    show Steps p.tables e below (T_24.setTop (mkF m 154 #[Rv out, Lv y0, Zs, Lv y1, Zs, Lv y2, Zs, Lv y3, Zs, Lv y4, Zs, Lv y5, Zs, Lv y6, Zs, Lv y7, Zs, Lv c, Zs, Lv lo, Zs, Lv hi, Zs] [(.ref out)])) tt_
    refine XS.iconst X_24.here hEX rfl (hb hBY d_prog_59_method_13_code_154) ?_
    show Steps p.tables e below (T_24.setTop (mkF m 155 #[Rv out, Lv y0, Zs, Lv y1, Zs, Lv y2, Zs, Lv y3, Zs, Lv y4, Zs, Lv y5, Zs, Lv y6, Zs, Lv y7, Zs, Lv c, Zs, Lv lo, Zs, Lv hi, Zs] [(.int (3 : Int32)), (.ref out)])) tt_
    refine XS.lload X_24.here hEX rfl (hb hBY d_prog_59_method_13_code_155) rfl ?_
    show Steps p.tables e below (T_24.setTop (mkF m 157 #[Rv out, Lv y0, Zs, Lv y1, Zs, Lv y2, Zs, Lv y3, Zs, Lv y4, Zs, Lv y5, Zs, Lv y6, Zs, Lv y7, Zs, Lv c, Zs, Lv lo, Zs, Lv hi, Zs] [(.long y3), (.int (3 : Int32)), (.ref out)])) tt_
    refine XS.lload X_24.here hEX rfl (hb hBY d_prog_59_method_13_code_157) rfl ?_
    show Steps p.tables e below (T_24.setTop (mkF m 159 #[Rv out, Lv y0, Zs, Lv y1, Zs, Lv y2, Zs, Lv y3, Zs, Lv y4, Zs, Lv y5, Zs, Lv y6, Zs, Lv y7, Zs, Lv c, Zs, Lv lo, Zs, Lv hi, Zs] [(.long hi), (.long y3), (.int (3 : Int32)), (.ref out)])) tt_
    refine XS.ladd X_24.here hEX rfl (hb hBY d_prog_59_method_13_code_159) rfl ?_
    exact kt_
  refine Done.pre sg_28 ?_
  obtain ⟨cl_27, Ar_27, q_27, S_27, N__27, H_27, G_27⟩ := id f_26
  have hin_27 : ¬ ((3 : Int32) < 0 ∨ cl_27.slots.size ≤ ((3 : Int32)).toNatClampNeg) := inb_of S_27 ⟨by decide, by decide⟩
  obtain ⟨T_29, h_29, X_29, e_29, W_29, st_29⟩ := stJ X_24 hEX hZW e_24 Ar_27 (j := (3 : Int32)) hin_27 (g := (mkF m 160 #[Rv out, Lv y0, Zs, Lv y1, Zs, Lv y2, Zs, Lv y3, Zs, Lv y4, Zs, Lv y5, Zs, Lv y6, Zs, Lv y7, Zs, Lv c, Zs, Lv lo, Zs, Lv hi, Zs] [(.long (y3 + hi)), (.int (3 : Int32)), (.ref out)])) rfl rfl (hb hBY d_prog_59_method_13_code_160)
  have N_29 := Fr.snoc X_29 N_24 go
  have K__30 : Keep h0 h_29 [out] := K__25.wr W_29 (Or.inl (List.mem_of_getElem? (i := 0) rfl))
  have f_31 : Arv Z h_29 out k .long (8 : Int32) [(.long ((y0 + c) - lo)), (.long (y1 - hi)), (.long ((y2 + c) + lo)), (.long (y3 + hi)), (.long o4), (.long o5), (.long o6), (.long o7)] (.long (0 : Int64)) := Arv.set Ar_27 q_27 S_27 N__27 H_27 G_27 rfl W_29 3 rfl (Nat.le_of_ble_eq_true rfl)
  refine Done.pre st_29 ?_
  show Done _ _ _ _ _ _ _ (T_29.setTop (mkF m 161 #[Rv out, Lv y0, Zs, Lv y1, Zs, Lv y2, Zs, Lv y3, Zs, Lv y4, Zs, Lv y5, Zs, Lv y6, Zs, Lv y7, Zs, Lv c, Zs, Lv lo, Zs, Lv hi, Zs] []))
  have sg_33 : ∀ tt_, Steps p.tables e below (T_29.setTop (mkF m 165 #[Rv out, Lv y0, Zs, Lv y1, Zs, Lv y2, Zs, Lv y3, Zs, Lv y4, Zs, Lv y5, Zs, Lv y6, Zs, Lv y7, Zs, Lv c, Zs, Lv lo, Zs, Lv hi, Zs] [(.long y4), (.int (4 : Int32)), (.ref out)])) tt_ → Steps p.tables e below (T_29.setTop (mkF m 161 #[Rv out, Lv y0, Zs, Lv y1, Zs, Lv y2, Zs, Lv y3, Zs, Lv y4, Zs, Lv y5, Zs, Lv y6, Zs, Lv y7, Zs, Lv c, Zs, Lv lo, Zs, Lv hi, Zs] [])) tt_ := by
    intro tt_ kt_
    refine XS.aloadN X_29.here hEX rfl (hb hBY d_prog_59_method_13_code_161) rfl rfl ?_
    show Steps p.tables e below (T_29.setTop (mkF m 162 #[Rv out, Lv y0, Zs, Lv y1, Zs, Lv y2, Zs, Lv y3, Zs, Lv y4, Zs, Lv y5, Zs, Lv y6, Zs, Lv y7, Zs, Lv c, Zs, Lv lo, Zs, Lv hi, Zs] [(.ref out)])) tt_
    refine XS.iconst X_29.here hEX rfl (hb hBY d_prog_59_method_13_code_162) ?_
    show Steps p.tables e below (T_29.setTop (mkF m 163 #[Rv out, Lv y0, Zs, Lv y1, Zs, Lv y2, Zs, Lv y3, Zs, Lv y4, Zs, Lv y5, Zs, Lv y6, Zs, Lv y7, Zs, Lv c, Zs, Lv lo, Zs, Lv hi, Zs] [(.int (4 : Int32)), (.ref out)])) tt_
    refine XS.lload X_29.here hEX rfl (hb hBY d_prog_59_method_13_code_163) rfl ?_
    exact kt_
  refine Done.pre sg_33 ?_
  obtain ⟨cl_32, Ar_32, q_32, S_32, N__32, H_32, G_32⟩ := id f_31
  have hin_32 : ¬ ((4 : Int32) < 0 ∨ cl_32.slots.size ≤ ((4 : Int32)).toNatClampNeg) := inb_of S_32 ⟨by decide, by decide⟩
  obtain ⟨T_34, h_34, X_34, e_34, W_34, st_34⟩ := stJ X_29 hEX hZW e_29 Ar_32 (j := (4 : Int32)) hin_32 (g := (mkF m 165 #[Rv out, Lv y0, Zs, Lv y1, Zs, Lv y2, Zs, Lv y3, Zs, Lv y4, Zs, Lv y5, Zs, Lv y6, Zs, Lv y7, Zs, Lv c, Zs, Lv lo, Zs, Lv hi, Zs] [(.long y4), (.int (4 : Int32)), (.ref out)])) rfl rfl (hb hBY d_prog_59_method_13_code_165)
  have N_34 := Fr.snoc X_34 N_29 go
  have K__35 : Keep h0 h_34 [out] := K__30.wr W_34 (Or.inl (List.mem_of_getElem? (i := 0) rfl))
  have f_36 : Arv Z h_34 out k .long (8 : Int32) [(.long ((y0 + c) - lo)), (.long (y1 - hi)), (.long ((y2 + c) + lo)), (.long (y3 + hi)), (.long y4), (.long o5), (.long o6), (.long o7)] (.long (0 : Int64)) := Arv.set Ar_32 q_32 S_32 N__32 H_32 G_32 rfl W_34 4 rfl (Nat.le_of_ble_eq_true rfl)
  refine Done.pre st_34 ?_
  show Done _ _ _ _ _ _ _ (T_34.setTop (mkF m 166 #[Rv out, Lv y0, Zs, Lv y1, Zs, Lv y2, Zs, Lv y3, Zs, Lv y4, Zs, Lv y5, Zs, Lv y6, Zs, Lv y7, Zs, Lv c, Zs, Lv lo, Zs, Lv hi, Zs] []))
  have sg_38 : ∀ tt_, Steps p.tables e below (T_34.setTop (mkF m 170 #[Rv out, Lv y0, Zs, Lv y1, Zs, Lv y2, Zs, Lv y3, Zs, Lv y4, Zs, Lv y5, Zs, Lv y6, Zs, Lv y7, Zs, Lv c, Zs, Lv lo, Zs, Lv hi, Zs] [(.long y5), (.int (5 : Int32)), (.ref out)])) tt_ → Steps p.tables e below (T_34.setTop (mkF m 166 #[Rv out, Lv y0, Zs, Lv y1, Zs, Lv y2, Zs, Lv y3, Zs, Lv y4, Zs, Lv y5, Zs, Lv y6, Zs, Lv y7, Zs, Lv c, Zs, Lv lo, Zs, Lv hi, Zs] [])) tt_ := by
    intro tt_ kt_
    refine XS.aloadN X_34.here hEX rfl (hb hBY d_prog_59_method_13_code_166) rfl rfl ?_
    show Steps p.tables e below (T_34.setTop (mkF m 167 #[Rv out, Lv y0, Zs, Lv y1, Zs, Lv y2, Zs, Lv y3, Zs, Lv y4, Zs, Lv y5, Zs, Lv y6, Zs, Lv y7, Zs, Lv c, Zs, Lv lo, Zs, Lv hi, Zs] [(.ref out)])) tt_
    refine XS.iconst X_34.here hEX rfl (hb hBY d_prog_59_method_13_code_167) ?_
    show Steps p.tables e below (T_34.setTop (mkF m 168 #[Rv out, Lv y0, Zs, Lv y1, Zs, Lv y2, Zs, Lv y3, Zs, Lv y4, Zs, Lv y5, Zs, Lv y6, Zs, Lv y7, Zs, Lv c, Zs, Lv lo, Zs, Lv hi, Zs] [(.int (5 : Int32)), (.ref out)])) tt_
    refine XS.lload X_34.here hEX rfl (hb hBY d_prog_59_method_13_code_168) rfl ?_
    exact kt_
  refine Done.pre sg_38 ?_
  obtain ⟨cl_37, Ar_37, q_37, S_37, N__37, H_37, G_37⟩ := id f_36
  have hin_37 : ¬ ((5 : Int32) < 0 ∨ cl_37.slots.size ≤ ((5 : Int32)).toNatClampNeg) := inb_of S_37 ⟨by decide, by decide⟩
  obtain ⟨T_39, h_39, X_39, e_39, W_39, st_39⟩ := stJ X_34 hEX hZW e_34 Ar_37 (j := (5 : Int32)) hin_37 (g := (mkF m 170 #[Rv out, Lv y0, Zs, Lv y1, Zs, Lv y2, Zs, Lv y3, Zs, Lv y4, Zs, Lv y5, Zs, Lv y6, Zs, Lv y7, Zs, Lv c, Zs, Lv lo, Zs, Lv hi, Zs] [(.long y5), (.int (5 : Int32)), (.ref out)])) rfl rfl (hb hBY d_prog_59_method_13_code_170)
  have N_39 := Fr.snoc X_39 N_34 go
  have K__40 : Keep h0 h_39 [out] := K__35.wr W_39 (Or.inl (List.mem_of_getElem? (i := 0) rfl))
  have f_41 : Arv Z h_39 out k .long (8 : Int32) [(.long ((y0 + c) - lo)), (.long (y1 - hi)), (.long ((y2 + c) + lo)), (.long (y3 + hi)), (.long y4), (.long y5), (.long o6), (.long o7)] (.long (0 : Int64)) := Arv.set Ar_37 q_37 S_37 N__37 H_37 G_37 rfl W_39 5 rfl (Nat.le_of_ble_eq_true rfl)
  refine Done.pre st_39 ?_
  show Done _ _ _ _ _ _ _ (T_39.setTop (mkF m 171 #[Rv out, Lv y0, Zs, Lv y1, Zs, Lv y2, Zs, Lv y3, Zs, Lv y4, Zs, Lv y5, Zs, Lv y6, Zs, Lv y7, Zs, Lv c, Zs, Lv lo, Zs, Lv hi, Zs] []))
  have sg_43 : ∀ tt_, Steps p.tables e below (T_39.setTop (mkF m 176 #[Rv out, Lv y0, Zs, Lv y1, Zs, Lv y2, Zs, Lv y3, Zs, Lv y4, Zs, Lv y5, Zs, Lv y6, Zs, Lv y7, Zs, Lv c, Zs, Lv lo, Zs, Lv hi, Zs] [(.long y6), (.int (6 : Int32)), (.ref out)])) tt_ → Steps p.tables e below (T_39.setTop (mkF m 171 #[Rv out, Lv y0, Zs, Lv y1, Zs, Lv y2, Zs, Lv y3, Zs, Lv y4, Zs, Lv y5, Zs, Lv y6, Zs, Lv y7, Zs, Lv c, Zs, Lv lo, Zs, Lv hi, Zs] [])) tt_ := by
    intro tt_ kt_
    refine XS.aloadN X_39.here hEX rfl (hb hBY d_prog_59_method_13_code_171) rfl rfl ?_
    show Steps p.tables e below (T_39.setTop (mkF m 172 #[Rv out, Lv y0, Zs, Lv y1, Zs, Lv y2, Zs, Lv y3, Zs, Lv y4, Zs, Lv y5, Zs, Lv y6, Zs, Lv y7, Zs, Lv c, Zs, Lv lo, Zs, Lv hi, Zs] [(.ref out)])) tt_
    refine XS.bipush X_39.here hEX rfl (hb hBY d_prog_59_method_13_code_172) ?_
    show Steps p.tables e below (T_39.setTop (mkF m 174 #[Rv out, Lv y0, Zs, Lv y1, Zs, Lv y2, Zs, Lv y3, Zs, Lv y4, Zs, Lv y5, Zs, Lv y6, Zs, Lv y7, Zs, Lv c, Zs, Lv lo, Zs, Lv hi, Zs] [(.int (6 : Int32)), (.ref out)])) tt_
    refine XS.lload X_39.here hEX rfl (hb hBY d_prog_59_method_13_code_174) rfl ?_
    exact kt_
  refine Done.pre sg_43 ?_
  obtain ⟨cl_42, Ar_42, q_42, S_42, N__42, H_42, G_42⟩ := id f_41
  have hin_42 : ¬ ((6 : Int32) < 0 ∨ cl_42.slots.size ≤ ((6 : Int32)).toNatClampNeg) := inb_of S_42 ⟨by decide, by decide⟩
  obtain ⟨T_44, h_44, X_44, e_44, W_44, st_44⟩ := stJ X_39 hEX hZW e_39 Ar_42 (j := (6 : Int32)) hin_42 (g := (mkF m 176 #[Rv out, Lv y0, Zs, Lv y1, Zs, Lv y2, Zs, Lv y3, Zs, Lv y4, Zs, Lv y5, Zs, Lv y6, Zs, Lv y7, Zs, Lv c, Zs, Lv lo, Zs, Lv hi, Zs] [(.long y6), (.int (6 : Int32)), (.ref out)])) rfl rfl (hb hBY d_prog_59_method_13_code_176)
  have N_44 := Fr.snoc X_44 N_39 go
  have K__45 : Keep h0 h_44 [out] := K__40.wr W_44 (Or.inl (List.mem_of_getElem? (i := 0) rfl))
  have f_46 : Arv Z h_44 out k .long (8 : Int32) [(.long ((y0 + c) - lo)), (.long (y1 - hi)), (.long ((y2 + c) + lo)), (.long (y3 + hi)), (.long y4), (.long y5), (.long y6), (.long o7)] (.long (0 : Int64)) := Arv.set Ar_42 q_42 S_42 N__42 H_42 G_42 rfl W_44 6 rfl (Nat.le_of_ble_eq_true rfl)
  refine Done.pre st_44 ?_
  show Done _ _ _ _ _ _ _ (T_44.setTop (mkF m 177 #[Rv out, Lv y0, Zs, Lv y1, Zs, Lv y2, Zs, Lv y3, Zs, Lv y4, Zs, Lv y5, Zs, Lv y6, Zs, Lv y7, Zs, Lv c, Zs, Lv lo, Zs, Lv hi, Zs] []))
  have sg_48 : ∀ tt_, Steps p.tables e below (T_44.setTop (mkF m 182 #[Rv out, Lv y0, Zs, Lv y1, Zs, Lv y2, Zs, Lv y3, Zs, Lv y4, Zs, Lv y5, Zs, Lv y6, Zs, Lv y7, Zs, Lv c, Zs, Lv lo, Zs, Lv hi, Zs] [(.long y7), (.int (7 : Int32)), (.ref out)])) tt_ → Steps p.tables e below (T_44.setTop (mkF m 177 #[Rv out, Lv y0, Zs, Lv y1, Zs, Lv y2, Zs, Lv y3, Zs, Lv y4, Zs, Lv y5, Zs, Lv y6, Zs, Lv y7, Zs, Lv c, Zs, Lv lo, Zs, Lv hi, Zs] [])) tt_ := by
    intro tt_ kt_
    refine XS.aloadN X_44.here hEX rfl (hb hBY d_prog_59_method_13_code_177) rfl rfl ?_
    show Steps p.tables e below (T_44.setTop (mkF m 178 #[Rv out, Lv y0, Zs, Lv y1, Zs, Lv y2, Zs, Lv y3, Zs, Lv y4, Zs, Lv y5, Zs, Lv y6, Zs, Lv y7, Zs, Lv c, Zs, Lv lo, Zs, Lv hi, Zs] [(.ref out)])) tt_
    refine XS.bipush X_44.here hEX rfl (hb hBY d_prog_59_method_13_code_178) ?_
    show Steps p.tables e below (T_44.setTop (mkF m 180 #[Rv out, Lv y0, Zs, Lv y1, Zs, Lv y2, Zs, Lv y3, Zs, Lv y4, Zs, Lv y5, Zs, Lv y6, Zs, Lv y7, Zs, Lv c, Zs, Lv lo, Zs, Lv hi, Zs] [(.int (7 : Int32)), (.ref out)])) tt_
    refine XS.lload X_44.here hEX rfl (hb hBY d_prog_59_method_13_code_180) rfl ?_
    exact kt_
  refine Done.pre sg_48 ?_
  obtain ⟨cl_47, Ar_47, q_47, S_47, N__47, H_47, G_47⟩ := id f_46
  have hin_47 : ¬ ((7 : Int32) < 0 ∨ cl_47.slots.size ≤ ((7 : Int32)).toNatClampNeg) := inb_of S_47 ⟨by decide, by decide⟩
  obtain ⟨T_49, h_49, X_49, e_49, W_49, st_49⟩ := stJ X_44 hEX hZW e_44 Ar_47 (j := (7 : Int32)) hin_47 (g := (mkF m 182 #[Rv out, Lv y0, Zs, Lv y1, Zs, Lv y2, Zs, Lv y3, Zs, Lv y4, Zs, Lv y5, Zs, Lv y6, Zs, Lv y7, Zs, Lv c, Zs, Lv lo, Zs, Lv hi, Zs] [(.long y7), (.int (7 : Int32)), (.ref out)])) rfl rfl (hb hBY d_prog_59_method_13_code_182)
  have N_49 := Fr.snoc X_49 N_44 go
  have K__50 : Keep h0 h_49 [out] := K__45.wr W_49 (Or.inl (List.mem_of_getElem? (i := 0) rfl))
  have f_51 : Arv Z h_49 out k .long (8 : Int32) [(.long ((y0 + c) - lo)), (.long (y1 - hi)), (.long ((y2 + c) + lo)), (.long (y3 + hi)), (.long y4), (.long y5), (.long y6), (.long y7)] (.long (0 : Int64)) := Arv.set Ar_47 q_47 S_47 N__47 H_47 G_47 rfl W_49 7 rfl (Nat.le_of_ble_eq_true rfl)
  refine Done.pre st_49 ?_
  show Done _ _ _ _ _ _ _ (T_49.setTop (mkF m 183 #[Rv out, Lv y0, Zs, Lv y1, Zs, Lv y2, Zs, Lv y3, Zs, Lv y4, Zs, Lv y5, Zs, Lv y6, Zs, Lv y7, Zs, Lv c, Zs, Lv lo, Zs, Lv hi, Zs] []))
  exact Done.retV X_49 hEX hLK hRT (hb hBY d_prog_59_method_13_code_183) (by rw [e_49]; exact ⟨((y0 + c) - lo), (y1 - hi), ((y2 + c) + lo), (y3 + hi), y4, y5, y6, y7, rfl, N_49, K__50, f_51, (own_store x0 x1 x2 x3 x4 x5 x6 x7 c y7 y6 y5 y4 y3 y2 y1 y0 lo hi hR hc hy7 hy6 hy5 hy4 hy3 hy2 hy1 hy0 hlo hhi).1, (own_store x0 x1 x2 x3 x4 x5 x6 x7 c y7 y6 y5 y4 y3 y2 y1 y0 lo hi hR hc hy7 hy6 hy5 hy4 hy3 hy2 hy1 hy0 hlo hhi).2⟩) (by decide) (by decide)
theorem d_prog_59_method_8_code_0 : decode prog_59_method_8_code 0 = .ok (.aload_n 2, 1) := by decide +kernel
theorem d_prog_59_method_8_code_1 : decode prog_59_method_8_code 1 = .ok (.aload_n 0, 1) := by decide +kernel
theorem d_prog_59_method_8_code_2 : decode prog_59_method_8_code 2 = .ok (.iconst 0, 1) := by decide +kernel
theorem d_prog_59_method_8_code_3 : decode prog_59_method_8_code 3 = .ok (.laload, 1) := by decide +kernel
theorem d_prog_59_method_8_code_4 : decode prog_59_method_8_code 4 = .ok (.aload_n 1, 1) := by decide +kernel
theorem d_prog_59_method_8_code_5 : decode prog_59_method_8_code 5 = .ok (.iconst 0, 1) := by decide +kernel
theorem d_prog_59_method_8_code_6 : decode prog_59_method_8_code 6 = .ok (.laload, 1) := by decide +kernel
theorem d_prog_59_method_8_code_7 : decode prog_59_method_8_code 7 = .ok (.ladd, 1) := by decide +kernel
theorem d_prog_59_method_8_code_8 : decode prog_59_method_8_code 8 = .ok (.aload_n 0, 1) := by decide +kernel
theorem d_prog_59_method_8_code_9 : decode prog_59_method_8_code 9 = .ok (.iconst 1, 1) := by decide +kernel
theorem d_prog_59_method_8_code_10 : decode prog_59_method_8_code 10 = .ok (.laload, 1) := by decide +kernel
theorem d_prog_59_method_8_code_11 : decode prog_59_method_8_code 11 = .ok (.aload_n 1, 1) := by decide +kernel
theorem d_prog_59_method_8_code_12 : decode prog_59_method_8_code 12 = .ok (.iconst 1, 1) := by decide +kernel
theorem d_prog_59_method_8_code_13 : decode prog_59_method_8_code 13 = .ok (.laload, 1) := by decide +kernel
theorem d_prog_59_method_8_code_14 : decode prog_59_method_8_code 14 = .ok (.ladd, 1) := by decide +kernel
theorem d_prog_59_method_8_code_15 : decode prog_59_method_8_code 15 = .ok (.aload_n 0, 1) := by decide +kernel
theorem d_prog_59_method_8_code_16 : decode prog_59_method_8_code 16 = .ok (.iconst 2, 1) := by decide +kernel
theorem d_prog_59_method_8_code_17 : decode prog_59_method_8_code 17 = .ok (.laload, 1) := by decide +kernel
theorem d_prog_59_method_8_code_18 : decode prog_59_method_8_code 18 = .ok (.aload_n 1, 1) := by decide +kernel
theorem d_prog_59_method_8_code_19 : decode prog_59_method_8_code 19 = .ok (.iconst 2, 1) := by decide +kernel
theorem d_prog_59_method_8_code_20 : decode prog_59_method_8_code 20 = .ok (.laload, 1) := by decide +kernel
theorem d_prog_59_method_8_code_21 : decode prog_59_method_8_code 21 = .ok (.ladd, 1) := by decide +kernel
theorem d_prog_59_method_8_code_22 : decode prog_59_method_8_code 22 = .ok (.aload_n 0, 1) := by decide +kernel
theorem d_prog_59_method_8_code_23 : decode prog_59_method_8_code 23 = .ok (.iconst 3, 1) := by decide +kernel
theorem d_prog_59_method_8_code_24 : decode prog_59_method_8_code 24 = .ok (.laload, 1) := by decide +kernel
theorem d_prog_59_method_8_code_25 : decode prog_59_method_8_code 25 = .ok (.aload_n 1, 1) := by decide +kernel
theorem d_prog_59_method_8_code_26 : decode prog_59_method_8_code 26 = .ok (.iconst 3, 1) := by decide +kernel
theorem d_prog_59_method_8_code_27 : decode prog_59_method_8_code 27 = .ok (.laload, 1) := by decide +kernel
theorem d_prog_59_method_8_code_28 : decode prog_59_method_8_code 28 = .ok (.ladd, 1) := by decide +kernel
theorem d_prog_59_method_8_code_29 : decode prog_59_method_8_code 29 = .ok (.aload_n 0, 1) := by decide +kernel
theorem d_prog_59_method_8_code_30 : decode prog_59_method_8_code 30 = .ok (.iconst 4, 1) := by decide +kernel
theorem d_prog_59_method_8_code_31 : decode prog_59_method_8_code 31 = .ok (.laload, 1) := by decide +kernel
theorem d_prog_59_method_8_code_32 : decode prog_59_method_8_code 32 = .ok (.aload_n 1, 1) := by decide +kernel
theorem d_prog_59_method_8_code_33 : decode prog_59_method_8_code 33 = .ok (.iconst 4, 1) := by decide +kernel
theorem d_prog_59_method_8_code_34 : decode prog_59_method_8_code 34 = .ok (.laload, 1) := by decide +kernel
theorem d_prog_59_method_8_code_35 : decode prog_59_method_8_code 35 = .ok (.ladd, 1) := by decide +kernel
theorem d_prog_59_method_8_code_36 : decode prog_59_method_8_code 36 = .ok (.aload_n 0, 1) := by decide +kernel
theorem d_prog_59_method_8_code_37 : decode prog_59_method_8_code 37 = .ok (.iconst 5, 1) := by decide +kernel
theorem d_prog_59_method_8_code_38 : decode prog_59_method_8_code 38 = .ok (.laload, 1) := by decide +kernel
theorem d_prog_59_method_8_code_39 : decode prog_59_method_8_code 39 = .ok (.aload_n 1, 1) := by decide +kernel
theorem d_prog_59_method_8_code_40 : decode prog_59_method_8_code 40 = .ok (.iconst 5, 1) := by decide +kernel
theorem d_prog_59_method_8_code_41 : decode prog_59_method_8_code 41 = .ok (.laload, 1) := by decide +kernel
theorem d_prog_59_method_8_code_42 : decode prog_59_method_8_code 42 = .ok (.ladd, 1) := by decide +kernel
theorem d_prog_59_method_8_code_43 : decode prog_59_method_8_code 43 = .ok (.aload_n 0, 1) := by decide +kernel
theorem d_prog_59_method_8_code_44 : decode prog_59_method_8_code 44 = .ok (.bipush 6, 2) := by decide +kernel
theorem d_prog_59_method_8_code_46 : decode prog_59_method_8_code 46 = .ok (.laload, 1) := by decide +kernel
theorem d_prog_59_method_8_code_47 : decode prog_59_method_8_code 47 = .ok (.aload_n 1, 1) := by decide +kernel
theorem d_prog_59_method_8_code_48 : decode prog_59_method_8_code 48 = .ok (.bipush 6, 2) := by decide +kernel
theorem d_prog_59_method_8_code_50 : decode prog_59_method_8_code 50 = .ok (.laload, 1) := by decide +kernel
theorem d_prog_59_method_8_code_51 : decode prog_59_method_8_code 51 = .ok (.ladd, 1) := by decide +kernel
theorem d_prog_59_method_8_code_52 : decode prog_59_method_8_code 52 = .ok (.aload_n 0, 1) := by decide +kernel
theorem d_prog_59_method_8_code_53 : decode prog_59_method_8_code 53 = .ok (.bipush 7, 2) := by decide +kernel
theorem d_prog_59_method_8_code_55 : decode prog_59_method_8_code 55 = .ok (.laload, 1) := by decide +kernel
theorem d_prog_59_method_8_code_56 : decode prog_59_method_8_code 56 = .ok (.aload_n 1, 1) := by decide +kernel
theorem d_prog_59_method_8_code_57 : decode prog_59_method_8_code 57 = .ok (.bipush 7, 2) := by decide +kernel
theorem d_prog_59_method_8_code_59 : decode prog_59_method_8_code 59 = .ok (.laload, 1) := by decide +kernel
theorem d_prog_59_method_8_code_60 : decode prog_59_method_8_code 60 = .ok (.ladd, 1) := by decide +kernel
theorem d_prog_59_method_8_code_61 : decode prog_59_method_8_code 61 = .ok (.invokestatic 46, 3) := by decide +kernel
theorem pd___JJJJJJJJJ_V_8 : parseMethodDescriptor "([JJJJJJJJJ)V" = some ⟨[(.array .long), .long, .long, .long, .long, .long, .long, .long, .long], none⟩ := by decide +kernel
theorem d_prog_59_method_8_code_64 : decode prog_59_method_8_code 64 = .ok (.return_, 1) := by decide +kernel
def Qrm_add_abo (Z : State) (a : Addr) (b : Addr) (o : Addr) (k_a : ClassId) (u_a_0 : Int64) (u_a_1 : Int64) (u_a_2 : Int64) (u_a_3 : Int64) (u_a_4 : Int64) (u_a_5 : Int64) (u_a_6 : Int64) (u_a_7 : Int64) (k_b : ClassId) (u_b_0 : Int64) (u_b_1 : Int64) (u_b_2 : Int64) (u_b_3 : Int64) (u_b_4 : Int64) (u_b_5 : Int64) (u_b_6 : Int64) (u_b_7 : Int64) (k_o : ClassId) (u_o_0 : Int64) (u_o_1 : Int64) (u_o_2 : Int64) (u_o_3 : Int64) (u_o_4 : Int64) (u_o_5 : Int64) (u_o_6 : Int64) (u_o_7 : Int64) (h0 : Heap) (n0 : Nat) (v_ : Option Value) (h_ : Heap) (L_ : List Loc) : Prop := ∃ (r0 : Int64), ∃ (r1 : Int64), ∃ (r2 : Int64), ∃ (r3 : Int64), ∃ (r4 : Int64), ∃ (r5 : Int64), ∃ (r6 : Int64), ∃ (r7 : Int64), v_ = none ∧ Fr n0 L_ ∧ Keep h0 h_ [o] ∧ Arv Z h_ o k_o .long (8 : Int32) [(.long r0), (.long r1), (.long r2), (.long r3), (.long r4), (.long r5), (.long r6), (.long r7)] (.long (0 : Int64)) ∧ own_R 562949953421440 r0 r1 r2 r3 r4 r5 r6 r7 ∧ own_M ((own_W u_a_0 u_a_1 u_a_2 u_a_3 u_a_4 u_a_5 u_a_6 u_a_7 + own_W u_b_0 u_b_1 u_b_2 u_b_3 u_b_4 u_b_5 u_b_6 u_b_7) - own_W r0 r1 r2 r3 r4 r5 r6 r7)
theorem ef_rm_add_abo (m : MethodId) (x0 : Addr) (x1 : Addr) (x2 : Addr) : entryFrame m #[(.ref x0), (.ref x1), (.ref x2)] 3 = mkF m 0 #[.val (.ref x0), .val (.ref x1), .val (.ref x2)] [] := by first | (simp [entryFrame, mkF, argsToLocals, Value.category]; done) | rfl
set_option maxRecDepth 65536 in
set_option maxHeartbeats 40000000 in
theorem rm_add_abo (l : Launch) (Z : State) (aZ : Array Value) (hw : ∀ d ∈ tables_1, d.before aZ Z = true) (ws : List Jvm.Cond) (a : Addr) (b : Addr) (o : Addr) (k_a : ClassId) (u_a_0 : Int64) (u_a_1 : Int64) (u_a_2 : Int64) (u_a_3 : Int64) (u_a_4 : Int64) (u_a_5 : Int64) (u_a_6 : Int64) (u_a_7 : Int64) (k_b : ClassId) (u_b_0 : Int64) (u_b_1 : Int64) (u_b_2 : Int64) (u_b_3 : Int64) (u_b_4 : Int64) (u_b_5 : Int64) (u_b_6 : Int64) (u_b_7 : Int64) (k_o : ClassId) (u_o_0 : Int64) (u_o_1 : Int64) (u_o_2 : Int64) (u_o_3 : Int64) (u_o_4 : Int64) (u_o_5 : Int64) (u_o_6 : Int64) (u_o_7 : Int64) (h0 : Heap) (n0 : Nat) (Z0 : n0 ≤ h0.size) (A_a : Arv Z h0 a k_a .long (8 : Int32) [(.long u_a_0), (.long u_a_1), (.long u_a_2), (.long u_a_3), (.long u_a_4), (.long u_a_5), (.long u_a_6), (.long u_a_7)] (.long (0 : Int64))) (A_b : Arv Z h0 b k_b .long (8 : Int32) [(.long u_b_0), (.long u_b_1), (.long u_b_2), (.long u_b_3), (.long u_b_4), (.long u_b_5), (.long u_b_6), (.long u_b_7)] (.long (0 : Int64))) (A_o : Arv Z h0 o k_o .long (8 : Int32) [(.long u_o_0), (.long u_o_1), (.long u_o_2), (.long u_o_3), (.long u_o_4), (.long u_o_5), (.long u_o_6), (.long u_o_7)] (.long (0 : Int64))) (go : n0 ≤ o) (ne_a_b : a ≠ b) (ne_a_o : a ≠ o) (ne_b_o : b ≠ o) (hRa : own_R 1125899906842624 u_a_0 u_a_1 u_a_2 u_a_3 u_a_4 u_a_5 u_a_6 u_a_7) (hRb : own_R 1125899906842624 u_b_0 u_b_1 u_b_2 u_b_3 u_b_4 u_b_5 u_b_6 u_b_7) :
    MetFree l (⟨"com/example/guard3/guard3/P384Field", "add", "([J[J[J)V"⟩ : MethodName) (head1 (Jvm.Cond.code (⟨"com/example/guard3/guard3/P384Field", "add", "([J[J[J)V"⟩ : MethodName) prog_59_method_8_code 3 none :: ws) ({ frames := 1, cells := 0, slots := 0, locals := 34 } : Room)) (fun a_ U_ => a_ = #[(.ref a), (.ref b), (.ref o)] ∧ Z.Warmed39 U_.vm ∧ U_.heap = h0) (fun _ _ _ _ _ => True) (fun _ U_ o_ U2_ => ∃ v_ L_, o_ = .returned v_ ∧ Qrm_add_abo Z a b o k_a u_a_0 u_a_1 u_a_2 u_a_3 u_a_4 u_a_5 u_a_6 u_a_7 k_b u_b_0 u_b_1 u_b_2 u_b_3 u_b_4 u_b_5 u_b_6 u_b_7 k_o u_o_0 u_o_1 u_o_2 u_o_3 u_o_4 u_o_5 u_o_6 u_o_7 h0 n0 v_ U2_.heap L_ ∧ FrameEnd U_ o_ U2_ L_ ({ frames := 1, cells := 0, slots := 0, locals := 34 } : Room).cells ({ frames := 1, cells := 0, slots := 0, locals := 34 } : Room).slots) := by
  refine MetFree.of_bodySF (plainFor_of_name pn_com_example_guard3_guard3_P384Field) hisR ?_
  intro p e s m args below meth cO s₁ Bd hml0 hP hK
  obtain ⟨rfl, hZW, hh⟩ := hP
  have hEX := Bd.exec
  have hBY := Bd.bytes
  have hMX : cO.maxLocals = 3 := hml0
  have hOW : s.vm.findClass "com/example/guard3/guard3/P384Field" = some m.cls := findClass_of_methodNamed Bd.named
  have hNM := (name_of_methodNamed Bd.named Bd.method).1
  have hLK := Bd.notSynchronized
  have hRT := Bd.returns
  have X0 : Stand p l e ({ frames := 1, cells := 0, slots := 0, locals := 34 } : Room) s m #[(.ref a), (.ref b), (.ref o)] below meth cO s₁ [] 0 0 := Stand.of_body Bd
  have e0 : s₁.heap = h0 := by rw [← hh, Bd.state]; rfl
  have N0 := Fr.nil n0
  have K0 : Keep h0 h0 [o] := Keep.refl _ _
  show Done p e below s (Qrm_add_abo Z a b o k_a u_a_0 u_a_1 u_a_2 u_a_3 u_a_4 u_a_5 u_a_6 u_a_7 k_b u_b_0 u_b_1 u_b_2 u_b_3 u_b_4 u_b_5 u_b_6 u_b_7 k_o u_o_0 u_o_1 u_o_2 u_o_3 u_o_4 u_o_5 u_o_6 u_o_7 h0 n0) ({ frames := 1, cells := 0, slots := 0, locals := 34 } : Room).cells ({ frames := 1, cells := 0, slots := 0, locals := 34 } : Room).slots (s₁.setTop (entryFrame m #[(.ref a), (.ref b), (.ref o)] 3))
  refine Done.pre (fun t_ k_ => castTop (ef_rm_add_abo m a b o) k_) ?_
  show Done _ _ _ _ _ _ _ (s₁.setTop (mkF m 0 #[Rv a, Rv b, Rv o] []))
  obtain ⟨cl_1, Ar_1, q_1, S_1, N__1, H_1, G_1⟩ := id A_a
  have hin_1 : ¬ ((0 : Int32) < 0 ∨ cl_1.slots.size ≤ ((0 : Int32)).toNatClampNeg) := inb_of S_1 ⟨by decide, by decide⟩
  have hat_1 : cl_1.slots[((0 : Int32)).toNatClampNeg]? = some (.long u_a_0) := H_1.at hin_1 rfl
  obtain ⟨cl_2, Ar_2, q_2, S_2, N__2, H_2, G_2⟩ := id A_b
  have hin_2 : ¬ ((0 : Int32) < 0 ∨ cl_2.slots.size ≤ ((0 : Int32)).toNatClampNeg) := inb_of S_2 ⟨by decide, by decide⟩
  have hat_2 : cl_2.slots[((0 : Int32)).toNatClampNeg]? = some (.long u_b_0) := H_2.at hin_2 rfl
  obtain ⟨cl_3, Ar_3, q_3, S_3, N__3, H_3, G_3⟩ := id A_a
  have hin_3 : ¬ ((1 : Int32) < 0 ∨ cl_3.slots.size ≤ ((1 : Int32)).toNatClampNeg) := inb_of S_3 ⟨by decide, by decide⟩
  have hat_3 : cl_3.slots[((1 : Int32)).toNatClampNeg]? = some (.long u_a_1) := H_3.at hin_3 rfl
  obtain ⟨cl_4, Ar_4, q_4, S_4, N__4, H_4, G_4⟩ := id A_b
  have hin_4 : ¬ ((1 : Int32) < 0 ∨ cl_4.slots.size ≤ ((1 : Int32)).toNatClampNeg) := inb_of S_4 ⟨by decide, by decide⟩
  have hat_4 : cl_4.slots[((1 : Int32)).toNatClampNeg]? = some (.long u_b_1) := H_4.at hin_4 rfl
  obtain ⟨cl_5, Ar_5, q_5, S_5, N__5, H_5, G_5⟩ := id A_a
  have hin_5 : ¬ ((2 : Int32) < 0 ∨ cl_5.slots.size ≤ ((2 : Int32)).toNatClampNeg) := inb_of S_5 ⟨by decide, by decide⟩
  have hat_5 : cl_5.slots[((2 : Int32)).toNatClampNeg]? = some (.long u_a_2) := H_5.at hin_5 rfl
  obtain ⟨cl_6, Ar_6, q_6, S_6, N__6, H_6, G_6⟩ := id A_b
  have hin_6 : ¬ ((2 : Int32) < 0 ∨ cl_6.slots.size ≤ ((2 : Int32)).toNatClampNeg) := inb_of S_6 ⟨by decide, by decide⟩
  have hat_6 : cl_6.slots[((2 : Int32)).toNatClampNeg]? = some (.long u_b_2) := H_6.at hin_6 rfl
  obtain ⟨cl_7, Ar_7, q_7, S_7, N__7, H_7, G_7⟩ := id A_a
  have hin_7 : ¬ ((3 : Int32) < 0 ∨ cl_7.slots.size ≤ ((3 : Int32)).toNatClampNeg) := inb_of S_7 ⟨by decide, by decide⟩
  have hat_7 : cl_7.slots[((3 : Int32)).toNatClampNeg]? = some (.long u_a_3) := H_7.at hin_7 rfl
  obtain ⟨cl_8, Ar_8, q_8, S_8, N__8, H_8, G_8⟩ := id A_b
  have hin_8 : ¬ ((3 : Int32) < 0 ∨ cl_8.slots.size ≤ ((3 : Int32)).toNatClampNeg) := inb_of S_8 ⟨by decide, by decide⟩
  have hat_8 : cl_8.slots[((3 : Int32)).toNatClampNeg]? = some (.long u_b_3) := H_8.at hin_8 rfl
  obtain ⟨cl_9, Ar_9, q_9, S_9, N__9, H_9, G_9⟩ := id A_a
  have hin_9 : ¬ ((4 : Int32) < 0 ∨ cl_9.slots.size ≤ ((4 : Int32)).toNatClampNeg) := inb_of S_9 ⟨by decide, by decide⟩
  have hat_9 : cl_9.slots[((4 : Int32)).toNatClampNeg]? = some (.long u_a_4) := H_9.at hin_9 rfl
  obtain ⟨cl_10, Ar_10, q_10, S_10, N__10, H_10, G_10⟩ := id A_b
  have hin_10 : ¬ ((4 : Int32) < 0 ∨ cl_10.slots.size ≤ ((4 : Int32)).toNatClampNeg) := inb_of S_10 ⟨by decide, by decide⟩
  have hat_10 : cl_10.slots[((4 : Int32)).toNatClampNeg]? = some (.long u_b_4) := H_10.at hin_10 rfl
  obtain ⟨cl_11, Ar_11, q_11, S_11, N__11, H_11, G_11⟩ := id A_a
  have hin_11 : ¬ ((5 : Int32) < 0 ∨ cl_11.slots.size ≤ ((5 : Int32)).toNatClampNeg) := inb_of S_11 ⟨by decide, by decide⟩
  have hat_11 : cl_11.slots[((5 : Int32)).toNatClampNeg]? = some (.long u_a_5) := H_11.at hin_11 rfl
  obtain ⟨cl_12, Ar_12, q_12, S_12, N__12, H_12, G_12⟩ := id A_b
  have hin_12 : ¬ ((5 : Int32) < 0 ∨ cl_12.slots.size ≤ ((5 : Int32)).toNatClampNeg) := inb_of S_12 ⟨by decide, by decide⟩
  have hat_12 : cl_12.slots[((5 : Int32)).toNatClampNeg]? = some (.long u_b_5) := H_12.at hin_12 rfl
  obtain ⟨cl_13, Ar_13, q_13, S_13, N__13, H_13, G_13⟩ := id A_a
  have hin_13 : ¬ ((6 : Int32) < 0 ∨ cl_13.slots.size ≤ ((6 : Int32)).toNatClampNeg) := inb_of S_13 ⟨by decide, by decide⟩
  have hat_13 : cl_13.slots[((6 : Int32)).toNatClampNeg]? = some (.long u_a_6) := H_13.at hin_13 rfl
  obtain ⟨cl_14, Ar_14, q_14, S_14, N__14, H_14, G_14⟩ := id A_b
  have hin_14 : ¬ ((6 : Int32) < 0 ∨ cl_14.slots.size ≤ ((6 : Int32)).toNatClampNeg) := inb_of S_14 ⟨by decide, by decide⟩
  have hat_14 : cl_14.slots[((6 : Int32)).toNatClampNeg]? = some (.long u_b_6) := H_14.at hin_14 rfl
  obtain ⟨cl_15, Ar_15, q_15, S_15, N__15, H_15, G_15⟩ := id A_a
  have hin_15 : ¬ ((7 : Int32) < 0 ∨ cl_15.slots.size ≤ ((7 : Int32)).toNatClampNeg) := inb_of S_15 ⟨by decide, by decide⟩
  have hat_15 : cl_15.slots[((7 : Int32)).toNatClampNeg]? = some (.long u_a_7) := H_15.at hin_15 rfl
  obtain ⟨cl_16, Ar_16, q_16, S_16, N__16, H_16, G_16⟩ := id A_b
  have hin_16 : ¬ ((7 : Int32) < 0 ∨ cl_16.slots.size ≤ ((7 : Int32)).toNatClampNeg) := inb_of S_16 ⟨by decide, by decide⟩
  have hat_16 : cl_16.slots[((7 : Int32)).toNatClampNeg]? = some (.long u_b_7) := H_16.at hin_16 rfl
  have sg_17 : ∀ tt_, Steps p.tables e below (s₁.setTop (mkF m 61 #[Rv a, Rv b, Rv o] [(.long (u_a_7 + u_b_7)), (.long (u_a_6 + u_b_6)), (.long (u_a_5 + u_b_5)), (.long (u_a_4 + u_b_4)), (.long (u_a_3 + u_b_3)), (.long (u_a_2 + u_b_2)), (.long (u_a_1 + u_b_1)), (.long (u_a_0 + u_b_0)), (.ref o)])) tt_ → Steps p.tables e below (s₁.setTop (mkF m 0 #[Rv a, Rv b, Rv o] [])) tt_ := by
    intro tt_ kt_
    refine XS.aloadN X0.here hEX rfl (hb hBY d_prog_59_method_8_code_0) rfl rfl ?_
    show Steps p.tables e below (s₁.setTop (mkF m 1 #[Rv a, Rv b, Rv o] [(.ref o)])) tt_
    refine XS.aloadN X0.here hEX rfl (hb hBY d_prog_59_method_8_code_1) rfl rfl ?_
    show Steps p.tables e below (s₁.setTop (mkF m 2 #[Rv a, Rv b, Rv o] [(.ref a), (.ref o)])) tt_
    refine XS.iconst X0.here hEX rfl (hb hBY d_prog_59_method_8_code_2) ?_
    show Steps p.tables e below (s₁.setTop (mkF m 3 #[Rv a, Rv b, Rv o] [(.int (0 : Int32)), (.ref a), (.ref o)])) tt_
    refine X0.laload hEX (j := (0 : Int32)) (v := (.long u_a_0)) (by rw [e0]; exact Ar_1.1) (State.isArrayOf_alike hZW.alike Ar_1.2.1) Ar_1.2.2 hin_1 hat_1 (g := (mkF m 3 #[Rv a, Rv b, Rv o] [(.int (0 : Int32)), (.ref a), (.ref o)])) rfl rfl (hb hBY d_prog_59_method_8_code_3) _ ?_
    show Steps p.tables e below (s₁.setTop (mkF m 4 #[Rv a, Rv b, Rv o] [(.long u_a_0), (.ref o)])) tt_
    refine XS.aloadN X0.here hEX rfl (hb hBY d_prog_59_method_8_code_4) rfl rfl ?_
    show Steps p.tables e below (s₁.setTop (mkF m 5 #[Rv a, Rv b, Rv o] [(.ref b), (.long u_a_0), (.ref o)])) tt_
    refine XS.iconst X0.here hEX rfl (hb hBY d_prog_59_method_8_code_5) ?_
    show Steps p.tables e below (s₁.setTop (mkF m 6 #[Rv a, Rv b, Rv o] [(.int (0 : Int32)), (.ref b), (.long u_a_0), (.ref o)])) tt_
    refine X0.laload hEX (j := (0 : Int32)) (v := (.long u_b_0)) (by rw [e0]; exact Ar_2.1) (State.isArrayOf_alike hZW.alike Ar_2.2.1) Ar_2.2.2 hin_2 hat_2 (g := (mkF m 6 #[Rv a, Rv b, Rv o] [(.int (0 : Int32)), (.ref b), (.long u_a_0), (.ref o)])) rfl rfl (hb hBY d_prog_59_method_8_code_6) _ ?_
    show Steps p.tables e below (s₁.setTop (mkF m 7 #[Rv a, Rv b, Rv o] [(.long u_b_0), (.long u_a_0), (.ref o)])) tt_
    refine XS.ladd X0.here hEX rfl (hb hBY d_prog_59_method_8_code_7) rfl ?_
    show Steps p.tables e below (s₁.setTop (mkF m 8 #[Rv a, Rv b, Rv o] [(.long (u_a_0 + u_b_0)), (.ref o)])) tt_
    refine XS.aloadN X0.here hEX rfl (hb hBY d_prog_59_method_8_code_8) rfl rfl ?_
    show Steps p.tables e below (s₁.setTop (mkF m 9 #[Rv a, Rv b, Rv o] [(.ref a), (.long (u_a_0 + u_b_0)), (.ref o)])) tt_
    refine XS.iconst X0.here hEX rfl (hb hBY d_prog_59_method_8_code_9) ?_
    show Steps p.tables e below (s₁.setTop (mkF m 10 #[Rv a, Rv b, Rv o] [(.int (1 : Int32)), (.ref a), (.long (u_a_0 + u_b_0)), (.ref o)])) tt_
    refine X0.laload hEX (j := (1 : Int32)) (v := (.long u_a_1)) (by rw [e0]; exact Ar_3.1) (State.isArrayOf_alike hZW.alike Ar_3.2.1) Ar_3.2.2 hin_3 hat_3 (g := (mkF m 10 #[Rv a, Rv b, Rv o] [(.int (1 : Int32)), (.ref a), (.long (u_a_0 + u_b_0)), (.ref o)])) rfl rfl (hb hBY d_prog_59_method_8_code_10) _ ?_
    show Steps p.tables e below (s₁.setTop (mkF m 11 #[Rv a, Rv b, Rv o] [(.long u_a_1), (.long (u_a_0 + u_b_0)), (.ref o)])) tt_
    refine XS.aloadN X0.here hEX rfl (hb hBY d_prog_59_method_8_code_11) rfl rfl ?_
    show Steps p.tables e below (s₁.setTop (mkF m 12 #[Rv a, Rv b, Rv o] [(.ref b), (.long u_a_1), (.long (u_a_0 + u_b_0)), (.ref o)])) tt_
    refine XS.iconst X0.here hEX rfl (hb hBY d_prog_59_method_8_code_12) ?_
    show Steps p.tables e below (s₁.setTop (mkF m 13 #[Rv a, Rv b, Rv o] [(.int (1 : Int32)), (.ref b), (.long u_a_1), (.long (u_a_0 + u_b_0)), (.ref o)])) tt_
    refine X0.laload hEX (j := (1 : Int32)) (v := (.long u_b_1)) (by rw [e0]; exact Ar_4.1) (State.isArrayOf_alike hZW.alike Ar_4.2.1) Ar_4.2.2 hin_4 hat_4 (g := (mkF m 13 #[Rv a, Rv b, Rv o] [(.int (1 : Int32)), (.ref b), (.long u_a_1), (.long (u_a_0 + u_b_0)), (.ref o)])) rfl rfl (hb hBY d_prog_59_method_8_code_13) _ ?_
    show Steps p.tables e below (s₁.setTop (mkF m 14 #[Rv a, Rv b, Rv o] [(.long u_b_1), (.long u_a_1), (.long (u_a_0 + u_b_0)), (.ref o)])) tt_
    refine XS.ladd X0.here hEX rfl (hb hBY d_prog_59_method_8_code_14) rfl ?_
    show Steps p.tables e below (s₁.setTop (mkF m 15 #[Rv a, Rv b, Rv o] [(.long (u_a_1 + u_b_1)), (.long (u_a_0 + u_b_0)), (.ref o)])) tt_
    refine XS.aloadN X0.here hEX rfl (hb hBY d_prog_59_method_8_code_15) rfl rfl ?_
    show Steps p.tables e below (s₁.setTop (mkF m 16 #[Rv a, Rv b, Rv o] [(.ref a), (.long (u_a_1 + u_b_1)), (.long (u_a_0 + u_b_0)), (.ref o)])) tt_
    refine XS.iconst X0.here hEX rfl (hb hBY d_prog_59_method_8_code_16) ?_
    show Steps p.tables e below (s₁.setTop (mkF m 17 #[Rv a, Rv b, Rv o] [(.int (2 : Int32)), (.ref a), (.long (u_a_1 + u_b_1)), (.long (u_a_0 + u_b_0)), (.ref o)])) tt_
    refine X0.laload hEX (j := (2 : Int32)) (v := (.long u_a_2)) (by rw [e0]; exact Ar_5.1) (State.isArrayOf_alike hZW.alike Ar_5.2.1) Ar_5.2.2 hin_5 hat_5 (g := (mkF m 17 #[Rv a, Rv b, Rv o] [(.int (2 : Int32)), (.ref a), (.long (u_a_1 + u_b_1)), (.long (u_a_0 + u_b_0)), (.ref o)])) rfl rfl (hb hBY d_prog_59_method_8_code_17) _ ?_
    show Steps p.tables e below (s₁.setTop (mkF m 18 #[Rv a, Rv b, Rv o] [(.long u_a_2), (.long (u_a_1 + u_b_1)), (.long (u_a_0 + u_b_0)), (.ref o)])) tt_
    refine XS.aloadN X0.here hEX rfl (hb hBY d_prog_59_method_8_code_18) rfl rfl ?_
    show Steps p.tables e below (s₁.setTop (mkF m 19 #[Rv a, Rv b, Rv o] [(.ref b), (.long u_a_2), (.long (u_a_1 + u_b_1)), (.long (u_a_0 + u_b_0)), (.ref o)])) tt_
    refine XS.iconst X0.here hEX rfl (hb hBY d_prog_59_method_8_code_19) ?_
    show Steps p.tables e below (s₁.setTop (mkF m 20 #[Rv a, Rv b, Rv o] [(.int (2 : Int32)), (.ref b), (.long u_a_2), (.long (u_a_1 + u_b_1)), (.long (u_a_0 + u_b_0)), (.ref o)])) tt_
    refine X0.laload hEX (j := (2 : Int32)) (v := (.long u_b_2)) (by rw [e0]; exact Ar_6.1) (State.isArrayOf_alike hZW.alike Ar_6.2.1) Ar_6.2.2 hin_6 hat_6 (g := (mkF m 20 #[Rv a, Rv b, Rv o] [(.int (2 : Int32)), (.ref b), (.long u_a_2), (.long (u_a_1 + u_b_1)), (.long (u_a_0 + u_b_0)), (.ref o)])) rfl rfl (hb hBY d_prog_59_method_8_code_20) _ ?_
    show Steps p.tables e below (s₁.setTop (mkF m 21 #[Rv a, Rv b, Rv o] [(.long u_b_2), (.long u_a_2), (.long (u_a_1 + u_b_1)), (.long (u_a_0 + u_b_0)), (.ref o)])) tt_
    refine XS.ladd X0.here hEX rfl (hb hBY d_prog_59_method_8_code_21) rfl ?_
    show Steps p.tables e below (s₁.setTop (mkF m 22 #[Rv a, Rv b, Rv o] [(.long (u_a_2 + u_b_2)), (.long (u_a_1 + u_b_1)), (.long (u_a_0 + u_b_0)), (.ref o)])) tt_
    refine XS.aloadN X0.here hEX rfl (hb hBY d_prog_59_method_8_code_22) rfl rfl ?_
    show Steps p.tables e below (s₁.setTop (mkF m 23 #[Rv a, Rv b, Rv o] [(.ref a), (.long (u_a_2 + u_b_2)), (.long (u_a_1 + u_b_1)), (.long (u_a_0 + u_b_0)), (.ref o)])) tt_
    refine XS.iconst X0.here hEX rfl (hb hBY d_prog_59_method_8_code_23) ?_
    show Steps p.tables e below (s₁.setTop (mkF m 24 #[Rv a, Rv b, Rv o] [(.int (3 : Int32)), (.ref a), (.long (u_a_2 + u_b_2)), (.long (u_a_1 + u_b_1)), (.long (u_a_0 + u_b_0)), (.ref o)])) tt_
    refine X0.laload hEX (j := (3 : Int32)) (v := (.long u_a_3)) (by rw [e0]; exact Ar_7.1) (State.isArrayOf_alike hZW.alike Ar_7.2.1) Ar_7.2.2 hin_7 hat_7 (g := (mkF m 24 #[Rv a, Rv b, Rv o] [(.int (3 : Int32)), (.ref a), (.long (u_a_2 + u_b_2)), (.long (u_a_1 + u_b_1)), (.long (u_a_0 + u_b_0)), (.ref o)])) rfl rfl (hb hBY d_prog_59_method_8_code_24) _ ?_
    show Steps p.tables e below (s₁.setTop (mkF m 25 #[Rv a, Rv b, Rv o] [(.long u_a_3), (.long (u_a_2 + u_b_2)), (.long (u_a_1 + u_b_1)), (.long (u_a_0 + u_b_0)), (.ref o)])) tt_
    refine XS.aloadN X0.here hEX rfl (hb hBY d_prog_59_method_8_code_25) rfl rfl ?_
    show Steps p.tables e below (s₁.setTop (mkF m 26 #[Rv a, Rv b, Rv o] [(.ref b), (.long u_a_3), (.long (u_a_2 + u_b_2)), (.long (u_a_1 + u_b_1)), (.long (u_a_0 + u_b_0)), (.ref o)])) tt_
    refine XS.iconst X0.here hEX rfl (hb hBY d_prog_59_method_8_code_26) ?_
    show Steps p.tables e below (s₁.setTop (mkF m 27 #[Rv a, Rv b, Rv o] [(.int (3 : Int32)), (.ref b), (.long u_a_3), (.long (u_a_2 + u_b_2)), (.long (u_a_1 + u_b_1)), (.long (u_a_0 + u_b_0)), (.ref o)])) tt_
    refine X0.laload hEX (j := (3 : Int32)) (v := (.long u_b_3)) (by rw [e0]; exact Ar_8.1) (State.isArrayOf_alike hZW.alike Ar_8.2.1) Ar_8.2.2 hin_8 hat_8 (g := (mkF m 27 #[Rv a, Rv b, Rv o] [(.int (3 : Int32)), (.ref b), (.long u_a_3), (.long (u_a_2 + u_b_2)), (.long (u_a_1 + u_b_1)), (.long (u_a_0 + u_b_0)), (.ref o)])) rfl rfl (hb hBY d_prog_59_method_8_code_27) _ ?_
    show Steps p.tables e below (s₁.setTop (mkF m 28 #[Rv a, Rv b, Rv o] [(.long u_b_3), (.long u_a_3), (.long (u_a_2 + u_b_2)), (.long (u_a_1 + u_b_1)), (.long (u_a_0 + u_b_0)), (.ref o)])) tt_
    refine XS.ladd X0.here hEX rfl (hb hBY d_prog_59_method_8_code_28) rfl ?_
    show Steps p.tables e below (s₁.setTop (mkF m 29 #[Rv a, Rv b, Rv o] [(.long (u_a_3 + u_b_3)), (.long (u_a_2 + u_b_2)), (.long (u_a_1 + u_b_1)), (.long (u_a_0 + u_b_0)), (.ref o)])) tt_
    refine XS.aloadN X0.here hEX rfl (hb hBY d_prog_59_method_8_code_29) rfl rfl ?_
    show Steps p.tables e below (s₁.setTop (mkF m 30 #[Rv a, Rv b, Rv o] [(.ref a), (.long (u_a_3 + u_b_3)), (.long (u_a_2 + u_b_2)), (.long (u_a_1 + u_b_1)), (.long (u_a_0 + u_b_0)), (.ref o)])) tt_
    refine XS.iconst X0.here hEX rfl (hb hBY d_prog_59_method_8_code_30) ?_
    show Steps p.tables e below (s₁.setTop (mkF m 31 #[Rv a, Rv b, Rv o] [(.int (4 : Int32)), (.ref a), (.long (u_a_3 + u_b_3)), (.long (u_a_2 + u_b_2)), (.long (u_a_1 + u_b_1)), (.long (u_a_0 + u_b_0)), (.ref o)])) tt_
    refine X0.laload hEX (j := (4 : Int32)) (v := (.long u_a_4)) (by rw [e0]; exact Ar_9.1) (State.isArrayOf_alike hZW.alike Ar_9.2.1) Ar_9.2.2 hin_9 hat_9 (g := (mkF m 31 #[Rv a, Rv b, Rv o] [(.int (4 : Int32)), (.ref a), (.long (u_a_3 + u_b_3)), (.long (u_a_2 + u_b_2)), (.long (u_a_1 + u_b_1)), (.long (u_a_0 + u_b_0)), (.ref o)])) rfl rfl (hb hBY d_prog_59_method_8_code_31) _ ?_
    show Steps p.tables e below (s₁.setTop (mkF m 32 #[Rv a, Rv b, Rv o] [(.long u_a_4), (.long (u_a_3 + u_b_3)), (.long (u_a_2 + u_b_2)), (.long (u_a_1 + u_b_1)), (.long (u_a_0 + u_b_0)), (.ref o)])) tt_
    refine XS.aloadN X0.here hEX rfl (hb hBY d_prog_59_method_8_code_32) rfl rfl ?_
    show Steps p.tables e below (s₁.setTop (mkF m 33 #[Rv a, Rv b, Rv o] [(.ref b), (.long u_a_4), (.long (u_a_3 + u_b_3)), (.long (u_a_2 + u_b_2)), (.long (u_a_1 + u_b_1)), (.long (u_a_0 + u_b_0)), (.ref o)])) tt_
    refine XS.iconst X0.here hEX rfl (hb hBY d_prog_59_method_8_code_33) ?_
    show Steps p.tables e below (s₁.setTop (mkF m 34 #[Rv a, Rv b, Rv o] [(.int (4 : Int32)), (.ref b), (.long u_a_4), (.long (u_a_3 + u_b_3)), (.long (u_a_2 + u_b_2)), (.long (u_a_1 + u_b_1)), (.long (u_a_0 + u_b_0)), (.ref o)])) tt_
    refine X0.laload hEX (j := (4 : Int32)) (v := (.long u_b_4)) (by rw [e0]; exact Ar_10.1) (State.isArrayOf_alike hZW.alike Ar_10.2.1) Ar_10.2.2 hin_10 hat_10 (g := (mkF m 34 #[Rv a, Rv b, Rv o] [(.int (4 : Int32)), (.ref b), (.long u_a_4), (.long (u_a_3 + u_b_3)), (.long (u_a_2 + u_b_2)), (.long (u_a_1 + u_b_1)), (.long (u_a_0 + u_b_0)), (.ref o)])) rfl rfl (hb hBY d_prog_59_method_8_code_34) _ ?_
    show Steps p.tables e below (s₁.setTop (mkF m 35 #[Rv a, Rv b, Rv o] [(.long u_b_4), (.long u_a_4), (.long (u_a_3 + u_b_3)), (.long (u_a_2 + u_b_2)), (.long (u_a_1 + u_b_1)), (.long (u_a_0 + u_b_0)), (.ref o)])) tt_
    refine XS.ladd X0.here hEX rfl (hb hBY d_prog_59_method_8_code_35) rfl ?_
    show Steps p.tables e below (s₁.setTop (mkF m 36 #[Rv a, Rv b, Rv o] [(.long (u_a_4 + u_b_4)), (.long (u_a_3 + u_b_3)), (.long (u_a_2 + u_b_2)), (.long (u_a_1 + u_b_1)), (.long (u_a_0 + u_b_0)), (.ref o)])) tt_
    refine XS.aloadN X0.here hEX rfl (hb hBY d_prog_59_method_8_code_36) rfl rfl ?_
    show Steps p.tables e below (s₁.setTop (mkF m 37 #[Rv a, Rv b, Rv o] [(.ref a), (.long (u_a_4 + u_b_4)), (.long (u_a_3 + u_b_3)), (.long (u_a_2 + u_b_2)), (.long (u_a_1 + u_b_1)), (.long (u_a_0 + u_b_0)), (.ref o)])) tt_
    refine XS.iconst X0.here hEX rfl (hb hBY d_prog_59_method_8_code_37) ?_
    show Steps p.tables e below (s₁.setTop (mkF m 38 #[Rv a, Rv b, Rv o] [(.int (5 : Int32)), (.ref a), (.long (u_a_4 + u_b_4)), (.long (u_a_3 + u_b_3)), (.long (u_a_2 + u_b_2)), (.long (u_a_1 + u_b_1)), (.long (u_a_0 + u_b_0)), (.ref o)])) tt_
    refine X0.laload hEX (j := (5 : Int32)) (v := (.long u_a_5)) (by rw [e0]; exact Ar_11.1) (State.isArrayOf_alike hZW.alike Ar_11.2.1) Ar_11.2.2 hin_11 hat_11 (g := (mkF m 38 #[Rv a, Rv b, Rv o] [(.int (5 : Int32)), (.ref a), (.long (u_a_4 + u_b_4)), (.long (u_a_3 + u_b_3)), (.long (u_a_2 + u_b_2)), (.long (u_a_1 + u_b_1)), (.long (u_a_0 + u_b_0)), (.ref o)])) rfl rfl (hb hBY d_prog_59_method_8_code_38) _ ?_
    show Steps p.tables e below (s₁.setTop (mkF m 39 #[Rv a, Rv b, Rv o] [(.long u_a_5), (.long (u_a_4 + u_b_4)), (.long (u_a_3 + u_b_3)), (.long (u_a_2 + u_b_2)), (.long (u_a_1 + u_b_1)), (.long (u_a_0 + u_b_0)), (.ref o)])) tt_
    refine XS.aloadN X0.here hEX rfl (hb hBY d_prog_59_method_8_code_39) rfl rfl ?_
    show Steps p.tables e below (s₁.setTop (mkF m 40 #[Rv a, Rv b, Rv o] [(.ref b), (.long u_a_5), (.long (u_a_4 + u_b_4)), (.long (u_a_3 + u_b_3)), (.long (u_a_2 + u_b_2)), (.long (u_a_1 + u_b_1)), (.long (u_a_0 + u_b_0)), (.ref o)])) tt_
    refine XS.iconst X0.here hEX rfl (hb hBY d_prog_59_method_8_code_40) ?_
    show Steps p.tables e below (s₁.setTop (mkF m 41 #[Rv a, Rv b, Rv o] [(.int (5 : Int32)), (.ref b), (.long u_a_5), (.long (u_a_4 + u_b_4)), (.long (u_a_3 + u_b_3)), (.long (u_a_2 + u_b_2)), (.long (u_a_1 + u_b_1)), (.long (u_a_0 + u_b_0)), (.ref o)])) tt_
    refine X0.laload hEX (j := (5 : Int32)) (v := (.long u_b_5)) (by rw [e0]; exact Ar_12.1) (State.isArrayOf_alike hZW.alike Ar_12.2.1) Ar_12.2.2 hin_12 hat_12 (g := (mkF m 41 #[Rv a, Rv b, Rv o] [(.int (5 : Int32)), (.ref b), (.long u_a_5), (.long (u_a_4 + u_b_4)), (.long (u_a_3 + u_b_3)), (.long (u_a_2 + u_b_2)), (.long (u_a_1 + u_b_1)), (.long (u_a_0 + u_b_0)), (.ref o)])) rfl rfl (hb hBY d_prog_59_method_8_code_41) _ ?_
    show Steps p.tables e below (s₁.setTop (mkF m 42 #[Rv a, Rv b, Rv o] [(.long u_b_5), (.long u_a_5), (.long (u_a_4 + u_b_4)), (.long (u_a_3 + u_b_3)), (.long (u_a_2 + u_b_2)), (.long (u_a_1 + u_b_1)), (.long (u_a_0 + u_b_0)), (.ref o)])) tt_
    refine XS.ladd X0.here hEX rfl (hb hBY d_prog_59_method_8_code_42) rfl ?_
    show Steps p.tables e below (s₁.setTop (mkF m 43 #[Rv a, Rv b, Rv o] [(.long (u_a_5 + u_b_5)), (.long (u_a_4 + u_b_4)), (.long (u_a_3 + u_b_3)), (.long (u_a_2 + u_b_2)), (.long (u_a_1 + u_b_1)), (.long (u_a_0 + u_b_0)), (.ref o)])) tt_
    refine XS.aloadN X0.here hEX rfl (hb hBY d_prog_59_method_8_code_43) rfl rfl ?_
    show Steps p.tables e below (s₁.setTop (mkF m 44 #[Rv a, Rv b, Rv o] [(.ref a), (.long (u_a_5 + u_b_5)), (.long (u_a_4 + u_b_4)), (.long (u_a_3 + u_b_3)), (.long (u_a_2 + u_b_2)), (.long (u_a_1 + u_b_1)), (.long (u_a_0 + u_b_0)), (.ref o)])) tt_
    refine XS.bipush X0.here hEX rfl (hb hBY d_prog_59_method_8_code_44) ?_
    show Steps p.tables e below (s₁.setTop (mkF m 46 #[Rv a, Rv b, Rv o] [(.int (6 : Int32)), (.ref a), (.long (u_a_5 + u_b_5)), (.long (u_a_4 + u_b_4)), (.long (u_a_3 + u_b_3)), (.long (u_a_2 + u_b_2)), (.long (u_a_1 + u_b_1)), (.long (u_a_0 + u_b_0)), (.ref o)])) tt_
    refine X0.laload hEX (j := (6 : Int32)) (v := (.long u_a_6)) (by rw [e0]; exact Ar_13.1) (State.isArrayOf_alike hZW.alike Ar_13.2.1) Ar_13.2.2 hin_13 hat_13 (g := (mkF m 46 #[Rv a, Rv b, Rv o] [(.int (6 : Int32)), (.ref a), (.long (u_a_5 + u_b_5)), (.long (u_a_4 + u_b_4)), (.long (u_a_3 + u_b_3)), (.long (u_a_2 + u_b_2)), (.long (u_a_1 + u_b_1)), (.long (u_a_0 + u_b_0)), (.ref o)])) rfl rfl (hb hBY d_prog_59_method_8_code_46) _ ?_
    show Steps p.tables e below (s₁.setTop (mkF m 47 #[Rv a, Rv b, Rv o] [(.long u_a_6), (.long (u_a_5 + u_b_5)), (.long (u_a_4 + u_b_4)), (.long (u_a_3 + u_b_3)), (.long (u_a_2 + u_b_2)), (.long (u_a_1 + u_b_1)), (.long (u_a_0 + u_b_0)), (.ref o)])) tt_
    refine XS.aloadN X0.here hEX rfl (hb hBY d_prog_59_method_8_code_47) rfl rfl ?_
    show Steps p.tables e below (s₁.setTop (mkF m 48 #[Rv a, Rv b, Rv o] [(.ref b), (.long u_a_6), (.long (u_a_5 + u_b_5)), (.long (u_a_4 + u_b_4)), (.long (u_a_3 + u_b_3)), (.long (u_a_2 + u_b_2)), (.long (u_a_1 + u_b_1)), (.long (u_a_0 + u_b_0)), (.ref o)])) tt_
    refine XS.bipush X0.here hEX rfl (hb hBY d_prog_59_method_8_code_48) ?_
    show Steps p.tables e below (s₁.setTop (mkF m 50 #[Rv a, Rv b, Rv o] [(.int (6 : Int32)), (.ref b), (.long u_a_6), (.long (u_a_5 + u_b_5)), (.long (u_a_4 + u_b_4)), (.long (u_a_3 + u_b_3)), (.long (u_a_2 + u_b_2)), (.long (u_a_1 + u_b_1)), (.long (u_a_0 + u_b_0)), (.ref o)])) tt_
    refine X0.laload hEX (j := (6 : Int32)) (v := (.long u_b_6)) (by rw [e0]; exact Ar_14.1) (State.isArrayOf_alike hZW.alike Ar_14.2.1) Ar_14.2.2 hin_14 hat_14 (g := (mkF m 50 #[Rv a, Rv b, Rv o] [(.int (6 : Int32)), (.ref b), (.long u_a_6), (.long (u_a_5 + u_b_5)), (.long (u_a_4 + u_b_4)), (.long (u_a_3 + u_b_3)), (.long (u_a_2 + u_b_2)), (.long (u_a_1 + u_b_1)), (.long (u_a_0 + u_b_0)), (.ref o)])) rfl rfl (hb hBY d_prog_59_method_8_code_50) _ ?_
    show Steps p.tables e below (s₁.setTop (mkF m 51 #[Rv a, Rv b, Rv o] [(.long u_b_6), (.long u_a_6), (.long (u_a_5 + u_b_5)), (.long (u_a_4 + u_b_4)), (.long (u_a_3 + u_b_3)), (.long (u_a_2 + u_b_2)), (.long (u_a_1 + u_b_1)), (.long (u_a_0 + u_b_0)), (.ref o)])) tt_
    refine XS.ladd X0.here hEX rfl (hb hBY d_prog_59_method_8_code_51) rfl ?_
    show Steps p.tables e below (s₁.setTop (mkF m 52 #[Rv a, Rv b, Rv o] [(.long (u_a_6 + u_b_6)), (.long (u_a_5 + u_b_5)), (.long (u_a_4 + u_b_4)), (.long (u_a_3 + u_b_3)), (.long (u_a_2 + u_b_2)), (.long (u_a_1 + u_b_1)), (.long (u_a_0 + u_b_0)), (.ref o)])) tt_
    refine XS.aloadN X0.here hEX rfl (hb hBY d_prog_59_method_8_code_52) rfl rfl ?_
    show Steps p.tables e below (s₁.setTop (mkF m 53 #[Rv a, Rv b, Rv o] [(.ref a), (.long (u_a_6 + u_b_6)), (.long (u_a_5 + u_b_5)), (.long (u_a_4 + u_b_4)), (.long (u_a_3 + u_b_3)), (.long (u_a_2 + u_b_2)), (.long (u_a_1 + u_b_1)), (.long (u_a_0 + u_b_0)), (.ref o)])) tt_
    refine XS.bipush X0.here hEX rfl (hb hBY d_prog_59_method_8_code_53) ?_
    show Steps p.tables e below (s₁.setTop (mkF m 55 #[Rv a, Rv b, Rv o] [(.int (7 : Int32)), (.ref a), (.long (u_a_6 + u_b_6)), (.long (u_a_5 + u_b_5)), (.long (u_a_4 + u_b_4)), (.long (u_a_3 + u_b_3)), (.long (u_a_2 + u_b_2)), (.long (u_a_1 + u_b_1)), (.long (u_a_0 + u_b_0)), (.ref o)])) tt_
    refine X0.laload hEX (j := (7 : Int32)) (v := (.long u_a_7)) (by rw [e0]; exact Ar_15.1) (State.isArrayOf_alike hZW.alike Ar_15.2.1) Ar_15.2.2 hin_15 hat_15 (g := (mkF m 55 #[Rv a, Rv b, Rv o] [(.int (7 : Int32)), (.ref a), (.long (u_a_6 + u_b_6)), (.long (u_a_5 + u_b_5)), (.long (u_a_4 + u_b_4)), (.long (u_a_3 + u_b_3)), (.long (u_a_2 + u_b_2)), (.long (u_a_1 + u_b_1)), (.long (u_a_0 + u_b_0)), (.ref o)])) rfl rfl (hb hBY d_prog_59_method_8_code_55) _ ?_
    show Steps p.tables e below (s₁.setTop (mkF m 56 #[Rv a, Rv b, Rv o] [(.long u_a_7), (.long (u_a_6 + u_b_6)), (.long (u_a_5 + u_b_5)), (.long (u_a_4 + u_b_4)), (.long (u_a_3 + u_b_3)), (.long (u_a_2 + u_b_2)), (.long (u_a_1 + u_b_1)), (.long (u_a_0 + u_b_0)), (.ref o)])) tt_
    refine XS.aloadN X0.here hEX rfl (hb hBY d_prog_59_method_8_code_56) rfl rfl ?_
    show Steps p.tables e below (s₁.setTop (mkF m 57 #[Rv a, Rv b, Rv o] [(.ref b), (.long u_a_7), (.long (u_a_6 + u_b_6)), (.long (u_a_5 + u_b_5)), (.long (u_a_4 + u_b_4)), (.long (u_a_3 + u_b_3)), (.long (u_a_2 + u_b_2)), (.long (u_a_1 + u_b_1)), (.long (u_a_0 + u_b_0)), (.ref o)])) tt_
    refine XS.bipush X0.here hEX rfl (hb hBY d_prog_59_method_8_code_57) ?_
    show Steps p.tables e below (s₁.setTop (mkF m 59 #[Rv a, Rv b, Rv o] [(.int (7 : Int32)), (.ref b), (.long u_a_7), (.long (u_a_6 + u_b_6)), (.long (u_a_5 + u_b_5)), (.long (u_a_4 + u_b_4)), (.long (u_a_3 + u_b_3)), (.long (u_a_2 + u_b_2)), (.long (u_a_1 + u_b_1)), (.long (u_a_0 + u_b_0)), (.ref o)])) tt_
    refine X0.laload hEX (j := (7 : Int32)) (v := (.long u_b_7)) (by rw [e0]; exact Ar_16.1) (State.isArrayOf_alike hZW.alike Ar_16.2.1) Ar_16.2.2 hin_16 hat_16 (g := (mkF m 59 #[Rv a, Rv b, Rv o] [(.int (7 : Int32)), (.ref b), (.long u_a_7), (.long (u_a_6 + u_b_6)), (.long (u_a_5 + u_b_5)), (.long (u_a_4 + u_b_4)), (.long (u_a_3 + u_b_3)), (.long (u_a_2 + u_b_2)), (.long (u_a_1 + u_b_1)), (.long (u_a_0 + u_b_0)), (.ref o)])) rfl rfl (hb hBY d_prog_59_method_8_code_59) _ ?_
    show Steps p.tables e below (s₁.setTop (mkF m 60 #[Rv a, Rv b, Rv o] [(.long u_b_7), (.long u_a_7), (.long (u_a_6 + u_b_6)), (.long (u_a_5 + u_b_5)), (.long (u_a_4 + u_b_4)), (.long (u_a_3 + u_b_3)), (.long (u_a_2 + u_b_2)), (.long (u_a_1 + u_b_1)), (.long (u_a_0 + u_b_0)), (.ref o)])) tt_
    refine XS.ladd X0.here hEX rfl (hb hBY d_prog_59_method_8_code_60) rfl ?_
    exact kt_
  refine Done.pre sg_17 ?_
  obtain ⟨_, _, ⟨T_18, L_18, k_18, n_18⟩, -, X_18, ⟨Lc_18, hQ_18, l_18, y_18, z_18⟩, st_18⟩ := Jvm.LawKit.callS X0 hEX (y := (⟨"com/example/guard3/guard3/P384Field", "store", "([JJJJJJJJJ)V"⟩ : MethodName)) hOW (mvT hZW (hw _ (List.mem_of_getElem? (i := 14) rfl))) (mvT hZW (hw _ (List.mem_of_getElem? (i := 15) rfl))) (mvT hZW (hw _ (List.mem_of_getElem? (i := 12) rfl))) (mvT hZW (hw _ (List.mem_of_getElem? (i := 16) rfl))) (by decide) (backOf (W := 0) (rm_store l Z aZ hw [] o (u_a_0 + u_b_0) (u_a_1 + u_b_1) (u_a_2 + u_b_2) (u_a_3 + u_b_3) (u_a_4 + u_b_4) (u_a_5 + u_b_5) (u_a_6 + u_b_6) (u_a_7 + u_b_7) k_o u_o_0 u_o_1 u_o_2 u_o_3 u_o_4 u_o_5 u_o_6 u_o_7 h0 n0 (Nat.le_trans Z0 K0.1) A_o go (own_Rup _ _ _ _ _ _ _ _ _ _ (by decide) (own_addb 1125899906842624 (by decide) u_a_0 u_a_1 u_a_2 u_a_3 u_a_4 u_a_5 u_a_6 u_a_7 u_b_0 u_b_1 u_b_2 u_b_3 u_b_4 u_b_5 u_b_6 u_b_7 hRa hRb).1)) hZW (hw _ (List.mem_of_getElem? (i := 16) rfl)) (hw _ (List.mem_of_getElem? (i := 12) rfl)) (by decide) (by decide)) (g := (mkF m 61 #[Rv a, Rv b, Rv o] [(.long (u_a_7 + u_b_7)), (.long (u_a_6 + u_b_6)), (.long (u_a_5 + u_b_5)), (.long (u_a_4 + u_b_4)), (.long (u_a_3 + u_b_3)), (.long (u_a_2 + u_b_2)), (.long (u_a_1 + u_b_1)), (.long (u_a_0 + u_b_0)), (.ref o)])) rfl (by rw [hMX]; rfl) (argsL := [(.ref o), (.long (u_a_0 + u_b_0)), (.long (u_a_1 + u_b_1)), (.long (u_a_2 + u_b_2)), (.long (u_a_3 + u_b_3)), (.long (u_a_4 + u_b_4)), (.long (u_a_5 + u_b_5)), (.long (u_a_6 + u_b_6)), (.long (u_a_7 + u_b_7))]) (rest := []) (lenOf pd___JJJJJJJJJ_V_8 rfl) rfl (by show 2 * 0 + _ ≤ _; exact Nat.le_of_eq rfl) (hb hBY d_prog_59_method_8_code_61) (fun _ _ => ⟨rfl, e0, (by decide : 0 + 0 ≤ _), (by decide : 0 + 0 ≤ _)⟩)
  dsimp only [Pt.U, Pt.locs, Pt.cells, Pt.slots] at X_18 l_18 y_18 z_18 st_18 hQ_18
  subst l_18 y_18 z_18
  obtain ⟨r0__18, r1__18, r2__18, r3__18, r4__18, r5__18, r6__18, r7__18, rfl, N_18q, K_18, hq_18_0, hq_18_1, hq_18_2⟩ := hQ_18
  have N_18 := Fr.app N0 N_18q
  have K__19 : Keep h0 T_18.heap [o] := K0.trans K_18 (allS (Or.inl (List.mem_of_getElem? (i := 0) rfl)) all0)
  have f_20 : Arv Z T_18.heap a k_a .long (8 : Int32) [(.long u_a_0), (.long u_a_1), (.long u_a_2), (.long u_a_3), (.long u_a_4), (.long u_a_5), (.long u_a_6), (.long u_a_7)] (.long (0 : Int64)) := A_a.keep K_18 (ninS ne_a_o nin0)
  have f_21 : Arv Z T_18.heap b k_b .long (8 : Int32) [(.long u_b_0), (.long u_b_1), (.long u_b_2), (.long u_b_3), (.long u_b_4), (.long u_b_5), (.long u_b_6), (.long u_b_7)] (.long (0 : Int64)) := A_b.keep K_18 (ninS ne_b_o nin0)
  refine Done.pre (fun _ k_ => st_18 _ k_) ?_
  show Done _ _ _ _ _ _ _ (T_18.setTop (mkF m 64 #[Rv a, Rv b, Rv o] []))
  exact Done.retV X_18 hEX hLK hRT (hb hBY d_prog_59_method_8_code_64) (by exact ⟨r0__18, r1__18, r2__18, r3__18, r4__18, r5__18, r6__18, r7__18, rfl, N_18, K__19, hq_18_0, hq_18_1, (by have q := hq_18_2; rw [(own_addb 1125899906842624 (by decide) u_a_0 u_a_1 u_a_2 u_a_3 u_a_4 u_a_5 u_a_6 u_a_7 u_b_0 u_b_1 u_b_2 u_b_3 u_b_4 u_b_5 u_b_6 u_b_7 hRa hRb).2] at q; exact q)⟩) (by decide) (by decide)
theorem d_prog_59_method_9_code_0 : decode prog_59_method_9_code 0 = .ok (.aload_n 2, 1) := by decide +kernel
theorem d_prog_59_method_9_code_1 : decode prog_59_method_9_code 1 = .ok (.aload_n 0, 1) := by decide +kernel
theorem d_prog_59_method_9_code_2 : decode prog_59_method_9_code 2 = .ok (.iconst 0, 1) := by decide +kernel
theorem d_prog_59_method_9_code_3 : decode prog_59_method_9_code 3 = .ok (.laload, 1) := by decide +kernel
theorem d_prog_59_method_9_code_4 : decode prog_59_method_9_code 4 = .ok (.aload_n 1, 1) := by decide +kernel
theorem d_prog_59_method_9_code_5 : decode prog_59_method_9_code 5 = .ok (.iconst 0, 1) := by decide +kernel
theorem d_prog_59_method_9_code_6 : decode prog_59_method_9_code 6 = .ok (.laload, 1) := by decide +kernel
theorem d_prog_59_method_9_code_7 : decode prog_59_method_9_code 7 = .ok (.lsub, 1) := by decide +kernel
theorem d_prog_59_method_9_code_8 : decode prog_59_method_9_code 8 = .ok (.aload_n 0, 1) := by decide +kernel
theorem d_prog_59_method_9_code_9 : decode prog_59_method_9_code 9 = .ok (.iconst 1, 1) := by decide +kernel
theorem d_prog_59_method_9_code_10 : decode prog_59_method_9_code 10 = .ok (.laload, 1) := by decide +kernel
theorem d_prog_59_method_9_code_11 : decode prog_59_method_9_code 11 = .ok (.aload_n 1, 1) := by decide +kernel
theorem d_prog_59_method_9_code_12 : decode prog_59_method_9_code 12 = .ok (.iconst 1, 1) := by decide +kernel
theorem d_prog_59_method_9_code_13 : decode prog_59_method_9_code 13 = .ok (.laload, 1) := by decide +kernel
theorem d_prog_59_method_9_code_14 : decode prog_59_method_9_code 14 = .ok (.lsub, 1) := by decide +kernel
theorem d_prog_59_method_9_code_15 : decode prog_59_method_9_code 15 = .ok (.aload_n 0, 1) := by decide +kernel
theorem d_prog_59_method_9_code_16 : decode prog_59_method_9_code 16 = .ok (.iconst 2, 1) := by decide +kernel
theorem d_prog_59_method_9_code_17 : decode prog_59_method_9_code 17 = .ok (.laload, 1) := by decide +kernel
theorem d_prog_59_method_9_code_18 : decode prog_59_method_9_code 18 = .ok (.aload_n 1, 1) := by decide +kernel
theorem d_prog_59_method_9_code_19 : decode prog_59_method_9_code 19 = .ok (.iconst 2, 1) := by decide +kernel
theorem d_prog_59_method_9_code_20 : decode prog_59_method_9_code 20 = .ok (.laload, 1) := by decide +kernel
theorem d_prog_59_method_9_code_21 : decode prog_59_method_9_code 21 = .ok (.lsub, 1) := by decide +kernel
theorem d_prog_59_method_9_code_22 : decode prog_59_method_9_code 22 = .ok (.aload_n 0, 1) := by decide +kernel
theorem d_prog_59_method_9_code_23 : decode prog_59_method_9_code 23 = .ok (.iconst 3, 1) := by decide +kernel
theorem d_prog_59_method_9_code_24 : decode prog_59_method_9_code 24 = .ok (.laload, 1) := by decide +kernel
theorem d_prog_59_method_9_code_25 : decode prog_59_method_9_code 25 = .ok (.aload_n 1, 1) := by decide +kernel
theorem d_prog_59_method_9_code_26 : decode prog_59_method_9_code 26 = .ok (.iconst 3, 1) := by decide +kernel
theorem d_prog_59_method_9_code_27 : decode prog_59_method_9_code 27 = .ok (.laload, 1) := by decide +kernel
theorem d_prog_59_method_9_code_28 : decode prog_59_method_9_code 28 = .ok (.lsub, 1) := by decide +kernel
theorem d_prog_59_method_9_code_29 : decode prog_59_method_9_code 29 = .ok (.aload_n 0, 1) := by decide +kernel
theorem d_prog_59_method_9_code_30 : decode prog_59_method_9_code 30 = .ok (.iconst 4, 1) := by decide +kernel
theorem d_prog_59_method_9_code_31 : decode prog_59_method_9_code 31 = .ok (.laload, 1) := by decide +kernel
theorem d_prog_59_method_9_code_32 : decode prog_59_method_9_code 32 = .ok (.aload_n 1, 1) := by decide +kernel
theorem d_prog_59_method_9_code_33 : decode prog_59_method_9_code 33 = .ok (.iconst 4, 1) := by decide +kernel
theorem d_prog_59_method_9_code_34 : decode prog_59_method_9_code 34 = .ok (.laload, 1) := by decide +kernel
theorem d_prog_59_method_9_code_35 : decode prog_59_method_9_code 35 = .ok (.lsub, 1) := by decide +kernel
theorem d_prog_59_method_9_code_36 : decode prog_59_method_9_code 36 = .ok (.aload_n 0, 1) := by decide +kernel
theorem d_prog_59_method_9_code_37 : decode prog_59_method_9_code 37 = .ok (.iconst 5, 1) := by decide +kernel
theorem d_prog_59_method_9_code_38 : decode prog_59_method_9_code 38 = .ok (.laload, 1) := by decide +kernel
theorem d_prog_59_method_9_code_39 : decode prog_59_method_9_code 39 = .ok (.aload_n 1, 1) := by decide +kernel
theorem d_prog_59_method_9_code_40 : decode prog_59_method_9_code 40 = .ok (.iconst 5, 1) := by decide +kernel
theorem d_prog_59_method_9_code_41 : decode prog_59_method_9_code 41 = .ok (.laload, 1) := by decide +kernel
theorem d_prog_59_method_9_code_42 : decode prog_59_method_9_code 42 = .ok (.lsub, 1) := by decide +kernel
theorem d_prog_59_method_9_code_43 : decode prog_59_method_9_code 43 = .ok (.aload_n 0, 1) := by decide +kernel
theorem d_prog_59_method_9_code_44 : decode prog_59_method_9_code 44 = .ok (.bipush 6, 2) := by decide +kernel
theorem d_prog_59_method_9_code_46 : decode prog_59_method_9_code 46 = .ok (.laload, 1) := by decide +kernel
theorem d_prog_59_method_9_code_47 : decode prog_59_method_9_code 47 = .ok (.aload_n 1, 1) := by decide +kernel
theorem d_prog_59_method_9_code_48 : decode prog_59_method_9_code 48 = .ok (.bipush 6, 2) := by decide +kernel
theorem d_prog_59_method_9_code_50 : decode prog_59_method_9_code 50 = .ok (.laload, 1) := by decide +kernel
theorem d_prog_59_method_9_code_51 : decode prog_59_method_9_code 51 = .ok (.lsub, 1) := by decide +kernel
theorem d_prog_59_method_9_code_52 : decode prog_59_method_9_code 52 = .ok (.aload_n 0, 1) := by decide +kernel
theorem d_prog_59_method_9_code_53 : decode prog_59_method_9_code 53 = .ok (.bipush 7, 2) := by decide +kernel
theorem d_prog_59_method_9_code_55 : decode prog_59_method_9_code 55 = .ok (.laload, 1) := by decide +kernel
theorem d_prog_59_method_9_code_56 : decode prog_59_method_9_code 56 = .ok (.aload_n 1, 1) := by decide +kernel
theorem d_prog_59_method_9_code_57 : decode prog_59_method_9_code 57 = .ok (.bipush 7, 2) := by decide +kernel
theorem d_prog_59_method_9_code_59 : decode prog_59_method_9_code 59 = .ok (.laload, 1) := by decide +kernel
theorem d_prog_59_method_9_code_60 : decode prog_59_method_9_code 60 = .ok (.lsub, 1) := by decide +kernel
theorem d_prog_59_method_9_code_61 : decode prog_59_method_9_code 61 = .ok (.invokestatic 46, 3) := by decide +kernel
theorem d_prog_59_method_9_code_64 : decode prog_59_method_9_code 64 = .ok (.return_, 1) := by decide +kernel
def Qrm_subtract_abo (Z : State) (a : Addr) (b : Addr) (o : Addr) (k_a : ClassId) (u_a_0 : Int64) (u_a_1 : Int64) (u_a_2 : Int64) (u_a_3 : Int64) (u_a_4 : Int64) (u_a_5 : Int64) (u_a_6 : Int64) (u_a_7 : Int64) (k_b : ClassId) (u_b_0 : Int64) (u_b_1 : Int64) (u_b_2 : Int64) (u_b_3 : Int64) (u_b_4 : Int64) (u_b_5 : Int64) (u_b_6 : Int64) (u_b_7 : Int64) (k_o : ClassId) (u_o_0 : Int64) (u_o_1 : Int64) (u_o_2 : Int64) (u_o_3 : Int64) (u_o_4 : Int64) (u_o_5 : Int64) (u_o_6 : Int64) (u_o_7 : Int64) (h0 : Heap) (n0 : Nat) (v_ : Option Value) (h_ : Heap) (L_ : List Loc) : Prop := ∃ (r0 : Int64), ∃ (r1 : Int64), ∃ (r2 : Int64), ∃ (r3 : Int64), ∃ (r4 : Int64), ∃ (r5 : Int64), ∃ (r6 : Int64), ∃ (r7 : Int64), v_ = none ∧ Fr n0 L_ ∧ Keep h0 h_ [o] ∧ Arv Z h_ o k_o .long (8 : Int32) [(.long r0), (.long r1), (.long r2), (.long r3), (.long r4), (.long r5), (.long r6), (.long r7)] (.long (0 : Int64)) ∧ own_R 562949953421440 r0 r1 r2 r3 r4 r5 r6 r7 ∧ own_M ((own_W u_a_0 u_a_1 u_a_2 u_a_3 u_a_4 u_a_5 u_a_6 u_a_7 - own_W u_b_0 u_b_1 u_b_2 u_b_3 u_b_4 u_b_5 u_b_6 u_b_7) - own_W r0 r1 r2 r3 r4 r5 r6 r7)
theorem ef_rm_subtract_abo (m : MethodId) (x0 : Addr) (x1 : Addr) (x2 : Addr) : entryFrame m #[(.ref x0), (.ref x1), (.ref x2)] 3 = mkF m 0 #[.val (.ref x0), .val (.ref x1), .val (.ref x2)] [] := by first | (simp [entryFrame, mkF, argsToLocals, Value.category]; done) | rfl
set_option maxRecDepth 65536 in
set_option maxHeartbeats 40000000 in
theorem rm_subtract_abo (l : Launch) (Z : State) (aZ : Array Value) (hw : ∀ d ∈ tables_1, d.before aZ Z = true) (ws : List Jvm.Cond) (a : Addr) (b : Addr) (o : Addr) (k_a : ClassId) (u_a_0 : Int64) (u_a_1 : Int64) (u_a_2 : Int64) (u_a_3 : Int64) (u_a_4 : Int64) (u_a_5 : Int64) (u_a_6 : Int64) (u_a_7 : Int64) (k_b : ClassId) (u_b_0 : Int64) (u_b_1 : Int64) (u_b_2 : Int64) (u_b_3 : Int64) (u_b_4 : Int64) (u_b_5 : Int64) (u_b_6 : Int64) (u_b_7 : Int64) (k_o : ClassId) (u_o_0 : Int64) (u_o_1 : Int64) (u_o_2 : Int64) (u_o_3 : Int64) (u_o_4 : Int64) (u_o_5 : Int64) (u_o_6 : Int64) (u_o_7 : Int64) (h0 : Heap) (n0 : Nat) (Z0 : n0 ≤ h0.size) (A_a : Arv Z h0 a k_a .long (8 : Int32) [(.long u_a_0), (.long u_a_1), (.long u_a_2), (.long u_a_3), (.long u_a_4), (.long u_a_5), (.long u_a_6), (.long u_a_7)] (.long (0 : Int64))) (A_b : Arv Z h0 b k_b .long (8 : Int32) [(.long u_b_0), (.long u_b_1), (.long u_b_2), (.long u_b_3), (.long u_b_4), (.long u_b_5), (.long u_b_6), (.long u_b_7)] (.long (0 : Int64))) (A_o : Arv Z h0 o k_o .long (8 : Int32) [(.long u_o_0), (.long u_o_1), (.long u_o_2), (.long u_o_3), (.long u_o_4), (.long u_o_5), (.long u_o_6), (.long u_o_7)] (.long (0 : Int64))) (go : n0 ≤ o) (ne_a_b : a ≠ b) (ne_a_o : a ≠ o) (ne_b_o : b ≠ o) (hRa : own_R 1125899906842624 u_a_0 u_a_1 u_a_2 u_a_3 u_a_4 u_a_5 u_a_6 u_a_7) (hRb : own_R 1125899906842624 u_b_0 u_b_1 u_b_2 u_b_3 u_b_4 u_b_5 u_b_6 u_b_7) :
    MetFree l (⟨"com/example/guard3/guard3/P384Field", "subtract", "([J[J[J)V"⟩ : MethodName) (head1 (Jvm.Cond.code (⟨"com/example/guard3/guard3/P384Field", "subtract", "([J[J[J)V"⟩ : MethodName) prog_59_method_9_code 3 none :: ws) ({ frames := 1, cells := 0, slots := 0, locals := 34 } : Room)) (fun a_ U_ => a_ = #[(.ref a), (.ref b), (.ref o)] ∧ Z.Warmed39 U_.vm ∧ U_.heap = h0) (fun _ _ _ _ _ => True) (fun _ U_ o_ U2_ => ∃ v_ L_, o_ = .returned v_ ∧ Qrm_subtract_abo Z a b o k_a u_a_0 u_a_1 u_a_2 u_a_3 u_a_4 u_a_5 u_a_6 u_a_7 k_b u_b_0 u_b_1 u_b_2 u_b_3 u_b_4 u_b_5 u_b_6 u_b_7 k_o u_o_0 u_o_1 u_o_2 u_o_3 u_o_4 u_o_5 u_o_6 u_o_7 h0 n0 v_ U2_.heap L_ ∧ FrameEnd U_ o_ U2_ L_ ({ frames := 1, cells := 0, slots := 0, locals := 34 } : Room).cells ({ frames := 1, cells := 0, slots := 0, locals := 34 } : Room).slots) := by
  refine MetFree.of_bodySF (plainFor_of_name pn_com_example_guard3_guard3_P384Field) hisR ?_
  intro p e s m args below meth cO s₁ Bd hml0 hP hK
  obtain ⟨rfl, hZW, hh⟩ := hP
  have hEX := Bd.exec
  have hBY := Bd.bytes
  have hMX : cO.maxLocals = 3 := hml0
  have hOW : s.vm.findClass "com/example/guard3/guard3/P384Field" = some m.cls := findClass_of_methodNamed Bd.named
  have hNM := (name_of_methodNamed Bd.named Bd.method).1
  have hLK := Bd.notSynchronized
  have hRT := Bd.returns
  have X0 : Stand p l e ({ frames := 1, cells := 0, slots := 0, locals := 34 } : Room) s m #[(.ref a), (.ref b), (.ref o)] below meth cO s₁ [] 0 0 := Stand.of_body Bd
  have e0 : s₁.heap = h0 := by rw [← hh, Bd.state]; rfl
  have N0 := Fr.nil n0
  have K0 : Keep h0 h0 [o] := Keep.refl _ _
  show Done p e below s (Qrm_subtract_abo Z a b o k_a u_a_0 u_a_1 u_a_2 u_a_3 u_a_4 u_a_5 u_a_6 u_a_7 k_b u_b_0 u_b_1 u_b_2 u_b_3 u_b_4 u_b_5 u_b_6 u_b_7 k_o u_o_0 u_o_1 u_o_2 u_o_3 u_o_4 u_o_5 u_o_6 u_o_7 h0 n0) ({ frames := 1, cells := 0, slots := 0, locals := 34 } : Room).cells ({ frames := 1, cells := 0, slots := 0, locals := 34 } : Room).slots (s₁.setTop (entryFrame m #[(.ref a), (.ref b), (.ref o)] 3))
  refine Done.pre (fun t_ k_ => castTop (ef_rm_subtract_abo m a b o) k_) ?_
  show Done _ _ _ _ _ _ _ (s₁.setTop (mkF m 0 #[Rv a, Rv b, Rv o] []))
  obtain ⟨cl_1, Ar_1, q_1, S_1, N__1, H_1, G_1⟩ := id A_a
  have hin_1 : ¬ ((0 : Int32) < 0 ∨ cl_1.slots.size ≤ ((0 : Int32)).toNatClampNeg) := inb_of S_1 ⟨by decide, by decide⟩
  have hat_1 : cl_1.slots[((0 : Int32)).toNatClampNeg]? = some (.long u_a_0) := H_1.at hin_1 rfl
  obtain ⟨cl_2, Ar_2, q_2, S_2, N__2, H_2, G_2⟩ := id A_b
  have hin_2 : ¬ ((0 : Int32) < 0 ∨ cl_2.slots.size ≤ ((0 : Int32)).toNatClampNeg) := inb_of S_2 ⟨by decide, by decide⟩
  have hat_2 : cl_2.slots[((0 : Int32)).toNatClampNeg]? = some (.long u_b_0) := H_2.at hin_2 rfl
  obtain ⟨cl_3, Ar_3, q_3, S_3, N__3, H_3, G_3⟩ := id A_a
  have hin_3 : ¬ ((1 : Int32) < 0 ∨ cl_3.slots.size ≤ ((1 : Int32)).toNatClampNeg) := inb_of S_3 ⟨by decide, by decide⟩
  have hat_3 : cl_3.slots[((1 : Int32)).toNatClampNeg]? = some (.long u_a_1) := H_3.at hin_3 rfl
  obtain ⟨cl_4, Ar_4, q_4, S_4, N__4, H_4, G_4⟩ := id A_b
  have hin_4 : ¬ ((1 : Int32) < 0 ∨ cl_4.slots.size ≤ ((1 : Int32)).toNatClampNeg) := inb_of S_4 ⟨by decide, by decide⟩
  have hat_4 : cl_4.slots[((1 : Int32)).toNatClampNeg]? = some (.long u_b_1) := H_4.at hin_4 rfl
  obtain ⟨cl_5, Ar_5, q_5, S_5, N__5, H_5, G_5⟩ := id A_a
  have hin_5 : ¬ ((2 : Int32) < 0 ∨ cl_5.slots.size ≤ ((2 : Int32)).toNatClampNeg) := inb_of S_5 ⟨by decide, by decide⟩
  have hat_5 : cl_5.slots[((2 : Int32)).toNatClampNeg]? = some (.long u_a_2) := H_5.at hin_5 rfl
  obtain ⟨cl_6, Ar_6, q_6, S_6, N__6, H_6, G_6⟩ := id A_b
  have hin_6 : ¬ ((2 : Int32) < 0 ∨ cl_6.slots.size ≤ ((2 : Int32)).toNatClampNeg) := inb_of S_6 ⟨by decide, by decide⟩
  have hat_6 : cl_6.slots[((2 : Int32)).toNatClampNeg]? = some (.long u_b_2) := H_6.at hin_6 rfl
  obtain ⟨cl_7, Ar_7, q_7, S_7, N__7, H_7, G_7⟩ := id A_a
  have hin_7 : ¬ ((3 : Int32) < 0 ∨ cl_7.slots.size ≤ ((3 : Int32)).toNatClampNeg) := inb_of S_7 ⟨by decide, by decide⟩
  have hat_7 : cl_7.slots[((3 : Int32)).toNatClampNeg]? = some (.long u_a_3) := H_7.at hin_7 rfl
  obtain ⟨cl_8, Ar_8, q_8, S_8, N__8, H_8, G_8⟩ := id A_b
  have hin_8 : ¬ ((3 : Int32) < 0 ∨ cl_8.slots.size ≤ ((3 : Int32)).toNatClampNeg) := inb_of S_8 ⟨by decide, by decide⟩
  have hat_8 : cl_8.slots[((3 : Int32)).toNatClampNeg]? = some (.long u_b_3) := H_8.at hin_8 rfl
  obtain ⟨cl_9, Ar_9, q_9, S_9, N__9, H_9, G_9⟩ := id A_a
  have hin_9 : ¬ ((4 : Int32) < 0 ∨ cl_9.slots.size ≤ ((4 : Int32)).toNatClampNeg) := inb_of S_9 ⟨by decide, by decide⟩
  have hat_9 : cl_9.slots[((4 : Int32)).toNatClampNeg]? = some (.long u_a_4) := H_9.at hin_9 rfl
  obtain ⟨cl_10, Ar_10, q_10, S_10, N__10, H_10, G_10⟩ := id A_b
  have hin_10 : ¬ ((4 : Int32) < 0 ∨ cl_10.slots.size ≤ ((4 : Int32)).toNatClampNeg) := inb_of S_10 ⟨by decide, by decide⟩
  have hat_10 : cl_10.slots[((4 : Int32)).toNatClampNeg]? = some (.long u_b_4) := H_10.at hin_10 rfl
  obtain ⟨cl_11, Ar_11, q_11, S_11, N__11, H_11, G_11⟩ := id A_a
  have hin_11 : ¬ ((5 : Int32) < 0 ∨ cl_11.slots.size ≤ ((5 : Int32)).toNatClampNeg) := inb_of S_11 ⟨by decide, by decide⟩
  have hat_11 : cl_11.slots[((5 : Int32)).toNatClampNeg]? = some (.long u_a_5) := H_11.at hin_11 rfl
  obtain ⟨cl_12, Ar_12, q_12, S_12, N__12, H_12, G_12⟩ := id A_b
  have hin_12 : ¬ ((5 : Int32) < 0 ∨ cl_12.slots.size ≤ ((5 : Int32)).toNatClampNeg) := inb_of S_12 ⟨by decide, by decide⟩
  have hat_12 : cl_12.slots[((5 : Int32)).toNatClampNeg]? = some (.long u_b_5) := H_12.at hin_12 rfl
  obtain ⟨cl_13, Ar_13, q_13, S_13, N__13, H_13, G_13⟩ := id A_a
  have hin_13 : ¬ ((6 : Int32) < 0 ∨ cl_13.slots.size ≤ ((6 : Int32)).toNatClampNeg) := inb_of S_13 ⟨by decide, by decide⟩
  have hat_13 : cl_13.slots[((6 : Int32)).toNatClampNeg]? = some (.long u_a_6) := H_13.at hin_13 rfl
  obtain ⟨cl_14, Ar_14, q_14, S_14, N__14, H_14, G_14⟩ := id A_b
  have hin_14 : ¬ ((6 : Int32) < 0 ∨ cl_14.slots.size ≤ ((6 : Int32)).toNatClampNeg) := inb_of S_14 ⟨by decide, by decide⟩
  have hat_14 : cl_14.slots[((6 : Int32)).toNatClampNeg]? = some (.long u_b_6) := H_14.at hin_14 rfl
  obtain ⟨cl_15, Ar_15, q_15, S_15, N__15, H_15, G_15⟩ := id A_a
  have hin_15 : ¬ ((7 : Int32) < 0 ∨ cl_15.slots.size ≤ ((7 : Int32)).toNatClampNeg) := inb_of S_15 ⟨by decide, by decide⟩
  have hat_15 : cl_15.slots[((7 : Int32)).toNatClampNeg]? = some (.long u_a_7) := H_15.at hin_15 rfl
  obtain ⟨cl_16, Ar_16, q_16, S_16, N__16, H_16, G_16⟩ := id A_b
  have hin_16 : ¬ ((7 : Int32) < 0 ∨ cl_16.slots.size ≤ ((7 : Int32)).toNatClampNeg) := inb_of S_16 ⟨by decide, by decide⟩
  have hat_16 : cl_16.slots[((7 : Int32)).toNatClampNeg]? = some (.long u_b_7) := H_16.at hin_16 rfl
  have sg_17 : ∀ tt_, Steps p.tables e below (s₁.setTop (mkF m 61 #[Rv a, Rv b, Rv o] [(.long (u_a_7 - u_b_7)), (.long (u_a_6 - u_b_6)), (.long (u_a_5 - u_b_5)), (.long (u_a_4 - u_b_4)), (.long (u_a_3 - u_b_3)), (.long (u_a_2 - u_b_2)), (.long (u_a_1 - u_b_1)), (.long (u_a_0 - u_b_0)), (.ref o)])) tt_ → Steps p.tables e below (s₁.setTop (mkF m 0 #[Rv a, Rv b, Rv o] [])) tt_ := by
    intro tt_ kt_
    refine XS.aloadN X0.here hEX rfl (hb hBY d_prog_59_method_9_code_0) rfl rfl ?_
    show Steps p.tables e below (s₁.setTop (mkF m 1 #[Rv a, Rv b, Rv o] [(.ref o)])) tt_
    refine XS.aloadN X0.here hEX rfl (hb hBY d_prog_59_method_9_code_1) rfl rfl ?_
    show Steps p.tables e below (s₁.setTop (mkF m 2 #[Rv a, Rv b, Rv o] [(.ref a), (.ref o)])) tt_
    refine XS.iconst X0.here hEX rfl (hb hBY d_prog_59_method_9_code_2) ?_
    show Steps p.tables e below (s₁.setTop (mkF m 3 #[Rv a, Rv b, Rv o] [(.int (0 : Int32)), (.ref a), (.ref o)])) tt_
    refine X0.laload hEX (j := (0 : Int32)) (v := (.long u_a_0)) (by rw [e0]; exact Ar_1.1) (State.isArrayOf_alike hZW.alike Ar_1.2.1) Ar_1.2.2 hin_1 hat_1 (g := (mkF m 3 #[Rv a, Rv b, Rv o] [(.int (0 : Int32)), (.ref a), (.ref o)])) rfl rfl (hb hBY d_prog_59_method_9_code_3) _ ?_
    show Steps p.tables e below (s₁.setTop (mkF m 4 #[Rv a, Rv b, Rv o] [(.long u_a_0), (.ref o)])) tt_
    refine XS.aloadN X0.here hEX rfl (hb hBY d_prog_59_method_9_code_4) rfl rfl ?_
    show Steps p.tables e below (s₁.setTop (mkF m 5 #[Rv a, Rv b, Rv o] [(.ref b), (.long u_a_0), (.ref o)])) tt_
    refine XS.iconst X0.here hEX rfl (hb hBY d_prog_59_method_9_code_5) ?_
    show Steps p.tables e below (s₁.setTop (mkF m 6 #[Rv a, Rv b, Rv o] [(.int (0 : Int32)), (.ref b), (.long u_a_0), (.ref o)])) tt_
    refine X0.laload hEX (j := (0 : Int32)) (v := (.long u_b_0)) (by rw [e0]; exact Ar_2.1) (State.isArrayOf_alike hZW.alike Ar_2.2.1) Ar_2.2.2 hin_2 hat_2 (g := (mkF m 6 #[Rv a, Rv b, Rv o] [(.int (0 : Int32)), (.ref b), (.long u_a_0), (.ref o)])) rfl rfl (hb hBY d_prog_59_method_9_code_6) _ ?_
    show Steps p.tables e below (s₁.setTop (mkF m 7 #[Rv a, Rv b, Rv o] [(.long u_b_0), (.long u_a_0), (.ref o)])) tt_
    refine XS.lsub X0.here hEX rfl (hb hBY d_prog_59_method_9_code_7) rfl ?_
    show Steps p.tables e below (s₁.setTop (mkF m 8 #[Rv a, Rv b, Rv o] [(.long (u_a_0 - u_b_0)), (.ref o)])) tt_
    refine XS.aloadN X0.here hEX rfl (hb hBY d_prog_59_method_9_code_8) rfl rfl ?_
    show Steps p.tables e below (s₁.setTop (mkF m 9 #[Rv a, Rv b, Rv o] [(.ref a), (.long (u_a_0 - u_b_0)), (.ref o)])) tt_
    refine XS.iconst X0.here hEX rfl (hb hBY d_prog_59_method_9_code_9) ?_
    show Steps p.tables e below (s₁.setTop (mkF m 10 #[Rv a, Rv b, Rv o] [(.int (1 : Int32)), (.ref a), (.long (u_a_0 - u_b_0)), (.ref o)])) tt_
    refine X0.laload hEX (j := (1 : Int32)) (v := (.long u_a_1)) (by rw [e0]; exact Ar_3.1) (State.isArrayOf_alike hZW.alike Ar_3.2.1) Ar_3.2.2 hin_3 hat_3 (g := (mkF m 10 #[Rv a, Rv b, Rv o] [(.int (1 : Int32)), (.ref a), (.long (u_a_0 - u_b_0)), (.ref o)])) rfl rfl (hb hBY d_prog_59_method_9_code_10) _ ?_
    show Steps p.tables e below (s₁.setTop (mkF m 11 #[Rv a, Rv b, Rv o] [(.long u_a_1), (.long (u_a_0 - u_b_0)), (.ref o)])) tt_
    refine XS.aloadN X0.here hEX rfl (hb hBY d_prog_59_method_9_code_11) rfl rfl ?_
    show Steps p.tables e below (s₁.setTop (mkF m 12 #[Rv a, Rv b, Rv o] [(.ref b), (.long u_a_1), (.long (u_a_0 - u_b_0)), (.ref o)])) tt_
    refine XS.iconst X0.here hEX rfl (hb hBY d_prog_59_method_9_code_12) ?_
    show Steps p.tables e below (s₁.setTop (mkF m 13 #[Rv a, Rv b, Rv o] [(.int (1 : Int32)), (.ref b), (.long u_a_1), (.long (u_a_0 - u_b_0)), (.ref o)])) tt_
    refine X0.laload hEX (j := (1 : Int32)) (v := (.long u_b_1)) (by rw [e0]; exact Ar_4.1) (State.isArrayOf_alike hZW.alike Ar_4.2.1) Ar_4.2.2 hin_4 hat_4 (g := (mkF m 13 #[Rv a, Rv b, Rv o] [(.int (1 : Int32)), (.ref b), (.long u_a_1), (.long (u_a_0 - u_b_0)), (.ref o)])) rfl rfl (hb hBY d_prog_59_method_9_code_13) _ ?_
    show Steps p.tables e below (s₁.setTop (mkF m 14 #[Rv a, Rv b, Rv o] [(.long u_b_1), (.long u_a_1), (.long (u_a_0 - u_b_0)), (.ref o)])) tt_
    refine XS.lsub X0.here hEX rfl (hb hBY d_prog_59_method_9_code_14) rfl ?_
    show Steps p.tables e below (s₁.setTop (mkF m 15 #[Rv a, Rv b, Rv o] [(.long (u_a_1 - u_b_1)), (.long (u_a_0 - u_b_0)), (.ref o)])) tt_
    refine XS.aloadN X0.here hEX rfl (hb hBY d_prog_59_method_9_code_15) rfl rfl ?_
    show Steps p.tables e below (s₁.setTop (mkF m 16 #[Rv a, Rv b, Rv o] [(.ref a), (.long (u_a_1 - u_b_1)), (.long (u_a_0 - u_b_0)), (.ref o)])) tt_
    refine XS.iconst X0.here hEX rfl (hb hBY d_prog_59_method_9_code_16) ?_
    show Steps p.tables e below (s₁.setTop (mkF m 17 #[Rv a, Rv b, Rv o] [(.int (2 : Int32)), (.ref a), (.long (u_a_1 - u_b_1)), (.long (u_a_0 - u_b_0)), (.ref o)])) tt_
    refine X0.laload hEX (j := (2 : Int32)) (v := (.long u_a_2)) (by rw [e0]; exact Ar_5.1) (State.isArrayOf_alike hZW.alike Ar_5.2.1) Ar_5.2.2 hin_5 hat_5 (g := (mkF m 17 #[Rv a, Rv b, Rv o] [(.int (2 : Int32)), (.ref a), (.long (u_a_1 - u_b_1)), (.long (u_a_0 - u_b_0)), (.ref o)])) rfl rfl (hb hBY d_prog_59_method_9_code_17) _ ?_
    show Steps p.tables e below (s₁.setTop (mkF m 18 #[Rv a, Rv b, Rv o] [(.long u_a_2), (.long (u_a_1 - u_b_1)), (.long (u_a_0 - u_b_0)), (.ref o)])) tt_
    refine XS.aloadN X0.here hEX rfl (hb hBY d_prog_59_method_9_code_18) rfl rfl ?_
    show Steps p.tables e below (s₁.setTop (mkF m 19 #[Rv a, Rv b, Rv o] [(.ref b), (.long u_a_2), (.long (u_a_1 - u_b_1)), (.long (u_a_0 - u_b_0)), (.ref o)])) tt_
    refine XS.iconst X0.here hEX rfl (hb hBY d_prog_59_method_9_code_19) ?_
    show Steps p.tables e below (s₁.setTop (mkF m 20 #[Rv a, Rv b, Rv o] [(.int (2 : Int32)), (.ref b), (.long u_a_2), (.long (u_a_1 - u_b_1)), (.long (u_a_0 - u_b_0)), (.ref o)])) tt_
    refine X0.laload hEX (j := (2 : Int32)) (v := (.long u_b_2)) (by rw [e0]; exact Ar_6.1) (State.isArrayOf_alike hZW.alike Ar_6.2.1) Ar_6.2.2 hin_6 hat_6 (g := (mkF m 20 #[Rv a, Rv b, Rv o] [(.int (2 : Int32)), (.ref b), (.long u_a_2), (.long (u_a_1 - u_b_1)), (.long (u_a_0 - u_b_0)), (.ref o)])) rfl rfl (hb hBY d_prog_59_method_9_code_20) _ ?_
    show Steps p.tables e below (s₁.setTop (mkF m 21 #[Rv a, Rv b, Rv o] [(.long u_b_2), (.long u_a_2), (.long (u_a_1 - u_b_1)), (.long (u_a_0 - u_b_0)), (.ref o)])) tt_
    refine XS.lsub X0.here hEX rfl (hb hBY d_prog_59_method_9_code_21) rfl ?_
    show Steps p.tables e below (s₁.setTop (mkF m 22 #[Rv a, Rv b, Rv o] [(.long (u_a_2 - u_b_2)), (.long (u_a_1 - u_b_1)), (.long (u_a_0 - u_b_0)), (.ref o)])) tt_
    refine XS.aloadN X0.here hEX rfl (hb hBY d_prog_59_method_9_code_22) rfl rfl ?_
    show Steps p.tables e below (s₁.setTop (mkF m 23 #[Rv a, Rv b, Rv o] [(.ref a), (.long (u_a_2 - u_b_2)), (.long (u_a_1 - u_b_1)), (.long (u_a_0 - u_b_0)), (.ref o)])) tt_
    refine XS.iconst X0.here hEX rfl (hb hBY d_prog_59_method_9_code_23) ?_
    show Steps p.tables e below (s₁.setTop (mkF m 24 #[Rv a, Rv b, Rv o] [(.int (3 : Int32)), (.ref a), (.long (u_a_2 - u_b_2)), (.long (u_a_1 - u_b_1)), (.long (u_a_0 - u_b_0)), (.ref o)])) tt_
    refine X0.laload hEX (j := (3 : Int32)) (v := (.long u_a_3)) (by rw [e0]; exact Ar_7.1) (State.isArrayOf_alike hZW.alike Ar_7.2.1) Ar_7.2.2 hin_7 hat_7 (g := (mkF m 24 #[Rv a, Rv b, Rv o] [(.int (3 : Int32)), (.ref a), (.long (u_a_2 - u_b_2)), (.long (u_a_1 - u_b_1)), (.long (u_a_0 - u_b_0)), (.ref o)])) rfl rfl (hb hBY d_prog_59_method_9_code_24) _ ?_
    show Steps p.tables e below (s₁.setTop (mkF m 25 #[Rv a, Rv b, Rv o] [(.long u_a_3), (.long (u_a_2 - u_b_2)), (.long (u_a_1 - u_b_1)), (.long (u_a_0 - u_b_0)), (.ref o)])) tt_
    refine XS.aloadN X0.here hEX rfl (hb hBY d_prog_59_method_9_code_25) rfl rfl ?_
    show Steps p.tables e below (s₁.setTop (mkF m 26 #[Rv a, Rv b, Rv o] [(.ref b), (.long u_a_3), (.long (u_a_2 - u_b_2)), (.long (u_a_1 - u_b_1)), (.long (u_a_0 - u_b_0)), (.ref o)])) tt_
    refine XS.iconst X0.here hEX rfl (hb hBY d_prog_59_method_9_code_26) ?_
    show Steps p.tables e below (s₁.setTop (mkF m 27 #[Rv a, Rv b, Rv o] [(.int (3 : Int32)), (.ref b), (.long u_a_3), (.long (u_a_2 - u_b_2)), (.long (u_a_1 - u_b_1)), (.long (u_a_0 - u_b_0)), (.ref o)])) tt_
    refine X0.laload hEX (j := (3 : Int32)) (v := (.long u_b_3)) (by rw [e0]; exact Ar_8.1) (State.isArrayOf_alike hZW.alike Ar_8.2.1) Ar_8.2.2 hin_8 hat_8 (g := (mkF m 27 #[Rv a, Rv b, Rv o] [(.int (3 : Int32)), (.ref b), (.long u_a_3), (.long (u_a_2 - u_b_2)), (.long (u_a_1 - u_b_1)), (.long (u_a_0 - u_b_0)), (.ref o)])) rfl rfl (hb hBY d_prog_59_method_9_code_27) _ ?_
    show Steps p.tables e below (s₁.setTop (mkF m 28 #[Rv a, Rv b, Rv o] [(.long u_b_3), (.long u_a_3), (.long (u_a_2 - u_b_2)), (.long (u_a_1 - u_b_1)), (.long (u_a_0 - u_b_0)), (.ref o)])) tt_
    refine XS.lsub X0.here hEX rfl (hb hBY d_prog_59_method_9_code_28) rfl ?_
    show Steps p.tables e below (s₁.setTop (mkF m 29 #[Rv a, Rv b, Rv o] [(.long (u_a_3 - u_b_3)), (.long (u_a_2 - u_b_2)), (.long (u_a_1 - u_b_1)), (.long (u_a_0 - u_b_0)), (.ref o)])) tt_
    refine XS.aloadN X0.here hEX rfl (hb hBY d_prog_59_method_9_code_29) rfl rfl ?_
    show Steps p.tables e below (s₁.setTop (mkF m 30 #[Rv a, Rv b, Rv o] [(.ref a), (.long (u_a_3 - u_b_3)), (.long (u_a_2 - u_b_2)), (.long (u_a_1 - u_b_1)), (.long (u_a_0 - u_b_0)), (.ref o)])) tt_
    refine XS.iconst X0.here hEX rfl (hb hBY d_prog_59_method_9_code_30) ?_
    show Steps p.tables e below (s₁.setTop (mkF m 31 #[Rv a, Rv b, Rv o] [(.int (4 : Int32)), (.ref a), (.long (u_a_3 - u_b_3)), (.long (u_a_2 - u_b_2)), (.long (u_a_1 - u_b_1)), (.long (u_a_0 - u_b_0)), (.ref o)])) tt_
    refine X0.laload hEX (j := (4 : Int32)) (v := (.long u_a_4)) (by rw [e0]; exact Ar_9.1) (State.isArrayOf_alike hZW.alike Ar_9.2.1) Ar_9.2.2 hin_9 hat_9 (g := (mkF m 31 #[Rv a, Rv b, Rv o] [(.int (4 : Int32)), (.ref a), (.long (u_a_3 - u_b_3)), (.long (u_a_2 - u_b_2)), (.long (u_a_1 - u_b_1)), (.long (u_a_0 - u_b_0)), (.ref o)])) rfl rfl (hb hBY d_prog_59_method_9_code_31) _ ?_
    show Steps p.tables e below (s₁.setTop (mkF m 32 #[Rv a, Rv b, Rv o] [(.long u_a_4), (.long (u_a_3 - u_b_3)), (.long (u_a_2 - u_b_2)), (.long (u_a_1 - u_b_1)), (.long (u_a_0 - u_b_0)), (.ref o)])) tt_
    refine XS.aloadN X0.here hEX rfl (hb hBY d_prog_59_method_9_code_32) rfl rfl ?_
    show Steps p.tables e below (s₁.setTop (mkF m 33 #[Rv a, Rv b, Rv o] [(.ref b), (.long u_a_4), (.long (u_a_3 - u_b_3)), (.long (u_a_2 - u_b_2)), (.long (u_a_1 - u_b_1)), (.long (u_a_0 - u_b_0)), (.ref o)])) tt_
    refine XS.iconst X0.here hEX rfl (hb hBY d_prog_59_method_9_code_33) ?_
    show Steps p.tables e below (s₁.setTop (mkF m 34 #[Rv a, Rv b, Rv o] [(.int (4 : Int32)), (.ref b), (.long u_a_4), (.long (u_a_3 - u_b_3)), (.long (u_a_2 - u_b_2)), (.long (u_a_1 - u_b_1)), (.long (u_a_0 - u_b_0)), (.ref o)])) tt_
    refine X0.laload hEX (j := (4 : Int32)) (v := (.long u_b_4)) (by rw [e0]; exact Ar_10.1) (State.isArrayOf_alike hZW.alike Ar_10.2.1) Ar_10.2.2 hin_10 hat_10 (g := (mkF m 34 #[Rv a, Rv b, Rv o] [(.int (4 : Int32)), (.ref b), (.long u_a_4), (.long (u_a_3 - u_b_3)), (.long (u_a_2 - u_b_2)), (.long (u_a_1 - u_b_1)), (.long (u_a_0 - u_b_0)), (.ref o)])) rfl rfl (hb hBY d_prog_59_method_9_code_34) _ ?_
    show Steps p.tables e below (s₁.setTop (mkF m 35 #[Rv a, Rv b, Rv o] [(.long u_b_4), (.long u_a_4), (.long (u_a_3 - u_b_3)), (.long (u_a_2 - u_b_2)), (.long (u_a_1 - u_b_1)), (.long (u_a_0 - u_b_0)), (.ref o)])) tt_
    refine XS.lsub X0.here hEX rfl (hb hBY d_prog_59_method_9_code_35) rfl ?_
    show Steps p.tables e below (s₁.setTop (mkF m 36 #[Rv a, Rv b, Rv o] [(.long (u_a_4 - u_b_4)), (.long (u_a_3 - u_b_3)), (.long (u_a_2 - u_b_2)), (.long (u_a_1 - u_b_1)), (.long (u_a_0 - u_b_0)), (.ref o)])) tt_
    refine XS.aloadN X0.here hEX rfl (hb hBY d_prog_59_method_9_code_36) rfl rfl ?_
    show Steps p.tables e below (s₁.setTop (mkF m 37 #[Rv a, Rv b, Rv o] [(.ref a), (.long (u_a_4 - u_b_4)), (.long (u_a_3 - u_b_3)), (.long (u_a_2 - u_b_2)), (.long (u_a_1 - u_b_1)), (.long (u_a_0 - u_b_0)), (.ref o)])) tt_
    refine XS.iconst X0.here hEX rfl (hb hBY d_prog_59_method_9_code_37) ?_
    show Steps p.tables e below (s₁.setTop (mkF m 38 #[Rv a, Rv b, Rv o] [(.int (5 : Int32)), (.ref a), (.long (u_a_4 - u_b_4)), (.long (u_a_3 - u_b_3)), (.long (u_a_2 - u_b_2)), (.long (u_a_1 - u_b_1)), (.long (u_a_0 - u_b_0)), (.ref o)])) tt_
    refine X0.laload hEX (j := (5 : Int32)) (v := (.long u_a_5)) (by rw [e0]; exact Ar_11.1) (State.isArrayOf_alike hZW.alike Ar_11.2.1) Ar_11.2.2 hin_11 hat_11 (g := (mkF m 38 #[Rv a, Rv b, Rv o] [(.int (5 : Int32)), (.ref a), (.long (u_a_4 - u_b_4)), (.long (u_a_3 - u_b_3)), (.long (u_a_2 - u_b_2)), (.long (u_a_1 - u_b_1)), (.long (u_a_0 - u_b_0)), (.ref o)])) rfl rfl (hb hBY d_prog_59_method_9_code_38) _ ?_
    show Steps p.tables e below (s₁.setTop (mkF m 39 #[Rv a, Rv b, Rv o] [(.long u_a_5), (.long (u_a_4 - u_b_4)), (.long (u_a_3 - u_b_3)), (.long (u_a_2 - u_b_2)), (.long (u_a_1 - u_b_1)), (.long (u_a_0 - u_b_0)), (.ref o)])) tt_
    refine XS.aloadN X0.here hEX rfl (hb hBY d_prog_59_method_9_code_39) rfl rfl ?_
    show Steps p.tables e below (s₁.setTop (mkF m 40 #[Rv a, Rv b, Rv o] [(.ref b), (.long u_a_5), (.long (u_a_4 - u_b_4)), (.long (u_a_3 - u_b_3)), (.long (u_a_2 - u_b_2)), (.long (u_a_1 - u_b_1)), (.long (u_a_0 - u_b_0)), (.ref o)])) tt_
    refine XS.iconst X0.here hEX rfl (hb hBY d_prog_59_method_9_code_40) ?_
    show Steps p.tables e below (s₁.setTop (mkF m 41 #[Rv a, Rv b, Rv o] [(.int (5 : Int32)), (.ref b), (.long u_a_5), (.long (u_a_4 - u_b_4)), (.long (u_a_3 - u_b_3)), (.long (u_a_2 - u_b_2)), (.long (u_a_1 - u_b_1)), (.long (u_a_0 - u_b_0)), (.ref o)])) tt_
    refine X0.laload hEX (j := (5 : Int32)) (v := (.long u_b_5)) (by rw [e0]; exact Ar_12.1) (State.isArrayOf_alike hZW.alike Ar_12.2.1) Ar_12.2.2 hin_12 hat_12 (g := (mkF m 41 #[Rv a, Rv b, Rv o] [(.int (5 : Int32)), (.ref b), (.long u_a_5), (.long (u_a_4 - u_b_4)), (.long (u_a_3 - u_b_3)), (.long (u_a_2 - u_b_2)), (.long (u_a_1 - u_b_1)), (.long (u_a_0 - u_b_0)), (.ref o)])) rfl rfl (hb hBY d_prog_59_method_9_code_41) _ ?_
    show Steps p.tables e below (s₁.setTop (mkF m 42 #[Rv a, Rv b, Rv o] [(.long u_b_5), (.long u_a_5), (.long (u_a_4 - u_b_4)), (.long (u_a_3 - u_b_3)), (.long (u_a_2 - u_b_2)), (.long (u_a_1 - u_b_1)), (.long (u_a_0 - u_b_0)), (.ref o)])) tt_
    refine XS.lsub X0.here hEX rfl (hb hBY d_prog_59_method_9_code_42) rfl ?_
    show Steps p.tables e below (s₁.setTop (mkF m 43 #[Rv a, Rv b, Rv o] [(.long (u_a_5 - u_b_5)), (.long (u_a_4 - u_b_4)), (.long (u_a_3 - u_b_3)), (.long (u_a_2 - u_b_2)), (.long (u_a_1 - u_b_1)), (.long (u_a_0 - u_b_0)), (.ref o)])) tt_
    refine XS.aloadN X0.here hEX rfl (hb hBY d_prog_59_method_9_code_43) rfl rfl ?_
    show Steps p.tables e below (s₁.setTop (mkF m 44 #[Rv a, Rv b, Rv o] [(.ref a), (.long (u_a_5 - u_b_5)), (.long (u_a_4 - u_b_4)), (.long (u_a_3 - u_b_3)), (.long (u_a_2 - u_b_2)), (.long (u_a_1 - u_b_1)), (.long (u_a_0 - u_b_0)), (.ref o)])) tt_
    refine XS.bipush X0.here hEX rfl (hb hBY d_prog_59_method_9_code_44) ?_
    show Steps p.tables e below (s₁.setTop (mkF m 46 #[Rv a, Rv b, Rv o] [(.int (6 : Int32)), (.ref a), (.long (u_a_5 - u_b_5)), (.long (u_a_4 - u_b_4)), (.long (u_a_3 - u_b_3)), (.long (u_a_2 - u_b_2)), (.long (u_a_1 - u_b_1)), (.long (u_a_0 - u_b_0)), (.ref o)])) tt_
    refine X0.laload hEX (j := (6 : Int32)) (v := (.long u_a_6)) (by rw [e0]; exact Ar_13.1) (State.isArrayOf_alike hZW.alike Ar_13.2.1) Ar_13.2.2 hin_13 hat_13 (g := (mkF m 46 #[Rv a, Rv b, Rv o] [(.int (6 : Int32)), (.ref a), (.long (u_a_5 - u_b_5)), (.long (u_a_4 - u_b_4)), (.long (u_a_3 - u_b_3)), (.long (u_a_2 - u_b_2)), (.long (u_a_1 - u_b_1)), (.long (u_a_0 - u_b_0)), (.ref o)])) rfl rfl (hb hBY d_prog_59_method_9_code_46) _ ?_
    show Steps p.tables e below (s₁.setTop (mkF m 47 #[Rv a, Rv b, Rv o] [(.long u_a_6), (.long (u_a_5 - u_b_5)), (.long (u_a_4 - u_b_4)), (.long (u_a_3 - u_b_3)), (.long (u_a_2 - u_b_2)), (.long (u_a_1 - u_b_1)), (.long (u_a_0 - u_b_0)), (.ref o)])) tt_
    refine XS.aloadN X0.here hEX rfl (hb hBY d_prog_59_method_9_code_47) rfl rfl ?_
    show Steps p.tables e below (s₁.setTop (mkF m 48 #[Rv a, Rv b, Rv o] [(.ref b), (.long u_a_6), (.long (u_a_5 - u_b_5)), (.long (u_a_4 - u_b_4)), (.long (u_a_3 - u_b_3)), (.long (u_a_2 - u_b_2)), (.long (u_a_1 - u_b_1)), (.long (u_a_0 - u_b_0)), (.ref o)])) tt_
    refine XS.bipush X0.here hEX rfl (hb hBY d_prog_59_method_9_code_48) ?_
    show Steps p.tables e below (s₁.setTop (mkF m 50 #[Rv a, Rv b, Rv o] [(.int (6 : Int32)), (.ref b), (.long u_a_6), (.long (u_a_5 - u_b_5)), (.long (u_a_4 - u_b_4)), (.long (u_a_3 - u_b_3)), (.long (u_a_2 - u_b_2)), (.long (u_a_1 - u_b_1)), (.long (u_a_0 - u_b_0)), (.ref o)])) tt_
    refine X0.laload hEX (j := (6 : Int32)) (v := (.long u_b_6)) (by rw [e0]; exact Ar_14.1) (State.isArrayOf_alike hZW.alike Ar_14.2.1) Ar_14.2.2 hin_14 hat_14 (g := (mkF m 50 #[Rv a, Rv b, Rv o] [(.int (6 : Int32)), (.ref b), (.long u_a_6), (.long (u_a_5 - u_b_5)), (.long (u_a_4 - u_b_4)), (.long (u_a_3 - u_b_3)), (.long (u_a_2 - u_b_2)), (.long (u_a_1 - u_b_1)), (.long (u_a_0 - u_b_0)), (.ref o)])) rfl rfl (hb hBY d_prog_59_method_9_code_50) _ ?_
    show Steps p.tables e below (s₁.setTop (mkF m 51 #[Rv a, Rv b, Rv o] [(.long u_b_6), (.long u_a_6), (.long (u_a_5 - u_b_5)), (.long (u_a_4 - u_b_4)), (.long (u_a_3 - u_b_3)), (.long (u_a_2 - u_b_2)), (.long (u_a_1 - u_b_1)), (.long (u_a_0 - u_b_0)), (.ref o)])) tt_
    refine XS.lsub X0.here hEX rfl (hb hBY d_prog_59_method_9_code_51) rfl ?_
    show Steps p.tables e below (s₁.setTop (mkF m 52 #[Rv a, Rv b, Rv o] [(.long (u_a_6 - u_b_6)), (.long (u_a_5 - u_b_5)), (.long (u_a_4 - u_b_4)), (.long (u_a_3 - u_b_3)), (.long (u_a_2 - u_b_2)), (.long (u_a_1 - u_b_1)), (.long (u_a_0 - u_b_0)), (.ref o)])) tt_
    refine XS.aloadN X0.here hEX rfl (hb hBY d_prog_59_method_9_code_52) rfl rfl ?_
    show Steps p.tables e below (s₁.setTop (mkF m 53 #[Rv a, Rv b, Rv o] [(.ref a), (.long (u_a_6 - u_b_6)), (.long (u_a_5 - u_b_5)), (.long (u_a_4 - u_b_4)), (.long (u_a_3 - u_b_3)), (.long (u_a_2 - u_b_2)), (.long (u_a_1 - u_b_1)), (.long (u_a_0 - u_b_0)), (.ref o)])) tt_
    refine XS.bipush X0.here hEX rfl (hb hBY d_prog_59_method_9_code_53) ?_
    show Steps p.tables e below (s₁.setTop (mkF m 55 #[Rv a, Rv b, Rv o] [(.int (7 : Int32)), (.ref a), (.long (u_a_6 - u_b_6)), (.long (u_a_5 - u_b_5)), (.long (u_a_4 - u_b_4)), (.long (u_a_3 - u_b_3)), (.long (u_a_2 - u_b_2)), (.long (u_a_1 - u_b_1)), (.long (u_a_0 - u_b_0)), (.ref o)])) tt_
    refine X0.laload hEX (j := (7 : Int32)) (v := (.long u_a_7)) (by rw [e0]; exact Ar_15.1) (State.isArrayOf_alike hZW.alike Ar_15.2.1) Ar_15.2.2 hin_15 hat_15 (g := (mkF m 55 #[Rv a, Rv b, Rv o] [(.int (7 : Int32)), (.ref a), (.long (u_a_6 - u_b_6)), (.long (u_a_5 - u_b_5)), (.long (u_a_4 - u_b_4)), (.long (u_a_3 - u_b_3)), (.long (u_a_2 - u_b_2)), (.long (u_a_1 - u_b_1)), (.long (u_a_0 - u_b_0)), (.ref o)])) rfl rfl (hb hBY d_prog_59_method_9_code_55) _ ?_
    show Steps p.tables e below (s₁.setTop (mkF m 56 #[Rv a, Rv b, Rv o] [(.long u_a_7), (.long (u_a_6 - u_b_6)), (.long (u_a_5 - u_b_5)), (.long (u_a_4 - u_b_4)), (.long (u_a_3 - u_b_3)), (.long (u_a_2 - u_b_2)), (.long (u_a_1 - u_b_1)), (.long (u_a_0 - u_b_0)), (.ref o)])) tt_
    refine XS.aloadN X0.here hEX rfl (hb hBY d_prog_59_method_9_code_56) rfl rfl ?_
    show Steps p.tables e below (s₁.setTop (mkF m 57 #[Rv a, Rv b, Rv o] [(.ref b), (.long u_a_7), (.long (u_a_6 - u_b_6)), (.long (u_a_5 - u_b_5)), (.long (u_a_4 - u_b_4)), (.long (u_a_3 - u_b_3)), (.long (u_a_2 - u_b_2)), (.long (u_a_1 - u_b_1)), (.long (u_a_0 - u_b_0)), (.ref o)])) tt_
    refine XS.bipush X0.here hEX rfl (hb hBY d_prog_59_method_9_code_57) ?_
    show Steps p.tables e below (s₁.setTop (mkF m 59 #[Rv a, Rv b, Rv o] [(.int (7 : Int32)), (.ref b), (.long u_a_7), (.long (u_a_6 - u_b_6)), (.long (u_a_5 - u_b_5)), (.long (u_a_4 - u_b_4)), (.long (u_a_3 - u_b_3)), (.long (u_a_2 - u_b_2)), (.long (u_a_1 - u_b_1)), (.long (u_a_0 - u_b_0)), (.ref o)])) tt_
    refine X0.laload hEX (j := (7 : Int32)) (v := (.long u_b_7)) (by rw [e0]; exact Ar_16.1) (State.isArrayOf_alike hZW.alike Ar_16.2.1) Ar_16.2.2 hin_16 hat_16 (g := (mkF m 59 #[Rv a, Rv b, Rv o] [(.int (7 : Int32)), (.ref b), (.long u_a_7), (.long (u_a_6 - u_b_6)), (.long (u_a_5 - u_b_5)), (.long (u_a_4 - u_b_4)), (.long (u_a_3 - u_b_3)), (.long (u_a_2 - u_b_2)), (.long (u_a_1 - u_b_1)), (.long (u_a_0 - u_b_0)), (.ref o)])) rfl rfl (hb hBY d_prog_59_method_9_code_59) _ ?_
    show Steps p.tables e below (s₁.setTop (mkF m 60 #[Rv a, Rv b, Rv o] [(.long u_b_7), (.long u_a_7), (.long (u_a_6 - u_b_6)), (.long (u_a_5 - u_b_5)), (.long (u_a_4 - u_b_4)), (.long (u_a_3 - u_b_3)), (.long (u_a_2 - u_b_2)), (.long (u_a_1 - u_b_1)), (.long (u_a_0 - u_b_0)), (.ref o)])) tt_
    refine XS.lsub X0.here hEX rfl (hb hBY d_prog_59_method_9_code_60) rfl ?_
    exact kt_
  refine Done.pre sg_17 ?_
  obtain ⟨_, _, ⟨T_18, L_18, k_18, n_18⟩, -, X_18, ⟨Lc_18, hQ_18, l_18, y_18, z_18⟩, st_18⟩ := Jvm.LawKit.callS X0 hEX (y := (⟨"com/example/guard3/guard3/P384Field", "store", "([JJJJJJJJJ)V"⟩ : MethodName)) hOW (mvT hZW (hw _ (List.mem_of_getElem? (i := 14) rfl))) (mvT hZW (hw _ (List.mem_of_getElem? (i := 15) rfl))) (mvT hZW (hw _ (List.mem_of_getElem? (i := 12) rfl))) (mvT hZW (hw _ (List.mem_of_getElem? (i := 16) rfl))) (by decide) (backOf (W := 0) (rm_store l Z aZ hw [] o (u_a_0 - u_b_0) (u_a_1 - u_b_1) (u_a_2 - u_b_2) (u_a_3 - u_b_3) (u_a_4 - u_b_4) (u_a_5 - u_b_5) (u_a_6 - u_b_6) (u_a_7 - u_b_7) k_o u_o_0 u_o_1 u_o_2 u_o_3 u_o_4 u_o_5 u_o_6 u_o_7 h0 n0 (Nat.le_trans Z0 K0.1) A_o go (own_Rup _ _ _ _ _ _ _ _ _ _ (by decide) (own_subb 1125899906842624 (by decide) u_a_0 u_a_1 u_a_2 u_a_3 u_a_4 u_a_5 u_a_6 u_a_7 u_b_0 u_b_1 u_b_2 u_b_3 u_b_4 u_b_5 u_b_6 u_b_7 hRa hRb).1)) hZW (hw _ (List.mem_of_getElem? (i := 16) rfl)) (hw _ (List.mem_of_getElem? (i := 12) rfl)) (by decide) (by decide)) (g := (mkF m 61 #[Rv a, Rv b, Rv o] [(.long (u_a_7 - u_b_7)), (.long (u_a_6 - u_b_6)), (.long (u_a_5 - u_b_5)), (.long (u_a_4 - u_b_4)), (.long (u_a_3 - u_b_3)), (.long (u_a_2 - u_b_2)), (.long (u_a_1 - u_b_1)), (.long (u_a_0 - u_b_0)), (.ref o)])) rfl (by rw [hMX]; rfl) (argsL := [(.ref o), (.long (u_a_0 - u_b_0)), (.long (u_a_1 - u_b_1)), (.long (u_a_2 - u_b_2)), (.long (u_a_3 - u_b_3)), (.long (u_a_4 - u_b_4)), (.long (u_a_5 - u_b_5)), (.long (u_a_6 - u_b_6)), (.long (u_a_7 - u_b_7))]) (rest := []) (lenOf pd___JJJJJJJJJ_V_8 rfl) rfl (by show 2 * 0 + _ ≤ _; exact Nat.le_of_eq rfl) (hb hBY d_prog_59_method_9_code_61) (fun _ _ => ⟨rfl, e0, (by decide : 0 + 0 ≤ _), (by decide : 0 + 0 ≤ _)⟩)
  dsimp only [Pt.U, Pt.locs, Pt.cells, Pt.slots] at X_18 l_18 y_18 z_18 st_18 hQ_18
  subst l_18 y_18 z_18
  obtain ⟨r0__18, r1__18, r2__18, r3__18, r4__18, r5__18, r6__18, r7__18, rfl, N_18q, K_18, hq_18_0, hq_18_1, hq_18_2⟩ := hQ_18
  have N_18 := Fr.app N0 N_18q
  have K__19 : Keep h0 T_18.heap [o] := K0.trans K_18 (allS (Or.inl (List.mem_of_getElem? (i := 0) rfl)) all0)
  have f_20 : Arv Z T_18.heap a k_a .long (8 : Int32) [(.long u_a_0), (.long u_a_1), (.long u_a_2), (.long u_a_3), (.long u_a_4), (.long u_a_5), (.long u_a_6), (.long u_a_7)] (.long (0 : Int64)) := A_a.keep K_18 (ninS ne_a_o nin0)
  have f_21 : Arv Z T_18.heap b k_b .long (8 : Int32) [(.long u_b_0), (.long u_b_1), (.long u_b_2), (.long u_b_3), (.long u_b_4), (.long u_b_5), (.long u_b_6), (.long u_b_7)] (.long (0 : Int64)) := A_b.keep K_18 (ninS ne_b_o nin0)
  refine Done.pre (fun _ k_ => st_18 _ k_) ?_
  show Done _ _ _ _ _ _ _ (T_18.setTop (mkF m 64 #[Rv a, Rv b, Rv o] []))
  exact Done.retV X_18 hEX hLK hRT (hb hBY d_prog_59_method_9_code_64) (by exact ⟨r0__18, r1__18, r2__18, r3__18, r4__18, r5__18, r6__18, r7__18, rfl, N_18, K__19, hq_18_0, hq_18_1, (by have q := hq_18_2; rw [(own_subb 1125899906842624 (by decide) u_a_0 u_a_1 u_a_2 u_a_3 u_a_4 u_a_5 u_a_6 u_a_7 u_b_0 u_b_1 u_b_2 u_b_3 u_b_4 u_b_5 u_b_6 u_b_7 hRa hRb).2] at q; exact q)⟩) (by decide) (by decide)
def Qrm_subtract_aba (Z : State) (a : Addr) (b : Addr) (k_a : ClassId) (u_a_0 : Int64) (u_a_1 : Int64) (u_a_2 : Int64) (u_a_3 : Int64) (u_a_4 : Int64) (u_a_5 : Int64) (u_a_6 : Int64) (u_a_7 : Int64) (k_b : ClassId) (u_b_0 : Int64) (u_b_1 : Int64) (u_b_2 : Int64) (u_b_3 : Int64) (u_b_4 : Int64) (u_b_5 : Int64) (u_b_6 : Int64) (u_b_7 : Int64) (h0 : Heap) (n0 : Nat) (v_ : Option Value) (h_ : Heap) (L_ : List Loc) : Prop := ∃ (r0 : Int64), ∃ (r1 : Int64), ∃ (r2 : Int64), ∃ (r3 : Int64), ∃ (r4 : Int64), ∃ (r5 : Int64), ∃ (r6 : Int64), ∃ (r7 : Int64), v_ = none ∧ Fr n0 L_ ∧ Keep h0 h_ [a] ∧ Arv Z h_ a k_a .long (8 : Int32) [(.long r0), (.long r1), (.long r2), (.long r3), (.long r4), (.long r5), (.long r6), (.long r7)] (.long (0 : Int64)) ∧ own_R 562949953421440 r0 r1 r2 r3 r4 r5 r6 r7 ∧ own_M ((own_W u_a_0 u_a_1 u_a_2 u_a_3 u_a_4 u_a_5 u_a_6 u_a_7 - own_W u_b_0 u_b_1 u_b_2 u_b_3 u_b_4 u_b_5 u_b_6 u_b_7) - own_W r0 r1 r2 r3 r4 r5 r6 r7)
theorem ef_rm_subtract_aba (m : MethodId) (x0 : Addr) (x1 : Addr) (x2 : Addr) : entryFrame m #[(.ref x2), (.ref x1), (.ref x2)] 3 = mkF m 0 #[.val (.ref x2), .val (.ref x1), .val (.ref x2)] [] := by first | (simp [entryFrame, mkF, argsToLocals, Value.category]; done) | rfl
set_option maxRecDepth 65536 in
set_option maxHeartbeats 40000000 in
theorem rm_subtract_aba (l : Launch) (Z : State) (aZ : Array Value) (hw : ∀ d ∈ tables_1, d.before aZ Z = true) (ws : List Jvm.Cond) (a : Addr) (b : Addr) (k_a : ClassId) (u_a_0 : Int64) (u_a_1 : Int64) (u_a_2 : Int64) (u_a_3 : Int64) (u_a_4 : Int64) (u_a_5 : Int64) (u_a_6 : Int64) (u_a_7 : Int64) (k_b : ClassId) (u_b_0 : Int64) (u_b_1 : Int64) (u_b_2 : Int64) (u_b_3 : Int64) (u_b_4 : Int64) (u_b_5 : Int64) (u_b_6 : Int64) (u_b_7 : Int64) (h0 : Heap) (n0 : Nat) (Z0 : n0 ≤ h0.size) (A_a : Arv Z h0 a k_a .long (8 : Int32) [(.long u_a_0), (.long u_a_1), (.long u_a_2), (.long u_a_3), (.long u_a_4), (.long u_a_5), (.long u_a_6), (.long u_a_7)] (.long (0 : Int64))) (A_b : Arv Z h0 b k_b .long (8 : Int32) [(.long u_b_0), (.long u_b_1), (.long u_b_2), (.long u_b_3), (.long u_b_4), (.long u_b_5), (.long u_b_6), (.long u_b_7)] (.long (0 : Int64))) (go : n0 ≤ a) (ne_a_b : a ≠ b) (hRa : own_R 1125899906842624 u_a_0 u_a_1 u_a_2 u_a_3 u_a_4 u_a_5 u_a_6 u_a_7) (hRb : own_R 1125899906842624 u_b_0 u_b_1 u_b_2 u_b_3 u_b_4 u_b_5 u_b_6 u_b_7) :
    MetFree l (⟨"com/example/guard3/guard3/P384Field", "subtract", "([J[J[J)V"⟩ : MethodName) (head1 (Jvm.Cond.code (⟨"com/example/guard3/guard3/P384Field", "subtract", "([J[J[J)V"⟩ : MethodName) prog_59_method_9_code 3 none :: ws) ({ frames := 1, cells := 0, slots := 0, locals := 34 } : Room)) (fun a_ U_ => a_ = #[(.ref a), (.ref b), (.ref a)] ∧ Z.Warmed39 U_.vm ∧ U_.heap = h0) (fun _ _ _ _ _ => True) (fun _ U_ o_ U2_ => ∃ v_ L_, o_ = .returned v_ ∧ Qrm_subtract_aba Z a b k_a u_a_0 u_a_1 u_a_2 u_a_3 u_a_4 u_a_5 u_a_6 u_a_7 k_b u_b_0 u_b_1 u_b_2 u_b_3 u_b_4 u_b_5 u_b_6 u_b_7 h0 n0 v_ U2_.heap L_ ∧ FrameEnd U_ o_ U2_ L_ ({ frames := 1, cells := 0, slots := 0, locals := 34 } : Room).cells ({ frames := 1, cells := 0, slots := 0, locals := 34 } : Room).slots) := by
  refine MetFree.of_bodySF (plainFor_of_name pn_com_example_guard3_guard3_P384Field) hisR ?_
  intro p e s m args below meth cO s₁ Bd hml0 hP hK
  obtain ⟨rfl, hZW, hh⟩ := hP
  have hEX := Bd.exec
  have hBY := Bd.bytes
  have hMX : cO.maxLocals = 3 := hml0
  have hOW : s.vm.findClass "com/example/guard3/guard3/P384Field" = some m.cls := findClass_of_methodNamed Bd.named
  have hNM := (name_of_methodNamed Bd.named Bd.method).1
  have hLK := Bd.notSynchronized
  have hRT := Bd.returns
  have X0 : Stand p l e ({ frames := 1, cells := 0, slots := 0, locals := 34 } : Room) s m #[(.ref a), (.ref b), (.ref a)] below meth cO s₁ [] 0 0 := Stand.of_body Bd
  have e0 : s₁.heap = h0 := by rw [← hh, Bd.state]; rfl
  have N0 := Fr.nil n0
  have K0 : Keep h0 h0 [a] := Keep.refl _ _
  show Done p e below s (Qrm_subtract_aba Z a b k_a u_a_0 u_a_1 u_a_2 u_a_3 u_a_4 u_a_5 u_a_6 u_a_7 k_b u_b_0 u_b_1 u_b_2 u_b_3 u_b_4 u_b_5 u_b_6 u_b_7 h0 n0) ({ frames := 1, cells := 0, slots := 0, locals := 34 } : Room).cells ({ frames := 1, cells := 0, slots := 0, locals := 34 } : Room).slots (s₁.setTop (entryFrame m #[(.ref a), (.ref b), (.ref a)] 3))
  refine Done.pre (fun t_ k_ => castTop (ef_rm_subtract_aba m a b a) k_) ?_
  show Done _ _ _ _ _ _ _ (s₁.setTop (mkF m 0 #[Rv a, Rv b, Rv a] []))
  obtain ⟨cl_1, Ar_1, q_1, S_1, N__1, H_1, G_1⟩ := id A_a
  have hin_1 : ¬ ((0 : Int32) < 0 ∨ cl_1.slots.size ≤ ((0 : Int32)).toNatClampNeg) := inb_of S_1 ⟨by decide, by decide⟩
  have hat_1 : cl_1.slots[((0 : Int32)).toNatClampNeg]? = some (.long u_a_0) := H_1.at hin_1 rfl
  obtain ⟨cl_2, Ar_2, q_2, S_2, N__2, H_2, G_2⟩ := id A_b
  have hin_2 : ¬ ((0 : Int32) < 0 ∨ cl_2.slots.size ≤ ((0 : Int32)).toNatClampNeg) := inb_of S_2 ⟨by decide, by decide⟩
  have hat_2 : cl_2.slots[((0 : Int32)).toNatClampNeg]? = some (.long u_b_0) := H_2.at hin_2 rfl
  obtain ⟨cl_3, Ar_3, q_3, S_3, N__3, H_3, G_3⟩ := id A_a
  have hin_3 : ¬ ((1 : Int32) < 0 ∨ cl_3.slots.size ≤ ((1 : Int32)).toNatClampNeg) := inb_of S_3 ⟨by decide, by decide⟩
  have hat_3 : cl_3.slots[((1 : Int32)).toNatClampNeg]? = some (.long u_a_1) := H_3.at hin_3 rfl
  obtain ⟨cl_4, Ar_4, q_4, S_4, N__4, H_4, G_4⟩ := id A_b
  have hin_4 : ¬ ((1 : Int32) < 0 ∨ cl_4.slots.size ≤ ((1 : Int32)).toNatClampNeg) := inb_of S_4 ⟨by decide, by decide⟩
  have hat_4 : cl_4.slots[((1 : Int32)).toNatClampNeg]? = some (.long u_b_1) := H_4.at hin_4 rfl
  obtain ⟨cl_5, Ar_5, q_5, S_5, N__5, H_5, G_5⟩ := id A_a
  have hin_5 : ¬ ((2 : Int32) < 0 ∨ cl_5.slots.size ≤ ((2 : Int32)).toNatClampNeg) := inb_of S_5 ⟨by decide, by decide⟩
  have hat_5 : cl_5.slots[((2 : Int32)).toNatClampNeg]? = some (.long u_a_2) := H_5.at hin_5 rfl
  obtain ⟨cl_6, Ar_6, q_6, S_6, N__6, H_6, G_6⟩ := id A_b
  have hin_6 : ¬ ((2 : Int32) < 0 ∨ cl_6.slots.size ≤ ((2 : Int32)).toNatClampNeg) := inb_of S_6 ⟨by decide, by decide⟩
  have hat_6 : cl_6.slots[((2 : Int32)).toNatClampNeg]? = some (.long u_b_2) := H_6.at hin_6 rfl
  obtain ⟨cl_7, Ar_7, q_7, S_7, N__7, H_7, G_7⟩ := id A_a
  have hin_7 : ¬ ((3 : Int32) < 0 ∨ cl_7.slots.size ≤ ((3 : Int32)).toNatClampNeg) := inb_of S_7 ⟨by decide, by decide⟩
  have hat_7 : cl_7.slots[((3 : Int32)).toNatClampNeg]? = some (.long u_a_3) := H_7.at hin_7 rfl
  obtain ⟨cl_8, Ar_8, q_8, S_8, N__8, H_8, G_8⟩ := id A_b
  have hin_8 : ¬ ((3 : Int32) < 0 ∨ cl_8.slots.size ≤ ((3 : Int32)).toNatClampNeg) := inb_of S_8 ⟨by decide, by decide⟩
  have hat_8 : cl_8.slots[((3 : Int32)).toNatClampNeg]? = some (.long u_b_3) := H_8.at hin_8 rfl
  obtain ⟨cl_9, Ar_9, q_9, S_9, N__9, H_9, G_9⟩ := id A_a
  have hin_9 : ¬ ((4 : Int32) < 0 ∨ cl_9.slots.size ≤ ((4 : Int32)).toNatClampNeg) := inb_of S_9 ⟨by decide, by decide⟩
  have hat_9 : cl_9.slots[((4 : Int32)).toNatClampNeg]? = some (.long u_a_4) := H_9.at hin_9 rfl
  obtain ⟨cl_10, Ar_10, q_10, S_10, N__10, H_10, G_10⟩ := id A_b
  have hin_10 : ¬ ((4 : Int32) < 0 ∨ cl_10.slots.size ≤ ((4 : Int32)).toNatClampNeg) := inb_of S_10 ⟨by decide, by decide⟩
  have hat_10 : cl_10.slots[((4 : Int32)).toNatClampNeg]? = some (.long u_b_4) := H_10.at hin_10 rfl
  obtain ⟨cl_11, Ar_11, q_11, S_11, N__11, H_11, G_11⟩ := id A_a
  have hin_11 : ¬ ((5 : Int32) < 0 ∨ cl_11.slots.size ≤ ((5 : Int32)).toNatClampNeg) := inb_of S_11 ⟨by decide, by decide⟩
  have hat_11 : cl_11.slots[((5 : Int32)).toNatClampNeg]? = some (.long u_a_5) := H_11.at hin_11 rfl
  obtain ⟨cl_12, Ar_12, q_12, S_12, N__12, H_12, G_12⟩ := id A_b
  have hin_12 : ¬ ((5 : Int32) < 0 ∨ cl_12.slots.size ≤ ((5 : Int32)).toNatClampNeg) := inb_of S_12 ⟨by decide, by decide⟩
  have hat_12 : cl_12.slots[((5 : Int32)).toNatClampNeg]? = some (.long u_b_5) := H_12.at hin_12 rfl
  obtain ⟨cl_13, Ar_13, q_13, S_13, N__13, H_13, G_13⟩ := id A_a
  have hin_13 : ¬ ((6 : Int32) < 0 ∨ cl_13.slots.size ≤ ((6 : Int32)).toNatClampNeg) := inb_of S_13 ⟨by decide, by decide⟩
  have hat_13 : cl_13.slots[((6 : Int32)).toNatClampNeg]? = some (.long u_a_6) := H_13.at hin_13 rfl
  obtain ⟨cl_14, Ar_14, q_14, S_14, N__14, H_14, G_14⟩ := id A_b
  have hin_14 : ¬ ((6 : Int32) < 0 ∨ cl_14.slots.size ≤ ((6 : Int32)).toNatClampNeg) := inb_of S_14 ⟨by decide, by decide⟩
  have hat_14 : cl_14.slots[((6 : Int32)).toNatClampNeg]? = some (.long u_b_6) := H_14.at hin_14 rfl
  obtain ⟨cl_15, Ar_15, q_15, S_15, N__15, H_15, G_15⟩ := id A_a
  have hin_15 : ¬ ((7 : Int32) < 0 ∨ cl_15.slots.size ≤ ((7 : Int32)).toNatClampNeg) := inb_of S_15 ⟨by decide, by decide⟩
  have hat_15 : cl_15.slots[((7 : Int32)).toNatClampNeg]? = some (.long u_a_7) := H_15.at hin_15 rfl
  obtain ⟨cl_16, Ar_16, q_16, S_16, N__16, H_16, G_16⟩ := id A_b
  have hin_16 : ¬ ((7 : Int32) < 0 ∨ cl_16.slots.size ≤ ((7 : Int32)).toNatClampNeg) := inb_of S_16 ⟨by decide, by decide⟩
  have hat_16 : cl_16.slots[((7 : Int32)).toNatClampNeg]? = some (.long u_b_7) := H_16.at hin_16 rfl
  have sg_17 : ∀ tt_, Steps p.tables e below (s₁.setTop (mkF m 61 #[Rv a, Rv b, Rv a] [(.long (u_a_7 - u_b_7)), (.long (u_a_6 - u_b_6)), (.long (u_a_5 - u_b_5)), (.long (u_a_4 - u_b_4)), (.long (u_a_3 - u_b_3)), (.long (u_a_2 - u_b_2)), (.long (u_a_1 - u_b_1)), (.long (u_a_0 - u_b_0)), (.ref a)])) tt_ → Steps p.tables e below (s₁.setTop (mkF m 0 #[Rv a, Rv b, Rv a] [])) tt_ := by
    intro tt_ kt_
    refine XS.aloadN X0.here hEX rfl (hb hBY d_prog_59_method_9_code_0) rfl rfl ?_
    show Steps p.tables e below (s₁.setTop (mkF m 1 #[Rv a, Rv b, Rv a] [(.ref a)])) tt_
    refine XS.aloadN X0.here hEX rfl (hb hBY d_prog_59_method_9_code_1) rfl rfl ?_
    show Steps p.tables e below (s₁.setTop (mkF m 2 #[Rv a, Rv b, Rv a] [(.ref a), (.ref a)])) tt_
    refine XS.iconst X0.here hEX rfl (hb hBY d_prog_59_method_9_code_2) ?_
    show Steps p.tables e below (s₁.setTop (mkF m 3 #[Rv a, Rv b, Rv a] [(.int (0 : Int32)), (.ref a), (.ref a)])) tt_
    refine X0.laload hEX (j := (0 : Int32)) (v := (.long u_a_0)) (by rw [e0]; exact Ar_1.1) (State.isArrayOf_alike hZW.alike Ar_1.2.1) Ar_1.2.2 hin_1 hat_1 (g := (mkF m 3 #[Rv a, Rv b, Rv a] [(.int (0 : Int32)), (.ref a), (.ref a)])) rfl rfl (hb hBY d_prog_59_method_9_code_3) _ ?_
    show Steps p.tables e below (s₁.setTop (mkF m 4 #[Rv a, Rv b, Rv a] [(.long u_a_0), (.ref a)])) tt_
    refine XS.aloadN X0.here hEX rfl (hb hBY d_prog_59_method_9_code_4) rfl rfl ?_
    show Steps p.tables e below (s₁.setTop (mkF m 5 #[Rv a, Rv b, Rv a] [(.ref b), (.long u_a_0), (.ref a)])) tt_
    refine XS.iconst X0.here hEX rfl (hb hBY d_prog_59_method_9_code_5) ?_
    show Steps p.tables e below (s₁.setTop (mkF m 6 #[Rv a, Rv b, Rv a] [(.int (0 : Int32)), (.ref b), (.long u_a_0), (.ref a)])) tt_
    refine X0.laload hEX (j := (0 : Int32)) (v := (.long u_b_0)) (by rw [e0]; exact Ar_2.1) (State.isArrayOf_alike hZW.alike Ar_2.2.1) Ar_2.2.2 hin_2 hat_2 (g := (mkF m 6 #[Rv a, Rv b, Rv a] [(.int (0 : Int32)), (.ref b), (.long u_a_0), (.ref a)])) rfl rfl (hb hBY d_prog_59_method_9_code_6) _ ?_
    show Steps p.tables e below (s₁.setTop (mkF m 7 #[Rv a, Rv b, Rv a] [(.long u_b_0), (.long u_a_0), (.ref a)])) tt_
    refine XS.lsub X0.here hEX rfl (hb hBY d_prog_59_method_9_code_7) rfl ?_
    show Steps p.tables e below (s₁.setTop (mkF m 8 #[Rv a, Rv b, Rv a] [(.long (u_a_0 - u_b_0)), (.ref a)])) tt_
    refine XS.aloadN X0.here hEX rfl (hb hBY d_prog_59_method_9_code_8) rfl rfl ?_
    show Steps p.tables e below (s₁.setTop (mkF m 9 #[Rv a, Rv b, Rv a] [(.ref a), (.long (u_a_0 - u_b_0)), (.ref a)])) tt_
    refine XS.iconst X0.here hEX rfl (hb hBY d_prog_59_method_9_code_9) ?_
    show Steps p.tables e below (s₁.setTop (mkF m 10 #[Rv a, Rv b, Rv a] [(.int (1 : Int32)), (.ref a), (.long (u_a_0 - u_b_0)), (.ref a)])) tt_
    refine X0.laload hEX (j := (1 : Int32)) (v := (.long u_a_1)) (by rw [e0]; exact Ar_3.1) (State.isArrayOf_alike hZW.alike Ar_3.2.1) Ar_3.2.2 hin_3 hat_3 (g := (mkF m 10 #[Rv a, Rv b, Rv a] [(.int (1 : Int32)), (.ref a), (.long (u_a_0 - u_b_0)), (.ref a)])) rfl rfl (hb hBY d_prog_59_method_9_code_10) _ ?_
    show Steps p.tables e below (s₁.setTop (mkF m 11 #[Rv a, Rv b, Rv a] [(.long u_a_1), (.long (u_a_0 - u_b_0)), (.ref a)])) tt_
    refine XS.aloadN X0.here hEX rfl (hb hBY d_prog_59_method_9_code_11) rfl rfl ?_
    show Steps p.tables e below (s₁.setTop (mkF m 12 #[Rv a, Rv b, Rv a] [(.ref b), (.long u_a_1), (.long (u_a_0 - u_b_0)), (.ref a)])) tt_
    refine XS.iconst X0.here hEX rfl (hb hBY d_prog_59_method_9_code_12) ?_
    show Steps p.tables e below (s₁.setTop (mkF m 13 #[Rv a, Rv b, Rv a] [(.int (1 : Int32)), (.ref b), (.long u_a_1), (.long (u_a_0 - u_b_0)), (.ref a)])) tt_
    refine X0.laload hEX (j := (1 : Int32)) (v := (.long u_b_1)) (by rw [e0]; exact Ar_4.1) (State.isArrayOf_alike hZW.alike Ar_4.2.1) Ar_4.2.2 hin_4 hat_4 (g := (mkF m 13 #[Rv a, Rv b, Rv a] [(.int (1 : Int32)), (.ref b), (.long u_a_1), (.long (u_a_0 - u_b_0)), (.ref a)])) rfl rfl (hb hBY d_prog_59_method_9_code_13) _ ?_
    show Steps p.tables e below (s₁.setTop (mkF m 14 #[Rv a, Rv b, Rv a] [(.long u_b_1), (.long u_a_1), (.long (u_a_0 - u_b_0)), (.ref a)])) tt_
    refine XS.lsub X0.here hEX rfl (hb hBY d_prog_59_method_9_code_14) rfl ?_
    show Steps p.tables e below (s₁.setTop (mkF m 15 #[Rv a, Rv b, Rv a] [(.long (u_a_1 - u_b_1)), (.long (u_a_0 - u_b_0)), (.ref a)])) tt_
    refine XS.aloadN X0.here hEX rfl (hb hBY d_prog_59_method_9_code_15) rfl rfl ?_
    show Steps p.tables e below (s₁.setTop (mkF m 16 #[Rv a, Rv b, Rv a] [(.ref a), (.long (u_a_1 - u_b_1)), (.long (u_a_0 - u_b_0)), (.ref a)])) tt_
    refine XS.iconst X0.here hEX rfl (hb hBY d_prog_59_method_9_code_16) ?_
    show Steps p.tables e below (s₁.setTop (mkF m 17 #[Rv a, Rv b, Rv a] [(.int (2 : Int32)), (.ref a), (.long (u_a_1 - u_b_1)), (.long (u_a_0 - u_b_0)), (.ref a)])) tt_
    refine X0.laload hEX (j := (2 : Int32)) (v := (.long u_a_2)) (by rw [e0]; exact Ar_5.1) (State.isArrayOf_alike hZW.alike Ar_5.2.1) Ar_5.2.2 hin_5 hat_5 (g := (mkF m 17 #[Rv a, Rv b, Rv a] [(.int (2 : Int32)), (.ref a), (.long (u_a_1 - u_b_1)), (.long (u_a_0 - u_b_0)), (.ref a)])) rfl rfl (hb hBY d_prog_59_method_9_code_17) _ ?_
    show Steps p.tables e below (s₁.setTop (mkF m 18 #[Rv a, Rv b, Rv a] [(.long u_a_2), (.long (u_a_1 - u_b_1)), (.long (u_a_0 - u_b_0)), (.ref a)])) tt_
    refine XS.aloadN X0.here hEX rfl (hb hBY d_prog_59_method_9_code_18) rfl rfl ?_
    show Steps p.tables e below (s₁.setTop (mkF m 19 #[Rv a, Rv b, Rv a] [(.ref b), (.long u_a_2), (.long (u_a_1 - u_b_1)), (.long (u_a_0 - u_b_0)), (.ref a)])) tt_
    refine XS.iconst X0.here hEX rfl (hb hBY d_prog_59_method_9_code_19) ?_
    show Steps p.tables e below (s₁.setTop (mkF m 20 #[Rv a, Rv b, Rv a] [(.int (2 : Int32)), (.ref b), (.long u_a_2), (.long (u_a_1 - u_b_1)), (.long (u_a_0 - u_b_0)), (.ref a)])) tt_
    refine X0.laload hEX (j := (2 : Int32)) (v := (.long u_b_2)) (by rw [e0]; exact Ar_6.1) (State.isArrayOf_alike hZW.alike Ar_6.2.1) Ar_6.2.2 hin_6 hat_6 (g := (mkF m 20 #[Rv a, Rv b, Rv a] [(.int (2 : Int32)), (.ref b), (.long u_a_2), (.long (u_a_1 - u_b_1)), (.long (u_a_0 - u_b_0)), (.ref a)])) rfl rfl (hb hBY d_prog_59_method_9_code_20) _ ?_
    show Steps p.tables e below (s₁.setTop (mkF m 21 #[Rv a, Rv b, Rv a] [(.long u_b_2), (.long u_a_2), (.long (u_a_1 - u_b_1)), (.long (u_a_0 - u_b_0)), (.ref a)])) tt_
    refine XS.lsub X0.here hEX rfl (hb hBY d_prog_59_method_9_code_21) rfl ?_
    show Steps p.tables e below (s₁.setTop (mkF m 22 #[Rv a, Rv b, Rv a] [(.long (u_a_2 - u_b_2)), (.long (u_a_1 - u_b_1)), (.long (u_a_0 - u_b_0)), (.ref a)])) tt_
    refine XS.aloadN X0.here hEX rfl (hb hBY d_prog_59_method_9_code_22) rfl rfl ?_
    show Steps p.tables e below (s₁.setTop (mkF m 23 #[Rv a, Rv b, Rv a] [(.ref a), (.long (u_a_2 - u_b_2)), (.long (u_a_1 - u_b_1)), (.long (u_a_0 - u_b_0)), (.ref a)])) tt_
    refine XS.iconst X0.here hEX rfl (hb hBY d_prog_59_method_9_code_23) ?_
    show Steps p.tables e below (s₁.setTop (mkF m 24 #[Rv a, Rv b, Rv a] [(.int (3 : Int32)), (.ref a), (.long (u_a_2 - u_b_2)), (.long (u_a_1 - u_b_1)), (.long (u_a_0 - u_b_0)), (.ref a)])) tt_
    refine X0.laload hEX (j := (3 : Int32)) (v := (.long u_a_3)) (by rw [e0]; exact Ar_7.1) (State.isArrayOf_alike hZW.alike Ar_7.2.1) Ar_7.2.2 hin_7 hat_7 (g := (mkF m 24 #[Rv a, Rv b, Rv a] [(.int (3 : Int32)), (.ref a), (.long (u_a_2 - u_b_2)), (.long (u_a_1 - u_b_1)), (.long (u_a_0 - u_b_0)), (.ref a)])) rfl rfl (hb hBY d_prog_59_method_9_code_24) _ ?_
    show Steps p.tables e below (s₁.setTop (mkF m 25 #[Rv a, Rv b, Rv a] [(.long u_a_3), (.long (u_a_2 - u_b_2)), (.long (u_a_1 - u_b_1)), (.long (u_a_0 - u_b_0)), (.ref a)])) tt_
    refine XS.aloadN X0.here hEX rfl (hb hBY d_prog_59_method_9_code_25) rfl rfl ?_
    show Steps p.tables e below (s₁.setTop (mkF m 26 #[Rv a, Rv b, Rv a] [(.ref b), (.long u_a_3), (.long (u_a_2 - u_b_2)), (.long (u_a_1 - u_b_1)), (.long (u_a_0 - u_b_0)), (.ref a)])) tt_
    refine XS.iconst X0.here hEX rfl (hb hBY d_prog_59_method_9_code_26) ?_
    show Steps p.tables e below (s₁.setTop (mkF m 27 #[Rv a, Rv b, Rv a] [(.int (3 : Int32)), (.ref b), (.long u_a_3), (.long (u_a_2 - u_b_2)), (.long (u_a_1 - u_b_1)), (.long (u_a_0 - u_b_0)), (.ref a)])) tt_
    refine X0.laload hEX (j := (3 : Int32)) (v := (.long u_b_3)) (by rw [e0]; exact Ar_8.1) (State.isArrayOf_alike hZW.alike Ar_8.2.1) Ar_8.2.2 hin_8 hat_8 (g := (mkF m 27 #[Rv a, Rv b, Rv a] [(.int (3 : Int32)), (.ref b), (.long u_a_3), (.long (u_a_2 - u_b_2)), (.long (u_a_1 - u_b_1)), (.long (u_a_0 - u_b_0)), (.ref a)])) rfl rfl (hb hBY d_prog_59_method_9_code_27) _ ?_
    show Steps p.tables e below (s₁.setTop (mkF m 28 #[Rv a, Rv b, Rv a] [(.long u_b_3), (.long u_a_3), (.long (u_a_2 - u_b_2)), (.long (u_a_1 - u_b_1)), (.long (u_a_0 - u_b_0)), (.ref a)])) tt_
    refine XS.lsub X0.here hEX rfl (hb hBY d_prog_59_method_9_code_28) rfl ?_
    show Steps p.tables e below (s₁.setTop (mkF m 29 #[Rv a, Rv b, Rv a] [(.long (u_a_3 - u_b_3)), (.long (u_a_2 - u_b_2)), (.long (u_a_1 - u_b_1)), (.long (u_a_0 - u_b_0)), (.ref a)])) tt_
    refine XS.aloadN X0.here hEX rfl (hb hBY d_prog_59_method_9_code_29) rfl rfl ?_
    show Steps p.tables e below (s₁.setTop (mkF m 30 #[Rv a, Rv b, Rv a] [(.ref a), (.long (u_a_3 - u_b_3)), (.long (u_a_2 - u_b_2)), (.long (u_a_1 - u_b_1)), (.long (u_a_0 - u_b_0)), (.ref a)])) tt_
    refine XS.iconst X0.here hEX rfl (hb hBY d_prog_59_method_9_code_30) ?_
    show Steps p.tables e below (s₁.setTop (mkF m 31 #[Rv a, Rv b, Rv a] [(.int (4 : Int32)), (.ref a), (.long (u_a_3 - u_b_3)), (.long (u_a_2 - u_b_2)), (.long (u_a_1 - u_b_1)), (.long (u_a_0 - u_b_0)), (.ref a)])) tt_
    refine X0.laload hEX (j := (4 : Int32)) (v := (.long u_a_4)) (by rw [e0]; exact Ar_9.1) (State.isArrayOf_alike hZW.alike Ar_9.2.1) Ar_9.2.2 hin_9 hat_9 (g := (mkF m 31 #[Rv a, Rv b, Rv a] [(.int (4 : Int32)), (.ref a), (.long (u_a_3 - u_b_3)), (.long (u_a_2 - u_b_2)), (.long (u_a_1 - u_b_1)), (.long (u_a_0 - u_b_0)), (.ref a)])) rfl rfl (hb hBY d_prog_59_method_9_code_31) _ ?_
    show Steps p.tables e below (s₁.setTop (mkF m 32 #[Rv a, Rv b, Rv a] [(.long u_a_4), (.long (u_a_3 - u_b_3)), (.long (u_a_2 - u_b_2)), (.long (u_a_1 - u_b_1)), (.long (u_a_0 - u_b_0)), (.ref a)])) tt_
    refine XS.aloadN X0.here hEX rfl (hb hBY d_prog_59_method_9_code_32) rfl rfl ?_
    show Steps p.tables e below (s₁.setTop (mkF m 33 #[Rv a, Rv b, Rv a] [(.ref b), (.long u_a_4), (.long (u_a_3 - u_b_3)), (.long (u_a_2 - u_b_2)), (.long (u_a_1 - u_b_1)), (.long (u_a_0 - u_b_0)), (.ref a)])) tt_
    refine XS.iconst X0.here hEX rfl (hb hBY d_prog_59_method_9_code_33) ?_
    show Steps p.tables e below (s₁.setTop (mkF m 34 #[Rv a, Rv b, Rv a] [(.int (4 : Int32)), (.ref b), (.long u_a_4), (.long (u_a_3 - u_b_3)), (.long (u_a_2 - u_b_2)), (.long (u_a_1 - u_b_1)), (.long (u_a_0 - u_b_0)), (.ref a)])) tt_
    refine X0.laload hEX (j := (4 : Int32)) (v := (.long u_b_4)) (by rw [e0]; exact Ar_10.1) (State.isArrayOf_alike hZW.alike Ar_10.2.1) Ar_10.2.2 hin_10 hat_10 (g := (mkF m 34 #[Rv a, Rv b, Rv a] [(.int (4 : Int32)), (.ref b), (.long u_a_4), (.long (u_a_3 - u_b_3)), (.long (u_a_2 - u_b_2)), (.long (u_a_1 - u_b_1)), (.long (u_a_0 - u_b_0)), (.ref a)])) rfl rfl (hb hBY d_prog_59_method_9_code_34) _ ?_
    show Steps p.tables e below (s₁.setTop (mkF m 35 #[Rv a, Rv b, Rv a] [(.long u_b_4), (.long u_a_4), (.long (u_a_3 - u_b_3)), (.long (u_a_2 - u_b_2)), (.long (u_a_1 - u_b_1)), (.long (u_a_0 - u_b_0)), (.ref a)])) tt_
    refine XS.lsub X0.here hEX rfl (hb hBY d_prog_59_method_9_code_35) rfl ?_
    show Steps p.tables e below (s₁.setTop (mkF m 36 #[Rv a, Rv b, Rv a] [(.long (u_a_4 - u_b_4)), (.long (u_a_3 - u_b_3)), (.long (u_a_2 - u_b_2)), (.long (u_a_1 - u_b_1)), (.long (u_a_0 - u_b_0)), (.ref a)])) tt_
    refine XS.aloadN X0.here hEX rfl (hb hBY d_prog_59_method_9_code_36) rfl rfl ?_
    show Steps p.tables e below (s₁.setTop (mkF m 37 #[Rv a, Rv b, Rv a] [(.ref a), (.long (u_a_4 - u_b_4)), (.long (u_a_3 - u_b_3)), (.long (u_a_2 - u_b_2)), (.long (u_a_1 - u_b_1)), (.long (u_a_0 - u_b_0)), (.ref a)])) tt_
    refine XS.iconst X0.here hEX rfl (hb hBY d_prog_59_method_9_code_37) ?_
    show Steps p.tables e below (s₁.setTop (mkF m 38 #[Rv a, Rv b, Rv a] [(.int (5 : Int32)), (.ref a), (.long (u_a_4 - u_b_4)), (.long (u_a_3 - u_b_3)), (.long (u_a_2 - u_b_2)), (.long (u_a_1 - u_b_1)), (.long (u_a_0 - u_b_0)), (.ref a)])) tt_
    refine X0.laload hEX (j := (5 : Int32)) (v := (.long u_a_5)) (by rw [e0]; exact Ar_11.1) (State.isArrayOf_alike hZW.alike Ar_11.2.1) Ar_11.2.2 hin_11 hat_11 (g := (mkF m 38 #[Rv a, Rv b, Rv a] [(.int (5 : Int32)), (.ref a), (.long (u_a_4 - u_b_4)), (.long (u_a_3 - u_b_3)), (.long (u_a_2 - u_b_2)), (.long (u_a_1 - u_b_1)), (.long (u_a_0 - u_b_0)), (.ref a)])) rfl rfl (hb hBY d_prog_59_method_9_code_38) _ ?_
    show Steps p.tables e below (s₁.setTop (mkF m 39 #[Rv a, Rv b, Rv a] [(.long u_a_5), (.long (u_a_4 - u_b_4)), (.long (u_a_3 - u_b_3)), (.long (u_a_2 - u_b_2)), (.long (u_a_1 - u_b_1)), (.long (u_a_0 - u_b_0)), (.ref a)])) tt_
    refine XS.aloadN X0.here hEX rfl (hb hBY d_prog_59_method_9_code_39) rfl rfl ?_
    show Steps p.tables e below (s₁.setTop (mkF m 40 #[Rv a, Rv b, Rv a] [(.ref b), (.long u_a_5), (.long (u_a_4 - u_b_4)), (.long (u_a_3 - u_b_3)), (.long (u_a_2 - u_b_2)), (.long (u_a_1 - u_b_1)), (.long (u_a_0 - u_b_0)), (.ref a)])) tt_
    refine XS.iconst X0.here hEX rfl (hb hBY d_prog_59_method_9_code_40) ?_
    show Steps p.tables e below (s₁.setTop (mkF m 41 #[Rv a, Rv b, Rv a] [(.int (5 : Int32)), (.ref b), (.long u_a_5), (.long (u_a_4 - u_b_4)), (.long (u_a_3 - u_b_3)), (.long (u_a_2 - u_b_2)), (.long (u_a_1 - u_b_1)), (.long (u_a_0 - u_b_0)), (.ref a)])) tt_
    refine X0.laload hEX (j := (5 : Int32)) (v := (.long u_b_5)) (by rw [e0]; exact Ar_12.1) (State.isArrayOf_alike hZW.alike Ar_12.2.1) Ar_12.2.2 hin_12 hat_12 (g := (mkF m 41 #[Rv a, Rv b, Rv a] [(.int (5 : Int32)), (.ref b), (.long u_a_5), (.long (u_a_4 - u_b_4)), (.long (u_a_3 - u_b_3)), (.long (u_a_2 - u_b_2)), (.long (u_a_1 - u_b_1)), (.long (u_a_0 - u_b_0)), (.ref a)])) rfl rfl (hb hBY d_prog_59_method_9_code_41) _ ?_
    show Steps p.tables e below (s₁.setTop (mkF m 42 #[Rv a, Rv b, Rv a] [(.long u_b_5), (.long u_a_5), (.long (u_a_4 - u_b_4)), (.long (u_a_3 - u_b_3)), (.long (u_a_2 - u_b_2)), (.long (u_a_1 - u_b_1)), (.long (u_a_0 - u_b_0)), (.ref a)])) tt_
    refine XS.lsub X0.here hEX rfl (hb hBY d_prog_59_method_9_code_42) rfl ?_
    show Steps p.tables e below (s₁.setTop (mkF m 43 #[Rv a, Rv b, Rv a] [(.long (u_a_5 - u_b_5)), (.long (u_a_4 - u_b_4)), (.long (u_a_3 - u_b_3)), (.long (u_a_2 - u_b_2)), (.long (u_a_1 - u_b_1)), (.long (u_a_0 - u_b_0)), (.ref a)])) tt_
    refine XS.aloadN X0.here hEX rfl (hb hBY d_prog_59_method_9_code_43) rfl rfl ?_
    show Steps p.tables e below (s₁.setTop (mkF m 44 #[Rv a, Rv b, Rv a] [(.ref a), (.long (u_a_5 - u_b_5)), (.long (u_a_4 - u_b_4)), (.long (u_a_3 - u_b_3)), (.long (u_a_2 - u_b_2)), (.long (u_a_1 - u_b_1)), (.long (u_a_0 - u_b_0)), (.ref a)])) tt_
    refine XS.bipush X0.here hEX rfl (hb hBY d_prog_59_method_9_code_44) ?_
    show Steps p.tables e below (s₁.setTop (mkF m 46 #[Rv a, Rv b, Rv a] [(.int (6 : Int32)), (.ref a), (.long (u_a_5 - u_b_5)), (.long (u_a_4 - u_b_4)), (.long (u_a_3 - u_b_3)), (.long (u_a_2 - u_b_2)), (.long (u_a_1 - u_b_1)), (.long (u_a_0 - u_b_0)), (.ref a)])) tt_
    refine X0.laload hEX (j := (6 : Int32)) (v := (.long u_a_6)) (by rw [e0]; exact Ar_13.1) (State.isArrayOf_alike hZW.alike Ar_13.2.1) Ar_13.2.2 hin_13 hat_13 (g := (mkF m 46 #[Rv a, Rv b, Rv a] [(.int (6 : Int32)), (.ref a), (.long (u_a_5 - u_b_5)), (.long (u_a_4 - u_b_4)), (.long (u_a_3 - u_b_3)), (.long (u_a_2 - u_b_2)), (.long (u_a_1 - u_b_1)), (.long (u_a_0 - u_b_0)), (.ref a)])) rfl rfl (hb hBY d_prog_59_method_9_code_46) _ ?_
    show Steps p.tables e below (s₁.setTop (mkF m 47 #[Rv a, Rv b, Rv a] [(.long u_a_6), (.long (u_a_5 - u_b_5)), (.long (u_a_4 - u_b_4)), (.long (u_a_3 - u_b_3)), (.long (u_a_2 - u_b_2)), (.long (u_a_1 - u_b_1)), (.long (u_a_0 - u_b_0)), (.ref a)])) tt_
    refine XS.aloadN X0.here hEX rfl (hb hBY d_prog_59_method_9_code_47) rfl rfl ?_
    show Steps p.tables e below (s₁.setTop (mkF m 48 #[Rv a, Rv b, Rv a] [(.ref b), (.long u_a_6), (.long (u_a_5 - u_b_5)), (.long (u_a_4 - u_b_4)), (.long (u_a_3 - u_b_3)), (.long (u_a_2 - u_b_2)), (.long (u_a_1 - u_b_1)), (.long (u_a_0 - u_b_0)), (.ref a)])) tt_
    refine XS.bipush X0.here hEX rfl (hb hBY d_prog_59_method_9_code_48) ?_
    show Steps p.tables e below (s₁.setTop (mkF m 50 #[Rv a, Rv b, Rv a] [(.int (6 : Int32)), (.ref b), (.long u_a_6), (.long (u_a_5 - u_b_5)), (.long (u_a_4 - u_b_4)), (.long (u_a_3 - u_b_3)), (.long (u_a_2 - u_b_2)), (.long (u_a_1 - u_b_1)), (.long (u_a_0 - u_b_0)), (.ref a)])) tt_
    refine X0.laload hEX (j := (6 : Int32)) (v := (.long u_b_6)) (by rw [e0]; exact Ar_14.1) (State.isArrayOf_alike hZW.alike Ar_14.2.1) Ar_14.2.2 hin_14 hat_14 (g := (mkF m 50 #[Rv a, Rv b, Rv a] [(.int (6 : Int32)), (.ref b), (.long u_a_6), (.long (u_a_5 - u_b_5)), (.long (u_a_4 - u_b_4)), (.long (u_a_3 - u_b_3)), (.long (u_a_2 - u_b_2)), (.long (u_a_1 - u_b_1)), (.long (u_a_0 - u_b_0)), (.ref a)])) rfl rfl (hb hBY d_prog_59_method_9_code_50) _ ?_
    show Steps p.tables e below (s₁.setTop (mkF m 51 #[Rv a, Rv b, Rv a] [(.long u_b_6), (.long u_a_6), (.long (u_a_5 - u_b_5)), (.long (u_a_4 - u_b_4)), (.long (u_a_3 - u_b_3)), (.long (u_a_2 - u_b_2)), (.long (u_a_1 - u_b_1)), (.long (u_a_0 - u_b_0)), (.ref a)])) tt_
    refine XS.lsub X0.here hEX rfl (hb hBY d_prog_59_method_9_code_51) rfl ?_
    show Steps p.tables e below (s₁.setTop (mkF m 52 #[Rv a, Rv b, Rv a] [(.long (u_a_6 - u_b_6)), (.long (u_a_5 - u_b_5)), (.long (u_a_4 - u_b_4)), (.long (u_a_3 - u_b_3)), (.long (u_a_2 - u_b_2)), (.long (u_a_1 - u_b_1)), (.long (u_a_0 - u_b_0)), (.ref a)])) tt_
    refine XS.aloadN X0.here hEX rfl (hb hBY d_prog_59_method_9_code_52) rfl rfl ?_
    show Steps p.tables e below (s₁.setTop (mkF m 53 #[Rv a, Rv b, Rv a] [(.ref a), (.long (u_a_6 - u_b_6)), (.long (u_a_5 - u_b_5)), (.long (u_a_4 - u_b_4)), (.long (u_a_3 - u_b_3)), (.long (u_a_2 - u_b_2)), (.long (u_a_1 - u_b_1)), (.long (u_a_0 - u_b_0)), (.ref a)])) tt_
    refine XS.bipush X0.here hEX rfl (hb hBY d_prog_59_method_9_code_53) ?_
    show Steps p.tables e below (s₁.setTop (mkF m 55 #[Rv a, Rv b, Rv a] [(.int (7 : Int32)), (.ref a), (.long (u_a_6 - u_b_6)), (.long (u_a_5 - u_b_5)), (.long (u_a_4 - u_b_4)), (.long (u_a_3 - u_b_3)), (.long (u_a_2 - u_b_2)), (.long (u_a_1 - u_b_1)), (.long (u_a_0 - u_b_0)), (.ref a)])) tt_
    refine X0.laload hEX (j := (7 : Int32)) (v := (.long u_a_7)) (by rw [e0]; exact Ar_15.1) (State.isArrayOf_alike hZW.alike Ar_15.2.1) Ar_15.2.2 hin_15 hat_15 (g := (mkF m 55 #[Rv a, Rv b, Rv a] [(.int (7 : Int32)), (.ref a), (.long (u_a_6 - u_b_6)), (.long (u_a_5 - u_b_5)), (.long (u_a_4 - u_b_4)), (.long (u_a_3 - u_b_3)), (.long (u_a_2 - u_b_2)), (.long (u_a_1 - u_b_1)), (.long (u_a_0 - u_b_0)), (.ref a)])) rfl rfl (hb hBY d_prog_59_method_9_code_55) _ ?_
    show Steps p.tables e below (s₁.setTop (mkF m 56 #[Rv a, Rv b, Rv a] [(.long u_a_7), (.long (u_a_6 - u_b_6)), (.long (u_a_5 - u_b_5)), (.long (u_a_4 - u_b_4)), (.long (u_a_3 - u_b_3)), (.long (u_a_2 - u_b_2)), (.long (u_a_1 - u_b_1)), (.long (u_a_0 - u_b_0)), (.ref a)])) tt_
    refine XS.aloadN X0.here hEX rfl (hb hBY d_prog_59_method_9_code_56) rfl rfl ?_
    show Steps p.tables e below (s₁.setTop (mkF m 57 #[Rv a, Rv b, Rv a] [(.ref b), (.long u_a_7), (.long (u_a_6 - u_b_6)), (.long (u_a_5 - u_b_5)), (.long (u_a_4 - u_b_4)), (.long (u_a_3 - u_b_3)), (.long (u_a_2 - u_b_2)), (.long (u_a_1 - u_b_1)), (.long (u_a_0 - u_b_0)), (.ref a)])) tt_
    refine XS.bipush X0.here hEX rfl (hb hBY d_prog_59_method_9_code_57) ?_
    show Steps p.tables e below (s₁.setTop (mkF m 59 #[Rv a, Rv b, Rv a] [(.int (7 : Int32)), (.ref b), (.long u_a_7), (.long (u_a_6 - u_b_6)), (.long (u_a_5 - u_b_5)), (.long (u_a_4 - u_b_4)), (.long (u_a_3 - u_b_3)), (.long (u_a_2 - u_b_2)), (.long (u_a_1 - u_b_1)), (.long (u_a_0 - u_b_0)), (.ref a)])) tt_
    refine X0.laload hEX (j := (7 : Int32)) (v := (.long u_b_7)) (by rw [e0]; exact Ar_16.1) (State.isArrayOf_alike hZW.alike Ar_16.2.1) Ar_16.2.2 hin_16 hat_16 (g := (mkF m 59 #[Rv a, Rv b, Rv a] [(.int (7 : Int32)), (.ref b), (.long u_a_7), (.long (u_a_6 - u_b_6)), (.long (u_a_5 - u_b_5)), (.long (u_a_4 - u_b_4)), (.long (u_a_3 - u_b_3)), (.long (u_a_2 - u_b_2)), (.long (u_a_1 - u_b_1)), (.long (u_a_0 - u_b_0)), (.ref a)])) rfl rfl (hb hBY d_prog_59_method_9_code_59) _ ?_
    show Steps p.tables e below (s₁.setTop (mkF m 60 #[Rv a, Rv b, Rv a] [(.long u_b_7), (.long u_a_7), (.long (u_a_6 - u_b_6)), (.long (u_a_5 - u_b_5)), (.long (u_a_4 - u_b_4)), (.long (u_a_3 - u_b_3)), (.long (u_a_2 - u_b_2)), (.long (u_a_1 - u_b_1)), (.long (u_a_0 - u_b_0)), (.ref a)])) tt_
    refine XS.lsub X0.here hEX rfl (hb hBY d_prog_59_method_9_code_60) rfl ?_
    exact kt_
  refine Done.pre sg_17 ?_
  obtain ⟨_, _, ⟨T_18, L_18, k_18, n_18⟩, -, X_18, ⟨Lc_18, hQ_18, l_18, y_18, z_18⟩, st_18⟩ := Jvm.LawKit.callS X0 hEX (y := (⟨"com/example/guard3/guard3/P384Field", "store", "([JJJJJJJJJ)V"⟩ : MethodName)) hOW (mvT hZW (hw _ (List.mem_of_getElem? (i := 14) rfl))) (mvT hZW (hw _ (List.mem_of_getElem? (i := 15) rfl))) (mvT hZW (hw _ (List.mem_of_getElem? (i := 12) rfl))) (mvT hZW (hw _ (List.mem_of_getElem? (i := 16) rfl))) (by decide) (backOf (W := 0) (rm_store l Z aZ hw [] a (u_a_0 - u_b_0) (u_a_1 - u_b_1) (u_a_2 - u_b_2) (u_a_3 - u_b_3) (u_a_4 - u_b_4) (u_a_5 - u_b_5) (u_a_6 - u_b_6) (u_a_7 - u_b_7) k_a u_a_0 u_a_1 u_a_2 u_a_3 u_a_4 u_a_5 u_a_6 u_a_7 h0 n0 (Nat.le_trans Z0 K0.1) A_a go (own_Rup _ _ _ _ _ _ _ _ _ _ (by decide) (own_subb 1125899906842624 (by decide) u_a_0 u_a_1 u_a_2 u_a_3 u_a_4 u_a_5 u_a_6 u_a_7 u_b_0 u_b_1 u_b_2 u_b_3 u_b_4 u_b_5 u_b_6 u_b_7 hRa hRb).1)) hZW (hw _ (List.mem_of_getElem? (i := 16) rfl)) (hw _ (List.mem_of_getElem? (i := 12) rfl)) (by decide) (by decide)) (g := (mkF m 61 #[Rv a, Rv b, Rv a] [(.long (u_a_7 - u_b_7)), (.long (u_a_6 - u_b_6)), (.long (u_a_5 - u_b_5)), (.long (u_a_4 - u_b_4)), (.long (u_a_3 - u_b_3)), (.long (u_a_2 - u_b_2)), (.long (u_a_1 - u_b_1)), (.long (u_a_0 - u_b_0)), (.ref a)])) rfl (by rw [hMX]; rfl) (argsL := [(.ref a), (.long (u_a_0 - u_b_0)), (.long (u_a_1 - u_b_1)), (.long (u_a_2 - u_b_2)), (.long (u_a_3 - u_b_3)), (.long (u_a_4 - u_b_4)), (.long (u_a_5 - u_b_5)), (.long (u_a_6 - u_b_6)), (.long (u_a_7 - u_b_7))]) (rest := []) (lenOf pd___JJJJJJJJJ_V_8 rfl) rfl (by show 2 * 0 + _ ≤ _; exact Nat.le_of_eq rfl) (hb hBY d_prog_59_method_9_code_61) (fun _ _ => ⟨rfl, e0, (by decide : 0 + 0 ≤ _), (by decide : 0 + 0 ≤ _)⟩)
  dsimp only [Pt.U, Pt.locs, Pt.cells, Pt.slots] at X_18 l_18 y_18 z_18 st_18 hQ_18
  subst l_18 y_18 z_18
  obtain ⟨r0__18, r1__18, r2__18, r3__18, r4__18, r5__18, r6__18, r7__18, rfl, N_18q, K_18, hq_18_0, hq_18_1, hq_18_2⟩ := hQ_18
  have N_18 := Fr.app N0 N_18q
  have K__19 : Keep h0 T_18.heap [a] := K0.trans K_18 (allS (Or.inl (List.mem_of_getElem? (i := 0) rfl)) all0)
  have f_20 : Arv Z T_18.heap b k_b .long (8 : Int32) [(.long u_b_0), (.long u_b_1), (.long u_b_2), (.long u_b_3), (.long u_b_4), (.long u_b_5), (.long u_b_6), (.long u_b_7)] (.long (0 : Int64)) := A_b.keep K_18 (ninS (Ne.symm ne_a_b) nin0)
  refine Done.pre (fun _ k_ => st_18 _ k_) ?_
  show Done _ _ _ _ _ _ _ (T_18.setTop (mkF m 64 #[Rv a, Rv b, Rv a] []))
  exact Done.retV X_18 hEX hLK hRT (hb hBY d_prog_59_method_9_code_64) (by exact ⟨r0__18, r1__18, r2__18, r3__18, r4__18, r5__18, r6__18, r7__18, rfl, N_18, K__19, hq_18_0, hq_18_1, (by have q := hq_18_2; rw [(own_subb 1125899906842624 (by decide) u_a_0 u_a_1 u_a_2 u_a_3 u_a_4 u_a_5 u_a_6 u_a_7 u_b_0 u_b_1 u_b_2 u_b_3 u_b_4 u_b_5 u_b_6 u_b_7 hRa hRb).2] at q; exact q)⟩) (by decide) (by decide)
def Qrm_subtract_abb (Z : State) (a : Addr) (b : Addr) (k_a : ClassId) (u_a_0 : Int64) (u_a_1 : Int64) (u_a_2 : Int64) (u_a_3 : Int64) (u_a_4 : Int64) (u_a_5 : Int64) (u_a_6 : Int64) (u_a_7 : Int64) (k_b : ClassId) (u_b_0 : Int64) (u_b_1 : Int64) (u_b_2 : Int64) (u_b_3 : Int64) (u_b_4 : Int64) (u_b_5 : Int64) (u_b_6 : Int64) (u_b_7 : Int64) (h0 : Heap) (n0 : Nat) (v_ : Option Value) (h_ : Heap) (L_ : List Loc) : Prop := ∃ (r0 : Int64), ∃ (r1 : Int64), ∃ (r2 : Int64), ∃ (r3 : Int64), ∃ (r4 : Int64), ∃ (r5 : Int64), ∃ (r6 : Int64), ∃ (r7 : Int64), v_ = none ∧ Fr n0 L_ ∧ Keep h0 h_ [b] ∧ Arv Z h_ b k_b .long (8 : Int32) [(.long r0), (.long r1), (.long r2), (.long r3), (.long r4), (.long r5), (.long r6), (.long r7)] (.long (0 : Int64)) ∧ own_R 562949953421440 r0 r1 r2 r3 r4 r5 r6 r7 ∧ own_M ((own_W u_a_0 u_a_1 u_a_2 u_a_3 u_a_4 u_a_5 u_a_6 u_a_7 - own_W u_b_0 u_b_1 u_b_2 u_b_3 u_b_4 u_b_5 u_b_6 u_b_7) - own_W r0 r1 r2 r3 r4 r5 r6 r7)
theorem ef_rm_subtract_abb (m : MethodId) (x0 : Addr) (x1 : Addr) (x2 : Addr) : entryFrame m #[(.ref x0), (.ref x2), (.ref x2)] 3 = mkF m 0 #[.val (.ref x0), .val (.ref x2), .val (.ref x2)] [] := by first | (simp [entryFrame, mkF, argsToLocals, Value.category]; done) | rfl
set_option maxRecDepth 65536 in
set_option maxHeartbeats 40000000 in
theorem rm_subtract_abb (l : Launch) (Z : State) (aZ : Array Value) (hw : ∀ d ∈ tables_1, d.before aZ Z = true) (ws : List Jvm.Cond) (a : Addr) (b : Addr) (k_a : ClassId) (u_a_0 : Int64) (u_a_1 : Int64) (u_a_2 : Int64) (u_a_3 : Int64) (u_a_4 : Int64) (u_a_5 : Int64) (u_a_6 : Int64) (u_a_7 : Int64) (k_b : ClassId) (u_b_0 : Int64) (u_b_1 : Int64) (u_b_2 : Int64) (u_b_3 : Int64) (u_b_4 : Int64) (u_b_5 : Int64) (u_b_6 : Int64) (u_b_7 : Int64) (h0 : Heap) (n0 : Nat) (Z0 : n0 ≤ h0.size) (A_a : Arv Z h0 a k_a .long (8 : Int32) [(.long u_a_0), (.long u_a_1), (.long u_a_2), (.long u_a_3), (.long u_a_4), (.long u_a_5), (.long u_a_6), (.long u_a_7)] (.long (0 : Int64))) (A_b : Arv Z h0 b k_b .long (8 : Int32) [(.long u_b_0), (.long u_b_1), (.long u_b_2), (.long u_b_3), (.long u_b_4), (.long u_b_5), (.long u_b_6), (.long u_b_7)] (.long (0 : Int64))) (go : n0 ≤ b) (ne_a_b : a ≠ b) (hRa : own_R 1125899906842624 u_a_0 u_a_1 u_a_2 u_a_3 u_a_4 u_a_5 u_a_6 u_a_7) (hRb : own_R 1125899906842624 u_b_0 u_b_1 u_b_2 u_b_3 u_b_4 u_b_5 u_b_6 u_b_7) :
    MetFree l (⟨"com/example/guard3/guard3/P384Field", "subtract", "([J[J[J)V"⟩ : MethodName) (head1 (Jvm.Cond.code (⟨"com/example/guard3/guard3/P384Field", "subtract", "([J[J[J)V"⟩ : MethodName) prog_59_method_9_code 3 none :: ws) ({ frames := 1, cells := 0, slots := 0, locals := 34 } : Room)) (fun a_ U_ => a_ = #[(.ref a), (.ref b), (.ref b)] ∧ Z.Warmed39 U_.vm ∧ U_.heap = h0) (fun _ _ _ _ _ => True) (fun _ U_ o_ U2_ => ∃ v_ L_, o_ = .returned v_ ∧ Qrm_subtract_abb Z a b k_a u_a_0 u_a_1 u_a_2 u_a_3 u_a_4 u_a_5 u_a_6 u_a_7 k_b u_b_0 u_b_1 u_b_2 u_b_3 u_b_4 u_b_5 u_b_6 u_b_7 h0 n0 v_ U2_.heap L_ ∧ FrameEnd U_ o_ U2_ L_ ({ frames := 1, cells := 0, slots := 0, locals := 34 } : Room).cells ({ frames := 1, cells := 0, slots := 0, locals := 34 } : Room).slots) := by
  refine MetFree.of_bodySF (plainFor_of_name pn_com_example_guard3_guard3_P384Field) hisR ?_
  intro p e s m args below meth cO s₁ Bd hml0 hP hK
  obtain ⟨rfl, hZW, hh⟩ := hP
  have hEX := Bd.exec
  have hBY := Bd.bytes
  have hMX : cO.maxLocals = 3 := hml0
  have hOW : s.vm.findClass "com/example/guard3/guard3/P384Field" = some m.cls := findClass_of_methodNamed Bd.named
  have hNM := (name_of_methodNamed Bd.named Bd.method).1
  have hLK := Bd.notSynchronized
  have hRT := Bd.returns
  have X0 : Stand p l e ({ frames := 1, cells := 0, slots := 0, locals := 34 } : Room) s m #[(.ref a), (.ref b), (.ref b)] below meth cO s₁ [] 0 0 := Stand.of_body Bd
  have e0 : s₁.heap = h0 := by rw [← hh, Bd.state]; rfl
  have N0 := Fr.nil n0
  have K0 : Keep h0 h0 [b] := Keep.refl _ _
  show Done p e below s (Qrm_subtract_abb Z a b k_a u_a_0 u_a_1 u_a_2 u_a_3 u_a_4 u_a_5 u_a_6 u_a_7 k_b u_b_0 u_b_1 u_b_2 u_b_3 u_b_4 u_b_5 u_b_6 u_b_7 h0 n0) ({ frames := 1, cells := 0, slots := 0, locals := 34 } : Room).cells ({ frames := 1, cells := 0, slots := 0, locals := 34 } : Room).slots (s₁.setTop (entryFrame m #[(.ref a), (.ref b), (.ref b)] 3))
  refine Done.pre (fun t_ k_ => castTop (ef_rm_subtract_abb m a b b) k_) ?_
  show Done _ _ _ _ _ _ _ (s₁.setTop (mkF m 0 #[Rv a, Rv b, Rv b] []))
  obtain ⟨cl_1, Ar_1, q_1, S_1, N__1, H_1, G_1⟩ := id A_a
  have hin_1 : ¬ ((0 : Int32) < 0 ∨ cl_1.slots.size ≤ ((0 : Int32)).toNatClampNeg) := inb_of S_1 ⟨by decide, by decide⟩
  have hat_1 : cl_1.slots[((0 : Int32)).toNatClampNeg]? = some (.long u_a_0) := H_1.at hin_1 rfl
  obtain ⟨cl_2, Ar_2, q_2, S_2, N__2, H_2, G_2⟩ := id A_b
  have hin_2 : ¬ ((0 : Int32) < 0 ∨ cl_2.slots.size ≤ ((0 : Int32)).toNatClampNeg) := inb_of S_2 ⟨by decide, by decide⟩
  have hat_2 : cl_2.slots[((0 : Int32)).toNatClampNeg]? = some (.long u_b_0) := H_2.at hin_2 rfl
  obtain ⟨cl_3, Ar_3, q_3, S_3, N__3, H_3, G_3⟩ := id A_a
  have hin_3 : ¬ ((1 : Int32) < 0 ∨ cl_3.slots.size ≤ ((1 : Int32)).toNatClampNeg) := inb_of S_3 ⟨by decide, by decide⟩
  have hat_3 : cl_3.slots[((1 : Int32)).toNatClampNeg]? = some (.long u_a_1) := H_3.at hin_3 rfl
  obtain ⟨cl_4, Ar_4, q_4, S_4, N__4, H_4, G_4⟩ := id A_b
  have hin_4 : ¬ ((1 : Int32) < 0 ∨ cl_4.slots.size ≤ ((1 : Int32)).toNatClampNeg) := inb_of S_4 ⟨by decide, by decide⟩
  have hat_4 : cl_4.slots[((1 : Int32)).toNatClampNeg]? = some (.long u_b_1) := H_4.at hin_4 rfl
  obtain ⟨cl_5, Ar_5, q_5, S_5, N__5, H_5, G_5⟩ := id A_a
  have hin_5 : ¬ ((2 : Int32) < 0 ∨ cl_5.slots.size ≤ ((2 : Int32)).toNatClampNeg) := inb_of S_5 ⟨by decide, by decide⟩
  have hat_5 : cl_5.slots[((2 : Int32)).toNatClampNeg]? = some (.long u_a_2) := H_5.at hin_5 rfl
  obtain ⟨cl_6, Ar_6, q_6, S_6, N__6, H_6, G_6⟩ := id A_b
  have hin_6 : ¬ ((2 : Int32) < 0 ∨ cl_6.slots.size ≤ ((2 : Int32)).toNatClampNeg) := inb_of S_6 ⟨by decide, by decide⟩
  have hat_6 : cl_6.slots[((2 : Int32)).toNatClampNeg]? = some (.long u_b_2) := H_6.at hin_6 rfl
  obtain ⟨cl_7, Ar_7, q_7, S_7, N__7, H_7, G_7⟩ := id A_a
  have hin_7 : ¬ ((3 : Int32) < 0 ∨ cl_7.slots.size ≤ ((3 : Int32)).toNatClampNeg) := inb_of S_7 ⟨by decide, by decide⟩
  have hat_7 : cl_7.slots[((3 : Int32)).toNatClampNeg]? = some (.long u_a_3) := H_7.at hin_7 rfl
  obtain ⟨cl_8, Ar_8, q_8, S_8, N__8, H_8, G_8⟩ := id A_b
  have hin_8 : ¬ ((3 : Int32) < 0 ∨ cl_8.slots.size ≤ ((3 : Int32)).toNatClampNeg) := inb_of S_8 ⟨by decide, by decide⟩
  have hat_8 : cl_8.slots[((3 : Int32)).toNatClampNeg]? = some (.long u_b_3) := H_8.at hin_8 rfl
  obtain ⟨cl_9, Ar_9, q_9, S_9, N__9, H_9, G_9⟩ := id A_a
  have hin_9 : ¬ ((4 : Int32) < 0 ∨ cl_9.slots.size ≤ ((4 : Int32)).toNatClampNeg) := inb_of S_9 ⟨by decide, by decide⟩
  have hat_9 : cl_9.slots[((4 : Int32)).toNatClampNeg]? = some (.long u_a_4) := H_9.at hin_9 rfl
  obtain ⟨cl_10, Ar_10, q_10, S_10, N__10, H_10, G_10⟩ := id A_b
  have hin_10 : ¬ ((4 : Int32) < 0 ∨ cl_10.slots.size ≤ ((4 : Int32)).toNatClampNeg) := inb_of S_10 ⟨by decide, by decide⟩
  have hat_10 : cl_10.slots[((4 : Int32)).toNatClampNeg]? = some (.long u_b_4) := H_10.at hin_10 rfl
  obtain ⟨cl_11, Ar_11, q_11, S_11, N__11, H_11, G_11⟩ := id A_a
  have hin_11 : ¬ ((5 : Int32) < 0 ∨ cl_11.slots.size ≤ ((5 : Int32)).toNatClampNeg) := inb_of S_11 ⟨by decide, by decide⟩
  have hat_11 : cl_11.slots[((5 : Int32)).toNatClampNeg]? = some (.long u_a_5) := H_11.at hin_11 rfl
  obtain ⟨cl_12, Ar_12, q_12, S_12, N__12, H_12, G_12⟩ := id A_b
  have hin_12 : ¬ ((5 : Int32) < 0 ∨ cl_12.slots.size ≤ ((5 : Int32)).toNatClampNeg) := inb_of S_12 ⟨by decide, by decide⟩
  have hat_12 : cl_12.slots[((5 : Int32)).toNatClampNeg]? = some (.long u_b_5) := H_12.at hin_12 rfl
  obtain ⟨cl_13, Ar_13, q_13, S_13, N__13, H_13, G_13⟩ := id A_a
  have hin_13 : ¬ ((6 : Int32) < 0 ∨ cl_13.slots.size ≤ ((6 : Int32)).toNatClampNeg) := inb_of S_13 ⟨by decide, by decide⟩
  have hat_13 : cl_13.slots[((6 : Int32)).toNatClampNeg]? = some (.long u_a_6) := H_13.at hin_13 rfl
  obtain ⟨cl_14, Ar_14, q_14, S_14, N__14, H_14, G_14⟩ := id A_b
  have hin_14 : ¬ ((6 : Int32) < 0 ∨ cl_14.slots.size ≤ ((6 : Int32)).toNatClampNeg) := inb_of S_14 ⟨by decide, by decide⟩
  have hat_14 : cl_14.slots[((6 : Int32)).toNatClampNeg]? = some (.long u_b_6) := H_14.at hin_14 rfl
  obtain ⟨cl_15, Ar_15, q_15, S_15, N__15, H_15, G_15⟩ := id A_a
  have hin_15 : ¬ ((7 : Int32) < 0 ∨ cl_15.slots.size ≤ ((7 : Int32)).toNatClampNeg) := inb_of S_15 ⟨by decide, by decide⟩
  have hat_15 : cl_15.slots[((7 : Int32)).toNatClampNeg]? = some (.long u_a_7) := H_15.at hin_15 rfl
  obtain ⟨cl_16, Ar_16, q_16, S_16, N__16, H_16, G_16⟩ := id A_b
  have hin_16 : ¬ ((7 : Int32) < 0 ∨ cl_16.slots.size ≤ ((7 : Int32)).toNatClampNeg) := inb_of S_16 ⟨by decide, by decide⟩
  have hat_16 : cl_16.slots[((7 : Int32)).toNatClampNeg]? = some (.long u_b_7) := H_16.at hin_16 rfl
  have sg_17 : ∀ tt_, Steps p.tables e below (s₁.setTop (mkF m 61 #[Rv a, Rv b, Rv b] [(.long (u_a_7 - u_b_7)), (.long (u_a_6 - u_b_6)), (.long (u_a_5 - u_b_5)), (.long (u_a_4 - u_b_4)), (.long (u_a_3 - u_b_3)), (.long (u_a_2 - u_b_2)), (.long (u_a_1 - u_b_1)), (.long (u_a_0 - u_b_0)), (.ref b)])) tt_ → Steps p.tables e below (s₁.setTop (mkF m 0 #[Rv a, Rv b, Rv b] [])) tt_ := by
    intro tt_ kt_
    refine XS.aloadN X0.here hEX rfl (hb hBY d_prog_59_method_9_code_0) rfl rfl ?_
    show Steps p.tables e below (s₁.setTop (mkF m 1 #[Rv a, Rv b, Rv b] [(.ref b)])) tt_
    refine XS.aloadN X0.here hEX rfl (hb hBY d_prog_59_method_9_code_1) rfl rfl ?_
    show Steps p.tables e below (s₁.setTop (mkF m 2 #[Rv a, Rv b, Rv b] [(.ref a), (.ref b)])) tt_
    refine XS.iconst X0.here hEX rfl (hb hBY d_prog_59_method_9_code_2) ?_
    show Steps p.tables e below (s₁.setTop (mkF m 3 #[Rv a, Rv b, Rv b] [(.int (0 : Int32)), (.ref a), (.ref b)])) tt_
    refine X0.laload hEX (j := (0 : Int32)) (v := (.long u_a_0)) (by rw [e0]; exact Ar_1.1) (State.isArrayOf_alike hZW.alike Ar_1.2.1) Ar_1.2.2 hin_1 hat_1 (g := (mkF m 3 #[Rv a, Rv b, Rv b] [(.int (0 : Int32)), (.ref a), (.ref b)])) rfl rfl (hb hBY d_prog_59_method_9_code_3) _ ?_
    show Steps p.tables e below (s₁.setTop (mkF m 4 #[Rv a, Rv b, Rv b] [(.long u_a_0), (.ref b)])) tt_
    refine XS.aloadN X0.here hEX rfl (hb hBY d_prog_59_method_9_code_4) rfl rfl ?_
    show Steps p.tables e below (s₁.setTop (mkF m 5 #[Rv a, Rv b, Rv b] [(.ref b), (.long u_a_0), (.ref b)])) tt_
    refine XS.iconst X0.here hEX rfl (hb hBY d_prog_59_method_9_code_5) ?_
    show Steps p.tables e below (s₁.setTop (mkF m 6 #[Rv a, Rv b, Rv b] [(.int (0 : Int32)), (.ref b), (.long u_a_0), (.ref b)])) tt_
    refine X0.laload hEX (j := (0 : Int32)) (v := (.long u_b_0)) (by rw [e0]; exact Ar_2.1) (State.isArrayOf_alike hZW.alike Ar_2.2.1) Ar_2.2.2 hin_2 hat_2 (g := (mkF m 6 #[Rv a, Rv b, Rv b] [(.int (0 : Int32)), (.ref b), (.long u_a_0), (.ref b)])) rfl rfl (hb hBY d_prog_59_method_9_code_6) _ ?_
    show Steps p.tables e below (s₁.setTop (mkF m 7 #[Rv a, Rv b, Rv b] [(.long u_b_0), (.long u_a_0), (.ref b)])) tt_
    refine XS.lsub X0.here hEX rfl (hb hBY d_prog_59_method_9_code_7) rfl ?_
    show Steps p.tables e below (s₁.setTop (mkF m 8 #[Rv a, Rv b, Rv b] [(.long (u_a_0 - u_b_0)), (.ref b)])) tt_
    refine XS.aloadN X0.here hEX rfl (hb hBY d_prog_59_method_9_code_8) rfl rfl ?_
    show Steps p.tables e below (s₁.setTop (mkF m 9 #[Rv a, Rv b, Rv b] [(.ref a), (.long (u_a_0 - u_b_0)), (.ref b)])) tt_
    refine XS.iconst X0.here hEX rfl (hb hBY d_prog_59_method_9_code_9) ?_
    show Steps p.tables e below (s₁.setTop (mkF m 10 #[Rv a, Rv b, Rv b] [(.int (1 : Int32)), (.ref a), (.long (u_a_0 - u_b_0)), (.ref b)])) tt_
    refine X0.laload hEX (j := (1 : Int32)) (v := (.long u_a_1)) (by rw [e0]; exact Ar_3.1) (State.isArrayOf_alike hZW.alike Ar_3.2.1) Ar_3.2.2 hin_3 hat_3 (g := (mkF m 10 #[Rv a, Rv b, Rv b] [(.int (1 : Int32)), (.ref a), (.long (u_a_0 - u_b_0)), (.ref b)])) rfl rfl (hb hBY d_prog_59_method_9_code_10) _ ?_
    show Steps p.tables e below (s₁.setTop (mkF m 11 #[Rv a, Rv b, Rv b] [(.long u_a_1), (.long (u_a_0 - u_b_0)), (.ref b)])) tt_
    refine XS.aloadN X0.here hEX rfl (hb hBY d_prog_59_method_9_code_11) rfl rfl ?_
    show Steps p.tables e below (s₁.setTop (mkF m 12 #[Rv a, Rv b, Rv b] [(.ref b), (.long u_a_1), (.long (u_a_0 - u_b_0)), (.ref b)])) tt_
    refine XS.iconst X0.here hEX rfl (hb hBY d_prog_59_method_9_code_12) ?_
    show Steps p.tables e below (s₁.setTop (mkF m 13 #[Rv a, Rv b, Rv b] [(.int (1 : Int32)), (.ref b), (.long u_a_1), (.long (u_a_0 - u_b_0)), (.ref b)])) tt_
    refine X0.laload hEX (j := (1 : Int32)) (v := (.long u_b_1)) (by rw [e0]; exact Ar_4.1) (State.isArrayOf_alike hZW.alike Ar_4.2.1) Ar_4.2.2 hin_4 hat_4 (g := (mkF m 13 #[Rv a, Rv b, Rv b] [(.int (1 : Int32)), (.ref b), (.long u_a_1), (.long (u_a_0 - u_b_0)), (.ref b)])) rfl rfl (hb hBY d_prog_59_method_9_code_13) _ ?_
    show Steps p.tables e below (s₁.setTop (mkF m 14 #[Rv a, Rv b, Rv b] [(.long u_b_1), (.long u_a_1), (.long (u_a_0 - u_b_0)), (.ref b)])) tt_
    refine XS.lsub X0.here hEX rfl (hb hBY d_prog_59_method_9_code_14) rfl ?_
    show Steps p.tables e below (s₁.setTop (mkF m 15 #[Rv a, Rv b, Rv b] [(.long (u_a_1 - u_b_1)), (.long (u_a_0 - u_b_0)), (.ref b)])) tt_
    refine XS.aloadN X0.here hEX rfl (hb hBY d_prog_59_method_9_code_15) rfl rfl ?_
    show Steps p.tables e below (s₁.setTop (mkF m 16 #[Rv a, Rv b, Rv b] [(.ref a), (.long (u_a_1 - u_b_1)), (.long (u_a_0 - u_b_0)), (.ref b)])) tt_
    refine XS.iconst X0.here hEX rfl (hb hBY d_prog_59_method_9_code_16) ?_
    show Steps p.tables e below (s₁.setTop (mkF m 17 #[Rv a, Rv b, Rv b] [(.int (2 : Int32)), (.ref a), (.long (u_a_1 - u_b_1)), (.long (u_a_0 - u_b_0)), (.ref b)])) tt_
    refine X0.laload hEX (j := (2 : Int32)) (v := (.long u_a_2)) (by rw [e0]; exact Ar_5.1) (State.isArrayOf_alike hZW.alike Ar_5.2.1) Ar_5.2.2 hin_5 hat_5 (g := (mkF m 17 #[Rv a, Rv b, Rv b] [(.int (2 : Int32)), (.ref a), (.long (u_a_1 - u_b_1)), (.long (u_a_0 - u_b_0)), (.ref b)])) rfl rfl (hb hBY d_prog_59_method_9_code_17) _ ?_
    show Steps p.tables e below (s₁.setTop (mkF m 18 #[Rv a, Rv b, Rv b] [(.long u_a_2), (.long (u_a_1 - u_b_1)), (.long (u_a_0 - u_b_0)), (.ref b)])) tt_
    refine XS.aloadN X0.here hEX rfl (hb hBY d_prog_59_method_9_code_18) rfl rfl ?_
    show Steps p.tables e below (s₁.setTop (mkF m 19 #[Rv a, Rv b, Rv b] [(.ref b), (.long u_a_2), (.long (u_a_1 - u_b_1)), (.long (u_a_0 - u_b_0)), (.ref b)])) tt_
    refine XS.iconst X0.here hEX rfl (hb hBY d_prog_59_method_9_code_19) ?_
    show Steps p.tables e below (s₁.setTop (mkF m 20 #[Rv a, Rv b, Rv b] [(.int (2 : Int32)), (.ref b), (.long u_a_2), (.long (u_a_1 - u_b_1)), (.long (u_a_0 - u_b_0)), (.ref b)])) tt_
    refine X0.laload hEX (j := (2 : Int32)) (v := (.long u_b_2)) (by rw [e0]; exact Ar_6.1) (State.isArrayOf_alike hZW.alike Ar_6.2.1) Ar_6.2.2 hin_6 hat_6 (g := (mkF m 20 #[Rv a, Rv b, Rv b] [(.int (2 : Int32)), (.ref b), (.long u_a_2), (.long (u_a_1 - u_b_1)), (.long (u_a_0 - u_b_0)), (.ref b)])) rfl rfl (hb hBY d_prog_59_method_9_code_20) _ ?_
    show Steps p.tables e below (s₁.setTop (mkF m 21 #[Rv a, Rv b, Rv b] [(.long u_b_2), (.long u_a_2), (.long (u_a_1 - u_b_1)), (.long (u_a_0 - u_b_0)), (.ref b)])) tt_
    refine XS.lsub X0.here hEX rfl (hb hBY d_prog_59_method_9_code_21) rfl ?_
    show Steps p.tables e below (s₁.setTop (mkF m 22 #[Rv a, Rv b, Rv b] [(.long (u_a_2 - u_b_2)), (.long (u_a_1 - u_b_1)), (.long (u_a_0 - u_b_0)), (.ref b)])) tt_
    refine XS.aloadN X0.here hEX rfl (hb hBY d_prog_59_method_9_code_22) rfl rfl ?_
    show Steps p.tables e below (s₁.setTop (mkF m 23 #[Rv a, Rv b, Rv b] [(.ref a), (.long (u_a_2 - u_b_2)), (.long (u_a_1 - u_b_1)), (.long (u_a_0 - u_b_0)), (.ref b)])) tt_
    refine XS.iconst X0.here hEX rfl (hb hBY d_prog_59_method_9_code_23) ?_
    show Steps p.tables e below (s₁.setTop (mkF m 24 #[Rv a, Rv b, Rv b] [(.int (3 : Int32)), (.ref a), (.long (u_a_2 - u_b_2)), (.long (u_a_1 - u_b_1)), (.long (u_a_0 - u_b_0)), (.ref b)])) tt_
    refine X0.laload hEX (j := (3 : Int32)) (v := (.long u_a_3)) (by rw [e0]; exact Ar_7.1) (State.isArrayOf_alike hZW.alike Ar_7.2.1) Ar_7.2.2 hin_7 hat_7 (g := (mkF m 24 #[Rv a, Rv b, Rv b] [(.int (3 : Int32)), (.ref a), (.long (u_a_2 - u_b_2)), (.long (u_a_1 - u_b_1)), (.long (u_a_0 - u_b_0)), (.ref b)])) rfl rfl (hb hBY d_prog_59_method_9_code_24) _ ?_
    show Steps p.tables e below (s₁.setTop (mkF m 25 #[Rv a, Rv b, Rv b] [(.long u_a_3), (.long (u_a_2 - u_b_2)), (.long (u_a_1 - u_b_1)), (.long (u_a_0 - u_b_0)), (.ref b)])) tt_
    refine XS.aloadN X0.here hEX rfl (hb hBY d_prog_59_method_9_code_25) rfl rfl ?_
    show Steps p.tables e below (s₁.setTop (mkF m 26 #[Rv a, Rv b, Rv b] [(.ref b), (.long u_a_3), (.long (u_a_2 - u_b_2)), (.long (u_a_1 - u_b_1)), (.long (u_a_0 - u_b_0)), (.ref b)])) tt_
    refine XS.iconst X0.here hEX rfl (hb hBY d_prog_59_method_9_code_26) ?_
    show Steps p.tables e below (s₁.setTop (mkF m 27 #[Rv a, Rv b, Rv b] [(.int (3 : Int32)), (.ref b), (.long u_a_3), (.long (u_a_2 - u_b_2)), (.long (u_a_1 - u_b_1)), (.long (u_a_0 - u_b_0)), (.ref b)])) tt_
    refine X0.laload hEX (j := (3 : Int32)) (v := (.long u_b_3)) (by rw [e0]; exact Ar_8.1) (State.isArrayOf_alike hZW.alike Ar_8.2.1) Ar_8.2.2 hin_8 hat_8 (g := (mkF m 27 #[Rv a, Rv b, Rv b] [(.int (3 : Int32)), (.ref b), (.long u_a_3), (.long (u_a_2 - u_b_2)), (.long (u_a_1 - u_b_1)), (.long (u_a_0 - u_b_0)), (.ref b)])) rfl rfl (hb hBY d_prog_59_method_9_code_27) _ ?_
    show Steps p.tables e below (s₁.setTop (mkF m 28 #[Rv a, Rv b, Rv b] [(.long u_b_3), (.long u_a_3), (.long (u_a_2 - u_b_2)), (.long (u_a_1 - u_b_1)), (.long (u_a_0 - u_b_0)), (.ref b)])) tt_
    refine XS.lsub X0.here hEX rfl (hb hBY d_prog_59_method_9_code_28) rfl ?_
    show Steps p.tables e below (s₁.setTop (mkF m 29 #[Rv a, Rv b, Rv b] [(.long (u_a_3 - u_b_3)), (.long (u_a_2 - u_b_2)), (.long (u_a_1 - u_b_1)), (.long (u_a_0 - u_b_0)), (.ref b)])) tt_
    refine XS.aloadN X0.here hEX rfl (hb hBY d_prog_59_method_9_code_29) rfl rfl ?_
    show Steps p.tables e below (s₁.setTop (mkF m 30 #[Rv a, Rv b, Rv b] [(.ref a), (.long (u_a_3 - u_b_3)), (.long (u_a_2 - u_b_2)), (.long (u_a_1 - u_b_1)), (.long (u_a_0 - u_b_0)), (.ref b)])) tt_
    refine XS.iconst X0.here hEX rfl (hb hBY d_prog_59_method_9_code_30) ?_
    show Steps p.tables e below (s₁.setTop (mkF m 31 #[Rv a, Rv b, Rv b] [(.int (4 : Int32)), (.ref a), (.long (u_a_3 - u_b_3)), (.long (u_a_2 - u_b_2)), (.long (u_a_1 - u_b_1)), (.long (u_a_0 - u_b_0)), (.ref b)])) tt_
    refine X0.laload hEX (j := (4 : Int32)) (v := (.long u_a_4)) (by rw [e0]; exact Ar_9.1) (State.isArrayOf_alike hZW.alike Ar_9.2.1) Ar_9.2.2 hin_9 hat_9 (g := (mkF m 31 #[Rv a, Rv b, Rv b] [(.int (4 : Int32)), (.ref a), (.long (u_a_3 - u_b_3)), (.long (u_a_2 - u_b_2)), (.long (u_a_1 - u_b_1)), (.long (u_a_0 - u_b_0)), (.ref b)])) rfl rfl (hb hBY d_prog_59_method_9_code_31) _ ?_
    show Steps p.tables e below (s₁.setTop (mkF m 32 #[Rv a, Rv b, Rv b] [(.long u_a_4), (.long (u_a_3 - u_b_3)), (.long (u_a_2 - u_b_2)), (.long (u_a_1 - u_b_1)), (.long (u_a_0 - u_b_0)), (.ref b)])) tt_
    refine XS.aloadN X0.here hEX rfl (hb hBY d_prog_59_method_9_code_32) rfl rfl ?_
    show Steps p.tables e below (s₁.setTop (mkF m 33 #[Rv a, Rv b, Rv b] [(.ref b), (.long u_a_4), (.long (u_a_3 - u_b_3)), (.long (u_a_2 - u_b_2)), (.long (u_a_1 - u_b_1)), (.long (u_a_0 - u_b_0)), (.ref b)])) tt_
    refine XS.iconst X0.here hEX rfl (hb hBY d_prog_59_method_9_code_33) ?_
    show Steps p.tables e below (s₁.setTop (mkF m 34 #[Rv a, Rv b, Rv b] [(.int (4 : Int32)), (.ref b), (.long u_a_4), (.long (u_a_3 - u_b_3)), (.long (u_a_2 - u_b_2)), (.long (u_a_1 - u_b_1)), (.long (u_a_0 - u_b_0)), (.ref b)])) tt_
    refine X0.laload hEX (j := (4 : Int32)) (v := (.long u_b_4)) (by rw [e0]; exact Ar_10.1) (State.isArrayOf_alike hZW.alike Ar_10.2.1) Ar_10.2.2 hin_10 hat_10 (g := (mkF m 34 #[Rv a, Rv b, Rv b] [(.int (4 : Int32)), (.ref b), (.long u_a_4), (.long (u_a_3 - u_b_3)), (.long (u_a_2 - u_b_2)), (.long (u_a_1 - u_b_1)), (.long (u_a_0 - u_b_0)), (.ref b)])) rfl rfl (hb hBY d_prog_59_method_9_code_34) _ ?_
    show Steps p.tables e below (s₁.setTop (mkF m 35 #[Rv a, Rv b, Rv b] [(.long u_b_4), (.long u_a_4), (.long (u_a_3 - u_b_3)), (.long (u_a_2 - u_b_2)), (.long (u_a_1 - u_b_1)), (.long (u_a_0 - u_b_0)), (.ref b)])) tt_
    refine XS.lsub X0.here hEX rfl (hb hBY d_prog_59_method_9_code_35) rfl ?_
    show Steps p.tables e below (s₁.setTop (mkF m 36 #[Rv a, Rv b, Rv b] [(.long (u_a_4 - u_b_4)), (.long (u_a_3 - u_b_3)), (.long (u_a_2 - u_b_2)), (.long (u_a_1 - u_b_1)), (.long (u_a_0 - u_b_0)), (.ref b)])) tt_
    refine XS.aloadN X0.here hEX rfl (hb hBY d_prog_59_method_9_code_36) rfl rfl ?_
    show Steps p.tables e below (s₁.setTop (mkF m 37 #[Rv a, Rv b, Rv b] [(.ref a), (.long (u_a_4 - u_b_4)), (.long (u_a_3 - u_b_3)), (.long (u_a_2 - u_b_2)), (.long (u_a_1 - u_b_1)), (.long (u_a_0 - u_b_0)), (.ref b)])) tt_
    refine XS.iconst X0.here hEX rfl (hb hBY d_prog_59_method_9_code_37) ?_
    show Steps p.tables e below (s₁.setTop (mkF m 38 #[Rv a, Rv b, Rv b] [(.int (5 : Int32)), (.ref a), (.long (u_a_4 - u_b_4)), (.long (u_a_3 - u_b_3)), (.long (u_a_2 - u_b_2)), (.long (u_a_1 - u_b_1)), (.long (u_a_0 - u_b_0)), (.ref b)])) tt_
    refine X0.laload hEX (j := (5 : Int32)) (v := (.long u_a_5)) (by rw [e0]; exact Ar_11.1) (State.isArrayOf_alike hZW.alike Ar_11.2.1) Ar_11.2.2 hin_11 hat_11 (g := (mkF m 38 #[Rv a, Rv b, Rv b] [(.int (5 : Int32)), (.ref a), (.long (u_a_4 - u_b_4)), (.long (u_a_3 - u_b_3)), (.long (u_a_2 - u_b_2)), (.long (u_a_1 - u_b_1)), (.long (u_a_0 - u_b_0)), (.ref b)])) rfl rfl (hb hBY d_prog_59_method_9_code_38) _ ?_
    show Steps p.tables e below (s₁.setTop (mkF m 39 #[Rv a, Rv b, Rv b] [(.long u_a_5), (.long (u_a_4 - u_b_4)), (.long (u_a_3 - u_b_3)), (.long (u_a_2 - u_b_2)), (.long (u_a_1 - u_b_1)), (.long (u_a_0 - u_b_0)), (.ref b)])) tt_
    refine XS.aloadN X0.here hEX rfl (hb hBY d_prog_59_method_9_code_39) rfl rfl ?_
    show Steps p.tables e below (s₁.setTop (mkF m 40 #[Rv a, Rv b, Rv b] [(.ref b), (.long u_a_5), (.long (u_a_4 - u_b_4)), (.long (u_a_3 - u_b_3)), (.long (u_a_2 - u_b_2)), (.long (u_a_1 - u_b_1)), (.long (u_a_0 - u_b_0)), (.ref b)])) tt_
    refine XS.iconst X0.here hEX rfl (hb hBY d_prog_59_method_9_code_40) ?_
    show Steps p.tables e below (s₁.setTop (mkF m 41 #[Rv a, Rv b, Rv b] [(.int (5 : Int32)), (.ref b), (.long u_a_5), (.long (u_a_4 - u_b_4)), (.long (u_a_3 - u_b_3)), (.long (u_a_2 - u_b_2)), (.long (u_a_1 - u_b_1)), (.long (u_a_0 - u_b_0)), (.ref b)])) tt_
    refine X0.laload hEX (j := (5 : Int32)) (v := (.long u_b_5)) (by rw [e0]; exact Ar_12.1) (State.isArrayOf_alike hZW.alike Ar_12.2.1) Ar_12.2.2 hin_12 hat_12 (g := (mkF m 41 #[Rv a, Rv b, Rv b] [(.int (5 : Int32)), (.ref b), (.long u_a_5), (.long (u_a_4 - u_b_4)), (.long (u_a_3 - u_b_3)), (.long (u_a_2 - u_b_2)), (.long (u_a_1 - u_b_1)), (.long (u_a_0 - u_b_0)), (.ref b)])) rfl rfl (hb hBY d_prog_59_method_9_code_41) _ ?_
    show Steps p.tables e below (s₁.setTop (mkF m 42 #[Rv a, Rv b, Rv b] [(.long u_b_5), (.long u_a_5), (.long (u_a_4 - u_b_4)), (.long (u_a_3 - u_b_3)), (.long (u_a_2 - u_b_2)), (.long (u_a_1 - u_b_1)), (.long (u_a_0 - u_b_0)), (.ref b)])) tt_
    refine XS.lsub X0.here hEX rfl (hb hBY d_prog_59_method_9_code_42) rfl ?_
    show Steps p.tables e below (s₁.setTop (mkF m 43 #[Rv a, Rv b, Rv b] [(.long (u_a_5 - u_b_5)), (.long (u_a_4 - u_b_4)), (.long (u_a_3 - u_b_3)), (.long (u_a_2 - u_b_2)), (.long (u_a_1 - u_b_1)), (.long (u_a_0 - u_b_0)), (.ref b)])) tt_
    refine XS.aloadN X0.here hEX rfl (hb hBY d_prog_59_method_9_code_43) rfl rfl ?_
    show Steps p.tables e below (s₁.setTop (mkF m 44 #[Rv a, Rv b, Rv b] [(.ref a), (.long (u_a_5 - u_b_5)), (.long (u_a_4 - u_b_4)), (.long (u_a_3 - u_b_3)), (.long (u_a_2 - u_b_2)), (.long (u_a_1 - u_b_1)), (.long (u_a_0 - u_b_0)), (.ref b)])) tt_
    refine XS.bipush X0.here hEX rfl (hb hBY d_prog_59_method_9_code_44) ?_
    show Steps p.tables e below (s₁.setTop (mkF m 46 #[Rv a, Rv b, Rv b] [(.int (6 : Int32)), (.ref a), (.long (u_a_5 - u_b_5)), (.long (u_a_4 - u_b_4)), (.long (u_a_3 - u_b_3)), (.long (u_a_2 - u_b_2)), (.long (u_a_1 - u_b_1)), (.long (u_a_0 - u_b_0)), (.ref b)])) tt_
    refine X0.laload hEX (j := (6 : Int32)) (v := (.long u_a_6)) (by rw [e0]; exact Ar_13.1) (State.isArrayOf_alike hZW.alike Ar_13.2.1) Ar_13.2.2 hin_13 hat_13 (g := (mkF m 46 #[Rv a, Rv b, Rv b] [(.int (6 : Int32)), (.ref a), (.long (u_a_5 - u_b_5)), (.long (u_a_4 - u_b_4)), (.long (u_a_3 - u_b_3)), (.long (u_a_2 - u_b_2)), (.long (u_a_1 - u_b_1)), (.long (u_a_0 - u_b_0)), (.ref b)])) rfl rfl (hb hBY d_prog_59_method_9_code_46) _ ?_
    show Steps p.tables e below (s₁.setTop (mkF m 47 #[Rv a, Rv b, Rv b] [(.long u_a_6), (.long (u_a_5 - u_b_5)), (.long (u_a_4 - u_b_4)), (.long (u_a_3 - u_b_3)), (.long (u_a_2 - u_b_2)), (.long (u_a_1 - u_b_1)), (.long (u_a_0 - u_b_0)), (.ref b)])) tt_
    refine XS.aloadN X0.here hEX rfl (hb hBY d_prog_59_method_9_code_47) rfl rfl ?_
    show Steps p.tables e below (s₁.setTop (mkF m 48 #[Rv a, Rv b, Rv b] [(.ref b), (.long u_a_6), (.long (u_a_5 - u_b_5)), (.long (u_a_4 - u_b_4)), (.long (u_a_3 - u_b_3)), (.long (u_a_2 - u_b_2)), (.long (u_a_1 - u_b_1)), (.long (u_a_0 - u_b_0)), (.ref b)])) tt_
    refine XS.bipush X0.here hEX rfl (hb hBY d_prog_59_method_9_code_48) ?_
    show Steps p.tables e below (s₁.setTop (mkF m 50 #[Rv a, Rv b, Rv b] [(.int (6 : Int32)), (.ref b), (.long u_a_6), (.long (u_a_5 - u_b_5)), (.long (u_a_4 - u_b_4)), (.long (u_a_3 - u_b_3)), (.long (u_a_2 - u_b_2)), (.long (u_a_1 - u_b_1)), (.long (u_a_0 - u_b_0)), (.ref b)])) tt_
    refine X0.laload hEX (j := (6 : Int32)) (v := (.long u_b_6)) (by rw [e0]; exact Ar_14.1) (State.isArrayOf_alike hZW.alike Ar_14.2.1) Ar_14.2.2 hin_14 hat_14 (g := (mkF m 50 #[Rv a, Rv b, Rv b] [(.int (6 : Int32)), (.ref b), (.long u_a_6), (.long (u_a_5 - u_b_5)), (.long (u_a_4 - u_b_4)), (.long (u_a_3 - u_b_3)), (.long (u_a_2 - u_b_2)), (.long (u_a_1 - u_b_1)), (.long (u_a_0 - u_b_0)), (.ref b)])) rfl rfl (hb hBY d_prog_59_method_9_code_50) _ ?_
    show Steps p.tables e below (s₁.setTop (mkF m 51 #[Rv a, Rv b, Rv b] [(.long u_b_6), (.long u_a_6), (.long (u_a_5 - u_b_5)), (.long (u_a_4 - u_b_4)), (.long (u_a_3 - u_b_3)), (.long (u_a_2 - u_b_2)), (.long (u_a_1 - u_b_1)), (.long (u_a_0 - u_b_0)), (.ref b)])) tt_
    refine XS.lsub X0.here hEX rfl (hb hBY d_prog_59_method_9_code_51) rfl ?_
    show Steps p.tables e below (s₁.setTop (mkF m 52 #[Rv a, Rv b, Rv b] [(.long (u_a_6 - u_b_6)), (.long (u_a_5 - u_b_5)), (.long (u_a_4 - u_b_4)), (.long (u_a_3 - u_b_3)), (.long (u_a_2 - u_b_2)), (.long (u_a_1 - u_b_1)), (.long (u_a_0 - u_b_0)), (.ref b)])) tt_
    refine XS.aloadN X0.here hEX rfl (hb hBY d_prog_59_method_9_code_52) rfl rfl ?_
    show Steps p.tables e below (s₁.setTop (mkF m 53 #[Rv a, Rv b, Rv b] [(.ref a), (.long (u_a_6 - u_b_6)), (.long (u_a_5 - u_b_5)), (.long (u_a_4 - u_b_4)), (.long (u_a_3 - u_b_3)), (.long (u_a_2 - u_b_2)), (.long (u_a_1 - u_b_1)), (.long (u_a_0 - u_b_0)), (.ref b)])) tt_
    refine XS.bipush X0.here hEX rfl (hb hBY d_prog_59_method_9_code_53) ?_
    show Steps p.tables e below (s₁.setTop (mkF m 55 #[Rv a, Rv b, Rv b] [(.int (7 : Int32)), (.ref a), (.long (u_a_6 - u_b_6)), (.long (u_a_5 - u_b_5)), (.long (u_a_4 - u_b_4)), (.long (u_a_3 - u_b_3)), (.long (u_a_2 - u_b_2)), (.long (u_a_1 - u_b_1)), (.long (u_a_0 - u_b_0)), (.ref b)])) tt_
    refine X0.laload hEX (j := (7 : Int32)) (v := (.long u_a_7)) (by rw [e0]; exact Ar_15.1) (State.isArrayOf_alike hZW.alike Ar_15.2.1) Ar_15.2.2 hin_15 hat_15 (g := (mkF m 55 #[Rv a, Rv b, Rv b] [(.int (7 : Int32)), (.ref a), (.long (u_a_6 - u_b_6)), (.long (u_a_5 - u_b_5)), (.long (u_a_4 - u_b_4)), (.long (u_a_3 - u_b_3)), (.long (u_a_2 - u_b_2)), (.long (u_a_1 - u_b_1)), (.long (u_a_0 - u_b_0)), (.ref b)])) rfl rfl (hb hBY d_prog_59_method_9_code_55) _ ?_
    show Steps p.tables e below (s₁.setTop (mkF m 56 #[Rv a, Rv b, Rv b] [(.long u_a_7), (.long (u_a_6 - u_b_6)), (.long (u_a_5 - u_b_5)), (.long (u_a_4 - u_b_4)), (.long (u_a_3 - u_b_3)), (.long (u_a_2 - u_b_2)), (.long (u_a_1 - u_b_1)), (.long (u_a_0 - u_b_0)), (.ref b)])) tt_
    refine XS.aloadN X0.here hEX rfl (hb hBY d_prog_59_method_9_code_56) rfl rfl ?_
    show Steps p.tables e below (s₁.setTop (mkF m 57 #[Rv a, Rv b, Rv b] [(.ref b), (.long u_a_7), (.long (u_a_6 - u_b_6)), (.long (u_a_5 - u_b_5)), (.long (u_a_4 - u_b_4)), (.long (u_a_3 - u_b_3)), (.long (u_a_2 - u_b_2)), (.long (u_a_1 - u_b_1)), (.long (u_a_0 - u_b_0)), (.ref b)])) tt_
    refine XS.bipush X0.here hEX rfl (hb hBY d_prog_59_method_9_code_57) ?_
    show Steps p.tables e below (s₁.setTop (mkF m 59 #[Rv a, Rv b, Rv b] [(.int (7 : Int32)), (.ref b), (.long u_a_7), (.long (u_a_6 - u_b_6)), (.long (u_a_5 - u_b_5)), (.long (u_a_4 - u_b_4)), (.long (u_a_3 - u_b_3)), (.long (u_a_2 - u_b_2)), (.long (u_a_1 - u_b_1)), (.long (u_a_0 - u_b_0)), (.ref b)])) tt_
    refine X0.laload hEX (j := (7 : Int32)) (v := (.long u_b_7)) (by rw [e0]; exact Ar_16.1) (State.isArrayOf_alike hZW.alike Ar_16.2.1) Ar_16.2.2 hin_16 hat_16 (g := (mkF m 59 #[Rv a, Rv b, Rv b] [(.int (7 : Int32)), (.ref b), (.long u_a_7), (.long (u_a_6 - u_b_6)), (.long (u_a_5 - u_b_5)), (.long (u_a_4 - u_b_4)), (.long (u_a_3 - u_b_3)), (.long (u_a_2 - u_b_2)), (.long (u_a_1 - u_b_1)), (.long (u_a_0 - u_b_0)), (.ref b)])) rfl rfl (hb hBY d_prog_59_method_9_code_59) _ ?_
    show Steps p.tables e below (s₁.setTop (mkF m 60 #[Rv a, Rv b, Rv b] [(.long u_b_7), (.long u_a_7), (.long (u_a_6 - u_b_6)), (.long (u_a_5 - u_b_5)), (.long (u_a_4 - u_b_4)), (.long (u_a_3 - u_b_3)), (.long (u_a_2 - u_b_2)), (.long (u_a_1 - u_b_1)), (.long (u_a_0 - u_b_0)), (.ref b)])) tt_
    refine XS.lsub X0.here hEX rfl (hb hBY d_prog_59_method_9_code_60) rfl ?_
    exact kt_
  refine Done.pre sg_17 ?_
  obtain ⟨_, _, ⟨T_18, L_18, k_18, n_18⟩, -, X_18, ⟨Lc_18, hQ_18, l_18, y_18, z_18⟩, st_18⟩ := Jvm.LawKit.callS X0 hEX (y := (⟨"com/example/guard3/guard3/P384Field", "store", "([JJJJJJJJJ)V"⟩ : MethodName)) hOW (mvT hZW (hw _ (List.mem_of_getElem? (i := 14) rfl))) (mvT hZW (hw _ (List.mem_of_getElem? (i := 15) rfl))) (mvT hZW (hw _ (List.mem_of_getElem? (i := 12) rfl))) (mvT hZW (hw _ (List.mem_of_getElem? (i := 16) rfl))) (by decide) (backOf (W := 0) (rm_store l Z aZ hw [] b (u_a_0 - u_b_0) (u_a_1 - u_b_1) (u_a_2 - u_b_2) (u_a_3 - u_b_3) (u_a_4 - u_b_4) (u_a_5 - u_b_5) (u_a_6 - u_b_6) (u_a_7 - u_b_7) k_b u_b_0 u_b_1 u_b_2 u_b_3 u_b_4 u_b_5 u_b_6 u_b_7 h0 n0 (Nat.le_trans Z0 K0.1) A_b go (own_Rup _ _ _ _ _ _ _ _ _ _ (by decide) (own_subb 1125899906842624 (by decide) u_a_0 u_a_1 u_a_2 u_a_3 u_a_4 u_a_5 u_a_6 u_a_7 u_b_0 u_b_1 u_b_2 u_b_3 u_b_4 u_b_5 u_b_6 u_b_7 hRa hRb).1)) hZW (hw _ (List.mem_of_getElem? (i := 16) rfl)) (hw _ (List.mem_of_getElem? (i := 12) rfl)) (by decide) (by decide)) (g := (mkF m 61 #[Rv a, Rv b, Rv b] [(.long (u_a_7 - u_b_7)), (.long (u_a_6 - u_b_6)), (.long (u_a_5 - u_b_5)), (.long (u_a_4 - u_b_4)), (.long (u_a_3 - u_b_3)), (.long (u_a_2 - u_b_2)), (.long (u_a_1 - u_b_1)), (.long (u_a_0 - u_b_0)), (.ref b)])) rfl (by rw [hMX]; rfl) (argsL := [(.ref b), (.long (u_a_0 - u_b_0)), (.long (u_a_1 - u_b_1)), (.long (u_a_2 - u_b_2)), (.long (u_a_3 - u_b_3)), (.long (u_a_4 - u_b_4)), (.long (u_a_5 - u_b_5)), (.long (u_a_6 - u_b_6)), (.long (u_a_7 - u_b_7))]) (rest := []) (lenOf pd___JJJJJJJJJ_V_8 rfl) rfl (by show 2 * 0 + _ ≤ _; exact Nat.le_of_eq rfl) (hb hBY d_prog_59_method_9_code_61) (fun _ _ => ⟨rfl, e0, (by decide : 0 + 0 ≤ _), (by decide : 0 + 0 ≤ _)⟩)
  dsimp only [Pt.U, Pt.locs, Pt.cells, Pt.slots] at X_18 l_18 y_18 z_18 st_18 hQ_18
  subst l_18 y_18 z_18
  obtain ⟨r0__18, r1__18, r2__18, r3__18, r4__18, r5__18, r6__18, r7__18, rfl, N_18q, K_18, hq_18_0, hq_18_1, hq_18_2⟩ := hQ_18
  have N_18 := Fr.app N0 N_18q
  have K__19 : Keep h0 T_18.heap [b] := K0.trans K_18 (allS (Or.inl (List.mem_of_getElem? (i := 0) rfl)) all0)
  have f_20 : Arv Z T_18.heap a k_a .long (8 : Int32) [(.long u_a_0), (.long u_a_1), (.long u_a_2), (.long u_a_3), (.long u_a_4), (.long u_a_5), (.long u_a_6), (.long u_a_7)] (.long (0 : Int64)) := A_a.keep K_18 (ninS ne_a_b nin0)
  refine Done.pre (fun _ k_ => st_18 _ k_) ?_
  show Done _ _ _ _ _ _ _ (T_18.setTop (mkF m 64 #[Rv a, Rv b, Rv b] []))
  exact Done.retV X_18 hEX hLK hRT (hb hBY d_prog_59_method_9_code_64) (by exact ⟨r0__18, r1__18, r2__18, r3__18, r4__18, r5__18, r6__18, r7__18, rfl, N_18, K__19, hq_18_0, hq_18_1, (by have q := hq_18_2; rw [(own_subb 1125899906842624 (by decide) u_a_0 u_a_1 u_a_2 u_a_3 u_a_4 u_a_5 u_a_6 u_a_7 u_b_0 u_b_1 u_b_2 u_b_3 u_b_4 u_b_5 u_b_6 u_b_7 hRa hRb).2] at q; exact q)⟩) (by decide) (by decide)
def Qrm_subtract_aao (Z : State) (a : Addr) (o : Addr) (k_a : ClassId) (u_a_0 : Int64) (u_a_1 : Int64) (u_a_2 : Int64) (u_a_3 : Int64) (u_a_4 : Int64) (u_a_5 : Int64) (u_a_6 : Int64) (u_a_7 : Int64) (k_o : ClassId) (u_o_0 : Int64) (u_o_1 : Int64) (u_o_2 : Int64) (u_o_3 : Int64) (u_o_4 : Int64) (u_o_5 : Int64) (u_o_6 : Int64) (u_o_7 : Int64) (h0 : Heap) (n0 : Nat) (v_ : Option Value) (h_ : Heap) (L_ : List Loc) : Prop := ∃ (r0 : Int64), ∃ (r1 : Int64), ∃ (r2 : Int64), ∃ (r3 : Int64), ∃ (r4 : Int64), ∃ (r5 : Int64), ∃ (r6 : Int64), ∃ (r7 : Int64), v_ = none ∧ Fr n0 L_ ∧ Keep h0 h_ [o] ∧ Arv Z h_ o k_o .long (8 : Int32) [(.long r0), (.long r1), (.long r2), (.long r3), (.long r4), (.long r5), (.long r6), (.long r7)] (.long (0 : Int64)) ∧ own_R 562949953421440 r0 r1 r2 r3 r4 r5 r6 r7 ∧ own_M ((own_W u_a_0 u_a_1 u_a_2 u_a_3 u_a_4 u_a_5 u_a_6 u_a_7 - own_W u_a_0 u_a_1 u_a_2 u_a_3 u_a_4 u_a_5 u_a_6 u_a_7) - own_W r0 r1 r2 r3 r4 r5 r6 r7)
theorem ef_rm_subtract_aao (m : MethodId) (x0 : Addr) (x1 : Addr) (x2 : Addr) : entryFrame m #[(.ref x1), (.ref x1), (.ref x2)] 3 = mkF m 0 #[.val (.ref x1), .val (.ref x1), .val (.ref x2)] [] := by first | (simp [entryFrame, mkF, argsToLocals, Value.category]; done) | rfl
set_option maxRecDepth 65536 in
set_option maxHeartbeats 40000000 in
theorem rm_subtract_aao (l : Launch) (Z : State) (aZ : Array Value) (hw : ∀ d ∈ tables_1, d.before aZ Z = true) (ws : List Jvm.Cond) (a : Addr) (o : Addr) (k_a : ClassId) (u_a_0 : Int64) (u_a_1 : Int64) (u_a_2 : Int64) (u_a_3 : Int64) (u_a_4 : Int64) (u_a_5 : Int64) (u_a_6 : Int64) (u_a_7 : Int64) (k_o : ClassId) (u_o_0 : Int64) (u_o_1 : Int64) (u_o_2 : Int64) (u_o_3 : Int64) (u_o_4 : Int64) (u_o_5 : Int64) (u_o_6 : Int64) (u_o_7 : Int64) (h0 : Heap) (n0 : Nat) (Z0 : n0 ≤ h0.size) (A_a : Arv Z h0 a k_a .long (8 : Int32) [(.long u_a_0), (.long u_a_1), (.long u_a_2), (.long u_a_3), (.long u_a_4), (.long u_a_5), (.long u_a_6), (.long u_a_7)] (.long (0 : Int64))) (A_o : Arv Z h0 o k_o .long (8 : Int32) [(.long u_o_0), (.long u_o_1), (.long u_o_2), (.long u_o_3), (.long u_o_4), (.long u_o_5), (.long u_o_6), (.long u_o_7)] (.long (0 : Int64))) (go : n0 ≤ o) (ne_a_o : a ≠ o) (hRa : own_R 1125899906842624 u_a_0 u_a_1 u_a_2 u_a_3 u_a_4 u_a_5 u_a_6 u_a_7) :
    MetFree l (⟨"com/example/guard3/guard3/P384Field", "subtract", "([J[J[J)V"⟩ : MethodName) (head1 (Jvm.Cond.code (⟨"com/example/guard3/guard3/P384Field", "subtract", "([J[J[J)V"⟩ : MethodName) prog_59_method_9_code 3 none :: ws) ({ frames := 1, cells := 0, slots := 0, locals := 34 } : Room)) (fun a_ U_ => a_ = #[(.ref a), (.ref a), (.ref o)] ∧ Z.Warmed39 U_.vm ∧ U_.heap = h0) (fun _ _ _ _ _ => True) (fun _ U_ o_ U2_ => ∃ v_ L_, o_ = .returned v_ ∧ Qrm_subtract_aao Z a o k_a u_a_0 u_a_1 u_a_2 u_a_3 u_a_4 u_a_5 u_a_6 u_a_7 k_o u_o_0 u_o_1 u_o_2 u_o_3 u_o_4 u_o_5 u_o_6 u_o_7 h0 n0 v_ U2_.heap L_ ∧ FrameEnd U_ o_ U2_ L_ ({ frames := 1, cells := 0, slots := 0, locals := 34 } : Room).cells ({ frames := 1, cells := 0, slots := 0, locals := 34 } : Room).slots) := by
  refine MetFree.of_bodySF (plainFor_of_name pn_com_example_guard3_guard3_P384Field) hisR ?_
  intro p e s m args below meth cO s₁ Bd hml0 hP hK
  obtain ⟨rfl, hZW, hh⟩ := hP
  have hEX := Bd.exec
  have hBY := Bd.bytes
  have hMX : cO.maxLocals = 3 := hml0
  have hOW : s.vm.findClass "com/example/guard3/guard3/P384Field" = some m.cls := findClass_of_methodNamed Bd.named
  have hNM := (name_of_methodNamed Bd.named Bd.method).1
  have hLK := Bd.notSynchronized
  have hRT := Bd.returns
  have X0 : Stand p l e ({ frames := 1, cells := 0, slots := 0, locals := 34 } : Room) s m #[(.ref a), (.ref a), (.ref o)] below meth cO s₁ [] 0 0 := Stand.of_body Bd
  have e0 : s₁.heap = h0 := by rw [← hh, Bd.state]; rfl
  have N0 := Fr.nil n0
  have K0 : Keep h0 h0 [o] := Keep.refl _ _
  show Done p e below s (Qrm_subtract_aao Z a o k_a u_a_0 u_a_1 u_a_2 u_a_3 u_a_4 u_a_5 u_a_6 u_a_7 k_o u_o_0 u_o_1 u_o_2 u_o_3 u_o_4 u_o_5 u_o_6 u_o_7 h0 n0) ({ frames := 1, cells := 0, slots := 0, locals := 34 } : Room).cells ({ frames := 1, cells := 0, slots := 0, locals := 34 } : Room).slots (s₁.setTop (entryFrame m #[(.ref a), (.ref a), (.ref o)] 3))
  refine Done.pre (fun t_ k_ => castTop (ef_rm_subtract_aao m a a o) k_) ?_
  show Done _ _ _ _ _ _ _ (s₁.setTop (mkF m 0 #[Rv a, Rv a, Rv o] []))
  obtain ⟨cl_1, Ar_1, q_1, S_1, N__1, H_1, G_1⟩ := id A_a
  have hin_1 : ¬ ((0 : Int32) < 0 ∨ cl_1.slots.size ≤ ((0 : Int32)).toNatClampNeg) := inb_of S_1 ⟨by decide, by decide⟩
  have hat_1 : cl_1.slots[((0 : Int32)).toNatClampNeg]? = some (.long u_a_0) := H_1.at hin_1 rfl
  obtain ⟨cl_2, Ar_2, q_2, S_2, N__2, H_2, G_2⟩ := id A_a
  have hin_2 : ¬ ((0 : Int32) < 0 ∨ cl_2.slots.size ≤ ((0 : Int32)).toNatClampNeg) := inb_of S_2 ⟨by decide, by decide⟩
  have hat_2 : cl_2.slots[((0 : Int32)).toNatClampNeg]? = some (.long u_a_0) := H_2.at hin_2 rfl
  obtain ⟨cl_3, Ar_3, q_3, S_3, N__3, H_3, G_3⟩ := id A_a
  have hin_3 : ¬ ((1 : Int32) < 0 ∨ cl_3.slots.size ≤ ((1 : Int32)).toNatClampNeg) := inb_of S_3 ⟨by decide, by decide⟩
  have hat_3 : cl_3.slots[((1 : Int32)).toNatClampNeg]? = some (.long u_a_1) := H_3.at hin_3 rfl
  obtain ⟨cl_4, Ar_4, q_4, S_4, N__4, H_4, G_4⟩ := id A_a
  have hin_4 : ¬ ((1 : Int32) < 0 ∨ cl_4.slots.size ≤ ((1 : Int32)).toNatClampNeg) := inb_of S_4 ⟨by decide, by decide⟩
  have hat_4 : cl_4.slots[((1 : Int32)).toNatClampNeg]? = some (.long u_a_1) := H_4.at hin_4 rfl
  obtain ⟨cl_5, Ar_5, q_5, S_5, N__5, H_5, G_5⟩ := id A_a
  have hin_5 : ¬ ((2 : Int32) < 0 ∨ cl_5.slots.size ≤ ((2 : Int32)).toNatClampNeg) := inb_of S_5 ⟨by decide, by decide⟩
  have hat_5 : cl_5.slots[((2 : Int32)).toNatClampNeg]? = some (.long u_a_2) := H_5.at hin_5 rfl
  obtain ⟨cl_6, Ar_6, q_6, S_6, N__6, H_6, G_6⟩ := id A_a
  have hin_6 : ¬ ((2 : Int32) < 0 ∨ cl_6.slots.size ≤ ((2 : Int32)).toNatClampNeg) := inb_of S_6 ⟨by decide, by decide⟩
  have hat_6 : cl_6.slots[((2 : Int32)).toNatClampNeg]? = some (.long u_a_2) := H_6.at hin_6 rfl
  obtain ⟨cl_7, Ar_7, q_7, S_7, N__7, H_7, G_7⟩ := id A_a
  have hin_7 : ¬ ((3 : Int32) < 0 ∨ cl_7.slots.size ≤ ((3 : Int32)).toNatClampNeg) := inb_of S_7 ⟨by decide, by decide⟩
  have hat_7 : cl_7.slots[((3 : Int32)).toNatClampNeg]? = some (.long u_a_3) := H_7.at hin_7 rfl
  obtain ⟨cl_8, Ar_8, q_8, S_8, N__8, H_8, G_8⟩ := id A_a
  have hin_8 : ¬ ((3 : Int32) < 0 ∨ cl_8.slots.size ≤ ((3 : Int32)).toNatClampNeg) := inb_of S_8 ⟨by decide, by decide⟩
  have hat_8 : cl_8.slots[((3 : Int32)).toNatClampNeg]? = some (.long u_a_3) := H_8.at hin_8 rfl
  obtain ⟨cl_9, Ar_9, q_9, S_9, N__9, H_9, G_9⟩ := id A_a
  have hin_9 : ¬ ((4 : Int32) < 0 ∨ cl_9.slots.size ≤ ((4 : Int32)).toNatClampNeg) := inb_of S_9 ⟨by decide, by decide⟩
  have hat_9 : cl_9.slots[((4 : Int32)).toNatClampNeg]? = some (.long u_a_4) := H_9.at hin_9 rfl
  obtain ⟨cl_10, Ar_10, q_10, S_10, N__10, H_10, G_10⟩ := id A_a
  have hin_10 : ¬ ((4 : Int32) < 0 ∨ cl_10.slots.size ≤ ((4 : Int32)).toNatClampNeg) := inb_of S_10 ⟨by decide, by decide⟩
  have hat_10 : cl_10.slots[((4 : Int32)).toNatClampNeg]? = some (.long u_a_4) := H_10.at hin_10 rfl
  obtain ⟨cl_11, Ar_11, q_11, S_11, N__11, H_11, G_11⟩ := id A_a
  have hin_11 : ¬ ((5 : Int32) < 0 ∨ cl_11.slots.size ≤ ((5 : Int32)).toNatClampNeg) := inb_of S_11 ⟨by decide, by decide⟩
  have hat_11 : cl_11.slots[((5 : Int32)).toNatClampNeg]? = some (.long u_a_5) := H_11.at hin_11 rfl
  obtain ⟨cl_12, Ar_12, q_12, S_12, N__12, H_12, G_12⟩ := id A_a
  have hin_12 : ¬ ((5 : Int32) < 0 ∨ cl_12.slots.size ≤ ((5 : Int32)).toNatClampNeg) := inb_of S_12 ⟨by decide, by decide⟩
  have hat_12 : cl_12.slots[((5 : Int32)).toNatClampNeg]? = some (.long u_a_5) := H_12.at hin_12 rfl
  obtain ⟨cl_13, Ar_13, q_13, S_13, N__13, H_13, G_13⟩ := id A_a
  have hin_13 : ¬ ((6 : Int32) < 0 ∨ cl_13.slots.size ≤ ((6 : Int32)).toNatClampNeg) := inb_of S_13 ⟨by decide, by decide⟩
  have hat_13 : cl_13.slots[((6 : Int32)).toNatClampNeg]? = some (.long u_a_6) := H_13.at hin_13 rfl
  obtain ⟨cl_14, Ar_14, q_14, S_14, N__14, H_14, G_14⟩ := id A_a
  have hin_14 : ¬ ((6 : Int32) < 0 ∨ cl_14.slots.size ≤ ((6 : Int32)).toNatClampNeg) := inb_of S_14 ⟨by decide, by decide⟩
  have hat_14 : cl_14.slots[((6 : Int32)).toNatClampNeg]? = some (.long u_a_6) := H_14.at hin_14 rfl
  obtain ⟨cl_15, Ar_15, q_15, S_15, N__15, H_15, G_15⟩ := id A_a
  have hin_15 : ¬ ((7 : Int32) < 0 ∨ cl_15.slots.size ≤ ((7 : Int32)).toNatClampNeg) := inb_of S_15 ⟨by decide, by decide⟩
  have hat_15 : cl_15.slots[((7 : Int32)).toNatClampNeg]? = some (.long u_a_7) := H_15.at hin_15 rfl
  obtain ⟨cl_16, Ar_16, q_16, S_16, N__16, H_16, G_16⟩ := id A_a
  have hin_16 : ¬ ((7 : Int32) < 0 ∨ cl_16.slots.size ≤ ((7 : Int32)).toNatClampNeg) := inb_of S_16 ⟨by decide, by decide⟩
  have hat_16 : cl_16.slots[((7 : Int32)).toNatClampNeg]? = some (.long u_a_7) := H_16.at hin_16 rfl
  have sg_17 : ∀ tt_, Steps p.tables e below (s₁.setTop (mkF m 61 #[Rv a, Rv a, Rv o] [(.long (u_a_7 - u_a_7)), (.long (u_a_6 - u_a_6)), (.long (u_a_5 - u_a_5)), (.long (u_a_4 - u_a_4)), (.long (u_a_3 - u_a_3)), (.long (u_a_2 - u_a_2)), (.long (u_a_1 - u_a_1)), (.long (u_a_0 - u_a_0)), (.ref o)])) tt_ → Steps p.tables e below (s₁.setTop (mkF m 0 #[Rv a, Rv a, Rv o] [])) tt_ := by
    intro tt_ kt_
    refine XS.aloadN X0.here hEX rfl (hb hBY d_prog_59_method_9_code_0) rfl rfl ?_
    show Steps p.tables e below (s₁.setTop (mkF m 1 #[Rv a, Rv a, Rv o] [(.ref o)])) tt_
    refine XS.aloadN X0.here hEX rfl (hb hBY d_prog_59_method_9_code_1) rfl rfl ?_
    show Steps p.tables e below (s₁.setTop (mkF m 2 #[Rv a, Rv a, Rv o] [(.ref a), (.ref o)])) tt_
    refine XS.iconst X0.here hEX rfl (hb hBY d_prog_59_method_9_code_2) ?_
    show Steps p.tables e below (s₁.setTop (mkF m 3 #[Rv a, Rv a, Rv o] [(.int (0 : Int32)), (.ref a), (.ref o)])) tt_
    refine X0.laload hEX (j := (0 : Int32)) (v := (.long u_a_0)) (by rw [e0]; exact Ar_1.1) (State.isArrayOf_alike hZW.alike Ar_1.2.1) Ar_1.2.2 hin_1 hat_1 (g := (mkF m 3 #[Rv a, Rv a, Rv o] [(.int (0 : Int32)), (.ref a), (.ref o)])) rfl rfl (hb hBY d_prog_59_method_9_code_3) _ ?_
    show Steps p.tables e below (s₁.setTop (mkF m 4 #[Rv a, Rv a, Rv o] [(.long u_a_0), (.ref o)])) tt_
    refine XS.aloadN X0.here hEX rfl (hb hBY d_prog_59_method_9_code_4) rfl rfl ?_
    show Steps p.tables e below (s₁.setTop (mkF m 5 #[Rv a, Rv a, Rv o] [(.ref a), (.long u_a_0), (.ref o)])) tt_
    refine XS.iconst X0.here hEX rfl (hb hBY d_prog_59_method_9_code_5) ?_
    show Steps p.tables e below (s₁.setTop (mkF m 6 #[Rv a, Rv a, Rv o] [(.int (0 : Int32)), (.ref a), (.long u_a_0), (.ref o)])) tt_
    refine X0.laload hEX (j := (0 : Int32)) (v := (.long u_a_0)) (by rw [e0]; exact Ar_2.1) (State.isArrayOf_alike hZW.alike Ar_2.2.1) Ar_2.2.2 hin_2 hat_2 (g := (mkF m 6 #[Rv a, Rv a, Rv o] [(.int (0 : Int32)), (.ref a), (.long u_a_0), (.ref o)])) rfl rfl (hb hBY d_prog_59_method_9_code_6) _ ?_
    show Steps p.tables e below (s₁.setTop (mkF m 7 #[Rv a, Rv a, Rv o] [(.long u_a_0), (.long u_a_0), (.ref o)])) tt_
    refine XS.lsub X0.here hEX rfl (hb hBY d_prog_59_method_9_code_7) rfl ?_
    show Steps p.tables e below (s₁.setTop (mkF m 8 #[Rv a, Rv a, Rv o] [(.long (u_a_0 - u_a_0)), (.ref o)])) tt_
    refine XS.aloadN X0.here hEX rfl (hb hBY d_prog_59_method_9_code_8) rfl rfl ?_
    show Steps p.tables e below (s₁.setTop (mkF m 9 #[Rv a, Rv a, Rv o] [(.ref a), (.long (u_a_0 - u_a_0)), (.ref o)])) tt_
    refine XS.iconst X0.here hEX rfl (hb hBY d_prog_59_method_9_code_9) ?_
    show Steps p.tables e below (s₁.setTop (mkF m 10 #[Rv a, Rv a, Rv o] [(.int (1 : Int32)), (.ref a), (.long (u_a_0 - u_a_0)), (.ref o)])) tt_
    refine X0.laload hEX (j := (1 : Int32)) (v := (.long u_a_1)) (by rw [e0]; exact Ar_3.1) (State.isArrayOf_alike hZW.alike Ar_3.2.1) Ar_3.2.2 hin_3 hat_3 (g := (mkF m 10 #[Rv a, Rv a, Rv o] [(.int (1 : Int32)), (.ref a), (.long (u_a_0 - u_a_0)), (.ref o)])) rfl rfl (hb hBY d_prog_59_method_9_code_10) _ ?_
    show Steps p.tables e below (s₁.setTop (mkF m 11 #[Rv a, Rv a, Rv o] [(.long u_a_1), (.long (u_a_0 - u_a_0)), (.ref o)])) tt_
    refine XS.aloadN X0.here hEX rfl (hb hBY d_prog_59_method_9_code_11) rfl rfl ?_
    show Steps p.tables e below (s₁.setTop (mkF m 12 #[Rv a, Rv a, Rv o] [(.ref a), (.long u_a_1), (.long (u_a_0 - u_a_0)), (.ref o)])) tt_
    refine XS.iconst X0.here hEX rfl (hb hBY d_prog_59_method_9_code_12) ?_
    show Steps p.tables e below (s₁.setTop (mkF m 13 #[Rv a, Rv a, Rv o] [(.int (1 : Int32)), (.ref a), (.long u_a_1), (.long (u_a_0 - u_a_0)), (.ref o)])) tt_
    refine X0.laload hEX (j := (1 : Int32)) (v := (.long u_a_1)) (by rw [e0]; exact Ar_4.1) (State.isArrayOf_alike hZW.alike Ar_4.2.1) Ar_4.2.2 hin_4 hat_4 (g := (mkF m 13 #[Rv a, Rv a, Rv o] [(.int (1 : Int32)), (.ref a), (.long u_a_1), (.long (u_a_0 - u_a_0)), (.ref o)])) rfl rfl (hb hBY d_prog_59_method_9_code_13) _ ?_
    show Steps p.tables e below (s₁.setTop (mkF m 14 #[Rv a, Rv a, Rv o] [(.long u_a_1), (.long u_a_1), (.long (u_a_0 - u_a_0)), (.ref o)])) tt_
    refine XS.lsub X0.here hEX rfl (hb hBY d_prog_59_method_9_code_14) rfl ?_
    show Steps p.tables e below (s₁.setTop (mkF m 15 #[Rv a, Rv a, Rv o] [(.long (u_a_1 - u_a_1)), (.long (u_a_0 - u_a_0)), (.ref o)])) tt_
    refine XS.aloadN X0.here hEX rfl (hb hBY d_prog_59_method_9_code_15) rfl rfl ?_
    show Steps p.tables e below (s₁.setTop (mkF m 16 #[Rv a, Rv a, Rv o] [(.ref a), (.long (u_a_1 - u_a_1)), (.long (u_a_0 - u_a_0)), (.ref o)])) tt_
    refine XS.iconst X0.here hEX rfl (hb hBY d_prog_59_method_9_code_16) ?_
    show Steps p.tables e below (s₁.setTop (mkF m 17 #[Rv a, Rv a, Rv o] [(.int (2 : Int32)), (.ref a), (.long (u_a_1 - u_a_1)), (.long (u_a_0 - u_a_0)), (.ref o)])) tt_
    refine X0.laload hEX (j := (2 : Int32)) (v := (.long u_a_2)) (by rw [e0]; exact Ar_5.1) (State.isArrayOf_alike hZW.alike Ar_5.2.1) Ar_5.2.2 hin_5 hat_5 (g := (mkF m 17 #[Rv a, Rv a, Rv o] [(.int (2 : Int32)), (.ref a), (.long (u_a_1 - u_a_1)), (.long (u_a_0 - u_a_0)), (.ref o)])) rfl rfl (hb hBY d_prog_59_method_9_code_17) _ ?_
    show Steps p.tables e below (s₁.setTop (mkF m 18 #[Rv a, Rv a, Rv o] [(.long u_a_2), (.long (u_a_1 - u_a_1)), (.long (u_a_0 - u_a_0)), (.ref o)])) tt_
    refine XS.aloadN X0.here hEX rfl (hb hBY d_prog_59_method_9_code_18) rfl rfl ?_
    show Steps p.tables e below (s₁.setTop (mkF m 19 #[Rv a, Rv a, Rv o] [(.ref a), (.long u_a_2), (.long (u_a_1 - u_a_1)), (.long (u_a_0 - u_a_0)), (.ref o)])) tt_
    refine XS.iconst X0.here hEX rfl (hb hBY d_prog_59_method_9_code_19) ?_
    show Steps p.tables e below (s₁.setTop (mkF m 20 #[Rv a, Rv a, Rv o] [(.int (2 : Int32)), (.ref a), (.long u_a_2), (.long (u_a_1 - u_a_1)), (.long (u_a_0 - u_a_0)), (.ref o)])) tt_
    refine X0.laload hEX (j := (2 : Int32)) (v := (.long u_a_2)) (by rw [e0]; exact Ar_6.1) (State.isArrayOf_alike hZW.alike Ar_6.2.1) Ar_6.2.2 hin_6 hat_6 (g := (mkF m 20 #[Rv a, Rv a, Rv o] [(.int (2 : Int32)), (.ref a), (.long u_a_2), (.long (u_a_1 - u_a_1)), (.long (u_a_0 - u_a_0)), (.ref o)])) rfl rfl (hb hBY d_prog_59_method_9_code_20) _ ?_
    show Steps p.tables e below (s₁.setTop (mkF m 21 #[Rv a, Rv a, Rv o] [(.long u_a_2), (.long u_a_2), (.long (u_a_1 - u_a_1)), (.long (u_a_0 - u_a_0)), (.ref o)])) tt_
    refine XS.lsub X0.here hEX rfl (hb hBY d_prog_59_method_9_code_21) rfl ?_
    show Steps p.tables e below (s₁.setTop (mkF m 22 #[Rv a, Rv a, Rv o] [(.long (u_a_2 - u_a_2)), (.long (u_a_1 - u_a_1)), (.long (u_a_0 - u_a_0)), (.ref o)])) tt_
    refine XS.aloadN X0.here hEX rfl (hb hBY d_prog_59_method_9_code_22) rfl rfl ?_
    show Steps p.tables e below (s₁.setTop (mkF m 23 #[Rv a, Rv a, Rv o] [(.ref a), (.long (u_a_2 - u_a_2)), (.long (u_a_1 - u_a_1)), (.long (u_a_0 - u_a_0)), (.ref o)])) tt_
    refine XS.iconst X0.here hEX rfl (hb hBY d_prog_59_method_9_code_23) ?_
    show Steps p.tables e below (s₁.setTop (mkF m 24 #[Rv a, Rv a, Rv o] [(.int (3 : Int32)), (.ref a), (.long (u_a_2 - u_a_2)), (.long (u_a_1 - u_a_1)), (.long (u_a_0 - u_a_0)), (.ref o)])) tt_
    refine X0.laload hEX (j := (3 : Int32)) (v := (.long u_a_3)) (by rw [e0]; exact Ar_7.1) (State.isArrayOf_alike hZW.alike Ar_7.2.1) Ar_7.2.2 hin_7 hat_7 (g := (mkF m 24 #[Rv a, Rv a, Rv o] [(.int (3 : Int32)), (.ref a), (.long (u_a_2 - u_a_2)), (.long (u_a_1 - u_a_1)), (.long (u_a_0 - u_a_0)), (.ref o)])) rfl rfl (hb hBY d_prog_59_method_9_code_24) _ ?_
    show Steps p.tables e below (s₁.setTop (mkF m 25 #[Rv a, Rv a, Rv o] [(.long u_a_3), (.long (u_a_2 - u_a_2)), (.long (u_a_1 - u_a_1)), (.long (u_a_0 - u_a_0)), (.ref o)])) tt_
    refine XS.aloadN X0.here hEX rfl (hb hBY d_prog_59_method_9_code_25) rfl rfl ?_
    show Steps p.tables e below (s₁.setTop (mkF m 26 #[Rv a, Rv a, Rv o] [(.ref a), (.long u_a_3), (.long (u_a_2 - u_a_2)), (.long (u_a_1 - u_a_1)), (.long (u_a_0 - u_a_0)), (.ref o)])) tt_
    refine XS.iconst X0.here hEX rfl (hb hBY d_prog_59_method_9_code_26) ?_
    show Steps p.tables e below (s₁.setTop (mkF m 27 #[Rv a, Rv a, Rv o] [(.int (3 : Int32)), (.ref a), (.long u_a_3), (.long (u_a_2 - u_a_2)), (.long (u_a_1 - u_a_1)), (.long (u_a_0 - u_a_0)), (.ref o)])) tt_
    refine X0.laload hEX (j := (3 : Int32)) (v := (.long u_a_3)) (by rw [e0]; exact Ar_8.1) (State.isArrayOf_alike hZW.alike Ar_8.2.1) Ar_8.2.2 hin_8 hat_8 (g := (mkF m 27 #[Rv a, Rv a, Rv o] [(.int (3 : Int32)), (.ref a), (.long u_a_3), (.long (u_a_2 - u_a_2)), (.long (u_a_1 - u_a_1)), (.long (u_a_0 - u_a_0)), (.ref o)])) rfl rfl (hb hBY d_prog_59_method_9_code_27) _ ?_
    show Steps p.tables e below (s₁.setTop (mkF m 28 #[Rv a, Rv a, Rv o] [(.long u_a_3), (.long u_a_3), (.long (u_a_2 - u_a_2)), (.long (u_a_1 - u_a_1)), (.long (u_a_0 - u_a_0)), (.ref o)])) tt_
    refine XS.lsub X0.here hEX rfl (hb hBY d_prog_59_method_9_code_28) rfl ?_
    show Steps p.tables e below (s₁.setTop (mkF m 29 #[Rv a, Rv a, Rv o] [(.long (u_a_3 - u_a_3)), (.long (u_a_2 - u_a_2)), (.long (u_a_1 - u_a_1)), (.long (u_a_0 - u_a_0)), (.ref o)])) tt_
    refine XS.aloadN X0.here hEX rfl (hb hBY d_prog_59_method_9_code_29) rfl rfl ?_
    show Steps p.tables e below (s₁.setTop (mkF m 30 #[Rv a, Rv a, Rv o] [(.ref a), (.long (u_a_3 - u_a_3)), (.long (u_a_2 - u_a_2)), (.long (u_a_1 - u_a_1)), (.long (u_a_0 - u_a_0)), (.ref o)])) tt_
    refine XS.iconst X0.here hEX rfl (hb hBY d_prog_59_method_9_code_30) ?_
    show Steps p.tables e below (s₁.setTop (mkF m 31 #[Rv a, Rv a, Rv o] [(.int (4 : Int32)), (.ref a), (.long (u_a_3 - u_a_3)), (.long (u_a_2 - u_a_2)), (.long (u_a_1 - u_a_1)), (.long (u_a_0 - u_a_0)), (.ref o)])) tt_
    refine X0.laload hEX (j := (4 : Int32)) (v := (.long u_a_4)) (by rw [e0]; exact Ar_9.1) (State.isArrayOf_alike hZW.alike Ar_9.2.1) Ar_9.2.2 hin_9 hat_9 (g := (mkF m 31 #[Rv a, Rv a, Rv o] [(.int (4 : Int32)), (.ref a), (.long (u_a_3 - u_a_3)), (.long (u_a_2 - u_a_2)), (.long (u_a_1 - u_a_1)), (.long (u_a_0 - u_a_0)), (.ref o)])) rfl rfl (hb hBY d_prog_59_method_9_code_31) _ ?_
    show Steps p.tables e below (s₁.setTop (mkF m 32 #[Rv a, Rv a, Rv o] [(.long u_a_4), (.long (u_a_3 - u_a_3)), (.long (u_a_2 - u_a_2)), (.long (u_a_1 - u_a_1)), (.long (u_a_0 - u_a_0)), (.ref o)])) tt_
    refine XS.aloadN X0.here hEX rfl (hb hBY d_prog_59_method_9_code_32) rfl rfl ?_
    show Steps p.tables e below (s₁.setTop (mkF m 33 #[Rv a, Rv a, Rv o] [(.ref a), (.long u_a_4), (.long (u_a_3 - u_a_3)), (.long (u_a_2 - u_a_2)), (.long (u_a_1 - u_a_1)), (.long (u_a_0 - u_a_0)), (.ref o)])) tt_
    refine XS.iconst X0.here hEX rfl (hb hBY d_prog_59_method_9_code_33) ?_
    show Steps p.tables e below (s₁.setTop (mkF m 34 #[Rv a, Rv a, Rv o] [(.int (4 : Int32)), (.ref a), (.long u_a_4), (.long (u_a_3 - u_a_3)), (.long (u_a_2 - u_a_2)), (.long (u_a_1 - u_a_1)), (.long (u_a_0 - u_a_0)), (.ref o)])) tt_
    refine X0.laload hEX (j := (4 : Int32)) (v := (.long u_a_4)) (by rw [e0]; exact Ar_10.1) (State.isArrayOf_alike hZW.alike Ar_10.2.1) Ar_10.2.2 hin_10 hat_10 (g := (mkF m 34 #[Rv a, Rv a, Rv o] [(.int (4 : Int32)), (.ref a), (.long u_a_4), (.long (u_a_3 - u_a_3)), (.long (u_a_2 - u_a_2)), (.long (u_a_1 - u_a_1)), (.long (u_a_0 - u_a_0)), (.ref o)])) rfl rfl (hb hBY d_prog_59_method_9_code_34) _ ?_
    show Steps p.tables e below (s₁.setTop (mkF m 35 #[Rv a, Rv a, Rv o] [(.long u_a_4), (.long u_a_4), (.long (u_a_3 - u_a_3)), (.long (u_a_2 - u_a_2)), (.long (u_a_1 - u_a_1)), (.long (u_a_0 - u_a_0)), (.ref o)])) tt_
    refine XS.lsub X0.here hEX rfl (hb hBY d_prog_59_method_9_code_35) rfl ?_
    show Steps p.tables e below (s₁.setTop (mkF m 36 #[Rv a, Rv a, Rv o] [(.long (u_a_4 - u_a_4)), (.long (u_a_3 - u_a_3)), (.long (u_a_2 - u_a_2)), (.long (u_a_1 - u_a_1)), (.long (u_a_0 - u_a_0)), (.ref o)])) tt_
    refine XS.aloadN X0.here hEX rfl (hb hBY d_prog_59_method_9_code_36) rfl rfl ?_
    show Steps p.tables e below (s₁.setTop (mkF m 37 #[Rv a, Rv a, Rv o] [(.ref a), (.long (u_a_4 - u_a_4)), (.long (u_a_3 - u_a_3)), (.long (u_a_2 - u_a_2)), (.long (u_a_1 - u_a_1)), (.long (u_a_0 - u_a_0)), (.ref o)])) tt_
    refine XS.iconst X0.here hEX rfl (hb hBY d_prog_59_method_9_code_37) ?_
    show Steps p.tables e below (s₁.setTop (mkF m 38 #[Rv a, Rv a, Rv o] [(.int (5 : Int32)), (.ref a), (.long (u_a_4 - u_a_4)), (.long (u_a_3 - u_a_3)), (.long (u_a_2 - u_a_2)), (.long (u_a_1 - u_a_1)), (.long (u_a_0 - u_a_0)), (.ref o)])) tt_
    refine X0.laload hEX (j := (5 : Int32)) (v := (.long u_a_5)) (by rw [e0]; exact Ar_11.1) (State.isArrayOf_alike hZW.alike Ar_11.2.1) Ar_11.2.2 hin_11 hat_11 (g := (mkF m 38 #[Rv a, Rv a, Rv o] [(.int (5 : Int32)), (.ref a), (.long (u_a_4 - u_a_4)), (.long (u_a_3 - u_a_3)), (.long (u_a_2 - u_a_2)), (.long (u_a_1 - u_a_1)), (.long (u_a_0 - u_a_0)), (.ref o)])) rfl rfl (hb hBY d_prog_59_method_9_code_38) _ ?_
    show Steps p.tables e below (s₁.setTop (mkF m 39 #[Rv a, Rv a, Rv o] [(.long u_a_5), (.long (u_a_4 - u_a_4)), (.long (u_a_3 - u_a_3)), (.long (u_a_2 - u_a_2)), (.long (u_a_1 - u_a_1)), (.long (u_a_0 - u_a_0)), (.ref o)])) tt_
    refine XS.aloadN X0.here hEX rfl (hb hBY d_prog_59_method_9_code_39) rfl rfl ?_
    show Steps p.tables e below (s₁.setTop (mkF m 40 #[Rv a, Rv a, Rv o] [(.ref a), (.long u_a_5), (.long (u_a_4 - u_a_4)), (.long (u_a_3 - u_a_3)), (.long (u_a_2 - u_a_2)), (.long (u_a_1 - u_a_1)), (.long (u_a_0 - u_a_0)), (.ref o)])) tt_
    refine XS.iconst X0.here hEX rfl (hb hBY d_prog_59_method_9_code_40) ?_
    show Steps p.tables e below (s₁.setTop (mkF m 41 #[Rv a, Rv a, Rv o] [(.int (5 : Int32)), (.ref a), (.long u_a_5), (.long (u_a_4 - u_a_4)), (.long (u_a_3 - u_a_3)), (.long (u_a_2 - u_a_2)), (.long (u_a_1 - u_a_1)), (.long (u_a_0 - u_a_0)), (.ref o)])) tt_
    refine X0.laload hEX (j := (5 : Int32)) (v := (.long u_a_5)) (by rw [e0]; exact Ar_12.1) (State.isArrayOf_alike hZW.alike Ar_12.2.1) Ar_12.2.2 hin_12 hat_12 (g := (mkF m 41 #[Rv a, Rv a, Rv o] [(.int (5 : Int32)), (.ref a), (.long u_a_5), (.long (u_a_4 - u_a_4)), (.long (u_a_3 - u_a_3)), (.long (u_a_2 - u_a_2)), (.long (u_a_1 - u_a_1)), (.long (u_a_0 - u_a_0)), (.ref o)])) rfl rfl (hb hBY d_prog_59_method_9_code_41) _ ?_
    show Steps p.tables e below (s₁.setTop (mkF m 42 #[Rv a, Rv a, Rv o] [(.long u_a_5), (.long u_a_5), (.long (u_a_4 - u_a_4)), (.long (u_a_3 - u_a_3)), (.long (u_a_2 - u_a_2)), (.long (u_a_1 - u_a_1)), (.long (u_a_0 - u_a_0)), (.ref o)])) tt_
    refine XS.lsub X0.here hEX rfl (hb hBY d_prog_59_method_9_code_42) rfl ?_
    show Steps p.tables e below (s₁.setTop (mkF m 43 #[Rv a, Rv a, Rv o] [(.long (u_a_5 - u_a_5)), (.long (u_a_4 - u_a_4)), (.long (u_a_3 - u_a_3)), (.long (u_a_2 - u_a_2)), (.long (u_a_1 - u_a_1)), (.long (u_a_0 - u_a_0)), (.ref o)])) tt_
    refine XS.aloadN X0.here hEX rfl (hb hBY d_prog_59_method_9_code_43) rfl rfl ?_
    show Steps p.tables e below (s₁.setTop (mkF m 44 #[Rv a, Rv a, Rv o] [(.ref a), (.long (u_a_5 - u_a_5)), (.long (u_a_4 - u_a_4)), (.long (u_a_3 - u_a_3)), (.long (u_a_2 - u_a_2)), (.long (u_a_1 - u_a_1)), (.long (u_a_0 - u_a_0)), (.ref o)])) tt_
    refine XS.bipush X0.here hEX rfl (hb hBY d_prog_59_method_9_code_44) ?_
    show Steps p.tables e below (s₁.setTop (mkF m 46 #[Rv a, Rv a, Rv o] [(.int (6 : Int32)), (.ref a), (.long (u_a_5 - u_a_5)), (.long (u_a_4 - u_a_4)), (.long (u_a_3 - u_a_3)), (.long (u_a_2 - u_a_2)), (.long (u_a_1 - u_a_1)), (.long (u_a_0 - u_a_0)), (.ref o)])) tt_
    refine X0.laload hEX (j := (6 : Int32)) (v := (.long u_a_6)) (by rw [e0]; exact Ar_13.1) (State.isArrayOf_alike hZW.alike Ar_13.2.1) Ar_13.2.2 hin_13 hat_13 (g := (mkF m 46 #[Rv a, Rv a, Rv o] [(.int (6 : Int32)), (.ref a), (.long (u_a_5 - u_a_5)), (.long (u_a_4 - u_a_4)), (.long (u_a_3 - u_a_3)), (.long (u_a_2 - u_a_2)), (.long (u_a_1 - u_a_1)), (.long (u_a_0 - u_a_0)), (.ref o)])) rfl rfl (hb hBY d_prog_59_method_9_code_46) _ ?_
    show Steps p.tables e below (s₁.setTop (mkF m 47 #[Rv a, Rv a, Rv o] [(.long u_a_6), (.long (u_a_5 - u_a_5)), (.long (u_a_4 - u_a_4)), (.long (u_a_3 - u_a_3)), (.long (u_a_2 - u_a_2)), (.long (u_a_1 - u_a_1)), (.long (u_a_0 - u_a_0)), (.ref o)])) tt_
    refine XS.aloadN X0.here hEX rfl (hb hBY d_prog_59_method_9_code_47) rfl rfl ?_
    show Steps p.tables e below (s₁.setTop (mkF m 48 #[Rv a, Rv a, Rv o] [(.ref a), (.long u_a_6), (.long (u_a_5 - u_a_5)), (.long (u_a_4 - u_a_4)), (.long (u_a_3 - u_a_3)), (.long (u_a_2 - u_a_2)), (.long (u_a_1 - u_a_1)), (.long (u_a_0 - u_a_0)), (.ref o)])) tt_
    refine XS.bipush X0.here hEX rfl (hb hBY d_prog_59_method_9_code_48) ?_
    show Steps p.tables e below (s₁.setTop (mkF m 50 #[Rv a, Rv a, Rv o] [(.int (6 : Int32)), (.ref a), (.long u_a_6), (.long (u_a_5 - u_a_5)), (.long (u_a_4 - u_a_4)), (.long (u_a_3 - u_a_3)), (.long (u_a_2 - u_a_2)), (.long (u_a_1 - u_a_1)), (.long (u_a_0 - u_a_0)), (.ref o)])) tt_
    refine X0.laload hEX (j := (6 : Int32)) (v := (.long u_a_6)) (by rw [e0]; exact Ar_14.1) (State.isArrayOf_alike hZW.alike Ar_14.2.1) Ar_14.2.2 hin_14 hat_14 (g := (mkF m 50 #[Rv a, Rv a, Rv o] [(.int (6 : Int32)), (.ref a), (.long u_a_6), (.long (u_a_5 - u_a_5)), (.long (u_a_4 - u_a_4)), (.long (u_a_3 - u_a_3)), (.long (u_a_2 - u_a_2)), (.long (u_a_1 - u_a_1)), (.long (u_a_0 - u_a_0)), (.ref o)])) rfl rfl (hb hBY d_prog_59_method_9_code_50) _ ?_
    show Steps p.tables e below (s₁.setTop (mkF m 51 #[Rv a, Rv a, Rv o] [(.long u_a_6), (.long u_a_6), (.long (u_a_5 - u_a_5)), (.long (u_a_4 - u_a_4)), (.long (u_a_3 - u_a_3)), (.long (u_a_2 - u_a_2)), (.long (u_a_1 - u_a_1)), (.long (u_a_0 - u_a_0)), (.ref o)])) tt_
    refine XS.lsub X0.here hEX rfl (hb hBY d_prog_59_method_9_code_51) rfl ?_
    show Steps p.tables e below (s₁.setTop (mkF m 52 #[Rv a, Rv a, Rv o] [(.long (u_a_6 - u_a_6)), (.long (u_a_5 - u_a_5)), (.long (u_a_4 - u_a_4)), (.long (u_a_3 - u_a_3)), (.long (u_a_2 - u_a_2)), (.long (u_a_1 - u_a_1)), (.long (u_a_0 - u_a_0)), (.ref o)])) tt_
    refine XS.aloadN X0.here hEX rfl (hb hBY d_prog_59_method_9_code_52) rfl rfl ?_
    show Steps p.tables e below (s₁.setTop (mkF m 53 #[Rv a, Rv a, Rv o] [(.ref a), (.long (u_a_6 - u_a_6)), (.long (u_a_5 - u_a_5)), (.long (u_a_4 - u_a_4)), (.long (u_a_3 - u_a_3)), (.long (u_a_2 - u_a_2)), (.long (u_a_1 - u_a_1)), (.long (u_a_0 - u_a_0)), (.ref o)])) tt_
    refine XS.bipush X0.here hEX rfl (hb hBY d_prog_59_method_9_code_53) ?_
    show Steps p.tables e below (s₁.setTop (mkF m 55 #[Rv a, Rv a, Rv o] [(.int (7 : Int32)), (.ref a), (.long (u_a_6 - u_a_6)), (.long (u_a_5 - u_a_5)), (.long (u_a_4 - u_a_4)), (.long (u_a_3 - u_a_3)), (.long (u_a_2 - u_a_2)), (.long (u_a_1 - u_a_1)), (.long (u_a_0 - u_a_0)), (.ref o)])) tt_
    refine X0.laload hEX (j := (7 : Int32)) (v := (.long u_a_7)) (by rw [e0]; exact Ar_15.1) (State.isArrayOf_alike hZW.alike Ar_15.2.1) Ar_15.2.2 hin_15 hat_15 (g := (mkF m 55 #[Rv a, Rv a, Rv o] [(.int (7 : Int32)), (.ref a), (.long (u_a_6 - u_a_6)), (.long (u_a_5 - u_a_5)), (.long (u_a_4 - u_a_4)), (.long (u_a_3 - u_a_3)), (.long (u_a_2 - u_a_2)), (.long (u_a_1 - u_a_1)), (.long (u_a_0 - u_a_0)), (.ref o)])) rfl rfl (hb hBY d_prog_59_method_9_code_55) _ ?_
    show Steps p.tables e below (s₁.setTop (mkF m 56 #[Rv a, Rv a, Rv o] [(.long u_a_7), (.long (u_a_6 - u_a_6)), (.long (u_a_5 - u_a_5)), (.long (u_a_4 - u_a_4)), (.long (u_a_3 - u_a_3)), (.long (u_a_2 - u_a_2)), (.long (u_a_1 - u_a_1)), (.long (u_a_0 - u_a_0)), (.ref o)])) tt_
    refine XS.aloadN X0.here hEX rfl (hb hBY d_prog_59_method_9_code_56) rfl rfl ?_
    show Steps p.tables e below (s₁.setTop (mkF m 57 #[Rv a, Rv a, Rv o] [(.ref a), (.long u_a_7), (.long (u_a_6 - u_a_6)), (.long (u_a_5 - u_a_5)), (.long (u_a_4 - u_a_4)), (.long (u_a_3 - u_a_3)), (.long (u_a_2 - u_a_2)), (.long (u_a_1 - u_a_1)), (.long (u_a_0 - u_a_0)), (.ref o)])) tt_
    refine XS.bipush X0.here hEX rfl (hb hBY d_prog_59_method_9_code_57) ?_
    show Steps p.tables e below (s₁.setTop (mkF m 59 #[Rv a, Rv a, Rv o] [(.int (7 : Int32)), (.ref a), (.long u_a_7), (.long (u_a_6 - u_a_6)), (.long (u_a_5 - u_a_5)), (.long (u_a_4 - u_a_4)), (.long (u_a_3 - u_a_3)), (.long (u_a_2 - u_a_2)), (.long (u_a_1 - u_a_1)), (.long (u_a_0 - u_a_0)), (.ref o)])) tt_
    refine X0.laload hEX (j := (7 : Int32)) (v := (.long u_a_7)) (by rw [e0]; exact Ar_16.1) (State.isArrayOf_alike hZW.alike Ar_16.2.1) Ar_16.2.2 hin_16 hat_16 (g := (mkF m 59 #[Rv a, Rv a, Rv o] [(.int (7 : Int32)), (.ref a), (.long u_a_7), (.long (u_a_6 - u_a_6)), (.long (u_a_5 - u_a_5)), (.long (u_a_4 - u_a_4)), (.long (u_a_3 - u_a_3)), (.long (u_a_2 - u_a_2)), (.long (u_a_1 - u_a_1)), (.long (u_a_0 - u_a_0)), (.ref o)])) rfl rfl (hb hBY d_prog_59_method_9_code_59) _ ?_
    show Steps p.tables e below (s₁.setTop (mkF m 60 #[Rv a, Rv a, Rv o] [(.long u_a_7), (.long u_a_7), (.long (u_a_6 - u_a_6)), (.long (u_a_5 - u_a_5)), (.long (u_a_4 - u_a_4)), (.long (u_a_3 - u_a_3)), (.long (u_a_2 - u_a_2)), (.long (u_a_1 - u_a_1)), (.long (u_a_0 - u_a_0)), (.ref o)])) tt_
    refine XS.lsub X0.here hEX rfl (hb hBY d_prog_59_method_9_code_60) rfl ?_
    exact kt_
  refine Done.pre sg_17 ?_
  obtain ⟨_, _, ⟨T_18, L_18, k_18, n_18⟩, -, X_18, ⟨Lc_18, hQ_18, l_18, y_18, z_18⟩, st_18⟩ := Jvm.LawKit.callS X0 hEX (y := (⟨"com/example/guard3/guard3/P384Field", "store", "([JJJJJJJJJ)V"⟩ : MethodName)) hOW (mvT hZW (hw _ (List.mem_of_getElem? (i := 14) rfl))) (mvT hZW (hw _ (List.mem_of_getElem? (i := 15) rfl))) (mvT hZW (hw _ (List.mem_of_getElem? (i := 12) rfl))) (mvT hZW (hw _ (List.mem_of_getElem? (i := 16) rfl))) (by decide) (backOf (W := 0) (rm_store l Z aZ hw [] o (u_a_0 - u_a_0) (u_a_1 - u_a_1) (u_a_2 - u_a_2) (u_a_3 - u_a_3) (u_a_4 - u_a_4) (u_a_5 - u_a_5) (u_a_6 - u_a_6) (u_a_7 - u_a_7) k_o u_o_0 u_o_1 u_o_2 u_o_3 u_o_4 u_o_5 u_o_6 u_o_7 h0 n0 (Nat.le_trans Z0 K0.1) A_o go (own_Rup _ _ _ _ _ _ _ _ _ _ (by decide) (own_subb 1125899906842624 (by decide) u_a_0 u_a_1 u_a_2 u_a_3 u_a_4 u_a_5 u_a_6 u_a_7 u_a_0 u_a_1 u_a_2 u_a_3 u_a_4 u_a_5 u_a_6 u_a_7 hRa hRa).1)) hZW (hw _ (List.mem_of_getElem? (i := 16) rfl)) (hw _ (List.mem_of_getElem? (i := 12) rfl)) (by decide) (by decide)) (g := (mkF m 61 #[Rv a, Rv a, Rv o] [(.long (u_a_7 - u_a_7)), (.long (u_a_6 - u_a_6)), (.long (u_a_5 - u_a_5)), (.long (u_a_4 - u_a_4)), (.long (u_a_3 - u_a_3)), (.long (u_a_2 - u_a_2)), (.long (u_a_1 - u_a_1)), (.long (u_a_0 - u_a_0)), (.ref o)])) rfl (by rw [hMX]; rfl) (argsL := [(.ref o), (.long (u_a_0 - u_a_0)), (.long (u_a_1 - u_a_1)), (.long (u_a_2 - u_a_2)), (.long (u_a_3 - u_a_3)), (.long (u_a_4 - u_a_4)), (.long (u_a_5 - u_a_5)), (.long (u_a_6 - u_a_6)), (.long (u_a_7 - u_a_7))]) (rest := []) (lenOf pd___JJJJJJJJJ_V_8 rfl) rfl (by show 2 * 0 + _ ≤ _; exact Nat.le_of_eq rfl) (hb hBY d_prog_59_method_9_code_61) (fun _ _ => ⟨rfl, e0, (by decide : 0 + 0 ≤ _), (by decide : 0 + 0 ≤ _)⟩)
  dsimp only [Pt.U, Pt.locs, Pt.cells, Pt.slots] at X_18 l_18 y_18 z_18 st_18 hQ_18
  subst l_18 y_18 z_18
  obtain ⟨r0__18, r1__18, r2__18, r3__18, r4__18, r5__18, r6__18, r7__18, rfl, N_18q, K_18, hq_18_0, hq_18_1, hq_18_2⟩ := hQ_18
  have N_18 := Fr.app N0 N_18q
  have K__19 : Keep h0 T_18.heap [o] := K0.trans K_18 (allS (Or.inl (List.mem_of_getElem? (i := 0) rfl)) all0)
  have f_20 : Arv Z T_18.heap a k_a .long (8 : Int32) [(.long u_a_0), (.long u_a_1), (.long u_a_2), (.long u_a_3), (.long u_a_4), (.long u_a_5), (.long u_a_6), (.long u_a_7)] (.long (0 : Int64)) := A_a.keep K_18 (ninS ne_a_o nin0)
  refine Done.pre (fun _ k_ => st_18 _ k_) ?_
  show Done _ _ _ _ _ _ _ (T_18.setTop (mkF m 64 #[Rv a, Rv a, Rv o] []))
  exact Done.retV X_18 hEX hLK hRT (hb hBY d_prog_59_method_9_code_64) (by exact ⟨r0__18, r1__18, r2__18, r3__18, r4__18, r5__18, r6__18, r7__18, rfl, N_18, K__19, hq_18_0, hq_18_1, (by have q := hq_18_2; rw [(own_subb 1125899906842624 (by decide) u_a_0 u_a_1 u_a_2 u_a_3 u_a_4 u_a_5 u_a_6 u_a_7 u_a_0 u_a_1 u_a_2 u_a_3 u_a_4 u_a_5 u_a_6 u_a_7 hRa hRa).2] at q; exact q)⟩) (by decide) (by decide)
def Qrm_subtract_aaa (Z : State) (a : Addr) (k_a : ClassId) (u_a_0 : Int64) (u_a_1 : Int64) (u_a_2 : Int64) (u_a_3 : Int64) (u_a_4 : Int64) (u_a_5 : Int64) (u_a_6 : Int64) (u_a_7 : Int64) (h0 : Heap) (n0 : Nat) (v_ : Option Value) (h_ : Heap) (L_ : List Loc) : Prop := ∃ (r0 : Int64), ∃ (r1 : Int64), ∃ (r2 : Int64), ∃ (r3 : Int64), ∃ (r4 : Int64), ∃ (r5 : Int64), ∃ (r6 : Int64), ∃ (r7 : Int64), v_ = none ∧ Fr n0 L_ ∧ Keep h0 h_ [a] ∧ Arv Z h_ a k_a .long (8 : Int32) [(.long r0), (.long r1), (.long r2), (.long r3), (.long r4), (.long r5), (.long r6), (.long r7)] (.long (0 : Int64)) ∧ own_R 562949953421440 r0 r1 r2 r3 r4 r5 r6 r7 ∧ own_M ((own_W u_a_0 u_a_1 u_a_2 u_a_3 u_a_4 u_a_5 u_a_6 u_a_7 - own_W u_a_0 u_a_1 u_a_2 u_a_3 u_a_4 u_a_5 u_a_6 u_a_7) - own_W r0 r1 r2 r3 r4 r5 r6 r7)
theorem ef_rm_subtract_aaa (m : MethodId) (x0 : Addr) (x1 : Addr) (x2 : Addr) : entryFrame m #[(.ref x2), (.ref x2), (.ref x2)] 3 = mkF m 0 #[.val (.ref x2), .val (.ref x2), .val (.ref x2)] [] := by first | (simp [entryFrame, mkF, argsToLocals, Value.category]; done) | rfl
set_option maxRecDepth 65536 in
set_option maxHeartbeats 40000000 in
theorem rm_subtract_aaa (l : Launch) (Z : State) (aZ : Array Value) (hw : ∀ d ∈ tables_1, d.before aZ Z = true) (ws : List Jvm.Cond) (a : Addr) (k_a : ClassId) (u_a_0 : Int64) (u_a_1 : Int64) (u_a_2 : Int64) (u_a_3 : Int64) (u_a_4 : Int64) (u_a_5 : Int64) (u_a_6 : Int64) (u_a_7 : Int64) (h0 : Heap) (n0 : Nat) (Z0 : n0 ≤ h0.size) (A_a : Arv Z h0 a k_a .long (8 : Int32) [(.long u_a_0), (.long u_a_1), (.long u_a_2), (.long u_a_3), (.long u_a_4), (.long u_a_5), (.long u_a_6), (.long u_a_7)] (.long (0 : Int64))) (go : n0 ≤ a) (hRa : own_R 1125899906842624 u_a_0 u_a_1 u_a_2 u_a_3 u_a_4 u_a_5 u_a_6 u_a_7) :
    MetFree l (⟨"com/example/guard3/guard3/P384Field", "subtract", "([J[J[J)V"⟩ : MethodName) (head1 (Jvm.Cond.code (⟨"com/example/guard3/guard3/P384Field", "subtract", "([J[J[J)V"⟩ : MethodName) prog_59_method_9_code 3 none :: ws) ({ frames := 1, cells := 0, slots := 0, locals := 34 } : Room)) (fun a_ U_ => a_ = #[(.ref a), (.ref a), (.ref a)] ∧ Z.Warmed39 U_.vm ∧ U_.heap = h0) (fun _ _ _ _ _ => True) (fun _ U_ o_ U2_ => ∃ v_ L_, o_ = .returned v_ ∧ Qrm_subtract_aaa Z a k_a u_a_0 u_a_1 u_a_2 u_a_3 u_a_4 u_a_5 u_a_6 u_a_7 h0 n0 v_ U2_.heap L_ ∧ FrameEnd U_ o_ U2_ L_ ({ frames := 1, cells := 0, slots := 0, locals := 34 } : Room).cells ({ frames := 1, cells := 0, slots := 0, locals := 34 } : Room).slots) := by
  refine MetFree.of_bodySF (plainFor_of_name pn_com_example_guard3_guard3_P384Field) hisR ?_
  intro p e s m args below meth cO s₁ Bd hml0 hP hK
  obtain ⟨rfl, hZW, hh⟩ := hP
  have hEX := Bd.exec
  have hBY := Bd.bytes
  have hMX : cO.maxLocals = 3 := hml0
  have hOW : s.vm.findClass "com/example/guard3/guard3/P384Field" = some m.cls := findClass_of_methodNamed Bd.named
  have hNM := (name_of_methodNamed Bd.named Bd.method).1
  have hLK := Bd.notSynchronized
  have hRT := Bd.returns
  have X0 : Stand p l e ({ frames := 1, cells := 0, slots := 0, locals := 34 } : Room) s m #[(.ref a), (.ref a), (.ref a)] below meth cO s₁ [] 0 0 := Stand.of_body Bd
  have e0 : s₁.heap = h0 := by rw [← hh, Bd.state]; rfl
  have N0 := Fr.nil n0
  have K0 : Keep h0 h0 [a] := Keep.refl _ _
  show Done p e below s (Qrm_subtract_aaa Z a k_a u_a_0 u_a_1 u_a_2 u_a_3 u_a_4 u_a_5 u_a_6 u_a_7 h0 n0) ({ frames := 1, cells := 0, slots := 0, locals := 34 } : Room).cells ({ frames := 1, cells := 0, slots := 0, locals := 34 } : Room).slots (s₁.setTop (entryFrame m #[(.ref a), (.ref a), (.ref a)] 3))
  refine Done.pre (fun t_ k_ => castTop (ef_rm_subtract_aaa m a a a) k_) ?_
  show Done _ _ _ _ _ _ _ (s₁.setTop (mkF m 0 #[Rv a, Rv a, Rv a] []))
  obtain ⟨cl_1, Ar_1, q_1, S_1, N__1, H_1, G_1⟩ := id A_a
  have hin_1 : ¬ ((0 : Int32) < 0 ∨ cl_1.slots.size ≤ ((0 : Int32)).toNatClampNeg) := inb_of S_1 ⟨by decide, by decide⟩
  have hat_1 : cl_1.slots[((0 : Int32)).toNatClampNeg]? = some (.long u_a_0) := H_1.at hin_1 rfl
  obtain ⟨cl_2, Ar_2, q_2, S_2, N__2, H_2, G_2⟩ := id A_a
  have hin_2 : ¬ ((0 : Int32) < 0 ∨ cl_2.slots.size ≤ ((0 : Int32)).toNatClampNeg) := inb_of S_2 ⟨by decide, by decide⟩
  have hat_2 : cl_2.slots[((0 : Int32)).toNatClampNeg]? = some (.long u_a_0) := H_2.at hin_2 rfl
  obtain ⟨cl_3, Ar_3, q_3, S_3, N__3, H_3, G_3⟩ := id A_a
  have hin_3 : ¬ ((1 : Int32) < 0 ∨ cl_3.slots.size ≤ ((1 : Int32)).toNatClampNeg) := inb_of S_3 ⟨by decide, by decide⟩
  have hat_3 : cl_3.slots[((1 : Int32)).toNatClampNeg]? = some (.long u_a_1) := H_3.at hin_3 rfl
  obtain ⟨cl_4, Ar_4, q_4, S_4, N__4, H_4, G_4⟩ := id A_a
  have hin_4 : ¬ ((1 : Int32) < 0 ∨ cl_4.slots.size ≤ ((1 : Int32)).toNatClampNeg) := inb_of S_4 ⟨by decide, by decide⟩
  have hat_4 : cl_4.slots[((1 : Int32)).toNatClampNeg]? = some (.long u_a_1) := H_4.at hin_4 rfl
  obtain ⟨cl_5, Ar_5, q_5, S_5, N__5, H_5, G_5⟩ := id A_a
  have hin_5 : ¬ ((2 : Int32) < 0 ∨ cl_5.slots.size ≤ ((2 : Int32)).toNatClampNeg) := inb_of S_5 ⟨by decide, by decide⟩
  have hat_5 : cl_5.slots[((2 : Int32)).toNatClampNeg]? = some (.long u_a_2) := H_5.at hin_5 rfl
  obtain ⟨cl_6, Ar_6, q_6, S_6, N__6, H_6, G_6⟩ := id A_a
  have hin_6 : ¬ ((2 : Int32) < 0 ∨ cl_6.slots.size ≤ ((2 : Int32)).toNatClampNeg) := inb_of S_6 ⟨by decide, by decide⟩
  have hat_6 : cl_6.slots[((2 : Int32)).toNatClampNeg]? = some (.long u_a_2) := H_6.at hin_6 rfl
  obtain ⟨cl_7, Ar_7, q_7, S_7, N__7, H_7, G_7⟩ := id A_a
  have hin_7 : ¬ ((3 : Int32) < 0 ∨ cl_7.slots.size ≤ ((3 : Int32)).toNatClampNeg) := inb_of S_7 ⟨by decide, by decide⟩
  have hat_7 : cl_7.slots[((3 : Int32)).toNatClampNeg]? = some (.long u_a_3) := H_7.at hin_7 rfl
  obtain ⟨cl_8, Ar_8, q_8, S_8, N__8, H_8, G_8⟩ := id A_a
  have hin_8 : ¬ ((3 : Int32) < 0 ∨ cl_8.slots.size ≤ ((3 : Int32)).toNatClampNeg) := inb_of S_8 ⟨by decide, by decide⟩
  have hat_8 : cl_8.slots[((3 : Int32)).toNatClampNeg]? = some (.long u_a_3) := H_8.at hin_8 rfl
  obtain ⟨cl_9, Ar_9, q_9, S_9, N__9, H_9, G_9⟩ := id A_a
  have hin_9 : ¬ ((4 : Int32) < 0 ∨ cl_9.slots.size ≤ ((4 : Int32)).toNatClampNeg) := inb_of S_9 ⟨by decide, by decide⟩
  have hat_9 : cl_9.slots[((4 : Int32)).toNatClampNeg]? = some (.long u_a_4) := H_9.at hin_9 rfl
  obtain ⟨cl_10, Ar_10, q_10, S_10, N__10, H_10, G_10⟩ := id A_a
  have hin_10 : ¬ ((4 : Int32) < 0 ∨ cl_10.slots.size ≤ ((4 : Int32)).toNatClampNeg) := inb_of S_10 ⟨by decide, by decide⟩
  have hat_10 : cl_10.slots[((4 : Int32)).toNatClampNeg]? = some (.long u_a_4) := H_10.at hin_10 rfl
  obtain ⟨cl_11, Ar_11, q_11, S_11, N__11, H_11, G_11⟩ := id A_a
  have hin_11 : ¬ ((5 : Int32) < 0 ∨ cl_11.slots.size ≤ ((5 : Int32)).toNatClampNeg) := inb_of S_11 ⟨by decide, by decide⟩
  have hat_11 : cl_11.slots[((5 : Int32)).toNatClampNeg]? = some (.long u_a_5) := H_11.at hin_11 rfl
  obtain ⟨cl_12, Ar_12, q_12, S_12, N__12, H_12, G_12⟩ := id A_a
  have hin_12 : ¬ ((5 : Int32) < 0 ∨ cl_12.slots.size ≤ ((5 : Int32)).toNatClampNeg) := inb_of S_12 ⟨by decide, by decide⟩
  have hat_12 : cl_12.slots[((5 : Int32)).toNatClampNeg]? = some (.long u_a_5) := H_12.at hin_12 rfl
  obtain ⟨cl_13, Ar_13, q_13, S_13, N__13, H_13, G_13⟩ := id A_a
  have hin_13 : ¬ ((6 : Int32) < 0 ∨ cl_13.slots.size ≤ ((6 : Int32)).toNatClampNeg) := inb_of S_13 ⟨by decide, by decide⟩
  have hat_13 : cl_13.slots[((6 : Int32)).toNatClampNeg]? = some (.long u_a_6) := H_13.at hin_13 rfl
  obtain ⟨cl_14, Ar_14, q_14, S_14, N__14, H_14, G_14⟩ := id A_a
  have hin_14 : ¬ ((6 : Int32) < 0 ∨ cl_14.slots.size ≤ ((6 : Int32)).toNatClampNeg) := inb_of S_14 ⟨by decide, by decide⟩
  have hat_14 : cl_14.slots[((6 : Int32)).toNatClampNeg]? = some (.long u_a_6) := H_14.at hin_14 rfl
  obtain ⟨cl_15, Ar_15, q_15, S_15, N__15, H_15, G_15⟩ := id A_a
  have hin_15 : ¬ ((7 : Int32) < 0 ∨ cl_15.slots.size ≤ ((7 : Int32)).toNatClampNeg) := inb_of S_15 ⟨by decide, by decide⟩
  have hat_15 : cl_15.slots[((7 : Int32)).toNatClampNeg]? = some (.long u_a_7) := H_15.at hin_15 rfl
  obtain ⟨cl_16, Ar_16, q_16, S_16, N__16, H_16, G_16⟩ := id A_a
  have hin_16 : ¬ ((7 : Int32) < 0 ∨ cl_16.slots.size ≤ ((7 : Int32)).toNatClampNeg) := inb_of S_16 ⟨by decide, by decide⟩
  have hat_16 : cl_16.slots[((7 : Int32)).toNatClampNeg]? = some (.long u_a_7) := H_16.at hin_16 rfl
  have sg_17 : ∀ tt_, Steps p.tables e below (s₁.setTop (mkF m 61 #[Rv a, Rv a, Rv a] [(.long (u_a_7 - u_a_7)), (.long (u_a_6 - u_a_6)), (.long (u_a_5 - u_a_5)), (.long (u_a_4 - u_a_4)), (.long (u_a_3 - u_a_3)), (.long (u_a_2 - u_a_2)), (.long (u_a_1 - u_a_1)), (.long (u_a_0 - u_a_0)), (.ref a)])) tt_ → Steps p.tables e below (s₁.setTop (mkF m 0 #[Rv a, Rv a, Rv a] [])) tt_ := by
    intro tt_ kt_
    refine XS.aloadN X0.here hEX rfl (hb hBY d_prog_59_method_9_code_0) rfl rfl ?_
    show Steps p.tables e below (s₁.setTop (mkF m 1 #[Rv a, Rv a, Rv a] [(.ref a)])) tt_
    refine XS.aloadN X0.here hEX rfl (hb hBY d_prog_59_method_9_code_1) rfl rfl ?_
    show Steps p.tables e below (s₁.setTop (mkF m 2 #[Rv a, Rv a, Rv a] [(.ref a), (.ref a)])) tt_
    refine XS.iconst X0.here hEX rfl (hb hBY d_prog_59_method_9_code_2) ?_
    show Steps p.tables e below (s₁.setTop (mkF m 3 #[Rv a, Rv a, Rv a] [(.int (0 : Int32)), (.ref a), (.ref a)])) tt_
    refine X0.laload hEX (j := (0 : Int32)) (v := (.long u_a_0)) (by rw [e0]; exact Ar_1.1) (State.isArrayOf_alike hZW.alike Ar_1.2.1) Ar_1.2.2 hin_1 hat_1 (g := (mkF m 3 #[Rv a, Rv a, Rv a] [(.int (0 : Int32)), (.ref a), (.ref a)])) rfl rfl (hb hBY d_prog_59_method_9_code_3) _ ?_
    show Steps p.tables e below (s₁.setTop (mkF m 4 #[Rv a, Rv a, Rv a] [(.long u_a_0), (.ref a)])) tt_
    refine XS.aloadN X0.here hEX rfl (hb hBY d_prog_59_method_9_code_4) rfl rfl ?_
    show Steps p.tables e below (s₁.setTop (mkF m 5 #[Rv a, Rv a, Rv a] [(.ref a), (.long u_a_0), (.ref a)])) tt_
    refine XS.iconst X0.here hEX rfl (hb hBY d_prog_59_method_9_code_5) ?_
    show Steps p.tables e below (s₁.setTop (mkF m 6 #[Rv a, Rv a, Rv a] [(.int (0 : Int32)), (.ref a), (.long u_a_0), (.ref a)])) tt_
    refine X0.laload hEX (j := (0 : Int32)) (v := (.long u_a_0)) (by rw [e0]; exact Ar_2.1) (State.isArrayOf_alike hZW.alike Ar_2.2.1) Ar_2.2.2 hin_2 hat_2 (g := (mkF m 6 #[Rv a, Rv a, Rv a] [(.int (0 : Int32)), (.ref a), (.long u_a_0), (.ref a)])) rfl rfl (hb hBY d_prog_59_method_9_code_6) _ ?_
    show Steps p.tables e below (s₁.setTop (mkF m 7 #[Rv a, Rv a, Rv a] [(.long u_a_0), (.long u_a_0), (.ref a)])) tt_
    refine XS.lsub X0.here hEX rfl (hb hBY d_prog_59_method_9_code_7) rfl ?_
    show Steps p.tables e below (s₁.setTop (mkF m 8 #[Rv a, Rv a, Rv a] [(.long (u_a_0 - u_a_0)), (.ref a)])) tt_
    refine XS.aloadN X0.here hEX rfl (hb hBY d_prog_59_method_9_code_8) rfl rfl ?_
    show Steps p.tables e below (s₁.setTop (mkF m 9 #[Rv a, Rv a, Rv a] [(.ref a), (.long (u_a_0 - u_a_0)), (.ref a)])) tt_
    refine XS.iconst X0.here hEX rfl (hb hBY d_prog_59_method_9_code_9) ?_
    show Steps p.tables e below (s₁.setTop (mkF m 10 #[Rv a, Rv a, Rv a] [(.int (1 : Int32)), (.ref a), (.long (u_a_0 - u_a_0)), (.ref a)])) tt_
    refine X0.laload hEX (j := (1 : Int32)) (v := (.long u_a_1)) (by rw [e0]; exact Ar_3.1) (State.isArrayOf_alike hZW.alike Ar_3.2.1) Ar_3.2.2 hin_3 hat_3 (g := (mkF m 10 #[Rv a, Rv a, Rv a] [(.int (1 : Int32)), (.ref a), (.long (u_a_0 - u_a_0)), (.ref a)])) rfl rfl (hb hBY d_prog_59_method_9_code_10) _ ?_
    show Steps p.tables e below (s₁.setTop (mkF m 11 #[Rv a, Rv a, Rv a] [(.long u_a_1), (.long (u_a_0 - u_a_0)), (.ref a)])) tt_
    refine XS.aloadN X0.here hEX rfl (hb hBY d_prog_59_method_9_code_11) rfl rfl ?_
    show Steps p.tables e below (s₁.setTop (mkF m 12 #[Rv a, Rv a, Rv a] [(.ref a), (.long u_a_1), (.long (u_a_0 - u_a_0)), (.ref a)])) tt_
    refine XS.iconst X0.here hEX rfl (hb hBY d_prog_59_method_9_code_12) ?_
    show Steps p.tables e below (s₁.setTop (mkF m 13 #[Rv a, Rv a, Rv a] [(.int (1 : Int32)), (.ref a), (.long u_a_1), (.long (u_a_0 - u_a_0)), (.ref a)])) tt_
    refine X0.laload hEX (j := (1 : Int32)) (v := (.long u_a_1)) (by rw [e0]; exact Ar_4.1) (State.isArrayOf_alike hZW.alike Ar_4.2.1) Ar_4.2.2 hin_4 hat_4 (g := (mkF m 13 #[Rv a, Rv a, Rv a] [(.int (1 : Int32)), (.ref a), (.long u_a_1), (.long (u_a_0 - u_a_0)), (.ref a)])) rfl rfl (hb hBY d_prog_59_method_9_code_13) _ ?_
    show Steps p.tables e below (s₁.setTop (mkF m 14 #[Rv a, Rv a, Rv a] [(.long u_a_1), (.long u_a_1), (.long (u_a_0 - u_a_0)), (.ref a)])) tt_
    refine XS.lsub X0.here hEX rfl (hb hBY d_prog_59_method_9_code_14) rfl ?_
    show Steps p.tables e below (s₁.setTop (mkF m 15 #[Rv a, Rv a, Rv a] [(.long (u_a_1 - u_a_1)), (.long (u_a_0 - u_a_0)), (.ref a)])) tt_
    refine XS.aloadN X0.here hEX rfl (hb hBY d_prog_59_method_9_code_15) rfl rfl ?_
    show Steps p.tables e below (s₁.setTop (mkF m 16 #[Rv a, Rv a, Rv a] [(.ref a), (.long (u_a_1 - u_a_1)), (.long (u_a_0 - u_a_0)), (.ref a)])) tt_
    refine XS.iconst X0.here hEX rfl (hb hBY d_prog_59_method_9_code_16) ?_
    show Steps p.tables e below (s₁.setTop (mkF m 17 #[Rv a, Rv a, Rv a] [(.int (2 : Int32)), (.ref a), (.long (u_a_1 - u_a_1)), (.long (u_a_0 - u_a_0)), (.ref a)])) tt_
    refine X0.laload hEX (j := (2 : Int32)) (v := (.long u_a_2)) (by rw [e0]; exact Ar_5.1) (State.isArrayOf_alike hZW.alike Ar_5.2.1) Ar_5.2.2 hin_5 hat_5 (g := (mkF m 17 #[Rv a, Rv a, Rv a] [(.int (2 : Int32)), (.ref a), (.long (u_a_1 - u_a_1)), (.long (u_a_0 - u_a_0)), (.ref a)])) rfl rfl (hb hBY d_prog_59_method_9_code_17) _ ?_
    show Steps p.tables e below (s₁.setTop (mkF m 18 #[Rv a, Rv a, Rv a] [(.long u_a_2), (.long (u_a_1 - u_a_1)), (.long (u_a_0 - u_a_0)), (.ref a)])) tt_
    refine XS.aloadN X0.here hEX rfl (hb hBY d_prog_59_method_9_code_18) rfl rfl ?_
    show Steps p.tables e below (s₁.setTop (mkF m 19 #[Rv a, Rv a, Rv a] [(.ref a), (.long u_a_2), (.long (u_a_1 - u_a_1)), (.long (u_a_0 - u_a_0)), (.ref a)])) tt_
    refine XS.iconst X0.here hEX rfl (hb hBY d_prog_59_method_9_code_19) ?_
    show Steps p.tables e below (s₁.setTop (mkF m 20 #[Rv a, Rv a, Rv a] [(.int (2 : Int32)), (.ref a), (.long u_a_2), (.long (u_a_1 - u_a_1)), (.long (u_a_0 - u_a_0)), (.ref a)])) tt_
    refine X0.laload hEX (j := (2 : Int32)) (v := (.long u_a_2)) (by rw [e0]; exact Ar_6.1) (State.isArrayOf_alike hZW.alike Ar_6.2.1) Ar_6.2.2 hin_6 hat_6 (g := (mkF m 20 #[Rv a, Rv a, Rv a] [(.int (2 : Int32)), (.ref a), (.long u_a_2), (.long (u_a_1 - u_a_1)), (.long (u_a_0 - u_a_0)), (.ref a)])) rfl rfl (hb hBY d_prog_59_method_9_code_20) _ ?_
    show Steps p.tables e below (s₁.setTop (mkF m 21 #[Rv a, Rv a, Rv a] [(.long u_a_2), (.long u_a_2), (.long (u_a_1 - u_a_1)), (.long (u_a_0 - u_a_0)), (.ref a)])) tt_
    refine XS.lsub X0.here hEX rfl (hb hBY d_prog_59_method_9_code_21) rfl ?_
    show Steps p.tables e below (s₁.setTop (mkF m 22 #[Rv a, Rv a, Rv a] [(.long (u_a_2 - u_a_2)), (.long (u_a_1 - u_a_1)), (.long (u_a_0 - u_a_0)), (.ref a)])) tt_
    refine XS.aloadN X0.here hEX rfl (hb hBY d_prog_59_method_9_code_22) rfl rfl ?_
    show Steps p.tables e below (s₁.setTop (mkF m 23 #[Rv a, Rv a, Rv a] [(.ref a), (.long (u_a_2 - u_a_2)), (.long (u_a_1 - u_a_1)), (.long (u_a_0 - u_a_0)), (.ref a)])) tt_
    refine XS.iconst X0.here hEX rfl (hb hBY d_prog_59_method_9_code_23) ?_
    show Steps p.tables e below (s₁.setTop (mkF m 24 #[Rv a, Rv a, Rv a] [(.int (3 : Int32)), (.ref a), (.long (u_a_2 - u_a_2)), (.long (u_a_1 - u_a_1)), (.long (u_a_0 - u_a_0)), (.ref a)])) tt_
    refine X0.laload hEX (j := (3 : Int32)) (v := (.long u_a_3)) (by rw [e0]; exact Ar_7.1) (State.isArrayOf_alike hZW.alike Ar_7.2.1) Ar_7.2.2 hin_7 hat_7 (g := (mkF m 24 #[Rv a, Rv a, Rv a] [(.int (3 : Int32)), (.ref a), (.long (u_a_2 - u_a_2)), (.long (u_a_1 - u_a_1)), (.long (u_a_0 - u_a_0)), (.ref a)])) rfl rfl (hb hBY d_prog_59_method_9_code_24) _ ?_
    show Steps p.tables e below (s₁.setTop (mkF m 25 #[Rv a, Rv a, Rv a] [(.long u_a_3), (.long (u_a_2 - u_a_2)), (.long (u_a_1 - u_a_1)), (.long (u_a_0 - u_a_0)), (.ref a)])) tt_
    refine XS.aloadN X0.here hEX rfl (hb hBY d_prog_59_method_9_code_25) rfl rfl ?_
    show Steps p.tables e below (s₁.setTop (mkF m 26 #[Rv a, Rv a, Rv a] [(.ref a), (.long u_a_3), (.long (u_a_2 - u_a_2)), (.long (u_a_1 - u_a_1)), (.long (u_a_0 - u_a_0)), (.ref a)])) tt_
    refine XS.iconst X0.here hEX rfl (hb hBY d_prog_59_method_9_code_26) ?_
    show Steps p.tables e below (s₁.setTop (mkF m 27 #[Rv a, Rv a, Rv a] [(.int (3 : Int32)), (.ref a), (.long u_a_3), (.long (u_a_2 - u_a_2)), (.long (u_a_1 - u_a_1)), (.long (u_a_0 - u_a_0)), (.ref a)])) tt_
    refine X0.laload hEX (j := (3 : Int32)) (v := (.long u_a_3)) (by rw [e0]; exact Ar_8.1) (State.isArrayOf_alike hZW.alike Ar_8.2.1) Ar_8.2.2 hin_8 hat_8 (g := (mkF m 27 #[Rv a, Rv a, Rv a] [(.int (3 : Int32)), (.ref a), (.long u_a_3), (.long (u_a_2 - u_a_2)), (.long (u_a_1 - u_a_1)), (.long (u_a_0 - u_a_0)), (.ref a)])) rfl rfl (hb hBY d_prog_59_method_9_code_27) _ ?_
    show Steps p.tables e below (s₁.setTop (mkF m 28 #[Rv a, Rv a, Rv a] [(.long u_a_3), (.long u_a_3), (.long (u_a_2 - u_a_2)), (.long (u_a_1 - u_a_1)), (.long (u_a_0 - u_a_0)), (.ref a)])) tt_
    refine XS.lsub X0.here hEX rfl (hb hBY d_prog_59_method_9_code_28) rfl ?_
    show Steps p.tables e below (s₁.setTop (mkF m 29 #[Rv a, Rv a, Rv a] [(.long (u_a_3 - u_a_3)), (.long (u_a_2 - u_a_2)), (.long (u_a_1 - u_a_1)), (.long (u_a_0 - u_a_0)), (.ref a)])) tt_
    refine XS.aloadN X0.here hEX rfl (hb hBY d_prog_59_method_9_code_29) rfl rfl ?_
    show Steps p.tables e below (s₁.setTop (mkF m 30 #[Rv a, Rv a, Rv a] [(.ref a), (.long (u_a_3 - u_a_3)), (.long (u_a_2 - u_a_2)), (.long (u_a_1 - u_a_1)), (.long (u_a_0 - u_a_0)), (.ref a)])) tt_
    refine XS.iconst X0.here hEX rfl (hb hBY d_prog_59_method_9_code_30) ?_
    show Steps p.tables e below (s₁.setTop (mkF m 31 #[Rv a, Rv a, Rv a] [(.int (4 : Int32)), (.ref a), (.long (u_a_3 - u_a_3)), (.long (u_a_2 - u_a_2)), (.long (u_a_1 - u_a_1)), (.long (u_a_0 - u_a_0)), (.ref a)])) tt_
    refine X0.laload hEX (j := (4 : Int32)) (v := (.long u_a_4)) (by rw [e0]; exact Ar_9.1) (State.isArrayOf_alike hZW.alike Ar_9.2.1) Ar_9.2.2 hin_9 hat_9 (g := (mkF m 31 #[Rv a, Rv a, Rv a] [(.int (4 : Int32)), (.ref a), (.long (u_a_3 - u_a_3)), (.long (u_a_2 - u_a_2)), (.long (u_a_1 - u_a_1)), (.long (u_a_0 - u_a_0)), (.ref a)])) rfl rfl (hb hBY d_prog_59_method_9_code_31) _ ?_
    show Steps p.tables e below (s₁.setTop (mkF m 32 #[Rv a, Rv a, Rv a] [(.long u_a_4), (.long (u_a_3 - u_a_3)), (.long (u_a_2 - u_a_2)), (.long (u_a_1 - u_a_1)), (.long (u_a_0 - u_a_0)), (.ref a)])) tt_
    refine XS.aloadN X0.here hEX rfl (hb hBY d_prog_59_method_9_code_32) rfl rfl ?_
    show Steps p.tables e below (s₁.setTop (mkF m 33 #[Rv a, Rv a, Rv a] [(.ref a), (.long u_a_4), (.long (u_a_3 - u_a_3)), (.long (u_a_2 - u_a_2)), (.long (u_a_1 - u_a_1)), (.long (u_a_0 - u_a_0)), (.ref a)])) tt_
    refine XS.iconst X0.here hEX rfl (hb hBY d_prog_59_method_9_code_33) ?_
    show Steps p.tables e below (s₁.setTop (mkF m 34 #[Rv a, Rv a, Rv a] [(.int (4 : Int32)), (.ref a), (.long u_a_4), (.long (u_a_3 - u_a_3)), (.long (u_a_2 - u_a_2)), (.long (u_a_1 - u_a_1)), (.long (u_a_0 - u_a_0)), (.ref a)])) tt_
    refine X0.laload hEX (j := (4 : Int32)) (v := (.long u_a_4)) (by rw [e0]; exact Ar_10.1) (State.isArrayOf_alike hZW.alike Ar_10.2.1) Ar_10.2.2 hin_10 hat_10 (g := (mkF m 34 #[Rv a, Rv a, Rv a] [(.int (4 : Int32)), (.ref a), (.long u_a_4), (.long (u_a_3 - u_a_3)), (.long (u_a_2 - u_a_2)), (.long (u_a_1 - u_a_1)), (.long (u_a_0 - u_a_0)), (.ref a)])) rfl rfl (hb hBY d_prog_59_method_9_code_34) _ ?_
    show Steps p.tables e below (s₁.setTop (mkF m 35 #[Rv a, Rv a, Rv a] [(.long u_a_4), (.long u_a_4), (.long (u_a_3 - u_a_3)), (.long (u_a_2 - u_a_2)), (.long (u_a_1 - u_a_1)), (.long (u_a_0 - u_a_0)), (.ref a)])) tt_
    refine XS.lsub X0.here hEX rfl (hb hBY d_prog_59_method_9_code_35) rfl ?_
    show Steps p.tables e below (s₁.setTop (mkF m 36 #[Rv a, Rv a, Rv a] [(.long (u_a_4 - u_a_4)), (.long (u_a_3 - u_a_3)), (.long (u_a_2 - u_a_2)), (.long (u_a_1 - u_a_1)), (.long (u_a_0 - u_a_0)), (.ref a)])) tt_
    refine XS.aloadN X0.here hEX rfl (hb hBY d_prog_59_method_9_code_36) rfl rfl ?_
    show Steps p.tables e below (s₁.setTop (mkF m 37 #[Rv a, Rv a, Rv a] [(.ref a), (.long (u_a_4 - u_a_4)), (.long (u_a_3 - u_a_3)), (.long (u_a_2 - u_a_2)), (.long (u_a_1 - u_a_1)), (.long (u_a_0 - u_a_0)), (.ref a)])) tt_
    refine XS.iconst X0.here hEX rfl (hb hBY d_prog_59_method_9_code_37) ?_
    show Steps p.tables e below (s₁.setTop (mkF m 38 #[Rv a, Rv a, Rv a] [(.int (5 : Int32)), (.ref a), (.long (u_a_4 - u_a_4)), (.long (u_a_3 - u_a_3)), (.long (u_a_2 - u_a_2)), (.long (u_a_1 - u_a_1)), (.long (u_a_0 - u_a_0)), (.ref a)])) tt_
    refine X0.laload hEX (j := (5 : Int32)) (v := (.long u_a_5)) (by rw [e0]; exact Ar_11.1) (State.isArrayOf_alike hZW.alike Ar_11.2.1) Ar_11.2.2 hin_11 hat_11 (g := (mkF m 38 #[Rv a, Rv a, Rv a] [(.int (5 : Int32)), (.ref a), (.long (u_a_4 - u_a_4)), (.long (u_a_3 - u_a_3)), (.long (u_a_2 - u_a_2)), (.long (u_a_1 - u_a_1)), (.long (u_a_0 - u_a_0)), (.ref a)])) rfl rfl (hb hBY d_prog_59_method_9_code_38) _ ?_
    show Steps p.tables e below (s₁.setTop (mkF m 39 #[Rv a, Rv a, Rv a] [(.long u_a_5), (.long (u_a_4 - u_a_4)), (.long (u_a_3 - u_a_3)), (.long (u_a_2 - u_a_2)), (.long (u_a_1 - u_a_1)), (.long (u_a_0 - u_a_0)), (.ref a)])) tt_
    refine XS.aloadN X0.here hEX rfl (hb hBY d_prog_59_method_9_code_39) rfl rfl ?_
    show Steps p.tables e below (s₁.setTop (mkF m 40 #[Rv a, Rv a, Rv a] [(.ref a), (.long u_a_5), (.long (u_a_4 - u_a_4)), (.long (u_a_3 - u_a_3)), (.long (u_a_2 - u_a_2)), (.long (u_a_1 - u_a_1)), (.long (u_a_0 - u_a_0)), (.ref a)])) tt_
    refine XS.iconst X0.here hEX rfl (hb hBY d_prog_59_method_9_code_40) ?_
    show Steps p.tables e below (s₁.setTop (mkF m 41 #[Rv a, Rv a, Rv a] [(.int (5 : Int32)), (.ref a), (.long u_a_5), (.long (u_a_4 - u_a_4)), (.long (u_a_3 - u_a_3)), (.long (u_a_2 - u_a_2)), (.long (u_a_1 - u_a_1)), (.long (u_a_0 - u_a_0)), (.ref a)])) tt_
    refine X0.laload hEX (j := (5 : Int32)) (v := (.long u_a_5)) (by rw [e0]; exact Ar_12.1) (State.isArrayOf_alike hZW.alike Ar_12.2.1) Ar_12.2.2 hin_12 hat_12 (g := (mkF m 41 #[Rv a, Rv a, Rv a] [(.int (5 : Int32)), (.ref a), (.long u_a_5), (.long (u_a_4 - u_a_4)), (.long (u_a_3 - u_a_3)), (.long (u_a_2 - u_a_2)), (.long (u_a_1 - u_a_1)), (.long (u_a_0 - u_a_0)), (.ref a)])) rfl rfl (hb hBY d_prog_59_method_9_code_41) _ ?_
    show Steps p.tables e below (s₁.setTop (mkF m 42 #[Rv a, Rv a, Rv a] [(.long u_a_5), (.long u_a_5), (.long (u_a_4 - u_a_4)), (.long (u_a_3 - u_a_3)), (.long (u_a_2 - u_a_2)), (.long (u_a_1 - u_a_1)), (.long (u_a_0 - u_a_0)), (.ref a)])) tt_
    refine XS.lsub X0.here hEX rfl (hb hBY d_prog_59_method_9_code_42) rfl ?_
    show Steps p.tables e below (s₁.setTop (mkF m 43 #[Rv a, Rv a, Rv a] [(.long (u_a_5 - u_a_5)), (.long (u_a_4 - u_a_4)), (.long (u_a_3 - u_a_3)), (.long (u_a_2 - u_a_2)), (.long (u_a_1 - u_a_1)), (.long (u_a_0 - u_a_0)), (.ref a)])) tt_
    refine XS.aloadN X0.here hEX rfl (hb hBY d_prog_59_method_9_code_43) rfl rfl ?_
    show Steps p.tables e below (s₁.setTop (mkF m 44 #[Rv a, Rv a, Rv a] [(.ref a), (.long (u_a_5 - u_a_5)), (.long (u_a_4 - u_a_4)), (.long (u_a_3 - u_a_3)), (.long (u_a_2 - u_a_2)), (.long (u_a_1 - u_a_1)), (.long (u_a_0 - u_a_0)), (.ref a)])) tt_
    refine XS.bipush X0.here hEX rfl (hb hBY d_prog_59_method_9_code_44) ?_
    show Steps p.tables e below (s₁.setTop (mkF m 46 #[Rv a, Rv a, Rv a] [(.int (6 : Int32)), (.ref a), (.long (u_a_5 - u_a_5)), (.long (u_a_4 - u_a_4)), (.long (u_a_3 - u_a_3)), (.long (u_a_2 - u_a_2)), (.long (u_a_1 - u_a_1)), (.long (u_a_0 - u_a_0)), (.ref a)])) tt_
    refine X0.laload hEX (j := (6 : Int32)) (v := (.long u_a_6)) (by rw [e0]; exact Ar_13.1) (State.isArrayOf_alike hZW.alike Ar_13.2.1) Ar_13.2.2 hin_13 hat_13 (g := (mkF m 46 #[Rv a, Rv a, Rv a] [(.int (6 : Int32)), (.ref a), (.long (u_a_5 - u_a_5)), (.long (u_a_4 - u_a_4)), (.long (u_a_3 - u_a_3)), (.long (u_a_2 - u_a_2)), (.long (u_a_1 - u_a_1)), (.long (u_a_0 - u_a_0)), (.ref a)])) rfl rfl (hb hBY d_prog_59_method_9_code_46) _ ?_
    show Steps p.tables e below (s₁.setTop (mkF m 47 #[Rv a, Rv a, Rv a] [(.long u_a_6), (.long (u_a_5 - u_a_5)), (.long (u_a_4 - u_a_4)), (.long (u_a_3 - u_a_3)), (.long (u_a_2 - u_a_2)), (.long (u_a_1 - u_a_1)), (.long (u_a_0 - u_a_0)), (.ref a)])) tt_
    refine XS.aloadN X0.here hEX rfl (hb hBY d_prog_59_method_9_code_47) rfl rfl ?_
    show Steps p.tables e below (s₁.setTop (mkF m 48 #[Rv a, Rv a, Rv a] [(.ref a), (.long u_a_6), (.long (u_a_5 - u_a_5)), (.long (u_a_4 - u_a_4)), (.long (u_a_3 - u_a_3)), (.long (u_a_2 - u_a_2)), (.long (u_a_1 - u_a_1)), (.long (u_a_0 - u_a_0)), (.ref a)])) tt_
    refine XS.bipush X0.here hEX rfl (hb hBY d_prog_59_method_9_code_48) ?_
    show Steps p.tables e below (s₁.setTop (mkF m 50 #[Rv a, Rv a, Rv a] [(.int (6 : Int32)), (.ref a), (.long u_a_6), (.long (u_a_5 - u_a_5)), (.long (u_a_4 - u_a_4)), (.long (u_a_3 - u_a_3)), (.long (u_a_2 - u_a_2)), (.long (u_a_1 - u_a_1)), (.long (u_a_0 - u_a_0)), (.ref a)])) tt_
    refine X0.laload hEX (j := (6 : Int32)) (v := (.long u_a_6)) (by rw [e0]; exact Ar_14.1) (State.isArrayOf_alike hZW.alike Ar_14.2.1) Ar_14.2.2 hin_14 hat_14 (g := (mkF m 50 #[Rv a, Rv a, Rv a] [(.int (6 : Int32)), (.ref a), (.long u_a_6), (.long (u_a_5 - u_a_5)), (.long (u_a_4 - u_a_4)), (.long (u_a_3 - u_a_3)), (.long (u_a_2 - u_a_2)), (.long (u_a_1 - u_a_1)), (.long (u_a_0 - u_a_0)), (.ref a)])) rfl rfl (hb hBY d_prog_59_method_9_code_50) _ ?_
    show Steps p.tables e below (s₁.setTop (mkF m 51 #[Rv a, Rv a, Rv a] [(.long u_a_6), (.long u_a_6), (.long (u_a_5 - u_a_5)), (.long (u_a_4 - u_a_4)), (.long (u_a_3 - u_a_3)), (.long (u_a_2 - u_a_2)), (.long (u_a_1 - u_a_1)), (.long (u_a_0 - u_a_0)), (.ref a)])) tt_
    refine XS.lsub X0.here hEX rfl (hb hBY d_prog_59_method_9_code_51) rfl ?_
    show Steps p.tables e below (s₁.setTop (mkF m 52 #[Rv a, Rv a, Rv a] [(.long (u_a_6 - u_a_6)), (.long (u_a_5 - u_a_5)), (.long (u_a_4 - u_a_4)), (.long (u_a_3 - u_a_3)), (.long (u_a_2 - u_a_2)), (.long (u_a_1 - u_a_1)), (.long (u_a_0 - u_a_0)), (.ref a)])) tt_
    refine XS.aloadN X0.here hEX rfl (hb hBY d_prog_59_method_9_code_52) rfl rfl ?_
    show Steps p.tables e below (s₁.setTop (mkF m 53 #[Rv a, Rv a, Rv a] [(.ref a), (.long (u_a_6 - u_a_6)), (.long (u_a_5 - u_a_5)), (.long (u_a_4 - u_a_4)), (.long (u_a_3 - u_a_3)), (.long (u_a_2 - u_a_2)), (.long (u_a_1 - u_a_1)), (.long (u_a_0 - u_a_0)), (.ref a)])) tt_
    refine XS.bipush X0.here hEX rfl (hb hBY d_prog_59_method_9_code_53) ?_
    show Steps p.tables e below (s₁.setTop (mkF m 55 #[Rv a, Rv a, Rv a] [(.int (7 : Int32)), (.ref a), (.long (u_a_6 - u_a_6)), (.long (u_a_5 - u_a_5)), (.long (u_a_4 - u_a_4)), (.long (u_a_3 - u_a_3)), (.long (u_a_2 - u_a_2)), (.long (u_a_1 - u_a_1)), (.long (u_a_0 - u_a_0)), (.ref a)])) tt_
    refine X0.laload hEX (j := (7 : Int32)) (v := (.long u_a_7)) (by rw [e0]; exact Ar_15.1) (State.isArrayOf_alike hZW.alike Ar_15.2.1) Ar_15.2.2 hin_15 hat_15 (g := (mkF m 55 #[Rv a, Rv a, Rv a] [(.int (7 : Int32)), (.ref a), (.long (u_a_6 - u_a_6)), (.long (u_a_5 - u_a_5)), (.long (u_a_4 - u_a_4)), (.long (u_a_3 - u_a_3)), (.long (u_a_2 - u_a_2)), (.long (u_a_1 - u_a_1)), (.long (u_a_0 - u_a_0)), (.ref a)])) rfl rfl (hb hBY d_prog_59_method_9_code_55) _ ?_
    show Steps p.tables e below (s₁.setTop (mkF m 56 #[Rv a, Rv a, Rv a] [(.long u_a_7), (.long (u_a_6 - u_a_6)), (.long (u_a_5 - u_a_5)), (.long (u_a_4 - u_a_4)), (.long (u_a_3 - u_a_3)), (.long (u_a_2 - u_a_2)), (.long (u_a_1 - u_a_1)), (.long (u_a_0 - u_a_0)), (.ref a)])) tt_
    refine XS.aloadN X0.here hEX rfl (hb hBY d_prog_59_method_9_code_56) rfl rfl ?_
    show Steps p.tables e below (s₁.setTop (mkF m 57 #[Rv a, Rv a, Rv a] [(.ref a), (.long u_a_7), (.long (u_a_6 - u_a_6)), (.long (u_a_5 - u_a_5)), (.long (u_a_4 - u_a_4)), (.long (u_a_3 - u_a_3)), (.long (u_a_2 - u_a_2)), (.long (u_a_1 - u_a_1)), (.long (u_a_0 - u_a_0)), (.ref a)])) tt_
    refine XS.bipush X0.here hEX rfl (hb hBY d_prog_59_method_9_code_57) ?_
    show Steps p.tables e below (s₁.setTop (mkF m 59 #[Rv a, Rv a, Rv a] [(.int (7 : Int32)), (.ref a), (.long u_a_7), (.long (u_a_6 - u_a_6)), (.long (u_a_5 - u_a_5)), (.long (u_a_4 - u_a_4)), (.long (u_a_3 - u_a_3)), (.long (u_a_2 - u_a_2)), (.long (u_a_1 - u_a_1)), (.long (u_a_0 - u_a_0)), (.ref a)])) tt_
    refine X0.laload hEX (j := (7 : Int32)) (v := (.long u_a_7)) (by rw [e0]; exact Ar_16.1) (State.isArrayOf_alike hZW.alike Ar_16.2.1) Ar_16.2.2 hin_16 hat_16 (g := (mkF m 59 #[Rv a, Rv a, Rv a] [(.int (7 : Int32)), (.ref a), (.long u_a_7), (.long (u_a_6 - u_a_6)), (.long (u_a_5 - u_a_5)), (.long (u_a_4 - u_a_4)), (.long (u_a_3 - u_a_3)), (.long (u_a_2 - u_a_2)), (.long (u_a_1 - u_a_1)), (.long (u_a_0 - u_a_0)), (.ref a)])) rfl rfl (hb hBY d_prog_59_method_9_code_59) _ ?_
    show Steps p.tables e below (s₁.setTop (mkF m 60 #[Rv a, Rv a, Rv a] [(.long u_a_7), (.long u_a_7), (.long (u_a_6 - u_a_6)), (.long (u_a_5 - u_a_5)), (.long (u_a_4 - u_a_4)), (.long (u_a_3 - u_a_3)), (.long (u_a_2 - u_a_2)), (.long (u_a_1 - u_a_1)), (.long (u_a_0 - u_a_0)), (.ref a)])) tt_
    refine XS.lsub X0.here hEX rfl (hb hBY d_prog_59_method_9_code_60) rfl ?_
    exact kt_
  refine Done.pre sg_17 ?_
  obtain ⟨_, _, ⟨T_18, L_18, k_18, n_18⟩, -, X_18, ⟨Lc_18, hQ_18, l_18, y_18, z_18⟩, st_18⟩ := Jvm.LawKit.callS X0 hEX (y := (⟨"com/example/guard3/guard3/P384Field", "store", "([JJJJJJJJJ)V"⟩ : MethodName)) hOW (mvT hZW (hw _ (List.mem_of_getElem? (i := 14) rfl))) (mvT hZW (hw _ (List.mem_of_getElem? (i := 15) rfl))) (mvT hZW (hw _ (List.mem_of_getElem? (i := 12) rfl))) (mvT hZW (hw _ (List.mem_of_getElem? (i := 16) rfl))) (by decide) (backOf (W := 0) (rm_store l Z aZ hw [] a (u_a_0 - u_a_0) (u_a_1 - u_a_1) (u_a_2 - u_a_2) (u_a_3 - u_a_3) (u_a_4 - u_a_4) (u_a_5 - u_a_5) (u_a_6 - u_a_6) (u_a_7 - u_a_7) k_a u_a_0 u_a_1 u_a_2 u_a_3 u_a_4 u_a_5 u_a_6 u_a_7 h0 n0 (Nat.le_trans Z0 K0.1) A_a go (own_Rup _ _ _ _ _ _ _ _ _ _ (by decide) (own_subb 1125899906842624 (by decide) u_a_0 u_a_1 u_a_2 u_a_3 u_a_4 u_a_5 u_a_6 u_a_7 u_a_0 u_a_1 u_a_2 u_a_3 u_a_4 u_a_5 u_a_6 u_a_7 hRa hRa).1)) hZW (hw _ (List.mem_of_getElem? (i := 16) rfl)) (hw _ (List.mem_of_getElem? (i := 12) rfl)) (by decide) (by decide)) (g := (mkF m 61 #[Rv a, Rv a, Rv a] [(.long (u_a_7 - u_a_7)), (.long (u_a_6 - u_a_6)), (.long (u_a_5 - u_a_5)), (.long (u_a_4 - u_a_4)), (.long (u_a_3 - u_a_3)), (.long (u_a_2 - u_a_2)), (.long (u_a_1 - u_a_1)), (.long (u_a_0 - u_a_0)), (.ref a)])) rfl (by rw [hMX]; rfl) (argsL := [(.ref a), (.long (u_a_0 - u_a_0)), (.long (u_a_1 - u_a_1)), (.long (u_a_2 - u_a_2)), (.long (u_a_3 - u_a_3)), (.long (u_a_4 - u_a_4)), (.long (u_a_5 - u_a_5)), (.long (u_a_6 - u_a_6)), (.long (u_a_7 - u_a_7))]) (rest := []) (lenOf pd___JJJJJJJJJ_V_8 rfl) rfl (by show 2 * 0 + _ ≤ _; exact Nat.le_of_eq rfl) (hb hBY d_prog_59_method_9_code_61) (fun _ _ => ⟨rfl, e0, (by decide : 0 + 0 ≤ _), (by decide : 0 + 0 ≤ _)⟩)
  dsimp only [Pt.U, Pt.locs, Pt.cells, Pt.slots] at X_18 l_18 y_18 z_18 st_18 hQ_18
  subst l_18 y_18 z_18
  obtain ⟨r0__18, r1__18, r2__18, r3__18, r4__18, r5__18, r6__18, r7__18, rfl, N_18q, K_18, hq_18_0, hq_18_1, hq_18_2⟩ := hQ_18
  have N_18 := Fr.app N0 N_18q
  have K__19 : Keep h0 T_18.heap [a] := K0.trans K_18 (allS (Or.inl (List.mem_of_getElem? (i := 0) rfl)) all0)
  refine Done.pre (fun _ k_ => st_18 _ k_) ?_
  show Done _ _ _ _ _ _ _ (T_18.setTop (mkF m 64 #[Rv a, Rv a, Rv a] []))
  exact Done.retV X_18 hEX hLK hRT (hb hBY d_prog_59_method_9_code_64) (by exact ⟨r0__18, r1__18, r2__18, r3__18, r4__18, r5__18, r6__18, r7__18, rfl, N_18, K__19, hq_18_0, hq_18_1, (by have q := hq_18_2; rw [(own_subb 1125899906842624 (by decide) u_a_0 u_a_1 u_a_2 u_a_3 u_a_4 u_a_5 u_a_6 u_a_7 u_a_0 u_a_1 u_a_2 u_a_3 u_a_4 u_a_5 u_a_6 u_a_7 hRa hRa).2] at q; exact q)⟩) (by decide) (by decide)
theorem d_prog_59_method_15_code_0 : decode prog_59_method_15_code 0 = .ok (.lconst 0, 1) := by decide +kernel
theorem d_prog_59_method_15_code_1 : decode prog_59_method_15_code 1 = .ok (.lstore_n 1, 1) := by decide +kernel
theorem d_prog_59_method_15_code_2 : decode prog_59_method_15_code 2 = .ok (.iconst 0, 1) := by decide +kernel
theorem d_prog_59_method_15_code_3 : decode prog_59_method_15_code 3 = .ok (.istore_n 3, 1) := by decide +kernel
theorem d_prog_59_method_15_code_4 : decode prog_59_method_15_code 4 = .ok (.iload_n 3, 1) := by decide +kernel
theorem d_prog_59_method_15_code_5 : decode prog_59_method_15_code 5 = .ok (.bipush 8, 2) := by decide +kernel
theorem d_prog_59_method_15_code_7 : decode prog_59_method_15_code 7 = .ok (.if_icmp .ge 31, 3) := by decide +kernel
theorem d_prog_59_method_15_code_10 : decode prog_59_method_15_code 10 = .ok (.aload_n 0, 1) := by decide +kernel
theorem d_prog_59_method_15_code_11 : decode prog_59_method_15_code 11 = .ok (.iload_n 3, 1) := by decide +kernel
theorem d_prog_59_method_15_code_12 : decode prog_59_method_15_code 12 = .ok (.laload, 1) := by decide +kernel
theorem d_prog_59_method_15_code_13 : decode prog_59_method_15_code 13 = .ok (.lload_n 1, 1) := by decide +kernel
theorem d_prog_59_method_15_code_14 : decode prog_59_method_15_code 14 = .ok (.ladd, 1) := by decide +kernel
theorem d_prog_59_method_15_code_15 : decode prog_59_method_15_code 15 = .ok (.lstore 4, 2) := by decide +kernel
theorem d_prog_59_method_15_code_17 : decode prog_59_method_15_code 17 = .ok (.aload_n 0, 1) := by decide +kernel
theorem d_prog_59_method_15_code_18 : decode prog_59_method_15_code 18 = .ok (.iload_n 3, 1) := by decide +kernel
theorem d_prog_59_method_15_code_19 : decode prog_59_method_15_code 19 = .ok (.lload 4, 2) := by decide +kernel
theorem d_prog_59_method_15_code_21 : decode prog_59_method_15_code 21 = .ok (.ldc2_w 34, 3) := by decide +kernel
theorem d_prog_59_method_15_code_24 : decode prog_59_method_15_code 24 = .ok (.land, 1) := by decide +kernel
theorem d_prog_59_method_15_code_25 : decode prog_59_method_15_code 25 = .ok (.lastore, 1) := by decide +kernel
theorem d_prog_59_method_15_code_26 : decode prog_59_method_15_code 26 = .ok (.lload 4, 2) := by decide +kernel
theorem d_prog_59_method_15_code_28 : decode prog_59_method_15_code 28 = .ok (.bipush 48, 2) := by decide +kernel
theorem d_prog_59_method_15_code_30 : decode prog_59_method_15_code 30 = .ok (.lshr, 1) := by decide +kernel
theorem d_prog_59_method_15_code_31 : decode prog_59_method_15_code 31 = .ok (.lstore_n 1, 1) := by decide +kernel
theorem d_prog_59_method_15_code_32 : decode prog_59_method_15_code 32 = .ok (.iinc 3 1, 3) := by decide +kernel
theorem d_prog_59_method_15_code_35 : decode prog_59_method_15_code 35 = .ok (.goto (-31), 3) := by decide +kernel
theorem d_prog_59_method_15_code_38 : decode prog_59_method_15_code 38 = .ok (.lload_n 1, 1) := by decide +kernel
theorem d_prog_59_method_15_code_39 : decode prog_59_method_15_code 39 = .ok (.lreturn, 1) := by decide +kernel
def Qrm_prop (Z : State) (a : Addr) (k : ClassId) (x0 : Int64) (x1 : Int64) (x2 : Int64) (x3 : Int64) (x4 : Int64) (x5 : Int64) (x6 : Int64) (x7 : Int64) (h0 : Heap) (n0 : Nat) (v_ : Option Value) (h_ : Heap) (L_ : List Loc) : Prop := ∃ (y0 : Int64), ∃ (y1 : Int64), ∃ (y2 : Int64), ∃ (y3 : Int64), ∃ (y4 : Int64), ∃ (y5 : Int64), ∃ (y6 : Int64), ∃ (y7 : Int64), ∃ (cy : Int64), v_ = some (.long cy) ∧ Fr n0 L_ ∧ Keep h0 h_ [a] ∧ Arv Z h_ a k .long (8 : Int32) [(.long y0), (.long y1), (.long y2), (.long y3), (.long y4), (.long y5), (.long y6), (.long y7)] (.long (0 : Int64)) ∧ own_C y0 y1 y2 y3 y4 y5 y6 y7 ∧ own_W y0 y1 y2 y3 y4 y5 y6 y7 + cy.toInt * 39402006196394479212279040100143613805079739270465446667948293404245721771497210611414266254884915640806627990306816 = own_W x0 x1 x2 x3 x4 x5 x6 x7
theorem ef_rm_prop (m : MethodId) (x0 : Addr) : entryFrame m #[(.ref x0)] 6 = mkF m 0 #[.val (.ref x0), .unset, .unset, .unset, .unset, .unset] [] := by first | (simp [entryFrame, mkF, argsToLocals, Value.category]; done) | rfl
set_option maxRecDepth 65536 in
set_option maxHeartbeats 40000000 in
theorem rm_prop (l : Launch) (Z : State) (aZ : Array Value) (hw : ∀ d ∈ tables_1, d.before aZ Z = true) (ws : List Jvm.Cond) (a : Addr) (k : ClassId) (x0 : Int64) (x1 : Int64) (x2 : Int64) (x3 : Int64) (x4 : Int64) (x5 : Int64) (x6 : Int64) (x7 : Int64) (h0 : Heap) (n0 : Nat) (Z0 : n0 ≤ h0.size) (Aa : Arv Z h0 a k .long (8 : Int32) [(.long x0), (.long x1), (.long x2), (.long x3), (.long x4), (.long x5), (.long x6), (.long x7)] (.long (0 : Int64))) (ga : n0 ≤ a) (hR : own_R 4503599627370496 x0 x1 x2 x3 x4 x5 x6 x7) :
    MetFree l (⟨"com/example/guard3/guard3/P384Field", "propagate", "([J)J"⟩ : MethodName) (head1 (Jvm.Cond.code (⟨"com/example/guard3/guard3/P384Field", "propagate", "([J)J"⟩ : MethodName) prog_59_method_15_code 6 (some .long) :: ws) ({ frames := 0, cells := 0, slots := 0, locals := 0 } : Room)) (fun a_ U_ => a_ = #[(.ref a)] ∧ Z.Warmed39 U_.vm ∧ U_.heap = h0) (fun _ _ _ _ _ => True) (fun _ U_ o_ U2_ => ∃ v_ L_, o_ = .returned v_ ∧ Qrm_prop Z a k x0 x1 x2 x3 x4 x5 x6 x7 h0 n0 v_ U2_.heap L_ ∧ FrameEnd U_ o_ U2_ L_ ({ frames := 0, cells := 0, slots := 0, locals := 0 } : Room).cells ({ frames := 0, cells := 0, slots := 0, locals := 0 } : Room).slots) := by
  refine MetFree.of_bodySF (plainFor_of_name pn_com_example_guard3_guard3_P384Field) hisR ?_
  intro p e s m args below meth cO s₁ Bd hml0 hP hK
  obtain ⟨rfl, hZW, hh⟩ := hP
  have hEX := Bd.exec
  have hBY := Bd.bytes
  have hMX : cO.maxLocals = 6 := hml0
  have hOW : s.vm.findClass "com/example/guard3/guard3/P384Field" = some m.cls := findClass_of_methodNamed Bd.named
  have hNM := (name_of_methodNamed Bd.named Bd.method).1
  have hLK := Bd.notSynchronized
  have hRT := Bd.returns
  have X0 : Stand p l e ({ frames := 0, cells := 0, slots := 0, locals := 0 } : Room) s m #[(.ref a)] below meth cO s₁ [] 0 0 := Stand.of_body Bd
  have e0 : s₁.heap = h0 := by rw [← hh, Bd.state]; rfl
  have N0 := Fr.nil n0
  have K0 : Keep h0 h0 [a] := Keep.refl _ _
  show Done p e below s (Qrm_prop Z a k x0 x1 x2 x3 x4 x5 x6 x7 h0 n0) ({ frames := 0, cells := 0, slots := 0, locals := 0 } : Room).cells ({ frames := 0, cells := 0, slots := 0, locals := 0 } : Room).slots (s₁.setTop (entryFrame m #[(.ref a)] 6))
  refine Done.pre (fun t_ k_ => castTop (ef_rm_prop m a) k_) ?_
  show Done _ _ _ _ _ _ _ (s₁.setTop (mkF m 0 #[Rv a, Us, Us, Us, Us, Us] []))
  obtain ⟨cl_1, Ar_1, q_1, S_1, N__1, H_1, G_1⟩ := id Aa
  have hin_1 : ¬ ((0 : Int32) < 0 ∨ cl_1.slots.size ≤ ((0 : Int32)).toNatClampNeg) := inb_of S_1 ⟨by decide, by decide⟩
  have hat_1 : cl_1.slots[((0 : Int32)).toNatClampNeg]? = some (.long x0) := H_1.at hin_1 rfl
  have sg_2 : ∀ tt_, Steps p.tables e below (s₁.setTop (mkF m 15 #[Rv a, Lv (0 : Int64), Zs, Iv (0 : Int32), Us, Us] [(.long (x0 + (0 : Int64)))])) tt_ → Steps p.tables e below (s₁.setTop (mkF m 0 #[Rv a, Us, Us, Us, Us, Us] [])) tt_ := by
    intro tt_ kt_
    refine XS.lconst X0.here hEX rfl (hb hBY d_prog_59_method_15_code_0) ?_
    show Steps p.tables e below (s₁.setTop (mkF m 1 #[Rv a, Us, Us, Us, Us, Us] [(.long (0 : Int64))])) tt_
    refine XS.lstoreN X0.here hEX rfl (hb hBY d_prog_59_method_15_code_1) rfl (l' := #[Rv a, Lv (0 : Int64), Zs, Us, Us, Us]) rfl ?_
    show Steps p.tables e below (s₁.setTop (mkF m 2 #[Rv a, Lv (0 : Int64), Zs, Us, Us, Us] [])) tt_
    refine XS.iconst X0.here hEX rfl (hb hBY d_prog_59_method_15_code_2) ?_
    show Steps p.tables e below (s₁.setTop (mkF m 3 #[Rv a, Lv (0 : Int64), Zs, Us, Us, Us] [(.int (0 : Int32))])) tt_
    refine XS.istoreN X0.here hEX rfl (hb hBY d_prog_59_method_15_code_3) rfl (l' := #[Rv a, Lv (0 : Int64), Zs, Iv (0 : Int32), Us, Us]) rfl ?_
    show Steps p.tables e below (s₁.setTop (mkF m 4 #[Rv a, Lv (0 : Int64), Zs, Iv (0 : Int32), Us, Us] [])) tt_
    refine XS.iloadN X0.here hEX rfl (hb hBY d_prog_59_method_15_code_4) rfl ?_
    show Steps p.tables e below (s₁.setTop (mkF m 5 #[Rv a, Lv (0 : Int64), Zs, Iv (0 : Int32), Us, Us] [(.int (0 : Int32))])) tt_
    refine XS.bipush X0.here hEX rfl (hb hBY d_prog_59_method_15_code_5) ?_
    show Steps p.tables e below (s₁.setTop (mkF m 7 #[Rv a, Lv (0 : Int64), Zs, Iv (0 : Int32), Us, Us] [(.int (8 : Int32)), (.int (0 : Int32))])) tt_
    refine XS.icmpNo X0.here hEX rfl (hb hBY d_prog_59_method_15_code_7) rfl (tlt (by decide : (0 : Int32) < (8 : Int32))).2.1 ?_
    show Steps p.tables e below (s₁.setTop (mkF m 10 #[Rv a, Lv (0 : Int64), Zs, Iv (0 : Int32), Us, Us] [])) tt_
    refine XS.aloadN X0.here hEX rfl (hb hBY d_prog_59_method_15_code_10) rfl rfl ?_
    show Steps p.tables e below (s₁.setTop (mkF m 11 #[Rv a, Lv (0 : Int64), Zs, Iv (0 : Int32), Us, Us] [(.ref a)])) tt_
    refine XS.iloadN X0.here hEX rfl (hb hBY d_prog_59_method_15_code_11) rfl ?_
    show Steps p.tables e below (s₁.setTop (mkF m 12 #[Rv a, Lv (0 : Int64), Zs, Iv (0 : Int32), Us, Us] [(.int (0 : Int32)), (.ref a)])) tt_
    refine X0.laload hEX (j := (0 : Int32)) (v := (.long x0)) (by rw [e0]; exact Ar_1.1) (State.isArrayOf_alike hZW.alike Ar_1.2.1) Ar_1.2.2 hin_1 hat_1 (g := (mkF m 12 #[Rv a, Lv (0 : Int64), Zs, Iv (0 : Int32), Us, Us] [(.int (0 : Int32)), (.ref a)])) rfl rfl (hb hBY d_prog_59_method_15_code_12) _ ?_
    show Steps p.tables e below (s₁.setTop (mkF m 13 #[Rv a, Lv (0 : Int64), Zs, Iv (0 : Int32), Us, Us] [(.long x0)])) tt_
    refine XS.lloadN X0.here hEX rfl (hb hBY d_prog_59_method_15_code_13) rfl ?_
    show Steps p.tables e below (s₁.setTop (mkF m 14 #[Rv a, Lv (0 : Int64), Zs, Iv (0 : Int32), Us, Us] [(.long (0 : Int64)), (.long x0)])) tt_
    refine XS.ladd X0.here hEX rfl (hb hBY d_prog_59_method_15_code_14) rfl ?_
    exact kt_
  refine Done.pre sg_2 ?_
  show Done _ _ _ _ _ _ _ (s₁.setTop (mkF m 15 #[Rv a, Lv (0 : Int64), Zs, Iv (0 : Int32), Us, Us] [(.long (x0 + (0 : Int64)))]))
  obtain ⟨t0, ht0⟩ : ∃ z : Int64, z = (x0 + (0 : Int64)) := ⟨_, rfl⟩
  rw [← ht0]
  show Done _ _ _ _ _ _ _ (s₁.setTop (mkF m 15 #[Rv a, Lv (0 : Int64), Zs, Iv (0 : Int32), Us, Us] [(.long t0)]))
  have sg_4 : ∀ tt_, Steps p.tables e below (s₁.setTop (mkF m 25 #[Rv a, Lv (0 : Int64), Zs, Iv (0 : Int32), Lv t0, Zs] [(.long (t0 &&& (281474976710655 : Int64))), (.int (0 : Int32)), (.ref a)])) tt_ → Steps p.tables e below (s₁.setTop (mkF m 15 #[Rv a, Lv (0 : Int64), Zs, Iv (0 : Int32), Us, Us] [(.long t0)])) tt_ := by
    intro tt_ kt_
    refine XS.lstore X0.here hEX rfl (hb hBY d_prog_59_method_15_code_15) rfl (l' := #[Rv a, Lv (0 : Int64), Zs, Iv (0 : Int32), Lv t0, Zs]) rfl ?_
    show Steps p.tables e below (s₁.setTop (mkF m 17 #[Rv a, Lv (0 : Int64), Zs, Iv (0 : Int32), Lv t0, Zs] [])) tt_
    refine XS.aloadN X0.here hEX rfl (hb hBY d_prog_59_method_15_code_17) rfl rfl ?_
    show Steps p.tables e below (s₁.setTop (mkF m 18 #[Rv a, Lv (0 : Int64), Zs, Iv (0 : Int32), Lv t0, Zs] [(.ref a)])) tt_
    refine XS.iloadN X0.here hEX rfl (hb hBY d_prog_59_method_15_code_18) rfl ?_
    show Steps p.tables e below (s₁.setTop (mkF m 19 #[Rv a, Lv (0 : Int64), Zs, Iv (0 : Int32), Lv t0, Zs] [(.int (0 : Int32)), (.ref a)])) tt_
    refine XS.lload X0.here hEX rfl (hb hBY d_prog_59_method_15_code_19) rfl ?_
    show Steps p.tables e below (s₁.setTop (mkF m 21 #[Rv a, Lv (0 : Int64), Zs, Iv (0 : Int32), Lv t0, Zs] [(.long t0), (.int (0 : Int32)), (.ref a)])) tt_
    refine X0.ldc2Long hEX hOW (mvT hZW (hw _ (List.mem_of_getElem? (i := 17) rfl))) (g := (mkF m 21 #[Rv a, Lv (0 : Int64), Zs, Iv (0 : Int32), Lv t0, Zs] [(.long t0), (.int (0 : Int32)), (.ref a)])) rfl (hb hBY d_prog_59_method_15_code_21) _ ?_
    show Steps p.tables e below (s₁.setTop (mkF m 24 #[Rv a, Lv (0 : Int64), Zs, Iv (0 : Int32), Lv t0, Zs] [(.long (281474976710655 : Int64)), (.long t0), (.int (0 : Int32)), (.ref a)])) tt_
    refine XS.land X0.here hEX rfl (hb hBY d_prog_59_method_15_code_24) rfl ?_
    exact kt_
  refine Done.pre sg_4 ?_
  obtain ⟨cl_3, Ar_3, q_3, S_3, N__3, H_3, G_3⟩ := id Aa
  have hin_3 : ¬ ((0 : Int32) < 0 ∨ cl_3.slots.size ≤ ((0 : Int32)).toNatClampNeg) := inb_of S_3 ⟨by decide, by decide⟩
  obtain ⟨T_5, h_5, X_5, e_5, W_5, st_5⟩ := stJ X0 hEX hZW e0 Ar_3 (j := (0 : Int32)) hin_3 (g := (mkF m 25 #[Rv a, Lv (0 : Int64), Zs, Iv (0 : Int32), Lv t0, Zs] [(.long (t0 &&& (281474976710655 : Int64))), (.int (0 : Int32)), (.ref a)])) rfl rfl (hb hBY d_prog_59_method_15_code_25)
  have N_5 := Fr.snoc X_5 N0 ga
  have K__6 : Keep h0 h_5 [a] := K0.wr W_5 (Or.inl (List.mem_of_getElem? (i := 0) rfl))
  have f_7 : Arv Z h_5 a k .long (8 : Int32) [(.long (t0 &&& (281474976710655 : Int64))), (.long x1), (.long x2), (.long x3), (.long x4), (.long x5), (.long x6), (.long x7)] (.long (0 : Int64)) := Arv.set Ar_3 q_3 S_3 N__3 H_3 G_3 rfl W_5 0 rfl (Nat.le_of_ble_eq_true rfl)
  refine Done.pre st_5 ?_
  show Done _ _ _ _ _ _ _ (T_5.setTop (mkF m 26 #[Rv a, Lv (0 : Int64), Zs, Iv (0 : Int32), Lv t0, Zs] []))
  obtain ⟨cl_8, Ar_8, q_8, S_8, N__8, H_8, G_8⟩ := id f_7
  have hin_8 : ¬ ((1 : Int32) < 0 ∨ cl_8.slots.size ≤ ((1 : Int32)).toNatClampNeg) := inb_of S_8 ⟨by decide, by decide⟩
  have hat_8 : cl_8.slots[((1 : Int32)).toNatClampNeg]? = some (.long x1) := H_8.at hin_8 rfl
  have sg_9 : ∀ tt_, Steps p.tables e below (T_5.setTop (mkF m 15 #[Rv a, Lv (t0 >>> ((48 : Int32) &&& 0x3f).toInt64), Zs, Iv (1 : Int32), Lv t0, Zs] [(.long (x1 + (t0 >>> ((48 : Int32) &&& 0x3f).toInt64)))])) tt_ → Steps p.tables e below (T_5.setTop (mkF m 26 #[Rv a, Lv (0 : Int64), Zs, Iv (0 : Int32), Lv t0, Zs] [])) tt_ := by
    intro tt_ kt_
    refine XS.lload X_5.here hEX rfl (hb hBY d_prog_59_method_15_code_26) rfl ?_
    show Steps p.tables e below (T_5.setTop (mkF m 28 #[Rv a, Lv (0 : Int64), Zs, Iv (0 : Int32), Lv t0, Zs] [(.long t0)])) tt_
    refine XS.bipush X_5.here hEX rfl (hb hBY d_prog_59_method_15_code_28) ?_
    show Steps p.tables e below (T_5.setTop (mkF m 30 #[Rv a, Lv (0 : Int64), Zs, Iv (0 : Int32), Lv t0, Zs] [(.int (48 : Int32)), (.long t0)])) tt_
    refine XS.lshr X_5.here hEX rfl (hb hBY d_prog_59_method_15_code_30) rfl ?_
    show Steps p.tables e below (T_5.setTop (mkF m 31 #[Rv a, Lv (0 : Int64), Zs, Iv (0 : Int32), Lv t0, Zs] [(.long (t0 >>> ((48 : Int32) &&& 0x3f).toInt64))])) tt_
    refine XS.lstoreN X_5.here hEX rfl (hb hBY d_prog_59_method_15_code_31) rfl (l' := #[Rv a, Lv (t0 >>> ((48 : Int32) &&& 0x3f).toInt64), Zs, Iv (0 : Int32), Lv t0, Zs]) rfl ?_
    show Steps p.tables e below (T_5.setTop (mkF m 32 #[Rv a, Lv (t0 >>> ((48 : Int32) &&& 0x3f).toInt64), Zs, Iv (0 : Int32), Lv t0, Zs] [])) tt_
    refine XS.iinc X_5.here hEX rfl (hb hBY d_prog_59_method_15_code_32) rfl (l' := #[Rv a, Lv (t0 >>> ((48 : Int32) &&& 0x3f).toInt64), Zs, Iv (1 : Int32), Lv t0, Zs]) rfl ?_
    show Steps p.tables e below (T_5.setTop (mkF m 35 #[Rv a, Lv (t0 >>> ((48 : Int32) &&& 0x3f).toInt64), Zs, Iv (1 : Int32), Lv t0, Zs] [])) tt_
    refine XS.goto X_5.here hEX rfl (pc0 := 35) (pc' := 4) rfl (hb hBY d_prog_59_method_15_code_35) (by decide) (by decide) ?_
    show Steps p.tables e below (T_5.setTop (mkF m 4 #[Rv a, Lv (t0 >>> ((48 : Int32) &&& 0x3f).toInt64), Zs, Iv (1 : Int32), Lv t0, Zs] [])) tt_
    refine XS.iloadN X_5.here hEX rfl (hb hBY d_prog_59_method_15_code_4) rfl ?_
    show Steps p.tables e below (T_5.setTop (mkF m 5 #[Rv a, Lv (t0 >>> ((48 : Int32) &&& 0x3f).toInt64), Zs, Iv (1 : Int32), Lv t0, Zs] [(.int (1 : Int32))])) tt_
    refine XS.bipush X_5.here hEX rfl (hb hBY d_prog_59_method_15_code_5) ?_
    show Steps p.tables e below (T_5.setTop (mkF m 7 #[Rv a, Lv (t0 >>> ((48 : Int32) &&& 0x3f).toInt64), Zs, Iv (1 : Int32), Lv t0, Zs] [(.int (8 : Int32)), (.int (1 : Int32))])) tt_
    refine XS.icmpNo X_5.here hEX rfl (hb hBY d_prog_59_method_15_code_7) rfl (tlt (by decide : (1 : Int32) < (8 : Int32))).2.1 ?_
    show Steps p.tables e below (T_5.setTop (mkF m 10 #[Rv a, Lv (t0 >>> ((48 : Int32) &&& 0x3f).toInt64), Zs, Iv (1 : Int32), Lv t0, Zs] [])) tt_
    refine XS.aloadN X_5.here hEX rfl (hb hBY d_prog_59_method_15_code_10) rfl rfl ?_
    show Steps p.tables e below (T_5.setTop (mkF m 11 #[Rv a, Lv (t0 >>> ((48 : Int32) &&& 0x3f).toInt64), Zs, Iv (1 : Int32), Lv t0, Zs] [(.ref a)])) tt_
    refine XS.iloadN X_5.here hEX rfl (hb hBY d_prog_59_method_15_code_11) rfl ?_
    show Steps p.tables e below (T_5.setTop (mkF m 12 #[Rv a, Lv (t0 >>> ((48 : Int32) &&& 0x3f).toInt64), Zs, Iv (1 : Int32), Lv t0, Zs] [(.int (1 : Int32)), (.ref a)])) tt_
    refine X_5.laload hEX (j := (1 : Int32)) (v := (.long x1)) (by rw [e_5]; exact Ar_8.1) (State.isArrayOf_alike hZW.alike Ar_8.2.1) Ar_8.2.2 hin_8 hat_8 (g := (mkF m 12 #[Rv a, Lv (t0 >>> ((48 : Int32) &&& 0x3f).toInt64), Zs, Iv (1 : Int32), Lv t0, Zs] [(.int (1 : Int32)), (.ref a)])) rfl rfl (hb hBY d_prog_59_method_15_code_12) _ ?_
    show Steps p.tables e below (T_5.setTop (mkF m 13 #[Rv a, Lv (t0 >>> ((48 : Int32) &&& 0x3f).toInt64), Zs, Iv (1 : Int32), Lv t0, Zs] [(.long x1)])) tt_
    refine XS.lloadN X_5.here hEX rfl (hb hBY d_prog_59_method_15_code_13) rfl ?_
    show Steps p.tables e below (T_5.setTop (mkF m 14 #[Rv a, Lv (t0 >>> ((48 : Int32) &&& 0x3f).toInt64), Zs, Iv (1 : Int32), Lv t0, Zs] [(.long (t0 >>> ((48 : Int32) &&& 0x3f).toInt64)), (.long x1)])) tt_
    refine XS.ladd X_5.here hEX rfl (hb hBY d_prog_59_method_15_code_14) rfl ?_
    exact kt_
  refine Done.pre sg_9 ?_
  show Done _ _ _ _ _ _ _ (T_5.setTop (mkF m 15 #[Rv a, Lv (t0 >>> ((48 : Int32) &&& 0x3f).toInt64), Zs, Iv (1 : Int32), Lv t0, Zs] [(.long (x1 + (t0 >>> ((48 : Int32) &&& 0x3f).toInt64)))]))
  obtain ⟨t1, ht1⟩ : ∃ z : Int64, z = (x1 + (t0 >>> ((48 : Int32) &&& 0x3f).toInt64)) := ⟨_, rfl⟩
  rw [← ht1]
  show Done _ _ _ _ _ _ _ (T_5.setTop (mkF m 15 #[Rv a, Lv (t0 >>> ((48 : Int32) &&& 0x3f).toInt64), Zs, Iv (1 : Int32), Lv t0, Zs] [(.long t1)]))
  have sg_11 : ∀ tt_, Steps p.tables e below (T_5.setTop (mkF m 25 #[Rv a, Lv (t0 >>> ((48 : Int32) &&& 0x3f).toInt64), Zs, Iv (1 : Int32), Lv t1, Zs] [(.long (t1 &&& (281474976710655 : Int64))), (.int (1 : Int32)), (.ref a)])) tt_ → Steps p.tables e below (T_5.setTop (mkF m 15 #[Rv a, Lv (t0 >>> ((48 : Int32) &&& 0x3f).toInt64), Zs, Iv (1 : Int32), Lv t0, Zs] [(.long t1)])) tt_ := by
    intro tt_ kt_
    refine XS.lstore X_5.here hEX rfl (hb hBY d_prog_59_method_15_code_15) rfl (l' := #[Rv a, Lv (t0 >>> ((48 : Int32) &&& 0x3f).toInt64), Zs, Iv (1 : Int32), Lv t1, Zs]) rfl ?_
    show Steps p.tables e below (T_5.setTop (mkF m 17 #[Rv a, Lv (t0 >>> ((48 : Int32) &&& 0x3f).toInt64), Zs, Iv (1 : Int32), Lv t1, Zs] [])) tt_
    refine XS.aloadN X_5.here hEX rfl (hb hBY d_prog_59_method_15_code_17) rfl rfl ?_
    show Steps p.tables e below (T_5.setTop (mkF m 18 #[Rv a, Lv (t0 >>> ((48 : Int32) &&& 0x3f).toInt64), Zs, Iv (1 : Int32), Lv t1, Zs] [(.ref a)])) tt_
    refine XS.iloadN X_5.here hEX rfl (hb hBY d_prog_59_method_15_code_18) rfl ?_
    show Steps p.tables e below (T_5.setTop (mkF m 19 #[Rv a, Lv (t0 >>> ((48 : Int32) &&& 0x3f).toInt64), Zs, Iv (1 : Int32), Lv t1, Zs] [(.int (1 : Int32)), (.ref a)])) tt_
    refine XS.lload X_5.here hEX rfl (hb hBY d_prog_59_method_15_code_19) rfl ?_
    show Steps p.tables e below (T_5.setTop (mkF m 21 #[Rv a, Lv (t0 >>> ((48 : Int32) &&& 0x3f).toInt64), Zs, Iv (1 : Int32), Lv t1, Zs] [(.long t1), (.int (1 : Int32)), (.ref a)])) tt_
    refine X_5.ldc2Long hEX hOW (mvT hZW (hw _ (List.mem_of_getElem? (i := 17) rfl))) (g := (mkF m 21 #[Rv a, Lv (t0 >>> ((48 : Int32) &&& 0x3f).toInt64), Zs, Iv (1 : Int32), Lv t1, Zs] [(.long t1), (.int (1 : Int32)), (.ref a)])) rfl (hb hBY d_prog_59_method_15_code_21) _ ?_
    show Steps p.tables e below (T_5.setTop (mkF m 24 #[Rv a, Lv (t0 >>> ((48 : Int32) &&& 0x3f).toInt64), Zs, Iv (1 : Int32), Lv t1, Zs] [(.long (281474976710655 : Int64)), (.long t1), (.int (1 : Int32)), (.ref a)])) tt_
    refine XS.land X_5.here hEX rfl (hb hBY d_prog_59_method_15_code_24) rfl ?_
    exact kt_
  refine Done.pre sg_11 ?_
  obtain ⟨cl_10, Ar_10, q_10, S_10, N__10, H_10, G_10⟩ := id f_7
  have hin_10 : ¬ ((1 : Int32) < 0 ∨ cl_10.slots.size ≤ ((1 : Int32)).toNatClampNeg) := inb_of S_10 ⟨by decide, by decide⟩
  obtain ⟨T_12, h_12, X_12, e_12, W_12, st_12⟩ := stJ X_5 hEX hZW e_5 Ar_10 (j := (1 : Int32)) hin_10 (g := (mkF m 25 #[Rv a, Lv (t0 >>> ((48 : Int32) &&& 0x3f).toInt64), Zs, Iv (1 : Int32), Lv t1, Zs] [(.long (t1 &&& (281474976710655 : Int64))), (.int (1 : Int32)), (.ref a)])) rfl rfl (hb hBY d_prog_59_method_15_code_25)
  have N_12 := Fr.snoc X_12 N_5 ga
  have K__13 : Keep h0 h_12 [a] := K__6.wr W_12 (Or.inl (List.mem_of_getElem? (i := 0) rfl))
  have f_14 : Arv Z h_12 a k .long (8 : Int32) [(.long (t0 &&& (281474976710655 : Int64))), (.long (t1 &&& (281474976710655 : Int64))), (.long x2), (.long x3), (.long x4), (.long x5), (.long x6), (.long x7)] (.long (0 : Int64)) := Arv.set Ar_10 q_10 S_10 N__10 H_10 G_10 rfl W_12 1 rfl (Nat.le_of_ble_eq_true rfl)
  refine Done.pre st_12 ?_
  show Done _ _ _ _ _ _ _ (T_12.setTop (mkF m 26 #[Rv a, Lv (t0 >>> ((48 : Int32) &&& 0x3f).toInt64), Zs, Iv (1 : Int32), Lv t1, Zs] []))
  obtain ⟨cl_15, Ar_15, q_15, S_15, N__15, H_15, G_15⟩ := id f_14
  have hin_15 : ¬ ((2 : Int32) < 0 ∨ cl_15.slots.size ≤ ((2 : Int32)).toNatClampNeg) := inb_of S_15 ⟨by decide, by decide⟩
  have hat_15 : cl_15.slots[((2 : Int32)).toNatClampNeg]? = some (.long x2) := H_15.at hin_15 rfl
  have sg_16 : ∀ tt_, Steps p.tables e below (T_12.setTop (mkF m 15 #[Rv a, Lv (t1 >>> ((48 : Int32) &&& 0x3f).toInt64), Zs, Iv (2 : Int32), Lv t1, Zs] [(.long (x2 + (t1 >>> ((48 : Int32) &&& 0x3f).toInt64)))])) tt_ → Steps p.tables e below (T_12.setTop (mkF m 26 #[Rv a, Lv (t0 >>> ((48 : Int32) &&& 0x3f).toInt64), Zs, Iv (1 : Int32), Lv t1, Zs] [])) tt_ := by
    intro tt_ kt_
    refine XS.lload X_12.here hEX rfl (hb hBY d_prog_59_method_15_code_26) rfl ?_
    show Steps p.tables e below (T_12.setTop (mkF m 28 #[Rv a, Lv (t0 >>> ((48 : Int32) &&& 0x3f).toInt64), Zs, Iv (1 : Int32), Lv t1, Zs] [(.long t1)])) tt_
    refine XS.bipush X_12.here hEX rfl (hb hBY d_prog_59_method_15_code_28) ?_
    show Steps p.tables e below (T_12.setTop (mkF m 30 #[Rv a, Lv (t0 >>> ((48 : Int32) &&& 0x3f).toInt64), Zs, Iv (1 : Int32), Lv t1, Zs] [(.int (48 : Int32)), (.long t1)])) tt_
    refine XS.lshr X_12.here hEX rfl (hb hBY d_prog_59_method_15_code_30) rfl ?_
    show Steps p.tables e below (T_12.setTop (mkF m 31 #[Rv a, Lv (t0 >>> ((48 : Int32) &&& 0x3f).toInt64), Zs, Iv (1 : Int32), Lv t1, Zs] [(.long (t1 >>> ((48 : Int32) &&& 0x3f).toInt64))])) tt_
    refine XS.lstoreN X_12.here hEX rfl (hb hBY d_prog_59_method_15_code_31) rfl (l' := #[Rv a, Lv (t1 >>> ((48 : Int32) &&& 0x3f).toInt64), Zs, Iv (1 : Int32), Lv t1, Zs]) rfl ?_
    show Steps p.tables e below (T_12.setTop (mkF m 32 #[Rv a, Lv (t1 >>> ((48 : Int32) &&& 0x3f).toInt64), Zs, Iv (1 : Int32), Lv t1, Zs] [])) tt_
    refine XS.iinc X_12.here hEX rfl (hb hBY d_prog_59_method_15_code_32) rfl (l' := #[Rv a, Lv (t1 >>> ((48 : Int32) &&& 0x3f).toInt64), Zs, Iv (2 : Int32), Lv t1, Zs]) rfl ?_
    show Steps p.tables e below (T_12.setTop (mkF m 35 #[Rv a, Lv (t1 >>> ((48 : Int32) &&& 0x3f).toInt64), Zs, Iv (2 : Int32), Lv t1, Zs] [])) tt_
    refine XS.goto X_12.here hEX rfl (pc0 := 35) (pc' := 4) rfl (hb hBY d_prog_59_method_15_code_35) (by decide) (by decide) ?_
    show Steps p.tables e below (T_12.setTop (mkF m 4 #[Rv a, Lv (t1 >>> ((48 : Int32) &&& 0x3f).toInt64), Zs, Iv (2 : Int32), Lv t1, Zs] [])) tt_
    refine XS.iloadN X_12.here hEX rfl (hb hBY d_prog_59_method_15_code_4) rfl ?_
    show Steps p.tables e below (T_12.setTop (mkF m 5 #[Rv a, Lv (t1 >>> ((48 : Int32) &&& 0x3f).toInt64), Zs, Iv (2 : Int32), Lv t1, Zs] [(.int (2 : Int32))])) tt_
    refine XS.bipush X_12.here hEX rfl (hb hBY d_prog_59_method_15_code_5) ?_
    show Steps p.tables e below (T_12.setTop (mkF m 7 #[Rv a, Lv (t1 >>> ((48 : Int32) &&& 0x3f).toInt64), Zs, Iv (2 : Int32), Lv t1, Zs] [(.int (8 : Int32)), (.int (2 : Int32))])) tt_
    refine XS.icmpNo X_12.here hEX rfl (hb hBY d_prog_59_method_15_code_7) rfl (tlt (by decide : (2 : Int32) < (8 : Int32))).2.1 ?_
    show Steps p.tables e below (T_12.setTop (mkF m 10 #[Rv a, Lv (t1 >>> ((48 : Int32) &&& 0x3f).toInt64), Zs, Iv (2 : Int32), Lv t1, Zs] [])) tt_
    refine XS.aloadN X_12.here hEX rfl (hb hBY d_prog_59_method_15_code_10) rfl rfl ?_
    show Steps p.tables e below (T_12.setTop (mkF m 11 #[Rv a, Lv (t1 >>> ((48 : Int32) &&& 0x3f).toInt64), Zs, Iv (2 : Int32), Lv t1, Zs] [(.ref a)])) tt_
    refine XS.iloadN X_12.here hEX rfl (hb hBY d_prog_59_method_15_code_11) rfl ?_
    show Steps p.tables e below (T_12.setTop (mkF m 12 #[Rv a, Lv (t1 >>> ((48 : Int32) &&& 0x3f).toInt64), Zs, Iv (2 : Int32), Lv t1, Zs] [(.int (2 : Int32)), (.ref a)])) tt_
    refine X_12.laload hEX (j := (2 : Int32)) (v := (.long x2)) (by rw [e_12]; exact Ar_15.1) (State.isArrayOf_alike hZW.alike Ar_15.2.1) Ar_15.2.2 hin_15 hat_15 (g := (mkF m 12 #[Rv a, Lv (t1 >>> ((48 : Int32) &&& 0x3f).toInt64), Zs, Iv (2 : Int32), Lv t1, Zs] [(.int (2 : Int32)), (.ref a)])) rfl rfl (hb hBY d_prog_59_method_15_code_12) _ ?_
    show Steps p.tables e below (T_12.setTop (mkF m 13 #[Rv a, Lv (t1 >>> ((48 : Int32) &&& 0x3f).toInt64), Zs, Iv (2 : Int32), Lv t1, Zs] [(.long x2)])) tt_
    refine XS.lloadN X_12.here hEX rfl (hb hBY d_prog_59_method_15_code_13) rfl ?_
    show Steps p.tables e below (T_12.setTop (mkF m 14 #[Rv a, Lv (t1 >>> ((48 : Int32) &&& 0x3f).toInt64), Zs, Iv (2 : Int32), Lv t1, Zs] [(.long (t1 >>> ((48 : Int32) &&& 0x3f).toInt64)), (.long x2)])) tt_
    refine XS.ladd X_12.here hEX rfl (hb hBY d_prog_59_method_15_code_14) rfl ?_
    exact kt_
  refine Done.pre sg_16 ?_
  show Done _ _ _ _ _ _ _ (T_12.setTop (mkF m 15 #[Rv a, Lv (t1 >>> ((48 : Int32) &&& 0x3f).toInt64), Zs, Iv (2 : Int32), Lv t1, Zs] [(.long (x2 + (t1 >>> ((48 : Int32) &&& 0x3f).toInt64)))]))
  obtain ⟨t2, ht2⟩ : ∃ z : Int64, z = (x2 + (t1 >>> ((48 : Int32) &&& 0x3f).toInt64)) := ⟨_, rfl⟩
  rw [← ht2]
  show Done _ _ _ _ _ _ _ (T_12.setTop (mkF m 15 #[Rv a, Lv (t1 >>> ((48 : Int32) &&& 0x3f).toInt64), Zs, Iv (2 : Int32), Lv t1, Zs] [(.long t2)]))
  have sg_18 : ∀ tt_, Steps p.tables e below (T_12.setTop (mkF m 25 #[Rv a, Lv (t1 >>> ((48 : Int32) &&& 0x3f).toInt64), Zs, Iv (2 : Int32), Lv t2, Zs] [(.long (t2 &&& (281474976710655 : Int64))), (.int (2 : Int32)), (.ref a)])) tt_ → Steps p.tables e below (T_12.setTop (mkF m 15 #[Rv a, Lv (t1 >>> ((48 : Int32) &&& 0x3f).toInt64), Zs, Iv (2 : Int32), Lv t1, Zs] [(.long t2)])) tt_ := by
    intro tt_ kt_
    refine XS.lstore X_12.here hEX rfl (hb hBY d_prog_59_method_15_code_15) rfl (l' := #[Rv a, Lv (t1 >>> ((48 : Int32) &&& 0x3f).toInt64), Zs, Iv (2 : Int32), Lv t2, Zs]) rfl ?_
    show Steps p.tables e below (T_12.setTop (mkF m 17 #[Rv a, Lv (t1 >>> ((48 : Int32) &&& 0x3f).toInt64), Zs, Iv (2 : Int32), Lv t2, Zs] [])) tt_
    refine XS.aloadN X_12.here hEX rfl (hb hBY d_prog_59_method_15_code_17) rfl rfl ?_
    show Steps p.tables e below (T_12.setTop (mkF m 18 #[Rv a, Lv (t1 >>> ((48 : Int32) &&& 0x3f).toInt64), Zs, Iv (2 : Int32), Lv t2, Zs] [(.ref a)])) tt_
    refine XS.iloadN X_12.here hEX rfl (hb hBY d_prog_59_method_15_code_18) rfl ?_
    show Steps p.tables e below (T_12.setTop (mkF m 19 #[Rv a, Lv (t1 >>> ((48 : Int32) &&& 0x3f).toInt64), Zs, Iv (2 : Int32), Lv t2, Zs] [(.int (2 : Int32)), (.ref a)])) tt_
    refine XS.lload X_12.here hEX rfl (hb hBY d_prog_59_method_15_code_19) rfl ?_
    show Steps p.tables e below (T_12.setTop (mkF m 21 #[Rv a, Lv (t1 >>> ((48 : Int32) &&& 0x3f).toInt64), Zs, Iv (2 : Int32), Lv t2, Zs] [(.long t2), (.int (2 : Int32)), (.ref a)])) tt_
    refine X_12.ldc2Long hEX hOW (mvT hZW (hw _ (List.mem_of_getElem? (i := 17) rfl))) (g := (mkF m 21 #[Rv a, Lv (t1 >>> ((48 : Int32) &&& 0x3f).toInt64), Zs, Iv (2 : Int32), Lv t2, Zs] [(.long t2), (.int (2 : Int32)), (.ref a)])) rfl (hb hBY d_prog_59_method_15_code_21) _ ?_
    show Steps p.tables e below (T_12.setTop (mkF m 24 #[Rv a, Lv (t1 >>> ((48 : Int32) &&& 0x3f).toInt64), Zs, Iv (2 : Int32), Lv t2, Zs] [(.long (281474976710655 : Int64)), (.long t2), (.int (2 : Int32)), (.ref a)])) tt_
    refine XS.land X_12.here hEX rfl (hb hBY d_prog_59_method_15_code_24) rfl ?_
    exact kt_
  refine Done.pre sg_18 ?_
  obtain ⟨cl_17, Ar_17, q_17, S_17, N__17, H_17, G_17⟩ := id f_14
  have hin_17 : ¬ ((2 : Int32) < 0 ∨ cl_17.slots.size ≤ ((2 : Int32)).toNatClampNeg) := inb_of S_17 ⟨by decide, by decide⟩
  obtain ⟨T_19, h_19, X_19, e_19, W_19, st_19⟩ := stJ X_12 hEX hZW e_12 Ar_17 (j := (2 : Int32)) hin_17 (g := (mkF m 25 #[Rv a, Lv (t1 >>> ((48 : Int32) &&& 0x3f).toInt64), Zs, Iv (2 : Int32), Lv t2, Zs] [(.long (t2 &&& (281474976710655 : Int64))), (.int (2 : Int32)), (.ref a)])) rfl rfl (hb hBY d_prog_59_method_15_code_25)
  have N_19 := Fr.snoc X_19 N_12 ga
  have K__20 : Keep h0 h_19 [a] := K__13.wr W_19 (Or.inl (List.mem_of_getElem? (i := 0) rfl))
  have f_21 : Arv Z h_19 a k .long (8 : Int32) [(.long (t0 &&& (281474976710655 : Int64))), (.long (t1 &&& (281474976710655 : Int64))), (.long (t2 &&& (281474976710655 : Int64))), (.long x3), (.long x4), (.long x5), (.long x6), (.long x7)] (.long (0 : Int64)) := Arv.set Ar_17 q_17 S_17 N__17 H_17 G_17 rfl W_19 2 rfl (Nat.le_of_ble_eq_true rfl)
  refine Done.pre st_19 ?_
  show Done _ _ _ _ _ _ _ (T_19.setTop (mkF m 26 #[Rv a, Lv (t1 >>> ((48 : Int32) &&& 0x3f).toInt64), Zs, Iv (2 : Int32), Lv t2, Zs] []))
  obtain ⟨cl_22, Ar_22, q_22, S_22, N__22, H_22, G_22⟩ := id f_21
  have hin_22 : ¬ ((3 : Int32) < 0 ∨ cl_22.slots.size ≤ ((3 : Int32)).toNatClampNeg) := inb_of S_22 ⟨by decide, by decide⟩
  have hat_22 : cl_22.slots[((3 : Int32)).toNatClampNeg]? = some (.long x3) := H_22.at hin_22 rfl
  have sg_23 : ∀ tt_, Steps p.tables e below (T_19.setTop (mkF m 15 #[Rv a, Lv (t2 >>> ((48 : Int32) &&& 0x3f).toInt64), Zs, Iv (3 : Int32), Lv t2, Zs] [(.long (x3 + (t2 >>> ((48 : Int32) &&& 0x3f).toInt64)))])) tt_ → Steps p.tables e below (T_19.setTop (mkF m 26 #[Rv a, Lv (t1 >>> ((48 : Int32) &&& 0x3f).toInt64), Zs, Iv (2 : Int32), Lv t2, Zs] [])) tt_ := by
    intro tt_ kt_
    refine XS.lload X_19.here hEX rfl (hb hBY d_prog_59_method_15_code_26) rfl ?_
    show Steps p.tables e below (T_19.setTop (mkF m 28 #[Rv a, Lv (t1 >>> ((48 : Int32) &&& 0x3f).toInt64), Zs, Iv (2 : Int32), Lv t2, Zs] [(.long t2)])) tt_
    refine XS.bipush X_19.here hEX rfl (hb hBY d_prog_59_method_15_code_28) ?_
    show Steps p.tables e below (T_19.setTop (mkF m 30 #[Rv a, Lv (t1 >>> ((48 : Int32) &&& 0x3f).toInt64), Zs, Iv (2 : Int32), Lv t2, Zs] [(.int (48 : Int32)), (.long t2)])) tt_
    refine XS.lshr X_19.here hEX rfl (hb hBY d_prog_59_method_15_code_30) rfl ?_
    show Steps p.tables e below (T_19.setTop (mkF m 31 #[Rv a, Lv (t1 >>> ((48 : Int32) &&& 0x3f).toInt64), Zs, Iv (2 : Int32), Lv t2, Zs] [(.long (t2 >>> ((48 : Int32) &&& 0x3f).toInt64))])) tt_
    refine XS.lstoreN X_19.here hEX rfl (hb hBY d_prog_59_method_15_code_31) rfl (l' := #[Rv a, Lv (t2 >>> ((48 : Int32) &&& 0x3f).toInt64), Zs, Iv (2 : Int32), Lv t2, Zs]) rfl ?_
    show Steps p.tables e below (T_19.setTop (mkF m 32 #[Rv a, Lv (t2 >>> ((48 : Int32) &&& 0x3f).toInt64), Zs, Iv (2 : Int32), Lv t2, Zs] [])) tt_
    refine XS.iinc X_19.here hEX rfl (hb hBY d_prog_59_method_15_code_32) rfl (l' := #[Rv a, Lv (t2 >>> ((48 : Int32) &&& 0x3f).toInt64), Zs, Iv (3 : Int32), Lv t2, Zs]) rfl ?_
    show Steps p.tables e below (T_19.setTop (mkF m 35 #[Rv a, Lv (t2 >>> ((48 : Int32) &&& 0x3f).toInt64), Zs, Iv (3 : Int32), Lv t2, Zs] [])) tt_
    refine XS.goto X_19.here hEX rfl (pc0 := 35) (pc' := 4) rfl (hb hBY d_prog_59_method_15_code_35) (by decide) (by decide) ?_
    show Steps p.tables e below (T_19.setTop (mkF m 4 #[Rv a, Lv (t2 >>> ((48 : Int32) &&& 0x3f).toInt64), Zs, Iv (3 : Int32), Lv t2, Zs] [])) tt_
    refine XS.iloadN X_19.here hEX rfl (hb hBY d_prog_59_method_15_code_4) rfl ?_
    show Steps p.tables e below (T_19.setTop (mkF m 5 #[Rv a, Lv (t2 >>> ((48 : Int32) &&& 0x3f).toInt64), Zs, Iv (3 : Int32), Lv t2, Zs] [(.int (3 : Int32))])) tt_
    refine XS.bipush X_19.here hEX rfl (hb hBY d_prog_59_method_15_code_5) ?_
    show Steps p.tables e below (T_19.setTop (mkF m 7 #[Rv a, Lv (t2 >>> ((48 : Int32) &&& 0x3f).toInt64), Zs, Iv (3 : Int32), Lv t2, Zs] [(.int (8 : Int32)), (.int (3 : Int32))])) tt_
    refine XS.icmpNo X_19.here hEX rfl (hb hBY d_prog_59_method_15_code_7) rfl (tlt (by decide : (3 : Int32) < (8 : Int32))).2.1 ?_
    show Steps p.tables e below (T_19.setTop (mkF m 10 #[Rv a, Lv (t2 >>> ((48 : Int32) &&& 0x3f).toInt64), Zs, Iv (3 : Int32), Lv t2, Zs] [])) tt_
    refine XS.aloadN X_19.here hEX rfl (hb hBY d_prog_59_method_15_code_10) rfl rfl ?_
    show Steps p.tables e below (T_19.setTop (mkF m 11 #[Rv a, Lv (t2 >>> ((48 : Int32) &&& 0x3f).toInt64), Zs, Iv (3 : Int32), Lv t2, Zs] [(.ref a)])) tt_
    refine XS.iloadN X_19.here hEX rfl (hb hBY d_prog_59_method_15_code_11) rfl ?_
    show Steps p.tables e below (T_19.setTop (mkF m 12 #[Rv a, Lv (t2 >>> ((48 : Int32) &&& 0x3f).toInt64), Zs, Iv (3 : Int32), Lv t2, Zs] [(.int (3 : Int32)), (.ref a)])) tt_
    refine X_19.laload hEX (j := (3 : Int32)) (v := (.long x3)) (by rw [e_19]; exact Ar_22.1) (State.isArrayOf_alike hZW.alike Ar_22.2.1) Ar_22.2.2 hin_22 hat_22 (g := (mkF m 12 #[Rv a, Lv (t2 >>> ((48 : Int32) &&& 0x3f).toInt64), Zs, Iv (3 : Int32), Lv t2, Zs] [(.int (3 : Int32)), (.ref a)])) rfl rfl (hb hBY d_prog_59_method_15_code_12) _ ?_
    show Steps p.tables e below (T_19.setTop (mkF m 13 #[Rv a, Lv (t2 >>> ((48 : Int32) &&& 0x3f).toInt64), Zs, Iv (3 : Int32), Lv t2, Zs] [(.long x3)])) tt_
    refine XS.lloadN X_19.here hEX rfl (hb hBY d_prog_59_method_15_code_13) rfl ?_
    show Steps p.tables e below (T_19.setTop (mkF m 14 #[Rv a, Lv (t2 >>> ((48 : Int32) &&& 0x3f).toInt64), Zs, Iv (3 : Int32), Lv t2, Zs] [(.long (t2 >>> ((48 : Int32) &&& 0x3f).toInt64)), (.long x3)])) tt_
    refine XS.ladd X_19.here hEX rfl (hb hBY d_prog_59_method_15_code_14) rfl ?_
    exact kt_
  refine Done.pre sg_23 ?_
  show Done _ _ _ _ _ _ _ (T_19.setTop (mkF m 15 #[Rv a, Lv (t2 >>> ((48 : Int32) &&& 0x3f).toInt64), Zs, Iv (3 : Int32), Lv t2, Zs] [(.long (x3 + (t2 >>> ((48 : Int32) &&& 0x3f).toInt64)))]))
  obtain ⟨t3, ht3⟩ : ∃ z : Int64, z = (x3 + (t2 >>> ((48 : Int32) &&& 0x3f).toInt64)) := ⟨_, rfl⟩
  rw [← ht3]
  show Done _ _ _ _ _ _ _ (T_19.setTop (mkF m 15 #[Rv a, Lv (t2 >>> ((48 : Int32) &&& 0x3f).toInt64), Zs, Iv (3 : Int32), Lv t2, Zs] [(.long t3)]))
  have sg_25 : ∀ tt_, Steps p.tables e below (T_19.setTop (mkF m 25 #[Rv a, Lv (t2 >>> ((48 : Int32) &&& 0x3f).toInt64), Zs, Iv (3 : Int32), Lv t3, Zs] [(.long (t3 &&& (281474976710655 : Int64))), (.int (3 : Int32)), (.ref a)])) tt_ → Steps p.tables e below (T_19.setTop (mkF m 15 #[Rv a, Lv (t2 >>> ((48 : Int32) &&& 0x3f).toInt64), Zs, Iv (3 : Int32), Lv t2, Zs] [(.long t3)])) tt_ := by
    intro tt_ kt_
    refine XS.lstore X_19.here hEX rfl (hb hBY d_prog_59_method_15_code_15) rfl (l' := #[Rv a, Lv (t2 >>> ((48 : Int32) &&& 0x3f).toInt64), Zs, Iv (3 : Int32), Lv t3, Zs]) rfl ?_
    show Steps p.tables e below (T_19.setTop (mkF m 17 #[Rv a, Lv (t2 >>> ((48 : Int32) &&& 0x3f).toInt64), Zs, Iv (3 : Int32), Lv t3, Zs] [])) tt_
    refine XS.aloadN X_19.here hEX rfl (hb hBY d_prog_59_method_15_code_17) rfl rfl ?_
    show Steps p.tables e below (T_19.setTop (mkF m 18 #[Rv a, Lv (t2 >>> ((48 : Int32) &&& 0x3f).toInt64), Zs, Iv (3 : Int32), Lv t3, Zs] [(.ref a)])) tt_
    refine XS.iloadN X_19.here hEX rfl (hb hBY d_prog_59_method_15_code_18) rfl ?_
    show Steps p.tables e below (T_19.setTop (mkF m 19 #[Rv a, Lv (t2 >>> ((48 : Int32) &&& 0x3f).toInt64), Zs, Iv (3 : Int32), Lv t3, Zs] [(.int (3 : Int32)), (.ref a)])) tt_
    refine XS.lload X_19.here hEX rfl (hb hBY d_prog_59_method_15_code_19) rfl ?_
    show Steps p.tables e below (T_19.setTop (mkF m 21 #[Rv a, Lv (t2 >>> ((48 : Int32) &&& 0x3f).toInt64), Zs, Iv (3 : Int32), Lv t3, Zs] [(.long t3), (.int (3 : Int32)), (.ref a)])) tt_
    refine X_19.ldc2Long hEX hOW (mvT hZW (hw _ (List.mem_of_getElem? (i := 17) rfl))) (g := (mkF m 21 #[Rv a, Lv (t2 >>> ((48 : Int32) &&& 0x3f).toInt64), Zs, Iv (3 : Int32), Lv t3, Zs] [(.long t3), (.int (3 : Int32)), (.ref a)])) rfl (hb hBY d_prog_59_method_15_code_21) _ ?_
    show Steps p.tables e below (T_19.setTop (mkF m 24 #[Rv a, Lv (t2 >>> ((48 : Int32) &&& 0x3f).toInt64), Zs, Iv (3 : Int32), Lv t3, Zs] [(.long (281474976710655 : Int64)), (.long t3), (.int (3 : Int32)), (.ref a)])) tt_
    refine XS.land X_19.here hEX rfl (hb hBY d_prog_59_method_15_code_24) rfl ?_
    exact kt_
  refine Done.pre sg_25 ?_
  obtain ⟨cl_24, Ar_24, q_24, S_24, N__24, H_24, G_24⟩ := id f_21
  have hin_24 : ¬ ((3 : Int32) < 0 ∨ cl_24.slots.size ≤ ((3 : Int32)).toNatClampNeg) := inb_of S_24 ⟨by decide, by decide⟩
  obtain ⟨T_26, h_26, X_26, e_26, W_26, st_26⟩ := stJ X_19 hEX hZW e_19 Ar_24 (j := (3 : Int32)) hin_24 (g := (mkF m 25 #[Rv a, Lv (t2 >>> ((48 : Int32) &&& 0x3f).toInt64), Zs, Iv (3 : Int32), Lv t3, Zs] [(.long (t3 &&& (281474976710655 : Int64))), (.int (3 : Int32)), (.ref a)])) rfl rfl (hb hBY d_prog_59_method_15_code_25)
  have N_26 := Fr.snoc X_26 N_19 ga
  have K__27 : Keep h0 h_26 [a] := K__20.wr W_26 (Or.inl (List.mem_of_getElem? (i := 0) rfl))
  have f_28 : Arv Z h_26 a k .long (8 : Int32) [(.long (t0 &&& (281474976710655 : Int64))), (.long (t1 &&& (281474976710655 : Int64))), (.long (t2 &&& (281474976710655 : Int64))), (.long (t3 &&& (281474976710655 : Int64))), (.long x4), (.long x5), (.long x6), (.long x7)] (.long (0 : Int64)) := Arv.set Ar_24 q_24 S_24 N__24 H_24 G_24 rfl W_26 3 rfl (Nat.le_of_ble_eq_true rfl)
  refine Done.pre st_26 ?_
  show Done _ _ _ _ _ _ _ (T_26.setTop (mkF m 26 #[Rv a, Lv (t2 >>> ((48 : Int32) &&& 0x3f).toInt64), Zs, Iv (3 : Int32), Lv t3, Zs] []))
  obtain ⟨cl_29, Ar_29, q_29, S_29, N__29, H_29, G_29⟩ := id f_28
  have hin_29 : ¬ ((4 : Int32) < 0 ∨ cl_29.slots.size ≤ ((4 : Int32)).toNatClampNeg) := inb_of S_29 ⟨by decide, by decide⟩
  have hat_29 : cl_29.slots[((4 : Int32)).toNatClampNeg]? = some (.long x4) := H_29.at hin_29 rfl
  have sg_30 : ∀ tt_, Steps p.tables e below (T_26.setTop (mkF m 15 #[Rv a, Lv (t3 >>> ((48 : Int32) &&& 0x3f).toInt64), Zs, Iv (4 : Int32), Lv t3, Zs] [(.long (x4 + (t3 >>> ((48 : Int32) &&& 0x3f).toInt64)))])) tt_ → Steps p.tables e below (T_26.setTop (mkF m 26 #[Rv a, Lv (t2 >>> ((48 : Int32) &&& 0x3f).toInt64), Zs, Iv (3 : Int32), Lv t3, Zs] [])) tt_ := by
    intro tt_ kt_
    refine XS.lload X_26.here hEX rfl (hb hBY d_prog_59_method_15_code_26) rfl ?_
    show Steps p.tables e below (T_26.setTop (mkF m 28 #[Rv a, Lv (t2 >>> ((48 : Int32) &&& 0x3f).toInt64), Zs, Iv (3 : Int32), Lv t3, Zs] [(.long t3)])) tt_
    refine XS.bipush X_26.here hEX rfl (hb hBY d_prog_59_method_15_code_28) ?_
    show Steps p.tables e below (T_26.setTop (mkF m 30 #[Rv a, Lv (t2 >>> ((48 : Int32) &&& 0x3f).toInt64), Zs, Iv (3 : Int32), Lv t3, Zs] [(.int (48 : Int32)), (.long t3)])) tt_
    refine XS.lshr X_26.here hEX rfl (hb hBY d_prog_59_method_15_code_30) rfl ?_
    show Steps p.tables e below (T_26.setTop (mkF m 31 #[Rv a, Lv (t2 >>> ((48 : Int32) &&& 0x3f).toInt64), Zs, Iv (3 : Int32), Lv t3, Zs] [(.long (t3 >>> ((48 : Int32) &&& 0x3f).toInt64))])) tt_
    refine XS.lstoreN X_26.here hEX rfl (hb hBY d_prog_59_method_15_code_31) rfl (l' := #[Rv a, Lv (t3 >>> ((48 : Int32) &&& 0x3f).toInt64), Zs, Iv (3 : Int32), Lv t3, Zs]) rfl ?_
    show Steps p.tables e below (T_26.setTop (mkF m 32 #[Rv a, Lv (t3 >>> ((48 : Int32) &&& 0x3f).toInt64), Zs, Iv (3 : Int32), Lv t3, Zs] [])) tt_
    refine XS.iinc X_26.here hEX rfl (hb hBY d_prog_59_method_15_code_32) rfl (l' := #[Rv a, Lv (t3 >>> ((48 : Int32) &&& 0x3f).toInt64), Zs, Iv (4 : Int32), Lv t3, Zs]) rfl ?_
    show Steps p.tables e below (T_26.setTop (mkF m 35 #[Rv a, Lv (t3 >>> ((48 : Int32) &&& 0x3f).toInt64), Zs, Iv (4 : Int32), Lv t3, Zs] [])) tt_
    refine XS.goto X_26.here hEX rfl (pc0 := 35) (pc' := 4) rfl (hb hBY d_prog_59_method_15_code_35) (by decide) (by decide) ?_
    show Steps p.tables e below (T_26.setTop (mkF m 4 #[Rv a, Lv (t3 >>> ((48 : Int32) &&& 0x3f).toInt64), Zs, Iv (4 : Int32), Lv t3, Zs] [])) tt_
    refine XS.iloadN X_26.here hEX rfl (hb hBY d_prog_59_method_15_code_4) rfl ?_
    show Steps p.tables e below (T_26.setTop (mkF m 5 #[Rv a, Lv (t3 >>> ((48 : Int32) &&& 0x3f).toInt64), Zs, Iv (4 : Int32), Lv t3, Zs] [(.int (4 : Int32))])) tt_
    refine XS.bipush X_26.here hEX rfl (hb hBY d_prog_59_method_15_code_5) ?_
    show Steps p.tables e below (T_26.setTop (mkF m 7 #[Rv a, Lv (t3 >>> ((48 : Int32) &&& 0x3f).toInt64), Zs, Iv (4 : Int32), Lv t3, Zs] [(.int (8 : Int32)), (.int (4 : Int32))])) tt_
    refine XS.icmpNo X_26.here hEX rfl (hb hBY d_prog_59_method_15_code_7) rfl (tlt (by decide : (4 : Int32) < (8 : Int32))).2.1 ?_
    show Steps p.tables e below (T_26.setTop (mkF m 10 #[Rv a, Lv (t3 >>> ((48 : Int32) &&& 0x3f).toInt64), Zs, Iv (4 : Int32), Lv t3, Zs] [])) tt_
    refine XS.aloadN X_26.here hEX rfl (hb hBY d_prog_59_method_15_code_10) rfl rfl ?_
    show Steps p.tables e below (T_26.setTop (mkF m 11 #[Rv a, Lv (t3 >>> ((48 : Int32) &&& 0x3f).toInt64), Zs, Iv (4 : Int32), Lv t3, Zs] [(.ref a)])) tt_
    refine XS.iloadN X_26.here hEX rfl (hb hBY d_prog_59_method_15_code_11) rfl ?_
    show Steps p.tables e below (T_26.setTop (mkF m 12 #[Rv a, Lv (t3 >>> ((48 : Int32) &&& 0x3f).toInt64), Zs, Iv (4 : Int32), Lv t3, Zs] [(.int (4 : Int32)), (.ref a)])) tt_
    refine X_26.laload hEX (j := (4 : Int32)) (v := (.long x4)) (by rw [e_26]; exact Ar_29.1) (State.isArrayOf_alike hZW.alike Ar_29.2.1) Ar_29.2.2 hin_29 hat_29 (g := (mkF m 12 #[Rv a, Lv (t3 >>> ((48 : Int32) &&& 0x3f).toInt64), Zs, Iv (4 : Int32), Lv t3, Zs] [(.int (4 : Int32)), (.ref a)])) rfl rfl (hb hBY d_prog_59_method_15_code_12) _ ?_
    show Steps p.tables e below (T_26.setTop (mkF m 13 #[Rv a, Lv (t3 >>> ((48 : Int32) &&& 0x3f).toInt64), Zs, Iv (4 : Int32), Lv t3, Zs] [(.long x4)])) tt_
    refine XS.lloadN X_26.here hEX rfl (hb hBY d_prog_59_method_15_code_13) rfl ?_
    show Steps p.tables e below (T_26.setTop (mkF m 14 #[Rv a, Lv (t3 >>> ((48 : Int32) &&& 0x3f).toInt64), Zs, Iv (4 : Int32), Lv t3, Zs] [(.long (t3 >>> ((48 : Int32) &&& 0x3f).toInt64)), (.long x4)])) tt_
    refine XS.ladd X_26.here hEX rfl (hb hBY d_prog_59_method_15_code_14) rfl ?_
    exact kt_
  refine Done.pre sg_30 ?_
  show Done _ _ _ _ _ _ _ (T_26.setTop (mkF m 15 #[Rv a, Lv (t3 >>> ((48 : Int32) &&& 0x3f).toInt64), Zs, Iv (4 : Int32), Lv t3, Zs] [(.long (x4 + (t3 >>> ((48 : Int32) &&& 0x3f).toInt64)))]))
  obtain ⟨t4, ht4⟩ : ∃ z : Int64, z = (x4 + (t3 >>> ((48 : Int32) &&& 0x3f).toInt64)) := ⟨_, rfl⟩
  rw [← ht4]
  show Done _ _ _ _ _ _ _ (T_26.setTop (mkF m 15 #[Rv a, Lv (t3 >>> ((48 : Int32) &&& 0x3f).toInt64), Zs, Iv (4 : Int32), Lv t3, Zs] [(.long t4)]))
  have sg_32 : ∀ tt_, Steps p.tables e below (T_26.setTop (mkF m 25 #[Rv a, Lv (t3 >>> ((48 : Int32) &&& 0x3f).toInt64), Zs, Iv (4 : Int32), Lv t4, Zs] [(.long (t4 &&& (281474976710655 : Int64))), (.int (4 : Int32)), (.ref a)])) tt_ → Steps p.tables e below (T_26.setTop (mkF m 15 #[Rv a, Lv (t3 >>> ((48 : Int32) &&& 0x3f).toInt64), Zs, Iv (4 : Int32), Lv t3, Zs] [(.long t4)])) tt_ := by
    intro tt_ kt_
    refine XS.lstore X_26.here hEX rfl (hb hBY d_prog_59_method_15_code_15) rfl (l' := #[Rv a, Lv (t3 >>> ((48 : Int32) &&& 0x3f).toInt64), Zs, Iv (4 : Int32), Lv t4, Zs]) rfl ?_
    show Steps p.tables e below (T_26.setTop (mkF m 17 #[Rv a, Lv (t3 >>> ((48 : Int32) &&& 0x3f).toInt64), Zs, Iv (4 : Int32), Lv t4, Zs] [])) tt_
    refine XS.aloadN X_26.here hEX rfl (hb hBY d_prog_59_method_15_code_17) rfl rfl ?_
    show Steps p.tables e below (T_26.setTop (mkF m 18 #[Rv a, Lv (t3 >>> ((48 : Int32) &&& 0x3f).toInt64), Zs, Iv (4 : Int32), Lv t4, Zs] [(.ref a)])) tt_
    refine XS.iloadN X_26.here hEX rfl (hb hBY d_prog_59_method_15_code_18) rfl ?_
    show Steps p.tables e below (T_26.setTop (mkF m 19 #[Rv a, Lv (t3 >>> ((48 : Int32) &&& 0x3f).toInt64), Zs, Iv (4 : Int32), Lv t4, Zs] [(.int (4 : Int32)), (.ref a)])) tt_
    refine XS.lload X_26.here hEX rfl (hb hBY d_prog_59_method_15_code_19) rfl ?_
    show Steps p.tables e below (T_26.setTop (mkF m 21 #[Rv a, Lv (t3 >>> ((48 : Int32) &&& 0x3f).toInt64), Zs, Iv (4 : Int32), Lv t4, Zs] [(.long t4), (.int (4 : Int32)), (.ref a)])) tt_
    refine X_26.ldc2Long hEX hOW (mvT hZW (hw _ (List.mem_of_getElem? (i := 17) rfl))) (g := (mkF m 21 #[Rv a, Lv (t3 >>> ((48 : Int32) &&& 0x3f).toInt64), Zs, Iv (4 : Int32), Lv t4, Zs] [(.long t4), (.int (4 : Int32)), (.ref a)])) rfl (hb hBY d_prog_59_method_15_code_21) _ ?_
    show Steps p.tables e below (T_26.setTop (mkF m 24 #[Rv a, Lv (t3 >>> ((48 : Int32) &&& 0x3f).toInt64), Zs, Iv (4 : Int32), Lv t4, Zs] [(.long (281474976710655 : Int64)), (.long t4), (.int (4 : Int32)), (.ref a)])) tt_
    refine XS.land X_26.here hEX rfl (hb hBY d_prog_59_method_15_code_24) rfl ?_
    exact kt_
  refine Done.pre sg_32 ?_
  obtain ⟨cl_31, Ar_31, q_31, S_31, N__31, H_31, G_31⟩ := id f_28
  have hin_31 : ¬ ((4 : Int32) < 0 ∨ cl_31.slots.size ≤ ((4 : Int32)).toNatClampNeg) := inb_of S_31 ⟨by decide, by decide⟩
  obtain ⟨T_33, h_33, X_33, e_33, W_33, st_33⟩ := stJ X_26 hEX hZW e_26 Ar_31 (j := (4 : Int32)) hin_31 (g := (mkF m 25 #[Rv a, Lv (t3 >>> ((48 : Int32) &&& 0x3f).toInt64), Zs, Iv (4 : Int32), Lv t4, Zs] [(.long (t4 &&& (281474976710655 : Int64))), (.int (4 : Int32)), (.ref a)])) rfl rfl (hb hBY d_prog_59_method_15_code_25)
  have N_33 := Fr.snoc X_33 N_26 ga
  have K__34 : Keep h0 h_33 [a] := K__27.wr W_33 (Or.inl (List.mem_of_getElem? (i := 0) rfl))
  have f_35 : Arv Z h_33 a k .long (8 : Int32) [(.long (t0 &&& (281474976710655 : Int64))), (.long (t1 &&& (281474976710655 : Int64))), (.long (t2 &&& (281474976710655 : Int64))), (.long (t3 &&& (281474976710655 : Int64))), (.long (t4 &&& (281474976710655 : Int64))), (.long x5), (.long x6), (.long x7)] (.long (0 : Int64)) := Arv.set Ar_31 q_31 S_31 N__31 H_31 G_31 rfl W_33 4 rfl (Nat.le_of_ble_eq_true rfl)
  refine Done.pre st_33 ?_
  show Done _ _ _ _ _ _ _ (T_33.setTop (mkF m 26 #[Rv a, Lv (t3 >>> ((48 : Int32) &&& 0x3f).toInt64), Zs, Iv (4 : Int32), Lv t4, Zs] []))
  obtain ⟨cl_36, Ar_36, q_36, S_36, N__36, H_36, G_36⟩ := id f_35
  have hin_36 : ¬ ((5 : Int32) < 0 ∨ cl_36.slots.size ≤ ((5 : Int32)).toNatClampNeg) := inb_of S_36 ⟨by decide, by decide⟩
  have hat_36 : cl_36.slots[((5 : Int32)).toNatClampNeg]? = some (.long x5) := H_36.at hin_36 rfl
  have sg_37 : ∀ tt_, Steps p.tables e below (T_33.setTop (mkF m 15 #[Rv a, Lv (t4 >>> ((48 : Int32) &&& 0x3f).toInt64), Zs, Iv (5 : Int32), Lv t4, Zs] [(.long (x5 + (t4 >>> ((48 : Int32) &&& 0x3f).toInt64)))])) tt_ → Steps p.tables e below (T_33.setTop (mkF m 26 #[Rv a, Lv (t3 >>> ((48 : Int32) &&& 0x3f).toInt64), Zs, Iv (4 : Int32), Lv t4, Zs] [])) tt_ := by
    intro tt_ kt_
    refine XS.lload X_33.here hEX rfl (hb hBY d_prog_59_method_15_code_26) rfl ?_
    show Steps p.tables e below (T_33.setTop (mkF m 28 #[Rv a, Lv (t3 >>> ((48 : Int32) &&& 0x3f).toInt64), Zs, Iv (4 : Int32), Lv t4, Zs] [(.long t4)])) tt_
    refine XS.bipush X_33.here hEX rfl (hb hBY d_prog_59_method_15_code_28) ?_
    show Steps p.tables e below (T_33.setTop (mkF m 30 #[Rv a, Lv (t3 >>> ((48 : Int32) &&& 0x3f).toInt64), Zs, Iv (4 : Int32), Lv t4, Zs] [(.int (48 : Int32)), (.long t4)])) tt_
    refine XS.lshr X_33.here hEX rfl (hb hBY d_prog_59_method_15_code_30) rfl ?_
    show Steps p.tables e below (T_33.setTop (mkF m 31 #[Rv a, Lv (t3 >>> ((48 : Int32) &&& 0x3f).toInt64), Zs, Iv (4 : Int32), Lv t4, Zs] [(.long (t4 >>> ((48 : Int32) &&& 0x3f).toInt64))])) tt_
    refine XS.lstoreN X_33.here hEX rfl (hb hBY d_prog_59_method_15_code_31) rfl (l' := #[Rv a, Lv (t4 >>> ((48 : Int32) &&& 0x3f).toInt64), Zs, Iv (4 : Int32), Lv t4, Zs]) rfl ?_
    show Steps p.tables e below (T_33.setTop (mkF m 32 #[Rv a, Lv (t4 >>> ((48 : Int32) &&& 0x3f).toInt64), Zs, Iv (4 : Int32), Lv t4, Zs] [])) tt_
    refine XS.iinc X_33.here hEX rfl (hb hBY d_prog_59_method_15_code_32) rfl (l' := #[Rv a, Lv (t4 >>> ((48 : Int32) &&& 0x3f).toInt64), Zs, Iv (5 : Int32), Lv t4, Zs]) rfl ?_
    show Steps p.tables e below (T_33.setTop (mkF m 35 #[Rv a, Lv (t4 >>> ((48 : Int32) &&& 0x3f).toInt64), Zs, Iv (5 : Int32), Lv t4, Zs] [])) tt_
    refine XS.goto X_33.here hEX rfl (pc0 := 35) (pc' := 4) rfl (hb hBY d_prog_59_method_15_code_35) (by decide) (by decide) ?_
    show Steps p.tables e below (T_33.setTop (mkF m 4 #[Rv a, Lv (t4 >>> ((48 : Int32) &&& 0x3f).toInt64), Zs, Iv (5 : Int32), Lv t4, Zs] [])) tt_
    refine XS.iloadN X_33.here hEX rfl (hb hBY d_prog_59_method_15_code_4) rfl ?_
    show Steps p.tables e below (T_33.setTop (mkF m 5 #[Rv a, Lv (t4 >>> ((48 : Int32) &&& 0x3f).toInt64), Zs, Iv (5 : Int32), Lv t4, Zs] [(.int (5 : Int32))])) tt_
    refine XS.bipush X_33.here hEX rfl (hb hBY d_prog_59_method_15_code_5) ?_
    show Steps p.tables e below (T_33.setTop (mkF m 7 #[Rv a, Lv (t4 >>> ((48 : Int32) &&& 0x3f).toInt64), Zs, Iv (5 : Int32), Lv t4, Zs] [(.int (8 : Int32)), (.int (5 : Int32))])) tt_
    refine XS.icmpNo X_33.here hEX rfl (hb hBY d_prog_59_method_15_code_7) rfl (tlt (by decide : (5 : Int32) < (8 : Int32))).2.1 ?_
    show Steps p.tables e below (T_33.setTop (mkF m 10 #[Rv a, Lv (t4 >>> ((48 : Int32) &&& 0x3f).toInt64), Zs, Iv (5 : Int32), Lv t4, Zs] [])) tt_
    refine XS.aloadN X_33.here hEX rfl (hb hBY d_prog_59_method_15_code_10) rfl rfl ?_
    show Steps p.tables e below (T_33.setTop (mkF m 11 #[Rv a, Lv (t4 >>> ((48 : Int32) &&& 0x3f).toInt64), Zs, Iv (5 : Int32), Lv t4, Zs] [(.ref a)])) tt_
    refine XS.iloadN X_33.here hEX rfl (hb hBY d_prog_59_method_15_code_11) rfl ?_
    show Steps p.tables e below (T_33.setTop (mkF m 12 #[Rv a, Lv (t4 >>> ((48 : Int32) &&& 0x3f).toInt64), Zs, Iv (5 : Int32), Lv t4, Zs] [(.int (5 : Int32)), (.ref a)])) tt_
    refine X_33.laload hEX (j := (5 : Int32)) (v := (.long x5)) (by rw [e_33]; exact Ar_36.1) (State.isArrayOf_alike hZW.alike Ar_36.2.1) Ar_36.2.2 hin_36 hat_36 (g := (mkF m 12 #[Rv a, Lv (t4 >>> ((48 : Int32) &&& 0x3f).toInt64), Zs, Iv (5 : Int32), Lv t4, Zs] [(.int (5 : Int32)), (.ref a)])) rfl rfl (hb hBY d_prog_59_method_15_code_12) _ ?_
    show Steps p.tables e below (T_33.setTop (mkF m 13 #[Rv a, Lv (t4 >>> ((48 : Int32) &&& 0x3f).toInt64), Zs, Iv (5 : Int32), Lv t4, Zs] [(.long x5)])) tt_
    refine XS.lloadN X_33.here hEX rfl (hb hBY d_prog_59_method_15_code_13) rfl ?_
    show Steps p.tables e below (T_33.setTop (mkF m 14 #[Rv a, Lv (t4 >>> ((48 : Int32) &&& 0x3f).toInt64), Zs, Iv (5 : Int32), Lv t4, Zs] [(.long (t4 >>> ((48 : Int32) &&& 0x3f).toInt64)), (.long x5)])) tt_
    refine XS.ladd X_33.here hEX rfl (hb hBY d_prog_59_method_15_code_14) rfl ?_
    exact kt_
  refine Done.pre sg_37 ?_
  show Done _ _ _ _ _ _ _ (T_33.setTop (mkF m 15 #[Rv a, Lv (t4 >>> ((48 : Int32) &&& 0x3f).toInt64), Zs, Iv (5 : Int32), Lv t4, Zs] [(.long (x5 + (t4 >>> ((48 : Int32) &&& 0x3f).toInt64)))]))
  obtain ⟨t5, ht5⟩ : ∃ z : Int64, z = (x5 + (t4 >>> ((48 : Int32) &&& 0x3f).toInt64)) := ⟨_, rfl⟩
  rw [← ht5]
  show Done _ _ _ _ _ _ _ (T_33.setTop (mkF m 15 #[Rv a, Lv (t4 >>> ((48 : Int32) &&& 0x3f).toInt64), Zs, Iv (5 : Int32), Lv t4, Zs] [(.long t5)]))
  have sg_39 : ∀ tt_, Steps p.tables e below (T_33.setTop (mkF m 25 #[Rv a, Lv (t4 >>> ((48 : Int32) &&& 0x3f).toInt64), Zs, Iv (5 : Int32), Lv t5, Zs] [(.long (t5 &&& (281474976710655 : Int64))), (.int (5 : Int32)), (.ref a)])) tt_ → Steps p.tables e below (T_33.setTop (mkF m 15 #[Rv a, Lv (t4 >>> ((48 : Int32) &&& 0x3f).toInt64), Zs, Iv (5 : Int32), Lv t4, Zs] [(.long t5)])) tt_ := by
    intro tt_ kt_
    refine XS.lstore X_33.here hEX rfl (hb hBY d_prog_59_method_15_code_15) rfl (l' := #[Rv a, Lv (t4 >>> ((48 : Int32) &&& 0x3f).toInt64), Zs, Iv (5 : Int32), Lv t5, Zs]) rfl ?_
    show Steps p.tables e below (T_33.setTop (mkF m 17 #[Rv a, Lv (t4 >>> ((48 : Int32) &&& 0x3f).toInt64), Zs, Iv (5 : Int32), Lv t5, Zs] [])) tt_
    refine XS.aloadN X_33.here hEX rfl (hb hBY d_prog_59_method_15_code_17) rfl rfl ?_
    show Steps p.tables e below (T_33.setTop (mkF m 18 #[Rv a, Lv (t4 >>> ((48 : Int32) &&& 0x3f).toInt64), Zs, Iv (5 : Int32), Lv t5, Zs] [(.ref a)])) tt_
    refine XS.iloadN X_33.here hEX rfl (hb hBY d_prog_59_method_15_code_18) rfl ?_
    show Steps p.tables e below (T_33.setTop (mkF m 19 #[Rv a, Lv (t4 >>> ((48 : Int32) &&& 0x3f).toInt64), Zs, Iv (5 : Int32), Lv t5, Zs] [(.int (5 : Int32)), (.ref a)])) tt_
    refine XS.lload X_33.here hEX rfl (hb hBY d_prog_59_method_15_code_19) rfl ?_
    show Steps p.tables e below (T_33.setTop (mkF m 21 #[Rv a, Lv (t4 >>> ((48 : Int32) &&& 0x3f).toInt64), Zs, Iv (5 : Int32), Lv t5, Zs] [(.long t5), (.int (5 : Int32)), (.ref a)])) tt_
    refine X_33.ldc2Long hEX hOW (mvT hZW (hw _ (List.mem_of_getElem? (i := 17) rfl))) (g := (mkF m 21 #[Rv a, Lv (t4 >>> ((48 : Int32) &&& 0x3f).toInt64), Zs, Iv (5 : Int32), Lv t5, Zs] [(.long t5), (.int (5 : Int32)), (.ref a)])) rfl (hb hBY d_prog_59_method_15_code_21) _ ?_
    show Steps p.tables e below (T_33.setTop (mkF m 24 #[Rv a, Lv (t4 >>> ((48 : Int32) &&& 0x3f).toInt64), Zs, Iv (5 : Int32), Lv t5, Zs] [(.long (281474976710655 : Int64)), (.long t5), (.int (5 : Int32)), (.ref a)])) tt_
    refine XS.land X_33.here hEX rfl (hb hBY d_prog_59_method_15_code_24) rfl ?_
    exact kt_
  refine Done.pre sg_39 ?_
  obtain ⟨cl_38, Ar_38, q_38, S_38, N__38, H_38, G_38⟩ := id f_35
  have hin_38 : ¬ ((5 : Int32) < 0 ∨ cl_38.slots.size ≤ ((5 : Int32)).toNatClampNeg) := inb_of S_38 ⟨by decide, by decide⟩
  obtain ⟨T_40, h_40, X_40, e_40, W_40, st_40⟩ := stJ X_33 hEX hZW e_33 Ar_38 (j := (5 : Int32)) hin_38 (g := (mkF m 25 #[Rv a, Lv (t4 >>> ((48 : Int32) &&& 0x3f).toInt64), Zs, Iv (5 : Int32), Lv t5, Zs] [(.long (t5 &&& (281474976710655 : Int64))), (.int (5 : Int32)), (.ref a)])) rfl rfl (hb hBY d_prog_59_method_15_code_25)
  have N_40 := Fr.snoc X_40 N_33 ga
  have K__41 : Keep h0 h_40 [a] := K__34.wr W_40 (Or.inl (List.mem_of_getElem? (i := 0) rfl))
  have f_42 : Arv Z h_40 a k .long (8 : Int32) [(.long (t0 &&& (281474976710655 : Int64))), (.long (t1 &&& (281474976710655 : Int64))), (.long (t2 &&& (281474976710655 : Int64))), (.long (t3 &&& (281474976710655 : Int64))), (.long (t4 &&& (281474976710655 : Int64))), (.long (t5 &&& (281474976710655 : Int64))), (.long x6), (.long x7)] (.long (0 : Int64)) := Arv.set Ar_38 q_38 S_38 N__38 H_38 G_38 rfl W_40 5 rfl (Nat.le_of_ble_eq_true rfl)
  refine Done.pre st_40 ?_
  show Done _ _ _ _ _ _ _ (T_40.setTop (mkF m 26 #[Rv a, Lv (t4 >>> ((48 : Int32) &&& 0x3f).toInt64), Zs, Iv (5 : Int32), Lv t5, Zs] []))
  obtain ⟨cl_43, Ar_43, q_43, S_43, N__43, H_43, G_43⟩ := id f_42
  have hin_43 : ¬ ((6 : Int32) < 0 ∨ cl_43.slots.size ≤ ((6 : Int32)).toNatClampNeg) := inb_of S_43 ⟨by decide, by decide⟩
  have hat_43 : cl_43.slots[((6 : Int32)).toNatClampNeg]? = some (.long x6) := H_43.at hin_43 rfl
  have sg_44 : ∀ tt_, Steps p.tables e below (T_40.setTop (mkF m 15 #[Rv a, Lv (t5 >>> ((48 : Int32) &&& 0x3f).toInt64), Zs, Iv (6 : Int32), Lv t5, Zs] [(.long (x6 + (t5 >>> ((48 : Int32) &&& 0x3f).toInt64)))])) tt_ → Steps p.tables e below (T_40.setTop (mkF m 26 #[Rv a, Lv (t4 >>> ((48 : Int32) &&& 0x3f).toInt64), Zs, Iv (5 : Int32), Lv t5, Zs] [])) tt_ := by
    intro tt_ kt_
    refine XS.lload X_40.here hEX rfl (hb hBY d_prog_59_method_15_code_26) rfl ?_
    show Steps p.tables e below (T_40.setTop (mkF m 28 #[Rv a, Lv (t4 >>> ((48 : Int32) &&& 0x3f).toInt64), Zs, Iv (5 : Int32), Lv t5, Zs] [(.long t5)])) tt_
    refine XS.bipush X_40.here hEX rfl (hb hBY d_prog_59_method_15_code_28) ?_
    show Steps p.tables e below (T_40.setTop (mkF m 30 #[Rv a, Lv (t4 >>> ((48 : Int32) &&& 0x3f).toInt64), Zs, Iv (5 : Int32), Lv t5, Zs] [(.int (48 : Int32)), (.long t5)])) tt_
    refine XS.lshr X_40.here hEX rfl (hb hBY d_prog_59_method_15_code_30) rfl ?_
    show Steps p.tables e below (T_40.setTop (mkF m 31 #[Rv a, Lv (t4 >>> ((48 : Int32) &&& 0x3f).toInt64), Zs, Iv (5 : Int32), Lv t5, Zs] [(.long (t5 >>> ((48 : Int32) &&& 0x3f).toInt64))])) tt_
    refine XS.lstoreN X_40.here hEX rfl (hb hBY d_prog_59_method_15_code_31) rfl (l' := #[Rv a, Lv (t5 >>> ((48 : Int32) &&& 0x3f).toInt64), Zs, Iv (5 : Int32), Lv t5, Zs]) rfl ?_
    show Steps p.tables e below (T_40.setTop (mkF m 32 #[Rv a, Lv (t5 >>> ((48 : Int32) &&& 0x3f).toInt64), Zs, Iv (5 : Int32), Lv t5, Zs] [])) tt_
    refine XS.iinc X_40.here hEX rfl (hb hBY d_prog_59_method_15_code_32) rfl (l' := #[Rv a, Lv (t5 >>> ((48 : Int32) &&& 0x3f).toInt64), Zs, Iv (6 : Int32), Lv t5, Zs]) rfl ?_
    show Steps p.tables e below (T_40.setTop (mkF m 35 #[Rv a, Lv (t5 >>> ((48 : Int32) &&& 0x3f).toInt64), Zs, Iv (6 : Int32), Lv t5, Zs] [])) tt_
    refine XS.goto X_40.here hEX rfl (pc0 := 35) (pc' := 4) rfl (hb hBY d_prog_59_method_15_code_35) (by decide) (by decide) ?_
    show Steps p.tables e below (T_40.setTop (mkF m 4 #[Rv a, Lv (t5 >>> ((48 : Int32) &&& 0x3f).toInt64), Zs, Iv (6 : Int32), Lv t5, Zs] [])) tt_
    refine XS.iloadN X_40.here hEX rfl (hb hBY d_prog_59_method_15_code_4) rfl ?_
    show Steps p.tables e below (T_40.setTop (mkF m 5 #[Rv a, Lv (t5 >>> ((48 : Int32) &&& 0x3f).toInt64), Zs, Iv (6 : Int32), Lv t5, Zs] [(.int (6 : Int32))])) tt_
    refine XS.bipush X_40.here hEX rfl (hb hBY d_prog_59_method_15_code_5) ?_
    show Steps p.tables e below (T_40.setTop (mkF m 7 #[Rv a, Lv (t5 >>> ((48 : Int32) &&& 0x3f).toInt64), Zs, Iv (6 : Int32), Lv t5, Zs] [(.int (8 : Int32)), (.int (6 : Int32))])) tt_
    refine XS.icmpNo X_40.here hEX rfl (hb hBY d_prog_59_method_15_code_7) rfl (tlt (by decide : (6 : Int32) < (8 : Int32))).2.1 ?_
    show Steps p.tables e below (T_40.setTop (mkF m 10 #[Rv a, Lv (t5 >>> ((48 : Int32) &&& 0x3f).toInt64), Zs, Iv (6 : Int32), Lv t5, Zs] [])) tt_
    refine XS.aloadN X_40.here hEX rfl (hb hBY d_prog_59_method_15_code_10) rfl rfl ?_
    show Steps p.tables e below (T_40.setTop (mkF m 11 #[Rv a, Lv (t5 >>> ((48 : Int32) &&& 0x3f).toInt64), Zs, Iv (6 : Int32), Lv t5, Zs] [(.ref a)])) tt_
    refine XS.iloadN X_40.here hEX rfl (hb hBY d_prog_59_method_15_code_11) rfl ?_
    show Steps p.tables e below (T_40.setTop (mkF m 12 #[Rv a, Lv (t5 >>> ((48 : Int32) &&& 0x3f).toInt64), Zs, Iv (6 : Int32), Lv t5, Zs] [(.int (6 : Int32)), (.ref a)])) tt_
    refine X_40.laload hEX (j := (6 : Int32)) (v := (.long x6)) (by rw [e_40]; exact Ar_43.1) (State.isArrayOf_alike hZW.alike Ar_43.2.1) Ar_43.2.2 hin_43 hat_43 (g := (mkF m 12 #[Rv a, Lv (t5 >>> ((48 : Int32) &&& 0x3f).toInt64), Zs, Iv (6 : Int32), Lv t5, Zs] [(.int (6 : Int32)), (.ref a)])) rfl rfl (hb hBY d_prog_59_method_15_code_12) _ ?_
    show Steps p.tables e below (T_40.setTop (mkF m 13 #[Rv a, Lv (t5 >>> ((48 : Int32) &&& 0x3f).toInt64), Zs, Iv (6 : Int32), Lv t5, Zs] [(.long x6)])) tt_
    refine XS.lloadN X_40.here hEX rfl (hb hBY d_prog_59_method_15_code_13) rfl ?_
    show Steps p.tables e below (T_40.setTop (mkF m 14 #[Rv a, Lv (t5 >>> ((48 : Int32) &&& 0x3f).toInt64), Zs, Iv (6 : Int32), Lv t5, Zs] [(.long (t5 >>> ((48 : Int32) &&& 0x3f).toInt64)), (.long x6)])) tt_
    refine XS.ladd X_40.here hEX rfl (hb hBY d_prog_59_method_15_code_14) rfl ?_
    exact kt_
  refine Done.pre sg_44 ?_
  show Done _ _ _ _ _ _ _ (T_40.setTop (mkF m 15 #[Rv a, Lv (t5 >>> ((48 : Int32) &&& 0x3f).toInt64), Zs, Iv (6 : Int32), Lv t5, Zs] [(.long (x6 + (t5 >>> ((48 : Int32) &&& 0x3f).toInt64)))]))
  obtain ⟨t6, ht6⟩ : ∃ z : Int64, z = (x6 + (t5 >>> ((48 : Int32) &&& 0x3f).toInt64)) := ⟨_, rfl⟩
  rw [← ht6]
  show Done _ _ _ _ _ _ _ (T_40.setTop (mkF m 15 #[Rv a, Lv (t5 >>> ((48 : Int32) &&& 0x3f).toInt64), Zs, Iv (6 : Int32), Lv t5, Zs] [(.long t6)]))
  have sg_46 : ∀ tt_, Steps p.tables e below (T_40.setTop (mkF m 25 #[Rv a, Lv (t5 >>> ((48 : Int32) &&& 0x3f).toInt64), Zs, Iv (6 : Int32), Lv t6, Zs] [(.long (t6 &&& (281474976710655 : Int64))), (.int (6 : Int32)), (.ref a)])) tt_ → Steps p.tables e below (T_40.setTop (mkF m 15 #[Rv a, Lv (t5 >>> ((48 : Int32) &&& 0x3f).toInt64), Zs, Iv (6 : Int32), Lv t5, Zs] [(.long t6)])) tt_ := by
    intro tt_ kt_
    refine XS.lstore X_40.here hEX rfl (hb hBY d_prog_59_method_15_code_15) rfl (l' := #[Rv a, Lv (t5 >>> ((48 : Int32) &&& 0x3f).toInt64), Zs, Iv (6 : Int32), Lv t6, Zs]) rfl ?_
    show Steps p.tables e below (T_40.setTop (mkF m 17 #[Rv a, Lv (t5 >>> ((48 : Int32) &&& 0x3f).toInt64), Zs, Iv (6 : Int32), Lv t6, Zs] [])) tt_
    refine XS.aloadN X_40.here hEX rfl (hb hBY d_prog_59_method_15_code_17) rfl rfl ?_
    show Steps p.tables e below (T_40.setTop (mkF m 18 #[Rv a, Lv (t5 >>> ((48 : Int32) &&& 0x3f).toInt64), Zs, Iv (6 : Int32), Lv t6, Zs] [(.ref a)])) tt_
    refine XS.iloadN X_40.here hEX rfl (hb hBY d_prog_59_method_15_code_18) rfl ?_
    show Steps p.tables e below (T_40.setTop (mkF m 19 #[Rv a, Lv (t5 >>> ((48 : Int32) &&& 0x3f).toInt64), Zs, Iv (6 : Int32), Lv t6, Zs] [(.int (6 : Int32)), (.ref a)])) tt_
    refine XS.lload X_40.here hEX rfl (hb hBY d_prog_59_method_15_code_19) rfl ?_
    show Steps p.tables e below (T_40.setTop (mkF m 21 #[Rv a, Lv (t5 >>> ((48 : Int32) &&& 0x3f).toInt64), Zs, Iv (6 : Int32), Lv t6, Zs] [(.long t6), (.int (6 : Int32)), (.ref a)])) tt_
    refine X_40.ldc2Long hEX hOW (mvT hZW (hw _ (List.mem_of_getElem? (i := 17) rfl))) (g := (mkF m 21 #[Rv a, Lv (t5 >>> ((48 : Int32) &&& 0x3f).toInt64), Zs, Iv (6 : Int32), Lv t6, Zs] [(.long t6), (.int (6 : Int32)), (.ref a)])) rfl (hb hBY d_prog_59_method_15_code_21) _ ?_
    show Steps p.tables e below (T_40.setTop (mkF m 24 #[Rv a, Lv (t5 >>> ((48 : Int32) &&& 0x3f).toInt64), Zs, Iv (6 : Int32), Lv t6, Zs] [(.long (281474976710655 : Int64)), (.long t6), (.int (6 : Int32)), (.ref a)])) tt_
    refine XS.land X_40.here hEX rfl (hb hBY d_prog_59_method_15_code_24) rfl ?_
    exact kt_
  refine Done.pre sg_46 ?_
  obtain ⟨cl_45, Ar_45, q_45, S_45, N__45, H_45, G_45⟩ := id f_42
  have hin_45 : ¬ ((6 : Int32) < 0 ∨ cl_45.slots.size ≤ ((6 : Int32)).toNatClampNeg) := inb_of S_45 ⟨by decide, by decide⟩
  obtain ⟨T_47, h_47, X_47, e_47, W_47, st_47⟩ := stJ X_40 hEX hZW e_40 Ar_45 (j := (6 : Int32)) hin_45 (g := (mkF m 25 #[Rv a, Lv (t5 >>> ((48 : Int32) &&& 0x3f).toInt64), Zs, Iv (6 : Int32), Lv t6, Zs] [(.long (t6 &&& (281474976710655 : Int64))), (.int (6 : Int32)), (.ref a)])) rfl rfl (hb hBY d_prog_59_method_15_code_25)
  have N_47 := Fr.snoc X_47 N_40 ga
  have K__48 : Keep h0 h_47 [a] := K__41.wr W_47 (Or.inl (List.mem_of_getElem? (i := 0) rfl))
  have f_49 : Arv Z h_47 a k .long (8 : Int32) [(.long (t0 &&& (281474976710655 : Int64))), (.long (t1 &&& (281474976710655 : Int64))), (.long (t2 &&& (281474976710655 : Int64))), (.long (t3 &&& (281474976710655 : Int64))), (.long (t4 &&& (281474976710655 : Int64))), (.long (t5 &&& (281474976710655 : Int64))), (.long (t6 &&& (281474976710655 : Int64))), (.long x7)] (.long (0 : Int64)) := Arv.set Ar_45 q_45 S_45 N__45 H_45 G_45 rfl W_47 6 rfl (Nat.le_of_ble_eq_true rfl)
  refine Done.pre st_47 ?_
  show Done _ _ _ _ _ _ _ (T_47.setTop (mkF m 26 #[Rv a, Lv (t5 >>> ((48 : Int32) &&& 0x3f).toInt64), Zs, Iv (6 : Int32), Lv t6, Zs] []))
  obtain ⟨cl_50, Ar_50, q_50, S_50, N__50, H_50, G_50⟩ := id f_49
  have hin_50 : ¬ ((7 : Int32) < 0 ∨ cl_50.slots.size ≤ ((7 : Int32)).toNatClampNeg) := inb_of S_50 ⟨by decide, by decide⟩
  have hat_50 : cl_50.slots[((7 : Int32)).toNatClampNeg]? = some (.long x7) := H_50.at hin_50 rfl
  have sg_51 : ∀ tt_, Steps p.tables e below (T_47.setTop (mkF m 15 #[Rv a, Lv (t6 >>> ((48 : Int32) &&& 0x3f).toInt64), Zs, Iv (7 : Int32), Lv t6, Zs] [(.long (x7 + (t6 >>> ((48 : Int32) &&& 0x3f).toInt64)))])) tt_ → Steps p.tables e below (T_47.setTop (mkF m 26 #[Rv a, Lv (t5 >>> ((48 : Int32) &&& 0x3f).toInt64), Zs, Iv (6 : Int32), Lv t6, Zs] [])) tt_ := by
    intro tt_ kt_
    refine XS.lload X_47.here hEX rfl (hb hBY d_prog_59_method_15_code_26) rfl ?_
    show Steps p.tables e below (T_47.setTop (mkF m 28 #[Rv a, Lv (t5 >>> ((48 : Int32) &&& 0x3f).toInt64), Zs, Iv (6 : Int32), Lv t6, Zs] [(.long t6)])) tt_
    refine XS.bipush X_47.here hEX rfl (hb hBY d_prog_59_method_15_code_28) ?_
    show Steps p.tables e below (T_47.setTop (mkF m 30 #[Rv a, Lv (t5 >>> ((48 : Int32) &&& 0x3f).toInt64), Zs, Iv (6 : Int32), Lv t6, Zs] [(.int (48 : Int32)), (.long t6)])) tt_
    refine XS.lshr X_47.here hEX rfl (hb hBY d_prog_59_method_15_code_30) rfl ?_
    show Steps p.tables e below (T_47.setTop (mkF m 31 #[Rv a, Lv (t5 >>> ((48 : Int32) &&& 0x3f).toInt64), Zs, Iv (6 : Int32), Lv t6, Zs] [(.long (t6 >>> ((48 : Int32) &&& 0x3f).toInt64))])) tt_
    refine XS.lstoreN X_47.here hEX rfl (hb hBY d_prog_59_method_15_code_31) rfl (l' := #[Rv a, Lv (t6 >>> ((48 : Int32) &&& 0x3f).toInt64), Zs, Iv (6 : Int32), Lv t6, Zs]) rfl ?_
    show Steps p.tables e below (T_47.setTop (mkF m 32 #[Rv a, Lv (t6 >>> ((48 : Int32) &&& 0x3f).toInt64), Zs, Iv (6 : Int32), Lv t6, Zs] [])) tt_
    refine XS.iinc X_47.here hEX rfl (hb hBY d_prog_59_method_15_code_32) rfl (l' := #[Rv a, Lv (t6 >>> ((48 : Int32) &&& 0x3f).toInt64), Zs, Iv (7 : Int32), Lv t6, Zs]) rfl ?_
    show Steps p.tables e below (T_47.setTop (mkF m 35 #[Rv a, Lv (t6 >>> ((48 : Int32) &&& 0x3f).toInt64), Zs, Iv (7 : Int32), Lv t6, Zs] [])) tt_
    refine XS.goto X_47.here hEX rfl (pc0 := 35) (pc' := 4) rfl (hb hBY d_prog_59_method_15_code_35) (by decide) (by decide) ?_
    show Steps p.tables e below (T_47.setTop (mkF m 4 #[Rv a, Lv (t6 >>> ((48 : Int32) &&& 0x3f).toInt64), Zs, Iv (7 : Int32), Lv t6, Zs] [])) tt_
    refine XS.iloadN X_47.here hEX rfl (hb hBY d_prog_59_method_15_code_4) rfl ?_
    show Steps p.tables e below (T_47.setTop (mkF m 5 #[Rv a, Lv (t6 >>> ((48 : Int32) &&& 0x3f).toInt64), Zs, Iv (7 : Int32), Lv t6, Zs] [(.int (7 : Int32))])) tt_
    refine XS.bipush X_47.here hEX rfl (hb hBY d_prog_59_method_15_code_5) ?_
    show Steps p.tables e below (T_47.setTop (mkF m 7 #[Rv a, Lv (t6 >>> ((48 : Int32) &&& 0x3f).toInt64), Zs, Iv (7 : Int32), Lv t6, Zs] [(.int (8 : Int32)), (.int (7 : Int32))])) tt_
    refine XS.icmpNo X_47.here hEX rfl (hb hBY d_prog_59_method_15_code_7) rfl (tlt (by decide : (7 : Int32) < (8 : Int32))).2.1 ?_
    show Steps p.tables e below (T_47.setTop (mkF m 10 #[Rv a, Lv (t6 >>> ((48 : Int32) &&& 0x3f).toInt64), Zs, Iv (7 : Int32), Lv t6, Zs] [])) tt_
    refine XS.aloadN X_47.here hEX rfl (hb hBY d_prog_59_method_15_code_10) rfl rfl ?_
    show Steps p.tables e below (T_47.setTop (mkF m 11 #[Rv a, Lv (t6 >>> ((48 : Int32) &&& 0x3f).toInt64), Zs, Iv (7 : Int32), Lv t6, Zs] [(.ref a)])) tt_
    refine XS.iloadN X_47.here hEX rfl (hb hBY d_prog_59_method_15_code_11) rfl ?_
    show Steps p.tables e below (T_47.setTop (mkF m 12 #[Rv a, Lv (t6 >>> ((48 : Int32) &&& 0x3f).toInt64), Zs, Iv (7 : Int32), Lv t6, Zs] [(.int (7 : Int32)), (.ref a)])) tt_
    refine X_47.laload hEX (j := (7 : Int32)) (v := (.long x7)) (by rw [e_47]; exact Ar_50.1) (State.isArrayOf_alike hZW.alike Ar_50.2.1) Ar_50.2.2 hin_50 hat_50 (g := (mkF m 12 #[Rv a, Lv (t6 >>> ((48 : Int32) &&& 0x3f).toInt64), Zs, Iv (7 : Int32), Lv t6, Zs] [(.int (7 : Int32)), (.ref a)])) rfl rfl (hb hBY d_prog_59_method_15_code_12) _ ?_
    show Steps p.tables e below (T_47.setTop (mkF m 13 #[Rv a, Lv (t6 >>> ((48 : Int32) &&& 0x3f).toInt64), Zs, Iv (7 : Int32), Lv t6, Zs] [(.long x7)])) tt_
    refine XS.lloadN X_47.here hEX rfl (hb hBY d_prog_59_method_15_code_13) rfl ?_
    show Steps p.tables e below (T_47.setTop (mkF m 14 #[Rv a, Lv (t6 >>> ((48 : Int32) &&& 0x3f).toInt64), Zs, Iv (7 : Int32), Lv t6, Zs] [(.long (t6 >>> ((48 : Int32) &&& 0x3f).toInt64)), (.long x7)])) tt_
    refine XS.ladd X_47.here hEX rfl (hb hBY d_prog_59_method_15_code_14) rfl ?_
    exact kt_
  refine Done.pre sg_51 ?_
  show Done _ _ _ _ _ _ _ (T_47.setTop (mkF m 15 #[Rv a, Lv (t6 >>> ((48 : Int32) &&& 0x3f).toInt64), Zs, Iv (7 : Int32), Lv t6, Zs] [(.long (x7 + (t6 >>> ((48 : Int32) &&& 0x3f).toInt64)))]))
  obtain ⟨t7, ht7⟩ : ∃ z : Int64, z = (x7 + (t6 >>> ((48 : Int32) &&& 0x3f).toInt64)) := ⟨_, rfl⟩
  rw [← ht7]
  show Done _ _ _ _ _ _ _ (T_47.setTop (mkF m 15 #[Rv a, Lv (t6 >>> ((48 : Int32) &&& 0x3f).toInt64), Zs, Iv (7 : Int32), Lv t6, Zs] [(.long t7)]))
  have sg_53 : ∀ tt_, Steps p.tables e below (T_47.setTop (mkF m 25 #[Rv a, Lv (t6 >>> ((48 : Int32) &&& 0x3f).toInt64), Zs, Iv (7 : Int32), Lv t7, Zs] [(.long (t7 &&& (281474976710655 : Int64))), (.int (7 : Int32)), (.ref a)])) tt_ → Steps p.tables e below (T_47.setTop (mkF m 15 #[Rv a, Lv (t6 >>> ((48 : Int32) &&& 0x3f).toInt64), Zs, Iv (7 : Int32), Lv t6, Zs] [(.long t7)])) tt_ := by
    intro tt_ kt_
    refine XS.lstore X_47.here hEX rfl (hb hBY d_prog_59_method_15_code_15) rfl (l' := #[Rv a, Lv (t6 >>> ((48 : Int32) &&& 0x3f).toInt64), Zs, Iv (7 : Int32), Lv t7, Zs]) rfl ?_
    show Steps p.tables e below (T_47.setTop (mkF m 17 #[Rv a, Lv (t6 >>> ((48 : Int32) &&& 0x3f).toInt64), Zs, Iv (7 : Int32), Lv t7, Zs] [])) tt_
    refine XS.aloadN X_47.here hEX rfl (hb hBY d_prog_59_method_15_code_17) rfl rfl ?_
    show Steps p.tables e below (T_47.setTop (mkF m 18 #[Rv a, Lv (t6 >>> ((48 : Int32) &&& 0x3f).toInt64), Zs, Iv (7 : Int32), Lv t7, Zs] [(.ref a)])) tt_
    refine XS.iloadN X_47.here hEX rfl (hb hBY d_prog_59_method_15_code_18) rfl ?_
    show Steps p.tables e below (T_47.setTop (mkF m 19 #[Rv a, Lv (t6 >>> ((48 : Int32) &&& 0x3f).toInt64), Zs, Iv (7 : Int32), Lv t7, Zs] [(.int (7 : Int32)), (.ref a)])) tt_
    refine XS.lload X_47.here hEX rfl (hb hBY d_prog_59_method_15_code_19) rfl ?_
    show Steps p.tables e below (T_47.setTop (mkF m 21 #[Rv a, Lv (t6 >>> ((48 : Int32) &&& 0x3f).toInt64), Zs, Iv (7 : Int32), Lv t7, Zs] [(.long t7), (.int (7 : Int32)), (.ref a)])) tt_
    refine X_47.ldc2Long hEX hOW (mvT hZW (hw _ (List.mem_of_getElem? (i := 17) rfl))) (g := (mkF m 21 #[Rv a, Lv (t6 >>> ((48 : Int32) &&& 0x3f).toInt64), Zs, Iv (7 : Int32), Lv t7, Zs] [(.long t7), (.int (7 : Int32)), (.ref a)])) rfl (hb hBY d_prog_59_method_15_code_21) _ ?_
    show Steps p.tables e below (T_47.setTop (mkF m 24 #[Rv a, Lv (t6 >>> ((48 : Int32) &&& 0x3f).toInt64), Zs, Iv (7 : Int32), Lv t7, Zs] [(.long (281474976710655 : Int64)), (.long t7), (.int (7 : Int32)), (.ref a)])) tt_
    refine XS.land X_47.here hEX rfl (hb hBY d_prog_59_method_15_code_24) rfl ?_
    exact kt_
  refine Done.pre sg_53 ?_
  obtain ⟨cl_52, Ar_52, q_52, S_52, N__52, H_52, G_52⟩ := id f_49
  have hin_52 : ¬ ((7 : Int32) < 0 ∨ cl_52.slots.size ≤ ((7 : Int32)).toNatClampNeg) := inb_of S_52 ⟨by decide, by decide⟩
  obtain ⟨T_54, h_54, X_54, e_54, W_54, st_54⟩ := stJ X_47 hEX hZW e_47 Ar_52 (j := (7 : Int32)) hin_52 (g := (mkF m 25 #[Rv a, Lv (t6 >>> ((48 : Int32) &&& 0x3f).toInt64), Zs, Iv (7 : Int32), Lv t7, Zs] [(.long (t7 &&& (281474976710655 : Int64))), (.int (7 : Int32)), (.ref a)])) rfl rfl (hb hBY d_prog_59_method_15_code_25)
  have N_54 := Fr.snoc X_54 N_47 ga
  have K__55 : Keep h0 h_54 [a] := K__48.wr W_54 (Or.inl (List.mem_of_getElem? (i := 0) rfl))
  have f_56 : Arv Z h_54 a k .long (8 : Int32) [(.long (t0 &&& (281474976710655 : Int64))), (.long (t1 &&& (281474976710655 : Int64))), (.long (t2 &&& (281474976710655 : Int64))), (.long (t3 &&& (281474976710655 : Int64))), (.long (t4 &&& (281474976710655 : Int64))), (.long (t5 &&& (281474976710655 : Int64))), (.long (t6 &&& (281474976710655 : Int64))), (.long (t7 &&& (281474976710655 : Int64)))] (.long (0 : Int64)) := Arv.set Ar_52 q_52 S_52 N__52 H_52 G_52 rfl W_54 7 rfl (Nat.le_of_ble_eq_true rfl)
  refine Done.pre st_54 ?_
  show Done _ _ _ _ _ _ _ (T_54.setTop (mkF m 26 #[Rv a, Lv (t6 >>> ((48 : Int32) &&& 0x3f).toInt64), Zs, Iv (7 : Int32), Lv t7, Zs] []))
  have sg_57 : ∀ tt_, Steps p.tables e below (T_54.setTop (mkF m 39 #[Rv a, Lv (t7 >>> ((48 : Int32) &&& 0x3f).toInt64), Zs, Iv (8 : Int32), Lv t7, Zs] [(.long (t7 >>> ((48 : Int32) &&& 0x3f).toInt64))])) tt_ → Steps p.tables e below (T_54.setTop (mkF m 26 #[Rv a, Lv (t6 >>> ((48 : Int32) &&& 0x3f).toInt64), Zs, Iv (7 : Int32), Lv t7, Zs] [])) tt_ := by
    intro tt_ kt_
    refine XS.lload X_54.here hEX rfl (hb hBY d_prog_59_method_15_code_26) rfl ?_
    show Steps p.tables e below (T_54.setTop (mkF m 28 #[Rv a, Lv (t6 >>> ((48 : Int32) &&& 0x3f).toInt64), Zs, Iv (7 : Int32), Lv t7, Zs] [(.long t7)])) tt_
    refine XS.bipush X_54.here hEX rfl (hb hBY d_prog_59_method_15_code_28) ?_
    show Steps p.tables e below (T_54.setTop (mkF m 30 #[Rv a, Lv (t6 >>> ((48 : Int32) &&& 0x3f).toInt64), Zs, Iv (7 : Int32), Lv t7, Zs] [(.int (48 : Int32)), (.long t7)])) tt_
    refine XS.lshr X_54.here hEX rfl (hb hBY d_prog_59_method_15_code_30) rfl ?_
    show Steps p.tables e below (T_54.setTop (mkF m 31 #[Rv a, Lv (t6 >>> ((48 : Int32) &&& 0x3f).toInt64), Zs, Iv (7 : Int32), Lv t7, Zs] [(.long (t7 >>> ((48 : Int32) &&& 0x3f).toInt64))])) tt_
    refine XS.lstoreN X_54.here hEX rfl (hb hBY d_prog_59_method_15_code_31) rfl (l' := #[Rv a, Lv (t7 >>> ((48 : Int32) &&& 0x3f).toInt64), Zs, Iv (7 : Int32), Lv t7, Zs]) rfl ?_
    show Steps p.tables e below (T_54.setTop (mkF m 32 #[Rv a, Lv (t7 >>> ((48 : Int32) &&& 0x3f).toInt64), Zs, Iv (7 : Int32), Lv t7, Zs] [])) tt_
    refine XS.iinc X_54.here hEX rfl (hb hBY d_prog_59_method_15_code_32) rfl (l' := #[Rv a, Lv (t7 >>> ((48 : Int32) &&& 0x3f).toInt64), Zs, Iv (8 : Int32), Lv t7, Zs]) rfl ?_
    show Steps p.tables e below (T_54.setTop (mkF m 35 #[Rv a, Lv (t7 >>> ((48 : Int32) &&& 0x3f).toInt64), Zs, Iv (8 : Int32), Lv t7, Zs] [])) tt_
    refine XS.goto X_54.here hEX rfl (pc0 := 35) (pc' := 4) rfl (hb hBY d_prog_59_method_15_code_35) (by decide) (by decide) ?_
    show Steps p.tables e below (T_54.setTop (mkF m 4 #[Rv a, Lv (t7 >>> ((48 : Int32) &&& 0x3f).toInt64), Zs, Iv (8 : Int32), Lv t7, Zs] [])) tt_
    refine XS.iloadN X_54.here hEX rfl (hb hBY d_prog_59_method_15_code_4) rfl ?_
    show Steps p.tables e below (T_54.setTop (mkF m 5 #[Rv a, Lv (t7 >>> ((48 : Int32) &&& 0x3f).toInt64), Zs, Iv (8 : Int32), Lv t7, Zs] [(.int (8 : Int32))])) tt_
    refine XS.bipush X_54.here hEX rfl (hb hBY d_prog_59_method_15_code_5) ?_
    show Steps p.tables e below (T_54.setTop (mkF m 7 #[Rv a, Lv (t7 >>> ((48 : Int32) &&& 0x3f).toInt64), Zs, Iv (8 : Int32), Lv t7, Zs] [(.int (8 : Int32)), (.int (8 : Int32))])) tt_
    refine XS.icmpYes X_54.here hEX rfl (pc0 := 7) (pc' := 38) rfl (hb hBY d_prog_59_method_15_code_7) rfl (flt (by decide : ¬ ((8 : Int32) < (8 : Int32)))).2.1 (by decide) (by decide) ?_
    show Steps p.tables e below (T_54.setTop (mkF m 38 #[Rv a, Lv (t7 >>> ((48 : Int32) &&& 0x3f).toInt64), Zs, Iv (8 : Int32), Lv t7, Zs] [])) tt_
    refine XS.lloadN X_54.here hEX rfl (hb hBY d_prog_59_method_15_code_38) rfl ?_
    exact kt_
  refine Done.pre sg_57 ?_
  exact Done.retL X_54 hEX hLK hRT (hb hBY d_prog_59_method_15_code_39) (by rw [e_54]; exact ⟨(t0 &&& (281474976710655 : Int64)), (t1 &&& (281474976710655 : Int64)), (t2 &&& (281474976710655 : Int64)), (t3 &&& (281474976710655 : Int64)), (t4 &&& (281474976710655 : Int64)), (t5 &&& (281474976710655 : Int64)), (t6 &&& (281474976710655 : Int64)), (t7 &&& (281474976710655 : Int64)), (t7 >>> ((48 : Int32) &&& 0x3f).toInt64), rfl, N_54, K__55, f_56, (own_prop x0 x1 x2 x3 x4 x5 x6 x7 t0 t1 t2 t3 t4 t5 t6 t7 (t7 >>> ((48 : Int32) &&& 0x3f).toInt64) hR ht0 ht1 ht2 ht3 ht4 ht5 ht6 ht7 rfl).1, (own_prop x0 x1 x2 x3 x4 x5 x6 x7 t0 t1 t2 t3 t4 t5 t6 t7 (t7 >>> ((48 : Int32) &&& 0x3f).toInt64) hR ht0 ht1 ht2 ht3 ht4 ht5 ht6 ht7 rfl).2⟩) (by decide) (by decide)
theorem d_prog_59_method_14_code_0 : decode prog_59_method_14_code 0 = .ok (.lload_n 1, 1) := by decide +kernel
theorem d_prog_59_method_14_code_1 : decode prog_59_method_14_code 1 = .ok (.ldc2_w 56, 3) := by decide +kernel
theorem d_prog_59_method_14_code_4 : decode prog_59_method_14_code 4 = .ok (.land, 1) := by decide +kernel
theorem d_prog_59_method_14_code_5 : decode prog_59_method_14_code 5 = .ok (.bipush 32, 2) := by decide +kernel
theorem d_prog_59_method_14_code_7 : decode prog_59_method_14_code 7 = .ok (.lshl, 1) := by decide +kernel
theorem d_prog_59_method_14_code_8 : decode prog_59_method_14_code 8 = .ok (.lstore_n 3, 1) := by decide +kernel
theorem d_prog_59_method_14_code_9 : decode prog_59_method_14_code 9 = .ok (.lload_n 1, 1) := by decide +kernel
theorem d_prog_59_method_14_code_10 : decode prog_59_method_14_code 10 = .ok (.bipush 16, 2) := by decide +kernel
theorem d_prog_59_method_14_code_12 : decode prog_59_method_14_code 12 = .ok (.lshr, 1) := by decide +kernel
theorem d_prog_59_method_14_code_13 : decode prog_59_method_14_code 13 = .ok (.lstore 5, 2) := by decide +kernel
theorem d_prog_59_method_14_code_15 : decode prog_59_method_14_code 15 = .ok (.aload_n 0, 1) := by decide +kernel
theorem d_prog_59_method_14_code_16 : decode prog_59_method_14_code 16 = .ok (.iconst 0, 1) := by decide +kernel
theorem d_prog_59_method_14_code_17 : decode prog_59_method_14_code 17 = .ok (.dup2, 1) := by decide +kernel
theorem d_prog_59_method_14_code_18 : decode prog_59_method_14_code 18 = .ok (.laload, 1) := by decide +kernel
theorem d_prog_59_method_14_code_19 : decode prog_59_method_14_code 19 = .ok (.lload_n 1, 1) := by decide +kernel
theorem d_prog_59_method_14_code_20 : decode prog_59_method_14_code 20 = .ok (.lload_n 3, 1) := by decide +kernel
theorem d_prog_59_method_14_code_21 : decode prog_59_method_14_code 21 = .ok (.lsub, 1) := by decide +kernel
theorem d_prog_59_method_14_code_22 : decode prog_59_method_14_code 22 = .ok (.ladd, 1) := by decide +kernel
theorem d_prog_59_method_14_code_23 : decode prog_59_method_14_code 23 = .ok (.lastore, 1) := by decide +kernel
theorem d_prog_59_method_14_code_24 : decode prog_59_method_14_code 24 = .ok (.aload_n 0, 1) := by decide +kernel
theorem d_prog_59_method_14_code_25 : decode prog_59_method_14_code 25 = .ok (.iconst 1, 1) := by decide +kernel
theorem d_prog_59_method_14_code_26 : decode prog_59_method_14_code 26 = .ok (.dup2, 1) := by decide +kernel
theorem d_prog_59_method_14_code_27 : decode prog_59_method_14_code 27 = .ok (.laload, 1) := by decide +kernel
theorem d_prog_59_method_14_code_28 : decode prog_59_method_14_code 28 = .ok (.lload 5, 2) := by decide +kernel
theorem d_prog_59_method_14_code_30 : decode prog_59_method_14_code 30 = .ok (.lsub, 1) := by decide +kernel
theorem d_prog_59_method_14_code_31 : decode prog_59_method_14_code 31 = .ok (.lastore, 1) := by decide +kernel
theorem d_prog_59_method_14_code_32 : decode prog_59_method_14_code 32 = .ok (.aload_n 0, 1) := by decide +kernel
theorem d_prog_59_method_14_code_33 : decode prog_59_method_14_code 33 = .ok (.iconst 2, 1) := by decide +kernel
theorem d_prog_59_method_14_code_34 : decode prog_59_method_14_code 34 = .ok (.dup2, 1) := by decide +kernel
theorem d_prog_59_method_14_code_35 : decode prog_59_method_14_code 35 = .ok (.laload, 1) := by decide +kernel
theorem d_prog_59_method_14_code_36 : decode prog_59_method_14_code 36 = .ok (.lload_n 1, 1) := by decide +kernel
theorem d_prog_59_method_14_code_37 : decode prog_59_method_14_code 37 = .ok (.lload_n 3, 1) := by decide +kernel
theorem d_prog_59_method_14_code_38 : decode prog_59_method_14_code 38 = .ok (.ladd, 1) := by decide +kernel
theorem d_prog_59_method_14_code_39 : decode prog_59_method_14_code 39 = .ok (.ladd, 1) := by decide +kernel
theorem d_prog_59_method_14_code_40 : decode prog_59_method_14_code 40 = .ok (.lastore, 1) := by decide +kernel
theorem d_prog_59_method_14_code_41 : decode prog_59_method_14_code 41 = .ok (.aload_n 0, 1) := by decide +kernel
theorem d_prog_59_method_14_code_42 : decode prog_59_method_14_code 42 = .ok (.iconst 3, 1) := by decide +kernel
theorem d_prog_59_method_14_code_43 : decode prog_59_method_14_code 43 = .ok (.dup2, 1) := by decide +kernel
theorem d_prog_59_method_14_code_44 : decode prog_59_method_14_code 44 = .ok (.laload, 1) := by decide +kernel
theorem d_prog_59_method_14_code_45 : decode prog_59_method_14_code 45 = .ok (.lload 5, 2) := by decide +kernel
theorem d_prog_59_method_14_code_47 : decode prog_59_method_14_code 47 = .ok (.ladd, 1) := by decide +kernel
theorem d_prog_59_method_14_code_48 : decode prog_59_method_14_code 48 = .ok (.lastore, 1) := by decide +kernel
theorem d_prog_59_method_14_code_49 : decode prog_59_method_14_code 49 = .ok (.return_, 1) := by decide +kernel
def Qrm_fold (Z : State) (a : Addr) (c : Int64) (k : ClassId) (x0 : Int64) (x1 : Int64) (x2 : Int64) (x3 : Int64) (x4 : Int64) (x5 : Int64) (x6 : Int64) (x7 : Int64) (h0 : Heap) (n0 : Nat) (v_ : Option Value) (h_ : Heap) (L_ : List Loc) : Prop := ∃ (z0 : Int64), ∃ (z1 : Int64), ∃ (z2 : Int64), ∃ (z3 : Int64), ∃ (z4 : Int64), ∃ (z5 : Int64), ∃ (z6 : Int64), ∃ (z7 : Int64), v_ = none ∧ Fr n0 L_ ∧ Keep h0 h_ [a] ∧ Arv Z h_ a k .long (8 : Int32) [(.long z0), (.long z1), (.long z2), (.long z3), (.long z4), (.long z5), (.long z6), (.long z7)] (.long (0 : Int64)) ∧ own_R 562949953421440 z0 z1 z2 z3 z4 z5 z6 z7 ∧ own_W z0 z1 z2 z3 z4 z5 z6 z7 = own_W x0 x1 x2 x3 x4 x5 x6 x7 + c.toInt * 340282367000166625977638945021017194497
theorem ef_rm_fold (m : MethodId) (x0 : Addr) (x1 : Int64) : entryFrame m #[(.ref x0), (.long x1)] 7 = mkF m 0 #[.val (.ref x0), .val (.long x1), .second, .unset, .unset, .unset, .unset] [] := by first | (simp [entryFrame, mkF, argsToLocals, Value.category]; done) | rfl
set_option maxRecDepth 65536 in
set_option maxHeartbeats 40000000 in
theorem rm_fold (l : Launch) (Z : State) (aZ : Array Value) (hw : ∀ d ∈ tables_1, d.before aZ Z = true) (ws : List Jvm.Cond) (a : Addr) (c : Int64) (k : ClassId) (x0 : Int64) (x1 : Int64) (x2 : Int64) (x3 : Int64) (x4 : Int64) (x5 : Int64) (x6 : Int64) (x7 : Int64) (h0 : Heap) (n0 : Nat) (Z0 : n0 ≤ h0.size) (Aa : Arv Z h0 a k .long (8 : Int32) [(.long x0), (.long x1), (.long x2), (.long x3), (.long x4), (.long x5), (.long x6), (.long x7)] (.long (0 : Int64))) (ga : n0 ≤ a) (hC : own_C x0 x1 x2 x3 x4 x5 x6 x7) (hc : -8 ≤ c.toInt ∧ c.toInt ≤ 8) :
    MetFree l (⟨"com/example/guard3/guard3/P384Field", "fold", "([JJ)V"⟩ : MethodName) (head1 (Jvm.Cond.code (⟨"com/example/guard3/guard3/P384Field", "fold", "([JJ)V"⟩ : MethodName) prog_59_method_14_code 7 none :: ws) ({ frames := 0, cells := 0, slots := 0, locals := 0 } : Room)) (fun a_ U_ => a_ = #[(.ref a), (.long c)] ∧ Z.Warmed39 U_.vm ∧ U_.heap = h0) (fun _ _ _ _ _ => True) (fun _ U_ o_ U2_ => ∃ v_ L_, o_ = .returned v_ ∧ Qrm_fold Z a c k x0 x1 x2 x3 x4 x5 x6 x7 h0 n0 v_ U2_.heap L_ ∧ FrameEnd U_ o_ U2_ L_ ({ frames := 0, cells := 0, slots := 0, locals := 0 } : Room).cells ({ frames := 0, cells := 0, slots := 0, locals := 0 } : Room).slots) := by
  refine MetFree.of_bodySF (plainFor_of_name pn_com_example_guard3_guard3_P384Field) hisR ?_
  intro p e s m args below meth cO s₁ Bd hml0 hP hK
  obtain ⟨rfl, hZW, hh⟩ := hP
  have hEX := Bd.exec
  have hBY := Bd.bytes
  have hMX : cO.maxLocals = 7 := hml0
  have hOW : s.vm.findClass "com/example/guard3/guard3/P384Field" = some m.cls := findClass_of_methodNamed Bd.named
  have hNM := (name_of_methodNamed Bd.named Bd.method).1
  have hLK := Bd.notSynchronized
  have hRT := Bd.returns
  have X0 : Stand p l e ({ frames := 0, cells := 0, slots := 0, locals := 0 } : Room) s m #[(.ref a), (.long c)] below meth cO s₁ [] 0 0 := Stand.of_body Bd
  have e0 : s₁.heap = h0 := by rw [← hh, Bd.state]; rfl
  have N0 := Fr.nil n0
  have K0 : Keep h0 h0 [a] := Keep.refl _ _
  show Done p e below s (Qrm_fold Z a c k x0 x1 x2 x3 x4 x5 x6 x7 h0 n0) ({ frames := 0, cells := 0, slots := 0, locals := 0 } : Room).cells ({ frames := 0, cells := 0, slots := 0, locals := 0 } : Room).slots (s₁.setTop (entryFrame m #[(.ref a), (.long c)] 7))
  refine Done.pre (fun t_ k_ => castTop (ef_rm_fold m a c) k_) ?_
  show Done _ _ _ _ _ _ _ (s₁.setTop (mkF m 0 #[Rv a, Lv c, Zs, Us, Us, Us, Us] []))
  have sg_1 : ∀ tt_, Steps p.tables e below (s₁.setTop (mkF m 8 #[Rv a, Lv c, Zs, Us, Us, Us, Us] [(.long ((c &&& (65535 : Int64)) <<< ((32 : Int32) &&& 0x3f).toInt64))])) tt_ → Steps p.tables e below (s₁.setTop (mkF m 0 #[Rv a, Lv c, Zs, Us, Us, Us, Us] [])) tt_ := by
    intro tt_ kt_
    refine XS.lloadN X0.here hEX rfl (hb hBY d_prog_59_method_14_code_0) rfl ?_
    show Steps p.tables e below (s₁.setTop (mkF m 1 #[Rv a, Lv c, Zs, Us, Us, Us, Us] [(.long c)])) tt_
    refine X0.ldc2Long hEX hOW (mvT hZW (hw _ (List.mem_of_getElem? (i := 18) rfl))) (g := (mkF m 1 #[Rv a, Lv c, Zs, Us, Us, Us, Us] [(.long c)])) rfl (hb hBY d_prog_59_method_14_code_1) _ ?_
    show Steps p.tables e below (s₁.setTop (mkF m 4 #[Rv a, Lv c, Zs, Us, Us, Us, Us] [(.long (65535 : Int64)), (.long c)])) tt_
    refine XS.land X0.here hEX rfl (hb hBY d_prog_59_method_14_code_4) rfl ?_
    show Steps p.tables e below (s₁.setTop (mkF m 5 #[Rv a, Lv c, Zs, Us, Us, Us, Us] [(.long (c &&& (65535 : Int64)))])) tt_
    refine XS.bipush X0.here hEX rfl (hb hBY d_prog_59_method_14_code_5) ?_
    show Steps p.tables e below (s₁.setTop (mkF m 7 #[Rv a, Lv c, Zs, Us, Us, Us, Us] [(.int (32 : Int32)), (.long (c &&& (65535 : Int64)))])) tt_
    refine XS.lshl X0.here hEX rfl (hb hBY d_prog_59_method_14_code_7) rfl ?_
    exact kt_
  refine Done.pre sg_1 ?_
  show Done _ _ _ _ _ _ _ (s₁.setTop (mkF m 8 #[Rv a, Lv c, Zs, Us, Us, Us, Us] [(.long ((c &&& (65535 : Int64)) <<< ((32 : Int32) &&& 0x3f).toInt64))]))
  obtain ⟨lo, hlo⟩ : ∃ z : Int64, z = ((c &&& (65535 : Int64)) <<< ((32 : Int32) &&& 0x3f).toInt64) := ⟨_, rfl⟩
  rw [← hlo]
  show Done _ _ _ _ _ _ _ (s₁.setTop (mkF m 8 #[Rv a, Lv c, Zs, Us, Us, Us, Us] [(.long lo)]))
  have sg_2 : ∀ tt_, Steps p.tables e below (s₁.setTop (mkF m 13 #[Rv a, Lv c, Zs, Lv lo, Zs, Us, Us] [(.long (c >>> ((16 : Int32) &&& 0x3f).toInt64))])) tt_ → Steps p.tables e below (s₁.setTop (mkF m 8 #[Rv a, Lv c, Zs, Us, Us, Us, Us] [(.long lo)])) tt_ := by
    intro tt_ kt_
    refine XS.lstoreN X0.here hEX rfl (hb hBY d_prog_59_method_14_code_8) rfl (l' := #[Rv a, Lv c, Zs, Lv lo, Zs, Us, Us]) rfl ?_
    show Steps p.tables e below (s₁.setTop (mkF m 9 #[Rv a, Lv c, Zs, Lv lo, Zs, Us, Us] [])) tt_
    refine XS.lloadN X0.here hEX rfl (hb hBY d_prog_59_method_14_code_9) rfl ?_
    show Steps p.tables e below (s₁.setTop (mkF m 10 #[Rv a, Lv c, Zs, Lv lo, Zs, Us, Us] [(.long c)])) tt_
    refine XS.bipush X0.here hEX rfl (hb hBY d_prog_59_method_14_code_10) ?_
    show Steps p.tables e below (s₁.setTop (mkF m 12 #[Rv a, Lv c, Zs, Lv lo, Zs, Us, Us] [(.int (16 : Int32)), (.long c)])) tt_
    refine XS.lshr X0.here hEX rfl (hb hBY d_prog_59_method_14_code_12) rfl ?_
    exact kt_
  refine Done.pre sg_2 ?_
  show Done _ _ _ _ _ _ _ (s₁.setTop (mkF m 13 #[Rv a, Lv c, Zs, Lv lo, Zs, Us, Us] [(.long (c >>> ((16 : Int32) &&& 0x3f).toInt64))]))
  obtain ⟨hi, hhi⟩ : ∃ z : Int64, z = (c >>> ((16 : Int32) &&& 0x3f).toInt64) := ⟨_, rfl⟩
  rw [← hhi]
  show Done _ _ _ _ _ _ _ (s₁.setTop (mkF m 13 #[Rv a, Lv c, Zs, Lv lo, Zs, Us, Us] [(.long hi)]))
  obtain ⟨cl_3, Ar_3, q_3, S_3, N__3, H_3, G_3⟩ := id Aa
  have hin_3 : ¬ ((0 : Int32) < 0 ∨ cl_3.slots.size ≤ ((0 : Int32)).toNatClampNeg) := inb_of S_3 ⟨by decide, by decide⟩
  have hat_3 : cl_3.slots[((0 : Int32)).toNatClampNeg]? = some (.long x0) := H_3.at hin_3 rfl
  have sg_5 : ∀ tt_, Steps p.tables e below (s₁.setTop (mkF m 23 #[Rv a, Lv c, Zs, Lv lo, Zs, Lv hi, Zs] [(.long (x0 + (c - lo))), (.int (0 : Int32)), (.ref a)])) tt_ → Steps p.tables e below (s₁.setTop (mkF m 13 #[Rv a, Lv c, Zs, Lv lo, Zs, Us, Us] [(.long hi)])) tt_ := by
    intro tt_ kt_
    refine XS.lstore X0.here hEX rfl (hb hBY d_prog_59_method_14_code_13) rfl (l' := #[Rv a, Lv c, Zs, Lv lo, Zs, Lv hi, Zs]) rfl ?_
    show Steps p.tables e below (s₁.setTop (mkF m 15 #[Rv a, Lv c, Zs, Lv lo, Zs, Lv hi, Zs] [])) tt_
    refine XS.aloadN X0.here hEX rfl (hb hBY d_prog_59_method_14_code_15) rfl rfl ?_
    show Steps p.tables e below (s₁.setTop (mkF m 16 #[Rv a, Lv c, Zs, Lv lo, Zs, Lv hi, Zs] [(.ref a)])) tt_
    refine XS.iconst X0.here hEX rfl (hb hBY d_prog_59_method_14_code_16) ?_
    show Steps p.tables e below (s₁.setTop (mkF m 17 #[Rv a, Lv c, Zs, Lv lo, Zs, Lv hi, Zs] [(.int (0 : Int32)), (.ref a)])) tt_
    refine XT.dup2 X0.here hEX rfl (hb hBY d_prog_59_method_14_code_17) rfl rfl rfl ?_
    show Steps p.tables e below (s₁.setTop (mkF m 18 #[Rv a, Lv c, Zs, Lv lo, Zs, Lv hi, Zs] [(.int (0 : Int32)), (.ref a), (.int (0 : Int32)), (.ref a)])) tt_
    refine X0.laload hEX (j := (0 : Int32)) (v := (.long x0)) (by rw [e0]; exact Ar_3.1) (State.isArrayOf_alike hZW.alike Ar_3.2.1) Ar_3.2.2 hin_3 hat_3 (g := (mkF m 18 #[Rv a, Lv c, Zs, Lv lo, Zs, Lv hi, Zs] [(.int (0 : Int32)), (.ref a), (.int (0 : Int32)), (.ref a)])) rfl rfl (hb hBY d_prog_59_method_14_code_18) _ ?_
    show Steps p.tables e below (s₁.setTop (mkF m 19 #[Rv a, Lv c, Zs, Lv lo, Zs, Lv hi, Zs] [(.long x0), (.int (0 : Int32)), (.ref a)])) tt_
    refine XS.lloadN X0.here hEX rfl (hb hBY d_prog_59_method_14_code_19) rfl ?_
    show Steps p.tables e below (s₁.setTop (mkF m 20 #[Rv a, Lv c, Zs, Lv lo, Zs, Lv hi, Zs] [(.long c), (.long x0), (.int (0 : Int32)), (.ref a)])) tt_
    refine XS.lloadN X0.here hEX rfl (hb hBY d_prog_59_method_14_code_20) rfl ?_
    show Steps p.tables e below (s₁.setTop (mkF m 21 #[Rv a, Lv c, Zs, Lv lo, Zs, Lv hi, Zs] [(.long lo), (.long c), (.long x0), (.int (0 : Int32)), (.ref a)])) tt_
    refine XS.lsub X0.here hEX rfl (hb hBY d_prog_59_method_14_code_21) rfl ?_
    show Steps p.tables e below (s₁.setTop (mkF m 22 #[Rv a, Lv c, Zs, Lv lo, Zs, Lv hi, Zs] [(.long (c - lo)), (.long x0), (.int (0 : Int32)), (.ref a)])) tt_
    refine XS.ladd X0.here hEX rfl (hb hBY d_prog_59_method_14_code_22) rfl ?_
    exact kt_
  refine Done.pre sg_5 ?_
  obtain ⟨cl_4, Ar_4, q_4, S_4, N__4, H_4, G_4⟩ := id Aa
  have hin_4 : ¬ ((0 : Int32) < 0 ∨ cl_4.slots.size ≤ ((0 : Int32)).toNatClampNeg) := inb_of S_4 ⟨by decide, by decide⟩
  obtain ⟨T_6, h_6, X_6, e_6, W_6, st_6⟩ := stJ X0 hEX hZW e0 Ar_4 (j := (0 : Int32)) hin_4 (g := (mkF m 23 #[Rv a, Lv c, Zs, Lv lo, Zs, Lv hi, Zs] [(.long (x0 + (c - lo))), (.int (0 : Int32)), (.ref a)])) rfl rfl (hb hBY d_prog_59_method_14_code_23)
  have N_6 := Fr.snoc X_6 N0 ga
  have K__7 : Keep h0 h_6 [a] := K0.wr W_6 (Or.inl (List.mem_of_getElem? (i := 0) rfl))
  have f_8 : Arv Z h_6 a k .long (8 : Int32) [(.long (x0 + (c - lo))), (.long x1), (.long x2), (.long x3), (.long x4), (.long x5), (.long x6), (.long x7)] (.long (0 : Int64)) := Arv.set Ar_4 q_4 S_4 N__4 H_4 G_4 rfl W_6 0 rfl (Nat.le_of_ble_eq_true rfl)
  refine Done.pre st_6 ?_
  show Done _ _ _ _ _ _ _ (T_6.setTop (mkF m 24 #[Rv a, Lv c, Zs, Lv lo, Zs, Lv hi, Zs] []))
  obtain ⟨cl_9, Ar_9, q_9, S_9, N__9, H_9, G_9⟩ := id f_8
  have hin_9 : ¬ ((1 : Int32) < 0 ∨ cl_9.slots.size ≤ ((1 : Int32)).toNatClampNeg) := inb_of S_9 ⟨by decide, by decide⟩
  have hat_9 : cl_9.slots[((1 : Int32)).toNatClampNeg]? = some (.long x1) := H_9.at hin_9 rfl
  have sg_11 : ∀ tt_, Steps p.tables e below (T_6.setTop (mkF m 31 #[Rv a, Lv c, Zs, Lv lo, Zs, Lv hi, Zs] [(.long (x1 - hi)), (.int (1 : Int32)), (.ref a)])) tt_ → Steps p.tables e below (T_6.setTop (mkF m 24 #[Rv a, Lv c, Zs, Lv lo, Zs, Lv hi, Zs] [])) tt_ := by
    intro tt_ kt_
    refine XS.aloadN X_6.here hEX rfl (hb hBY d_prog_59_method_14_code_24) rfl rfl ?_
    show Steps p.tables e below (T_6.setTop (mkF m 25 #[Rv a, Lv c, Zs, Lv lo, Zs, Lv hi, Zs] [(.ref a)])) tt_
    refine XS.iconst X_6.here hEX rfl (hb hBY d_prog_59_method_14_code_25) ?_
    show Steps p.tables e below (T_6.setTop (mkF m 26 #[Rv a, Lv c, Zs, Lv lo, Zs, Lv hi, Zs] [(.int (1 : Int32)), (.ref a)])) tt_
    refine XT.dup2 X_6.here hEX rfl (hb hBY d_prog_59_method_14_code_26) rfl rfl rfl ?_
    show Steps p.tables e below (T_6.setTop (mkF m 27 #[Rv a, Lv c, Zs, Lv lo, Zs, Lv hi, Zs] [(.int (1 : Int32)), (.ref a), (.int (1 : Int32)), (.ref a)])) tt_
    refine X_6.laload hEX (j := (1 : Int32)) (v := (.long x1)) (by rw [e_6]; exact Ar_9.1) (State.isArrayOf_alike hZW.alike Ar_9.2.1) Ar_9.2.2 hin_9 hat_9 (g := (mkF m 27 #[Rv a, Lv c, Zs, Lv lo, Zs, Lv hi, Zs] [(.int (1 : Int32)), (.ref a), (.int (1 : Int32)), (.ref a)])) rfl rfl (hb hBY d_prog_59_method_14_code_27) _ ?_
    show Steps p.tables e below (T_6.setTop (mkF m 28 #[Rv a, Lv c, Zs, Lv lo, Zs, Lv hi, Zs] [(.long x1), (.int (1 : Int32)), (.ref a)])) tt_
    refine XS.lload X_6.here hEX rfl (hb hBY d_prog_59_method_14_code_28) rfl ?_
    show Steps p.tables e below (T_6.setTop (mkF m 30 #[Rv a, Lv c, Zs, Lv lo, Zs, Lv hi, Zs] [(.long hi), (.long x1), (.int (1 : Int32)), (.ref a)])) tt_
    refine XS.lsub X_6.here hEX rfl (hb hBY d_prog_59_method_14_code_30) rfl ?_
    exact kt_
  refine Done.pre sg_11 ?_
  obtain ⟨cl_10, Ar_10, q_10, S_10, N__10, H_10, G_10⟩ := id f_8
  have hin_10 : ¬ ((1 : Int32) < 0 ∨ cl_10.slots.size ≤ ((1 : Int32)).toNatClampNeg) := inb_of S_10 ⟨by decide, by decide⟩
  obtain ⟨T_12, h_12, X_12, e_12, W_12, st_12⟩ := stJ X_6 hEX hZW e_6 Ar_10 (j := (1 : Int32)) hin_10 (g := (mkF m 31 #[Rv a, Lv c, Zs, Lv lo, Zs, Lv hi, Zs] [(.long (x1 - hi)), (.int (1 : Int32)), (.ref a)])) rfl rfl (hb hBY d_prog_59_method_14_code_31)
  have N_12 := Fr.snoc X_12 N_6 ga
  have K__13 : Keep h0 h_12 [a] := K__7.wr W_12 (Or.inl (List.mem_of_getElem? (i := 0) rfl))
  have f_14 : Arv Z h_12 a k .long (8 : Int32) [(.long (x0 + (c - lo))), (.long (x1 - hi)), (.long x2), (.long x3), (.long x4), (.long x5), (.long x6), (.long x7)] (.long (0 : Int64)) := Arv.set Ar_10 q_10 S_10 N__10 H_10 G_10 rfl W_12 1 rfl (Nat.le_of_ble_eq_true rfl)
  refine Done.pre st_12 ?_
  show Done _ _ _ _ _ _ _ (T_12.setTop (mkF m 32 #[Rv a, Lv c, Zs, Lv lo, Zs, Lv hi, Zs] []))
  obtain ⟨cl_15, Ar_15, q_15, S_15, N__15, H_15, G_15⟩ := id f_14
  have hin_15 : ¬ ((2 : Int32) < 0 ∨ cl_15.slots.size ≤ ((2 : Int32)).toNatClampNeg) := inb_of S_15 ⟨by decide, by decide⟩
  have hat_15 : cl_15.slots[((2 : Int32)).toNatClampNeg]? = some (.long x2) := H_15.at hin_15 rfl
  have sg_17 : ∀ tt_, Steps p.tables e below (T_12.setTop (mkF m 40 #[Rv a, Lv c, Zs, Lv lo, Zs, Lv hi, Zs] [(.long (x2 + (c + lo))), (.int (2 : Int32)), (.ref a)])) tt_ → Steps p.tables e below (T_12.setTop (mkF m 32 #[Rv a, Lv c, Zs, Lv lo, Zs, Lv hi, Zs] [])) tt_ := by
    intro tt_ kt_
    refine XS.aloadN X_12.here hEX rfl (hb hBY d_prog_59_method_14_code_32) rfl rfl ?_
    show Steps p.tables e below (T_12.setTop (mkF m 33 #[Rv a, Lv c, Zs, Lv lo, Zs, Lv hi, Zs] [(.ref a)])) tt_
    refine XS.iconst X_12.here hEX rfl (hb hBY d_prog_59_method_14_code_33) ?_
    show Steps p.tables e below (T_12.setTop (mkF m 34 #[Rv a, Lv c, Zs, Lv lo, Zs, Lv hi, Zs] [(.int (2 : Int32)), (.ref a)])) tt_
    refine XT.dup2 X_12.here hEX rfl (hb hBY d_prog_59_method_14_code_34) rfl rfl rfl ?_
    show Steps p.tables e below (T_12.setTop (mkF m 35 #[Rv a, Lv c, Zs, Lv lo, Zs, Lv hi, Zs] [(.int (2 : Int32)), (.ref a), (.int (2 : Int32)), (.ref a)])) tt_
    refine X_12.laload hEX (j := (2 : Int32)) (v := (.long x2)) (by rw [e_12]; exact Ar_15.1) (State.isArrayOf_alike hZW.alike Ar_15.2.1) Ar_15.2.2 hin_15 hat_15 (g := (mkF m 35 #[Rv a, Lv c, Zs, Lv lo, Zs, Lv hi, Zs] [(.int (2 : Int32)), (.ref a), (.int (2 : Int32)), (.ref a)])) rfl rfl (hb hBY d_prog_59_method_14_code_35) _ ?_
    show Steps p.tables e below (T_12.setTop (mkF m 36 #[Rv a, Lv c, Zs, Lv lo, Zs, Lv hi, Zs] [(.long x2), (.int (2 : Int32)), (.ref a)])) tt_
    refine XS.lloadN X_12.here hEX rfl (hb hBY d_prog_59_method_14_code_36) rfl ?_
    show Steps p.tables e below (T_12.setTop (mkF m 37 #[Rv a, Lv c, Zs, Lv lo, Zs, Lv hi, Zs] [(.long c), (.long x2), (.int (2 : Int32)), (.ref a)])) tt_
    refine XS.lloadN X_12.here hEX rfl (hb hBY d_prog_59_method_14_code_37) rfl ?_
    show Steps p.tables e below (T_12.setTop (mkF m 38 #[Rv a, Lv c, Zs, Lv lo, Zs, Lv hi, Zs] [(.long lo), (.long c), (.long x2), (.int (2 : Int32)), (.ref a)])) tt_
    refine XS.ladd X_12.here hEX rfl (hb hBY d_prog_59_method_14_code_38) rfl ?_
    show Steps p.tables e below (T_12.setTop (mkF m 39 #[Rv a, Lv c, Zs, Lv lo, Zs, Lv hi, Zs] [(.long (c + lo)), (.long x2), (.int (2 : Int32)), (.ref a)])) tt_
    refine XS.ladd X_12.here hEX rfl (hb hBY d_prog_59_method_14_code_39) rfl ?_
    exact kt_
  refine Done.pre sg_17 ?_
  obtain ⟨cl_16, Ar_16, q_16, S_16, N__16, H_16, G_16⟩ := id f_14
  have hin_16 : ¬ ((2 : Int32) < 0 ∨ cl_16.slots.size ≤ ((2 : Int32)).toNatClampNeg) := inb_of S_16 ⟨by decide, by decide⟩
  obtain ⟨T_18, h_18, X_18, e_18, W_18, st_18⟩ := stJ X_12 hEX hZW e_12 Ar_16 (j := (2 : Int32)) hin_16 (g := (mkF m 40 #[Rv a, Lv c, Zs, Lv lo, Zs, Lv hi, Zs] [(.long (x2 + (c + lo))), (.int (2 : Int32)), (.ref a)])) rfl rfl (hb hBY d_prog_59_method_14_code_40)
  have N_18 := Fr.snoc X_18 N_12 ga
  have K__19 : Keep h0 h_18 [a] := K__13.wr W_18 (Or.inl (List.mem_of_getElem? (i := 0) rfl))
  have f_20 : Arv Z h_18 a k .long (8 : Int32) [(.long (x0 + (c - lo))), (.long (x1 - hi)), (.long (x2 + (c + lo))), (.long x3), (.long x4), (.long x5), (.long x6), (.long x7)] (.long (0 : Int64)) := Arv.set Ar_16 q_16 S_16 N__16 H_16 G_16 rfl W_18 2 rfl (Nat.le_of_ble_eq_true rfl)
  refine Done.pre st_18 ?_
  show Done _ _ _ _ _ _ _ (T_18.setTop (mkF m 41 #[Rv a, Lv c, Zs, Lv lo, Zs, Lv hi, Zs] []))
  obtain ⟨cl_21, Ar_21, q_21, S_21, N__21, H_21, G_21⟩ := id f_20
  have hin_21 : ¬ ((3 : Int32) < 0 ∨ cl_21.slots.size ≤ ((3 : Int32)).toNatClampNeg) := inb_of S_21 ⟨by decide, by decide⟩
  have hat_21 : cl_21.slots[((3 : Int32)).toNatClampNeg]? = some (.long x3) := H_21.at hin_21 rfl
  have sg_23 : ∀ tt_, Steps p.tables e below (T_18.setTop (mkF m 48 #[Rv a, Lv c, Zs, Lv lo, Zs, Lv hi, Zs] [(.long (x3 + hi)), (.int (3 : Int32)), (.ref a)])) tt_ → Steps p.tables e below (T_18.setTop (mkF m 41 #[Rv a, Lv c, Zs, Lv lo, Zs, Lv hi, Zs] [])) tt_ := by
    intro tt_ kt_
    refine XS.aloadN X_18.here hEX rfl (hb hBY d_prog_59_method_14_code_41) rfl rfl ?_
    show Steps p.tables e below (T_18.setTop (mkF m 42 #[Rv a, Lv c, Zs, Lv lo, Zs, Lv hi, Zs] [(.ref a)])) tt_
    refine XS.iconst X_18.here hEX rfl (hb hBY d_prog_59_method_14_code_42) ?_
    show Steps p.tables e below (T_18.setTop (mkF m 43 #[Rv a, Lv c, Zs, Lv lo, Zs, Lv hi, Zs] [(.int (3 : Int32)), (.ref a)])) tt_
    refine XT.dup2 X_18.here hEX rfl (hb hBY d_prog_59_method_14_code_43) rfl rfl rfl ?_
    show Steps p.tables e below (T_18.setTop (mkF m 44 #[Rv a, Lv c, Zs, Lv lo, Zs, Lv hi, Zs] [(.int (3 : Int32)), (.ref a), (.int (3 : Int32)), (.ref a)])) tt_
    refine X_18.laload hEX (j := (3 : Int32)) (v := (.long x3)) (by rw [e_18]; exact Ar_21.1) (State.isArrayOf_alike hZW.alike Ar_21.2.1) Ar_21.2.2 hin_21 hat_21 (g := (mkF m 44 #[Rv a, Lv c, Zs, Lv lo, Zs, Lv hi, Zs] [(.int (3 : Int32)), (.ref a), (.int (3 : Int32)), (.ref a)])) rfl rfl (hb hBY d_prog_59_method_14_code_44) _ ?_
    show Steps p.tables e below (T_18.setTop (mkF m 45 #[Rv a, Lv c, Zs, Lv lo, Zs, Lv hi, Zs] [(.long x3), (.int (3 : Int32)), (.ref a)])) tt_
    refine XS.lload X_18.here hEX rfl (hb hBY d_prog_59_method_14_code_45) rfl ?_
    show Steps p.tables e below (T_18.setTop (mkF m 47 #[Rv a, Lv c, Zs, Lv lo, Zs, Lv hi, Zs] [(.long hi), (.long x3), (.int (3 : Int32)), (.ref a)])) tt_
    refine XS.ladd X_18.here hEX rfl (hb hBY d_prog_59_method_14_code_47) rfl ?_
    exact kt_
  refine Done.pre sg_23 ?_
  obtain ⟨cl_22, Ar_22, q_22, S_22, N__22, H_22, G_22⟩ := id f_20
  have hin_22 : ¬ ((3 : Int32) < 0 ∨ cl_22.slots.size ≤ ((3 : Int32)).toNatClampNeg) := inb_of S_22 ⟨by decide, by decide⟩
  obtain ⟨T_24, h_24, X_24, e_24, W_24, st_24⟩ := stJ X_18 hEX hZW e_18 Ar_22 (j := (3 : Int32)) hin_22 (g := (mkF m 48 #[Rv a, Lv c, Zs, Lv lo, Zs, Lv hi, Zs] [(.long (x3 + hi)), (.int (3 : Int32)), (.ref a)])) rfl rfl (hb hBY d_prog_59_method_14_code_48)
  have N_24 := Fr.snoc X_24 N_18 ga
  have K__25 : Keep h0 h_24 [a] := K__19.wr W_24 (Or.inl (List.mem_of_getElem? (i := 0) rfl))
  have f_26 : Arv Z h_24 a k .long (8 : Int32) [(.long (x0 + (c - lo))), (.long (x1 - hi)), (.long (x2 + (c + lo))), (.long (x3 + hi)), (.long x4), (.long x5), (.long x6), (.long x7)] (.long (0 : Int64)) := Arv.set Ar_22 q_22 S_22 N__22 H_22 G_22 rfl W_24 3 rfl (Nat.le_of_ble_eq_true rfl)
  refine Done.pre st_24 ?_
  show Done _ _ _ _ _ _ _ (T_24.setTop (mkF m 49 #[Rv a, Lv c, Zs, Lv lo, Zs, Lv hi, Zs] []))
  exact Done.retV X_24 hEX hLK hRT (hb hBY d_prog_59_method_14_code_49) (by rw [e_24]; exact ⟨(x0 + (c - lo)), (x1 - hi), (x2 + (c + lo)), (x3 + hi), x4, x5, x6, x7, rfl, N_24, K__25, f_26, (own_fold x0 x1 x2 x3 x4 x5 x6 x7 c lo hi hC hc hlo hhi).1, (own_fold x0 x1 x2 x3 x4 x5 x6 x7 c lo hi hC hc hlo hhi).2⟩) (by decide) (by decide)
theorem d_prog_59_method_16_code_0 : decode prog_59_method_16_code 0 = .ok (.aload_n 0, 1) := by decide +kernel
theorem d_prog_59_method_16_code_1 : decode prog_59_method_16_code 1 = .ok (.invokevirtual 58, 3) := by decide +kernel
theorem d_prog_59_method_16_code_4 : decode prog_59_method_16_code 4 = .ok (.checkcast 59, 3) := by decide +kernel
theorem d_prog_59_method_16_code_7 : decode prog_59_method_16_code 7 = .ok (.astore_n 1, 1) := by decide +kernel
theorem d_prog_59_method_16_code_8 : decode prog_59_method_16_code 8 = .ok (.aload_n 1, 1) := by decide +kernel
theorem d_prog_59_method_16_code_9 : decode prog_59_method_16_code 9 = .ok (.invokestatic 64, 3) := by decide +kernel
theorem pd___J_J_4 : parseMethodDescriptor "([J)J" = some ⟨[(.array .long)], some .long⟩ := by decide +kernel
theorem d_prog_59_method_16_code_12 : decode prog_59_method_16_code 12 = .ok (.lstore_n 2, 1) := by decide +kernel
theorem d_prog_59_method_16_code_32 : decode prog_59_method_16_code 32 = .ok (.aload_n 1, 1) := by decide +kernel
theorem d_prog_59_method_16_code_33 : decode prog_59_method_16_code 33 = .ok (.invokevirtual 58, 3) := by decide +kernel
theorem d_prog_59_method_16_code_36 : decode prog_59_method_16_code 36 = .ok (.checkcast 59, 3) := by decide +kernel
theorem d_prog_59_method_16_code_39 : decode prog_59_method_16_code 39 = .ok (.astore 4, 2) := by decide +kernel
theorem d_prog_59_method_16_code_41 : decode prog_59_method_16_code 41 = .ok (.aload 4, 2) := by decide +kernel
theorem d_prog_59_method_16_code_43 : decode prog_59_method_16_code 43 = .ok (.lconst 1, 1) := by decide +kernel
theorem d_prog_59_method_16_code_44 : decode prog_59_method_16_code 44 = .ok (.invokestatic 68, 3) := by decide +kernel
theorem pd___JJ_V_7 : parseMethodDescriptor "([JJ)V" = some ⟨[(.array .long), .long], none⟩ := by decide +kernel
theorem d_prog_59_method_16_code_47 : decode prog_59_method_16_code 47 = .ok (.aload 4, 2) := by decide +kernel
theorem d_prog_59_method_16_code_49 : decode prog_59_method_16_code 49 = .ok (.invokestatic 64, 3) := by decide +kernel
theorem d_prog_59_method_16_code_52 : decode prog_59_method_16_code 52 = .ok (.lconst 0, 1) := by decide +kernel
theorem d_prog_59_method_16_code_53 : decode prog_59_method_16_code 53 = .ok (.lcmp, 1) := by decide +kernel
theorem d_prog_59_method_16_code_54 : decode prog_59_method_16_code 54 = .ok (.ifCond .eq 8, 3) := by decide +kernel
theorem d_prog_59_method_16_code_62 : decode prog_59_method_16_code 62 = .ok (.aload_n 1, 1) := by decide +kernel
theorem d_prog_59_method_16_code_63 : decode prog_59_method_16_code 63 = .ok (.areturn, 1) := by decide +kernel
theorem d_prog_59_method_16_code_57 : decode prog_59_method_16_code 57 = .ok (.aload 4, 2) := by decide +kernel
theorem d_prog_59_method_16_code_59 : decode prog_59_method_16_code 59 = .ok (.goto 4, 3) := by decide +kernel
theorem d_prog_59_method_16_code_13 : decode prog_59_method_16_code 13 = .ok (.lload_n 2, 1) := by decide +kernel
theorem d_prog_59_method_16_code_14 : decode prog_59_method_16_code 14 = .ok (.lconst 0, 1) := by decide +kernel
theorem d_prog_59_method_16_code_15 : decode prog_59_method_16_code 15 = .ok (.lcmp, 1) := by decide +kernel
theorem d_prog_59_method_16_code_16 : decode prog_59_method_16_code 16 = .ok (.ifCond .eq 16, 3) := by decide +kernel
theorem d_prog_59_method_16_code_19 : decode prog_59_method_16_code 19 = .ok (.aload_n 1, 1) := by decide +kernel
theorem d_prog_59_method_16_code_20 : decode prog_59_method_16_code 20 = .ok (.lload_n 2, 1) := by decide +kernel
theorem d_prog_59_method_16_code_21 : decode prog_59_method_16_code 21 = .ok (.invokestatic 68, 3) := by decide +kernel
theorem d_prog_59_method_16_code_24 : decode prog_59_method_16_code 24 = .ok (.aload_n 1, 1) := by decide +kernel
theorem d_prog_59_method_16_code_25 : decode prog_59_method_16_code 25 = .ok (.invokestatic 64, 3) := by decide +kernel
theorem d_prog_59_method_16_code_28 : decode prog_59_method_16_code 28 = .ok (.lstore_n 2, 1) := by decide +kernel
theorem d_prog_59_method_16_code_29 : decode prog_59_method_16_code 29 = .ok (.goto (-16), 3) := by decide +kernel
def Qrm_canon (Z : State) (a : Addr) (k : ClassId) (x0 : Int64) (x1 : Int64) (x2 : Int64) (x3 : Int64) (x4 : Int64) (x5 : Int64) (x6 : Int64) (x7 : Int64) (h0 : Heap) (n0 : Nat) (v_ : Option Value) (h_ : Heap) (L_ : List Loc) : Prop := ∃ (r : Addr), ∃ (kr : ClassId), v_ = some (.ref r) ∧ Fr n0 L_ ∧ Keep h0 h_ [] ∧ Arv Z h_ r kr .long (8 : Int32) [(.long (0 : Int64)), (.long (0 : Int64)), (.long (0 : Int64)), (.long (0 : Int64)), (.long (0 : Int64)), (.long (0 : Int64)), (.long (0 : Int64)), (.long (0 : Int64))] (.long (0 : Int64)) ∧ h0.size ≤ r
theorem ef_rm_canon (m : MethodId) (x0 : Addr) : entryFrame m #[(.ref x0)] 5 = mkF m 0 #[.val (.ref x0), .unset, .unset, .unset, .unset] [] := by first | (simp [entryFrame, mkF, argsToLocals, Value.category]; done) | rfl
set_option maxRecDepth 65536 in
set_option maxHeartbeats 40000000 in
theorem rm_canon (l : Launch) (Z : State) (aZ : Array Value) (hw : ∀ d ∈ tables_1, d.before aZ Z = true) (ws : List Jvm.Cond) (a : Addr) (k : ClassId) (x0 : Int64) (x1 : Int64) (x2 : Int64) (x3 : Int64) (x4 : Int64) (x5 : Int64) (x6 : Int64) (x7 : Int64) (h0 : Heap) (n0 : Nat) (Z0 : n0 ≤ h0.size) (Aa : Arv Z h0 a k .long (8 : Int32) [(.long x0), (.long x1), (.long x2), (.long x3), (.long x4), (.long x5), (.long x6), (.long x7)] (.long (0 : Int64))) (Ea : Exa Z h0 a "[J") (hR : own_R 562949953421440 x0 x1 x2 x3 x4 x5 x6 x7) (hM : own_M (own_W x0 x1 x2 x3 x4 x5 x6 x7)) :
    MetFree l (⟨"com/example/guard3/guard3/P384Field", "canonical", "([J)[J"⟩ : MethodName) (head1 (Jvm.Cond.code (⟨"com/example/guard3/guard3/P384Field", "canonical", "([J)[J"⟩ : MethodName) prog_59_method_16_code 5 (some (.array .long)) :: ws) ({ frames := 1, cells := 2, slots := 16, locals := 18 } : Room)) (fun a_ U_ => a_ = #[(.ref a)] ∧ Z.Warmed39 U_.vm ∧ U_.heap = h0) (fun _ _ _ _ _ => True) (fun _ U_ o_ U2_ => ∃ v_ L_, o_ = .returned v_ ∧ Qrm_canon Z a k x0 x1 x2 x3 x4 x5 x6 x7 h0 n0 v_ U2_.heap L_ ∧ FrameEnd U_ o_ U2_ L_ ({ frames := 1, cells := 2, slots := 16, locals := 18 } : Room).cells ({ frames := 1, cells := 2, slots := 16, locals := 18 } : Room).slots) := by
  refine MetFree.of_bodySF (plainFor_of_name pn_com_example_guard3_guard3_P384Field) hisR ?_
  intro p e s m args below meth cO s₁ Bd hml0 hP hK
  obtain ⟨rfl, hZW, hh⟩ := hP
  have hEX := Bd.exec
  have hBY := Bd.bytes
  have hMX : cO.maxLocals = 5 := hml0
  have hOW : s.vm.findClass "com/example/guard3/guard3/P384Field" = some m.cls := findClass_of_methodNamed Bd.named
  have hNM := (name_of_methodNamed Bd.named Bd.method).1
  have hLK := Bd.notSynchronized
  have hRT := Bd.returns
  have X0 : Stand p l e ({ frames := 1, cells := 2, slots := 16, locals := 18 } : Room) s m #[(.ref a)] below meth cO s₁ [] 0 0 := Stand.of_body Bd
  have e0 : s₁.heap = h0 := by rw [← hh, Bd.state]; rfl
  have N0 := Fr.nil n0
  have K0 : Keep h0 h0 [] := Keep.refl _ _
  show Done p e below s (Qrm_canon Z a k x0 x1 x2 x3 x4 x5 x6 x7 h0 n0) ({ frames := 1, cells := 2, slots := 16, locals := 18 } : Room).cells ({ frames := 1, cells := 2, slots := 16, locals := 18 } : Room).slots (s₁.setTop (entryFrame m #[(.ref a)] 5))
  refine Done.pre (fun t_ k_ => castTop (ef_rm_canon m a) k_) ?_
  show Done _ _ _ _ _ _ _ (s₁.setTop (mkF m 0 #[Rv a, Us, Us, Us, Us] []))
  have sg_1 : ∀ tt_, Steps p.tables e below (s₁.setTop (mkF m 1 #[Rv a, Us, Us, Us, Us] [(.ref a)])) tt_ → Steps p.tables e below (s₁.setTop (mkF m 0 #[Rv a, Us, Us, Us, Us] [])) tt_ := by
    intro tt_ kt_
    refine XS.aloadN X0.here hEX rfl (hb hBY d_prog_59_method_16_code_0) rfl rfl ?_
    exact kt_
  refine Done.pre sg_1 ?_
  obtain ⟨T_2, h_2, X_2, e_2, E_2, A_2, B_2, st_2⟩ := cloneH X0 hEX hZW hOW (hw _ (List.mem_of_getElem? (i := 32) rfl)) (hw _ (List.mem_of_getElem? (i := 33) rfl)) (hw _ (List.mem_of_getElem? (i := 37) rfl)) (hw _ (List.mem_of_getElem? (i := 35) rfl)) (hw _ (List.mem_of_getElem? (i := 36) rfl)) (hw _ (List.mem_of_getElem? (i := 38) rfl)) e0 (Arv.arh Aa) Ea (g := (mkF m 1 #[Rv a, Us, Us, Us, Us] [(.ref a)])) rfl (by rw [hMX]; rfl) rfl (hb hBY d_prog_59_method_16_code_1) (by decide) (W := 0) (cap := 8) (by show 2 * 0 + _ ≤ _; exact Nat.le_of_eq rfl) (by decide) (by decide) (by decide) (by decide)
  obtain ⟨b_2, g_2⟩ : ∃ z, z = h0.size := ⟨_, rfl⟩
  rw [← g_2] at A_2 B_2 st_2
  have sz_b_2 : h0.size ≤ b_2 := Nat.le_trans K0.1 (Nat.le_of_eq g_2.symm)
  have ge_b_2 : n0 ≤ b_2 := Nat.le_trans Z0 sz_b_2
  have ne_a_b_2 : a ≠ b_2 := Nat.ne_of_lt (Nat.lt_of_lt_of_le Aa.lt (Nat.le_of_eq g_2.symm))
  have K__3 : Keep h0 h_2 [] := K0.ext E_2
  have f_4 : Arv Z h_2 a k .long (8 : Int32) [(.long x0), (.long x1), (.long x2), (.long x3), (.long x4), (.long x5), (.long x6), (.long x7)] (.long (0 : Int64)) := Aa.ext E_2
  have f_5 : Exa Z h_2 a "[J" := Ea.ext E_2
  have f_6 : Arv Z h_2 b_2 k .long (8 : Int32) [(.long x0), (.long x1), (.long x2), (.long x3), (.long x4), (.long x5), (.long x6), (.long x7)] (.long (0 : Int64)) := A_2
  refine Done.pre st_2 ?_
  show Done _ _ _ _ _ _ _ (T_2.setTop (mkF m 4 #[Rv a, Us, Us, Us, Us] [(.ref b_2)]))
  obtain ⟨T_7, X_7, e_7, st_7⟩ := castY X_2 hEX hZW hOW (hw _ (List.mem_of_getElem? (i := 39) rfl)) e_2 (Ins.self B_2) (g := (mkF m 4 #[Rv a, Us, Us, Us, Us] [(.ref b_2)])) rfl rfl (hb hBY d_prog_59_method_16_code_4)
  refine Done.pre st_7 ?_
  show Done _ _ _ _ _ _ _ (T_7.setTop (mkF m 7 #[Rv a, Us, Us, Us, Us] [(.ref b_2)]))
  have sg_8 : ∀ tt_, Steps p.tables e below (T_7.setTop (mkF m 9 #[Rv a, Rv b_2, Us, Us, Us] [(.ref b_2)])) tt_ → Steps p.tables e below (T_7.setTop (mkF m 7 #[Rv a, Us, Us, Us, Us] [(.ref b_2)])) tt_ := by
    intro tt_ kt_
    refine XS.astoreN X_7.here hEX rfl (hb hBY d_prog_59_method_16_code_7) rfl rfl (l' := #[Rv a, Rv b_2, Us, Us, Us]) rfl ?_
    show Steps p.tables e below (T_7.setTop (mkF m 8 #[Rv a, Rv b_2, Us, Us, Us] [])) tt_
    refine XS.aloadN X_7.here hEX rfl (hb hBY d_prog_59_method_16_code_8) rfl rfl ?_
    exact kt_
  refine Done.pre sg_8 ?_
  obtain ⟨_, _, ⟨T_9, L_9, k_9, n_9⟩, -, X_9, ⟨Lc_9, hQ_9, l_9, y_9, z_9⟩, st_9⟩ := Jvm.LawKit.callS X_7 hEX (y := (⟨"com/example/guard3/guard3/P384Field", "propagate", "([J)J"⟩ : MethodName)) hOW (mvT hZW (hw _ (List.mem_of_getElem? (i := 41) rfl))) (mvT hZW (hw _ (List.mem_of_getElem? (i := 42) rfl))) (mvT hZW (hw _ (List.mem_of_getElem? (i := 12) rfl))) (mvT hZW (hw _ (List.mem_of_getElem? (i := 43) rfl))) (by decide) (backOf (W := 0) (rm_prop l Z aZ hw [] b_2 k x0 x1 x2 x3 x4 x5 x6 x7 h_2 n0 (Nat.le_trans Z0 K__3.1) f_6 ge_b_2 (own_Rup _ _ _ _ _ _ _ _ _ _ (by decide) hR)) hZW (hw _ (List.mem_of_getElem? (i := 43) rfl)) (hw _ (List.mem_of_getElem? (i := 12) rfl)) (by decide) (by decide)) (g := (mkF m 9 #[Rv a, Rv b_2, Us, Us, Us] [(.ref b_2)])) rfl (by rw [hMX]; rfl) (argsL := [(.ref b_2)]) (rest := []) (lenOf pd___J_J_4 rfl) rfl (by show 2 * 0 + _ ≤ _; exact Nat.le_of_eq rfl) (hb hBY d_prog_59_method_16_code_9) (fun _ _ => ⟨rfl, e_7, (by decide : 1 + 0 ≤ _), (by decide : 8 + 0 ≤ _)⟩)
  dsimp only [Pt.U, Pt.locs, Pt.cells, Pt.slots] at X_9 l_9 y_9 z_9 st_9 hQ_9
  subst l_9 y_9 z_9
  obtain ⟨ya0, ya1, ya2, ya3, ya4, ya5, ya6, ya7, ca, rfl, N_9q, K_9, hq_9_0, hq_9_1, hq_9_2⟩ := hQ_9
  have N_9 := Fr.app N0 N_9q
  have K__10 : Keep h0 T_9.heap [] := K__3.trans K_9 (allS (Or.inr sz_b_2) all0)
  have f_11 : Arv Z T_9.heap a k .long (8 : Int32) [(.long x0), (.long x1), (.long x2), (.long x3), (.long x4), (.long x5), (.long x6), (.long x7)] (.long (0 : Int64)) := f_4.keep K_9 (ninS ne_a_b_2 nin0)
  have f_12 : Exa Z T_9.heap a "[J" := f_5.keep K_9
  have f_13 : Exa Z T_9.heap b_2 "[J" := B_2.keep K_9
  refine Done.pre (fun _ k_ => st_9 _ k_) ?_
  show Done _ _ _ _ _ _ _ (T_9.setTop (mkF m 12 #[Rv a, Rv b_2, Us, Us, Us] [(.long ca)]))
  have hCa := hq_9_1
  have hWa := hq_9_2
  have hca := own_cy1 _ _ _ hWa (own_Wrng _ _ _ _ _ _ _ _ hCa) (own_WR _ _ _ _ _ _ _ _ hR)
  have sg_14 : ∀ tt_, Steps p.tables e below (T_9.setTop (mkF m 13 #[Rv a, Rv b_2, Lv ca, Zs, Us] [])) tt_ → Steps p.tables e below (T_9.setTop (mkF m 12 #[Rv a, Rv b_2, Us, Us, Us] [(.long ca)])) tt_ := by
    intro tt_ kt_
    refine XS.lstoreN X_9.here hEX rfl (hb hBY d_prog_59_method_16_code_12) rfl (l' := #[Rv a, Rv b_2, Lv ca, Zs, Us]) rfl ?_
    exact kt_
  refine Done.pre sg_14 ?_
  have jn_15 : ∀ (T_16 : State) (h_17 : Heap) (L_18 : List Loc) (X_19 : Stand p l e ({ frames := 1, cells := 2, slots := 16, locals := 18 } : Room) s m #[(.ref a)] below meth cO T_16 L_18 1 8) (e_20 : T_16.heap = h_17) (N_21 : Fr n0 L_18) (K__22 : Keep h0 h_17 []) (cz : Int64) (y0 : Int64) (y1 : Int64) (y2 : Int64) (y3 : Int64) (y4 : Int64) (y5 : Int64) (y6 : Int64) (y7 : Int64) (f_23 : Arv Z h_17 a k .long (8 : Int32) [(.long x0), (.long x1), (.long x2), (.long x3), (.long x4), (.long x5), (.long x6), (.long x7)] (.long (0 : Int64))) (f_24 : Exa Z h_17 a "[J") (f_25 : Exa Z h_17 b_2 "[J") (f_26 : Arv Z h_17 b_2 k .long (8 : Int32) [(.long y0), (.long y1), (.long y2), (.long y3), (.long y4), (.long y5), (.long y6), (.long y7)] (.long (0 : Int64))) (hCy : own_C y0 y1 y2 y3 y4 y5 y6 y7) (hMy : own_M (own_W y0 y1 y2 y3 y4 y5 y6 y7)), Done p e below s (Qrm_canon Z a k x0 x1 x2 x3 x4 x5 x6 x7 h0 n0) ({ frames := 1, cells := 2, slots := 16, locals := 18 } : Room).cells ({ frames := 1, cells := 2, slots := 16, locals := 18 } : Room).slots (T_16.setTop (mkF m 32 #[Rv a, Rv b_2, Lv cz, Zs, Us] [])) := by
    intro T_16 h_17 L_18 X_19 e_20 N_21 K__22 cz y0 y1 y2 y3 y4 y5 y6 y7 f_23 f_24 f_25 f_26 hCy hMy
    show Done _ _ _ _ _ _ _ (T_16.setTop (mkF m 32 #[Rv a, Rv b_2, Lv cz, Zs, Us] []))
    have sg_27 : ∀ tt_, Steps p.tables e below (T_16.setTop (mkF m 33 #[Rv a, Rv b_2, Lv cz, Zs, Us] [(.ref b_2)])) tt_ → Steps p.tables e below (T_16.setTop (mkF m 32 #[Rv a, Rv b_2, Lv cz, Zs, Us] [])) tt_ := by
      intro tt_ kt_
      refine XS.aloadN X_19.here hEX rfl (hb hBY d_prog_59_method_16_code_32) rfl rfl ?_
      exact kt_
    refine Done.pre sg_27 ?_
    obtain ⟨T_28, h_28, X_28, e_28, E_28, A_28, B_28, st_28⟩ := cloneH X_19 hEX hZW hOW (hw _ (List.mem_of_getElem? (i := 32) rfl)) (hw _ (List.mem_of_getElem? (i := 33) rfl)) (hw _ (List.mem_of_getElem? (i := 37) rfl)) (hw _ (List.mem_of_getElem? (i := 35) rfl)) (hw _ (List.mem_of_getElem? (i := 36) rfl)) (hw _ (List.mem_of_getElem? (i := 38) rfl)) e_20 (Arv.arh f_26) f_25 (g := (mkF m 33 #[Rv a, Rv b_2, Lv cz, Zs, Us] [(.ref b_2)])) rfl (by rw [hMX]; rfl) rfl (hb hBY d_prog_59_method_16_code_33) (by decide) (W := 0) (cap := 8) (by show 2 * 0 + _ ≤ _; exact Nat.le_of_eq rfl) (by decide) (by decide) (by decide) (by decide)
    obtain ⟨b_28, g_28⟩ : ∃ z, z = h_17.size := ⟨_, rfl⟩
    rw [← g_28] at A_28 B_28 st_28
    have sz_b_28 : h0.size ≤ b_28 := Nat.le_trans K__22.1 (Nat.le_of_eq g_28.symm)
    have ge_b_28 : n0 ≤ b_28 := Nat.le_trans Z0 sz_b_28
    have ne_a_b_28 : a ≠ b_28 := Nat.ne_of_lt (Nat.lt_of_lt_of_le f_23.lt (Nat.le_of_eq g_28.symm))
    have ne_b_2_b_28 : b_2 ≠ b_28 := Nat.ne_of_lt (Nat.lt_of_lt_of_le f_25.lt (Nat.le_of_eq g_28.symm))
    have K__29 : Keep h0 h_28 [] := K__22.ext E_28
    have f_30 : Arv Z h_28 a k .long (8 : Int32) [(.long x0), (.long x1), (.long x2), (.long x3), (.long x4), (.long x5), (.long x6), (.long x7)] (.long (0 : Int64)) := f_23.ext E_28
    have f_31 : Exa Z h_28 a "[J" := f_24.ext E_28
    have f_32 : Exa Z h_28 b_2 "[J" := f_25.ext E_28
    have f_33 : Arv Z h_28 b_2 k .long (8 : Int32) [(.long y0), (.long y1), (.long y2), (.long y3), (.long y4), (.long y5), (.long y6), (.long y7)] (.long (0 : Int64)) := f_26.ext E_28
    have f_34 : Arv Z h_28 b_28 k .long (8 : Int32) [(.long y0), (.long y1), (.long y2), (.long y3), (.long y4), (.long y5), (.long y6), (.long y7)] (.long (0 : Int64)) := A_28
    refine Done.pre st_28 ?_
    show Done _ _ _ _ _ _ _ (T_28.setTop (mkF m 36 #[Rv a, Rv b_2, Lv cz, Zs, Us] [(.ref b_28)]))
    obtain ⟨T_35, X_35, e_35, st_35⟩ := castY X_28 hEX hZW hOW (hw _ (List.mem_of_getElem? (i := 39) rfl)) e_28 (Ins.self B_28) (g := (mkF m 36 #[Rv a, Rv b_2, Lv cz, Zs, Us] [(.ref b_28)])) rfl rfl (hb hBY d_prog_59_method_16_code_36)
    refine Done.pre st_35 ?_
    show Done _ _ _ _ _ _ _ (T_35.setTop (mkF m 39 #[Rv a, Rv b_2, Lv cz, Zs, Us] [(.ref b_28)]))
    have sg_36 : ∀ tt_, Steps p.tables e below (T_35.setTop (mkF m 44 #[Rv a, Rv b_2, Lv cz, Zs, Rv b_28] [(.long (1 : Int64)), (.ref b_28)])) tt_ → Steps p.tables e below (T_35.setTop (mkF m 39 #[Rv a, Rv b_2, Lv cz, Zs, Us] [(.ref b_28)])) tt_ := by
      intro tt_ kt_
      refine XS.astore X_35.here hEX rfl (hb hBY d_prog_59_method_16_code_39) rfl rfl (l' := #[Rv a, Rv b_2, Lv cz, Zs, Rv b_28]) rfl ?_
      show Steps p.tables e below (T_35.setTop (mkF m 41 #[Rv a, Rv b_2, Lv cz, Zs, Rv b_28] [])) tt_
      refine XS.aload X_35.here hEX rfl (hb hBY d_prog_59_method_16_code_41) rfl rfl ?_
      show Steps p.tables e below (T_35.setTop (mkF m 43 #[Rv a, Rv b_2, Lv cz, Zs, Rv b_28] [(.ref b_28)])) tt_
      refine XS.lconst X_35.here hEX rfl (hb hBY d_prog_59_method_16_code_43) ?_
      exact kt_
    refine Done.pre sg_36 ?_
    obtain ⟨_, _, ⟨T_37, L_37, k_37, n_37⟩, -, X_37, ⟨Lc_37, hQ_37, l_37, y_37, z_37⟩, st_37⟩ := Jvm.LawKit.callS X_35 hEX (y := (⟨"com/example/guard3/guard3/P384Field", "fold", "([JJ)V"⟩ : MethodName)) hOW (mvT hZW (hw _ (List.mem_of_getElem? (i := 44) rfl))) (mvT hZW (hw _ (List.mem_of_getElem? (i := 45) rfl))) (mvT hZW (hw _ (List.mem_of_getElem? (i := 12) rfl))) (mvT hZW (hw _ (List.mem_of_getElem? (i := 46) rfl))) (by decide) (backOf (W := 0) (rm_fold l Z aZ hw [] b_28 (1 : Int64) k y0 y1 y2 y3 y4 y5 y6 y7 h_28 n0 (Nat.le_trans Z0 K__29.1) f_34 ge_b_28 hCy (by decide)) hZW (hw _ (List.mem_of_getElem? (i := 46) rfl)) (hw _ (List.mem_of_getElem? (i := 12) rfl)) (by decide) (by decide)) (g := (mkF m 44 #[Rv a, Rv b_2, Lv cz, Zs, Rv b_28] [(.long (1 : Int64)), (.ref b_28)])) rfl (by rw [hMX]; rfl) (argsL := [(.ref b_28), (.long (1 : Int64))]) (rest := []) (lenOf pd___JJ_V_7 rfl) rfl (by show 2 * 0 + _ ≤ _; exact Nat.le_of_eq rfl) (hb hBY d_prog_59_method_16_code_44) (fun _ _ => ⟨rfl, e_35, (by decide : 2 + 0 ≤ _), (by decide : 16 + 0 ≤ _)⟩)
    dsimp only [Pt.U, Pt.locs, Pt.cells, Pt.slots] at X_37 l_37 y_37 z_37 st_37 hQ_37
    subst l_37 y_37 z_37
    obtain ⟨zd0, zd1, zd2, zd3, zd4, zd5, zd6, zd7, rfl, N_37q, K_37, hq_37_0, hq_37_1, hq_37_2⟩ := hQ_37
    have N_37 := Fr.app N_21 N_37q
    have K__38 : Keep h0 T_37.heap [] := K__29.trans K_37 (allS (Or.inr sz_b_28) all0)
    have f_39 : Arv Z T_37.heap a k .long (8 : Int32) [(.long x0), (.long x1), (.long x2), (.long x3), (.long x4), (.long x5), (.long x6), (.long x7)] (.long (0 : Int64)) := f_30.keep K_37 (ninS ne_a_b_28 nin0)
    have f_40 : Exa Z T_37.heap a "[J" := f_31.keep K_37
    have f_41 : Exa Z T_37.heap b_2 "[J" := f_32.keep K_37
    have f_42 : Arv Z T_37.heap b_2 k .long (8 : Int32) [(.long y0), (.long y1), (.long y2), (.long y3), (.long y4), (.long y5), (.long y6), (.long y7)] (.long (0 : Int64)) := f_33.keep K_37 (ninS ne_b_2_b_28 nin0)
    have f_43 : Exa Z T_37.heap b_28 "[J" := B_28.keep K_37
    refine Done.pre (fun _ k_ => st_37 _ k_) ?_
    show Done _ _ _ _ _ _ _ (T_37.setTop (mkF m 47 #[Rv a, Rv b_2, Lv cz, Zs, Rv b_28] []))
    have hRd := hq_37_1
    have hZd := hq_37_2
    have sg_44 : ∀ tt_, Steps p.tables e below (T_37.setTop (mkF m 49 #[Rv a, Rv b_2, Lv cz, Zs, Rv b_28] [(.ref b_28)])) tt_ → Steps p.tables e below (T_37.setTop (mkF m 47 #[Rv a, Rv b_2, Lv cz, Zs, Rv b_28] [])) tt_ := by
      intro tt_ kt_
      refine XS.aload X_37.here hEX rfl (hb hBY d_prog_59_method_16_code_47) rfl rfl ?_
      exact kt_
    refine Done.pre sg_44 ?_
    obtain ⟨_, _, ⟨T_45, L_45, k_45, n_45⟩, -, X_45, ⟨Lc_45, hQ_45, l_45, y_45, z_45⟩, st_45⟩ := Jvm.LawKit.callS X_37 hEX (y := (⟨"com/example/guard3/guard3/P384Field", "propagate", "([J)J"⟩ : MethodName)) hOW (mvT hZW (hw _ (List.mem_of_getElem? (i := 41) rfl))) (mvT hZW (hw _ (List.mem_of_getElem? (i := 42) rfl))) (mvT hZW (hw _ (List.mem_of_getElem? (i := 12) rfl))) (mvT hZW (hw _ (List.mem_of_getElem? (i := 43) rfl))) (by decide) (backOf (W := 0) (rm_prop l Z aZ hw [] b_28 k zd0 zd1 zd2 zd3 zd4 zd5 zd6 zd7 T_37.heap n0 (Nat.le_trans Z0 K__38.1) hq_37_0 ge_b_28 (own_Rup _ _ _ _ _ _ _ _ _ _ (by decide) hRd)) hZW (hw _ (List.mem_of_getElem? (i := 43) rfl)) (hw _ (List.mem_of_getElem? (i := 12) rfl)) (by decide) (by decide)) (g := (mkF m 49 #[Rv a, Rv b_2, Lv cz, Zs, Rv b_28] [(.ref b_28)])) rfl (by rw [hMX]; rfl) (argsL := [(.ref b_28)]) (rest := []) (lenOf pd___J_J_4 rfl) rfl (by show 2 * 0 + _ ≤ _; exact Nat.le_of_eq rfl) (hb hBY d_prog_59_method_16_code_49) (fun _ _ => ⟨rfl, rfl, (by decide : 2 + 0 ≤ _), (by decide : 16 + 0 ≤ _)⟩)
    dsimp only [Pt.U, Pt.locs, Pt.cells, Pt.slots] at X_45 l_45 y_45 z_45 st_45 hQ_45
    subst l_45 y_45 z_45
    obtain ⟨yd0, yd1, yd2, yd3, yd4, yd5, yd6, yd7, cd, rfl, N_45q, K_45, hq_45_0, hq_45_1, hq_45_2⟩ := hQ_45
    have N_45 := Fr.app N_37 N_45q
    have K__46 : Keep h0 T_45.heap [] := K__38.trans K_45 (allS (Or.inr sz_b_28) all0)
    have f_47 : Arv Z T_45.heap a k .long (8 : Int32) [(.long x0), (.long x1), (.long x2), (.long x3), (.long x4), (.long x5), (.long x6), (.long x7)] (.long (0 : Int64)) := f_39.keep K_45 (ninS ne_a_b_28 nin0)
    have f_48 : Exa Z T_45.heap a "[J" := f_40.keep K_45
    have f_49 : Exa Z T_45.heap b_2 "[J" := f_41.keep K_45
    have f_50 : Arv Z T_45.heap b_2 k .long (8 : Int32) [(.long y0), (.long y1), (.long y2), (.long y3), (.long y4), (.long y5), (.long y6), (.long y7)] (.long (0 : Int64)) := f_42.keep K_45 (ninS ne_b_2_b_28 nin0)
    have f_51 : Exa Z T_45.heap b_28 "[J" := f_43.keep K_45
    refine Done.pre (fun _ k_ => st_45 _ k_) ?_
    show Done _ _ _ _ _ _ _ (T_45.setTop (mkF m 52 #[Rv a, Rv b_2, Lv cz, Zs, Rv b_28] [(.long cd)]))
    have hCd := hq_45_1
    have hWd := hq_45_2
    have hEnd := own_end0 _ _ _ _ hMy (own_Wrng _ _ _ _ _ _ _ _ hCy) hZd hWd (own_Wrng _ _ _ _ _ _ _ _ hCd)
    have sg_52 : ∀ tt_, Steps p.tables e below (T_45.setTop (mkF m 54 #[Rv a, Rv b_2, Lv cz, Zs, Rv b_28] [(.int (lcmpW cd (0 : Int64)))])) tt_ → Steps p.tables e below (T_45.setTop (mkF m 52 #[Rv a, Rv b_2, Lv cz, Zs, Rv b_28] [(.long cd)])) tt_ := by
      intro tt_ kt_
      refine XS.lconst X_45.here hEX rfl (hb hBY d_prog_59_method_16_code_52) ?_
      show Steps p.tables e below (T_45.setTop (mkF m 53 #[Rv a, Rv b_2, Lv cz, Zs, Rv b_28] [(.long (0 : Int64)), (.long cd)])) tt_
      refine XS.lcmp X_45.here hEX rfl (hb hBY d_prog_59_method_16_code_53) rfl ?_
      exact kt_
    refine Done.pre sg_52 ?_
    by_cases hc54 : cd = (0 : Int64)
    · skip
      have sg_53 : ∀ tt_, Steps p.tables e below (T_45.setTop (mkF m 63 #[Rv a, Rv b_2, Lv cz, Zs, Rv b_28] [(.ref b_2)])) tt_ → Steps p.tables e below (T_45.setTop (mkF m 54 #[Rv a, Rv b_2, Lv cz, Zs, Rv b_28] [(.int (lcmpW cd (0 : Int64)))])) tt_ := by
        intro tt_ kt_
        refine XS.ifYes X_45.here hEX rfl (pc0 := 54) (pc' := 62) rfl (hb hBY d_prog_59_method_16_code_54) rfl ((if0 _ _).trans (teq ((lw_eq _ _).mpr hc54)).1) (by decide) (by decide) ?_
        show Steps p.tables e below (T_45.setTop (mkF m 62 #[Rv a, Rv b_2, Lv cz, Zs, Rv b_28] [])) tt_
        refine XS.aloadN X_45.here hEX rfl (hb hBY d_prog_59_method_16_code_62) rfl rfl ?_
        exact kt_
      refine Done.pre sg_53 ?_
      exact Done.retA X_45 hEX hLK hRT rfl rfl (hb hBY d_prog_59_method_16_code_63) (by exact ⟨b_2, k, rfl, N_45, K__46, (by obtain ⟨w0, w1, w2, w3, w4, w5, w6, w7⟩ := (own_zero _ _ _ _ _ _ _ _ hCy (hEnd.1 ((own_toI cd).mp hc54))); have q := f_50; rw [w0, w1, w2, w3, w4, w5, w6, w7] at q; exact q), sz_b_2⟩) (by decide) (by decide)
    · skip
      have sg_54 : ∀ tt_, Steps p.tables e below (T_45.setTop (mkF m 63 #[Rv a, Rv b_2, Lv cz, Zs, Rv b_28] [(.ref b_28)])) tt_ → Steps p.tables e below (T_45.setTop (mkF m 54 #[Rv a, Rv b_2, Lv cz, Zs, Rv b_28] [(.int (lcmpW cd (0 : Int64)))])) tt_ := by
        intro tt_ kt_
        refine XS.ifNo X_45.here hEX rfl (hb hBY d_prog_59_method_16_code_54) rfl ((if0 _ _).trans (feq (fun q => hc54 ((lw_eq _ _).mp q))).1) ?_
        show Steps p.tables e below (T_45.setTop (mkF m 57 #[Rv a, Rv b_2, Lv cz, Zs, Rv b_28] [])) tt_
        refine XS.aload X_45.here hEX rfl (hb hBY d_prog_59_method_16_code_57) rfl rfl ?_
        show Steps p.tables e below (T_45.setTop (mkF m 59 #[Rv a, Rv b_2, Lv cz, Zs, Rv b_28] [(.ref b_28)])) tt_
        refine XS.goto X_45.here hEX rfl (pc0 := 59) (pc' := 63) rfl (hb hBY d_prog_59_method_16_code_59) (by decide) (by decide) ?_
        exact kt_
      refine Done.pre sg_54 ?_
      exact Done.retA X_45 hEX hLK hRT rfl rfl (hb hBY d_prog_59_method_16_code_63) (by exact ⟨b_28, k, rfl, N_45, K__46, (by obtain ⟨w0, w1, w2, w3, w4, w5, w6, w7⟩ := (own_zero _ _ _ _ _ _ _ _ hCd (hEnd.2 (fun q => hc54 ((own_toI cd).mpr q)))); have q := hq_45_0; rw [w0, w1, w2, w3, w4, w5, w6, w7] at q; exact q), sz_b_28⟩) (by decide) (by decide)
  show Done _ _ _ _ _ _ _ (T_9.setTop (mkF m 13 #[Rv a, Rv b_2, Lv ca, Zs, Us] []))
  have sg_55 : ∀ tt_, Steps p.tables e below (T_9.setTop (mkF m 16 #[Rv a, Rv b_2, Lv ca, Zs, Us] [(.int (lcmpW ca (0 : Int64)))])) tt_ → Steps p.tables e below (T_9.setTop (mkF m 13 #[Rv a, Rv b_2, Lv ca, Zs, Us] [])) tt_ := by
    intro tt_ kt_
    refine XS.lloadN X_9.here hEX rfl (hb hBY d_prog_59_method_16_code_13) rfl ?_
    show Steps p.tables e below (T_9.setTop (mkF m 14 #[Rv a, Rv b_2, Lv ca, Zs, Us] [(.long ca)])) tt_
    refine XS.lconst X_9.here hEX rfl (hb hBY d_prog_59_method_16_code_14) ?_
    show Steps p.tables e below (T_9.setTop (mkF m 15 #[Rv a, Rv b_2, Lv ca, Zs, Us] [(.long (0 : Int64)), (.long ca)])) tt_
    refine XS.lcmp X_9.here hEX rfl (hb hBY d_prog_59_method_16_code_15) rfl ?_
    exact kt_
  refine Done.pre sg_55 ?_
  by_cases hc16 : ca = (0 : Int64)
  · skip
    have sg_56 : ∀ tt_, Steps p.tables e below (T_9.setTop (mkF m 32 #[Rv a, Rv b_2, Lv ca, Zs, Us] [])) tt_ → Steps p.tables e below (T_9.setTop (mkF m 16 #[Rv a, Rv b_2, Lv ca, Zs, Us] [(.int (lcmpW ca (0 : Int64)))])) tt_ := by
      intro tt_ kt_
      refine XS.ifYes X_9.here hEX rfl (pc0 := 16) (pc' := 32) rfl (hb hBY d_prog_59_method_16_code_16) rfl ((if0 _ _).trans (teq ((lw_eq _ _).mpr hc16)).1) (by decide) (by decide) ?_
      exact kt_
    refine Done.pre sg_56 ?_
    exact jn_15 T_9 T_9.heap _ X_9 rfl N_9 K__10 (ca) (ya0) (ya1) (ya2) (ya3) (ya4) (ya5) (ya6) (ya7) f_11 f_12 f_13 hq_9_0 hCa (own_M1 _ _ _ hWa hM ((own_toI ca).mp hc16))
  · skip
    have hna : ¬ ca = (0 : Int64) := hc16
    have sg_57 : ∀ tt_, Steps p.tables e below (T_9.setTop (mkF m 21 #[Rv a, Rv b_2, Lv ca, Zs, Us] [(.long ca), (.ref b_2)])) tt_ → Steps p.tables e below (T_9.setTop (mkF m 16 #[Rv a, Rv b_2, Lv ca, Zs, Us] [(.int (lcmpW ca (0 : Int64)))])) tt_ := by
      intro tt_ kt_
      refine XS.ifNo X_9.here hEX rfl (hb hBY d_prog_59_method_16_code_16) rfl ((if0 _ _).trans (feq (fun q => hc16 ((lw_eq _ _).mp q))).1) ?_
      show Steps p.tables e below (T_9.setTop (mkF m 19 #[Rv a, Rv b_2, Lv ca, Zs, Us] [])) tt_
      refine XS.aloadN X_9.here hEX rfl (hb hBY d_prog_59_method_16_code_19) rfl rfl ?_
      show Steps p.tables e below (T_9.setTop (mkF m 20 #[Rv a, Rv b_2, Lv ca, Zs, Us] [(.ref b_2)])) tt_
      refine XS.lloadN X_9.here hEX rfl (hb hBY d_prog_59_method_16_code_20) rfl ?_
      exact kt_
    refine Done.pre sg_57 ?_
    obtain ⟨_, _, ⟨T_58, L_58, k_58, n_58⟩, -, X_58, ⟨Lc_58, hQ_58, l_58, y_58, z_58⟩, st_58⟩ := Jvm.LawKit.callS X_9 hEX (y := (⟨"com/example/guard3/guard3/P384Field", "fold", "([JJ)V"⟩ : MethodName)) hOW (mvT hZW (hw _ (List.mem_of_getElem? (i := 44) rfl))) (mvT hZW (hw _ (List.mem_of_getElem? (i := 45) rfl))) (mvT hZW (hw _ (List.mem_of_getElem? (i := 12) rfl))) (mvT hZW (hw _ (List.mem_of_getElem? (i := 46) rfl))) (by decide) (backOf (W := 0) (rm_fold l Z aZ hw [] b_2 ca k ya0 ya1 ya2 ya3 ya4 ya5 ya6 ya7 T_9.heap n0 (Nat.le_trans Z0 K__10.1) hq_9_0 ge_b_2 hCa hca) hZW (hw _ (List.mem_of_getElem? (i := 46) rfl)) (hw _ (List.mem_of_getElem? (i := 12) rfl)) (by decide) (by decide)) (g := (mkF m 21 #[Rv a, Rv b_2, Lv ca, Zs, Us] [(.long ca), (.ref b_2)])) rfl (by rw [hMX]; rfl) (argsL := [(.ref b_2), (.long ca)]) (rest := []) (lenOf pd___JJ_V_7 rfl) rfl (by show 2 * 0 + _ ≤ _; exact Nat.le_of_eq rfl) (hb hBY d_prog_59_method_16_code_21) (fun _ _ => ⟨rfl, rfl, (by decide : 1 + 0 ≤ _), (by decide : 8 + 0 ≤ _)⟩)
    dsimp only [Pt.U, Pt.locs, Pt.cells, Pt.slots] at X_58 l_58 y_58 z_58 st_58 hQ_58
    subst l_58 y_58 z_58
    obtain ⟨za0, za1, za2, za3, za4, za5, za6, za7, rfl, N_58q, K_58, hq_58_0, hq_58_1, hq_58_2⟩ := hQ_58
    have N_58 := Fr.app N_9 N_58q
    have K__59 : Keep h0 T_58.heap [] := K__10.trans K_58 (allS (Or.inr sz_b_2) all0)
    have f_60 : Arv Z T_58.heap a k .long (8 : Int32) [(.long x0), (.long x1), (.long x2), (.long x3), (.long x4), (.long x5), (.long x6), (.long x7)] (.long (0 : Int64)) := f_11.keep K_58 (ninS ne_a_b_2 nin0)
    have f_61 : Exa Z T_58.heap a "[J" := f_12.keep K_58
    have f_62 : Exa Z T_58.heap b_2 "[J" := f_13.keep K_58
    refine Done.pre (fun _ k_ => st_58 _ k_) ?_
    show Done _ _ _ _ _ _ _ (T_58.setTop (mkF m 24 #[Rv a, Rv b_2, Lv ca, Zs, Us] []))
    have hRa := hq_58_1
    have hZa := hq_58_2
    have sg_63 : ∀ tt_, Steps p.tables e below (T_58.setTop (mkF m 25 #[Rv a, Rv b_2, Lv ca, Zs, Us] [(.ref b_2)])) tt_ → Steps p.tables e below (T_58.setTop (mkF m 24 #[Rv a, Rv b_2, Lv ca, Zs, Us] [])) tt_ := by
      intro tt_ kt_
      refine XS.aloadN X_58.here hEX rfl (hb hBY d_prog_59_method_16_code_24) rfl rfl ?_
      exact kt_
    refine Done.pre sg_63 ?_
    obtain ⟨_, _, ⟨T_64, L_64, k_64, n_64⟩, -, X_64, ⟨Lc_64, hQ_64, l_64, y_64, z_64⟩, st_64⟩ := Jvm.LawKit.callS X_58 hEX (y := (⟨"com/example/guard3/guard3/P384Field", "propagate", "([J)J"⟩ : MethodName)) hOW (mvT hZW (hw _ (List.mem_of_getElem? (i := 41) rfl))) (mvT hZW (hw _ (List.mem_of_getElem? (i := 42) rfl))) (mvT hZW (hw _ (List.mem_of_getElem? (i := 12) rfl))) (mvT hZW (hw _ (List.mem_of_getElem? (i := 43) rfl))) (by decide) (backOf (W := 0) (rm_prop l Z aZ hw [] b_2 k za0 za1 za2 za3 za4 za5 za6 za7 T_58.heap n0 (Nat.le_trans Z0 K__59.1) hq_58_0 ge_b_2 (own_Rup _ _ _ _ _ _ _ _ _ _ (by decide) hRa)) hZW (hw _ (List.mem_of_getElem? (i := 43) rfl)) (hw _ (List.mem_of_getElem? (i := 12) rfl)) (by decide) (by decide)) (g := (mkF m 25 #[Rv a, Rv b_2, Lv ca, Zs, Us] [(.ref b_2)])) rfl (by rw [hMX]; rfl) (argsL := [(.ref b_2)]) (rest := []) (lenOf pd___J_J_4 rfl) rfl (by show 2 * 0 + _ ≤ _; exact Nat.le_of_eq rfl) (hb hBY d_prog_59_method_16_code_25) (fun _ _ => ⟨rfl, rfl, (by decide : 1 + 0 ≤ _), (by decide : 8 + 0 ≤ _)⟩)
    dsimp only [Pt.U, Pt.locs, Pt.cells, Pt.slots] at X_64 l_64 y_64 z_64 st_64 hQ_64
    subst l_64 y_64 z_64
    obtain ⟨yb0, yb1, yb2, yb3, yb4, yb5, yb6, yb7, cb, rfl, N_64q, K_64, hq_64_0, hq_64_1, hq_64_2⟩ := hQ_64
    have N_64 := Fr.app N_58 N_64q
    have K__65 : Keep h0 T_64.heap [] := K__59.trans K_64 (allS (Or.inr sz_b_2) all0)
    have f_66 : Arv Z T_64.heap a k .long (8 : Int32) [(.long x0), (.long x1), (.long x2), (.long x3), (.long x4), (.long x5), (.long x6), (.long x7)] (.long (0 : Int64)) := f_60.keep K_64 (ninS ne_a_b_2 nin0)
    have f_67 : Exa Z T_64.heap a "[J" := f_61.keep K_64
    have f_68 : Exa Z T_64.heap b_2 "[J" := f_62.keep K_64
    refine Done.pre (fun _ k_ => st_64 _ k_) ?_
    show Done _ _ _ _ _ _ _ (T_64.setTop (mkF m 28 #[Rv a, Rv b_2, Lv ca, Zs, Us] [(.long cb)]))
    have hCb := hq_64_1
    have hWb := hq_64_2
    have hcb1 := own_cy2 _ _ _ _ _ hZa hWb (own_Wrng _ _ _ _ _ _ _ _ hCa) (own_Wrng _ _ _ _ _ _ _ _ hCb) hca
    have hcb : -8 ≤ cb.toInt ∧ cb.toInt ≤ 8 := ⟨by omega, by omega⟩
    have hMb := own_M2 _ _ _ _ _ _ hWa hZa hWb hM
    have sg_70 : ∀ tt_, Steps p.tables e below (T_64.setTop (mkF m 16 #[Rv a, Rv b_2, Lv cb, Zs, Us] [(.int (lcmpW cb (0 : Int64)))])) tt_ → Steps p.tables e below (T_64.setTop (mkF m 28 #[Rv a, Rv b_2, Lv ca, Zs, Us] [(.long cb)])) tt_ := by
      intro tt_ kt_
      refine XS.lstoreN X_64.here hEX rfl (hb hBY d_prog_59_method_16_code_28) rfl (l' := #[Rv a, Rv b_2, Lv cb, Zs, Us]) rfl ?_
      show Steps p.tables e below (T_64.setTop (mkF m 29 #[Rv a, Rv b_2, Lv cb, Zs, Us] [])) tt_
      refine XS.goto X_64.here hEX rfl (pc0 := 29) (pc' := 13) rfl (hb hBY d_prog_59_method_16_code_29) (by decide) (by decide) ?_
      show Steps p.tables e below (T_64.setTop (mkF m 13 #[Rv a, Rv b_2, Lv cb, Zs, Us] [])) tt_
      refine XS.lloadN X_64.here hEX rfl (hb hBY d_prog_59_method_16_code_13) rfl ?_
      show Steps p.tables e below (T_64.setTop (mkF m 14 #[Rv a, Rv b_2, Lv cb, Zs, Us] [(.long cb)])) tt_
      refine XS.lconst X_64.here hEX rfl (hb hBY d_prog_59_method_16_code_14) ?_
      show Steps p.tables e below (T_64.setTop (mkF m 15 #[Rv a, Rv b_2, Lv cb, Zs, Us] [(.long (0 : Int64)), (.long cb)])) tt_
      refine XS.lcmp X_64.here hEX rfl (hb hBY d_prog_59_method_16_code_15) rfl ?_
      exact kt_
    refine Done.pre sg_70 ?_
    by_cases hc16__69 : cb = (0 : Int64)
    · skip
      have sg_71 : ∀ tt_, Steps p.tables e below (T_64.setTop (mkF m 32 #[Rv a, Rv b_2, Lv cb, Zs, Us] [])) tt_ → Steps p.tables e below (T_64.setTop (mkF m 16 #[Rv a, Rv b_2, Lv cb, Zs, Us] [(.int (lcmpW cb (0 : Int64)))])) tt_ := by
        intro tt_ kt_
        refine XS.ifYes X_64.here hEX rfl (pc0 := 16) (pc' := 32) rfl (hb hBY d_prog_59_method_16_code_16) rfl ((if0 _ _).trans (teq ((lw_eq _ _).mpr hc16__69)).1) (by decide) (by decide) ?_
        exact kt_
      refine Done.pre sg_71 ?_
      exact jn_15 T_64 T_64.heap _ X_64 rfl N_64 K__65 (cb) (yb0) (yb1) (yb2) (yb3) (yb4) (yb5) (yb6) (yb7) f_66 f_67 f_68 hq_64_0 hCb (own_M0 _ _ hMb ((own_toI cb).mp hc16__69))
    · skip
      have hnb : ¬ cb = (0 : Int64) := hc16__69
      have sg_72 : ∀ tt_, Steps p.tables e below (T_64.setTop (mkF m 21 #[Rv a, Rv b_2, Lv cb, Zs, Us] [(.long cb), (.ref b_2)])) tt_ → Steps p.tables e below (T_64.setTop (mkF m 16 #[Rv a, Rv b_2, Lv cb, Zs, Us] [(.int (lcmpW cb (0 : Int64)))])) tt_ := by
        intro tt_ kt_
        refine XS.ifNo X_64.here hEX rfl (hb hBY d_prog_59_method_16_code_16) rfl ((if0 _ _).trans (feq (fun q => hc16__69 ((lw_eq _ _).mp q))).1) ?_
        show Steps p.tables e below (T_64.setTop (mkF m 19 #[Rv a, Rv b_2, Lv cb, Zs, Us] [])) tt_
        refine XS.aloadN X_64.here hEX rfl (hb hBY d_prog_59_method_16_code_19) rfl rfl ?_
        show Steps p.tables e below (T_64.setTop (mkF m 20 #[Rv a, Rv b_2, Lv cb, Zs, Us] [(.ref b_2)])) tt_
        refine XS.lloadN X_64.here hEX rfl (hb hBY d_prog_59_method_16_code_20) rfl ?_
        exact kt_
      refine Done.pre sg_72 ?_
      obtain ⟨_, _, ⟨T_73, L_73, k_73, n_73⟩, -, X_73, ⟨Lc_73, hQ_73, l_73, y_73, z_73⟩, st_73⟩ := Jvm.LawKit.callS X_64 hEX (y := (⟨"com/example/guard3/guard3/P384Field", "fold", "([JJ)V"⟩ : MethodName)) hOW (mvT hZW (hw _ (List.mem_of_getElem? (i := 44) rfl))) (mvT hZW (hw _ (List.mem_of_getElem? (i := 45) rfl))) (mvT hZW (hw _ (List.mem_of_getElem? (i := 12) rfl))) (mvT hZW (hw _ (List.mem_of_getElem? (i := 46) rfl))) (by decide) (backOf (W := 0) (rm_fold l Z aZ hw [] b_2 cb k yb0 yb1 yb2 yb3 yb4 yb5 yb6 yb7 T_64.heap n0 (Nat.le_trans Z0 K__65.1) hq_64_0 ge_b_2 hCb hcb) hZW (hw _ (List.mem_of_getElem? (i := 46) rfl)) (hw _ (List.mem_of_getElem? (i := 12) rfl)) (by decide) (by decide)) (g := (mkF m 21 #[Rv a, Rv b_2, Lv cb, Zs, Us] [(.long cb), (.ref b_2)])) rfl (by rw [hMX]; rfl) (argsL := [(.ref b_2), (.long cb)]) (rest := []) (lenOf pd___JJ_V_7 rfl) rfl (by show 2 * 0 + _ ≤ _; exact Nat.le_of_eq rfl) (hb hBY d_prog_59_method_16_code_21) (fun _ _ => ⟨rfl, rfl, (by decide : 1 + 0 ≤ _), (by decide : 8 + 0 ≤ _)⟩)
      dsimp only [Pt.U, Pt.locs, Pt.cells, Pt.slots] at X_73 l_73 y_73 z_73 st_73 hQ_73
      subst l_73 y_73 z_73
      obtain ⟨zb0, zb1, zb2, zb3, zb4, zb5, zb6, zb7, rfl, N_73q, K_73, hq_73_0, hq_73_1, hq_73_2⟩ := hQ_73
      have N_73 := Fr.app N_64 N_73q
      have K__74 : Keep h0 T_73.heap [] := K__65.trans K_73 (allS (Or.inr sz_b_2) all0)
      have f_75 : Arv Z T_73.heap a k .long (8 : Int32) [(.long x0), (.long x1), (.long x2), (.long x3), (.long x4), (.long x5), (.long x6), (.long x7)] (.long (0 : Int64)) := f_66.keep K_73 (ninS ne_a_b_2 nin0)
      have f_76 : Exa Z T_73.heap a "[J" := f_67.keep K_73
      have f_77 : Exa Z T_73.heap b_2 "[J" := f_68.keep K_73
      refine Done.pre (fun _ k_ => st_73 _ k_) ?_
      show Done _ _ _ _ _ _ _ (T_73.setTop (mkF m 24 #[Rv a, Rv b_2, Lv cb, Zs, Us] []))
      have hRb := hq_73_1
      have hZb := hq_73_2
      have sg_78 : ∀ tt_, Steps p.tables e below (T_73.setTop (mkF m 25 #[Rv a, Rv b_2, Lv cb, Zs, Us] [(.ref b_2)])) tt_ → Steps p.tables e below (T_73.setTop (mkF m 24 #[Rv a, Rv b_2, Lv cb, Zs, Us] [])) tt_ := by
        intro tt_ kt_
        refine XS.aloadN X_73.here hEX rfl (hb hBY d_prog_59_method_16_code_24) rfl rfl ?_
        exact kt_
      refine Done.pre sg_78 ?_
      obtain ⟨_, _, ⟨T_79, L_79, k_79, n_79⟩, -, X_79, ⟨Lc_79, hQ_79, l_79, y_79, z_79⟩, st_79⟩ := Jvm.LawKit.callS X_73 hEX (y := (⟨"com/example/guard3/guard3/P384Field", "propagate", "([J)J"⟩ : MethodName)) hOW (mvT hZW (hw _ (List.mem_of_getElem? (i := 41) rfl))) (mvT hZW (hw _ (List.mem_of_getElem? (i := 42) rfl))) (mvT hZW (hw _ (List.mem_of_getElem? (i := 12) rfl))) (mvT hZW (hw _ (List.mem_of_getElem? (i := 43) rfl))) (by decide) (backOf (W := 0) (rm_prop l Z aZ hw [] b_2 k zb0 zb1 zb2 zb3 zb4 zb5 zb6 zb7 T_73.heap n0 (Nat.le_trans Z0 K__74.1) hq_73_0 ge_b_2 (own_Rup _ _ _ _ _ _ _ _ _ _ (by decide) hRb)) hZW (hw _ (List.mem_of_getElem? (i := 43) rfl)) (hw _ (List.mem_of_getElem? (i := 12) rfl)) (by decide) (by decide)) (g := (mkF m 25 #[Rv a, Rv b_2, Lv cb, Zs, Us] [(.ref b_2)])) rfl (by rw [hMX]; rfl) (argsL := [(.ref b_2)]) (rest := []) (lenOf pd___J_J_4 rfl) rfl (by show 2 * 0 + _ ≤ _; exact Nat.le_of_eq rfl) (hb hBY d_prog_59_method_16_code_25) (fun _ _ => ⟨rfl, rfl, (by decide : 1 + 0 ≤ _), (by decide : 8 + 0 ≤ _)⟩)
      dsimp only [Pt.U, Pt.locs, Pt.cells, Pt.slots] at X_79 l_79 y_79 z_79 st_79 hQ_79
      subst l_79 y_79 z_79
      obtain ⟨yc0, yc1, yc2, yc3, yc4, yc5, yc6, yc7, cc, rfl, N_79q, K_79, hq_79_0, hq_79_1, hq_79_2⟩ := hQ_79
      have N_79 := Fr.app N_73 N_79q
      have K__80 : Keep h0 T_79.heap [] := K__74.trans K_79 (allS (Or.inr sz_b_2) all0)
      have f_81 : Arv Z T_79.heap a k .long (8 : Int32) [(.long x0), (.long x1), (.long x2), (.long x3), (.long x4), (.long x5), (.long x6), (.long x7)] (.long (0 : Int64)) := f_75.keep K_79 (ninS ne_a_b_2 nin0)
      have f_82 : Exa Z T_79.heap a "[J" := f_76.keep K_79
      have f_83 : Exa Z T_79.heap b_2 "[J" := f_77.keep K_79
      refine Done.pre (fun _ k_ => st_79 _ k_) ?_
      show Done _ _ _ _ _ _ _ (T_79.setTop (mkF m 28 #[Rv a, Rv b_2, Lv cb, Zs, Us] [(.long cc)]))
      have hCc := hq_79_1
      have hWc := hq_79_2
      have hc0 : cc.toInt = 0 := own_cy3 _ _ _ _ _ _ _ _ hZa hWb hZb hWc (own_Wrng _ _ _ _ _ _ _ _ hCa) (own_Wrng _ _ _ _ _ _ _ _ hCb) (own_Wrng _ _ _ _ _ _ _ _ hCc) hca (fun q => hnb ((own_toI cb).mpr q))
      have hMc := own_M2 _ _ _ _ _ _ rfl hZb hWc hMb
      have sg_84 : ∀ tt_, Steps p.tables e below (T_79.setTop (mkF m 32 #[Rv a, Rv b_2, Lv cc, Zs, Us] [])) tt_ → Steps p.tables e below (T_79.setTop (mkF m 28 #[Rv a, Rv b_2, Lv cb, Zs, Us] [(.long cc)])) tt_ := by
        intro tt_ kt_
        refine XS.lstoreN X_79.here hEX rfl (hb hBY d_prog_59_method_16_code_28) rfl (l' := #[Rv a, Rv b_2, Lv cc, Zs, Us]) rfl ?_
        show Steps p.tables e below (T_79.setTop (mkF m 29 #[Rv a, Rv b_2, Lv cc, Zs, Us] [])) tt_
        refine XS.goto X_79.here hEX rfl (pc0 := 29) (pc' := 13) rfl (hb hBY d_prog_59_method_16_code_29) (by decide) (by decide) ?_
        show Steps p.tables e below (T_79.setTop (mkF m 13 #[Rv a, Rv b_2, Lv cc, Zs, Us] [])) tt_
        refine XS.lloadN X_79.here hEX rfl (hb hBY d_prog_59_method_16_code_13) rfl ?_
        show Steps p.tables e below (T_79.setTop (mkF m 14 #[Rv a, Rv b_2, Lv cc, Zs, Us] [(.long cc)])) tt_
        refine XS.lconst X_79.here hEX rfl (hb hBY d_prog_59_method_16_code_14) ?_
        show Steps p.tables e below (T_79.setTop (mkF m 15 #[Rv a, Rv b_2, Lv cc, Zs, Us] [(.long (0 : Int64)), (.long cc)])) tt_
        refine XS.lcmp X_79.here hEX rfl (hb hBY d_prog_59_method_16_code_15) rfl ?_
        show Steps p.tables e below (T_79.setTop (mkF m 16 #[Rv a, Rv b_2, Lv cc, Zs, Us] [(.int (lcmpW cc (0 : Int64)))])) tt_
        refine XS.ifYes X_79.here hEX rfl (pc0 := 16) (pc' := 32) rfl (hb hBY d_prog_59_method_16_code_16) rfl ((if0 _ _).trans (teq ((lw_eq _ _).mpr ((own_toI cc).mpr hc0 : cc = (0 : Int64)))).1) (by decide) (by decide) ?_
        exact kt_
      refine Done.pre sg_84 ?_
      exact jn_15 T_79 T_79.heap _ X_79 rfl N_79 K__80 (cc) (yc0) (yc1) (yc2) (yc3) (yc4) (yc5) (yc6) (yc7) f_81 f_82 f_83 hq_79_0 hCc (own_M0 _ _ hMc hc0)
theorem d_prog_59_method_5_code_0 : decode prog_59_method_5_code 0 = .ok (.aload_n 0, 1) := by decide +kernel
theorem d_prog_59_method_5_code_1 : decode prog_59_method_5_code 1 = .ok (.invokestatic 27, 3) := by decide +kernel
theorem pd___J__J_6 : parseMethodDescriptor "([J)[J" = some ⟨[(.array .long)], some (.array .long)⟩ := by decide +kernel
theorem d_prog_59_method_5_code_4 : decode prog_59_method_5_code 4 = .ok (.astore_n 1, 1) := by decide +kernel
theorem d_prog_59_method_5_code_5 : decode prog_59_method_5_code 5 = .ok (.iconst 0, 1) := by decide +kernel
theorem d_prog_59_method_5_code_6 : decode prog_59_method_5_code 6 = .ok (.istore_n 2, 1) := by decide +kernel
theorem d_prog_59_method_5_code_7 : decode prog_59_method_5_code 7 = .ok (.iload_n 2, 1) := by decide +kernel
theorem d_prog_59_method_5_code_8 : decode prog_59_method_5_code 8 = .ok (.bipush 8, 2) := by decide +kernel
theorem d_prog_59_method_5_code_10 : decode prog_59_method_5_code 10 = .ok (.if_icmp .ge 19, 3) := by decide +kernel
theorem d_prog_59_method_5_code_13 : decode prog_59_method_5_code 13 = .ok (.aload_n 1, 1) := by decide +kernel
theorem d_prog_59_method_5_code_14 : decode prog_59_method_5_code 14 = .ok (.iload_n 2, 1) := by decide +kernel
theorem d_prog_59_method_5_code_15 : decode prog_59_method_5_code 15 = .ok (.laload, 1) := by decide +kernel
theorem d_prog_59_method_5_code_16 : decode prog_59_method_5_code 16 = .ok (.lconst 0, 1) := by decide +kernel
theorem d_prog_59_method_5_code_17 : decode prog_59_method_5_code 17 = .ok (.lcmp, 1) := by decide +kernel
theorem d_prog_59_method_5_code_18 : decode prog_59_method_5_code 18 = .ok (.ifCond .eq 5, 3) := by decide +kernel
theorem d_prog_59_method_5_code_23 : decode prog_59_method_5_code 23 = .ok (.iinc 2 1, 3) := by decide +kernel
theorem d_prog_59_method_5_code_26 : decode prog_59_method_5_code 26 = .ok (.goto (-19), 3) := by decide +kernel
theorem d_prog_59_method_5_code_29 : decode prog_59_method_5_code 29 = .ok (.iconst 1, 1) := by decide +kernel
theorem d_prog_59_method_5_code_30 : decode prog_59_method_5_code 30 = .ok (.ireturn, 1) := by decide +kernel
def Qrm_isz (Z : State) (a : Addr) (k : ClassId) (x0 : Int64) (x1 : Int64) (x2 : Int64) (x3 : Int64) (x4 : Int64) (x5 : Int64) (x6 : Int64) (x7 : Int64) (h0 : Heap) (n0 : Nat) (v_ : Option Value) (h_ : Heap) (L_ : List Loc) : Prop := v_ = some (.int (1 : Int32)) ∧ Fr n0 L_ ∧ Keep h0 h_ []
theorem ef_rm_isz (m : MethodId) (x0 : Addr) : entryFrame m #[(.ref x0)] 3 = mkF m 0 #[.val (.ref x0), .unset, .unset] [] := by first | (simp [entryFrame, mkF, argsToLocals, Value.category]; done) | rfl
set_option maxRecDepth 65536 in
set_option maxHeartbeats 40000000 in
theorem rm_isz (l : Launch) (Z : State) (aZ : Array Value) (hw : ∀ d ∈ tables_1, d.before aZ Z = true) (ws : List Jvm.Cond) (a : Addr) (k : ClassId) (x0 : Int64) (x1 : Int64) (x2 : Int64) (x3 : Int64) (x4 : Int64) (x5 : Int64) (x6 : Int64) (x7 : Int64) (h0 : Heap) (n0 : Nat) (Z0 : n0 ≤ h0.size) (Aa : Arv Z h0 a k .long (8 : Int32) [(.long x0), (.long x1), (.long x2), (.long x3), (.long x4), (.long x5), (.long x6), (.long x7)] (.long (0 : Int64))) (Ea : Exa Z h0 a "[J") (hR : own_R 562949953421440 x0 x1 x2 x3 x4 x5 x6 x7) (hM : own_M (own_W x0 x1 x2 x3 x4 x5 x6 x7)) :
    MetFree l (⟨"com/example/guard3/guard3/P384Field", "isZero", "([J)Z"⟩ : MethodName) (head1 (Jvm.Cond.code (⟨"com/example/guard3/guard3/P384Field", "isZero", "([J)Z"⟩ : MethodName) prog_59_method_5_code 3 (some .boolean) :: ws) ({ frames := 2, cells := 2, slots := 16, locals := 34 } : Room)) (fun a_ U_ => a_ = #[(.ref a)] ∧ Z.Warmed39 U_.vm ∧ U_.heap = h0) (fun _ _ _ _ _ => True) (fun _ U_ o_ U2_ => ∃ v_ L_, o_ = .returned v_ ∧ Qrm_isz Z a k x0 x1 x2 x3 x4 x5 x6 x7 h0 n0 v_ U2_.heap L_ ∧ FrameEnd U_ o_ U2_ L_ ({ frames := 2, cells := 2, slots := 16, locals := 34 } : Room).cells ({ frames := 2, cells := 2, slots := 16, locals := 34 } : Room).slots) := by
  refine MetFree.of_bodySF (plainFor_of_name pn_com_example_guard3_guard3_P384Field) hisR ?_
  intro p e s m args below meth cO s₁ Bd hml0 hP hK
  obtain ⟨rfl, hZW, hh⟩ := hP
  have hEX := Bd.exec
  have hBY := Bd.bytes
  have hMX : cO.maxLocals = 3 := hml0
  have hOW : s.vm.findClass "com/example/guard3/guard3/P384Field" = some m.cls := findClass_of_methodNamed Bd.named
  have hNM := (name_of_methodNamed Bd.named Bd.method).1
  have hLK := Bd.notSynchronized
  have hRT := Bd.returns
  have X0 : Stand p l e ({ frames := 2, cells := 2, slots := 16, locals := 34 } : Room) s m #[(.ref a)] below meth cO s₁ [] 0 0 := Stand.of_body Bd
  have e0 : s₁.heap = h0 := by rw [← hh, Bd.state]; rfl
  have N0 := Fr.nil n0
  have K0 : Keep h0 h0 [] := Keep.refl _ _
  show Done p e below s (Qrm_isz Z a k x0 x1 x2 x3 x4 x5 x6 x7 h0 n0) ({ frames := 2, cells := 2, slots := 16, locals := 34 } : Room).cells ({ frames := 2, cells := 2, slots := 16, locals := 34 } : Room).slots (s₁.setTop (entryFrame m #[(.ref a)] 3))
  refine Done.pre (fun t_ k_ => castTop (ef_rm_isz m a) k_) ?_
  show Done _ _ _ _ _ _ _ (s₁.setTop (mkF m 0 #[Rv a, Us, Us] []))
  have sg_1 : ∀ tt_, Steps p.tables e below (s₁.setTop (mkF m 1 #[Rv a, Us, Us] [(.ref a)])) tt_ → Steps p.tables e below (s₁.setTop (mkF m 0 #[Rv a, Us, Us] [])) tt_ := by
    intro tt_ kt_
    refine XS.aloadN X0.here hEX rfl (hb hBY d_prog_59_method_5_code_0) rfl rfl ?_
    exact kt_
  refine Done.pre sg_1 ?_
  obtain ⟨_, _, ⟨T_2, L_2, k_2, n_2⟩, -, X_2, ⟨Lc_2, hQ_2, l_2, y_2, z_2⟩, st_2⟩ := Jvm.LawKit.callS X0 hEX (y := (⟨"com/example/guard3/guard3/P384Field", "canonical", "([J)[J"⟩ : MethodName)) hOW (mvT hZW (hw _ (List.mem_of_getElem? (i := 29) rfl))) (mvT hZW (hw _ (List.mem_of_getElem? (i := 30) rfl))) (mvT hZW (hw _ (List.mem_of_getElem? (i := 12) rfl))) (mvT hZW (hw _ (List.mem_of_getElem? (i := 31) rfl))) (by decide) (backOf (W := 0) (rm_canon l Z aZ hw [] a k x0 x1 x2 x3 x4 x5 x6 x7 h0 n0 (Nat.le_trans Z0 K0.1) Aa Ea hR hM) hZW (hw _ (List.mem_of_getElem? (i := 31) rfl)) (hw _ (List.mem_of_getElem? (i := 12) rfl)) (by decide) (by decide)) (g := (mkF m 1 #[Rv a, Us, Us] [(.ref a)])) rfl (by rw [hMX]; rfl) (argsL := [(.ref a)]) (rest := []) (lenOf pd___J__J_6 rfl) rfl (by show 2 * 0 + _ ≤ _; exact Nat.le_of_eq rfl) (hb hBY d_prog_59_method_5_code_1) (fun _ _ => ⟨rfl, e0, (by decide : 0 + 2 ≤ _), (by decide : 0 + 16 ≤ _)⟩)
  dsimp only [Pt.U, Pt.locs, Pt.cells, Pt.slots] at X_2 l_2 y_2 z_2 st_2 hQ_2
  subst l_2 y_2 z_2
  obtain ⟨r__2, kr__2, rfl, N_2q, K_2, hq_2_0, hq_2_1⟩ := hQ_2
  have N_2 := Fr.app N0 N_2q
  have K__3 : Keep h0 T_2.heap [] := K0.trans K_2 all0
  have f_4 : Arv Z T_2.heap a k .long (8 : Int32) [(.long x0), (.long x1), (.long x2), (.long x3), (.long x4), (.long x5), (.long x6), (.long x7)] (.long (0 : Int64)) := Aa.keep K_2 nin0
  have f_5 : Exa Z T_2.heap a "[J" := Ea.keep K_2
  have sz_r__2 : h0.size ≤ r__2 := Nat.le_trans K0.1 hq_2_1
  have ne_a_r__2 : a ≠ r__2 := Nat.ne_of_lt (Nat.lt_of_lt_of_le Aa.lt hq_2_1)
  refine Done.pre (fun _ k_ => st_2 _ k_) ?_
  show Done _ _ _ _ _ _ _ (T_2.setTop (mkF m 4 #[Rv a, Us, Us] [(.ref r__2)]))
  obtain ⟨cl_6, Ar_6, q_6, S_6, N__6, H_6, G_6⟩ := id hq_2_0
  have hin_6 : ¬ ((0 : Int32) < 0 ∨ cl_6.slots.size ≤ ((0 : Int32)).toNatClampNeg) := inb_of S_6 ⟨by decide, by decide⟩
  have hat_6 : cl_6.slots[((0 : Int32)).toNatClampNeg]? = some (.long (0 : Int64)) := H_6.at hin_6 rfl
  obtain ⟨cl_7, Ar_7, q_7, S_7, N__7, H_7, G_7⟩ := id hq_2_0
  have hin_7 : ¬ ((1 : Int32) < 0 ∨ cl_7.slots.size ≤ ((1 : Int32)).toNatClampNeg) := inb_of S_7 ⟨by decide, by decide⟩
  have hat_7 : cl_7.slots[((1 : Int32)).toNatClampNeg]? = some (.long (0 : Int64)) := H_7.at hin_7 rfl
  obtain ⟨cl_8, Ar_8, q_8, S_8, N__8, H_8, G_8⟩ := id hq_2_0
  have hin_8 : ¬ ((2 : Int32) < 0 ∨ cl_8.slots.size ≤ ((2 : Int32)).toNatClampNeg) := inb_of S_8 ⟨by decide, by decide⟩
  have hat_8 : cl_8.slots[((2 : Int32)).toNatClampNeg]? = some (.long (0 : Int64)) := H_8.at hin_8 rfl
  obtain ⟨cl_9, Ar_9, q_9, S_9, N__9, H_9, G_9⟩ := id hq_2_0
  have hin_9 : ¬ ((3 : Int32) < 0 ∨ cl_9.slots.size ≤ ((3 : Int32)).toNatClampNeg) := inb_of S_9 ⟨by decide, by decide⟩
  have hat_9 : cl_9.slots[((3 : Int32)).toNatClampNeg]? = some (.long (0 : Int64)) := H_9.at hin_9 rfl
  obtain ⟨cl_10, Ar_10, q_10, S_10, N__10, H_10, G_10⟩ := id hq_2_0
  have hin_10 : ¬ ((4 : Int32) < 0 ∨ cl_10.slots.size ≤ ((4 : Int32)).toNatClampNeg) := inb_of S_10 ⟨by decide, by decide⟩
  have hat_10 : cl_10.slots[((4 : Int32)).toNatClampNeg]? = some (.long (0 : Int64)) := H_10.at hin_10 rfl
  obtain ⟨cl_11, Ar_11, q_11, S_11, N__11, H_11, G_11⟩ := id hq_2_0
  have hin_11 : ¬ ((5 : Int32) < 0 ∨ cl_11.slots.size ≤ ((5 : Int32)).toNatClampNeg) := inb_of S_11 ⟨by decide, by decide⟩
  have hat_11 : cl_11.slots[((5 : Int32)).toNatClampNeg]? = some (.long (0 : Int64)) := H_11.at hin_11 rfl
  obtain ⟨cl_12, Ar_12, q_12, S_12, N__12, H_12, G_12⟩ := id hq_2_0
  have hin_12 : ¬ ((6 : Int32) < 0 ∨ cl_12.slots.size ≤ ((6 : Int32)).toNatClampNeg) := inb_of S_12 ⟨by decide, by decide⟩
  have hat_12 : cl_12.slots[((6 : Int32)).toNatClampNeg]? = some (.long (0 : Int64)) := H_12.at hin_12 rfl
  obtain ⟨cl_13, Ar_13, q_13, S_13, N__13, H_13, G_13⟩ := id hq_2_0
  have hin_13 : ¬ ((7 : Int32) < 0 ∨ cl_13.slots.size ≤ ((7 : Int32)).toNatClampNeg) := inb_of S_13 ⟨by decide, by decide⟩
  have hat_13 : cl_13.slots[((7 : Int32)).toNatClampNeg]? = some (.long (0 : Int64)) := H_13.at hin_13 rfl
  have sg_14 : ∀ tt_, Steps p.tables e below (T_2.setTop (mkF m 30 #[Rv a, Rv r__2, Iv (8 : Int32)] [(.int (1 : Int32))])) tt_ → Steps p.tables e below (T_2.setTop (mkF m 4 #[Rv a, Us, Us] [(.ref r__2)])) tt_ := by
    intro tt_ kt_
    refine XS.astoreN X_2.here hEX rfl (hb hBY d_prog_59_method_5_code_4) rfl rfl (l' := #[Rv a, Rv r__2, Us]) rfl ?_
    show Steps p.tables e below (T_2.setTop (mkF m 5 #[Rv a, Rv r__2, Us] [])) tt_
    refine XS.iconst X_2.here hEX rfl (hb hBY d_prog_59_method_5_code_5) ?_
    show Steps p.tables e below (T_2.setTop (mkF m 6 #[Rv a, Rv r__2, Us] [(.int (0 : Int32))])) tt_
    refine XS.istoreN X_2.here hEX rfl (hb hBY d_prog_59_method_5_code_6) rfl (l' := #[Rv a, Rv r__2, Iv (0 : Int32)]) rfl ?_
    show Steps p.tables e below (T_2.setTop (mkF m 7 #[Rv a, Rv r__2, Iv (0 : Int32)] [])) tt_
    refine XS.iloadN X_2.here hEX rfl (hb hBY d_prog_59_method_5_code_7) rfl ?_
    show Steps p.tables e below (T_2.setTop (mkF m 8 #[Rv a, Rv r__2, Iv (0 : Int32)] [(.int (0 : Int32))])) tt_
    refine XS.bipush X_2.here hEX rfl (hb hBY d_prog_59_method_5_code_8) ?_
    show Steps p.tables e below (T_2.setTop (mkF m 10 #[Rv a, Rv r__2, Iv (0 : Int32)] [(.int (8 : Int32)), (.int (0 : Int32))])) tt_
    refine XS.icmpNo X_2.here hEX rfl (hb hBY d_prog_59_method_5_code_10) rfl (tlt (by decide : (0 : Int32) < (8 : Int32))).2.1 ?_
    show Steps p.tables e below (T_2.setTop (mkF m 13 #[Rv a, Rv r__2, Iv (0 : Int32)] [])) tt_
    refine XS.aloadN X_2.here hEX rfl (hb hBY d_prog_59_method_5_code_13) rfl rfl ?_
    show Steps p.tables e below (T_2.setTop (mkF m 14 #[Rv a, Rv r__2, Iv (0 : Int32)] [(.ref r__2)])) tt_
    refine XS.iloadN X_2.here hEX rfl (hb hBY d_prog_59_method_5_code_14) rfl ?_
    show Steps p.tables e below (T_2.setTop (mkF m 15 #[Rv a, Rv r__2, Iv (0 : Int32)] [(.int (0 : Int32)), (.ref r__2)])) tt_
    refine X_2.laload hEX (j := (0 : Int32)) (v := (.long (0 : Int64))) Ar_6.1 (State.isArrayOf_alike hZW.alike Ar_6.2.1) Ar_6.2.2 hin_6 hat_6 (g := (mkF m 15 #[Rv a, Rv r__2, Iv (0 : Int32)] [(.int (0 : Int32)), (.ref r__2)])) rfl rfl (hb hBY d_prog_59_method_5_code_15) _ ?_
    show Steps p.tables e below (T_2.setTop (mkF m 16 #[Rv a, Rv r__2, Iv (0 : Int32)] [(.long (0 : Int64))])) tt_
    refine XS.lconst X_2.here hEX rfl (hb hBY d_prog_59_method_5_code_16) ?_
    show Steps p.tables e below (T_2.setTop (mkF m 17 #[Rv a, Rv r__2, Iv (0 : Int32)] [(.long (0 : Int64)), (.long (0 : Int64))])) tt_
    refine XS.lcmp X_2.here hEX rfl (hb hBY d_prog_59_method_5_code_17) rfl ?_
    show Steps p.tables e below (T_2.setTop (mkF m 18 #[Rv a, Rv r__2, Iv (0 : Int32)] [(.int (lcmpW (0 : Int64) (0 : Int64)))])) tt_
    refine XS.ifYes X_2.here hEX rfl (pc0 := 18) (pc' := 23) rfl (hb hBY d_prog_59_method_5_code_18) rfl ((if0 _ _).trans (teq ((lw_eq _ _).mpr (by decide : (0 : Int64) = (0 : Int64)))).1) (by decide) (by decide) ?_
    show Steps p.tables e below (T_2.setTop (mkF m 23 #[Rv a, Rv r__2, Iv (0 : Int32)] [])) tt_
    refine XS.iinc X_2.here hEX rfl (hb hBY d_prog_59_method_5_code_23) rfl (l' := #[Rv a, Rv r__2, Iv (1 : Int32)]) rfl ?_
    show Steps p.tables e below (T_2.setTop (mkF m 26 #[Rv a, Rv r__2, Iv (1 : Int32)] [])) tt_
    refine XS.goto X_2.here hEX rfl (pc0 := 26) (pc' := 7) rfl (hb hBY d_prog_59_method_5_code_26) (by decide) (by decide) ?_
    show Steps p.tables e below (T_2.setTop (mkF m 7 #[Rv a, Rv r__2, Iv (1 : Int32)] [])) tt_
    refine XS.iloadN X_2.here hEX rfl (hb hBY d_prog_59_method_5_code_7) rfl ?_
    show Steps p.tables e below (T_2.setTop (mkF m 8 #[Rv a, Rv r__2, Iv (1 : Int32)] [(.int (1 : Int32))])) tt_
    refine XS.bipush X_2.here hEX rfl (hb hBY d_prog_59_method_5_code_8) ?_
    show Steps p.tables e below (T_2.setTop (mkF m 10 #[Rv a, Rv r__2, Iv (1 : Int32)] [(.int (8 : Int32)), (.int (1 : Int32))])) tt_
    refine XS.icmpNo X_2.here hEX rfl (hb hBY d_prog_59_method_5_code_10) rfl (tlt (by decide : (1 : Int32) < (8 : Int32))).2.1 ?_
    show Steps p.tables e below (T_2.setTop (mkF m 13 #[Rv a, Rv r__2, Iv (1 : Int32)] [])) tt_
    refine XS.aloadN X_2.here hEX rfl (hb hBY d_prog_59_method_5_code_13) rfl rfl ?_
    show Steps p.tables e below (T_2.setTop (mkF m 14 #[Rv a, Rv r__2, Iv (1 : Int32)] [(.ref r__2)])) tt_
    refine XS.iloadN X_2.here hEX rfl (hb hBY d_prog_59_method_5_code_14) rfl ?_
    show Steps p.tables e below (T_2.setTop (mkF m 15 #[Rv a, Rv r__2, Iv (1 : Int32)] [(.int (1 : Int32)), (.ref r__2)])) tt_
    refine X_2.laload hEX (j := (1 : Int32)) (v := (.long (0 : Int64))) Ar_7.1 (State.isArrayOf_alike hZW.alike Ar_7.2.1) Ar_7.2.2 hin_7 hat_7 (g := (mkF m 15 #[Rv a, Rv r__2, Iv (1 : Int32)] [(.int (1 : Int32)), (.ref r__2)])) rfl rfl (hb hBY d_prog_59_method_5_code_15) _ ?_
    show Steps p.tables e below (T_2.setTop (mkF m 16 #[Rv a, Rv r__2, Iv (1 : Int32)] [(.long (0 : Int64))])) tt_
    refine XS.lconst X_2.here hEX rfl (hb hBY d_prog_59_method_5_code_16) ?_
    show Steps p.tables e below (T_2.setTop (mkF m 17 #[Rv a, Rv r__2, Iv (1 : Int32)] [(.long (0 : Int64)), (.long (0 : Int64))])) tt_
    refine XS.lcmp X_2.here hEX rfl (hb hBY d_prog_59_method_5_code_17) rfl ?_
    show Steps p.tables e below (T_2.setTop (mkF m 18 #[Rv a, Rv r__2, Iv (1 : Int32)] [(.int (lcmpW (0 : Int64) (0 : Int64)))])) tt_
    refine XS.ifYes X_2.here hEX rfl (pc0 := 18) (pc' := 23) rfl (hb hBY d_prog_59_method_5_code_18) rfl ((if0 _ _).trans (teq ((lw_eq _ _).mpr (by decide : (0 : Int64) = (0 : Int64)))).1) (by decide) (by decide) ?_
    show Steps p.tables e below (T_2.setTop (mkF m 23 #[Rv a, Rv r__2, Iv (1 : Int32)] [])) tt_
    refine XS.iinc X_2.here hEX rfl (hb hBY d_prog_59_method_5_code_23) rfl (l' := #[Rv a, Rv r__2, Iv (2 : Int32)]) rfl ?_
    show Steps p.tables e below (T_2.setTop (mkF m 26 #[Rv a, Rv r__2, Iv (2 : Int32)] [])) tt_
    refine XS.goto X_2.here hEX rfl (pc0 := 26) (pc' := 7) rfl (hb hBY d_prog_59_method_5_code_26) (by decide) (by decide) ?_
    show Steps p.tables e below (T_2.setTop (mkF m 7 #[Rv a, Rv r__2, Iv (2 : Int32)] [])) tt_
    refine XS.iloadN X_2.here hEX rfl (hb hBY d_prog_59_method_5_code_7) rfl ?_
    show Steps p.tables e below (T_2.setTop (mkF m 8 #[Rv a, Rv r__2, Iv (2 : Int32)] [(.int (2 : Int32))])) tt_
    refine XS.bipush X_2.here hEX rfl (hb hBY d_prog_59_method_5_code_8) ?_
    show Steps p.tables e below (T_2.setTop (mkF m 10 #[Rv a, Rv r__2, Iv (2 : Int32)] [(.int (8 : Int32)), (.int (2 : Int32))])) tt_
    refine XS.icmpNo X_2.here hEX rfl (hb hBY d_prog_59_method_5_code_10) rfl (tlt (by decide : (2 : Int32) < (8 : Int32))).2.1 ?_
    show Steps p.tables e below (T_2.setTop (mkF m 13 #[Rv a, Rv r__2, Iv (2 : Int32)] [])) tt_
    refine XS.aloadN X_2.here hEX rfl (hb hBY d_prog_59_method_5_code_13) rfl rfl ?_
    show Steps p.tables e below (T_2.setTop (mkF m 14 #[Rv a, Rv r__2, Iv (2 : Int32)] [(.ref r__2)])) tt_
    refine XS.iloadN X_2.here hEX rfl (hb hBY d_prog_59_method_5_code_14) rfl ?_
    show Steps p.tables e below (T_2.setTop (mkF m 15 #[Rv a, Rv r__2, Iv (2 : Int32)] [(.int (2 : Int32)), (.ref r__2)])) tt_
    refine X_2.laload hEX (j := (2 : Int32)) (v := (.long (0 : Int64))) Ar_8.1 (State.isArrayOf_alike hZW.alike Ar_8.2.1) Ar_8.2.2 hin_8 hat_8 (g := (mkF m 15 #[Rv a, Rv r__2, Iv (2 : Int32)] [(.int (2 : Int32)), (.ref r__2)])) rfl rfl (hb hBY d_prog_59_method_5_code_15) _ ?_
    show Steps p.tables e below (T_2.setTop (mkF m 16 #[Rv a, Rv r__2, Iv (2 : Int32)] [(.long (0 : Int64))])) tt_
    refine XS.lconst X_2.here hEX rfl (hb hBY d_prog_59_method_5_code_16) ?_
    show Steps p.tables e below (T_2.setTop (mkF m 17 #[Rv a, Rv r__2, Iv (2 : Int32)] [(.long (0 : Int64)), (.long (0 : Int64))])) tt_
    refine XS.lcmp X_2.here hEX rfl (hb hBY d_prog_59_method_5_code_17) rfl ?_
    show Steps p.tables e below (T_2.setTop (mkF m 18 #[Rv a, Rv r__2, Iv (2 : Int32)] [(.int (lcmpW (0 : Int64) (0 : Int64)))])) tt_
    refine XS.ifYes X_2.here hEX rfl (pc0 := 18) (pc' := 23) rfl (hb hBY d_prog_59_method_5_code_18) rfl ((if0 _ _).trans (teq ((lw_eq _ _).mpr (by decide : (0 : Int64) = (0 : Int64)))).1) (by decide) (by decide) ?_
    show Steps p.tables e below (T_2.setTop (mkF m 23 #[Rv a, Rv r__2, Iv (2 : Int32)] [])) tt_
    refine XS.iinc X_2.here hEX rfl (hb hBY d_prog_59_method_5_code_23) rfl (l' := #[Rv a, Rv r__2, Iv (3 : Int32)]) rfl ?_
    show Steps p.tables e below (T_2.setTop (mkF m 26 #[Rv a, Rv r__2, Iv (3 : Int32)] [])) tt_
    refine XS.goto X_2.here hEX rfl (pc0 := 26) (pc' := 7) rfl (hb hBY d_prog_59_method_5_code_26) (by decide) (by decide) ?_
    show Steps p.tables e below (T_2.setTop (mkF m 7 #[Rv a, Rv r__2, Iv (3 : Int32)] [])) tt_
    refine XS.iloadN X_2.here hEX rfl (hb hBY d_prog_59_method_5_code_7) rfl ?_
    show Steps p.tables e below (T_2.setTop (mkF m 8 #[Rv a, Rv r__2, Iv (3 : Int32)] [(.int (3 : Int32))])) tt_
    refine XS.bipush X_2.here hEX rfl (hb hBY d_prog_59_method_5_code_8) ?_
    show Steps p.tables e below (T_2.setTop (mkF m 10 #[Rv a, Rv r__2, Iv (3 : Int32)] [(.int (8 : Int32)), (.int (3 : Int32))])) tt_
    refine XS.icmpNo X_2.here hEX rfl (hb hBY d_prog_59_method_5_code_10) rfl (tlt (by decide : (3 : Int32) < (8 : Int32))).2.1 ?_
    show Steps p.tables e below (T_2.setTop (mkF m 13 #[Rv a, Rv r__2, Iv (3 : Int32)] [])) tt_
    refine XS.aloadN X_2.here hEX rfl (hb hBY d_prog_59_method_5_code_13) rfl rfl ?_
    show Steps p.tables e below (T_2.setTop (mkF m 14 #[Rv a, Rv r__2, Iv (3 : Int32)] [(.ref r__2)])) tt_
    refine XS.iloadN X_2.here hEX rfl (hb hBY d_prog_59_method_5_code_14) rfl ?_
    show Steps p.tables e below (T_2.setTop (mkF m 15 #[Rv a, Rv r__2, Iv (3 : Int32)] [(.int (3 : Int32)), (.ref r__2)])) tt_
    refine X_2.laload hEX (j := (3 : Int32)) (v := (.long (0 : Int64))) Ar_9.1 (State.isArrayOf_alike hZW.alike Ar_9.2.1) Ar_9.2.2 hin_9 hat_9 (g := (mkF m 15 #[Rv a, Rv r__2, Iv (3 : Int32)] [(.int (3 : Int32)), (.ref r__2)])) rfl rfl (hb hBY d_prog_59_method_5_code_15) _ ?_
    show Steps p.tables e below (T_2.setTop (mkF m 16 #[Rv a, Rv r__2, Iv (3 : Int32)] [(.long (0 : Int64))])) tt_
    refine XS.lconst X_2.here hEX rfl (hb hBY d_prog_59_method_5_code_16) ?_
    show Steps p.tables e below (T_2.setTop (mkF m 17 #[Rv a, Rv r__2, Iv (3 : Int32)] [(.long (0 : Int64)), (.long (0 : Int64))])) tt_
    refine XS.lcmp X_2.here hEX rfl (hb hBY d_prog_59_method_5_code_17) rfl ?_
    show Steps p.tables e below (T_2.setTop (mkF m 18 #[Rv a, Rv r__2, Iv (3 : Int32)] [(.int (lcmpW (0 : Int64) (0 : Int64)))])) tt_
    refine XS.ifYes X_2.here hEX rfl (pc0 := 18) (pc' := 23) rfl (hb hBY d_prog_59_method_5_code_18) rfl ((if0 _ _).trans (teq ((lw_eq _ _).mpr (by decide : (0 : Int64) = (0 : Int64)))).1) (by decide) (by decide) ?_
    show Steps p.tables e below (T_2.setTop (mkF m 23 #[Rv a, Rv r__2, Iv (3 : Int32)] [])) tt_
    refine XS.iinc X_2.here hEX rfl (hb hBY d_prog_59_method_5_code_23) rfl (l' := #[Rv a, Rv r__2, Iv (4 : Int32)]) rfl ?_
    show Steps p.tables e below (T_2.setTop (mkF m 26 #[Rv a, Rv r__2, Iv (4 : Int32)] [])) tt_
    refine XS.goto X_2.here hEX rfl (pc0 := 26) (pc' := 7) rfl (hb hBY d_prog_59_method_5_code_26) (by decide) (by decide) ?_
    show Steps p.tables e below (T_2.setTop (mkF m 7 #[Rv a, Rv r__2, Iv (4 : Int32)] [])) tt_
    refine XS.iloadN X_2.here hEX rfl (hb hBY d_prog_59_method_5_code_7) rfl ?_
    show Steps p.tables e below (T_2.setTop (mkF m 8 #[Rv a, Rv r__2, Iv (4 : Int32)] [(.int (4 : Int32))])) tt_
    refine XS.bipush X_2.here hEX rfl (hb hBY d_prog_59_method_5_code_8) ?_
    show Steps p.tables e below (T_2.setTop (mkF m 10 #[Rv a, Rv r__2, Iv (4 : Int32)] [(.int (8 : Int32)), (.int (4 : Int32))])) tt_
    refine XS.icmpNo X_2.here hEX rfl (hb hBY d_prog_59_method_5_code_10) rfl (tlt (by decide : (4 : Int32) < (8 : Int32))).2.1 ?_
    show Steps p.tables e below (T_2.setTop (mkF m 13 #[Rv a, Rv r__2, Iv (4 : Int32)] [])) tt_
    refine XS.aloadN X_2.here hEX rfl (hb hBY d_prog_59_method_5_code_13) rfl rfl ?_
    show Steps p.tables e below (T_2.setTop (mkF m 14 #[Rv a, Rv r__2, Iv (4 : Int32)] [(.ref r__2)])) tt_
    refine XS.iloadN X_2.here hEX rfl (hb hBY d_prog_59_method_5_code_14) rfl ?_
    show Steps p.tables e below (T_2.setTop (mkF m 15 #[Rv a, Rv r__2, Iv (4 : Int32)] [(.int (4 : Int32)), (.ref r__2)])) tt_
    refine X_2.laload hEX (j := (4 : Int32)) (v := (.long (0 : Int64))) Ar_10.1 (State.isArrayOf_alike hZW.alike Ar_10.2.1) Ar_10.2.2 hin_10 hat_10 (g := (mkF m 15 #[Rv a, Rv r__2, Iv (4 : Int32)] [(.int (4 : Int32)), (.ref r__2)])) rfl rfl (hb hBY d_prog_59_method_5_code_15) _ ?_
    show Steps p.tables e below (T_2.setTop (mkF m 16 #[Rv a, Rv r__2, Iv (4 : Int32)] [(.long (0 : Int64))])) tt_
    refine XS.lconst X_2.here hEX rfl (hb hBY d_prog_59_method_5_code_16) ?_
    show Steps p.tables e below (T_2.setTop (mkF m 17 #[Rv a, Rv r__2, Iv (4 : Int32)] [(.long (0 : Int64)), (.long (0 : Int64))])) tt_
    refine XS.lcmp X_2.here hEX rfl (hb hBY d_prog_59_method_5_code_17) rfl ?_
    show Steps p.tables e below (T_2.setTop (mkF m 18 #[Rv a, Rv r__2, Iv (4 : Int32)] [(.int (lcmpW (0 : Int64) (0 : Int64)))])) tt_
    refine XS.ifYes X_2.here hEX rfl (pc0 := 18) (pc' := 23) rfl (hb hBY d_prog_59_method_5_code_18) rfl ((if0 _ _).trans (teq ((lw_eq _ _).mpr (by decide : (0 : Int64) = (0 : Int64)))).1) (by decide) (by decide) ?_
    show Steps p.tables e below (T_2.setTop (mkF m 23 #[Rv a, Rv r__2, Iv (4 : Int32)] [])) tt_
    refine XS.iinc X_2.here hEX rfl (hb hBY d_prog_59_method_5_code_23) rfl (l' := #[Rv a, Rv r__2, Iv (5 : Int32)]) rfl ?_
    show Steps p.tables e below (T_2.setTop (mkF m 26 #[Rv a, Rv r__2, Iv (5 : Int32)] [])) tt_
    refine XS.goto X_2.here hEX rfl (pc0 := 26) (pc' := 7) rfl (hb hBY d_prog_59_method_5_code_26) (by decide) (by decide) ?_
    show Steps p.tables e below (T_2.setTop (mkF m 7 #[Rv a, Rv r__2, Iv (5 : Int32)] [])) tt_
    refine XS.iloadN X_2.here hEX rfl (hb hBY d_prog_59_method_5_code_7) rfl ?_
    show Steps p.tables e below (T_2.setTop (mkF m 8 #[Rv a, Rv r__2, Iv (5 : Int32)] [(.int (5 : Int32))])) tt_
    refine XS.bipush X_2.here hEX rfl (hb hBY d_prog_59_method_5_code_8) ?_
    show Steps p.tables e below (T_2.setTop (mkF m 10 #[Rv a, Rv r__2, Iv (5 : Int32)] [(.int (8 : Int32)), (.int (5 : Int32))])) tt_
    refine XS.icmpNo X_2.here hEX rfl (hb hBY d_prog_59_method_5_code_10) rfl (tlt (by decide : (5 : Int32) < (8 : Int32))).2.1 ?_
    show Steps p.tables e below (T_2.setTop (mkF m 13 #[Rv a, Rv r__2, Iv (5 : Int32)] [])) tt_
    refine XS.aloadN X_2.here hEX rfl (hb hBY d_prog_59_method_5_code_13) rfl rfl ?_
    show Steps p.tables e below (T_2.setTop (mkF m 14 #[Rv a, Rv r__2, Iv (5 : Int32)] [(.ref r__2)])) tt_
    refine XS.iloadN X_2.here hEX rfl (hb hBY d_prog_59_method_5_code_14) rfl ?_
    show Steps p.tables e below (T_2.setTop (mkF m 15 #[Rv a, Rv r__2, Iv (5 : Int32)] [(.int (5 : Int32)), (.ref r__2)])) tt_
    refine X_2.laload hEX (j := (5 : Int32)) (v := (.long (0 : Int64))) Ar_11.1 (State.isArrayOf_alike hZW.alike Ar_11.2.1) Ar_11.2.2 hin_11 hat_11 (g := (mkF m 15 #[Rv a, Rv r__2, Iv (5 : Int32)] [(.int (5 : Int32)), (.ref r__2)])) rfl rfl (hb hBY d_prog_59_method_5_code_15) _ ?_
    show Steps p.tables e below (T_2.setTop (mkF m 16 #[Rv a, Rv r__2, Iv (5 : Int32)] [(.long (0 : Int64))])) tt_
    refine XS.lconst X_2.here hEX rfl (hb hBY d_prog_59_method_5_code_16) ?_
    show Steps p.tables e below (T_2.setTop (mkF m 17 #[Rv a, Rv r__2, Iv (5 : Int32)] [(.long (0 : Int64)), (.long (0 : Int64))])) tt_
    refine XS.lcmp X_2.here hEX rfl (hb hBY d_prog_59_method_5_code_17) rfl ?_
    show Steps p.tables e below (T_2.setTop (mkF m 18 #[Rv a, Rv r__2, Iv (5 : Int32)] [(.int (lcmpW (0 : Int64) (0 : Int64)))])) tt_
    refine XS.ifYes X_2.here hEX rfl (pc0 := 18) (pc' := 23) rfl (hb hBY d_prog_59_method_5_code_18) rfl ((if0 _ _).trans (teq ((lw_eq _ _).mpr (by decide : (0 : Int64) = (0 : Int64)))).1) (by decide) (by decide) ?_
    show Steps p.tables e below (T_2.setTop (mkF m 23 #[Rv a, Rv r__2, Iv (5 : Int32)] [])) tt_
    refine XS.iinc X_2.here hEX rfl (hb hBY d_prog_59_method_5_code_23) rfl (l' := #[Rv a, Rv r__2, Iv (6 : Int32)]) rfl ?_
    show Steps p.tables e below (T_2.setTop (mkF m 26 #[Rv a, Rv r__2, Iv (6 : Int32)] [])) tt_
    refine XS.goto X_2.here hEX rfl (pc0 := 26) (pc' := 7) rfl (hb hBY d_prog_59_method_5_code_26) (by decide) (by decide) ?_
    show Steps p.tables e below (T_2.setTop (mkF m 7 #[Rv a, Rv r__2, Iv (6 : Int32)] [])) tt_
    refine XS.iloadN X_2.here hEX rfl (hb hBY d_prog_59_method_5_code_7) rfl ?_
    show Steps p.tables e below (T_2.setTop (mkF m 8 #[Rv a, Rv r__2, Iv (6 : Int32)] [(.int (6 : Int32))])) tt_
    refine XS.bipush X_2.here hEX rfl (hb hBY d_prog_59_method_5_code_8) ?_
    show Steps p.tables e below (T_2.setTop (mkF m 10 #[Rv a, Rv r__2, Iv (6 : Int32)] [(.int (8 : Int32)), (.int (6 : Int32))])) tt_
    refine XS.icmpNo X_2.here hEX rfl (hb hBY d_prog_59_method_5_code_10) rfl (tlt (by decide : (6 : Int32) < (8 : Int32))).2.1 ?_
    show Steps p.tables e below (T_2.setTop (mkF m 13 #[Rv a, Rv r__2, Iv (6 : Int32)] [])) tt_
    refine XS.aloadN X_2.here hEX rfl (hb hBY d_prog_59_method_5_code_13) rfl rfl ?_
    show Steps p.tables e below (T_2.setTop (mkF m 14 #[Rv a, Rv r__2, Iv (6 : Int32)] [(.ref r__2)])) tt_
    refine XS.iloadN X_2.here hEX rfl (hb hBY d_prog_59_method_5_code_14) rfl ?_
    show Steps p.tables e below (T_2.setTop (mkF m 15 #[Rv a, Rv r__2, Iv (6 : Int32)] [(.int (6 : Int32)), (.ref r__2)])) tt_
    refine X_2.laload hEX (j := (6 : Int32)) (v := (.long (0 : Int64))) Ar_12.1 (State.isArrayOf_alike hZW.alike Ar_12.2.1) Ar_12.2.2 hin_12 hat_12 (g := (mkF m 15 #[Rv a, Rv r__2, Iv (6 : Int32)] [(.int (6 : Int32)), (.ref r__2)])) rfl rfl (hb hBY d_prog_59_method_5_code_15) _ ?_
    show Steps p.tables e below (T_2.setTop (mkF m 16 #[Rv a, Rv r__2, Iv (6 : Int32)] [(.long (0 : Int64))])) tt_
    refine XS.lconst X_2.here hEX rfl (hb hBY d_prog_59_method_5_code_16) ?_
    show Steps p.tables e below (T_2.setTop (mkF m 17 #[Rv a, Rv r__2, Iv (6 : Int32)] [(.long (0 : Int64)), (.long (0 : Int64))])) tt_
    refine XS.lcmp X_2.here hEX rfl (hb hBY d_prog_59_method_5_code_17) rfl ?_
    show Steps p.tables e below (T_2.setTop (mkF m 18 #[Rv a, Rv r__2, Iv (6 : Int32)] [(.int (lcmpW (0 : Int64) (0 : Int64)))])) tt_
    refine XS.ifYes X_2.here hEX rfl (pc0 := 18) (pc' := 23) rfl (hb hBY d_prog_59_method_5_code_18) rfl ((if0 _ _).trans (teq ((lw_eq _ _).mpr (by decide : (0 : Int64) = (0 : Int64)))).1) (by decide) (by decide) ?_
    show Steps p.tables e below (T_2.setTop (mkF m 23 #[Rv a, Rv r__2, Iv (6 : Int32)] [])) tt_
    refine XS.iinc X_2.here hEX rfl (hb hBY d_prog_59_method_5_code_23) rfl (l' := #[Rv a, Rv r__2, Iv (7 : Int32)]) rfl ?_
    show Steps p.tables e below (T_2.setTop (mkF m 26 #[Rv a, Rv r__2, Iv (7 : Int32)] [])) tt_
    refine XS.goto X_2.here hEX rfl (pc0 := 26) (pc' := 7) rfl (hb hBY d_prog_59_method_5_code_26) (by decide) (by decide) ?_
    show Steps p.tables e below (T_2.setTop (mkF m 7 #[Rv a, Rv r__2, Iv (7 : Int32)] [])) tt_
    refine XS.iloadN X_2.here hEX rfl (hb hBY d_prog_59_method_5_code_7) rfl ?_
    show Steps p.tables e below (T_2.setTop (mkF m 8 #[Rv a, Rv r__2, Iv (7 : Int32)] [(.int (7 : Int32))])) tt_
    refine XS.bipush X_2.here hEX rfl (hb hBY d_prog_59_method_5_code_8) ?_
    show Steps p.tables e below (T_2.setTop (mkF m 10 #[Rv a, Rv r__2, Iv (7 : Int32)] [(.int (8 : Int32)), (.int (7 : Int32))])) tt_
    refine XS.icmpNo X_2.here hEX rfl (hb hBY d_prog_59_method_5_code_10) rfl (tlt (by decide : (7 : Int32) < (8 : Int32))).2.1 ?_
    show Steps p.tables e below (T_2.setTop (mkF m 13 #[Rv a, Rv r__2, Iv (7 : Int32)] [])) tt_
    refine XS.aloadN X_2.here hEX rfl (hb hBY d_prog_59_method_5_code_13) rfl rfl ?_
    show Steps p.tables e below (T_2.setTop (mkF m 14 #[Rv a, Rv r__2, Iv (7 : Int32)] [(.ref r__2)])) tt_
    refine XS.iloadN X_2.here hEX rfl (hb hBY d_prog_59_method_5_code_14) rfl ?_
    show Steps p.tables e below (T_2.setTop (mkF m 15 #[Rv a, Rv r__2, Iv (7 : Int32)] [(.int (7 : Int32)), (.ref r__2)])) tt_
    refine X_2.laload hEX (j := (7 : Int32)) (v := (.long (0 : Int64))) Ar_13.1 (State.isArrayOf_alike hZW.alike Ar_13.2.1) Ar_13.2.2 hin_13 hat_13 (g := (mkF m 15 #[Rv a, Rv r__2, Iv (7 : Int32)] [(.int (7 : Int32)), (.ref r__2)])) rfl rfl (hb hBY d_prog_59_method_5_code_15) _ ?_
    show Steps p.tables e below (T_2.setTop (mkF m 16 #[Rv a, Rv r__2, Iv (7 : Int32)] [(.long (0 : Int64))])) tt_
    refine XS.lconst X_2.here hEX rfl (hb hBY d_prog_59_method_5_code_16) ?_
    show Steps p.tables e below (T_2.setTop (mkF m 17 #[Rv a, Rv r__2, Iv (7 : Int32)] [(.long (0 : Int64)), (.long (0 : Int64))])) tt_
    refine XS.lcmp X_2.here hEX rfl (hb hBY d_prog_59_method_5_code_17) rfl ?_
    show Steps p.tables e below (T_2.setTop (mkF m 18 #[Rv a, Rv r__2, Iv (7 : Int32)] [(.int (lcmpW (0 : Int64) (0 : Int64)))])) tt_
    refine XS.ifYes X_2.here hEX rfl (pc0 := 18) (pc' := 23) rfl (hb hBY d_prog_59_method_5_code_18) rfl ((if0 _ _).trans (teq ((lw_eq _ _).mpr (by decide : (0 : Int64) = (0 : Int64)))).1) (by decide) (by decide) ?_
    show Steps p.tables e below (T_2.setTop (mkF m 23 #[Rv a, Rv r__2, Iv (7 : Int32)] [])) tt_
    refine XS.iinc X_2.here hEX rfl (hb hBY d_prog_59_method_5_code_23) rfl (l' := #[Rv a, Rv r__2, Iv (8 : Int32)]) rfl ?_
    show Steps p.tables e below (T_2.setTop (mkF m 26 #[Rv a, Rv r__2, Iv (8 : Int32)] [])) tt_
    refine XS.goto X_2.here hEX rfl (pc0 := 26) (pc' := 7) rfl (hb hBY d_prog_59_method_5_code_26) (by decide) (by decide) ?_
    show Steps p.tables e below (T_2.setTop (mkF m 7 #[Rv a, Rv r__2, Iv (8 : Int32)] [])) tt_
    refine XS.iloadN X_2.here hEX rfl (hb hBY d_prog_59_method_5_code_7) rfl ?_
    show Steps p.tables e below (T_2.setTop (mkF m 8 #[Rv a, Rv r__2, Iv (8 : Int32)] [(.int (8 : Int32))])) tt_
    refine XS.bipush X_2.here hEX rfl (hb hBY d_prog_59_method_5_code_8) ?_
    show Steps p.tables e below (T_2.setTop (mkF m 10 #[Rv a, Rv r__2, Iv (8 : Int32)] [(.int (8 : Int32)), (.int (8 : Int32))])) tt_
    refine XS.icmpYes X_2.here hEX rfl (pc0 := 10) (pc' := 29) rfl (hb hBY d_prog_59_method_5_code_10) rfl (flt (by decide : ¬ ((8 : Int32) < (8 : Int32)))).2.1 (by decide) (by decide) ?_
    show Steps p.tables e below (T_2.setTop (mkF m 29 #[Rv a, Rv r__2, Iv (8 : Int32)] [])) tt_
    refine XS.iconst X_2.here hEX rfl (hb hBY d_prog_59_method_5_code_29) ?_
    exact kt_
  refine Done.pre sg_14 ?_
  exact Done.retN X_2 hEX hLK (t := .boolean) hRT (by simp) (hb hBY d_prog_59_method_5_code_30) (by exact ⟨rfl, N_2, K__3⟩) (by decide) (by decide)
theorem d_method_3_code_0 : decode method_3_code 0 = .ok (.ldc2_w 15, 3) := by decide +kernel
theorem d_method_3_code_3 : decode method_3_code 3 = .ok (.lstore_n 2, 1) := by decide +kernel
theorem d_method_3_code_4 : decode method_3_code 4 = .ok (.lload_n 0, 1) := by decide +kernel
theorem d_method_3_code_5 : decode method_3_code 5 = .ok (.lload_n 2, 1) := by decide +kernel
theorem d_method_3_code_6 : decode method_3_code 6 = .ok (.lneg, 1) := by decide +kernel
theorem d_method_3_code_7 : decode method_3_code 7 = .ok (.lcmp, 1) := by decide +kernel
theorem d_method_3_code_8 : decode method_3_code 8 = .ok (.ifCond .le 13, 3) := by decide +kernel
theorem d_method_3_code_11 : decode method_3_code 11 = .ok (.lload_n 0, 1) := by decide +kernel
theorem d_method_3_code_12 : decode method_3_code 12 = .ok (.lload_n 2, 1) := by decide +kernel
theorem d_method_3_code_13 : decode method_3_code 13 = .ok (.lcmp, 1) := by decide +kernel
theorem d_method_3_code_14 : decode method_3_code 14 = .ok (.ifCond .ge 7, 3) := by decide +kernel
theorem d_method_3_code_17 : decode method_3_code 17 = .ok (.iconst 1, 1) := by decide +kernel
theorem d_method_3_code_18 : decode method_3_code 18 = .ok (.goto 4, 3) := by decide +kernel
theorem d_method_3_code_22 : decode method_3_code 22 = .ok (.ireturn, 1) := by decide +kernel
def Qrm_inr (Z : State) (v : Int64) (h0 : Heap) (n0 : Nat) (v_ : Option Value) (h_ : Heap) (L_ : List Loc) : Prop := v_ = some (.int (1 : Int32)) ∧ Fr n0 L_ ∧ h_ = h0
theorem ef_rm_inr (m : MethodId) (x0 : Int64) : entryFrame m #[(.long x0)] 4 = mkF m 0 #[.val (.long x0), .second, .unset, .unset] [] := by first | (simp [entryFrame, mkF, argsToLocals, Value.category]; done) | rfl
set_option maxRecDepth 65536 in
set_option maxHeartbeats 40000000 in
theorem rm_inr (l : Launch) (Z : State) (aZ : Array Value) (hw : ∀ d ∈ tables_1, d.before aZ Z = true) (ws : List Jvm.Cond) (v : Int64) (h0 : Heap) (n0 : Nat) (Z0 : n0 ≤ h0.size) (hlo : (-1125899906842624 : Int64) < v) (hhi : v < (1125899906842624 : Int64)) :
    MetFree l (⟨"com/example/guard3/guard3/P384FieldSubtractPinLaw", "inRange", "(J)Z"⟩ : MethodName) (head1 (Jvm.Cond.code (⟨"com/example/guard3/guard3/P384FieldSubtractPinLaw", "inRange", "(J)Z"⟩ : MethodName) method_3_code 4 (some .boolean) :: ws) ({ frames := 0, cells := 0, slots := 0, locals := 0 } : Room)) (fun a_ U_ => a_ = #[(.long v)] ∧ Z.Warmed39 U_.vm ∧ U_.heap = h0) (fun _ _ _ _ _ => True) (fun _ U_ o_ U2_ => ∃ v_ L_, o_ = .returned v_ ∧ Qrm_inr Z v h0 n0 v_ U2_.heap L_ ∧ FrameEnd U_ o_ U2_ L_ ({ frames := 0, cells := 0, slots := 0, locals := 0 } : Room).cells ({ frames := 0, cells := 0, slots := 0, locals := 0 } : Room).slots) := by
  refine MetFree.of_bodySF (plainFor_of_name pn_com_example_guard3_guard3_P384FieldSubtractPinLaw) hisR ?_
  intro p e s m args below meth cO s₁ Bd hml0 hP hK
  obtain ⟨rfl, hZW, hh⟩ := hP
  have hEX := Bd.exec
  have hBY := Bd.bytes
  have hMX : cO.maxLocals = 4 := hml0
  have hOW : s.vm.findClass "com/example/guard3/guard3/P384FieldSubtractPinLaw" = some m.cls := findClass_of_methodNamed Bd.named
  have hNM := (name_of_methodNamed Bd.named Bd.method).1
  have hLK := Bd.notSynchronized
  have hRT := Bd.returns
  have X0 : Stand p l e ({ frames := 0, cells := 0, slots := 0, locals := 0 } : Room) s m #[(.long v)] below meth cO s₁ [] 0 0 := Stand.of_body Bd
  have e0 : s₁.heap = h0 := by rw [← hh, Bd.state]; rfl
  have N0 := Fr.nil n0
  have K0 : Keep h0 h0 [] := Keep.refl _ _
  show Done p e below s (Qrm_inr Z v h0 n0) ({ frames := 0, cells := 0, slots := 0, locals := 0 } : Room).cells ({ frames := 0, cells := 0, slots := 0, locals := 0 } : Room).slots (s₁.setTop (entryFrame m #[(.long v)] 4))
  refine Done.pre (fun t_ k_ => castTop (ef_rm_inr m v) k_) ?_
  show Done _ _ _ _ _ _ _ (s₁.setTop (mkF m 0 #[Lv v, Zs, Us, Us] []))
  have sg_1 : ∀ tt_, Steps p.tables e below (s₁.setTop (mkF m 22 #[Lv v, Zs, Lv (1125899906842624 : Int64), Zs] [(.int (1 : Int32))])) tt_ → Steps p.tables e below (s₁.setTop (mkF m 0 #[Lv v, Zs, Us, Us] [])) tt_ := by
    intro tt_ kt_
    refine X0.ldc2Long hEX hOW (mvT hZW (hw _ (List.mem_of_getElem? (i := 22) rfl))) (g := (mkF m 0 #[Lv v, Zs, Us, Us] [])) rfl (hb hBY d_method_3_code_0) _ ?_
    show Steps p.tables e below (s₁.setTop (mkF m 3 #[Lv v, Zs, Us, Us] [(.long (1125899906842624 : Int64))])) tt_
    refine XS.lstoreN X0.here hEX rfl (hb hBY d_method_3_code_3) rfl (l' := #[Lv v, Zs, Lv (1125899906842624 : Int64), Zs]) rfl ?_
    show Steps p.tables e below (s₁.setTop (mkF m 4 #[Lv v, Zs, Lv (1125899906842624 : Int64), Zs] [])) tt_
    refine XS.lloadN X0.here hEX rfl (hb hBY d_method_3_code_4) rfl ?_
    show Steps p.tables e below (s₁.setTop (mkF m 5 #[Lv v, Zs, Lv (1125899906842624 : Int64), Zs] [(.long v)])) tt_
    refine XS.lloadN X0.here hEX rfl (hb hBY d_method_3_code_5) rfl ?_
    show Steps p.tables e below (s₁.setTop (mkF m 6 #[Lv v, Zs, Lv (1125899906842624 : Int64), Zs] [(.long (1125899906842624 : Int64)), (.long v)])) tt_
    refine XS.lneg X0.here hEX rfl (hb hBY d_method_3_code_6) rfl ?_
    show Steps p.tables e below (s₁.setTop (mkF m 7 #[Lv v, Zs, Lv (1125899906842624 : Int64), Zs] [(.long (-(1125899906842624 : Int64))), (.long v)])) tt_
    refine XS.lcmp X0.here hEX rfl (hb hBY d_method_3_code_7) rfl ?_
    show Steps p.tables e below (s₁.setTop (mkF m 8 #[Lv v, Zs, Lv (1125899906842624 : Int64), Zs] [(.int (lcmpW v (-(1125899906842624 : Int64))))])) tt_
    refine XS.ifNo X0.here hEX rfl (hb hBY d_method_3_code_8) rfl ((if0 _ _).trans (tlt ((lw_gt _ _).mpr (hlo : (-(1125899906842624 : Int64)) < v))).2.2.2) ?_
    show Steps p.tables e below (s₁.setTop (mkF m 11 #[Lv v, Zs, Lv (1125899906842624 : Int64), Zs] [])) tt_
    refine XS.lloadN X0.here hEX rfl (hb hBY d_method_3_code_11) rfl ?_
    show Steps p.tables e below (s₁.setTop (mkF m 12 #[Lv v, Zs, Lv (1125899906842624 : Int64), Zs] [(.long v)])) tt_
    refine XS.lloadN X0.here hEX rfl (hb hBY d_method_3_code_12) rfl ?_
    show Steps p.tables e below (s₁.setTop (mkF m 13 #[Lv v, Zs, Lv (1125899906842624 : Int64), Zs] [(.long (1125899906842624 : Int64)), (.long v)])) tt_
    refine XS.lcmp X0.here hEX rfl (hb hBY d_method_3_code_13) rfl ?_
    show Steps p.tables e below (s₁.setTop (mkF m 14 #[Lv v, Zs, Lv (1125899906842624 : Int64), Zs] [(.int (lcmpW v (1125899906842624 : Int64)))])) tt_
    refine XS.ifNo X0.here hEX rfl (hb hBY d_method_3_code_14) rfl ((if0 _ _).trans (tlt ((lw_lt _ _).mpr (hhi : v < (1125899906842624 : Int64)))).2.1) ?_
    show Steps p.tables e below (s₁.setTop (mkF m 17 #[Lv v, Zs, Lv (1125899906842624 : Int64), Zs] [])) tt_
    refine XS.iconst X0.here hEX rfl (hb hBY d_method_3_code_17) ?_
    show Steps p.tables e below (s₁.setTop (mkF m 18 #[Lv v, Zs, Lv (1125899906842624 : Int64), Zs] [(.int (1 : Int32))])) tt_
    refine XS.goto X0.here hEX rfl (pc0 := 18) (pc' := 22) rfl (hb hBY d_method_3_code_18) (by decide) (by decide) ?_
    exact kt_
  refine Done.pre sg_1 ?_
  exact Done.retN X0 hEX hLK (t := .boolean) hRT (by simp) (hb hBY d_method_3_code_22) (by rw [e0]; exact ⟨rfl, N0, rfl⟩) (by decide) (by decide)
theorem pd__J_J_1 : parseMethodDescriptor "(J)J" = some ⟨[.long], some .long⟩ := by decide +kernel
theorem pd__J_Z_2 : parseMethodDescriptor "(J)Z" = some ⟨[.long], some .boolean⟩ := by decide +kernel
theorem pd___J_J_J_V_9 : parseMethodDescriptor "([J[J[J)V" = some ⟨[(.array .long), (.array .long), (.array .long)], none⟩ := by decide +kernel
theorem pd___J_Z_5 : parseMethodDescriptor "([J)Z" = some ⟨[(.array .long)], some .boolean⟩ := by decide +kernel
def Qrm0 (Z : State) (q1 : Int64) (q2 : Int64) (q3 : Int64) (q4 : Int64) (q5 : Int64) (p6 : Int32) (h0 : Heap) (n0 : Nat) (v_ : Option Value) (h_ : Heap) (L_ : List Loc) : Prop := v_ = some (.int (1 : Int32)) ∧ Fr n0 L_ ∧ Keep h0 h_ []
theorem ef_rm0 (m : MethodId) (x0 : Int64) (x1 : Int64) (x2 : Int64) (x3 : Int64) (x4 : Int64) (x5 : Int32) : entryFrame m #[(.long x0), (.long x1), (.long x2), (.long x3), (.long x4), (.int x5)] maxLocals = mkF m 0 #[.val (.long x0), .second, .val (.long x1), .second, .val (.long x2), .second, .val (.long x3), .second, .val (.long x4), .second, .val (.int x5), .unset, .unset, .unset, .unset, .unset, .unset, .unset, .unset, .unset, .unset, .unset, .unset, .unset, .unset, .unset, .unset, .unset, .unset, .unset, .unset, .unset, .unset, .unset, .unset, .unset, .unset, .unset, .unset, .unset, .unset, .unset, .unset, .unset, .unset, .unset, .unset, .unset, .unset, .unset, .unset, .unset, .unset, .unset] [] := by first | (simp [entryFrame, mkF, argsToLocals, Value.category, maxLocals]; done) | rfl
set_option maxRecDepth 65536 in
set_option maxHeartbeats 40000000 in
theorem rm0_j560 (l : Launch) (Z : State) (aZ : Array Value) (hw : ∀ d ∈ tables_1, d.before aZ Z = true) (ws : List Jvm.Cond) (q1 : Int64) (q2 : Int64) (q3 : Int64) (q4 : Int64) (q5 : Int64) (p6 : Int32) (h0 : Heap) (n0 : Nat) (Z0 : n0 ≤ h0.size)
    (p : Program) (e : Env) (s : State) (m : MethodId) (below : List Frame) (meth : Method) (cO : Code) (hEX : p.tables.exec = Jvm.exec) (hBY : cO.code = code) (hMX : cO.maxLocals = 54) (hOW : s.vm.findClass "com/example/guard3/guard3/P384FieldSubtractPinLaw" = some m.cls) (hNM : meth.name = x.name) (hLK : meth.locks = false) (hRT : meth.sig.returnType = ret) (hZW : Z.Warmed39 s.vm)
    (a0 : Int64) (a1 : Int64) (a2 : Int64) (a3 : Int64) (a4 : Int64) (a5 : Int64) (a6 : Int64) (a7 : Int64) (b0 : Int64) (b1 : Int64) (b2 : Int64) (b3 : Int64) (b4 : Int64) (b5 : Int64) (b6 : Int64) (b7 : Int64) (b_80 : Addr) (b_157 : Addr) (b_262 : Addr) (k_262 : ClassId) (b_397 : Addr) (k_397 : ClassId) (b_564 : Addr) (b_576 : Addr) (k_576 : ClassId) (b_590 : Addr) (k_590 : ClassId) (oo : Addr) (ob : Addr) (mz : Int32) (r0 : Int64) (r1 : Int64) (r2 : Int64) (r3 : Int64) (r4 : Int64) (r5 : Int64) (r6 : Int64) (r7 : Int64) (kO : ClassId) (T_847 : State) (h_848 : Heap) (L_849 : List Loc) (X_850 : Stand p l e room_1 s m #[(.long q1), (.long q2), (.long q3), (.long q4), (.long q5), (.int p6)] below meth cO T_847 L_849 7 56) (e_851 : T_847.heap = h_848) (N_852 : Fr n0 L_849) (K__853 : Keep h0 h_848 []) (f_854 : Arv Z h_848 b_262 k_262 .long (8 : Int32) [(.long b0), (.long b1), (.long b2), (.long b3), (.long b4), (.long b5), (.long b6), (.long b7)] (.long (0 : Int64))) (f_855 : Arv Z h_848 b_397 k_397 .long (8 : Int32) [(.long (-a0)), (.long (-a1)), (.long (-a2)), (.long (-a3)), (.long (-a4)), (.long (-a5)), (.long (-a6)), (.long (-a7))] (.long (0 : Int64))) (f_856 : Arv Z h_848 b_576 k_576 .long (8 : Int32) [(.long (0 : Int64)), (.long (0 : Int64)), (.long (0 : Int64)), (.long (0 : Int64)), (.long (0 : Int64)), (.long (0 : Int64)), (.long (0 : Int64)), (.long (0 : Int64))] (.long (0 : Int64))) (f_857 : Exa Z h_848 b_590 "[J") (f_858 : Arv Z h_848 b_590 k_590 .long (8 : Int32) [(.long (0 : Int64)), (.long (0 : Int64)), (.long (0 : Int64)), (.long (0 : Int64)), (.long (0 : Int64)), (.long (0 : Int64)), (.long (0 : Int64)), (.long (0 : Int64))] (.long (0 : Int64))) (f_859 : Arv Z h_848 oo kO .long (8 : Int32) [(.long r0), (.long r1), (.long r2), (.long r3), (.long r4), (.long r5), (.long r6), (.long r7)] (.long (0 : Int64))) (hRa : own_R 1125899906842624 a0 a1 a2 a3 a4 a5 a6 a7) (hRb : own_R 1125899906842624 b0 b1 b2 b3 b4 b5 b6 b7) (hNa : own_R 1125899906842624 (-a0) (-a1) (-a2) (-a3) (-a4) (-a5) (-a6) (-a7) ∧ own_W (-a0) (-a1) (-a2) (-a3) (-a4) (-a5) (-a6) (-a7) = -own_W a0 a1 a2 a3 a4 a5 a6 a7) (hRr : own_R 562949953421440 r0 r1 r2 r3 r4 r5 r6 r7) (hMr : own_M ((own_W a0 a1 a2 a3 a4 a5 a6 a7 - own_W b0 b1 b2 b3 b4 b5 b6 b7) - own_W r0 r1 r2 r3 r4 r5 r6 r7)) (ne_860 : b_80 ≠ b_157) (ne_861 : b_80 ≠ b_262) (ne_862 : b_157 ≠ b_262) (ne_863 : b_80 ≠ b_397) (ne_864 : b_157 ≠ b_397) (ne_865 : b_262 ≠ b_397) (ne_866 : b_80 ≠ b_564) (ne_867 : b_157 ≠ b_564) (ne_868 : b_262 ≠ b_564) (ne_869 : b_397 ≠ b_564) (ne_870 : b_80 ≠ b_576) (ne_871 : b_157 ≠ b_576) (ne_872 : b_262 ≠ b_576) (ne_873 : b_397 ≠ b_576) (ne_874 : b_564 ≠ b_576) (ne_875 : b_80 ≠ b_590) (ne_876 : b_157 ≠ b_590) (ne_877 : b_262 ≠ b_590) (ne_878 : b_397 ≠ b_590) (ne_879 : b_564 ≠ b_590) (ne_880 : b_576 ≠ b_590) (ne_881 : oo ≠ b_262) (ne_882 : oo ≠ b_397) (ne_883 : oo ≠ b_576) (ne_884 : oo ≠ b_590) (ge_885 : n0 ≤ b_80) (ge_886 : n0 ≤ b_157) (ge_887 : n0 ≤ b_262) (ge_888 : n0 ≤ b_397) (ge_889 : n0 ≤ b_564) (ge_890 : n0 ≤ b_576) (ge_891 : n0 ≤ b_590) (sz_892 : h0.size ≤ b_80) (sz_893 : h0.size ≤ b_157) (sz_894 : h0.size ≤ b_262) (sz_895 : h0.size ≤ b_397) (sz_896 : h0.size ≤ b_564) (sz_897 : h0.size ≤ b_576) (sz_898 : h0.size ≤ b_590) :
    Done p e below s (Qrm0 Z q1 q2 q3 q4 q5 p6 h0 n0) room_1.cells room_1.slots (T_847.setTop (mkF m 560 #[Lv q1, Zs, Lv q2, Zs, Lv q3, Zs, Lv q4, Zs, Lv q5, Zs, Iv p6, Lv a0, Zs, Lv a1, Zs, Lv a2, Zs, Lv a3, Zs, Lv a4, Zs, Lv a5, Zs, Lv a6, Zs, Lv a7, Zs, Lv b0, Zs, Lv b1, Zs, Lv b2, Zs, Lv b3, Zs, Lv b4, Zs, Lv b5, Zs, Lv b6, Zs, Lv b7, Zs, Iv mz, Rv b_80, Rv b_157, Rv b_262, Rv b_397, Rv b_564, Rv b_576, Rv b_590, Rv ob, Rv oo, Iv (1 : Int32)] [])) := by
  have sg_899 : ∀ tt_, Steps p.tables e below (T_847.setTop (mkF m 566 #[Lv q1, Zs, Lv q2, Zs, Lv q3, Zs, Lv q4, Zs, Lv q5, Zs, Iv p6, Lv a0, Zs, Lv a1, Zs, Lv a2, Zs, Lv a3, Zs, Lv a4, Zs, Lv a5, Zs, Lv a6, Zs, Lv a7, Zs, Lv b0, Zs, Lv b1, Zs, Lv b2, Zs, Lv b3, Zs, Lv b4, Zs, Lv b5, Zs, Lv b6, Zs, Lv b7, Zs, Iv mz, Rv b_80, Rv b_157, Rv b_262, Rv b_397, Rv b_564, Rv b_576, Rv b_590, Rv ob, Rv oo, Iv (1 : Int32)] [(.ref b_576), (.ref b_262), (.ref oo)])) tt_ → Steps p.tables e below (T_847.setTop (mkF m 560 #[Lv q1, Zs, Lv q2, Zs, Lv q3, Zs, Lv q4, Zs, Lv q5, Zs, Iv p6, Lv a0, Zs, Lv a1, Zs, Lv a2, Zs, Lv a3, Zs, Lv a4, Zs, Lv a5, Zs, Lv a6, Zs, Lv a7, Zs, Lv b0, Zs, Lv b1, Zs, Lv b2, Zs, Lv b3, Zs, Lv b4, Zs, Lv b5, Zs, Lv b6, Zs, Lv b7, Zs, Iv mz, Rv b_80, Rv b_157, Rv b_262, Rv b_397, Rv b_564, Rv b_576, Rv b_590, Rv ob, Rv oo, Iv (1 : Int32)] [])) tt_ := by
    intro tt_ kt_
    refine XS.aload X_850.here hEX rfl (hb hBY at_560) rfl rfl ?_
    show Steps p.tables e below (T_847.setTop (mkF m 562 #[Lv q1, Zs, Lv q2, Zs, Lv q3, Zs, Lv q4, Zs, Lv q5, Zs, Iv p6, Lv a0, Zs, Lv a1, Zs, Lv a2, Zs, Lv a3, Zs, Lv a4, Zs, Lv a5, Zs, Lv a6, Zs, Lv a7, Zs, Lv b0, Zs, Lv b1, Zs, Lv b2, Zs, Lv b3, Zs, Lv b4, Zs, Lv b5, Zs, Lv b6, Zs, Lv b7, Zs, Iv mz, Rv b_80, Rv b_157, Rv b_262, Rv b_397, Rv b_564, Rv b_576, Rv b_590, Rv ob, Rv oo, Iv (1 : Int32)] [(.ref oo)])) tt_
    refine XS.aload X_850.here hEX rfl (hb hBY at_562) rfl rfl ?_
    show Steps p.tables e below (T_847.setTop (mkF m 564 #[Lv q1, Zs, Lv q2, Zs, Lv q3, Zs, Lv q4, Zs, Lv q5, Zs, Iv p6, Lv a0, Zs, Lv a1, Zs, Lv a2, Zs, Lv a3, Zs, Lv a4, Zs, Lv a5, Zs, Lv a6, Zs, Lv a7, Zs, Lv b0, Zs, Lv b1, Zs, Lv b2, Zs, Lv b3, Zs, Lv b4, Zs, Lv b5, Zs, Lv b6, Zs, Lv b7, Zs, Iv mz, Rv b_80, Rv b_157, Rv b_262, Rv b_397, Rv b_564, Rv b_576, Rv b_590, Rv ob, Rv oo, Iv (1 : Int32)] [(.ref b_262), (.ref oo)])) tt_
    refine XS.aload X_850.here hEX rfl (hb hBY at_564) rfl rfl ?_
    exact kt_
  refine Done.pre sg_899 ?_
  obtain ⟨_, _, ⟨T_900, L_900, k_900, n_900⟩, -, X_900, ⟨Lc_900, hQ_900, l_900, y_900, z_900⟩, st_900⟩ := Jvm.LawKit.callS X_850 hEX (y := (⟨"com/example/guard3/guard3/P384Field", "add", "([J[J[J)V"⟩ : MethodName)) hOW (mvT hZW (hw _ (List.mem_of_getElem? (i := 23) rfl))) (mvT hZW (hw _ (List.mem_of_getElem? (i := 24) rfl))) (mvT hZW (hw _ (List.mem_of_getElem? (i := 12) rfl))) (mvT hZW (hw _ (List.mem_of_getElem? (i := 25) rfl))) (by decide) (backOf (W := 0) (rm_add_abo l Z aZ hw [] oo b_262 b_576 kO r0 r1 r2 r3 r4 r5 r6 r7 k_262 b0 b1 b2 b3 b4 b5 b6 b7 k_576 (0 : Int64) (0 : Int64) (0 : Int64) (0 : Int64) (0 : Int64) (0 : Int64) (0 : Int64) (0 : Int64) h_848 n0 (Nat.le_trans Z0 K__853.1) f_859 f_854 f_856 ge_890 ne_881 ne_883 ne_872 (own_Rup _ _ _ _ _ _ _ _ _ _ (by decide) hRr) hRb) hZW (hw _ (List.mem_of_getElem? (i := 25) rfl)) (hw _ (List.mem_of_getElem? (i := 12) rfl)) (by decide) (by decide)) (g := (mkF m 566 #[Lv q1, Zs, Lv q2, Zs, Lv q3, Zs, Lv q4, Zs, Lv q5, Zs, Iv p6, Lv a0, Zs, Lv a1, Zs, Lv a2, Zs, Lv a3, Zs, Lv a4, Zs, Lv a5, Zs, Lv a6, Zs, Lv a7, Zs, Lv b0, Zs, Lv b1, Zs, Lv b2, Zs, Lv b3, Zs, Lv b4, Zs, Lv b5, Zs, Lv b6, Zs, Lv b7, Zs, Iv mz, Rv b_80, Rv b_157, Rv b_262, Rv b_397, Rv b_564, Rv b_576, Rv b_590, Rv ob, Rv oo, Iv (1 : Int32)] [(.ref b_576), (.ref b_262), (.ref oo)])) rfl (by rw [hMX]; rfl) (argsL := [(.ref oo), (.ref b_262), (.ref b_576)]) (rest := []) (lenOf pd___J_J_J_V_9 rfl) rfl (by show 2 * 0 + _ ≤ _; exact Nat.le_of_eq rfl) (hb hBY at_566) (fun _ _ => ⟨rfl, e_851, (by decide : 7 + 0 ≤ _), (by decide : 56 + 0 ≤ _)⟩)
  dsimp only [Pt.U, Pt.locs, Pt.cells, Pt.slots] at X_900 l_900 y_900 z_900 st_900 hQ_900
  subst l_900 y_900 z_900
  obtain ⟨s0, s1, s2, s3, s4, s5, s6, s7, rfl, N_900q, K_900, hq_900_0, hq_900_1, hq_900_2⟩ := hQ_900
  have N_900 := Fr.app N_852 N_900q
  have K__901 : Keep h0 T_900.heap [] := K__853.trans K_900 (allS (Or.inr sz_897) all0)
  have f_902 : Arv Z T_900.heap b_262 k_262 .long (8 : Int32) [(.long b0), (.long b1), (.long b2), (.long b3), (.long b4), (.long b5), (.long b6), (.long b7)] (.long (0 : Int64)) := f_854.keep K_900 (ninS ne_872 nin0)
  have f_903 : Arv Z T_900.heap b_397 k_397 .long (8 : Int32) [(.long (-a0)), (.long (-a1)), (.long (-a2)), (.long (-a3)), (.long (-a4)), (.long (-a5)), (.long (-a6)), (.long (-a7))] (.long (0 : Int64)) := f_855.keep K_900 (ninS ne_873 nin0)
  have f_904 : Exa Z T_900.heap b_590 "[J" := f_857.keep K_900
  have f_905 : Arv Z T_900.heap b_590 k_590 .long (8 : Int32) [(.long (0 : Int64)), (.long (0 : Int64)), (.long (0 : Int64)), (.long (0 : Int64)), (.long (0 : Int64)), (.long (0 : Int64)), (.long (0 : Int64)), (.long (0 : Int64))] (.long (0 : Int64)) := f_858.keep K_900 (ninS (Ne.symm ne_880) nin0)
  have f_906 : Arv Z T_900.heap oo kO .long (8 : Int32) [(.long r0), (.long r1), (.long r2), (.long r3), (.long r4), (.long r5), (.long r6), (.long r7)] (.long (0 : Int64)) := f_859.keep K_900 (ninS ne_883 nin0)
  refine Done.pre (fun _ k_ => st_900 _ k_) ?_
  show Done _ _ _ _ _ _ _ (T_900.setTop (mkF m 569 #[Lv q1, Zs, Lv q2, Zs, Lv q3, Zs, Lv q4, Zs, Lv q5, Zs, Iv p6, Lv a0, Zs, Lv a1, Zs, Lv a2, Zs, Lv a3, Zs, Lv a4, Zs, Lv a5, Zs, Lv a6, Zs, Lv a7, Zs, Lv b0, Zs, Lv b1, Zs, Lv b2, Zs, Lv b3, Zs, Lv b4, Zs, Lv b5, Zs, Lv b6, Zs, Lv b7, Zs, Iv mz, Rv b_80, Rv b_157, Rv b_262, Rv b_397, Rv b_564, Rv b_576, Rv b_590, Rv ob, Rv oo, Iv (1 : Int32)] []))
  have hRs := hq_900_1
  have hMs := hq_900_2
  have sg_907 : ∀ tt_, Steps p.tables e below (T_900.setTop (mkF m 575 #[Lv q1, Zs, Lv q2, Zs, Lv q3, Zs, Lv q4, Zs, Lv q5, Zs, Iv p6, Lv a0, Zs, Lv a1, Zs, Lv a2, Zs, Lv a3, Zs, Lv a4, Zs, Lv a5, Zs, Lv a6, Zs, Lv a7, Zs, Lv b0, Zs, Lv b1, Zs, Lv b2, Zs, Lv b3, Zs, Lv b4, Zs, Lv b5, Zs, Lv b6, Zs, Lv b7, Zs, Iv mz, Rv b_80, Rv b_157, Rv b_262, Rv b_397, Rv b_564, Rv b_576, Rv b_590, Rv ob, Rv oo, Iv (1 : Int32)] [(.ref b_590), (.ref b_397), (.ref b_576)])) tt_ → Steps p.tables e below (T_900.setTop (mkF m 569 #[Lv q1, Zs, Lv q2, Zs, Lv q3, Zs, Lv q4, Zs, Lv q5, Zs, Iv p6, Lv a0, Zs, Lv a1, Zs, Lv a2, Zs, Lv a3, Zs, Lv a4, Zs, Lv a5, Zs, Lv a6, Zs, Lv a7, Zs, Lv b0, Zs, Lv b1, Zs, Lv b2, Zs, Lv b3, Zs, Lv b4, Zs, Lv b5, Zs, Lv b6, Zs, Lv b7, Zs, Iv mz, Rv b_80, Rv b_157, Rv b_262, Rv b_397, Rv b_564, Rv b_576, Rv b_590, Rv ob, Rv oo, Iv (1 : Int32)] [])) tt_ := by
    intro tt_ kt_
    refine XS.aload X_900.here hEX rfl (hb hBY at_569) rfl rfl ?_
    show Steps p.tables e below (T_900.setTop (mkF m 571 #[Lv q1, Zs, Lv q2, Zs, Lv q3, Zs, Lv q4, Zs, Lv q5, Zs, Iv p6, Lv a0, Zs, Lv a1, Zs, Lv a2, Zs, Lv a3, Zs, Lv a4, Zs, Lv a5, Zs, Lv a6, Zs, Lv a7, Zs, Lv b0, Zs, Lv b1, Zs, Lv b2, Zs, Lv b3, Zs, Lv b4, Zs, Lv b5, Zs, Lv b6, Zs, Lv b7, Zs, Iv mz, Rv b_80, Rv b_157, Rv b_262, Rv b_397, Rv b_564, Rv b_576, Rv b_590, Rv ob, Rv oo, Iv (1 : Int32)] [(.ref b_576)])) tt_
    refine XS.aload X_900.here hEX rfl (hb hBY at_571) rfl rfl ?_
    show Steps p.tables e below (T_900.setTop (mkF m 573 #[Lv q1, Zs, Lv q2, Zs, Lv q3, Zs, Lv q4, Zs, Lv q5, Zs, Iv p6, Lv a0, Zs, Lv a1, Zs, Lv a2, Zs, Lv a3, Zs, Lv a4, Zs, Lv a5, Zs, Lv a6, Zs, Lv a7, Zs, Lv b0, Zs, Lv b1, Zs, Lv b2, Zs, Lv b3, Zs, Lv b4, Zs, Lv b5, Zs, Lv b6, Zs, Lv b7, Zs, Iv mz, Rv b_80, Rv b_157, Rv b_262, Rv b_397, Rv b_564, Rv b_576, Rv b_590, Rv ob, Rv oo, Iv (1 : Int32)] [(.ref b_397), (.ref b_576)])) tt_
    refine XS.aload X_900.here hEX rfl (hb hBY at_573) rfl rfl ?_
    exact kt_
  refine Done.pre sg_907 ?_
  obtain ⟨_, _, ⟨T_908, L_908, k_908, n_908⟩, -, X_908, ⟨Lc_908, hQ_908, l_908, y_908, z_908⟩, st_908⟩ := Jvm.LawKit.callS X_900 hEX (y := (⟨"com/example/guard3/guard3/P384Field", "add", "([J[J[J)V"⟩ : MethodName)) hOW (mvT hZW (hw _ (List.mem_of_getElem? (i := 23) rfl))) (mvT hZW (hw _ (List.mem_of_getElem? (i := 24) rfl))) (mvT hZW (hw _ (List.mem_of_getElem? (i := 12) rfl))) (mvT hZW (hw _ (List.mem_of_getElem? (i := 25) rfl))) (by decide) (backOf (W := 0) (rm_add_abo l Z aZ hw [] b_576 b_397 b_590 k_576 s0 s1 s2 s3 s4 s5 s6 s7 k_397 (-a0) (-a1) (-a2) (-a3) (-a4) (-a5) (-a6) (-a7) k_590 (0 : Int64) (0 : Int64) (0 : Int64) (0 : Int64) (0 : Int64) (0 : Int64) (0 : Int64) (0 : Int64) T_900.heap n0 (Nat.le_trans Z0 K__901.1) hq_900_0 f_903 f_905 ge_891 (Ne.symm ne_873) ne_880 ne_878 (own_Rup _ _ _ _ _ _ _ _ _ _ (by decide) hRs) hNa.1) hZW (hw _ (List.mem_of_getElem? (i := 25) rfl)) (hw _ (List.mem_of_getElem? (i := 12) rfl)) (by decide) (by decide)) (g := (mkF m 575 #[Lv q1, Zs, Lv q2, Zs, Lv q3, Zs, Lv q4, Zs, Lv q5, Zs, Iv p6, Lv a0, Zs, Lv a1, Zs, Lv a2, Zs, Lv a3, Zs, Lv a4, Zs, Lv a5, Zs, Lv a6, Zs, Lv a7, Zs, Lv b0, Zs, Lv b1, Zs, Lv b2, Zs, Lv b3, Zs, Lv b4, Zs, Lv b5, Zs, Lv b6, Zs, Lv b7, Zs, Iv mz, Rv b_80, Rv b_157, Rv b_262, Rv b_397, Rv b_564, Rv b_576, Rv b_590, Rv ob, Rv oo, Iv (1 : Int32)] [(.ref b_590), (.ref b_397), (.ref b_576)])) rfl (by rw [hMX]; rfl) (argsL := [(.ref b_576), (.ref b_397), (.ref b_590)]) (rest := []) (lenOf pd___J_J_J_V_9 rfl) rfl (by show 2 * 0 + _ ≤ _; exact Nat.le_of_eq rfl) (hb hBY at_575) (fun _ _ => ⟨rfl, rfl, (by decide : 7 + 0 ≤ _), (by decide : 56 + 0 ≤ _)⟩)
  dsimp only [Pt.U, Pt.locs, Pt.cells, Pt.slots] at X_908 l_908 y_908 z_908 st_908 hQ_908
  subst l_908 y_908 z_908
  obtain ⟨u0, u1, u2, u3, u4, u5, u6, u7, rfl, N_908q, K_908, hq_908_0, hq_908_1, hq_908_2⟩ := hQ_908
  have N_908 := Fr.app N_900 N_908q
  have K__909 : Keep h0 T_908.heap [] := K__901.trans K_908 (allS (Or.inr sz_898) all0)
  have f_910 : Arv Z T_908.heap b_262 k_262 .long (8 : Int32) [(.long b0), (.long b1), (.long b2), (.long b3), (.long b4), (.long b5), (.long b6), (.long b7)] (.long (0 : Int64)) := f_902.keep K_908 (ninS ne_877 nin0)
  have f_911 : Arv Z T_908.heap b_397 k_397 .long (8 : Int32) [(.long (-a0)), (.long (-a1)), (.long (-a2)), (.long (-a3)), (.long (-a4)), (.long (-a5)), (.long (-a6)), (.long (-a7))] (.long (0 : Int64)) := f_903.keep K_908 (ninS ne_878 nin0)
  have f_912 : Exa Z T_908.heap b_590 "[J" := f_904.keep K_908
  have f_913 : Arv Z T_908.heap oo kO .long (8 : Int32) [(.long r0), (.long r1), (.long r2), (.long r3), (.long r4), (.long r5), (.long r6), (.long r7)] (.long (0 : Int64)) := f_906.keep K_908 (ninS ne_884 nin0)
  have f_914 : Arv Z T_908.heap b_576 k_576 .long (8 : Int32) [(.long s0), (.long s1), (.long s2), (.long s3), (.long s4), (.long s5), (.long s6), (.long s7)] (.long (0 : Int64)) := hq_900_0.keep K_908 (ninS ne_880 nin0)
  refine Done.pre (fun _ k_ => st_908 _ k_) ?_
  show Done _ _ _ _ _ _ _ (T_908.setTop (mkF m 578 #[Lv q1, Zs, Lv q2, Zs, Lv q3, Zs, Lv q4, Zs, Lv q5, Zs, Iv p6, Lv a0, Zs, Lv a1, Zs, Lv a2, Zs, Lv a3, Zs, Lv a4, Zs, Lv a5, Zs, Lv a6, Zs, Lv a7, Zs, Lv b0, Zs, Lv b1, Zs, Lv b2, Zs, Lv b3, Zs, Lv b4, Zs, Lv b5, Zs, Lv b6, Zs, Lv b7, Zs, Iv mz, Rv b_80, Rv b_157, Rv b_262, Rv b_397, Rv b_564, Rv b_576, Rv b_590, Rv ob, Rv oo, Iv (1 : Int32)] []))
  have hRu := hq_908_1
  have hMu := hq_908_2
  have sg_915 : ∀ tt_, Steps p.tables e below (T_908.setTop (mkF m 580 #[Lv q1, Zs, Lv q2, Zs, Lv q3, Zs, Lv q4, Zs, Lv q5, Zs, Iv p6, Lv a0, Zs, Lv a1, Zs, Lv a2, Zs, Lv a3, Zs, Lv a4, Zs, Lv a5, Zs, Lv a6, Zs, Lv a7, Zs, Lv b0, Zs, Lv b1, Zs, Lv b2, Zs, Lv b3, Zs, Lv b4, Zs, Lv b5, Zs, Lv b6, Zs, Lv b7, Zs, Iv mz, Rv b_80, Rv b_157, Rv b_262, Rv b_397, Rv b_564, Rv b_576, Rv b_590, Rv ob, Rv oo, Iv (1 : Int32)] [(.ref b_590)])) tt_ → Steps p.tables e below (T_908.setTop (mkF m 578 #[Lv q1, Zs, Lv q2, Zs, Lv q3, Zs, Lv q4, Zs, Lv q5, Zs, Iv p6, Lv a0, Zs, Lv a1, Zs, Lv a2, Zs, Lv a3, Zs, Lv a4, Zs, Lv a5, Zs, Lv a6, Zs, Lv a7, Zs, Lv b0, Zs, Lv b1, Zs, Lv b2, Zs, Lv b3, Zs, Lv b4, Zs, Lv b5, Zs, Lv b6, Zs, Lv b7, Zs, Iv mz, Rv b_80, Rv b_157, Rv b_262, Rv b_397, Rv b_564, Rv b_576, Rv b_590, Rv ob, Rv oo, Iv (1 : Int32)] [])) tt_ := by
    intro tt_ kt_
    refine XS.aload X_908.here hEX rfl (hb hBY at_578) rfl rfl ?_
    exact kt_
  refine Done.pre sg_915 ?_
  obtain ⟨_, _, ⟨T_916, L_916, k_916, n_916⟩, -, X_916, ⟨Lc_916, hQ_916, l_916, y_916, z_916⟩, st_916⟩ := Jvm.LawKit.callS X_908 hEX (y := (⟨"com/example/guard3/guard3/P384Field", "isZero", "([J)Z"⟩ : MethodName)) hOW (mvT hZW (hw _ (List.mem_of_getElem? (i := 26) rfl))) (mvT hZW (hw _ (List.mem_of_getElem? (i := 27) rfl))) (mvT hZW (hw _ (List.mem_of_getElem? (i := 12) rfl))) (mvT hZW (hw _ (List.mem_of_getElem? (i := 28) rfl))) (by decide) (backOf (W := 0) (rm_isz l Z aZ hw [] b_590 k_590 u0 u1 u2 u3 u4 u5 u6 u7 T_908.heap n0 (Nat.le_trans Z0 K__909.1) hq_908_0 f_912 hRu (own_sumM _ _ _ _ _ _ hNa.2 hMr hMs hMu)) hZW (hw _ (List.mem_of_getElem? (i := 28) rfl)) (hw _ (List.mem_of_getElem? (i := 12) rfl)) (by decide) (by decide)) (g := (mkF m 580 #[Lv q1, Zs, Lv q2, Zs, Lv q3, Zs, Lv q4, Zs, Lv q5, Zs, Iv p6, Lv a0, Zs, Lv a1, Zs, Lv a2, Zs, Lv a3, Zs, Lv a4, Zs, Lv a5, Zs, Lv a6, Zs, Lv a7, Zs, Lv b0, Zs, Lv b1, Zs, Lv b2, Zs, Lv b3, Zs, Lv b4, Zs, Lv b5, Zs, Lv b6, Zs, Lv b7, Zs, Iv mz, Rv b_80, Rv b_157, Rv b_262, Rv b_397, Rv b_564, Rv b_576, Rv b_590, Rv ob, Rv oo, Iv (1 : Int32)] [(.ref b_590)])) rfl (by rw [hMX]; rfl) (argsL := [(.ref b_590)]) (rest := []) (lenOf pd___J_Z_5 rfl) rfl (by show 2 * 0 + _ ≤ _; exact Nat.le_of_eq rfl) (hb hBY at_580) (fun _ _ => ⟨rfl, rfl, (by decide : 7 + 2 ≤ _), (by decide : 56 + 16 ≤ _)⟩)
  dsimp only [Pt.U, Pt.locs, Pt.cells, Pt.slots] at X_916 l_916 y_916 z_916 st_916 hQ_916
  subst l_916 y_916 z_916
  obtain ⟨rfl, N_916q, K_916⟩ := hQ_916
  have N_916 := Fr.app N_908 N_916q
  have K__917 : Keep h0 T_916.heap [] := K__909.trans K_916 all0
  have f_918 : Arv Z T_916.heap b_262 k_262 .long (8 : Int32) [(.long b0), (.long b1), (.long b2), (.long b3), (.long b4), (.long b5), (.long b6), (.long b7)] (.long (0 : Int64)) := f_910.keep K_916 nin0
  have f_919 : Arv Z T_916.heap b_397 k_397 .long (8 : Int32) [(.long (-a0)), (.long (-a1)), (.long (-a2)), (.long (-a3)), (.long (-a4)), (.long (-a5)), (.long (-a6)), (.long (-a7))] (.long (0 : Int64)) := f_911.keep K_916 nin0
  have f_920 : Exa Z T_916.heap b_590 "[J" := f_912.keep K_916
  have f_921 : Arv Z T_916.heap oo kO .long (8 : Int32) [(.long r0), (.long r1), (.long r2), (.long r3), (.long r4), (.long r5), (.long r6), (.long r7)] (.long (0 : Int64)) := f_913.keep K_916 nin0
  have f_922 : Arv Z T_916.heap b_576 k_576 .long (8 : Int32) [(.long s0), (.long s1), (.long s2), (.long s3), (.long s4), (.long s5), (.long s6), (.long s7)] (.long (0 : Int64)) := f_914.keep K_916 nin0
  have f_923 : Arv Z T_916.heap b_590 k_590 .long (8 : Int32) [(.long u0), (.long u1), (.long u2), (.long u3), (.long u4), (.long u5), (.long u6), (.long u7)] (.long (0 : Int64)) := hq_908_0.keep K_916 nin0
  refine Done.pre (fun _ k_ => st_916 _ k_) ?_
  show Done _ _ _ _ _ _ _ (T_916.setTop (mkF m 583 #[Lv q1, Zs, Lv q2, Zs, Lv q3, Zs, Lv q4, Zs, Lv q5, Zs, Iv p6, Lv a0, Zs, Lv a1, Zs, Lv a2, Zs, Lv a3, Zs, Lv a4, Zs, Lv a5, Zs, Lv a6, Zs, Lv a7, Zs, Lv b0, Zs, Lv b1, Zs, Lv b2, Zs, Lv b3, Zs, Lv b4, Zs, Lv b5, Zs, Lv b6, Zs, Lv b7, Zs, Iv mz, Rv b_80, Rv b_157, Rv b_262, Rv b_397, Rv b_564, Rv b_576, Rv b_590, Rv ob, Rv oo, Iv (1 : Int32)] [(.int (1 : Int32))]))
  exact Done.retN X_916 hEX hLK (t := .boolean) hRT (by simp) (hb hBY at_583) (by exact ⟨rfl, N_916, K__917⟩) (by decide) (by decide)
set_option maxRecDepth 65536 in
set_option maxHeartbeats 40000000 in
theorem rm0_j524 (l : Launch) (Z : State) (aZ : Array Value) (hw : ∀ d ∈ tables_1, d.before aZ Z = true) (ws : List Jvm.Cond) (q1 : Int64) (q2 : Int64) (q3 : Int64) (q4 : Int64) (q5 : Int64) (p6 : Int32) (h0 : Heap) (n0 : Nat) (Z0 : n0 ≤ h0.size)
    (p : Program) (e : Env) (s : State) (m : MethodId) (below : List Frame) (meth : Method) (cO : Code) (hEX : p.tables.exec = Jvm.exec) (hBY : cO.code = code) (hMX : cO.maxLocals = 54) (hOW : s.vm.findClass "com/example/guard3/guard3/P384FieldSubtractPinLaw" = some m.cls) (hNM : meth.name = x.name) (hLK : meth.locks = false) (hRT : meth.sig.returnType = ret) (hZW : Z.Warmed39 s.vm)
    (a0 : Int64) (a1 : Int64) (a2 : Int64) (a3 : Int64) (a4 : Int64) (a5 : Int64) (a6 : Int64) (a7 : Int64) (b0 : Int64) (b1 : Int64) (b2 : Int64) (b3 : Int64) (b4 : Int64) (b5 : Int64) (b6 : Int64) (b7 : Int64) (b_80 : Addr) (b_157 : Addr) (b_262 : Addr) (k_262 : ClassId) (b_397 : Addr) (k_397 : ClassId) (b_564 : Addr) (b_576 : Addr) (k_576 : ClassId) (b_590 : Addr) (k_590 : ClassId) (oo : Addr) (ob : Addr) (mz : Int32) (r0 : Int64) (r1 : Int64) (r2 : Int64) (r3 : Int64) (r4 : Int64) (r5 : Int64) (r6 : Int64) (r7 : Int64) (kO : ClassId) (T_787 : State) (h_788 : Heap) (L_789 : List Loc) (X_790 : Stand p l e room_1 s m #[(.long q1), (.long q2), (.long q3), (.long q4), (.long q5), (.int p6)] below meth cO T_787 L_789 7 56) (e_791 : T_787.heap = h_788) (N_792 : Fr n0 L_789) (K__793 : Keep h0 h_788 []) (f_794 : Arv Z h_788 b_262 k_262 .long (8 : Int32) [(.long b0), (.long b1), (.long b2), (.long b3), (.long b4), (.long b5), (.long b6), (.long b7)] (.long (0 : Int64))) (f_795 : Arv Z h_788 b_397 k_397 .long (8 : Int32) [(.long (-a0)), (.long (-a1)), (.long (-a2)), (.long (-a3)), (.long (-a4)), (.long (-a5)), (.long (-a6)), (.long (-a7))] (.long (0 : Int64))) (f_796 : Arv Z h_788 b_576 k_576 .long (8 : Int32) [(.long (0 : Int64)), (.long (0 : Int64)), (.long (0 : Int64)), (.long (0 : Int64)), (.long (0 : Int64)), (.long (0 : Int64)), (.long (0 : Int64)), (.long (0 : Int64))] (.long (0 : Int64))) (f_797 : Exa Z h_788 b_590 "[J") (f_798 : Arv Z h_788 b_590 k_590 .long (8 : Int32) [(.long (0 : Int64)), (.long (0 : Int64)), (.long (0 : Int64)), (.long (0 : Int64)), (.long (0 : Int64)), (.long (0 : Int64)), (.long (0 : Int64)), (.long (0 : Int64))] (.long (0 : Int64))) (f_799 : Arv Z h_788 oo kO .long (8 : Int32) [(.long r0), (.long r1), (.long r2), (.long r3), (.long r4), (.long r5), (.long r6), (.long r7)] (.long (0 : Int64))) (hRa : own_R 1125899906842624 a0 a1 a2 a3 a4 a5 a6 a7) (hRb : own_R 1125899906842624 b0 b1 b2 b3 b4 b5 b6 b7) (hNa : own_R 1125899906842624 (-a0) (-a1) (-a2) (-a3) (-a4) (-a5) (-a6) (-a7) ∧ own_W (-a0) (-a1) (-a2) (-a3) (-a4) (-a5) (-a6) (-a7) = -own_W a0 a1 a2 a3 a4 a5 a6 a7) (hRr : own_R 562949953421440 r0 r1 r2 r3 r4 r5 r6 r7) (hMr : own_M ((own_W a0 a1 a2 a3 a4 a5 a6 a7 - own_W b0 b1 b2 b3 b4 b5 b6 b7) - own_W r0 r1 r2 r3 r4 r5 r6 r7)) (ne_800 : b_80 ≠ b_157) (ne_801 : b_80 ≠ b_262) (ne_802 : b_157 ≠ b_262) (ne_803 : b_80 ≠ b_397) (ne_804 : b_157 ≠ b_397) (ne_805 : b_262 ≠ b_397) (ne_806 : b_80 ≠ b_564) (ne_807 : b_157 ≠ b_564) (ne_808 : b_262 ≠ b_564) (ne_809 : b_397 ≠ b_564) (ne_810 : b_80 ≠ b_576) (ne_811 : b_157 ≠ b_576) (ne_812 : b_262 ≠ b_576) (ne_813 : b_397 ≠ b_576) (ne_814 : b_564 ≠ b_576) (ne_815 : b_80 ≠ b_590) (ne_816 : b_157 ≠ b_590) (ne_817 : b_262 ≠ b_590) (ne_818 : b_397 ≠ b_590) (ne_819 : b_564 ≠ b_590) (ne_820 : b_576 ≠ b_590) (ne_821 : oo ≠ b_262) (ne_822 : oo ≠ b_397) (ne_823 : oo ≠ b_576) (ne_824 : oo ≠ b_590) (ge_825 : n0 ≤ b_80) (ge_826 : n0 ≤ b_157) (ge_827 : n0 ≤ b_262) (ge_828 : n0 ≤ b_397) (ge_829 : n0 ≤ b_564) (ge_830 : n0 ≤ b_576) (ge_831 : n0 ≤ b_590) (sz_832 : h0.size ≤ b_80) (sz_833 : h0.size ≤ b_157) (sz_834 : h0.size ≤ b_262) (sz_835 : h0.size ≤ b_397) (sz_836 : h0.size ≤ b_564) (sz_837 : h0.size ≤ b_576) (sz_838 : h0.size ≤ b_590) :
    Done p e below s (Qrm0 Z q1 q2 q3 q4 q5 p6 h0 n0) room_1.cells room_1.slots (T_787.setTop (mkF m 524 #[Lv q1, Zs, Lv q2, Zs, Lv q3, Zs, Lv q4, Zs, Lv q5, Zs, Iv p6, Lv a0, Zs, Lv a1, Zs, Lv a2, Zs, Lv a3, Zs, Lv a4, Zs, Lv a5, Zs, Lv a6, Zs, Lv a7, Zs, Lv b0, Zs, Lv b1, Zs, Lv b2, Zs, Lv b3, Zs, Lv b4, Zs, Lv b5, Zs, Lv b6, Zs, Lv b7, Zs, Iv mz, Rv b_80, Rv b_157, Rv b_262, Rv b_397, Rv b_564, Rv b_576, Rv b_590, Rv ob, Rv oo, Us] [])) := by
  obtain ⟨cl_839, Ar_839, q_839, S_839, N__839, H_839, G_839⟩ := id f_799
  have hin_839 : ¬ ((6 : Int32) < 0 ∨ cl_839.slots.size ≤ ((6 : Int32)).toNatClampNeg) := inb_of S_839 ⟨by decide, by decide⟩
  have hat_839 : cl_839.slots[((6 : Int32)).toNatClampNeg]? = some (.long r6) := H_839.at hin_839 rfl
  have sg_840 : ∀ tt_, Steps p.tables e below (T_787.setTop (mkF m 529 #[Lv q1, Zs, Lv q2, Zs, Lv q3, Zs, Lv q4, Zs, Lv q5, Zs, Iv p6, Lv a0, Zs, Lv a1, Zs, Lv a2, Zs, Lv a3, Zs, Lv a4, Zs, Lv a5, Zs, Lv a6, Zs, Lv a7, Zs, Lv b0, Zs, Lv b1, Zs, Lv b2, Zs, Lv b3, Zs, Lv b4, Zs, Lv b5, Zs, Lv b6, Zs, Lv b7, Zs, Iv mz, Rv b_80, Rv b_157, Rv b_262, Rv b_397, Rv b_564, Rv b_576, Rv b_590, Rv ob, Rv oo, Us] [(.long r6)])) tt_ → Steps p.tables e below (T_787.setTop (mkF m 524 #[Lv q1, Zs, Lv q2, Zs, Lv q3, Zs, Lv q4, Zs, Lv q5, Zs, Iv p6, Lv a0, Zs, Lv a1, Zs, Lv a2, Zs, Lv a3, Zs, Lv a4, Zs, Lv a5, Zs, Lv a6, Zs, Lv a7, Zs, Lv b0, Zs, Lv b1, Zs, Lv b2, Zs, Lv b3, Zs, Lv b4, Zs, Lv b5, Zs, Lv b6, Zs, Lv b7, Zs, Iv mz, Rv b_80, Rv b_157, Rv b_262, Rv b_397, Rv b_564, Rv b_576, Rv b_590, Rv ob, Rv oo, Us] [])) tt_ := by
    intro tt_ kt_
    refine XS.aload X_790.here hEX rfl (hb hBY at_524) rfl rfl ?_
    show Steps p.tables e below (T_787.setTop (mkF m 526 #[Lv q1, Zs, Lv q2, Zs, Lv q3, Zs, Lv q4, Zs, Lv q5, Zs, Iv p6, Lv a0, Zs, Lv a1, Zs, Lv a2, Zs, Lv a3, Zs, Lv a4, Zs, Lv a5, Zs, Lv a6, Zs, Lv a7, Zs, Lv b0, Zs, Lv b1, Zs, Lv b2, Zs, Lv b3, Zs, Lv b4, Zs, Lv b5, Zs, Lv b6, Zs, Lv b7, Zs, Iv mz, Rv b_80, Rv b_157, Rv b_262, Rv b_397, Rv b_564, Rv b_576, Rv b_590, Rv ob, Rv oo, Us] [(.ref oo)])) tt_
    refine XS.bipush X_790.here hEX rfl (hb hBY at_526) ?_
    show Steps p.tables e below (T_787.setTop (mkF m 528 #[Lv q1, Zs, Lv q2, Zs, Lv q3, Zs, Lv q4, Zs, Lv q5, Zs, Iv p6, Lv a0, Zs, Lv a1, Zs, Lv a2, Zs, Lv a3, Zs, Lv a4, Zs, Lv a5, Zs, Lv a6, Zs, Lv a7, Zs, Lv b0, Zs, Lv b1, Zs, Lv b2, Zs, Lv b3, Zs, Lv b4, Zs, Lv b5, Zs, Lv b6, Zs, Lv b7, Zs, Iv mz, Rv b_80, Rv b_157, Rv b_262, Rv b_397, Rv b_564, Rv b_576, Rv b_590, Rv ob, Rv oo, Us] [(.int (6 : Int32)), (.ref oo)])) tt_
    refine X_790.laload hEX (j := (6 : Int32)) (v := (.long r6)) (by rw [e_791]; exact Ar_839.1) (State.isArrayOf_alike hZW.alike Ar_839.2.1) Ar_839.2.2 hin_839 hat_839 (g := (mkF m 528 #[Lv q1, Zs, Lv q2, Zs, Lv q3, Zs, Lv q4, Zs, Lv q5, Zs, Iv p6, Lv a0, Zs, Lv a1, Zs, Lv a2, Zs, Lv a3, Zs, Lv a4, Zs, Lv a5, Zs, Lv a6, Zs, Lv a7, Zs, Lv b0, Zs, Lv b1, Zs, Lv b2, Zs, Lv b3, Zs, Lv b4, Zs, Lv b5, Zs, Lv b6, Zs, Lv b7, Zs, Iv mz, Rv b_80, Rv b_157, Rv b_262, Rv b_397, Rv b_564, Rv b_576, Rv b_590, Rv ob, Rv oo, Us] [(.int (6 : Int32)), (.ref oo)])) rfl rfl (hb hBY at_528) _ ?_
    exact kt_
  refine Done.pre sg_840 ?_
  obtain ⟨_, _, ⟨T_841, L_841, k_841, n_841⟩, -, X_841, ⟨Lc_841, hQ_841, l_841, y_841, z_841⟩, st_841⟩ := Jvm.LawKit.callS X_790 hEX (y := (⟨"com/example/guard3/guard3/P384FieldSubtractPinLaw", "inRange", "(J)Z"⟩ : MethodName)) hOW (mvT hZW (hw _ (List.mem_of_getElem? (i := 19) rfl))) (mvT hZW (hw _ (List.mem_of_getElem? (i := 20) rfl))) (mvT hZW (hw _ (List.mem_of_getElem? (i := 2) rfl))) (mvT hZW (hw _ (List.mem_of_getElem? (i := 21) rfl))) (by decide) (backOf (W := 0) (rm_inr l Z aZ hw [] r6 h_788 n0 (Nat.le_trans Z0 K__793.1) (own_inlo _ hRr.2.2.2.2.2.2.1) (own_inhi _ hRr.2.2.2.2.2.2.1)) hZW (hw _ (List.mem_of_getElem? (i := 21) rfl)) (hw _ (List.mem_of_getElem? (i := 2) rfl)) (by decide) (by decide)) (g := (mkF m 529 #[Lv q1, Zs, Lv q2, Zs, Lv q3, Zs, Lv q4, Zs, Lv q5, Zs, Iv p6, Lv a0, Zs, Lv a1, Zs, Lv a2, Zs, Lv a3, Zs, Lv a4, Zs, Lv a5, Zs, Lv a6, Zs, Lv a7, Zs, Lv b0, Zs, Lv b1, Zs, Lv b2, Zs, Lv b3, Zs, Lv b4, Zs, Lv b5, Zs, Lv b6, Zs, Lv b7, Zs, Iv mz, Rv b_80, Rv b_157, Rv b_262, Rv b_397, Rv b_564, Rv b_576, Rv b_590, Rv ob, Rv oo, Us] [(.long r6)])) rfl (by rw [hMX]; rfl) (argsL := [(.long r6)]) (rest := []) (lenOf pd__J_Z_2 rfl) rfl (by show 2 * 0 + _ ≤ _; exact Nat.le_of_eq rfl) (hb hBY at_529) (fun _ _ => ⟨rfl, e_791, (by decide : 7 + 0 ≤ _), (by decide : 56 + 0 ≤ _)⟩)
  dsimp only [Pt.U, Pt.locs, Pt.cells, Pt.slots] at X_841 l_841 y_841 z_841 st_841 hQ_841
  subst l_841 y_841 z_841
  obtain ⟨rfl, N_841q, e_841⟩ := hQ_841
  have N_841 := Fr.app N_792 N_841q
  refine Done.pre (fun _ k_ => st_841 _ k_) ?_
  show Done _ _ _ _ _ _ _ (T_841.setTop (mkF m 532 #[Lv q1, Zs, Lv q2, Zs, Lv q3, Zs, Lv q4, Zs, Lv q5, Zs, Iv p6, Lv a0, Zs, Lv a1, Zs, Lv a2, Zs, Lv a3, Zs, Lv a4, Zs, Lv a5, Zs, Lv a6, Zs, Lv a7, Zs, Lv b0, Zs, Lv b1, Zs, Lv b2, Zs, Lv b3, Zs, Lv b4, Zs, Lv b5, Zs, Lv b6, Zs, Lv b7, Zs, Iv mz, Rv b_80, Rv b_157, Rv b_262, Rv b_397, Rv b_564, Rv b_576, Rv b_590, Rv ob, Rv oo, Us] [(.int (1 : Int32))]))
  obtain ⟨cl_842, Ar_842, q_842, S_842, N__842, H_842, G_842⟩ := id f_799
  have hin_842 : ¬ ((7 : Int32) < 0 ∨ cl_842.slots.size ≤ ((7 : Int32)).toNatClampNeg) := inb_of S_842 ⟨by decide, by decide⟩
  have hat_842 : cl_842.slots[((7 : Int32)).toNatClampNeg]? = some (.long r7) := H_842.at hin_842 rfl
  have sg_843 : ∀ tt_, Steps p.tables e below (T_841.setTop (mkF m 540 #[Lv q1, Zs, Lv q2, Zs, Lv q3, Zs, Lv q4, Zs, Lv q5, Zs, Iv p6, Lv a0, Zs, Lv a1, Zs, Lv a2, Zs, Lv a3, Zs, Lv a4, Zs, Lv a5, Zs, Lv a6, Zs, Lv a7, Zs, Lv b0, Zs, Lv b1, Zs, Lv b2, Zs, Lv b3, Zs, Lv b4, Zs, Lv b5, Zs, Lv b6, Zs, Lv b7, Zs, Iv mz, Rv b_80, Rv b_157, Rv b_262, Rv b_397, Rv b_564, Rv b_576, Rv b_590, Rv ob, Rv oo, Us] [(.long r7)])) tt_ → Steps p.tables e below (T_841.setTop (mkF m 532 #[Lv q1, Zs, Lv q2, Zs, Lv q3, Zs, Lv q4, Zs, Lv q5, Zs, Iv p6, Lv a0, Zs, Lv a1, Zs, Lv a2, Zs, Lv a3, Zs, Lv a4, Zs, Lv a5, Zs, Lv a6, Zs, Lv a7, Zs, Lv b0, Zs, Lv b1, Zs, Lv b2, Zs, Lv b3, Zs, Lv b4, Zs, Lv b5, Zs, Lv b6, Zs, Lv b7, Zs, Iv mz, Rv b_80, Rv b_157, Rv b_262, Rv b_397, Rv b_564, Rv b_576, Rv b_590, Rv ob, Rv oo, Us] [(.int (1 : Int32))])) tt_ := by
    intro tt_ kt_
    refine XS.ifNo X_841.here hEX rfl (hb hBY at_532) rfl ((if0 _ _).trans (feq (by decide : ¬ ((1 : Int32) = (0 : Int32)))).1) ?_
    show Steps p.tables e below (T_841.setTop (mkF m 535 #[Lv q1, Zs, Lv q2, Zs, Lv q3, Zs, Lv q4, Zs, Lv q5, Zs, Iv p6, Lv a0, Zs, Lv a1, Zs, Lv a2, Zs, Lv a3, Zs, Lv a4, Zs, Lv a5, Zs, Lv a6, Zs, Lv a7, Zs, Lv b0, Zs, Lv b1, Zs, Lv b2, Zs, Lv b3, Zs, Lv b4, Zs, Lv b5, Zs, Lv b6, Zs, Lv b7, Zs, Iv mz, Rv b_80, Rv b_157, Rv b_262, Rv b_397, Rv b_564, Rv b_576, Rv b_590, Rv ob, Rv oo, Us] [])) tt_
    refine XS.aload X_841.here hEX rfl (hb hBY at_535) rfl rfl ?_
    show Steps p.tables e below (T_841.setTop (mkF m 537 #[Lv q1, Zs, Lv q2, Zs, Lv q3, Zs, Lv q4, Zs, Lv q5, Zs, Iv p6, Lv a0, Zs, Lv a1, Zs, Lv a2, Zs, Lv a3, Zs, Lv a4, Zs, Lv a5, Zs, Lv a6, Zs, Lv a7, Zs, Lv b0, Zs, Lv b1, Zs, Lv b2, Zs, Lv b3, Zs, Lv b4, Zs, Lv b5, Zs, Lv b6, Zs, Lv b7, Zs, Iv mz, Rv b_80, Rv b_157, Rv b_262, Rv b_397, Rv b_564, Rv b_576, Rv b_590, Rv ob, Rv oo, Us] [(.ref oo)])) tt_
    refine XS.bipush X_841.here hEX rfl (hb hBY at_537) ?_
    show Steps p.tables e below (T_841.setTop (mkF m 539 #[Lv q1, Zs, Lv q2, Zs, Lv q3, Zs, Lv q4, Zs, Lv q5, Zs, Iv p6, Lv a0, Zs, Lv a1, Zs, Lv a2, Zs, Lv a3, Zs, Lv a4, Zs, Lv a5, Zs, Lv a6, Zs, Lv a7, Zs, Lv b0, Zs, Lv b1, Zs, Lv b2, Zs, Lv b3, Zs, Lv b4, Zs, Lv b5, Zs, Lv b6, Zs, Lv b7, Zs, Iv mz, Rv b_80, Rv b_157, Rv b_262, Rv b_397, Rv b_564, Rv b_576, Rv b_590, Rv ob, Rv oo, Us] [(.int (7 : Int32)), (.ref oo)])) tt_
    refine X_841.laload hEX (j := (7 : Int32)) (v := (.long r7)) (by rw [e_841]; exact Ar_842.1) (State.isArrayOf_alike hZW.alike Ar_842.2.1) Ar_842.2.2 hin_842 hat_842 (g := (mkF m 539 #[Lv q1, Zs, Lv q2, Zs, Lv q3, Zs, Lv q4, Zs, Lv q5, Zs, Iv p6, Lv a0, Zs, Lv a1, Zs, Lv a2, Zs, Lv a3, Zs, Lv a4, Zs, Lv a5, Zs, Lv a6, Zs, Lv a7, Zs, Lv b0, Zs, Lv b1, Zs, Lv b2, Zs, Lv b3, Zs, Lv b4, Zs, Lv b5, Zs, Lv b6, Zs, Lv b7, Zs, Iv mz, Rv b_80, Rv b_157, Rv b_262, Rv b_397, Rv b_564, Rv b_576, Rv b_590, Rv ob, Rv oo, Us] [(.int (7 : Int32)), (.ref oo)])) rfl rfl (hb hBY at_539) _ ?_
    exact kt_
  refine Done.pre sg_843 ?_
  obtain ⟨_, _, ⟨T_844, L_844, k_844, n_844⟩, -, X_844, ⟨Lc_844, hQ_844, l_844, y_844, z_844⟩, st_844⟩ := Jvm.LawKit.callS X_841 hEX (y := (⟨"com/example/guard3/guard3/P384FieldSubtractPinLaw", "inRange", "(J)Z"⟩ : MethodName)) hOW (mvT hZW (hw _ (List.mem_of_getElem? (i := 19) rfl))) (mvT hZW (hw _ (List.mem_of_getElem? (i := 20) rfl))) (mvT hZW (hw _ (List.mem_of_getElem? (i := 2) rfl))) (mvT hZW (hw _ (List.mem_of_getElem? (i := 21) rfl))) (by decide) (backOf (W := 0) (rm_inr l Z aZ hw [] r7 h_788 n0 (Nat.le_trans Z0 K__793.1) (own_inlo _ hRr.2.2.2.2.2.2.2) (own_inhi _ hRr.2.2.2.2.2.2.2)) hZW (hw _ (List.mem_of_getElem? (i := 21) rfl)) (hw _ (List.mem_of_getElem? (i := 2) rfl)) (by decide) (by decide)) (g := (mkF m 540 #[Lv q1, Zs, Lv q2, Zs, Lv q3, Zs, Lv q4, Zs, Lv q5, Zs, Iv p6, Lv a0, Zs, Lv a1, Zs, Lv a2, Zs, Lv a3, Zs, Lv a4, Zs, Lv a5, Zs, Lv a6, Zs, Lv a7, Zs, Lv b0, Zs, Lv b1, Zs, Lv b2, Zs, Lv b3, Zs, Lv b4, Zs, Lv b5, Zs, Lv b6, Zs, Lv b7, Zs, Iv mz, Rv b_80, Rv b_157, Rv b_262, Rv b_397, Rv b_564, Rv b_576, Rv b_590, Rv ob, Rv oo, Us] [(.long r7)])) rfl (by rw [hMX]; rfl) (argsL := [(.long r7)]) (rest := []) (lenOf pd__J_Z_2 rfl) rfl (by show 2 * 0 + _ ≤ _; exact Nat.le_of_eq rfl) (hb hBY at_540) (fun _ _ => ⟨rfl, e_841, (by decide : 7 + 0 ≤ _), (by decide : 56 + 0 ≤ _)⟩)
  dsimp only [Pt.U, Pt.locs, Pt.cells, Pt.slots] at X_844 l_844 y_844 z_844 st_844 hQ_844
  subst l_844 y_844 z_844
  obtain ⟨rfl, N_844q, e_844⟩ := hQ_844
  have N_844 := Fr.app N_841 N_844q
  refine Done.pre (fun _ k_ => st_844 _ k_) ?_
  show Done _ _ _ _ _ _ _ (T_844.setTop (mkF m 543 #[Lv q1, Zs, Lv q2, Zs, Lv q3, Zs, Lv q4, Zs, Lv q5, Zs, Iv p6, Lv a0, Zs, Lv a1, Zs, Lv a2, Zs, Lv a3, Zs, Lv a4, Zs, Lv a5, Zs, Lv a6, Zs, Lv a7, Zs, Lv b0, Zs, Lv b1, Zs, Lv b2, Zs, Lv b3, Zs, Lv b4, Zs, Lv b5, Zs, Lv b6, Zs, Lv b7, Zs, Iv mz, Rv b_80, Rv b_157, Rv b_262, Rv b_397, Rv b_564, Rv b_576, Rv b_590, Rv ob, Rv oo, Us] [(.int (1 : Int32))]))
  have sg_845 : ∀ tt_, Steps p.tables e below (T_844.setTop (mkF m 560 #[Lv q1, Zs, Lv q2, Zs, Lv q3, Zs, Lv q4, Zs, Lv q5, Zs, Iv p6, Lv a0, Zs, Lv a1, Zs, Lv a2, Zs, Lv a3, Zs, Lv a4, Zs, Lv a5, Zs, Lv a6, Zs, Lv a7, Zs, Lv b0, Zs, Lv b1, Zs, Lv b2, Zs, Lv b3, Zs, Lv b4, Zs, Lv b5, Zs, Lv b6, Zs, Lv b7, Zs, Iv mz, Rv b_80, Rv b_157, Rv b_262, Rv b_397, Rv b_564, Rv b_576, Rv b_590, Rv ob, Rv oo, Iv (1 : Int32)] [])) tt_ → Steps p.tables e below (T_844.setTop (mkF m 543 #[Lv q1, Zs, Lv q2, Zs, Lv q3, Zs, Lv q4, Zs, Lv q5, Zs, Iv p6, Lv a0, Zs, Lv a1, Zs, Lv a2, Zs, Lv a3, Zs, Lv a4, Zs, Lv a5, Zs, Lv a6, Zs, Lv a7, Zs, Lv b0, Zs, Lv b1, Zs, Lv b2, Zs, Lv b3, Zs, Lv b4, Zs, Lv b5, Zs, Lv b6, Zs, Lv b7, Zs, Iv mz, Rv b_80, Rv b_157, Rv b_262, Rv b_397, Rv b_564, Rv b_576, Rv b_590, Rv ob, Rv oo, Us] [(.int (1 : Int32))])) tt_ := by
    intro tt_ kt_
    refine XS.ifNo X_844.here hEX rfl (hb hBY at_543) rfl ((if0 _ _).trans (feq (by decide : ¬ ((1 : Int32) = (0 : Int32)))).1) ?_
    show Steps p.tables e below (T_844.setTop (mkF m 546 #[Lv q1, Zs, Lv q2, Zs, Lv q3, Zs, Lv q4, Zs, Lv q5, Zs, Iv p6, Lv a0, Zs, Lv a1, Zs, Lv a2, Zs, Lv a3, Zs, Lv a4, Zs, Lv a5, Zs, Lv a6, Zs, Lv a7, Zs, Lv b0, Zs, Lv b1, Zs, Lv b2, Zs, Lv b3, Zs, Lv b4, Zs, Lv b5, Zs, Lv b6, Zs, Lv b7, Zs, Iv mz, Rv b_80, Rv b_157, Rv b_262, Rv b_397, Rv b_564, Rv b_576, Rv b_590, Rv ob, Rv oo, Us] [])) tt_
    refine XS.iconst X_844.here hEX rfl (hb hBY at_546) ?_
    show Steps p.tables e below (T_844.setTop (mkF m 547 #[Lv q1, Zs, Lv q2, Zs, Lv q3, Zs, Lv q4, Zs, Lv q5, Zs, Iv p6, Lv a0, Zs, Lv a1, Zs, Lv a2, Zs, Lv a3, Zs, Lv a4, Zs, Lv a5, Zs, Lv a6, Zs, Lv a7, Zs, Lv b0, Zs, Lv b1, Zs, Lv b2, Zs, Lv b3, Zs, Lv b4, Zs, Lv b5, Zs, Lv b6, Zs, Lv b7, Zs, Iv mz, Rv b_80, Rv b_157, Rv b_262, Rv b_397, Rv b_564, Rv b_576, Rv b_590, Rv ob, Rv oo, Us] [(.int (1 : Int32))])) tt_
    refine XS.goto X_844.here hEX rfl (pc0 := 547) (pc' := 551) rfl (hb hBY at_547) (by decide) (by decide) ?_
    show Steps p.tables e below (T_844.setTop (mkF m 551 #[Lv q1, Zs, Lv q2, Zs, Lv q3, Zs, Lv q4, Zs, Lv q5, Zs, Iv p6, Lv a0, Zs, Lv a1, Zs, Lv a2, Zs, Lv a3, Zs, Lv a4, Zs, Lv a5, Zs, Lv a6, Zs, Lv a7, Zs, Lv b0, Zs, Lv b1, Zs, Lv b2, Zs, Lv b3, Zs, Lv b4, Zs, Lv b5, Zs, Lv b6, Zs, Lv b7, Zs, Iv mz, Rv b_80, Rv b_157, Rv b_262, Rv b_397, Rv b_564, Rv b_576, Rv b_590, Rv ob, Rv oo, Us] [(.int (1 : Int32))])) tt_
    refine XS.istore X_844.here hEX rfl (hb hBY at_551) rfl (l' := #[Lv q1, Zs, Lv q2, Zs, Lv q3, Zs, Lv q4, Zs, Lv q5, Zs, Iv p6, Lv a0, Zs, Lv a1, Zs, Lv a2, Zs, Lv a3, Zs, Lv a4, Zs, Lv a5, Zs, Lv a6, Zs, Lv a7, Zs, Lv b0, Zs, Lv b1, Zs, Lv b2, Zs, Lv b3, Zs, Lv b4, Zs, Lv b5, Zs, Lv b6, Zs, Lv b7, Zs, Iv mz, Rv b_80, Rv b_157, Rv b_262, Rv b_397, Rv b_564, Rv b_576, Rv b_590, Rv ob, Rv oo, Iv (1 : Int32)]) rfl ?_
    show Steps p.tables e below (T_844.setTop (mkF m 553 #[Lv q1, Zs, Lv q2, Zs, Lv q3, Zs, Lv q4, Zs, Lv q5, Zs, Iv p6, Lv a0, Zs, Lv a1, Zs, Lv a2, Zs, Lv a3, Zs, Lv a4, Zs, Lv a5, Zs, Lv a6, Zs, Lv a7, Zs, Lv b0, Zs, Lv b1, Zs, Lv b2, Zs, Lv b3, Zs, Lv b4, Zs, Lv b5, Zs, Lv b6, Zs, Lv b7, Zs, Iv mz, Rv b_80, Rv b_157, Rv b_262, Rv b_397, Rv b_564, Rv b_576, Rv b_590, Rv ob, Rv oo, Iv (1 : Int32)] [])) tt_
    refine XS.iload X_844.here hEX rfl (hb hBY at_553) rfl ?_
    show Steps p.tables e below (T_844.setTop (mkF m 555 #[Lv q1, Zs, Lv q2, Zs, Lv q3, Zs, Lv q4, Zs, Lv q5, Zs, Iv p6, Lv a0, Zs, Lv a1, Zs, Lv a2, Zs, Lv a3, Zs, Lv a4, Zs, Lv a5, Zs, Lv a6, Zs, Lv a7, Zs, Lv b0, Zs, Lv b1, Zs, Lv b2, Zs, Lv b3, Zs, Lv b4, Zs, Lv b5, Zs, Lv b6, Zs, Lv b7, Zs, Iv mz, Rv b_80, Rv b_157, Rv b_262, Rv b_397, Rv b_564, Rv b_576, Rv b_590, Rv ob, Rv oo, Iv (1 : Int32)] [(.int (1 : Int32))])) tt_
    refine XS.ifYes X_844.here hEX rfl (pc0 := 555) (pc' := 560) rfl (hb hBY at_555) rfl ((if0 _ _).trans (feq (by decide : ¬ ((1 : Int32) = (0 : Int32)))).2) (by decide) (by decide) ?_
    exact kt_
  refine Done.pre sg_845 ?_
  show Done _ _ _ _ _ _ _ (T_844.setTop (mkF m 560 #[Lv q1, Zs, Lv q2, Zs, Lv q3, Zs, Lv q4, Zs, Lv q5, Zs, Iv p6, Lv a0, Zs, Lv a1, Zs, Lv a2, Zs, Lv a3, Zs, Lv a4, Zs, Lv a5, Zs, Lv a6, Zs, Lv a7, Zs, Lv b0, Zs, Lv b1, Zs, Lv b2, Zs, Lv b3, Zs, Lv b4, Zs, Lv b5, Zs, Lv b6, Zs, Lv b7, Zs, Iv mz, Rv b_80, Rv b_157, Rv b_262, Rv b_397, Rv b_564, Rv b_576, Rv b_590, Rv ob, Rv oo, Iv (1 : Int32)] []))
  exact rm0_j560 l Z aZ hw ws q1 q2 q3 q4 q5 p6 h0 n0 Z0 p e s m below meth cO hEX hBY hMX hOW hNM hLK hRT hZW a0 a1 a2 a3 a4 a5 a6 a7 b0 b1 b2 b3 b4 b5 b6 b7 b_80 b_157 b_262 k_262 b_397 k_397 b_564 b_576 k_576 b_590 k_590 oo ob mz r0 r1 r2 r3 r4 r5 r6 r7 kO T_844 h_788 _ X_844 e_844 N_844 K__793 f_794 f_795 f_796 f_797 f_798 f_799 hRa hRb hNa hRr hMr ne_800 ne_801 ne_802 ne_803 ne_804 ne_805 ne_806 ne_807 ne_808 ne_809 ne_810 ne_811 ne_812 ne_813 ne_814 ne_815 ne_816 ne_817 ne_818 ne_819 ne_820 ne_821 ne_822 ne_823 ne_824 ge_825 ge_826 ge_827 ge_828 ge_829 ge_830 ge_831 sz_832 sz_833 sz_834 sz_835 sz_836 sz_837 sz_838
set_option maxRecDepth 65536 in
set_option maxHeartbeats 40000000 in
theorem rm0_j494 (l : Launch) (Z : State) (aZ : Array Value) (hw : ∀ d ∈ tables_1, d.before aZ Z = true) (ws : List Jvm.Cond) (q1 : Int64) (q2 : Int64) (q3 : Int64) (q4 : Int64) (q5 : Int64) (p6 : Int32) (h0 : Heap) (n0 : Nat) (Z0 : n0 ≤ h0.size)
    (p : Program) (e : Env) (s : State) (m : MethodId) (below : List Frame) (meth : Method) (cO : Code) (hEX : p.tables.exec = Jvm.exec) (hBY : cO.code = code) (hMX : cO.maxLocals = 54) (hOW : s.vm.findClass "com/example/guard3/guard3/P384FieldSubtractPinLaw" = some m.cls) (hNM : meth.name = x.name) (hLK : meth.locks = false) (hRT : meth.sig.returnType = ret) (hZW : Z.Warmed39 s.vm)
    (a0 : Int64) (a1 : Int64) (a2 : Int64) (a3 : Int64) (a4 : Int64) (a5 : Int64) (a6 : Int64) (a7 : Int64) (b0 : Int64) (b1 : Int64) (b2 : Int64) (b3 : Int64) (b4 : Int64) (b5 : Int64) (b6 : Int64) (b7 : Int64) (b_80 : Addr) (b_157 : Addr) (b_262 : Addr) (k_262 : ClassId) (b_397 : Addr) (k_397 : ClassId) (b_564 : Addr) (b_576 : Addr) (k_576 : ClassId) (b_590 : Addr) (k_590 : ClassId) (oo : Addr) (ob : Addr) (mz : Int32) (r0 : Int64) (r1 : Int64) (r2 : Int64) (r3 : Int64) (r4 : Int64) (r5 : Int64) (r6 : Int64) (r7 : Int64) (kO : ClassId) (T_724 : State) (h_725 : Heap) (L_726 : List Loc) (X_727 : Stand p l e room_1 s m #[(.long q1), (.long q2), (.long q3), (.long q4), (.long q5), (.int p6)] below meth cO T_724 L_726 7 56) (e_728 : T_724.heap = h_725) (N_729 : Fr n0 L_726) (K__730 : Keep h0 h_725 []) (f_731 : Arv Z h_725 b_262 k_262 .long (8 : Int32) [(.long b0), (.long b1), (.long b2), (.long b3), (.long b4), (.long b5), (.long b6), (.long b7)] (.long (0 : Int64))) (f_732 : Arv Z h_725 b_397 k_397 .long (8 : Int32) [(.long (-a0)), (.long (-a1)), (.long (-a2)), (.long (-a3)), (.long (-a4)), (.long (-a5)), (.long (-a6)), (.long (-a7))] (.long (0 : Int64))) (f_733 : Arv Z h_725 b_576 k_576 .long (8 : Int32) [(.long (0 : Int64)), (.long (0 : Int64)), (.long (0 : Int64)), (.long (0 : Int64)), (.long (0 : Int64)), (.long (0 : Int64)), (.long (0 : Int64)), (.long (0 : Int64))] (.long (0 : Int64))) (f_734 : Exa Z h_725 b_590 "[J") (f_735 : Arv Z h_725 b_590 k_590 .long (8 : Int32) [(.long (0 : Int64)), (.long (0 : Int64)), (.long (0 : Int64)), (.long (0 : Int64)), (.long (0 : Int64)), (.long (0 : Int64)), (.long (0 : Int64)), (.long (0 : Int64))] (.long (0 : Int64))) (f_736 : Arv Z h_725 oo kO .long (8 : Int32) [(.long r0), (.long r1), (.long r2), (.long r3), (.long r4), (.long r5), (.long r6), (.long r7)] (.long (0 : Int64))) (hRa : own_R 1125899906842624 a0 a1 a2 a3 a4 a5 a6 a7) (hRb : own_R 1125899906842624 b0 b1 b2 b3 b4 b5 b6 b7) (hNa : own_R 1125899906842624 (-a0) (-a1) (-a2) (-a3) (-a4) (-a5) (-a6) (-a7) ∧ own_W (-a0) (-a1) (-a2) (-a3) (-a4) (-a5) (-a6) (-a7) = -own_W a0 a1 a2 a3 a4 a5 a6 a7) (hRr : own_R 562949953421440 r0 r1 r2 r3 r4 r5 r6 r7) (hMr : own_M ((own_W a0 a1 a2 a3 a4 a5 a6 a7 - own_W b0 b1 b2 b3 b4 b5 b6 b7) - own_W r0 r1 r2 r3 r4 r5 r6 r7)) (ne_737 : b_80 ≠ b_157) (ne_738 : b_80 ≠ b_262) (ne_739 : b_157 ≠ b_262) (ne_740 : b_80 ≠ b_397) (ne_741 : b_157 ≠ b_397) (ne_742 : b_262 ≠ b_397) (ne_743 : b_80 ≠ b_564) (ne_744 : b_157 ≠ b_564) (ne_745 : b_262 ≠ b_564) (ne_746 : b_397 ≠ b_564) (ne_747 : b_80 ≠ b_576) (ne_748 : b_157 ≠ b_576) (ne_749 : b_262 ≠ b_576) (ne_750 : b_397 ≠ b_576) (ne_751 : b_564 ≠ b_576) (ne_752 : b_80 ≠ b_590) (ne_753 : b_157 ≠ b_590) (ne_754 : b_262 ≠ b_590) (ne_755 : b_397 ≠ b_590) (ne_756 : b_564 ≠ b_590) (ne_757 : b_576 ≠ b_590) (ne_758 : oo ≠ b_262) (ne_759 : oo ≠ b_397) (ne_760 : oo ≠ b_576) (ne_761 : oo ≠ b_590) (ge_762 : n0 ≤ b_80) (ge_763 : n0 ≤ b_157) (ge_764 : n0 ≤ b_262) (ge_765 : n0 ≤ b_397) (ge_766 : n0 ≤ b_564) (ge_767 : n0 ≤ b_576) (ge_768 : n0 ≤ b_590) (sz_769 : h0.size ≤ b_80) (sz_770 : h0.size ≤ b_157) (sz_771 : h0.size ≤ b_262) (sz_772 : h0.size ≤ b_397) (sz_773 : h0.size ≤ b_564) (sz_774 : h0.size ≤ b_576) (sz_775 : h0.size ≤ b_590) :
    Done p e below s (Qrm0 Z q1 q2 q3 q4 q5 p6 h0 n0) room_1.cells room_1.slots (T_724.setTop (mkF m 494 #[Lv q1, Zs, Lv q2, Zs, Lv q3, Zs, Lv q4, Zs, Lv q5, Zs, Iv p6, Lv a0, Zs, Lv a1, Zs, Lv a2, Zs, Lv a3, Zs, Lv a4, Zs, Lv a5, Zs, Lv a6, Zs, Lv a7, Zs, Lv b0, Zs, Lv b1, Zs, Lv b2, Zs, Lv b3, Zs, Lv b4, Zs, Lv b5, Zs, Lv b6, Zs, Lv b7, Zs, Iv mz, Rv b_80, Rv b_157, Rv b_262, Rv b_397, Rv b_564, Rv b_576, Rv b_590, Rv ob, Rv oo, Us] [])) := by
  obtain ⟨cl_776, Ar_776, q_776, S_776, N__776, H_776, G_776⟩ := id f_736
  have hin_776 : ¬ ((3 : Int32) < 0 ∨ cl_776.slots.size ≤ ((3 : Int32)).toNatClampNeg) := inb_of S_776 ⟨by decide, by decide⟩
  have hat_776 : cl_776.slots[((3 : Int32)).toNatClampNeg]? = some (.long r3) := H_776.at hin_776 rfl
  have sg_777 : ∀ tt_, Steps p.tables e below (T_724.setTop (mkF m 498 #[Lv q1, Zs, Lv q2, Zs, Lv q3, Zs, Lv q4, Zs, Lv q5, Zs, Iv p6, Lv a0, Zs, Lv a1, Zs, Lv a2, Zs, Lv a3, Zs, Lv a4, Zs, Lv a5, Zs, Lv a6, Zs, Lv a7, Zs, Lv b0, Zs, Lv b1, Zs, Lv b2, Zs, Lv b3, Zs, Lv b4, Zs, Lv b5, Zs, Lv b6, Zs, Lv b7, Zs, Iv mz, Rv b_80, Rv b_157, Rv b_262, Rv b_397, Rv b_564, Rv b_576, Rv b_590, Rv ob, Rv oo, Us] [(.long r3)])) tt_ → Steps p.tables e below (T_724.setTop (mkF m 494 #[Lv q1, Zs, Lv q2, Zs, Lv q3, Zs, Lv q4, Zs, Lv q5, Zs, Iv p6, Lv a0, Zs, Lv a1, Zs, Lv a2, Zs, Lv a3, Zs, Lv a4, Zs, Lv a5, Zs, Lv a6, Zs, Lv a7, Zs, Lv b0, Zs, Lv b1, Zs, Lv b2, Zs, Lv b3, Zs, Lv b4, Zs, Lv b5, Zs, Lv b6, Zs, Lv b7, Zs, Iv mz, Rv b_80, Rv b_157, Rv b_262, Rv b_397, Rv b_564, Rv b_576, Rv b_590, Rv ob, Rv oo, Us] [])) tt_ := by
    intro tt_ kt_
    refine XS.aload X_727.here hEX rfl (hb hBY at_494) rfl rfl ?_
    show Steps p.tables e below (T_724.setTop (mkF m 496 #[Lv q1, Zs, Lv q2, Zs, Lv q3, Zs, Lv q4, Zs, Lv q5, Zs, Iv p6, Lv a0, Zs, Lv a1, Zs, Lv a2, Zs, Lv a3, Zs, Lv a4, Zs, Lv a5, Zs, Lv a6, Zs, Lv a7, Zs, Lv b0, Zs, Lv b1, Zs, Lv b2, Zs, Lv b3, Zs, Lv b4, Zs, Lv b5, Zs, Lv b6, Zs, Lv b7, Zs, Iv mz, Rv b_80, Rv b_157, Rv b_262, Rv b_397, Rv b_564, Rv b_576, Rv b_590, Rv ob, Rv oo, Us] [(.ref oo)])) tt_
    refine XS.iconst X_727.here hEX rfl (hb hBY at_496) ?_
    show Steps p.tables e below (T_724.setTop (mkF m 497 #[Lv q1, Zs, Lv q2, Zs, Lv q3, Zs, Lv q4, Zs, Lv q5, Zs, Iv p6, Lv a0, Zs, Lv a1, Zs, Lv a2, Zs, Lv a3, Zs, Lv a4, Zs, Lv a5, Zs, Lv a6, Zs, Lv a7, Zs, Lv b0, Zs, Lv b1, Zs, Lv b2, Zs, Lv b3, Zs, Lv b4, Zs, Lv b5, Zs, Lv b6, Zs, Lv b7, Zs, Iv mz, Rv b_80, Rv b_157, Rv b_262, Rv b_397, Rv b_564, Rv b_576, Rv b_590, Rv ob, Rv oo, Us] [(.int (3 : Int32)), (.ref oo)])) tt_
    refine X_727.laload hEX (j := (3 : Int32)) (v := (.long r3)) (by rw [e_728]; exact Ar_776.1) (State.isArrayOf_alike hZW.alike Ar_776.2.1) Ar_776.2.2 hin_776 hat_776 (g := (mkF m 497 #[Lv q1, Zs, Lv q2, Zs, Lv q3, Zs, Lv q4, Zs, Lv q5, Zs, Iv p6, Lv a0, Zs, Lv a1, Zs, Lv a2, Zs, Lv a3, Zs, Lv a4, Zs, Lv a5, Zs, Lv a6, Zs, Lv a7, Zs, Lv b0, Zs, Lv b1, Zs, Lv b2, Zs, Lv b3, Zs, Lv b4, Zs, Lv b5, Zs, Lv b6, Zs, Lv b7, Zs, Iv mz, Rv b_80, Rv b_157, Rv b_262, Rv b_397, Rv b_564, Rv b_576, Rv b_590, Rv ob, Rv oo, Us] [(.int (3 : Int32)), (.ref oo)])) rfl rfl (hb hBY at_497) _ ?_
    exact kt_
  refine Done.pre sg_777 ?_
  obtain ⟨_, _, ⟨T_778, L_778, k_778, n_778⟩, -, X_778, ⟨Lc_778, hQ_778, l_778, y_778, z_778⟩, st_778⟩ := Jvm.LawKit.callS X_727 hEX (y := (⟨"com/example/guard3/guard3/P384FieldSubtractPinLaw", "inRange", "(J)Z"⟩ : MethodName)) hOW (mvT hZW (hw _ (List.mem_of_getElem? (i := 19) rfl))) (mvT hZW (hw _ (List.mem_of_getElem? (i := 20) rfl))) (mvT hZW (hw _ (List.mem_of_getElem? (i := 2) rfl))) (mvT hZW (hw _ (List.mem_of_getElem? (i := 21) rfl))) (by decide) (backOf (W := 0) (rm_inr l Z aZ hw [] r3 h_725 n0 (Nat.le_trans Z0 K__730.1) (own_inlo _ hRr.2.2.2.1) (own_inhi _ hRr.2.2.2.1)) hZW (hw _ (List.mem_of_getElem? (i := 21) rfl)) (hw _ (List.mem_of_getElem? (i := 2) rfl)) (by decide) (by decide)) (g := (mkF m 498 #[Lv q1, Zs, Lv q2, Zs, Lv q3, Zs, Lv q4, Zs, Lv q5, Zs, Iv p6, Lv a0, Zs, Lv a1, Zs, Lv a2, Zs, Lv a3, Zs, Lv a4, Zs, Lv a5, Zs, Lv a6, Zs, Lv a7, Zs, Lv b0, Zs, Lv b1, Zs, Lv b2, Zs, Lv b3, Zs, Lv b4, Zs, Lv b5, Zs, Lv b6, Zs, Lv b7, Zs, Iv mz, Rv b_80, Rv b_157, Rv b_262, Rv b_397, Rv b_564, Rv b_576, Rv b_590, Rv ob, Rv oo, Us] [(.long r3)])) rfl (by rw [hMX]; rfl) (argsL := [(.long r3)]) (rest := []) (lenOf pd__J_Z_2 rfl) rfl (by show 2 * 0 + _ ≤ _; exact Nat.le_of_eq rfl) (hb hBY at_498) (fun _ _ => ⟨rfl, e_728, (by decide : 7 + 0 ≤ _), (by decide : 56 + 0 ≤ _)⟩)
  dsimp only [Pt.U, Pt.locs, Pt.cells, Pt.slots] at X_778 l_778 y_778 z_778 st_778 hQ_778
  subst l_778 y_778 z_778
  obtain ⟨rfl, N_778q, e_778⟩ := hQ_778
  have N_778 := Fr.app N_729 N_778q
  refine Done.pre (fun _ k_ => st_778 _ k_) ?_
  show Done _ _ _ _ _ _ _ (T_778.setTop (mkF m 501 #[Lv q1, Zs, Lv q2, Zs, Lv q3, Zs, Lv q4, Zs, Lv q5, Zs, Iv p6, Lv a0, Zs, Lv a1, Zs, Lv a2, Zs, Lv a3, Zs, Lv a4, Zs, Lv a5, Zs, Lv a6, Zs, Lv a7, Zs, Lv b0, Zs, Lv b1, Zs, Lv b2, Zs, Lv b3, Zs, Lv b4, Zs, Lv b5, Zs, Lv b6, Zs, Lv b7, Zs, Iv mz, Rv b_80, Rv b_157, Rv b_262, Rv b_397, Rv b_564, Rv b_576, Rv b_590, Rv ob, Rv oo, Us] [(.int (1 : Int32))]))
  obtain ⟨cl_779, Ar_779, q_779, S_779, N__779, H_779, G_779⟩ := id f_736
  have hin_779 : ¬ ((4 : Int32) < 0 ∨ cl_779.slots.size ≤ ((4 : Int32)).toNatClampNeg) := inb_of S_779 ⟨by decide, by decide⟩
  have hat_779 : cl_779.slots[((4 : Int32)).toNatClampNeg]? = some (.long r4) := H_779.at hin_779 rfl
  have sg_780 : ∀ tt_, Steps p.tables e below (T_778.setTop (mkF m 508 #[Lv q1, Zs, Lv q2, Zs, Lv q3, Zs, Lv q4, Zs, Lv q5, Zs, Iv p6, Lv a0, Zs, Lv a1, Zs, Lv a2, Zs, Lv a3, Zs, Lv a4, Zs, Lv a5, Zs, Lv a6, Zs, Lv a7, Zs, Lv b0, Zs, Lv b1, Zs, Lv b2, Zs, Lv b3, Zs, Lv b4, Zs, Lv b5, Zs, Lv b6, Zs, Lv b7, Zs, Iv mz, Rv b_80, Rv b_157, Rv b_262, Rv b_397, Rv b_564, Rv b_576, Rv b_590, Rv ob, Rv oo, Us] [(.long r4)])) tt_ → Steps p.tables e below (T_778.setTop (mkF m 501 #[Lv q1, Zs, Lv q2, Zs, Lv q3, Zs, Lv q4, Zs, Lv q5, Zs, Iv p6, Lv a0, Zs, Lv a1, Zs, Lv a2, Zs, Lv a3, Zs, Lv a4, Zs, Lv a5, Zs, Lv a6, Zs, Lv a7, Zs, Lv b0, Zs, Lv b1, Zs, Lv b2, Zs, Lv b3, Zs, Lv b4, Zs, Lv b5, Zs, Lv b6, Zs, Lv b7, Zs, Iv mz, Rv b_80, Rv b_157, Rv b_262, Rv b_397, Rv b_564, Rv b_576, Rv b_590, Rv ob, Rv oo, Us] [(.int (1 : Int32))])) tt_ := by
    intro tt_ kt_
    refine XS.ifNo X_778.here hEX rfl (hb hBY at_501) rfl ((if0 _ _).trans (feq (by decide : ¬ ((1 : Int32) = (0 : Int32)))).1) ?_
    show Steps p.tables e below (T_778.setTop (mkF m 504 #[Lv q1, Zs, Lv q2, Zs, Lv q3, Zs, Lv q4, Zs, Lv q5, Zs, Iv p6, Lv a0, Zs, Lv a1, Zs, Lv a2, Zs, Lv a3, Zs, Lv a4, Zs, Lv a5, Zs, Lv a6, Zs, Lv a7, Zs, Lv b0, Zs, Lv b1, Zs, Lv b2, Zs, Lv b3, Zs, Lv b4, Zs, Lv b5, Zs, Lv b6, Zs, Lv b7, Zs, Iv mz, Rv b_80, Rv b_157, Rv b_262, Rv b_397, Rv b_564, Rv b_576, Rv b_590, Rv ob, Rv oo, Us] [])) tt_
    refine XS.aload X_778.here hEX rfl (hb hBY at_504) rfl rfl ?_
    show Steps p.tables e below (T_778.setTop (mkF m 506 #[Lv q1, Zs, Lv q2, Zs, Lv q3, Zs, Lv q4, Zs, Lv q5, Zs, Iv p6, Lv a0, Zs, Lv a1, Zs, Lv a2, Zs, Lv a3, Zs, Lv a4, Zs, Lv a5, Zs, Lv a6, Zs, Lv a7, Zs, Lv b0, Zs, Lv b1, Zs, Lv b2, Zs, Lv b3, Zs, Lv b4, Zs, Lv b5, Zs, Lv b6, Zs, Lv b7, Zs, Iv mz, Rv b_80, Rv b_157, Rv b_262, Rv b_397, Rv b_564, Rv b_576, Rv b_590, Rv ob, Rv oo, Us] [(.ref oo)])) tt_
    refine XS.iconst X_778.here hEX rfl (hb hBY at_506) ?_
    show Steps p.tables e below (T_778.setTop (mkF m 507 #[Lv q1, Zs, Lv q2, Zs, Lv q3, Zs, Lv q4, Zs, Lv q5, Zs, Iv p6, Lv a0, Zs, Lv a1, Zs, Lv a2, Zs, Lv a3, Zs, Lv a4, Zs, Lv a5, Zs, Lv a6, Zs, Lv a7, Zs, Lv b0, Zs, Lv b1, Zs, Lv b2, Zs, Lv b3, Zs, Lv b4, Zs, Lv b5, Zs, Lv b6, Zs, Lv b7, Zs, Iv mz, Rv b_80, Rv b_157, Rv b_262, Rv b_397, Rv b_564, Rv b_576, Rv b_590, Rv ob, Rv oo, Us] [(.int (4 : Int32)), (.ref oo)])) tt_
    refine X_778.laload hEX (j := (4 : Int32)) (v := (.long r4)) (by rw [e_778]; exact Ar_779.1) (State.isArrayOf_alike hZW.alike Ar_779.2.1) Ar_779.2.2 hin_779 hat_779 (g := (mkF m 507 #[Lv q1, Zs, Lv q2, Zs, Lv q3, Zs, Lv q4, Zs, Lv q5, Zs, Iv p6, Lv a0, Zs, Lv a1, Zs, Lv a2, Zs, Lv a3, Zs, Lv a4, Zs, Lv a5, Zs, Lv a6, Zs, Lv a7, Zs, Lv b0, Zs, Lv b1, Zs, Lv b2, Zs, Lv b3, Zs, Lv b4, Zs, Lv b5, Zs, Lv b6, Zs, Lv b7, Zs, Iv mz, Rv b_80, Rv b_157, Rv b_262, Rv b_397, Rv b_564, Rv b_576, Rv b_590, Rv ob, Rv oo, Us] [(.int (4 : Int32)), (.ref oo)])) rfl rfl (hb hBY at_507) _ ?_
    exact kt_
  refine Done.pre sg_780 ?_
  obtain ⟨_, _, ⟨T_781, L_781, k_781, n_781⟩, -, X_781, ⟨Lc_781, hQ_781, l_781, y_781, z_781⟩, st_781⟩ := Jvm.LawKit.callS X_778 hEX (y := (⟨"com/example/guard3/guard3/P384FieldSubtractPinLaw", "inRange", "(J)Z"⟩ : MethodName)) hOW (mvT hZW (hw _ (List.mem_of_getElem? (i := 19) rfl))) (mvT hZW (hw _ (List.mem_of_getElem? (i := 20) rfl))) (mvT hZW (hw _ (List.mem_of_getElem? (i := 2) rfl))) (mvT hZW (hw _ (List.mem_of_getElem? (i := 21) rfl))) (by decide) (backOf (W := 0) (rm_inr l Z aZ hw [] r4 h_725 n0 (Nat.le_trans Z0 K__730.1) (own_inlo _ hRr.2.2.2.2.1) (own_inhi _ hRr.2.2.2.2.1)) hZW (hw _ (List.mem_of_getElem? (i := 21) rfl)) (hw _ (List.mem_of_getElem? (i := 2) rfl)) (by decide) (by decide)) (g := (mkF m 508 #[Lv q1, Zs, Lv q2, Zs, Lv q3, Zs, Lv q4, Zs, Lv q5, Zs, Iv p6, Lv a0, Zs, Lv a1, Zs, Lv a2, Zs, Lv a3, Zs, Lv a4, Zs, Lv a5, Zs, Lv a6, Zs, Lv a7, Zs, Lv b0, Zs, Lv b1, Zs, Lv b2, Zs, Lv b3, Zs, Lv b4, Zs, Lv b5, Zs, Lv b6, Zs, Lv b7, Zs, Iv mz, Rv b_80, Rv b_157, Rv b_262, Rv b_397, Rv b_564, Rv b_576, Rv b_590, Rv ob, Rv oo, Us] [(.long r4)])) rfl (by rw [hMX]; rfl) (argsL := [(.long r4)]) (rest := []) (lenOf pd__J_Z_2 rfl) rfl (by show 2 * 0 + _ ≤ _; exact Nat.le_of_eq rfl) (hb hBY at_508) (fun _ _ => ⟨rfl, e_778, (by decide : 7 + 0 ≤ _), (by decide : 56 + 0 ≤ _)⟩)
  dsimp only [Pt.U, Pt.locs, Pt.cells, Pt.slots] at X_781 l_781 y_781 z_781 st_781 hQ_781
  subst l_781 y_781 z_781
  obtain ⟨rfl, N_781q, e_781⟩ := hQ_781
  have N_781 := Fr.app N_778 N_781q
  refine Done.pre (fun _ k_ => st_781 _ k_) ?_
  show Done _ _ _ _ _ _ _ (T_781.setTop (mkF m 511 #[Lv q1, Zs, Lv q2, Zs, Lv q3, Zs, Lv q4, Zs, Lv q5, Zs, Iv p6, Lv a0, Zs, Lv a1, Zs, Lv a2, Zs, Lv a3, Zs, Lv a4, Zs, Lv a5, Zs, Lv a6, Zs, Lv a7, Zs, Lv b0, Zs, Lv b1, Zs, Lv b2, Zs, Lv b3, Zs, Lv b4, Zs, Lv b5, Zs, Lv b6, Zs, Lv b7, Zs, Iv mz, Rv b_80, Rv b_157, Rv b_262, Rv b_397, Rv b_564, Rv b_576, Rv b_590, Rv ob, Rv oo, Us] [(.int (1 : Int32))]))
  obtain ⟨cl_782, Ar_782, q_782, S_782, N__782, H_782, G_782⟩ := id f_736
  have hin_782 : ¬ ((5 : Int32) < 0 ∨ cl_782.slots.size ≤ ((5 : Int32)).toNatClampNeg) := inb_of S_782 ⟨by decide, by decide⟩
  have hat_782 : cl_782.slots[((5 : Int32)).toNatClampNeg]? = some (.long r5) := H_782.at hin_782 rfl
  have sg_783 : ∀ tt_, Steps p.tables e below (T_781.setTop (mkF m 518 #[Lv q1, Zs, Lv q2, Zs, Lv q3, Zs, Lv q4, Zs, Lv q5, Zs, Iv p6, Lv a0, Zs, Lv a1, Zs, Lv a2, Zs, Lv a3, Zs, Lv a4, Zs, Lv a5, Zs, Lv a6, Zs, Lv a7, Zs, Lv b0, Zs, Lv b1, Zs, Lv b2, Zs, Lv b3, Zs, Lv b4, Zs, Lv b5, Zs, Lv b6, Zs, Lv b7, Zs, Iv mz, Rv b_80, Rv b_157, Rv b_262, Rv b_397, Rv b_564, Rv b_576, Rv b_590, Rv ob, Rv oo, Us] [(.long r5)])) tt_ → Steps p.tables e below (T_781.setTop (mkF m 511 #[Lv q1, Zs, Lv q2, Zs, Lv q3, Zs, Lv q4, Zs, Lv q5, Zs, Iv p6, Lv a0, Zs, Lv a1, Zs, Lv a2, Zs, Lv a3, Zs, Lv a4, Zs, Lv a5, Zs, Lv a6, Zs, Lv a7, Zs, Lv b0, Zs, Lv b1, Zs, Lv b2, Zs, Lv b3, Zs, Lv b4, Zs, Lv b5, Zs, Lv b6, Zs, Lv b7, Zs, Iv mz, Rv b_80, Rv b_157, Rv b_262, Rv b_397, Rv b_564, Rv b_576, Rv b_590, Rv ob, Rv oo, Us] [(.int (1 : Int32))])) tt_ := by
    intro tt_ kt_
    refine XS.ifNo X_781.here hEX rfl (hb hBY at_511) rfl ((if0 _ _).trans (feq (by decide : ¬ ((1 : Int32) = (0 : Int32)))).1) ?_
    show Steps p.tables e below (T_781.setTop (mkF m 514 #[Lv q1, Zs, Lv q2, Zs, Lv q3, Zs, Lv q4, Zs, Lv q5, Zs, Iv p6, Lv a0, Zs, Lv a1, Zs, Lv a2, Zs, Lv a3, Zs, Lv a4, Zs, Lv a5, Zs, Lv a6, Zs, Lv a7, Zs, Lv b0, Zs, Lv b1, Zs, Lv b2, Zs, Lv b3, Zs, Lv b4, Zs, Lv b5, Zs, Lv b6, Zs, Lv b7, Zs, Iv mz, Rv b_80, Rv b_157, Rv b_262, Rv b_397, Rv b_564, Rv b_576, Rv b_590, Rv ob, Rv oo, Us] [])) tt_
    refine XS.aload X_781.here hEX rfl (hb hBY at_514) rfl rfl ?_
    show Steps p.tables e below (T_781.setTop (mkF m 516 #[Lv q1, Zs, Lv q2, Zs, Lv q3, Zs, Lv q4, Zs, Lv q5, Zs, Iv p6, Lv a0, Zs, Lv a1, Zs, Lv a2, Zs, Lv a3, Zs, Lv a4, Zs, Lv a5, Zs, Lv a6, Zs, Lv a7, Zs, Lv b0, Zs, Lv b1, Zs, Lv b2, Zs, Lv b3, Zs, Lv b4, Zs, Lv b5, Zs, Lv b6, Zs, Lv b7, Zs, Iv mz, Rv b_80, Rv b_157, Rv b_262, Rv b_397, Rv b_564, Rv b_576, Rv b_590, Rv ob, Rv oo, Us] [(.ref oo)])) tt_
    refine XS.iconst X_781.here hEX rfl (hb hBY at_516) ?_
    show Steps p.tables e below (T_781.setTop (mkF m 517 #[Lv q1, Zs, Lv q2, Zs, Lv q3, Zs, Lv q4, Zs, Lv q5, Zs, Iv p6, Lv a0, Zs, Lv a1, Zs, Lv a2, Zs, Lv a3, Zs, Lv a4, Zs, Lv a5, Zs, Lv a6, Zs, Lv a7, Zs, Lv b0, Zs, Lv b1, Zs, Lv b2, Zs, Lv b3, Zs, Lv b4, Zs, Lv b5, Zs, Lv b6, Zs, Lv b7, Zs, Iv mz, Rv b_80, Rv b_157, Rv b_262, Rv b_397, Rv b_564, Rv b_576, Rv b_590, Rv ob, Rv oo, Us] [(.int (5 : Int32)), (.ref oo)])) tt_
    refine X_781.laload hEX (j := (5 : Int32)) (v := (.long r5)) (by rw [e_781]; exact Ar_782.1) (State.isArrayOf_alike hZW.alike Ar_782.2.1) Ar_782.2.2 hin_782 hat_782 (g := (mkF m 517 #[Lv q1, Zs, Lv q2, Zs, Lv q3, Zs, Lv q4, Zs, Lv q5, Zs, Iv p6, Lv a0, Zs, Lv a1, Zs, Lv a2, Zs, Lv a3, Zs, Lv a4, Zs, Lv a5, Zs, Lv a6, Zs, Lv a7, Zs, Lv b0, Zs, Lv b1, Zs, Lv b2, Zs, Lv b3, Zs, Lv b4, Zs, Lv b5, Zs, Lv b6, Zs, Lv b7, Zs, Iv mz, Rv b_80, Rv b_157, Rv b_262, Rv b_397, Rv b_564, Rv b_576, Rv b_590, Rv ob, Rv oo, Us] [(.int (5 : Int32)), (.ref oo)])) rfl rfl (hb hBY at_517) _ ?_
    exact kt_
  refine Done.pre sg_783 ?_
  obtain ⟨_, _, ⟨T_784, L_784, k_784, n_784⟩, -, X_784, ⟨Lc_784, hQ_784, l_784, y_784, z_784⟩, st_784⟩ := Jvm.LawKit.callS X_781 hEX (y := (⟨"com/example/guard3/guard3/P384FieldSubtractPinLaw", "inRange", "(J)Z"⟩ : MethodName)) hOW (mvT hZW (hw _ (List.mem_of_getElem? (i := 19) rfl))) (mvT hZW (hw _ (List.mem_of_getElem? (i := 20) rfl))) (mvT hZW (hw _ (List.mem_of_getElem? (i := 2) rfl))) (mvT hZW (hw _ (List.mem_of_getElem? (i := 21) rfl))) (by decide) (backOf (W := 0) (rm_inr l Z aZ hw [] r5 h_725 n0 (Nat.le_trans Z0 K__730.1) (own_inlo _ hRr.2.2.2.2.2.1) (own_inhi _ hRr.2.2.2.2.2.1)) hZW (hw _ (List.mem_of_getElem? (i := 21) rfl)) (hw _ (List.mem_of_getElem? (i := 2) rfl)) (by decide) (by decide)) (g := (mkF m 518 #[Lv q1, Zs, Lv q2, Zs, Lv q3, Zs, Lv q4, Zs, Lv q5, Zs, Iv p6, Lv a0, Zs, Lv a1, Zs, Lv a2, Zs, Lv a3, Zs, Lv a4, Zs, Lv a5, Zs, Lv a6, Zs, Lv a7, Zs, Lv b0, Zs, Lv b1, Zs, Lv b2, Zs, Lv b3, Zs, Lv b4, Zs, Lv b5, Zs, Lv b6, Zs, Lv b7, Zs, Iv mz, Rv b_80, Rv b_157, Rv b_262, Rv b_397, Rv b_564, Rv b_576, Rv b_590, Rv ob, Rv oo, Us] [(.long r5)])) rfl (by rw [hMX]; rfl) (argsL := [(.long r5)]) (rest := []) (lenOf pd__J_Z_2 rfl) rfl (by show 2 * 0 + _ ≤ _; exact Nat.le_of_eq rfl) (hb hBY at_518) (fun _ _ => ⟨rfl, e_781, (by decide : 7 + 0 ≤ _), (by decide : 56 + 0 ≤ _)⟩)
  dsimp only [Pt.U, Pt.locs, Pt.cells, Pt.slots] at X_784 l_784 y_784 z_784 st_784 hQ_784
  subst l_784 y_784 z_784
  obtain ⟨rfl, N_784q, e_784⟩ := hQ_784
  have N_784 := Fr.app N_781 N_784q
  refine Done.pre (fun _ k_ => st_784 _ k_) ?_
  show Done _ _ _ _ _ _ _ (T_784.setTop (mkF m 521 #[Lv q1, Zs, Lv q2, Zs, Lv q3, Zs, Lv q4, Zs, Lv q5, Zs, Iv p6, Lv a0, Zs, Lv a1, Zs, Lv a2, Zs, Lv a3, Zs, Lv a4, Zs, Lv a5, Zs, Lv a6, Zs, Lv a7, Zs, Lv b0, Zs, Lv b1, Zs, Lv b2, Zs, Lv b3, Zs, Lv b4, Zs, Lv b5, Zs, Lv b6, Zs, Lv b7, Zs, Iv mz, Rv b_80, Rv b_157, Rv b_262, Rv b_397, Rv b_564, Rv b_576, Rv b_590, Rv ob, Rv oo, Us] [(.int (1 : Int32))]))
  have sg_785 : ∀ tt_, Steps p.tables e below (T_784.setTop (mkF m 524 #[Lv q1, Zs, Lv q2, Zs, Lv q3, Zs, Lv q4, Zs, Lv q5, Zs, Iv p6, Lv a0, Zs, Lv a1, Zs, Lv a2, Zs, Lv a3, Zs, Lv a4, Zs, Lv a5, Zs, Lv a6, Zs, Lv a7, Zs, Lv b0, Zs, Lv b1, Zs, Lv b2, Zs, Lv b3, Zs, Lv b4, Zs, Lv b5, Zs, Lv b6, Zs, Lv b7, Zs, Iv mz, Rv b_80, Rv b_157, Rv b_262, Rv b_397, Rv b_564, Rv b_576, Rv b_590, Rv ob, Rv oo, Us] [])) tt_ → Steps p.tables e below (T_784.setTop (mkF m 521 #[Lv q1, Zs, Lv q2, Zs, Lv q3, Zs, Lv q4, Zs, Lv q5, Zs, Iv p6, Lv a0, Zs, Lv a1, Zs, Lv a2, Zs, Lv a3, Zs, Lv a4, Zs, Lv a5, Zs, Lv a6, Zs, Lv a7, Zs, Lv b0, Zs, Lv b1, Zs, Lv b2, Zs, Lv b3, Zs, Lv b4, Zs, Lv b5, Zs, Lv b6, Zs, Lv b7, Zs, Iv mz, Rv b_80, Rv b_157, Rv b_262, Rv b_397, Rv b_564, Rv b_576, Rv b_590, Rv ob, Rv oo, Us] [(.int (1 : Int32))])) tt_ := by
    intro tt_ kt_
    refine XS.ifNo X_784.here hEX rfl (hb hBY at_521) rfl ((if0 _ _).trans (feq (by decide : ¬ ((1 : Int32) = (0 : Int32)))).1) ?_
    exact kt_
  refine Done.pre sg_785 ?_
  show Done _ _ _ _ _ _ _ (T_784.setTop (mkF m 524 #[Lv q1, Zs, Lv q2, Zs, Lv q3, Zs, Lv q4, Zs, Lv q5, Zs, Iv p6, Lv a0, Zs, Lv a1, Zs, Lv a2, Zs, Lv a3, Zs, Lv a4, Zs, Lv a5, Zs, Lv a6, Zs, Lv a7, Zs, Lv b0, Zs, Lv b1, Zs, Lv b2, Zs, Lv b3, Zs, Lv b4, Zs, Lv b5, Zs, Lv b6, Zs, Lv b7, Zs, Iv mz, Rv b_80, Rv b_157, Rv b_262, Rv b_397, Rv b_564, Rv b_576, Rv b_590, Rv ob, Rv oo, Us] []))
  exact rm0_j524 l Z aZ hw ws q1 q2 q3 q4 q5 p6 h0 n0 Z0 p e s m below meth cO hEX hBY hMX hOW hNM hLK hRT hZW a0 a1 a2 a3 a4 a5 a6 a7 b0 b1 b2 b3 b4 b5 b6 b7 b_80 b_157 b_262 k_262 b_397 k_397 b_564 b_576 k_576 b_590 k_590 oo ob mz r0 r1 r2 r3 r4 r5 r6 r7 kO T_784 h_725 _ X_784 e_784 N_784 K__730 f_731 f_732 f_733 f_734 f_735 f_736 hRa hRb hNa hRr hMr ne_737 ne_738 ne_739 ne_740 ne_741 ne_742 ne_743 ne_744 ne_745 ne_746 ne_747 ne_748 ne_749 ne_750 ne_751 ne_752 ne_753 ne_754 ne_755 ne_756 ne_757 ne_758 ne_759 ne_760 ne_761 ge_762 ge_763 ge_764 ge_765 ge_766 ge_767 ge_768 sz_769 sz_770 sz_771 sz_772 sz_773 sz_774 sz_775
set_option maxRecDepth 65536 in
set_option maxHeartbeats 40000000 in
theorem rm0_j464 (l : Launch) (Z : State) (aZ : Array Value) (hw : ∀ d ∈ tables_1, d.before aZ Z = true) (ws : List Jvm.Cond) (q1 : Int64) (q2 : Int64) (q3 : Int64) (q4 : Int64) (q5 : Int64) (p6 : Int32) (h0 : Heap) (n0 : Nat) (Z0 : n0 ≤ h0.size)
    (p : Program) (e : Env) (s : State) (m : MethodId) (below : List Frame) (meth : Method) (cO : Code) (hEX : p.tables.exec = Jvm.exec) (hBY : cO.code = code) (hMX : cO.maxLocals = 54) (hOW : s.vm.findClass "com/example/guard3/guard3/P384FieldSubtractPinLaw" = some m.cls) (hNM : meth.name = x.name) (hLK : meth.locks = false) (hRT : meth.sig.returnType = ret) (hZW : Z.Warmed39 s.vm)
    (a0 : Int64) (a1 : Int64) (a2 : Int64) (a3 : Int64) (a4 : Int64) (a5 : Int64) (a6 : Int64) (a7 : Int64) (b0 : Int64) (b1 : Int64) (b2 : Int64) (b3 : Int64) (b4 : Int64) (b5 : Int64) (b6 : Int64) (b7 : Int64) (b_80 : Addr) (b_157 : Addr) (b_262 : Addr) (k_262 : ClassId) (b_397 : Addr) (k_397 : ClassId) (b_564 : Addr) (b_576 : Addr) (k_576 : ClassId) (b_590 : Addr) (k_590 : ClassId) (T_665 : State) (h_666 : Heap) (L_667 : List Loc) (X_668 : Stand p l e room_1 s m #[(.long q1), (.long q2), (.long q3), (.long q4), (.long q5), (.int p6)] below meth cO T_665 L_667 7 56) (e_669 : T_665.heap = h_666) (N_670 : Fr n0 L_667) (K__671 : Keep h0 h_666 []) (oo : Addr) (ob : Addr) (mz : Int32) (r0 : Int64) (r1 : Int64) (r2 : Int64) (r3 : Int64) (r4 : Int64) (r5 : Int64) (r6 : Int64) (r7 : Int64) (kO : ClassId) (f_672 : Arv Z h_666 b_262 k_262 .long (8 : Int32) [(.long b0), (.long b1), (.long b2), (.long b3), (.long b4), (.long b5), (.long b6), (.long b7)] (.long (0 : Int64))) (f_673 : Arv Z h_666 b_397 k_397 .long (8 : Int32) [(.long (-a0)), (.long (-a1)), (.long (-a2)), (.long (-a3)), (.long (-a4)), (.long (-a5)), (.long (-a6)), (.long (-a7))] (.long (0 : Int64))) (f_674 : Arv Z h_666 b_576 k_576 .long (8 : Int32) [(.long (0 : Int64)), (.long (0 : Int64)), (.long (0 : Int64)), (.long (0 : Int64)), (.long (0 : Int64)), (.long (0 : Int64)), (.long (0 : Int64)), (.long (0 : Int64))] (.long (0 : Int64))) (f_675 : Exa Z h_666 b_590 "[J") (f_676 : Arv Z h_666 b_590 k_590 .long (8 : Int32) [(.long (0 : Int64)), (.long (0 : Int64)), (.long (0 : Int64)), (.long (0 : Int64)), (.long (0 : Int64)), (.long (0 : Int64)), (.long (0 : Int64)), (.long (0 : Int64))] (.long (0 : Int64))) (f_677 : Arv Z h_666 oo kO .long (8 : Int32) [(.long r0), (.long r1), (.long r2), (.long r3), (.long r4), (.long r5), (.long r6), (.long r7)] (.long (0 : Int64))) (nO_b_262 : oo ≠ b_262) (nO_b_397 : oo ≠ b_397) (nO_b_576 : oo ≠ b_576) (nO_b_590 : oo ≠ b_590) (hRr : own_R 562949953421440 r0 r1 r2 r3 r4 r5 r6 r7) (hMr : own_M ((own_W a0 a1 a2 a3 a4 a5 a6 a7 - own_W b0 b1 b2 b3 b4 b5 b6 b7) - own_W r0 r1 r2 r3 r4 r5 r6 r7)) (hRa : own_R 1125899906842624 a0 a1 a2 a3 a4 a5 a6 a7) (hRb : own_R 1125899906842624 b0 b1 b2 b3 b4 b5 b6 b7) (hNa : own_R 1125899906842624 (-a0) (-a1) (-a2) (-a3) (-a4) (-a5) (-a6) (-a7) ∧ own_W (-a0) (-a1) (-a2) (-a3) (-a4) (-a5) (-a6) (-a7) = -own_W a0 a1 a2 a3 a4 a5 a6 a7) (ne_678 : b_80 ≠ b_157) (ne_679 : b_80 ≠ b_262) (ne_680 : b_157 ≠ b_262) (ne_681 : b_80 ≠ b_397) (ne_682 : b_157 ≠ b_397) (ne_683 : b_262 ≠ b_397) (ne_684 : b_80 ≠ b_564) (ne_685 : b_157 ≠ b_564) (ne_686 : b_262 ≠ b_564) (ne_687 : b_397 ≠ b_564) (ne_688 : b_80 ≠ b_576) (ne_689 : b_157 ≠ b_576) (ne_690 : b_262 ≠ b_576) (ne_691 : b_397 ≠ b_576) (ne_692 : b_564 ≠ b_576) (ne_693 : b_80 ≠ b_590) (ne_694 : b_157 ≠ b_590) (ne_695 : b_262 ≠ b_590) (ne_696 : b_397 ≠ b_590) (ne_697 : b_564 ≠ b_590) (ne_698 : b_576 ≠ b_590) (ge_699 : n0 ≤ b_80) (ge_700 : n0 ≤ b_157) (ge_701 : n0 ≤ b_262) (ge_702 : n0 ≤ b_397) (ge_703 : n0 ≤ b_564) (ge_704 : n0 ≤ b_576) (ge_705 : n0 ≤ b_590) (sz_706 : h0.size ≤ b_80) (sz_707 : h0.size ≤ b_157) (sz_708 : h0.size ≤ b_262) (sz_709 : h0.size ≤ b_397) (sz_710 : h0.size ≤ b_564) (sz_711 : h0.size ≤ b_576) (sz_712 : h0.size ≤ b_590) :
    Done p e below s (Qrm0 Z q1 q2 q3 q4 q5 p6 h0 n0) room_1.cells room_1.slots (T_665.setTop (mkF m 464 #[Lv q1, Zs, Lv q2, Zs, Lv q3, Zs, Lv q4, Zs, Lv q5, Zs, Iv p6, Lv a0, Zs, Lv a1, Zs, Lv a2, Zs, Lv a3, Zs, Lv a4, Zs, Lv a5, Zs, Lv a6, Zs, Lv a7, Zs, Lv b0, Zs, Lv b1, Zs, Lv b2, Zs, Lv b3, Zs, Lv b4, Zs, Lv b5, Zs, Lv b6, Zs, Lv b7, Zs, Iv mz, Rv b_80, Rv b_157, Rv b_262, Rv b_397, Rv b_564, Rv b_576, Rv b_590, Rv ob, Rv oo, Us] [])) := by
  obtain ⟨cl_713, Ar_713, q_713, S_713, N__713, H_713, G_713⟩ := id f_677
  have hin_713 : ¬ ((0 : Int32) < 0 ∨ cl_713.slots.size ≤ ((0 : Int32)).toNatClampNeg) := inb_of S_713 ⟨by decide, by decide⟩
  have hat_713 : cl_713.slots[((0 : Int32)).toNatClampNeg]? = some (.long r0) := H_713.at hin_713 rfl
  have sg_714 : ∀ tt_, Steps p.tables e below (T_665.setTop (mkF m 468 #[Lv q1, Zs, Lv q2, Zs, Lv q3, Zs, Lv q4, Zs, Lv q5, Zs, Iv p6, Lv a0, Zs, Lv a1, Zs, Lv a2, Zs, Lv a3, Zs, Lv a4, Zs, Lv a5, Zs, Lv a6, Zs, Lv a7, Zs, Lv b0, Zs, Lv b1, Zs, Lv b2, Zs, Lv b3, Zs, Lv b4, Zs, Lv b5, Zs, Lv b6, Zs, Lv b7, Zs, Iv mz, Rv b_80, Rv b_157, Rv b_262, Rv b_397, Rv b_564, Rv b_576, Rv b_590, Rv ob, Rv oo, Us] [(.long r0)])) tt_ → Steps p.tables e below (T_665.setTop (mkF m 464 #[Lv q1, Zs, Lv q2, Zs, Lv q3, Zs, Lv q4, Zs, Lv q5, Zs, Iv p6, Lv a0, Zs, Lv a1, Zs, Lv a2, Zs, Lv a3, Zs, Lv a4, Zs, Lv a5, Zs, Lv a6, Zs, Lv a7, Zs, Lv b0, Zs, Lv b1, Zs, Lv b2, Zs, Lv b3, Zs, Lv b4, Zs, Lv b5, Zs, Lv b6, Zs, Lv b7, Zs, Iv mz, Rv b_80, Rv b_157, Rv b_262, Rv b_397, Rv b_564, Rv b_576, Rv b_590, Rv ob, Rv oo, Us] [])) tt_ := by
    intro tt_ kt_
    refine XS.aload X_668.here hEX rfl (hb hBY at_464) rfl rfl ?_
    show Steps p.tables e below (T_665.setTop (mkF m 466 #[Lv q1, Zs, Lv q2, Zs, Lv q3, Zs, Lv q4, Zs, Lv q5, Zs, Iv p6, Lv a0, Zs, Lv a1, Zs, Lv a2, Zs, Lv a3, Zs, Lv a4, Zs, Lv a5, Zs, Lv a6, Zs, Lv a7, Zs, Lv b0, Zs, Lv b1, Zs, Lv b2, Zs, Lv b3, Zs, Lv b4, Zs, Lv b5, Zs, Lv b6, Zs, Lv b7, Zs, Iv mz, Rv b_80, Rv b_157, Rv b_262, Rv b_397, Rv b_564, Rv b_576, Rv b_590, Rv ob, Rv oo, Us] [(.ref oo)])) tt_
    refine XS.iconst X_668.here hEX rfl (hb hBY at_466) ?_
    show Steps p.tables e below (T_665.setTop (mkF m 467 #[Lv q1, Zs, Lv q2, Zs, Lv q3, Zs, Lv q4, Zs, Lv q5, Zs, Iv p6, Lv a0, Zs, Lv a1, Zs, Lv a2, Zs, Lv a3, Zs, Lv a4, Zs, Lv a5, Zs, Lv a6, Zs, Lv a7, Zs, Lv b0, Zs, Lv b1, Zs, Lv b2, Zs, Lv b3, Zs, Lv b4, Zs, Lv b5, Zs, Lv b6, Zs, Lv b7, Zs, Iv mz, Rv b_80, Rv b_157, Rv b_262, Rv b_397, Rv b_564, Rv b_576, Rv b_590, Rv ob, Rv oo, Us] [(.int (0 : Int32)), (.ref oo)])) tt_
    refine X_668.laload hEX (j := (0 : Int32)) (v := (.long r0)) (by rw [e_669]; exact Ar_713.1) (State.isArrayOf_alike hZW.alike Ar_713.2.1) Ar_713.2.2 hin_713 hat_713 (g := (mkF m 467 #[Lv q1, Zs, Lv q2, Zs, Lv q3, Zs, Lv q4, Zs, Lv q5, Zs, Iv p6, Lv a0, Zs, Lv a1, Zs, Lv a2, Zs, Lv a3, Zs, Lv a4, Zs, Lv a5, Zs, Lv a6, Zs, Lv a7, Zs, Lv b0, Zs, Lv b1, Zs, Lv b2, Zs, Lv b3, Zs, Lv b4, Zs, Lv b5, Zs, Lv b6, Zs, Lv b7, Zs, Iv mz, Rv b_80, Rv b_157, Rv b_262, Rv b_397, Rv b_564, Rv b_576, Rv b_590, Rv ob, Rv oo, Us] [(.int (0 : Int32)), (.ref oo)])) rfl rfl (hb hBY at_467) _ ?_
    exact kt_
  refine Done.pre sg_714 ?_
  obtain ⟨_, _, ⟨T_715, L_715, k_715, n_715⟩, -, X_715, ⟨Lc_715, hQ_715, l_715, y_715, z_715⟩, st_715⟩ := Jvm.LawKit.callS X_668 hEX (y := (⟨"com/example/guard3/guard3/P384FieldSubtractPinLaw", "inRange", "(J)Z"⟩ : MethodName)) hOW (mvT hZW (hw _ (List.mem_of_getElem? (i := 19) rfl))) (mvT hZW (hw _ (List.mem_of_getElem? (i := 20) rfl))) (mvT hZW (hw _ (List.mem_of_getElem? (i := 2) rfl))) (mvT hZW (hw _ (List.mem_of_getElem? (i := 21) rfl))) (by decide) (backOf (W := 0) (rm_inr l Z aZ hw [] r0 h_666 n0 (Nat.le_trans Z0 K__671.1) (own_inlo _ hRr.1) (own_inhi _ hRr.1)) hZW (hw _ (List.mem_of_getElem? (i := 21) rfl)) (hw _ (List.mem_of_getElem? (i := 2) rfl)) (by decide) (by decide)) (g := (mkF m 468 #[Lv q1, Zs, Lv q2, Zs, Lv q3, Zs, Lv q4, Zs, Lv q5, Zs, Iv p6, Lv a0, Zs, Lv a1, Zs, Lv a2, Zs, Lv a3, Zs, Lv a4, Zs, Lv a5, Zs, Lv a6, Zs, Lv a7, Zs, Lv b0, Zs, Lv b1, Zs, Lv b2, Zs, Lv b3, Zs, Lv b4, Zs, Lv b5, Zs, Lv b6, Zs, Lv b7, Zs, Iv mz, Rv b_80, Rv b_157, Rv b_262, Rv b_397, Rv b_564, Rv b_576, Rv b_590, Rv ob, Rv oo, Us] [(.long r0)])) rfl (by rw [hMX]; rfl) (argsL := [(.long r0)]) (rest := []) (lenOf pd__J_Z_2 rfl) rfl (by show 2 * 0 + _ ≤ _; exact Nat.le_of_eq rfl) (hb hBY at_468) (fun _ _ => ⟨rfl, e_669, (by decide : 7 + 0 ≤ _), (by decide : 56 + 0 ≤ _)⟩)
  dsimp only [Pt.U, Pt.locs, Pt.cells, Pt.slots] at X_715 l_715 y_715 z_715 st_715 hQ_715
  subst l_715 y_715 z_715
  obtain ⟨rfl, N_715q, e_715⟩ := hQ_715
  have N_715 := Fr.app N_670 N_715q
  refine Done.pre (fun _ k_ => st_715 _ k_) ?_
  show Done _ _ _ _ _ _ _ (T_715.setTop (mkF m 471 #[Lv q1, Zs, Lv q2, Zs, Lv q3, Zs, Lv q4, Zs, Lv q5, Zs, Iv p6, Lv a0, Zs, Lv a1, Zs, Lv a2, Zs, Lv a3, Zs, Lv a4, Zs, Lv a5, Zs, Lv a6, Zs, Lv a7, Zs, Lv b0, Zs, Lv b1, Zs, Lv b2, Zs, Lv b3, Zs, Lv b4, Zs, Lv b5, Zs, Lv b6, Zs, Lv b7, Zs, Iv mz, Rv b_80, Rv b_157, Rv b_262, Rv b_397, Rv b_564, Rv b_576, Rv b_590, Rv ob, Rv oo, Us] [(.int (1 : Int32))]))
  obtain ⟨cl_716, Ar_716, q_716, S_716, N__716, H_716, G_716⟩ := id f_677
  have hin_716 : ¬ ((1 : Int32) < 0 ∨ cl_716.slots.size ≤ ((1 : Int32)).toNatClampNeg) := inb_of S_716 ⟨by decide, by decide⟩
  have hat_716 : cl_716.slots[((1 : Int32)).toNatClampNeg]? = some (.long r1) := H_716.at hin_716 rfl
  have sg_717 : ∀ tt_, Steps p.tables e below (T_715.setTop (mkF m 478 #[Lv q1, Zs, Lv q2, Zs, Lv q3, Zs, Lv q4, Zs, Lv q5, Zs, Iv p6, Lv a0, Zs, Lv a1, Zs, Lv a2, Zs, Lv a3, Zs, Lv a4, Zs, Lv a5, Zs, Lv a6, Zs, Lv a7, Zs, Lv b0, Zs, Lv b1, Zs, Lv b2, Zs, Lv b3, Zs, Lv b4, Zs, Lv b5, Zs, Lv b6, Zs, Lv b7, Zs, Iv mz, Rv b_80, Rv b_157, Rv b_262, Rv b_397, Rv b_564, Rv b_576, Rv b_590, Rv ob, Rv oo, Us] [(.long r1)])) tt_ → Steps p.tables e below (T_715.setTop (mkF m 471 #[Lv q1, Zs, Lv q2, Zs, Lv q3, Zs, Lv q4, Zs, Lv q5, Zs, Iv p6, Lv a0, Zs, Lv a1, Zs, Lv a2, Zs, Lv a3, Zs, Lv a4, Zs, Lv a5, Zs, Lv a6, Zs, Lv a7, Zs, Lv b0, Zs, Lv b1, Zs, Lv b2, Zs, Lv b3, Zs, Lv b4, Zs, Lv b5, Zs, Lv b6, Zs, Lv b7, Zs, Iv mz, Rv b_80, Rv b_157, Rv b_262, Rv b_397, Rv b_564, Rv b_576, Rv b_590, Rv ob, Rv oo, Us] [(.int (1 : Int32))])) tt_ := by
    intro tt_ kt_
    refine XS.ifNo X_715.here hEX rfl (hb hBY at_471) rfl ((if0 _ _).trans (feq (by decide : ¬ ((1 : Int32) = (0 : Int32)))).1) ?_
    show Steps p.tables e below (T_715.setTop (mkF m 474 #[Lv q1, Zs, Lv q2, Zs, Lv q3, Zs, Lv q4, Zs, Lv q5, Zs, Iv p6, Lv a0, Zs, Lv a1, Zs, Lv a2, Zs, Lv a3, Zs, Lv a4, Zs, Lv a5, Zs, Lv a6, Zs, Lv a7, Zs, Lv b0, Zs, Lv b1, Zs, Lv b2, Zs, Lv b3, Zs, Lv b4, Zs, Lv b5, Zs, Lv b6, Zs, Lv b7, Zs, Iv mz, Rv b_80, Rv b_157, Rv b_262, Rv b_397, Rv b_564, Rv b_576, Rv b_590, Rv ob, Rv oo, Us] [])) tt_
    refine XS.aload X_715.here hEX rfl (hb hBY at_474) rfl rfl ?_
    show Steps p.tables e below (T_715.setTop (mkF m 476 #[Lv q1, Zs, Lv q2, Zs, Lv q3, Zs, Lv q4, Zs, Lv q5, Zs, Iv p6, Lv a0, Zs, Lv a1, Zs, Lv a2, Zs, Lv a3, Zs, Lv a4, Zs, Lv a5, Zs, Lv a6, Zs, Lv a7, Zs, Lv b0, Zs, Lv b1, Zs, Lv b2, Zs, Lv b3, Zs, Lv b4, Zs, Lv b5, Zs, Lv b6, Zs, Lv b7, Zs, Iv mz, Rv b_80, Rv b_157, Rv b_262, Rv b_397, Rv b_564, Rv b_576, Rv b_590, Rv ob, Rv oo, Us] [(.ref oo)])) tt_
    refine XS.iconst X_715.here hEX rfl (hb hBY at_476) ?_
    show Steps p.tables e below (T_715.setTop (mkF m 477 #[Lv q1, Zs, Lv q2, Zs, Lv q3, Zs, Lv q4, Zs, Lv q5, Zs, Iv p6, Lv a0, Zs, Lv a1, Zs, Lv a2, Zs, Lv a3, Zs, Lv a4, Zs, Lv a5, Zs, Lv a6, Zs, Lv a7, Zs, Lv b0, Zs, Lv b1, Zs, Lv b2, Zs, Lv b3, Zs, Lv b4, Zs, Lv b5, Zs, Lv b6, Zs, Lv b7, Zs, Iv mz, Rv b_80, Rv b_157, Rv b_262, Rv b_397, Rv b_564, Rv b_576, Rv b_590, Rv ob, Rv oo, Us] [(.int (1 : Int32)), (.ref oo)])) tt_
    refine X_715.laload hEX (j := (1 : Int32)) (v := (.long r1)) (by rw [e_715]; exact Ar_716.1) (State.isArrayOf_alike hZW.alike Ar_716.2.1) Ar_716.2.2 hin_716 hat_716 (g := (mkF m 477 #[Lv q1, Zs, Lv q2, Zs, Lv q3, Zs, Lv q4, Zs, Lv q5, Zs, Iv p6, Lv a0, Zs, Lv a1, Zs, Lv a2, Zs, Lv a3, Zs, Lv a4, Zs, Lv a5, Zs, Lv a6, Zs, Lv a7, Zs, Lv b0, Zs, Lv b1, Zs, Lv b2, Zs, Lv b3, Zs, Lv b4, Zs, Lv b5, Zs, Lv b6, Zs, Lv b7, Zs, Iv mz, Rv b_80, Rv b_157, Rv b_262, Rv b_397, Rv b_564, Rv b_576, Rv b_590, Rv ob, Rv oo, Us] [(.int (1 : Int32)), (.ref oo)])) rfl rfl (hb hBY at_477) _ ?_
    exact kt_
  refine Done.pre sg_717 ?_
  obtain ⟨_, _, ⟨T_718, L_718, k_718, n_718⟩, -, X_718, ⟨Lc_718, hQ_718, l_718, y_718, z_718⟩, st_718⟩ := Jvm.LawKit.callS X_715 hEX (y := (⟨"com/example/guard3/guard3/P384FieldSubtractPinLaw", "inRange", "(J)Z"⟩ : MethodName)) hOW (mvT hZW (hw _ (List.mem_of_getElem? (i := 19) rfl))) (mvT hZW (hw _ (List.mem_of_getElem? (i := 20) rfl))) (mvT hZW (hw _ (List.mem_of_getElem? (i := 2) rfl))) (mvT hZW (hw _ (List.mem_of_getElem? (i := 21) rfl))) (by decide) (backOf (W := 0) (rm_inr l Z aZ hw [] r1 h_666 n0 (Nat.le_trans Z0 K__671.1) (own_inlo _ hRr.2.1) (own_inhi _ hRr.2.1)) hZW (hw _ (List.mem_of_getElem? (i := 21) rfl)) (hw _ (List.mem_of_getElem? (i := 2) rfl)) (by decide) (by decide)) (g := (mkF m 478 #[Lv q1, Zs, Lv q2, Zs, Lv q3, Zs, Lv q4, Zs, Lv q5, Zs, Iv p6, Lv a0, Zs, Lv a1, Zs, Lv a2, Zs, Lv a3, Zs, Lv a4, Zs, Lv a5, Zs, Lv a6, Zs, Lv a7, Zs, Lv b0, Zs, Lv b1, Zs, Lv b2, Zs, Lv b3, Zs, Lv b4, Zs, Lv b5, Zs, Lv b6, Zs, Lv b7, Zs, Iv mz, Rv b_80, Rv b_157, Rv b_262, Rv b_397, Rv b_564, Rv b_576, Rv b_590, Rv ob, Rv oo, Us] [(.long r1)])) rfl (by rw [hMX]; rfl) (argsL := [(.long r1)]) (rest := []) (lenOf pd__J_Z_2 rfl) rfl (by show 2 * 0 + _ ≤ _; exact Nat.le_of_eq rfl) (hb hBY at_478) (fun _ _ => ⟨rfl, e_715, (by decide : 7 + 0 ≤ _), (by decide : 56 + 0 ≤ _)⟩)
  dsimp only [Pt.U, Pt.locs, Pt.cells, Pt.slots] at X_718 l_718 y_718 z_718 st_718 hQ_718
  subst l_718 y_718 z_718
  obtain ⟨rfl, N_718q, e_718⟩ := hQ_718
  have N_718 := Fr.app N_715 N_718q
  refine Done.pre (fun _ k_ => st_718 _ k_) ?_
  show Done _ _ _ _ _ _ _ (T_718.setTop (mkF m 481 #[Lv q1, Zs, Lv q2, Zs, Lv q3, Zs, Lv q4, Zs, Lv q5, Zs, Iv p6, Lv a0, Zs, Lv a1, Zs, Lv a2, Zs, Lv a3, Zs, Lv a4, Zs, Lv a5, Zs, Lv a6, Zs, Lv a7, Zs, Lv b0, Zs, Lv b1, Zs, Lv b2, Zs, Lv b3, Zs, Lv b4, Zs, Lv b5, Zs, Lv b6, Zs, Lv b7, Zs, Iv mz, Rv b_80, Rv b_157, Rv b_262, Rv b_397, Rv b_564, Rv b_576, Rv b_590, Rv ob, Rv oo, Us] [(.int (1 : Int32))]))
  obtain ⟨cl_719, Ar_719, q_719, S_719, N__719, H_719, G_719⟩ := id f_677
  have hin_719 : ¬ ((2 : Int32) < 0 ∨ cl_719.slots.size ≤ ((2 : Int32)).toNatClampNeg) := inb_of S_719 ⟨by decide, by decide⟩
  have hat_719 : cl_719.slots[((2 : Int32)).toNatClampNeg]? = some (.long r2) := H_719.at hin_719 rfl
  have sg_720 : ∀ tt_, Steps p.tables e below (T_718.setTop (mkF m 488 #[Lv q1, Zs, Lv q2, Zs, Lv q3, Zs, Lv q4, Zs, Lv q5, Zs, Iv p6, Lv a0, Zs, Lv a1, Zs, Lv a2, Zs, Lv a3, Zs, Lv a4, Zs, Lv a5, Zs, Lv a6, Zs, Lv a7, Zs, Lv b0, Zs, Lv b1, Zs, Lv b2, Zs, Lv b3, Zs, Lv b4, Zs, Lv b5, Zs, Lv b6, Zs, Lv b7, Zs, Iv mz, Rv b_80, Rv b_157, Rv b_262, Rv b_397, Rv b_564, Rv b_576, Rv b_590, Rv ob, Rv oo, Us] [(.long r2)])) tt_ → Steps p.tables e below (T_718.setTop (mkF m 481 #[Lv q1, Zs, Lv q2, Zs, Lv q3, Zs, Lv q4, Zs, Lv q5, Zs, Iv p6, Lv a0, Zs, Lv a1, Zs, Lv a2, Zs, Lv a3, Zs, Lv a4, Zs, Lv a5, Zs, Lv a6, Zs, Lv a7, Zs, Lv b0, Zs, Lv b1, Zs, Lv b2, Zs, Lv b3, Zs, Lv b4, Zs, Lv b5, Zs, Lv b6, Zs, Lv b7, Zs, Iv mz, Rv b_80, Rv b_157, Rv b_262, Rv b_397, Rv b_564, Rv b_576, Rv b_590, Rv ob, Rv oo, Us] [(.int (1 : Int32))])) tt_ := by
    intro tt_ kt_
    refine XS.ifNo X_718.here hEX rfl (hb hBY at_481) rfl ((if0 _ _).trans (feq (by decide : ¬ ((1 : Int32) = (0 : Int32)))).1) ?_
    show Steps p.tables e below (T_718.setTop (mkF m 484 #[Lv q1, Zs, Lv q2, Zs, Lv q3, Zs, Lv q4, Zs, Lv q5, Zs, Iv p6, Lv a0, Zs, Lv a1, Zs, Lv a2, Zs, Lv a3, Zs, Lv a4, Zs, Lv a5, Zs, Lv a6, Zs, Lv a7, Zs, Lv b0, Zs, Lv b1, Zs, Lv b2, Zs, Lv b3, Zs, Lv b4, Zs, Lv b5, Zs, Lv b6, Zs, Lv b7, Zs, Iv mz, Rv b_80, Rv b_157, Rv b_262, Rv b_397, Rv b_564, Rv b_576, Rv b_590, Rv ob, Rv oo, Us] [])) tt_
    refine XS.aload X_718.here hEX rfl (hb hBY at_484) rfl rfl ?_
    show Steps p.tables e below (T_718.setTop (mkF m 486 #[Lv q1, Zs, Lv q2, Zs, Lv q3, Zs, Lv q4, Zs, Lv q5, Zs, Iv p6, Lv a0, Zs, Lv a1, Zs, Lv a2, Zs, Lv a3, Zs, Lv a4, Zs, Lv a5, Zs, Lv a6, Zs, Lv a7, Zs, Lv b0, Zs, Lv b1, Zs, Lv b2, Zs, Lv b3, Zs, Lv b4, Zs, Lv b5, Zs, Lv b6, Zs, Lv b7, Zs, Iv mz, Rv b_80, Rv b_157, Rv b_262, Rv b_397, Rv b_564, Rv b_576, Rv b_590, Rv ob, Rv oo, Us] [(.ref oo)])) tt_
    refine XS.iconst X_718.here hEX rfl (hb hBY at_486) ?_
    show Steps p.tables e below (T_718.setTop (mkF m 487 #[Lv q1, Zs, Lv q2, Zs, Lv q3, Zs, Lv q4, Zs, Lv q5, Zs, Iv p6, Lv a0, Zs, Lv a1, Zs, Lv a2, Zs, Lv a3, Zs, Lv a4, Zs, Lv a5, Zs, Lv a6, Zs, Lv a7, Zs, Lv b0, Zs, Lv b1, Zs, Lv b2, Zs, Lv b3, Zs, Lv b4, Zs, Lv b5, Zs, Lv b6, Zs, Lv b7, Zs, Iv mz, Rv b_80, Rv b_157, Rv b_262, Rv b_397, Rv b_564, Rv b_576, Rv b_590, Rv ob, Rv oo, Us] [(.int (2 : Int32)), (.ref oo)])) tt_
    refine X_718.laload hEX (j := (2 : Int32)) (v := (.long r2)) (by rw [e_718]; exact Ar_719.1) (State.isArrayOf_alike hZW.alike Ar_719.2.1) Ar_719.2.2 hin_719 hat_719 (g := (mkF m 487 #[Lv q1, Zs, Lv q2, Zs, Lv q3, Zs, Lv q4, Zs, Lv q5, Zs, Iv p6, Lv a0, Zs, Lv a1, Zs, Lv a2, Zs, Lv a3, Zs, Lv a4, Zs, Lv a5, Zs, Lv a6, Zs, Lv a7, Zs, Lv b0, Zs, Lv b1, Zs, Lv b2, Zs, Lv b3, Zs, Lv b4, Zs, Lv b5, Zs, Lv b6, Zs, Lv b7, Zs, Iv mz, Rv b_80, Rv b_157, Rv b_262, Rv b_397, Rv b_564, Rv b_576, Rv b_590, Rv ob, Rv oo, Us] [(.int (2 : Int32)), (.ref oo)])) rfl rfl (hb hBY at_487) _ ?_
    exact kt_
  refine Done.pre sg_720 ?_
  obtain ⟨_, _, ⟨T_721, L_721, k_721, n_721⟩, -, X_721, ⟨Lc_721, hQ_721, l_721, y_721, z_721⟩, st_721⟩ := Jvm.LawKit.callS X_718 hEX (y := (⟨"com/example/guard3/guard3/P384FieldSubtractPinLaw", "inRange", "(J)Z"⟩ : MethodName)) hOW (mvT hZW (hw _ (List.mem_of_getElem? (i := 19) rfl))) (mvT hZW (hw _ (List.mem_of_getElem? (i := 20) rfl))) (mvT hZW (hw _ (List.mem_of_getElem? (i := 2) rfl))) (mvT hZW (hw _ (List.mem_of_getElem? (i := 21) rfl))) (by decide) (backOf (W := 0) (rm_inr l Z aZ hw [] r2 h_666 n0 (Nat.le_trans Z0 K__671.1) (own_inlo _ hRr.2.2.1) (own_inhi _ hRr.2.2.1)) hZW (hw _ (List.mem_of_getElem? (i := 21) rfl)) (hw _ (List.mem_of_getElem? (i := 2) rfl)) (by decide) (by decide)) (g := (mkF m 488 #[Lv q1, Zs, Lv q2, Zs, Lv q3, Zs, Lv q4, Zs, Lv q5, Zs, Iv p6, Lv a0, Zs, Lv a1, Zs, Lv a2, Zs, Lv a3, Zs, Lv a4, Zs, Lv a5, Zs, Lv a6, Zs, Lv a7, Zs, Lv b0, Zs, Lv b1, Zs, Lv b2, Zs, Lv b3, Zs, Lv b4, Zs, Lv b5, Zs, Lv b6, Zs, Lv b7, Zs, Iv mz, Rv b_80, Rv b_157, Rv b_262, Rv b_397, Rv b_564, Rv b_576, Rv b_590, Rv ob, Rv oo, Us] [(.long r2)])) rfl (by rw [hMX]; rfl) (argsL := [(.long r2)]) (rest := []) (lenOf pd__J_Z_2 rfl) rfl (by show 2 * 0 + _ ≤ _; exact Nat.le_of_eq rfl) (hb hBY at_488) (fun _ _ => ⟨rfl, e_718, (by decide : 7 + 0 ≤ _), (by decide : 56 + 0 ≤ _)⟩)
  dsimp only [Pt.U, Pt.locs, Pt.cells, Pt.slots] at X_721 l_721 y_721 z_721 st_721 hQ_721
  subst l_721 y_721 z_721
  obtain ⟨rfl, N_721q, e_721⟩ := hQ_721
  have N_721 := Fr.app N_718 N_721q
  refine Done.pre (fun _ k_ => st_721 _ k_) ?_
  show Done _ _ _ _ _ _ _ (T_721.setTop (mkF m 491 #[Lv q1, Zs, Lv q2, Zs, Lv q3, Zs, Lv q4, Zs, Lv q5, Zs, Iv p6, Lv a0, Zs, Lv a1, Zs, Lv a2, Zs, Lv a3, Zs, Lv a4, Zs, Lv a5, Zs, Lv a6, Zs, Lv a7, Zs, Lv b0, Zs, Lv b1, Zs, Lv b2, Zs, Lv b3, Zs, Lv b4, Zs, Lv b5, Zs, Lv b6, Zs, Lv b7, Zs, Iv mz, Rv b_80, Rv b_157, Rv b_262, Rv b_397, Rv b_564, Rv b_576, Rv b_590, Rv ob, Rv oo, Us] [(.int (1 : Int32))]))
  have sg_722 : ∀ tt_, Steps p.tables e below (T_721.setTop (mkF m 494 #[Lv q1, Zs, Lv q2, Zs, Lv q3, Zs, Lv q4, Zs, Lv q5, Zs, Iv p6, Lv a0, Zs, Lv a1, Zs, Lv a2, Zs, Lv a3, Zs, Lv a4, Zs, Lv a5, Zs, Lv a6, Zs, Lv a7, Zs, Lv b0, Zs, Lv b1, Zs, Lv b2, Zs, Lv b3, Zs, Lv b4, Zs, Lv b5, Zs, Lv b6, Zs, Lv b7, Zs, Iv mz, Rv b_80, Rv b_157, Rv b_262, Rv b_397, Rv b_564, Rv b_576, Rv b_590, Rv ob, Rv oo, Us] [])) tt_ → Steps p.tables e below (T_721.setTop (mkF m 491 #[Lv q1, Zs, Lv q2, Zs, Lv q3, Zs, Lv q4, Zs, Lv q5, Zs, Iv p6, Lv a0, Zs, Lv a1, Zs, Lv a2, Zs, Lv a3, Zs, Lv a4, Zs, Lv a5, Zs, Lv a6, Zs, Lv a7, Zs, Lv b0, Zs, Lv b1, Zs, Lv b2, Zs, Lv b3, Zs, Lv b4, Zs, Lv b5, Zs, Lv b6, Zs, Lv b7, Zs, Iv mz, Rv b_80, Rv b_157, Rv b_262, Rv b_397, Rv b_564, Rv b_576, Rv b_590, Rv ob, Rv oo, Us] [(.int (1 : Int32))])) tt_ := by
    intro tt_ kt_
    refine XS.ifNo X_721.here hEX rfl (hb hBY at_491) rfl ((if0 _ _).trans (feq (by decide : ¬ ((1 : Int32) = (0 : Int32)))).1) ?_
    exact kt_
  refine Done.pre sg_722 ?_
  show Done _ _ _ _ _ _ _ (T_721.setTop (mkF m 494 #[Lv q1, Zs, Lv q2, Zs, Lv q3, Zs, Lv q4, Zs, Lv q5, Zs, Iv p6, Lv a0, Zs, Lv a1, Zs, Lv a2, Zs, Lv a3, Zs, Lv a4, Zs, Lv a5, Zs, Lv a6, Zs, Lv a7, Zs, Lv b0, Zs, Lv b1, Zs, Lv b2, Zs, Lv b3, Zs, Lv b4, Zs, Lv b5, Zs, Lv b6, Zs, Lv b7, Zs, Iv mz, Rv b_80, Rv b_157, Rv b_262, Rv b_397, Rv b_564, Rv b_576, Rv b_590, Rv ob, Rv oo, Us] []))
  exact rm0_j494 l Z aZ hw ws q1 q2 q3 q4 q5 p6 h0 n0 Z0 p e s m below meth cO hEX hBY hMX hOW hNM hLK hRT hZW a0 a1 a2 a3 a4 a5 a6 a7 b0 b1 b2 b3 b4 b5 b6 b7 b_80 b_157 b_262 k_262 b_397 k_397 b_564 b_576 k_576 b_590 k_590 oo ob mz r0 r1 r2 r3 r4 r5 r6 r7 kO T_721 h_666 _ X_721 e_721 N_721 K__671 f_672 f_673 f_674 f_675 f_676 f_677 hRa hRb hNa hRr hMr ne_678 ne_679 ne_680 ne_681 ne_682 ne_683 ne_684 ne_685 ne_686 ne_687 ne_688 ne_689 ne_690 ne_691 ne_692 ne_693 ne_694 ne_695 ne_696 ne_697 ne_698 nO_b_262 nO_b_397 nO_b_576 nO_b_590 ge_699 ge_700 ge_701 ge_702 ge_703 ge_704 ge_705 sz_706 sz_707 sz_708 sz_709 sz_710 sz_711 sz_712
set_option maxRecDepth 65536 in
set_option maxHeartbeats 40000000 in
theorem rm0_j400 (l : Launch) (Z : State) (aZ : Array Value) (hw : ∀ d ∈ tables_1, d.before aZ Z = true) (ws : List Jvm.Cond) (q1 : Int64) (q2 : Int64) (q3 : Int64) (q4 : Int64) (q5 : Int64) (p6 : Int32) (h0 : Heap) (n0 : Nat) (Z0 : n0 ≤ h0.size)
    (p : Program) (e : Env) (s : State) (m : MethodId) (below : List Frame) (meth : Method) (cO : Code) (hEX : p.tables.exec = Jvm.exec) (hBY : cO.code = code) (hMX : cO.maxLocals = 54) (hOW : s.vm.findClass "com/example/guard3/guard3/P384FieldSubtractPinLaw" = some m.cls) (hNM : meth.name = x.name) (hLK : meth.locks = false) (hRT : meth.sig.returnType = ret) (hZW : Z.Warmed39 s.vm)
    (a0 : Int64) (a1 : Int64) (a2 : Int64) (a3 : Int64) (a4 : Int64) (a5 : Int64) (a6 : Int64) (a7 : Int64) (md : Int32) (b0 : Int64) (b1 : Int64) (b2 : Int64) (b3 : Int64) (b4 : Int64) (b5 : Int64) (b6 : Int64) (b7 : Int64) (b_80 : Addr) (k_80 : ClassId) (b_157 : Addr) (k_157 : ClassId) (b_262 : Addr) (k_262 : ClassId) (b_397 : Addr) (k_397 : ClassId) (b_564 : Addr) (k_564 : ClassId) (b_576 : Addr) (k_576 : ClassId) (b_590 : Addr) (k_590 : ClassId) (T_607 : State) (h_608 : Heap) (L_609 : List Loc) (X_610 : Stand p l e room_1 s m #[(.long q1), (.long q2), (.long q3), (.long q4), (.long q5), (.int p6)] below meth cO T_607 L_609 7 56) (e_611 : T_607.heap = h_608) (N_612 : Fr n0 L_609) (K__613 : Keep h0 h_608 []) (f_614 : Exa Z h_608 b_80 "[J") (f_615 : Arv Z h_608 b_80 k_80 .long (8 : Int32) [(.long a0), (.long a1), (.long a2), (.long a3), (.long a4), (.long a5), (.long a6), (.long a7)] (.long (0 : Int64))) (f_616 : Exa Z h_608 b_157 "[J") (f_617 : Arv Z h_608 b_157 k_157 .long (8 : Int32) [(.long b0), (.long b1), (.long b2), (.long b3), (.long b4), (.long b5), (.long b6), (.long b7)] (.long (0 : Int64))) (f_618 : Exa Z h_608 b_262 "[J") (f_619 : Arv Z h_608 b_262 k_262 .long (8 : Int32) [(.long b0), (.long b1), (.long b2), (.long b3), (.long b4), (.long b5), (.long b6), (.long b7)] (.long (0 : Int64))) (f_620 : Exa Z h_608 b_397 "[J") (f_621 : Arv Z h_608 b_397 k_397 .long (8 : Int32) [(.long (-a0)), (.long (-a1)), (.long (-a2)), (.long (-a3)), (.long (-a4)), (.long (-a5)), (.long (-a6)), (.long (-a7))] (.long (0 : Int64))) (f_622 : Exa Z h_608 b_564 "[J") (f_623 : Arv Z h_608 b_564 k_564 .long (8 : Int32) [(.long (0 : Int64)), (.long (0 : Int64)), (.long (0 : Int64)), (.long (0 : Int64)), (.long (0 : Int64)), (.long (0 : Int64)), (.long (0 : Int64)), (.long (0 : Int64))] (.long (0 : Int64))) (f_624 : Exa Z h_608 b_576 "[J") (f_625 : Arv Z h_608 b_576 k_576 .long (8 : Int32) [(.long (0 : Int64)), (.long (0 : Int64)), (.long (0 : Int64)), (.long (0 : Int64)), (.long (0 : Int64)), (.long (0 : Int64)), (.long (0 : Int64)), (.long (0 : Int64))] (.long (0 : Int64))) (f_626 : Exa Z h_608 b_590 "[J") (f_627 : Arv Z h_608 b_590 k_590 .long (8 : Int32) [(.long (0 : Int64)), (.long (0 : Int64)), (.long (0 : Int64)), (.long (0 : Int64)), (.long (0 : Int64)), (.long (0 : Int64)), (.long (0 : Int64)), (.long (0 : Int64))] (.long (0 : Int64))) (hRa : own_R 1125899906842624 a0 a1 a2 a3 a4 a5 a6 a7) (hm4 : md = (0 : Int32) ∨ md = (1 : Int32) ∨ md = (2 : Int32) ∨ md = (3 : Int32)) (hRb : own_R 1125899906842624 b0 b1 b2 b3 b4 b5 b6 b7) (hEq : md = (3 : Int32) → a0 = b0 ∧ a1 = b1 ∧ a2 = b2 ∧ a3 = b3 ∧ a4 = b4 ∧ a5 = b5 ∧ a6 = b6 ∧ a7 = b7) (hNa : own_R 1125899906842624 (-a0) (-a1) (-a2) (-a3) (-a4) (-a5) (-a6) (-a7) ∧ own_W (-a0) (-a1) (-a2) (-a3) (-a4) (-a5) (-a6) (-a7) = -own_W a0 a1 a2 a3 a4 a5 a6 a7) (ne_628 : b_80 ≠ b_157) (ne_629 : b_80 ≠ b_262) (ne_630 : b_157 ≠ b_262) (ne_631 : b_80 ≠ b_397) (ne_632 : b_157 ≠ b_397) (ne_633 : b_262 ≠ b_397) (ne_634 : b_80 ≠ b_564) (ne_635 : b_157 ≠ b_564) (ne_636 : b_262 ≠ b_564) (ne_637 : b_397 ≠ b_564) (ne_638 : b_80 ≠ b_576) (ne_639 : b_157 ≠ b_576) (ne_640 : b_262 ≠ b_576) (ne_641 : b_397 ≠ b_576) (ne_642 : b_564 ≠ b_576) (ne_643 : b_80 ≠ b_590) (ne_644 : b_157 ≠ b_590) (ne_645 : b_262 ≠ b_590) (ne_646 : b_397 ≠ b_590) (ne_647 : b_564 ≠ b_590) (ne_648 : b_576 ≠ b_590) (ge_649 : n0 ≤ b_80) (ge_650 : n0 ≤ b_157) (ge_651 : n0 ≤ b_262) (ge_652 : n0 ≤ b_397) (ge_653 : n0 ≤ b_564) (ge_654 : n0 ≤ b_576) (ge_655 : n0 ≤ b_590) (sz_656 : h0.size ≤ b_80) (sz_657 : h0.size ≤ b_157) (sz_658 : h0.size ≤ b_262) (sz_659 : h0.size ≤ b_397) (sz_660 : h0.size ≤ b_564) (sz_661 : h0.size ≤ b_576) (sz_662 : h0.size ≤ b_590) :
    Done p e below s (Qrm0 Z q1 q2 q3 q4 q5 p6 h0 n0) room_1.cells room_1.slots (T_607.setTop (mkF m 400 #[Lv q1, Zs, Lv q2, Zs, Lv q3, Zs, Lv q4, Zs, Lv q5, Zs, Iv p6, Lv a0, Zs, Lv a1, Zs, Lv a2, Zs, Lv a3, Zs, Lv a4, Zs, Lv a5, Zs, Lv a6, Zs, Lv a7, Zs, Lv b0, Zs, Lv b1, Zs, Lv b2, Zs, Lv b3, Zs, Lv b4, Zs, Lv b5, Zs, Lv b6, Zs, Lv b7, Zs, Iv md, Rv b_80, Rv b_157, Rv b_262, Rv b_397, Rv b_564, Rv b_576, Rv b_590, Us, Us, Us] [])) := by
  have sg_663 : ∀ tt_, Steps p.tables e below (T_607.setTop (mkF m 408 #[Lv q1, Zs, Lv q2, Zs, Lv q3, Zs, Lv q4, Zs, Lv q5, Zs, Iv p6, Lv a0, Zs, Lv a1, Zs, Lv a2, Zs, Lv a3, Zs, Lv a4, Zs, Lv a5, Zs, Lv a6, Zs, Lv a7, Zs, Lv b0, Zs, Lv b1, Zs, Lv b2, Zs, Lv b3, Zs, Lv b4, Zs, Lv b5, Zs, Lv b6, Zs, Lv b7, Zs, Iv md, Rv b_80, Rv b_157, Rv b_262, Rv b_397, Rv b_564, Rv b_576, Rv b_590, Rv b_157, Rv b_564, Us] [])) tt_ → Steps p.tables e below (T_607.setTop (mkF m 400 #[Lv q1, Zs, Lv q2, Zs, Lv q3, Zs, Lv q4, Zs, Lv q5, Zs, Iv p6, Lv a0, Zs, Lv a1, Zs, Lv a2, Zs, Lv a3, Zs, Lv a4, Zs, Lv a5, Zs, Lv a6, Zs, Lv a7, Zs, Lv b0, Zs, Lv b1, Zs, Lv b2, Zs, Lv b3, Zs, Lv b4, Zs, Lv b5, Zs, Lv b6, Zs, Lv b7, Zs, Iv md, Rv b_80, Rv b_157, Rv b_262, Rv b_397, Rv b_564, Rv b_576, Rv b_590, Us, Us, Us] [])) tt_ := by
    intro tt_ kt_
    refine XS.aload X_610.here hEX rfl (hb hBY at_400) rfl rfl ?_
    show Steps p.tables e below (T_607.setTop (mkF m 402 #[Lv q1, Zs, Lv q2, Zs, Lv q3, Zs, Lv q4, Zs, Lv q5, Zs, Iv p6, Lv a0, Zs, Lv a1, Zs, Lv a2, Zs, Lv a3, Zs, Lv a4, Zs, Lv a5, Zs, Lv a6, Zs, Lv a7, Zs, Lv b0, Zs, Lv b1, Zs, Lv b2, Zs, Lv b3, Zs, Lv b4, Zs, Lv b5, Zs, Lv b6, Zs, Lv b7, Zs, Iv md, Rv b_80, Rv b_157, Rv b_262, Rv b_397, Rv b_564, Rv b_576, Rv b_590, Us, Us, Us] [(.ref b_157)])) tt_
    refine XS.astore X_610.here hEX rfl (hb hBY at_402) rfl rfl (l' := #[Lv q1, Zs, Lv q2, Zs, Lv q3, Zs, Lv q4, Zs, Lv q5, Zs, Iv p6, Lv a0, Zs, Lv a1, Zs, Lv a2, Zs, Lv a3, Zs, Lv a4, Zs, Lv a5, Zs, Lv a6, Zs, Lv a7, Zs, Lv b0, Zs, Lv b1, Zs, Lv b2, Zs, Lv b3, Zs, Lv b4, Zs, Lv b5, Zs, Lv b6, Zs, Lv b7, Zs, Iv md, Rv b_80, Rv b_157, Rv b_262, Rv b_397, Rv b_564, Rv b_576, Rv b_590, Rv b_157, Us, Us]) rfl ?_
    show Steps p.tables e below (T_607.setTop (mkF m 404 #[Lv q1, Zs, Lv q2, Zs, Lv q3, Zs, Lv q4, Zs, Lv q5, Zs, Iv p6, Lv a0, Zs, Lv a1, Zs, Lv a2, Zs, Lv a3, Zs, Lv a4, Zs, Lv a5, Zs, Lv a6, Zs, Lv a7, Zs, Lv b0, Zs, Lv b1, Zs, Lv b2, Zs, Lv b3, Zs, Lv b4, Zs, Lv b5, Zs, Lv b6, Zs, Lv b7, Zs, Iv md, Rv b_80, Rv b_157, Rv b_262, Rv b_397, Rv b_564, Rv b_576, Rv b_590, Rv b_157, Us, Us] [])) tt_
    refine XS.aload X_610.here hEX rfl (hb hBY at_404) rfl rfl ?_
    show Steps p.tables e below (T_607.setTop (mkF m 406 #[Lv q1, Zs, Lv q2, Zs, Lv q3, Zs, Lv q4, Zs, Lv q5, Zs, Iv p6, Lv a0, Zs, Lv a1, Zs, Lv a2, Zs, Lv a3, Zs, Lv a4, Zs, Lv a5, Zs, Lv a6, Zs, Lv a7, Zs, Lv b0, Zs, Lv b1, Zs, Lv b2, Zs, Lv b3, Zs, Lv b4, Zs, Lv b5, Zs, Lv b6, Zs, Lv b7, Zs, Iv md, Rv b_80, Rv b_157, Rv b_262, Rv b_397, Rv b_564, Rv b_576, Rv b_590, Rv b_157, Us, Us] [(.ref b_564)])) tt_
    refine XS.astore X_610.here hEX rfl (hb hBY at_406) rfl rfl (l' := #[Lv q1, Zs, Lv q2, Zs, Lv q3, Zs, Lv q4, Zs, Lv q5, Zs, Iv p6, Lv a0, Zs, Lv a1, Zs, Lv a2, Zs, Lv a3, Zs, Lv a4, Zs, Lv a5, Zs, Lv a6, Zs, Lv a7, Zs, Lv b0, Zs, Lv b1, Zs, Lv b2, Zs, Lv b3, Zs, Lv b4, Zs, Lv b5, Zs, Lv b6, Zs, Lv b7, Zs, Iv md, Rv b_80, Rv b_157, Rv b_262, Rv b_397, Rv b_564, Rv b_576, Rv b_590, Rv b_157, Rv b_564, Us]) rfl ?_
    exact kt_
  refine Done.pre sg_663 ?_
  show Done _ _ _ _ _ _ _ (T_607.setTop (mkF m 408 #[Lv q1, Zs, Lv q2, Zs, Lv q3, Zs, Lv q4, Zs, Lv q5, Zs, Iv p6, Lv a0, Zs, Lv a1, Zs, Lv a2, Zs, Lv a3, Zs, Lv a4, Zs, Lv a5, Zs, Lv a6, Zs, Lv a7, Zs, Lv b0, Zs, Lv b1, Zs, Lv b2, Zs, Lv b3, Zs, Lv b4, Zs, Lv b5, Zs, Lv b6, Zs, Lv b7, Zs, Iv md, Rv b_80, Rv b_157, Rv b_262, Rv b_397, Rv b_564, Rv b_576, Rv b_590, Rv b_157, Rv b_564, Us] []))
  rcases hm4 with rfl | rfl | rfl | rfl
  · skip
    show Done _ _ _ _ _ _ _ (T_607.setTop (mkF m 408 #[Lv q1, Zs, Lv q2, Zs, Lv q3, Zs, Lv q4, Zs, Lv q5, Zs, Iv p6, Lv a0, Zs, Lv a1, Zs, Lv a2, Zs, Lv a3, Zs, Lv a4, Zs, Lv a5, Zs, Lv a6, Zs, Lv a7, Zs, Lv b0, Zs, Lv b1, Zs, Lv b2, Zs, Lv b3, Zs, Lv b4, Zs, Lv b5, Zs, Lv b6, Zs, Lv b7, Zs, Iv (0 : Int32), Rv b_80, Rv b_157, Rv b_262, Rv b_397, Rv b_564, Rv b_576, Rv b_590, Rv b_157, Rv b_564, Us] []))
    have sg_924 : ∀ tt_, Steps p.tables e below (T_607.setTop (mkF m 461 #[Lv q1, Zs, Lv q2, Zs, Lv q3, Zs, Lv q4, Zs, Lv q5, Zs, Iv p6, Lv a0, Zs, Lv a1, Zs, Lv a2, Zs, Lv a3, Zs, Lv a4, Zs, Lv a5, Zs, Lv a6, Zs, Lv a7, Zs, Lv b0, Zs, Lv b1, Zs, Lv b2, Zs, Lv b3, Zs, Lv b4, Zs, Lv b5, Zs, Lv b6, Zs, Lv b7, Zs, Iv (0 : Int32), Rv b_80, Rv b_157, Rv b_262, Rv b_397, Rv b_564, Rv b_576, Rv b_590, Rv b_157, Rv b_564, Us] [(.ref b_564), (.ref b_157), (.ref b_80)])) tt_ → Steps p.tables e below (T_607.setTop (mkF m 408 #[Lv q1, Zs, Lv q2, Zs, Lv q3, Zs, Lv q4, Zs, Lv q5, Zs, Iv p6, Lv a0, Zs, Lv a1, Zs, Lv a2, Zs, Lv a3, Zs, Lv a4, Zs, Lv a5, Zs, Lv a6, Zs, Lv a7, Zs, Lv b0, Zs, Lv b1, Zs, Lv b2, Zs, Lv b3, Zs, Lv b4, Zs, Lv b5, Zs, Lv b6, Zs, Lv b7, Zs, Iv (0 : Int32), Rv b_80, Rv b_157, Rv b_262, Rv b_397, Rv b_564, Rv b_576, Rv b_590, Rv b_157, Rv b_564, Us] [])) tt_ := by
      intro tt_ kt_
      refine XS.iload X_610.here hEX rfl (hb hBY at_408) rfl ?_
      show Steps p.tables e below (T_607.setTop (mkF m 410 #[Lv q1, Zs, Lv q2, Zs, Lv q3, Zs, Lv q4, Zs, Lv q5, Zs, Iv p6, Lv a0, Zs, Lv a1, Zs, Lv a2, Zs, Lv a3, Zs, Lv a4, Zs, Lv a5, Zs, Lv a6, Zs, Lv a7, Zs, Lv b0, Zs, Lv b1, Zs, Lv b2, Zs, Lv b3, Zs, Lv b4, Zs, Lv b5, Zs, Lv b6, Zs, Lv b7, Zs, Iv (0 : Int32), Rv b_80, Rv b_157, Rv b_262, Rv b_397, Rv b_564, Rv b_576, Rv b_590, Rv b_157, Rv b_564, Us] [(.int (0 : Int32))])) tt_
      refine XS.iconst X_610.here hEX rfl (hb hBY at_410) ?_
      show Steps p.tables e below (T_607.setTop (mkF m 411 #[Lv q1, Zs, Lv q2, Zs, Lv q3, Zs, Lv q4, Zs, Lv q5, Zs, Iv p6, Lv a0, Zs, Lv a1, Zs, Lv a2, Zs, Lv a3, Zs, Lv a4, Zs, Lv a5, Zs, Lv a6, Zs, Lv a7, Zs, Lv b0, Zs, Lv b1, Zs, Lv b2, Zs, Lv b3, Zs, Lv b4, Zs, Lv b5, Zs, Lv b6, Zs, Lv b7, Zs, Iv (0 : Int32), Rv b_80, Rv b_157, Rv b_262, Rv b_397, Rv b_564, Rv b_576, Rv b_590, Rv b_157, Rv b_564, Us] [(.int (1 : Int32)), (.int (0 : Int32))])) tt_
      refine XS.icmpYes X_610.here hEX rfl (pc0 := 411) (pc' := 421) rfl (hb hBY at_411) rfl (feq (by decide : ¬ ((0 : Int32) = (1 : Int32)))).2 (by decide) (by decide) ?_
      show Steps p.tables e below (T_607.setTop (mkF m 421 #[Lv q1, Zs, Lv q2, Zs, Lv q3, Zs, Lv q4, Zs, Lv q5, Zs, Iv p6, Lv a0, Zs, Lv a1, Zs, Lv a2, Zs, Lv a3, Zs, Lv a4, Zs, Lv a5, Zs, Lv a6, Zs, Lv a7, Zs, Lv b0, Zs, Lv b1, Zs, Lv b2, Zs, Lv b3, Zs, Lv b4, Zs, Lv b5, Zs, Lv b6, Zs, Lv b7, Zs, Iv (0 : Int32), Rv b_80, Rv b_157, Rv b_262, Rv b_397, Rv b_564, Rv b_576, Rv b_590, Rv b_157, Rv b_564, Us] [])) tt_
      refine XS.iload X_610.here hEX rfl (hb hBY at_421) rfl ?_
      show Steps p.tables e below (T_607.setTop (mkF m 423 #[Lv q1, Zs, Lv q2, Zs, Lv q3, Zs, Lv q4, Zs, Lv q5, Zs, Iv p6, Lv a0, Zs, Lv a1, Zs, Lv a2, Zs, Lv a3, Zs, Lv a4, Zs, Lv a5, Zs, Lv a6, Zs, Lv a7, Zs, Lv b0, Zs, Lv b1, Zs, Lv b2, Zs, Lv b3, Zs, Lv b4, Zs, Lv b5, Zs, Lv b6, Zs, Lv b7, Zs, Iv (0 : Int32), Rv b_80, Rv b_157, Rv b_262, Rv b_397, Rv b_564, Rv b_576, Rv b_590, Rv b_157, Rv b_564, Us] [(.int (0 : Int32))])) tt_
      refine XS.iconst X_610.here hEX rfl (hb hBY at_423) ?_
      show Steps p.tables e below (T_607.setTop (mkF m 424 #[Lv q1, Zs, Lv q2, Zs, Lv q3, Zs, Lv q4, Zs, Lv q5, Zs, Iv p6, Lv a0, Zs, Lv a1, Zs, Lv a2, Zs, Lv a3, Zs, Lv a4, Zs, Lv a5, Zs, Lv a6, Zs, Lv a7, Zs, Lv b0, Zs, Lv b1, Zs, Lv b2, Zs, Lv b3, Zs, Lv b4, Zs, Lv b5, Zs, Lv b6, Zs, Lv b7, Zs, Iv (0 : Int32), Rv b_80, Rv b_157, Rv b_262, Rv b_397, Rv b_564, Rv b_576, Rv b_590, Rv b_157, Rv b_564, Us] [(.int (2 : Int32)), (.int (0 : Int32))])) tt_
      refine XS.icmpYes X_610.here hEX rfl (pc0 := 424) (pc' := 434) rfl (hb hBY at_424) rfl (feq (by decide : ¬ ((0 : Int32) = (2 : Int32)))).2 (by decide) (by decide) ?_
      show Steps p.tables e below (T_607.setTop (mkF m 434 #[Lv q1, Zs, Lv q2, Zs, Lv q3, Zs, Lv q4, Zs, Lv q5, Zs, Iv p6, Lv a0, Zs, Lv a1, Zs, Lv a2, Zs, Lv a3, Zs, Lv a4, Zs, Lv a5, Zs, Lv a6, Zs, Lv a7, Zs, Lv b0, Zs, Lv b1, Zs, Lv b2, Zs, Lv b3, Zs, Lv b4, Zs, Lv b5, Zs, Lv b6, Zs, Lv b7, Zs, Iv (0 : Int32), Rv b_80, Rv b_157, Rv b_262, Rv b_397, Rv b_564, Rv b_576, Rv b_590, Rv b_157, Rv b_564, Us] [])) tt_
      refine XS.iload X_610.here hEX rfl (hb hBY at_434) rfl ?_
      show Steps p.tables e below (T_607.setTop (mkF m 436 #[Lv q1, Zs, Lv q2, Zs, Lv q3, Zs, Lv q4, Zs, Lv q5, Zs, Iv p6, Lv a0, Zs, Lv a1, Zs, Lv a2, Zs, Lv a3, Zs, Lv a4, Zs, Lv a5, Zs, Lv a6, Zs, Lv a7, Zs, Lv b0, Zs, Lv b1, Zs, Lv b2, Zs, Lv b3, Zs, Lv b4, Zs, Lv b5, Zs, Lv b6, Zs, Lv b7, Zs, Iv (0 : Int32), Rv b_80, Rv b_157, Rv b_262, Rv b_397, Rv b_564, Rv b_576, Rv b_590, Rv b_157, Rv b_564, Us] [(.int (0 : Int32))])) tt_
      refine XS.iconst X_610.here hEX rfl (hb hBY at_436) ?_
      show Steps p.tables e below (T_607.setTop (mkF m 437 #[Lv q1, Zs, Lv q2, Zs, Lv q3, Zs, Lv q4, Zs, Lv q5, Zs, Iv p6, Lv a0, Zs, Lv a1, Zs, Lv a2, Zs, Lv a3, Zs, Lv a4, Zs, Lv a5, Zs, Lv a6, Zs, Lv a7, Zs, Lv b0, Zs, Lv b1, Zs, Lv b2, Zs, Lv b3, Zs, Lv b4, Zs, Lv b5, Zs, Lv b6, Zs, Lv b7, Zs, Iv (0 : Int32), Rv b_80, Rv b_157, Rv b_262, Rv b_397, Rv b_564, Rv b_576, Rv b_590, Rv b_157, Rv b_564, Us] [(.int (3 : Int32)), (.int (0 : Int32))])) tt_
      refine XS.icmpYes X_610.here hEX rfl (pc0 := 437) (pc' := 455) rfl (hb hBY at_437) rfl (feq (by decide : ¬ ((0 : Int32) = (3 : Int32)))).2 (by decide) (by decide) ?_
      show Steps p.tables e below (T_607.setTop (mkF m 455 #[Lv q1, Zs, Lv q2, Zs, Lv q3, Zs, Lv q4, Zs, Lv q5, Zs, Iv p6, Lv a0, Zs, Lv a1, Zs, Lv a2, Zs, Lv a3, Zs, Lv a4, Zs, Lv a5, Zs, Lv a6, Zs, Lv a7, Zs, Lv b0, Zs, Lv b1, Zs, Lv b2, Zs, Lv b3, Zs, Lv b4, Zs, Lv b5, Zs, Lv b6, Zs, Lv b7, Zs, Iv (0 : Int32), Rv b_80, Rv b_157, Rv b_262, Rv b_397, Rv b_564, Rv b_576, Rv b_590, Rv b_157, Rv b_564, Us] [])) tt_
      refine XS.aload X_610.here hEX rfl (hb hBY at_455) rfl rfl ?_
      show Steps p.tables e below (T_607.setTop (mkF m 457 #[Lv q1, Zs, Lv q2, Zs, Lv q3, Zs, Lv q4, Zs, Lv q5, Zs, Iv p6, Lv a0, Zs, Lv a1, Zs, Lv a2, Zs, Lv a3, Zs, Lv a4, Zs, Lv a5, Zs, Lv a6, Zs, Lv a7, Zs, Lv b0, Zs, Lv b1, Zs, Lv b2, Zs, Lv b3, Zs, Lv b4, Zs, Lv b5, Zs, Lv b6, Zs, Lv b7, Zs, Iv (0 : Int32), Rv b_80, Rv b_157, Rv b_262, Rv b_397, Rv b_564, Rv b_576, Rv b_590, Rv b_157, Rv b_564, Us] [(.ref b_80)])) tt_
      refine XS.aload X_610.here hEX rfl (hb hBY at_457) rfl rfl ?_
      show Steps p.tables e below (T_607.setTop (mkF m 459 #[Lv q1, Zs, Lv q2, Zs, Lv q3, Zs, Lv q4, Zs, Lv q5, Zs, Iv p6, Lv a0, Zs, Lv a1, Zs, Lv a2, Zs, Lv a3, Zs, Lv a4, Zs, Lv a5, Zs, Lv a6, Zs, Lv a7, Zs, Lv b0, Zs, Lv b1, Zs, Lv b2, Zs, Lv b3, Zs, Lv b4, Zs, Lv b5, Zs, Lv b6, Zs, Lv b7, Zs, Iv (0 : Int32), Rv b_80, Rv b_157, Rv b_262, Rv b_397, Rv b_564, Rv b_576, Rv b_590, Rv b_157, Rv b_564, Us] [(.ref b_157), (.ref b_80)])) tt_
      refine XS.aload X_610.here hEX rfl (hb hBY at_459) rfl rfl ?_
      exact kt_
    refine Done.pre sg_924 ?_
    obtain ⟨_, _, ⟨T_925, L_925, k_925, n_925⟩, -, X_925, ⟨Lc_925, hQ_925, l_925, y_925, z_925⟩, st_925⟩ := Jvm.LawKit.callS X_610 hEX (y := (⟨"com/example/guard3/guard3/P384Field", "subtract", "([J[J[J)V"⟩ : MethodName)) hOW (mvT hZW (hw _ (List.mem_of_getElem? (i := 10) rfl))) (mvT hZW (hw _ (List.mem_of_getElem? (i := 11) rfl))) (mvT hZW (hw _ (List.mem_of_getElem? (i := 12) rfl))) (mvT hZW (hw _ (List.mem_of_getElem? (i := 13) rfl))) (by decide) (backOf (W := 0) (rm_subtract_abo l Z aZ hw [] b_80 b_157 b_564 k_80 a0 a1 a2 a3 a4 a5 a6 a7 k_157 b0 b1 b2 b3 b4 b5 b6 b7 k_564 (0 : Int64) (0 : Int64) (0 : Int64) (0 : Int64) (0 : Int64) (0 : Int64) (0 : Int64) (0 : Int64) h_608 n0 (Nat.le_trans Z0 K__613.1) f_615 f_617 f_623 ge_653 ne_628 ne_634 ne_635 hRa hRb) hZW (hw _ (List.mem_of_getElem? (i := 13) rfl)) (hw _ (List.mem_of_getElem? (i := 12) rfl)) (by decide) (by decide)) (g := (mkF m 461 #[Lv q1, Zs, Lv q2, Zs, Lv q3, Zs, Lv q4, Zs, Lv q5, Zs, Iv p6, Lv a0, Zs, Lv a1, Zs, Lv a2, Zs, Lv a3, Zs, Lv a4, Zs, Lv a5, Zs, Lv a6, Zs, Lv a7, Zs, Lv b0, Zs, Lv b1, Zs, Lv b2, Zs, Lv b3, Zs, Lv b4, Zs, Lv b5, Zs, Lv b6, Zs, Lv b7, Zs, Iv (0 : Int32), Rv b_80, Rv b_157, Rv b_262, Rv b_397, Rv b_564, Rv b_576, Rv b_590, Rv b_157, Rv b_564, Us] [(.ref b_564), (.ref b_157), (.ref b_80)])) rfl (by rw [hMX]; rfl) (argsL := [(.ref b_80), (.ref b_157), (.ref b_564)]) (rest := []) (lenOf pd___J_J_J_V_9 rfl) rfl (by show 2 * 0 + _ ≤ _; exact Nat.le_of_eq rfl) (hb hBY at_461) (fun _ _ => ⟨rfl, e_611, (by decide : 7 + 0 ≤ _), (by decide : 56 + 0 ≤ _)⟩)
    dsimp only [Pt.U, Pt.locs, Pt.cells, Pt.slots] at X_925 l_925 y_925 z_925 st_925 hQ_925
    subst l_925 y_925 z_925
    obtain ⟨r0, r1, r2, r3, r4, r5, r6, r7, rfl, N_925q, K_925, hq_925_0, hq_925_1, hq_925_2⟩ := hQ_925
    have N_925 := Fr.app N_612 N_925q
    have K__926 : Keep h0 T_925.heap [] := K__613.trans K_925 (allS (Or.inr sz_660) all0)
    have f_927 : Exa Z T_925.heap b_80 "[J" := f_614.keep K_925
    have f_928 : Arv Z T_925.heap b_80 k_80 .long (8 : Int32) [(.long a0), (.long a1), (.long a2), (.long a3), (.long a4), (.long a5), (.long a6), (.long a7)] (.long (0 : Int64)) := f_615.keep K_925 (ninS ne_634 nin0)
    have f_929 : Exa Z T_925.heap b_157 "[J" := f_616.keep K_925
    have f_930 : Arv Z T_925.heap b_157 k_157 .long (8 : Int32) [(.long b0), (.long b1), (.long b2), (.long b3), (.long b4), (.long b5), (.long b6), (.long b7)] (.long (0 : Int64)) := f_617.keep K_925 (ninS ne_635 nin0)
    have f_931 : Exa Z T_925.heap b_262 "[J" := f_618.keep K_925
    have f_932 : Arv Z T_925.heap b_262 k_262 .long (8 : Int32) [(.long b0), (.long b1), (.long b2), (.long b3), (.long b4), (.long b5), (.long b6), (.long b7)] (.long (0 : Int64)) := f_619.keep K_925 (ninS ne_636 nin0)
    have f_933 : Exa Z T_925.heap b_397 "[J" := f_620.keep K_925
    have f_934 : Arv Z T_925.heap b_397 k_397 .long (8 : Int32) [(.long (-a0)), (.long (-a1)), (.long (-a2)), (.long (-a3)), (.long (-a4)), (.long (-a5)), (.long (-a6)), (.long (-a7))] (.long (0 : Int64)) := f_621.keep K_925 (ninS ne_637 nin0)
    have f_935 : Exa Z T_925.heap b_564 "[J" := f_622.keep K_925
    have f_936 : Exa Z T_925.heap b_576 "[J" := f_624.keep K_925
    have f_937 : Arv Z T_925.heap b_576 k_576 .long (8 : Int32) [(.long (0 : Int64)), (.long (0 : Int64)), (.long (0 : Int64)), (.long (0 : Int64)), (.long (0 : Int64)), (.long (0 : Int64)), (.long (0 : Int64)), (.long (0 : Int64))] (.long (0 : Int64)) := f_625.keep K_925 (ninS (Ne.symm ne_642) nin0)
    have f_938 : Exa Z T_925.heap b_590 "[J" := f_626.keep K_925
    have f_939 : Arv Z T_925.heap b_590 k_590 .long (8 : Int32) [(.long (0 : Int64)), (.long (0 : Int64)), (.long (0 : Int64)), (.long (0 : Int64)), (.long (0 : Int64)), (.long (0 : Int64)), (.long (0 : Int64)), (.long (0 : Int64))] (.long (0 : Int64)) := f_627.keep K_925 (ninS (Ne.symm ne_647) nin0)
    refine Done.pre (fun _ k_ => st_925 _ k_) ?_
    show Done _ _ _ _ _ _ _ (T_925.setTop (mkF m 464 #[Lv q1, Zs, Lv q2, Zs, Lv q3, Zs, Lv q4, Zs, Lv q5, Zs, Iv p6, Lv a0, Zs, Lv a1, Zs, Lv a2, Zs, Lv a3, Zs, Lv a4, Zs, Lv a5, Zs, Lv a6, Zs, Lv a7, Zs, Lv b0, Zs, Lv b1, Zs, Lv b2, Zs, Lv b3, Zs, Lv b4, Zs, Lv b5, Zs, Lv b6, Zs, Lv b7, Zs, Iv (0 : Int32), Rv b_80, Rv b_157, Rv b_262, Rv b_397, Rv b_564, Rv b_576, Rv b_590, Rv b_157, Rv b_564, Us] []))
    have hRr := hq_925_1
    have hMr := hq_925_2
    exact rm0_j464 l Z aZ hw ws q1 q2 q3 q4 q5 p6 h0 n0 Z0 p e s m below meth cO hEX hBY hMX hOW hNM hLK hRT hZW a0 a1 a2 a3 a4 a5 a6 a7 b0 b1 b2 b3 b4 b5 b6 b7 b_80 b_157 b_262 k_262 b_397 k_397 b_564 b_576 k_576 b_590 k_590 T_925 T_925.heap _ X_925 rfl N_925 K__926 (b_564) (b_157) ((0 : Int32)) (r0) (r1) (r2) (r3) (r4) (r5) (r6) (r7) (k_564) f_932 f_934 f_937 f_938 f_939 hq_925_0 (Ne.symm ne_636) (Ne.symm ne_637) ne_642 ne_647 hRr hMr hRa hRb hNa ne_628 ne_629 ne_630 ne_631 ne_632 ne_633 ne_634 ne_635 ne_636 ne_637 ne_638 ne_639 ne_640 ne_641 ne_642 ne_643 ne_644 ne_645 ne_646 ne_647 ne_648 ge_649 ge_650 ge_651 ge_652 ge_653 ge_654 ge_655 sz_656 sz_657 sz_658 sz_659 sz_660 sz_661 sz_662
  · skip
    show Done _ _ _ _ _ _ _ (T_607.setTop (mkF m 408 #[Lv q1, Zs, Lv q2, Zs, Lv q3, Zs, Lv q4, Zs, Lv q5, Zs, Iv p6, Lv a0, Zs, Lv a1, Zs, Lv a2, Zs, Lv a3, Zs, Lv a4, Zs, Lv a5, Zs, Lv a6, Zs, Lv a7, Zs, Lv b0, Zs, Lv b1, Zs, Lv b2, Zs, Lv b3, Zs, Lv b4, Zs, Lv b5, Zs, Lv b6, Zs, Lv b7, Zs, Iv (1 : Int32), Rv b_80, Rv b_157, Rv b_262, Rv b_397, Rv b_564, Rv b_576, Rv b_590, Rv b_157, Rv b_564, Us] []))
    have sg_940 : ∀ tt_, Steps p.tables e below (T_607.setTop (mkF m 461 #[Lv q1, Zs, Lv q2, Zs, Lv q3, Zs, Lv q4, Zs, Lv q5, Zs, Iv p6, Lv a0, Zs, Lv a1, Zs, Lv a2, Zs, Lv a3, Zs, Lv a4, Zs, Lv a5, Zs, Lv a6, Zs, Lv a7, Zs, Lv b0, Zs, Lv b1, Zs, Lv b2, Zs, Lv b3, Zs, Lv b4, Zs, Lv b5, Zs, Lv b6, Zs, Lv b7, Zs, Iv (1 : Int32), Rv b_80, Rv b_157, Rv b_262, Rv b_397, Rv b_564, Rv b_576, Rv b_590, Rv b_157, Rv b_80, Us] [(.ref b_80), (.ref b_157), (.ref b_80)])) tt_ → Steps p.tables e below (T_607.setTop (mkF m 408 #[Lv q1, Zs, Lv q2, Zs, Lv q3, Zs, Lv q4, Zs, Lv q5, Zs, Iv p6, Lv a0, Zs, Lv a1, Zs, Lv a2, Zs, Lv a3, Zs, Lv a4, Zs, Lv a5, Zs, Lv a6, Zs, Lv a7, Zs, Lv b0, Zs, Lv b1, Zs, Lv b2, Zs, Lv b3, Zs, Lv b4, Zs, Lv b5, Zs, Lv b6, Zs, Lv b7, Zs, Iv (1 : Int32), Rv b_80, Rv b_157, Rv b_262, Rv b_397, Rv b_564, Rv b_576, Rv b_590, Rv b_157, Rv b_564, Us] [])) tt_ := by
      intro tt_ kt_
      refine XS.iload X_610.here hEX rfl (hb hBY at_408) rfl ?_
      show Steps p.tables e below (T_607.setTop (mkF m 410 #[Lv q1, Zs, Lv q2, Zs, Lv q3, Zs, Lv q4, Zs, Lv q5, Zs, Iv p6, Lv a0, Zs, Lv a1, Zs, Lv a2, Zs, Lv a3, Zs, Lv a4, Zs, Lv a5, Zs, Lv a6, Zs, Lv a7, Zs, Lv b0, Zs, Lv b1, Zs, Lv b2, Zs, Lv b3, Zs, Lv b4, Zs, Lv b5, Zs, Lv b6, Zs, Lv b7, Zs, Iv (1 : Int32), Rv b_80, Rv b_157, Rv b_262, Rv b_397, Rv b_564, Rv b_576, Rv b_590, Rv b_157, Rv b_564, Us] [(.int (1 : Int32))])) tt_
      refine XS.iconst X_610.here hEX rfl (hb hBY at_410) ?_
      show Steps p.tables e below (T_607.setTop (mkF m 411 #[Lv q1, Zs, Lv q2, Zs, Lv q3, Zs, Lv q4, Zs, Lv q5, Zs, Iv p6, Lv a0, Zs, Lv a1, Zs, Lv a2, Zs, Lv a3, Zs, Lv a4, Zs, Lv a5, Zs, Lv a6, Zs, Lv a7, Zs, Lv b0, Zs, Lv b1, Zs, Lv b2, Zs, Lv b3, Zs, Lv b4, Zs, Lv b5, Zs, Lv b6, Zs, Lv b7, Zs, Iv (1 : Int32), Rv b_80, Rv b_157, Rv b_262, Rv b_397, Rv b_564, Rv b_576, Rv b_590, Rv b_157, Rv b_564, Us] [(.int (1 : Int32)), (.int (1 : Int32))])) tt_
      refine XS.icmpNo X_610.here hEX rfl (hb hBY at_411) rfl (teq (by decide : (1 : Int32) = (1 : Int32))).2 ?_
      show Steps p.tables e below (T_607.setTop (mkF m 414 #[Lv q1, Zs, Lv q2, Zs, Lv q3, Zs, Lv q4, Zs, Lv q5, Zs, Iv p6, Lv a0, Zs, Lv a1, Zs, Lv a2, Zs, Lv a3, Zs, Lv a4, Zs, Lv a5, Zs, Lv a6, Zs, Lv a7, Zs, Lv b0, Zs, Lv b1, Zs, Lv b2, Zs, Lv b3, Zs, Lv b4, Zs, Lv b5, Zs, Lv b6, Zs, Lv b7, Zs, Iv (1 : Int32), Rv b_80, Rv b_157, Rv b_262, Rv b_397, Rv b_564, Rv b_576, Rv b_590, Rv b_157, Rv b_564, Us] [])) tt_
      refine XS.aload X_610.here hEX rfl (hb hBY at_414) rfl rfl ?_
      show Steps p.tables e below (T_607.setTop (mkF m 416 #[Lv q1, Zs, Lv q2, Zs, Lv q3, Zs, Lv q4, Zs, Lv q5, Zs, Iv p6, Lv a0, Zs, Lv a1, Zs, Lv a2, Zs, Lv a3, Zs, Lv a4, Zs, Lv a5, Zs, Lv a6, Zs, Lv a7, Zs, Lv b0, Zs, Lv b1, Zs, Lv b2, Zs, Lv b3, Zs, Lv b4, Zs, Lv b5, Zs, Lv b6, Zs, Lv b7, Zs, Iv (1 : Int32), Rv b_80, Rv b_157, Rv b_262, Rv b_397, Rv b_564, Rv b_576, Rv b_590, Rv b_157, Rv b_564, Us] [(.ref b_80)])) tt_
      refine XS.astore X_610.here hEX rfl (hb hBY at_416) rfl rfl (l' := #[Lv q1, Zs, Lv q2, Zs, Lv q3, Zs, Lv q4, Zs, Lv q5, Zs, Iv p6, Lv a0, Zs, Lv a1, Zs, Lv a2, Zs, Lv a3, Zs, Lv a4, Zs, Lv a5, Zs, Lv a6, Zs, Lv a7, Zs, Lv b0, Zs, Lv b1, Zs, Lv b2, Zs, Lv b3, Zs, Lv b4, Zs, Lv b5, Zs, Lv b6, Zs, Lv b7, Zs, Iv (1 : Int32), Rv b_80, Rv b_157, Rv b_262, Rv b_397, Rv b_564, Rv b_576, Rv b_590, Rv b_157, Rv b_80, Us]) rfl ?_
      show Steps p.tables e below (T_607.setTop (mkF m 418 #[Lv q1, Zs, Lv q2, Zs, Lv q3, Zs, Lv q4, Zs, Lv q5, Zs, Iv p6, Lv a0, Zs, Lv a1, Zs, Lv a2, Zs, Lv a3, Zs, Lv a4, Zs, Lv a5, Zs, Lv a6, Zs, Lv a7, Zs, Lv b0, Zs, Lv b1, Zs, Lv b2, Zs, Lv b3, Zs, Lv b4, Zs, Lv b5, Zs, Lv b6, Zs, Lv b7, Zs, Iv (1 : Int32), Rv b_80, Rv b_157, Rv b_262, Rv b_397, Rv b_564, Rv b_576, Rv b_590, Rv b_157, Rv b_80, Us] [])) tt_
      refine XS.goto X_610.here hEX rfl (pc0 := 418) (pc' := 455) rfl (hb hBY at_418) (by decide) (by decide) ?_
      show Steps p.tables e below (T_607.setTop (mkF m 455 #[Lv q1, Zs, Lv q2, Zs, Lv q3, Zs, Lv q4, Zs, Lv q5, Zs, Iv p6, Lv a0, Zs, Lv a1, Zs, Lv a2, Zs, Lv a3, Zs, Lv a4, Zs, Lv a5, Zs, Lv a6, Zs, Lv a7, Zs, Lv b0, Zs, Lv b1, Zs, Lv b2, Zs, Lv b3, Zs, Lv b4, Zs, Lv b5, Zs, Lv b6, Zs, Lv b7, Zs, Iv (1 : Int32), Rv b_80, Rv b_157, Rv b_262, Rv b_397, Rv b_564, Rv b_576, Rv b_590, Rv b_157, Rv b_80, Us] [])) tt_
      refine XS.aload X_610.here hEX rfl (hb hBY at_455) rfl rfl ?_
      show Steps p.tables e below (T_607.setTop (mkF m 457 #[Lv q1, Zs, Lv q2, Zs, Lv q3, Zs, Lv q4, Zs, Lv q5, Zs, Iv p6, Lv a0, Zs, Lv a1, Zs, Lv a2, Zs, Lv a3, Zs, Lv a4, Zs, Lv a5, Zs, Lv a6, Zs, Lv a7, Zs, Lv b0, Zs, Lv b1, Zs, Lv b2, Zs, Lv b3, Zs, Lv b4, Zs, Lv b5, Zs, Lv b6, Zs, Lv b7, Zs, Iv (1 : Int32), Rv b_80, Rv b_157, Rv b_262, Rv b_397, Rv b_564, Rv b_576, Rv b_590, Rv b_157, Rv b_80, Us] [(.ref b_80)])) tt_
      refine XS.aload X_610.here hEX rfl (hb hBY at_457) rfl rfl ?_
      show Steps p.tables e below (T_607.setTop (mkF m 459 #[Lv q1, Zs, Lv q2, Zs, Lv q3, Zs, Lv q4, Zs, Lv q5, Zs, Iv p6, Lv a0, Zs, Lv a1, Zs, Lv a2, Zs, Lv a3, Zs, Lv a4, Zs, Lv a5, Zs, Lv a6, Zs, Lv a7, Zs, Lv b0, Zs, Lv b1, Zs, Lv b2, Zs, Lv b3, Zs, Lv b4, Zs, Lv b5, Zs, Lv b6, Zs, Lv b7, Zs, Iv (1 : Int32), Rv b_80, Rv b_157, Rv b_262, Rv b_397, Rv b_564, Rv b_576, Rv b_590, Rv b_157, Rv b_80, Us] [(.ref b_157), (.ref b_80)])) tt_
      refine XS.aload X_610.here hEX rfl (hb hBY at_459) rfl rfl ?_
      exact kt_
    refine Done.pre sg_940 ?_
    obtain ⟨_, _, ⟨T_941, L_941, k_941, n_941⟩, -, X_941, ⟨Lc_941, hQ_941, l_941, y_941, z_941⟩, st_941⟩ := Jvm.LawKit.callS X_610 hEX (y := (⟨"com/example/guard3/guard3/P384Field", "subtract", "([J[J[J)V"⟩ : MethodName)) hOW (mvT hZW (hw _ (List.mem_of_getElem? (i := 10) rfl))) (mvT hZW (hw _ (List.mem_of_getElem? (i := 11) rfl))) (mvT hZW (hw _ (List.mem_of_getElem? (i := 12) rfl))) (mvT hZW (hw _ (List.mem_of_getElem? (i := 13) rfl))) (by decide) (backOf (W := 0) (rm_subtract_aba l Z aZ hw [] b_80 b_157 k_80 a0 a1 a2 a3 a4 a5 a6 a7 k_157 b0 b1 b2 b3 b4 b5 b6 b7 h_608 n0 (Nat.le_trans Z0 K__613.1) f_615 f_617 ge_649 ne_628 hRa hRb) hZW (hw _ (List.mem_of_getElem? (i := 13) rfl)) (hw _ (List.mem_of_getElem? (i := 12) rfl)) (by decide) (by decide)) (g := (mkF m 461 #[Lv q1, Zs, Lv q2, Zs, Lv q3, Zs, Lv q4, Zs, Lv q5, Zs, Iv p6, Lv a0, Zs, Lv a1, Zs, Lv a2, Zs, Lv a3, Zs, Lv a4, Zs, Lv a5, Zs, Lv a6, Zs, Lv a7, Zs, Lv b0, Zs, Lv b1, Zs, Lv b2, Zs, Lv b3, Zs, Lv b4, Zs, Lv b5, Zs, Lv b6, Zs, Lv b7, Zs, Iv (1 : Int32), Rv b_80, Rv b_157, Rv b_262, Rv b_397, Rv b_564, Rv b_576, Rv b_590, Rv b_157, Rv b_80, Us] [(.ref b_80), (.ref b_157), (.ref b_80)])) rfl (by rw [hMX]; rfl) (argsL := [(.ref b_80), (.ref b_157), (.ref b_80)]) (rest := []) (lenOf pd___J_J_J_V_9 rfl) rfl (by show 2 * 0 + _ ≤ _; exact Nat.le_of_eq rfl) (hb hBY at_461) (fun _ _ => ⟨rfl, e_611, (by decide : 7 + 0 ≤ _), (by decide : 56 + 0 ≤ _)⟩)
    dsimp only [Pt.U, Pt.locs, Pt.cells, Pt.slots] at X_941 l_941 y_941 z_941 st_941 hQ_941
    subst l_941 y_941 z_941
    obtain ⟨r0, r1, r2, r3, r4, r5, r6, r7, rfl, N_941q, K_941, hq_941_0, hq_941_1, hq_941_2⟩ := hQ_941
    have N_941 := Fr.app N_612 N_941q
    have K__942 : Keep h0 T_941.heap [] := K__613.trans K_941 (allS (Or.inr sz_656) all0)
    have f_943 : Exa Z T_941.heap b_80 "[J" := f_614.keep K_941
    have f_944 : Exa Z T_941.heap b_157 "[J" := f_616.keep K_941
    have f_945 : Arv Z T_941.heap b_157 k_157 .long (8 : Int32) [(.long b0), (.long b1), (.long b2), (.long b3), (.long b4), (.long b5), (.long b6), (.long b7)] (.long (0 : Int64)) := f_617.keep K_941 (ninS (Ne.symm ne_628) nin0)
    have f_946 : Exa Z T_941.heap b_262 "[J" := f_618.keep K_941
    have f_947 : Arv Z T_941.heap b_262 k_262 .long (8 : Int32) [(.long b0), (.long b1), (.long b2), (.long b3), (.long b4), (.long b5), (.long b6), (.long b7)] (.long (0 : Int64)) := f_619.keep K_941 (ninS (Ne.symm ne_629) nin0)
    have f_948 : Exa Z T_941.heap b_397 "[J" := f_620.keep K_941
    have f_949 : Arv Z T_941.heap b_397 k_397 .long (8 : Int32) [(.long (-a0)), (.long (-a1)), (.long (-a2)), (.long (-a3)), (.long (-a4)), (.long (-a5)), (.long (-a6)), (.long (-a7))] (.long (0 : Int64)) := f_621.keep K_941 (ninS (Ne.symm ne_631) nin0)
    have f_950 : Exa Z T_941.heap b_564 "[J" := f_622.keep K_941
    have f_951 : Arv Z T_941.heap b_564 k_564 .long (8 : Int32) [(.long (0 : Int64)), (.long (0 : Int64)), (.long (0 : Int64)), (.long (0 : Int64)), (.long (0 : Int64)), (.long (0 : Int64)), (.long (0 : Int64)), (.long (0 : Int64))] (.long (0 : Int64)) := f_623.keep K_941 (ninS (Ne.symm ne_634) nin0)
    have f_952 : Exa Z T_941.heap b_576 "[J" := f_624.keep K_941
    have f_953 : Arv Z T_941.heap b_576 k_576 .long (8 : Int32) [(.long (0 : Int64)), (.long (0 : Int64)), (.long (0 : Int64)), (.long (0 : Int64)), (.long (0 : Int64)), (.long (0 : Int64)), (.long (0 : Int64)), (.long (0 : Int64))] (.long (0 : Int64)) := f_625.keep K_941 (ninS (Ne.symm ne_638) nin0)
    have f_954 : Exa Z T_941.heap b_590 "[J" := f_626.keep K_941
    have f_955 : Arv Z T_941.heap b_590 k_590 .long (8 : Int32) [(.long (0 : Int64)), (.long (0 : Int64)), (.long (0 : Int64)), (.long (0 : Int64)), (.long (0 : Int64)), (.long (0 : Int64)), (.long (0 : Int64)), (.long (0 : Int64))] (.long (0 : Int64)) := f_627.keep K_941 (ninS (Ne.symm ne_643) nin0)
    refine Done.pre (fun _ k_ => st_941 _ k_) ?_
    show Done _ _ _ _ _ _ _ (T_941.setTop (mkF m 464 #[Lv q1, Zs, Lv q2, Zs, Lv q3, Zs, Lv q4, Zs, Lv q5, Zs, Iv p6, Lv a0, Zs, Lv a1, Zs, Lv a2, Zs, Lv a3, Zs, Lv a4, Zs, Lv a5, Zs, Lv a6, Zs, Lv a7, Zs, Lv b0, Zs, Lv b1, Zs, Lv b2, Zs, Lv b3, Zs, Lv b4, Zs, Lv b5, Zs, Lv b6, Zs, Lv b7, Zs, Iv (1 : Int32), Rv b_80, Rv b_157, Rv b_262, Rv b_397, Rv b_564, Rv b_576, Rv b_590, Rv b_157, Rv b_80, Us] []))
    have hRr := hq_941_1
    have hMr := hq_941_2
    exact rm0_j464 l Z aZ hw ws q1 q2 q3 q4 q5 p6 h0 n0 Z0 p e s m below meth cO hEX hBY hMX hOW hNM hLK hRT hZW a0 a1 a2 a3 a4 a5 a6 a7 b0 b1 b2 b3 b4 b5 b6 b7 b_80 b_157 b_262 k_262 b_397 k_397 b_564 b_576 k_576 b_590 k_590 T_941 T_941.heap _ X_941 rfl N_941 K__942 (b_80) (b_157) ((1 : Int32)) (r0) (r1) (r2) (r3) (r4) (r5) (r6) (r7) (k_80) f_947 f_949 f_953 f_954 f_955 hq_941_0 ne_629 ne_631 ne_638 ne_643 hRr hMr hRa hRb hNa ne_628 ne_629 ne_630 ne_631 ne_632 ne_633 ne_634 ne_635 ne_636 ne_637 ne_638 ne_639 ne_640 ne_641 ne_642 ne_643 ne_644 ne_645 ne_646 ne_647 ne_648 ge_649 ge_650 ge_651 ge_652 ge_653 ge_654 ge_655 sz_656 sz_657 sz_658 sz_659 sz_660 sz_661 sz_662
  · skip
    show Done _ _ _ _ _ _ _ (T_607.setTop (mkF m 408 #[Lv q1, Zs, Lv q2, Zs, Lv q3, Zs, Lv q4, Zs, Lv q5, Zs, Iv p6, Lv a0, Zs, Lv a1, Zs, Lv a2, Zs, Lv a3, Zs, Lv a4, Zs, Lv a5, Zs, Lv a6, Zs, Lv a7, Zs, Lv b0, Zs, Lv b1, Zs, Lv b2, Zs, Lv b3, Zs, Lv b4, Zs, Lv b5, Zs, Lv b6, Zs, Lv b7, Zs, Iv (2 : Int32), Rv b_80, Rv b_157, Rv b_262, Rv b_397, Rv b_564, Rv b_576, Rv b_590, Rv b_157, Rv b_564, Us] []))
    have sg_956 : ∀ tt_, Steps p.tables e below (T_607.setTop (mkF m 461 #[Lv q1, Zs, Lv q2, Zs, Lv q3, Zs, Lv q4, Zs, Lv q5, Zs, Iv p6, Lv a0, Zs, Lv a1, Zs, Lv a2, Zs, Lv a3, Zs, Lv a4, Zs, Lv a5, Zs, Lv a6, Zs, Lv a7, Zs, Lv b0, Zs, Lv b1, Zs, Lv b2, Zs, Lv b3, Zs, Lv b4, Zs, Lv b5, Zs, Lv b6, Zs, Lv b7, Zs, Iv (2 : Int32), Rv b_80, Rv b_157, Rv b_262, Rv b_397, Rv b_564, Rv b_576, Rv b_590, Rv b_157, Rv b_157, Us] [(.ref b_157), (.ref b_157), (.ref b_80)])) tt_ → Steps p.tables e below (T_607.setTop (mkF m 408 #[Lv q1, Zs, Lv q2, Zs, Lv q3, Zs, Lv q4, Zs, Lv q5, Zs, Iv p6, Lv a0, Zs, Lv a1, Zs, Lv a2, Zs, Lv a3, Zs, Lv a4, Zs, Lv a5, Zs, Lv a6, Zs, Lv a7, Zs, Lv b0, Zs, Lv b1, Zs, Lv b2, Zs, Lv b3, Zs, Lv b4, Zs, Lv b5, Zs, Lv b6, Zs, Lv b7, Zs, Iv (2 : Int32), Rv b_80, Rv b_157, Rv b_262, Rv b_397, Rv b_564, Rv b_576, Rv b_590, Rv b_157, Rv b_564, Us] [])) tt_ := by
      intro tt_ kt_
      refine XS.iload X_610.here hEX rfl (hb hBY at_408) rfl ?_
      show Steps p.tables e below (T_607.setTop (mkF m 410 #[Lv q1, Zs, Lv q2, Zs, Lv q3, Zs, Lv q4, Zs, Lv q5, Zs, Iv p6, Lv a0, Zs, Lv a1, Zs, Lv a2, Zs, Lv a3, Zs, Lv a4, Zs, Lv a5, Zs, Lv a6, Zs, Lv a7, Zs, Lv b0, Zs, Lv b1, Zs, Lv b2, Zs, Lv b3, Zs, Lv b4, Zs, Lv b5, Zs, Lv b6, Zs, Lv b7, Zs, Iv (2 : Int32), Rv b_80, Rv b_157, Rv b_262, Rv b_397, Rv b_564, Rv b_576, Rv b_590, Rv b_157, Rv b_564, Us] [(.int (2 : Int32))])) tt_
      refine XS.iconst X_610.here hEX rfl (hb hBY at_410) ?_
      show Steps p.tables e below (T_607.setTop (mkF m 411 #[Lv q1, Zs, Lv q2, Zs, Lv q3, Zs, Lv q4, Zs, Lv q5, Zs, Iv p6, Lv a0, Zs, Lv a1, Zs, Lv a2, Zs, Lv a3, Zs, Lv a4, Zs, Lv a5, Zs, Lv a6, Zs, Lv a7, Zs, Lv b0, Zs, Lv b1, Zs, Lv b2, Zs, Lv b3, Zs, Lv b4, Zs, Lv b5, Zs, Lv b6, Zs, Lv b7, Zs, Iv (2 : Int32), Rv b_80, Rv b_157, Rv b_262, Rv b_397, Rv b_564, Rv b_576, Rv b_590, Rv b_157, Rv b_564, Us] [(.int (1 : Int32)), (.int (2 : Int32))])) tt_
      refine XS.icmpYes X_610.here hEX rfl (pc0 := 411) (pc' := 421) rfl (hb hBY at_411) rfl (feq (by decide : ¬ ((2 : Int32) = (1 : Int32)))).2 (by decide) (by decide) ?_
      show Steps p.tables e below (T_607.setTop (mkF m 421 #[Lv q1, Zs, Lv q2, Zs, Lv q3, Zs, Lv q4, Zs, Lv q5, Zs, Iv p6, Lv a0, Zs, Lv a1, Zs, Lv a2, Zs, Lv a3, Zs, Lv a4, Zs, Lv a5, Zs, Lv a6, Zs, Lv a7, Zs, Lv b0, Zs, Lv b1, Zs, Lv b2, Zs, Lv b3, Zs, Lv b4, Zs, Lv b5, Zs, Lv b6, Zs, Lv b7, Zs, Iv (2 : Int32), Rv b_80, Rv b_157, Rv b_262, Rv b_397, Rv b_564, Rv b_576, Rv b_590, Rv b_157, Rv b_564, Us] [])) tt_
      refine XS.iload X_610.here hEX rfl (hb hBY at_421) rfl ?_
      show Steps p.tables e below (T_607.setTop (mkF m 423 #[Lv q1, Zs, Lv q2, Zs, Lv q3, Zs, Lv q4, Zs, Lv q5, Zs, Iv p6, Lv a0, Zs, Lv a1, Zs, Lv a2, Zs, Lv a3, Zs, Lv a4, Zs, Lv a5, Zs, Lv a6, Zs, Lv a7, Zs, Lv b0, Zs, Lv b1, Zs, Lv b2, Zs, Lv b3, Zs, Lv b4, Zs, Lv b5, Zs, Lv b6, Zs, Lv b7, Zs, Iv (2 : Int32), Rv b_80, Rv b_157, Rv b_262, Rv b_397, Rv b_564, Rv b_576, Rv b_590, Rv b_157, Rv b_564, Us] [(.int (2 : Int32))])) tt_
      refine XS.iconst X_610.here hEX rfl (hb hBY at_423) ?_
      show Steps p.tables e below (T_607.setTop (mkF m 424 #[Lv q1, Zs, Lv q2, Zs, Lv q3, Zs, Lv q4, Zs, Lv q5, Zs, Iv p6, Lv a0, Zs, Lv a1, Zs, Lv a2, Zs, Lv a3, Zs, Lv a4, Zs, Lv a5, Zs, Lv a6, Zs, Lv a7, Zs, Lv b0, Zs, Lv b1, Zs, Lv b2, Zs, Lv b3, Zs, Lv b4, Zs, Lv b5, Zs, Lv b6, Zs, Lv b7, Zs, Iv (2 : Int32), Rv b_80, Rv b_157, Rv b_262, Rv b_397, Rv b_564, Rv b_576, Rv b_590, Rv b_157, Rv b_564, Us] [(.int (2 : Int32)), (.int (2 : Int32))])) tt_
      refine XS.icmpNo X_610.here hEX rfl (hb hBY at_424) rfl (teq (by decide : (2 : Int32) = (2 : Int32))).2 ?_
      show Steps p.tables e below (T_607.setTop (mkF m 427 #[Lv q1, Zs, Lv q2, Zs, Lv q3, Zs, Lv q4, Zs, Lv q5, Zs, Iv p6, Lv a0, Zs, Lv a1, Zs, Lv a2, Zs, Lv a3, Zs, Lv a4, Zs, Lv a5, Zs, Lv a6, Zs, Lv a7, Zs, Lv b0, Zs, Lv b1, Zs, Lv b2, Zs, Lv b3, Zs, Lv b4, Zs, Lv b5, Zs, Lv b6, Zs, Lv b7, Zs, Iv (2 : Int32), Rv b_80, Rv b_157, Rv b_262, Rv b_397, Rv b_564, Rv b_576, Rv b_590, Rv b_157, Rv b_564, Us] [])) tt_
      refine XS.aload X_610.here hEX rfl (hb hBY at_427) rfl rfl ?_
      show Steps p.tables e below (T_607.setTop (mkF m 429 #[Lv q1, Zs, Lv q2, Zs, Lv q3, Zs, Lv q4, Zs, Lv q5, Zs, Iv p6, Lv a0, Zs, Lv a1, Zs, Lv a2, Zs, Lv a3, Zs, Lv a4, Zs, Lv a5, Zs, Lv a6, Zs, Lv a7, Zs, Lv b0, Zs, Lv b1, Zs, Lv b2, Zs, Lv b3, Zs, Lv b4, Zs, Lv b5, Zs, Lv b6, Zs, Lv b7, Zs, Iv (2 : Int32), Rv b_80, Rv b_157, Rv b_262, Rv b_397, Rv b_564, Rv b_576, Rv b_590, Rv b_157, Rv b_564, Us] [(.ref b_157)])) tt_
      refine XS.astore X_610.here hEX rfl (hb hBY at_429) rfl rfl (l' := #[Lv q1, Zs, Lv q2, Zs, Lv q3, Zs, Lv q4, Zs, Lv q5, Zs, Iv p6, Lv a0, Zs, Lv a1, Zs, Lv a2, Zs, Lv a3, Zs, Lv a4, Zs, Lv a5, Zs, Lv a6, Zs, Lv a7, Zs, Lv b0, Zs, Lv b1, Zs, Lv b2, Zs, Lv b3, Zs, Lv b4, Zs, Lv b5, Zs, Lv b6, Zs, Lv b7, Zs, Iv (2 : Int32), Rv b_80, Rv b_157, Rv b_262, Rv b_397, Rv b_564, Rv b_576, Rv b_590, Rv b_157, Rv b_157, Us]) rfl ?_
      show Steps p.tables e below (T_607.setTop (mkF m 431 #[Lv q1, Zs, Lv q2, Zs, Lv q3, Zs, Lv q4, Zs, Lv q5, Zs, Iv p6, Lv a0, Zs, Lv a1, Zs, Lv a2, Zs, Lv a3, Zs, Lv a4, Zs, Lv a5, Zs, Lv a6, Zs, Lv a7, Zs, Lv b0, Zs, Lv b1, Zs, Lv b2, Zs, Lv b3, Zs, Lv b4, Zs, Lv b5, Zs, Lv b6, Zs, Lv b7, Zs, Iv (2 : Int32), Rv b_80, Rv b_157, Rv b_262, Rv b_397, Rv b_564, Rv b_576, Rv b_590, Rv b_157, Rv b_157, Us] [])) tt_
      refine XS.goto X_610.here hEX rfl (pc0 := 431) (pc' := 455) rfl (hb hBY at_431) (by decide) (by decide) ?_
      show Steps p.tables e below (T_607.setTop (mkF m 455 #[Lv q1, Zs, Lv q2, Zs, Lv q3, Zs, Lv q4, Zs, Lv q5, Zs, Iv p6, Lv a0, Zs, Lv a1, Zs, Lv a2, Zs, Lv a3, Zs, Lv a4, Zs, Lv a5, Zs, Lv a6, Zs, Lv a7, Zs, Lv b0, Zs, Lv b1, Zs, Lv b2, Zs, Lv b3, Zs, Lv b4, Zs, Lv b5, Zs, Lv b6, Zs, Lv b7, Zs, Iv (2 : Int32), Rv b_80, Rv b_157, Rv b_262, Rv b_397, Rv b_564, Rv b_576, Rv b_590, Rv b_157, Rv b_157, Us] [])) tt_
      refine XS.aload X_610.here hEX rfl (hb hBY at_455) rfl rfl ?_
      show Steps p.tables e below (T_607.setTop (mkF m 457 #[Lv q1, Zs, Lv q2, Zs, Lv q3, Zs, Lv q4, Zs, Lv q5, Zs, Iv p6, Lv a0, Zs, Lv a1, Zs, Lv a2, Zs, Lv a3, Zs, Lv a4, Zs, Lv a5, Zs, Lv a6, Zs, Lv a7, Zs, Lv b0, Zs, Lv b1, Zs, Lv b2, Zs, Lv b3, Zs, Lv b4, Zs, Lv b5, Zs, Lv b6, Zs, Lv b7, Zs, Iv (2 : Int32), Rv b_80, Rv b_157, Rv b_262, Rv b_397, Rv b_564, Rv b_576, Rv b_590, Rv b_157, Rv b_157, Us] [(.ref b_80)])) tt_
      refine XS.aload X_610.here hEX rfl (hb hBY at_457) rfl rfl ?_
      show Steps p.tables e below (T_607.setTop (mkF m 459 #[Lv q1, Zs, Lv q2, Zs, Lv q3, Zs, Lv q4, Zs, Lv q5, Zs, Iv p6, Lv a0, Zs, Lv a1, Zs, Lv a2, Zs, Lv a3, Zs, Lv a4, Zs, Lv a5, Zs, Lv a6, Zs, Lv a7, Zs, Lv b0, Zs, Lv b1, Zs, Lv b2, Zs, Lv b3, Zs, Lv b4, Zs, Lv b5, Zs, Lv b6, Zs, Lv b7, Zs, Iv (2 : Int32), Rv b_80, Rv b_157, Rv b_262, Rv b_397, Rv b_564, Rv b_576, Rv b_590, Rv b_157, Rv b_157, Us] [(.ref b_157), (.ref b_80)])) tt_
      refine XS.aload X_610.here hEX rfl (hb hBY at_459) rfl rfl ?_
      exact kt_
    refine Done.pre sg_956 ?_
    obtain ⟨_, _, ⟨T_957, L_957, k_957, n_957⟩, -, X_957, ⟨Lc_957, hQ_957, l_957, y_957, z_957⟩, st_957⟩ := Jvm.LawKit.callS X_610 hEX (y := (⟨"com/example/guard3/guard3/P384Field", "subtract", "([J[J[J)V"⟩ : MethodName)) hOW (mvT hZW (hw _ (List.mem_of_getElem? (i := 10) rfl))) (mvT hZW (hw _ (List.mem_of_getElem? (i := 11) rfl))) (mvT hZW (hw _ (List.mem_of_getElem? (i := 12) rfl))) (mvT hZW (hw _ (List.mem_of_getElem? (i := 13) rfl))) (by decide) (backOf (W := 0) (rm_subtract_abb l Z aZ hw [] b_80 b_157 k_80 a0 a1 a2 a3 a4 a5 a6 a7 k_157 b0 b1 b2 b3 b4 b5 b6 b7 h_608 n0 (Nat.le_trans Z0 K__613.1) f_615 f_617 ge_650 ne_628 hRa hRb) hZW (hw _ (List.mem_of_getElem? (i := 13) rfl)) (hw _ (List.mem_of_getElem? (i := 12) rfl)) (by decide) (by decide)) (g := (mkF m 461 #[Lv q1, Zs, Lv q2, Zs, Lv q3, Zs, Lv q4, Zs, Lv q5, Zs, Iv p6, Lv a0, Zs, Lv a1, Zs, Lv a2, Zs, Lv a3, Zs, Lv a4, Zs, Lv a5, Zs, Lv a6, Zs, Lv a7, Zs, Lv b0, Zs, Lv b1, Zs, Lv b2, Zs, Lv b3, Zs, Lv b4, Zs, Lv b5, Zs, Lv b6, Zs, Lv b7, Zs, Iv (2 : Int32), Rv b_80, Rv b_157, Rv b_262, Rv b_397, Rv b_564, Rv b_576, Rv b_590, Rv b_157, Rv b_157, Us] [(.ref b_157), (.ref b_157), (.ref b_80)])) rfl (by rw [hMX]; rfl) (argsL := [(.ref b_80), (.ref b_157), (.ref b_157)]) (rest := []) (lenOf pd___J_J_J_V_9 rfl) rfl (by show 2 * 0 + _ ≤ _; exact Nat.le_of_eq rfl) (hb hBY at_461) (fun _ _ => ⟨rfl, e_611, (by decide : 7 + 0 ≤ _), (by decide : 56 + 0 ≤ _)⟩)
    dsimp only [Pt.U, Pt.locs, Pt.cells, Pt.slots] at X_957 l_957 y_957 z_957 st_957 hQ_957
    subst l_957 y_957 z_957
    obtain ⟨r0, r1, r2, r3, r4, r5, r6, r7, rfl, N_957q, K_957, hq_957_0, hq_957_1, hq_957_2⟩ := hQ_957
    have N_957 := Fr.app N_612 N_957q
    have K__958 : Keep h0 T_957.heap [] := K__613.trans K_957 (allS (Or.inr sz_657) all0)
    have f_959 : Exa Z T_957.heap b_80 "[J" := f_614.keep K_957
    have f_960 : Arv Z T_957.heap b_80 k_80 .long (8 : Int32) [(.long a0), (.long a1), (.long a2), (.long a3), (.long a4), (.long a5), (.long a6), (.long a7)] (.long (0 : Int64)) := f_615.keep K_957 (ninS ne_628 nin0)
    have f_961 : Exa Z T_957.heap b_157 "[J" := f_616.keep K_957
    have f_962 : Exa Z T_957.heap b_262 "[J" := f_618.keep K_957
    have f_963 : Arv Z T_957.heap b_262 k_262 .long (8 : Int32) [(.long b0), (.long b1), (.long b2), (.long b3), (.long b4), (.long b5), (.long b6), (.long b7)] (.long (0 : Int64)) := f_619.keep K_957 (ninS (Ne.symm ne_630) nin0)
    have f_964 : Exa Z T_957.heap b_397 "[J" := f_620.keep K_957
    have f_965 : Arv Z T_957.heap b_397 k_397 .long (8 : Int32) [(.long (-a0)), (.long (-a1)), (.long (-a2)), (.long (-a3)), (.long (-a4)), (.long (-a5)), (.long (-a6)), (.long (-a7))] (.long (0 : Int64)) := f_621.keep K_957 (ninS (Ne.symm ne_632) nin0)
    have f_966 : Exa Z T_957.heap b_564 "[J" := f_622.keep K_957
    have f_967 : Arv Z T_957.heap b_564 k_564 .long (8 : Int32) [(.long (0 : Int64)), (.long (0 : Int64)), (.long (0 : Int64)), (.long (0 : Int64)), (.long (0 : Int64)), (.long (0 : Int64)), (.long (0 : Int64)), (.long (0 : Int64))] (.long (0 : Int64)) := f_623.keep K_957 (ninS (Ne.symm ne_635) nin0)
    have f_968 : Exa Z T_957.heap b_576 "[J" := f_624.keep K_957
    have f_969 : Arv Z T_957.heap b_576 k_576 .long (8 : Int32) [(.long (0 : Int64)), (.long (0 : Int64)), (.long (0 : Int64)), (.long (0 : Int64)), (.long (0 : Int64)), (.long (0 : Int64)), (.long (0 : Int64)), (.long (0 : Int64))] (.long (0 : Int64)) := f_625.keep K_957 (ninS (Ne.symm ne_639) nin0)
    have f_970 : Exa Z T_957.heap b_590 "[J" := f_626.keep K_957
    have f_971 : Arv Z T_957.heap b_590 k_590 .long (8 : Int32) [(.long (0 : Int64)), (.long (0 : Int64)), (.long (0 : Int64)), (.long (0 : Int64)), (.long (0 : Int64)), (.long (0 : Int64)), (.long (0 : Int64)), (.long (0 : Int64))] (.long (0 : Int64)) := f_627.keep K_957 (ninS (Ne.symm ne_644) nin0)
    refine Done.pre (fun _ k_ => st_957 _ k_) ?_
    show Done _ _ _ _ _ _ _ (T_957.setTop (mkF m 464 #[Lv q1, Zs, Lv q2, Zs, Lv q3, Zs, Lv q4, Zs, Lv q5, Zs, Iv p6, Lv a0, Zs, Lv a1, Zs, Lv a2, Zs, Lv a3, Zs, Lv a4, Zs, Lv a5, Zs, Lv a6, Zs, Lv a7, Zs, Lv b0, Zs, Lv b1, Zs, Lv b2, Zs, Lv b3, Zs, Lv b4, Zs, Lv b5, Zs, Lv b6, Zs, Lv b7, Zs, Iv (2 : Int32), Rv b_80, Rv b_157, Rv b_262, Rv b_397, Rv b_564, Rv b_576, Rv b_590, Rv b_157, Rv b_157, Us] []))
    have hRr := hq_957_1
    have hMr := hq_957_2
    exact rm0_j464 l Z aZ hw ws q1 q2 q3 q4 q5 p6 h0 n0 Z0 p e s m below meth cO hEX hBY hMX hOW hNM hLK hRT hZW a0 a1 a2 a3 a4 a5 a6 a7 b0 b1 b2 b3 b4 b5 b6 b7 b_80 b_157 b_262 k_262 b_397 k_397 b_564 b_576 k_576 b_590 k_590 T_957 T_957.heap _ X_957 rfl N_957 K__958 (b_157) (b_157) ((2 : Int32)) (r0) (r1) (r2) (r3) (r4) (r5) (r6) (r7) (k_157) f_963 f_965 f_969 f_970 f_971 hq_957_0 ne_630 ne_632 ne_639 ne_644 hRr hMr hRa hRb hNa ne_628 ne_629 ne_630 ne_631 ne_632 ne_633 ne_634 ne_635 ne_636 ne_637 ne_638 ne_639 ne_640 ne_641 ne_642 ne_643 ne_644 ne_645 ne_646 ne_647 ne_648 ge_649 ge_650 ge_651 ge_652 ge_653 ge_654 ge_655 sz_656 sz_657 sz_658 sz_659 sz_660 sz_661 sz_662
  · skip
    show Done _ _ _ _ _ _ _ (T_607.setTop (mkF m 408 #[Lv q1, Zs, Lv q2, Zs, Lv q3, Zs, Lv q4, Zs, Lv q5, Zs, Iv p6, Lv a0, Zs, Lv a1, Zs, Lv a2, Zs, Lv a3, Zs, Lv a4, Zs, Lv a5, Zs, Lv a6, Zs, Lv a7, Zs, Lv b0, Zs, Lv b1, Zs, Lv b2, Zs, Lv b3, Zs, Lv b4, Zs, Lv b5, Zs, Lv b6, Zs, Lv b7, Zs, Iv (3 : Int32), Rv b_80, Rv b_157, Rv b_262, Rv b_397, Rv b_564, Rv b_576, Rv b_590, Rv b_157, Rv b_564, Us] []))
    obtain ⟨rfl, rfl, rfl, rfl, rfl, rfl, rfl, rfl⟩ := hEq rfl
    show Done _ _ _ _ _ _ _ (T_607.setTop (mkF m 408 #[Lv q1, Zs, Lv q2, Zs, Lv q3, Zs, Lv q4, Zs, Lv q5, Zs, Iv p6, Lv a0, Zs, Lv a1, Zs, Lv a2, Zs, Lv a3, Zs, Lv a4, Zs, Lv a5, Zs, Lv a6, Zs, Lv a7, Zs, Lv a0, Zs, Lv a1, Zs, Lv a2, Zs, Lv a3, Zs, Lv a4, Zs, Lv a5, Zs, Lv a6, Zs, Lv a7, Zs, Iv (3 : Int32), Rv b_80, Rv b_157, Rv b_262, Rv b_397, Rv b_564, Rv b_576, Rv b_590, Rv b_157, Rv b_564, Us] []))
    have sg_972 : ∀ tt_, Steps p.tables e below (T_607.setTop (mkF m 448 #[Lv q1, Zs, Lv q2, Zs, Lv q3, Zs, Lv q4, Zs, Lv q5, Zs, Iv p6, Lv a0, Zs, Lv a1, Zs, Lv a2, Zs, Lv a3, Zs, Lv a4, Zs, Lv a5, Zs, Lv a6, Zs, Lv a7, Zs, Lv a0, Zs, Lv a1, Zs, Lv a2, Zs, Lv a3, Zs, Lv a4, Zs, Lv a5, Zs, Lv a6, Zs, Lv a7, Zs, Iv (3 : Int32), Rv b_80, Rv b_157, Rv b_262, Rv b_397, Rv b_564, Rv b_576, Rv b_590, Rv b_80, Rv b_564, Us] [(.int (p6 &&& (4 : Int32)))])) tt_ → Steps p.tables e below (T_607.setTop (mkF m 408 #[Lv q1, Zs, Lv q2, Zs, Lv q3, Zs, Lv q4, Zs, Lv q5, Zs, Iv p6, Lv a0, Zs, Lv a1, Zs, Lv a2, Zs, Lv a3, Zs, Lv a4, Zs, Lv a5, Zs, Lv a6, Zs, Lv a7, Zs, Lv a0, Zs, Lv a1, Zs, Lv a2, Zs, Lv a3, Zs, Lv a4, Zs, Lv a5, Zs, Lv a6, Zs, Lv a7, Zs, Iv (3 : Int32), Rv b_80, Rv b_157, Rv b_262, Rv b_397, Rv b_564, Rv b_576, Rv b_590, Rv b_157, Rv b_564, Us] [])) tt_ := by
      intro tt_ kt_
      refine XS.iload X_610.here hEX rfl (hb hBY at_408) rfl ?_
      show Steps p.tables e below (T_607.setTop (mkF m 410 #[Lv q1, Zs, Lv q2, Zs, Lv q3, Zs, Lv q4, Zs, Lv q5, Zs, Iv p6, Lv a0, Zs, Lv a1, Zs, Lv a2, Zs, Lv a3, Zs, Lv a4, Zs, Lv a5, Zs, Lv a6, Zs, Lv a7, Zs, Lv a0, Zs, Lv a1, Zs, Lv a2, Zs, Lv a3, Zs, Lv a4, Zs, Lv a5, Zs, Lv a6, Zs, Lv a7, Zs, Iv (3 : Int32), Rv b_80, Rv b_157, Rv b_262, Rv b_397, Rv b_564, Rv b_576, Rv b_590, Rv b_157, Rv b_564, Us] [(.int (3 : Int32))])) tt_
      refine XS.iconst X_610.here hEX rfl (hb hBY at_410) ?_
      show Steps p.tables e below (T_607.setTop (mkF m 411 #[Lv q1, Zs, Lv q2, Zs, Lv q3, Zs, Lv q4, Zs, Lv q5, Zs, Iv p6, Lv a0, Zs, Lv a1, Zs, Lv a2, Zs, Lv a3, Zs, Lv a4, Zs, Lv a5, Zs, Lv a6, Zs, Lv a7, Zs, Lv a0, Zs, Lv a1, Zs, Lv a2, Zs, Lv a3, Zs, Lv a4, Zs, Lv a5, Zs, Lv a6, Zs, Lv a7, Zs, Iv (3 : Int32), Rv b_80, Rv b_157, Rv b_262, Rv b_397, Rv b_564, Rv b_576, Rv b_590, Rv b_157, Rv b_564, Us] [(.int (1 : Int32)), (.int (3 : Int32))])) tt_
      refine XS.icmpYes X_610.here hEX rfl (pc0 := 411) (pc' := 421) rfl (hb hBY at_411) rfl (feq (by decide : ¬ ((3 : Int32) = (1 : Int32)))).2 (by decide) (by decide) ?_
      show Steps p.tables e below (T_607.setTop (mkF m 421 #[Lv q1, Zs, Lv q2, Zs, Lv q3, Zs, Lv q4, Zs, Lv q5, Zs, Iv p6, Lv a0, Zs, Lv a1, Zs, Lv a2, Zs, Lv a3, Zs, Lv a4, Zs, Lv a5, Zs, Lv a6, Zs, Lv a7, Zs, Lv a0, Zs, Lv a1, Zs, Lv a2, Zs, Lv a3, Zs, Lv a4, Zs, Lv a5, Zs, Lv a6, Zs, Lv a7, Zs, Iv (3 : Int32), Rv b_80, Rv b_157, Rv b_262, Rv b_397, Rv b_564, Rv b_576, Rv b_590, Rv b_157, Rv b_564, Us] [])) tt_
      refine XS.iload X_610.here hEX rfl (hb hBY at_421) rfl ?_
      show Steps p.tables e below (T_607.setTop (mkF m 423 #[Lv q1, Zs, Lv q2, Zs, Lv q3, Zs, Lv q4, Zs, Lv q5, Zs, Iv p6, Lv a0, Zs, Lv a1, Zs, Lv a2, Zs, Lv a3, Zs, Lv a4, Zs, Lv a5, Zs, Lv a6, Zs, Lv a7, Zs, Lv a0, Zs, Lv a1, Zs, Lv a2, Zs, Lv a3, Zs, Lv a4, Zs, Lv a5, Zs, Lv a6, Zs, Lv a7, Zs, Iv (3 : Int32), Rv b_80, Rv b_157, Rv b_262, Rv b_397, Rv b_564, Rv b_576, Rv b_590, Rv b_157, Rv b_564, Us] [(.int (3 : Int32))])) tt_
      refine XS.iconst X_610.here hEX rfl (hb hBY at_423) ?_
      show Steps p.tables e below (T_607.setTop (mkF m 424 #[Lv q1, Zs, Lv q2, Zs, Lv q3, Zs, Lv q4, Zs, Lv q5, Zs, Iv p6, Lv a0, Zs, Lv a1, Zs, Lv a2, Zs, Lv a3, Zs, Lv a4, Zs, Lv a5, Zs, Lv a6, Zs, Lv a7, Zs, Lv a0, Zs, Lv a1, Zs, Lv a2, Zs, Lv a3, Zs, Lv a4, Zs, Lv a5, Zs, Lv a6, Zs, Lv a7, Zs, Iv (3 : Int32), Rv b_80, Rv b_157, Rv b_262, Rv b_397, Rv b_564, Rv b_576, Rv b_590, Rv b_157, Rv b_564, Us] [(.int (2 : Int32)), (.int (3 : Int32))])) tt_
      refine XS.icmpYes X_610.here hEX rfl (pc0 := 424) (pc' := 434) rfl (hb hBY at_424) rfl (feq (by decide : ¬ ((3 : Int32) = (2 : Int32)))).2 (by decide) (by decide) ?_
      show Steps p.tables e below (T_607.setTop (mkF m 434 #[Lv q1, Zs, Lv q2, Zs, Lv q3, Zs, Lv q4, Zs, Lv q5, Zs, Iv p6, Lv a0, Zs, Lv a1, Zs, Lv a2, Zs, Lv a3, Zs, Lv a4, Zs, Lv a5, Zs, Lv a6, Zs, Lv a7, Zs, Lv a0, Zs, Lv a1, Zs, Lv a2, Zs, Lv a3, Zs, Lv a4, Zs, Lv a5, Zs, Lv a6, Zs, Lv a7, Zs, Iv (3 : Int32), Rv b_80, Rv b_157, Rv b_262, Rv b_397, Rv b_564, Rv b_576, Rv b_590, Rv b_157, Rv b_564, Us] [])) tt_
      refine XS.iload X_610.here hEX rfl (hb hBY at_434) rfl ?_
      show Steps p.tables e below (T_607.setTop (mkF m 436 #[Lv q1, Zs, Lv q2, Zs, Lv q3, Zs, Lv q4, Zs, Lv q5, Zs, Iv p6, Lv a0, Zs, Lv a1, Zs, Lv a2, Zs, Lv a3, Zs, Lv a4, Zs, Lv a5, Zs, Lv a6, Zs, Lv a7, Zs, Lv a0, Zs, Lv a1, Zs, Lv a2, Zs, Lv a3, Zs, Lv a4, Zs, Lv a5, Zs, Lv a6, Zs, Lv a7, Zs, Iv (3 : Int32), Rv b_80, Rv b_157, Rv b_262, Rv b_397, Rv b_564, Rv b_576, Rv b_590, Rv b_157, Rv b_564, Us] [(.int (3 : Int32))])) tt_
      refine XS.iconst X_610.here hEX rfl (hb hBY at_436) ?_
      show Steps p.tables e below (T_607.setTop (mkF m 437 #[Lv q1, Zs, Lv q2, Zs, Lv q3, Zs, Lv q4, Zs, Lv q5, Zs, Iv p6, Lv a0, Zs, Lv a1, Zs, Lv a2, Zs, Lv a3, Zs, Lv a4, Zs, Lv a5, Zs, Lv a6, Zs, Lv a7, Zs, Lv a0, Zs, Lv a1, Zs, Lv a2, Zs, Lv a3, Zs, Lv a4, Zs, Lv a5, Zs, Lv a6, Zs, Lv a7, Zs, Iv (3 : Int32), Rv b_80, Rv b_157, Rv b_262, Rv b_397, Rv b_564, Rv b_576, Rv b_590, Rv b_157, Rv b_564, Us] [(.int (3 : Int32)), (.int (3 : Int32))])) tt_
      refine XS.icmpNo X_610.here hEX rfl (hb hBY at_437) rfl (teq (by decide : (3 : Int32) = (3 : Int32))).2 ?_
      show Steps p.tables e below (T_607.setTop (mkF m 440 #[Lv q1, Zs, Lv q2, Zs, Lv q3, Zs, Lv q4, Zs, Lv q5, Zs, Iv p6, Lv a0, Zs, Lv a1, Zs, Lv a2, Zs, Lv a3, Zs, Lv a4, Zs, Lv a5, Zs, Lv a6, Zs, Lv a7, Zs, Lv a0, Zs, Lv a1, Zs, Lv a2, Zs, Lv a3, Zs, Lv a4, Zs, Lv a5, Zs, Lv a6, Zs, Lv a7, Zs, Iv (3 : Int32), Rv b_80, Rv b_157, Rv b_262, Rv b_397, Rv b_564, Rv b_576, Rv b_590, Rv b_157, Rv b_564, Us] [])) tt_
      refine XS.aload X_610.here hEX rfl (hb hBY at_440) rfl rfl ?_
      show Steps p.tables e below (T_607.setTop (mkF m 442 #[Lv q1, Zs, Lv q2, Zs, Lv q3, Zs, Lv q4, Zs, Lv q5, Zs, Iv p6, Lv a0, Zs, Lv a1, Zs, Lv a2, Zs, Lv a3, Zs, Lv a4, Zs, Lv a5, Zs, Lv a6, Zs, Lv a7, Zs, Lv a0, Zs, Lv a1, Zs, Lv a2, Zs, Lv a3, Zs, Lv a4, Zs, Lv a5, Zs, Lv a6, Zs, Lv a7, Zs, Iv (3 : Int32), Rv b_80, Rv b_157, Rv b_262, Rv b_397, Rv b_564, Rv b_576, Rv b_590, Rv b_157, Rv b_564, Us] [(.ref b_80)])) tt_
      refine XS.astore X_610.here hEX rfl (hb hBY at_442) rfl rfl (l' := #[Lv q1, Zs, Lv q2, Zs, Lv q3, Zs, Lv q4, Zs, Lv q5, Zs, Iv p6, Lv a0, Zs, Lv a1, Zs, Lv a2, Zs, Lv a3, Zs, Lv a4, Zs, Lv a5, Zs, Lv a6, Zs, Lv a7, Zs, Lv a0, Zs, Lv a1, Zs, Lv a2, Zs, Lv a3, Zs, Lv a4, Zs, Lv a5, Zs, Lv a6, Zs, Lv a7, Zs, Iv (3 : Int32), Rv b_80, Rv b_157, Rv b_262, Rv b_397, Rv b_564, Rv b_576, Rv b_590, Rv b_80, Rv b_564, Us]) rfl ?_
      show Steps p.tables e below (T_607.setTop (mkF m 444 #[Lv q1, Zs, Lv q2, Zs, Lv q3, Zs, Lv q4, Zs, Lv q5, Zs, Iv p6, Lv a0, Zs, Lv a1, Zs, Lv a2, Zs, Lv a3, Zs, Lv a4, Zs, Lv a5, Zs, Lv a6, Zs, Lv a7, Zs, Lv a0, Zs, Lv a1, Zs, Lv a2, Zs, Lv a3, Zs, Lv a4, Zs, Lv a5, Zs, Lv a6, Zs, Lv a7, Zs, Iv (3 : Int32), Rv b_80, Rv b_157, Rv b_262, Rv b_397, Rv b_564, Rv b_576, Rv b_590, Rv b_80, Rv b_564, Us] [])) tt_
      refine XS.iload X_610.here hEX rfl (hb hBY at_444) rfl ?_
      show Steps p.tables e below (T_607.setTop (mkF m 446 #[Lv q1, Zs, Lv q2, Zs, Lv q3, Zs, Lv q4, Zs, Lv q5, Zs, Iv p6, Lv a0, Zs, Lv a1, Zs, Lv a2, Zs, Lv a3, Zs, Lv a4, Zs, Lv a5, Zs, Lv a6, Zs, Lv a7, Zs, Lv a0, Zs, Lv a1, Zs, Lv a2, Zs, Lv a3, Zs, Lv a4, Zs, Lv a5, Zs, Lv a6, Zs, Lv a7, Zs, Iv (3 : Int32), Rv b_80, Rv b_157, Rv b_262, Rv b_397, Rv b_564, Rv b_576, Rv b_590, Rv b_80, Rv b_564, Us] [(.int p6)])) tt_
      refine XS.iconst X_610.here hEX rfl (hb hBY at_446) ?_
      show Steps p.tables e below (T_607.setTop (mkF m 447 #[Lv q1, Zs, Lv q2, Zs, Lv q3, Zs, Lv q4, Zs, Lv q5, Zs, Iv p6, Lv a0, Zs, Lv a1, Zs, Lv a2, Zs, Lv a3, Zs, Lv a4, Zs, Lv a5, Zs, Lv a6, Zs, Lv a7, Zs, Lv a0, Zs, Lv a1, Zs, Lv a2, Zs, Lv a3, Zs, Lv a4, Zs, Lv a5, Zs, Lv a6, Zs, Lv a7, Zs, Iv (3 : Int32), Rv b_80, Rv b_157, Rv b_262, Rv b_397, Rv b_564, Rv b_576, Rv b_590, Rv b_80, Rv b_564, Us] [(.int (4 : Int32)), (.int p6)])) tt_
      refine XS.iand X_610.here hEX rfl (hb hBY at_447) rfl ?_
      exact kt_
    refine Done.pre sg_972 ?_
    by_cases hc448 : (p6 &&& (4 : Int32)) = (0 : Int32)
    · skip
      have sg_973 : ∀ tt_, Steps p.tables e below (T_607.setTop (mkF m 461 #[Lv q1, Zs, Lv q2, Zs, Lv q3, Zs, Lv q4, Zs, Lv q5, Zs, Iv p6, Lv a0, Zs, Lv a1, Zs, Lv a2, Zs, Lv a3, Zs, Lv a4, Zs, Lv a5, Zs, Lv a6, Zs, Lv a7, Zs, Lv a0, Zs, Lv a1, Zs, Lv a2, Zs, Lv a3, Zs, Lv a4, Zs, Lv a5, Zs, Lv a6, Zs, Lv a7, Zs, Iv (3 : Int32), Rv b_80, Rv b_157, Rv b_262, Rv b_397, Rv b_564, Rv b_576, Rv b_590, Rv b_80, Rv b_564, Us] [(.ref b_564), (.ref b_80), (.ref b_80)])) tt_ → Steps p.tables e below (T_607.setTop (mkF m 448 #[Lv q1, Zs, Lv q2, Zs, Lv q3, Zs, Lv q4, Zs, Lv q5, Zs, Iv p6, Lv a0, Zs, Lv a1, Zs, Lv a2, Zs, Lv a3, Zs, Lv a4, Zs, Lv a5, Zs, Lv a6, Zs, Lv a7, Zs, Lv a0, Zs, Lv a1, Zs, Lv a2, Zs, Lv a3, Zs, Lv a4, Zs, Lv a5, Zs, Lv a6, Zs, Lv a7, Zs, Iv (3 : Int32), Rv b_80, Rv b_157, Rv b_262, Rv b_397, Rv b_564, Rv b_576, Rv b_590, Rv b_80, Rv b_564, Us] [(.int (p6 &&& (4 : Int32)))])) tt_ := by
        intro tt_ kt_
        refine XS.ifYes X_610.here hEX rfl (pc0 := 448) (pc' := 455) rfl (hb hBY at_448) rfl ((if0 _ _).trans (teq hc448).1) (by decide) (by decide) ?_
        show Steps p.tables e below (T_607.setTop (mkF m 455 #[Lv q1, Zs, Lv q2, Zs, Lv q3, Zs, Lv q4, Zs, Lv q5, Zs, Iv p6, Lv a0, Zs, Lv a1, Zs, Lv a2, Zs, Lv a3, Zs, Lv a4, Zs, Lv a5, Zs, Lv a6, Zs, Lv a7, Zs, Lv a0, Zs, Lv a1, Zs, Lv a2, Zs, Lv a3, Zs, Lv a4, Zs, Lv a5, Zs, Lv a6, Zs, Lv a7, Zs, Iv (3 : Int32), Rv b_80, Rv b_157, Rv b_262, Rv b_397, Rv b_564, Rv b_576, Rv b_590, Rv b_80, Rv b_564, Us] [])) tt_
        refine XS.aload X_610.here hEX rfl (hb hBY at_455) rfl rfl ?_
        show Steps p.tables e below (T_607.setTop (mkF m 457 #[Lv q1, Zs, Lv q2, Zs, Lv q3, Zs, Lv q4, Zs, Lv q5, Zs, Iv p6, Lv a0, Zs, Lv a1, Zs, Lv a2, Zs, Lv a3, Zs, Lv a4, Zs, Lv a5, Zs, Lv a6, Zs, Lv a7, Zs, Lv a0, Zs, Lv a1, Zs, Lv a2, Zs, Lv a3, Zs, Lv a4, Zs, Lv a5, Zs, Lv a6, Zs, Lv a7, Zs, Iv (3 : Int32), Rv b_80, Rv b_157, Rv b_262, Rv b_397, Rv b_564, Rv b_576, Rv b_590, Rv b_80, Rv b_564, Us] [(.ref b_80)])) tt_
        refine XS.aload X_610.here hEX rfl (hb hBY at_457) rfl rfl ?_
        show Steps p.tables e below (T_607.setTop (mkF m 459 #[Lv q1, Zs, Lv q2, Zs, Lv q3, Zs, Lv q4, Zs, Lv q5, Zs, Iv p6, Lv a0, Zs, Lv a1, Zs, Lv a2, Zs, Lv a3, Zs, Lv a4, Zs, Lv a5, Zs, Lv a6, Zs, Lv a7, Zs, Lv a0, Zs, Lv a1, Zs, Lv a2, Zs, Lv a3, Zs, Lv a4, Zs, Lv a5, Zs, Lv a6, Zs, Lv a7, Zs, Iv (3 : Int32), Rv b_80, Rv b_157, Rv b_262, Rv b_397, Rv b_564, Rv b_576, Rv b_590, Rv b_80, Rv b_564, Us] [(.ref b_80), (.ref b_80)])) tt_
        refine XS.aload X_610.here hEX rfl (hb hBY at_459) rfl rfl ?_
        exact kt_
      refine Done.pre sg_973 ?_
      obtain ⟨_, _, ⟨T_974, L_974, k_974, n_974⟩, -, X_974, ⟨Lc_974, hQ_974, l_974, y_974, z_974⟩, st_974⟩ := Jvm.LawKit.callS X_610 hEX (y := (⟨"com/example/guard3/guard3/P384Field", "subtract", "([J[J[J)V"⟩ : MethodName)) hOW (mvT hZW (hw _ (List.mem_of_getElem? (i := 10) rfl))) (mvT hZW (hw _ (List.mem_of_getElem? (i := 11) rfl))) (mvT hZW (hw _ (List.mem_of_getElem? (i := 12) rfl))) (mvT hZW (hw _ (List.mem_of_getElem? (i := 13) rfl))) (by decide) (backOf (W := 0) (rm_subtract_aao l Z aZ hw [] b_80 b_564 k_80 a0 a1 a2 a3 a4 a5 a6 a7 k_564 (0 : Int64) (0 : Int64) (0 : Int64) (0 : Int64) (0 : Int64) (0 : Int64) (0 : Int64) (0 : Int64) h_608 n0 (Nat.le_trans Z0 K__613.1) f_615 f_623 ge_653 ne_634 hRa) hZW (hw _ (List.mem_of_getElem? (i := 13) rfl)) (hw _ (List.mem_of_getElem? (i := 12) rfl)) (by decide) (by decide)) (g := (mkF m 461 #[Lv q1, Zs, Lv q2, Zs, Lv q3, Zs, Lv q4, Zs, Lv q5, Zs, Iv p6, Lv a0, Zs, Lv a1, Zs, Lv a2, Zs, Lv a3, Zs, Lv a4, Zs, Lv a5, Zs, Lv a6, Zs, Lv a7, Zs, Lv a0, Zs, Lv a1, Zs, Lv a2, Zs, Lv a3, Zs, Lv a4, Zs, Lv a5, Zs, Lv a6, Zs, Lv a7, Zs, Iv (3 : Int32), Rv b_80, Rv b_157, Rv b_262, Rv b_397, Rv b_564, Rv b_576, Rv b_590, Rv b_80, Rv b_564, Us] [(.ref b_564), (.ref b_80), (.ref b_80)])) rfl (by rw [hMX]; rfl) (argsL := [(.ref b_80), (.ref b_80), (.ref b_564)]) (rest := []) (lenOf pd___J_J_J_V_9 rfl) rfl (by show 2 * 0 + _ ≤ _; exact Nat.le_of_eq rfl) (hb hBY at_461) (fun _ _ => ⟨rfl, e_611, (by decide : 7 + 0 ≤ _), (by decide : 56 + 0 ≤ _)⟩)
      dsimp only [Pt.U, Pt.locs, Pt.cells, Pt.slots] at X_974 l_974 y_974 z_974 st_974 hQ_974
      subst l_974 y_974 z_974
      obtain ⟨r0, r1, r2, r3, r4, r5, r6, r7, rfl, N_974q, K_974, hq_974_0, hq_974_1, hq_974_2⟩ := hQ_974
      have N_974 := Fr.app N_612 N_974q
      have K__975 : Keep h0 T_974.heap [] := K__613.trans K_974 (allS (Or.inr sz_660) all0)
      have f_976 : Exa Z T_974.heap b_80 "[J" := f_614.keep K_974
      have f_977 : Arv Z T_974.heap b_80 k_80 .long (8 : Int32) [(.long a0), (.long a1), (.long a2), (.long a3), (.long a4), (.long a5), (.long a6), (.long a7)] (.long (0 : Int64)) := f_615.keep K_974 (ninS ne_634 nin0)
      have f_978 : Exa Z T_974.heap b_157 "[J" := f_616.keep K_974
      have f_979 : Arv Z T_974.heap b_157 k_157 .long (8 : Int32) [(.long a0), (.long a1), (.long a2), (.long a3), (.long a4), (.long a5), (.long a6), (.long a7)] (.long (0 : Int64)) := f_617.keep K_974 (ninS ne_635 nin0)
      have f_980 : Exa Z T_974.heap b_262 "[J" := f_618.keep K_974
      have f_981 : Arv Z T_974.heap b_262 k_262 .long (8 : Int32) [(.long a0), (.long a1), (.long a2), (.long a3), (.long a4), (.long a5), (.long a6), (.long a7)] (.long (0 : Int64)) := f_619.keep K_974 (ninS ne_636 nin0)
      have f_982 : Exa Z T_974.heap b_397 "[J" := f_620.keep K_974
      have f_983 : Arv Z T_974.heap b_397 k_397 .long (8 : Int32) [(.long (-a0)), (.long (-a1)), (.long (-a2)), (.long (-a3)), (.long (-a4)), (.long (-a5)), (.long (-a6)), (.long (-a7))] (.long (0 : Int64)) := f_621.keep K_974 (ninS ne_637 nin0)
      have f_984 : Exa Z T_974.heap b_564 "[J" := f_622.keep K_974
      have f_985 : Exa Z T_974.heap b_576 "[J" := f_624.keep K_974
      have f_986 : Arv Z T_974.heap b_576 k_576 .long (8 : Int32) [(.long (0 : Int64)), (.long (0 : Int64)), (.long (0 : Int64)), (.long (0 : Int64)), (.long (0 : Int64)), (.long (0 : Int64)), (.long (0 : Int64)), (.long (0 : Int64))] (.long (0 : Int64)) := f_625.keep K_974 (ninS (Ne.symm ne_642) nin0)
      have f_987 : Exa Z T_974.heap b_590 "[J" := f_626.keep K_974
      have f_988 : Arv Z T_974.heap b_590 k_590 .long (8 : Int32) [(.long (0 : Int64)), (.long (0 : Int64)), (.long (0 : Int64)), (.long (0 : Int64)), (.long (0 : Int64)), (.long (0 : Int64)), (.long (0 : Int64)), (.long (0 : Int64))] (.long (0 : Int64)) := f_627.keep K_974 (ninS (Ne.symm ne_647) nin0)
      refine Done.pre (fun _ k_ => st_974 _ k_) ?_
      show Done _ _ _ _ _ _ _ (T_974.setTop (mkF m 464 #[Lv q1, Zs, Lv q2, Zs, Lv q3, Zs, Lv q4, Zs, Lv q5, Zs, Iv p6, Lv a0, Zs, Lv a1, Zs, Lv a2, Zs, Lv a3, Zs, Lv a4, Zs, Lv a5, Zs, Lv a6, Zs, Lv a7, Zs, Lv a0, Zs, Lv a1, Zs, Lv a2, Zs, Lv a3, Zs, Lv a4, Zs, Lv a5, Zs, Lv a6, Zs, Lv a7, Zs, Iv (3 : Int32), Rv b_80, Rv b_157, Rv b_262, Rv b_397, Rv b_564, Rv b_576, Rv b_590, Rv b_80, Rv b_564, Us] []))
      have hRr := hq_974_1
      have hMr := hq_974_2
      exact rm0_j464 l Z aZ hw ws q1 q2 q3 q4 q5 p6 h0 n0 Z0 p e s m below meth cO hEX hBY hMX hOW hNM hLK hRT hZW a0 a1 a2 a3 a4 a5 a6 a7 a0 a1 a2 a3 a4 a5 a6 a7 b_80 b_157 b_262 k_262 b_397 k_397 b_564 b_576 k_576 b_590 k_590 T_974 T_974.heap _ X_974 rfl N_974 K__975 (b_564) (b_80) ((3 : Int32)) (r0) (r1) (r2) (r3) (r4) (r5) (r6) (r7) (k_564) f_981 f_983 f_986 f_987 f_988 hq_974_0 (Ne.symm ne_636) (Ne.symm ne_637) ne_642 ne_647 hRr hMr hRa hRb hNa ne_628 ne_629 ne_630 ne_631 ne_632 ne_633 ne_634 ne_635 ne_636 ne_637 ne_638 ne_639 ne_640 ne_641 ne_642 ne_643 ne_644 ne_645 ne_646 ne_647 ne_648 ge_649 ge_650 ge_651 ge_652 ge_653 ge_654 ge_655 sz_656 sz_657 sz_658 sz_659 sz_660 sz_661 sz_662
    · skip
      have sg_989 : ∀ tt_, Steps p.tables e below (T_607.setTop (mkF m 461 #[Lv q1, Zs, Lv q2, Zs, Lv q3, Zs, Lv q4, Zs, Lv q5, Zs, Iv p6, Lv a0, Zs, Lv a1, Zs, Lv a2, Zs, Lv a3, Zs, Lv a4, Zs, Lv a5, Zs, Lv a6, Zs, Lv a7, Zs, Lv a0, Zs, Lv a1, Zs, Lv a2, Zs, Lv a3, Zs, Lv a4, Zs, Lv a5, Zs, Lv a6, Zs, Lv a7, Zs, Iv (3 : Int32), Rv b_80, Rv b_157, Rv b_262, Rv b_397, Rv b_564, Rv b_576, Rv b_590, Rv b_80, Rv b_80, Us] [(.ref b_80), (.ref b_80), (.ref b_80)])) tt_ → Steps p.tables e below (T_607.setTop (mkF m 448 #[Lv q1, Zs, Lv q2, Zs, Lv q3, Zs, Lv q4, Zs, Lv q5, Zs, Iv p6, Lv a0, Zs, Lv a1, Zs, Lv a2, Zs, Lv a3, Zs, Lv a4, Zs, Lv a5, Zs, Lv a6, Zs, Lv a7, Zs, Lv a0, Zs, Lv a1, Zs, Lv a2, Zs, Lv a3, Zs, Lv a4, Zs, Lv a5, Zs, Lv a6, Zs, Lv a7, Zs, Iv (3 : Int32), Rv b_80, Rv b_157, Rv b_262, Rv b_397, Rv b_564, Rv b_576, Rv b_590, Rv b_80, Rv b_564, Us] [(.int (p6 &&& (4 : Int32)))])) tt_ := by
        intro tt_ kt_
        refine XS.ifNo X_610.here hEX rfl (hb hBY at_448) rfl ((if0 _ _).trans (feq hc448).1) ?_
        show Steps p.tables e below (T_607.setTop (mkF m 451 #[Lv q1, Zs, Lv q2, Zs, Lv q3, Zs, Lv q4, Zs, Lv q5, Zs, Iv p6, Lv a0, Zs, Lv a1, Zs, Lv a2, Zs, Lv a3, Zs, Lv a4, Zs, Lv a5, Zs, Lv a6, Zs, Lv a7, Zs, Lv a0, Zs, Lv a1, Zs, Lv a2, Zs, Lv a3, Zs, Lv a4, Zs, Lv a5, Zs, Lv a6, Zs, Lv a7, Zs, Iv (3 : Int32), Rv b_80, Rv b_157, Rv b_262, Rv b_397, Rv b_564, Rv b_576, Rv b_590, Rv b_80, Rv b_564, Us] [])) tt_
        refine XS.aload X_610.here hEX rfl (hb hBY at_451) rfl rfl ?_
        show Steps p.tables e below (T_607.setTop (mkF m 453 #[Lv q1, Zs, Lv q2, Zs, Lv q3, Zs, Lv q4, Zs, Lv q5, Zs, Iv p6, Lv a0, Zs, Lv a1, Zs, Lv a2, Zs, Lv a3, Zs, Lv a4, Zs, Lv a5, Zs, Lv a6, Zs, Lv a7, Zs, Lv a0, Zs, Lv a1, Zs, Lv a2, Zs, Lv a3, Zs, Lv a4, Zs, Lv a5, Zs, Lv a6, Zs, Lv a7, Zs, Iv (3 : Int32), Rv b_80, Rv b_157, Rv b_262, Rv b_397, Rv b_564, Rv b_576, Rv b_590, Rv b_80, Rv b_564, Us] [(.ref b_80)])) tt_
        refine XS.astore X_610.here hEX rfl (hb hBY at_453) rfl rfl (l' := #[Lv q1, Zs, Lv q2, Zs, Lv q3, Zs, Lv q4, Zs, Lv q5, Zs, Iv p6, Lv a0, Zs, Lv a1, Zs, Lv a2, Zs, Lv a3, Zs, Lv a4, Zs, Lv a5, Zs, Lv a6, Zs, Lv a7, Zs, Lv a0, Zs, Lv a1, Zs, Lv a2, Zs, Lv a3, Zs, Lv a4, Zs, Lv a5, Zs, Lv a6, Zs, Lv a7, Zs, Iv (3 : Int32), Rv b_80, Rv b_157, Rv b_262, Rv b_397, Rv b_564, Rv b_576, Rv b_590, Rv b_80, Rv b_80, Us]) rfl ?_
        show Steps p.tables e below (T_607.setTop (mkF m 455 #[Lv q1, Zs, Lv q2, Zs, Lv q3, Zs, Lv q4, Zs, Lv q5, Zs, Iv p6, Lv a0, Zs, Lv a1, Zs, Lv a2, Zs, Lv a3, Zs, Lv a4, Zs, Lv a5, Zs, Lv a6, Zs, Lv a7, Zs, Lv a0, Zs, Lv a1, Zs, Lv a2, Zs, Lv a3, Zs, Lv a4, Zs, Lv a5, Zs, Lv a6, Zs, Lv a7, Zs, Iv (3 : Int32), Rv b_80, Rv b_157, Rv b_262, Rv b_397, Rv b_564, Rv b_576, Rv b_590, Rv b_80, Rv b_80, Us] [])) tt_
        refine XS.aload X_610.here hEX rfl (hb hBY at_455) rfl rfl ?_
        show Steps p.tables e below (T_607.setTop (mkF m 457 #[Lv q1, Zs, Lv q2, Zs, Lv q3, Zs, Lv q4, Zs, Lv q5, Zs, Iv p6, Lv a0, Zs, Lv a1, Zs, Lv a2, Zs, Lv a3, Zs, Lv a4, Zs, Lv a5, Zs, Lv a6, Zs, Lv a7, Zs, Lv a0, Zs, Lv a1, Zs, Lv a2, Zs, Lv a3, Zs, Lv a4, Zs, Lv a5, Zs, Lv a6, Zs, Lv a7, Zs, Iv (3 : Int32), Rv b_80, Rv b_157, Rv b_262, Rv b_397, Rv b_564, Rv b_576, Rv b_590, Rv b_80, Rv b_80, Us] [(.ref b_80)])) tt_
        refine XS.aload X_610.here hEX rfl (hb hBY at_457) rfl rfl ?_
        show Steps p.tables e below (T_607.setTop (mkF m 459 #[Lv q1, Zs, Lv q2, Zs, Lv q3, Zs, Lv q4, Zs, Lv q5, Zs, Iv p6, Lv a0, Zs, Lv a1, Zs, Lv a2, Zs, Lv a3, Zs, Lv a4, Zs, Lv a5, Zs, Lv a6, Zs, Lv a7, Zs, Lv a0, Zs, Lv a1, Zs, Lv a2, Zs, Lv a3, Zs, Lv a4, Zs, Lv a5, Zs, Lv a6, Zs, Lv a7, Zs, Iv (3 : Int32), Rv b_80, Rv b_157, Rv b_262, Rv b_397, Rv b_564, Rv b_576, Rv b_590, Rv b_80, Rv b_80, Us] [(.ref b_80), (.ref b_80)])) tt_
        refine XS.aload X_610.here hEX rfl (hb hBY at_459) rfl rfl ?_
        exact kt_
      refine Done.pre sg_989 ?_
      obtain ⟨_, _, ⟨T_990, L_990, k_990, n_990⟩, -, X_990, ⟨Lc_990, hQ_990, l_990, y_990, z_990⟩, st_990⟩ := Jvm.LawKit.callS X_610 hEX (y := (⟨"com/example/guard3/guard3/P384Field", "subtract", "([J[J[J)V"⟩ : MethodName)) hOW (mvT hZW (hw _ (List.mem_of_getElem? (i := 10) rfl))) (mvT hZW (hw _ (List.mem_of_getElem? (i := 11) rfl))) (mvT hZW (hw _ (List.mem_of_getElem? (i := 12) rfl))) (mvT hZW (hw _ (List.mem_of_getElem? (i := 13) rfl))) (by decide) (backOf (W := 0) (rm_subtract_aaa l Z aZ hw [] b_80 k_80 a0 a1 a2 a3 a4 a5 a6 a7 h_608 n0 (Nat.le_trans Z0 K__613.1) f_615 ge_649 hRa) hZW (hw _ (List.mem_of_getElem? (i := 13) rfl)) (hw _ (List.mem_of_getElem? (i := 12) rfl)) (by decide) (by decide)) (g := (mkF m 461 #[Lv q1, Zs, Lv q2, Zs, Lv q3, Zs, Lv q4, Zs, Lv q5, Zs, Iv p6, Lv a0, Zs, Lv a1, Zs, Lv a2, Zs, Lv a3, Zs, Lv a4, Zs, Lv a5, Zs, Lv a6, Zs, Lv a7, Zs, Lv a0, Zs, Lv a1, Zs, Lv a2, Zs, Lv a3, Zs, Lv a4, Zs, Lv a5, Zs, Lv a6, Zs, Lv a7, Zs, Iv (3 : Int32), Rv b_80, Rv b_157, Rv b_262, Rv b_397, Rv b_564, Rv b_576, Rv b_590, Rv b_80, Rv b_80, Us] [(.ref b_80), (.ref b_80), (.ref b_80)])) rfl (by rw [hMX]; rfl) (argsL := [(.ref b_80), (.ref b_80), (.ref b_80)]) (rest := []) (lenOf pd___J_J_J_V_9 rfl) rfl (by show 2 * 0 + _ ≤ _; exact Nat.le_of_eq rfl) (hb hBY at_461) (fun _ _ => ⟨rfl, e_611, (by decide : 7 + 0 ≤ _), (by decide : 56 + 0 ≤ _)⟩)
      dsimp only [Pt.U, Pt.locs, Pt.cells, Pt.slots] at X_990 l_990 y_990 z_990 st_990 hQ_990
      subst l_990 y_990 z_990
      obtain ⟨r0, r1, r2, r3, r4, r5, r6, r7, rfl, N_990q, K_990, hq_990_0, hq_990_1, hq_990_2⟩ := hQ_990
      have N_990 := Fr.app N_612 N_990q
      have K__991 : Keep h0 T_990.heap [] := K__613.trans K_990 (allS (Or.inr sz_656) all0)
      have f_992 : Exa Z T_990.heap b_80 "[J" := f_614.keep K_990
      have f_993 : Exa Z T_990.heap b_157 "[J" := f_616.keep K_990
      have f_994 : Arv Z T_990.heap b_157 k_157 .long (8 : Int32) [(.long a0), (.long a1), (.long a2), (.long a3), (.long a4), (.long a5), (.long a6), (.long a7)] (.long (0 : Int64)) := f_617.keep K_990 (ninS (Ne.symm ne_628) nin0)
      have f_995 : Exa Z T_990.heap b_262 "[J" := f_618.keep K_990
      have f_996 : Arv Z T_990.heap b_262 k_262 .long (8 : Int32) [(.long a0), (.long a1), (.long a2), (.long a3), (.long a4), (.long a5), (.long a6), (.long a7)] (.long (0 : Int64)) := f_619.keep K_990 (ninS (Ne.symm ne_629) nin0)
      have f_997 : Exa Z T_990.heap b_397 "[J" := f_620.keep K_990
      have f_998 : Arv Z T_990.heap b_397 k_397 .long (8 : Int32) [(.long (-a0)), (.long (-a1)), (.long (-a2)), (.long (-a3)), (.long (-a4)), (.long (-a5)), (.long (-a6)), (.long (-a7))] (.long (0 : Int64)) := f_621.keep K_990 (ninS (Ne.symm ne_631) nin0)
      have f_999 : Exa Z T_990.heap b_564 "[J" := f_622.keep K_990
      have f_1000 : Arv Z T_990.heap b_564 k_564 .long (8 : Int32) [(.long (0 : Int64)), (.long (0 : Int64)), (.long (0 : Int64)), (.long (0 : Int64)), (.long (0 : Int64)), (.long (0 : Int64)), (.long (0 : Int64)), (.long (0 : Int64))] (.long (0 : Int64)) := f_623.keep K_990 (ninS (Ne.symm ne_634) nin0)
      have f_1001 : Exa Z T_990.heap b_576 "[J" := f_624.keep K_990
      have f_1002 : Arv Z T_990.heap b_576 k_576 .long (8 : Int32) [(.long (0 : Int64)), (.long (0 : Int64)), (.long (0 : Int64)), (.long (0 : Int64)), (.long (0 : Int64)), (.long (0 : Int64)), (.long (0 : Int64)), (.long (0 : Int64))] (.long (0 : Int64)) := f_625.keep K_990 (ninS (Ne.symm ne_638) nin0)
      have f_1003 : Exa Z T_990.heap b_590 "[J" := f_626.keep K_990
      have f_1004 : Arv Z T_990.heap b_590 k_590 .long (8 : Int32) [(.long (0 : Int64)), (.long (0 : Int64)), (.long (0 : Int64)), (.long (0 : Int64)), (.long (0 : Int64)), (.long (0 : Int64)), (.long (0 : Int64)), (.long (0 : Int64))] (.long (0 : Int64)) := f_627.keep K_990 (ninS (Ne.symm ne_643) nin0)
      refine Done.pre (fun _ k_ => st_990 _ k_) ?_
      show Done _ _ _ _ _ _ _ (T_990.setTop (mkF m 464 #[Lv q1, Zs, Lv q2, Zs, Lv q3, Zs, Lv q4, Zs, Lv q5, Zs, Iv p6, Lv a0, Zs, Lv a1, Zs, Lv a2, Zs, Lv a3, Zs, Lv a4, Zs, Lv a5, Zs, Lv a6, Zs, Lv a7, Zs, Lv a0, Zs, Lv a1, Zs, Lv a2, Zs, Lv a3, Zs, Lv a4, Zs, Lv a5, Zs, Lv a6, Zs, Lv a7, Zs, Iv (3 : Int32), Rv b_80, Rv b_157, Rv b_262, Rv b_397, Rv b_564, Rv b_576, Rv b_590, Rv b_80, Rv b_80, Us] []))
      have hRr := hq_990_1
      have hMr := hq_990_2
      exact rm0_j464 l Z aZ hw ws q1 q2 q3 q4 q5 p6 h0 n0 Z0 p e s m below meth cO hEX hBY hMX hOW hNM hLK hRT hZW a0 a1 a2 a3 a4 a5 a6 a7 a0 a1 a2 a3 a4 a5 a6 a7 b_80 b_157 b_262 k_262 b_397 k_397 b_564 b_576 k_576 b_590 k_590 T_990 T_990.heap _ X_990 rfl N_990 K__991 (b_80) (b_80) ((3 : Int32)) (r0) (r1) (r2) (r3) (r4) (r5) (r6) (r7) (k_80) f_996 f_998 f_1002 f_1003 f_1004 hq_990_0 ne_629 ne_631 ne_638 ne_643 hRr hMr hRa hRb hNa ne_628 ne_629 ne_630 ne_631 ne_632 ne_633 ne_634 ne_635 ne_636 ne_637 ne_638 ne_639 ne_640 ne_641 ne_642 ne_643 ne_644 ne_645 ne_646 ne_647 ne_648 ge_649 ge_650 ge_651 ge_652 ge_653 ge_654 ge_655 sz_656 sz_657 sz_658 sz_659 sz_660 sz_661 sz_662
set_option maxRecDepth 65536 in
set_option maxHeartbeats 40000000 in
theorem rm0_j382 (l : Launch) (Z : State) (aZ : Array Value) (hw : ∀ d ∈ tables_1, d.before aZ Z = true) (ws : List Jvm.Cond) (q1 : Int64) (q2 : Int64) (q3 : Int64) (q4 : Int64) (q5 : Int64) (p6 : Int32) (h0 : Heap) (n0 : Nat) (Z0 : n0 ≤ h0.size)
    (p : Program) (e : Env) (s : State) (m : MethodId) (below : List Frame) (meth : Method) (cO : Code) (hEX : p.tables.exec = Jvm.exec) (hBY : cO.code = code) (hMX : cO.maxLocals = 54) (hOW : s.vm.findClass "com/example/guard3/guard3/P384FieldSubtractPinLaw" = some m.cls) (hNM : meth.name = x.name) (hLK : meth.locks = false) (hRT : meth.sig.returnType = ret) (hZW : Z.Warmed39 s.vm)
    (a0 : Int64) (a1 : Int64) (a2 : Int64) (a3 : Int64) (a4 : Int64) (a5 : Int64) (a6 : Int64) (a7 : Int64) (md : Int32) (b0 : Int64) (b1 : Int64) (b2 : Int64) (b3 : Int64) (b4 : Int64) (b5 : Int64) (b6 : Int64) (b7 : Int64) (b_80 : Addr) (k_80 : ClassId) (b_157 : Addr) (k_157 : ClassId) (b_262 : Addr) (k_262 : ClassId) (b_397 : Addr) (k_397 : ClassId) (T_534 : State) (h_535 : Heap) (L_536 : List Loc) (X_537 : Stand p l e room_1 s m #[(.long q1), (.long q2), (.long q3), (.long q4), (.long q5), (.int p6)] below meth cO T_534 L_536 4 32) (e_538 : T_534.heap = h_535) (N_539 : Fr n0 L_536) (K__540 : Keep h0 h_535 []) (f_541 : Exa Z h_535 b_80 "[J") (f_542 : Arv Z h_535 b_80 k_80 .long (8 : Int32) [(.long a0), (.long a1), (.long a2), (.long a3), (.long a4), (.long a5), (.long a6), (.long a7)] (.long (0 : Int64))) (f_543 : Exa Z h_535 b_157 "[J") (f_544 : Arv Z h_535 b_157 k_157 .long (8 : Int32) [(.long b0), (.long b1), (.long b2), (.long b3), (.long b4), (.long b5), (.long b6), (.long b7)] (.long (0 : Int64))) (f_545 : Exa Z h_535 b_262 "[J") (f_546 : Arv Z h_535 b_262 k_262 .long (8 : Int32) [(.long b0), (.long b1), (.long b2), (.long b3), (.long b4), (.long b5), (.long b6), (.long b7)] (.long (0 : Int64))) (f_547 : Exa Z h_535 b_397 "[J") (f_548 : Arv Z h_535 b_397 k_397 .long (8 : Int32) [(.long (-a0)), (.long (-a1)), (.long (-a2)), (.long (-a3)), (.long (-a4)), (.long (-a5)), (.long (-a6)), (.long (-a7))] (.long (0 : Int64))) (hRa : own_R 1125899906842624 a0 a1 a2 a3 a4 a5 a6 a7) (hm4 : md = (0 : Int32) ∨ md = (1 : Int32) ∨ md = (2 : Int32) ∨ md = (3 : Int32)) (hRb : own_R 1125899906842624 b0 b1 b2 b3 b4 b5 b6 b7) (hEq : md = (3 : Int32) → a0 = b0 ∧ a1 = b1 ∧ a2 = b2 ∧ a3 = b3 ∧ a4 = b4 ∧ a5 = b5 ∧ a6 = b6 ∧ a7 = b7) (hNa : own_R 1125899906842624 (-a0) (-a1) (-a2) (-a3) (-a4) (-a5) (-a6) (-a7) ∧ own_W (-a0) (-a1) (-a2) (-a3) (-a4) (-a5) (-a6) (-a7) = -own_W a0 a1 a2 a3 a4 a5 a6 a7) (ne_549 : b_80 ≠ b_157) (ne_550 : b_80 ≠ b_262) (ne_551 : b_157 ≠ b_262) (ne_552 : b_80 ≠ b_397) (ne_553 : b_157 ≠ b_397) (ne_554 : b_262 ≠ b_397) (ge_555 : n0 ≤ b_80) (ge_556 : n0 ≤ b_157) (ge_557 : n0 ≤ b_262) (ge_558 : n0 ≤ b_397) (sz_559 : h0.size ≤ b_80) (sz_560 : h0.size ≤ b_157) (sz_561 : h0.size ≤ b_262) (sz_562 : h0.size ≤ b_397) :
    Done p e below s (Qrm0 Z q1 q2 q3 q4 q5 p6 h0 n0) room_1.cells room_1.slots (T_534.setTop (mkF m 382 #[Lv q1, Zs, Lv q2, Zs, Lv q3, Zs, Lv q4, Zs, Lv q5, Zs, Iv p6, Lv a0, Zs, Lv a1, Zs, Lv a2, Zs, Lv a3, Zs, Lv a4, Zs, Lv a5, Zs, Lv a6, Zs, Lv a7, Zs, Lv b0, Zs, Lv b1, Zs, Lv b2, Zs, Lv b3, Zs, Lv b4, Zs, Lv b5, Zs, Lv b6, Zs, Lv b7, Zs, Iv md, Rv b_80, Rv b_157, Rv b_262, Rv b_397, Us, Us, Us, Us, Us, Us] [])) := by
  have sg_563 : ∀ tt_, Steps p.tables e below (T_534.setTop (mkF m 384 #[Lv q1, Zs, Lv q2, Zs, Lv q3, Zs, Lv q4, Zs, Lv q5, Zs, Iv p6, Lv a0, Zs, Lv a1, Zs, Lv a2, Zs, Lv a3, Zs, Lv a4, Zs, Lv a5, Zs, Lv a6, Zs, Lv a7, Zs, Lv b0, Zs, Lv b1, Zs, Lv b2, Zs, Lv b3, Zs, Lv b4, Zs, Lv b5, Zs, Lv b6, Zs, Lv b7, Zs, Iv md, Rv b_80, Rv b_157, Rv b_262, Rv b_397, Us, Us, Us, Us, Us, Us] [(.int (8 : Int32))])) tt_ → Steps p.tables e below (T_534.setTop (mkF m 382 #[Lv q1, Zs, Lv q2, Zs, Lv q3, Zs, Lv q4, Zs, Lv q5, Zs, Iv p6, Lv a0, Zs, Lv a1, Zs, Lv a2, Zs, Lv a3, Zs, Lv a4, Zs, Lv a5, Zs, Lv a6, Zs, Lv a7, Zs, Lv b0, Zs, Lv b1, Zs, Lv b2, Zs, Lv b3, Zs, Lv b4, Zs, Lv b5, Zs, Lv b6, Zs, Lv b7, Zs, Iv md, Rv b_80, Rv b_157, Rv b_262, Rv b_397, Us, Us, Us, Us, Us, Us] [])) tt_ := by
    intro tt_ kt_
    refine XS.bipush X_537.here hEX rfl (hb hBY at_382) ?_
    exact kt_
  refine Done.pre sg_563 ?_
  obtain ⟨T_564, h_564, k_564, X_564, e_564, E_564, A_564, B_564, st_564⟩ := newPE X_537 hEX hZW (hw _ (List.mem_of_getElem? (i := 9) rfl)) e_538 (g := (mkF m 384 #[Lv q1, Zs, Lv q2, Zs, Lv q3, Zs, Lv q4, Zs, Lv q5, Zs, Iv p6, Lv a0, Zs, Lv a1, Zs, Lv a2, Zs, Lv a3, Zs, Lv a4, Zs, Lv a5, Zs, Lv a6, Zs, Lv a7, Zs, Lv b0, Zs, Lv b1, Zs, Lv b2, Zs, Lv b3, Zs, Lv b4, Zs, Lv b5, Zs, Lv b6, Zs, Lv b7, Zs, Iv md, Rv b_80, Rv b_157, Rv b_262, Rv b_397, Us, Us, Us, Us, Us, Us] [(.int (8 : Int32))])) rfl (hb hBY at_384) rfl (by decide) (cap := 8) (by decide) (by decide) (by decide) (by decide) (ad := "[J") (by decide)
  obtain ⟨b_564, g_564⟩ : ∃ z, z = h_535.size := ⟨_, rfl⟩
  rw [← g_564] at A_564 B_564 st_564
  have sz_b_564 : h0.size ≤ b_564 := Nat.le_trans K__540.1 (Nat.le_of_eq g_564.symm)
  have ge_b_564 : n0 ≤ b_564 := Nat.le_trans Z0 sz_b_564
  have ne_b_80_b_564 : b_80 ≠ b_564 := Nat.ne_of_lt (Nat.lt_of_lt_of_le f_541.lt (Nat.le_of_eq g_564.symm))
  have ne_b_157_b_564 : b_157 ≠ b_564 := Nat.ne_of_lt (Nat.lt_of_lt_of_le f_543.lt (Nat.le_of_eq g_564.symm))
  have ne_b_262_b_564 : b_262 ≠ b_564 := Nat.ne_of_lt (Nat.lt_of_lt_of_le f_545.lt (Nat.le_of_eq g_564.symm))
  have ne_b_397_b_564 : b_397 ≠ b_564 := Nat.ne_of_lt (Nat.lt_of_lt_of_le f_547.lt (Nat.le_of_eq g_564.symm))
  have K__565 : Keep h0 h_564 [] := K__540.ext E_564
  have f_566 : Exa Z h_564 b_80 "[J" := f_541.ext E_564
  have f_567 : Arv Z h_564 b_80 k_80 .long (8 : Int32) [(.long a0), (.long a1), (.long a2), (.long a3), (.long a4), (.long a5), (.long a6), (.long a7)] (.long (0 : Int64)) := f_542.ext E_564
  have f_568 : Exa Z h_564 b_157 "[J" := f_543.ext E_564
  have f_569 : Arv Z h_564 b_157 k_157 .long (8 : Int32) [(.long b0), (.long b1), (.long b2), (.long b3), (.long b4), (.long b5), (.long b6), (.long b7)] (.long (0 : Int64)) := f_544.ext E_564
  have f_570 : Exa Z h_564 b_262 "[J" := f_545.ext E_564
  have f_571 : Arv Z h_564 b_262 k_262 .long (8 : Int32) [(.long b0), (.long b1), (.long b2), (.long b3), (.long b4), (.long b5), (.long b6), (.long b7)] (.long (0 : Int64)) := f_546.ext E_564
  have f_572 : Exa Z h_564 b_397 "[J" := f_547.ext E_564
  have f_573 : Arv Z h_564 b_397 k_397 .long (8 : Int32) [(.long (-a0)), (.long (-a1)), (.long (-a2)), (.long (-a3)), (.long (-a4)), (.long (-a5)), (.long (-a6)), (.long (-a7))] (.long (0 : Int64)) := f_548.ext E_564
  have f_574 : Arv Z h_564 b_564 k_564 .long (8 : Int32) [(.long (0 : Int64)), (.long (0 : Int64)), (.long (0 : Int64)), (.long (0 : Int64)), (.long (0 : Int64)), (.long (0 : Int64)), (.long (0 : Int64)), (.long (0 : Int64))] (.long (0 : Int64)) := (Arv.new A_564 (by decide)).pad (pad_rep [] (.long (0 : Int64)) 8)
  refine Done.pre st_564 ?_
  show Done _ _ _ _ _ _ _ (T_564.setTop (mkF m 386 #[Lv q1, Zs, Lv q2, Zs, Lv q3, Zs, Lv q4, Zs, Lv q5, Zs, Iv p6, Lv a0, Zs, Lv a1, Zs, Lv a2, Zs, Lv a3, Zs, Lv a4, Zs, Lv a5, Zs, Lv a6, Zs, Lv a7, Zs, Lv b0, Zs, Lv b1, Zs, Lv b2, Zs, Lv b3, Zs, Lv b4, Zs, Lv b5, Zs, Lv b6, Zs, Lv b7, Zs, Iv md, Rv b_80, Rv b_157, Rv b_262, Rv b_397, Us, Us, Us, Us, Us, Us] [(.ref b_564)]))
  have sg_575 : ∀ tt_, Steps p.tables e below (T_564.setTop (mkF m 390 #[Lv q1, Zs, Lv q2, Zs, Lv q3, Zs, Lv q4, Zs, Lv q5, Zs, Iv p6, Lv a0, Zs, Lv a1, Zs, Lv a2, Zs, Lv a3, Zs, Lv a4, Zs, Lv a5, Zs, Lv a6, Zs, Lv a7, Zs, Lv b0, Zs, Lv b1, Zs, Lv b2, Zs, Lv b3, Zs, Lv b4, Zs, Lv b5, Zs, Lv b6, Zs, Lv b7, Zs, Iv md, Rv b_80, Rv b_157, Rv b_262, Rv b_397, Rv b_564, Us, Us, Us, Us, Us] [(.int (8 : Int32))])) tt_ → Steps p.tables e below (T_564.setTop (mkF m 386 #[Lv q1, Zs, Lv q2, Zs, Lv q3, Zs, Lv q4, Zs, Lv q5, Zs, Iv p6, Lv a0, Zs, Lv a1, Zs, Lv a2, Zs, Lv a3, Zs, Lv a4, Zs, Lv a5, Zs, Lv a6, Zs, Lv a7, Zs, Lv b0, Zs, Lv b1, Zs, Lv b2, Zs, Lv b3, Zs, Lv b4, Zs, Lv b5, Zs, Lv b6, Zs, Lv b7, Zs, Iv md, Rv b_80, Rv b_157, Rv b_262, Rv b_397, Us, Us, Us, Us, Us, Us] [(.ref b_564)])) tt_ := by
    intro tt_ kt_
    refine XS.astore X_564.here hEX rfl (hb hBY at_386) rfl rfl (l' := #[Lv q1, Zs, Lv q2, Zs, Lv q3, Zs, Lv q4, Zs, Lv q5, Zs, Iv p6, Lv a0, Zs, Lv a1, Zs, Lv a2, Zs, Lv a3, Zs, Lv a4, Zs, Lv a5, Zs, Lv a6, Zs, Lv a7, Zs, Lv b0, Zs, Lv b1, Zs, Lv b2, Zs, Lv b3, Zs, Lv b4, Zs, Lv b5, Zs, Lv b6, Zs, Lv b7, Zs, Iv md, Rv b_80, Rv b_157, Rv b_262, Rv b_397, Rv b_564, Us, Us, Us, Us, Us]) rfl ?_
    show Steps p.tables e below (T_564.setTop (mkF m 388 #[Lv q1, Zs, Lv q2, Zs, Lv q3, Zs, Lv q4, Zs, Lv q5, Zs, Iv p6, Lv a0, Zs, Lv a1, Zs, Lv a2, Zs, Lv a3, Zs, Lv a4, Zs, Lv a5, Zs, Lv a6, Zs, Lv a7, Zs, Lv b0, Zs, Lv b1, Zs, Lv b2, Zs, Lv b3, Zs, Lv b4, Zs, Lv b5, Zs, Lv b6, Zs, Lv b7, Zs, Iv md, Rv b_80, Rv b_157, Rv b_262, Rv b_397, Rv b_564, Us, Us, Us, Us, Us] [])) tt_
    refine XS.bipush X_564.here hEX rfl (hb hBY at_388) ?_
    exact kt_
  refine Done.pre sg_575 ?_
  obtain ⟨T_576, h_576, k_576, X_576, e_576, E_576, A_576, B_576, st_576⟩ := newPE X_564 hEX hZW (hw _ (List.mem_of_getElem? (i := 9) rfl)) e_564 (g := (mkF m 390 #[Lv q1, Zs, Lv q2, Zs, Lv q3, Zs, Lv q4, Zs, Lv q5, Zs, Iv p6, Lv a0, Zs, Lv a1, Zs, Lv a2, Zs, Lv a3, Zs, Lv a4, Zs, Lv a5, Zs, Lv a6, Zs, Lv a7, Zs, Lv b0, Zs, Lv b1, Zs, Lv b2, Zs, Lv b3, Zs, Lv b4, Zs, Lv b5, Zs, Lv b6, Zs, Lv b7, Zs, Iv md, Rv b_80, Rv b_157, Rv b_262, Rv b_397, Rv b_564, Us, Us, Us, Us, Us] [(.int (8 : Int32))])) rfl (hb hBY at_390) rfl (by decide) (cap := 8) (by decide) (by decide) (by decide) (by decide) (ad := "[J") (by decide)
  obtain ⟨b_576, g_576⟩ : ∃ z, z = h_564.size := ⟨_, rfl⟩
  rw [← g_576] at A_576 B_576 st_576
  have sz_b_576 : h0.size ≤ b_576 := Nat.le_trans K__565.1 (Nat.le_of_eq g_576.symm)
  have ge_b_576 : n0 ≤ b_576 := Nat.le_trans Z0 sz_b_576
  have ne_b_80_b_576 : b_80 ≠ b_576 := Nat.ne_of_lt (Nat.lt_of_lt_of_le f_566.lt (Nat.le_of_eq g_576.symm))
  have ne_b_157_b_576 : b_157 ≠ b_576 := Nat.ne_of_lt (Nat.lt_of_lt_of_le f_568.lt (Nat.le_of_eq g_576.symm))
  have ne_b_262_b_576 : b_262 ≠ b_576 := Nat.ne_of_lt (Nat.lt_of_lt_of_le f_570.lt (Nat.le_of_eq g_576.symm))
  have ne_b_397_b_576 : b_397 ≠ b_576 := Nat.ne_of_lt (Nat.lt_of_lt_of_le f_572.lt (Nat.le_of_eq g_576.symm))
  have ne_b_564_b_576 : b_564 ≠ b_576 := Nat.ne_of_lt (Nat.lt_of_lt_of_le B_564.lt (Nat.le_of_eq g_576.symm))
  have K__577 : Keep h0 h_576 [] := K__565.ext E_576
  have f_578 : Exa Z h_576 b_80 "[J" := f_566.ext E_576
  have f_579 : Arv Z h_576 b_80 k_80 .long (8 : Int32) [(.long a0), (.long a1), (.long a2), (.long a3), (.long a4), (.long a5), (.long a6), (.long a7)] (.long (0 : Int64)) := f_567.ext E_576
  have f_580 : Exa Z h_576 b_157 "[J" := f_568.ext E_576
  have f_581 : Arv Z h_576 b_157 k_157 .long (8 : Int32) [(.long b0), (.long b1), (.long b2), (.long b3), (.long b4), (.long b5), (.long b6), (.long b7)] (.long (0 : Int64)) := f_569.ext E_576
  have f_582 : Exa Z h_576 b_262 "[J" := f_570.ext E_576
  have f_583 : Arv Z h_576 b_262 k_262 .long (8 : Int32) [(.long b0), (.long b1), (.long b2), (.long b3), (.long b4), (.long b5), (.long b6), (.long b7)] (.long (0 : Int64)) := f_571.ext E_576
  have f_584 : Exa Z h_576 b_397 "[J" := f_572.ext E_576
  have f_585 : Arv Z h_576 b_397 k_397 .long (8 : Int32) [(.long (-a0)), (.long (-a1)), (.long (-a2)), (.long (-a3)), (.long (-a4)), (.long (-a5)), (.long (-a6)), (.long (-a7))] (.long (0 : Int64)) := f_573.ext E_576
  have f_586 : Exa Z h_576 b_564 "[J" := B_564.ext E_576
  have f_587 : Arv Z h_576 b_564 k_564 .long (8 : Int32) [(.long (0 : Int64)), (.long (0 : Int64)), (.long (0 : Int64)), (.long (0 : Int64)), (.long (0 : Int64)), (.long (0 : Int64)), (.long (0 : Int64)), (.long (0 : Int64))] (.long (0 : Int64)) := f_574.ext E_576
  have f_588 : Arv Z h_576 b_576 k_576 .long (8 : Int32) [(.long (0 : Int64)), (.long (0 : Int64)), (.long (0 : Int64)), (.long (0 : Int64)), (.long (0 : Int64)), (.long (0 : Int64)), (.long (0 : Int64)), (.long (0 : Int64))] (.long (0 : Int64)) := (Arv.new A_576 (by decide)).pad (pad_rep [] (.long (0 : Int64)) 8)
  refine Done.pre st_576 ?_
  show Done _ _ _ _ _ _ _ (T_576.setTop (mkF m 392 #[Lv q1, Zs, Lv q2, Zs, Lv q3, Zs, Lv q4, Zs, Lv q5, Zs, Iv p6, Lv a0, Zs, Lv a1, Zs, Lv a2, Zs, Lv a3, Zs, Lv a4, Zs, Lv a5, Zs, Lv a6, Zs, Lv a7, Zs, Lv b0, Zs, Lv b1, Zs, Lv b2, Zs, Lv b3, Zs, Lv b4, Zs, Lv b5, Zs, Lv b6, Zs, Lv b7, Zs, Iv md, Rv b_80, Rv b_157, Rv b_262, Rv b_397, Rv b_564, Us, Us, Us, Us, Us] [(.ref b_576)]))
  have sg_589 : ∀ tt_, Steps p.tables e below (T_576.setTop (mkF m 396 #[Lv q1, Zs, Lv q2, Zs, Lv q3, Zs, Lv q4, Zs, Lv q5, Zs, Iv p6, Lv a0, Zs, Lv a1, Zs, Lv a2, Zs, Lv a3, Zs, Lv a4, Zs, Lv a5, Zs, Lv a6, Zs, Lv a7, Zs, Lv b0, Zs, Lv b1, Zs, Lv b2, Zs, Lv b3, Zs, Lv b4, Zs, Lv b5, Zs, Lv b6, Zs, Lv b7, Zs, Iv md, Rv b_80, Rv b_157, Rv b_262, Rv b_397, Rv b_564, Rv b_576, Us, Us, Us, Us] [(.int (8 : Int32))])) tt_ → Steps p.tables e below (T_576.setTop (mkF m 392 #[Lv q1, Zs, Lv q2, Zs, Lv q3, Zs, Lv q4, Zs, Lv q5, Zs, Iv p6, Lv a0, Zs, Lv a1, Zs, Lv a2, Zs, Lv a3, Zs, Lv a4, Zs, Lv a5, Zs, Lv a6, Zs, Lv a7, Zs, Lv b0, Zs, Lv b1, Zs, Lv b2, Zs, Lv b3, Zs, Lv b4, Zs, Lv b5, Zs, Lv b6, Zs, Lv b7, Zs, Iv md, Rv b_80, Rv b_157, Rv b_262, Rv b_397, Rv b_564, Us, Us, Us, Us, Us] [(.ref b_576)])) tt_ := by
    intro tt_ kt_
    refine XS.astore X_576.here hEX rfl (hb hBY at_392) rfl rfl (l' := #[Lv q1, Zs, Lv q2, Zs, Lv q3, Zs, Lv q4, Zs, Lv q5, Zs, Iv p6, Lv a0, Zs, Lv a1, Zs, Lv a2, Zs, Lv a3, Zs, Lv a4, Zs, Lv a5, Zs, Lv a6, Zs, Lv a7, Zs, Lv b0, Zs, Lv b1, Zs, Lv b2, Zs, Lv b3, Zs, Lv b4, Zs, Lv b5, Zs, Lv b6, Zs, Lv b7, Zs, Iv md, Rv b_80, Rv b_157, Rv b_262, Rv b_397, Rv b_564, Rv b_576, Us, Us, Us, Us]) rfl ?_
    show Steps p.tables e below (T_576.setTop (mkF m 394 #[Lv q1, Zs, Lv q2, Zs, Lv q3, Zs, Lv q4, Zs, Lv q5, Zs, Iv p6, Lv a0, Zs, Lv a1, Zs, Lv a2, Zs, Lv a3, Zs, Lv a4, Zs, Lv a5, Zs, Lv a6, Zs, Lv a7, Zs, Lv b0, Zs, Lv b1, Zs, Lv b2, Zs, Lv b3, Zs, Lv b4, Zs, Lv b5, Zs, Lv b6, Zs, Lv b7, Zs, Iv md, Rv b_80, Rv b_157, Rv b_262, Rv b_397, Rv b_564, Rv b_576, Us, Us, Us, Us] [])) tt_
    refine XS.bipush X_576.here hEX rfl (hb hBY at_394) ?_
    exact kt_
  refine Done.pre sg_589 ?_
  obtain ⟨T_590, h_590, k_590, X_590, e_590, E_590, A_590, B_590, st_590⟩ := newPE X_576 hEX hZW (hw _ (List.mem_of_getElem? (i := 9) rfl)) e_576 (g := (mkF m 396 #[Lv q1, Zs, Lv q2, Zs, Lv q3, Zs, Lv q4, Zs, Lv q5, Zs, Iv p6, Lv a0, Zs, Lv a1, Zs, Lv a2, Zs, Lv a3, Zs, Lv a4, Zs, Lv a5, Zs, Lv a6, Zs, Lv a7, Zs, Lv b0, Zs, Lv b1, Zs, Lv b2, Zs, Lv b3, Zs, Lv b4, Zs, Lv b5, Zs, Lv b6, Zs, Lv b7, Zs, Iv md, Rv b_80, Rv b_157, Rv b_262, Rv b_397, Rv b_564, Rv b_576, Us, Us, Us, Us] [(.int (8 : Int32))])) rfl (hb hBY at_396) rfl (by decide) (cap := 8) (by decide) (by decide) (by decide) (by decide) (ad := "[J") (by decide)
  obtain ⟨b_590, g_590⟩ : ∃ z, z = h_576.size := ⟨_, rfl⟩
  rw [← g_590] at A_590 B_590 st_590
  have sz_b_590 : h0.size ≤ b_590 := Nat.le_trans K__577.1 (Nat.le_of_eq g_590.symm)
  have ge_b_590 : n0 ≤ b_590 := Nat.le_trans Z0 sz_b_590
  have ne_b_80_b_590 : b_80 ≠ b_590 := Nat.ne_of_lt (Nat.lt_of_lt_of_le f_578.lt (Nat.le_of_eq g_590.symm))
  have ne_b_157_b_590 : b_157 ≠ b_590 := Nat.ne_of_lt (Nat.lt_of_lt_of_le f_580.lt (Nat.le_of_eq g_590.symm))
  have ne_b_262_b_590 : b_262 ≠ b_590 := Nat.ne_of_lt (Nat.lt_of_lt_of_le f_582.lt (Nat.le_of_eq g_590.symm))
  have ne_b_397_b_590 : b_397 ≠ b_590 := Nat.ne_of_lt (Nat.lt_of_lt_of_le f_584.lt (Nat.le_of_eq g_590.symm))
  have ne_b_564_b_590 : b_564 ≠ b_590 := Nat.ne_of_lt (Nat.lt_of_lt_of_le f_586.lt (Nat.le_of_eq g_590.symm))
  have ne_b_576_b_590 : b_576 ≠ b_590 := Nat.ne_of_lt (Nat.lt_of_lt_of_le B_576.lt (Nat.le_of_eq g_590.symm))
  have K__591 : Keep h0 h_590 [] := K__577.ext E_590
  have f_592 : Exa Z h_590 b_80 "[J" := f_578.ext E_590
  have f_593 : Arv Z h_590 b_80 k_80 .long (8 : Int32) [(.long a0), (.long a1), (.long a2), (.long a3), (.long a4), (.long a5), (.long a6), (.long a7)] (.long (0 : Int64)) := f_579.ext E_590
  have f_594 : Exa Z h_590 b_157 "[J" := f_580.ext E_590
  have f_595 : Arv Z h_590 b_157 k_157 .long (8 : Int32) [(.long b0), (.long b1), (.long b2), (.long b3), (.long b4), (.long b5), (.long b6), (.long b7)] (.long (0 : Int64)) := f_581.ext E_590
  have f_596 : Exa Z h_590 b_262 "[J" := f_582.ext E_590
  have f_597 : Arv Z h_590 b_262 k_262 .long (8 : Int32) [(.long b0), (.long b1), (.long b2), (.long b3), (.long b4), (.long b5), (.long b6), (.long b7)] (.long (0 : Int64)) := f_583.ext E_590
  have f_598 : Exa Z h_590 b_397 "[J" := f_584.ext E_590
  have f_599 : Arv Z h_590 b_397 k_397 .long (8 : Int32) [(.long (-a0)), (.long (-a1)), (.long (-a2)), (.long (-a3)), (.long (-a4)), (.long (-a5)), (.long (-a6)), (.long (-a7))] (.long (0 : Int64)) := f_585.ext E_590
  have f_600 : Exa Z h_590 b_564 "[J" := f_586.ext E_590
  have f_601 : Arv Z h_590 b_564 k_564 .long (8 : Int32) [(.long (0 : Int64)), (.long (0 : Int64)), (.long (0 : Int64)), (.long (0 : Int64)), (.long (0 : Int64)), (.long (0 : Int64)), (.long (0 : Int64)), (.long (0 : Int64))] (.long (0 : Int64)) := f_587.ext E_590
  have f_602 : Exa Z h_590 b_576 "[J" := B_576.ext E_590
  have f_603 : Arv Z h_590 b_576 k_576 .long (8 : Int32) [(.long (0 : Int64)), (.long (0 : Int64)), (.long (0 : Int64)), (.long (0 : Int64)), (.long (0 : Int64)), (.long (0 : Int64)), (.long (0 : Int64)), (.long (0 : Int64))] (.long (0 : Int64)) := f_588.ext E_590
  have f_604 : Arv Z h_590 b_590 k_590 .long (8 : Int32) [(.long (0 : Int64)), (.long (0 : Int64)), (.long (0 : Int64)), (.long (0 : Int64)), (.long (0 : Int64)), (.long (0 : Int64)), (.long (0 : Int64)), (.long (0 : Int64))] (.long (0 : Int64)) := (Arv.new A_590 (by decide)).pad (pad_rep [] (.long (0 : Int64)) 8)
  refine Done.pre st_590 ?_
  show Done _ _ _ _ _ _ _ (T_590.setTop (mkF m 398 #[Lv q1, Zs, Lv q2, Zs, Lv q3, Zs, Lv q4, Zs, Lv q5, Zs, Iv p6, Lv a0, Zs, Lv a1, Zs, Lv a2, Zs, Lv a3, Zs, Lv a4, Zs, Lv a5, Zs, Lv a6, Zs, Lv a7, Zs, Lv b0, Zs, Lv b1, Zs, Lv b2, Zs, Lv b3, Zs, Lv b4, Zs, Lv b5, Zs, Lv b6, Zs, Lv b7, Zs, Iv md, Rv b_80, Rv b_157, Rv b_262, Rv b_397, Rv b_564, Rv b_576, Us, Us, Us, Us] [(.ref b_590)]))
  have sg_605 : ∀ tt_, Steps p.tables e below (T_590.setTop (mkF m 400 #[Lv q1, Zs, Lv q2, Zs, Lv q3, Zs, Lv q4, Zs, Lv q5, Zs, Iv p6, Lv a0, Zs, Lv a1, Zs, Lv a2, Zs, Lv a3, Zs, Lv a4, Zs, Lv a5, Zs, Lv a6, Zs, Lv a7, Zs, Lv b0, Zs, Lv b1, Zs, Lv b2, Zs, Lv b3, Zs, Lv b4, Zs, Lv b5, Zs, Lv b6, Zs, Lv b7, Zs, Iv md, Rv b_80, Rv b_157, Rv b_262, Rv b_397, Rv b_564, Rv b_576, Rv b_590, Us, Us, Us] [])) tt_ → Steps p.tables e below (T_590.setTop (mkF m 398 #[Lv q1, Zs, Lv q2, Zs, Lv q3, Zs, Lv q4, Zs, Lv q5, Zs, Iv p6, Lv a0, Zs, Lv a1, Zs, Lv a2, Zs, Lv a3, Zs, Lv a4, Zs, Lv a5, Zs, Lv a6, Zs, Lv a7, Zs, Lv b0, Zs, Lv b1, Zs, Lv b2, Zs, Lv b3, Zs, Lv b4, Zs, Lv b5, Zs, Lv b6, Zs, Lv b7, Zs, Iv md, Rv b_80, Rv b_157, Rv b_262, Rv b_397, Rv b_564, Rv b_576, Us, Us, Us, Us] [(.ref b_590)])) tt_ := by
    intro tt_ kt_
    refine XS.astore X_590.here hEX rfl (hb hBY at_398) rfl rfl (l' := #[Lv q1, Zs, Lv q2, Zs, Lv q3, Zs, Lv q4, Zs, Lv q5, Zs, Iv p6, Lv a0, Zs, Lv a1, Zs, Lv a2, Zs, Lv a3, Zs, Lv a4, Zs, Lv a5, Zs, Lv a6, Zs, Lv a7, Zs, Lv b0, Zs, Lv b1, Zs, Lv b2, Zs, Lv b3, Zs, Lv b4, Zs, Lv b5, Zs, Lv b6, Zs, Lv b7, Zs, Iv md, Rv b_80, Rv b_157, Rv b_262, Rv b_397, Rv b_564, Rv b_576, Rv b_590, Us, Us, Us]) rfl ?_
    exact kt_
  refine Done.pre sg_605 ?_
  show Done _ _ _ _ _ _ _ (T_590.setTop (mkF m 400 #[Lv q1, Zs, Lv q2, Zs, Lv q3, Zs, Lv q4, Zs, Lv q5, Zs, Iv p6, Lv a0, Zs, Lv a1, Zs, Lv a2, Zs, Lv a3, Zs, Lv a4, Zs, Lv a5, Zs, Lv a6, Zs, Lv a7, Zs, Lv b0, Zs, Lv b1, Zs, Lv b2, Zs, Lv b3, Zs, Lv b4, Zs, Lv b5, Zs, Lv b6, Zs, Lv b7, Zs, Iv md, Rv b_80, Rv b_157, Rv b_262, Rv b_397, Rv b_564, Rv b_576, Rv b_590, Us, Us, Us] []))
  exact rm0_j400 l Z aZ hw ws q1 q2 q3 q4 q5 p6 h0 n0 Z0 p e s m below meth cO hEX hBY hMX hOW hNM hLK hRT hZW a0 a1 a2 a3 a4 a5 a6 a7 md b0 b1 b2 b3 b4 b5 b6 b7 b_80 k_80 b_157 k_157 b_262 k_262 b_397 k_397 b_564 k_564 b_576 k_576 b_590 k_590 T_590 h_590 _ X_590 e_590 N_539 K__591 f_592 f_593 f_594 f_595 f_596 f_597 f_598 f_599 f_600 f_601 f_602 f_603 B_590 f_604 hRa hm4 hRb hEq hNa ne_549 ne_550 ne_551 ne_552 ne_553 ne_554 ne_b_80_b_564 ne_b_157_b_564 ne_b_262_b_564 ne_b_397_b_564 ne_b_80_b_576 ne_b_157_b_576 ne_b_262_b_576 ne_b_397_b_576 ne_b_564_b_576 ne_b_80_b_590 ne_b_157_b_590 ne_b_262_b_590 ne_b_397_b_590 ne_b_564_b_590 ne_b_576_b_590 ge_555 ge_556 ge_557 ge_558 ge_b_564 ge_b_576 ge_b_590 sz_559 sz_560 sz_561 sz_562 sz_b_564 sz_b_576 sz_b_590
set_option maxRecDepth 65536 in
set_option maxHeartbeats 40000000 in
theorem rm0_j348 (l : Launch) (Z : State) (aZ : Array Value) (hw : ∀ d ∈ tables_1, d.before aZ Z = true) (ws : List Jvm.Cond) (q1 : Int64) (q2 : Int64) (q3 : Int64) (q4 : Int64) (q5 : Int64) (p6 : Int32) (h0 : Heap) (n0 : Nat) (Z0 : n0 ≤ h0.size)
    (p : Program) (e : Env) (s : State) (m : MethodId) (below : List Frame) (meth : Method) (cO : Code) (hEX : p.tables.exec = Jvm.exec) (hBY : cO.code = code) (hMX : cO.maxLocals = 54) (hOW : s.vm.findClass "com/example/guard3/guard3/P384FieldSubtractPinLaw" = some m.cls) (hNM : meth.name = x.name) (hLK : meth.locks = false) (hRT : meth.sig.returnType = ret) (hZW : Z.Warmed39 s.vm)
    (a0 : Int64) (a1 : Int64) (a2 : Int64) (a3 : Int64) (a4 : Int64) (a5 : Int64) (a6 : Int64) (a7 : Int64) (md : Int32) (b0 : Int64) (b1 : Int64) (b2 : Int64) (b3 : Int64) (b4 : Int64) (b5 : Int64) (b6 : Int64) (b7 : Int64) (b_80 : Addr) (k_80 : ClassId) (b_157 : Addr) (k_157 : ClassId) (b_262 : Addr) (k_262 : ClassId) (b_397 : Addr) (k_397 : ClassId) (T_443 : State) (h_444 : Heap) (L_445 : List Loc) (X_446 : Stand p l e room_1 s m #[(.long q1), (.long q2), (.long q3), (.long q4), (.long q5), (.int p6)] below meth cO T_443 L_445 4 32) (e_447 : T_443.heap = h_444) (N_448 : Fr n0 L_445) (K__449 : Keep h0 h_444 []) (f_450 : Exa Z h_444 b_80 "[J") (f_451 : Arv Z h_444 b_80 k_80 .long (8 : Int32) [(.long a0), (.long a1), (.long a2), (.long a3), (.long a4), (.long a5), (.long a6), (.long a7)] (.long (0 : Int64))) (f_452 : Exa Z h_444 b_157 "[J") (f_453 : Arv Z h_444 b_157 k_157 .long (8 : Int32) [(.long b0), (.long b1), (.long b2), (.long b3), (.long b4), (.long b5), (.long b6), (.long b7)] (.long (0 : Int64))) (f_454 : Exa Z h_444 b_262 "[J") (f_455 : Arv Z h_444 b_262 k_262 .long (8 : Int32) [(.long b0), (.long b1), (.long b2), (.long b3), (.long b4), (.long b5), (.long b6), (.long b7)] (.long (0 : Int64))) (f_456 : Exa Z h_444 b_397 "[J") (f_457 : Arv Z h_444 b_397 k_397 .long (8 : Int32) [(.long (-a0)), (.long (-a1)), (.long (-a2)), (.long (0 : Int64)), (.long (0 : Int64)), (.long (0 : Int64)), (.long (0 : Int64)), (.long (0 : Int64))] (.long (0 : Int64))) (hRa : own_R 1125899906842624 a0 a1 a2 a3 a4 a5 a6 a7) (hm4 : md = (0 : Int32) ∨ md = (1 : Int32) ∨ md = (2 : Int32) ∨ md = (3 : Int32)) (hRb : own_R 1125899906842624 b0 b1 b2 b3 b4 b5 b6 b7) (hEq : md = (3 : Int32) → a0 = b0 ∧ a1 = b1 ∧ a2 = b2 ∧ a3 = b3 ∧ a4 = b4 ∧ a5 = b5 ∧ a6 = b6 ∧ a7 = b7) (ne_458 : b_80 ≠ b_157) (ne_459 : b_80 ≠ b_262) (ne_460 : b_157 ≠ b_262) (ne_461 : b_80 ≠ b_397) (ne_462 : b_157 ≠ b_397) (ne_463 : b_262 ≠ b_397) (ge_464 : n0 ≤ b_80) (ge_465 : n0 ≤ b_157) (ge_466 : n0 ≤ b_262) (ge_467 : n0 ≤ b_397) (sz_468 : h0.size ≤ b_80) (sz_469 : h0.size ≤ b_157) (sz_470 : h0.size ≤ b_262) (sz_471 : h0.size ≤ b_397) :
    Done p e below s (Qrm0 Z q1 q2 q3 q4 q5 p6 h0 n0) room_1.cells room_1.slots (T_443.setTop (mkF m 348 #[Lv q1, Zs, Lv q2, Zs, Lv q3, Zs, Lv q4, Zs, Lv q5, Zs, Iv p6, Lv a0, Zs, Lv a1, Zs, Lv a2, Zs, Lv a3, Zs, Lv a4, Zs, Lv a5, Zs, Lv a6, Zs, Lv a7, Zs, Lv b0, Zs, Lv b1, Zs, Lv b2, Zs, Lv b3, Zs, Lv b4, Zs, Lv b5, Zs, Lv b6, Zs, Lv b7, Zs, Iv md, Rv b_80, Rv b_157, Rv b_262, Us, Us, Us, Us, Us, Us, Us] [(.ref b_397)])) := by
  have sg_473 : ∀ tt_, Steps p.tables e below (T_443.setTop (mkF m 353 #[Lv q1, Zs, Lv q2, Zs, Lv q3, Zs, Lv q4, Zs, Lv q5, Zs, Iv p6, Lv a0, Zs, Lv a1, Zs, Lv a2, Zs, Lv a3, Zs, Lv a4, Zs, Lv a5, Zs, Lv a6, Zs, Lv a7, Zs, Lv b0, Zs, Lv b1, Zs, Lv b2, Zs, Lv b3, Zs, Lv b4, Zs, Lv b5, Zs, Lv b6, Zs, Lv b7, Zs, Iv md, Rv b_80, Rv b_157, Rv b_262, Us, Us, Us, Us, Us, Us, Us] [(.long (-a3)), (.int (3 : Int32)), (.ref b_397), (.ref b_397)])) tt_ → Steps p.tables e below (T_443.setTop (mkF m 348 #[Lv q1, Zs, Lv q2, Zs, Lv q3, Zs, Lv q4, Zs, Lv q5, Zs, Iv p6, Lv a0, Zs, Lv a1, Zs, Lv a2, Zs, Lv a3, Zs, Lv a4, Zs, Lv a5, Zs, Lv a6, Zs, Lv a7, Zs, Lv b0, Zs, Lv b1, Zs, Lv b2, Zs, Lv b3, Zs, Lv b4, Zs, Lv b5, Zs, Lv b6, Zs, Lv b7, Zs, Iv md, Rv b_80, Rv b_157, Rv b_262, Us, Us, Us, Us, Us, Us, Us] [(.ref b_397)])) tt_ := by
    intro tt_ kt_
    refine XS.dup X_446.here hEX rfl (hb hBY at_348) rfl rfl ?_
    show Steps p.tables e below (T_443.setTop (mkF m 349 #[Lv q1, Zs, Lv q2, Zs, Lv q3, Zs, Lv q4, Zs, Lv q5, Zs, Iv p6, Lv a0, Zs, Lv a1, Zs, Lv a2, Zs, Lv a3, Zs, Lv a4, Zs, Lv a5, Zs, Lv a6, Zs, Lv a7, Zs, Lv b0, Zs, Lv b1, Zs, Lv b2, Zs, Lv b3, Zs, Lv b4, Zs, Lv b5, Zs, Lv b6, Zs, Lv b7, Zs, Iv md, Rv b_80, Rv b_157, Rv b_262, Us, Us, Us, Us, Us, Us, Us] [(.ref b_397), (.ref b_397)])) tt_
    refine XS.iconst X_446.here hEX rfl (hb hBY at_349) ?_
    show Steps p.tables e below (T_443.setTop (mkF m 350 #[Lv q1, Zs, Lv q2, Zs, Lv q3, Zs, Lv q4, Zs, Lv q5, Zs, Iv p6, Lv a0, Zs, Lv a1, Zs, Lv a2, Zs, Lv a3, Zs, Lv a4, Zs, Lv a5, Zs, Lv a6, Zs, Lv a7, Zs, Lv b0, Zs, Lv b1, Zs, Lv b2, Zs, Lv b3, Zs, Lv b4, Zs, Lv b5, Zs, Lv b6, Zs, Lv b7, Zs, Iv md, Rv b_80, Rv b_157, Rv b_262, Us, Us, Us, Us, Us, Us, Us] [(.int (3 : Int32)), (.ref b_397), (.ref b_397)])) tt_
    refine XS.lload X_446.here hEX rfl (hb hBY at_350) rfl ?_
    show Steps p.tables e below (T_443.setTop (mkF m 352 #[Lv q1, Zs, Lv q2, Zs, Lv q3, Zs, Lv q4, Zs, Lv q5, Zs, Iv p6, Lv a0, Zs, Lv a1, Zs, Lv a2, Zs, Lv a3, Zs, Lv a4, Zs, Lv a5, Zs, Lv a6, Zs, Lv a7, Zs, Lv b0, Zs, Lv b1, Zs, Lv b2, Zs, Lv b3, Zs, Lv b4, Zs, Lv b5, Zs, Lv b6, Zs, Lv b7, Zs, Iv md, Rv b_80, Rv b_157, Rv b_262, Us, Us, Us, Us, Us, Us, Us] [(.long a3), (.int (3 : Int32)), (.ref b_397), (.ref b_397)])) tt_
    refine XS.lneg X_446.here hEX rfl (hb hBY at_352) rfl ?_
    exact kt_
  refine Done.pre sg_473 ?_
  obtain ⟨cl_472, Ar_472, q_472, S_472, N__472, H_472, G_472⟩ := id f_457
  have hin_472 : ¬ ((3 : Int32) < 0 ∨ cl_472.slots.size ≤ ((3 : Int32)).toNatClampNeg) := inb_of S_472 ⟨by decide, by decide⟩
  obtain ⟨T_474, h_474, X_474, e_474, W_474, st_474⟩ := stJ X_446 hEX hZW e_447 Ar_472 (j := (3 : Int32)) hin_472 (g := (mkF m 353 #[Lv q1, Zs, Lv q2, Zs, Lv q3, Zs, Lv q4, Zs, Lv q5, Zs, Iv p6, Lv a0, Zs, Lv a1, Zs, Lv a2, Zs, Lv a3, Zs, Lv a4, Zs, Lv a5, Zs, Lv a6, Zs, Lv a7, Zs, Lv b0, Zs, Lv b1, Zs, Lv b2, Zs, Lv b3, Zs, Lv b4, Zs, Lv b5, Zs, Lv b6, Zs, Lv b7, Zs, Iv md, Rv b_80, Rv b_157, Rv b_262, Us, Us, Us, Us, Us, Us, Us] [(.long (-a3)), (.int (3 : Int32)), (.ref b_397), (.ref b_397)])) rfl rfl (hb hBY at_353)
  have N_474 := Fr.snoc X_474 N_448 ge_467
  have K__475 : Keep h0 h_474 [] := K__449.wr W_474 (Or.inr sz_471)
  have f_476 : Exa Z h_474 b_80 "[J" := f_450.wr W_474
  have f_477 : Arv Z h_474 b_80 k_80 .long (8 : Int32) [(.long a0), (.long a1), (.long a2), (.long a3), (.long a4), (.long a5), (.long a6), (.long a7)] (.long (0 : Int64)) := f_451.other W_474 ne_461
  have f_478 : Exa Z h_474 b_157 "[J" := f_452.wr W_474
  have f_479 : Arv Z h_474 b_157 k_157 .long (8 : Int32) [(.long b0), (.long b1), (.long b2), (.long b3), (.long b4), (.long b5), (.long b6), (.long b7)] (.long (0 : Int64)) := f_453.other W_474 ne_462
  have f_480 : Exa Z h_474 b_262 "[J" := f_454.wr W_474
  have f_481 : Arv Z h_474 b_262 k_262 .long (8 : Int32) [(.long b0), (.long b1), (.long b2), (.long b3), (.long b4), (.long b5), (.long b6), (.long b7)] (.long (0 : Int64)) := f_455.other W_474 ne_463
  have f_482 : Exa Z h_474 b_397 "[J" := f_456.wr W_474
  have f_483 : Arv Z h_474 b_397 k_397 .long (8 : Int32) [(.long (-a0)), (.long (-a1)), (.long (-a2)), (.long (-a3)), (.long (0 : Int64)), (.long (0 : Int64)), (.long (0 : Int64)), (.long (0 : Int64))] (.long (0 : Int64)) := Arv.set Ar_472 q_472 S_472 N__472 H_472 G_472 rfl W_474 3 rfl (Nat.le_of_ble_eq_true rfl)
  refine Done.pre st_474 ?_
  show Done _ _ _ _ _ _ _ (T_474.setTop (mkF m 354 #[Lv q1, Zs, Lv q2, Zs, Lv q3, Zs, Lv q4, Zs, Lv q5, Zs, Iv p6, Lv a0, Zs, Lv a1, Zs, Lv a2, Zs, Lv a3, Zs, Lv a4, Zs, Lv a5, Zs, Lv a6, Zs, Lv a7, Zs, Lv b0, Zs, Lv b1, Zs, Lv b2, Zs, Lv b3, Zs, Lv b4, Zs, Lv b5, Zs, Lv b6, Zs, Lv b7, Zs, Iv md, Rv b_80, Rv b_157, Rv b_262, Us, Us, Us, Us, Us, Us, Us] [(.ref b_397)]))
  have sg_485 : ∀ tt_, Steps p.tables e below (T_474.setTop (mkF m 359 #[Lv q1, Zs, Lv q2, Zs, Lv q3, Zs, Lv q4, Zs, Lv q5, Zs, Iv p6, Lv a0, Zs, Lv a1, Zs, Lv a2, Zs, Lv a3, Zs, Lv a4, Zs, Lv a5, Zs, Lv a6, Zs, Lv a7, Zs, Lv b0, Zs, Lv b1, Zs, Lv b2, Zs, Lv b3, Zs, Lv b4, Zs, Lv b5, Zs, Lv b6, Zs, Lv b7, Zs, Iv md, Rv b_80, Rv b_157, Rv b_262, Us, Us, Us, Us, Us, Us, Us] [(.long (-a4)), (.int (4 : Int32)), (.ref b_397), (.ref b_397)])) tt_ → Steps p.tables e below (T_474.setTop (mkF m 354 #[Lv q1, Zs, Lv q2, Zs, Lv q3, Zs, Lv q4, Zs, Lv q5, Zs, Iv p6, Lv a0, Zs, Lv a1, Zs, Lv a2, Zs, Lv a3, Zs, Lv a4, Zs, Lv a5, Zs, Lv a6, Zs, Lv a7, Zs, Lv b0, Zs, Lv b1, Zs, Lv b2, Zs, Lv b3, Zs, Lv b4, Zs, Lv b5, Zs, Lv b6, Zs, Lv b7, Zs, Iv md, Rv b_80, Rv b_157, Rv b_262, Us, Us, Us, Us, Us, Us, Us] [(.ref b_397)])) tt_ := by
    intro tt_ kt_
    refine XS.dup X_474.here hEX rfl (hb hBY at_354) rfl rfl ?_
    show Steps p.tables e below (T_474.setTop (mkF m 355 #[Lv q1, Zs, Lv q2, Zs, Lv q3, Zs, Lv q4, Zs, Lv q5, Zs, Iv p6, Lv a0, Zs, Lv a1, Zs, Lv a2, Zs, Lv a3, Zs, Lv a4, Zs, Lv a5, Zs, Lv a6, Zs, Lv a7, Zs, Lv b0, Zs, Lv b1, Zs, Lv b2, Zs, Lv b3, Zs, Lv b4, Zs, Lv b5, Zs, Lv b6, Zs, Lv b7, Zs, Iv md, Rv b_80, Rv b_157, Rv b_262, Us, Us, Us, Us, Us, Us, Us] [(.ref b_397), (.ref b_397)])) tt_
    refine XS.iconst X_474.here hEX rfl (hb hBY at_355) ?_
    show Steps p.tables e below (T_474.setTop (mkF m 356 #[Lv q1, Zs, Lv q2, Zs, Lv q3, Zs, Lv q4, Zs, Lv q5, Zs, Iv p6, Lv a0, Zs, Lv a1, Zs, Lv a2, Zs, Lv a3, Zs, Lv a4, Zs, Lv a5, Zs, Lv a6, Zs, Lv a7, Zs, Lv b0, Zs, Lv b1, Zs, Lv b2, Zs, Lv b3, Zs, Lv b4, Zs, Lv b5, Zs, Lv b6, Zs, Lv b7, Zs, Iv md, Rv b_80, Rv b_157, Rv b_262, Us, Us, Us, Us, Us, Us, Us] [(.int (4 : Int32)), (.ref b_397), (.ref b_397)])) tt_
    refine XS.lload X_474.here hEX rfl (hb hBY at_356) rfl ?_
    show Steps p.tables e below (T_474.setTop (mkF m 358 #[Lv q1, Zs, Lv q2, Zs, Lv q3, Zs, Lv q4, Zs, Lv q5, Zs, Iv p6, Lv a0, Zs, Lv a1, Zs, Lv a2, Zs, Lv a3, Zs, Lv a4, Zs, Lv a5, Zs, Lv a6, Zs, Lv a7, Zs, Lv b0, Zs, Lv b1, Zs, Lv b2, Zs, Lv b3, Zs, Lv b4, Zs, Lv b5, Zs, Lv b6, Zs, Lv b7, Zs, Iv md, Rv b_80, Rv b_157, Rv b_262, Us, Us, Us, Us, Us, Us, Us] [(.long a4), (.int (4 : Int32)), (.ref b_397), (.ref b_397)])) tt_
    refine XS.lneg X_474.here hEX rfl (hb hBY at_358) rfl ?_
    exact kt_
  refine Done.pre sg_485 ?_
  obtain ⟨cl_484, Ar_484, q_484, S_484, N__484, H_484, G_484⟩ := id f_483
  have hin_484 : ¬ ((4 : Int32) < 0 ∨ cl_484.slots.size ≤ ((4 : Int32)).toNatClampNeg) := inb_of S_484 ⟨by decide, by decide⟩
  obtain ⟨T_486, h_486, X_486, e_486, W_486, st_486⟩ := stJ X_474 hEX hZW e_474 Ar_484 (j := (4 : Int32)) hin_484 (g := (mkF m 359 #[Lv q1, Zs, Lv q2, Zs, Lv q3, Zs, Lv q4, Zs, Lv q5, Zs, Iv p6, Lv a0, Zs, Lv a1, Zs, Lv a2, Zs, Lv a3, Zs, Lv a4, Zs, Lv a5, Zs, Lv a6, Zs, Lv a7, Zs, Lv b0, Zs, Lv b1, Zs, Lv b2, Zs, Lv b3, Zs, Lv b4, Zs, Lv b5, Zs, Lv b6, Zs, Lv b7, Zs, Iv md, Rv b_80, Rv b_157, Rv b_262, Us, Us, Us, Us, Us, Us, Us] [(.long (-a4)), (.int (4 : Int32)), (.ref b_397), (.ref b_397)])) rfl rfl (hb hBY at_359)
  have N_486 := Fr.snoc X_486 N_474 ge_467
  have K__487 : Keep h0 h_486 [] := K__475.wr W_486 (Or.inr sz_471)
  have f_488 : Exa Z h_486 b_80 "[J" := f_476.wr W_486
  have f_489 : Arv Z h_486 b_80 k_80 .long (8 : Int32) [(.long a0), (.long a1), (.long a2), (.long a3), (.long a4), (.long a5), (.long a6), (.long a7)] (.long (0 : Int64)) := f_477.other W_486 ne_461
  have f_490 : Exa Z h_486 b_157 "[J" := f_478.wr W_486
  have f_491 : Arv Z h_486 b_157 k_157 .long (8 : Int32) [(.long b0), (.long b1), (.long b2), (.long b3), (.long b4), (.long b5), (.long b6), (.long b7)] (.long (0 : Int64)) := f_479.other W_486 ne_462
  have f_492 : Exa Z h_486 b_262 "[J" := f_480.wr W_486
  have f_493 : Arv Z h_486 b_262 k_262 .long (8 : Int32) [(.long b0), (.long b1), (.long b2), (.long b3), (.long b4), (.long b5), (.long b6), (.long b7)] (.long (0 : Int64)) := f_481.other W_486 ne_463
  have f_494 : Exa Z h_486 b_397 "[J" := f_482.wr W_486
  have f_495 : Arv Z h_486 b_397 k_397 .long (8 : Int32) [(.long (-a0)), (.long (-a1)), (.long (-a2)), (.long (-a3)), (.long (-a4)), (.long (0 : Int64)), (.long (0 : Int64)), (.long (0 : Int64))] (.long (0 : Int64)) := Arv.set Ar_484 q_484 S_484 N__484 H_484 G_484 rfl W_486 4 rfl (Nat.le_of_ble_eq_true rfl)
  refine Done.pre st_486 ?_
  show Done _ _ _ _ _ _ _ (T_486.setTop (mkF m 360 #[Lv q1, Zs, Lv q2, Zs, Lv q3, Zs, Lv q4, Zs, Lv q5, Zs, Iv p6, Lv a0, Zs, Lv a1, Zs, Lv a2, Zs, Lv a3, Zs, Lv a4, Zs, Lv a5, Zs, Lv a6, Zs, Lv a7, Zs, Lv b0, Zs, Lv b1, Zs, Lv b2, Zs, Lv b3, Zs, Lv b4, Zs, Lv b5, Zs, Lv b6, Zs, Lv b7, Zs, Iv md, Rv b_80, Rv b_157, Rv b_262, Us, Us, Us, Us, Us, Us, Us] [(.ref b_397)]))
  have sg_497 : ∀ tt_, Steps p.tables e below (T_486.setTop (mkF m 365 #[Lv q1, Zs, Lv q2, Zs, Lv q3, Zs, Lv q4, Zs, Lv q5, Zs, Iv p6, Lv a0, Zs, Lv a1, Zs, Lv a2, Zs, Lv a3, Zs, Lv a4, Zs, Lv a5, Zs, Lv a6, Zs, Lv a7, Zs, Lv b0, Zs, Lv b1, Zs, Lv b2, Zs, Lv b3, Zs, Lv b4, Zs, Lv b5, Zs, Lv b6, Zs, Lv b7, Zs, Iv md, Rv b_80, Rv b_157, Rv b_262, Us, Us, Us, Us, Us, Us, Us] [(.long (-a5)), (.int (5 : Int32)), (.ref b_397), (.ref b_397)])) tt_ → Steps p.tables e below (T_486.setTop (mkF m 360 #[Lv q1, Zs, Lv q2, Zs, Lv q3, Zs, Lv q4, Zs, Lv q5, Zs, Iv p6, Lv a0, Zs, Lv a1, Zs, Lv a2, Zs, Lv a3, Zs, Lv a4, Zs, Lv a5, Zs, Lv a6, Zs, Lv a7, Zs, Lv b0, Zs, Lv b1, Zs, Lv b2, Zs, Lv b3, Zs, Lv b4, Zs, Lv b5, Zs, Lv b6, Zs, Lv b7, Zs, Iv md, Rv b_80, Rv b_157, Rv b_262, Us, Us, Us, Us, Us, Us, Us] [(.ref b_397)])) tt_ := by
    intro tt_ kt_
    refine XS.dup X_486.here hEX rfl (hb hBY at_360) rfl rfl ?_
    show Steps p.tables e below (T_486.setTop (mkF m 361 #[Lv q1, Zs, Lv q2, Zs, Lv q3, Zs, Lv q4, Zs, Lv q5, Zs, Iv p6, Lv a0, Zs, Lv a1, Zs, Lv a2, Zs, Lv a3, Zs, Lv a4, Zs, Lv a5, Zs, Lv a6, Zs, Lv a7, Zs, Lv b0, Zs, Lv b1, Zs, Lv b2, Zs, Lv b3, Zs, Lv b4, Zs, Lv b5, Zs, Lv b6, Zs, Lv b7, Zs, Iv md, Rv b_80, Rv b_157, Rv b_262, Us, Us, Us, Us, Us, Us, Us] [(.ref b_397), (.ref b_397)])) tt_
    refine XS.iconst X_486.here hEX rfl (hb hBY at_361) ?_
    show Steps p.tables e below (T_486.setTop (mkF m 362 #[Lv q1, Zs, Lv q2, Zs, Lv q3, Zs, Lv q4, Zs, Lv q5, Zs, Iv p6, Lv a0, Zs, Lv a1, Zs, Lv a2, Zs, Lv a3, Zs, Lv a4, Zs, Lv a5, Zs, Lv a6, Zs, Lv a7, Zs, Lv b0, Zs, Lv b1, Zs, Lv b2, Zs, Lv b3, Zs, Lv b4, Zs, Lv b5, Zs, Lv b6, Zs, Lv b7, Zs, Iv md, Rv b_80, Rv b_157, Rv b_262, Us, Us, Us, Us, Us, Us, Us] [(.int (5 : Int32)), (.ref b_397), (.ref b_397)])) tt_
    refine XS.lload X_486.here hEX rfl (hb hBY at_362) rfl ?_
    show Steps p.tables e below (T_486.setTop (mkF m 364 #[Lv q1, Zs, Lv q2, Zs, Lv q3, Zs, Lv q4, Zs, Lv q5, Zs, Iv p6, Lv a0, Zs, Lv a1, Zs, Lv a2, Zs, Lv a3, Zs, Lv a4, Zs, Lv a5, Zs, Lv a6, Zs, Lv a7, Zs, Lv b0, Zs, Lv b1, Zs, Lv b2, Zs, Lv b3, Zs, Lv b4, Zs, Lv b5, Zs, Lv b6, Zs, Lv b7, Zs, Iv md, Rv b_80, Rv b_157, Rv b_262, Us, Us, Us, Us, Us, Us, Us] [(.long a5), (.int (5 : Int32)), (.ref b_397), (.ref b_397)])) tt_
    refine XS.lneg X_486.here hEX rfl (hb hBY at_364) rfl ?_
    exact kt_
  refine Done.pre sg_497 ?_
  obtain ⟨cl_496, Ar_496, q_496, S_496, N__496, H_496, G_496⟩ := id f_495
  have hin_496 : ¬ ((5 : Int32) < 0 ∨ cl_496.slots.size ≤ ((5 : Int32)).toNatClampNeg) := inb_of S_496 ⟨by decide, by decide⟩
  obtain ⟨T_498, h_498, X_498, e_498, W_498, st_498⟩ := stJ X_486 hEX hZW e_486 Ar_496 (j := (5 : Int32)) hin_496 (g := (mkF m 365 #[Lv q1, Zs, Lv q2, Zs, Lv q3, Zs, Lv q4, Zs, Lv q5, Zs, Iv p6, Lv a0, Zs, Lv a1, Zs, Lv a2, Zs, Lv a3, Zs, Lv a4, Zs, Lv a5, Zs, Lv a6, Zs, Lv a7, Zs, Lv b0, Zs, Lv b1, Zs, Lv b2, Zs, Lv b3, Zs, Lv b4, Zs, Lv b5, Zs, Lv b6, Zs, Lv b7, Zs, Iv md, Rv b_80, Rv b_157, Rv b_262, Us, Us, Us, Us, Us, Us, Us] [(.long (-a5)), (.int (5 : Int32)), (.ref b_397), (.ref b_397)])) rfl rfl (hb hBY at_365)
  have N_498 := Fr.snoc X_498 N_486 ge_467
  have K__499 : Keep h0 h_498 [] := K__487.wr W_498 (Or.inr sz_471)
  have f_500 : Exa Z h_498 b_80 "[J" := f_488.wr W_498
  have f_501 : Arv Z h_498 b_80 k_80 .long (8 : Int32) [(.long a0), (.long a1), (.long a2), (.long a3), (.long a4), (.long a5), (.long a6), (.long a7)] (.long (0 : Int64)) := f_489.other W_498 ne_461
  have f_502 : Exa Z h_498 b_157 "[J" := f_490.wr W_498
  have f_503 : Arv Z h_498 b_157 k_157 .long (8 : Int32) [(.long b0), (.long b1), (.long b2), (.long b3), (.long b4), (.long b5), (.long b6), (.long b7)] (.long (0 : Int64)) := f_491.other W_498 ne_462
  have f_504 : Exa Z h_498 b_262 "[J" := f_492.wr W_498
  have f_505 : Arv Z h_498 b_262 k_262 .long (8 : Int32) [(.long b0), (.long b1), (.long b2), (.long b3), (.long b4), (.long b5), (.long b6), (.long b7)] (.long (0 : Int64)) := f_493.other W_498 ne_463
  have f_506 : Exa Z h_498 b_397 "[J" := f_494.wr W_498
  have f_507 : Arv Z h_498 b_397 k_397 .long (8 : Int32) [(.long (-a0)), (.long (-a1)), (.long (-a2)), (.long (-a3)), (.long (-a4)), (.long (-a5)), (.long (0 : Int64)), (.long (0 : Int64))] (.long (0 : Int64)) := Arv.set Ar_496 q_496 S_496 N__496 H_496 G_496 rfl W_498 5 rfl (Nat.le_of_ble_eq_true rfl)
  refine Done.pre st_498 ?_
  show Done _ _ _ _ _ _ _ (T_498.setTop (mkF m 366 #[Lv q1, Zs, Lv q2, Zs, Lv q3, Zs, Lv q4, Zs, Lv q5, Zs, Iv p6, Lv a0, Zs, Lv a1, Zs, Lv a2, Zs, Lv a3, Zs, Lv a4, Zs, Lv a5, Zs, Lv a6, Zs, Lv a7, Zs, Lv b0, Zs, Lv b1, Zs, Lv b2, Zs, Lv b3, Zs, Lv b4, Zs, Lv b5, Zs, Lv b6, Zs, Lv b7, Zs, Iv md, Rv b_80, Rv b_157, Rv b_262, Us, Us, Us, Us, Us, Us, Us] [(.ref b_397)]))
  have sg_509 : ∀ tt_, Steps p.tables e below (T_498.setTop (mkF m 372 #[Lv q1, Zs, Lv q2, Zs, Lv q3, Zs, Lv q4, Zs, Lv q5, Zs, Iv p6, Lv a0, Zs, Lv a1, Zs, Lv a2, Zs, Lv a3, Zs, Lv a4, Zs, Lv a5, Zs, Lv a6, Zs, Lv a7, Zs, Lv b0, Zs, Lv b1, Zs, Lv b2, Zs, Lv b3, Zs, Lv b4, Zs, Lv b5, Zs, Lv b6, Zs, Lv b7, Zs, Iv md, Rv b_80, Rv b_157, Rv b_262, Us, Us, Us, Us, Us, Us, Us] [(.long (-a6)), (.int (6 : Int32)), (.ref b_397), (.ref b_397)])) tt_ → Steps p.tables e below (T_498.setTop (mkF m 366 #[Lv q1, Zs, Lv q2, Zs, Lv q3, Zs, Lv q4, Zs, Lv q5, Zs, Iv p6, Lv a0, Zs, Lv a1, Zs, Lv a2, Zs, Lv a3, Zs, Lv a4, Zs, Lv a5, Zs, Lv a6, Zs, Lv a7, Zs, Lv b0, Zs, Lv b1, Zs, Lv b2, Zs, Lv b3, Zs, Lv b4, Zs, Lv b5, Zs, Lv b6, Zs, Lv b7, Zs, Iv md, Rv b_80, Rv b_157, Rv b_262, Us, Us, Us, Us, Us, Us, Us] [(.ref b_397)])) tt_ := by
    intro tt_ kt_
    refine XS.dup X_498.here hEX rfl (hb hBY at_366) rfl rfl ?_
    show Steps p.tables e below (T_498.setTop (mkF m 367 #[Lv q1, Zs, Lv q2, Zs, Lv q3, Zs, Lv q4, Zs, Lv q5, Zs, Iv p6, Lv a0, Zs, Lv a1, Zs, Lv a2, Zs, Lv a3, Zs, Lv a4, Zs, Lv a5, Zs, Lv a6, Zs, Lv a7, Zs, Lv b0, Zs, Lv b1, Zs, Lv b2, Zs, Lv b3, Zs, Lv b4, Zs, Lv b5, Zs, Lv b6, Zs, Lv b7, Zs, Iv md, Rv b_80, Rv b_157, Rv b_262, Us, Us, Us, Us, Us, Us, Us] [(.ref b_397), (.ref b_397)])) tt_
    refine XS.bipush X_498.here hEX rfl (hb hBY at_367) ?_
    show Steps p.tables e below (T_498.setTop (mkF m 369 #[Lv q1, Zs, Lv q2, Zs, Lv q3, Zs, Lv q4, Zs, Lv q5, Zs, Iv p6, Lv a0, Zs, Lv a1, Zs, Lv a2, Zs, Lv a3, Zs, Lv a4, Zs, Lv a5, Zs, Lv a6, Zs, Lv a7, Zs, Lv b0, Zs, Lv b1, Zs, Lv b2, Zs, Lv b3, Zs, Lv b4, Zs, Lv b5, Zs, Lv b6, Zs, Lv b7, Zs, Iv md, Rv b_80, Rv b_157, Rv b_262, Us, Us, Us, Us, Us, Us, Us] [(.int (6 : Int32)), (.ref b_397), (.ref b_397)])) tt_
    refine XS.lload X_498.here hEX rfl (hb hBY at_369) rfl ?_
    show Steps p.tables e below (T_498.setTop (mkF m 371 #[Lv q1, Zs, Lv q2, Zs, Lv q3, Zs, Lv q4, Zs, Lv q5, Zs, Iv p6, Lv a0, Zs, Lv a1, Zs, Lv a2, Zs, Lv a3, Zs, Lv a4, Zs, Lv a5, Zs, Lv a6, Zs, Lv a7, Zs, Lv b0, Zs, Lv b1, Zs, Lv b2, Zs, Lv b3, Zs, Lv b4, Zs, Lv b5, Zs, Lv b6, Zs, Lv b7, Zs, Iv md, Rv b_80, Rv b_157, Rv b_262, Us, Us, Us, Us, Us, Us, Us] [(.long a6), (.int (6 : Int32)), (.ref b_397), (.ref b_397)])) tt_
    refine XS.lneg X_498.here hEX rfl (hb hBY at_371) rfl ?_
    exact kt_
  refine Done.pre sg_509 ?_
  obtain ⟨cl_508, Ar_508, q_508, S_508, N__508, H_508, G_508⟩ := id f_507
  have hin_508 : ¬ ((6 : Int32) < 0 ∨ cl_508.slots.size ≤ ((6 : Int32)).toNatClampNeg) := inb_of S_508 ⟨by decide, by decide⟩
  obtain ⟨T_510, h_510, X_510, e_510, W_510, st_510⟩ := stJ X_498 hEX hZW e_498 Ar_508 (j := (6 : Int32)) hin_508 (g := (mkF m 372 #[Lv q1, Zs, Lv q2, Zs, Lv q3, Zs, Lv q4, Zs, Lv q5, Zs, Iv p6, Lv a0, Zs, Lv a1, Zs, Lv a2, Zs, Lv a3, Zs, Lv a4, Zs, Lv a5, Zs, Lv a6, Zs, Lv a7, Zs, Lv b0, Zs, Lv b1, Zs, Lv b2, Zs, Lv b3, Zs, Lv b4, Zs, Lv b5, Zs, Lv b6, Zs, Lv b7, Zs, Iv md, Rv b_80, Rv b_157, Rv b_262, Us, Us, Us, Us, Us, Us, Us] [(.long (-a6)), (.int (6 : Int32)), (.ref b_397), (.ref b_397)])) rfl rfl (hb hBY at_372)
  have N_510 := Fr.snoc X_510 N_498 ge_467
  have K__511 : Keep h0 h_510 [] := K__499.wr W_510 (Or.inr sz_471)
  have f_512 : Exa Z h_510 b_80 "[J" := f_500.wr W_510
  have f_513 : Arv Z h_510 b_80 k_80 .long (8 : Int32) [(.long a0), (.long a1), (.long a2), (.long a3), (.long a4), (.long a5), (.long a6), (.long a7)] (.long (0 : Int64)) := f_501.other W_510 ne_461
  have f_514 : Exa Z h_510 b_157 "[J" := f_502.wr W_510
  have f_515 : Arv Z h_510 b_157 k_157 .long (8 : Int32) [(.long b0), (.long b1), (.long b2), (.long b3), (.long b4), (.long b5), (.long b6), (.long b7)] (.long (0 : Int64)) := f_503.other W_510 ne_462
  have f_516 : Exa Z h_510 b_262 "[J" := f_504.wr W_510
  have f_517 : Arv Z h_510 b_262 k_262 .long (8 : Int32) [(.long b0), (.long b1), (.long b2), (.long b3), (.long b4), (.long b5), (.long b6), (.long b7)] (.long (0 : Int64)) := f_505.other W_510 ne_463
  have f_518 : Exa Z h_510 b_397 "[J" := f_506.wr W_510
  have f_519 : Arv Z h_510 b_397 k_397 .long (8 : Int32) [(.long (-a0)), (.long (-a1)), (.long (-a2)), (.long (-a3)), (.long (-a4)), (.long (-a5)), (.long (-a6)), (.long (0 : Int64))] (.long (0 : Int64)) := Arv.set Ar_508 q_508 S_508 N__508 H_508 G_508 rfl W_510 6 rfl (Nat.le_of_ble_eq_true rfl)
  refine Done.pre st_510 ?_
  show Done _ _ _ _ _ _ _ (T_510.setTop (mkF m 373 #[Lv q1, Zs, Lv q2, Zs, Lv q3, Zs, Lv q4, Zs, Lv q5, Zs, Iv p6, Lv a0, Zs, Lv a1, Zs, Lv a2, Zs, Lv a3, Zs, Lv a4, Zs, Lv a5, Zs, Lv a6, Zs, Lv a7, Zs, Lv b0, Zs, Lv b1, Zs, Lv b2, Zs, Lv b3, Zs, Lv b4, Zs, Lv b5, Zs, Lv b6, Zs, Lv b7, Zs, Iv md, Rv b_80, Rv b_157, Rv b_262, Us, Us, Us, Us, Us, Us, Us] [(.ref b_397)]))
  have sg_521 : ∀ tt_, Steps p.tables e below (T_510.setTop (mkF m 379 #[Lv q1, Zs, Lv q2, Zs, Lv q3, Zs, Lv q4, Zs, Lv q5, Zs, Iv p6, Lv a0, Zs, Lv a1, Zs, Lv a2, Zs, Lv a3, Zs, Lv a4, Zs, Lv a5, Zs, Lv a6, Zs, Lv a7, Zs, Lv b0, Zs, Lv b1, Zs, Lv b2, Zs, Lv b3, Zs, Lv b4, Zs, Lv b5, Zs, Lv b6, Zs, Lv b7, Zs, Iv md, Rv b_80, Rv b_157, Rv b_262, Us, Us, Us, Us, Us, Us, Us] [(.long (-a7)), (.int (7 : Int32)), (.ref b_397), (.ref b_397)])) tt_ → Steps p.tables e below (T_510.setTop (mkF m 373 #[Lv q1, Zs, Lv q2, Zs, Lv q3, Zs, Lv q4, Zs, Lv q5, Zs, Iv p6, Lv a0, Zs, Lv a1, Zs, Lv a2, Zs, Lv a3, Zs, Lv a4, Zs, Lv a5, Zs, Lv a6, Zs, Lv a7, Zs, Lv b0, Zs, Lv b1, Zs, Lv b2, Zs, Lv b3, Zs, Lv b4, Zs, Lv b5, Zs, Lv b6, Zs, Lv b7, Zs, Iv md, Rv b_80, Rv b_157, Rv b_262, Us, Us, Us, Us, Us, Us, Us] [(.ref b_397)])) tt_ := by
    intro tt_ kt_
    refine XS.dup X_510.here hEX rfl (hb hBY at_373) rfl rfl ?_
    show Steps p.tables e below (T_510.setTop (mkF m 374 #[Lv q1, Zs, Lv q2, Zs, Lv q3, Zs, Lv q4, Zs, Lv q5, Zs, Iv p6, Lv a0, Zs, Lv a1, Zs, Lv a2, Zs, Lv a3, Zs, Lv a4, Zs, Lv a5, Zs, Lv a6, Zs, Lv a7, Zs, Lv b0, Zs, Lv b1, Zs, Lv b2, Zs, Lv b3, Zs, Lv b4, Zs, Lv b5, Zs, Lv b6, Zs, Lv b7, Zs, Iv md, Rv b_80, Rv b_157, Rv b_262, Us, Us, Us, Us, Us, Us, Us] [(.ref b_397), (.ref b_397)])) tt_
    refine XS.bipush X_510.here hEX rfl (hb hBY at_374) ?_
    show Steps p.tables e below (T_510.setTop (mkF m 376 #[Lv q1, Zs, Lv q2, Zs, Lv q3, Zs, Lv q4, Zs, Lv q5, Zs, Iv p6, Lv a0, Zs, Lv a1, Zs, Lv a2, Zs, Lv a3, Zs, Lv a4, Zs, Lv a5, Zs, Lv a6, Zs, Lv a7, Zs, Lv b0, Zs, Lv b1, Zs, Lv b2, Zs, Lv b3, Zs, Lv b4, Zs, Lv b5, Zs, Lv b6, Zs, Lv b7, Zs, Iv md, Rv b_80, Rv b_157, Rv b_262, Us, Us, Us, Us, Us, Us, Us] [(.int (7 : Int32)), (.ref b_397), (.ref b_397)])) tt_
    refine XS.lload X_510.here hEX rfl (hb hBY at_376) rfl ?_
    show Steps p.tables e below (T_510.setTop (mkF m 378 #[Lv q1, Zs, Lv q2, Zs, Lv q3, Zs, Lv q4, Zs, Lv q5, Zs, Iv p6, Lv a0, Zs, Lv a1, Zs, Lv a2, Zs, Lv a3, Zs, Lv a4, Zs, Lv a5, Zs, Lv a6, Zs, Lv a7, Zs, Lv b0, Zs, Lv b1, Zs, Lv b2, Zs, Lv b3, Zs, Lv b4, Zs, Lv b5, Zs, Lv b6, Zs, Lv b7, Zs, Iv md, Rv b_80, Rv b_157, Rv b_262, Us, Us, Us, Us, Us, Us, Us] [(.long a7), (.int (7 : Int32)), (.ref b_397), (.ref b_397)])) tt_
    refine XS.lneg X_510.here hEX rfl (hb hBY at_378) rfl ?_
    exact kt_
  refine Done.pre sg_521 ?_
  obtain ⟨cl_520, Ar_520, q_520, S_520, N__520, H_520, G_520⟩ := id f_519
  have hin_520 : ¬ ((7 : Int32) < 0 ∨ cl_520.slots.size ≤ ((7 : Int32)).toNatClampNeg) := inb_of S_520 ⟨by decide, by decide⟩
  obtain ⟨T_522, h_522, X_522, e_522, W_522, st_522⟩ := stJ X_510 hEX hZW e_510 Ar_520 (j := (7 : Int32)) hin_520 (g := (mkF m 379 #[Lv q1, Zs, Lv q2, Zs, Lv q3, Zs, Lv q4, Zs, Lv q5, Zs, Iv p6, Lv a0, Zs, Lv a1, Zs, Lv a2, Zs, Lv a3, Zs, Lv a4, Zs, Lv a5, Zs, Lv a6, Zs, Lv a7, Zs, Lv b0, Zs, Lv b1, Zs, Lv b2, Zs, Lv b3, Zs, Lv b4, Zs, Lv b5, Zs, Lv b6, Zs, Lv b7, Zs, Iv md, Rv b_80, Rv b_157, Rv b_262, Us, Us, Us, Us, Us, Us, Us] [(.long (-a7)), (.int (7 : Int32)), (.ref b_397), (.ref b_397)])) rfl rfl (hb hBY at_379)
  have N_522 := Fr.snoc X_522 N_510 ge_467
  have K__523 : Keep h0 h_522 [] := K__511.wr W_522 (Or.inr sz_471)
  have f_524 : Exa Z h_522 b_80 "[J" := f_512.wr W_522
  have f_525 : Arv Z h_522 b_80 k_80 .long (8 : Int32) [(.long a0), (.long a1), (.long a2), (.long a3), (.long a4), (.long a5), (.long a6), (.long a7)] (.long (0 : Int64)) := f_513.other W_522 ne_461
  have f_526 : Exa Z h_522 b_157 "[J" := f_514.wr W_522
  have f_527 : Arv Z h_522 b_157 k_157 .long (8 : Int32) [(.long b0), (.long b1), (.long b2), (.long b3), (.long b4), (.long b5), (.long b6), (.long b7)] (.long (0 : Int64)) := f_515.other W_522 ne_462
  have f_528 : Exa Z h_522 b_262 "[J" := f_516.wr W_522
  have f_529 : Arv Z h_522 b_262 k_262 .long (8 : Int32) [(.long b0), (.long b1), (.long b2), (.long b3), (.long b4), (.long b5), (.long b6), (.long b7)] (.long (0 : Int64)) := f_517.other W_522 ne_463
  have f_530 : Exa Z h_522 b_397 "[J" := f_518.wr W_522
  have f_531 : Arv Z h_522 b_397 k_397 .long (8 : Int32) [(.long (-a0)), (.long (-a1)), (.long (-a2)), (.long (-a3)), (.long (-a4)), (.long (-a5)), (.long (-a6)), (.long (-a7))] (.long (0 : Int64)) := Arv.set Ar_520 q_520 S_520 N__520 H_520 G_520 rfl W_522 7 rfl (Nat.le_of_ble_eq_true rfl)
  refine Done.pre st_522 ?_
  show Done _ _ _ _ _ _ _ (T_522.setTop (mkF m 380 #[Lv q1, Zs, Lv q2, Zs, Lv q3, Zs, Lv q4, Zs, Lv q5, Zs, Iv p6, Lv a0, Zs, Lv a1, Zs, Lv a2, Zs, Lv a3, Zs, Lv a4, Zs, Lv a5, Zs, Lv a6, Zs, Lv a7, Zs, Lv b0, Zs, Lv b1, Zs, Lv b2, Zs, Lv b3, Zs, Lv b4, Zs, Lv b5, Zs, Lv b6, Zs, Lv b7, Zs, Iv md, Rv b_80, Rv b_157, Rv b_262, Us, Us, Us, Us, Us, Us, Us] [(.ref b_397)]))
  have hNa : own_R 1125899906842624 (-a0) (-a1) (-a2) (-a3) (-a4) (-a5) (-a6) (-a7) ∧ own_W (-a0) (-a1) (-a2) (-a3) (-a4) (-a5) (-a6) (-a7) = -own_W a0 a1 a2 a3 a4 a5 a6 a7 := own_negR a0 a1 a2 a3 a4 a5 a6 a7 hRa
  have sg_532 : ∀ tt_, Steps p.tables e below (T_522.setTop (mkF m 382 #[Lv q1, Zs, Lv q2, Zs, Lv q3, Zs, Lv q4, Zs, Lv q5, Zs, Iv p6, Lv a0, Zs, Lv a1, Zs, Lv a2, Zs, Lv a3, Zs, Lv a4, Zs, Lv a5, Zs, Lv a6, Zs, Lv a7, Zs, Lv b0, Zs, Lv b1, Zs, Lv b2, Zs, Lv b3, Zs, Lv b4, Zs, Lv b5, Zs, Lv b6, Zs, Lv b7, Zs, Iv md, Rv b_80, Rv b_157, Rv b_262, Rv b_397, Us, Us, Us, Us, Us, Us] [])) tt_ → Steps p.tables e below (T_522.setTop (mkF m 380 #[Lv q1, Zs, Lv q2, Zs, Lv q3, Zs, Lv q4, Zs, Lv q5, Zs, Iv p6, Lv a0, Zs, Lv a1, Zs, Lv a2, Zs, Lv a3, Zs, Lv a4, Zs, Lv a5, Zs, Lv a6, Zs, Lv a7, Zs, Lv b0, Zs, Lv b1, Zs, Lv b2, Zs, Lv b3, Zs, Lv b4, Zs, Lv b5, Zs, Lv b6, Zs, Lv b7, Zs, Iv md, Rv b_80, Rv b_157, Rv b_262, Us, Us, Us, Us, Us, Us, Us] [(.ref b_397)])) tt_ := by
    intro tt_ kt_
    refine XS.astore X_522.here hEX rfl (hb hBY at_380) rfl rfl (l' := #[Lv q1, Zs, Lv q2, Zs, Lv q3, Zs, Lv q4, Zs, Lv q5, Zs, Iv p6, Lv a0, Zs, Lv a1, Zs, Lv a2, Zs, Lv a3, Zs, Lv a4, Zs, Lv a5, Zs, Lv a6, Zs, Lv a7, Zs, Lv b0, Zs, Lv b1, Zs, Lv b2, Zs, Lv b3, Zs, Lv b4, Zs, Lv b5, Zs, Lv b6, Zs, Lv b7, Zs, Iv md, Rv b_80, Rv b_157, Rv b_262, Rv b_397, Us, Us, Us, Us, Us, Us]) rfl ?_
    exact kt_
  refine Done.pre sg_532 ?_
  show Done _ _ _ _ _ _ _ (T_522.setTop (mkF m 382 #[Lv q1, Zs, Lv q2, Zs, Lv q3, Zs, Lv q4, Zs, Lv q5, Zs, Iv p6, Lv a0, Zs, Lv a1, Zs, Lv a2, Zs, Lv a3, Zs, Lv a4, Zs, Lv a5, Zs, Lv a6, Zs, Lv a7, Zs, Lv b0, Zs, Lv b1, Zs, Lv b2, Zs, Lv b3, Zs, Lv b4, Zs, Lv b5, Zs, Lv b6, Zs, Lv b7, Zs, Iv md, Rv b_80, Rv b_157, Rv b_262, Rv b_397, Us, Us, Us, Us, Us, Us] []))
  exact rm0_j382 l Z aZ hw ws q1 q2 q3 q4 q5 p6 h0 n0 Z0 p e s m below meth cO hEX hBY hMX hOW hNM hLK hRT hZW a0 a1 a2 a3 a4 a5 a6 a7 md b0 b1 b2 b3 b4 b5 b6 b7 b_80 k_80 b_157 k_157 b_262 k_262 b_397 k_397 T_522 h_522 _ X_522 e_522 N_522 K__523 f_524 f_525 f_526 f_527 f_528 f_529 f_530 f_531 hRa hm4 hRb hEq hNa ne_458 ne_459 ne_460 ne_461 ne_462 ne_463 ge_464 ge_465 ge_466 ge_467 sz_468 sz_469 sz_470 sz_471
set_option maxRecDepth 65536 in
set_option maxHeartbeats 40000000 in
theorem rm0_j326 (l : Launch) (Z : State) (aZ : Array Value) (hw : ∀ d ∈ tables_1, d.before aZ Z = true) (ws : List Jvm.Cond) (q1 : Int64) (q2 : Int64) (q3 : Int64) (q4 : Int64) (q5 : Int64) (p6 : Int32) (h0 : Heap) (n0 : Nat) (Z0 : n0 ≤ h0.size)
    (p : Program) (e : Env) (s : State) (m : MethodId) (below : List Frame) (meth : Method) (cO : Code) (hEX : p.tables.exec = Jvm.exec) (hBY : cO.code = code) (hMX : cO.maxLocals = 54) (hOW : s.vm.findClass "com/example/guard3/guard3/P384FieldSubtractPinLaw" = some m.cls) (hNM : meth.name = x.name) (hLK : meth.locks = false) (hRT : meth.sig.returnType = ret) (hZW : Z.Warmed39 s.vm)
    (a0 : Int64) (a1 : Int64) (a2 : Int64) (a3 : Int64) (a4 : Int64) (a5 : Int64) (a6 : Int64) (a7 : Int64) (md : Int32) (b0 : Int64) (b1 : Int64) (b2 : Int64) (b3 : Int64) (b4 : Int64) (b5 : Int64) (b6 : Int64) (b7 : Int64) (b_80 : Addr) (k_80 : ClassId) (b_157 : Addr) (k_157 : ClassId) (b_262 : Addr) (k_262 : ClassId) (T_374 : State) (h_375 : Heap) (L_376 : List Loc) (X_377 : Stand p l e room_1 s m #[(.long q1), (.long q2), (.long q3), (.long q4), (.long q5), (.int p6)] below meth cO T_374 L_376 3 24) (e_378 : T_374.heap = h_375) (N_379 : Fr n0 L_376) (K__380 : Keep h0 h_375 []) (f_381 : Exa Z h_375 b_80 "[J") (f_382 : Arv Z h_375 b_80 k_80 .long (8 : Int32) [(.long a0), (.long a1), (.long a2), (.long a3), (.long a4), (.long a5), (.long a6), (.long a7)] (.long (0 : Int64))) (f_383 : Exa Z h_375 b_157 "[J") (f_384 : Arv Z h_375 b_157 k_157 .long (8 : Int32) [(.long b0), (.long b1), (.long b2), (.long b3), (.long b4), (.long b5), (.long b6), (.long b7)] (.long (0 : Int64))) (f_385 : Exa Z h_375 b_262 "[J") (f_386 : Arv Z h_375 b_262 k_262 .long (8 : Int32) [(.long b0), (.long b1), (.long b2), (.long b3), (.long b4), (.long b5), (.long b6), (.long b7)] (.long (0 : Int64))) (hRa : own_R 1125899906842624 a0 a1 a2 a3 a4 a5 a6 a7) (hm4 : md = (0 : Int32) ∨ md = (1 : Int32) ∨ md = (2 : Int32) ∨ md = (3 : Int32)) (hRb : own_R 1125899906842624 b0 b1 b2 b3 b4 b5 b6 b7) (hEq : md = (3 : Int32) → a0 = b0 ∧ a1 = b1 ∧ a2 = b2 ∧ a3 = b3 ∧ a4 = b4 ∧ a5 = b5 ∧ a6 = b6 ∧ a7 = b7) (ne_387 : b_80 ≠ b_157) (ne_388 : b_80 ≠ b_262) (ne_389 : b_157 ≠ b_262) (ge_390 : n0 ≤ b_80) (ge_391 : n0 ≤ b_157) (ge_392 : n0 ≤ b_262) (sz_393 : h0.size ≤ b_80) (sz_394 : h0.size ≤ b_157) (sz_395 : h0.size ≤ b_262) :
    Done p e below s (Qrm0 Z q1 q2 q3 q4 q5 p6 h0 n0) room_1.cells room_1.slots (T_374.setTop (mkF m 326 #[Lv q1, Zs, Lv q2, Zs, Lv q3, Zs, Lv q4, Zs, Lv q5, Zs, Iv p6, Lv a0, Zs, Lv a1, Zs, Lv a2, Zs, Lv a3, Zs, Lv a4, Zs, Lv a5, Zs, Lv a6, Zs, Lv a7, Zs, Lv b0, Zs, Lv b1, Zs, Lv b2, Zs, Lv b3, Zs, Lv b4, Zs, Lv b5, Zs, Lv b6, Zs, Lv b7, Zs, Iv md, Rv b_80, Rv b_157, Rv b_262, Us, Us, Us, Us, Us, Us, Us] [])) := by
  have sg_396 : ∀ tt_, Steps p.tables e below (T_374.setTop (mkF m 328 #[Lv q1, Zs, Lv q2, Zs, Lv q3, Zs, Lv q4, Zs, Lv q5, Zs, Iv p6, Lv a0, Zs, Lv a1, Zs, Lv a2, Zs, Lv a3, Zs, Lv a4, Zs, Lv a5, Zs, Lv a6, Zs, Lv a7, Zs, Lv b0, Zs, Lv b1, Zs, Lv b2, Zs, Lv b3, Zs, Lv b4, Zs, Lv b5, Zs, Lv b6, Zs, Lv b7, Zs, Iv md, Rv b_80, Rv b_157, Rv b_262, Us, Us, Us, Us, Us, Us, Us] [(.int (8 : Int32))])) tt_ → Steps p.tables e below (T_374.setTop (mkF m 326 #[Lv q1, Zs, Lv q2, Zs, Lv q3, Zs, Lv q4, Zs, Lv q5, Zs, Iv p6, Lv a0, Zs, Lv a1, Zs, Lv a2, Zs, Lv a3, Zs, Lv a4, Zs, Lv a5, Zs, Lv a6, Zs, Lv a7, Zs, Lv b0, Zs, Lv b1, Zs, Lv b2, Zs, Lv b3, Zs, Lv b4, Zs, Lv b5, Zs, Lv b6, Zs, Lv b7, Zs, Iv md, Rv b_80, Rv b_157, Rv b_262, Us, Us, Us, Us, Us, Us, Us] [])) tt_ := by
    intro tt_ kt_
    refine XS.bipush X_377.here hEX rfl (hb hBY at_326) ?_
    exact kt_
  refine Done.pre sg_396 ?_
  obtain ⟨T_397, h_397, k_397, X_397, e_397, E_397, A_397, B_397, st_397⟩ := newPE X_377 hEX hZW (hw _ (List.mem_of_getElem? (i := 9) rfl)) e_378 (g := (mkF m 328 #[Lv q1, Zs, Lv q2, Zs, Lv q3, Zs, Lv q4, Zs, Lv q5, Zs, Iv p6, Lv a0, Zs, Lv a1, Zs, Lv a2, Zs, Lv a3, Zs, Lv a4, Zs, Lv a5, Zs, Lv a6, Zs, Lv a7, Zs, Lv b0, Zs, Lv b1, Zs, Lv b2, Zs, Lv b3, Zs, Lv b4, Zs, Lv b5, Zs, Lv b6, Zs, Lv b7, Zs, Iv md, Rv b_80, Rv b_157, Rv b_262, Us, Us, Us, Us, Us, Us, Us] [(.int (8 : Int32))])) rfl (hb hBY at_328) rfl (by decide) (cap := 8) (by decide) (by decide) (by decide) (by decide) (ad := "[J") (by decide)
  obtain ⟨b_397, g_397⟩ : ∃ z, z = h_375.size := ⟨_, rfl⟩
  rw [← g_397] at A_397 B_397 st_397
  have sz_b_397 : h0.size ≤ b_397 := Nat.le_trans K__380.1 (Nat.le_of_eq g_397.symm)
  have ge_b_397 : n0 ≤ b_397 := Nat.le_trans Z0 sz_b_397
  have ne_b_80_b_397 : b_80 ≠ b_397 := Nat.ne_of_lt (Nat.lt_of_lt_of_le f_381.lt (Nat.le_of_eq g_397.symm))
  have ne_b_157_b_397 : b_157 ≠ b_397 := Nat.ne_of_lt (Nat.lt_of_lt_of_le f_383.lt (Nat.le_of_eq g_397.symm))
  have ne_b_262_b_397 : b_262 ≠ b_397 := Nat.ne_of_lt (Nat.lt_of_lt_of_le f_385.lt (Nat.le_of_eq g_397.symm))
  have K__398 : Keep h0 h_397 [] := K__380.ext E_397
  have f_399 : Exa Z h_397 b_80 "[J" := f_381.ext E_397
  have f_400 : Arv Z h_397 b_80 k_80 .long (8 : Int32) [(.long a0), (.long a1), (.long a2), (.long a3), (.long a4), (.long a5), (.long a6), (.long a7)] (.long (0 : Int64)) := f_382.ext E_397
  have f_401 : Exa Z h_397 b_157 "[J" := f_383.ext E_397
  have f_402 : Arv Z h_397 b_157 k_157 .long (8 : Int32) [(.long b0), (.long b1), (.long b2), (.long b3), (.long b4), (.long b5), (.long b6), (.long b7)] (.long (0 : Int64)) := f_384.ext E_397
  have f_403 : Exa Z h_397 b_262 "[J" := f_385.ext E_397
  have f_404 : Arv Z h_397 b_262 k_262 .long (8 : Int32) [(.long b0), (.long b1), (.long b2), (.long b3), (.long b4), (.long b5), (.long b6), (.long b7)] (.long (0 : Int64)) := f_386.ext E_397
  have f_405 : Arv Z h_397 b_397 k_397 .long (8 : Int32) [(.long (0 : Int64)), (.long (0 : Int64)), (.long (0 : Int64)), (.long (0 : Int64)), (.long (0 : Int64)), (.long (0 : Int64)), (.long (0 : Int64)), (.long (0 : Int64))] (.long (0 : Int64)) := (Arv.new A_397 (by decide)).pad (pad_rep [] (.long (0 : Int64)) 8)
  refine Done.pre st_397 ?_
  show Done _ _ _ _ _ _ _ (T_397.setTop (mkF m 330 #[Lv q1, Zs, Lv q2, Zs, Lv q3, Zs, Lv q4, Zs, Lv q5, Zs, Iv p6, Lv a0, Zs, Lv a1, Zs, Lv a2, Zs, Lv a3, Zs, Lv a4, Zs, Lv a5, Zs, Lv a6, Zs, Lv a7, Zs, Lv b0, Zs, Lv b1, Zs, Lv b2, Zs, Lv b3, Zs, Lv b4, Zs, Lv b5, Zs, Lv b6, Zs, Lv b7, Zs, Iv md, Rv b_80, Rv b_157, Rv b_262, Us, Us, Us, Us, Us, Us, Us] [(.ref b_397)]))
  have sg_407 : ∀ tt_, Steps p.tables e below (T_397.setTop (mkF m 335 #[Lv q1, Zs, Lv q2, Zs, Lv q3, Zs, Lv q4, Zs, Lv q5, Zs, Iv p6, Lv a0, Zs, Lv a1, Zs, Lv a2, Zs, Lv a3, Zs, Lv a4, Zs, Lv a5, Zs, Lv a6, Zs, Lv a7, Zs, Lv b0, Zs, Lv b1, Zs, Lv b2, Zs, Lv b3, Zs, Lv b4, Zs, Lv b5, Zs, Lv b6, Zs, Lv b7, Zs, Iv md, Rv b_80, Rv b_157, Rv b_262, Us, Us, Us, Us, Us, Us, Us] [(.long (-a0)), (.int (0 : Int32)), (.ref b_397), (.ref b_397)])) tt_ → Steps p.tables e below (T_397.setTop (mkF m 330 #[Lv q1, Zs, Lv q2, Zs, Lv q3, Zs, Lv q4, Zs, Lv q5, Zs, Iv p6, Lv a0, Zs, Lv a1, Zs, Lv a2, Zs, Lv a3, Zs, Lv a4, Zs, Lv a5, Zs, Lv a6, Zs, Lv a7, Zs, Lv b0, Zs, Lv b1, Zs, Lv b2, Zs, Lv b3, Zs, Lv b4, Zs, Lv b5, Zs, Lv b6, Zs, Lv b7, Zs, Iv md, Rv b_80, Rv b_157, Rv b_262, Us, Us, Us, Us, Us, Us, Us] [(.ref b_397)])) tt_ := by
    intro tt_ kt_
    refine XS.dup X_397.here hEX rfl (hb hBY at_330) rfl rfl ?_
    show Steps p.tables e below (T_397.setTop (mkF m 331 #[Lv q1, Zs, Lv q2, Zs, Lv q3, Zs, Lv q4, Zs, Lv q5, Zs, Iv p6, Lv a0, Zs, Lv a1, Zs, Lv a2, Zs, Lv a3, Zs, Lv a4, Zs, Lv a5, Zs, Lv a6, Zs, Lv a7, Zs, Lv b0, Zs, Lv b1, Zs, Lv b2, Zs, Lv b3, Zs, Lv b4, Zs, Lv b5, Zs, Lv b6, Zs, Lv b7, Zs, Iv md, Rv b_80, Rv b_157, Rv b_262, Us, Us, Us, Us, Us, Us, Us] [(.ref b_397), (.ref b_397)])) tt_
    refine XS.iconst X_397.here hEX rfl (hb hBY at_331) ?_
    show Steps p.tables e below (T_397.setTop (mkF m 332 #[Lv q1, Zs, Lv q2, Zs, Lv q3, Zs, Lv q4, Zs, Lv q5, Zs, Iv p6, Lv a0, Zs, Lv a1, Zs, Lv a2, Zs, Lv a3, Zs, Lv a4, Zs, Lv a5, Zs, Lv a6, Zs, Lv a7, Zs, Lv b0, Zs, Lv b1, Zs, Lv b2, Zs, Lv b3, Zs, Lv b4, Zs, Lv b5, Zs, Lv b6, Zs, Lv b7, Zs, Iv md, Rv b_80, Rv b_157, Rv b_262, Us, Us, Us, Us, Us, Us, Us] [(.int (0 : Int32)), (.ref b_397), (.ref b_397)])) tt_
    refine XS.lload X_397.here hEX rfl (hb hBY at_332) rfl ?_
    show Steps p.tables e below (T_397.setTop (mkF m 334 #[Lv q1, Zs, Lv q2, Zs, Lv q3, Zs, Lv q4, Zs, Lv q5, Zs, Iv p6, Lv a0, Zs, Lv a1, Zs, Lv a2, Zs, Lv a3, Zs, Lv a4, Zs, Lv a5, Zs, Lv a6, Zs, Lv a7, Zs, Lv b0, Zs, Lv b1, Zs, Lv b2, Zs, Lv b3, Zs, Lv b4, Zs, Lv b5, Zs, Lv b6, Zs, Lv b7, Zs, Iv md, Rv b_80, Rv b_157, Rv b_262, Us, Us, Us, Us, Us, Us, Us] [(.long a0), (.int (0 : Int32)), (.ref b_397), (.ref b_397)])) tt_
    refine XS.lneg X_397.here hEX rfl (hb hBY at_334) rfl ?_
    exact kt_
  refine Done.pre sg_407 ?_
  obtain ⟨cl_406, Ar_406, q_406, S_406, N__406, H_406, G_406⟩ := id f_405
  have hin_406 : ¬ ((0 : Int32) < 0 ∨ cl_406.slots.size ≤ ((0 : Int32)).toNatClampNeg) := inb_of S_406 ⟨by decide, by decide⟩
  obtain ⟨T_408, h_408, X_408, e_408, W_408, st_408⟩ := stJ X_397 hEX hZW e_397 Ar_406 (j := (0 : Int32)) hin_406 (g := (mkF m 335 #[Lv q1, Zs, Lv q2, Zs, Lv q3, Zs, Lv q4, Zs, Lv q5, Zs, Iv p6, Lv a0, Zs, Lv a1, Zs, Lv a2, Zs, Lv a3, Zs, Lv a4, Zs, Lv a5, Zs, Lv a6, Zs, Lv a7, Zs, Lv b0, Zs, Lv b1, Zs, Lv b2, Zs, Lv b3, Zs, Lv b4, Zs, Lv b5, Zs, Lv b6, Zs, Lv b7, Zs, Iv md, Rv b_80, Rv b_157, Rv b_262, Us, Us, Us, Us, Us, Us, Us] [(.long (-a0)), (.int (0 : Int32)), (.ref b_397), (.ref b_397)])) rfl rfl (hb hBY at_335)
  have N_408 := Fr.snoc X_408 N_379 ge_b_397
  have K__409 : Keep h0 h_408 [] := K__398.wr W_408 (Or.inr sz_b_397)
  have f_410 : Exa Z h_408 b_80 "[J" := f_399.wr W_408
  have f_411 : Arv Z h_408 b_80 k_80 .long (8 : Int32) [(.long a0), (.long a1), (.long a2), (.long a3), (.long a4), (.long a5), (.long a6), (.long a7)] (.long (0 : Int64)) := f_400.other W_408 ne_b_80_b_397
  have f_412 : Exa Z h_408 b_157 "[J" := f_401.wr W_408
  have f_413 : Arv Z h_408 b_157 k_157 .long (8 : Int32) [(.long b0), (.long b1), (.long b2), (.long b3), (.long b4), (.long b5), (.long b6), (.long b7)] (.long (0 : Int64)) := f_402.other W_408 ne_b_157_b_397
  have f_414 : Exa Z h_408 b_262 "[J" := f_403.wr W_408
  have f_415 : Arv Z h_408 b_262 k_262 .long (8 : Int32) [(.long b0), (.long b1), (.long b2), (.long b3), (.long b4), (.long b5), (.long b6), (.long b7)] (.long (0 : Int64)) := f_404.other W_408 ne_b_262_b_397
  have f_416 : Exa Z h_408 b_397 "[J" := B_397.wr W_408
  have f_417 : Arv Z h_408 b_397 k_397 .long (8 : Int32) [(.long (-a0)), (.long (0 : Int64)), (.long (0 : Int64)), (.long (0 : Int64)), (.long (0 : Int64)), (.long (0 : Int64)), (.long (0 : Int64)), (.long (0 : Int64))] (.long (0 : Int64)) := Arv.set Ar_406 q_406 S_406 N__406 H_406 G_406 rfl W_408 0 rfl (Nat.le_of_ble_eq_true rfl)
  refine Done.pre st_408 ?_
  show Done _ _ _ _ _ _ _ (T_408.setTop (mkF m 336 #[Lv q1, Zs, Lv q2, Zs, Lv q3, Zs, Lv q4, Zs, Lv q5, Zs, Iv p6, Lv a0, Zs, Lv a1, Zs, Lv a2, Zs, Lv a3, Zs, Lv a4, Zs, Lv a5, Zs, Lv a6, Zs, Lv a7, Zs, Lv b0, Zs, Lv b1, Zs, Lv b2, Zs, Lv b3, Zs, Lv b4, Zs, Lv b5, Zs, Lv b6, Zs, Lv b7, Zs, Iv md, Rv b_80, Rv b_157, Rv b_262, Us, Us, Us, Us, Us, Us, Us] [(.ref b_397)]))
  have sg_419 : ∀ tt_, Steps p.tables e below (T_408.setTop (mkF m 341 #[Lv q1, Zs, Lv q2, Zs, Lv q3, Zs, Lv q4, Zs, Lv q5, Zs, Iv p6, Lv a0, Zs, Lv a1, Zs, Lv a2, Zs, Lv a3, Zs, Lv a4, Zs, Lv a5, Zs, Lv a6, Zs, Lv a7, Zs, Lv b0, Zs, Lv b1, Zs, Lv b2, Zs, Lv b3, Zs, Lv b4, Zs, Lv b5, Zs, Lv b6, Zs, Lv b7, Zs, Iv md, Rv b_80, Rv b_157, Rv b_262, Us, Us, Us, Us, Us, Us, Us] [(.long (-a1)), (.int (1 : Int32)), (.ref b_397), (.ref b_397)])) tt_ → Steps p.tables e below (T_408.setTop (mkF m 336 #[Lv q1, Zs, Lv q2, Zs, Lv q3, Zs, Lv q4, Zs, Lv q5, Zs, Iv p6, Lv a0, Zs, Lv a1, Zs, Lv a2, Zs, Lv a3, Zs, Lv a4, Zs, Lv a5, Zs, Lv a6, Zs, Lv a7, Zs, Lv b0, Zs, Lv b1, Zs, Lv b2, Zs, Lv b3, Zs, Lv b4, Zs, Lv b5, Zs, Lv b6, Zs, Lv b7, Zs, Iv md, Rv b_80, Rv b_157, Rv b_262, Us, Us, Us, Us, Us, Us, Us] [(.ref b_397)])) tt_ := by
    intro tt_ kt_
    refine XS.dup X_408.here hEX rfl (hb hBY at_336) rfl rfl ?_
    show Steps p.tables e below (T_408.setTop (mkF m 337 #[Lv q1, Zs, Lv q2, Zs, Lv q3, Zs, Lv q4, Zs, Lv q5, Zs, Iv p6, Lv a0, Zs, Lv a1, Zs, Lv a2, Zs, Lv a3, Zs, Lv a4, Zs, Lv a5, Zs, Lv a6, Zs, Lv a7, Zs, Lv b0, Zs, Lv b1, Zs, Lv b2, Zs, Lv b3, Zs, Lv b4, Zs, Lv b5, Zs, Lv b6, Zs, Lv b7, Zs, Iv md, Rv b_80, Rv b_157, Rv b_262, Us, Us, Us, Us, Us, Us, Us] [(.ref b_397), (.ref b_397)])) tt_
    refine XS.iconst X_408.here hEX rfl (hb hBY at_337) ?_
    show Steps p.tables e below (T_408.setTop (mkF m 338 #[Lv q1, Zs, Lv q2, Zs, Lv q3, Zs, Lv q4, Zs, Lv q5, Zs, Iv p6, Lv a0, Zs, Lv a1, Zs, Lv a2, Zs, Lv a3, Zs, Lv a4, Zs, Lv a5, Zs, Lv a6, Zs, Lv a7, Zs, Lv b0, Zs, Lv b1, Zs, Lv b2, Zs, Lv b3, Zs, Lv b4, Zs, Lv b5, Zs, Lv b6, Zs, Lv b7, Zs, Iv md, Rv b_80, Rv b_157, Rv b_262, Us, Us, Us, Us, Us, Us, Us] [(.int (1 : Int32)), (.ref b_397), (.ref b_397)])) tt_
    refine XS.lload X_408.here hEX rfl (hb hBY at_338) rfl ?_
    show Steps p.tables e below (T_408.setTop (mkF m 340 #[Lv q1, Zs, Lv q2, Zs, Lv q3, Zs, Lv q4, Zs, Lv q5, Zs, Iv p6, Lv a0, Zs, Lv a1, Zs, Lv a2, Zs, Lv a3, Zs, Lv a4, Zs, Lv a5, Zs, Lv a6, Zs, Lv a7, Zs, Lv b0, Zs, Lv b1, Zs, Lv b2, Zs, Lv b3, Zs, Lv b4, Zs, Lv b5, Zs, Lv b6, Zs, Lv b7, Zs, Iv md, Rv b_80, Rv b_157, Rv b_262, Us, Us, Us, Us, Us, Us, Us] [(.long a1), (.int (1 : Int32)), (.ref b_397), (.ref b_397)])) tt_
    refine XS.lneg X_408.here hEX rfl (hb hBY at_340) rfl ?_
    exact kt_
  refine Done.pre sg_419 ?_
  obtain ⟨cl_418, Ar_418, q_418, S_418, N__418, H_418, G_418⟩ := id f_417
  have hin_418 : ¬ ((1 : Int32) < 0 ∨ cl_418.slots.size ≤ ((1 : Int32)).toNatClampNeg) := inb_of S_418 ⟨by decide, by decide⟩
  obtain ⟨T_420, h_420, X_420, e_420, W_420, st_420⟩ := stJ X_408 hEX hZW e_408 Ar_418 (j := (1 : Int32)) hin_418 (g := (mkF m 341 #[Lv q1, Zs, Lv q2, Zs, Lv q3, Zs, Lv q4, Zs, Lv q5, Zs, Iv p6, Lv a0, Zs, Lv a1, Zs, Lv a2, Zs, Lv a3, Zs, Lv a4, Zs, Lv a5, Zs, Lv a6, Zs, Lv a7, Zs, Lv b0, Zs, Lv b1, Zs, Lv b2, Zs, Lv b3, Zs, Lv b4, Zs, Lv b5, Zs, Lv b6, Zs, Lv b7, Zs, Iv md, Rv b_80, Rv b_157, Rv b_262, Us, Us, Us, Us, Us, Us, Us] [(.long (-a1)), (.int (1 : Int32)), (.ref b_397), (.ref b_397)])) rfl rfl (hb hBY at_341)
  have N_420 := Fr.snoc X_420 N_408 ge_b_397
  have K__421 : Keep h0 h_420 [] := K__409.wr W_420 (Or.inr sz_b_397)
  have f_422 : Exa Z h_420 b_80 "[J" := f_410.wr W_420
  have f_423 : Arv Z h_420 b_80 k_80 .long (8 : Int32) [(.long a0), (.long a1), (.long a2), (.long a3), (.long a4), (.long a5), (.long a6), (.long a7)] (.long (0 : Int64)) := f_411.other W_420 ne_b_80_b_397
  have f_424 : Exa Z h_420 b_157 "[J" := f_412.wr W_420
  have f_425 : Arv Z h_420 b_157 k_157 .long (8 : Int32) [(.long b0), (.long b1), (.long b2), (.long b3), (.long b4), (.long b5), (.long b6), (.long b7)] (.long (0 : Int64)) := f_413.other W_420 ne_b_157_b_397
  have f_426 : Exa Z h_420 b_262 "[J" := f_414.wr W_420
  have f_427 : Arv Z h_420 b_262 k_262 .long (8 : Int32) [(.long b0), (.long b1), (.long b2), (.long b3), (.long b4), (.long b5), (.long b6), (.long b7)] (.long (0 : Int64)) := f_415.other W_420 ne_b_262_b_397
  have f_428 : Exa Z h_420 b_397 "[J" := f_416.wr W_420
  have f_429 : Arv Z h_420 b_397 k_397 .long (8 : Int32) [(.long (-a0)), (.long (-a1)), (.long (0 : Int64)), (.long (0 : Int64)), (.long (0 : Int64)), (.long (0 : Int64)), (.long (0 : Int64)), (.long (0 : Int64))] (.long (0 : Int64)) := Arv.set Ar_418 q_418 S_418 N__418 H_418 G_418 rfl W_420 1 rfl (Nat.le_of_ble_eq_true rfl)
  refine Done.pre st_420 ?_
  show Done _ _ _ _ _ _ _ (T_420.setTop (mkF m 342 #[Lv q1, Zs, Lv q2, Zs, Lv q3, Zs, Lv q4, Zs, Lv q5, Zs, Iv p6, Lv a0, Zs, Lv a1, Zs, Lv a2, Zs, Lv a3, Zs, Lv a4, Zs, Lv a5, Zs, Lv a6, Zs, Lv a7, Zs, Lv b0, Zs, Lv b1, Zs, Lv b2, Zs, Lv b3, Zs, Lv b4, Zs, Lv b5, Zs, Lv b6, Zs, Lv b7, Zs, Iv md, Rv b_80, Rv b_157, Rv b_262, Us, Us, Us, Us, Us, Us, Us] [(.ref b_397)]))
  have sg_431 : ∀ tt_, Steps p.tables e below (T_420.setTop (mkF m 347 #[Lv q1, Zs, Lv q2, Zs, Lv q3, Zs, Lv q4, Zs, Lv q5, Zs, Iv p6, Lv a0, Zs, Lv a1, Zs, Lv a2, Zs, Lv a3, Zs, Lv a4, Zs, Lv a5, Zs, Lv a6, Zs, Lv a7, Zs, Lv b0, Zs, Lv b1, Zs, Lv b2, Zs, Lv b3, Zs, Lv b4, Zs, Lv b5, Zs, Lv b6, Zs, Lv b7, Zs, Iv md, Rv b_80, Rv b_157, Rv b_262, Us, Us, Us, Us, Us, Us, Us] [(.long (-a2)), (.int (2 : Int32)), (.ref b_397), (.ref b_397)])) tt_ → Steps p.tables e below (T_420.setTop (mkF m 342 #[Lv q1, Zs, Lv q2, Zs, Lv q3, Zs, Lv q4, Zs, Lv q5, Zs, Iv p6, Lv a0, Zs, Lv a1, Zs, Lv a2, Zs, Lv a3, Zs, Lv a4, Zs, Lv a5, Zs, Lv a6, Zs, Lv a7, Zs, Lv b0, Zs, Lv b1, Zs, Lv b2, Zs, Lv b3, Zs, Lv b4, Zs, Lv b5, Zs, Lv b6, Zs, Lv b7, Zs, Iv md, Rv b_80, Rv b_157, Rv b_262, Us, Us, Us, Us, Us, Us, Us] [(.ref b_397)])) tt_ := by
    intro tt_ kt_
    refine XS.dup X_420.here hEX rfl (hb hBY at_342) rfl rfl ?_
    show Steps p.tables e below (T_420.setTop (mkF m 343 #[Lv q1, Zs, Lv q2, Zs, Lv q3, Zs, Lv q4, Zs, Lv q5, Zs, Iv p6, Lv a0, Zs, Lv a1, Zs, Lv a2, Zs, Lv a3, Zs, Lv a4, Zs, Lv a5, Zs, Lv a6, Zs, Lv a7, Zs, Lv b0, Zs, Lv b1, Zs, Lv b2, Zs, Lv b3, Zs, Lv b4, Zs, Lv b5, Zs, Lv b6, Zs, Lv b7, Zs, Iv md, Rv b_80, Rv b_157, Rv b_262, Us, Us, Us, Us, Us, Us, Us] [(.ref b_397), (.ref b_397)])) tt_
    refine XS.iconst X_420.here hEX rfl (hb hBY at_343) ?_
    show Steps p.tables e below (T_420.setTop (mkF m 344 #[Lv q1, Zs, Lv q2, Zs, Lv q3, Zs, Lv q4, Zs, Lv q5, Zs, Iv p6, Lv a0, Zs, Lv a1, Zs, Lv a2, Zs, Lv a3, Zs, Lv a4, Zs, Lv a5, Zs, Lv a6, Zs, Lv a7, Zs, Lv b0, Zs, Lv b1, Zs, Lv b2, Zs, Lv b3, Zs, Lv b4, Zs, Lv b5, Zs, Lv b6, Zs, Lv b7, Zs, Iv md, Rv b_80, Rv b_157, Rv b_262, Us, Us, Us, Us, Us, Us, Us] [(.int (2 : Int32)), (.ref b_397), (.ref b_397)])) tt_
    refine XS.lload X_420.here hEX rfl (hb hBY at_344) rfl ?_
    show Steps p.tables e below (T_420.setTop (mkF m 346 #[Lv q1, Zs, Lv q2, Zs, Lv q3, Zs, Lv q4, Zs, Lv q5, Zs, Iv p6, Lv a0, Zs, Lv a1, Zs, Lv a2, Zs, Lv a3, Zs, Lv a4, Zs, Lv a5, Zs, Lv a6, Zs, Lv a7, Zs, Lv b0, Zs, Lv b1, Zs, Lv b2, Zs, Lv b3, Zs, Lv b4, Zs, Lv b5, Zs, Lv b6, Zs, Lv b7, Zs, Iv md, Rv b_80, Rv b_157, Rv b_262, Us, Us, Us, Us, Us, Us, Us] [(.long a2), (.int (2 : Int32)), (.ref b_397), (.ref b_397)])) tt_
    refine XS.lneg X_420.here hEX rfl (hb hBY at_346) rfl ?_
    exact kt_
  refine Done.pre sg_431 ?_
  obtain ⟨cl_430, Ar_430, q_430, S_430, N__430, H_430, G_430⟩ := id f_429
  have hin_430 : ¬ ((2 : Int32) < 0 ∨ cl_430.slots.size ≤ ((2 : Int32)).toNatClampNeg) := inb_of S_430 ⟨by decide, by decide⟩
  obtain ⟨T_432, h_432, X_432, e_432, W_432, st_432⟩ := stJ X_420 hEX hZW e_420 Ar_430 (j := (2 : Int32)) hin_430 (g := (mkF m 347 #[Lv q1, Zs, Lv q2, Zs, Lv q3, Zs, Lv q4, Zs, Lv q5, Zs, Iv p6, Lv a0, Zs, Lv a1, Zs, Lv a2, Zs, Lv a3, Zs, Lv a4, Zs, Lv a5, Zs, Lv a6, Zs, Lv a7, Zs, Lv b0, Zs, Lv b1, Zs, Lv b2, Zs, Lv b3, Zs, Lv b4, Zs, Lv b5, Zs, Lv b6, Zs, Lv b7, Zs, Iv md, Rv b_80, Rv b_157, Rv b_262, Us, Us, Us, Us, Us, Us, Us] [(.long (-a2)), (.int (2 : Int32)), (.ref b_397), (.ref b_397)])) rfl rfl (hb hBY at_347)
  have N_432 := Fr.snoc X_432 N_420 ge_b_397
  have K__433 : Keep h0 h_432 [] := K__421.wr W_432 (Or.inr sz_b_397)
  have f_434 : Exa Z h_432 b_80 "[J" := f_422.wr W_432
  have f_435 : Arv Z h_432 b_80 k_80 .long (8 : Int32) [(.long a0), (.long a1), (.long a2), (.long a3), (.long a4), (.long a5), (.long a6), (.long a7)] (.long (0 : Int64)) := f_423.other W_432 ne_b_80_b_397
  have f_436 : Exa Z h_432 b_157 "[J" := f_424.wr W_432
  have f_437 : Arv Z h_432 b_157 k_157 .long (8 : Int32) [(.long b0), (.long b1), (.long b2), (.long b3), (.long b4), (.long b5), (.long b6), (.long b7)] (.long (0 : Int64)) := f_425.other W_432 ne_b_157_b_397
  have f_438 : Exa Z h_432 b_262 "[J" := f_426.wr W_432
  have f_439 : Arv Z h_432 b_262 k_262 .long (8 : Int32) [(.long b0), (.long b1), (.long b2), (.long b3), (.long b4), (.long b5), (.long b6), (.long b7)] (.long (0 : Int64)) := f_427.other W_432 ne_b_262_b_397
  have f_440 : Exa Z h_432 b_397 "[J" := f_428.wr W_432
  have f_441 : Arv Z h_432 b_397 k_397 .long (8 : Int32) [(.long (-a0)), (.long (-a1)), (.long (-a2)), (.long (0 : Int64)), (.long (0 : Int64)), (.long (0 : Int64)), (.long (0 : Int64)), (.long (0 : Int64))] (.long (0 : Int64)) := Arv.set Ar_430 q_430 S_430 N__430 H_430 G_430 rfl W_432 2 rfl (Nat.le_of_ble_eq_true rfl)
  refine Done.pre st_432 ?_
  show Done _ _ _ _ _ _ _ (T_432.setTop (mkF m 348 #[Lv q1, Zs, Lv q2, Zs, Lv q3, Zs, Lv q4, Zs, Lv q5, Zs, Iv p6, Lv a0, Zs, Lv a1, Zs, Lv a2, Zs, Lv a3, Zs, Lv a4, Zs, Lv a5, Zs, Lv a6, Zs, Lv a7, Zs, Lv b0, Zs, Lv b1, Zs, Lv b2, Zs, Lv b3, Zs, Lv b4, Zs, Lv b5, Zs, Lv b6, Zs, Lv b7, Zs, Iv md, Rv b_80, Rv b_157, Rv b_262, Us, Us, Us, Us, Us, Us, Us] [(.ref b_397)]))
  show Done _ _ _ _ _ _ _ (T_432.setTop (mkF m 348 #[Lv q1, Zs, Lv q2, Zs, Lv q3, Zs, Lv q4, Zs, Lv q5, Zs, Iv p6, Lv a0, Zs, Lv a1, Zs, Lv a2, Zs, Lv a3, Zs, Lv a4, Zs, Lv a5, Zs, Lv a6, Zs, Lv a7, Zs, Lv b0, Zs, Lv b1, Zs, Lv b2, Zs, Lv b3, Zs, Lv b4, Zs, Lv b5, Zs, Lv b6, Zs, Lv b7, Zs, Iv md, Rv b_80, Rv b_157, Rv b_262, Us, Us, Us, Us, Us, Us, Us] [(.ref b_397)]))
  exact rm0_j348 l Z aZ hw ws q1 q2 q3 q4 q5 p6 h0 n0 Z0 p e s m below meth cO hEX hBY hMX hOW hNM hLK hRT hZW a0 a1 a2 a3 a4 a5 a6 a7 md b0 b1 b2 b3 b4 b5 b6 b7 b_80 k_80 b_157 k_157 b_262 k_262 b_397 k_397 T_432 h_432 _ X_432 e_432 N_432 K__433 f_434 f_435 f_436 f_437 f_438 f_439 f_440 f_441 hRa hm4 hRb hEq ne_387 ne_388 ne_389 ne_b_80_b_397 ne_b_157_b_397 ne_b_262_b_397 ge_390 ge_391 ge_392 ge_b_397 sz_393 sz_394 sz_395 sz_b_397
set_option maxRecDepth 65536 in
set_option maxHeartbeats 40000000 in
theorem rm0_j302 (l : Launch) (Z : State) (aZ : Array Value) (hw : ∀ d ∈ tables_1, d.before aZ Z = true) (ws : List Jvm.Cond) (q1 : Int64) (q2 : Int64) (q3 : Int64) (q4 : Int64) (q5 : Int64) (p6 : Int32) (h0 : Heap) (n0 : Nat) (Z0 : n0 ≤ h0.size)
    (p : Program) (e : Env) (s : State) (m : MethodId) (below : List Frame) (meth : Method) (cO : Code) (hEX : p.tables.exec = Jvm.exec) (hBY : cO.code = code) (hMX : cO.maxLocals = 54) (hOW : s.vm.findClass "com/example/guard3/guard3/P384FieldSubtractPinLaw" = some m.cls) (hNM : meth.name = x.name) (hLK : meth.locks = false) (hRT : meth.sig.returnType = ret) (hZW : Z.Warmed39 s.vm)
    (a0 : Int64) (a1 : Int64) (a2 : Int64) (a3 : Int64) (a4 : Int64) (a5 : Int64) (a6 : Int64) (a7 : Int64) (md : Int32) (b0 : Int64) (b1 : Int64) (b2 : Int64) (b3 : Int64) (b4 : Int64) (b5 : Int64) (b6 : Int64) (b7 : Int64) (b_80 : Addr) (k_80 : ClassId) (b_157 : Addr) (k_157 : ClassId) (b_262 : Addr) (k_262 : ClassId) (T_310 : State) (h_311 : Heap) (L_312 : List Loc) (X_313 : Stand p l e room_1 s m #[(.long q1), (.long q2), (.long q3), (.long q4), (.long q5), (.int p6)] below meth cO T_310 L_312 3 24) (e_314 : T_310.heap = h_311) (N_315 : Fr n0 L_312) (K__316 : Keep h0 h_311 []) (f_317 : Exa Z h_311 b_80 "[J") (f_318 : Arv Z h_311 b_80 k_80 .long (8 : Int32) [(.long a0), (.long a1), (.long a2), (.long a3), (.long a4), (.long a5), (.long a6), (.long a7)] (.long (0 : Int64))) (f_319 : Exa Z h_311 b_157 "[J") (f_320 : Arv Z h_311 b_157 k_157 .long (8 : Int32) [(.long b0), (.long b1), (.long b2), (.long b3), (.long b4), (.long b5), (.long b6), (.long b7)] (.long (0 : Int64))) (f_321 : Exa Z h_311 b_262 "[J") (f_322 : Arv Z h_311 b_262 k_262 .long (8 : Int32) [(.long b0), (.long b1), (.long b2), (.long b3), (.long (0 : Int64)), (.long (0 : Int64)), (.long (0 : Int64)), (.long (0 : Int64))] (.long (0 : Int64))) (hRa : own_R 1125899906842624 a0 a1 a2 a3 a4 a5 a6 a7) (hm4 : md = (0 : Int32) ∨ md = (1 : Int32) ∨ md = (2 : Int32) ∨ md = (3 : Int32)) (hRb : own_R 1125899906842624 b0 b1 b2 b3 b4 b5 b6 b7) (hEq : md = (3 : Int32) → a0 = b0 ∧ a1 = b1 ∧ a2 = b2 ∧ a3 = b3 ∧ a4 = b4 ∧ a5 = b5 ∧ a6 = b6 ∧ a7 = b7) (ne_323 : b_80 ≠ b_157) (ne_324 : b_80 ≠ b_262) (ne_325 : b_157 ≠ b_262) (ge_326 : n0 ≤ b_80) (ge_327 : n0 ≤ b_157) (ge_328 : n0 ≤ b_262) (sz_329 : h0.size ≤ b_80) (sz_330 : h0.size ≤ b_157) (sz_331 : h0.size ≤ b_262) :
    Done p e below s (Qrm0 Z q1 q2 q3 q4 q5 p6 h0 n0) room_1.cells room_1.slots (T_310.setTop (mkF m 302 #[Lv q1, Zs, Lv q2, Zs, Lv q3, Zs, Lv q4, Zs, Lv q5, Zs, Iv p6, Lv a0, Zs, Lv a1, Zs, Lv a2, Zs, Lv a3, Zs, Lv a4, Zs, Lv a5, Zs, Lv a6, Zs, Lv a7, Zs, Lv b0, Zs, Lv b1, Zs, Lv b2, Zs, Lv b3, Zs, Lv b4, Zs, Lv b5, Zs, Lv b6, Zs, Lv b7, Zs, Iv md, Rv b_80, Rv b_157, Us, Us, Us, Us, Us, Us, Us, Us] [(.ref b_262)])) := by
  have sg_333 : ∀ tt_, Steps p.tables e below (T_310.setTop (mkF m 306 #[Lv q1, Zs, Lv q2, Zs, Lv q3, Zs, Lv q4, Zs, Lv q5, Zs, Iv p6, Lv a0, Zs, Lv a1, Zs, Lv a2, Zs, Lv a3, Zs, Lv a4, Zs, Lv a5, Zs, Lv a6, Zs, Lv a7, Zs, Lv b0, Zs, Lv b1, Zs, Lv b2, Zs, Lv b3, Zs, Lv b4, Zs, Lv b5, Zs, Lv b6, Zs, Lv b7, Zs, Iv md, Rv b_80, Rv b_157, Us, Us, Us, Us, Us, Us, Us, Us] [(.long b4), (.int (4 : Int32)), (.ref b_262), (.ref b_262)])) tt_ → Steps p.tables e below (T_310.setTop (mkF m 302 #[Lv q1, Zs, Lv q2, Zs, Lv q3, Zs, Lv q4, Zs, Lv q5, Zs, Iv p6, Lv a0, Zs, Lv a1, Zs, Lv a2, Zs, Lv a3, Zs, Lv a4, Zs, Lv a5, Zs, Lv a6, Zs, Lv a7, Zs, Lv b0, Zs, Lv b1, Zs, Lv b2, Zs, Lv b3, Zs, Lv b4, Zs, Lv b5, Zs, Lv b6, Zs, Lv b7, Zs, Iv md, Rv b_80, Rv b_157, Us, Us, Us, Us, Us, Us, Us, Us] [(.ref b_262)])) tt_ := by
    intro tt_ kt_
    refine XS.dup X_313.here hEX rfl (hb hBY at_302) rfl rfl ?_
    show Steps p.tables e below (T_310.setTop (mkF m 303 #[Lv q1, Zs, Lv q2, Zs, Lv q3, Zs, Lv q4, Zs, Lv q5, Zs, Iv p6, Lv a0, Zs, Lv a1, Zs, Lv a2, Zs, Lv a3, Zs, Lv a4, Zs, Lv a5, Zs, Lv a6, Zs, Lv a7, Zs, Lv b0, Zs, Lv b1, Zs, Lv b2, Zs, Lv b3, Zs, Lv b4, Zs, Lv b5, Zs, Lv b6, Zs, Lv b7, Zs, Iv md, Rv b_80, Rv b_157, Us, Us, Us, Us, Us, Us, Us, Us] [(.ref b_262), (.ref b_262)])) tt_
    refine XS.iconst X_313.here hEX rfl (hb hBY at_303) ?_
    show Steps p.tables e below (T_310.setTop (mkF m 304 #[Lv q1, Zs, Lv q2, Zs, Lv q3, Zs, Lv q4, Zs, Lv q5, Zs, Iv p6, Lv a0, Zs, Lv a1, Zs, Lv a2, Zs, Lv a3, Zs, Lv a4, Zs, Lv a5, Zs, Lv a6, Zs, Lv a7, Zs, Lv b0, Zs, Lv b1, Zs, Lv b2, Zs, Lv b3, Zs, Lv b4, Zs, Lv b5, Zs, Lv b6, Zs, Lv b7, Zs, Iv md, Rv b_80, Rv b_157, Us, Us, Us, Us, Us, Us, Us, Us] [(.int (4 : Int32)), (.ref b_262), (.ref b_262)])) tt_
    refine XS.lload X_313.here hEX rfl (hb hBY at_304) rfl ?_
    exact kt_
  refine Done.pre sg_333 ?_
  obtain ⟨cl_332, Ar_332, q_332, S_332, N__332, H_332, G_332⟩ := id f_322
  have hin_332 : ¬ ((4 : Int32) < 0 ∨ cl_332.slots.size ≤ ((4 : Int32)).toNatClampNeg) := inb_of S_332 ⟨by decide, by decide⟩
  obtain ⟨T_334, h_334, X_334, e_334, W_334, st_334⟩ := stJ X_313 hEX hZW e_314 Ar_332 (j := (4 : Int32)) hin_332 (g := (mkF m 306 #[Lv q1, Zs, Lv q2, Zs, Lv q3, Zs, Lv q4, Zs, Lv q5, Zs, Iv p6, Lv a0, Zs, Lv a1, Zs, Lv a2, Zs, Lv a3, Zs, Lv a4, Zs, Lv a5, Zs, Lv a6, Zs, Lv a7, Zs, Lv b0, Zs, Lv b1, Zs, Lv b2, Zs, Lv b3, Zs, Lv b4, Zs, Lv b5, Zs, Lv b6, Zs, Lv b7, Zs, Iv md, Rv b_80, Rv b_157, Us, Us, Us, Us, Us, Us, Us, Us] [(.long b4), (.int (4 : Int32)), (.ref b_262), (.ref b_262)])) rfl rfl (hb hBY at_306)
  have N_334 := Fr.snoc X_334 N_315 ge_328
  have K__335 : Keep h0 h_334 [] := K__316.wr W_334 (Or.inr sz_331)
  have f_336 : Exa Z h_334 b_80 "[J" := f_317.wr W_334
  have f_337 : Arv Z h_334 b_80 k_80 .long (8 : Int32) [(.long a0), (.long a1), (.long a2), (.long a3), (.long a4), (.long a5), (.long a6), (.long a7)] (.long (0 : Int64)) := f_318.other W_334 ne_324
  have f_338 : Exa Z h_334 b_157 "[J" := f_319.wr W_334
  have f_339 : Arv Z h_334 b_157 k_157 .long (8 : Int32) [(.long b0), (.long b1), (.long b2), (.long b3), (.long b4), (.long b5), (.long b6), (.long b7)] (.long (0 : Int64)) := f_320.other W_334 ne_325
  have f_340 : Exa Z h_334 b_262 "[J" := f_321.wr W_334
  have f_341 : Arv Z h_334 b_262 k_262 .long (8 : Int32) [(.long b0), (.long b1), (.long b2), (.long b3), (.long b4), (.long (0 : Int64)), (.long (0 : Int64)), (.long (0 : Int64))] (.long (0 : Int64)) := Arv.set Ar_332 q_332 S_332 N__332 H_332 G_332 rfl W_334 4 rfl (Nat.le_of_ble_eq_true rfl)
  refine Done.pre st_334 ?_
  show Done _ _ _ _ _ _ _ (T_334.setTop (mkF m 307 #[Lv q1, Zs, Lv q2, Zs, Lv q3, Zs, Lv q4, Zs, Lv q5, Zs, Iv p6, Lv a0, Zs, Lv a1, Zs, Lv a2, Zs, Lv a3, Zs, Lv a4, Zs, Lv a5, Zs, Lv a6, Zs, Lv a7, Zs, Lv b0, Zs, Lv b1, Zs, Lv b2, Zs, Lv b3, Zs, Lv b4, Zs, Lv b5, Zs, Lv b6, Zs, Lv b7, Zs, Iv md, Rv b_80, Rv b_157, Us, Us, Us, Us, Us, Us, Us, Us] [(.ref b_262)]))
  have sg_343 : ∀ tt_, Steps p.tables e below (T_334.setTop (mkF m 311 #[Lv q1, Zs, Lv q2, Zs, Lv q3, Zs, Lv q4, Zs, Lv q5, Zs, Iv p6, Lv a0, Zs, Lv a1, Zs, Lv a2, Zs, Lv a3, Zs, Lv a4, Zs, Lv a5, Zs, Lv a6, Zs, Lv a7, Zs, Lv b0, Zs, Lv b1, Zs, Lv b2, Zs, Lv b3, Zs, Lv b4, Zs, Lv b5, Zs, Lv b6, Zs, Lv b7, Zs, Iv md, Rv b_80, Rv b_157, Us, Us, Us, Us, Us, Us, Us, Us] [(.long b5), (.int (5 : Int32)), (.ref b_262), (.ref b_262)])) tt_ → Steps p.tables e below (T_334.setTop (mkF m 307 #[Lv q1, Zs, Lv q2, Zs, Lv q3, Zs, Lv q4, Zs, Lv q5, Zs, Iv p6, Lv a0, Zs, Lv a1, Zs, Lv a2, Zs, Lv a3, Zs, Lv a4, Zs, Lv a5, Zs, Lv a6, Zs, Lv a7, Zs, Lv b0, Zs, Lv b1, Zs, Lv b2, Zs, Lv b3, Zs, Lv b4, Zs, Lv b5, Zs, Lv b6, Zs, Lv b7, Zs, Iv md, Rv b_80, Rv b_157, Us, Us, Us, Us, Us, Us, Us, Us] [(.ref b_262)])) tt_ := by
    intro tt_ kt_
    refine XS.dup X_334.here hEX rfl (hb hBY at_307) rfl rfl ?_
    show Steps p.tables e below (T_334.setTop (mkF m 308 #[Lv q1, Zs, Lv q2, Zs, Lv q3, Zs, Lv q4, Zs, Lv q5, Zs, Iv p6, Lv a0, Zs, Lv a1, Zs, Lv a2, Zs, Lv a3, Zs, Lv a4, Zs, Lv a5, Zs, Lv a6, Zs, Lv a7, Zs, Lv b0, Zs, Lv b1, Zs, Lv b2, Zs, Lv b3, Zs, Lv b4, Zs, Lv b5, Zs, Lv b6, Zs, Lv b7, Zs, Iv md, Rv b_80, Rv b_157, Us, Us, Us, Us, Us, Us, Us, Us] [(.ref b_262), (.ref b_262)])) tt_
    refine XS.iconst X_334.here hEX rfl (hb hBY at_308) ?_
    show Steps p.tables e below (T_334.setTop (mkF m 309 #[Lv q1, Zs, Lv q2, Zs, Lv q3, Zs, Lv q4, Zs, Lv q5, Zs, Iv p6, Lv a0, Zs, Lv a1, Zs, Lv a2, Zs, Lv a3, Zs, Lv a4, Zs, Lv a5, Zs, Lv a6, Zs, Lv a7, Zs, Lv b0, Zs, Lv b1, Zs, Lv b2, Zs, Lv b3, Zs, Lv b4, Zs, Lv b5, Zs, Lv b6, Zs, Lv b7, Zs, Iv md, Rv b_80, Rv b_157, Us, Us, Us, Us, Us, Us, Us, Us] [(.int (5 : Int32)), (.ref b_262), (.ref b_262)])) tt_
    refine XS.lload X_334.here hEX rfl (hb hBY at_309) rfl ?_
    exact kt_
  refine Done.pre sg_343 ?_
  obtain ⟨cl_342, Ar_342, q_342, S_342, N__342, H_342, G_342⟩ := id f_341
  have hin_342 : ¬ ((5 : Int32) < 0 ∨ cl_342.slots.size ≤ ((5 : Int32)).toNatClampNeg) := inb_of S_342 ⟨by decide, by decide⟩
  obtain ⟨T_344, h_344, X_344, e_344, W_344, st_344⟩ := stJ X_334 hEX hZW e_334 Ar_342 (j := (5 : Int32)) hin_342 (g := (mkF m 311 #[Lv q1, Zs, Lv q2, Zs, Lv q3, Zs, Lv q4, Zs, Lv q5, Zs, Iv p6, Lv a0, Zs, Lv a1, Zs, Lv a2, Zs, Lv a3, Zs, Lv a4, Zs, Lv a5, Zs, Lv a6, Zs, Lv a7, Zs, Lv b0, Zs, Lv b1, Zs, Lv b2, Zs, Lv b3, Zs, Lv b4, Zs, Lv b5, Zs, Lv b6, Zs, Lv b7, Zs, Iv md, Rv b_80, Rv b_157, Us, Us, Us, Us, Us, Us, Us, Us] [(.long b5), (.int (5 : Int32)), (.ref b_262), (.ref b_262)])) rfl rfl (hb hBY at_311)
  have N_344 := Fr.snoc X_344 N_334 ge_328
  have K__345 : Keep h0 h_344 [] := K__335.wr W_344 (Or.inr sz_331)
  have f_346 : Exa Z h_344 b_80 "[J" := f_336.wr W_344
  have f_347 : Arv Z h_344 b_80 k_80 .long (8 : Int32) [(.long a0), (.long a1), (.long a2), (.long a3), (.long a4), (.long a5), (.long a6), (.long a7)] (.long (0 : Int64)) := f_337.other W_344 ne_324
  have f_348 : Exa Z h_344 b_157 "[J" := f_338.wr W_344
  have f_349 : Arv Z h_344 b_157 k_157 .long (8 : Int32) [(.long b0), (.long b1), (.long b2), (.long b3), (.long b4), (.long b5), (.long b6), (.long b7)] (.long (0 : Int64)) := f_339.other W_344 ne_325
  have f_350 : Exa Z h_344 b_262 "[J" := f_340.wr W_344
  have f_351 : Arv Z h_344 b_262 k_262 .long (8 : Int32) [(.long b0), (.long b1), (.long b2), (.long b3), (.long b4), (.long b5), (.long (0 : Int64)), (.long (0 : Int64))] (.long (0 : Int64)) := Arv.set Ar_342 q_342 S_342 N__342 H_342 G_342 rfl W_344 5 rfl (Nat.le_of_ble_eq_true rfl)
  refine Done.pre st_344 ?_
  show Done _ _ _ _ _ _ _ (T_344.setTop (mkF m 312 #[Lv q1, Zs, Lv q2, Zs, Lv q3, Zs, Lv q4, Zs, Lv q5, Zs, Iv p6, Lv a0, Zs, Lv a1, Zs, Lv a2, Zs, Lv a3, Zs, Lv a4, Zs, Lv a5, Zs, Lv a6, Zs, Lv a7, Zs, Lv b0, Zs, Lv b1, Zs, Lv b2, Zs, Lv b3, Zs, Lv b4, Zs, Lv b5, Zs, Lv b6, Zs, Lv b7, Zs, Iv md, Rv b_80, Rv b_157, Us, Us, Us, Us, Us, Us, Us, Us] [(.ref b_262)]))
  have sg_353 : ∀ tt_, Steps p.tables e below (T_344.setTop (mkF m 317 #[Lv q1, Zs, Lv q2, Zs, Lv q3, Zs, Lv q4, Zs, Lv q5, Zs, Iv p6, Lv a0, Zs, Lv a1, Zs, Lv a2, Zs, Lv a3, Zs, Lv a4, Zs, Lv a5, Zs, Lv a6, Zs, Lv a7, Zs, Lv b0, Zs, Lv b1, Zs, Lv b2, Zs, Lv b3, Zs, Lv b4, Zs, Lv b5, Zs, Lv b6, Zs, Lv b7, Zs, Iv md, Rv b_80, Rv b_157, Us, Us, Us, Us, Us, Us, Us, Us] [(.long b6), (.int (6 : Int32)), (.ref b_262), (.ref b_262)])) tt_ → Steps p.tables e below (T_344.setTop (mkF m 312 #[Lv q1, Zs, Lv q2, Zs, Lv q3, Zs, Lv q4, Zs, Lv q5, Zs, Iv p6, Lv a0, Zs, Lv a1, Zs, Lv a2, Zs, Lv a3, Zs, Lv a4, Zs, Lv a5, Zs, Lv a6, Zs, Lv a7, Zs, Lv b0, Zs, Lv b1, Zs, Lv b2, Zs, Lv b3, Zs, Lv b4, Zs, Lv b5, Zs, Lv b6, Zs, Lv b7, Zs, Iv md, Rv b_80, Rv b_157, Us, Us, Us, Us, Us, Us, Us, Us] [(.ref b_262)])) tt_ := by
    intro tt_ kt_
    refine XS.dup X_344.here hEX rfl (hb hBY at_312) rfl rfl ?_
    show Steps p.tables e below (T_344.setTop (mkF m 313 #[Lv q1, Zs, Lv q2, Zs, Lv q3, Zs, Lv q4, Zs, Lv q5, Zs, Iv p6, Lv a0, Zs, Lv a1, Zs, Lv a2, Zs, Lv a3, Zs, Lv a4, Zs, Lv a5, Zs, Lv a6, Zs, Lv a7, Zs, Lv b0, Zs, Lv b1, Zs, Lv b2, Zs, Lv b3, Zs, Lv b4, Zs, Lv b5, Zs, Lv b6, Zs, Lv b7, Zs, Iv md, Rv b_80, Rv b_157, Us, Us, Us, Us, Us, Us, Us, Us] [(.ref b_262), (.ref b_262)])) tt_
    refine XS.bipush X_344.here hEX rfl (hb hBY at_313) ?_
    show Steps p.tables e below (T_344.setTop (mkF m 315 #[Lv q1, Zs, Lv q2, Zs, Lv q3, Zs, Lv q4, Zs, Lv q5, Zs, Iv p6, Lv a0, Zs, Lv a1, Zs, Lv a2, Zs, Lv a3, Zs, Lv a4, Zs, Lv a5, Zs, Lv a6, Zs, Lv a7, Zs, Lv b0, Zs, Lv b1, Zs, Lv b2, Zs, Lv b3, Zs, Lv b4, Zs, Lv b5, Zs, Lv b6, Zs, Lv b7, Zs, Iv md, Rv b_80, Rv b_157, Us, Us, Us, Us, Us, Us, Us, Us] [(.int (6 : Int32)), (.ref b_262), (.ref b_262)])) tt_
    refine XS.lload X_344.here hEX rfl (hb hBY at_315) rfl ?_
    exact kt_
  refine Done.pre sg_353 ?_
  obtain ⟨cl_352, Ar_352, q_352, S_352, N__352, H_352, G_352⟩ := id f_351
  have hin_352 : ¬ ((6 : Int32) < 0 ∨ cl_352.slots.size ≤ ((6 : Int32)).toNatClampNeg) := inb_of S_352 ⟨by decide, by decide⟩
  obtain ⟨T_354, h_354, X_354, e_354, W_354, st_354⟩ := stJ X_344 hEX hZW e_344 Ar_352 (j := (6 : Int32)) hin_352 (g := (mkF m 317 #[Lv q1, Zs, Lv q2, Zs, Lv q3, Zs, Lv q4, Zs, Lv q5, Zs, Iv p6, Lv a0, Zs, Lv a1, Zs, Lv a2, Zs, Lv a3, Zs, Lv a4, Zs, Lv a5, Zs, Lv a6, Zs, Lv a7, Zs, Lv b0, Zs, Lv b1, Zs, Lv b2, Zs, Lv b3, Zs, Lv b4, Zs, Lv b5, Zs, Lv b6, Zs, Lv b7, Zs, Iv md, Rv b_80, Rv b_157, Us, Us, Us, Us, Us, Us, Us, Us] [(.long b6), (.int (6 : Int32)), (.ref b_262), (.ref b_262)])) rfl rfl (hb hBY at_317)
  have N_354 := Fr.snoc X_354 N_344 ge_328
  have K__355 : Keep h0 h_354 [] := K__345.wr W_354 (Or.inr sz_331)
  have f_356 : Exa Z h_354 b_80 "[J" := f_346.wr W_354
  have f_357 : Arv Z h_354 b_80 k_80 .long (8 : Int32) [(.long a0), (.long a1), (.long a2), (.long a3), (.long a4), (.long a5), (.long a6), (.long a7)] (.long (0 : Int64)) := f_347.other W_354 ne_324
  have f_358 : Exa Z h_354 b_157 "[J" := f_348.wr W_354
  have f_359 : Arv Z h_354 b_157 k_157 .long (8 : Int32) [(.long b0), (.long b1), (.long b2), (.long b3), (.long b4), (.long b5), (.long b6), (.long b7)] (.long (0 : Int64)) := f_349.other W_354 ne_325
  have f_360 : Exa Z h_354 b_262 "[J" := f_350.wr W_354
  have f_361 : Arv Z h_354 b_262 k_262 .long (8 : Int32) [(.long b0), (.long b1), (.long b2), (.long b3), (.long b4), (.long b5), (.long b6), (.long (0 : Int64))] (.long (0 : Int64)) := Arv.set Ar_352 q_352 S_352 N__352 H_352 G_352 rfl W_354 6 rfl (Nat.le_of_ble_eq_true rfl)
  refine Done.pre st_354 ?_
  show Done _ _ _ _ _ _ _ (T_354.setTop (mkF m 318 #[Lv q1, Zs, Lv q2, Zs, Lv q3, Zs, Lv q4, Zs, Lv q5, Zs, Iv p6, Lv a0, Zs, Lv a1, Zs, Lv a2, Zs, Lv a3, Zs, Lv a4, Zs, Lv a5, Zs, Lv a6, Zs, Lv a7, Zs, Lv b0, Zs, Lv b1, Zs, Lv b2, Zs, Lv b3, Zs, Lv b4, Zs, Lv b5, Zs, Lv b6, Zs, Lv b7, Zs, Iv md, Rv b_80, Rv b_157, Us, Us, Us, Us, Us, Us, Us, Us] [(.ref b_262)]))
  have sg_363 : ∀ tt_, Steps p.tables e below (T_354.setTop (mkF m 323 #[Lv q1, Zs, Lv q2, Zs, Lv q3, Zs, Lv q4, Zs, Lv q5, Zs, Iv p6, Lv a0, Zs, Lv a1, Zs, Lv a2, Zs, Lv a3, Zs, Lv a4, Zs, Lv a5, Zs, Lv a6, Zs, Lv a7, Zs, Lv b0, Zs, Lv b1, Zs, Lv b2, Zs, Lv b3, Zs, Lv b4, Zs, Lv b5, Zs, Lv b6, Zs, Lv b7, Zs, Iv md, Rv b_80, Rv b_157, Us, Us, Us, Us, Us, Us, Us, Us] [(.long b7), (.int (7 : Int32)), (.ref b_262), (.ref b_262)])) tt_ → Steps p.tables e below (T_354.setTop (mkF m 318 #[Lv q1, Zs, Lv q2, Zs, Lv q3, Zs, Lv q4, Zs, Lv q5, Zs, Iv p6, Lv a0, Zs, Lv a1, Zs, Lv a2, Zs, Lv a3, Zs, Lv a4, Zs, Lv a5, Zs, Lv a6, Zs, Lv a7, Zs, Lv b0, Zs, Lv b1, Zs, Lv b2, Zs, Lv b3, Zs, Lv b4, Zs, Lv b5, Zs, Lv b6, Zs, Lv b7, Zs, Iv md, Rv b_80, Rv b_157, Us, Us, Us, Us, Us, Us, Us, Us] [(.ref b_262)])) tt_ := by
    intro tt_ kt_
    refine XS.dup X_354.here hEX rfl (hb hBY at_318) rfl rfl ?_
    show Steps p.tables e below (T_354.setTop (mkF m 319 #[Lv q1, Zs, Lv q2, Zs, Lv q3, Zs, Lv q4, Zs, Lv q5, Zs, Iv p6, Lv a0, Zs, Lv a1, Zs, Lv a2, Zs, Lv a3, Zs, Lv a4, Zs, Lv a5, Zs, Lv a6, Zs, Lv a7, Zs, Lv b0, Zs, Lv b1, Zs, Lv b2, Zs, Lv b3, Zs, Lv b4, Zs, Lv b5, Zs, Lv b6, Zs, Lv b7, Zs, Iv md, Rv b_80, Rv b_157, Us, Us, Us, Us, Us, Us, Us, Us] [(.ref b_262), (.ref b_262)])) tt_
    refine XS.bipush X_354.here hEX rfl (hb hBY at_319) ?_
    show Steps p.tables e below (T_354.setTop (mkF m 321 #[Lv q1, Zs, Lv q2, Zs, Lv q3, Zs, Lv q4, Zs, Lv q5, Zs, Iv p6, Lv a0, Zs, Lv a1, Zs, Lv a2, Zs, Lv a3, Zs, Lv a4, Zs, Lv a5, Zs, Lv a6, Zs, Lv a7, Zs, Lv b0, Zs, Lv b1, Zs, Lv b2, Zs, Lv b3, Zs, Lv b4, Zs, Lv b5, Zs, Lv b6, Zs, Lv b7, Zs, Iv md, Rv b_80, Rv b_157, Us, Us, Us, Us, Us, Us, Us, Us] [(.int (7 : Int32)), (.ref b_262), (.ref b_262)])) tt_
    refine XS.lload X_354.here hEX rfl (hb hBY at_321) rfl ?_
    exact kt_
  refine Done.pre sg_363 ?_
  obtain ⟨cl_362, Ar_362, q_362, S_362, N__362, H_362, G_362⟩ := id f_361
  have hin_362 : ¬ ((7 : Int32) < 0 ∨ cl_362.slots.size ≤ ((7 : Int32)).toNatClampNeg) := inb_of S_362 ⟨by decide, by decide⟩
  obtain ⟨T_364, h_364, X_364, e_364, W_364, st_364⟩ := stJ X_354 hEX hZW e_354 Ar_362 (j := (7 : Int32)) hin_362 (g := (mkF m 323 #[Lv q1, Zs, Lv q2, Zs, Lv q3, Zs, Lv q4, Zs, Lv q5, Zs, Iv p6, Lv a0, Zs, Lv a1, Zs, Lv a2, Zs, Lv a3, Zs, Lv a4, Zs, Lv a5, Zs, Lv a6, Zs, Lv a7, Zs, Lv b0, Zs, Lv b1, Zs, Lv b2, Zs, Lv b3, Zs, Lv b4, Zs, Lv b5, Zs, Lv b6, Zs, Lv b7, Zs, Iv md, Rv b_80, Rv b_157, Us, Us, Us, Us, Us, Us, Us, Us] [(.long b7), (.int (7 : Int32)), (.ref b_262), (.ref b_262)])) rfl rfl (hb hBY at_323)
  have N_364 := Fr.snoc X_364 N_354 ge_328
  have K__365 : Keep h0 h_364 [] := K__355.wr W_364 (Or.inr sz_331)
  have f_366 : Exa Z h_364 b_80 "[J" := f_356.wr W_364
  have f_367 : Arv Z h_364 b_80 k_80 .long (8 : Int32) [(.long a0), (.long a1), (.long a2), (.long a3), (.long a4), (.long a5), (.long a6), (.long a7)] (.long (0 : Int64)) := f_357.other W_364 ne_324
  have f_368 : Exa Z h_364 b_157 "[J" := f_358.wr W_364
  have f_369 : Arv Z h_364 b_157 k_157 .long (8 : Int32) [(.long b0), (.long b1), (.long b2), (.long b3), (.long b4), (.long b5), (.long b6), (.long b7)] (.long (0 : Int64)) := f_359.other W_364 ne_325
  have f_370 : Exa Z h_364 b_262 "[J" := f_360.wr W_364
  have f_371 : Arv Z h_364 b_262 k_262 .long (8 : Int32) [(.long b0), (.long b1), (.long b2), (.long b3), (.long b4), (.long b5), (.long b6), (.long b7)] (.long (0 : Int64)) := Arv.set Ar_362 q_362 S_362 N__362 H_362 G_362 rfl W_364 7 rfl (Nat.le_of_ble_eq_true rfl)
  refine Done.pre st_364 ?_
  show Done _ _ _ _ _ _ _ (T_364.setTop (mkF m 324 #[Lv q1, Zs, Lv q2, Zs, Lv q3, Zs, Lv q4, Zs, Lv q5, Zs, Iv p6, Lv a0, Zs, Lv a1, Zs, Lv a2, Zs, Lv a3, Zs, Lv a4, Zs, Lv a5, Zs, Lv a6, Zs, Lv a7, Zs, Lv b0, Zs, Lv b1, Zs, Lv b2, Zs, Lv b3, Zs, Lv b4, Zs, Lv b5, Zs, Lv b6, Zs, Lv b7, Zs, Iv md, Rv b_80, Rv b_157, Us, Us, Us, Us, Us, Us, Us, Us] [(.ref b_262)]))
  have sg_372 : ∀ tt_, Steps p.tables e below (T_364.setTop (mkF m 326 #[Lv q1, Zs, Lv q2, Zs, Lv q3, Zs, Lv q4, Zs, Lv q5, Zs, Iv p6, Lv a0, Zs, Lv a1, Zs, Lv a2, Zs, Lv a3, Zs, Lv a4, Zs, Lv a5, Zs, Lv a6, Zs, Lv a7, Zs, Lv b0, Zs, Lv b1, Zs, Lv b2, Zs, Lv b3, Zs, Lv b4, Zs, Lv b5, Zs, Lv b6, Zs, Lv b7, Zs, Iv md, Rv b_80, Rv b_157, Rv b_262, Us, Us, Us, Us, Us, Us, Us] [])) tt_ → Steps p.tables e below (T_364.setTop (mkF m 324 #[Lv q1, Zs, Lv q2, Zs, Lv q3, Zs, Lv q4, Zs, Lv q5, Zs, Iv p6, Lv a0, Zs, Lv a1, Zs, Lv a2, Zs, Lv a3, Zs, Lv a4, Zs, Lv a5, Zs, Lv a6, Zs, Lv a7, Zs, Lv b0, Zs, Lv b1, Zs, Lv b2, Zs, Lv b3, Zs, Lv b4, Zs, Lv b5, Zs, Lv b6, Zs, Lv b7, Zs, Iv md, Rv b_80, Rv b_157, Us, Us, Us, Us, Us, Us, Us, Us] [(.ref b_262)])) tt_ := by
    intro tt_ kt_
    refine XS.astore X_364.here hEX rfl (hb hBY at_324) rfl rfl (l' := #[Lv q1, Zs, Lv q2, Zs, Lv q3, Zs, Lv q4, Zs, Lv q5, Zs, Iv p6, Lv a0, Zs, Lv a1, Zs, Lv a2, Zs, Lv a3, Zs, Lv a4, Zs, Lv a5, Zs, Lv a6, Zs, Lv a7, Zs, Lv b0, Zs, Lv b1, Zs, Lv b2, Zs, Lv b3, Zs, Lv b4, Zs, Lv b5, Zs, Lv b6, Zs, Lv b7, Zs, Iv md, Rv b_80, Rv b_157, Rv b_262, Us, Us, Us, Us, Us, Us, Us]) rfl ?_
    exact kt_
  refine Done.pre sg_372 ?_
  show Done _ _ _ _ _ _ _ (T_364.setTop (mkF m 326 #[Lv q1, Zs, Lv q2, Zs, Lv q3, Zs, Lv q4, Zs, Lv q5, Zs, Iv p6, Lv a0, Zs, Lv a1, Zs, Lv a2, Zs, Lv a3, Zs, Lv a4, Zs, Lv a5, Zs, Lv a6, Zs, Lv a7, Zs, Lv b0, Zs, Lv b1, Zs, Lv b2, Zs, Lv b3, Zs, Lv b4, Zs, Lv b5, Zs, Lv b6, Zs, Lv b7, Zs, Iv md, Rv b_80, Rv b_157, Rv b_262, Us, Us, Us, Us, Us, Us, Us] []))
  exact rm0_j326 l Z aZ hw ws q1 q2 q3 q4 q5 p6 h0 n0 Z0 p e s m below meth cO hEX hBY hMX hOW hNM hLK hRT hZW a0 a1 a2 a3 a4 a5 a6 a7 md b0 b1 b2 b3 b4 b5 b6 b7 b_80 k_80 b_157 k_157 b_262 k_262 T_364 h_364 _ X_364 e_364 N_364 K__365 f_366 f_367 f_368 f_369 f_370 f_371 hRa hm4 hRb hEq ne_323 ne_324 ne_325 ge_326 ge_327 ge_328 sz_329 sz_330 sz_331
set_option maxRecDepth 65536 in
set_option maxHeartbeats 40000000 in
theorem rm0_j278 (l : Launch) (Z : State) (aZ : Array Value) (hw : ∀ d ∈ tables_1, d.before aZ Z = true) (ws : List Jvm.Cond) (q1 : Int64) (q2 : Int64) (q3 : Int64) (q4 : Int64) (q5 : Int64) (p6 : Int32) (h0 : Heap) (n0 : Nat) (Z0 : n0 ≤ h0.size)
    (p : Program) (e : Env) (s : State) (m : MethodId) (below : List Frame) (meth : Method) (cO : Code) (hEX : p.tables.exec = Jvm.exec) (hBY : cO.code = code) (hMX : cO.maxLocals = 54) (hOW : s.vm.findClass "com/example/guard3/guard3/P384FieldSubtractPinLaw" = some m.cls) (hNM : meth.name = x.name) (hLK : meth.locks = false) (hRT : meth.sig.returnType = ret) (hZW : Z.Warmed39 s.vm)
    (a0 : Int64) (a1 : Int64) (a2 : Int64) (a3 : Int64) (a4 : Int64) (a5 : Int64) (a6 : Int64) (a7 : Int64) (md : Int32) (b0 : Int64) (b1 : Int64) (b2 : Int64) (b3 : Int64) (b4 : Int64) (b5 : Int64) (b6 : Int64) (b7 : Int64) (b_80 : Addr) (k_80 : ClassId) (b_157 : Addr) (k_157 : ClassId) (T_245 : State) (h_246 : Heap) (L_247 : List Loc) (X_248 : Stand p l e room_1 s m #[(.long q1), (.long q2), (.long q3), (.long q4), (.long q5), (.int p6)] below meth cO T_245 L_247 2 16) (e_249 : T_245.heap = h_246) (N_250 : Fr n0 L_247) (K__251 : Keep h0 h_246 []) (f_252 : Exa Z h_246 b_80 "[J") (f_253 : Arv Z h_246 b_80 k_80 .long (8 : Int32) [(.long a0), (.long a1), (.long a2), (.long a3), (.long a4), (.long a5), (.long a6), (.long a7)] (.long (0 : Int64))) (f_254 : Exa Z h_246 b_157 "[J") (f_255 : Arv Z h_246 b_157 k_157 .long (8 : Int32) [(.long b0), (.long b1), (.long b2), (.long b3), (.long b4), (.long b5), (.long b6), (.long b7)] (.long (0 : Int64))) (hRa : own_R 1125899906842624 a0 a1 a2 a3 a4 a5 a6 a7) (hm4 : md = (0 : Int32) ∨ md = (1 : Int32) ∨ md = (2 : Int32) ∨ md = (3 : Int32)) (hRb : own_R 1125899906842624 b0 b1 b2 b3 b4 b5 b6 b7) (hEq : md = (3 : Int32) → a0 = b0 ∧ a1 = b1 ∧ a2 = b2 ∧ a3 = b3 ∧ a4 = b4 ∧ a5 = b5 ∧ a6 = b6 ∧ a7 = b7) (ne_256 : b_80 ≠ b_157) (ge_257 : n0 ≤ b_80) (ge_258 : n0 ≤ b_157) (sz_259 : h0.size ≤ b_80) (sz_260 : h0.size ≤ b_157) :
    Done p e below s (Qrm0 Z q1 q2 q3 q4 q5 p6 h0 n0) room_1.cells room_1.slots (T_245.setTop (mkF m 278 #[Lv q1, Zs, Lv q2, Zs, Lv q3, Zs, Lv q4, Zs, Lv q5, Zs, Iv p6, Lv a0, Zs, Lv a1, Zs, Lv a2, Zs, Lv a3, Zs, Lv a4, Zs, Lv a5, Zs, Lv a6, Zs, Lv a7, Zs, Lv b0, Zs, Lv b1, Zs, Lv b2, Zs, Lv b3, Zs, Lv b4, Zs, Lv b5, Zs, Lv b6, Zs, Lv b7, Zs, Iv md, Rv b_80, Rv b_157, Us, Us, Us, Us, Us, Us, Us, Us] [])) := by
  have sg_261 : ∀ tt_, Steps p.tables e below (T_245.setTop (mkF m 280 #[Lv q1, Zs, Lv q2, Zs, Lv q3, Zs, Lv q4, Zs, Lv q5, Zs, Iv p6, Lv a0, Zs, Lv a1, Zs, Lv a2, Zs, Lv a3, Zs, Lv a4, Zs, Lv a5, Zs, Lv a6, Zs, Lv a7, Zs, Lv b0, Zs, Lv b1, Zs, Lv b2, Zs, Lv b3, Zs, Lv b4, Zs, Lv b5, Zs, Lv b6, Zs, Lv b7, Zs, Iv md, Rv b_80, Rv b_157, Us, Us, Us, Us, Us, Us, Us, Us] [(.int (8 : Int32))])) tt_ → Steps p.tables e below (T_245.setTop (mkF m 278 #[Lv q1, Zs, Lv q2, Zs, Lv q3, Zs, Lv q4, Zs, Lv q5, Zs, Iv p6, Lv a0, Zs, Lv a1, Zs, Lv a2, Zs, Lv a3, Zs, Lv a4, Zs, Lv a5, Zs, Lv a6, Zs, Lv a7, Zs, Lv b0, Zs, Lv b1, Zs, Lv b2, Zs, Lv b3, Zs, Lv b4, Zs, Lv b5, Zs, Lv b6, Zs, Lv b7, Zs, Iv md, Rv b_80, Rv b_157, Us, Us, Us, Us, Us, Us, Us, Us] [])) tt_ := by
    intro tt_ kt_
    refine XS.bipush X_248.here hEX rfl (hb hBY at_278) ?_
    exact kt_
  refine Done.pre sg_261 ?_
  obtain ⟨T_262, h_262, k_262, X_262, e_262, E_262, A_262, B_262, st_262⟩ := newPE X_248 hEX hZW (hw _ (List.mem_of_getElem? (i := 9) rfl)) e_249 (g := (mkF m 280 #[Lv q1, Zs, Lv q2, Zs, Lv q3, Zs, Lv q4, Zs, Lv q5, Zs, Iv p6, Lv a0, Zs, Lv a1, Zs, Lv a2, Zs, Lv a3, Zs, Lv a4, Zs, Lv a5, Zs, Lv a6, Zs, Lv a7, Zs, Lv b0, Zs, Lv b1, Zs, Lv b2, Zs, Lv b3, Zs, Lv b4, Zs, Lv b5, Zs, Lv b6, Zs, Lv b7, Zs, Iv md, Rv b_80, Rv b_157, Us, Us, Us, Us, Us, Us, Us, Us] [(.int (8 : Int32))])) rfl (hb hBY at_280) rfl (by decide) (cap := 8) (by decide) (by decide) (by decide) (by decide) (ad := "[J") (by decide)
  obtain ⟨b_262, g_262⟩ : ∃ z, z = h_246.size := ⟨_, rfl⟩
  rw [← g_262] at A_262 B_262 st_262
  have sz_b_262 : h0.size ≤ b_262 := Nat.le_trans K__251.1 (Nat.le_of_eq g_262.symm)
  have ge_b_262 : n0 ≤ b_262 := Nat.le_trans Z0 sz_b_262
  have ne_b_80_b_262 : b_80 ≠ b_262 := Nat.ne_of_lt (Nat.lt_of_lt_of_le f_252.lt (Nat.le_of_eq g_262.symm))
  have ne_b_157_b_262 : b_157 ≠ b_262 := Nat.ne_of_lt (Nat.lt_of_lt_of_le f_254.lt (Nat.le_of_eq g_262.symm))
  have K__263 : Keep h0 h_262 [] := K__251.ext E_262
  have f_264 : Exa Z h_262 b_80 "[J" := f_252.ext E_262
  have f_265 : Arv Z h_262 b_80 k_80 .long (8 : Int32) [(.long a0), (.long a1), (.long a2), (.long a3), (.long a4), (.long a5), (.long a6), (.long a7)] (.long (0 : Int64)) := f_253.ext E_262
  have f_266 : Exa Z h_262 b_157 "[J" := f_254.ext E_262
  have f_267 : Arv Z h_262 b_157 k_157 .long (8 : Int32) [(.long b0), (.long b1), (.long b2), (.long b3), (.long b4), (.long b5), (.long b6), (.long b7)] (.long (0 : Int64)) := f_255.ext E_262
  have f_268 : Arv Z h_262 b_262 k_262 .long (8 : Int32) [(.long (0 : Int64)), (.long (0 : Int64)), (.long (0 : Int64)), (.long (0 : Int64)), (.long (0 : Int64)), (.long (0 : Int64)), (.long (0 : Int64)), (.long (0 : Int64))] (.long (0 : Int64)) := (Arv.new A_262 (by decide)).pad (pad_rep [] (.long (0 : Int64)) 8)
  refine Done.pre st_262 ?_
  show Done _ _ _ _ _ _ _ (T_262.setTop (mkF m 282 #[Lv q1, Zs, Lv q2, Zs, Lv q3, Zs, Lv q4, Zs, Lv q5, Zs, Iv p6, Lv a0, Zs, Lv a1, Zs, Lv a2, Zs, Lv a3, Zs, Lv a4, Zs, Lv a5, Zs, Lv a6, Zs, Lv a7, Zs, Lv b0, Zs, Lv b1, Zs, Lv b2, Zs, Lv b3, Zs, Lv b4, Zs, Lv b5, Zs, Lv b6, Zs, Lv b7, Zs, Iv md, Rv b_80, Rv b_157, Us, Us, Us, Us, Us, Us, Us, Us] [(.ref b_262)]))
  have sg_270 : ∀ tt_, Steps p.tables e below (T_262.setTop (mkF m 286 #[Lv q1, Zs, Lv q2, Zs, Lv q3, Zs, Lv q4, Zs, Lv q5, Zs, Iv p6, Lv a0, Zs, Lv a1, Zs, Lv a2, Zs, Lv a3, Zs, Lv a4, Zs, Lv a5, Zs, Lv a6, Zs, Lv a7, Zs, Lv b0, Zs, Lv b1, Zs, Lv b2, Zs, Lv b3, Zs, Lv b4, Zs, Lv b5, Zs, Lv b6, Zs, Lv b7, Zs, Iv md, Rv b_80, Rv b_157, Us, Us, Us, Us, Us, Us, Us, Us] [(.long b0), (.int (0 : Int32)), (.ref b_262), (.ref b_262)])) tt_ → Steps p.tables e below (T_262.setTop (mkF m 282 #[Lv q1, Zs, Lv q2, Zs, Lv q3, Zs, Lv q4, Zs, Lv q5, Zs, Iv p6, Lv a0, Zs, Lv a1, Zs, Lv a2, Zs, Lv a3, Zs, Lv a4, Zs, Lv a5, Zs, Lv a6, Zs, Lv a7, Zs, Lv b0, Zs, Lv b1, Zs, Lv b2, Zs, Lv b3, Zs, Lv b4, Zs, Lv b5, Zs, Lv b6, Zs, Lv b7, Zs, Iv md, Rv b_80, Rv b_157, Us, Us, Us, Us, Us, Us, Us, Us] [(.ref b_262)])) tt_ := by
    intro tt_ kt_
    refine XS.dup X_262.here hEX rfl (hb hBY at_282) rfl rfl ?_
    show Steps p.tables e below (T_262.setTop (mkF m 283 #[Lv q1, Zs, Lv q2, Zs, Lv q3, Zs, Lv q4, Zs, Lv q5, Zs, Iv p6, Lv a0, Zs, Lv a1, Zs, Lv a2, Zs, Lv a3, Zs, Lv a4, Zs, Lv a5, Zs, Lv a6, Zs, Lv a7, Zs, Lv b0, Zs, Lv b1, Zs, Lv b2, Zs, Lv b3, Zs, Lv b4, Zs, Lv b5, Zs, Lv b6, Zs, Lv b7, Zs, Iv md, Rv b_80, Rv b_157, Us, Us, Us, Us, Us, Us, Us, Us] [(.ref b_262), (.ref b_262)])) tt_
    refine XS.iconst X_262.here hEX rfl (hb hBY at_283) ?_
    show Steps p.tables e below (T_262.setTop (mkF m 284 #[Lv q1, Zs, Lv q2, Zs, Lv q3, Zs, Lv q4, Zs, Lv q5, Zs, Iv p6, Lv a0, Zs, Lv a1, Zs, Lv a2, Zs, Lv a3, Zs, Lv a4, Zs, Lv a5, Zs, Lv a6, Zs, Lv a7, Zs, Lv b0, Zs, Lv b1, Zs, Lv b2, Zs, Lv b3, Zs, Lv b4, Zs, Lv b5, Zs, Lv b6, Zs, Lv b7, Zs, Iv md, Rv b_80, Rv b_157, Us, Us, Us, Us, Us, Us, Us, Us] [(.int (0 : Int32)), (.ref b_262), (.ref b_262)])) tt_
    refine XS.lload X_262.here hEX rfl (hb hBY at_284) rfl ?_
    exact kt_
  refine Done.pre sg_270 ?_
  obtain ⟨cl_269, Ar_269, q_269, S_269, N__269, H_269, G_269⟩ := id f_268
  have hin_269 : ¬ ((0 : Int32) < 0 ∨ cl_269.slots.size ≤ ((0 : Int32)).toNatClampNeg) := inb_of S_269 ⟨by decide, by decide⟩
  obtain ⟨T_271, h_271, X_271, e_271, W_271, st_271⟩ := stJ X_262 hEX hZW e_262 Ar_269 (j := (0 : Int32)) hin_269 (g := (mkF m 286 #[Lv q1, Zs, Lv q2, Zs, Lv q3, Zs, Lv q4, Zs, Lv q5, Zs, Iv p6, Lv a0, Zs, Lv a1, Zs, Lv a2, Zs, Lv a3, Zs, Lv a4, Zs, Lv a5, Zs, Lv a6, Zs, Lv a7, Zs, Lv b0, Zs, Lv b1, Zs, Lv b2, Zs, Lv b3, Zs, Lv b4, Zs, Lv b5, Zs, Lv b6, Zs, Lv b7, Zs, Iv md, Rv b_80, Rv b_157, Us, Us, Us, Us, Us, Us, Us, Us] [(.long b0), (.int (0 : Int32)), (.ref b_262), (.ref b_262)])) rfl rfl (hb hBY at_286)
  have N_271 := Fr.snoc X_271 N_250 ge_b_262
  have K__272 : Keep h0 h_271 [] := K__263.wr W_271 (Or.inr sz_b_262)
  have f_273 : Exa Z h_271 b_80 "[J" := f_264.wr W_271
  have f_274 : Arv Z h_271 b_80 k_80 .long (8 : Int32) [(.long a0), (.long a1), (.long a2), (.long a3), (.long a4), (.long a5), (.long a6), (.long a7)] (.long (0 : Int64)) := f_265.other W_271 ne_b_80_b_262
  have f_275 : Exa Z h_271 b_157 "[J" := f_266.wr W_271
  have f_276 : Arv Z h_271 b_157 k_157 .long (8 : Int32) [(.long b0), (.long b1), (.long b2), (.long b3), (.long b4), (.long b5), (.long b6), (.long b7)] (.long (0 : Int64)) := f_267.other W_271 ne_b_157_b_262
  have f_277 : Exa Z h_271 b_262 "[J" := B_262.wr W_271
  have f_278 : Arv Z h_271 b_262 k_262 .long (8 : Int32) [(.long b0), (.long (0 : Int64)), (.long (0 : Int64)), (.long (0 : Int64)), (.long (0 : Int64)), (.long (0 : Int64)), (.long (0 : Int64)), (.long (0 : Int64))] (.long (0 : Int64)) := Arv.set Ar_269 q_269 S_269 N__269 H_269 G_269 rfl W_271 0 rfl (Nat.le_of_ble_eq_true rfl)
  refine Done.pre st_271 ?_
  show Done _ _ _ _ _ _ _ (T_271.setTop (mkF m 287 #[Lv q1, Zs, Lv q2, Zs, Lv q3, Zs, Lv q4, Zs, Lv q5, Zs, Iv p6, Lv a0, Zs, Lv a1, Zs, Lv a2, Zs, Lv a3, Zs, Lv a4, Zs, Lv a5, Zs, Lv a6, Zs, Lv a7, Zs, Lv b0, Zs, Lv b1, Zs, Lv b2, Zs, Lv b3, Zs, Lv b4, Zs, Lv b5, Zs, Lv b6, Zs, Lv b7, Zs, Iv md, Rv b_80, Rv b_157, Us, Us, Us, Us, Us, Us, Us, Us] [(.ref b_262)]))
  have sg_280 : ∀ tt_, Steps p.tables e below (T_271.setTop (mkF m 291 #[Lv q1, Zs, Lv q2, Zs, Lv q3, Zs, Lv q4, Zs, Lv q5, Zs, Iv p6, Lv a0, Zs, Lv a1, Zs, Lv a2, Zs, Lv a3, Zs, Lv a4, Zs, Lv a5, Zs, Lv a6, Zs, Lv a7, Zs, Lv b0, Zs, Lv b1, Zs, Lv b2, Zs, Lv b3, Zs, Lv b4, Zs, Lv b5, Zs, Lv b6, Zs, Lv b7, Zs, Iv md, Rv b_80, Rv b_157, Us, Us, Us, Us, Us, Us, Us, Us] [(.long b1), (.int (1 : Int32)), (.ref b_262), (.ref b_262)])) tt_ → Steps p.tables e below (T_271.setTop (mkF m 287 #[Lv q1, Zs, Lv q2, Zs, Lv q3, Zs, Lv q4, Zs, Lv q5, Zs, Iv p6, Lv a0, Zs, Lv a1, Zs, Lv a2, Zs, Lv a3, Zs, Lv a4, Zs, Lv a5, Zs, Lv a6, Zs, Lv a7, Zs, Lv b0, Zs, Lv b1, Zs, Lv b2, Zs, Lv b3, Zs, Lv b4, Zs, Lv b5, Zs, Lv b6, Zs, Lv b7, Zs, Iv md, Rv b_80, Rv b_157, Us, Us, Us, Us, Us, Us, Us, Us] [(.ref b_262)])) tt_ := by
    intro tt_ kt_
    refine XS.dup X_271.here hEX rfl (hb hBY at_287) rfl rfl ?_
    show Steps p.tables e below (T_271.setTop (mkF m 288 #[Lv q1, Zs, Lv q2, Zs, Lv q3, Zs, Lv q4, Zs, Lv q5, Zs, Iv p6, Lv a0, Zs, Lv a1, Zs, Lv a2, Zs, Lv a3, Zs, Lv a4, Zs, Lv a5, Zs, Lv a6, Zs, Lv a7, Zs, Lv b0, Zs, Lv b1, Zs, Lv b2, Zs, Lv b3, Zs, Lv b4, Zs, Lv b5, Zs, Lv b6, Zs, Lv b7, Zs, Iv md, Rv b_80, Rv b_157, Us, Us, Us, Us, Us, Us, Us, Us] [(.ref b_262), (.ref b_262)])) tt_
    refine XS.iconst X_271.here hEX rfl (hb hBY at_288) ?_
    show Steps p.tables e below (T_271.setTop (mkF m 289 #[Lv q1, Zs, Lv q2, Zs, Lv q3, Zs, Lv q4, Zs, Lv q5, Zs, Iv p6, Lv a0, Zs, Lv a1, Zs, Lv a2, Zs, Lv a3, Zs, Lv a4, Zs, Lv a5, Zs, Lv a6, Zs, Lv a7, Zs, Lv b0, Zs, Lv b1, Zs, Lv b2, Zs, Lv b3, Zs, Lv b4, Zs, Lv b5, Zs, Lv b6, Zs, Lv b7, Zs, Iv md, Rv b_80, Rv b_157, Us, Us, Us, Us, Us, Us, Us, Us] [(.int (1 : Int32)), (.ref b_262), (.ref b_262)])) tt_
    refine XS.lload X_271.here hEX rfl (hb hBY at_289) rfl ?_
    exact kt_
  refine Done.pre sg_280 ?_
  obtain ⟨cl_279, Ar_279, q_279, S_279, N__279, H_279, G_279⟩ := id f_278
  have hin_279 : ¬ ((1 : Int32) < 0 ∨ cl_279.slots.size ≤ ((1 : Int32)).toNatClampNeg) := inb_of S_279 ⟨by decide, by decide⟩
  obtain ⟨T_281, h_281, X_281, e_281, W_281, st_281⟩ := stJ X_271 hEX hZW e_271 Ar_279 (j := (1 : Int32)) hin_279 (g := (mkF m 291 #[Lv q1, Zs, Lv q2, Zs, Lv q3, Zs, Lv q4, Zs, Lv q5, Zs, Iv p6, Lv a0, Zs, Lv a1, Zs, Lv a2, Zs, Lv a3, Zs, Lv a4, Zs, Lv a5, Zs, Lv a6, Zs, Lv a7, Zs, Lv b0, Zs, Lv b1, Zs, Lv b2, Zs, Lv b3, Zs, Lv b4, Zs, Lv b5, Zs, Lv b6, Zs, Lv b7, Zs, Iv md, Rv b_80, Rv b_157, Us, Us, Us, Us, Us, Us, Us, Us] [(.long b1), (.int (1 : Int32)), (.ref b_262), (.ref b_262)])) rfl rfl (hb hBY at_291)
  have N_281 := Fr.snoc X_281 N_271 ge_b_262
  have K__282 : Keep h0 h_281 [] := K__272.wr W_281 (Or.inr sz_b_262)
  have f_283 : Exa Z h_281 b_80 "[J" := f_273.wr W_281
  have f_284 : Arv Z h_281 b_80 k_80 .long (8 : Int32) [(.long a0), (.long a1), (.long a2), (.long a3), (.long a4), (.long a5), (.long a6), (.long a7)] (.long (0 : Int64)) := f_274.other W_281 ne_b_80_b_262
  have f_285 : Exa Z h_281 b_157 "[J" := f_275.wr W_281
  have f_286 : Arv Z h_281 b_157 k_157 .long (8 : Int32) [(.long b0), (.long b1), (.long b2), (.long b3), (.long b4), (.long b5), (.long b6), (.long b7)] (.long (0 : Int64)) := f_276.other W_281 ne_b_157_b_262
  have f_287 : Exa Z h_281 b_262 "[J" := f_277.wr W_281
  have f_288 : Arv Z h_281 b_262 k_262 .long (8 : Int32) [(.long b0), (.long b1), (.long (0 : Int64)), (.long (0 : Int64)), (.long (0 : Int64)), (.long (0 : Int64)), (.long (0 : Int64)), (.long (0 : Int64))] (.long (0 : Int64)) := Arv.set Ar_279 q_279 S_279 N__279 H_279 G_279 rfl W_281 1 rfl (Nat.le_of_ble_eq_true rfl)
  refine Done.pre st_281 ?_
  show Done _ _ _ _ _ _ _ (T_281.setTop (mkF m 292 #[Lv q1, Zs, Lv q2, Zs, Lv q3, Zs, Lv q4, Zs, Lv q5, Zs, Iv p6, Lv a0, Zs, Lv a1, Zs, Lv a2, Zs, Lv a3, Zs, Lv a4, Zs, Lv a5, Zs, Lv a6, Zs, Lv a7, Zs, Lv b0, Zs, Lv b1, Zs, Lv b2, Zs, Lv b3, Zs, Lv b4, Zs, Lv b5, Zs, Lv b6, Zs, Lv b7, Zs, Iv md, Rv b_80, Rv b_157, Us, Us, Us, Us, Us, Us, Us, Us] [(.ref b_262)]))
  have sg_290 : ∀ tt_, Steps p.tables e below (T_281.setTop (mkF m 296 #[Lv q1, Zs, Lv q2, Zs, Lv q3, Zs, Lv q4, Zs, Lv q5, Zs, Iv p6, Lv a0, Zs, Lv a1, Zs, Lv a2, Zs, Lv a3, Zs, Lv a4, Zs, Lv a5, Zs, Lv a6, Zs, Lv a7, Zs, Lv b0, Zs, Lv b1, Zs, Lv b2, Zs, Lv b3, Zs, Lv b4, Zs, Lv b5, Zs, Lv b6, Zs, Lv b7, Zs, Iv md, Rv b_80, Rv b_157, Us, Us, Us, Us, Us, Us, Us, Us] [(.long b2), (.int (2 : Int32)), (.ref b_262), (.ref b_262)])) tt_ → Steps p.tables e below (T_281.setTop (mkF m 292 #[Lv q1, Zs, Lv q2, Zs, Lv q3, Zs, Lv q4, Zs, Lv q5, Zs, Iv p6, Lv a0, Zs, Lv a1, Zs, Lv a2, Zs, Lv a3, Zs, Lv a4, Zs, Lv a5, Zs, Lv a6, Zs, Lv a7, Zs, Lv b0, Zs, Lv b1, Zs, Lv b2, Zs, Lv b3, Zs, Lv b4, Zs, Lv b5, Zs, Lv b6, Zs, Lv b7, Zs, Iv md, Rv b_80, Rv b_157, Us, Us, Us, Us, Us, Us, Us, Us] [(.ref b_262)])) tt_ := by
    intro tt_ kt_
    refine XS.dup X_281.here hEX rfl (hb hBY at_292) rfl rfl ?_
    show Steps p.tables e below (T_281.setTop (mkF m 293 #[Lv q1, Zs, Lv q2, Zs, Lv q3, Zs, Lv q4, Zs, Lv q5, Zs, Iv p6, Lv a0, Zs, Lv a1, Zs, Lv a2, Zs, Lv a3, Zs, Lv a4, Zs, Lv a5, Zs, Lv a6, Zs, Lv a7, Zs, Lv b0, Zs, Lv b1, Zs, Lv b2, Zs, Lv b3, Zs, Lv b4, Zs, Lv b5, Zs, Lv b6, Zs, Lv b7, Zs, Iv md, Rv b_80, Rv b_157, Us, Us, Us, Us, Us, Us, Us, Us] [(.ref b_262), (.ref b_262)])) tt_
    refine XS.iconst X_281.here hEX rfl (hb hBY at_293) ?_
    show Steps p.tables e below (T_281.setTop (mkF m 294 #[Lv q1, Zs, Lv q2, Zs, Lv q3, Zs, Lv q4, Zs, Lv q5, Zs, Iv p6, Lv a0, Zs, Lv a1, Zs, Lv a2, Zs, Lv a3, Zs, Lv a4, Zs, Lv a5, Zs, Lv a6, Zs, Lv a7, Zs, Lv b0, Zs, Lv b1, Zs, Lv b2, Zs, Lv b3, Zs, Lv b4, Zs, Lv b5, Zs, Lv b6, Zs, Lv b7, Zs, Iv md, Rv b_80, Rv b_157, Us, Us, Us, Us, Us, Us, Us, Us] [(.int (2 : Int32)), (.ref b_262), (.ref b_262)])) tt_
    refine XS.lload X_281.here hEX rfl (hb hBY at_294) rfl ?_
    exact kt_
  refine Done.pre sg_290 ?_
  obtain ⟨cl_289, Ar_289, q_289, S_289, N__289, H_289, G_289⟩ := id f_288
  have hin_289 : ¬ ((2 : Int32) < 0 ∨ cl_289.slots.size ≤ ((2 : Int32)).toNatClampNeg) := inb_of S_289 ⟨by decide, by decide⟩
  obtain ⟨T_291, h_291, X_291, e_291, W_291, st_291⟩ := stJ X_281 hEX hZW e_281 Ar_289 (j := (2 : Int32)) hin_289 (g := (mkF m 296 #[Lv q1, Zs, Lv q2, Zs, Lv q3, Zs, Lv q4, Zs, Lv q5, Zs, Iv p6, Lv a0, Zs, Lv a1, Zs, Lv a2, Zs, Lv a3, Zs, Lv a4, Zs, Lv a5, Zs, Lv a6, Zs, Lv a7, Zs, Lv b0, Zs, Lv b1, Zs, Lv b2, Zs, Lv b3, Zs, Lv b4, Zs, Lv b5, Zs, Lv b6, Zs, Lv b7, Zs, Iv md, Rv b_80, Rv b_157, Us, Us, Us, Us, Us, Us, Us, Us] [(.long b2), (.int (2 : Int32)), (.ref b_262), (.ref b_262)])) rfl rfl (hb hBY at_296)
  have N_291 := Fr.snoc X_291 N_281 ge_b_262
  have K__292 : Keep h0 h_291 [] := K__282.wr W_291 (Or.inr sz_b_262)
  have f_293 : Exa Z h_291 b_80 "[J" := f_283.wr W_291
  have f_294 : Arv Z h_291 b_80 k_80 .long (8 : Int32) [(.long a0), (.long a1), (.long a2), (.long a3), (.long a4), (.long a5), (.long a6), (.long a7)] (.long (0 : Int64)) := f_284.other W_291 ne_b_80_b_262
  have f_295 : Exa Z h_291 b_157 "[J" := f_285.wr W_291
  have f_296 : Arv Z h_291 b_157 k_157 .long (8 : Int32) [(.long b0), (.long b1), (.long b2), (.long b3), (.long b4), (.long b5), (.long b6), (.long b7)] (.long (0 : Int64)) := f_286.other W_291 ne_b_157_b_262
  have f_297 : Exa Z h_291 b_262 "[J" := f_287.wr W_291
  have f_298 : Arv Z h_291 b_262 k_262 .long (8 : Int32) [(.long b0), (.long b1), (.long b2), (.long (0 : Int64)), (.long (0 : Int64)), (.long (0 : Int64)), (.long (0 : Int64)), (.long (0 : Int64))] (.long (0 : Int64)) := Arv.set Ar_289 q_289 S_289 N__289 H_289 G_289 rfl W_291 2 rfl (Nat.le_of_ble_eq_true rfl)
  refine Done.pre st_291 ?_
  show Done _ _ _ _ _ _ _ (T_291.setTop (mkF m 297 #[Lv q1, Zs, Lv q2, Zs, Lv q3, Zs, Lv q4, Zs, Lv q5, Zs, Iv p6, Lv a0, Zs, Lv a1, Zs, Lv a2, Zs, Lv a3, Zs, Lv a4, Zs, Lv a5, Zs, Lv a6, Zs, Lv a7, Zs, Lv b0, Zs, Lv b1, Zs, Lv b2, Zs, Lv b3, Zs, Lv b4, Zs, Lv b5, Zs, Lv b6, Zs, Lv b7, Zs, Iv md, Rv b_80, Rv b_157, Us, Us, Us, Us, Us, Us, Us, Us] [(.ref b_262)]))
  have sg_300 : ∀ tt_, Steps p.tables e below (T_291.setTop (mkF m 301 #[Lv q1, Zs, Lv q2, Zs, Lv q3, Zs, Lv q4, Zs, Lv q5, Zs, Iv p6, Lv a0, Zs, Lv a1, Zs, Lv a2, Zs, Lv a3, Zs, Lv a4, Zs, Lv a5, Zs, Lv a6, Zs, Lv a7, Zs, Lv b0, Zs, Lv b1, Zs, Lv b2, Zs, Lv b3, Zs, Lv b4, Zs, Lv b5, Zs, Lv b6, Zs, Lv b7, Zs, Iv md, Rv b_80, Rv b_157, Us, Us, Us, Us, Us, Us, Us, Us] [(.long b3), (.int (3 : Int32)), (.ref b_262), (.ref b_262)])) tt_ → Steps p.tables e below (T_291.setTop (mkF m 297 #[Lv q1, Zs, Lv q2, Zs, Lv q3, Zs, Lv q4, Zs, Lv q5, Zs, Iv p6, Lv a0, Zs, Lv a1, Zs, Lv a2, Zs, Lv a3, Zs, Lv a4, Zs, Lv a5, Zs, Lv a6, Zs, Lv a7, Zs, Lv b0, Zs, Lv b1, Zs, Lv b2, Zs, Lv b3, Zs, Lv b4, Zs, Lv b5, Zs, Lv b6, Zs, Lv b7, Zs, Iv md, Rv b_80, Rv b_157, Us, Us, Us, Us, Us, Us, Us, Us] [(.ref b_262)])) tt_ := by
    intro tt_ kt_
    refine XS.dup X_291.here hEX rfl (hb hBY at_297) rfl rfl ?_
    show Steps p.tables e below (T_291.setTop (mkF m 298 #[Lv q1, Zs, Lv q2, Zs, Lv q3, Zs, Lv q4, Zs, Lv q5, Zs, Iv p6, Lv a0, Zs, Lv a1, Zs, Lv a2, Zs, Lv a3, Zs, Lv a4, Zs, Lv a5, Zs, Lv a6, Zs, Lv a7, Zs, Lv b0, Zs, Lv b1, Zs, Lv b2, Zs, Lv b3, Zs, Lv b4, Zs, Lv b5, Zs, Lv b6, Zs, Lv b7, Zs, Iv md, Rv b_80, Rv b_157, Us, Us, Us, Us, Us, Us, Us, Us] [(.ref b_262), (.ref b_262)])) tt_
    refine XS.iconst X_291.here hEX rfl (hb hBY at_298) ?_
    show Steps p.tables e below (T_291.setTop (mkF m 299 #[Lv q1, Zs, Lv q2, Zs, Lv q3, Zs, Lv q4, Zs, Lv q5, Zs, Iv p6, Lv a0, Zs, Lv a1, Zs, Lv a2, Zs, Lv a3, Zs, Lv a4, Zs, Lv a5, Zs, Lv a6, Zs, Lv a7, Zs, Lv b0, Zs, Lv b1, Zs, Lv b2, Zs, Lv b3, Zs, Lv b4, Zs, Lv b5, Zs, Lv b6, Zs, Lv b7, Zs, Iv md, Rv b_80, Rv b_157, Us, Us, Us, Us, Us, Us, Us, Us] [(.int (3 : Int32)), (.ref b_262), (.ref b_262)])) tt_
    refine XS.lload X_291.here hEX rfl (hb hBY at_299) rfl ?_
    exact kt_
  refine Done.pre sg_300 ?_
  obtain ⟨cl_299, Ar_299, q_299, S_299, N__299, H_299, G_299⟩ := id f_298
  have hin_299 : ¬ ((3 : Int32) < 0 ∨ cl_299.slots.size ≤ ((3 : Int32)).toNatClampNeg) := inb_of S_299 ⟨by decide, by decide⟩
  obtain ⟨T_301, h_301, X_301, e_301, W_301, st_301⟩ := stJ X_291 hEX hZW e_291 Ar_299 (j := (3 : Int32)) hin_299 (g := (mkF m 301 #[Lv q1, Zs, Lv q2, Zs, Lv q3, Zs, Lv q4, Zs, Lv q5, Zs, Iv p6, Lv a0, Zs, Lv a1, Zs, Lv a2, Zs, Lv a3, Zs, Lv a4, Zs, Lv a5, Zs, Lv a6, Zs, Lv a7, Zs, Lv b0, Zs, Lv b1, Zs, Lv b2, Zs, Lv b3, Zs, Lv b4, Zs, Lv b5, Zs, Lv b6, Zs, Lv b7, Zs, Iv md, Rv b_80, Rv b_157, Us, Us, Us, Us, Us, Us, Us, Us] [(.long b3), (.int (3 : Int32)), (.ref b_262), (.ref b_262)])) rfl rfl (hb hBY at_301)
  have N_301 := Fr.snoc X_301 N_291 ge_b_262
  have K__302 : Keep h0 h_301 [] := K__292.wr W_301 (Or.inr sz_b_262)
  have f_303 : Exa Z h_301 b_80 "[J" := f_293.wr W_301
  have f_304 : Arv Z h_301 b_80 k_80 .long (8 : Int32) [(.long a0), (.long a1), (.long a2), (.long a3), (.long a4), (.long a5), (.long a6), (.long a7)] (.long (0 : Int64)) := f_294.other W_301 ne_b_80_b_262
  have f_305 : Exa Z h_301 b_157 "[J" := f_295.wr W_301
  have f_306 : Arv Z h_301 b_157 k_157 .long (8 : Int32) [(.long b0), (.long b1), (.long b2), (.long b3), (.long b4), (.long b5), (.long b6), (.long b7)] (.long (0 : Int64)) := f_296.other W_301 ne_b_157_b_262
  have f_307 : Exa Z h_301 b_262 "[J" := f_297.wr W_301
  have f_308 : Arv Z h_301 b_262 k_262 .long (8 : Int32) [(.long b0), (.long b1), (.long b2), (.long b3), (.long (0 : Int64)), (.long (0 : Int64)), (.long (0 : Int64)), (.long (0 : Int64))] (.long (0 : Int64)) := Arv.set Ar_299 q_299 S_299 N__299 H_299 G_299 rfl W_301 3 rfl (Nat.le_of_ble_eq_true rfl)
  refine Done.pre st_301 ?_
  show Done _ _ _ _ _ _ _ (T_301.setTop (mkF m 302 #[Lv q1, Zs, Lv q2, Zs, Lv q3, Zs, Lv q4, Zs, Lv q5, Zs, Iv p6, Lv a0, Zs, Lv a1, Zs, Lv a2, Zs, Lv a3, Zs, Lv a4, Zs, Lv a5, Zs, Lv a6, Zs, Lv a7, Zs, Lv b0, Zs, Lv b1, Zs, Lv b2, Zs, Lv b3, Zs, Lv b4, Zs, Lv b5, Zs, Lv b6, Zs, Lv b7, Zs, Iv md, Rv b_80, Rv b_157, Us, Us, Us, Us, Us, Us, Us, Us] [(.ref b_262)]))
  show Done _ _ _ _ _ _ _ (T_301.setTop (mkF m 302 #[Lv q1, Zs, Lv q2, Zs, Lv q3, Zs, Lv q4, Zs, Lv q5, Zs, Iv p6, Lv a0, Zs, Lv a1, Zs, Lv a2, Zs, Lv a3, Zs, Lv a4, Zs, Lv a5, Zs, Lv a6, Zs, Lv a7, Zs, Lv b0, Zs, Lv b1, Zs, Lv b2, Zs, Lv b3, Zs, Lv b4, Zs, Lv b5, Zs, Lv b6, Zs, Lv b7, Zs, Iv md, Rv b_80, Rv b_157, Us, Us, Us, Us, Us, Us, Us, Us] [(.ref b_262)]))
  exact rm0_j302 l Z aZ hw ws q1 q2 q3 q4 q5 p6 h0 n0 Z0 p e s m below meth cO hEX hBY hMX hOW hNM hLK hRT hZW a0 a1 a2 a3 a4 a5 a6 a7 md b0 b1 b2 b3 b4 b5 b6 b7 b_80 k_80 b_157 k_157 b_262 k_262 T_301 h_301 _ X_301 e_301 N_301 K__302 f_303 f_304 f_305 f_306 f_307 f_308 hRa hm4 hRb hEq ne_256 ne_b_80_b_262 ne_b_157_b_262 ge_257 ge_258 ge_b_262 sz_259 sz_260 sz_b_262
set_option maxRecDepth 65536 in
set_option maxHeartbeats 40000000 in
theorem rm0_j254 (l : Launch) (Z : State) (aZ : Array Value) (hw : ∀ d ∈ tables_1, d.before aZ Z = true) (ws : List Jvm.Cond) (q1 : Int64) (q2 : Int64) (q3 : Int64) (q4 : Int64) (q5 : Int64) (p6 : Int32) (h0 : Heap) (n0 : Nat) (Z0 : n0 ≤ h0.size)
    (p : Program) (e : Env) (s : State) (m : MethodId) (below : List Frame) (meth : Method) (cO : Code) (hEX : p.tables.exec = Jvm.exec) (hBY : cO.code = code) (hMX : cO.maxLocals = 54) (hOW : s.vm.findClass "com/example/guard3/guard3/P384FieldSubtractPinLaw" = some m.cls) (hNM : meth.name = x.name) (hLK : meth.locks = false) (hRT : meth.sig.returnType = ret) (hZW : Z.Warmed39 s.vm)
    (a0 : Int64) (a1 : Int64) (a2 : Int64) (a3 : Int64) (a4 : Int64) (a5 : Int64) (a6 : Int64) (a7 : Int64) (md : Int32) (b0 : Int64) (b1 : Int64) (b2 : Int64) (b3 : Int64) (b4 : Int64) (b5 : Int64) (b6 : Int64) (b7 : Int64) (b_80 : Addr) (k_80 : ClassId) (b_157 : Addr) (k_157 : ClassId) (T_195 : State) (h_196 : Heap) (L_197 : List Loc) (X_198 : Stand p l e room_1 s m #[(.long q1), (.long q2), (.long q3), (.long q4), (.long q5), (.int p6)] below meth cO T_195 L_197 2 16) (e_199 : T_195.heap = h_196) (N_200 : Fr n0 L_197) (K__201 : Keep h0 h_196 []) (f_202 : Exa Z h_196 b_80 "[J") (f_203 : Arv Z h_196 b_80 k_80 .long (8 : Int32) [(.long a0), (.long a1), (.long a2), (.long a3), (.long a4), (.long a5), (.long a6), (.long a7)] (.long (0 : Int64))) (f_204 : Exa Z h_196 b_157 "[J") (f_205 : Arv Z h_196 b_157 k_157 .long (8 : Int32) [(.long b0), (.long b1), (.long b2), (.long b3), (.long (0 : Int64)), (.long (0 : Int64)), (.long (0 : Int64)), (.long (0 : Int64))] (.long (0 : Int64))) (hRa : own_R 1125899906842624 a0 a1 a2 a3 a4 a5 a6 a7) (hm4 : md = (0 : Int32) ∨ md = (1 : Int32) ∨ md = (2 : Int32) ∨ md = (3 : Int32)) (hRb : own_R 1125899906842624 b0 b1 b2 b3 b4 b5 b6 b7) (hEq : md = (3 : Int32) → a0 = b0 ∧ a1 = b1 ∧ a2 = b2 ∧ a3 = b3 ∧ a4 = b4 ∧ a5 = b5 ∧ a6 = b6 ∧ a7 = b7) (ne_206 : b_80 ≠ b_157) (ge_207 : n0 ≤ b_80) (ge_208 : n0 ≤ b_157) (sz_209 : h0.size ≤ b_80) (sz_210 : h0.size ≤ b_157) :
    Done p e below s (Qrm0 Z q1 q2 q3 q4 q5 p6 h0 n0) room_1.cells room_1.slots (T_195.setTop (mkF m 254 #[Lv q1, Zs, Lv q2, Zs, Lv q3, Zs, Lv q4, Zs, Lv q5, Zs, Iv p6, Lv a0, Zs, Lv a1, Zs, Lv a2, Zs, Lv a3, Zs, Lv a4, Zs, Lv a5, Zs, Lv a6, Zs, Lv a7, Zs, Lv b0, Zs, Lv b1, Zs, Lv b2, Zs, Lv b3, Zs, Lv b4, Zs, Lv b5, Zs, Lv b6, Zs, Lv b7, Zs, Iv md, Rv b_80, Us, Us, Us, Us, Us, Us, Us, Us, Us] [(.ref b_157)])) := by
  have sg_212 : ∀ tt_, Steps p.tables e below (T_195.setTop (mkF m 258 #[Lv q1, Zs, Lv q2, Zs, Lv q3, Zs, Lv q4, Zs, Lv q5, Zs, Iv p6, Lv a0, Zs, Lv a1, Zs, Lv a2, Zs, Lv a3, Zs, Lv a4, Zs, Lv a5, Zs, Lv a6, Zs, Lv a7, Zs, Lv b0, Zs, Lv b1, Zs, Lv b2, Zs, Lv b3, Zs, Lv b4, Zs, Lv b5, Zs, Lv b6, Zs, Lv b7, Zs, Iv md, Rv b_80, Us, Us, Us, Us, Us, Us, Us, Us, Us] [(.long b4), (.int (4 : Int32)), (.ref b_157), (.ref b_157)])) tt_ → Steps p.tables e below (T_195.setTop (mkF m 254 #[Lv q1, Zs, Lv q2, Zs, Lv q3, Zs, Lv q4, Zs, Lv q5, Zs, Iv p6, Lv a0, Zs, Lv a1, Zs, Lv a2, Zs, Lv a3, Zs, Lv a4, Zs, Lv a5, Zs, Lv a6, Zs, Lv a7, Zs, Lv b0, Zs, Lv b1, Zs, Lv b2, Zs, Lv b3, Zs, Lv b4, Zs, Lv b5, Zs, Lv b6, Zs, Lv b7, Zs, Iv md, Rv b_80, Us, Us, Us, Us, Us, Us, Us, Us, Us] [(.ref b_157)])) tt_ := by
    intro tt_ kt_
    refine XS.dup X_198.here hEX rfl (hb hBY at_254) rfl rfl ?_
    show Steps p.tables e below (T_195.setTop (mkF m 255 #[Lv q1, Zs, Lv q2, Zs, Lv q3, Zs, Lv q4, Zs, Lv q5, Zs, Iv p6, Lv a0, Zs, Lv a1, Zs, Lv a2, Zs, Lv a3, Zs, Lv a4, Zs, Lv a5, Zs, Lv a6, Zs, Lv a7, Zs, Lv b0, Zs, Lv b1, Zs, Lv b2, Zs, Lv b3, Zs, Lv b4, Zs, Lv b5, Zs, Lv b6, Zs, Lv b7, Zs, Iv md, Rv b_80, Us, Us, Us, Us, Us, Us, Us, Us, Us] [(.ref b_157), (.ref b_157)])) tt_
    refine XS.iconst X_198.here hEX rfl (hb hBY at_255) ?_
    show Steps p.tables e below (T_195.setTop (mkF m 256 #[Lv q1, Zs, Lv q2, Zs, Lv q3, Zs, Lv q4, Zs, Lv q5, Zs, Iv p6, Lv a0, Zs, Lv a1, Zs, Lv a2, Zs, Lv a3, Zs, Lv a4, Zs, Lv a5, Zs, Lv a6, Zs, Lv a7, Zs, Lv b0, Zs, Lv b1, Zs, Lv b2, Zs, Lv b3, Zs, Lv b4, Zs, Lv b5, Zs, Lv b6, Zs, Lv b7, Zs, Iv md, Rv b_80, Us, Us, Us, Us, Us, Us, Us, Us, Us] [(.int (4 : Int32)), (.ref b_157), (.ref b_157)])) tt_
    refine XS.lload X_198.here hEX rfl (hb hBY at_256) rfl ?_
    exact kt_
  refine Done.pre sg_212 ?_
  obtain ⟨cl_211, Ar_211, q_211, S_211, N__211, H_211, G_211⟩ := id f_205
  have hin_211 : ¬ ((4 : Int32) < 0 ∨ cl_211.slots.size ≤ ((4 : Int32)).toNatClampNeg) := inb_of S_211 ⟨by decide, by decide⟩
  obtain ⟨T_213, h_213, X_213, e_213, W_213, st_213⟩ := stJ X_198 hEX hZW e_199 Ar_211 (j := (4 : Int32)) hin_211 (g := (mkF m 258 #[Lv q1, Zs, Lv q2, Zs, Lv q3, Zs, Lv q4, Zs, Lv q5, Zs, Iv p6, Lv a0, Zs, Lv a1, Zs, Lv a2, Zs, Lv a3, Zs, Lv a4, Zs, Lv a5, Zs, Lv a6, Zs, Lv a7, Zs, Lv b0, Zs, Lv b1, Zs, Lv b2, Zs, Lv b3, Zs, Lv b4, Zs, Lv b5, Zs, Lv b6, Zs, Lv b7, Zs, Iv md, Rv b_80, Us, Us, Us, Us, Us, Us, Us, Us, Us] [(.long b4), (.int (4 : Int32)), (.ref b_157), (.ref b_157)])) rfl rfl (hb hBY at_258)
  have N_213 := Fr.snoc X_213 N_200 ge_208
  have K__214 : Keep h0 h_213 [] := K__201.wr W_213 (Or.inr sz_210)
  have f_215 : Exa Z h_213 b_80 "[J" := f_202.wr W_213
  have f_216 : Arv Z h_213 b_80 k_80 .long (8 : Int32) [(.long a0), (.long a1), (.long a2), (.long a3), (.long a4), (.long a5), (.long a6), (.long a7)] (.long (0 : Int64)) := f_203.other W_213 ne_206
  have f_217 : Exa Z h_213 b_157 "[J" := f_204.wr W_213
  have f_218 : Arv Z h_213 b_157 k_157 .long (8 : Int32) [(.long b0), (.long b1), (.long b2), (.long b3), (.long b4), (.long (0 : Int64)), (.long (0 : Int64)), (.long (0 : Int64))] (.long (0 : Int64)) := Arv.set Ar_211 q_211 S_211 N__211 H_211 G_211 rfl W_213 4 rfl (Nat.le_of_ble_eq_true rfl)
  refine Done.pre st_213 ?_
  show Done _ _ _ _ _ _ _ (T_213.setTop (mkF m 259 #[Lv q1, Zs, Lv q2, Zs, Lv q3, Zs, Lv q4, Zs, Lv q5, Zs, Iv p6, Lv a0, Zs, Lv a1, Zs, Lv a2, Zs, Lv a3, Zs, Lv a4, Zs, Lv a5, Zs, Lv a6, Zs, Lv a7, Zs, Lv b0, Zs, Lv b1, Zs, Lv b2, Zs, Lv b3, Zs, Lv b4, Zs, Lv b5, Zs, Lv b6, Zs, Lv b7, Zs, Iv md, Rv b_80, Us, Us, Us, Us, Us, Us, Us, Us, Us] [(.ref b_157)]))
  have sg_220 : ∀ tt_, Steps p.tables e below (T_213.setTop (mkF m 263 #[Lv q1, Zs, Lv q2, Zs, Lv q3, Zs, Lv q4, Zs, Lv q5, Zs, Iv p6, Lv a0, Zs, Lv a1, Zs, Lv a2, Zs, Lv a3, Zs, Lv a4, Zs, Lv a5, Zs, Lv a6, Zs, Lv a7, Zs, Lv b0, Zs, Lv b1, Zs, Lv b2, Zs, Lv b3, Zs, Lv b4, Zs, Lv b5, Zs, Lv b6, Zs, Lv b7, Zs, Iv md, Rv b_80, Us, Us, Us, Us, Us, Us, Us, Us, Us] [(.long b5), (.int (5 : Int32)), (.ref b_157), (.ref b_157)])) tt_ → Steps p.tables e below (T_213.setTop (mkF m 259 #[Lv q1, Zs, Lv q2, Zs, Lv q3, Zs, Lv q4, Zs, Lv q5, Zs, Iv p6, Lv a0, Zs, Lv a1, Zs, Lv a2, Zs, Lv a3, Zs, Lv a4, Zs, Lv a5, Zs, Lv a6, Zs, Lv a7, Zs, Lv b0, Zs, Lv b1, Zs, Lv b2, Zs, Lv b3, Zs, Lv b4, Zs, Lv b5, Zs, Lv b6, Zs, Lv b7, Zs, Iv md, Rv b_80, Us, Us, Us, Us, Us, Us, Us, Us, Us] [(.ref b_157)])) tt_ := by
    intro tt_ kt_
    refine XS.dup X_213.here hEX rfl (hb hBY at_259) rfl rfl ?_
    show Steps p.tables e below (T_213.setTop (mkF m 260 #[Lv q1, Zs, Lv q2, Zs, Lv q3, Zs, Lv q4, Zs, Lv q5, Zs, Iv p6, Lv a0, Zs, Lv a1, Zs, Lv a2, Zs, Lv a3, Zs, Lv a4, Zs, Lv a5, Zs, Lv a6, Zs, Lv a7, Zs, Lv b0, Zs, Lv b1, Zs, Lv b2, Zs, Lv b3, Zs, Lv b4, Zs, Lv b5, Zs, Lv b6, Zs, Lv b7, Zs, Iv md, Rv b_80, Us, Us, Us, Us, Us, Us, Us, Us, Us] [(.ref b_157), (.ref b_157)])) tt_
    refine XS.iconst X_213.here hEX rfl (hb hBY at_260) ?_
    show Steps p.tables e below (T_213.setTop (mkF m 261 #[Lv q1, Zs, Lv q2, Zs, Lv q3, Zs, Lv q4, Zs, Lv q5, Zs, Iv p6, Lv a0, Zs, Lv a1, Zs, Lv a2, Zs, Lv a3, Zs, Lv a4, Zs, Lv a5, Zs, Lv a6, Zs, Lv a7, Zs, Lv b0, Zs, Lv b1, Zs, Lv b2, Zs, Lv b3, Zs, Lv b4, Zs, Lv b5, Zs, Lv b6, Zs, Lv b7, Zs, Iv md, Rv b_80, Us, Us, Us, Us, Us, Us, Us, Us, Us] [(.int (5 : Int32)), (.ref b_157), (.ref b_157)])) tt_
    refine XS.lload X_213.here hEX rfl (hb hBY at_261) rfl ?_
    exact kt_
  refine Done.pre sg_220 ?_
  obtain ⟨cl_219, Ar_219, q_219, S_219, N__219, H_219, G_219⟩ := id f_218
  have hin_219 : ¬ ((5 : Int32) < 0 ∨ cl_219.slots.size ≤ ((5 : Int32)).toNatClampNeg) := inb_of S_219 ⟨by decide, by decide⟩
  obtain ⟨T_221, h_221, X_221, e_221, W_221, st_221⟩ := stJ X_213 hEX hZW e_213 Ar_219 (j := (5 : Int32)) hin_219 (g := (mkF m 263 #[Lv q1, Zs, Lv q2, Zs, Lv q3, Zs, Lv q4, Zs, Lv q5, Zs, Iv p6, Lv a0, Zs, Lv a1, Zs, Lv a2, Zs, Lv a3, Zs, Lv a4, Zs, Lv a5, Zs, Lv a6, Zs, Lv a7, Zs, Lv b0, Zs, Lv b1, Zs, Lv b2, Zs, Lv b3, Zs, Lv b4, Zs, Lv b5, Zs, Lv b6, Zs, Lv b7, Zs, Iv md, Rv b_80, Us, Us, Us, Us, Us, Us, Us, Us, Us] [(.long b5), (.int (5 : Int32)), (.ref b_157), (.ref b_157)])) rfl rfl (hb hBY at_263)
  have N_221 := Fr.snoc X_221 N_213 ge_208
  have K__222 : Keep h0 h_221 [] := K__214.wr W_221 (Or.inr sz_210)
  have f_223 : Exa Z h_221 b_80 "[J" := f_215.wr W_221
  have f_224 : Arv Z h_221 b_80 k_80 .long (8 : Int32) [(.long a0), (.long a1), (.long a2), (.long a3), (.long a4), (.long a5), (.long a6), (.long a7)] (.long (0 : Int64)) := f_216.other W_221 ne_206
  have f_225 : Exa Z h_221 b_157 "[J" := f_217.wr W_221
  have f_226 : Arv Z h_221 b_157 k_157 .long (8 : Int32) [(.long b0), (.long b1), (.long b2), (.long b3), (.long b4), (.long b5), (.long (0 : Int64)), (.long (0 : Int64))] (.long (0 : Int64)) := Arv.set Ar_219 q_219 S_219 N__219 H_219 G_219 rfl W_221 5 rfl (Nat.le_of_ble_eq_true rfl)
  refine Done.pre st_221 ?_
  show Done _ _ _ _ _ _ _ (T_221.setTop (mkF m 264 #[Lv q1, Zs, Lv q2, Zs, Lv q3, Zs, Lv q4, Zs, Lv q5, Zs, Iv p6, Lv a0, Zs, Lv a1, Zs, Lv a2, Zs, Lv a3, Zs, Lv a4, Zs, Lv a5, Zs, Lv a6, Zs, Lv a7, Zs, Lv b0, Zs, Lv b1, Zs, Lv b2, Zs, Lv b3, Zs, Lv b4, Zs, Lv b5, Zs, Lv b6, Zs, Lv b7, Zs, Iv md, Rv b_80, Us, Us, Us, Us, Us, Us, Us, Us, Us] [(.ref b_157)]))
  have sg_228 : ∀ tt_, Steps p.tables e below (T_221.setTop (mkF m 269 #[Lv q1, Zs, Lv q2, Zs, Lv q3, Zs, Lv q4, Zs, Lv q5, Zs, Iv p6, Lv a0, Zs, Lv a1, Zs, Lv a2, Zs, Lv a3, Zs, Lv a4, Zs, Lv a5, Zs, Lv a6, Zs, Lv a7, Zs, Lv b0, Zs, Lv b1, Zs, Lv b2, Zs, Lv b3, Zs, Lv b4, Zs, Lv b5, Zs, Lv b6, Zs, Lv b7, Zs, Iv md, Rv b_80, Us, Us, Us, Us, Us, Us, Us, Us, Us] [(.long b6), (.int (6 : Int32)), (.ref b_157), (.ref b_157)])) tt_ → Steps p.tables e below (T_221.setTop (mkF m 264 #[Lv q1, Zs, Lv q2, Zs, Lv q3, Zs, Lv q4, Zs, Lv q5, Zs, Iv p6, Lv a0, Zs, Lv a1, Zs, Lv a2, Zs, Lv a3, Zs, Lv a4, Zs, Lv a5, Zs, Lv a6, Zs, Lv a7, Zs, Lv b0, Zs, Lv b1, Zs, Lv b2, Zs, Lv b3, Zs, Lv b4, Zs, Lv b5, Zs, Lv b6, Zs, Lv b7, Zs, Iv md, Rv b_80, Us, Us, Us, Us, Us, Us, Us, Us, Us] [(.ref b_157)])) tt_ := by
    intro tt_ kt_
    refine XS.dup X_221.here hEX rfl (hb hBY at_264) rfl rfl ?_
    show Steps p.tables e below (T_221.setTop (mkF m 265 #[Lv q1, Zs, Lv q2, Zs, Lv q3, Zs, Lv q4, Zs, Lv q5, Zs, Iv p6, Lv a0, Zs, Lv a1, Zs, Lv a2, Zs, Lv a3, Zs, Lv a4, Zs, Lv a5, Zs, Lv a6, Zs, Lv a7, Zs, Lv b0, Zs, Lv b1, Zs, Lv b2, Zs, Lv b3, Zs, Lv b4, Zs, Lv b5, Zs, Lv b6, Zs, Lv b7, Zs, Iv md, Rv b_80, Us, Us, Us, Us, Us, Us, Us, Us, Us] [(.ref b_157), (.ref b_157)])) tt_
    refine XS.bipush X_221.here hEX rfl (hb hBY at_265) ?_
    show Steps p.tables e below (T_221.setTop (mkF m 267 #[Lv q1, Zs, Lv q2, Zs, Lv q3, Zs, Lv q4, Zs, Lv q5, Zs, Iv p6, Lv a0, Zs, Lv a1, Zs, Lv a2, Zs, Lv a3, Zs, Lv a4, Zs, Lv a5, Zs, Lv a6, Zs, Lv a7, Zs, Lv b0, Zs, Lv b1, Zs, Lv b2, Zs, Lv b3, Zs, Lv b4, Zs, Lv b5, Zs, Lv b6, Zs, Lv b7, Zs, Iv md, Rv b_80, Us, Us, Us, Us, Us, Us, Us, Us, Us] [(.int (6 : Int32)), (.ref b_157), (.ref b_157)])) tt_
    refine XS.lload X_221.here hEX rfl (hb hBY at_267) rfl ?_
    exact kt_
  refine Done.pre sg_228 ?_
  obtain ⟨cl_227, Ar_227, q_227, S_227, N__227, H_227, G_227⟩ := id f_226
  have hin_227 : ¬ ((6 : Int32) < 0 ∨ cl_227.slots.size ≤ ((6 : Int32)).toNatClampNeg) := inb_of S_227 ⟨by decide, by decide⟩
  obtain ⟨T_229, h_229, X_229, e_229, W_229, st_229⟩ := stJ X_221 hEX hZW e_221 Ar_227 (j := (6 : Int32)) hin_227 (g := (mkF m 269 #[Lv q1, Zs, Lv q2, Zs, Lv q3, Zs, Lv q4, Zs, Lv q5, Zs, Iv p6, Lv a0, Zs, Lv a1, Zs, Lv a2, Zs, Lv a3, Zs, Lv a4, Zs, Lv a5, Zs, Lv a6, Zs, Lv a7, Zs, Lv b0, Zs, Lv b1, Zs, Lv b2, Zs, Lv b3, Zs, Lv b4, Zs, Lv b5, Zs, Lv b6, Zs, Lv b7, Zs, Iv md, Rv b_80, Us, Us, Us, Us, Us, Us, Us, Us, Us] [(.long b6), (.int (6 : Int32)), (.ref b_157), (.ref b_157)])) rfl rfl (hb hBY at_269)
  have N_229 := Fr.snoc X_229 N_221 ge_208
  have K__230 : Keep h0 h_229 [] := K__222.wr W_229 (Or.inr sz_210)
  have f_231 : Exa Z h_229 b_80 "[J" := f_223.wr W_229
  have f_232 : Arv Z h_229 b_80 k_80 .long (8 : Int32) [(.long a0), (.long a1), (.long a2), (.long a3), (.long a4), (.long a5), (.long a6), (.long a7)] (.long (0 : Int64)) := f_224.other W_229 ne_206
  have f_233 : Exa Z h_229 b_157 "[J" := f_225.wr W_229
  have f_234 : Arv Z h_229 b_157 k_157 .long (8 : Int32) [(.long b0), (.long b1), (.long b2), (.long b3), (.long b4), (.long b5), (.long b6), (.long (0 : Int64))] (.long (0 : Int64)) := Arv.set Ar_227 q_227 S_227 N__227 H_227 G_227 rfl W_229 6 rfl (Nat.le_of_ble_eq_true rfl)
  refine Done.pre st_229 ?_
  show Done _ _ _ _ _ _ _ (T_229.setTop (mkF m 270 #[Lv q1, Zs, Lv q2, Zs, Lv q3, Zs, Lv q4, Zs, Lv q5, Zs, Iv p6, Lv a0, Zs, Lv a1, Zs, Lv a2, Zs, Lv a3, Zs, Lv a4, Zs, Lv a5, Zs, Lv a6, Zs, Lv a7, Zs, Lv b0, Zs, Lv b1, Zs, Lv b2, Zs, Lv b3, Zs, Lv b4, Zs, Lv b5, Zs, Lv b6, Zs, Lv b7, Zs, Iv md, Rv b_80, Us, Us, Us, Us, Us, Us, Us, Us, Us] [(.ref b_157)]))
  have sg_236 : ∀ tt_, Steps p.tables e below (T_229.setTop (mkF m 275 #[Lv q1, Zs, Lv q2, Zs, Lv q3, Zs, Lv q4, Zs, Lv q5, Zs, Iv p6, Lv a0, Zs, Lv a1, Zs, Lv a2, Zs, Lv a3, Zs, Lv a4, Zs, Lv a5, Zs, Lv a6, Zs, Lv a7, Zs, Lv b0, Zs, Lv b1, Zs, Lv b2, Zs, Lv b3, Zs, Lv b4, Zs, Lv b5, Zs, Lv b6, Zs, Lv b7, Zs, Iv md, Rv b_80, Us, Us, Us, Us, Us, Us, Us, Us, Us] [(.long b7), (.int (7 : Int32)), (.ref b_157), (.ref b_157)])) tt_ → Steps p.tables e below (T_229.setTop (mkF m 270 #[Lv q1, Zs, Lv q2, Zs, Lv q3, Zs, Lv q4, Zs, Lv q5, Zs, Iv p6, Lv a0, Zs, Lv a1, Zs, Lv a2, Zs, Lv a3, Zs, Lv a4, Zs, Lv a5, Zs, Lv a6, Zs, Lv a7, Zs, Lv b0, Zs, Lv b1, Zs, Lv b2, Zs, Lv b3, Zs, Lv b4, Zs, Lv b5, Zs, Lv b6, Zs, Lv b7, Zs, Iv md, Rv b_80, Us, Us, Us, Us, Us, Us, Us, Us, Us] [(.ref b_157)])) tt_ := by
    intro tt_ kt_
    refine XS.dup X_229.here hEX rfl (hb hBY at_270) rfl rfl ?_
    show Steps p.tables e below (T_229.setTop (mkF m 271 #[Lv q1, Zs, Lv q2, Zs, Lv q3, Zs, Lv q4, Zs, Lv q5, Zs, Iv p6, Lv a0, Zs, Lv a1, Zs, Lv a2, Zs, Lv a3, Zs, Lv a4, Zs, Lv a5, Zs, Lv a6, Zs, Lv a7, Zs, Lv b0, Zs, Lv b1, Zs, Lv b2, Zs, Lv b3, Zs, Lv b4, Zs, Lv b5, Zs, Lv b6, Zs, Lv b7, Zs, Iv md, Rv b_80, Us, Us, Us, Us, Us, Us, Us, Us, Us] [(.ref b_157), (.ref b_157)])) tt_
    refine XS.bipush X_229.here hEX rfl (hb hBY at_271) ?_
    show Steps p.tables e below (T_229.setTop (mkF m 273 #[Lv q1, Zs, Lv q2, Zs, Lv q3, Zs, Lv q4, Zs, Lv q5, Zs, Iv p6, Lv a0, Zs, Lv a1, Zs, Lv a2, Zs, Lv a3, Zs, Lv a4, Zs, Lv a5, Zs, Lv a6, Zs, Lv a7, Zs, Lv b0, Zs, Lv b1, Zs, Lv b2, Zs, Lv b3, Zs, Lv b4, Zs, Lv b5, Zs, Lv b6, Zs, Lv b7, Zs, Iv md, Rv b_80, Us, Us, Us, Us, Us, Us, Us, Us, Us] [(.int (7 : Int32)), (.ref b_157), (.ref b_157)])) tt_
    refine XS.lload X_229.here hEX rfl (hb hBY at_273) rfl ?_
    exact kt_
  refine Done.pre sg_236 ?_
  obtain ⟨cl_235, Ar_235, q_235, S_235, N__235, H_235, G_235⟩ := id f_234
  have hin_235 : ¬ ((7 : Int32) < 0 ∨ cl_235.slots.size ≤ ((7 : Int32)).toNatClampNeg) := inb_of S_235 ⟨by decide, by decide⟩
  obtain ⟨T_237, h_237, X_237, e_237, W_237, st_237⟩ := stJ X_229 hEX hZW e_229 Ar_235 (j := (7 : Int32)) hin_235 (g := (mkF m 275 #[Lv q1, Zs, Lv q2, Zs, Lv q3, Zs, Lv q4, Zs, Lv q5, Zs, Iv p6, Lv a0, Zs, Lv a1, Zs, Lv a2, Zs, Lv a3, Zs, Lv a4, Zs, Lv a5, Zs, Lv a6, Zs, Lv a7, Zs, Lv b0, Zs, Lv b1, Zs, Lv b2, Zs, Lv b3, Zs, Lv b4, Zs, Lv b5, Zs, Lv b6, Zs, Lv b7, Zs, Iv md, Rv b_80, Us, Us, Us, Us, Us, Us, Us, Us, Us] [(.long b7), (.int (7 : Int32)), (.ref b_157), (.ref b_157)])) rfl rfl (hb hBY at_275)
  have N_237 := Fr.snoc X_237 N_229 ge_208
  have K__238 : Keep h0 h_237 [] := K__230.wr W_237 (Or.inr sz_210)
  have f_239 : Exa Z h_237 b_80 "[J" := f_231.wr W_237
  have f_240 : Arv Z h_237 b_80 k_80 .long (8 : Int32) [(.long a0), (.long a1), (.long a2), (.long a3), (.long a4), (.long a5), (.long a6), (.long a7)] (.long (0 : Int64)) := f_232.other W_237 ne_206
  have f_241 : Exa Z h_237 b_157 "[J" := f_233.wr W_237
  have f_242 : Arv Z h_237 b_157 k_157 .long (8 : Int32) [(.long b0), (.long b1), (.long b2), (.long b3), (.long b4), (.long b5), (.long b6), (.long b7)] (.long (0 : Int64)) := Arv.set Ar_235 q_235 S_235 N__235 H_235 G_235 rfl W_237 7 rfl (Nat.le_of_ble_eq_true rfl)
  refine Done.pre st_237 ?_
  show Done _ _ _ _ _ _ _ (T_237.setTop (mkF m 276 #[Lv q1, Zs, Lv q2, Zs, Lv q3, Zs, Lv q4, Zs, Lv q5, Zs, Iv p6, Lv a0, Zs, Lv a1, Zs, Lv a2, Zs, Lv a3, Zs, Lv a4, Zs, Lv a5, Zs, Lv a6, Zs, Lv a7, Zs, Lv b0, Zs, Lv b1, Zs, Lv b2, Zs, Lv b3, Zs, Lv b4, Zs, Lv b5, Zs, Lv b6, Zs, Lv b7, Zs, Iv md, Rv b_80, Us, Us, Us, Us, Us, Us, Us, Us, Us] [(.ref b_157)]))
  have sg_243 : ∀ tt_, Steps p.tables e below (T_237.setTop (mkF m 278 #[Lv q1, Zs, Lv q2, Zs, Lv q3, Zs, Lv q4, Zs, Lv q5, Zs, Iv p6, Lv a0, Zs, Lv a1, Zs, Lv a2, Zs, Lv a3, Zs, Lv a4, Zs, Lv a5, Zs, Lv a6, Zs, Lv a7, Zs, Lv b0, Zs, Lv b1, Zs, Lv b2, Zs, Lv b3, Zs, Lv b4, Zs, Lv b5, Zs, Lv b6, Zs, Lv b7, Zs, Iv md, Rv b_80, Rv b_157, Us, Us, Us, Us, Us, Us, Us, Us] [])) tt_ → Steps p.tables e below (T_237.setTop (mkF m 276 #[Lv q1, Zs, Lv q2, Zs, Lv q3, Zs, Lv q4, Zs, Lv q5, Zs, Iv p6, Lv a0, Zs, Lv a1, Zs, Lv a2, Zs, Lv a3, Zs, Lv a4, Zs, Lv a5, Zs, Lv a6, Zs, Lv a7, Zs, Lv b0, Zs, Lv b1, Zs, Lv b2, Zs, Lv b3, Zs, Lv b4, Zs, Lv b5, Zs, Lv b6, Zs, Lv b7, Zs, Iv md, Rv b_80, Us, Us, Us, Us, Us, Us, Us, Us, Us] [(.ref b_157)])) tt_ := by
    intro tt_ kt_
    refine XS.astore X_237.here hEX rfl (hb hBY at_276) rfl rfl (l' := #[Lv q1, Zs, Lv q2, Zs, Lv q3, Zs, Lv q4, Zs, Lv q5, Zs, Iv p6, Lv a0, Zs, Lv a1, Zs, Lv a2, Zs, Lv a3, Zs, Lv a4, Zs, Lv a5, Zs, Lv a6, Zs, Lv a7, Zs, Lv b0, Zs, Lv b1, Zs, Lv b2, Zs, Lv b3, Zs, Lv b4, Zs, Lv b5, Zs, Lv b6, Zs, Lv b7, Zs, Iv md, Rv b_80, Rv b_157, Us, Us, Us, Us, Us, Us, Us, Us]) rfl ?_
    exact kt_
  refine Done.pre sg_243 ?_
  show Done _ _ _ _ _ _ _ (T_237.setTop (mkF m 278 #[Lv q1, Zs, Lv q2, Zs, Lv q3, Zs, Lv q4, Zs, Lv q5, Zs, Iv p6, Lv a0, Zs, Lv a1, Zs, Lv a2, Zs, Lv a3, Zs, Lv a4, Zs, Lv a5, Zs, Lv a6, Zs, Lv a7, Zs, Lv b0, Zs, Lv b1, Zs, Lv b2, Zs, Lv b3, Zs, Lv b4, Zs, Lv b5, Zs, Lv b6, Zs, Lv b7, Zs, Iv md, Rv b_80, Rv b_157, Us, Us, Us, Us, Us, Us, Us, Us] []))
  exact rm0_j278 l Z aZ hw ws q1 q2 q3 q4 q5 p6 h0 n0 Z0 p e s m below meth cO hEX hBY hMX hOW hNM hLK hRT hZW a0 a1 a2 a3 a4 a5 a6 a7 md b0 b1 b2 b3 b4 b5 b6 b7 b_80 k_80 b_157 k_157 T_237 h_237 _ X_237 e_237 N_237 K__238 f_239 f_240 f_241 f_242 hRa hm4 hRb hEq ne_206 ge_207 ge_208 sz_209 sz_210
set_option maxRecDepth 65536 in
set_option maxHeartbeats 40000000 in
theorem rm0_j230 (l : Launch) (Z : State) (aZ : Array Value) (hw : ∀ d ∈ tables_1, d.before aZ Z = true) (ws : List Jvm.Cond) (q1 : Int64) (q2 : Int64) (q3 : Int64) (q4 : Int64) (q5 : Int64) (p6 : Int32) (h0 : Heap) (n0 : Nat) (Z0 : n0 ≤ h0.size)
    (p : Program) (e : Env) (s : State) (m : MethodId) (below : List Frame) (meth : Method) (cO : Code) (hEX : p.tables.exec = Jvm.exec) (hBY : cO.code = code) (hMX : cO.maxLocals = 54) (hOW : s.vm.findClass "com/example/guard3/guard3/P384FieldSubtractPinLaw" = some m.cls) (hNM : meth.name = x.name) (hLK : meth.locks = false) (hRT : meth.sig.returnType = ret) (hZW : Z.Warmed39 s.vm)
    (a0 : Int64) (a1 : Int64) (a2 : Int64) (a3 : Int64) (a4 : Int64) (a5 : Int64) (a6 : Int64) (a7 : Int64) (md : Int32) (b0 : Int64) (b1 : Int64) (b2 : Int64) (b3 : Int64) (b4 : Int64) (b5 : Int64) (b6 : Int64) (b7 : Int64) (b_80 : Addr) (k_80 : ClassId) (T_145 : State) (h_146 : Heap) (L_147 : List Loc) (X_148 : Stand p l e room_1 s m #[(.long q1), (.long q2), (.long q3), (.long q4), (.long q5), (.int p6)] below meth cO T_145 L_147 1 8) (e_149 : T_145.heap = h_146) (N_150 : Fr n0 L_147) (K__151 : Keep h0 h_146 []) (f_152 : Exa Z h_146 b_80 "[J") (f_153 : Arv Z h_146 b_80 k_80 .long (8 : Int32) [(.long a0), (.long a1), (.long a2), (.long a3), (.long a4), (.long a5), (.long a6), (.long a7)] (.long (0 : Int64))) (hRa : own_R 1125899906842624 a0 a1 a2 a3 a4 a5 a6 a7) (hm4 : md = (0 : Int32) ∨ md = (1 : Int32) ∨ md = (2 : Int32) ∨ md = (3 : Int32)) (hRb : own_R 1125899906842624 b0 b1 b2 b3 b4 b5 b6 b7) (hEq : md = (3 : Int32) → a0 = b0 ∧ a1 = b1 ∧ a2 = b2 ∧ a3 = b3 ∧ a4 = b4 ∧ a5 = b5 ∧ a6 = b6 ∧ a7 = b7) (ge_154 : n0 ≤ b_80) (sz_155 : h0.size ≤ b_80) :
    Done p e below s (Qrm0 Z q1 q2 q3 q4 q5 p6 h0 n0) room_1.cells room_1.slots (T_145.setTop (mkF m 230 #[Lv q1, Zs, Lv q2, Zs, Lv q3, Zs, Lv q4, Zs, Lv q5, Zs, Iv p6, Lv a0, Zs, Lv a1, Zs, Lv a2, Zs, Lv a3, Zs, Lv a4, Zs, Lv a5, Zs, Lv a6, Zs, Lv a7, Zs, Lv b0, Zs, Lv b1, Zs, Lv b2, Zs, Lv b3, Zs, Lv b4, Zs, Lv b5, Zs, Lv b6, Zs, Lv b7, Zs, Iv md, Rv b_80, Us, Us, Us, Us, Us, Us, Us, Us, Us] [])) := by
  have sg_156 : ∀ tt_, Steps p.tables e below (T_145.setTop (mkF m 232 #[Lv q1, Zs, Lv q2, Zs, Lv q3, Zs, Lv q4, Zs, Lv q5, Zs, Iv p6, Lv a0, Zs, Lv a1, Zs, Lv a2, Zs, Lv a3, Zs, Lv a4, Zs, Lv a5, Zs, Lv a6, Zs, Lv a7, Zs, Lv b0, Zs, Lv b1, Zs, Lv b2, Zs, Lv b3, Zs, Lv b4, Zs, Lv b5, Zs, Lv b6, Zs, Lv b7, Zs, Iv md, Rv b_80, Us, Us, Us, Us, Us, Us, Us, Us, Us] [(.int (8 : Int32))])) tt_ → Steps p.tables e below (T_145.setTop (mkF m 230 #[Lv q1, Zs, Lv q2, Zs, Lv q3, Zs, Lv q4, Zs, Lv q5, Zs, Iv p6, Lv a0, Zs, Lv a1, Zs, Lv a2, Zs, Lv a3, Zs, Lv a4, Zs, Lv a5, Zs, Lv a6, Zs, Lv a7, Zs, Lv b0, Zs, Lv b1, Zs, Lv b2, Zs, Lv b3, Zs, Lv b4, Zs, Lv b5, Zs, Lv b6, Zs, Lv b7, Zs, Iv md, Rv b_80, Us, Us, Us, Us, Us, Us, Us, Us, Us] [])) tt_ := by
    intro tt_ kt_
    refine XS.bipush X_148.here hEX rfl (hb hBY at_230) ?_
    exact kt_
  refine Done.pre sg_156 ?_
  obtain ⟨T_157, h_157, k_157, X_157, e_157, E_157, A_157, B_157, st_157⟩ := newPE X_148 hEX hZW (hw _ (List.mem_of_getElem? (i := 9) rfl)) e_149 (g := (mkF m 232 #[Lv q1, Zs, Lv q2, Zs, Lv q3, Zs, Lv q4, Zs, Lv q5, Zs, Iv p6, Lv a0, Zs, Lv a1, Zs, Lv a2, Zs, Lv a3, Zs, Lv a4, Zs, Lv a5, Zs, Lv a6, Zs, Lv a7, Zs, Lv b0, Zs, Lv b1, Zs, Lv b2, Zs, Lv b3, Zs, Lv b4, Zs, Lv b5, Zs, Lv b6, Zs, Lv b7, Zs, Iv md, Rv b_80, Us, Us, Us, Us, Us, Us, Us, Us, Us] [(.int (8 : Int32))])) rfl (hb hBY at_232) rfl (by decide) (cap := 8) (by decide) (by decide) (by decide) (by decide) (ad := "[J") (by decide)
  obtain ⟨b_157, g_157⟩ : ∃ z, z = h_146.size := ⟨_, rfl⟩
  rw [← g_157] at A_157 B_157 st_157
  have sz_b_157 : h0.size ≤ b_157 := Nat.le_trans K__151.1 (Nat.le_of_eq g_157.symm)
  have ge_b_157 : n0 ≤ b_157 := Nat.le_trans Z0 sz_b_157
  have ne_b_80_b_157 : b_80 ≠ b_157 := Nat.ne_of_lt (Nat.lt_of_lt_of_le f_152.lt (Nat.le_of_eq g_157.symm))
  have K__158 : Keep h0 h_157 [] := K__151.ext E_157
  have f_159 : Exa Z h_157 b_80 "[J" := f_152.ext E_157
  have f_160 : Arv Z h_157 b_80 k_80 .long (8 : Int32) [(.long a0), (.long a1), (.long a2), (.long a3), (.long a4), (.long a5), (.long a6), (.long a7)] (.long (0 : Int64)) := f_153.ext E_157
  have f_161 : Arv Z h_157 b_157 k_157 .long (8 : Int32) [(.long (0 : Int64)), (.long (0 : Int64)), (.long (0 : Int64)), (.long (0 : Int64)), (.long (0 : Int64)), (.long (0 : Int64)), (.long (0 : Int64)), (.long (0 : Int64))] (.long (0 : Int64)) := (Arv.new A_157 (by decide)).pad (pad_rep [] (.long (0 : Int64)) 8)
  refine Done.pre st_157 ?_
  show Done _ _ _ _ _ _ _ (T_157.setTop (mkF m 234 #[Lv q1, Zs, Lv q2, Zs, Lv q3, Zs, Lv q4, Zs, Lv q5, Zs, Iv p6, Lv a0, Zs, Lv a1, Zs, Lv a2, Zs, Lv a3, Zs, Lv a4, Zs, Lv a5, Zs, Lv a6, Zs, Lv a7, Zs, Lv b0, Zs, Lv b1, Zs, Lv b2, Zs, Lv b3, Zs, Lv b4, Zs, Lv b5, Zs, Lv b6, Zs, Lv b7, Zs, Iv md, Rv b_80, Us, Us, Us, Us, Us, Us, Us, Us, Us] [(.ref b_157)]))
  have sg_163 : ∀ tt_, Steps p.tables e below (T_157.setTop (mkF m 238 #[Lv q1, Zs, Lv q2, Zs, Lv q3, Zs, Lv q4, Zs, Lv q5, Zs, Iv p6, Lv a0, Zs, Lv a1, Zs, Lv a2, Zs, Lv a3, Zs, Lv a4, Zs, Lv a5, Zs, Lv a6, Zs, Lv a7, Zs, Lv b0, Zs, Lv b1, Zs, Lv b2, Zs, Lv b3, Zs, Lv b4, Zs, Lv b5, Zs, Lv b6, Zs, Lv b7, Zs, Iv md, Rv b_80, Us, Us, Us, Us, Us, Us, Us, Us, Us] [(.long b0), (.int (0 : Int32)), (.ref b_157), (.ref b_157)])) tt_ → Steps p.tables e below (T_157.setTop (mkF m 234 #[Lv q1, Zs, Lv q2, Zs, Lv q3, Zs, Lv q4, Zs, Lv q5, Zs, Iv p6, Lv a0, Zs, Lv a1, Zs, Lv a2, Zs, Lv a3, Zs, Lv a4, Zs, Lv a5, Zs, Lv a6, Zs, Lv a7, Zs, Lv b0, Zs, Lv b1, Zs, Lv b2, Zs, Lv b3, Zs, Lv b4, Zs, Lv b5, Zs, Lv b6, Zs, Lv b7, Zs, Iv md, Rv b_80, Us, Us, Us, Us, Us, Us, Us, Us, Us] [(.ref b_157)])) tt_ := by
    intro tt_ kt_
    refine XS.dup X_157.here hEX rfl (hb hBY at_234) rfl rfl ?_
    show Steps p.tables e below (T_157.setTop (mkF m 235 #[Lv q1, Zs, Lv q2, Zs, Lv q3, Zs, Lv q4, Zs, Lv q5, Zs, Iv p6, Lv a0, Zs, Lv a1, Zs, Lv a2, Zs, Lv a3, Zs, Lv a4, Zs, Lv a5, Zs, Lv a6, Zs, Lv a7, Zs, Lv b0, Zs, Lv b1, Zs, Lv b2, Zs, Lv b3, Zs, Lv b4, Zs, Lv b5, Zs, Lv b6, Zs, Lv b7, Zs, Iv md, Rv b_80, Us, Us, Us, Us, Us, Us, Us, Us, Us] [(.ref b_157), (.ref b_157)])) tt_
    refine XS.iconst X_157.here hEX rfl (hb hBY at_235) ?_
    show Steps p.tables e below (T_157.setTop (mkF m 236 #[Lv q1, Zs, Lv q2, Zs, Lv q3, Zs, Lv q4, Zs, Lv q5, Zs, Iv p6, Lv a0, Zs, Lv a1, Zs, Lv a2, Zs, Lv a3, Zs, Lv a4, Zs, Lv a5, Zs, Lv a6, Zs, Lv a7, Zs, Lv b0, Zs, Lv b1, Zs, Lv b2, Zs, Lv b3, Zs, Lv b4, Zs, Lv b5, Zs, Lv b6, Zs, Lv b7, Zs, Iv md, Rv b_80, Us, Us, Us, Us, Us, Us, Us, Us, Us] [(.int (0 : Int32)), (.ref b_157), (.ref b_157)])) tt_
    refine XS.lload X_157.here hEX rfl (hb hBY at_236) rfl ?_
    exact kt_
  refine Done.pre sg_163 ?_
  obtain ⟨cl_162, Ar_162, q_162, S_162, N__162, H_162, G_162⟩ := id f_161
  have hin_162 : ¬ ((0 : Int32) < 0 ∨ cl_162.slots.size ≤ ((0 : Int32)).toNatClampNeg) := inb_of S_162 ⟨by decide, by decide⟩
  obtain ⟨T_164, h_164, X_164, e_164, W_164, st_164⟩ := stJ X_157 hEX hZW e_157 Ar_162 (j := (0 : Int32)) hin_162 (g := (mkF m 238 #[Lv q1, Zs, Lv q2, Zs, Lv q3, Zs, Lv q4, Zs, Lv q5, Zs, Iv p6, Lv a0, Zs, Lv a1, Zs, Lv a2, Zs, Lv a3, Zs, Lv a4, Zs, Lv a5, Zs, Lv a6, Zs, Lv a7, Zs, Lv b0, Zs, Lv b1, Zs, Lv b2, Zs, Lv b3, Zs, Lv b4, Zs, Lv b5, Zs, Lv b6, Zs, Lv b7, Zs, Iv md, Rv b_80, Us, Us, Us, Us, Us, Us, Us, Us, Us] [(.long b0), (.int (0 : Int32)), (.ref b_157), (.ref b_157)])) rfl rfl (hb hBY at_238)
  have N_164 := Fr.snoc X_164 N_150 ge_b_157
  have K__165 : Keep h0 h_164 [] := K__158.wr W_164 (Or.inr sz_b_157)
  have f_166 : Exa Z h_164 b_80 "[J" := f_159.wr W_164
  have f_167 : Arv Z h_164 b_80 k_80 .long (8 : Int32) [(.long a0), (.long a1), (.long a2), (.long a3), (.long a4), (.long a5), (.long a6), (.long a7)] (.long (0 : Int64)) := f_160.other W_164 ne_b_80_b_157
  have f_168 : Exa Z h_164 b_157 "[J" := B_157.wr W_164
  have f_169 : Arv Z h_164 b_157 k_157 .long (8 : Int32) [(.long b0), (.long (0 : Int64)), (.long (0 : Int64)), (.long (0 : Int64)), (.long (0 : Int64)), (.long (0 : Int64)), (.long (0 : Int64)), (.long (0 : Int64))] (.long (0 : Int64)) := Arv.set Ar_162 q_162 S_162 N__162 H_162 G_162 rfl W_164 0 rfl (Nat.le_of_ble_eq_true rfl)
  refine Done.pre st_164 ?_
  show Done _ _ _ _ _ _ _ (T_164.setTop (mkF m 239 #[Lv q1, Zs, Lv q2, Zs, Lv q3, Zs, Lv q4, Zs, Lv q5, Zs, Iv p6, Lv a0, Zs, Lv a1, Zs, Lv a2, Zs, Lv a3, Zs, Lv a4, Zs, Lv a5, Zs, Lv a6, Zs, Lv a7, Zs, Lv b0, Zs, Lv b1, Zs, Lv b2, Zs, Lv b3, Zs, Lv b4, Zs, Lv b5, Zs, Lv b6, Zs, Lv b7, Zs, Iv md, Rv b_80, Us, Us, Us, Us, Us, Us, Us, Us, Us] [(.ref b_157)]))
  have sg_171 : ∀ tt_, Steps p.tables e below (T_164.setTop (mkF m 243 #[Lv q1, Zs, Lv q2, Zs, Lv q3, Zs, Lv q4, Zs, Lv q5, Zs, Iv p6, Lv a0, Zs, Lv a1, Zs, Lv a2, Zs, Lv a3, Zs, Lv a4, Zs, Lv a5, Zs, Lv a6, Zs, Lv a7, Zs, Lv b0, Zs, Lv b1, Zs, Lv b2, Zs, Lv b3, Zs, Lv b4, Zs, Lv b5, Zs, Lv b6, Zs, Lv b7, Zs, Iv md, Rv b_80, Us, Us, Us, Us, Us, Us, Us, Us, Us] [(.long b1), (.int (1 : Int32)), (.ref b_157), (.ref b_157)])) tt_ → Steps p.tables e below (T_164.setTop (mkF m 239 #[Lv q1, Zs, Lv q2, Zs, Lv q3, Zs, Lv q4, Zs, Lv q5, Zs, Iv p6, Lv a0, Zs, Lv a1, Zs, Lv a2, Zs, Lv a3, Zs, Lv a4, Zs, Lv a5, Zs, Lv a6, Zs, Lv a7, Zs, Lv b0, Zs, Lv b1, Zs, Lv b2, Zs, Lv b3, Zs, Lv b4, Zs, Lv b5, Zs, Lv b6, Zs, Lv b7, Zs, Iv md, Rv b_80, Us, Us, Us, Us, Us, Us, Us, Us, Us] [(.ref b_157)])) tt_ := by
    intro tt_ kt_
    refine XS.dup X_164.here hEX rfl (hb hBY at_239) rfl rfl ?_
    show Steps p.tables e below (T_164.setTop (mkF m 240 #[Lv q1, Zs, Lv q2, Zs, Lv q3, Zs, Lv q4, Zs, Lv q5, Zs, Iv p6, Lv a0, Zs, Lv a1, Zs, Lv a2, Zs, Lv a3, Zs, Lv a4, Zs, Lv a5, Zs, Lv a6, Zs, Lv a7, Zs, Lv b0, Zs, Lv b1, Zs, Lv b2, Zs, Lv b3, Zs, Lv b4, Zs, Lv b5, Zs, Lv b6, Zs, Lv b7, Zs, Iv md, Rv b_80, Us, Us, Us, Us, Us, Us, Us, Us, Us] [(.ref b_157), (.ref b_157)])) tt_
    refine XS.iconst X_164.here hEX rfl (hb hBY at_240) ?_
    show Steps p.tables e below (T_164.setTop (mkF m 241 #[Lv q1, Zs, Lv q2, Zs, Lv q3, Zs, Lv q4, Zs, Lv q5, Zs, Iv p6, Lv a0, Zs, Lv a1, Zs, Lv a2, Zs, Lv a3, Zs, Lv a4, Zs, Lv a5, Zs, Lv a6, Zs, Lv a7, Zs, Lv b0, Zs, Lv b1, Zs, Lv b2, Zs, Lv b3, Zs, Lv b4, Zs, Lv b5, Zs, Lv b6, Zs, Lv b7, Zs, Iv md, Rv b_80, Us, Us, Us, Us, Us, Us, Us, Us, Us] [(.int (1 : Int32)), (.ref b_157), (.ref b_157)])) tt_
    refine XS.lload X_164.here hEX rfl (hb hBY at_241) rfl ?_
    exact kt_
  refine Done.pre sg_171 ?_
  obtain ⟨cl_170, Ar_170, q_170, S_170, N__170, H_170, G_170⟩ := id f_169
  have hin_170 : ¬ ((1 : Int32) < 0 ∨ cl_170.slots.size ≤ ((1 : Int32)).toNatClampNeg) := inb_of S_170 ⟨by decide, by decide⟩
  obtain ⟨T_172, h_172, X_172, e_172, W_172, st_172⟩ := stJ X_164 hEX hZW e_164 Ar_170 (j := (1 : Int32)) hin_170 (g := (mkF m 243 #[Lv q1, Zs, Lv q2, Zs, Lv q3, Zs, Lv q4, Zs, Lv q5, Zs, Iv p6, Lv a0, Zs, Lv a1, Zs, Lv a2, Zs, Lv a3, Zs, Lv a4, Zs, Lv a5, Zs, Lv a6, Zs, Lv a7, Zs, Lv b0, Zs, Lv b1, Zs, Lv b2, Zs, Lv b3, Zs, Lv b4, Zs, Lv b5, Zs, Lv b6, Zs, Lv b7, Zs, Iv md, Rv b_80, Us, Us, Us, Us, Us, Us, Us, Us, Us] [(.long b1), (.int (1 : Int32)), (.ref b_157), (.ref b_157)])) rfl rfl (hb hBY at_243)
  have N_172 := Fr.snoc X_172 N_164 ge_b_157
  have K__173 : Keep h0 h_172 [] := K__165.wr W_172 (Or.inr sz_b_157)
  have f_174 : Exa Z h_172 b_80 "[J" := f_166.wr W_172
  have f_175 : Arv Z h_172 b_80 k_80 .long (8 : Int32) [(.long a0), (.long a1), (.long a2), (.long a3), (.long a4), (.long a5), (.long a6), (.long a7)] (.long (0 : Int64)) := f_167.other W_172 ne_b_80_b_157
  have f_176 : Exa Z h_172 b_157 "[J" := f_168.wr W_172
  have f_177 : Arv Z h_172 b_157 k_157 .long (8 : Int32) [(.long b0), (.long b1), (.long (0 : Int64)), (.long (0 : Int64)), (.long (0 : Int64)), (.long (0 : Int64)), (.long (0 : Int64)), (.long (0 : Int64))] (.long (0 : Int64)) := Arv.set Ar_170 q_170 S_170 N__170 H_170 G_170 rfl W_172 1 rfl (Nat.le_of_ble_eq_true rfl)
  refine Done.pre st_172 ?_
  show Done _ _ _ _ _ _ _ (T_172.setTop (mkF m 244 #[Lv q1, Zs, Lv q2, Zs, Lv q3, Zs, Lv q4, Zs, Lv q5, Zs, Iv p6, Lv a0, Zs, Lv a1, Zs, Lv a2, Zs, Lv a3, Zs, Lv a4, Zs, Lv a5, Zs, Lv a6, Zs, Lv a7, Zs, Lv b0, Zs, Lv b1, Zs, Lv b2, Zs, Lv b3, Zs, Lv b4, Zs, Lv b5, Zs, Lv b6, Zs, Lv b7, Zs, Iv md, Rv b_80, Us, Us, Us, Us, Us, Us, Us, Us, Us] [(.ref b_157)]))
  have sg_179 : ∀ tt_, Steps p.tables e below (T_172.setTop (mkF m 248 #[Lv q1, Zs, Lv q2, Zs, Lv q3, Zs, Lv q4, Zs, Lv q5, Zs, Iv p6, Lv a0, Zs, Lv a1, Zs, Lv a2, Zs, Lv a3, Zs, Lv a4, Zs, Lv a5, Zs, Lv a6, Zs, Lv a7, Zs, Lv b0, Zs, Lv b1, Zs, Lv b2, Zs, Lv b3, Zs, Lv b4, Zs, Lv b5, Zs, Lv b6, Zs, Lv b7, Zs, Iv md, Rv b_80, Us, Us, Us, Us, Us, Us, Us, Us, Us] [(.long b2), (.int (2 : Int32)), (.ref b_157), (.ref b_157)])) tt_ → Steps p.tables e below (T_172.setTop (mkF m 244 #[Lv q1, Zs, Lv q2, Zs, Lv q3, Zs, Lv q4, Zs, Lv q5, Zs, Iv p6, Lv a0, Zs, Lv a1, Zs, Lv a2, Zs, Lv a3, Zs, Lv a4, Zs, Lv a5, Zs, Lv a6, Zs, Lv a7, Zs, Lv b0, Zs, Lv b1, Zs, Lv b2, Zs, Lv b3, Zs, Lv b4, Zs, Lv b5, Zs, Lv b6, Zs, Lv b7, Zs, Iv md, Rv b_80, Us, Us, Us, Us, Us, Us, Us, Us, Us] [(.ref b_157)])) tt_ := by
    intro tt_ kt_
    refine XS.dup X_172.here hEX rfl (hb hBY at_244) rfl rfl ?_
    show Steps p.tables e below (T_172.setTop (mkF m 245 #[Lv q1, Zs, Lv q2, Zs, Lv q3, Zs, Lv q4, Zs, Lv q5, Zs, Iv p6, Lv a0, Zs, Lv a1, Zs, Lv a2, Zs, Lv a3, Zs, Lv a4, Zs, Lv a5, Zs, Lv a6, Zs, Lv a7, Zs, Lv b0, Zs, Lv b1, Zs, Lv b2, Zs, Lv b3, Zs, Lv b4, Zs, Lv b5, Zs, Lv b6, Zs, Lv b7, Zs, Iv md, Rv b_80, Us, Us, Us, Us, Us, Us, Us, Us, Us] [(.ref b_157), (.ref b_157)])) tt_
    refine XS.iconst X_172.here hEX rfl (hb hBY at_245) ?_
    show Steps p.tables e below (T_172.setTop (mkF m 246 #[Lv q1, Zs, Lv q2, Zs, Lv q3, Zs, Lv q4, Zs, Lv q5, Zs, Iv p6, Lv a0, Zs, Lv a1, Zs, Lv a2, Zs, Lv a3, Zs, Lv a4, Zs, Lv a5, Zs, Lv a6, Zs, Lv a7, Zs, Lv b0, Zs, Lv b1, Zs, Lv b2, Zs, Lv b3, Zs, Lv b4, Zs, Lv b5, Zs, Lv b6, Zs, Lv b7, Zs, Iv md, Rv b_80, Us, Us, Us, Us, Us, Us, Us, Us, Us] [(.int (2 : Int32)), (.ref b_157), (.ref b_157)])) tt_
    refine XS.lload X_172.here hEX rfl (hb hBY at_246) rfl ?_
    exact kt_
  refine Done.pre sg_179 ?_
  obtain ⟨cl_178, Ar_178, q_178, S_178, N__178, H_178, G_178⟩ := id f_177
  have hin_178 : ¬ ((2 : Int32) < 0 ∨ cl_178.slots.size ≤ ((2 : Int32)).toNatClampNeg) := inb_of S_178 ⟨by decide, by decide⟩
  obtain ⟨T_180, h_180, X_180, e_180, W_180, st_180⟩ := stJ X_172 hEX hZW e_172 Ar_178 (j := (2 : Int32)) hin_178 (g := (mkF m 248 #[Lv q1, Zs, Lv q2, Zs, Lv q3, Zs, Lv q4, Zs, Lv q5, Zs, Iv p6, Lv a0, Zs, Lv a1, Zs, Lv a2, Zs, Lv a3, Zs, Lv a4, Zs, Lv a5, Zs, Lv a6, Zs, Lv a7, Zs, Lv b0, Zs, Lv b1, Zs, Lv b2, Zs, Lv b3, Zs, Lv b4, Zs, Lv b5, Zs, Lv b6, Zs, Lv b7, Zs, Iv md, Rv b_80, Us, Us, Us, Us, Us, Us, Us, Us, Us] [(.long b2), (.int (2 : Int32)), (.ref b_157), (.ref b_157)])) rfl rfl (hb hBY at_248)
  have N_180 := Fr.snoc X_180 N_172 ge_b_157
  have K__181 : Keep h0 h_180 [] := K__173.wr W_180 (Or.inr sz_b_157)
  have f_182 : Exa Z h_180 b_80 "[J" := f_174.wr W_180
  have f_183 : Arv Z h_180 b_80 k_80 .long (8 : Int32) [(.long a0), (.long a1), (.long a2), (.long a3), (.long a4), (.long a5), (.long a6), (.long a7)] (.long (0 : Int64)) := f_175.other W_180 ne_b_80_b_157
  have f_184 : Exa Z h_180 b_157 "[J" := f_176.wr W_180
  have f_185 : Arv Z h_180 b_157 k_157 .long (8 : Int32) [(.long b0), (.long b1), (.long b2), (.long (0 : Int64)), (.long (0 : Int64)), (.long (0 : Int64)), (.long (0 : Int64)), (.long (0 : Int64))] (.long (0 : Int64)) := Arv.set Ar_178 q_178 S_178 N__178 H_178 G_178 rfl W_180 2 rfl (Nat.le_of_ble_eq_true rfl)
  refine Done.pre st_180 ?_
  show Done _ _ _ _ _ _ _ (T_180.setTop (mkF m 249 #[Lv q1, Zs, Lv q2, Zs, Lv q3, Zs, Lv q4, Zs, Lv q5, Zs, Iv p6, Lv a0, Zs, Lv a1, Zs, Lv a2, Zs, Lv a3, Zs, Lv a4, Zs, Lv a5, Zs, Lv a6, Zs, Lv a7, Zs, Lv b0, Zs, Lv b1, Zs, Lv b2, Zs, Lv b3, Zs, Lv b4, Zs, Lv b5, Zs, Lv b6, Zs, Lv b7, Zs, Iv md, Rv b_80, Us, Us, Us, Us, Us, Us, Us, Us, Us] [(.ref b_157)]))
  have sg_187 : ∀ tt_, Steps p.tables e below (T_180.setTop (mkF m 253 #[Lv q1, Zs, Lv q2, Zs, Lv q3, Zs, Lv q4, Zs, Lv q5, Zs, Iv p6, Lv a0, Zs, Lv a1, Zs, Lv a2, Zs, Lv a3, Zs, Lv a4, Zs, Lv a5, Zs, Lv a6, Zs, Lv a7, Zs, Lv b0, Zs, Lv b1, Zs, Lv b2, Zs, Lv b3, Zs, Lv b4, Zs, Lv b5, Zs, Lv b6, Zs, Lv b7, Zs, Iv md, Rv b_80, Us, Us, Us, Us, Us, Us, Us, Us, Us] [(.long b3), (.int (3 : Int32)), (.ref b_157), (.ref b_157)])) tt_ → Steps p.tables e below (T_180.setTop (mkF m 249 #[Lv q1, Zs, Lv q2, Zs, Lv q3, Zs, Lv q4, Zs, Lv q5, Zs, Iv p6, Lv a0, Zs, Lv a1, Zs, Lv a2, Zs, Lv a3, Zs, Lv a4, Zs, Lv a5, Zs, Lv a6, Zs, Lv a7, Zs, Lv b0, Zs, Lv b1, Zs, Lv b2, Zs, Lv b3, Zs, Lv b4, Zs, Lv b5, Zs, Lv b6, Zs, Lv b7, Zs, Iv md, Rv b_80, Us, Us, Us, Us, Us, Us, Us, Us, Us] [(.ref b_157)])) tt_ := by
    intro tt_ kt_
    refine XS.dup X_180.here hEX rfl (hb hBY at_249) rfl rfl ?_
    show Steps p.tables e below (T_180.setTop (mkF m 250 #[Lv q1, Zs, Lv q2, Zs, Lv q3, Zs, Lv q4, Zs, Lv q5, Zs, Iv p6, Lv a0, Zs, Lv a1, Zs, Lv a2, Zs, Lv a3, Zs, Lv a4, Zs, Lv a5, Zs, Lv a6, Zs, Lv a7, Zs, Lv b0, Zs, Lv b1, Zs, Lv b2, Zs, Lv b3, Zs, Lv b4, Zs, Lv b5, Zs, Lv b6, Zs, Lv b7, Zs, Iv md, Rv b_80, Us, Us, Us, Us, Us, Us, Us, Us, Us] [(.ref b_157), (.ref b_157)])) tt_
    refine XS.iconst X_180.here hEX rfl (hb hBY at_250) ?_
    show Steps p.tables e below (T_180.setTop (mkF m 251 #[Lv q1, Zs, Lv q2, Zs, Lv q3, Zs, Lv q4, Zs, Lv q5, Zs, Iv p6, Lv a0, Zs, Lv a1, Zs, Lv a2, Zs, Lv a3, Zs, Lv a4, Zs, Lv a5, Zs, Lv a6, Zs, Lv a7, Zs, Lv b0, Zs, Lv b1, Zs, Lv b2, Zs, Lv b3, Zs, Lv b4, Zs, Lv b5, Zs, Lv b6, Zs, Lv b7, Zs, Iv md, Rv b_80, Us, Us, Us, Us, Us, Us, Us, Us, Us] [(.int (3 : Int32)), (.ref b_157), (.ref b_157)])) tt_
    refine XS.lload X_180.here hEX rfl (hb hBY at_251) rfl ?_
    exact kt_
  refine Done.pre sg_187 ?_
  obtain ⟨cl_186, Ar_186, q_186, S_186, N__186, H_186, G_186⟩ := id f_185
  have hin_186 : ¬ ((3 : Int32) < 0 ∨ cl_186.slots.size ≤ ((3 : Int32)).toNatClampNeg) := inb_of S_186 ⟨by decide, by decide⟩
  obtain ⟨T_188, h_188, X_188, e_188, W_188, st_188⟩ := stJ X_180 hEX hZW e_180 Ar_186 (j := (3 : Int32)) hin_186 (g := (mkF m 253 #[Lv q1, Zs, Lv q2, Zs, Lv q3, Zs, Lv q4, Zs, Lv q5, Zs, Iv p6, Lv a0, Zs, Lv a1, Zs, Lv a2, Zs, Lv a3, Zs, Lv a4, Zs, Lv a5, Zs, Lv a6, Zs, Lv a7, Zs, Lv b0, Zs, Lv b1, Zs, Lv b2, Zs, Lv b3, Zs, Lv b4, Zs, Lv b5, Zs, Lv b6, Zs, Lv b7, Zs, Iv md, Rv b_80, Us, Us, Us, Us, Us, Us, Us, Us, Us] [(.long b3), (.int (3 : Int32)), (.ref b_157), (.ref b_157)])) rfl rfl (hb hBY at_253)
  have N_188 := Fr.snoc X_188 N_180 ge_b_157
  have K__189 : Keep h0 h_188 [] := K__181.wr W_188 (Or.inr sz_b_157)
  have f_190 : Exa Z h_188 b_80 "[J" := f_182.wr W_188
  have f_191 : Arv Z h_188 b_80 k_80 .long (8 : Int32) [(.long a0), (.long a1), (.long a2), (.long a3), (.long a4), (.long a5), (.long a6), (.long a7)] (.long (0 : Int64)) := f_183.other W_188 ne_b_80_b_157
  have f_192 : Exa Z h_188 b_157 "[J" := f_184.wr W_188
  have f_193 : Arv Z h_188 b_157 k_157 .long (8 : Int32) [(.long b0), (.long b1), (.long b2), (.long b3), (.long (0 : Int64)), (.long (0 : Int64)), (.long (0 : Int64)), (.long (0 : Int64))] (.long (0 : Int64)) := Arv.set Ar_186 q_186 S_186 N__186 H_186 G_186 rfl W_188 3 rfl (Nat.le_of_ble_eq_true rfl)
  refine Done.pre st_188 ?_
  show Done _ _ _ _ _ _ _ (T_188.setTop (mkF m 254 #[Lv q1, Zs, Lv q2, Zs, Lv q3, Zs, Lv q4, Zs, Lv q5, Zs, Iv p6, Lv a0, Zs, Lv a1, Zs, Lv a2, Zs, Lv a3, Zs, Lv a4, Zs, Lv a5, Zs, Lv a6, Zs, Lv a7, Zs, Lv b0, Zs, Lv b1, Zs, Lv b2, Zs, Lv b3, Zs, Lv b4, Zs, Lv b5, Zs, Lv b6, Zs, Lv b7, Zs, Iv md, Rv b_80, Us, Us, Us, Us, Us, Us, Us, Us, Us] [(.ref b_157)]))
  show Done _ _ _ _ _ _ _ (T_188.setTop (mkF m 254 #[Lv q1, Zs, Lv q2, Zs, Lv q3, Zs, Lv q4, Zs, Lv q5, Zs, Iv p6, Lv a0, Zs, Lv a1, Zs, Lv a2, Zs, Lv a3, Zs, Lv a4, Zs, Lv a5, Zs, Lv a6, Zs, Lv a7, Zs, Lv b0, Zs, Lv b1, Zs, Lv b2, Zs, Lv b3, Zs, Lv b4, Zs, Lv b5, Zs, Lv b6, Zs, Lv b7, Zs, Iv md, Rv b_80, Us, Us, Us, Us, Us, Us, Us, Us, Us] [(.ref b_157)]))
  exact rm0_j254 l Z aZ hw ws q1 q2 q3 q4 q5 p6 h0 n0 Z0 p e s m below meth cO hEX hBY hMX hOW hNM hLK hRT hZW a0 a1 a2 a3 a4 a5 a6 a7 md b0 b1 b2 b3 b4 b5 b6 b7 b_80 k_80 b_157 k_157 T_188 h_188 _ X_188 e_188 N_188 K__189 f_190 f_191 f_192 f_193 hRa hm4 hRb hEq ne_b_80_b_157 ge_154 ge_b_157 sz_155 sz_b_157
set_option maxRecDepth 65536 in
set_option maxHeartbeats 40000000 in
theorem rm0_j206 (l : Launch) (Z : State) (aZ : Array Value) (hw : ∀ d ∈ tables_1, d.before aZ Z = true) (ws : List Jvm.Cond) (q1 : Int64) (q2 : Int64) (q3 : Int64) (q4 : Int64) (q5 : Int64) (p6 : Int32) (h0 : Heap) (n0 : Nat) (Z0 : n0 ≤ h0.size)
    (p : Program) (e : Env) (s : State) (m : MethodId) (below : List Frame) (meth : Method) (cO : Code) (hEX : p.tables.exec = Jvm.exec) (hBY : cO.code = code) (hMX : cO.maxLocals = 54) (hOW : s.vm.findClass "com/example/guard3/guard3/P384FieldSubtractPinLaw" = some m.cls) (hNM : meth.name = x.name) (hLK : meth.locks = false) (hRT : meth.sig.returnType = ret) (hZW : Z.Warmed39 s.vm)
    (a0 : Int64) (a1 : Int64) (a2 : Int64) (a3 : Int64) (a4 : Int64) (a5 : Int64) (a6 : Int64) (a7 : Int64) (md : Int32) (b0 : Int64) (b1 : Int64) (b2 : Int64) (b3 : Int64) (b4 : Int64) (b5 : Int64) (b6 : Int64) (b7 : Int64) (b_80 : Addr) (k_80 : ClassId) (T_108 : State) (h_109 : Heap) (L_110 : List Loc) (X_111 : Stand p l e room_1 s m #[(.long q1), (.long q2), (.long q3), (.long q4), (.long q5), (.int p6)] below meth cO T_108 L_110 1 8) (e_112 : T_108.heap = h_109) (N_113 : Fr n0 L_110) (K__114 : Keep h0 h_109 []) (f_115 : Exa Z h_109 b_80 "[J") (f_116 : Arv Z h_109 b_80 k_80 .long (8 : Int32) [(.long a0), (.long a1), (.long a2), (.long a3), (.long (0 : Int64)), (.long (0 : Int64)), (.long (0 : Int64)), (.long (0 : Int64))] (.long (0 : Int64))) (hRa : own_R 1125899906842624 a0 a1 a2 a3 a4 a5 a6 a7) (hm4 : md = (0 : Int32) ∨ md = (1 : Int32) ∨ md = (2 : Int32) ∨ md = (3 : Int32)) (hRb : own_R 1125899906842624 b0 b1 b2 b3 b4 b5 b6 b7) (hEq : md = (3 : Int32) → a0 = b0 ∧ a1 = b1 ∧ a2 = b2 ∧ a3 = b3 ∧ a4 = b4 ∧ a5 = b5 ∧ a6 = b6 ∧ a7 = b7) (ge_117 : n0 ≤ b_80) (sz_118 : h0.size ≤ b_80) :
    Done p e below s (Qrm0 Z q1 q2 q3 q4 q5 p6 h0 n0) room_1.cells room_1.slots (T_108.setTop (mkF m 206 #[Lv q1, Zs, Lv q2, Zs, Lv q3, Zs, Lv q4, Zs, Lv q5, Zs, Iv p6, Lv a0, Zs, Lv a1, Zs, Lv a2, Zs, Lv a3, Zs, Lv a4, Zs, Lv a5, Zs, Lv a6, Zs, Lv a7, Zs, Lv b0, Zs, Lv b1, Zs, Lv b2, Zs, Lv b3, Zs, Lv b4, Zs, Lv b5, Zs, Lv b6, Zs, Lv b7, Zs, Iv md, Us, Us, Us, Us, Us, Us, Us, Us, Us, Us] [(.ref b_80)])) := by
  have sg_120 : ∀ tt_, Steps p.tables e below (T_108.setTop (mkF m 210 #[Lv q1, Zs, Lv q2, Zs, Lv q3, Zs, Lv q4, Zs, Lv q5, Zs, Iv p6, Lv a0, Zs, Lv a1, Zs, Lv a2, Zs, Lv a3, Zs, Lv a4, Zs, Lv a5, Zs, Lv a6, Zs, Lv a7, Zs, Lv b0, Zs, Lv b1, Zs, Lv b2, Zs, Lv b3, Zs, Lv b4, Zs, Lv b5, Zs, Lv b6, Zs, Lv b7, Zs, Iv md, Us, Us, Us, Us, Us, Us, Us, Us, Us, Us] [(.long a4), (.int (4 : Int32)), (.ref b_80), (.ref b_80)])) tt_ → Steps p.tables e below (T_108.setTop (mkF m 206 #[Lv q1, Zs, Lv q2, Zs, Lv q3, Zs, Lv q4, Zs, Lv q5, Zs, Iv p6, Lv a0, Zs, Lv a1, Zs, Lv a2, Zs, Lv a3, Zs, Lv a4, Zs, Lv a5, Zs, Lv a6, Zs, Lv a7, Zs, Lv b0, Zs, Lv b1, Zs, Lv b2, Zs, Lv b3, Zs, Lv b4, Zs, Lv b5, Zs, Lv b6, Zs, Lv b7, Zs, Iv md, Us, Us, Us, Us, Us, Us, Us, Us, Us, Us] [(.ref b_80)])) tt_ := by
    intro tt_ kt_
    refine XS.dup X_111.here hEX rfl (hb hBY at_206) rfl rfl ?_
    show Steps p.tables e below (T_108.setTop (mkF m 207 #[Lv q1, Zs, Lv q2, Zs, Lv q3, Zs, Lv q4, Zs, Lv q5, Zs, Iv p6, Lv a0, Zs, Lv a1, Zs, Lv a2, Zs, Lv a3, Zs, Lv a4, Zs, Lv a5, Zs, Lv a6, Zs, Lv a7, Zs, Lv b0, Zs, Lv b1, Zs, Lv b2, Zs, Lv b3, Zs, Lv b4, Zs, Lv b5, Zs, Lv b6, Zs, Lv b7, Zs, Iv md, Us, Us, Us, Us, Us, Us, Us, Us, Us, Us] [(.ref b_80), (.ref b_80)])) tt_
    refine XS.iconst X_111.here hEX rfl (hb hBY at_207) ?_
    show Steps p.tables e below (T_108.setTop (mkF m 208 #[Lv q1, Zs, Lv q2, Zs, Lv q3, Zs, Lv q4, Zs, Lv q5, Zs, Iv p6, Lv a0, Zs, Lv a1, Zs, Lv a2, Zs, Lv a3, Zs, Lv a4, Zs, Lv a5, Zs, Lv a6, Zs, Lv a7, Zs, Lv b0, Zs, Lv b1, Zs, Lv b2, Zs, Lv b3, Zs, Lv b4, Zs, Lv b5, Zs, Lv b6, Zs, Lv b7, Zs, Iv md, Us, Us, Us, Us, Us, Us, Us, Us, Us, Us] [(.int (4 : Int32)), (.ref b_80), (.ref b_80)])) tt_
    refine XS.lload X_111.here hEX rfl (hb hBY at_208) rfl ?_
    exact kt_
  refine Done.pre sg_120 ?_
  obtain ⟨cl_119, Ar_119, q_119, S_119, N__119, H_119, G_119⟩ := id f_116
  have hin_119 : ¬ ((4 : Int32) < 0 ∨ cl_119.slots.size ≤ ((4 : Int32)).toNatClampNeg) := inb_of S_119 ⟨by decide, by decide⟩
  obtain ⟨T_121, h_121, X_121, e_121, W_121, st_121⟩ := stJ X_111 hEX hZW e_112 Ar_119 (j := (4 : Int32)) hin_119 (g := (mkF m 210 #[Lv q1, Zs, Lv q2, Zs, Lv q3, Zs, Lv q4, Zs, Lv q5, Zs, Iv p6, Lv a0, Zs, Lv a1, Zs, Lv a2, Zs, Lv a3, Zs, Lv a4, Zs, Lv a5, Zs, Lv a6, Zs, Lv a7, Zs, Lv b0, Zs, Lv b1, Zs, Lv b2, Zs, Lv b3, Zs, Lv b4, Zs, Lv b5, Zs, Lv b6, Zs, Lv b7, Zs, Iv md, Us, Us, Us, Us, Us, Us, Us, Us, Us, Us] [(.long a4), (.int (4 : Int32)), (.ref b_80), (.ref b_80)])) rfl rfl (hb hBY at_210)
  have N_121 := Fr.snoc X_121 N_113 ge_117
  have K__122 : Keep h0 h_121 [] := K__114.wr W_121 (Or.inr sz_118)
  have f_123 : Exa Z h_121 b_80 "[J" := f_115.wr W_121
  have f_124 : Arv Z h_121 b_80 k_80 .long (8 : Int32) [(.long a0), (.long a1), (.long a2), (.long a3), (.long a4), (.long (0 : Int64)), (.long (0 : Int64)), (.long (0 : Int64))] (.long (0 : Int64)) := Arv.set Ar_119 q_119 S_119 N__119 H_119 G_119 rfl W_121 4 rfl (Nat.le_of_ble_eq_true rfl)
  refine Done.pre st_121 ?_
  show Done _ _ _ _ _ _ _ (T_121.setTop (mkF m 211 #[Lv q1, Zs, Lv q2, Zs, Lv q3, Zs, Lv q4, Zs, Lv q5, Zs, Iv p6, Lv a0, Zs, Lv a1, Zs, Lv a2, Zs, Lv a3, Zs, Lv a4, Zs, Lv a5, Zs, Lv a6, Zs, Lv a7, Zs, Lv b0, Zs, Lv b1, Zs, Lv b2, Zs, Lv b3, Zs, Lv b4, Zs, Lv b5, Zs, Lv b6, Zs, Lv b7, Zs, Iv md, Us, Us, Us, Us, Us, Us, Us, Us, Us, Us] [(.ref b_80)]))
  have sg_126 : ∀ tt_, Steps p.tables e below (T_121.setTop (mkF m 215 #[Lv q1, Zs, Lv q2, Zs, Lv q3, Zs, Lv q4, Zs, Lv q5, Zs, Iv p6, Lv a0, Zs, Lv a1, Zs, Lv a2, Zs, Lv a3, Zs, Lv a4, Zs, Lv a5, Zs, Lv a6, Zs, Lv a7, Zs, Lv b0, Zs, Lv b1, Zs, Lv b2, Zs, Lv b3, Zs, Lv b4, Zs, Lv b5, Zs, Lv b6, Zs, Lv b7, Zs, Iv md, Us, Us, Us, Us, Us, Us, Us, Us, Us, Us] [(.long a5), (.int (5 : Int32)), (.ref b_80), (.ref b_80)])) tt_ → Steps p.tables e below (T_121.setTop (mkF m 211 #[Lv q1, Zs, Lv q2, Zs, Lv q3, Zs, Lv q4, Zs, Lv q5, Zs, Iv p6, Lv a0, Zs, Lv a1, Zs, Lv a2, Zs, Lv a3, Zs, Lv a4, Zs, Lv a5, Zs, Lv a6, Zs, Lv a7, Zs, Lv b0, Zs, Lv b1, Zs, Lv b2, Zs, Lv b3, Zs, Lv b4, Zs, Lv b5, Zs, Lv b6, Zs, Lv b7, Zs, Iv md, Us, Us, Us, Us, Us, Us, Us, Us, Us, Us] [(.ref b_80)])) tt_ := by
    intro tt_ kt_
    refine XS.dup X_121.here hEX rfl (hb hBY at_211) rfl rfl ?_
    show Steps p.tables e below (T_121.setTop (mkF m 212 #[Lv q1, Zs, Lv q2, Zs, Lv q3, Zs, Lv q4, Zs, Lv q5, Zs, Iv p6, Lv a0, Zs, Lv a1, Zs, Lv a2, Zs, Lv a3, Zs, Lv a4, Zs, Lv a5, Zs, Lv a6, Zs, Lv a7, Zs, Lv b0, Zs, Lv b1, Zs, Lv b2, Zs, Lv b3, Zs, Lv b4, Zs, Lv b5, Zs, Lv b6, Zs, Lv b7, Zs, Iv md, Us, Us, Us, Us, Us, Us, Us, Us, Us, Us] [(.ref b_80), (.ref b_80)])) tt_
    refine XS.iconst X_121.here hEX rfl (hb hBY at_212) ?_
    show Steps p.tables e below (T_121.setTop (mkF m 213 #[Lv q1, Zs, Lv q2, Zs, Lv q3, Zs, Lv q4, Zs, Lv q5, Zs, Iv p6, Lv a0, Zs, Lv a1, Zs, Lv a2, Zs, Lv a3, Zs, Lv a4, Zs, Lv a5, Zs, Lv a6, Zs, Lv a7, Zs, Lv b0, Zs, Lv b1, Zs, Lv b2, Zs, Lv b3, Zs, Lv b4, Zs, Lv b5, Zs, Lv b6, Zs, Lv b7, Zs, Iv md, Us, Us, Us, Us, Us, Us, Us, Us, Us, Us] [(.int (5 : Int32)), (.ref b_80), (.ref b_80)])) tt_
    refine XS.lload X_121.here hEX rfl (hb hBY at_213) rfl ?_
    exact kt_
  refine Done.pre sg_126 ?_
  obtain ⟨cl_125, Ar_125, q_125, S_125, N__125, H_125, G_125⟩ := id f_124
  have hin_125 : ¬ ((5 : Int32) < 0 ∨ cl_125.slots.size ≤ ((5 : Int32)).toNatClampNeg) := inb_of S_125 ⟨by decide, by decide⟩
  obtain ⟨T_127, h_127, X_127, e_127, W_127, st_127⟩ := stJ X_121 hEX hZW e_121 Ar_125 (j := (5 : Int32)) hin_125 (g := (mkF m 215 #[Lv q1, Zs, Lv q2, Zs, Lv q3, Zs, Lv q4, Zs, Lv q5, Zs, Iv p6, Lv a0, Zs, Lv a1, Zs, Lv a2, Zs, Lv a3, Zs, Lv a4, Zs, Lv a5, Zs, Lv a6, Zs, Lv a7, Zs, Lv b0, Zs, Lv b1, Zs, Lv b2, Zs, Lv b3, Zs, Lv b4, Zs, Lv b5, Zs, Lv b6, Zs, Lv b7, Zs, Iv md, Us, Us, Us, Us, Us, Us, Us, Us, Us, Us] [(.long a5), (.int (5 : Int32)), (.ref b_80), (.ref b_80)])) rfl rfl (hb hBY at_215)
  have N_127 := Fr.snoc X_127 N_121 ge_117
  have K__128 : Keep h0 h_127 [] := K__122.wr W_127 (Or.inr sz_118)
  have f_129 : Exa Z h_127 b_80 "[J" := f_123.wr W_127
  have f_130 : Arv Z h_127 b_80 k_80 .long (8 : Int32) [(.long a0), (.long a1), (.long a2), (.long a3), (.long a4), (.long a5), (.long (0 : Int64)), (.long (0 : Int64))] (.long (0 : Int64)) := Arv.set Ar_125 q_125 S_125 N__125 H_125 G_125 rfl W_127 5 rfl (Nat.le_of_ble_eq_true rfl)
  refine Done.pre st_127 ?_
  show Done _ _ _ _ _ _ _ (T_127.setTop (mkF m 216 #[Lv q1, Zs, Lv q2, Zs, Lv q3, Zs, Lv q4, Zs, Lv q5, Zs, Iv p6, Lv a0, Zs, Lv a1, Zs, Lv a2, Zs, Lv a3, Zs, Lv a4, Zs, Lv a5, Zs, Lv a6, Zs, Lv a7, Zs, Lv b0, Zs, Lv b1, Zs, Lv b2, Zs, Lv b3, Zs, Lv b4, Zs, Lv b5, Zs, Lv b6, Zs, Lv b7, Zs, Iv md, Us, Us, Us, Us, Us, Us, Us, Us, Us, Us] [(.ref b_80)]))
  have sg_132 : ∀ tt_, Steps p.tables e below (T_127.setTop (mkF m 221 #[Lv q1, Zs, Lv q2, Zs, Lv q3, Zs, Lv q4, Zs, Lv q5, Zs, Iv p6, Lv a0, Zs, Lv a1, Zs, Lv a2, Zs, Lv a3, Zs, Lv a4, Zs, Lv a5, Zs, Lv a6, Zs, Lv a7, Zs, Lv b0, Zs, Lv b1, Zs, Lv b2, Zs, Lv b3, Zs, Lv b4, Zs, Lv b5, Zs, Lv b6, Zs, Lv b7, Zs, Iv md, Us, Us, Us, Us, Us, Us, Us, Us, Us, Us] [(.long a6), (.int (6 : Int32)), (.ref b_80), (.ref b_80)])) tt_ → Steps p.tables e below (T_127.setTop (mkF m 216 #[Lv q1, Zs, Lv q2, Zs, Lv q3, Zs, Lv q4, Zs, Lv q5, Zs, Iv p6, Lv a0, Zs, Lv a1, Zs, Lv a2, Zs, Lv a3, Zs, Lv a4, Zs, Lv a5, Zs, Lv a6, Zs, Lv a7, Zs, Lv b0, Zs, Lv b1, Zs, Lv b2, Zs, Lv b3, Zs, Lv b4, Zs, Lv b5, Zs, Lv b6, Zs, Lv b7, Zs, Iv md, Us, Us, Us, Us, Us, Us, Us, Us, Us, Us] [(.ref b_80)])) tt_ := by
    intro tt_ kt_
    refine XS.dup X_127.here hEX rfl (hb hBY at_216) rfl rfl ?_
    show Steps p.tables e below (T_127.setTop (mkF m 217 #[Lv q1, Zs, Lv q2, Zs, Lv q3, Zs, Lv q4, Zs, Lv q5, Zs, Iv p6, Lv a0, Zs, Lv a1, Zs, Lv a2, Zs, Lv a3, Zs, Lv a4, Zs, Lv a5, Zs, Lv a6, Zs, Lv a7, Zs, Lv b0, Zs, Lv b1, Zs, Lv b2, Zs, Lv b3, Zs, Lv b4, Zs, Lv b5, Zs, Lv b6, Zs, Lv b7, Zs, Iv md, Us, Us, Us, Us, Us, Us, Us, Us, Us, Us] [(.ref b_80), (.ref b_80)])) tt_
    refine XS.bipush X_127.here hEX rfl (hb hBY at_217) ?_
    show Steps p.tables e below (T_127.setTop (mkF m 219 #[Lv q1, Zs, Lv q2, Zs, Lv q3, Zs, Lv q4, Zs, Lv q5, Zs, Iv p6, Lv a0, Zs, Lv a1, Zs, Lv a2, Zs, Lv a3, Zs, Lv a4, Zs, Lv a5, Zs, Lv a6, Zs, Lv a7, Zs, Lv b0, Zs, Lv b1, Zs, Lv b2, Zs, Lv b3, Zs, Lv b4, Zs, Lv b5, Zs, Lv b6, Zs, Lv b7, Zs, Iv md, Us, Us, Us, Us, Us, Us, Us, Us, Us, Us] [(.int (6 : Int32)), (.ref b_80), (.ref b_80)])) tt_
    refine XS.lload X_127.here hEX rfl (hb hBY at_219) rfl ?_
    exact kt_
  refine Done.pre sg_132 ?_
  obtain ⟨cl_131, Ar_131, q_131, S_131, N__131, H_131, G_131⟩ := id f_130
  have hin_131 : ¬ ((6 : Int32) < 0 ∨ cl_131.slots.size ≤ ((6 : Int32)).toNatClampNeg) := inb_of S_131 ⟨by decide, by decide⟩
  obtain ⟨T_133, h_133, X_133, e_133, W_133, st_133⟩ := stJ X_127 hEX hZW e_127 Ar_131 (j := (6 : Int32)) hin_131 (g := (mkF m 221 #[Lv q1, Zs, Lv q2, Zs, Lv q3, Zs, Lv q4, Zs, Lv q5, Zs, Iv p6, Lv a0, Zs, Lv a1, Zs, Lv a2, Zs, Lv a3, Zs, Lv a4, Zs, Lv a5, Zs, Lv a6, Zs, Lv a7, Zs, Lv b0, Zs, Lv b1, Zs, Lv b2, Zs, Lv b3, Zs, Lv b4, Zs, Lv b5, Zs, Lv b6, Zs, Lv b7, Zs, Iv md, Us, Us, Us, Us, Us, Us, Us, Us, Us, Us] [(.long a6), (.int (6 : Int32)), (.ref b_80), (.ref b_80)])) rfl rfl (hb hBY at_221)
  have N_133 := Fr.snoc X_133 N_127 ge_117
  have K__134 : Keep h0 h_133 [] := K__128.wr W_133 (Or.inr sz_118)
  have f_135 : Exa Z h_133 b_80 "[J" := f_129.wr W_133
  have f_136 : Arv Z h_133 b_80 k_80 .long (8 : Int32) [(.long a0), (.long a1), (.long a2), (.long a3), (.long a4), (.long a5), (.long a6), (.long (0 : Int64))] (.long (0 : Int64)) := Arv.set Ar_131 q_131 S_131 N__131 H_131 G_131 rfl W_133 6 rfl (Nat.le_of_ble_eq_true rfl)
  refine Done.pre st_133 ?_
  show Done _ _ _ _ _ _ _ (T_133.setTop (mkF m 222 #[Lv q1, Zs, Lv q2, Zs, Lv q3, Zs, Lv q4, Zs, Lv q5, Zs, Iv p6, Lv a0, Zs, Lv a1, Zs, Lv a2, Zs, Lv a3, Zs, Lv a4, Zs, Lv a5, Zs, Lv a6, Zs, Lv a7, Zs, Lv b0, Zs, Lv b1, Zs, Lv b2, Zs, Lv b3, Zs, Lv b4, Zs, Lv b5, Zs, Lv b6, Zs, Lv b7, Zs, Iv md, Us, Us, Us, Us, Us, Us, Us, Us, Us, Us] [(.ref b_80)]))
  have sg_138 : ∀ tt_, Steps p.tables e below (T_133.setTop (mkF m 227 #[Lv q1, Zs, Lv q2, Zs, Lv q3, Zs, Lv q4, Zs, Lv q5, Zs, Iv p6, Lv a0, Zs, Lv a1, Zs, Lv a2, Zs, Lv a3, Zs, Lv a4, Zs, Lv a5, Zs, Lv a6, Zs, Lv a7, Zs, Lv b0, Zs, Lv b1, Zs, Lv b2, Zs, Lv b3, Zs, Lv b4, Zs, Lv b5, Zs, Lv b6, Zs, Lv b7, Zs, Iv md, Us, Us, Us, Us, Us, Us, Us, Us, Us, Us] [(.long a7), (.int (7 : Int32)), (.ref b_80), (.ref b_80)])) tt_ → Steps p.tables e below (T_133.setTop (mkF m 222 #[Lv q1, Zs, Lv q2, Zs, Lv q3, Zs, Lv q4, Zs, Lv q5, Zs, Iv p6, Lv a0, Zs, Lv a1, Zs, Lv a2, Zs, Lv a3, Zs, Lv a4, Zs, Lv a5, Zs, Lv a6, Zs, Lv a7, Zs, Lv b0, Zs, Lv b1, Zs, Lv b2, Zs, Lv b3, Zs, Lv b4, Zs, Lv b5, Zs, Lv b6, Zs, Lv b7, Zs, Iv md, Us, Us, Us, Us, Us, Us, Us, Us, Us, Us] [(.ref b_80)])) tt_ := by
    intro tt_ kt_
    refine XS.dup X_133.here hEX rfl (hb hBY at_222) rfl rfl ?_
    show Steps p.tables e below (T_133.setTop (mkF m 223 #[Lv q1, Zs, Lv q2, Zs, Lv q3, Zs, Lv q4, Zs, Lv q5, Zs, Iv p6, Lv a0, Zs, Lv a1, Zs, Lv a2, Zs, Lv a3, Zs, Lv a4, Zs, Lv a5, Zs, Lv a6, Zs, Lv a7, Zs, Lv b0, Zs, Lv b1, Zs, Lv b2, Zs, Lv b3, Zs, Lv b4, Zs, Lv b5, Zs, Lv b6, Zs, Lv b7, Zs, Iv md, Us, Us, Us, Us, Us, Us, Us, Us, Us, Us] [(.ref b_80), (.ref b_80)])) tt_
    refine XS.bipush X_133.here hEX rfl (hb hBY at_223) ?_
    show Steps p.tables e below (T_133.setTop (mkF m 225 #[Lv q1, Zs, Lv q2, Zs, Lv q3, Zs, Lv q4, Zs, Lv q5, Zs, Iv p6, Lv a0, Zs, Lv a1, Zs, Lv a2, Zs, Lv a3, Zs, Lv a4, Zs, Lv a5, Zs, Lv a6, Zs, Lv a7, Zs, Lv b0, Zs, Lv b1, Zs, Lv b2, Zs, Lv b3, Zs, Lv b4, Zs, Lv b5, Zs, Lv b6, Zs, Lv b7, Zs, Iv md, Us, Us, Us, Us, Us, Us, Us, Us, Us, Us] [(.int (7 : Int32)), (.ref b_80), (.ref b_80)])) tt_
    refine XS.lload X_133.here hEX rfl (hb hBY at_225) rfl ?_
    exact kt_
  refine Done.pre sg_138 ?_
  obtain ⟨cl_137, Ar_137, q_137, S_137, N__137, H_137, G_137⟩ := id f_136
  have hin_137 : ¬ ((7 : Int32) < 0 ∨ cl_137.slots.size ≤ ((7 : Int32)).toNatClampNeg) := inb_of S_137 ⟨by decide, by decide⟩
  obtain ⟨T_139, h_139, X_139, e_139, W_139, st_139⟩ := stJ X_133 hEX hZW e_133 Ar_137 (j := (7 : Int32)) hin_137 (g := (mkF m 227 #[Lv q1, Zs, Lv q2, Zs, Lv q3, Zs, Lv q4, Zs, Lv q5, Zs, Iv p6, Lv a0, Zs, Lv a1, Zs, Lv a2, Zs, Lv a3, Zs, Lv a4, Zs, Lv a5, Zs, Lv a6, Zs, Lv a7, Zs, Lv b0, Zs, Lv b1, Zs, Lv b2, Zs, Lv b3, Zs, Lv b4, Zs, Lv b5, Zs, Lv b6, Zs, Lv b7, Zs, Iv md, Us, Us, Us, Us, Us, Us, Us, Us, Us, Us] [(.long a7), (.int (7 : Int32)), (.ref b_80), (.ref b_80)])) rfl rfl (hb hBY at_227)
  have N_139 := Fr.snoc X_139 N_133 ge_117
  have K__140 : Keep h0 h_139 [] := K__134.wr W_139 (Or.inr sz_118)
  have f_141 : Exa Z h_139 b_80 "[J" := f_135.wr W_139
  have f_142 : Arv Z h_139 b_80 k_80 .long (8 : Int32) [(.long a0), (.long a1), (.long a2), (.long a3), (.long a4), (.long a5), (.long a6), (.long a7)] (.long (0 : Int64)) := Arv.set Ar_137 q_137 S_137 N__137 H_137 G_137 rfl W_139 7 rfl (Nat.le_of_ble_eq_true rfl)
  refine Done.pre st_139 ?_
  show Done _ _ _ _ _ _ _ (T_139.setTop (mkF m 228 #[Lv q1, Zs, Lv q2, Zs, Lv q3, Zs, Lv q4, Zs, Lv q5, Zs, Iv p6, Lv a0, Zs, Lv a1, Zs, Lv a2, Zs, Lv a3, Zs, Lv a4, Zs, Lv a5, Zs, Lv a6, Zs, Lv a7, Zs, Lv b0, Zs, Lv b1, Zs, Lv b2, Zs, Lv b3, Zs, Lv b4, Zs, Lv b5, Zs, Lv b6, Zs, Lv b7, Zs, Iv md, Us, Us, Us, Us, Us, Us, Us, Us, Us, Us] [(.ref b_80)]))
  have sg_143 : ∀ tt_, Steps p.tables e below (T_139.setTop (mkF m 230 #[Lv q1, Zs, Lv q2, Zs, Lv q3, Zs, Lv q4, Zs, Lv q5, Zs, Iv p6, Lv a0, Zs, Lv a1, Zs, Lv a2, Zs, Lv a3, Zs, Lv a4, Zs, Lv a5, Zs, Lv a6, Zs, Lv a7, Zs, Lv b0, Zs, Lv b1, Zs, Lv b2, Zs, Lv b3, Zs, Lv b4, Zs, Lv b5, Zs, Lv b6, Zs, Lv b7, Zs, Iv md, Rv b_80, Us, Us, Us, Us, Us, Us, Us, Us, Us] [])) tt_ → Steps p.tables e below (T_139.setTop (mkF m 228 #[Lv q1, Zs, Lv q2, Zs, Lv q3, Zs, Lv q4, Zs, Lv q5, Zs, Iv p6, Lv a0, Zs, Lv a1, Zs, Lv a2, Zs, Lv a3, Zs, Lv a4, Zs, Lv a5, Zs, Lv a6, Zs, Lv a7, Zs, Lv b0, Zs, Lv b1, Zs, Lv b2, Zs, Lv b3, Zs, Lv b4, Zs, Lv b5, Zs, Lv b6, Zs, Lv b7, Zs, Iv md, Us, Us, Us, Us, Us, Us, Us, Us, Us, Us] [(.ref b_80)])) tt_ := by
    intro tt_ kt_
    refine XS.astore X_139.here hEX rfl (hb hBY at_228) rfl rfl (l' := #[Lv q1, Zs, Lv q2, Zs, Lv q3, Zs, Lv q4, Zs, Lv q5, Zs, Iv p6, Lv a0, Zs, Lv a1, Zs, Lv a2, Zs, Lv a3, Zs, Lv a4, Zs, Lv a5, Zs, Lv a6, Zs, Lv a7, Zs, Lv b0, Zs, Lv b1, Zs, Lv b2, Zs, Lv b3, Zs, Lv b4, Zs, Lv b5, Zs, Lv b6, Zs, Lv b7, Zs, Iv md, Rv b_80, Us, Us, Us, Us, Us, Us, Us, Us, Us]) rfl ?_
    exact kt_
  refine Done.pre sg_143 ?_
  show Done _ _ _ _ _ _ _ (T_139.setTop (mkF m 230 #[Lv q1, Zs, Lv q2, Zs, Lv q3, Zs, Lv q4, Zs, Lv q5, Zs, Iv p6, Lv a0, Zs, Lv a1, Zs, Lv a2, Zs, Lv a3, Zs, Lv a4, Zs, Lv a5, Zs, Lv a6, Zs, Lv a7, Zs, Lv b0, Zs, Lv b1, Zs, Lv b2, Zs, Lv b3, Zs, Lv b4, Zs, Lv b5, Zs, Lv b6, Zs, Lv b7, Zs, Iv md, Rv b_80, Us, Us, Us, Us, Us, Us, Us, Us, Us] []))
  exact rm0_j230 l Z aZ hw ws q1 q2 q3 q4 q5 p6 h0 n0 Z0 p e s m below meth cO hEX hBY hMX hOW hNM hLK hRT hZW a0 a1 a2 a3 a4 a5 a6 a7 md b0 b1 b2 b3 b4 b5 b6 b7 b_80 k_80 T_139 h_139 _ X_139 e_139 N_139 K__140 f_141 f_142 hRa hm4 hRb hEq ge_117 sz_118
set_option maxRecDepth 65536 in
set_option maxHeartbeats 40000000 in
theorem rm0_j182 (l : Launch) (Z : State) (aZ : Array Value) (hw : ∀ d ∈ tables_1, d.before aZ Z = true) (ws : List Jvm.Cond) (q1 : Int64) (q2 : Int64) (q3 : Int64) (q4 : Int64) (q5 : Int64) (p6 : Int32) (h0 : Heap) (n0 : Nat) (Z0 : n0 ≤ h0.size)
    (p : Program) (e : Env) (s : State) (m : MethodId) (below : List Frame) (meth : Method) (cO : Code) (hEX : p.tables.exec = Jvm.exec) (hBY : cO.code = code) (hMX : cO.maxLocals = 54) (hOW : s.vm.findClass "com/example/guard3/guard3/P384FieldSubtractPinLaw" = some m.cls) (hNM : meth.name = x.name) (hLK : meth.locks = false) (hRT : meth.sig.returnType = ret) (hZW : Z.Warmed39 s.vm)
    (a0 : Int64) (a1 : Int64) (a2 : Int64) (a3 : Int64) (a4 : Int64) (a5 : Int64) (a6 : Int64) (a7 : Int64) (md : Int32) (T_72 : State) (h_73 : Heap) (L_74 : List Loc) (X_75 : Stand p l e room_1 s m #[(.long q1), (.long q2), (.long q3), (.long q4), (.long q5), (.int p6)] below meth cO T_72 L_74 0 0) (e_76 : T_72.heap = h_73) (N_77 : Fr n0 L_74) (K__78 : Keep h0 h_73 []) (b0 : Int64) (b1 : Int64) (b2 : Int64) (b3 : Int64) (b4 : Int64) (b5 : Int64) (b6 : Int64) (b7 : Int64) (hRb : own_R 1125899906842624 b0 b1 b2 b3 b4 b5 b6 b7) (hEq : md = (3 : Int32) → a0 = b0 ∧ a1 = b1 ∧ a2 = b2 ∧ a3 = b3 ∧ a4 = b4 ∧ a5 = b5 ∧ a6 = b6 ∧ a7 = b7) (hRa : own_R 1125899906842624 a0 a1 a2 a3 a4 a5 a6 a7) (hm4 : md = (0 : Int32) ∨ md = (1 : Int32) ∨ md = (2 : Int32) ∨ md = (3 : Int32)) :
    Done p e below s (Qrm0 Z q1 q2 q3 q4 q5 p6 h0 n0) room_1.cells room_1.slots (T_72.setTop (mkF m 182 #[Lv q1, Zs, Lv q2, Zs, Lv q3, Zs, Lv q4, Zs, Lv q5, Zs, Iv p6, Lv a0, Zs, Lv a1, Zs, Lv a2, Zs, Lv a3, Zs, Lv a4, Zs, Lv a5, Zs, Lv a6, Zs, Lv a7, Zs, Lv b0, Zs, Lv b1, Zs, Lv b2, Zs, Lv b3, Zs, Lv b4, Zs, Lv b5, Zs, Lv b6, Zs, Lv b7, Zs, Iv md, Us, Us, Us, Us, Us, Us, Us, Us, Us, Us] [])) := by
  have sg_79 : ∀ tt_, Steps p.tables e below (T_72.setTop (mkF m 184 #[Lv q1, Zs, Lv q2, Zs, Lv q3, Zs, Lv q4, Zs, Lv q5, Zs, Iv p6, Lv a0, Zs, Lv a1, Zs, Lv a2, Zs, Lv a3, Zs, Lv a4, Zs, Lv a5, Zs, Lv a6, Zs, Lv a7, Zs, Lv b0, Zs, Lv b1, Zs, Lv b2, Zs, Lv b3, Zs, Lv b4, Zs, Lv b5, Zs, Lv b6, Zs, Lv b7, Zs, Iv md, Us, Us, Us, Us, Us, Us, Us, Us, Us, Us] [(.int (8 : Int32))])) tt_ → Steps p.tables e below (T_72.setTop (mkF m 182 #[Lv q1, Zs, Lv q2, Zs, Lv q3, Zs, Lv q4, Zs, Lv q5, Zs, Iv p6, Lv a0, Zs, Lv a1, Zs, Lv a2, Zs, Lv a3, Zs, Lv a4, Zs, Lv a5, Zs, Lv a6, Zs, Lv a7, Zs, Lv b0, Zs, Lv b1, Zs, Lv b2, Zs, Lv b3, Zs, Lv b4, Zs, Lv b5, Zs, Lv b6, Zs, Lv b7, Zs, Iv md, Us, Us, Us, Us, Us, Us, Us, Us, Us, Us] [])) tt_ := by
    intro tt_ kt_
    refine XS.bipush X_75.here hEX rfl (hb hBY at_182) ?_
    exact kt_
  refine Done.pre sg_79 ?_
  obtain ⟨T_80, h_80, k_80, X_80, e_80, E_80, A_80, B_80, st_80⟩ := newPE X_75 hEX hZW (hw _ (List.mem_of_getElem? (i := 9) rfl)) e_76 (g := (mkF m 184 #[Lv q1, Zs, Lv q2, Zs, Lv q3, Zs, Lv q4, Zs, Lv q5, Zs, Iv p6, Lv a0, Zs, Lv a1, Zs, Lv a2, Zs, Lv a3, Zs, Lv a4, Zs, Lv a5, Zs, Lv a6, Zs, Lv a7, Zs, Lv b0, Zs, Lv b1, Zs, Lv b2, Zs, Lv b3, Zs, Lv b4, Zs, Lv b5, Zs, Lv b6, Zs, Lv b7, Zs, Iv md, Us, Us, Us, Us, Us, Us, Us, Us, Us, Us] [(.int (8 : Int32))])) rfl (hb hBY at_184) rfl (by decide) (cap := 8) (by decide) (by decide) (by decide) (by decide) (ad := "[J") (by decide)
  obtain ⟨b_80, g_80⟩ : ∃ z, z = h_73.size := ⟨_, rfl⟩
  rw [← g_80] at A_80 B_80 st_80
  have sz_b_80 : h0.size ≤ b_80 := Nat.le_trans K__78.1 (Nat.le_of_eq g_80.symm)
  have ge_b_80 : n0 ≤ b_80 := Nat.le_trans Z0 sz_b_80
  have K__81 : Keep h0 h_80 [] := K__78.ext E_80
  have f_82 : Arv Z h_80 b_80 k_80 .long (8 : Int32) [(.long (0 : Int64)), (.long (0 : Int64)), (.long (0 : Int64)), (.long (0 : Int64)), (.long (0 : Int64)), (.long (0 : Int64)), (.long (0 : Int64)), (.long (0 : Int64))] (.long (0 : Int64)) := (Arv.new A_80 (by decide)).pad (pad_rep [] (.long (0 : Int64)) 8)
  refine Done.pre st_80 ?_
  show Done _ _ _ _ _ _ _ (T_80.setTop (mkF m 186 #[Lv q1, Zs, Lv q2, Zs, Lv q3, Zs, Lv q4, Zs, Lv q5, Zs, Iv p6, Lv a0, Zs, Lv a1, Zs, Lv a2, Zs, Lv a3, Zs, Lv a4, Zs, Lv a5, Zs, Lv a6, Zs, Lv a7, Zs, Lv b0, Zs, Lv b1, Zs, Lv b2, Zs, Lv b3, Zs, Lv b4, Zs, Lv b5, Zs, Lv b6, Zs, Lv b7, Zs, Iv md, Us, Us, Us, Us, Us, Us, Us, Us, Us, Us] [(.ref b_80)]))
  have sg_84 : ∀ tt_, Steps p.tables e below (T_80.setTop (mkF m 190 #[Lv q1, Zs, Lv q2, Zs, Lv q3, Zs, Lv q4, Zs, Lv q5, Zs, Iv p6, Lv a0, Zs, Lv a1, Zs, Lv a2, Zs, Lv a3, Zs, Lv a4, Zs, Lv a5, Zs, Lv a6, Zs, Lv a7, Zs, Lv b0, Zs, Lv b1, Zs, Lv b2, Zs, Lv b3, Zs, Lv b4, Zs, Lv b5, Zs, Lv b6, Zs, Lv b7, Zs, Iv md, Us, Us, Us, Us, Us, Us, Us, Us, Us, Us] [(.long a0), (.int (0 : Int32)), (.ref b_80), (.ref b_80)])) tt_ → Steps p.tables e below (T_80.setTop (mkF m 186 #[Lv q1, Zs, Lv q2, Zs, Lv q3, Zs, Lv q4, Zs, Lv q5, Zs, Iv p6, Lv a0, Zs, Lv a1, Zs, Lv a2, Zs, Lv a3, Zs, Lv a4, Zs, Lv a5, Zs, Lv a6, Zs, Lv a7, Zs, Lv b0, Zs, Lv b1, Zs, Lv b2, Zs, Lv b3, Zs, Lv b4, Zs, Lv b5, Zs, Lv b6, Zs, Lv b7, Zs, Iv md, Us, Us, Us, Us, Us, Us, Us, Us, Us, Us] [(.ref b_80)])) tt_ := by
    intro tt_ kt_
    refine XS.dup X_80.here hEX rfl (hb hBY at_186) rfl rfl ?_
    show Steps p.tables e below (T_80.setTop (mkF m 187 #[Lv q1, Zs, Lv q2, Zs, Lv q3, Zs, Lv q4, Zs, Lv q5, Zs, Iv p6, Lv a0, Zs, Lv a1, Zs, Lv a2, Zs, Lv a3, Zs, Lv a4, Zs, Lv a5, Zs, Lv a6, Zs, Lv a7, Zs, Lv b0, Zs, Lv b1, Zs, Lv b2, Zs, Lv b3, Zs, Lv b4, Zs, Lv b5, Zs, Lv b6, Zs, Lv b7, Zs, Iv md, Us, Us, Us, Us, Us, Us, Us, Us, Us, Us] [(.ref b_80), (.ref b_80)])) tt_
    refine XS.iconst X_80.here hEX rfl (hb hBY at_187) ?_
    show Steps p.tables e below (T_80.setTop (mkF m 188 #[Lv q1, Zs, Lv q2, Zs, Lv q3, Zs, Lv q4, Zs, Lv q5, Zs, Iv p6, Lv a0, Zs, Lv a1, Zs, Lv a2, Zs, Lv a3, Zs, Lv a4, Zs, Lv a5, Zs, Lv a6, Zs, Lv a7, Zs, Lv b0, Zs, Lv b1, Zs, Lv b2, Zs, Lv b3, Zs, Lv b4, Zs, Lv b5, Zs, Lv b6, Zs, Lv b7, Zs, Iv md, Us, Us, Us, Us, Us, Us, Us, Us, Us, Us] [(.int (0 : Int32)), (.ref b_80), (.ref b_80)])) tt_
    refine XS.lload X_80.here hEX rfl (hb hBY at_188) rfl ?_
    exact kt_
  refine Done.pre sg_84 ?_
  obtain ⟨cl_83, Ar_83, q_83, S_83, N__83, H_83, G_83⟩ := id f_82
  have hin_83 : ¬ ((0 : Int32) < 0 ∨ cl_83.slots.size ≤ ((0 : Int32)).toNatClampNeg) := inb_of S_83 ⟨by decide, by decide⟩
  obtain ⟨T_85, h_85, X_85, e_85, W_85, st_85⟩ := stJ X_80 hEX hZW e_80 Ar_83 (j := (0 : Int32)) hin_83 (g := (mkF m 190 #[Lv q1, Zs, Lv q2, Zs, Lv q3, Zs, Lv q4, Zs, Lv q5, Zs, Iv p6, Lv a0, Zs, Lv a1, Zs, Lv a2, Zs, Lv a3, Zs, Lv a4, Zs, Lv a5, Zs, Lv a6, Zs, Lv a7, Zs, Lv b0, Zs, Lv b1, Zs, Lv b2, Zs, Lv b3, Zs, Lv b4, Zs, Lv b5, Zs, Lv b6, Zs, Lv b7, Zs, Iv md, Us, Us, Us, Us, Us, Us, Us, Us, Us, Us] [(.long a0), (.int (0 : Int32)), (.ref b_80), (.ref b_80)])) rfl rfl (hb hBY at_190)
  have N_85 := Fr.snoc X_85 N_77 ge_b_80
  have K__86 : Keep h0 h_85 [] := K__81.wr W_85 (Or.inr sz_b_80)
  have f_87 : Exa Z h_85 b_80 "[J" := B_80.wr W_85
  have f_88 : Arv Z h_85 b_80 k_80 .long (8 : Int32) [(.long a0), (.long (0 : Int64)), (.long (0 : Int64)), (.long (0 : Int64)), (.long (0 : Int64)), (.long (0 : Int64)), (.long (0 : Int64)), (.long (0 : Int64))] (.long (0 : Int64)) := Arv.set Ar_83 q_83 S_83 N__83 H_83 G_83 rfl W_85 0 rfl (Nat.le_of_ble_eq_true rfl)
  refine Done.pre st_85 ?_
  show Done _ _ _ _ _ _ _ (T_85.setTop (mkF m 191 #[Lv q1, Zs, Lv q2, Zs, Lv q3, Zs, Lv q4, Zs, Lv q5, Zs, Iv p6, Lv a0, Zs, Lv a1, Zs, Lv a2, Zs, Lv a3, Zs, Lv a4, Zs, Lv a5, Zs, Lv a6, Zs, Lv a7, Zs, Lv b0, Zs, Lv b1, Zs, Lv b2, Zs, Lv b3, Zs, Lv b4, Zs, Lv b5, Zs, Lv b6, Zs, Lv b7, Zs, Iv md, Us, Us, Us, Us, Us, Us, Us, Us, Us, Us] [(.ref b_80)]))
  have sg_90 : ∀ tt_, Steps p.tables e below (T_85.setTop (mkF m 195 #[Lv q1, Zs, Lv q2, Zs, Lv q3, Zs, Lv q4, Zs, Lv q5, Zs, Iv p6, Lv a0, Zs, Lv a1, Zs, Lv a2, Zs, Lv a3, Zs, Lv a4, Zs, Lv a5, Zs, Lv a6, Zs, Lv a7, Zs, Lv b0, Zs, Lv b1, Zs, Lv b2, Zs, Lv b3, Zs, Lv b4, Zs, Lv b5, Zs, Lv b6, Zs, Lv b7, Zs, Iv md, Us, Us, Us, Us, Us, Us, Us, Us, Us, Us] [(.long a1), (.int (1 : Int32)), (.ref b_80), (.ref b_80)])) tt_ → Steps p.tables e below (T_85.setTop (mkF m 191 #[Lv q1, Zs, Lv q2, Zs, Lv q3, Zs, Lv q4, Zs, Lv q5, Zs, Iv p6, Lv a0, Zs, Lv a1, Zs, Lv a2, Zs, Lv a3, Zs, Lv a4, Zs, Lv a5, Zs, Lv a6, Zs, Lv a7, Zs, Lv b0, Zs, Lv b1, Zs, Lv b2, Zs, Lv b3, Zs, Lv b4, Zs, Lv b5, Zs, Lv b6, Zs, Lv b7, Zs, Iv md, Us, Us, Us, Us, Us, Us, Us, Us, Us, Us] [(.ref b_80)])) tt_ := by
    intro tt_ kt_
    refine XS.dup X_85.here hEX rfl (hb hBY at_191) rfl rfl ?_
    show Steps p.tables e below (T_85.setTop (mkF m 192 #[Lv q1, Zs, Lv q2, Zs, Lv q3, Zs, Lv q4, Zs, Lv q5, Zs, Iv p6, Lv a0, Zs, Lv a1, Zs, Lv a2, Zs, Lv a3, Zs, Lv a4, Zs, Lv a5, Zs, Lv a6, Zs, Lv a7, Zs, Lv b0, Zs, Lv b1, Zs, Lv b2, Zs, Lv b3, Zs, Lv b4, Zs, Lv b5, Zs, Lv b6, Zs, Lv b7, Zs, Iv md, Us, Us, Us, Us, Us, Us, Us, Us, Us, Us] [(.ref b_80), (.ref b_80)])) tt_
    refine XS.iconst X_85.here hEX rfl (hb hBY at_192) ?_
    show Steps p.tables e below (T_85.setTop (mkF m 193 #[Lv q1, Zs, Lv q2, Zs, Lv q3, Zs, Lv q4, Zs, Lv q5, Zs, Iv p6, Lv a0, Zs, Lv a1, Zs, Lv a2, Zs, Lv a3, Zs, Lv a4, Zs, Lv a5, Zs, Lv a6, Zs, Lv a7, Zs, Lv b0, Zs, Lv b1, Zs, Lv b2, Zs, Lv b3, Zs, Lv b4, Zs, Lv b5, Zs, Lv b6, Zs, Lv b7, Zs, Iv md, Us, Us, Us, Us, Us, Us, Us, Us, Us, Us] [(.int (1 : Int32)), (.ref b_80), (.ref b_80)])) tt_
    refine XS.lload X_85.here hEX rfl (hb hBY at_193) rfl ?_
    exact kt_
  refine Done.pre sg_90 ?_
  obtain ⟨cl_89, Ar_89, q_89, S_89, N__89, H_89, G_89⟩ := id f_88
  have hin_89 : ¬ ((1 : Int32) < 0 ∨ cl_89.slots.size ≤ ((1 : Int32)).toNatClampNeg) := inb_of S_89 ⟨by decide, by decide⟩
  obtain ⟨T_91, h_91, X_91, e_91, W_91, st_91⟩ := stJ X_85 hEX hZW e_85 Ar_89 (j := (1 : Int32)) hin_89 (g := (mkF m 195 #[Lv q1, Zs, Lv q2, Zs, Lv q3, Zs, Lv q4, Zs, Lv q5, Zs, Iv p6, Lv a0, Zs, Lv a1, Zs, Lv a2, Zs, Lv a3, Zs, Lv a4, Zs, Lv a5, Zs, Lv a6, Zs, Lv a7, Zs, Lv b0, Zs, Lv b1, Zs, Lv b2, Zs, Lv b3, Zs, Lv b4, Zs, Lv b5, Zs, Lv b6, Zs, Lv b7, Zs, Iv md, Us, Us, Us, Us, Us, Us, Us, Us, Us, Us] [(.long a1), (.int (1 : Int32)), (.ref b_80), (.ref b_80)])) rfl rfl (hb hBY at_195)
  have N_91 := Fr.snoc X_91 N_85 ge_b_80
  have K__92 : Keep h0 h_91 [] := K__86.wr W_91 (Or.inr sz_b_80)
  have f_93 : Exa Z h_91 b_80 "[J" := f_87.wr W_91
  have f_94 : Arv Z h_91 b_80 k_80 .long (8 : Int32) [(.long a0), (.long a1), (.long (0 : Int64)), (.long (0 : Int64)), (.long (0 : Int64)), (.long (0 : Int64)), (.long (0 : Int64)), (.long (0 : Int64))] (.long (0 : Int64)) := Arv.set Ar_89 q_89 S_89 N__89 H_89 G_89 rfl W_91 1 rfl (Nat.le_of_ble_eq_true rfl)
  refine Done.pre st_91 ?_
  show Done _ _ _ _ _ _ _ (T_91.setTop (mkF m 196 #[Lv q1, Zs, Lv q2, Zs, Lv q3, Zs, Lv q4, Zs, Lv q5, Zs, Iv p6, Lv a0, Zs, Lv a1, Zs, Lv a2, Zs, Lv a3, Zs, Lv a4, Zs, Lv a5, Zs, Lv a6, Zs, Lv a7, Zs, Lv b0, Zs, Lv b1, Zs, Lv b2, Zs, Lv b3, Zs, Lv b4, Zs, Lv b5, Zs, Lv b6, Zs, Lv b7, Zs, Iv md, Us, Us, Us, Us, Us, Us, Us, Us, Us, Us] [(.ref b_80)]))
  have sg_96 : ∀ tt_, Steps p.tables e below (T_91.setTop (mkF m 200 #[Lv q1, Zs, Lv q2, Zs, Lv q3, Zs, Lv q4, Zs, Lv q5, Zs, Iv p6, Lv a0, Zs, Lv a1, Zs, Lv a2, Zs, Lv a3, Zs, Lv a4, Zs, Lv a5, Zs, Lv a6, Zs, Lv a7, Zs, Lv b0, Zs, Lv b1, Zs, Lv b2, Zs, Lv b3, Zs, Lv b4, Zs, Lv b5, Zs, Lv b6, Zs, Lv b7, Zs, Iv md, Us, Us, Us, Us, Us, Us, Us, Us, Us, Us] [(.long a2), (.int (2 : Int32)), (.ref b_80), (.ref b_80)])) tt_ → Steps p.tables e below (T_91.setTop (mkF m 196 #[Lv q1, Zs, Lv q2, Zs, Lv q3, Zs, Lv q4, Zs, Lv q5, Zs, Iv p6, Lv a0, Zs, Lv a1, Zs, Lv a2, Zs, Lv a3, Zs, Lv a4, Zs, Lv a5, Zs, Lv a6, Zs, Lv a7, Zs, Lv b0, Zs, Lv b1, Zs, Lv b2, Zs, Lv b3, Zs, Lv b4, Zs, Lv b5, Zs, Lv b6, Zs, Lv b7, Zs, Iv md, Us, Us, Us, Us, Us, Us, Us, Us, Us, Us] [(.ref b_80)])) tt_ := by
    intro tt_ kt_
    refine XS.dup X_91.here hEX rfl (hb hBY at_196) rfl rfl ?_
    show Steps p.tables e below (T_91.setTop (mkF m 197 #[Lv q1, Zs, Lv q2, Zs, Lv q3, Zs, Lv q4, Zs, Lv q5, Zs, Iv p6, Lv a0, Zs, Lv a1, Zs, Lv a2, Zs, Lv a3, Zs, Lv a4, Zs, Lv a5, Zs, Lv a6, Zs, Lv a7, Zs, Lv b0, Zs, Lv b1, Zs, Lv b2, Zs, Lv b3, Zs, Lv b4, Zs, Lv b5, Zs, Lv b6, Zs, Lv b7, Zs, Iv md, Us, Us, Us, Us, Us, Us, Us, Us, Us, Us] [(.ref b_80), (.ref b_80)])) tt_
    refine XS.iconst X_91.here hEX rfl (hb hBY at_197) ?_
    show Steps p.tables e below (T_91.setTop (mkF m 198 #[Lv q1, Zs, Lv q2, Zs, Lv q3, Zs, Lv q4, Zs, Lv q5, Zs, Iv p6, Lv a0, Zs, Lv a1, Zs, Lv a2, Zs, Lv a3, Zs, Lv a4, Zs, Lv a5, Zs, Lv a6, Zs, Lv a7, Zs, Lv b0, Zs, Lv b1, Zs, Lv b2, Zs, Lv b3, Zs, Lv b4, Zs, Lv b5, Zs, Lv b6, Zs, Lv b7, Zs, Iv md, Us, Us, Us, Us, Us, Us, Us, Us, Us, Us] [(.int (2 : Int32)), (.ref b_80), (.ref b_80)])) tt_
    refine XS.lload X_91.here hEX rfl (hb hBY at_198) rfl ?_
    exact kt_
  refine Done.pre sg_96 ?_
  obtain ⟨cl_95, Ar_95, q_95, S_95, N__95, H_95, G_95⟩ := id f_94
  have hin_95 : ¬ ((2 : Int32) < 0 ∨ cl_95.slots.size ≤ ((2 : Int32)).toNatClampNeg) := inb_of S_95 ⟨by decide, by decide⟩
  obtain ⟨T_97, h_97, X_97, e_97, W_97, st_97⟩ := stJ X_91 hEX hZW e_91 Ar_95 (j := (2 : Int32)) hin_95 (g := (mkF m 200 #[Lv q1, Zs, Lv q2, Zs, Lv q3, Zs, Lv q4, Zs, Lv q5, Zs, Iv p6, Lv a0, Zs, Lv a1, Zs, Lv a2, Zs, Lv a3, Zs, Lv a4, Zs, Lv a5, Zs, Lv a6, Zs, Lv a7, Zs, Lv b0, Zs, Lv b1, Zs, Lv b2, Zs, Lv b3, Zs, Lv b4, Zs, Lv b5, Zs, Lv b6, Zs, Lv b7, Zs, Iv md, Us, Us, Us, Us, Us, Us, Us, Us, Us, Us] [(.long a2), (.int (2 : Int32)), (.ref b_80), (.ref b_80)])) rfl rfl (hb hBY at_200)
  have N_97 := Fr.snoc X_97 N_91 ge_b_80
  have K__98 : Keep h0 h_97 [] := K__92.wr W_97 (Or.inr sz_b_80)
  have f_99 : Exa Z h_97 b_80 "[J" := f_93.wr W_97
  have f_100 : Arv Z h_97 b_80 k_80 .long (8 : Int32) [(.long a0), (.long a1), (.long a2), (.long (0 : Int64)), (.long (0 : Int64)), (.long (0 : Int64)), (.long (0 : Int64)), (.long (0 : Int64))] (.long (0 : Int64)) := Arv.set Ar_95 q_95 S_95 N__95 H_95 G_95 rfl W_97 2 rfl (Nat.le_of_ble_eq_true rfl)
  refine Done.pre st_97 ?_
  show Done _ _ _ _ _ _ _ (T_97.setTop (mkF m 201 #[Lv q1, Zs, Lv q2, Zs, Lv q3, Zs, Lv q4, Zs, Lv q5, Zs, Iv p6, Lv a0, Zs, Lv a1, Zs, Lv a2, Zs, Lv a3, Zs, Lv a4, Zs, Lv a5, Zs, Lv a6, Zs, Lv a7, Zs, Lv b0, Zs, Lv b1, Zs, Lv b2, Zs, Lv b3, Zs, Lv b4, Zs, Lv b5, Zs, Lv b6, Zs, Lv b7, Zs, Iv md, Us, Us, Us, Us, Us, Us, Us, Us, Us, Us] [(.ref b_80)]))
  have sg_102 : ∀ tt_, Steps p.tables e below (T_97.setTop (mkF m 205 #[Lv q1, Zs, Lv q2, Zs, Lv q3, Zs, Lv q4, Zs, Lv q5, Zs, Iv p6, Lv a0, Zs, Lv a1, Zs, Lv a2, Zs, Lv a3, Zs, Lv a4, Zs, Lv a5, Zs, Lv a6, Zs, Lv a7, Zs, Lv b0, Zs, Lv b1, Zs, Lv b2, Zs, Lv b3, Zs, Lv b4, Zs, Lv b5, Zs, Lv b6, Zs, Lv b7, Zs, Iv md, Us, Us, Us, Us, Us, Us, Us, Us, Us, Us] [(.long a3), (.int (3 : Int32)), (.ref b_80), (.ref b_80)])) tt_ → Steps p.tables e below (T_97.setTop (mkF m 201 #[Lv q1, Zs, Lv q2, Zs, Lv q3, Zs, Lv q4, Zs, Lv q5, Zs, Iv p6, Lv a0, Zs, Lv a1, Zs, Lv a2, Zs, Lv a3, Zs, Lv a4, Zs, Lv a5, Zs, Lv a6, Zs, Lv a7, Zs, Lv b0, Zs, Lv b1, Zs, Lv b2, Zs, Lv b3, Zs, Lv b4, Zs, Lv b5, Zs, Lv b6, Zs, Lv b7, Zs, Iv md, Us, Us, Us, Us, Us, Us, Us, Us, Us, Us] [(.ref b_80)])) tt_ := by
    intro tt_ kt_
    refine XS.dup X_97.here hEX rfl (hb hBY at_201) rfl rfl ?_
    show Steps p.tables e below (T_97.setTop (mkF m 202 #[Lv q1, Zs, Lv q2, Zs, Lv q3, Zs, Lv q4, Zs, Lv q5, Zs, Iv p6, Lv a0, Zs, Lv a1, Zs, Lv a2, Zs, Lv a3, Zs, Lv a4, Zs, Lv a5, Zs, Lv a6, Zs, Lv a7, Zs, Lv b0, Zs, Lv b1, Zs, Lv b2, Zs, Lv b3, Zs, Lv b4, Zs, Lv b5, Zs, Lv b6, Zs, Lv b7, Zs, Iv md, Us, Us, Us, Us, Us, Us, Us, Us, Us, Us] [(.ref b_80), (.ref b_80)])) tt_
    refine XS.iconst X_97.here hEX rfl (hb hBY at_202) ?_
    show Steps p.tables e below (T_97.setTop (mkF m 203 #[Lv q1, Zs, Lv q2, Zs, Lv q3, Zs, Lv q4, Zs, Lv q5, Zs, Iv p6, Lv a0, Zs, Lv a1, Zs, Lv a2, Zs, Lv a3, Zs, Lv a4, Zs, Lv a5, Zs, Lv a6, Zs, Lv a7, Zs, Lv b0, Zs, Lv b1, Zs, Lv b2, Zs, Lv b3, Zs, Lv b4, Zs, Lv b5, Zs, Lv b6, Zs, Lv b7, Zs, Iv md, Us, Us, Us, Us, Us, Us, Us, Us, Us, Us] [(.int (3 : Int32)), (.ref b_80), (.ref b_80)])) tt_
    refine XS.lload X_97.here hEX rfl (hb hBY at_203) rfl ?_
    exact kt_
  refine Done.pre sg_102 ?_
  obtain ⟨cl_101, Ar_101, q_101, S_101, N__101, H_101, G_101⟩ := id f_100
  have hin_101 : ¬ ((3 : Int32) < 0 ∨ cl_101.slots.size ≤ ((3 : Int32)).toNatClampNeg) := inb_of S_101 ⟨by decide, by decide⟩
  obtain ⟨T_103, h_103, X_103, e_103, W_103, st_103⟩ := stJ X_97 hEX hZW e_97 Ar_101 (j := (3 : Int32)) hin_101 (g := (mkF m 205 #[Lv q1, Zs, Lv q2, Zs, Lv q3, Zs, Lv q4, Zs, Lv q5, Zs, Iv p6, Lv a0, Zs, Lv a1, Zs, Lv a2, Zs, Lv a3, Zs, Lv a4, Zs, Lv a5, Zs, Lv a6, Zs, Lv a7, Zs, Lv b0, Zs, Lv b1, Zs, Lv b2, Zs, Lv b3, Zs, Lv b4, Zs, Lv b5, Zs, Lv b6, Zs, Lv b7, Zs, Iv md, Us, Us, Us, Us, Us, Us, Us, Us, Us, Us] [(.long a3), (.int (3 : Int32)), (.ref b_80), (.ref b_80)])) rfl rfl (hb hBY at_205)
  have N_103 := Fr.snoc X_103 N_97 ge_b_80
  have K__104 : Keep h0 h_103 [] := K__98.wr W_103 (Or.inr sz_b_80)
  have f_105 : Exa Z h_103 b_80 "[J" := f_99.wr W_103
  have f_106 : Arv Z h_103 b_80 k_80 .long (8 : Int32) [(.long a0), (.long a1), (.long a2), (.long a3), (.long (0 : Int64)), (.long (0 : Int64)), (.long (0 : Int64)), (.long (0 : Int64))] (.long (0 : Int64)) := Arv.set Ar_101 q_101 S_101 N__101 H_101 G_101 rfl W_103 3 rfl (Nat.le_of_ble_eq_true rfl)
  refine Done.pre st_103 ?_
  show Done _ _ _ _ _ _ _ (T_103.setTop (mkF m 206 #[Lv q1, Zs, Lv q2, Zs, Lv q3, Zs, Lv q4, Zs, Lv q5, Zs, Iv p6, Lv a0, Zs, Lv a1, Zs, Lv a2, Zs, Lv a3, Zs, Lv a4, Zs, Lv a5, Zs, Lv a6, Zs, Lv a7, Zs, Lv b0, Zs, Lv b1, Zs, Lv b2, Zs, Lv b3, Zs, Lv b4, Zs, Lv b5, Zs, Lv b6, Zs, Lv b7, Zs, Iv md, Us, Us, Us, Us, Us, Us, Us, Us, Us, Us] [(.ref b_80)]))
  show Done _ _ _ _ _ _ _ (T_103.setTop (mkF m 206 #[Lv q1, Zs, Lv q2, Zs, Lv q3, Zs, Lv q4, Zs, Lv q5, Zs, Iv p6, Lv a0, Zs, Lv a1, Zs, Lv a2, Zs, Lv a3, Zs, Lv a4, Zs, Lv a5, Zs, Lv a6, Zs, Lv a7, Zs, Lv b0, Zs, Lv b1, Zs, Lv b2, Zs, Lv b3, Zs, Lv b4, Zs, Lv b5, Zs, Lv b6, Zs, Lv b7, Zs, Iv md, Us, Us, Us, Us, Us, Us, Us, Us, Us, Us] [(.ref b_80)]))
  exact rm0_j206 l Z aZ hw ws q1 q2 q3 q4 q5 p6 h0 n0 Z0 p e s m below meth cO hEX hBY hMX hOW hNM hLK hRT hZW a0 a1 a2 a3 a4 a5 a6 a7 md b0 b1 b2 b3 b4 b5 b6 b7 b_80 k_80 T_103 h_103 _ X_103 e_103 N_103 K__104 f_105 f_106 hRa hm4 hRb hEq ge_b_80 sz_b_80
set_option maxRecDepth 65536 in
set_option maxHeartbeats 40000000 in
theorem rm0_j138 (l : Launch) (Z : State) (aZ : Array Value) (hw : ∀ d ∈ tables_1, d.before aZ Z = true) (ws : List Jvm.Cond) (q1 : Int64) (q2 : Int64) (q3 : Int64) (q4 : Int64) (q5 : Int64) (p6 : Int32) (h0 : Heap) (n0 : Nat) (Z0 : n0 ≤ h0.size)
    (p : Program) (e : Env) (s : State) (m : MethodId) (below : List Frame) (meth : Method) (cO : Code) (hEX : p.tables.exec = Jvm.exec) (hBY : cO.code = code) (hMX : cO.maxLocals = 54) (hOW : s.vm.findClass "com/example/guard3/guard3/P384FieldSubtractPinLaw" = some m.cls) (hNM : meth.name = x.name) (hLK : meth.locks = false) (hRT : meth.sig.returnType = ret) (hZW : Z.Warmed39 s.vm)
    (a0 : Int64) (a1 : Int64) (a2 : Int64) (a3 : Int64) (a4 : Int64) (a5 : Int64) (a6 : Int64) (a7 : Int64) (c0 : Int64) (c1 : Int64) (c2 : Int64) (c3 : Int64) (c4 : Int64) (c5 : Int64) (c6 : Int64) (c7 : Int64) (T_62 : State) (h_63 : Heap) (L_64 : List Loc) (X_65 : Stand p l e room_1 s m #[(.long q1), (.long q2), (.long q3), (.long q4), (.long q5), (.int p6)] below meth cO T_62 L_64 0 0) (e_66 : T_62.heap = h_63) (N_67 : Fr n0 L_64) (K__68 : Keep h0 h_63 []) (hRa : own_R 1125899906842624 a0 a1 a2 a3 a4 a5 a6 a7) (hRc : own_R 1125899906842624 c0 c1 c2 c3 c4 c5 c6 c7) :
    Done p e below s (Qrm0 Z q1 q2 q3 q4 q5 p6 h0 n0) room_1.cells room_1.slots (T_62.setTop (mkF m 138 #[Lv q1, Zs, Lv q2, Zs, Lv q3, Zs, Lv q4, Zs, Lv q5, Zs, Iv p6, Lv a0, Zs, Lv a1, Zs, Lv a2, Zs, Lv a3, Zs, Lv a4, Zs, Lv a5, Zs, Lv a6, Zs, Lv a7, Zs, Lv c0, Zs, Lv c1, Zs, Lv c2, Zs, Lv c3, Zs, Lv c4, Zs, Lv c5, Zs, Lv c6, Zs, Lv c7, Zs, Us, Us, Us, Us, Us, Us, Us, Us, Us, Us, Us] [])) := by
  have sg_69 : ∀ tt_, Steps p.tables e below (T_62.setTop (mkF m 142 #[Lv q1, Zs, Lv q2, Zs, Lv q3, Zs, Lv q4, Zs, Lv q5, Zs, Iv p6, Lv a0, Zs, Lv a1, Zs, Lv a2, Zs, Lv a3, Zs, Lv a4, Zs, Lv a5, Zs, Lv a6, Zs, Lv a7, Zs, Lv c0, Zs, Lv c1, Zs, Lv c2, Zs, Lv c3, Zs, Lv c4, Zs, Lv c5, Zs, Lv c6, Zs, Lv c7, Zs, Us, Us, Us, Us, Us, Us, Us, Us, Us, Us, Us] [(.int (p6 &&& (3 : Int32)))])) tt_ → Steps p.tables e below (T_62.setTop (mkF m 138 #[Lv q1, Zs, Lv q2, Zs, Lv q3, Zs, Lv q4, Zs, Lv q5, Zs, Iv p6, Lv a0, Zs, Lv a1, Zs, Lv a2, Zs, Lv a3, Zs, Lv a4, Zs, Lv a5, Zs, Lv a6, Zs, Lv a7, Zs, Lv c0, Zs, Lv c1, Zs, Lv c2, Zs, Lv c3, Zs, Lv c4, Zs, Lv c5, Zs, Lv c6, Zs, Lv c7, Zs, Us, Us, Us, Us, Us, Us, Us, Us, Us, Us, Us] [])) tt_ := by
    intro tt_ kt_
    refine XS.iload X_65.here hEX rfl (hb hBY at_138) rfl ?_
    show Steps p.tables e below (T_62.setTop (mkF m 140 #[Lv q1, Zs, Lv q2, Zs, Lv q3, Zs, Lv q4, Zs, Lv q5, Zs, Iv p6, Lv a0, Zs, Lv a1, Zs, Lv a2, Zs, Lv a3, Zs, Lv a4, Zs, Lv a5, Zs, Lv a6, Zs, Lv a7, Zs, Lv c0, Zs, Lv c1, Zs, Lv c2, Zs, Lv c3, Zs, Lv c4, Zs, Lv c5, Zs, Lv c6, Zs, Lv c7, Zs, Us, Us, Us, Us, Us, Us, Us, Us, Us, Us, Us] [(.int p6)])) tt_
    refine XS.iconst X_65.here hEX rfl (hb hBY at_140) ?_
    show Steps p.tables e below (T_62.setTop (mkF m 141 #[Lv q1, Zs, Lv q2, Zs, Lv q3, Zs, Lv q4, Zs, Lv q5, Zs, Iv p6, Lv a0, Zs, Lv a1, Zs, Lv a2, Zs, Lv a3, Zs, Lv a4, Zs, Lv a5, Zs, Lv a6, Zs, Lv a7, Zs, Lv c0, Zs, Lv c1, Zs, Lv c2, Zs, Lv c3, Zs, Lv c4, Zs, Lv c5, Zs, Lv c6, Zs, Lv c7, Zs, Us, Us, Us, Us, Us, Us, Us, Us, Us, Us, Us] [(.int (3 : Int32)), (.int p6)])) tt_
    refine XS.iand X_65.here hEX rfl (hb hBY at_141) rfl ?_
    exact kt_
  refine Done.pre sg_69 ?_
  show Done _ _ _ _ _ _ _ (T_62.setTop (mkF m 142 #[Lv q1, Zs, Lv q2, Zs, Lv q3, Zs, Lv q4, Zs, Lv q5, Zs, Iv p6, Lv a0, Zs, Lv a1, Zs, Lv a2, Zs, Lv a3, Zs, Lv a4, Zs, Lv a5, Zs, Lv a6, Zs, Lv a7, Zs, Lv c0, Zs, Lv c1, Zs, Lv c2, Zs, Lv c3, Zs, Lv c4, Zs, Lv c5, Zs, Lv c6, Zs, Lv c7, Zs, Us, Us, Us, Us, Us, Us, Us, Us, Us, Us, Us] [(.int (p6 &&& (3 : Int32)))]))
  obtain ⟨md, hmd⟩ : ∃ z : Int32, z = (p6 &&& (3 : Int32)) := ⟨_, rfl⟩
  rw [← hmd]
  show Done _ _ _ _ _ _ _ (T_62.setTop (mkF m 142 #[Lv q1, Zs, Lv q2, Zs, Lv q3, Zs, Lv q4, Zs, Lv q5, Zs, Iv p6, Lv a0, Zs, Lv a1, Zs, Lv a2, Zs, Lv a3, Zs, Lv a4, Zs, Lv a5, Zs, Lv a6, Zs, Lv a7, Zs, Lv c0, Zs, Lv c1, Zs, Lv c2, Zs, Lv c3, Zs, Lv c4, Zs, Lv c5, Zs, Lv c6, Zs, Lv c7, Zs, Us, Us, Us, Us, Us, Us, Us, Us, Us, Us, Us] [(.int md)]))
  have hm4 : md = (0 : Int32) ∨ md = (1 : Int32) ∨ md = (2 : Int32) ∨ md = (3 : Int32) := by rw [hmd]; exact own_md _
  have sg_70 : ∀ tt_, Steps p.tables e below (T_62.setTop (mkF m 144 #[Lv q1, Zs, Lv q2, Zs, Lv q3, Zs, Lv q4, Zs, Lv q5, Zs, Iv p6, Lv a0, Zs, Lv a1, Zs, Lv a2, Zs, Lv a3, Zs, Lv a4, Zs, Lv a5, Zs, Lv a6, Zs, Lv a7, Zs, Lv c0, Zs, Lv c1, Zs, Lv c2, Zs, Lv c3, Zs, Lv c4, Zs, Lv c5, Zs, Lv c6, Zs, Lv c7, Zs, Iv md, Us, Us, Us, Us, Us, Us, Us, Us, Us, Us] [])) tt_ → Steps p.tables e below (T_62.setTop (mkF m 142 #[Lv q1, Zs, Lv q2, Zs, Lv q3, Zs, Lv q4, Zs, Lv q5, Zs, Iv p6, Lv a0, Zs, Lv a1, Zs, Lv a2, Zs, Lv a3, Zs, Lv a4, Zs, Lv a5, Zs, Lv a6, Zs, Lv a7, Zs, Lv c0, Zs, Lv c1, Zs, Lv c2, Zs, Lv c3, Zs, Lv c4, Zs, Lv c5, Zs, Lv c6, Zs, Lv c7, Zs, Us, Us, Us, Us, Us, Us, Us, Us, Us, Us, Us] [(.int md)])) tt_ := by
    intro tt_ kt_
    refine XS.istore X_65.here hEX rfl (hb hBY at_142) rfl (l' := #[Lv q1, Zs, Lv q2, Zs, Lv q3, Zs, Lv q4, Zs, Lv q5, Zs, Iv p6, Lv a0, Zs, Lv a1, Zs, Lv a2, Zs, Lv a3, Zs, Lv a4, Zs, Lv a5, Zs, Lv a6, Zs, Lv a7, Zs, Lv c0, Zs, Lv c1, Zs, Lv c2, Zs, Lv c3, Zs, Lv c4, Zs, Lv c5, Zs, Lv c6, Zs, Lv c7, Zs, Iv md, Us, Us, Us, Us, Us, Us, Us, Us, Us, Us]) rfl ?_
    exact kt_
  refine Done.pre sg_70 ?_
  show Done _ _ _ _ _ _ _ (T_62.setTop (mkF m 144 #[Lv q1, Zs, Lv q2, Zs, Lv q3, Zs, Lv q4, Zs, Lv q5, Zs, Iv p6, Lv a0, Zs, Lv a1, Zs, Lv a2, Zs, Lv a3, Zs, Lv a4, Zs, Lv a5, Zs, Lv a6, Zs, Lv a7, Zs, Lv c0, Zs, Lv c1, Zs, Lv c2, Zs, Lv c3, Zs, Lv c4, Zs, Lv c5, Zs, Lv c6, Zs, Lv c7, Zs, Iv md, Us, Us, Us, Us, Us, Us, Us, Us, Us, Us] []))
  have sg_1005 : ∀ tt_, Steps p.tables e below (T_62.setTop (mkF m 147 #[Lv q1, Zs, Lv q2, Zs, Lv q3, Zs, Lv q4, Zs, Lv q5, Zs, Iv p6, Lv a0, Zs, Lv a1, Zs, Lv a2, Zs, Lv a3, Zs, Lv a4, Zs, Lv a5, Zs, Lv a6, Zs, Lv a7, Zs, Lv c0, Zs, Lv c1, Zs, Lv c2, Zs, Lv c3, Zs, Lv c4, Zs, Lv c5, Zs, Lv c6, Zs, Lv c7, Zs, Iv md, Us, Us, Us, Us, Us, Us, Us, Us, Us, Us] [(.int (3 : Int32)), (.int md)])) tt_ → Steps p.tables e below (T_62.setTop (mkF m 144 #[Lv q1, Zs, Lv q2, Zs, Lv q3, Zs, Lv q4, Zs, Lv q5, Zs, Iv p6, Lv a0, Zs, Lv a1, Zs, Lv a2, Zs, Lv a3, Zs, Lv a4, Zs, Lv a5, Zs, Lv a6, Zs, Lv a7, Zs, Lv c0, Zs, Lv c1, Zs, Lv c2, Zs, Lv c3, Zs, Lv c4, Zs, Lv c5, Zs, Lv c6, Zs, Lv c7, Zs, Iv md, Us, Us, Us, Us, Us, Us, Us, Us, Us, Us] [])) tt_ := by
    intro tt_ kt_
    refine XS.iload X_65.here hEX rfl (hb hBY at_144) rfl ?_
    show Steps p.tables e below (T_62.setTop (mkF m 146 #[Lv q1, Zs, Lv q2, Zs, Lv q3, Zs, Lv q4, Zs, Lv q5, Zs, Iv p6, Lv a0, Zs, Lv a1, Zs, Lv a2, Zs, Lv a3, Zs, Lv a4, Zs, Lv a5, Zs, Lv a6, Zs, Lv a7, Zs, Lv c0, Zs, Lv c1, Zs, Lv c2, Zs, Lv c3, Zs, Lv c4, Zs, Lv c5, Zs, Lv c6, Zs, Lv c7, Zs, Iv md, Us, Us, Us, Us, Us, Us, Us, Us, Us, Us] [(.int md)])) tt_
    refine XS.iconst X_65.here hEX rfl (hb hBY at_146) ?_
    exact kt_
  refine Done.pre sg_1005 ?_
  by_cases hc147 : md = (3 : Int32)
  · skip
    have sg_1006 : ∀ tt_, Steps p.tables e below (T_62.setTop (mkF m 182 #[Lv q1, Zs, Lv q2, Zs, Lv q3, Zs, Lv q4, Zs, Lv q5, Zs, Iv p6, Lv a0, Zs, Lv a1, Zs, Lv a2, Zs, Lv a3, Zs, Lv a4, Zs, Lv a5, Zs, Lv a6, Zs, Lv a7, Zs, Lv a0, Zs, Lv a1, Zs, Lv a2, Zs, Lv a3, Zs, Lv a4, Zs, Lv a5, Zs, Lv a6, Zs, Lv a7, Zs, Iv md, Us, Us, Us, Us, Us, Us, Us, Us, Us, Us] [])) tt_ → Steps p.tables e below (T_62.setTop (mkF m 147 #[Lv q1, Zs, Lv q2, Zs, Lv q3, Zs, Lv q4, Zs, Lv q5, Zs, Iv p6, Lv a0, Zs, Lv a1, Zs, Lv a2, Zs, Lv a3, Zs, Lv a4, Zs, Lv a5, Zs, Lv a6, Zs, Lv a7, Zs, Lv c0, Zs, Lv c1, Zs, Lv c2, Zs, Lv c3, Zs, Lv c4, Zs, Lv c5, Zs, Lv c6, Zs, Lv c7, Zs, Iv md, Us, Us, Us, Us, Us, Us, Us, Us, Us, Us] [(.int (3 : Int32)), (.int md)])) tt_ := by
      intro tt_ kt_
      refine XS.icmpNo X_65.here hEX rfl (hb hBY at_147) rfl (teq hc147).2 ?_
      show Steps p.tables e below (T_62.setTop (mkF m 150 #[Lv q1, Zs, Lv q2, Zs, Lv q3, Zs, Lv q4, Zs, Lv q5, Zs, Iv p6, Lv a0, Zs, Lv a1, Zs, Lv a2, Zs, Lv a3, Zs, Lv a4, Zs, Lv a5, Zs, Lv a6, Zs, Lv a7, Zs, Lv c0, Zs, Lv c1, Zs, Lv c2, Zs, Lv c3, Zs, Lv c4, Zs, Lv c5, Zs, Lv c6, Zs, Lv c7, Zs, Iv md, Us, Us, Us, Us, Us, Us, Us, Us, Us, Us] [])) tt_
      refine XS.lload X_65.here hEX rfl (hb hBY at_150) rfl ?_
      show Steps p.tables e below (T_62.setTop (mkF m 152 #[Lv q1, Zs, Lv q2, Zs, Lv q3, Zs, Lv q4, Zs, Lv q5, Zs, Iv p6, Lv a0, Zs, Lv a1, Zs, Lv a2, Zs, Lv a3, Zs, Lv a4, Zs, Lv a5, Zs, Lv a6, Zs, Lv a7, Zs, Lv c0, Zs, Lv c1, Zs, Lv c2, Zs, Lv c3, Zs, Lv c4, Zs, Lv c5, Zs, Lv c6, Zs, Lv c7, Zs, Iv md, Us, Us, Us, Us, Us, Us, Us, Us, Us, Us] [(.long a0)])) tt_
      refine XS.lstore X_65.here hEX rfl (hb hBY at_152) rfl (l' := #[Lv q1, Zs, Lv q2, Zs, Lv q3, Zs, Lv q4, Zs, Lv q5, Zs, Iv p6, Lv a0, Zs, Lv a1, Zs, Lv a2, Zs, Lv a3, Zs, Lv a4, Zs, Lv a5, Zs, Lv a6, Zs, Lv a7, Zs, Lv a0, Zs, Lv c1, Zs, Lv c2, Zs, Lv c3, Zs, Lv c4, Zs, Lv c5, Zs, Lv c6, Zs, Lv c7, Zs, Iv md, Us, Us, Us, Us, Us, Us, Us, Us, Us, Us]) rfl ?_
      show Steps p.tables e below (T_62.setTop (mkF m 154 #[Lv q1, Zs, Lv q2, Zs, Lv q3, Zs, Lv q4, Zs, Lv q5, Zs, Iv p6, Lv a0, Zs, Lv a1, Zs, Lv a2, Zs, Lv a3, Zs, Lv a4, Zs, Lv a5, Zs, Lv a6, Zs, Lv a7, Zs, Lv a0, Zs, Lv c1, Zs, Lv c2, Zs, Lv c3, Zs, Lv c4, Zs, Lv c5, Zs, Lv c6, Zs, Lv c7, Zs, Iv md, Us, Us, Us, Us, Us, Us, Us, Us, Us, Us] [])) tt_
      refine XS.lload X_65.here hEX rfl (hb hBY at_154) rfl ?_
      show Steps p.tables e below (T_62.setTop (mkF m 156 #[Lv q1, Zs, Lv q2, Zs, Lv q3, Zs, Lv q4, Zs, Lv q5, Zs, Iv p6, Lv a0, Zs, Lv a1, Zs, Lv a2, Zs, Lv a3, Zs, Lv a4, Zs, Lv a5, Zs, Lv a6, Zs, Lv a7, Zs, Lv a0, Zs, Lv c1, Zs, Lv c2, Zs, Lv c3, Zs, Lv c4, Zs, Lv c5, Zs, Lv c6, Zs, Lv c7, Zs, Iv md, Us, Us, Us, Us, Us, Us, Us, Us, Us, Us] [(.long a1)])) tt_
      refine XS.lstore X_65.here hEX rfl (hb hBY at_156) rfl (l' := #[Lv q1, Zs, Lv q2, Zs, Lv q3, Zs, Lv q4, Zs, Lv q5, Zs, Iv p6, Lv a0, Zs, Lv a1, Zs, Lv a2, Zs, Lv a3, Zs, Lv a4, Zs, Lv a5, Zs, Lv a6, Zs, Lv a7, Zs, Lv a0, Zs, Lv a1, Zs, Lv c2, Zs, Lv c3, Zs, Lv c4, Zs, Lv c5, Zs, Lv c6, Zs, Lv c7, Zs, Iv md, Us, Us, Us, Us, Us, Us, Us, Us, Us, Us]) rfl ?_
      show Steps p.tables e below (T_62.setTop (mkF m 158 #[Lv q1, Zs, Lv q2, Zs, Lv q3, Zs, Lv q4, Zs, Lv q5, Zs, Iv p6, Lv a0, Zs, Lv a1, Zs, Lv a2, Zs, Lv a3, Zs, Lv a4, Zs, Lv a5, Zs, Lv a6, Zs, Lv a7, Zs, Lv a0, Zs, Lv a1, Zs, Lv c2, Zs, Lv c3, Zs, Lv c4, Zs, Lv c5, Zs, Lv c6, Zs, Lv c7, Zs, Iv md, Us, Us, Us, Us, Us, Us, Us, Us, Us, Us] [])) tt_
      refine XS.lload X_65.here hEX rfl (hb hBY at_158) rfl ?_
      show Steps p.tables e below (T_62.setTop (mkF m 160 #[Lv q1, Zs, Lv q2, Zs, Lv q3, Zs, Lv q4, Zs, Lv q5, Zs, Iv p6, Lv a0, Zs, Lv a1, Zs, Lv a2, Zs, Lv a3, Zs, Lv a4, Zs, Lv a5, Zs, Lv a6, Zs, Lv a7, Zs, Lv a0, Zs, Lv a1, Zs, Lv c2, Zs, Lv c3, Zs, Lv c4, Zs, Lv c5, Zs, Lv c6, Zs, Lv c7, Zs, Iv md, Us, Us, Us, Us, Us, Us, Us, Us, Us, Us] [(.long a2)])) tt_
      refine XS.lstore X_65.here hEX rfl (hb hBY at_160) rfl (l' := #[Lv q1, Zs, Lv q2, Zs, Lv q3, Zs, Lv q4, Zs, Lv q5, Zs, Iv p6, Lv a0, Zs, Lv a1, Zs, Lv a2, Zs, Lv a3, Zs, Lv a4, Zs, Lv a5, Zs, Lv a6, Zs, Lv a7, Zs, Lv a0, Zs, Lv a1, Zs, Lv a2, Zs, Lv c3, Zs, Lv c4, Zs, Lv c5, Zs, Lv c6, Zs, Lv c7, Zs, Iv md, Us, Us, Us, Us, Us, Us, Us, Us, Us, Us]) rfl ?_
      show Steps p.tables e below (T_62.setTop (mkF m 162 #[Lv q1, Zs, Lv q2, Zs, Lv q3, Zs, Lv q4, Zs, Lv q5, Zs, Iv p6, Lv a0, Zs, Lv a1, Zs, Lv a2, Zs, Lv a3, Zs, Lv a4, Zs, Lv a5, Zs, Lv a6, Zs, Lv a7, Zs, Lv a0, Zs, Lv a1, Zs, Lv a2, Zs, Lv c3, Zs, Lv c4, Zs, Lv c5, Zs, Lv c6, Zs, Lv c7, Zs, Iv md, Us, Us, Us, Us, Us, Us, Us, Us, Us, Us] [])) tt_
      refine XS.lload X_65.here hEX rfl (hb hBY at_162) rfl ?_
      show Steps p.tables e below (T_62.setTop (mkF m 164 #[Lv q1, Zs, Lv q2, Zs, Lv q3, Zs, Lv q4, Zs, Lv q5, Zs, Iv p6, Lv a0, Zs, Lv a1, Zs, Lv a2, Zs, Lv a3, Zs, Lv a4, Zs, Lv a5, Zs, Lv a6, Zs, Lv a7, Zs, Lv a0, Zs, Lv a1, Zs, Lv a2, Zs, Lv c3, Zs, Lv c4, Zs, Lv c5, Zs, Lv c6, Zs, Lv c7, Zs, Iv md, Us, Us, Us, Us, Us, Us, Us, Us, Us, Us] [(.long a3)])) tt_
      refine XS.lstore X_65.here hEX rfl (hb hBY at_164) rfl (l' := #[Lv q1, Zs, Lv q2, Zs, Lv q3, Zs, Lv q4, Zs, Lv q5, Zs, Iv p6, Lv a0, Zs, Lv a1, Zs, Lv a2, Zs, Lv a3, Zs, Lv a4, Zs, Lv a5, Zs, Lv a6, Zs, Lv a7, Zs, Lv a0, Zs, Lv a1, Zs, Lv a2, Zs, Lv a3, Zs, Lv c4, Zs, Lv c5, Zs, Lv c6, Zs, Lv c7, Zs, Iv md, Us, Us, Us, Us, Us, Us, Us, Us, Us, Us]) rfl ?_
      show Steps p.tables e below (T_62.setTop (mkF m 166 #[Lv q1, Zs, Lv q2, Zs, Lv q3, Zs, Lv q4, Zs, Lv q5, Zs, Iv p6, Lv a0, Zs, Lv a1, Zs, Lv a2, Zs, Lv a3, Zs, Lv a4, Zs, Lv a5, Zs, Lv a6, Zs, Lv a7, Zs, Lv a0, Zs, Lv a1, Zs, Lv a2, Zs, Lv a3, Zs, Lv c4, Zs, Lv c5, Zs, Lv c6, Zs, Lv c7, Zs, Iv md, Us, Us, Us, Us, Us, Us, Us, Us, Us, Us] [])) tt_
      refine XS.lload X_65.here hEX rfl (hb hBY at_166) rfl ?_
      show Steps p.tables e below (T_62.setTop (mkF m 168 #[Lv q1, Zs, Lv q2, Zs, Lv q3, Zs, Lv q4, Zs, Lv q5, Zs, Iv p6, Lv a0, Zs, Lv a1, Zs, Lv a2, Zs, Lv a3, Zs, Lv a4, Zs, Lv a5, Zs, Lv a6, Zs, Lv a7, Zs, Lv a0, Zs, Lv a1, Zs, Lv a2, Zs, Lv a3, Zs, Lv c4, Zs, Lv c5, Zs, Lv c6, Zs, Lv c7, Zs, Iv md, Us, Us, Us, Us, Us, Us, Us, Us, Us, Us] [(.long a4)])) tt_
      refine XS.lstore X_65.here hEX rfl (hb hBY at_168) rfl (l' := #[Lv q1, Zs, Lv q2, Zs, Lv q3, Zs, Lv q4, Zs, Lv q5, Zs, Iv p6, Lv a0, Zs, Lv a1, Zs, Lv a2, Zs, Lv a3, Zs, Lv a4, Zs, Lv a5, Zs, Lv a6, Zs, Lv a7, Zs, Lv a0, Zs, Lv a1, Zs, Lv a2, Zs, Lv a3, Zs, Lv a4, Zs, Lv c5, Zs, Lv c6, Zs, Lv c7, Zs, Iv md, Us, Us, Us, Us, Us, Us, Us, Us, Us, Us]) rfl ?_
      show Steps p.tables e below (T_62.setTop (mkF m 170 #[Lv q1, Zs, Lv q2, Zs, Lv q3, Zs, Lv q4, Zs, Lv q5, Zs, Iv p6, Lv a0, Zs, Lv a1, Zs, Lv a2, Zs, Lv a3, Zs, Lv a4, Zs, Lv a5, Zs, Lv a6, Zs, Lv a7, Zs, Lv a0, Zs, Lv a1, Zs, Lv a2, Zs, Lv a3, Zs, Lv a4, Zs, Lv c5, Zs, Lv c6, Zs, Lv c7, Zs, Iv md, Us, Us, Us, Us, Us, Us, Us, Us, Us, Us] [])) tt_
      refine XS.lload X_65.here hEX rfl (hb hBY at_170) rfl ?_
      show Steps p.tables e below (T_62.setTop (mkF m 172 #[Lv q1, Zs, Lv q2, Zs, Lv q3, Zs, Lv q4, Zs, Lv q5, Zs, Iv p6, Lv a0, Zs, Lv a1, Zs, Lv a2, Zs, Lv a3, Zs, Lv a4, Zs, Lv a5, Zs, Lv a6, Zs, Lv a7, Zs, Lv a0, Zs, Lv a1, Zs, Lv a2, Zs, Lv a3, Zs, Lv a4, Zs, Lv c5, Zs, Lv c6, Zs, Lv c7, Zs, Iv md, Us, Us, Us, Us, Us, Us, Us, Us, Us, Us] [(.long a5)])) tt_
      refine XS.lstore X_65.here hEX rfl (hb hBY at_172) rfl (l' := #[Lv q1, Zs, Lv q2, Zs, Lv q3, Zs, Lv q4, Zs, Lv q5, Zs, Iv p6, Lv a0, Zs, Lv a1, Zs, Lv a2, Zs, Lv a3, Zs, Lv a4, Zs, Lv a5, Zs, Lv a6, Zs, Lv a7, Zs, Lv a0, Zs, Lv a1, Zs, Lv a2, Zs, Lv a3, Zs, Lv a4, Zs, Lv a5, Zs, Lv c6, Zs, Lv c7, Zs, Iv md, Us, Us, Us, Us, Us, Us, Us, Us, Us, Us]) rfl ?_
      show Steps p.tables e below (T_62.setTop (mkF m 174 #[Lv q1, Zs, Lv q2, Zs, Lv q3, Zs, Lv q4, Zs, Lv q5, Zs, Iv p6, Lv a0, Zs, Lv a1, Zs, Lv a2, Zs, Lv a3, Zs, Lv a4, Zs, Lv a5, Zs, Lv a6, Zs, Lv a7, Zs, Lv a0, Zs, Lv a1, Zs, Lv a2, Zs, Lv a3, Zs, Lv a4, Zs, Lv a5, Zs, Lv c6, Zs, Lv c7, Zs, Iv md, Us, Us, Us, Us, Us, Us, Us, Us, Us, Us] [])) tt_
      refine XS.lload X_65.here hEX rfl (hb hBY at_174) rfl ?_
      show Steps p.tables e below (T_62.setTop (mkF m 176 #[Lv q1, Zs, Lv q2, Zs, Lv q3, Zs, Lv q4, Zs, Lv q5, Zs, Iv p6, Lv a0, Zs, Lv a1, Zs, Lv a2, Zs, Lv a3, Zs, Lv a4, Zs, Lv a5, Zs, Lv a6, Zs, Lv a7, Zs, Lv a0, Zs, Lv a1, Zs, Lv a2, Zs, Lv a3, Zs, Lv a4, Zs, Lv a5, Zs, Lv c6, Zs, Lv c7, Zs, Iv md, Us, Us, Us, Us, Us, Us, Us, Us, Us, Us] [(.long a6)])) tt_
      refine XS.lstore X_65.here hEX rfl (hb hBY at_176) rfl (l' := #[Lv q1, Zs, Lv q2, Zs, Lv q3, Zs, Lv q4, Zs, Lv q5, Zs, Iv p6, Lv a0, Zs, Lv a1, Zs, Lv a2, Zs, Lv a3, Zs, Lv a4, Zs, Lv a5, Zs, Lv a6, Zs, Lv a7, Zs, Lv a0, Zs, Lv a1, Zs, Lv a2, Zs, Lv a3, Zs, Lv a4, Zs, Lv a5, Zs, Lv a6, Zs, Lv c7, Zs, Iv md, Us, Us, Us, Us, Us, Us, Us, Us, Us, Us]) rfl ?_
      show Steps p.tables e below (T_62.setTop (mkF m 178 #[Lv q1, Zs, Lv q2, Zs, Lv q3, Zs, Lv q4, Zs, Lv q5, Zs, Iv p6, Lv a0, Zs, Lv a1, Zs, Lv a2, Zs, Lv a3, Zs, Lv a4, Zs, Lv a5, Zs, Lv a6, Zs, Lv a7, Zs, Lv a0, Zs, Lv a1, Zs, Lv a2, Zs, Lv a3, Zs, Lv a4, Zs, Lv a5, Zs, Lv a6, Zs, Lv c7, Zs, Iv md, Us, Us, Us, Us, Us, Us, Us, Us, Us, Us] [])) tt_
      refine XS.lload X_65.here hEX rfl (hb hBY at_178) rfl ?_
      show Steps p.tables e below (T_62.setTop (mkF m 180 #[Lv q1, Zs, Lv q2, Zs, Lv q3, Zs, Lv q4, Zs, Lv q5, Zs, Iv p6, Lv a0, Zs, Lv a1, Zs, Lv a2, Zs, Lv a3, Zs, Lv a4, Zs, Lv a5, Zs, Lv a6, Zs, Lv a7, Zs, Lv a0, Zs, Lv a1, Zs, Lv a2, Zs, Lv a3, Zs, Lv a4, Zs, Lv a5, Zs, Lv a6, Zs, Lv c7, Zs, Iv md, Us, Us, Us, Us, Us, Us, Us, Us, Us, Us] [(.long a7)])) tt_
      refine XS.lstore X_65.here hEX rfl (hb hBY at_180) rfl (l' := #[Lv q1, Zs, Lv q2, Zs, Lv q3, Zs, Lv q4, Zs, Lv q5, Zs, Iv p6, Lv a0, Zs, Lv a1, Zs, Lv a2, Zs, Lv a3, Zs, Lv a4, Zs, Lv a5, Zs, Lv a6, Zs, Lv a7, Zs, Lv a0, Zs, Lv a1, Zs, Lv a2, Zs, Lv a3, Zs, Lv a4, Zs, Lv a5, Zs, Lv a6, Zs, Lv a7, Zs, Iv md, Us, Us, Us, Us, Us, Us, Us, Us, Us, Us]) rfl ?_
      exact kt_
    refine Done.pre sg_1006 ?_
    exact rm0_j182 l Z aZ hw ws q1 q2 q3 q4 q5 p6 h0 n0 Z0 p e s m below meth cO hEX hBY hMX hOW hNM hLK hRT hZW a0 a1 a2 a3 a4 a5 a6 a7 md T_62 h_63 _ X_65 e_66 N_67 K__68 (a0) (a1) (a2) (a3) (a4) (a5) (a6) (a7) hRa (fun _ => ⟨rfl, rfl, rfl, rfl, rfl, rfl, rfl, rfl⟩) hRa hm4
  · skip
    have sg_1007 : ∀ tt_, Steps p.tables e below (T_62.setTop (mkF m 182 #[Lv q1, Zs, Lv q2, Zs, Lv q3, Zs, Lv q4, Zs, Lv q5, Zs, Iv p6, Lv a0, Zs, Lv a1, Zs, Lv a2, Zs, Lv a3, Zs, Lv a4, Zs, Lv a5, Zs, Lv a6, Zs, Lv a7, Zs, Lv c0, Zs, Lv c1, Zs, Lv c2, Zs, Lv c3, Zs, Lv c4, Zs, Lv c5, Zs, Lv c6, Zs, Lv c7, Zs, Iv md, Us, Us, Us, Us, Us, Us, Us, Us, Us, Us] [])) tt_ → Steps p.tables e below (T_62.setTop (mkF m 147 #[Lv q1, Zs, Lv q2, Zs, Lv q3, Zs, Lv q4, Zs, Lv q5, Zs, Iv p6, Lv a0, Zs, Lv a1, Zs, Lv a2, Zs, Lv a3, Zs, Lv a4, Zs, Lv a5, Zs, Lv a6, Zs, Lv a7, Zs, Lv c0, Zs, Lv c1, Zs, Lv c2, Zs, Lv c3, Zs, Lv c4, Zs, Lv c5, Zs, Lv c6, Zs, Lv c7, Zs, Iv md, Us, Us, Us, Us, Us, Us, Us, Us, Us, Us] [(.int (3 : Int32)), (.int md)])) tt_ := by
      intro tt_ kt_
      refine XS.icmpYes X_65.here hEX rfl (pc0 := 147) (pc' := 182) rfl (hb hBY at_147) rfl (feq hc147).2 (by decide) (by decide) ?_
      exact kt_
    refine Done.pre sg_1007 ?_
    exact rm0_j182 l Z aZ hw ws q1 q2 q3 q4 q5 p6 h0 n0 Z0 p e s m below meth cO hEX hBY hMX hOW hNM hLK hRT hZW a0 a1 a2 a3 a4 a5 a6 a7 md T_62 h_63 _ X_65 e_66 N_67 K__68 (c0) (c1) (c2) (c3) (c4) (c5) (c6) (c7) hRc (fun q => absurd q hc147) hRa hm4
set_option maxRecDepth 65536 in
set_option maxHeartbeats 40000000 in
theorem rm0_j99 (l : Launch) (Z : State) (aZ : Array Value) (hw : ∀ d ∈ tables_1, d.before aZ Z = true) (ws : List Jvm.Cond) (q1 : Int64) (q2 : Int64) (q3 : Int64) (q4 : Int64) (q5 : Int64) (p6 : Int32) (h0 : Heap) (n0 : Nat) (Z0 : n0 ≤ h0.size)
    (p : Program) (e : Env) (s : State) (m : MethodId) (below : List Frame) (meth : Method) (cO : Code) (hEX : p.tables.exec = Jvm.exec) (hBY : cO.code = code) (hMX : cO.maxLocals = 54) (hOW : s.vm.findClass "com/example/guard3/guard3/P384FieldSubtractPinLaw" = some m.cls) (hNM : meth.name = x.name) (hLK : meth.locks = false) (hRT : meth.sig.returnType = ret) (hZW : Z.Warmed39 s.vm)
    (a0 : Int64) (a1 : Int64) (a2 : Int64) (a3 : Int64) (a4 : Int64) (a5 : Int64) (a6 : Int64) (a7 : Int64) (c0 : Int64) (c1 : Int64) (c2 : Int64) (c3 : Int64) (T_45 : State) (h_46 : Heap) (L_47 : List Loc) (X_48 : Stand p l e room_1 s m #[(.long q1), (.long q2), (.long q3), (.long q4), (.long q5), (.int p6)] below meth cO T_45 L_47 0 0) (e_49 : T_45.heap = h_46) (N_50 : Fr n0 L_47) (K__51 : Keep h0 h_46 []) (ha0 : -1125899906842624 ≤ a0.toInt ∧ a0.toInt ≤ 1125899906842624) (ha1 : -1125899906842624 ≤ a1.toInt ∧ a1.toInt ≤ 1125899906842624) (ha2 : -1125899906842624 ≤ a2.toInt ∧ a2.toInt ≤ 1125899906842624) (ha3 : -1125899906842624 ≤ a3.toInt ∧ a3.toInt ≤ 1125899906842624) (ha4 : -1125899906842624 ≤ a4.toInt ∧ a4.toInt ≤ 1125899906842624) (ha5 : -1125899906842624 ≤ a5.toInt ∧ a5.toInt ≤ 1125899906842624) (ha6 : -1125899906842624 ≤ a6.toInt ∧ a6.toInt ≤ 1125899906842624) (ha7 : -1125899906842624 ≤ a7.toInt ∧ a7.toInt ≤ 1125899906842624) (hc0 : -1125899906842624 ≤ c0.toInt ∧ c0.toInt ≤ 1125899906842624) (hc1 : -1125899906842624 ≤ c1.toInt ∧ c1.toInt ≤ 1125899906842624) (hc2 : -1125899906842624 ≤ c2.toInt ∧ c2.toInt ≤ 1125899906842624) (hc3 : -1125899906842624 ≤ c3.toInt ∧ c3.toInt ≤ 1125899906842624) :
    Done p e below s (Qrm0 Z q1 q2 q3 q4 q5 p6 h0 n0) room_1.cells room_1.slots (T_45.setTop (mkF m 99 #[Lv q1, Zs, Lv q2, Zs, Lv q3, Zs, Lv q4, Zs, Lv q5, Zs, Iv p6, Lv a0, Zs, Lv a1, Zs, Lv a2, Zs, Lv a3, Zs, Lv a4, Zs, Lv a5, Zs, Lv a6, Zs, Lv a7, Zs, Lv c0, Zs, Lv c1, Zs, Lv c2, Zs, Lv c3, Zs, Us, Us, Us, Us, Us, Us, Us, Us, Us, Us, Us, Us, Us, Us, Us, Us, Us, Us, Us] [])) := by
  have sg_52 : ∀ tt_, Steps p.tables e below (T_45.setTop (mkF m 104 #[Lv q1, Zs, Lv q2, Zs, Lv q3, Zs, Lv q4, Zs, Lv q5, Zs, Iv p6, Lv a0, Zs, Lv a1, Zs, Lv a2, Zs, Lv a3, Zs, Lv a4, Zs, Lv a5, Zs, Lv a6, Zs, Lv a7, Zs, Lv c0, Zs, Lv c1, Zs, Lv c2, Zs, Lv c3, Zs, Us, Us, Us, Us, Us, Us, Us, Us, Us, Us, Us, Us, Us, Us, Us, Us, Us, Us, Us] [(.long (q3 <<< ((26 : Int32) &&& 0x3f).toInt64))])) tt_ → Steps p.tables e below (T_45.setTop (mkF m 99 #[Lv q1, Zs, Lv q2, Zs, Lv q3, Zs, Lv q4, Zs, Lv q5, Zs, Iv p6, Lv a0, Zs, Lv a1, Zs, Lv a2, Zs, Lv a3, Zs, Lv a4, Zs, Lv a5, Zs, Lv a6, Zs, Lv a7, Zs, Lv c0, Zs, Lv c1, Zs, Lv c2, Zs, Lv c3, Zs, Us, Us, Us, Us, Us, Us, Us, Us, Us, Us, Us, Us, Us, Us, Us, Us, Us, Us, Us] [])) tt_ := by
    intro tt_ kt_
    refine XS.lload X_48.here hEX rfl (hb hBY at_99) rfl ?_
    show Steps p.tables e below (T_45.setTop (mkF m 101 #[Lv q1, Zs, Lv q2, Zs, Lv q3, Zs, Lv q4, Zs, Lv q5, Zs, Iv p6, Lv a0, Zs, Lv a1, Zs, Lv a2, Zs, Lv a3, Zs, Lv a4, Zs, Lv a5, Zs, Lv a6, Zs, Lv a7, Zs, Lv c0, Zs, Lv c1, Zs, Lv c2, Zs, Lv c3, Zs, Us, Us, Us, Us, Us, Us, Us, Us, Us, Us, Us, Us, Us, Us, Us, Us, Us, Us, Us] [(.long q3)])) tt_
    refine XS.bipush X_48.here hEX rfl (hb hBY at_101) ?_
    show Steps p.tables e below (T_45.setTop (mkF m 103 #[Lv q1, Zs, Lv q2, Zs, Lv q3, Zs, Lv q4, Zs, Lv q5, Zs, Iv p6, Lv a0, Zs, Lv a1, Zs, Lv a2, Zs, Lv a3, Zs, Lv a4, Zs, Lv a5, Zs, Lv a6, Zs, Lv a7, Zs, Lv c0, Zs, Lv c1, Zs, Lv c2, Zs, Lv c3, Zs, Us, Us, Us, Us, Us, Us, Us, Us, Us, Us, Us, Us, Us, Us, Us, Us, Us, Us, Us] [(.int (26 : Int32)), (.long q3)])) tt_
    refine XS.lshl X_48.here hEX rfl (hb hBY at_103) rfl ?_
    exact kt_
  refine Done.pre sg_52 ?_
  obtain ⟨_, _, ⟨T_53, L_53, k_53, n_53⟩, -, X_53, ⟨Lc_53, hQ_53, l_53, y_53, z_53⟩, st_53⟩ := Jvm.LawKit.callS X_48 hEX (y := (⟨"com/example/guard3/guard3/P384FieldSubtractPinLaw", "lim", "(J)J"⟩ : MethodName)) hOW (mvT hZW (hw _ (List.mem_of_getElem? (i := 0) rfl))) (mvT hZW (hw _ (List.mem_of_getElem? (i := 1) rfl))) (mvT hZW (hw _ (List.mem_of_getElem? (i := 2) rfl))) (mvT hZW (hw _ (List.mem_of_getElem? (i := 3) rfl))) (by decide) (backOf (W := 0) (rm_lim l Z aZ hw [] (q3 <<< ((26 : Int32) &&& 0x3f).toInt64) h_46 n0 (Nat.le_trans Z0 K__51.1) ) hZW (hw _ (List.mem_of_getElem? (i := 3) rfl)) (hw _ (List.mem_of_getElem? (i := 2) rfl)) (by decide) (by decide)) (g := (mkF m 104 #[Lv q1, Zs, Lv q2, Zs, Lv q3, Zs, Lv q4, Zs, Lv q5, Zs, Iv p6, Lv a0, Zs, Lv a1, Zs, Lv a2, Zs, Lv a3, Zs, Lv a4, Zs, Lv a5, Zs, Lv a6, Zs, Lv a7, Zs, Lv c0, Zs, Lv c1, Zs, Lv c2, Zs, Lv c3, Zs, Us, Us, Us, Us, Us, Us, Us, Us, Us, Us, Us, Us, Us, Us, Us, Us, Us, Us, Us] [(.long (q3 <<< ((26 : Int32) &&& 0x3f).toInt64))])) rfl (by rw [hMX]; rfl) (argsL := [(.long (q3 <<< ((26 : Int32) &&& 0x3f).toInt64))]) (rest := []) (lenOf pd__J_J_1 rfl) rfl (by show 2 * 0 + _ ≤ _; exact Nat.le_of_eq rfl) (hb hBY at_104) (fun _ _ => ⟨rfl, e_49, (by decide : 0 + 0 ≤ _), (by decide : 0 + 0 ≤ _)⟩)
  dsimp only [Pt.U, Pt.locs, Pt.cells, Pt.slots] at X_53 l_53 y_53 z_53 st_53 hQ_53
  subst l_53 y_53 z_53
  obtain ⟨c4, rfl, N_53q, e_53, hq_53_0⟩ := hQ_53
  have N_53 := Fr.app N_50 N_53q
  refine Done.pre (fun _ k_ => st_53 _ k_) ?_
  show Done _ _ _ _ _ _ _ (T_53.setTop (mkF m 107 #[Lv q1, Zs, Lv q2, Zs, Lv q3, Zs, Lv q4, Zs, Lv q5, Zs, Iv p6, Lv a0, Zs, Lv a1, Zs, Lv a2, Zs, Lv a3, Zs, Lv a4, Zs, Lv a5, Zs, Lv a6, Zs, Lv a7, Zs, Lv c0, Zs, Lv c1, Zs, Lv c2, Zs, Lv c3, Zs, Us, Us, Us, Us, Us, Us, Us, Us, Us, Us, Us, Us, Us, Us, Us, Us, Us, Us, Us] [(.long c4)]))
  have hc4 := hq_53_0
  have sg_54 : ∀ tt_, Steps p.tables e below (T_53.setTop (mkF m 114 #[Lv q1, Zs, Lv q2, Zs, Lv q3, Zs, Lv q4, Zs, Lv q5, Zs, Iv p6, Lv a0, Zs, Lv a1, Zs, Lv a2, Zs, Lv a3, Zs, Lv a4, Zs, Lv a5, Zs, Lv a6, Zs, Lv a7, Zs, Lv c0, Zs, Lv c1, Zs, Lv c2, Zs, Lv c3, Zs, Lv c4, Zs, Us, Us, Us, Us, Us, Us, Us, Us, Us, Us, Us, Us, Us, Us, Us, Us, Us] [(.long (q4 <<< ((26 : Int32) &&& 0x3f).toInt64))])) tt_ → Steps p.tables e below (T_53.setTop (mkF m 107 #[Lv q1, Zs, Lv q2, Zs, Lv q3, Zs, Lv q4, Zs, Lv q5, Zs, Iv p6, Lv a0, Zs, Lv a1, Zs, Lv a2, Zs, Lv a3, Zs, Lv a4, Zs, Lv a5, Zs, Lv a6, Zs, Lv a7, Zs, Lv c0, Zs, Lv c1, Zs, Lv c2, Zs, Lv c3, Zs, Us, Us, Us, Us, Us, Us, Us, Us, Us, Us, Us, Us, Us, Us, Us, Us, Us, Us, Us] [(.long c4)])) tt_ := by
    intro tt_ kt_
    refine XS.lstore X_53.here hEX rfl (hb hBY at_107) rfl (l' := #[Lv q1, Zs, Lv q2, Zs, Lv q3, Zs, Lv q4, Zs, Lv q5, Zs, Iv p6, Lv a0, Zs, Lv a1, Zs, Lv a2, Zs, Lv a3, Zs, Lv a4, Zs, Lv a5, Zs, Lv a6, Zs, Lv a7, Zs, Lv c0, Zs, Lv c1, Zs, Lv c2, Zs, Lv c3, Zs, Lv c4, Zs, Us, Us, Us, Us, Us, Us, Us, Us, Us, Us, Us, Us, Us, Us, Us, Us, Us]) rfl ?_
    show Steps p.tables e below (T_53.setTop (mkF m 109 #[Lv q1, Zs, Lv q2, Zs, Lv q3, Zs, Lv q4, Zs, Lv q5, Zs, Iv p6, Lv a0, Zs, Lv a1, Zs, Lv a2, Zs, Lv a3, Zs, Lv a4, Zs, Lv a5, Zs, Lv a6, Zs, Lv a7, Zs, Lv c0, Zs, Lv c1, Zs, Lv c2, Zs, Lv c3, Zs, Lv c4, Zs, Us, Us, Us, Us, Us, Us, Us, Us, Us, Us, Us, Us, Us, Us, Us, Us, Us] [])) tt_
    refine XS.lload X_53.here hEX rfl (hb hBY at_109) rfl ?_
    show Steps p.tables e below (T_53.setTop (mkF m 111 #[Lv q1, Zs, Lv q2, Zs, Lv q3, Zs, Lv q4, Zs, Lv q5, Zs, Iv p6, Lv a0, Zs, Lv a1, Zs, Lv a2, Zs, Lv a3, Zs, Lv a4, Zs, Lv a5, Zs, Lv a6, Zs, Lv a7, Zs, Lv c0, Zs, Lv c1, Zs, Lv c2, Zs, Lv c3, Zs, Lv c4, Zs, Us, Us, Us, Us, Us, Us, Us, Us, Us, Us, Us, Us, Us, Us, Us, Us, Us] [(.long q4)])) tt_
    refine XS.bipush X_53.here hEX rfl (hb hBY at_111) ?_
    show Steps p.tables e below (T_53.setTop (mkF m 113 #[Lv q1, Zs, Lv q2, Zs, Lv q3, Zs, Lv q4, Zs, Lv q5, Zs, Iv p6, Lv a0, Zs, Lv a1, Zs, Lv a2, Zs, Lv a3, Zs, Lv a4, Zs, Lv a5, Zs, Lv a6, Zs, Lv a7, Zs, Lv c0, Zs, Lv c1, Zs, Lv c2, Zs, Lv c3, Zs, Lv c4, Zs, Us, Us, Us, Us, Us, Us, Us, Us, Us, Us, Us, Us, Us, Us, Us, Us, Us] [(.int (26 : Int32)), (.long q4)])) tt_
    refine XS.lshl X_53.here hEX rfl (hb hBY at_113) rfl ?_
    exact kt_
  refine Done.pre sg_54 ?_
  obtain ⟨_, _, ⟨T_55, L_55, k_55, n_55⟩, -, X_55, ⟨Lc_55, hQ_55, l_55, y_55, z_55⟩, st_55⟩ := Jvm.LawKit.callS X_53 hEX (y := (⟨"com/example/guard3/guard3/P384FieldSubtractPinLaw", "lim", "(J)J"⟩ : MethodName)) hOW (mvT hZW (hw _ (List.mem_of_getElem? (i := 0) rfl))) (mvT hZW (hw _ (List.mem_of_getElem? (i := 1) rfl))) (mvT hZW (hw _ (List.mem_of_getElem? (i := 2) rfl))) (mvT hZW (hw _ (List.mem_of_getElem? (i := 3) rfl))) (by decide) (backOf (W := 0) (rm_lim l Z aZ hw [] (q4 <<< ((26 : Int32) &&& 0x3f).toInt64) h_46 n0 (Nat.le_trans Z0 K__51.1) ) hZW (hw _ (List.mem_of_getElem? (i := 3) rfl)) (hw _ (List.mem_of_getElem? (i := 2) rfl)) (by decide) (by decide)) (g := (mkF m 114 #[Lv q1, Zs, Lv q2, Zs, Lv q3, Zs, Lv q4, Zs, Lv q5, Zs, Iv p6, Lv a0, Zs, Lv a1, Zs, Lv a2, Zs, Lv a3, Zs, Lv a4, Zs, Lv a5, Zs, Lv a6, Zs, Lv a7, Zs, Lv c0, Zs, Lv c1, Zs, Lv c2, Zs, Lv c3, Zs, Lv c4, Zs, Us, Us, Us, Us, Us, Us, Us, Us, Us, Us, Us, Us, Us, Us, Us, Us, Us] [(.long (q4 <<< ((26 : Int32) &&& 0x3f).toInt64))])) rfl (by rw [hMX]; rfl) (argsL := [(.long (q4 <<< ((26 : Int32) &&& 0x3f).toInt64))]) (rest := []) (lenOf pd__J_J_1 rfl) rfl (by show 2 * 0 + _ ≤ _; exact Nat.le_of_eq rfl) (hb hBY at_114) (fun _ _ => ⟨rfl, e_53, (by decide : 0 + 0 ≤ _), (by decide : 0 + 0 ≤ _)⟩)
  dsimp only [Pt.U, Pt.locs, Pt.cells, Pt.slots] at X_55 l_55 y_55 z_55 st_55 hQ_55
  subst l_55 y_55 z_55
  obtain ⟨c5, rfl, N_55q, e_55, hq_55_0⟩ := hQ_55
  have N_55 := Fr.app N_53 N_55q
  refine Done.pre (fun _ k_ => st_55 _ k_) ?_
  show Done _ _ _ _ _ _ _ (T_55.setTop (mkF m 117 #[Lv q1, Zs, Lv q2, Zs, Lv q3, Zs, Lv q4, Zs, Lv q5, Zs, Iv p6, Lv a0, Zs, Lv a1, Zs, Lv a2, Zs, Lv a3, Zs, Lv a4, Zs, Lv a5, Zs, Lv a6, Zs, Lv a7, Zs, Lv c0, Zs, Lv c1, Zs, Lv c2, Zs, Lv c3, Zs, Lv c4, Zs, Us, Us, Us, Us, Us, Us, Us, Us, Us, Us, Us, Us, Us, Us, Us, Us, Us] [(.long c5)]))
  have hc5 := hq_55_0
  have sg_56 : ∀ tt_, Steps p.tables e below (T_55.setTop (mkF m 124 #[Lv q1, Zs, Lv q2, Zs, Lv q3, Zs, Lv q4, Zs, Lv q5, Zs, Iv p6, Lv a0, Zs, Lv a1, Zs, Lv a2, Zs, Lv a3, Zs, Lv a4, Zs, Lv a5, Zs, Lv a6, Zs, Lv a7, Zs, Lv c0, Zs, Lv c1, Zs, Lv c2, Zs, Lv c3, Zs, Lv c4, Zs, Lv c5, Zs, Us, Us, Us, Us, Us, Us, Us, Us, Us, Us, Us, Us, Us, Us, Us] [(.long (q5 <<< ((26 : Int32) &&& 0x3f).toInt64))])) tt_ → Steps p.tables e below (T_55.setTop (mkF m 117 #[Lv q1, Zs, Lv q2, Zs, Lv q3, Zs, Lv q4, Zs, Lv q5, Zs, Iv p6, Lv a0, Zs, Lv a1, Zs, Lv a2, Zs, Lv a3, Zs, Lv a4, Zs, Lv a5, Zs, Lv a6, Zs, Lv a7, Zs, Lv c0, Zs, Lv c1, Zs, Lv c2, Zs, Lv c3, Zs, Lv c4, Zs, Us, Us, Us, Us, Us, Us, Us, Us, Us, Us, Us, Us, Us, Us, Us, Us, Us] [(.long c5)])) tt_ := by
    intro tt_ kt_
    refine XS.lstore X_55.here hEX rfl (hb hBY at_117) rfl (l' := #[Lv q1, Zs, Lv q2, Zs, Lv q3, Zs, Lv q4, Zs, Lv q5, Zs, Iv p6, Lv a0, Zs, Lv a1, Zs, Lv a2, Zs, Lv a3, Zs, Lv a4, Zs, Lv a5, Zs, Lv a6, Zs, Lv a7, Zs, Lv c0, Zs, Lv c1, Zs, Lv c2, Zs, Lv c3, Zs, Lv c4, Zs, Lv c5, Zs, Us, Us, Us, Us, Us, Us, Us, Us, Us, Us, Us, Us, Us, Us, Us]) rfl ?_
    show Steps p.tables e below (T_55.setTop (mkF m 119 #[Lv q1, Zs, Lv q2, Zs, Lv q3, Zs, Lv q4, Zs, Lv q5, Zs, Iv p6, Lv a0, Zs, Lv a1, Zs, Lv a2, Zs, Lv a3, Zs, Lv a4, Zs, Lv a5, Zs, Lv a6, Zs, Lv a7, Zs, Lv c0, Zs, Lv c1, Zs, Lv c2, Zs, Lv c3, Zs, Lv c4, Zs, Lv c5, Zs, Us, Us, Us, Us, Us, Us, Us, Us, Us, Us, Us, Us, Us, Us, Us] [])) tt_
    refine XS.lload X_55.here hEX rfl (hb hBY at_119) rfl ?_
    show Steps p.tables e below (T_55.setTop (mkF m 121 #[Lv q1, Zs, Lv q2, Zs, Lv q3, Zs, Lv q4, Zs, Lv q5, Zs, Iv p6, Lv a0, Zs, Lv a1, Zs, Lv a2, Zs, Lv a3, Zs, Lv a4, Zs, Lv a5, Zs, Lv a6, Zs, Lv a7, Zs, Lv c0, Zs, Lv c1, Zs, Lv c2, Zs, Lv c3, Zs, Lv c4, Zs, Lv c5, Zs, Us, Us, Us, Us, Us, Us, Us, Us, Us, Us, Us, Us, Us, Us, Us] [(.long q5)])) tt_
    refine XS.bipush X_55.here hEX rfl (hb hBY at_121) ?_
    show Steps p.tables e below (T_55.setTop (mkF m 123 #[Lv q1, Zs, Lv q2, Zs, Lv q3, Zs, Lv q4, Zs, Lv q5, Zs, Iv p6, Lv a0, Zs, Lv a1, Zs, Lv a2, Zs, Lv a3, Zs, Lv a4, Zs, Lv a5, Zs, Lv a6, Zs, Lv a7, Zs, Lv c0, Zs, Lv c1, Zs, Lv c2, Zs, Lv c3, Zs, Lv c4, Zs, Lv c5, Zs, Us, Us, Us, Us, Us, Us, Us, Us, Us, Us, Us, Us, Us, Us, Us] [(.int (26 : Int32)), (.long q5)])) tt_
    refine XS.lshl X_55.here hEX rfl (hb hBY at_123) rfl ?_
    exact kt_
  refine Done.pre sg_56 ?_
  obtain ⟨_, _, ⟨T_57, L_57, k_57, n_57⟩, -, X_57, ⟨Lc_57, hQ_57, l_57, y_57, z_57⟩, st_57⟩ := Jvm.LawKit.callS X_55 hEX (y := (⟨"com/example/guard3/guard3/P384FieldSubtractPinLaw", "lim", "(J)J"⟩ : MethodName)) hOW (mvT hZW (hw _ (List.mem_of_getElem? (i := 0) rfl))) (mvT hZW (hw _ (List.mem_of_getElem? (i := 1) rfl))) (mvT hZW (hw _ (List.mem_of_getElem? (i := 2) rfl))) (mvT hZW (hw _ (List.mem_of_getElem? (i := 3) rfl))) (by decide) (backOf (W := 0) (rm_lim l Z aZ hw [] (q5 <<< ((26 : Int32) &&& 0x3f).toInt64) h_46 n0 (Nat.le_trans Z0 K__51.1) ) hZW (hw _ (List.mem_of_getElem? (i := 3) rfl)) (hw _ (List.mem_of_getElem? (i := 2) rfl)) (by decide) (by decide)) (g := (mkF m 124 #[Lv q1, Zs, Lv q2, Zs, Lv q3, Zs, Lv q4, Zs, Lv q5, Zs, Iv p6, Lv a0, Zs, Lv a1, Zs, Lv a2, Zs, Lv a3, Zs, Lv a4, Zs, Lv a5, Zs, Lv a6, Zs, Lv a7, Zs, Lv c0, Zs, Lv c1, Zs, Lv c2, Zs, Lv c3, Zs, Lv c4, Zs, Lv c5, Zs, Us, Us, Us, Us, Us, Us, Us, Us, Us, Us, Us, Us, Us, Us, Us] [(.long (q5 <<< ((26 : Int32) &&& 0x3f).toInt64))])) rfl (by rw [hMX]; rfl) (argsL := [(.long (q5 <<< ((26 : Int32) &&& 0x3f).toInt64))]) (rest := []) (lenOf pd__J_J_1 rfl) rfl (by show 2 * 0 + _ ≤ _; exact Nat.le_of_eq rfl) (hb hBY at_124) (fun _ _ => ⟨rfl, e_55, (by decide : 0 + 0 ≤ _), (by decide : 0 + 0 ≤ _)⟩)
  dsimp only [Pt.U, Pt.locs, Pt.cells, Pt.slots] at X_57 l_57 y_57 z_57 st_57 hQ_57
  subst l_57 y_57 z_57
  obtain ⟨c6, rfl, N_57q, e_57, hq_57_0⟩ := hQ_57
  have N_57 := Fr.app N_55 N_57q
  refine Done.pre (fun _ k_ => st_57 _ k_) ?_
  show Done _ _ _ _ _ _ _ (T_57.setTop (mkF m 127 #[Lv q1, Zs, Lv q2, Zs, Lv q3, Zs, Lv q4, Zs, Lv q5, Zs, Iv p6, Lv a0, Zs, Lv a1, Zs, Lv a2, Zs, Lv a3, Zs, Lv a4, Zs, Lv a5, Zs, Lv a6, Zs, Lv a7, Zs, Lv c0, Zs, Lv c1, Zs, Lv c2, Zs, Lv c3, Zs, Lv c4, Zs, Lv c5, Zs, Us, Us, Us, Us, Us, Us, Us, Us, Us, Us, Us, Us, Us, Us, Us] [(.long c6)]))
  have hc6 := hq_57_0
  have sg_58 : ∀ tt_, Steps p.tables e below (T_57.setTop (mkF m 133 #[Lv q1, Zs, Lv q2, Zs, Lv q3, Zs, Lv q4, Zs, Lv q5, Zs, Iv p6, Lv a0, Zs, Lv a1, Zs, Lv a2, Zs, Lv a3, Zs, Lv a4, Zs, Lv a5, Zs, Lv a6, Zs, Lv a7, Zs, Lv c0, Zs, Lv c1, Zs, Lv c2, Zs, Lv c3, Zs, Lv c4, Zs, Lv c5, Zs, Lv c6, Zs, Us, Us, Us, Us, Us, Us, Us, Us, Us, Us, Us, Us, Us] [(.long (q1 ^^^ q5))])) tt_ → Steps p.tables e below (T_57.setTop (mkF m 127 #[Lv q1, Zs, Lv q2, Zs, Lv q3, Zs, Lv q4, Zs, Lv q5, Zs, Iv p6, Lv a0, Zs, Lv a1, Zs, Lv a2, Zs, Lv a3, Zs, Lv a4, Zs, Lv a5, Zs, Lv a6, Zs, Lv a7, Zs, Lv c0, Zs, Lv c1, Zs, Lv c2, Zs, Lv c3, Zs, Lv c4, Zs, Lv c5, Zs, Us, Us, Us, Us, Us, Us, Us, Us, Us, Us, Us, Us, Us, Us, Us] [(.long c6)])) tt_ := by
    intro tt_ kt_
    refine XS.lstore X_57.here hEX rfl (hb hBY at_127) rfl (l' := #[Lv q1, Zs, Lv q2, Zs, Lv q3, Zs, Lv q4, Zs, Lv q5, Zs, Iv p6, Lv a0, Zs, Lv a1, Zs, Lv a2, Zs, Lv a3, Zs, Lv a4, Zs, Lv a5, Zs, Lv a6, Zs, Lv a7, Zs, Lv c0, Zs, Lv c1, Zs, Lv c2, Zs, Lv c3, Zs, Lv c4, Zs, Lv c5, Zs, Lv c6, Zs, Us, Us, Us, Us, Us, Us, Us, Us, Us, Us, Us, Us, Us]) rfl ?_
    show Steps p.tables e below (T_57.setTop (mkF m 129 #[Lv q1, Zs, Lv q2, Zs, Lv q3, Zs, Lv q4, Zs, Lv q5, Zs, Iv p6, Lv a0, Zs, Lv a1, Zs, Lv a2, Zs, Lv a3, Zs, Lv a4, Zs, Lv a5, Zs, Lv a6, Zs, Lv a7, Zs, Lv c0, Zs, Lv c1, Zs, Lv c2, Zs, Lv c3, Zs, Lv c4, Zs, Lv c5, Zs, Lv c6, Zs, Us, Us, Us, Us, Us, Us, Us, Us, Us, Us, Us, Us, Us] [])) tt_
    refine XS.lloadN X_57.here hEX rfl (hb hBY at_129) rfl ?_
    show Steps p.tables e below (T_57.setTop (mkF m 130 #[Lv q1, Zs, Lv q2, Zs, Lv q3, Zs, Lv q4, Zs, Lv q5, Zs, Iv p6, Lv a0, Zs, Lv a1, Zs, Lv a2, Zs, Lv a3, Zs, Lv a4, Zs, Lv a5, Zs, Lv a6, Zs, Lv a7, Zs, Lv c0, Zs, Lv c1, Zs, Lv c2, Zs, Lv c3, Zs, Lv c4, Zs, Lv c5, Zs, Lv c6, Zs, Us, Us, Us, Us, Us, Us, Us, Us, Us, Us, Us, Us, Us] [(.long q1)])) tt_
    refine XS.lload X_57.here hEX rfl (hb hBY at_130) rfl ?_
    show Steps p.tables e below (T_57.setTop (mkF m 132 #[Lv q1, Zs, Lv q2, Zs, Lv q3, Zs, Lv q4, Zs, Lv q5, Zs, Iv p6, Lv a0, Zs, Lv a1, Zs, Lv a2, Zs, Lv a3, Zs, Lv a4, Zs, Lv a5, Zs, Lv a6, Zs, Lv a7, Zs, Lv c0, Zs, Lv c1, Zs, Lv c2, Zs, Lv c3, Zs, Lv c4, Zs, Lv c5, Zs, Lv c6, Zs, Us, Us, Us, Us, Us, Us, Us, Us, Us, Us, Us, Us, Us] [(.long q5), (.long q1)])) tt_
    refine XS.lxor X_57.here hEX rfl (hb hBY at_132) rfl ?_
    exact kt_
  refine Done.pre sg_58 ?_
  obtain ⟨_, _, ⟨T_59, L_59, k_59, n_59⟩, -, X_59, ⟨Lc_59, hQ_59, l_59, y_59, z_59⟩, st_59⟩ := Jvm.LawKit.callS X_57 hEX (y := (⟨"com/example/guard3/guard3/P384FieldSubtractPinLaw", "lim", "(J)J"⟩ : MethodName)) hOW (mvT hZW (hw _ (List.mem_of_getElem? (i := 0) rfl))) (mvT hZW (hw _ (List.mem_of_getElem? (i := 1) rfl))) (mvT hZW (hw _ (List.mem_of_getElem? (i := 2) rfl))) (mvT hZW (hw _ (List.mem_of_getElem? (i := 3) rfl))) (by decide) (backOf (W := 0) (rm_lim l Z aZ hw [] (q1 ^^^ q5) h_46 n0 (Nat.le_trans Z0 K__51.1) ) hZW (hw _ (List.mem_of_getElem? (i := 3) rfl)) (hw _ (List.mem_of_getElem? (i := 2) rfl)) (by decide) (by decide)) (g := (mkF m 133 #[Lv q1, Zs, Lv q2, Zs, Lv q3, Zs, Lv q4, Zs, Lv q5, Zs, Iv p6, Lv a0, Zs, Lv a1, Zs, Lv a2, Zs, Lv a3, Zs, Lv a4, Zs, Lv a5, Zs, Lv a6, Zs, Lv a7, Zs, Lv c0, Zs, Lv c1, Zs, Lv c2, Zs, Lv c3, Zs, Lv c4, Zs, Lv c5, Zs, Lv c6, Zs, Us, Us, Us, Us, Us, Us, Us, Us, Us, Us, Us, Us, Us] [(.long (q1 ^^^ q5))])) rfl (by rw [hMX]; rfl) (argsL := [(.long (q1 ^^^ q5))]) (rest := []) (lenOf pd__J_J_1 rfl) rfl (by show 2 * 0 + _ ≤ _; exact Nat.le_of_eq rfl) (hb hBY at_133) (fun _ _ => ⟨rfl, e_57, (by decide : 0 + 0 ≤ _), (by decide : 0 + 0 ≤ _)⟩)
  dsimp only [Pt.U, Pt.locs, Pt.cells, Pt.slots] at X_59 l_59 y_59 z_59 st_59 hQ_59
  subst l_59 y_59 z_59
  obtain ⟨c7, rfl, N_59q, e_59, hq_59_0⟩ := hQ_59
  have N_59 := Fr.app N_57 N_59q
  refine Done.pre (fun _ k_ => st_59 _ k_) ?_
  show Done _ _ _ _ _ _ _ (T_59.setTop (mkF m 136 #[Lv q1, Zs, Lv q2, Zs, Lv q3, Zs, Lv q4, Zs, Lv q5, Zs, Iv p6, Lv a0, Zs, Lv a1, Zs, Lv a2, Zs, Lv a3, Zs, Lv a4, Zs, Lv a5, Zs, Lv a6, Zs, Lv a7, Zs, Lv c0, Zs, Lv c1, Zs, Lv c2, Zs, Lv c3, Zs, Lv c4, Zs, Lv c5, Zs, Lv c6, Zs, Us, Us, Us, Us, Us, Us, Us, Us, Us, Us, Us, Us, Us] [(.long c7)]))
  have hc7 := hq_59_0
  have hRa : own_R 1125899906842624 a0 a1 a2 a3 a4 a5 a6 a7 := ⟨ha0, ha1, ha2, ha3, ha4, ha5, ha6, ha7⟩
  have hRc : own_R 1125899906842624 c0 c1 c2 c3 c4 c5 c6 c7 := ⟨hc0, hc1, hc2, hc3, hc4, hc5, hc6, hc7⟩
  have sg_60 : ∀ tt_, Steps p.tables e below (T_59.setTop (mkF m 138 #[Lv q1, Zs, Lv q2, Zs, Lv q3, Zs, Lv q4, Zs, Lv q5, Zs, Iv p6, Lv a0, Zs, Lv a1, Zs, Lv a2, Zs, Lv a3, Zs, Lv a4, Zs, Lv a5, Zs, Lv a6, Zs, Lv a7, Zs, Lv c0, Zs, Lv c1, Zs, Lv c2, Zs, Lv c3, Zs, Lv c4, Zs, Lv c5, Zs, Lv c6, Zs, Lv c7, Zs, Us, Us, Us, Us, Us, Us, Us, Us, Us, Us, Us] [])) tt_ → Steps p.tables e below (T_59.setTop (mkF m 136 #[Lv q1, Zs, Lv q2, Zs, Lv q3, Zs, Lv q4, Zs, Lv q5, Zs, Iv p6, Lv a0, Zs, Lv a1, Zs, Lv a2, Zs, Lv a3, Zs, Lv a4, Zs, Lv a5, Zs, Lv a6, Zs, Lv a7, Zs, Lv c0, Zs, Lv c1, Zs, Lv c2, Zs, Lv c3, Zs, Lv c4, Zs, Lv c5, Zs, Lv c6, Zs, Us, Us, Us, Us, Us, Us, Us, Us, Us, Us, Us, Us, Us] [(.long c7)])) tt_ := by
    intro tt_ kt_
    refine XS.lstore X_59.here hEX rfl (hb hBY at_136) rfl (l' := #[Lv q1, Zs, Lv q2, Zs, Lv q3, Zs, Lv q4, Zs, Lv q5, Zs, Iv p6, Lv a0, Zs, Lv a1, Zs, Lv a2, Zs, Lv a3, Zs, Lv a4, Zs, Lv a5, Zs, Lv a6, Zs, Lv a7, Zs, Lv c0, Zs, Lv c1, Zs, Lv c2, Zs, Lv c3, Zs, Lv c4, Zs, Lv c5, Zs, Lv c6, Zs, Lv c7, Zs, Us, Us, Us, Us, Us, Us, Us, Us, Us, Us, Us]) rfl ?_
    exact kt_
  refine Done.pre sg_60 ?_
  show Done _ _ _ _ _ _ _ (T_59.setTop (mkF m 138 #[Lv q1, Zs, Lv q2, Zs, Lv q3, Zs, Lv q4, Zs, Lv q5, Zs, Iv p6, Lv a0, Zs, Lv a1, Zs, Lv a2, Zs, Lv a3, Zs, Lv a4, Zs, Lv a5, Zs, Lv a6, Zs, Lv a7, Zs, Lv c0, Zs, Lv c1, Zs, Lv c2, Zs, Lv c3, Zs, Lv c4, Zs, Lv c5, Zs, Lv c6, Zs, Lv c7, Zs, Us, Us, Us, Us, Us, Us, Us, Us, Us, Us, Us] []))
  exact rm0_j138 l Z aZ hw ws q1 q2 q3 q4 q5 p6 h0 n0 Z0 p e s m below meth cO hEX hBY hMX hOW hNM hLK hRT hZW a0 a1 a2 a3 a4 a5 a6 a7 c0 c1 c2 c3 c4 c5 c6 c7 T_59 h_46 _ X_59 e_59 N_59 K__51 hRa hRc
set_option maxRecDepth 65536 in
set_option maxHeartbeats 40000000 in
theorem rm0_j61 (l : Launch) (Z : State) (aZ : Array Value) (hw : ∀ d ∈ tables_1, d.before aZ Z = true) (ws : List Jvm.Cond) (q1 : Int64) (q2 : Int64) (q3 : Int64) (q4 : Int64) (q5 : Int64) (p6 : Int32) (h0 : Heap) (n0 : Nat) (Z0 : n0 ≤ h0.size)
    (p : Program) (e : Env) (s : State) (m : MethodId) (below : List Frame) (meth : Method) (cO : Code) (hEX : p.tables.exec = Jvm.exec) (hBY : cO.code = code) (hMX : cO.maxLocals = 54) (hOW : s.vm.findClass "com/example/guard3/guard3/P384FieldSubtractPinLaw" = some m.cls) (hNM : meth.name = x.name) (hLK : meth.locks = false) (hRT : meth.sig.returnType = ret) (hZW : Z.Warmed39 s.vm)
    (a0 : Int64) (a1 : Int64) (a2 : Int64) (a3 : Int64) (a4 : Int64) (a5 : Int64) (a6 : Int64) (a7 : Int64) (T_28 : State) (h_29 : Heap) (L_30 : List Loc) (X_31 : Stand p l e room_1 s m #[(.long q1), (.long q2), (.long q3), (.long q4), (.long q5), (.int p6)] below meth cO T_28 L_30 0 0) (e_32 : T_28.heap = h_29) (N_33 : Fr n0 L_30) (K__34 : Keep h0 h_29 []) (ha0 : -1125899906842624 ≤ a0.toInt ∧ a0.toInt ≤ 1125899906842624) (ha1 : -1125899906842624 ≤ a1.toInt ∧ a1.toInt ≤ 1125899906842624) (ha2 : -1125899906842624 ≤ a2.toInt ∧ a2.toInt ≤ 1125899906842624) (ha3 : -1125899906842624 ≤ a3.toInt ∧ a3.toInt ≤ 1125899906842624) (ha4 : -1125899906842624 ≤ a4.toInt ∧ a4.toInt ≤ 1125899906842624) (ha5 : -1125899906842624 ≤ a5.toInt ∧ a5.toInt ≤ 1125899906842624) (ha6 : -1125899906842624 ≤ a6.toInt ∧ a6.toInt ≤ 1125899906842624) (ha7 : -1125899906842624 ≤ a7.toInt ∧ a7.toInt ≤ 1125899906842624) :
    Done p e below s (Qrm0 Z q1 q2 q3 q4 q5 p6 h0 n0) room_1.cells room_1.slots (T_28.setTop (mkF m 61 #[Lv q1, Zs, Lv q2, Zs, Lv q3, Zs, Lv q4, Zs, Lv q5, Zs, Iv p6, Lv a0, Zs, Lv a1, Zs, Lv a2, Zs, Lv a3, Zs, Lv a4, Zs, Lv a5, Zs, Lv a6, Zs, Lv a7, Zs, Us, Us, Us, Us, Us, Us, Us, Us, Us, Us, Us, Us, Us, Us, Us, Us, Us, Us, Us, Us, Us, Us, Us, Us, Us, Us, Us] [])) := by
  have sg_35 : ∀ tt_, Steps p.tables e below (T_28.setTop (mkF m 66 #[Lv q1, Zs, Lv q2, Zs, Lv q3, Zs, Lv q4, Zs, Lv q5, Zs, Iv p6, Lv a0, Zs, Lv a1, Zs, Lv a2, Zs, Lv a3, Zs, Lv a4, Zs, Lv a5, Zs, Lv a6, Zs, Lv a7, Zs, Us, Us, Us, Us, Us, Us, Us, Us, Us, Us, Us, Us, Us, Us, Us, Us, Us, Us, Us, Us, Us, Us, Us, Us, Us, Us, Us] [(.long (q4 <<< ((13 : Int32) &&& 0x3f).toInt64))])) tt_ → Steps p.tables e below (T_28.setTop (mkF m 61 #[Lv q1, Zs, Lv q2, Zs, Lv q3, Zs, Lv q4, Zs, Lv q5, Zs, Iv p6, Lv a0, Zs, Lv a1, Zs, Lv a2, Zs, Lv a3, Zs, Lv a4, Zs, Lv a5, Zs, Lv a6, Zs, Lv a7, Zs, Us, Us, Us, Us, Us, Us, Us, Us, Us, Us, Us, Us, Us, Us, Us, Us, Us, Us, Us, Us, Us, Us, Us, Us, Us, Us, Us] [])) tt_ := by
    intro tt_ kt_
    refine XS.lload X_31.here hEX rfl (hb hBY at_61) rfl ?_
    show Steps p.tables e below (T_28.setTop (mkF m 63 #[Lv q1, Zs, Lv q2, Zs, Lv q3, Zs, Lv q4, Zs, Lv q5, Zs, Iv p6, Lv a0, Zs, Lv a1, Zs, Lv a2, Zs, Lv a3, Zs, Lv a4, Zs, Lv a5, Zs, Lv a6, Zs, Lv a7, Zs, Us, Us, Us, Us, Us, Us, Us, Us, Us, Us, Us, Us, Us, Us, Us, Us, Us, Us, Us, Us, Us, Us, Us, Us, Us, Us, Us] [(.long q4)])) tt_
    refine XS.bipush X_31.here hEX rfl (hb hBY at_63) ?_
    show Steps p.tables e below (T_28.setTop (mkF m 65 #[Lv q1, Zs, Lv q2, Zs, Lv q3, Zs, Lv q4, Zs, Lv q5, Zs, Iv p6, Lv a0, Zs, Lv a1, Zs, Lv a2, Zs, Lv a3, Zs, Lv a4, Zs, Lv a5, Zs, Lv a6, Zs, Lv a7, Zs, Us, Us, Us, Us, Us, Us, Us, Us, Us, Us, Us, Us, Us, Us, Us, Us, Us, Us, Us, Us, Us, Us, Us, Us, Us, Us, Us] [(.int (13 : Int32)), (.long q4)])) tt_
    refine XS.lshl X_31.here hEX rfl (hb hBY at_65) rfl ?_
    exact kt_
  refine Done.pre sg_35 ?_
  obtain ⟨_, _, ⟨T_36, L_36, k_36, n_36⟩, -, X_36, ⟨Lc_36, hQ_36, l_36, y_36, z_36⟩, st_36⟩ := Jvm.LawKit.callS X_31 hEX (y := (⟨"com/example/guard3/guard3/P384FieldSubtractPinLaw", "lim", "(J)J"⟩ : MethodName)) hOW (mvT hZW (hw _ (List.mem_of_getElem? (i := 0) rfl))) (mvT hZW (hw _ (List.mem_of_getElem? (i := 1) rfl))) (mvT hZW (hw _ (List.mem_of_getElem? (i := 2) rfl))) (mvT hZW (hw _ (List.mem_of_getElem? (i := 3) rfl))) (by decide) (backOf (W := 0) (rm_lim l Z aZ hw [] (q4 <<< ((13 : Int32) &&& 0x3f).toInt64) h_29 n0 (Nat.le_trans Z0 K__34.1) ) hZW (hw _ (List.mem_of_getElem? (i := 3) rfl)) (hw _ (List.mem_of_getElem? (i := 2) rfl)) (by decide) (by decide)) (g := (mkF m 66 #[Lv q1, Zs, Lv q2, Zs, Lv q3, Zs, Lv q4, Zs, Lv q5, Zs, Iv p6, Lv a0, Zs, Lv a1, Zs, Lv a2, Zs, Lv a3, Zs, Lv a4, Zs, Lv a5, Zs, Lv a6, Zs, Lv a7, Zs, Us, Us, Us, Us, Us, Us, Us, Us, Us, Us, Us, Us, Us, Us, Us, Us, Us, Us, Us, Us, Us, Us, Us, Us, Us, Us, Us] [(.long (q4 <<< ((13 : Int32) &&& 0x3f).toInt64))])) rfl (by rw [hMX]; rfl) (argsL := [(.long (q4 <<< ((13 : Int32) &&& 0x3f).toInt64))]) (rest := []) (lenOf pd__J_J_1 rfl) rfl (by show 2 * 0 + _ ≤ _; exact Nat.le_of_eq rfl) (hb hBY at_66) (fun _ _ => ⟨rfl, e_32, (by decide : 0 + 0 ≤ _), (by decide : 0 + 0 ≤ _)⟩)
  dsimp only [Pt.U, Pt.locs, Pt.cells, Pt.slots] at X_36 l_36 y_36 z_36 st_36 hQ_36
  subst l_36 y_36 z_36
  obtain ⟨c0, rfl, N_36q, e_36, hq_36_0⟩ := hQ_36
  have N_36 := Fr.app N_33 N_36q
  refine Done.pre (fun _ k_ => st_36 _ k_) ?_
  show Done _ _ _ _ _ _ _ (T_36.setTop (mkF m 69 #[Lv q1, Zs, Lv q2, Zs, Lv q3, Zs, Lv q4, Zs, Lv q5, Zs, Iv p6, Lv a0, Zs, Lv a1, Zs, Lv a2, Zs, Lv a3, Zs, Lv a4, Zs, Lv a5, Zs, Lv a6, Zs, Lv a7, Zs, Us, Us, Us, Us, Us, Us, Us, Us, Us, Us, Us, Us, Us, Us, Us, Us, Us, Us, Us, Us, Us, Us, Us, Us, Us, Us, Us] [(.long c0)]))
  have hc0 := hq_36_0
  have sg_37 : ∀ tt_, Steps p.tables e below (T_36.setTop (mkF m 76 #[Lv q1, Zs, Lv q2, Zs, Lv q3, Zs, Lv q4, Zs, Lv q5, Zs, Iv p6, Lv a0, Zs, Lv a1, Zs, Lv a2, Zs, Lv a3, Zs, Lv a4, Zs, Lv a5, Zs, Lv a6, Zs, Lv a7, Zs, Lv c0, Zs, Us, Us, Us, Us, Us, Us, Us, Us, Us, Us, Us, Us, Us, Us, Us, Us, Us, Us, Us, Us, Us, Us, Us, Us, Us] [(.long (q5 <<< ((13 : Int32) &&& 0x3f).toInt64))])) tt_ → Steps p.tables e below (T_36.setTop (mkF m 69 #[Lv q1, Zs, Lv q2, Zs, Lv q3, Zs, Lv q4, Zs, Lv q5, Zs, Iv p6, Lv a0, Zs, Lv a1, Zs, Lv a2, Zs, Lv a3, Zs, Lv a4, Zs, Lv a5, Zs, Lv a6, Zs, Lv a7, Zs, Us, Us, Us, Us, Us, Us, Us, Us, Us, Us, Us, Us, Us, Us, Us, Us, Us, Us, Us, Us, Us, Us, Us, Us, Us, Us, Us] [(.long c0)])) tt_ := by
    intro tt_ kt_
    refine XS.lstore X_36.here hEX rfl (hb hBY at_69) rfl (l' := #[Lv q1, Zs, Lv q2, Zs, Lv q3, Zs, Lv q4, Zs, Lv q5, Zs, Iv p6, Lv a0, Zs, Lv a1, Zs, Lv a2, Zs, Lv a3, Zs, Lv a4, Zs, Lv a5, Zs, Lv a6, Zs, Lv a7, Zs, Lv c0, Zs, Us, Us, Us, Us, Us, Us, Us, Us, Us, Us, Us, Us, Us, Us, Us, Us, Us, Us, Us, Us, Us, Us, Us, Us, Us]) rfl ?_
    show Steps p.tables e below (T_36.setTop (mkF m 71 #[Lv q1, Zs, Lv q2, Zs, Lv q3, Zs, Lv q4, Zs, Lv q5, Zs, Iv p6, Lv a0, Zs, Lv a1, Zs, Lv a2, Zs, Lv a3, Zs, Lv a4, Zs, Lv a5, Zs, Lv a6, Zs, Lv a7, Zs, Lv c0, Zs, Us, Us, Us, Us, Us, Us, Us, Us, Us, Us, Us, Us, Us, Us, Us, Us, Us, Us, Us, Us, Us, Us, Us, Us, Us] [])) tt_
    refine XS.lload X_36.here hEX rfl (hb hBY at_71) rfl ?_
    show Steps p.tables e below (T_36.setTop (mkF m 73 #[Lv q1, Zs, Lv q2, Zs, Lv q3, Zs, Lv q4, Zs, Lv q5, Zs, Iv p6, Lv a0, Zs, Lv a1, Zs, Lv a2, Zs, Lv a3, Zs, Lv a4, Zs, Lv a5, Zs, Lv a6, Zs, Lv a7, Zs, Lv c0, Zs, Us, Us, Us, Us, Us, Us, Us, Us, Us, Us, Us, Us, Us, Us, Us, Us, Us, Us, Us, Us, Us, Us, Us, Us, Us] [(.long q5)])) tt_
    refine XS.bipush X_36.here hEX rfl (hb hBY at_73) ?_
    show Steps p.tables e below (T_36.setTop (mkF m 75 #[Lv q1, Zs, Lv q2, Zs, Lv q3, Zs, Lv q4, Zs, Lv q5, Zs, Iv p6, Lv a0, Zs, Lv a1, Zs, Lv a2, Zs, Lv a3, Zs, Lv a4, Zs, Lv a5, Zs, Lv a6, Zs, Lv a7, Zs, Lv c0, Zs, Us, Us, Us, Us, Us, Us, Us, Us, Us, Us, Us, Us, Us, Us, Us, Us, Us, Us, Us, Us, Us, Us, Us, Us, Us] [(.int (13 : Int32)), (.long q5)])) tt_
    refine XS.lshl X_36.here hEX rfl (hb hBY at_75) rfl ?_
    exact kt_
  refine Done.pre sg_37 ?_
  obtain ⟨_, _, ⟨T_38, L_38, k_38, n_38⟩, -, X_38, ⟨Lc_38, hQ_38, l_38, y_38, z_38⟩, st_38⟩ := Jvm.LawKit.callS X_36 hEX (y := (⟨"com/example/guard3/guard3/P384FieldSubtractPinLaw", "lim", "(J)J"⟩ : MethodName)) hOW (mvT hZW (hw _ (List.mem_of_getElem? (i := 0) rfl))) (mvT hZW (hw _ (List.mem_of_getElem? (i := 1) rfl))) (mvT hZW (hw _ (List.mem_of_getElem? (i := 2) rfl))) (mvT hZW (hw _ (List.mem_of_getElem? (i := 3) rfl))) (by decide) (backOf (W := 0) (rm_lim l Z aZ hw [] (q5 <<< ((13 : Int32) &&& 0x3f).toInt64) h_29 n0 (Nat.le_trans Z0 K__34.1) ) hZW (hw _ (List.mem_of_getElem? (i := 3) rfl)) (hw _ (List.mem_of_getElem? (i := 2) rfl)) (by decide) (by decide)) (g := (mkF m 76 #[Lv q1, Zs, Lv q2, Zs, Lv q3, Zs, Lv q4, Zs, Lv q5, Zs, Iv p6, Lv a0, Zs, Lv a1, Zs, Lv a2, Zs, Lv a3, Zs, Lv a4, Zs, Lv a5, Zs, Lv a6, Zs, Lv a7, Zs, Lv c0, Zs, Us, Us, Us, Us, Us, Us, Us, Us, Us, Us, Us, Us, Us, Us, Us, Us, Us, Us, Us, Us, Us, Us, Us, Us, Us] [(.long (q5 <<< ((13 : Int32) &&& 0x3f).toInt64))])) rfl (by rw [hMX]; rfl) (argsL := [(.long (q5 <<< ((13 : Int32) &&& 0x3f).toInt64))]) (rest := []) (lenOf pd__J_J_1 rfl) rfl (by show 2 * 0 + _ ≤ _; exact Nat.le_of_eq rfl) (hb hBY at_76) (fun _ _ => ⟨rfl, e_36, (by decide : 0 + 0 ≤ _), (by decide : 0 + 0 ≤ _)⟩)
  dsimp only [Pt.U, Pt.locs, Pt.cells, Pt.slots] at X_38 l_38 y_38 z_38 st_38 hQ_38
  subst l_38 y_38 z_38
  obtain ⟨c1, rfl, N_38q, e_38, hq_38_0⟩ := hQ_38
  have N_38 := Fr.app N_36 N_38q
  refine Done.pre (fun _ k_ => st_38 _ k_) ?_
  show Done _ _ _ _ _ _ _ (T_38.setTop (mkF m 79 #[Lv q1, Zs, Lv q2, Zs, Lv q3, Zs, Lv q4, Zs, Lv q5, Zs, Iv p6, Lv a0, Zs, Lv a1, Zs, Lv a2, Zs, Lv a3, Zs, Lv a4, Zs, Lv a5, Zs, Lv a6, Zs, Lv a7, Zs, Lv c0, Zs, Us, Us, Us, Us, Us, Us, Us, Us, Us, Us, Us, Us, Us, Us, Us, Us, Us, Us, Us, Us, Us, Us, Us, Us, Us] [(.long c1)]))
  have hc1 := hq_38_0
  have sg_39 : ∀ tt_, Steps p.tables e below (T_38.setTop (mkF m 85 #[Lv q1, Zs, Lv q2, Zs, Lv q3, Zs, Lv q4, Zs, Lv q5, Zs, Iv p6, Lv a0, Zs, Lv a1, Zs, Lv a2, Zs, Lv a3, Zs, Lv a4, Zs, Lv a5, Zs, Lv a6, Zs, Lv a7, Zs, Lv c0, Zs, Lv c1, Zs, Us, Us, Us, Us, Us, Us, Us, Us, Us, Us, Us, Us, Us, Us, Us, Us, Us, Us, Us, Us, Us, Us, Us] [(.long (q1 <<< ((26 : Int32) &&& 0x3f).toInt64))])) tt_ → Steps p.tables e below (T_38.setTop (mkF m 79 #[Lv q1, Zs, Lv q2, Zs, Lv q3, Zs, Lv q4, Zs, Lv q5, Zs, Iv p6, Lv a0, Zs, Lv a1, Zs, Lv a2, Zs, Lv a3, Zs, Lv a4, Zs, Lv a5, Zs, Lv a6, Zs, Lv a7, Zs, Lv c0, Zs, Us, Us, Us, Us, Us, Us, Us, Us, Us, Us, Us, Us, Us, Us, Us, Us, Us, Us, Us, Us, Us, Us, Us, Us, Us] [(.long c1)])) tt_ := by
    intro tt_ kt_
    refine XS.lstore X_38.here hEX rfl (hb hBY at_79) rfl (l' := #[Lv q1, Zs, Lv q2, Zs, Lv q3, Zs, Lv q4, Zs, Lv q5, Zs, Iv p6, Lv a0, Zs, Lv a1, Zs, Lv a2, Zs, Lv a3, Zs, Lv a4, Zs, Lv a5, Zs, Lv a6, Zs, Lv a7, Zs, Lv c0, Zs, Lv c1, Zs, Us, Us, Us, Us, Us, Us, Us, Us, Us, Us, Us, Us, Us, Us, Us, Us, Us, Us, Us, Us, Us, Us, Us]) rfl ?_
    show Steps p.tables e below (T_38.setTop (mkF m 81 #[Lv q1, Zs, Lv q2, Zs, Lv q3, Zs, Lv q4, Zs, Lv q5, Zs, Iv p6, Lv a0, Zs, Lv a1, Zs, Lv a2, Zs, Lv a3, Zs, Lv a4, Zs, Lv a5, Zs, Lv a6, Zs, Lv a7, Zs, Lv c0, Zs, Lv c1, Zs, Us, Us, Us, Us, Us, Us, Us, Us, Us, Us, Us, Us, Us, Us, Us, Us, Us, Us, Us, Us, Us, Us, Us] [])) tt_
    refine XS.lloadN X_38.here hEX rfl (hb hBY at_81) rfl ?_
    show Steps p.tables e below (T_38.setTop (mkF m 82 #[Lv q1, Zs, Lv q2, Zs, Lv q3, Zs, Lv q4, Zs, Lv q5, Zs, Iv p6, Lv a0, Zs, Lv a1, Zs, Lv a2, Zs, Lv a3, Zs, Lv a4, Zs, Lv a5, Zs, Lv a6, Zs, Lv a7, Zs, Lv c0, Zs, Lv c1, Zs, Us, Us, Us, Us, Us, Us, Us, Us, Us, Us, Us, Us, Us, Us, Us, Us, Us, Us, Us, Us, Us, Us, Us] [(.long q1)])) tt_
    refine XS.bipush X_38.here hEX rfl (hb hBY at_82) ?_
    show Steps p.tables e below (T_38.setTop (mkF m 84 #[Lv q1, Zs, Lv q2, Zs, Lv q3, Zs, Lv q4, Zs, Lv q5, Zs, Iv p6, Lv a0, Zs, Lv a1, Zs, Lv a2, Zs, Lv a3, Zs, Lv a4, Zs, Lv a5, Zs, Lv a6, Zs, Lv a7, Zs, Lv c0, Zs, Lv c1, Zs, Us, Us, Us, Us, Us, Us, Us, Us, Us, Us, Us, Us, Us, Us, Us, Us, Us, Us, Us, Us, Us, Us, Us] [(.int (26 : Int32)), (.long q1)])) tt_
    refine XS.lshl X_38.here hEX rfl (hb hBY at_84) rfl ?_
    exact kt_
  refine Done.pre sg_39 ?_
  obtain ⟨_, _, ⟨T_40, L_40, k_40, n_40⟩, -, X_40, ⟨Lc_40, hQ_40, l_40, y_40, z_40⟩, st_40⟩ := Jvm.LawKit.callS X_38 hEX (y := (⟨"com/example/guard3/guard3/P384FieldSubtractPinLaw", "lim", "(J)J"⟩ : MethodName)) hOW (mvT hZW (hw _ (List.mem_of_getElem? (i := 0) rfl))) (mvT hZW (hw _ (List.mem_of_getElem? (i := 1) rfl))) (mvT hZW (hw _ (List.mem_of_getElem? (i := 2) rfl))) (mvT hZW (hw _ (List.mem_of_getElem? (i := 3) rfl))) (by decide) (backOf (W := 0) (rm_lim l Z aZ hw [] (q1 <<< ((26 : Int32) &&& 0x3f).toInt64) h_29 n0 (Nat.le_trans Z0 K__34.1) ) hZW (hw _ (List.mem_of_getElem? (i := 3) rfl)) (hw _ (List.mem_of_getElem? (i := 2) rfl)) (by decide) (by decide)) (g := (mkF m 85 #[Lv q1, Zs, Lv q2, Zs, Lv q3, Zs, Lv q4, Zs, Lv q5, Zs, Iv p6, Lv a0, Zs, Lv a1, Zs, Lv a2, Zs, Lv a3, Zs, Lv a4, Zs, Lv a5, Zs, Lv a6, Zs, Lv a7, Zs, Lv c0, Zs, Lv c1, Zs, Us, Us, Us, Us, Us, Us, Us, Us, Us, Us, Us, Us, Us, Us, Us, Us, Us, Us, Us, Us, Us, Us, Us] [(.long (q1 <<< ((26 : Int32) &&& 0x3f).toInt64))])) rfl (by rw [hMX]; rfl) (argsL := [(.long (q1 <<< ((26 : Int32) &&& 0x3f).toInt64))]) (rest := []) (lenOf pd__J_J_1 rfl) rfl (by show 2 * 0 + _ ≤ _; exact Nat.le_of_eq rfl) (hb hBY at_85) (fun _ _ => ⟨rfl, e_38, (by decide : 0 + 0 ≤ _), (by decide : 0 + 0 ≤ _)⟩)
  dsimp only [Pt.U, Pt.locs, Pt.cells, Pt.slots] at X_40 l_40 y_40 z_40 st_40 hQ_40
  subst l_40 y_40 z_40
  obtain ⟨c2, rfl, N_40q, e_40, hq_40_0⟩ := hQ_40
  have N_40 := Fr.app N_38 N_40q
  refine Done.pre (fun _ k_ => st_40 _ k_) ?_
  show Done _ _ _ _ _ _ _ (T_40.setTop (mkF m 88 #[Lv q1, Zs, Lv q2, Zs, Lv q3, Zs, Lv q4, Zs, Lv q5, Zs, Iv p6, Lv a0, Zs, Lv a1, Zs, Lv a2, Zs, Lv a3, Zs, Lv a4, Zs, Lv a5, Zs, Lv a6, Zs, Lv a7, Zs, Lv c0, Zs, Lv c1, Zs, Us, Us, Us, Us, Us, Us, Us, Us, Us, Us, Us, Us, Us, Us, Us, Us, Us, Us, Us, Us, Us, Us, Us] [(.long c2)]))
  have hc2 := hq_40_0
  have sg_41 : ∀ tt_, Steps p.tables e below (T_40.setTop (mkF m 94 #[Lv q1, Zs, Lv q2, Zs, Lv q3, Zs, Lv q4, Zs, Lv q5, Zs, Iv p6, Lv a0, Zs, Lv a1, Zs, Lv a2, Zs, Lv a3, Zs, Lv a4, Zs, Lv a5, Zs, Lv a6, Zs, Lv a7, Zs, Lv c0, Zs, Lv c1, Zs, Lv c2, Zs, Us, Us, Us, Us, Us, Us, Us, Us, Us, Us, Us, Us, Us, Us, Us, Us, Us, Us, Us, Us, Us] [(.long (q2 <<< ((26 : Int32) &&& 0x3f).toInt64))])) tt_ → Steps p.tables e below (T_40.setTop (mkF m 88 #[Lv q1, Zs, Lv q2, Zs, Lv q3, Zs, Lv q4, Zs, Lv q5, Zs, Iv p6, Lv a0, Zs, Lv a1, Zs, Lv a2, Zs, Lv a3, Zs, Lv a4, Zs, Lv a5, Zs, Lv a6, Zs, Lv a7, Zs, Lv c0, Zs, Lv c1, Zs, Us, Us, Us, Us, Us, Us, Us, Us, Us, Us, Us, Us, Us, Us, Us, Us, Us, Us, Us, Us, Us, Us, Us] [(.long c2)])) tt_ := by
    intro tt_ kt_
    refine XS.lstore X_40.here hEX rfl (hb hBY at_88) rfl (l' := #[Lv q1, Zs, Lv q2, Zs, Lv q3, Zs, Lv q4, Zs, Lv q5, Zs, Iv p6, Lv a0, Zs, Lv a1, Zs, Lv a2, Zs, Lv a3, Zs, Lv a4, Zs, Lv a5, Zs, Lv a6, Zs, Lv a7, Zs, Lv c0, Zs, Lv c1, Zs, Lv c2, Zs, Us, Us, Us, Us, Us, Us, Us, Us, Us, Us, Us, Us, Us, Us, Us, Us, Us, Us, Us, Us, Us]) rfl ?_
    show Steps p.tables e below (T_40.setTop (mkF m 90 #[Lv q1, Zs, Lv q2, Zs, Lv q3, Zs, Lv q4, Zs, Lv q5, Zs, Iv p6, Lv a0, Zs, Lv a1, Zs, Lv a2, Zs, Lv a3, Zs, Lv a4, Zs, Lv a5, Zs, Lv a6, Zs, Lv a7, Zs, Lv c0, Zs, Lv c1, Zs, Lv c2, Zs, Us, Us, Us, Us, Us, Us, Us, Us, Us, Us, Us, Us, Us, Us, Us, Us, Us, Us, Us, Us, Us] [])) tt_
    refine XS.lloadN X_40.here hEX rfl (hb hBY at_90) rfl ?_
    show Steps p.tables e below (T_40.setTop (mkF m 91 #[Lv q1, Zs, Lv q2, Zs, Lv q3, Zs, Lv q4, Zs, Lv q5, Zs, Iv p6, Lv a0, Zs, Lv a1, Zs, Lv a2, Zs, Lv a3, Zs, Lv a4, Zs, Lv a5, Zs, Lv a6, Zs, Lv a7, Zs, Lv c0, Zs, Lv c1, Zs, Lv c2, Zs, Us, Us, Us, Us, Us, Us, Us, Us, Us, Us, Us, Us, Us, Us, Us, Us, Us, Us, Us, Us, Us] [(.long q2)])) tt_
    refine XS.bipush X_40.here hEX rfl (hb hBY at_91) ?_
    show Steps p.tables e below (T_40.setTop (mkF m 93 #[Lv q1, Zs, Lv q2, Zs, Lv q3, Zs, Lv q4, Zs, Lv q5, Zs, Iv p6, Lv a0, Zs, Lv a1, Zs, Lv a2, Zs, Lv a3, Zs, Lv a4, Zs, Lv a5, Zs, Lv a6, Zs, Lv a7, Zs, Lv c0, Zs, Lv c1, Zs, Lv c2, Zs, Us, Us, Us, Us, Us, Us, Us, Us, Us, Us, Us, Us, Us, Us, Us, Us, Us, Us, Us, Us, Us] [(.int (26 : Int32)), (.long q2)])) tt_
    refine XS.lshl X_40.here hEX rfl (hb hBY at_93) rfl ?_
    exact kt_
  refine Done.pre sg_41 ?_
  obtain ⟨_, _, ⟨T_42, L_42, k_42, n_42⟩, -, X_42, ⟨Lc_42, hQ_42, l_42, y_42, z_42⟩, st_42⟩ := Jvm.LawKit.callS X_40 hEX (y := (⟨"com/example/guard3/guard3/P384FieldSubtractPinLaw", "lim", "(J)J"⟩ : MethodName)) hOW (mvT hZW (hw _ (List.mem_of_getElem? (i := 0) rfl))) (mvT hZW (hw _ (List.mem_of_getElem? (i := 1) rfl))) (mvT hZW (hw _ (List.mem_of_getElem? (i := 2) rfl))) (mvT hZW (hw _ (List.mem_of_getElem? (i := 3) rfl))) (by decide) (backOf (W := 0) (rm_lim l Z aZ hw [] (q2 <<< ((26 : Int32) &&& 0x3f).toInt64) h_29 n0 (Nat.le_trans Z0 K__34.1) ) hZW (hw _ (List.mem_of_getElem? (i := 3) rfl)) (hw _ (List.mem_of_getElem? (i := 2) rfl)) (by decide) (by decide)) (g := (mkF m 94 #[Lv q1, Zs, Lv q2, Zs, Lv q3, Zs, Lv q4, Zs, Lv q5, Zs, Iv p6, Lv a0, Zs, Lv a1, Zs, Lv a2, Zs, Lv a3, Zs, Lv a4, Zs, Lv a5, Zs, Lv a6, Zs, Lv a7, Zs, Lv c0, Zs, Lv c1, Zs, Lv c2, Zs, Us, Us, Us, Us, Us, Us, Us, Us, Us, Us, Us, Us, Us, Us, Us, Us, Us, Us, Us, Us, Us] [(.long (q2 <<< ((26 : Int32) &&& 0x3f).toInt64))])) rfl (by rw [hMX]; rfl) (argsL := [(.long (q2 <<< ((26 : Int32) &&& 0x3f).toInt64))]) (rest := []) (lenOf pd__J_J_1 rfl) rfl (by show 2 * 0 + _ ≤ _; exact Nat.le_of_eq rfl) (hb hBY at_94) (fun _ _ => ⟨rfl, e_40, (by decide : 0 + 0 ≤ _), (by decide : 0 + 0 ≤ _)⟩)
  dsimp only [Pt.U, Pt.locs, Pt.cells, Pt.slots] at X_42 l_42 y_42 z_42 st_42 hQ_42
  subst l_42 y_42 z_42
  obtain ⟨c3, rfl, N_42q, e_42, hq_42_0⟩ := hQ_42
  have N_42 := Fr.app N_40 N_42q
  refine Done.pre (fun _ k_ => st_42 _ k_) ?_
  show Done _ _ _ _ _ _ _ (T_42.setTop (mkF m 97 #[Lv q1, Zs, Lv q2, Zs, Lv q3, Zs, Lv q4, Zs, Lv q5, Zs, Iv p6, Lv a0, Zs, Lv a1, Zs, Lv a2, Zs, Lv a3, Zs, Lv a4, Zs, Lv a5, Zs, Lv a6, Zs, Lv a7, Zs, Lv c0, Zs, Lv c1, Zs, Lv c2, Zs, Us, Us, Us, Us, Us, Us, Us, Us, Us, Us, Us, Us, Us, Us, Us, Us, Us, Us, Us, Us, Us] [(.long c3)]))
  have hc3 := hq_42_0
  have sg_43 : ∀ tt_, Steps p.tables e below (T_42.setTop (mkF m 99 #[Lv q1, Zs, Lv q2, Zs, Lv q3, Zs, Lv q4, Zs, Lv q5, Zs, Iv p6, Lv a0, Zs, Lv a1, Zs, Lv a2, Zs, Lv a3, Zs, Lv a4, Zs, Lv a5, Zs, Lv a6, Zs, Lv a7, Zs, Lv c0, Zs, Lv c1, Zs, Lv c2, Zs, Lv c3, Zs, Us, Us, Us, Us, Us, Us, Us, Us, Us, Us, Us, Us, Us, Us, Us, Us, Us, Us, Us] [])) tt_ → Steps p.tables e below (T_42.setTop (mkF m 97 #[Lv q1, Zs, Lv q2, Zs, Lv q3, Zs, Lv q4, Zs, Lv q5, Zs, Iv p6, Lv a0, Zs, Lv a1, Zs, Lv a2, Zs, Lv a3, Zs, Lv a4, Zs, Lv a5, Zs, Lv a6, Zs, Lv a7, Zs, Lv c0, Zs, Lv c1, Zs, Lv c2, Zs, Us, Us, Us, Us, Us, Us, Us, Us, Us, Us, Us, Us, Us, Us, Us, Us, Us, Us, Us, Us, Us] [(.long c3)])) tt_ := by
    intro tt_ kt_
    refine XS.lstore X_42.here hEX rfl (hb hBY at_97) rfl (l' := #[Lv q1, Zs, Lv q2, Zs, Lv q3, Zs, Lv q4, Zs, Lv q5, Zs, Iv p6, Lv a0, Zs, Lv a1, Zs, Lv a2, Zs, Lv a3, Zs, Lv a4, Zs, Lv a5, Zs, Lv a6, Zs, Lv a7, Zs, Lv c0, Zs, Lv c1, Zs, Lv c2, Zs, Lv c3, Zs, Us, Us, Us, Us, Us, Us, Us, Us, Us, Us, Us, Us, Us, Us, Us, Us, Us, Us, Us]) rfl ?_
    exact kt_
  refine Done.pre sg_43 ?_
  show Done _ _ _ _ _ _ _ (T_42.setTop (mkF m 99 #[Lv q1, Zs, Lv q2, Zs, Lv q3, Zs, Lv q4, Zs, Lv q5, Zs, Iv p6, Lv a0, Zs, Lv a1, Zs, Lv a2, Zs, Lv a3, Zs, Lv a4, Zs, Lv a5, Zs, Lv a6, Zs, Lv a7, Zs, Lv c0, Zs, Lv c1, Zs, Lv c2, Zs, Lv c3, Zs, Us, Us, Us, Us, Us, Us, Us, Us, Us, Us, Us, Us, Us, Us, Us, Us, Us, Us, Us] []))
  exact rm0_j99 l Z aZ hw ws q1 q2 q3 q4 q5 p6 h0 n0 Z0 p e s m below meth cO hEX hBY hMX hOW hNM hLK hRT hZW a0 a1 a2 a3 a4 a5 a6 a7 c0 c1 c2 c3 T_42 h_29 _ X_42 e_42 N_42 K__34 ha0 ha1 ha2 ha3 ha4 ha5 ha6 ha7 hc0 hc1 hc2 hc3
set_option maxRecDepth 65536 in
set_option maxHeartbeats 40000000 in
theorem rm0_j33 (l : Launch) (Z : State) (aZ : Array Value) (hw : ∀ d ∈ tables_1, d.before aZ Z = true) (ws : List Jvm.Cond) (q1 : Int64) (q2 : Int64) (q3 : Int64) (q4 : Int64) (q5 : Int64) (p6 : Int32) (h0 : Heap) (n0 : Nat) (Z0 : n0 ≤ h0.size)
    (p : Program) (e : Env) (s : State) (m : MethodId) (below : List Frame) (meth : Method) (cO : Code) (hEX : p.tables.exec = Jvm.exec) (hBY : cO.code = code) (hMX : cO.maxLocals = 54) (hOW : s.vm.findClass "com/example/guard3/guard3/P384FieldSubtractPinLaw" = some m.cls) (hNM : meth.name = x.name) (hLK : meth.locks = false) (hRT : meth.sig.returnType = ret) (hZW : Z.Warmed39 s.vm)
    (a0 : Int64) (a1 : Int64) (a2 : Int64) (a3 : Int64) (a4 : Int64) (T_13 : State) (h_14 : Heap) (L_15 : List Loc) (X_16 : Stand p l e room_1 s m #[(.long q1), (.long q2), (.long q3), (.long q4), (.long q5), (.int p6)] below meth cO T_13 L_15 0 0) (e_17 : T_13.heap = h_14) (N_18 : Fr n0 L_15) (K__19 : Keep h0 h_14 []) (ha0 : -1125899906842624 ≤ a0.toInt ∧ a0.toInt ≤ 1125899906842624) (ha1 : -1125899906842624 ≤ a1.toInt ∧ a1.toInt ≤ 1125899906842624) (ha2 : -1125899906842624 ≤ a2.toInt ∧ a2.toInt ≤ 1125899906842624) (ha3 : -1125899906842624 ≤ a3.toInt ∧ a3.toInt ≤ 1125899906842624) (ha4 : -1125899906842624 ≤ a4.toInt ∧ a4.toInt ≤ 1125899906842624) :
    Done p e below s (Qrm0 Z q1 q2 q3 q4 q5 p6 h0 n0) room_1.cells room_1.slots (T_13.setTop (mkF m 33 #[Lv q1, Zs, Lv q2, Zs, Lv q3, Zs, Lv q4, Zs, Lv q5, Zs, Iv p6, Lv a0, Zs, Lv a1, Zs, Lv a2, Zs, Lv a3, Zs, Lv a4, Zs, Us, Us, Us, Us, Us, Us, Us, Us, Us, Us, Us, Us, Us, Us, Us, Us, Us, Us, Us, Us, Us, Us, Us, Us, Us, Us, Us, Us, Us, Us, Us, Us, Us] [])) := by
  have sg_20 : ∀ tt_, Steps p.tables e below (T_13.setTop (mkF m 37 #[Lv q1, Zs, Lv q2, Zs, Lv q3, Zs, Lv q4, Zs, Lv q5, Zs, Iv p6, Lv a0, Zs, Lv a1, Zs, Lv a2, Zs, Lv a3, Zs, Lv a4, Zs, Us, Us, Us, Us, Us, Us, Us, Us, Us, Us, Us, Us, Us, Us, Us, Us, Us, Us, Us, Us, Us, Us, Us, Us, Us, Us, Us, Us, Us, Us, Us, Us, Us] [(.long (q1 <<< ((13 : Int32) &&& 0x3f).toInt64))])) tt_ → Steps p.tables e below (T_13.setTop (mkF m 33 #[Lv q1, Zs, Lv q2, Zs, Lv q3, Zs, Lv q4, Zs, Lv q5, Zs, Iv p6, Lv a0, Zs, Lv a1, Zs, Lv a2, Zs, Lv a3, Zs, Lv a4, Zs, Us, Us, Us, Us, Us, Us, Us, Us, Us, Us, Us, Us, Us, Us, Us, Us, Us, Us, Us, Us, Us, Us, Us, Us, Us, Us, Us, Us, Us, Us, Us, Us, Us] [])) tt_ := by
    intro tt_ kt_
    refine XS.lloadN X_16.here hEX rfl (hb hBY at_33) rfl ?_
    show Steps p.tables e below (T_13.setTop (mkF m 34 #[Lv q1, Zs, Lv q2, Zs, Lv q3, Zs, Lv q4, Zs, Lv q5, Zs, Iv p6, Lv a0, Zs, Lv a1, Zs, Lv a2, Zs, Lv a3, Zs, Lv a4, Zs, Us, Us, Us, Us, Us, Us, Us, Us, Us, Us, Us, Us, Us, Us, Us, Us, Us, Us, Us, Us, Us, Us, Us, Us, Us, Us, Us, Us, Us, Us, Us, Us, Us] [(.long q1)])) tt_
    refine XS.bipush X_16.here hEX rfl (hb hBY at_34) ?_
    show Steps p.tables e below (T_13.setTop (mkF m 36 #[Lv q1, Zs, Lv q2, Zs, Lv q3, Zs, Lv q4, Zs, Lv q5, Zs, Iv p6, Lv a0, Zs, Lv a1, Zs, Lv a2, Zs, Lv a3, Zs, Lv a4, Zs, Us, Us, Us, Us, Us, Us, Us, Us, Us, Us, Us, Us, Us, Us, Us, Us, Us, Us, Us, Us, Us, Us, Us, Us, Us, Us, Us, Us, Us, Us, Us, Us, Us] [(.int (13 : Int32)), (.long q1)])) tt_
    refine XS.lshl X_16.here hEX rfl (hb hBY at_36) rfl ?_
    exact kt_
  refine Done.pre sg_20 ?_
  obtain ⟨_, _, ⟨T_21, L_21, k_21, n_21⟩, -, X_21, ⟨Lc_21, hQ_21, l_21, y_21, z_21⟩, st_21⟩ := Jvm.LawKit.callS X_16 hEX (y := (⟨"com/example/guard3/guard3/P384FieldSubtractPinLaw", "lim", "(J)J"⟩ : MethodName)) hOW (mvT hZW (hw _ (List.mem_of_getElem? (i := 0) rfl))) (mvT hZW (hw _ (List.mem_of_getElem? (i := 1) rfl))) (mvT hZW (hw _ (List.mem_of_getElem? (i := 2) rfl))) (mvT hZW (hw _ (List.mem_of_getElem? (i := 3) rfl))) (by decide) (backOf (W := 0) (rm_lim l Z aZ hw [] (q1 <<< ((13 : Int32) &&& 0x3f).toInt64) h_14 n0 (Nat.le_trans Z0 K__19.1) ) hZW (hw _ (List.mem_of_getElem? (i := 3) rfl)) (hw _ (List.mem_of_getElem? (i := 2) rfl)) (by decide) (by decide)) (g := (mkF m 37 #[Lv q1, Zs, Lv q2, Zs, Lv q3, Zs, Lv q4, Zs, Lv q5, Zs, Iv p6, Lv a0, Zs, Lv a1, Zs, Lv a2, Zs, Lv a3, Zs, Lv a4, Zs, Us, Us, Us, Us, Us, Us, Us, Us, Us, Us, Us, Us, Us, Us, Us, Us, Us, Us, Us, Us, Us, Us, Us, Us, Us, Us, Us, Us, Us, Us, Us, Us, Us] [(.long (q1 <<< ((13 : Int32) &&& 0x3f).toInt64))])) rfl (by rw [hMX]; rfl) (argsL := [(.long (q1 <<< ((13 : Int32) &&& 0x3f).toInt64))]) (rest := []) (lenOf pd__J_J_1 rfl) rfl (by show 2 * 0 + _ ≤ _; exact Nat.le_of_eq rfl) (hb hBY at_37) (fun _ _ => ⟨rfl, e_17, (by decide : 0 + 0 ≤ _), (by decide : 0 + 0 ≤ _)⟩)
  dsimp only [Pt.U, Pt.locs, Pt.cells, Pt.slots] at X_21 l_21 y_21 z_21 st_21 hQ_21
  subst l_21 y_21 z_21
  obtain ⟨a5, rfl, N_21q, e_21, hq_21_0⟩ := hQ_21
  have N_21 := Fr.app N_18 N_21q
  refine Done.pre (fun _ k_ => st_21 _ k_) ?_
  show Done _ _ _ _ _ _ _ (T_21.setTop (mkF m 40 #[Lv q1, Zs, Lv q2, Zs, Lv q3, Zs, Lv q4, Zs, Lv q5, Zs, Iv p6, Lv a0, Zs, Lv a1, Zs, Lv a2, Zs, Lv a3, Zs, Lv a4, Zs, Us, Us, Us, Us, Us, Us, Us, Us, Us, Us, Us, Us, Us, Us, Us, Us, Us, Us, Us, Us, Us, Us, Us, Us, Us, Us, Us, Us, Us, Us, Us, Us, Us] [(.long a5)]))
  have ha5 := hq_21_0
  have sg_22 : ∀ tt_, Steps p.tables e below (T_21.setTop (mkF m 46 #[Lv q1, Zs, Lv q2, Zs, Lv q3, Zs, Lv q4, Zs, Lv q5, Zs, Iv p6, Lv a0, Zs, Lv a1, Zs, Lv a2, Zs, Lv a3, Zs, Lv a4, Zs, Lv a5, Zs, Us, Us, Us, Us, Us, Us, Us, Us, Us, Us, Us, Us, Us, Us, Us, Us, Us, Us, Us, Us, Us, Us, Us, Us, Us, Us, Us, Us, Us, Us, Us] [(.long (q2 <<< ((13 : Int32) &&& 0x3f).toInt64))])) tt_ → Steps p.tables e below (T_21.setTop (mkF m 40 #[Lv q1, Zs, Lv q2, Zs, Lv q3, Zs, Lv q4, Zs, Lv q5, Zs, Iv p6, Lv a0, Zs, Lv a1, Zs, Lv a2, Zs, Lv a3, Zs, Lv a4, Zs, Us, Us, Us, Us, Us, Us, Us, Us, Us, Us, Us, Us, Us, Us, Us, Us, Us, Us, Us, Us, Us, Us, Us, Us, Us, Us, Us, Us, Us, Us, Us, Us, Us] [(.long a5)])) tt_ := by
    intro tt_ kt_
    refine XS.lstore X_21.here hEX rfl (hb hBY at_40) rfl (l' := #[Lv q1, Zs, Lv q2, Zs, Lv q3, Zs, Lv q4, Zs, Lv q5, Zs, Iv p6, Lv a0, Zs, Lv a1, Zs, Lv a2, Zs, Lv a3, Zs, Lv a4, Zs, Lv a5, Zs, Us, Us, Us, Us, Us, Us, Us, Us, Us, Us, Us, Us, Us, Us, Us, Us, Us, Us, Us, Us, Us, Us, Us, Us, Us, Us, Us, Us, Us, Us, Us]) rfl ?_
    show Steps p.tables e below (T_21.setTop (mkF m 42 #[Lv q1, Zs, Lv q2, Zs, Lv q3, Zs, Lv q4, Zs, Lv q5, Zs, Iv p6, Lv a0, Zs, Lv a1, Zs, Lv a2, Zs, Lv a3, Zs, Lv a4, Zs, Lv a5, Zs, Us, Us, Us, Us, Us, Us, Us, Us, Us, Us, Us, Us, Us, Us, Us, Us, Us, Us, Us, Us, Us, Us, Us, Us, Us, Us, Us, Us, Us, Us, Us] [])) tt_
    refine XS.lloadN X_21.here hEX rfl (hb hBY at_42) rfl ?_
    show Steps p.tables e below (T_21.setTop (mkF m 43 #[Lv q1, Zs, Lv q2, Zs, Lv q3, Zs, Lv q4, Zs, Lv q5, Zs, Iv p6, Lv a0, Zs, Lv a1, Zs, Lv a2, Zs, Lv a3, Zs, Lv a4, Zs, Lv a5, Zs, Us, Us, Us, Us, Us, Us, Us, Us, Us, Us, Us, Us, Us, Us, Us, Us, Us, Us, Us, Us, Us, Us, Us, Us, Us, Us, Us, Us, Us, Us, Us] [(.long q2)])) tt_
    refine XS.bipush X_21.here hEX rfl (hb hBY at_43) ?_
    show Steps p.tables e below (T_21.setTop (mkF m 45 #[Lv q1, Zs, Lv q2, Zs, Lv q3, Zs, Lv q4, Zs, Lv q5, Zs, Iv p6, Lv a0, Zs, Lv a1, Zs, Lv a2, Zs, Lv a3, Zs, Lv a4, Zs, Lv a5, Zs, Us, Us, Us, Us, Us, Us, Us, Us, Us, Us, Us, Us, Us, Us, Us, Us, Us, Us, Us, Us, Us, Us, Us, Us, Us, Us, Us, Us, Us, Us, Us] [(.int (13 : Int32)), (.long q2)])) tt_
    refine XS.lshl X_21.here hEX rfl (hb hBY at_45) rfl ?_
    exact kt_
  refine Done.pre sg_22 ?_
  obtain ⟨_, _, ⟨T_23, L_23, k_23, n_23⟩, -, X_23, ⟨Lc_23, hQ_23, l_23, y_23, z_23⟩, st_23⟩ := Jvm.LawKit.callS X_21 hEX (y := (⟨"com/example/guard3/guard3/P384FieldSubtractPinLaw", "lim", "(J)J"⟩ : MethodName)) hOW (mvT hZW (hw _ (List.mem_of_getElem? (i := 0) rfl))) (mvT hZW (hw _ (List.mem_of_getElem? (i := 1) rfl))) (mvT hZW (hw _ (List.mem_of_getElem? (i := 2) rfl))) (mvT hZW (hw _ (List.mem_of_getElem? (i := 3) rfl))) (by decide) (backOf (W := 0) (rm_lim l Z aZ hw [] (q2 <<< ((13 : Int32) &&& 0x3f).toInt64) h_14 n0 (Nat.le_trans Z0 K__19.1) ) hZW (hw _ (List.mem_of_getElem? (i := 3) rfl)) (hw _ (List.mem_of_getElem? (i := 2) rfl)) (by decide) (by decide)) (g := (mkF m 46 #[Lv q1, Zs, Lv q2, Zs, Lv q3, Zs, Lv q4, Zs, Lv q5, Zs, Iv p6, Lv a0, Zs, Lv a1, Zs, Lv a2, Zs, Lv a3, Zs, Lv a4, Zs, Lv a5, Zs, Us, Us, Us, Us, Us, Us, Us, Us, Us, Us, Us, Us, Us, Us, Us, Us, Us, Us, Us, Us, Us, Us, Us, Us, Us, Us, Us, Us, Us, Us, Us] [(.long (q2 <<< ((13 : Int32) &&& 0x3f).toInt64))])) rfl (by rw [hMX]; rfl) (argsL := [(.long (q2 <<< ((13 : Int32) &&& 0x3f).toInt64))]) (rest := []) (lenOf pd__J_J_1 rfl) rfl (by show 2 * 0 + _ ≤ _; exact Nat.le_of_eq rfl) (hb hBY at_46) (fun _ _ => ⟨rfl, e_21, (by decide : 0 + 0 ≤ _), (by decide : 0 + 0 ≤ _)⟩)
  dsimp only [Pt.U, Pt.locs, Pt.cells, Pt.slots] at X_23 l_23 y_23 z_23 st_23 hQ_23
  subst l_23 y_23 z_23
  obtain ⟨a6, rfl, N_23q, e_23, hq_23_0⟩ := hQ_23
  have N_23 := Fr.app N_21 N_23q
  refine Done.pre (fun _ k_ => st_23 _ k_) ?_
  show Done _ _ _ _ _ _ _ (T_23.setTop (mkF m 49 #[Lv q1, Zs, Lv q2, Zs, Lv q3, Zs, Lv q4, Zs, Lv q5, Zs, Iv p6, Lv a0, Zs, Lv a1, Zs, Lv a2, Zs, Lv a3, Zs, Lv a4, Zs, Lv a5, Zs, Us, Us, Us, Us, Us, Us, Us, Us, Us, Us, Us, Us, Us, Us, Us, Us, Us, Us, Us, Us, Us, Us, Us, Us, Us, Us, Us, Us, Us, Us, Us] [(.long a6)]))
  have ha6 := hq_23_0
  have sg_24 : ∀ tt_, Steps p.tables e below (T_23.setTop (mkF m 56 #[Lv q1, Zs, Lv q2, Zs, Lv q3, Zs, Lv q4, Zs, Lv q5, Zs, Iv p6, Lv a0, Zs, Lv a1, Zs, Lv a2, Zs, Lv a3, Zs, Lv a4, Zs, Lv a5, Zs, Lv a6, Zs, Us, Us, Us, Us, Us, Us, Us, Us, Us, Us, Us, Us, Us, Us, Us, Us, Us, Us, Us, Us, Us, Us, Us, Us, Us, Us, Us, Us, Us] [(.long (q3 <<< ((13 : Int32) &&& 0x3f).toInt64))])) tt_ → Steps p.tables e below (T_23.setTop (mkF m 49 #[Lv q1, Zs, Lv q2, Zs, Lv q3, Zs, Lv q4, Zs, Lv q5, Zs, Iv p6, Lv a0, Zs, Lv a1, Zs, Lv a2, Zs, Lv a3, Zs, Lv a4, Zs, Lv a5, Zs, Us, Us, Us, Us, Us, Us, Us, Us, Us, Us, Us, Us, Us, Us, Us, Us, Us, Us, Us, Us, Us, Us, Us, Us, Us, Us, Us, Us, Us, Us, Us] [(.long a6)])) tt_ := by
    intro tt_ kt_
    refine XS.lstore X_23.here hEX rfl (hb hBY at_49) rfl (l' := #[Lv q1, Zs, Lv q2, Zs, Lv q3, Zs, Lv q4, Zs, Lv q5, Zs, Iv p6, Lv a0, Zs, Lv a1, Zs, Lv a2, Zs, Lv a3, Zs, Lv a4, Zs, Lv a5, Zs, Lv a6, Zs, Us, Us, Us, Us, Us, Us, Us, Us, Us, Us, Us, Us, Us, Us, Us, Us, Us, Us, Us, Us, Us, Us, Us, Us, Us, Us, Us, Us, Us]) rfl ?_
    show Steps p.tables e below (T_23.setTop (mkF m 51 #[Lv q1, Zs, Lv q2, Zs, Lv q3, Zs, Lv q4, Zs, Lv q5, Zs, Iv p6, Lv a0, Zs, Lv a1, Zs, Lv a2, Zs, Lv a3, Zs, Lv a4, Zs, Lv a5, Zs, Lv a6, Zs, Us, Us, Us, Us, Us, Us, Us, Us, Us, Us, Us, Us, Us, Us, Us, Us, Us, Us, Us, Us, Us, Us, Us, Us, Us, Us, Us, Us, Us] [])) tt_
    refine XS.lload X_23.here hEX rfl (hb hBY at_51) rfl ?_
    show Steps p.tables e below (T_23.setTop (mkF m 53 #[Lv q1, Zs, Lv q2, Zs, Lv q3, Zs, Lv q4, Zs, Lv q5, Zs, Iv p6, Lv a0, Zs, Lv a1, Zs, Lv a2, Zs, Lv a3, Zs, Lv a4, Zs, Lv a5, Zs, Lv a6, Zs, Us, Us, Us, Us, Us, Us, Us, Us, Us, Us, Us, Us, Us, Us, Us, Us, Us, Us, Us, Us, Us, Us, Us, Us, Us, Us, Us, Us, Us] [(.long q3)])) tt_
    refine XS.bipush X_23.here hEX rfl (hb hBY at_53) ?_
    show Steps p.tables e below (T_23.setTop (mkF m 55 #[Lv q1, Zs, Lv q2, Zs, Lv q3, Zs, Lv q4, Zs, Lv q5, Zs, Iv p6, Lv a0, Zs, Lv a1, Zs, Lv a2, Zs, Lv a3, Zs, Lv a4, Zs, Lv a5, Zs, Lv a6, Zs, Us, Us, Us, Us, Us, Us, Us, Us, Us, Us, Us, Us, Us, Us, Us, Us, Us, Us, Us, Us, Us, Us, Us, Us, Us, Us, Us, Us, Us] [(.int (13 : Int32)), (.long q3)])) tt_
    refine XS.lshl X_23.here hEX rfl (hb hBY at_55) rfl ?_
    exact kt_
  refine Done.pre sg_24 ?_
  obtain ⟨_, _, ⟨T_25, L_25, k_25, n_25⟩, -, X_25, ⟨Lc_25, hQ_25, l_25, y_25, z_25⟩, st_25⟩ := Jvm.LawKit.callS X_23 hEX (y := (⟨"com/example/guard3/guard3/P384FieldSubtractPinLaw", "lim", "(J)J"⟩ : MethodName)) hOW (mvT hZW (hw _ (List.mem_of_getElem? (i := 0) rfl))) (mvT hZW (hw _ (List.mem_of_getElem? (i := 1) rfl))) (mvT hZW (hw _ (List.mem_of_getElem? (i := 2) rfl))) (mvT hZW (hw _ (List.mem_of_getElem? (i := 3) rfl))) (by decide) (backOf (W := 0) (rm_lim l Z aZ hw [] (q3 <<< ((13 : Int32) &&& 0x3f).toInt64) h_14 n0 (Nat.le_trans Z0 K__19.1) ) hZW (hw _ (List.mem_of_getElem? (i := 3) rfl)) (hw _ (List.mem_of_getElem? (i := 2) rfl)) (by decide) (by decide)) (g := (mkF m 56 #[Lv q1, Zs, Lv q2, Zs, Lv q3, Zs, Lv q4, Zs, Lv q5, Zs, Iv p6, Lv a0, Zs, Lv a1, Zs, Lv a2, Zs, Lv a3, Zs, Lv a4, Zs, Lv a5, Zs, Lv a6, Zs, Us, Us, Us, Us, Us, Us, Us, Us, Us, Us, Us, Us, Us, Us, Us, Us, Us, Us, Us, Us, Us, Us, Us, Us, Us, Us, Us, Us, Us] [(.long (q3 <<< ((13 : Int32) &&& 0x3f).toInt64))])) rfl (by rw [hMX]; rfl) (argsL := [(.long (q3 <<< ((13 : Int32) &&& 0x3f).toInt64))]) (rest := []) (lenOf pd__J_J_1 rfl) rfl (by show 2 * 0 + _ ≤ _; exact Nat.le_of_eq rfl) (hb hBY at_56) (fun _ _ => ⟨rfl, e_23, (by decide : 0 + 0 ≤ _), (by decide : 0 + 0 ≤ _)⟩)
  dsimp only [Pt.U, Pt.locs, Pt.cells, Pt.slots] at X_25 l_25 y_25 z_25 st_25 hQ_25
  subst l_25 y_25 z_25
  obtain ⟨a7, rfl, N_25q, e_25, hq_25_0⟩ := hQ_25
  have N_25 := Fr.app N_23 N_25q
  refine Done.pre (fun _ k_ => st_25 _ k_) ?_
  show Done _ _ _ _ _ _ _ (T_25.setTop (mkF m 59 #[Lv q1, Zs, Lv q2, Zs, Lv q3, Zs, Lv q4, Zs, Lv q5, Zs, Iv p6, Lv a0, Zs, Lv a1, Zs, Lv a2, Zs, Lv a3, Zs, Lv a4, Zs, Lv a5, Zs, Lv a6, Zs, Us, Us, Us, Us, Us, Us, Us, Us, Us, Us, Us, Us, Us, Us, Us, Us, Us, Us, Us, Us, Us, Us, Us, Us, Us, Us, Us, Us, Us] [(.long a7)]))
  have ha7 := hq_25_0
  have sg_26 : ∀ tt_, Steps p.tables e below (T_25.setTop (mkF m 61 #[Lv q1, Zs, Lv q2, Zs, Lv q3, Zs, Lv q4, Zs, Lv q5, Zs, Iv p6, Lv a0, Zs, Lv a1, Zs, Lv a2, Zs, Lv a3, Zs, Lv a4, Zs, Lv a5, Zs, Lv a6, Zs, Lv a7, Zs, Us, Us, Us, Us, Us, Us, Us, Us, Us, Us, Us, Us, Us, Us, Us, Us, Us, Us, Us, Us, Us, Us, Us, Us, Us, Us, Us] [])) tt_ → Steps p.tables e below (T_25.setTop (mkF m 59 #[Lv q1, Zs, Lv q2, Zs, Lv q3, Zs, Lv q4, Zs, Lv q5, Zs, Iv p6, Lv a0, Zs, Lv a1, Zs, Lv a2, Zs, Lv a3, Zs, Lv a4, Zs, Lv a5, Zs, Lv a6, Zs, Us, Us, Us, Us, Us, Us, Us, Us, Us, Us, Us, Us, Us, Us, Us, Us, Us, Us, Us, Us, Us, Us, Us, Us, Us, Us, Us, Us, Us] [(.long a7)])) tt_ := by
    intro tt_ kt_
    refine XS.lstore X_25.here hEX rfl (hb hBY at_59) rfl (l' := #[Lv q1, Zs, Lv q2, Zs, Lv q3, Zs, Lv q4, Zs, Lv q5, Zs, Iv p6, Lv a0, Zs, Lv a1, Zs, Lv a2, Zs, Lv a3, Zs, Lv a4, Zs, Lv a5, Zs, Lv a6, Zs, Lv a7, Zs, Us, Us, Us, Us, Us, Us, Us, Us, Us, Us, Us, Us, Us, Us, Us, Us, Us, Us, Us, Us, Us, Us, Us, Us, Us, Us, Us]) rfl ?_
    exact kt_
  refine Done.pre sg_26 ?_
  show Done _ _ _ _ _ _ _ (T_25.setTop (mkF m 61 #[Lv q1, Zs, Lv q2, Zs, Lv q3, Zs, Lv q4, Zs, Lv q5, Zs, Iv p6, Lv a0, Zs, Lv a1, Zs, Lv a2, Zs, Lv a3, Zs, Lv a4, Zs, Lv a5, Zs, Lv a6, Zs, Lv a7, Zs, Us, Us, Us, Us, Us, Us, Us, Us, Us, Us, Us, Us, Us, Us, Us, Us, Us, Us, Us, Us, Us, Us, Us, Us, Us, Us, Us] []))
  exact rm0_j61 l Z aZ hw ws q1 q2 q3 q4 q5 p6 h0 n0 Z0 p e s m below meth cO hEX hBY hMX hOW hNM hLK hRT hZW a0 a1 a2 a3 a4 a5 a6 a7 T_25 h_14 _ X_25 e_25 N_25 K__19 ha0 ha1 ha2 ha3 ha4 ha5 ha6 ha7
set_option maxRecDepth 65536 in
set_option maxHeartbeats 40000000 in
theorem rm0 (l : Launch) (Z : State) (aZ : Array Value) (hw : ∀ d ∈ tables_1, d.before aZ Z = true) (ws : List Jvm.Cond) (q1 : Int64) (q2 : Int64) (q3 : Int64) (q4 : Int64) (q5 : Int64) (p6 : Int32) (h0 : Heap) (n0 : Nat) (Z0 : n0 ≤ h0.size) :
    MetFree l x (head1 (Jvm.Cond.code x code maxLocals ret :: ws) room_1) (fun a_ U_ => a_ = #[(.long q1), (.long q2), (.long q3), (.long q4), (.long q5), (.int p6)] ∧ Z.Warmed39 U_.vm ∧ U_.heap = h0) (fun _ _ _ _ _ => True) (fun _ U_ o_ U2_ => ∃ v_ L_, o_ = .returned v_ ∧ Qrm0 Z q1 q2 q3 q4 q5 p6 h0 n0 v_ U2_.heap L_ ∧ FrameEnd U_ o_ U2_ L_ room_1.cells room_1.slots) := by
  refine MetFree.of_bodySF (plainFor_of_name pn_com_example_guard3_guard3_P384FieldSubtractPinLaw) hisR ?_
  intro p e s m args below meth cO s₁ Bd hml0 hP hK
  obtain ⟨rfl, hZW, hh⟩ := hP
  have hEX := Bd.exec
  have hBY := Bd.bytes
  have hMX : cO.maxLocals = 54 := hml0
  have hOW : s.vm.findClass "com/example/guard3/guard3/P384FieldSubtractPinLaw" = some m.cls := findClass_of_methodNamed Bd.named
  have hNM := (name_of_methodNamed Bd.named Bd.method).1
  have hLK := Bd.notSynchronized
  have hRT := Bd.returns
  have X0 : Stand p l e room_1 s m #[(.long q1), (.long q2), (.long q3), (.long q4), (.long q5), (.int p6)] below meth cO s₁ [] 0 0 := Stand.of_body Bd
  have e0 : s₁.heap = h0 := by rw [← hh, Bd.state]; rfl
  have N0 := Fr.nil n0
  have K0 : Keep h0 h0 [] := Keep.refl _ _
  show Done p e below s (Qrm0 Z q1 q2 q3 q4 q5 p6 h0 n0) room_1.cells room_1.slots (s₁.setTop (entryFrame m #[(.long q1), (.long q2), (.long q3), (.long q4), (.long q5), (.int p6)] maxLocals))
  refine Done.pre (fun t_ k_ => castTop (ef_rm0 m q1 q2 q3 q4 q5 p6) k_) ?_
  show Done _ _ _ _ _ _ _ (s₁.setTop (mkF m 0 #[Lv q1, Zs, Lv q2, Zs, Lv q3, Zs, Lv q4, Zs, Lv q5, Zs, Iv p6, Us, Us, Us, Us, Us, Us, Us, Us, Us, Us, Us, Us, Us, Us, Us, Us, Us, Us, Us, Us, Us, Us, Us, Us, Us, Us, Us, Us, Us, Us, Us, Us, Us, Us, Us, Us, Us, Us, Us, Us, Us, Us, Us] []))
  have sg_1 : ∀ tt_, Steps p.tables e below (s₁.setTop (mkF m 1 #[Lv q1, Zs, Lv q2, Zs, Lv q3, Zs, Lv q4, Zs, Lv q5, Zs, Iv p6, Us, Us, Us, Us, Us, Us, Us, Us, Us, Us, Us, Us, Us, Us, Us, Us, Us, Us, Us, Us, Us, Us, Us, Us, Us, Us, Us, Us, Us, Us, Us, Us, Us, Us, Us, Us, Us, Us, Us, Us, Us, Us, Us] [(.long q1)])) tt_ → Steps p.tables e below (s₁.setTop (mkF m 0 #[Lv q1, Zs, Lv q2, Zs, Lv q3, Zs, Lv q4, Zs, Lv q5, Zs, Iv p6, Us, Us, Us, Us, Us, Us, Us, Us, Us, Us, Us, Us, Us, Us, Us, Us, Us, Us, Us, Us, Us, Us, Us, Us, Us, Us, Us, Us, Us, Us, Us, Us, Us, Us, Us, Us, Us, Us, Us, Us, Us, Us, Us] [])) tt_ := by
    intro tt_ kt_
    refine XS.lloadN X0.here hEX rfl (hb hBY at_0) rfl ?_
    exact kt_
  refine Done.pre sg_1 ?_
  obtain ⟨_, _, ⟨T_2, L_2, k_2, n_2⟩, -, X_2, ⟨Lc_2, hQ_2, l_2, y_2, z_2⟩, st_2⟩ := Jvm.LawKit.callS X0 hEX (y := (⟨"com/example/guard3/guard3/P384FieldSubtractPinLaw", "lim", "(J)J"⟩ : MethodName)) hOW (mvT hZW (hw _ (List.mem_of_getElem? (i := 0) rfl))) (mvT hZW (hw _ (List.mem_of_getElem? (i := 1) rfl))) (mvT hZW (hw _ (List.mem_of_getElem? (i := 2) rfl))) (mvT hZW (hw _ (List.mem_of_getElem? (i := 3) rfl))) (by decide) (backOf (W := 0) (rm_lim l Z aZ hw [] q1 h0 n0 (Nat.le_trans Z0 K0.1) ) hZW (hw _ (List.mem_of_getElem? (i := 3) rfl)) (hw _ (List.mem_of_getElem? (i := 2) rfl)) (by decide) (by decide)) (g := (mkF m 1 #[Lv q1, Zs, Lv q2, Zs, Lv q3, Zs, Lv q4, Zs, Lv q5, Zs, Iv p6, Us, Us, Us, Us, Us, Us, Us, Us, Us, Us, Us, Us, Us, Us, Us, Us, Us, Us, Us, Us, Us, Us, Us, Us, Us, Us, Us, Us, Us, Us, Us, Us, Us, Us, Us, Us, Us, Us, Us, Us, Us, Us, Us] [(.long q1)])) rfl (by rw [hMX]; rfl) (argsL := [(.long q1)]) (rest := []) (lenOf pd__J_J_1 rfl) rfl (by show 2 * 0 + _ ≤ _; exact Nat.le_of_eq rfl) (hb hBY at_1) (fun _ _ => ⟨rfl, e0, (by decide : 0 + 0 ≤ _), (by decide : 0 + 0 ≤ _)⟩)
  dsimp only [Pt.U, Pt.locs, Pt.cells, Pt.slots] at X_2 l_2 y_2 z_2 st_2 hQ_2
  subst l_2 y_2 z_2
  obtain ⟨a0, rfl, N_2q, e_2, hq_2_0⟩ := hQ_2
  have N_2 := Fr.app N0 N_2q
  refine Done.pre (fun _ k_ => st_2 _ k_) ?_
  show Done _ _ _ _ _ _ _ (T_2.setTop (mkF m 4 #[Lv q1, Zs, Lv q2, Zs, Lv q3, Zs, Lv q4, Zs, Lv q5, Zs, Iv p6, Us, Us, Us, Us, Us, Us, Us, Us, Us, Us, Us, Us, Us, Us, Us, Us, Us, Us, Us, Us, Us, Us, Us, Us, Us, Us, Us, Us, Us, Us, Us, Us, Us, Us, Us, Us, Us, Us, Us, Us, Us, Us, Us] [(.long a0)]))
  have ha0 := hq_2_0
  have sg_3 : ∀ tt_, Steps p.tables e below (T_2.setTop (mkF m 7 #[Lv q1, Zs, Lv q2, Zs, Lv q3, Zs, Lv q4, Zs, Lv q5, Zs, Iv p6, Lv a0, Zs, Us, Us, Us, Us, Us, Us, Us, Us, Us, Us, Us, Us, Us, Us, Us, Us, Us, Us, Us, Us, Us, Us, Us, Us, Us, Us, Us, Us, Us, Us, Us, Us, Us, Us, Us, Us, Us, Us, Us, Us, Us] [(.long q2)])) tt_ → Steps p.tables e below (T_2.setTop (mkF m 4 #[Lv q1, Zs, Lv q2, Zs, Lv q3, Zs, Lv q4, Zs, Lv q5, Zs, Iv p6, Us, Us, Us, Us, Us, Us, Us, Us, Us, Us, Us, Us, Us, Us, Us, Us, Us, Us, Us, Us, Us, Us, Us, Us, Us, Us, Us, Us, Us, Us, Us, Us, Us, Us, Us, Us, Us, Us, Us, Us, Us, Us, Us] [(.long a0)])) tt_ := by
    intro tt_ kt_
    refine XS.lstore X_2.here hEX rfl (hb hBY at_4) rfl (l' := #[Lv q1, Zs, Lv q2, Zs, Lv q3, Zs, Lv q4, Zs, Lv q5, Zs, Iv p6, Lv a0, Zs, Us, Us, Us, Us, Us, Us, Us, Us, Us, Us, Us, Us, Us, Us, Us, Us, Us, Us, Us, Us, Us, Us, Us, Us, Us, Us, Us, Us, Us, Us, Us, Us, Us, Us, Us, Us, Us, Us, Us, Us, Us]) rfl ?_
    show Steps p.tables e below (T_2.setTop (mkF m 6 #[Lv q1, Zs, Lv q2, Zs, Lv q3, Zs, Lv q4, Zs, Lv q5, Zs, Iv p6, Lv a0, Zs, Us, Us, Us, Us, Us, Us, Us, Us, Us, Us, Us, Us, Us, Us, Us, Us, Us, Us, Us, Us, Us, Us, Us, Us, Us, Us, Us, Us, Us, Us, Us, Us, Us, Us, Us, Us, Us, Us, Us, Us, Us] [])) tt_
    refine XS.lloadN X_2.here hEX rfl (hb hBY at_6) rfl ?_
    exact kt_
  refine Done.pre sg_3 ?_
  obtain ⟨_, _, ⟨T_4, L_4, k_4, n_4⟩, -, X_4, ⟨Lc_4, hQ_4, l_4, y_4, z_4⟩, st_4⟩ := Jvm.LawKit.callS X_2 hEX (y := (⟨"com/example/guard3/guard3/P384FieldSubtractPinLaw", "lim", "(J)J"⟩ : MethodName)) hOW (mvT hZW (hw _ (List.mem_of_getElem? (i := 0) rfl))) (mvT hZW (hw _ (List.mem_of_getElem? (i := 1) rfl))) (mvT hZW (hw _ (List.mem_of_getElem? (i := 2) rfl))) (mvT hZW (hw _ (List.mem_of_getElem? (i := 3) rfl))) (by decide) (backOf (W := 0) (rm_lim l Z aZ hw [] q2 h0 n0 (Nat.le_trans Z0 K0.1) ) hZW (hw _ (List.mem_of_getElem? (i := 3) rfl)) (hw _ (List.mem_of_getElem? (i := 2) rfl)) (by decide) (by decide)) (g := (mkF m 7 #[Lv q1, Zs, Lv q2, Zs, Lv q3, Zs, Lv q4, Zs, Lv q5, Zs, Iv p6, Lv a0, Zs, Us, Us, Us, Us, Us, Us, Us, Us, Us, Us, Us, Us, Us, Us, Us, Us, Us, Us, Us, Us, Us, Us, Us, Us, Us, Us, Us, Us, Us, Us, Us, Us, Us, Us, Us, Us, Us, Us, Us, Us, Us] [(.long q2)])) rfl (by rw [hMX]; rfl) (argsL := [(.long q2)]) (rest := []) (lenOf pd__J_J_1 rfl) rfl (by show 2 * 0 + _ ≤ _; exact Nat.le_of_eq rfl) (hb hBY at_7) (fun _ _ => ⟨rfl, e_2, (by decide : 0 + 0 ≤ _), (by decide : 0 + 0 ≤ _)⟩)
  dsimp only [Pt.U, Pt.locs, Pt.cells, Pt.slots] at X_4 l_4 y_4 z_4 st_4 hQ_4
  subst l_4 y_4 z_4
  obtain ⟨a1, rfl, N_4q, e_4, hq_4_0⟩ := hQ_4
  have N_4 := Fr.app N_2 N_4q
  refine Done.pre (fun _ k_ => st_4 _ k_) ?_
  show Done _ _ _ _ _ _ _ (T_4.setTop (mkF m 10 #[Lv q1, Zs, Lv q2, Zs, Lv q3, Zs, Lv q4, Zs, Lv q5, Zs, Iv p6, Lv a0, Zs, Us, Us, Us, Us, Us, Us, Us, Us, Us, Us, Us, Us, Us, Us, Us, Us, Us, Us, Us, Us, Us, Us, Us, Us, Us, Us, Us, Us, Us, Us, Us, Us, Us, Us, Us, Us, Us, Us, Us, Us, Us] [(.long a1)]))
  have ha1 := hq_4_0
  have sg_5 : ∀ tt_, Steps p.tables e below (T_4.setTop (mkF m 14 #[Lv q1, Zs, Lv q2, Zs, Lv q3, Zs, Lv q4, Zs, Lv q5, Zs, Iv p6, Lv a0, Zs, Lv a1, Zs, Us, Us, Us, Us, Us, Us, Us, Us, Us, Us, Us, Us, Us, Us, Us, Us, Us, Us, Us, Us, Us, Us, Us, Us, Us, Us, Us, Us, Us, Us, Us, Us, Us, Us, Us, Us, Us, Us, Us] [(.long q3)])) tt_ → Steps p.tables e below (T_4.setTop (mkF m 10 #[Lv q1, Zs, Lv q2, Zs, Lv q3, Zs, Lv q4, Zs, Lv q5, Zs, Iv p6, Lv a0, Zs, Us, Us, Us, Us, Us, Us, Us, Us, Us, Us, Us, Us, Us, Us, Us, Us, Us, Us, Us, Us, Us, Us, Us, Us, Us, Us, Us, Us, Us, Us, Us, Us, Us, Us, Us, Us, Us, Us, Us, Us, Us] [(.long a1)])) tt_ := by
    intro tt_ kt_
    refine XS.lstore X_4.here hEX rfl (hb hBY at_10) rfl (l' := #[Lv q1, Zs, Lv q2, Zs, Lv q3, Zs, Lv q4, Zs, Lv q5, Zs, Iv p6, Lv a0, Zs, Lv a1, Zs, Us, Us, Us, Us, Us, Us, Us, Us, Us, Us, Us, Us, Us, Us, Us, Us, Us, Us, Us, Us, Us, Us, Us, Us, Us, Us, Us, Us, Us, Us, Us, Us, Us, Us, Us, Us, Us, Us, Us]) rfl ?_
    show Steps p.tables e below (T_4.setTop (mkF m 12 #[Lv q1, Zs, Lv q2, Zs, Lv q3, Zs, Lv q4, Zs, Lv q5, Zs, Iv p6, Lv a0, Zs, Lv a1, Zs, Us, Us, Us, Us, Us, Us, Us, Us, Us, Us, Us, Us, Us, Us, Us, Us, Us, Us, Us, Us, Us, Us, Us, Us, Us, Us, Us, Us, Us, Us, Us, Us, Us, Us, Us, Us, Us, Us, Us] [])) tt_
    refine XS.lload X_4.here hEX rfl (hb hBY at_12) rfl ?_
    exact kt_
  refine Done.pre sg_5 ?_
  obtain ⟨_, _, ⟨T_6, L_6, k_6, n_6⟩, -, X_6, ⟨Lc_6, hQ_6, l_6, y_6, z_6⟩, st_6⟩ := Jvm.LawKit.callS X_4 hEX (y := (⟨"com/example/guard3/guard3/P384FieldSubtractPinLaw", "lim", "(J)J"⟩ : MethodName)) hOW (mvT hZW (hw _ (List.mem_of_getElem? (i := 0) rfl))) (mvT hZW (hw _ (List.mem_of_getElem? (i := 1) rfl))) (mvT hZW (hw _ (List.mem_of_getElem? (i := 2) rfl))) (mvT hZW (hw _ (List.mem_of_getElem? (i := 3) rfl))) (by decide) (backOf (W := 0) (rm_lim l Z aZ hw [] q3 h0 n0 (Nat.le_trans Z0 K0.1) ) hZW (hw _ (List.mem_of_getElem? (i := 3) rfl)) (hw _ (List.mem_of_getElem? (i := 2) rfl)) (by decide) (by decide)) (g := (mkF m 14 #[Lv q1, Zs, Lv q2, Zs, Lv q3, Zs, Lv q4, Zs, Lv q5, Zs, Iv p6, Lv a0, Zs, Lv a1, Zs, Us, Us, Us, Us, Us, Us, Us, Us, Us, Us, Us, Us, Us, Us, Us, Us, Us, Us, Us, Us, Us, Us, Us, Us, Us, Us, Us, Us, Us, Us, Us, Us, Us, Us, Us, Us, Us, Us, Us] [(.long q3)])) rfl (by rw [hMX]; rfl) (argsL := [(.long q3)]) (rest := []) (lenOf pd__J_J_1 rfl) rfl (by show 2 * 0 + _ ≤ _; exact Nat.le_of_eq rfl) (hb hBY at_14) (fun _ _ => ⟨rfl, e_4, (by decide : 0 + 0 ≤ _), (by decide : 0 + 0 ≤ _)⟩)
  dsimp only [Pt.U, Pt.locs, Pt.cells, Pt.slots] at X_6 l_6 y_6 z_6 st_6 hQ_6
  subst l_6 y_6 z_6
  obtain ⟨a2, rfl, N_6q, e_6, hq_6_0⟩ := hQ_6
  have N_6 := Fr.app N_4 N_6q
  refine Done.pre (fun _ k_ => st_6 _ k_) ?_
  show Done _ _ _ _ _ _ _ (T_6.setTop (mkF m 17 #[Lv q1, Zs, Lv q2, Zs, Lv q3, Zs, Lv q4, Zs, Lv q5, Zs, Iv p6, Lv a0, Zs, Lv a1, Zs, Us, Us, Us, Us, Us, Us, Us, Us, Us, Us, Us, Us, Us, Us, Us, Us, Us, Us, Us, Us, Us, Us, Us, Us, Us, Us, Us, Us, Us, Us, Us, Us, Us, Us, Us, Us, Us, Us, Us] [(.long a2)]))
  have ha2 := hq_6_0
  have sg_7 : ∀ tt_, Steps p.tables e below (T_6.setTop (mkF m 21 #[Lv q1, Zs, Lv q2, Zs, Lv q3, Zs, Lv q4, Zs, Lv q5, Zs, Iv p6, Lv a0, Zs, Lv a1, Zs, Lv a2, Zs, Us, Us, Us, Us, Us, Us, Us, Us, Us, Us, Us, Us, Us, Us, Us, Us, Us, Us, Us, Us, Us, Us, Us, Us, Us, Us, Us, Us, Us, Us, Us, Us, Us, Us, Us, Us, Us] [(.long q4)])) tt_ → Steps p.tables e below (T_6.setTop (mkF m 17 #[Lv q1, Zs, Lv q2, Zs, Lv q3, Zs, Lv q4, Zs, Lv q5, Zs, Iv p6, Lv a0, Zs, Lv a1, Zs, Us, Us, Us, Us, Us, Us, Us, Us, Us, Us, Us, Us, Us, Us, Us, Us, Us, Us, Us, Us, Us, Us, Us, Us, Us, Us, Us, Us, Us, Us, Us, Us, Us, Us, Us, Us, Us, Us, Us] [(.long a2)])) tt_ := by
    intro tt_ kt_
    refine XS.lstore X_6.here hEX rfl (hb hBY at_17) rfl (l' := #[Lv q1, Zs, Lv q2, Zs, Lv q3, Zs, Lv q4, Zs, Lv q5, Zs, Iv p6, Lv a0, Zs, Lv a1, Zs, Lv a2, Zs, Us, Us, Us, Us, Us, Us, Us, Us, Us, Us, Us, Us, Us, Us, Us, Us, Us, Us, Us, Us, Us, Us, Us, Us, Us, Us, Us, Us, Us, Us, Us, Us, Us, Us, Us, Us, Us]) rfl ?_
    show Steps p.tables e below (T_6.setTop (mkF m 19 #[Lv q1, Zs, Lv q2, Zs, Lv q3, Zs, Lv q4, Zs, Lv q5, Zs, Iv p6, Lv a0, Zs, Lv a1, Zs, Lv a2, Zs, Us, Us, Us, Us, Us, Us, Us, Us, Us, Us, Us, Us, Us, Us, Us, Us, Us, Us, Us, Us, Us, Us, Us, Us, Us, Us, Us, Us, Us, Us, Us, Us, Us, Us, Us, Us, Us] [])) tt_
    refine XS.lload X_6.here hEX rfl (hb hBY at_19) rfl ?_
    exact kt_
  refine Done.pre sg_7 ?_
  obtain ⟨_, _, ⟨T_8, L_8, k_8, n_8⟩, -, X_8, ⟨Lc_8, hQ_8, l_8, y_8, z_8⟩, st_8⟩ := Jvm.LawKit.callS X_6 hEX (y := (⟨"com/example/guard3/guard3/P384FieldSubtractPinLaw", "lim", "(J)J"⟩ : MethodName)) hOW (mvT hZW (hw _ (List.mem_of_getElem? (i := 0) rfl))) (mvT hZW (hw _ (List.mem_of_getElem? (i := 1) rfl))) (mvT hZW (hw _ (List.mem_of_getElem? (i := 2) rfl))) (mvT hZW (hw _ (List.mem_of_getElem? (i := 3) rfl))) (by decide) (backOf (W := 0) (rm_lim l Z aZ hw [] q4 h0 n0 (Nat.le_trans Z0 K0.1) ) hZW (hw _ (List.mem_of_getElem? (i := 3) rfl)) (hw _ (List.mem_of_getElem? (i := 2) rfl)) (by decide) (by decide)) (g := (mkF m 21 #[Lv q1, Zs, Lv q2, Zs, Lv q3, Zs, Lv q4, Zs, Lv q5, Zs, Iv p6, Lv a0, Zs, Lv a1, Zs, Lv a2, Zs, Us, Us, Us, Us, Us, Us, Us, Us, Us, Us, Us, Us, Us, Us, Us, Us, Us, Us, Us, Us, Us, Us, Us, Us, Us, Us, Us, Us, Us, Us, Us, Us, Us, Us, Us, Us, Us] [(.long q4)])) rfl (by rw [hMX]; rfl) (argsL := [(.long q4)]) (rest := []) (lenOf pd__J_J_1 rfl) rfl (by show 2 * 0 + _ ≤ _; exact Nat.le_of_eq rfl) (hb hBY at_21) (fun _ _ => ⟨rfl, e_6, (by decide : 0 + 0 ≤ _), (by decide : 0 + 0 ≤ _)⟩)
  dsimp only [Pt.U, Pt.locs, Pt.cells, Pt.slots] at X_8 l_8 y_8 z_8 st_8 hQ_8
  subst l_8 y_8 z_8
  obtain ⟨a3, rfl, N_8q, e_8, hq_8_0⟩ := hQ_8
  have N_8 := Fr.app N_6 N_8q
  refine Done.pre (fun _ k_ => st_8 _ k_) ?_
  show Done _ _ _ _ _ _ _ (T_8.setTop (mkF m 24 #[Lv q1, Zs, Lv q2, Zs, Lv q3, Zs, Lv q4, Zs, Lv q5, Zs, Iv p6, Lv a0, Zs, Lv a1, Zs, Lv a2, Zs, Us, Us, Us, Us, Us, Us, Us, Us, Us, Us, Us, Us, Us, Us, Us, Us, Us, Us, Us, Us, Us, Us, Us, Us, Us, Us, Us, Us, Us, Us, Us, Us, Us, Us, Us, Us, Us] [(.long a3)]))
  have ha3 := hq_8_0
  have sg_9 : ∀ tt_, Steps p.tables e below (T_8.setTop (mkF m 28 #[Lv q1, Zs, Lv q2, Zs, Lv q3, Zs, Lv q4, Zs, Lv q5, Zs, Iv p6, Lv a0, Zs, Lv a1, Zs, Lv a2, Zs, Lv a3, Zs, Us, Us, Us, Us, Us, Us, Us, Us, Us, Us, Us, Us, Us, Us, Us, Us, Us, Us, Us, Us, Us, Us, Us, Us, Us, Us, Us, Us, Us, Us, Us, Us, Us, Us, Us] [(.long q5)])) tt_ → Steps p.tables e below (T_8.setTop (mkF m 24 #[Lv q1, Zs, Lv q2, Zs, Lv q3, Zs, Lv q4, Zs, Lv q5, Zs, Iv p6, Lv a0, Zs, Lv a1, Zs, Lv a2, Zs, Us, Us, Us, Us, Us, Us, Us, Us, Us, Us, Us, Us, Us, Us, Us, Us, Us, Us, Us, Us, Us, Us, Us, Us, Us, Us, Us, Us, Us, Us, Us, Us, Us, Us, Us, Us, Us] [(.long a3)])) tt_ := by
    intro tt_ kt_
    refine XS.lstore X_8.here hEX rfl (hb hBY at_24) rfl (l' := #[Lv q1, Zs, Lv q2, Zs, Lv q3, Zs, Lv q4, Zs, Lv q5, Zs, Iv p6, Lv a0, Zs, Lv a1, Zs, Lv a2, Zs, Lv a3, Zs, Us, Us, Us, Us, Us, Us, Us, Us, Us, Us, Us, Us, Us, Us, Us, Us, Us, Us, Us, Us, Us, Us, Us, Us, Us, Us, Us, Us, Us, Us, Us, Us, Us, Us, Us]) rfl ?_
    show Steps p.tables e below (T_8.setTop (mkF m 26 #[Lv q1, Zs, Lv q2, Zs, Lv q3, Zs, Lv q4, Zs, Lv q5, Zs, Iv p6, Lv a0, Zs, Lv a1, Zs, Lv a2, Zs, Lv a3, Zs, Us, Us, Us, Us, Us, Us, Us, Us, Us, Us, Us, Us, Us, Us, Us, Us, Us, Us, Us, Us, Us, Us, Us, Us, Us, Us, Us, Us, Us, Us, Us, Us, Us, Us, Us] [])) tt_
    refine XS.lload X_8.here hEX rfl (hb hBY at_26) rfl ?_
    exact kt_
  refine Done.pre sg_9 ?_
  obtain ⟨_, _, ⟨T_10, L_10, k_10, n_10⟩, -, X_10, ⟨Lc_10, hQ_10, l_10, y_10, z_10⟩, st_10⟩ := Jvm.LawKit.callS X_8 hEX (y := (⟨"com/example/guard3/guard3/P384FieldSubtractPinLaw", "lim", "(J)J"⟩ : MethodName)) hOW (mvT hZW (hw _ (List.mem_of_getElem? (i := 0) rfl))) (mvT hZW (hw _ (List.mem_of_getElem? (i := 1) rfl))) (mvT hZW (hw _ (List.mem_of_getElem? (i := 2) rfl))) (mvT hZW (hw _ (List.mem_of_getElem? (i := 3) rfl))) (by decide) (backOf (W := 0) (rm_lim l Z aZ hw [] q5 h0 n0 (Nat.le_trans Z0 K0.1) ) hZW (hw _ (List.mem_of_getElem? (i := 3) rfl)) (hw _ (List.mem_of_getElem? (i := 2) rfl)) (by decide) (by decide)) (g := (mkF m 28 #[Lv q1, Zs, Lv q2, Zs, Lv q3, Zs, Lv q4, Zs, Lv q5, Zs, Iv p6, Lv a0, Zs, Lv a1, Zs, Lv a2, Zs, Lv a3, Zs, Us, Us, Us, Us, Us, Us, Us, Us, Us, Us, Us, Us, Us, Us, Us, Us, Us, Us, Us, Us, Us, Us, Us, Us, Us, Us, Us, Us, Us, Us, Us, Us, Us, Us, Us] [(.long q5)])) rfl (by rw [hMX]; rfl) (argsL := [(.long q5)]) (rest := []) (lenOf pd__J_J_1 rfl) rfl (by show 2 * 0 + _ ≤ _; exact Nat.le_of_eq rfl) (hb hBY at_28) (fun _ _ => ⟨rfl, e_8, (by decide : 0 + 0 ≤ _), (by decide : 0 + 0 ≤ _)⟩)
  dsimp only [Pt.U, Pt.locs, Pt.cells, Pt.slots] at X_10 l_10 y_10 z_10 st_10 hQ_10
  subst l_10 y_10 z_10
  obtain ⟨a4, rfl, N_10q, e_10, hq_10_0⟩ := hQ_10
  have N_10 := Fr.app N_8 N_10q
  refine Done.pre (fun _ k_ => st_10 _ k_) ?_
  show Done _ _ _ _ _ _ _ (T_10.setTop (mkF m 31 #[Lv q1, Zs, Lv q2, Zs, Lv q3, Zs, Lv q4, Zs, Lv q5, Zs, Iv p6, Lv a0, Zs, Lv a1, Zs, Lv a2, Zs, Lv a3, Zs, Us, Us, Us, Us, Us, Us, Us, Us, Us, Us, Us, Us, Us, Us, Us, Us, Us, Us, Us, Us, Us, Us, Us, Us, Us, Us, Us, Us, Us, Us, Us, Us, Us, Us, Us] [(.long a4)]))
  have ha4 := hq_10_0
  have sg_11 : ∀ tt_, Steps p.tables e below (T_10.setTop (mkF m 33 #[Lv q1, Zs, Lv q2, Zs, Lv q3, Zs, Lv q4, Zs, Lv q5, Zs, Iv p6, Lv a0, Zs, Lv a1, Zs, Lv a2, Zs, Lv a3, Zs, Lv a4, Zs, Us, Us, Us, Us, Us, Us, Us, Us, Us, Us, Us, Us, Us, Us, Us, Us, Us, Us, Us, Us, Us, Us, Us, Us, Us, Us, Us, Us, Us, Us, Us, Us, Us] [])) tt_ → Steps p.tables e below (T_10.setTop (mkF m 31 #[Lv q1, Zs, Lv q2, Zs, Lv q3, Zs, Lv q4, Zs, Lv q5, Zs, Iv p6, Lv a0, Zs, Lv a1, Zs, Lv a2, Zs, Lv a3, Zs, Us, Us, Us, Us, Us, Us, Us, Us, Us, Us, Us, Us, Us, Us, Us, Us, Us, Us, Us, Us, Us, Us, Us, Us, Us, Us, Us, Us, Us, Us, Us, Us, Us, Us, Us] [(.long a4)])) tt_ := by
    intro tt_ kt_
    refine XS.lstore X_10.here hEX rfl (hb hBY at_31) rfl (l' := #[Lv q1, Zs, Lv q2, Zs, Lv q3, Zs, Lv q4, Zs, Lv q5, Zs, Iv p6, Lv a0, Zs, Lv a1, Zs, Lv a2, Zs, Lv a3, Zs, Lv a4, Zs, Us, Us, Us, Us, Us, Us, Us, Us, Us, Us, Us, Us, Us, Us, Us, Us, Us, Us, Us, Us, Us, Us, Us, Us, Us, Us, Us, Us, Us, Us, Us, Us, Us]) rfl ?_
    exact kt_
  refine Done.pre sg_11 ?_
  show Done _ _ _ _ _ _ _ (T_10.setTop (mkF m 33 #[Lv q1, Zs, Lv q2, Zs, Lv q3, Zs, Lv q4, Zs, Lv q5, Zs, Iv p6, Lv a0, Zs, Lv a1, Zs, Lv a2, Zs, Lv a3, Zs, Lv a4, Zs, Us, Us, Us, Us, Us, Us, Us, Us, Us, Us, Us, Us, Us, Us, Us, Us, Us, Us, Us, Us, Us, Us, Us, Us, Us, Us, Us, Us, Us, Us, Us, Us, Us] []))
  exact rm0_j33 l Z aZ hw ws q1 q2 q3 q4 q5 p6 h0 n0 Z0 p e s m below meth cO hEX hBY hMX hOW hNM hLK hRT hZW a0 a1 a2 a3 a4 T_10 h0 _ X_10 e_10 N_10 K0 ha0 ha1 ha2 ha3 ha4
set_option maxRecDepth 65536 in
set_option maxHeartbeats 40000000 in
theorem comes_1 {Post : Tables → Env → Array Value → State → Outcome → State → Prop} (hpost : ∀ tb e args s v u, (limb_1_1.after args s (.returned v) u = true ∧ limb_1_2.after args s (.returned v) u = true ∧ True) → FrameEnd s (.returned v) u (Jvm.fieldLocs frame_1_writes args s ++ Jvm.arrayLocs frame_1_arrays args s ++ Jvm.staticLocs frame_1_statics s) 32 256 → Post tb e args s (.returned v) u) :
    ArmFor flags0 classFile x code maxLocals ret World_1 tables_1 room_1 Calls_1 rest_1 Pre_1 Post := by
  intro l hfl _ _ p e ha hc hk s m args below hf hA hF happ hP
  obtain ⟨hcalls, hrest, hpre⟩ := hP
  obtain ⟨-, -, -, hnamed, -, -, -, hat⟩ := (Spec.applies_iff hf).mp happ
  obtain ⟨hg, hn⟩ := and_e (Cond.before_iff.mp (show (Jvm.Cond.and given_1 narrow_1).before args s = true from hpre))
  obtain ⟨g1a, g1b⟩ := and_e hg
  obtain ⟨g2a, g2b⟩ := and_e g1b
  obtain ⟨g3a, g3b⟩ := and_e g2b
  obtain ⟨g4a, g4b⟩ := and_e g3b
  obtain ⟨g5a, g5b⟩ := and_e g4b
  obtain ⟨g6a, g6b⟩ := and_e g5b
  obtain ⟨w0, w1, w2, w3, w4, w5, rfl⟩ : ∃ w0 w1 w2 w3 w4 w5 : Value, args = #[w0, w1, w2, w3, w4, w5] := by
    have hs : args.size = 6 := by simpa [Cond.value, given_1] using g1a
    obtain ⟨L⟩ := args
    match L, hs with
    | [w0, w1, w2, w3, w4, w5], _ => exact ⟨w0, w1, w2, w3, w4, w5, rfl⟩
  have hw := fun d (hd : d ∈ tables_1) => atoms_spec (ws := Jvm.Cond.code x code maxLocals ret :: tables_1) hat d (List.mem_cons_of_mem _ hd)
  have hfit : Fit s := fun {y c} hc i hi => by
    obtain ⟨ha, rfl⟩ := Array.getElem?_eq_some_iff.mp hc
    have q := List.all_eq_true.mp ((Array.all_eq_true_iff_forall_mem.mp hF) _ (Array.getElem_mem ha)) i (List.mem_range.mpr hi)
    simpa [Array.getElem?_eq_getElem hi] using q
  obtain ⟨i0, ei0⟩ := isL_v g2a
  obtain rfl : w0 = (.long i0) := Option.some.inj ei0
  obtain ⟨i1, ei1⟩ := isL_v g3a
  obtain rfl : w1 = (.long i1) := Option.some.inj ei1
  obtain ⟨i2, ei2⟩ := isL_v g4a
  obtain rfl : w2 = (.long i2) := Option.some.inj ei2
  obtain ⟨i3, ei3⟩ := isL_v g5a
  obtain rfl : w3 = (.long i3) := Option.some.inj ei3
  obtain ⟨i4, ei4⟩ := isL_v g6a
  obtain rfl : w4 = (.long i4) := Option.some.inj ei4
  obtain ⟨i5, ei5⟩ := is_v g6b
  obtain rfl : w5 = (.int i5) := Option.some.inj ei5
  obtain ⟨n, o, h1, h2, h3, _, L, rfl, ⟨rfl, N, -⟩, hq⟩ := rm0 l s _ hw tables_1 i0 i1 i2 i3 i4 i5  s.heap s.heap.size (Nat.le_refl _)  p e ha hc hk s m _ below hf ((Spec.applies_iff_loose hf).mp happ).1 ⟨rfl, State.Warmed39.refl s, rfl⟩ trivial
  refine ⟨n, _, h1, h2, h3, hpost _ _ _ _ _ _ ⟨Cond.after_iff.mpr rfl, Cond.after_iff.mpr (eq_i res_at (Term.int_eval (1)) rfl), trivial⟩ ⟨hq.1, hq.2.1, (hq.2.2.sift fun y hy => Or.inr (N y hy)).mono (by decide) (by decide)⟩⟩
theorem main_1_1 : Claimed_1_1 := comes_1 fun _ _ _ _ _ _ h hF => ⟨h.1, hF⟩
theorem main_1_2 : Claimed_1_2 := comes_1 fun _ _ _ _ _ _ h hF => ⟨h.2.1, hF⟩
end Jvm.Pilot.@@N@@
namespace Jvm.Pilot.@@N@@
open Jvm Jvm.ClassFile Sem Op Lib Jvm.Free Jvm.Stand Jvm.Pilot.@@N@@.Jvm.D
/-! MADE BY PROGRAM (witnessworld.py) out of the Statement's table words and the real class files: 10 classes; the members and pool entries that the words name. The judged class is class 1, her method 3. -/
namespace start1
open Jvm.ClassFile
def u (s : String) : CpInfo := .utf8 (stringToUtf16 s)
/-- a pool by its gaps: so many unusable entries, then the entry; so many at the end -/
def gap : Nat → List CpInfo → List CpInfo
  | 0, r => r
  | n + 1, r => .unusable :: gap n r
def poolList (es : List (Nat × CpInfo)) (last : Nat) : List CpInfo := es.foldr (fun e r => gap e.1 (e.2 :: r)) (gap last [])
def pool (es : List (Nat × CpInfo)) (last : Nat) : Array CpInfo := ⟨poolList es last⟩
def fileOf (pool : Array CpInfo) (this : Nat) (attrs : Array Attribute := #[]) (ms : Array MethodInfo := #[]) (fl : Nat := 33) (sup : Nat := 0) (ifs : Array Nat := #[]) (fds : Array FieldInfo := #[]) : ClassFile where
  minorVersion := 0
  majorVersion := 65
  constantPool := pool
  accessFlags := fl
  thisClass := this
  superClass := sup
  interfaces := ifs
  fields := fds
  methods := ms
  attributes := attrs
def plain (name : String) (sup : Option ClassId) : Class where
  name := name
  kind := .ordinary
  loader := none
  accessFlags := 33
  super := sup
  interfaces := #[]
  cf := none
  fields := #[]
  methods := #[]
  instanceTypes := #[]
  staticTypes := #[]
  resolved := #[]
  callSites := []
  init := .initialized
  statics := none
  mirror := none

def pool0 : Array CpInfo := pool [(5, u "<init>"), (0, u "()V"), (1, .class_ 10), (1, u "java/lang/Object"), (85, u "clone"), (0, u "()Ljava/lang/Object;")] 26

def k0m0 : Method := { name := "<init>", desc := "()V", sig := { parameters := [], returnType := none }, accessFlags := 1, code := none }
def k0m1 : Method := { name := "clone", desc := "()Ljava/lang/Object;", sig := { parameters := [], returnType := some (.object "java/lang/Object") }, accessFlags := 260, code := none }
/-- java/lang/Object -/
def k0 : Class := { plain "java/lang/Object" none with
  accessFlags := 33
  interfaces := #[]
  cf := some (fileOf pool0 8 #[] #[{ accessFlags := 1, nameIndex := 5, descriptorIndex := 6, attributes := #[] }, { accessFlags := 260, nameIndex := 96, descriptorIndex := 97, attributes := #[] }] 33 0 #[] #[])
  fields := #[]
  methods := #[k0m0, k0m1]
  instanceTypes := #[]
  staticTypes := #[]
  resolved := Array.replicate 124 none
  statics := none }

def pool1 : Array CpInfo := pool [(2, .class_ 4), (1, u "java/lang/Object"), (0, u "<init>"), (0, u "()V"), (0, .long 18445618173802708993), (1, .methodref 10 11), (0, .class_ 12), (0, .nameAndType 13 14), (0, u "java/lang/Math"), (0, u "max"), (0, u "(JJ)J"), (0, .long 1125899906842624), (1, .methodref 18 19), (0, .class_ 20), (0, .nameAndType 21 22), (0, u "com/example/guard3/guard3/P384FieldSubtractPinLaw"), (0, u "lim"), (0, u "(J)J"), (0, .methodref 24 25), (0, .class_ 26), (0, .nameAndType 27 28), (0, u "com/example/guard3/guard3/P384Field"), (0, u "subtract"), (0, u "([J[J[J)V"), (0, .methodref 18 30), (0, .nameAndType 31 32), (0, u "inRange"), (0, u "(J)Z"), (0, .methodref 24 34), (0, .nameAndType 35 28), (0, u "add"), (0, .methodref 24 37), (0, .nameAndType 38 39), (0, u "isZero"), (0, u "([J)Z"), (3, u "law"), (0, u "(JJJJJI)Z")] 4

def k1m0 : Method := { name := "<init>", desc := "()V", sig := { parameters := [], returnType := none }, accessFlags := 1, code := none }
def k1c1 : Code := { maxStack := 4, maxLocals := 2, code := method_2_code, exceptionTable := #[], attributes := #[] }
def k1m1 : Method := { name := "lim", desc := "(J)J", sig := { parameters := [.long], returnType := some .long }, accessFlags := 10, code := some k1c1 }
def k1c2 : Code := { maxStack := 4, maxLocals := 4, code := method_3_code, exceptionTable := #[], attributes := #[] }
def k1m2 : Method := { name := "inRange", desc := "(J)Z", sig := { parameters := [.long], returnType := some .boolean }, accessFlags := 10, code := some k1c2 }
def k1c3 : Code := { maxStack := 5, maxLocals := 54, code := code, exceptionTable := #[], attributes := #[] }
def k1m3 : Method := { name := "law", desc := "(JJJJJI)Z", sig := { parameters := [.long, .long, .long, .long, .long, .int], returnType := some .boolean }, accessFlags := 9, code := some k1c3 }
/-- com/example/guard3/guard3/P384FieldSubtractPinLaw -/
def k1 : Class := { plain "com/example/guard3/guard3/P384FieldSubtractPinLaw" (some 0) with
  accessFlags := 49
  interfaces := #[]
  cf := some (fileOf pool1 18 #[] #[{ accessFlags := 1, nameIndex := 5, descriptorIndex := 6, attributes := #[] }, { accessFlags := 10, nameIndex := 21, descriptorIndex := 22, attributes := #[] }, { accessFlags := 10, nameIndex := 31, descriptorIndex := 32, attributes := #[] }, { accessFlags := 9, nameIndex := 43, descriptorIndex := 44, attributes := #[] }] 49 2 #[] #[])
  fields := #[]
  methods := #[k1m0, k1m1, k1m2, k1m3]
  instanceTypes := #[]
  staticTypes := #[]
  resolved := Array.replicate 49 none
  statics := none }

def pool2 : Array CpInfo := pool [(1, .class_ 2), (0, u "java/lang/Math"), (1, .class_ 6), (1, u "java/lang/Object"), (0, u "<init>"), (0, u "()V"), (89, .class_ 100), (1, u "java/lang/Math$RandomNumberGeneratorHolder"), (20, u "(JJ)J"), (50, u "negativeZeroFloatBits"), (0, u "J"), (2, u "negativeZeroDoubleBits"), (21, u "max"), (46, u "$assertionsDisabled"), (0, u "Z"), (91, u "twoToTheDoubleScaleDown"), (0, u "D"), (4, u "twoToTheDoubleScaleUp"), (9, u "E"), (3, u "PI"), (2, u "TAU"), (2, u "DEGREES_TO_RADIANS"), (0, u "RADIANS_TO_DEGREES")] 94

def k2m0 : Method := { name := "<init>", desc := "()V", sig := { parameters := [], returnType := none }, accessFlags := 2, code := none }
def k2c1 : Code := { maxStack := 4, maxLocals := 4, code := jdk_29_method_66_code, exceptionTable := #[], attributes := #[] }
def k2m1 : Method := { name := "max", desc := "(JJ)J", sig := { parameters := [.long, .long], returnType := some .long }, accessFlags := 9, code := some k2c1 }
/-- java/lang/Math -/
def k2 : Class := { plain "java/lang/Math" (some 0) with
  accessFlags := 49
  interfaces := #[]
  cf := some (fileOf pool2 1 #[.nestMembers #[98]] #[{ accessFlags := 2, nameIndex := 7, descriptorIndex := 8, attributes := #[] }, { accessFlags := 9, nameIndex := 198, descriptorIndex := 121, attributes := #[] }] 49 4 #[] #[{ accessFlags := 25, nameIndex := 354, descriptorIndex := 339, attributes := #[] }, { accessFlags := 25, nameIndex := 358, descriptorIndex := 339, attributes := #[] }, { accessFlags := 25, nameIndex := 361, descriptorIndex := 339, attributes := #[] }, { accessFlags := 26, nameIndex := 364, descriptorIndex := 339, attributes := #[] }, { accessFlags := 26, nameIndex := 365, descriptorIndex := 339, attributes := #[] }, { accessFlags := 26, nameIndex := 172, descriptorIndex := 173, attributes := #[] }, { accessFlags := 26, nameIndex := 176, descriptorIndex := 173, attributes := #[] }, { accessFlags := 8, nameIndex := 344, descriptorIndex := 339, attributes := #[] }, { accessFlags := 8, nameIndex := 338, descriptorIndex := 339, attributes := #[] }, { accessFlags := 4120, nameIndex := 245, descriptorIndex := 246, attributes := #[] }])
  fields := #[{ name := "E", type := .double, accessFlags := 25, slot := 0, constantValue := 0 }, { name := "PI", type := .double, accessFlags := 25, slot := 1, constantValue := 0 }, { name := "TAU", type := .double, accessFlags := 25, slot := 2, constantValue := 0 }, { name := "DEGREES_TO_RADIANS", type := .double, accessFlags := 26, slot := 3, constantValue := 0 }, { name := "RADIANS_TO_DEGREES", type := .double, accessFlags := 26, slot := 4, constantValue := 0 }, { name := "negativeZeroFloatBits", type := .long, accessFlags := 26, slot := 5, constantValue := 0 }, { name := "negativeZeroDoubleBits", type := .long, accessFlags := 26, slot := 6, constantValue := 0 }, { name := "twoToTheDoubleScaleUp", type := .double, accessFlags := 8, slot := 7, constantValue := 0 }, { name := "twoToTheDoubleScaleDown", type := .double, accessFlags := 8, slot := 8, constantValue := 0 }, { name := "$assertionsDisabled", type := .boolean, accessFlags := 4120, slot := 9, constantValue := 0 }]
  methods := #[k2m0, k2m1]
  instanceTypes := #[]
  staticTypes := #[.double, .double, .double, .double, .double, .long, .long, .double, .double, .boolean]
  resolved := Array.replicate 460 none
  statics := none }

def pool3 : Array CpInfo := pool [(1, .class_ 2), (0, u "com/example/guard3/guard3/P384Field"), (1, .class_ 6), (1, u "java/lang/Object"), (0, u "<init>"), (0, u "()V"), (18, .methodref 1 28), (0, .nameAndType 29 30), (0, u "canonical"), (0, u "([J)[J"), (3, .long 281474976710655), (11, .methodref 1 47), (0, .nameAndType 48 49), (0, u "store"), (0, u "([JJJJJJJJJ)V"), (6, .long 65535), (1, .methodref 59 60), (0, .class_ 61), (0, .nameAndType 62 63), (0, u "[J"), (0, u "clone"), (0, u "()Ljava/lang/Object;"), (0, .methodref 1 65), (0, .nameAndType 66 67), (0, u "propagate"), (0, u "([J)J"), (0, .methodref 1 69), (0, .nameAndType 70 71), (0, u "fold"), (0, u "([JJ)V"), (3, u "Ljava/math/BigInteger;"), (6, u "subtract"), (3, u "add"), (2, u "P"), (0, u "LIMBS"), (0, u "I"), (2, u "LIMB_BITS"), (1, u "MASK"), (0, u "J"), (0, u "LOW_16"), (0, u "BYTES_PER_LIMB"), (1, u "BYTES"), (9, u "isZero"), (0, u "([J)Z"), (1, u "([J[J[J)V")] 7

def k3m0 : Method := { name := "<init>", desc := "()V", sig := { parameters := [], returnType := none }, accessFlags := 2, code := none }
def k3c1 : Code := { maxStack := 4, maxLocals := 3, code := prog_59_method_5_code, exceptionTable := #[], attributes := #[] }
def k3m1 : Method := { name := "isZero", desc := "([J)Z", sig := { parameters := [(.array .long)], returnType := some .boolean }, accessFlags := 8, code := some k3c1 }
def k3c2 : Code := { maxStack := 19, maxLocals := 3, code := prog_59_method_8_code, exceptionTable := #[], attributes := #[] }
def k3m2 : Method := { name := "add", desc := "([J[J[J)V", sig := { parameters := [(.array .long), (.array .long), (.array .long)], returnType := none }, accessFlags := 8, code := some k3c2 }
def k3c3 : Code := { maxStack := 19, maxLocals := 3, code := prog_59_method_9_code, exceptionTable := #[], attributes := #[] }
def k3m3 : Method := { name := "subtract", desc := "([J[J[J)V", sig := { parameters := [(.array .long), (.array .long), (.array .long)], returnType := none }, accessFlags := 8, code := some k3c3 }
def k3c4 : Code := { maxStack := 6, maxLocals := 23, code := prog_59_method_13_code, exceptionTable := #[], attributes := #[] }
def k3m4 : Method := { name := "store", desc := "([JJJJJJJJJ)V", sig := { parameters := [(.array .long), .long, .long, .long, .long, .long, .long, .long, .long], returnType := none }, accessFlags := 10, code := some k3c4 }
def k3c5 : Code := { maxStack := 8, maxLocals := 7, code := prog_59_method_14_code, exceptionTable := #[], attributes := #[] }
def k3m5 : Method := { name := "fold", desc := "([JJ)V", sig := { parameters := [(.array .long), .long], returnType := none }, accessFlags := 10, code := some k3c5 }
def k3c6 : Code := { maxStack := 6, maxLocals := 6, code := prog_59_method_15_code, exceptionTable := #[], attributes := #[] }
def k3m6 : Method := { name := "propagate", desc := "([J)J", sig := { parameters := [(.array .long)], returnType := some .long }, accessFlags := 10, code := some k3c6 }
def k3c7 : Code := { maxStack := 4, maxLocals := 5, code := prog_59_method_16_code, exceptionTable := #[], attributes := #[] }
def k3m7 : Method := { name := "canonical", desc := "([J)[J", sig := { parameters := [(.array .long)], returnType := some (.array .long) }, accessFlags := 10, code := some k3c7 }
/-- com/example/guard3/guard3/P384Field -/
def k3 : Class := { plain "com/example/guard3/guard3/P384Field" (some 0) with
  accessFlags := 32
  interfaces := #[]
  cf := some (fileOf pool3 1 #[] #[{ accessFlags := 2, nameIndex := 7, descriptorIndex := 8, attributes := #[] }, { accessFlags := 8, nameIndex := 111, descriptorIndex := 112, attributes := #[] }, { accessFlags := 8, nameIndex := 86, descriptorIndex := 114, attributes := #[] }, { accessFlags := 8, nameIndex := 82, descriptorIndex := 114, attributes := #[] }, { accessFlags := 10, nameIndex := 48, descriptorIndex := 49, attributes := #[] }, { accessFlags := 10, nameIndex := 70, descriptorIndex := 71, attributes := #[] }, { accessFlags := 10, nameIndex := 66, descriptorIndex := 67, attributes := #[] }, { accessFlags := 10, nameIndex := 29, descriptorIndex := 30, attributes := #[] }] 32 4 #[] #[{ accessFlags := 24, nameIndex := 90, descriptorIndex := 91, attributes := #[] }, { accessFlags := 24, nameIndex := 89, descriptorIndex := 75, attributes := #[] }, { accessFlags := 24, nameIndex := 94, descriptorIndex := 91, attributes := #[] }, { accessFlags := 26, nameIndex := 96, descriptorIndex := 97, attributes := #[] }, { accessFlags := 26, nameIndex := 98, descriptorIndex := 97, attributes := #[] }, { accessFlags := 26, nameIndex := 99, descriptorIndex := 91, attributes := #[] }, { accessFlags := 26, nameIndex := 101, descriptorIndex := 91, attributes := #[] }])
  fields := #[{ name := "LIMBS", type := .int, accessFlags := 24, slot := 0, constantValue := 0 }, { name := "P", type := (.object "java/math/BigInteger"), accessFlags := 24, slot := 1, constantValue := 0 }, { name := "LIMB_BITS", type := .int, accessFlags := 24, slot := 2, constantValue := 0 }, { name := "MASK", type := .long, accessFlags := 26, slot := 3, constantValue := 0 }, { name := "LOW_16", type := .long, accessFlags := 26, slot := 4, constantValue := 0 }, { name := "BYTES_PER_LIMB", type := .int, accessFlags := 26, slot := 5, constantValue := 0 }, { name := "BYTES", type := .int, accessFlags := 26, slot := 6, constantValue := 0 }]
  methods := #[k3m0, k3m1, k3m2, k3m3, k3m4, k3m5, k3m6, k3m7]
  instanceTypes := #[]
  staticTypes := #[.int, (.object "java/math/BigInteger"), .int, .long, .long, .int, .int]
  resolved := Array.replicate 122 none
  statics := none }

def pool4 : Array CpInfo := pool [(1, .class_ 2), (0, u "java/lang/Cloneable"), (0, .class_ 4), (0, u "java/lang/Object")] 2

/-- java/lang/Cloneable -/
def k4 : Class := { plain "java/lang/Cloneable" (some 0) with
  accessFlags := 1537
  interfaces := #[]
  cf := some (fileOf pool4 1 #[] #[] 1537 3 #[] #[])
  fields := #[]
  methods := #[]
  instanceTypes := #[]
  staticTypes := #[]
  resolved := Array.replicate 7 none
  statics := none }

def pool5 : Array CpInfo := pool [(1, u "java/io/Serializable"), (0, .class_ 1), (0, u "java/lang/Object"), (0, .class_ 3)] 3

/-- java/io/Serializable -/
def k5 : Class := { plain "java/io/Serializable" (some 0) with
  accessFlags := 1537
  interfaces := #[]
  cf := some (fileOf pool5 2 #[] #[] 1537 4 #[] #[])
  fields := #[]
  methods := #[]
  instanceTypes := #[]
  staticTypes := #[]
  resolved := Array.replicate 8 none
  statics := none }

/-- the primitive byte -/
def k6 : Class := { plain "byte" none with kind := .primitive 'B', accessFlags := 0x411 }
/-- [B -/
def k7 : Class := { plain "[B" (some 0) with kind := .array 6 .byte, interfaces := #[4, 5], accessFlags := 1041 }

/-- the primitive long -/
def k8 : Class := { plain "long" none with kind := .primitive 'J', accessFlags := 0x411 }
/-- [J -/
def k9 : Class := { plain "[J" (some 0) with kind := .array 8 .long, interfaces := #[4, 5], accessFlags := 1041 }

def heap : Heap := #[]
def classes : Array Class := #[k0, k1, k2, k3, k4, k5, k6, k7, k8, k9]
def interned : List (Array UInt16 × Addr) := []
def slotsUsed : Nat := 0
def theMethod : MethodId := ⟨1, 3⟩
def args0 : Array Value := #[.long 7, .long 8, .long 9, .long 3, .long 2, .int 5]
def aboutOver (below : List Frame) : State where
  vm := { classes := classes, interned := interned.toArray }
  heap := heap
  slotsUsed := slotsUsed
  threads := #[{ frames := .invoking theMethod args0 :: below }]
def below0 : List Frame := [.native { method := ⟨0, 0⟩, args := #[] }]
def about1 : State := aboutOver below0
def p0 : Program := .bare "" "" ""
def e0 : Env := launch0.env 0 0 0
theorem w_frames : about1.frames = Frame.invoking theMethod args0 :: below0 := rfl
set_option maxRecDepth 65536 in
theorem w_args : argsFit about1.vm theMethod args0 = true := by decide +kernel
set_option maxRecDepth 65536 in
theorem w_heap : heapFits about1 = true := by decide +kernel
set_option maxRecDepth 65536 in
theorem w_runnable : about1.curStatus? = some .runnable := by decide +kernel
set_option maxRecDepth 65536 in
theorem w_alone : about1.alone = true := by decide +kernel
set_option maxRecDepth 65536 in
theorem w_named : about1.methodNamed? x = some theMethod := by decide +kernel
set_option maxRecDepth 65536 in
theorem w_hears : about1.hears theMethod below0 = true := by decide +kernel
set_option maxRecDepth 65536 in
theorem w_ripe : about1.ripe theMethod args0 below0 = true := by decide +kernel
theorem w_running : about1.status = .running := rfl
set_option maxRecDepth 65536 in
theorem w_room : about1.hasRoom e0.platform room_1 = true :=
  launch0.hasRoom_least _ room_1 (by decide +kernel) (by decide +kernel) (by decide +kernel) (by decide +kernel) (by decide +kernel) (by decide +kernel)
theorem allAtoms_all (ts : List Jvm.Cond) (a : Array Jvm.Value) (st : Jvm.State) : (allAtoms ts).before a st = ts.all (fun c => c.before a st) := by
  induction ts with
  | nil => rfl
  | cons c t ih =>
    show (Jvm.Cond.and c (allAtoms t)).before a st = _
    rw [Jvm.Cond.before_and, ih, List.all_cons]
def words1 : List Jvm.Cond := Jvm.Cond.code x code maxLocals ret :: tables_1
/-- a 'code' word, met by the world's own term for the bytes: nothing is compared byte by byte -/
theorem code_word {y : MethodName} {bytes : ByteArray} {mx : Nat} {rt : Option FieldType} {a : Array Value} {s : State} {m : MethodId} {meth : Method} {c : Code} (h1 : s.methodNamed? y = some m) (h2 : s.vm.method? m = some meth) (h3 : meth.code = some c) (h4 : c.code = bytes)
    (h5 : (c.maxLocals == mx && c.exceptionTable.isEmpty && decide (c.maxStack ≤ mostOperands) && decide (meth.sig.returnType = rt) && !meth.locks && decide (parseMethodDescriptor y.desc = some meth.sig)) = true) : (Jvm.Cond.code y bytes mx rt).before a s = true := by
  simp only [Bool.and_eq_true, beq_iff_eq, Bool.not_eq_true', decide_eq_true_eq] at h5
  obtain ⟨⟨⟨⟨⟨g1, g2⟩, g3⟩, g4⟩, g5⟩, g6⟩ := h5
  simp [Cond.before, Cond.holds, Cond.value, h1, h2, h3, h4, g1, g2, g3, g4, g5, g6]
def isCode : Jvm.Cond → Bool
  | .code _ _ _ _ => true
  | _ => false
theorem all_split {L : List Jvm.Cond} {P : Jvm.Cond → Bool} (h1 : L.all (fun c => isCode c || P c) = true) (h2 : ∀ c ∈ L.filter isCode, P c = true) : L.all P = true := by
  refine List.all_eq_true.mpr fun c hc => ?_
  have h := List.all_eq_true.mp h1 c hc
  rcases Bool.eq_false_or_eq_true (isCode c) with hi | hi
  · exact h2 c (List.mem_filter.mpr ⟨hc, hi⟩)
  · simpa [hi] using h
set_option maxRecDepth 65536 in
theorem w_c0 : (Jvm.Cond.code x code maxLocals ret).before args0 about1 = true := code_word (m := ⟨1, 3⟩) (meth := k1m3) (c := k1c3) (by decide +kernel) rfl rfl rfl (by decide +kernel)
set_option maxRecDepth 65536 in
theorem w_c1 : (Jvm.Cond.code ({ cls := "com/example/guard3/guard3/P384FieldSubtractPinLaw", name := "lim", desc := "(J)J" } : Jvm.MethodName) method_2_code (2 : Nat) (Option.some Jvm.ClassFile.FieldType.long)).before args0 about1 = true := code_word (m := ⟨1, 1⟩) (meth := k1m1) (c := k1c1) (by decide +kernel) rfl rfl rfl (by decide +kernel)
set_option maxRecDepth 65536 in
theorem w_c2 : (Jvm.Cond.code ({ cls := "java/lang/Math", name := "max", desc := "(JJ)J" } : Jvm.MethodName) jdk_29_method_66_code (4 : Nat) (Option.some Jvm.ClassFile.FieldType.long)).before args0 about1 = true := code_word (m := ⟨2, 1⟩) (meth := k2m1) (c := k2c1) (by decide +kernel) rfl rfl rfl (by decide +kernel)
set_option maxRecDepth 65536 in
theorem w_c3 : (Jvm.Cond.code ({ cls := "com/example/guard3/guard3/P384Field", name := "subtract", desc := "([J[J[J)V" } : Jvm.MethodName) prog_59_method_9_code (3 : Nat) (Option.none : Option Jvm.ClassFile.FieldType)).before args0 about1 = true := code_word (m := ⟨3, 3⟩) (meth := k3m3) (c := k3c3) (by decide +kernel) rfl rfl rfl (by decide +kernel)
set_option maxRecDepth 65536 in
theorem w_c4 : (Jvm.Cond.code ({ cls := "com/example/guard3/guard3/P384Field", name := "store", desc := "([JJJJJJJJJ)V" } : Jvm.MethodName) prog_59_method_13_code (23 : Nat) (Option.none : Option Jvm.ClassFile.FieldType)).before args0 about1 = true := code_word (m := ⟨3, 4⟩) (meth := k3m4) (c := k3c4) (by decide +kernel) rfl rfl rfl (by decide +kernel)
set_option maxRecDepth 65536 in
theorem w_c5 : (Jvm.Cond.code ({ cls := "com/example/guard3/guard3/P384FieldSubtractPinLaw", name := "inRange", desc := "(J)Z" } : Jvm.MethodName) method_3_code (4 : Nat) (Option.some Jvm.ClassFile.FieldType.boolean)).before args0 about1 = true := code_word (m := ⟨1, 2⟩) (meth := k1m2) (c := k1c2) (by decide +kernel) rfl rfl rfl (by decide +kernel)
set_option maxRecDepth 65536 in
theorem w_c6 : (Jvm.Cond.code ({ cls := "com/example/guard3/guard3/P384Field", name := "add", desc := "([J[J[J)V" } : Jvm.MethodName) prog_59_method_8_code (3 : Nat) (Option.none : Option Jvm.ClassFile.FieldType)).before args0 about1 = true := code_word (m := ⟨3, 2⟩) (meth := k3m2) (c := k3c2) (by decide +kernel) rfl rfl rfl (by decide +kernel)
set_option maxRecDepth 65536 in
theorem w_c7 : (Jvm.Cond.code ({ cls := "com/example/guard3/guard3/P384Field", name := "isZero", desc := "([J)Z" } : Jvm.MethodName) prog_59_method_5_code (3 : Nat) (Option.some Jvm.ClassFile.FieldType.boolean)).before args0 about1 = true := code_word (m := ⟨3, 1⟩) (meth := k3m1) (c := k3c1) (by decide +kernel) rfl rfl rfl (by decide +kernel)
set_option maxRecDepth 65536 in
theorem w_c8 : (Jvm.Cond.code ({ cls := "com/example/guard3/guard3/P384Field", name := "canonical", desc := "([J)[J" } : Jvm.MethodName) prog_59_method_16_code (5 : Nat) (Option.some (Jvm.ClassFile.FieldType.array Jvm.ClassFile.FieldType.long))).before args0 about1 = true := code_word (m := ⟨3, 7⟩) (meth := k3m7) (c := k3c7) (by decide +kernel) rfl rfl rfl (by decide +kernel)
set_option maxRecDepth 65536 in
theorem w_c9 : (Jvm.Cond.code ({ cls := "com/example/guard3/guard3/P384Field", name := "propagate", desc := "([J)J" } : Jvm.MethodName) prog_59_method_15_code (6 : Nat) (Option.some Jvm.ClassFile.FieldType.long)).before args0 about1 = true := code_word (m := ⟨3, 6⟩) (meth := k3m6) (c := k3c6) (by decide +kernel) rfl rfl rfl (by decide +kernel)
set_option maxRecDepth 65536 in
theorem w_c10 : (Jvm.Cond.code ({ cls := "com/example/guard3/guard3/P384Field", name := "fold", desc := "([JJ)V" } : Jvm.MethodName) prog_59_method_14_code (7 : Nat) (Option.none : Option Jvm.ClassFile.FieldType)).before args0 about1 = true := code_word (m := ⟨3, 5⟩) (meth := k3m5) (c := k3c5) (by decide +kernel) rfl rfl rfl (by decide +kernel)
def codes1 : List Jvm.Cond := [Jvm.Cond.code x code maxLocals ret, Jvm.Cond.code ({ cls := "com/example/guard3/guard3/P384FieldSubtractPinLaw", name := "lim", desc := "(J)J" } : Jvm.MethodName) method_2_code (2 : Nat) (Option.some Jvm.ClassFile.FieldType.long), Jvm.Cond.code ({ cls := "java/lang/Math", name := "max", desc := "(JJ)J" } : Jvm.MethodName) jdk_29_method_66_code (4 : Nat) (Option.some Jvm.ClassFile.FieldType.long), Jvm.Cond.code ({ cls := "com/example/guard3/guard3/P384Field", name := "subtract", desc := "([J[J[J)V" } : Jvm.MethodName) prog_59_method_9_code (3 : Nat) (Option.none : Option Jvm.ClassFile.FieldType), Jvm.Cond.code ({ cls := "com/example/guard3/guard3/P384Field", name := "store", desc := "([JJJJJJJJJ)V" } : Jvm.MethodName) prog_59_method_13_code (23 : Nat) (Option.none : Option Jvm.ClassFile.FieldType), Jvm.Cond.code ({ cls := "com/example/guard3/guard3/P384FieldSubtractPinLaw", name := "inRange", desc := "(J)Z" } : Jvm.MethodName) method_3_code (4 : Nat) (Option.some Jvm.ClassFile.FieldType.boolean), Jvm.Cond.code ({ cls := "com/example/guard3/guard3/P384Field", name := "add", desc := "([J[J[J)V" } : Jvm.MethodName) prog_59_method_8_code (3 : Nat) (Option.none : Option Jvm.ClassFile.FieldType), Jvm.Cond.code ({ cls := "com/example/guard3/guard3/P384Field", name := "isZero", desc := "([J)Z" } : Jvm.MethodName) prog_59_method_5_code (3 : Nat) (Option.some Jvm.ClassFile.FieldType.boolean), Jvm.Cond.code ({ cls := "com/example/guard3/guard3/P384Field", name := "canonical", desc := "([J)[J" } : Jvm.MethodName) prog_59_method_16_code (5 : Nat) (Option.some (Jvm.ClassFile.FieldType.array Jvm.ClassFile.FieldType.long)), Jvm.Cond.code ({ cls := "com/example/guard3/guard3/P384Field", name := "propagate", desc := "([J)J" } : Jvm.MethodName) prog_59_method_15_code (6 : Nat) (Option.some Jvm.ClassFile.FieldType.long), Jvm.Cond.code ({ cls := "com/example/guard3/guard3/P384Field", name := "fold", desc := "([JJ)V" } : Jvm.MethodName) prog_59_method_14_code (7 : Nat) (Option.none : Option Jvm.ClassFile.FieldType)]
set_option maxRecDepth 65536 in
theorem codes_eq : words1.filter isCode = codes1 := rfl
theorem w_codes : ∀ c ∈ words1.filter isCode, c.before args0 about1 = true := by
  rw [codes_eq]
  intro c hc
  simp only [codes1, List.mem_cons, List.not_mem_nil, or_false] at hc
  rcases hc with rfl | rfl | rfl | rfl | rfl | rfl | rfl | rfl | rfl | rfl | rfl
  · exact w_c0
  · exact w_c1
  · exact w_c2
  · exact w_c3
  · exact w_c4
  · exact w_c5
  · exact w_c6
  · exact w_c7
  · exact w_c8
  · exact w_c9
  · exact w_c10
set_option maxRecDepth 65536 in
theorem w_t1 : (words1.take 24).all (fun c => isCode c || c.before args0 about1) = true := by decide +kernel
set_option maxRecDepth 65536 in
theorem w_t2 : (words1.drop 24).all (fun c => isCode c || c.before args0 about1) = true := by decide +kernel
theorem w_tables : (allAtoms (Jvm.Cond.code x code maxLocals ret :: tables_1)).before args0 about1 = true := by
  rw [allAtoms_all]
  show words1.all (fun c => c.before args0 about1) = true
  refine all_split ?_ w_codes
  rw [← List.take_append_drop 24 words1, List.all_append, w_t1, w_t2]
  rfl
set_option maxRecDepth 65536 in
theorem w_case : (Jvm.Cond.and given_1 narrow_1).before args0 about1 = true := by decide +kernel
theorem w_applies : (headSpec (Jvm.Cond.code x code maxLocals ret :: tables_1) room_1).applies x e0.platform about1 = true :=
  (Spec.applies_iff w_frames).mpr ⟨w_running, w_runnable, w_alone, w_named, w_hears, w_ripe, w_room, w_tables⟩
theorem atStart : AtStart classFile x code maxLocals ret World_1 tables_1 room_1 Calls_1 rest_1 Pre_1 launch0 p0 e0 about1 theMethod args0 below0 :=
  ⟨lists_1, trivial, launch0.admits_env _ _ _, launch0.least_env, fairChoices_fair.cas, fairChoices_fair.clock, w_frames, w_args, w_heap, w_applies, trivial, trivial, w_case⟩
end start1
theorem witness_1 : WitnessClaimed_1 := ⟨start1.p0, start1.e0, start1.about1, start1.theMethod, start1.args0, start1.below0, start1.atStart⟩
end Jvm.Pilot.@@N@@
