import JvmDerived
import JvmDerived.Pilot.@@N@@Statement
import JvmDerived.Pilot.@@N@@Code
set_option linter.unusedVariables false
set_option linter.unusedSimpArgs false
namespace Jvm.RoadKit
open Sem ClassFile Op Lib Jvm.Stand Jvm.Free Jvm.LawKit
section New
variable {p : Program} {l : Launch} {e : Env} {R : Room} {s : State} {m : MethodId} {args : Array Value} {below : List Frame} {meth : Method} {c : Code} {T : State} {locs : List Loc} {cells slots : Nat}
theorem retI (X : Stand p l e R s m args below meth c T locs cells slots) (hEX : p.tables.exec = Jvm.exec) {pc : Nat} {Ls : Array Slot} {z : Int32} {rest : List Value} (hRT : meth.sig.returnType = some .int) (hd : decode c.code pc = .ok (.ireturn, 1)) {fs : List Frame}
    (hl : ∀ (f : JFrame) (acts : List Action), f.method = m → f.locked = none → f.entered = [] → (doReturn e (T.setTop f) acts (some (.int z))).1 = T.setFrames fs) : Steps p.tables e below (T.setTop (mkF m pc Ls (.int z :: rest))) (T.setFrames fs) := by
  have hm' : T.vm.method? m = some meth := X.method'
  have hn : narrow .int (.int z) = .int z := rfl
  show Steps p.tables e below (T.setTop { method := m, pc := pc, locals := Ls, stack := _ :: rest, locked := none }) _
  jvm_step X.here [X.here.top, hEX, hd, hm', hRT, hn]
  first | (intro acts; rw [hl _ acts rfl rfl rfl]) | rw [hl _ _ rfl rfl rfl]
  exact Steps.refl _
abbrev Us : Slot := .unset
abbrev Zs : Slot := .second
abbrev Nv : Slot := .val .null
abbrev Iv (x : Int32) : Slot := .val (.int x)
abbrev Lv (x : Int64) : Slot := .val (.long x)
abbrev Rv (x : Addr) : Slot := .val (.ref x)
/-- the body comes to its end from st: it returns v, and Q holds of v, of the heap and of the places written -/
def Done (p : Program) (e : Env) (below : List Frame) (s : State) (Q : Option Value → Heap → List Loc → Prop) (kc ks : Nat) (st : State) : Prop :=
  ∃ (s₂ : State) (o : Outcome), Steps p.tables e below st s₂ ∧ s₂.status = .running ∧ Ended s₂ below o ∧ ∃ v L, o = .returned v ∧ Q v s₂.heap L ∧ FrameEnd s o s₂ L kc ks
variable {Q : Option Value → Heap → List Loc → Prop} {kc ks : Nat}
theorem Done.pre {st st' : State} (h : ∀ t, Steps p.tables e below st' t → Steps p.tables e below st t) (D : Done p e below s Q kc ks st') : Done p e below s Q kc ks st := by
  obtain ⟨s₂, o, h1, r⟩ := D
  exact ⟨s₂, o, h _ h1, r⟩
theorem Done.retI (X : Stand p l e R s m args below meth c T locs cells slots) (hEX : p.tables.exec = Jvm.exec) (hLK : meth.locks = false) {pc : Nat} {Ls : Array Slot} {z : Int32} {rest : List Value} (hRT : meth.sig.returnType = some .int) (hd : decode c.code pc = .ok (.ireturn, 1))
    (hQ : Q (some (.int z)) T.heap locs) (hc : cells ≤ kc) (hs : slots ≤ ks) : Done p e below s Q kc ks (T.setTop (mkF m pc Ls (.int z :: rest))) := by
  obtain ⟨fs, hr, hrun, hended, hW, hsame⟩ := X.leave (v := some (.int z)) (fun h => by rw [hRT] at h; cases h) hLK
  exact ⟨_, _, Jvm.RoadKit.retI X hEX hRT hd hr, hrun, hended, _, _, rfl, hQ, ⟨_, rfl⟩, hW, hsame.mono hc hs⟩
theorem Done.retN (X : Stand p l e R s m args below meth c T locs cells slots) (hEX : p.tables.exec = Jvm.exec) (hLK : meth.locks = false) {pc : Nat} {Ls : Array Slot} {z : Int32} {t : FieldType} {rest : List Value} (hRT : meth.sig.returnType = some t) (ht : t = .boolean ∨ t = .byte ∨ t = .char ∨ t = .short) (hd : decode c.code pc = .ok (.ireturn, 1))
    (hQ : Q (some (.int (nar t z))) T.heap locs) (hc : cells ≤ kc) (hs : slots ≤ ks) : Done p e below s Q kc ks (T.setTop (mkF m pc Ls (.int z :: rest))) := by
  obtain ⟨fs, hr, hrun, hended, hW, hsame⟩ := X.leave (v := some (.int (nar t z))) (fun h => by rw [hRT] at h; cases h) hLK
  exact ⟨_, _, Jvm.RoadKit.retN X hEX hRT ht hd hr, hrun, hended, _, _, rfl, hQ, ⟨_, rfl⟩, hW, hsame.mono hc hs⟩
theorem Done.retL (X : Stand p l e R s m args below meth c T locs cells slots) (hEX : p.tables.exec = Jvm.exec) (hLK : meth.locks = false) {pc : Nat} {Ls : Array Slot} {z : Int64} {rest : List Value} (hRT : meth.sig.returnType = some .long) (hd : decode c.code pc = .ok (.lreturn, 1))
    (hQ : Q (some (.long z)) T.heap locs) (hc : cells ≤ kc) (hs : slots ≤ ks) : Done p e below s Q kc ks (T.setTop (mkF m pc Ls (.long z :: rest))) := by
  obtain ⟨fs, hr, hrun, hended, hW, hsame⟩ := X.leave (v := some (.long z)) (fun h => by rw [hRT] at h; cases h) hLK
  exact ⟨_, _, retOut X hEX hRT rfl (Or.inr (Or.inl ⟨rfl, rfl, _, rfl⟩)) hd hr, hrun, hended, _, _, rfl, hQ, ⟨_, rfl⟩, hW, hsame.mono hc hs⟩
theorem Done.retA (X : Stand p l e R s m args below meth c T locs cells slots) (hEX : p.tables.exec = Jvm.exec) (hLK : meth.locks = false) {pc : Nat} {Ls : Array Slot} {w : Value} {t : FieldType} {rest : List Value} (hRT : meth.sig.returnType = some t) (ht : t.isReference = true) (hw : w.isRef = true) (hd : decode c.code pc = .ok (.areturn, 1))
    (hQ : Q (some w) T.heap locs) (hc : cells ≤ kc) (hs : slots ≤ ks) : Done p e below s Q kc ks (T.setTop (mkF m pc Ls (w :: rest))) := by
  obtain ⟨fs, hr, hrun, hended, hW, hsame⟩ := X.leave (v := some w) (fun h => by rw [hRT] at h; cases h) hLK
  have hn : narrow t w = w := by cases t <;> first | rfl | (simp [FieldType.isReference] at ht)
  exact ⟨_, _, retOut X hEX hRT hn (Or.inr (Or.inr (Or.inr (Or.inr ⟨rfl, ht, hw⟩)))) hd hr, hrun, hended, _, _, rfl, hQ, ⟨_, rfl⟩, hW, hsame.mono hc hs⟩
theorem Done.retV (X : Stand p l e R s m args below meth c T locs cells slots) (hEX : p.tables.exec = Jvm.exec) (hLK : meth.locks = false) {pc : Nat} {Ls : Array Slot} (hRT : meth.sig.returnType = none) (hd : decode c.code pc = .ok (.return_, 1))
    (hQ : Q none T.heap locs) (hc : cells ≤ kc) (hs : slots ≤ ks) : Done p e below s Q kc ks (T.setTop (mkF m pc Ls [])) := by
  obtain ⟨fs, hr, hrun, hended, hW, hsame⟩ := X.leave (v := none) (fun _ => rfl) hLK
  exact ⟨_, _, X.returnOut hEX hRT hd hr, hrun, hended, _, _, rfl, hQ, ⟨_, rfl⟩, hW, hsame.mono hc hs⟩
end New
end Jvm.RoadKit
namespace Jvm.RoadKit
open Sem ClassFile Op Lib Jvm.Stand Jvm.Free Jvm.LawKit
theorem dupX2 {p : Program} {l : Launch} {e : Env} {R : Room} {s : State} {m : MethodId} {args : Array Value} {below : List Frame} {meth : Method} {c : Code} {T target : State} {locs : List Loc} {cells slots : Nat} {g : JFrame}
    (X : Stand p l e R s m args below meth c T locs cells slots) (hx : p.tables.exec = Jvm.exec) (hg : g.method = m) {x y z : Value} {rest : List Value} (hd : decode c.code g.pc = .ok (.dup_x2, 1)) (hs : g.stack = x :: y :: z :: rest) (h1 : x.category = 1) (h2 : y.category = 1) (h3 : z.category = 1)
    (hr : Steps p.tables e below (T.setTop { g with pc := g.pc + 1, stack := x :: y :: z :: x :: rest }) target) : Steps p.tables e below (T.setTop g) target := by
  subst hg
  jvm_step X.here [X.here.top, hx, hd, hs, h1, h2, h3]
  exact hr
end Jvm.RoadKit
namespace Jvm.Pilot.@@N@@
open Jvm Jvm.ClassFile Sem Op Lib Jvm.Free Jvm.Stand Jvm.LawKit Jvm.RoadKit Bundle Jvm.Pilot.@@N@@.Jvm.D

theorem own_cast {Z : State} {h : Heap} {a : Addr} {k : ClassId} {ty : FieldType} {n : Int32} {vs vs' : List Value} {d : Value} (q : vs = vs') (A : Arv Z h a k ty n vs d) : Arv Z h a k ty n vs' d := q ▸ A
def own_v (L : List Int32) : List Value := L.map Value.int
def own_by (v : Int64) (s : Int32) : Int32 := nar .byte (((((v.toUInt64 >>> (s &&& 0x3f).toInt64.toUInt64).toInt64)).toInt32).toInt8.toInt32)
def own_by0 (v : Int64) : Int32 := nar .byte ((v.toInt32).toInt8.toInt32)
def own_put (L : List Int32) (o : Nat) (v : Int64) : List Int32 := (((((((L.set (o + 0) (own_by v 56)).set (o + 1) (own_by v 48)).set (o + 2) (own_by v 40)).set (o + 3) (own_by v 32)).set (o + 4) (own_by v 24)).set (o + 5) (own_by v 16)).set (o + 6) (own_by v 8)).set (o + 7) (own_by0 v)
def own_get (L : List Int32) (o : Nat) : Int64 := (((((((((((L.getD (o + 0) 0) &&& (255 : Int32)).toInt64) <<< ((56 : Int32) &&& 0x3f).toInt64) ||| ((((L.getD (o + 1) 0) &&& (255 : Int32)).toInt64) <<< ((48 : Int32) &&& 0x3f).toInt64)) ||| ((((L.getD (o + 2) 0) &&& (255 : Int32)).toInt64) <<< ((40 : Int32) &&& 0x3f).toInt64)) ||| ((((L.getD (o + 3) 0) &&& (255 : Int32)).toInt64) <<< ((32 : Int32) &&& 0x3f).toInt64)) ||| ((((L.getD (o + 4) 0) &&& (255 : Int32)).toInt64) <<< ((24 : Int32) &&& 0x3f).toInt64)) ||| ((((L.getD (o + 5) 0) &&& (255 : Int32)).toInt64) <<< ((16 : Int32) &&& 0x3f).toInt64)) ||| ((((L.getD (o + 6) 0) &&& (255 : Int32)).toInt64) <<< ((8 : Int32) &&& 0x3f).toInt64)) ||| (((L.getD (o + 7) 0) &&& (255 : Int32)).toInt64))
def own_incR : List Int32 → List Int32
  | [] => []
  | x :: xs => if ((x + (1 : Int32)).toInt8.toInt32) = (0 : Int32) then (nar .byte ((x + (1 : Int32)).toInt8.toInt32)) :: own_incR xs else (nar .byte ((x + (1 : Int32)).toInt8.toInt32)) :: xs
def own_incL (L : List Int32) : List Int32 := (own_incR L.reverse).reverse
def own_i1 (t1 t2 : Int64) : Int64 := if t2 + (1 : Int64) = (0 : Int64) then t1 + (1 : Int64) else t1
def own_i0 (t0 t1 t2 : Int64) : Int64 := if t2 + (1 : Int64) = (0 : Int64) then (if t1 + (1 : Int64) = (0 : Int64) then t0 + (1 : Int64) else t0) else t0
theorem own_vlen (L : List Int32) : (own_v L).length = L.length := by rw [own_v, List.length_map]
theorem own_vset (L : List Int32) (i : Nat) (x : Int32) : (own_v L).set i (.int x) = own_v (L.set i x) := by rw [own_v, own_v, List.map_set]
theorem own_vget (L : List Int32) (i : Nat) : (own_v L).getD i (.int (0 : Int32)) = .int (L.getD i 0) := by
  rw [own_v, List.getD_eq_getElem?_getD, List.getD_eq_getElem?_getD, List.getElem?_map]
  cases L[i]? <;> rfl
theorem own_oj (off : Int32) (o : Nat) (j : Int32) (k : Nat) (h : off.toInt = (o : Int) ∧ o ≤ 16) (hj : j.toInt = (k : Int) ∧ k ≤ 7) : (off + j).toInt = (o + k : Nat) := by
  have h1 := c_iadd off j
  have h2 := rng32 (off + j)
  omega
theorem own_ix0 (off : Int32) (o : Nat) (h : off.toInt = (o : Int) ∧ o ≤ 16) : (¬ off < 0 ∧ off < (24 : Int32)) ∧ off.toNatClampNeg = o + 0 := by
  have e0 : (0 : Int32).toInt = 0 := rfl
  have e24 : (24 : Int32).toInt = 24 := rfl
  rw [Int32.lt_iff_toInt_lt, Int32.lt_iff_toInt_lt]
  refine ⟨by omega, ?_⟩
  simp only [Int32.toNatClampNeg]; omega
theorem own_ixj (off : Int32) (o : Nat) (j : Int32) (k : Nat) (h : off.toInt = (o : Int) ∧ o ≤ 16) (hj : j.toInt = (k : Int) ∧ k ≤ 7) : (¬ (off + j) < 0 ∧ (off + j) < (24 : Int32)) ∧ (off + j).toNatClampNeg = o + k := by
  have h1 := own_oj off o j k h hj
  have e0 : (0 : Int32).toInt = 0 := rfl
  have e24 : (24 : Int32).toInt = 24 := rfl
  rw [Int32.lt_iff_toInt_lt, Int32.lt_iff_toInt_lt]
  refine ⟨by omega, ?_⟩
  simp only [Int32.toNatClampNeg]; omega
theorem own_putlen (L : List Int32) (o : Nat) (v : Int64) : (own_put L o v).length = L.length := by simp [own_put]
theorem own_incRlen (L : List Int32) : (own_incR L).length = L.length := by
  induction L with
  | nil => rfl
  | cons x xs ih =>
    rw [own_incR]
    split
    · simp [ih]
    · simp
theorem own_inclen (L : List Int32) : (own_incL L).length = L.length := by rw [own_incL, List.length_reverse, own_incRlen, List.length_reverse]
theorem own_snoc (A : List Int32) (h : A ≠ []) : ∃ A' x, A = A' ++ [x] := ⟨A.dropLast, A.getLast h, (List.dropLast_concat_getLast h).symm⟩
theorem own_ilen (i : Int32) (A B : List Int32) (hA : i.toInt + 1 = (A.length : Int)) (hi : i < (0 : Int32)) : A = [] := by
  rw [Int32.lt_iff_toInt_lt] at hi
  have e0 : (0 : Int32).toInt = 0 := rfl
  exact List.length_eq_zero_iff.mp (by omega)
theorem own_inz (i : Int32) (A : List Int32) (hA : i.toInt + 1 = (A.length : Int)) (hi : ¬ i < (0 : Int32)) : A ≠ [] := fun q => by
  rw [Int32.lt_iff_toInt_lt] at hi
  have e0 : (0 : Int32).toInt = 0 := rfl
  rw [q] at hA; simp at hA; omega
theorem own_iix (i : Int32) (A' B : List Int32) (x : Int32) (hA : i.toInt + 1 = ((A' ++ [x]).length : Int)) (hB : (A' ++ [x]).length + B.length = 24) : (¬ i < 0 ∧ i < (24 : Int32)) ∧ i.toNatClampNeg = A'.length := by
  have e0 : (0 : Int32).toInt = 0 := rfl
  have e24 : (24 : Int32).toInt = 24 := rfl
  rw [List.length_append] at hA hB
  simp only [List.length_cons, List.length_nil] at hA hB
  rw [Int32.lt_iff_toInt_lt, Int32.lt_iff_toInt_lt]
  refine ⟨by omega, ?_⟩
  simp only [Int32.toNatClampNeg]; omega
theorem own_at (A' B : List Int32) (x i : Int32) (h : i.toNatClampNeg = A'.length) : (own_v ((A' ++ [x]) ++ B)).getD i.toNatClampNeg (.int (0 : Int32)) = .int x := by
  rw [own_vget, h]; simp [List.getD_eq_getElem?_getD]
theorem own_setat (A' B : List Int32) (x y : Int32) : (own_v ((A' ++ [x]) ++ B)).set A'.length (.int y) = own_v (A' ++ (y :: B)) := by
  rw [own_vset]; congr 1; simp [List.set_append]
theorem own_alen (A' B : List Int32) (x : Int32) : A'.length < (own_v ((A' ++ [x]) ++ B)).length := by
  rw [own_vlen]; simp
theorem own_more (L A' B : List Int32) (x : Int32) (h : (own_incR (A' ++ [x]).reverse).reverse ++ B = own_incL L) (hz : ((x + (1 : Int32)).toInt8.toInt32) = (0 : Int32)) : (own_incR A'.reverse).reverse ++ ((nar .byte ((x + (1 : Int32)).toInt8.toInt32)) :: B) = own_incL L := by
  rw [← h, List.reverse_append, List.reverse_cons, List.reverse_nil, List.nil_append, List.singleton_append, own_incR, if_pos hz, List.reverse_cons]; simp
theorem own_stop (L A' B : List Int32) (x : Int32) (h : (own_incR (A' ++ [x]).reverse).reverse ++ B = own_incL L) (hz : ¬ ((x + (1 : Int32)).toInt8.toInt32) = (0 : Int32)) : A' ++ ((nar .byte ((x + (1 : Int32)).toInt8.toInt32)) :: B) = own_incL L := by
  rw [← h, List.reverse_append, List.reverse_cons, List.reverse_nil, List.nil_append, List.singleton_append, own_incR, if_neg hz, List.reverse_cons, List.reverse_reverse]; simp
theorem own_idec (i : Int32) (A' : List Int32) (x : Int32) (hA : i.toInt + 1 = ((A' ++ [x]).length : Int)) (hi : ¬ i < (0 : Int32)) : (i + (-1 : Int32)).toInt + 1 = (A'.length : Int) := by
  rw [Int32.lt_iff_toInt_lt] at hi
  have e0 : (0 : Int32).toInt = 0 := rfl
  have e1 : (-1 : Int32).toInt = -1 := rfl
  have h1 := c_iadd i (-1 : Int32)
  have h2 := rng32 (i + (-1 : Int32))
  have h3 := rng32 i
  rw [List.length_append] at hA
  simp only [List.length_cons, List.length_nil] at hA
  omega
/-! the numbers -/
def own_n (x : Int64) : Int := x.toInt % 18446744073709551616
theorem own_n_inj (x y : Int64) (h : own_n x = own_n y) : x = y := by
  have h1 := rng64 x
  have h2 := rng64 y
  rw [own_n, own_n] at h
  apply Int64.toInt_inj.mp; omega
theorem own_n_rng (x : Int64) : 0 ≤ own_n x ∧ own_n x < 18446744073709551616 := by rw [own_n]; omega
theorem own_n_inc (x : Int64) : own_n (x + (1 : Int64)) = (own_n x + 1) % 18446744073709551616 := by
  have h1 := c_ladd x (1 : Int64)
  have e1 : (1 : Int64).toInt = 1 := rfl
  rw [own_n, own_n]; omega
theorem own_n_z (x : Int64) : (x + (1 : Int64) = (0 : Int64)) ↔ own_n x = 18446744073709551615 := by
  constructor
  · intro h
    have h1 := own_n_inc x
    rw [h] at h1
    have h2 := own_n_rng x
    have e0 : own_n (0 : Int64) = 0 := rfl
    omega
  · intro h
    apply own_n_inj
    rw [own_n_inc, h]; rfl
theorem own_e (b : Int32) : (b &&& (255 : Int32)).toInt64.toInt = b.toInt % 256 := by
  rw [c_i2l]; exact c_mask b (255 : Int32) 8 (by decide) (by decide)
theorem own_sh (b s : Int32) (k : Nat) (hk : s.toBitVec.toNat % 64 = k) (h48 : k ≤ 48) : ((b &&& (255 : Int32)).toInt64 <<< (s &&& 0x3f).toInt64).toInt = (b.toInt % 256) * (2 ^ k : Nat) := by
  have h1 := c_lshl (b &&& (255 : Int32)).toInt64 s k hk
  rw [own_e] at h1
  have h2 := rng64 ((b &&& (255 : Int32)).toInt64 <<< (s &&& 0x3f).toInt64)
  have h3 : (2 ^ k : Nat) ≤ 2 ^ 48 := Nat.pow_le_pow_right (by decide) h48
  have e48 : (2 ^ 48 : Nat) = 281474976710656 := rfl
  rw [e48] at h3
  have h4 : 0 ≤ b.toInt % 256 ∧ b.toInt % 256 < 256 := by omega
  generalize (2 ^ k : Nat) = N at h1 h3 ⊢
  have h5 : (b.toInt % 256) * (N : Int) ≤ 255 * (N : Int) := Int.mul_le_mul_of_nonneg_right (by omega) (Int.natCast_nonneg N)
  have h6 : 0 ≤ (b.toInt % 256) * (N : Int) := Int.mul_nonneg (by omega) (Int.natCast_nonneg N)
  generalize (b.toInt % 256) * (N : Int) = m at *
  omega
theorem own_or8 (b0 b1 b2 b3 b4 b5 b6 b7 : Int32) : own_n (((((((((b0 &&& (255 : Int32)).toInt64 <<< ((56 : Int32) &&& 0x3f).toInt64) ||| ((b1 &&& (255 : Int32)).toInt64 <<< ((48 : Int32) &&& 0x3f).toInt64)) ||| ((b2 &&& (255 : Int32)).toInt64 <<< ((40 : Int32) &&& 0x3f).toInt64)) ||| ((b3 &&& (255 : Int32)).toInt64 <<< ((32 : Int32) &&& 0x3f).toInt64)) ||| ((b4 &&& (255 : Int32)).toInt64 <<< ((24 : Int32) &&& 0x3f).toInt64)) ||| ((b5 &&& (255 : Int32)).toInt64 <<< ((16 : Int32) &&& 0x3f).toInt64)) ||| ((b6 &&& (255 : Int32)).toInt64 <<< ((8 : Int32) &&& 0x3f).toInt64)) ||| (b7 &&& (255 : Int32)).toInt64) = (b0.toInt % 256) * 72057594037927936 + (b1.toInt % 256) * 281474976710656 + (b2.toInt % 256) * 1099511627776 + (b3.toInt % 256) * 4294967296 + (b4.toInt % 256) * 16777216 + (b5.toInt % 256) * 65536 + (b6.toInt % 256) * 256 + (b7.toInt % 256) * 1 := by
  have s0 := c_lshl (b0 &&& (255 : Int32)).toInt64 (56 : Int32) 56 (by decide)
  rw [own_e] at s0
  have s1 := own_sh b1 (48 : Int32) 48 (by decide) (by decide)
  have s2 := own_sh b2 (40 : Int32) 40 (by decide) (by decide)
  have s3 := own_sh b3 (32 : Int32) 32 (by decide) (by decide)
  have s4 := own_sh b4 (24 : Int32) 24 (by decide) (by decide)
  have s5 := own_sh b5 (16 : Int32) 16 (by decide) (by decide)
  have s6 := own_sh b6 (8 : Int32) 8 (by decide) (by decide)
  have s7 := own_e b7
  have r0 : 0 ≤ b0.toInt % 256 ∧ b0.toInt % 256 < 256 := by omega
  have r1 : 0 ≤ b1.toInt % 256 ∧ b1.toInt % 256 < 256 := by omega
  have r2 : 0 ≤ b2.toInt % 256 ∧ b2.toInt % 256 < 256 := by omega
  have r3 : 0 ≤ b3.toInt % 256 ∧ b3.toInt % 256 < 256 := by omega
  have r4 : 0 ≤ b4.toInt % 256 ∧ b4.toInt % 256 < 256 := by omega
  have r5 : 0 ≤ b5.toInt % 256 ∧ b5.toInt % 256 < 256 := by omega
  have r6 : 0 ≤ b6.toInt % 256 ∧ b6.toInt % 256 < 256 := by omega
  have r7 : 0 ≤ b7.toInt % 256 ∧ b7.toInt % 256 < 256 := by omega
  have z0 := rng64 ((b0 &&& (255 : Int32)).toInt64 <<< ((56 : Int32) &&& 0x3f).toInt64)
  generalize hA0 : ((b0 &&& (255 : Int32)).toInt64 <<< ((56 : Int32) &&& 0x3f).toInt64) = A0 at *
  generalize hA1 : ((b1 &&& (255 : Int32)).toInt64 <<< ((48 : Int32) &&& 0x3f).toInt64) = A1 at *
  generalize hA2 : ((b2 &&& (255 : Int32)).toInt64 <<< ((40 : Int32) &&& 0x3f).toInt64) = A2 at *
  generalize hA3 : ((b3 &&& (255 : Int32)).toInt64 <<< ((32 : Int32) &&& 0x3f).toInt64) = A3 at *
  generalize hA4 : ((b4 &&& (255 : Int32)).toInt64 <<< ((24 : Int32) &&& 0x3f).toInt64) = A4 at *
  generalize hA5 : ((b5 &&& (255 : Int32)).toInt64 <<< ((16 : Int32) &&& 0x3f).toInt64) = A5 at *
  generalize hA6 : ((b6 &&& (255 : Int32)).toInt64 <<< ((8 : Int32) &&& 0x3f).toInt64) = A6 at *
  generalize hA7 : (b7 &&& (255 : Int32)).toInt64 = A7 at *
  generalize hB0 : b0.toInt % 256 = B0 at *
  generalize hB1 : b1.toInt % 256 = B1 at *
  generalize hB2 : b2.toInt % 256 = B2 at *
  generalize hB3 : b3.toInt % 256 = B3 at *
  generalize hB4 : b4.toInt % 256 = B4 at *
  generalize hB5 : b5.toInt % 256 = B5 at *
  generalize hB6 : b6.toInt % 256 = B6 at *
  generalize hB7 : b7.toInt % 256 = B7 at *
  simp only [show ((2 ^ 56 : Nat) : Int) = 72057594037927936 from rfl, show ((2 ^ 48 : Nat) : Int) = 281474976710656 from rfl, show ((2 ^ 40 : Nat) : Int) = 1099511627776 from rfl, show ((2 ^ 32 : Nat) : Int) = 4294967296 from rfl, show ((2 ^ 24 : Nat) : Int) = 16777216 from rfl, show ((2 ^ 16 : Nat) : Int) = 65536 from rfl, show ((2 ^ 8 : Nat) : Int) = 256 from rfl] at s0 s1 s2 s3 s4 s5 s6
  have t1 := c_orL A0 A1 56 (by decide) 72057594037927936 rfl (by omega) (by omega) (by omega)
  have u1 := rng64 (A0 ||| A1)
  have t2 := c_orL (A0 ||| A1) A2 48 (by decide) 281474976710656 rfl (by omega) (by omega) (by omega)
  have u2 := rng64 ((A0 ||| A1) ||| A2)
  have t3 := c_orL ((A0 ||| A1) ||| A2) A3 40 (by decide) 1099511627776 rfl (by omega) (by omega) (by omega)
  have u3 := rng64 (((A0 ||| A1) ||| A2) ||| A3)
  have t4 := c_orL (((A0 ||| A1) ||| A2) ||| A3) A4 32 (by decide) 4294967296 rfl (by omega) (by omega) (by omega)
  have u4 := rng64 ((((A0 ||| A1) ||| A2) ||| A3) ||| A4)
  have t5 := c_orL ((((A0 ||| A1) ||| A2) ||| A3) ||| A4) A5 24 (by decide) 16777216 rfl (by omega) (by omega) (by omega)
  have u5 := rng64 (((((A0 ||| A1) ||| A2) ||| A3) ||| A4) ||| A5)
  have t6 := c_orL (((((A0 ||| A1) ||| A2) ||| A3) ||| A4) ||| A5) A6 16 (by decide) 65536 rfl (by omega) (by omega) (by omega)
  have u6 := rng64 ((((((A0 ||| A1) ||| A2) ||| A3) ||| A4) ||| A5) ||| A6)
  have t7 := c_orL ((((((A0 ||| A1) ||| A2) ||| A3) ||| A4) ||| A5) ||| A6) A7 8 (by decide) 256 rfl (by omega) (by omega) (by omega)
  have u7 := rng64 (((((((A0 ||| A1) ||| A2) ||| A3) ||| A4) ||| A5) ||| A6) ||| A7)
  rw [own_n]
  omega
def own_val : List Int32 → Int
  | [] => 0
  | x :: xs => x.toInt % 256 + 256 * own_val xs
theorem own_val_rng (L : List Int32) : 0 ≤ own_val L ∧ own_val L < ((256 ^ L.length : Nat) : Int) := by
  induction L with
  | nil => decide
  | cons x xs ih =>
    rw [own_val, List.length_cons, Nat.pow_succ]
    generalize 256 ^ xs.length = P at *
    omega
theorem own_bz (x : Int32) : ((((x + (1 : Int32)).toInt8.toInt32) = (0 : Int32)) ↔ x.toInt % 256 = 255) ∧ (nar .byte ((x + (1 : Int32)).toInt8.toInt32)).toInt % 256 = (x.toInt % 256 + 1) % 256 := by
  have h1 := c_iadd x (1 : Int32)
  have e1 : (1 : Int32).toInt = 1 := rfl
  have e0 : (0 : Int32).toInt = 0 := rfl
  have h2 := c_i2b (x + (1 : Int32))
  have h3 := c_i2b ((x + (1 : Int32)).toInt8.toInt32)
  have h4 : nar .byte ((x + (1 : Int32)).toInt8.toInt32) = ((x + (1 : Int32)).toInt8.toInt32).toInt8.toInt32 := rfl
  rw [h4, ← Int32.toInt_inj, e0]
  refine ⟨by omega, by omega⟩
theorem own_val_inc (L : List Int32) : own_val (own_incR L) = if own_val L + 1 = ((256 ^ L.length : Nat) : Int) then 0 else own_val L + 1 := by
  induction L with
  | nil => rfl
  | cons x xs ih =>
    obtain ⟨h1, h2⟩ := own_bz x
    have hr := own_val_rng xs
    rw [own_incR]
    by_cases hz : ((x + (1 : Int32)).toInt8.toInt32) = (0 : Int32)
    · rw [if_pos hz, own_val, own_val, ih, h2, List.length_cons, Nat.pow_succ]
      have h3 := h1.mp hz
      generalize 256 ^ xs.length = P at *
      by_cases hq : own_val xs + 1 = (P : Int)
      · rw [if_pos hq, if_pos (by omega)]; omega
      · rw [if_neg hq, if_neg (by omega)]; omega
    · rw [if_neg hz, own_val, own_val, h2, List.length_cons, Nat.pow_succ]
      have h3 : ¬ x.toInt % 256 = 255 := fun q => hz (h1.mpr q)
      generalize 256 ^ xs.length = P at *
      rw [if_neg (by omega)]; omega
theorem own_words (L : List Int32) (hL : L.length = 24) : own_val L.reverse = own_n (own_get L 0) * 340282366920938463463374607431768211456 + own_n (own_get L 8) * 18446744073709551616 + own_n (own_get L 16) := by
  match L, hL with
  | [x0, x1, x2, x3, x4, x5, x6, x7, x8, x9, x10, x11, x12, x13, x14, x15, x16, x17, x18, x19, x20, x21, x22, x23], _ =>
    have g0 : own_n (own_get [x0, x1, x2, x3, x4, x5, x6, x7, x8, x9, x10, x11, x12, x13, x14, x15, x16, x17, x18, x19, x20, x21, x22, x23] 0) = _ := own_or8 x0 x1 x2 x3 x4 x5 x6 x7
    have g1 : own_n (own_get [x0, x1, x2, x3, x4, x5, x6, x7, x8, x9, x10, x11, x12, x13, x14, x15, x16, x17, x18, x19, x20, x21, x22, x23] 8) = _ := own_or8 x8 x9 x10 x11 x12 x13 x14 x15
    have g2 : own_n (own_get [x0, x1, x2, x3, x4, x5, x6, x7, x8, x9, x10, x11, x12, x13, x14, x15, x16, x17, x18, x19, x20, x21, x22, x23] 16) = _ := own_or8 x16 x17 x18 x19 x20 x21 x22 x23
    rw [g0, g1, g2]
    show own_val [x23, x22, x21, x20, x19, x18, x17, x16, x15, x14, x13, x12, x11, x10, x9, x8, x7, x6, x5, x4, x3, x2, x1, x0] = _
    simp only [own_val]
    generalize x0.toInt % 256 = y0
    generalize x1.toInt % 256 = y1
    generalize x2.toInt % 256 = y2
    generalize x3.toInt % 256 = y3
    generalize x4.toInt % 256 = y4
    generalize x5.toInt % 256 = y5
    generalize x6.toInt % 256 = y6
    generalize x7.toInt % 256 = y7
    generalize x8.toInt % 256 = y8
    generalize x9.toInt % 256 = y9
    generalize x10.toInt % 256 = y10
    generalize x11.toInt % 256 = y11
    generalize x12.toInt % 256 = y12
    generalize x13.toInt % 256 = y13
    generalize x14.toInt % 256 = y14
    generalize x15.toInt % 256 = y15
    generalize x16.toInt % 256 = y16
    generalize x17.toInt % 256 = y17
    generalize x18.toInt % 256 = y18
    generalize x19.toInt % 256 = y19
    generalize x20.toInt % 256 = y20
    generalize x21.toInt % 256 = y21
    generalize x22.toInt % 256 = y22
    generalize x23.toInt % 256 = y23
    omega
theorem own_step (L : List Int32) (t0 t1 t2 : Int64) (hL : L.length = 24) (h : own_get L 0 = t0 ∧ own_get L 8 = t1 ∧ own_get L 16 = t2) :
    own_get (own_incL L) 0 = own_i0 t0 t1 t2 ∧ own_get (own_incL L) 8 = own_i1 t1 t2 ∧ own_get (own_incL L) 16 = t2 + (1 : Int64) := by
  have w1 := own_words L hL
  have w2 := own_words (own_incL L) (by rw [own_inclen, hL])
  have w3 := own_val_inc L.reverse
  have w4 : (own_incL L).reverse = own_incR L.reverse := by rw [own_incL, List.reverse_reverse]
  rw [w4] at w2
  rw [w2, List.length_reverse, hL, w1, h.1, h.2.1, h.2.2] at w3
  have e : ((256 ^ 24 : Nat) : Int) = 6277101735386680763835789423207666416102355444464034512896 := rfl
  rw [e] at w3
  have a0 := own_n_rng t0
  have a1 := own_n_rng t1
  have a2 := own_n_rng t2
  have b0 := own_n_rng (own_get (own_incL L) 0)
  have b1 := own_n_rng (own_get (own_incL L) 8)
  have b2 := own_n_rng (own_get (own_incL L) 16)
  have c0 := own_n_inc t0
  have c1 := own_n_inc t1
  have c2 := own_n_inc t2
  have d1 := own_n_z t1
  have d2 := own_n_z t2
  have k2 : own_n (own_get (own_incL L) 16) = own_n (t2 + (1 : Int64)) := by
    split at w3 <;> omega
  have k1 : own_n (own_get (own_incL L) 8) = own_n (own_i1 t1 t2) := by
    rw [own_i1]
    by_cases q : t2 + (1 : Int64) = (0 : Int64)
    · rw [if_pos q]; have := d2.mp q; split at w3 <;> omega
    · rw [if_neg q]; have : ¬ own_n t2 = 18446744073709551615 := fun z => q (d2.mpr z)
      split at w3 <;> omega
  have k0 : own_n (own_get (own_incL L) 0) = own_n (own_i0 t0 t1 t2) := by
    rw [own_i0]
    by_cases q : t2 + (1 : Int64) = (0 : Int64)
    · rw [if_pos q]
      have := d2.mp q
      by_cases r : t1 + (1 : Int64) = (0 : Int64)
      · rw [if_pos r]; have := d1.mp r; split at w3 <;> omega
      · rw [if_neg r]; have : ¬ own_n t1 = 18446744073709551615 := fun z => r (d1.mpr z)
        split at w3 <;> omega
    · rw [if_neg q]; have : ¬ own_n t2 = 18446744073709551615 := fun z => q (d2.mpr z)
      split at w3 <;> omega
  exact ⟨own_n_inj _ _ k0, own_n_inj _ _ k1, own_n_inj _ _ k2⟩
theorem own_byn (v : Int64) (s : Int32) (k : Nat) (hk : s.toBitVec.toNat % 64 = k) (h0 : 0 < k) : (own_by v s).toInt % 256 = (own_n v / (2 ^ k : Nat)) % 256 := by
  have h1 := c_lushr v s k hk h0
  have h2 := c_l2i ((v.toUInt64 >>> (s &&& 0x3f).toInt64.toUInt64).toInt64)
  have h3 := c_i2b (((v.toUInt64 >>> (s &&& 0x3f).toInt64.toUInt64).toInt64).toInt32)
  have h4 := c_i2b ((((v.toUInt64 >>> (s &&& 0x3f).toInt64.toUInt64).toInt64).toInt32).toInt8.toInt32)
  have h5 : own_by v s = ((((v.toUInt64 >>> (s &&& 0x3f).toInt64.toUInt64).toInt64).toInt32).toInt8.toInt32).toInt8.toInt32 := rfl
  rw [h5, own_n, ← h1]; omega
theorem own_by0n (v : Int64) : (own_by0 v).toInt % 256 = own_n v % 256 := by
  have h2 := c_l2i v
  have h3 := c_i2b v.toInt32
  have h4 := c_i2b (v.toInt32.toInt8.toInt32)
  have h5 : own_by0 v = (v.toInt32.toInt8.toInt32).toInt8.toInt32 := rfl
  rw [h5, own_n]; omega
theorem own_sum8 (n : Int) (h : 0 ≤ n ∧ n < 18446744073709551616) : ((n / 72057594037927936) % 256) * 72057594037927936 + ((n / 281474976710656) % 256) * 281474976710656 + ((n / 1099511627776) % 256) * 1099511627776 + ((n / 4294967296) % 256) * 4294967296 + ((n / 16777216) % 256) * 16777216 + ((n / 65536) % 256) * 65536 + ((n / 256) % 256) * 256 + (n % 256) * 1 = n := by omega
theorem own_word (v : Int64) (b0 b1 b2 b3 b4 b5 b6 b7 : Int32) (h0 : b0 = own_by v 56) (h1 : b1 = own_by v 48) (h2 : b2 = own_by v 40) (h3 : b3 = own_by v 32) (h4 : b4 = own_by v 24) (h5 : b5 = own_by v 16) (h6 : b6 = own_by v 8) (h7 : b7 = own_by0 v) : (((((((((b0 &&& (255 : Int32)).toInt64 <<< ((56 : Int32) &&& 0x3f).toInt64) ||| ((b1 &&& (255 : Int32)).toInt64 <<< ((48 : Int32) &&& 0x3f).toInt64)) ||| ((b2 &&& (255 : Int32)).toInt64 <<< ((40 : Int32) &&& 0x3f).toInt64)) ||| ((b3 &&& (255 : Int32)).toInt64 <<< ((32 : Int32) &&& 0x3f).toInt64)) ||| ((b4 &&& (255 : Int32)).toInt64 <<< ((24 : Int32) &&& 0x3f).toInt64)) ||| ((b5 &&& (255 : Int32)).toInt64 <<< ((16 : Int32) &&& 0x3f).toInt64)) ||| ((b6 &&& (255 : Int32)).toInt64 <<< ((8 : Int32) &&& 0x3f).toInt64)) ||| (b7 &&& (255 : Int32)).toInt64) = v := by
  apply own_n_inj
  rw [own_or8, h0, h1, h2, h3, h4, h5, h6, h7, own_byn v 56 56 (by decide) (by decide), own_byn v 48 48 (by decide) (by decide), own_byn v 40 40 (by decide) (by decide), own_byn v 32 32 (by decide) (by decide), own_byn v 24 24 (by decide) (by decide), own_byn v 16 16 (by decide) (by decide), own_byn v 8 8 (by decide) (by decide), own_by0n]
  have := own_sum8 (own_n v) (own_n_rng v)
  simp only [show ((2 ^ 56 : Nat) : Int) = 72057594037927936 from rfl, show ((2 ^ 48 : Nat) : Int) = 281474976710656 from rfl, show ((2 ^ 40 : Nat) : Int) = 1099511627776 from rfl, show ((2 ^ 32 : Nat) : Int) = 4294967296 from rfl, show ((2 ^ 24 : Nat) : Int) = 16777216 from rfl, show ((2 ^ 16 : Nat) : Int) = 65536 from rfl, show ((2 ^ 8 : Nat) : Int) = 256 from rfl]
  exact this
def own_z24 : List Int32 := [(0 : Int32), (0 : Int32), (0 : Int32), (0 : Int32), (0 : Int32), (0 : Int32), (0 : Int32), (0 : Int32), (0 : Int32), (0 : Int32), (0 : Int32), (0 : Int32), (0 : Int32), (0 : Int32), (0 : Int32), (0 : Int32), (0 : Int32), (0 : Int32), (0 : Int32), (0 : Int32), (0 : Int32), (0 : Int32), (0 : Int32), (0 : Int32)]
def own_first (c b a : Int64) : List Int32 := own_put (own_put (own_put own_z24 0 c) 8 b) 16 a
theorem own_firstlen (c b a : Int64) : (own_first c b a).length = 24 := by rw [own_first, own_putlen, own_putlen, own_putlen]; rfl
theorem own_p0 (x0 x1 x2 x3 x4 x5 x6 x7 x8 x9 x10 x11 x12 x13 x14 x15 x16 x17 x18 x19 x20 x21 x22 x23 v0 v1 v2 v3 v4 v5 v6 v7 : Int32) : (((((((([x0, x1, x2, x3, x4, x5, x6, x7, x8, x9, x10, x11, x12, x13, x14, x15, x16, x17, x18, x19, x20, x21, x22, x23].set (0 + 0) v0).set (0 + 1) v1).set (0 + 2) v2).set (0 + 3) v3).set (0 + 4) v4).set (0 + 5) v5).set (0 + 6) v6).set (0 + 7) v7) = [v0, v1, v2, v3, v4, v5, v6, v7, x8, x9, x10, x11, x12, x13, x14, x15, x16, x17, x18, x19, x20, x21, x22, x23] := rfl
theorem own_p8 (x0 x1 x2 x3 x4 x5 x6 x7 x8 x9 x10 x11 x12 x13 x14 x15 x16 x17 x18 x19 x20 x21 x22 x23 v0 v1 v2 v3 v4 v5 v6 v7 : Int32) : (((((((([x0, x1, x2, x3, x4, x5, x6, x7, x8, x9, x10, x11, x12, x13, x14, x15, x16, x17, x18, x19, x20, x21, x22, x23].set (8 + 0) v0).set (8 + 1) v1).set (8 + 2) v2).set (8 + 3) v3).set (8 + 4) v4).set (8 + 5) v5).set (8 + 6) v6).set (8 + 7) v7) = [x0, x1, x2, x3, x4, x5, x6, x7, v0, v1, v2, v3, v4, v5, v6, v7, x16, x17, x18, x19, x20, x21, x22, x23] := rfl
theorem own_p16 (x0 x1 x2 x3 x4 x5 x6 x7 x8 x9 x10 x11 x12 x13 x14 x15 x16 x17 x18 x19 x20 x21 x22 x23 v0 v1 v2 v3 v4 v5 v6 v7 : Int32) : (((((((([x0, x1, x2, x3, x4, x5, x6, x7, x8, x9, x10, x11, x12, x13, x14, x15, x16, x17, x18, x19, x20, x21, x22, x23].set (16 + 0) v0).set (16 + 1) v1).set (16 + 2) v2).set (16 + 3) v3).set (16 + 4) v4).set (16 + 5) v5).set (16 + 6) v6).set (16 + 7) v7) = [x0, x1, x2, x3, x4, x5, x6, x7, x8, x9, x10, x11, x12, x13, x14, x15, v0, v1, v2, v3, v4, v5, v6, v7] := rfl
theorem own_firstE (c b a : Int64) : own_first c b a = [(own_by c 56), (own_by c 48), (own_by c 40), (own_by c 32), (own_by c 24), (own_by c 16), (own_by c 8), (own_by0 c), (own_by b 56), (own_by b 48), (own_by b 40), (own_by b 32), (own_by b 24), (own_by b 16), (own_by b 8), (own_by0 b), (own_by a 56), (own_by a 48), (own_by a 40), (own_by a 32), (own_by a 24), (own_by a 16), (own_by a 8), (own_by0 a)] := by
  have e1 : own_put own_z24 0 c = [(own_by c 56), (own_by c 48), (own_by c 40), (own_by c 32), (own_by c 24), (own_by c 16), (own_by c 8), (own_by0 c), (0 : Int32), (0 : Int32), (0 : Int32), (0 : Int32), (0 : Int32), (0 : Int32), (0 : Int32), (0 : Int32), (0 : Int32), (0 : Int32), (0 : Int32), (0 : Int32), (0 : Int32), (0 : Int32), (0 : Int32), (0 : Int32)] := own_p0 (0 : Int32) (0 : Int32) (0 : Int32) (0 : Int32) (0 : Int32) (0 : Int32) (0 : Int32) (0 : Int32) (0 : Int32) (0 : Int32) (0 : Int32) (0 : Int32) (0 : Int32) (0 : Int32) (0 : Int32) (0 : Int32) (0 : Int32) (0 : Int32) (0 : Int32) (0 : Int32) (0 : Int32) (0 : Int32) (0 : Int32) (0 : Int32) (own_by c 56) (own_by c 48) (own_by c 40) (own_by c 32) (own_by c 24) (own_by c 16) (own_by c 8) (own_by0 c)
  have e2 : own_put [(own_by c 56), (own_by c 48), (own_by c 40), (own_by c 32), (own_by c 24), (own_by c 16), (own_by c 8), (own_by0 c), (0 : Int32), (0 : Int32), (0 : Int32), (0 : Int32), (0 : Int32), (0 : Int32), (0 : Int32), (0 : Int32), (0 : Int32), (0 : Int32), (0 : Int32), (0 : Int32), (0 : Int32), (0 : Int32), (0 : Int32), (0 : Int32)] 8 b = [(own_by c 56), (own_by c 48), (own_by c 40), (own_by c 32), (own_by c 24), (own_by c 16), (own_by c 8), (own_by0 c), (own_by b 56), (own_by b 48), (own_by b 40), (own_by b 32), (own_by b 24), (own_by b 16), (own_by b 8), (own_by0 b), (0 : Int32), (0 : Int32), (0 : Int32), (0 : Int32), (0 : Int32), (0 : Int32), (0 : Int32), (0 : Int32)] := own_p8 (own_by c 56) (own_by c 48) (own_by c 40) (own_by c 32) (own_by c 24) (own_by c 16) (own_by c 8) (own_by0 c) (0 : Int32) (0 : Int32) (0 : Int32) (0 : Int32) (0 : Int32) (0 : Int32) (0 : Int32) (0 : Int32) (0 : Int32) (0 : Int32) (0 : Int32) (0 : Int32) (0 : Int32) (0 : Int32) (0 : Int32) (0 : Int32) (own_by b 56) (own_by b 48) (own_by b 40) (own_by b 32) (own_by b 24) (own_by b 16) (own_by b 8) (own_by0 b)
  have e3 : own_put [(own_by c 56), (own_by c 48), (own_by c 40), (own_by c 32), (own_by c 24), (own_by c 16), (own_by c 8), (own_by0 c), (own_by b 56), (own_by b 48), (own_by b 40), (own_by b 32), (own_by b 24), (own_by b 16), (own_by b 8), (own_by0 b), (0 : Int32), (0 : Int32), (0 : Int32), (0 : Int32), (0 : Int32), (0 : Int32), (0 : Int32), (0 : Int32)] 16 a = [(own_by c 56), (own_by c 48), (own_by c 40), (own_by c 32), (own_by c 24), (own_by c 16), (own_by c 8), (own_by0 c), (own_by b 56), (own_by b 48), (own_by b 40), (own_by b 32), (own_by b 24), (own_by b 16), (own_by b 8), (own_by0 b), (own_by a 56), (own_by a 48), (own_by a 40), (own_by a 32), (own_by a 24), (own_by a 16), (own_by a 8), (own_by0 a)] := own_p16 (own_by c 56) (own_by c 48) (own_by c 40) (own_by c 32) (own_by c 24) (own_by c 16) (own_by c 8) (own_by0 c) (own_by b 56) (own_by b 48) (own_by b 40) (own_by b 32) (own_by b 24) (own_by b 16) (own_by b 8) (own_by0 b) (0 : Int32) (0 : Int32) (0 : Int32) (0 : Int32) (0 : Int32) (0 : Int32) (0 : Int32) (0 : Int32) (own_by a 56) (own_by a 48) (own_by a 40) (own_by a 32) (own_by a 24) (own_by a 16) (own_by a 8) (own_by0 a)
  rw [own_first, e1, e2, e3]
theorem own_getE (x0 x1 x2 x3 x4 x5 x6 x7 x8 x9 x10 x11 x12 x13 x14 x15 x16 x17 x18 x19 x20 x21 x22 x23 : Int32) : own_get [x0, x1, x2, x3, x4, x5, x6, x7, x8, x9, x10, x11, x12, x13, x14, x15, x16, x17, x18, x19, x20, x21, x22, x23] 0 = (((((((((x0 &&& (255 : Int32)).toInt64 <<< ((56 : Int32) &&& 0x3f).toInt64) ||| ((x1 &&& (255 : Int32)).toInt64 <<< ((48 : Int32) &&& 0x3f).toInt64)) ||| ((x2 &&& (255 : Int32)).toInt64 <<< ((40 : Int32) &&& 0x3f).toInt64)) ||| ((x3 &&& (255 : Int32)).toInt64 <<< ((32 : Int32) &&& 0x3f).toInt64)) ||| ((x4 &&& (255 : Int32)).toInt64 <<< ((24 : Int32) &&& 0x3f).toInt64)) ||| ((x5 &&& (255 : Int32)).toInt64 <<< ((16 : Int32) &&& 0x3f).toInt64)) ||| ((x6 &&& (255 : Int32)).toInt64 <<< ((8 : Int32) &&& 0x3f).toInt64)) ||| (x7 &&& (255 : Int32)).toInt64) ∧ own_get [x0, x1, x2, x3, x4, x5, x6, x7, x8, x9, x10, x11, x12, x13, x14, x15, x16, x17, x18, x19, x20, x21, x22, x23] 8 = (((((((((x8 &&& (255 : Int32)).toInt64 <<< ((56 : Int32) &&& 0x3f).toInt64) ||| ((x9 &&& (255 : Int32)).toInt64 <<< ((48 : Int32) &&& 0x3f).toInt64)) ||| ((x10 &&& (255 : Int32)).toInt64 <<< ((40 : Int32) &&& 0x3f).toInt64)) ||| ((x11 &&& (255 : Int32)).toInt64 <<< ((32 : Int32) &&& 0x3f).toInt64)) ||| ((x12 &&& (255 : Int32)).toInt64 <<< ((24 : Int32) &&& 0x3f).toInt64)) ||| ((x13 &&& (255 : Int32)).toInt64 <<< ((16 : Int32) &&& 0x3f).toInt64)) ||| ((x14 &&& (255 : Int32)).toInt64 <<< ((8 : Int32) &&& 0x3f).toInt64)) ||| (x15 &&& (255 : Int32)).toInt64) ∧ own_get [x0, x1, x2, x3, x4, x5, x6, x7, x8, x9, x10, x11, x12, x13, x14, x15, x16, x17, x18, x19, x20, x21, x22, x23] 16 = (((((((((x16 &&& (255 : Int32)).toInt64 <<< ((56 : Int32) &&& 0x3f).toInt64) ||| ((x17 &&& (255 : Int32)).toInt64 <<< ((48 : Int32) &&& 0x3f).toInt64)) ||| ((x18 &&& (255 : Int32)).toInt64 <<< ((40 : Int32) &&& 0x3f).toInt64)) ||| ((x19 &&& (255 : Int32)).toInt64 <<< ((32 : Int32) &&& 0x3f).toInt64)) ||| ((x20 &&& (255 : Int32)).toInt64 <<< ((24 : Int32) &&& 0x3f).toInt64)) ||| ((x21 &&& (255 : Int32)).toInt64 <<< ((16 : Int32) &&& 0x3f).toInt64)) ||| ((x22 &&& (255 : Int32)).toInt64 <<< ((8 : Int32) &&& 0x3f).toInt64)) ||| (x23 &&& (255 : Int32)).toInt64) := ⟨rfl, rfl, rfl⟩
theorem own_ok0 (c b a : Int64) : own_get (own_first c b a) 0 = c ∧ own_get (own_first c b a) 8 = b ∧ own_get (own_first c b a) 16 = a := by
  rw [own_firstE]
  obtain ⟨g0, g1, g2⟩ := own_getE (own_by c 56) (own_by c 48) (own_by c 40) (own_by c 32) (own_by c 24) (own_by c 16) (own_by c 8) (own_by0 c) (own_by b 56) (own_by b 48) (own_by b 40) (own_by b 32) (own_by b 24) (own_by b 16) (own_by b 8) (own_by0 b) (own_by a 56) (own_by a 48) (own_by a 40) (own_by a 32) (own_by a 24) (own_by a 16) (own_by a 8) (own_by0 a)
  rw [g0, g1, g2]
  exact ⟨own_word c _ _ _ _ _ _ _ _ rfl rfl rfl rfl rfl rfl rfl rfl, own_word b _ _ _ _ _ _ _ _ rfl rfl rfl rfl rfl rfl rfl rfl, own_word a _ _ _ _ _ _ _ _ rfl rfl rfl rfl rfl rfl rfl rfl⟩
theorem d_method_2_code_0 : decode method_2_code 0 = .ok (.aload_n 0, 1) := by decide +kernel
theorem d_method_2_code_1 : decode method_2_code 1 = .ok (.iload_n 1, 1) := by decide +kernel
theorem d_method_2_code_2 : decode method_2_code 2 = .ok (.lload_n 2, 1) := by decide +kernel
theorem d_method_2_code_3 : decode method_2_code 3 = .ok (.bipush 56, 2) := by decide +kernel
theorem d_method_2_code_5 : decode method_2_code 5 = .ok (.lushr, 1) := by decide +kernel
theorem d_method_2_code_6 : decode method_2_code 6 = .ok (.l2i, 1) := by decide +kernel
theorem d_method_2_code_7 : decode method_2_code 7 = .ok (.i2b, 1) := by decide +kernel
theorem d_method_2_code_8 : decode method_2_code 8 = .ok (.bastore, 1) := by decide +kernel
theorem d_method_2_code_9 : decode method_2_code 9 = .ok (.aload_n 0, 1) := by decide +kernel
theorem d_method_2_code_10 : decode method_2_code 10 = .ok (.iload_n 1, 1) := by decide +kernel
theorem d_method_2_code_11 : decode method_2_code 11 = .ok (.iconst 1, 1) := by decide +kernel
theorem d_method_2_code_12 : decode method_2_code 12 = .ok (.iadd, 1) := by decide +kernel
theorem d_method_2_code_13 : decode method_2_code 13 = .ok (.lload_n 2, 1) := by decide +kernel
theorem d_method_2_code_14 : decode method_2_code 14 = .ok (.bipush 48, 2) := by decide +kernel
theorem d_method_2_code_16 : decode method_2_code 16 = .ok (.lushr, 1) := by decide +kernel
theorem d_method_2_code_17 : decode method_2_code 17 = .ok (.l2i, 1) := by decide +kernel
theorem d_method_2_code_18 : decode method_2_code 18 = .ok (.i2b, 1) := by decide +kernel
theorem d_method_2_code_19 : decode method_2_code 19 = .ok (.bastore, 1) := by decide +kernel
theorem d_method_2_code_20 : decode method_2_code 20 = .ok (.aload_n 0, 1) := by decide +kernel
theorem d_method_2_code_21 : decode method_2_code 21 = .ok (.iload_n 1, 1) := by decide +kernel
theorem d_method_2_code_22 : decode method_2_code 22 = .ok (.iconst 2, 1) := by decide +kernel
theorem d_method_2_code_23 : decode method_2_code 23 = .ok (.iadd, 1) := by decide +kernel
theorem d_method_2_code_24 : decode method_2_code 24 = .ok (.lload_n 2, 1) := by decide +kernel
theorem d_method_2_code_25 : decode method_2_code 25 = .ok (.bipush 40, 2) := by decide +kernel
theorem d_method_2_code_27 : decode method_2_code 27 = .ok (.lushr, 1) := by decide +kernel
theorem d_method_2_code_28 : decode method_2_code 28 = .ok (.l2i, 1) := by decide +kernel
theorem d_method_2_code_29 : decode method_2_code 29 = .ok (.i2b, 1) := by decide +kernel
theorem d_method_2_code_30 : decode method_2_code 30 = .ok (.bastore, 1) := by decide +kernel
theorem d_method_2_code_31 : decode method_2_code 31 = .ok (.aload_n 0, 1) := by decide +kernel
theorem d_method_2_code_32 : decode method_2_code 32 = .ok (.iload_n 1, 1) := by decide +kernel
theorem d_method_2_code_33 : decode method_2_code 33 = .ok (.iconst 3, 1) := by decide +kernel
theorem d_method_2_code_34 : decode method_2_code 34 = .ok (.iadd, 1) := by decide +kernel
theorem d_method_2_code_35 : decode method_2_code 35 = .ok (.lload_n 2, 1) := by decide +kernel
theorem d_method_2_code_36 : decode method_2_code 36 = .ok (.bipush 32, 2) := by decide +kernel
theorem d_method_2_code_38 : decode method_2_code 38 = .ok (.lushr, 1) := by decide +kernel
theorem d_method_2_code_39 : decode method_2_code 39 = .ok (.l2i, 1) := by decide +kernel
theorem d_method_2_code_40 : decode method_2_code 40 = .ok (.i2b, 1) := by decide +kernel
theorem d_method_2_code_41 : decode method_2_code 41 = .ok (.bastore, 1) := by decide +kernel
theorem d_method_2_code_42 : decode method_2_code 42 = .ok (.aload_n 0, 1) := by decide +kernel
theorem d_method_2_code_43 : decode method_2_code 43 = .ok (.iload_n 1, 1) := by decide +kernel
theorem d_method_2_code_44 : decode method_2_code 44 = .ok (.iconst 4, 1) := by decide +kernel
theorem d_method_2_code_45 : decode method_2_code 45 = .ok (.iadd, 1) := by decide +kernel
theorem d_method_2_code_46 : decode method_2_code 46 = .ok (.lload_n 2, 1) := by decide +kernel
theorem d_method_2_code_47 : decode method_2_code 47 = .ok (.bipush 24, 2) := by decide +kernel
theorem d_method_2_code_49 : decode method_2_code 49 = .ok (.lushr, 1) := by decide +kernel
theorem d_method_2_code_50 : decode method_2_code 50 = .ok (.l2i, 1) := by decide +kernel
theorem d_method_2_code_51 : decode method_2_code 51 = .ok (.i2b, 1) := by decide +kernel
theorem d_method_2_code_52 : decode method_2_code 52 = .ok (.bastore, 1) := by decide +kernel
theorem d_method_2_code_53 : decode method_2_code 53 = .ok (.aload_n 0, 1) := by decide +kernel
theorem d_method_2_code_54 : decode method_2_code 54 = .ok (.iload_n 1, 1) := by decide +kernel
theorem d_method_2_code_55 : decode method_2_code 55 = .ok (.iconst 5, 1) := by decide +kernel
theorem d_method_2_code_56 : decode method_2_code 56 = .ok (.iadd, 1) := by decide +kernel
theorem d_method_2_code_57 : decode method_2_code 57 = .ok (.lload_n 2, 1) := by decide +kernel
theorem d_method_2_code_58 : decode method_2_code 58 = .ok (.bipush 16, 2) := by decide +kernel
theorem d_method_2_code_60 : decode method_2_code 60 = .ok (.lushr, 1) := by decide +kernel
theorem d_method_2_code_61 : decode method_2_code 61 = .ok (.l2i, 1) := by decide +kernel
theorem d_method_2_code_62 : decode method_2_code 62 = .ok (.i2b, 1) := by decide +kernel
theorem d_method_2_code_63 : decode method_2_code 63 = .ok (.bastore, 1) := by decide +kernel
theorem d_method_2_code_64 : decode method_2_code 64 = .ok (.aload_n 0, 1) := by decide +kernel
theorem d_method_2_code_65 : decode method_2_code 65 = .ok (.iload_n 1, 1) := by decide +kernel
theorem d_method_2_code_66 : decode method_2_code 66 = .ok (.bipush 6, 2) := by decide +kernel
theorem d_method_2_code_68 : decode method_2_code 68 = .ok (.iadd, 1) := by decide +kernel
theorem d_method_2_code_69 : decode method_2_code 69 = .ok (.lload_n 2, 1) := by decide +kernel
theorem d_method_2_code_70 : decode method_2_code 70 = .ok (.bipush 8, 2) := by decide +kernel
theorem d_method_2_code_72 : decode method_2_code 72 = .ok (.lushr, 1) := by decide +kernel
theorem d_method_2_code_73 : decode method_2_code 73 = .ok (.l2i, 1) := by decide +kernel
theorem d_method_2_code_74 : decode method_2_code 74 = .ok (.i2b, 1) := by decide +kernel
theorem d_method_2_code_75 : decode method_2_code 75 = .ok (.bastore, 1) := by decide +kernel
theorem d_method_2_code_76 : decode method_2_code 76 = .ok (.aload_n 0, 1) := by decide +kernel
theorem d_method_2_code_77 : decode method_2_code 77 = .ok (.iload_n 1, 1) := by decide +kernel
theorem d_method_2_code_78 : decode method_2_code 78 = .ok (.bipush 7, 2) := by decide +kernel
theorem d_method_2_code_80 : decode method_2_code 80 = .ok (.iadd, 1) := by decide +kernel
theorem d_method_2_code_81 : decode method_2_code 81 = .ok (.lload_n 2, 1) := by decide +kernel
theorem d_method_2_code_82 : decode method_2_code 82 = .ok (.l2i, 1) := by decide +kernel
theorem d_method_2_code_83 : decode method_2_code 83 = .ok (.i2b, 1) := by decide +kernel
theorem d_method_2_code_84 : decode method_2_code 84 = .ok (.bastore, 1) := by decide +kernel
theorem d_method_2_code_85 : decode method_2_code 85 = .ok (.return_, 1) := by decide +kernel
def Qrm_put (Z : State) (arr : Addr) (off : Int32) (q : Int64) (L : List Int32) (o : Nat) (k : ClassId) (h0 : Heap) (n0 : Nat) (v_ : Option Value) (h_ : Heap) (L_ : List Loc) : Prop := v_ = none ∧ Fr n0 L_ ∧ Keep h0 h_ [arr] ∧ Arv Z h_ arr k .byte (24 : Int32) (own_v (own_put L o q)) (.int (0 : Int32))
theorem ef_rm_put (m : MethodId) (x0 : Addr) (x1 : Int32) (x2 : Int64) : entryFrame m #[(.ref x0), (.int x1), (.long x2)] 4 = mkF m 0 #[.val (.ref x0), .val (.int x1), .val (.long x2), .second] [] := by first | (simp [entryFrame, mkF, argsToLocals, Value.category]; done) | rfl
theorem pn_com_example_tidelog_tidelog_net_NonceNextPinLaw : plainName "com/example/tidelog/tidelog/net/NonceNextPinLaw" = true := by first | (simp [plainName, overriddenIn]; done) | decide +kernel
set_option maxRecDepth 65536 in
set_option maxHeartbeats 40000000 in
theorem rm_put (l : Launch) (Z : State) (aZ : Array Value) (hw : ∀ d ∈ tables_1, d.before aZ Z = true) (ws : List Jvm.Cond) (arr : Addr) (off : Int32) (q : Int64) (L : List Int32) (o : Nat) (k : ClassId) (h0 : Heap) (n0 : Nat) (Z0 : n0 ≤ h0.size) (Av : Arv Z h0 arr k .byte (24 : Int32) (own_v L) (.int (0 : Int32))) (ga : n0 ≤ arr) (hL : L.length = 24) (ho : off.toInt = (o : Int) ∧ o ≤ 16) :
    MetFree l (⟨"com/example/tidelog/tidelog/net/NonceNextPinLaw", "put", "([BIJ)V"⟩ : MethodName) (head1 (Jvm.Cond.code (⟨"com/example/tidelog/tidelog/net/NonceNextPinLaw", "put", "([BIJ)V"⟩ : MethodName) method_2_code 4 none :: ws) ({ frames := 0, cells := 0, slots := 0, locals := 0 } : Room)) (fun a_ U_ => a_ = #[(.ref arr), (.int off), (.long q)] ∧ Z.Warmed39 U_.vm ∧ U_.heap = h0) (fun _ _ _ _ _ => True) (fun _ U_ o_ U2_ => ∃ v_ L_, o_ = .returned v_ ∧ Qrm_put Z arr off q L o k h0 n0 v_ U2_.heap L_ ∧ FrameEnd U_ o_ U2_ L_ ({ frames := 0, cells := 0, slots := 0, locals := 0 } : Room).cells ({ frames := 0, cells := 0, slots := 0, locals := 0 } : Room).slots) := by
  refine MetFree.of_bodySF (plainFor_of_name pn_com_example_tidelog_tidelog_net_NonceNextPinLaw) hisR ?_
  intro p e s m args below meth cO s₁ Bd hml0 hP hK
  obtain ⟨rfl, hZW, hh⟩ := hP
  have hEX := Bd.exec
  have hBY := Bd.bytes
  have hMX : cO.maxLocals = 4 := hml0
  have hOW : s.vm.findClass "com/example/tidelog/tidelog/net/NonceNextPinLaw" = some m.cls := findClass_of_methodNamed Bd.named
  have hNM := (name_of_methodNamed Bd.named Bd.method).1
  have hLK := Bd.notSynchronized
  have hRT := Bd.returns
  have X0 : Stand p l e ({ frames := 0, cells := 0, slots := 0, locals := 0 } : Room) s m #[(.ref arr), (.int off), (.long q)] below meth cO s₁ [] 0 0 := Stand.of_body Bd
  have e0 : s₁.heap = h0 := by rw [← hh, Bd.state]; rfl
  have N0 := Fr.nil n0
  have K0 : Keep h0 h0 [arr] := Keep.refl _ _
  show Done p e below s (Qrm_put Z arr off q L o k h0 n0) ({ frames := 0, cells := 0, slots := 0, locals := 0 } : Room).cells ({ frames := 0, cells := 0, slots := 0, locals := 0 } : Room).slots (s₁.setTop (entryFrame m #[(.ref arr), (.int off), (.long q)] 4))
  refine Done.pre (fun t_ k_ => castTop (ef_rm_put m arr off q) k_) ?_
  show Done _ _ _ _ _ _ _ (s₁.setTop (mkF m 0 #[Rv arr, Iv off, Lv q, Zs] []))
  have sg_2 : ∀ tt_, Steps p.tables e below (s₁.setTop (mkF m 8 #[Rv arr, Iv off, Lv q, Zs] [(.int ((((q.toUInt64 >>> ((56 : Int32) &&& 0x3f).toInt64.toUInt64).toInt64).toInt32).toInt8.toInt32)), (.int off), (.ref arr)])) tt_ → Steps p.tables e below (s₁.setTop (mkF m 0 #[Rv arr, Iv off, Lv q, Zs] [])) tt_ := by
    intro tt_ kt_
    refine XS.aloadN X0.here hEX rfl (hb hBY d_method_2_code_0) rfl rfl ?_
    show Steps p.tables e below (s₁.setTop (mkF m 1 #[Rv arr, Iv off, Lv q, Zs] [(.ref arr)])) tt_
    refine XS.iloadN X0.here hEX rfl (hb hBY d_method_2_code_1) rfl ?_
    show Steps p.tables e below (s₁.setTop (mkF m 2 #[Rv arr, Iv off, Lv q, Zs] [(.int off), (.ref arr)])) tt_
    refine XS.lloadN X0.here hEX rfl (hb hBY d_method_2_code_2) rfl ?_
    show Steps p.tables e below (s₁.setTop (mkF m 3 #[Rv arr, Iv off, Lv q, Zs] [(.long q), (.int off), (.ref arr)])) tt_
    refine XS.bipush X0.here hEX rfl (hb hBY d_method_2_code_3) ?_
    show Steps p.tables e below (s₁.setTop (mkF m 5 #[Rv arr, Iv off, Lv q, Zs] [(.int (56 : Int32)), (.long q), (.int off), (.ref arr)])) tt_
    refine XS.lushr X0.here hEX rfl (hb hBY d_method_2_code_5) rfl ?_
    show Steps p.tables e below (s₁.setTop (mkF m 6 #[Rv arr, Iv off, Lv q, Zs] [(.long ((q.toUInt64 >>> ((56 : Int32) &&& 0x3f).toInt64.toUInt64).toInt64)), (.int off), (.ref arr)])) tt_
    refine XS.l2i X0.here hEX rfl (hb hBY d_method_2_code_6) rfl ?_
    show Steps p.tables e below (s₁.setTop (mkF m 7 #[Rv arr, Iv off, Lv q, Zs] [(.int (((q.toUInt64 >>> ((56 : Int32) &&& 0x3f).toInt64.toUInt64).toInt64).toInt32)), (.int off), (.ref arr)])) tt_
    refine XS.i2b X0.here hEX rfl (hb hBY d_method_2_code_7) rfl ?_
    exact kt_
  refine Done.pre sg_2 ?_
  obtain ⟨cl_1, Ar_1, q_1, S_1, N__1, H_1, G_1⟩ := id Av
  have hin_1 : ¬ (off < 0 ∨ cl_1.slots.size ≤ (off).toNatClampNeg) := inb_of S_1 (own_ix0 off o ho).1
  obtain ⟨T_3, h_3, X_3, e_3, W_3, st_3⟩ := stB X0 hEX hZW e0 Ar_1 (j := off) hin_1 (g := (mkF m 8 #[Rv arr, Iv off, Lv q, Zs] [(.int ((((q.toUInt64 >>> ((56 : Int32) &&& 0x3f).toInt64.toUInt64).toInt64).toInt32).toInt8.toInt32)), (.int off), (.ref arr)])) rfl rfl (hb hBY d_method_2_code_8)
  have N_3 := Fr.snoc X_3 N0 ga
  have K__4 : Keep h0 h_3 [arr] := K0.wr W_3 (Or.inl (List.mem_of_getElem? (i := 0) rfl))
  have f_5 : Arv Z h_3 arr k .byte (24 : Int32) (own_v (L.set (o + 0) (own_by q 56))) (.int (0 : Int32)) := own_cast (own_vset _ _ _) (Arv.set Ar_1 q_1 S_1 N__1 H_1 G_1 (fits_nar_byte _) W_3 (o + 0) (own_ix0 off o ho).2 (by rw [own_vlen]; (try simp only [List.length_set]); omega))
  refine Done.pre st_3 ?_
  show Done _ _ _ _ _ _ _ (T_3.setTop (mkF m 9 #[Rv arr, Iv off, Lv q, Zs] []))
  have sg_7 : ∀ tt_, Steps p.tables e below (T_3.setTop (mkF m 19 #[Rv arr, Iv off, Lv q, Zs] [(.int ((((q.toUInt64 >>> ((48 : Int32) &&& 0x3f).toInt64.toUInt64).toInt64).toInt32).toInt8.toInt32)), (.int (off + (1 : Int32))), (.ref arr)])) tt_ → Steps p.tables e below (T_3.setTop (mkF m 9 #[Rv arr, Iv off, Lv q, Zs] [])) tt_ := by
    intro tt_ kt_
    refine XS.aloadN X_3.here hEX rfl (hb hBY d_method_2_code_9) rfl rfl ?_
    show Steps p.tables e below (T_3.setTop (mkF m 10 #[Rv arr, Iv off, Lv q, Zs] [(.ref arr)])) tt_
    refine XS.iloadN X_3.here hEX rfl (hb hBY d_method_2_code_10) rfl ?_
    show Steps p.tables e below (T_3.setTop (mkF m 11 #[Rv arr, Iv off, Lv q, Zs] [(.int off), (.ref arr)])) tt_
    refine XS.iconst X_3.here hEX rfl (hb hBY d_method_2_code_11) ?_
    show Steps p.tables e below (T_3.setTop (mkF m 12 #[Rv arr, Iv off, Lv q, Zs] [(.int (1 : Int32)), (.int off), (.ref arr)])) tt_
    refine XS.iadd X_3.here hEX rfl (hb hBY d_method_2_code_12) rfl ?_
    show Steps p.tables e below (T_3.setTop (mkF m 13 #[Rv arr, Iv off, Lv q, Zs] [(.int (off + (1 : Int32))), (.ref arr)])) tt_
    refine XS.lloadN X_3.here hEX rfl (hb hBY d_method_2_code_13) rfl ?_
    show Steps p.tables e below (T_3.setTop (mkF m 14 #[Rv arr, Iv off, Lv q, Zs] [(.long q), (.int (off + (1 : Int32))), (.ref arr)])) tt_
    refine XS.bipush X_3.here hEX rfl (hb hBY d_method_2_code_14) ?_
    show Steps p.tables e below (T_3.setTop (mkF m 16 #[Rv arr, Iv off, Lv q, Zs] [(.int (48 : Int32)), (.long q), (.int (off + (1 : Int32))), (.ref arr)])) tt_
    refine XS.lushr X_3.here hEX rfl (hb hBY d_method_2_code_16) rfl ?_
    show Steps p.tables e below (T_3.setTop (mkF m 17 #[Rv arr, Iv off, Lv q, Zs] [(.long ((q.toUInt64 >>> ((48 : Int32) &&& 0x3f).toInt64.toUInt64).toInt64)), (.int (off + (1 : Int32))), (.ref arr)])) tt_
    refine XS.l2i X_3.here hEX rfl (hb hBY d_method_2_code_17) rfl ?_
    show Steps p.tables e below (T_3.setTop (mkF m 18 #[Rv arr, Iv off, Lv q, Zs] [(.int (((q.toUInt64 >>> ((48 : Int32) &&& 0x3f).toInt64.toUInt64).toInt64).toInt32)), (.int (off + (1 : Int32))), (.ref arr)])) tt_
    refine XS.i2b X_3.here hEX rfl (hb hBY d_method_2_code_18) rfl ?_
    exact kt_
  refine Done.pre sg_7 ?_
  obtain ⟨cl_6, Ar_6, q_6, S_6, N__6, H_6, G_6⟩ := id f_5
  have hin_6 : ¬ ((off + (1 : Int32)) < 0 ∨ cl_6.slots.size ≤ ((off + (1 : Int32))).toNatClampNeg) := inb_of S_6 (own_ixj off o (1 : Int32) 1 ho (by decide)).1
  obtain ⟨T_8, h_8, X_8, e_8, W_8, st_8⟩ := stB X_3 hEX hZW e_3 Ar_6 (j := (off + (1 : Int32))) hin_6 (g := (mkF m 19 #[Rv arr, Iv off, Lv q, Zs] [(.int ((((q.toUInt64 >>> ((48 : Int32) &&& 0x3f).toInt64.toUInt64).toInt64).toInt32).toInt8.toInt32)), (.int (off + (1 : Int32))), (.ref arr)])) rfl rfl (hb hBY d_method_2_code_19)
  have N_8 := Fr.snoc X_8 N_3 ga
  have K__9 : Keep h0 h_8 [arr] := K__4.wr W_8 (Or.inl (List.mem_of_getElem? (i := 0) rfl))
  have f_10 : Arv Z h_8 arr k .byte (24 : Int32) (own_v ((L.set (o + 0) (own_by q 56)).set (o + 1) (own_by q 48))) (.int (0 : Int32)) := own_cast (own_vset _ _ _) (Arv.set Ar_6 q_6 S_6 N__6 H_6 G_6 (fits_nar_byte _) W_8 (o + 1) (own_ixj off o (1 : Int32) 1 ho (by decide)).2 (by rw [own_vlen]; (try simp only [List.length_set]); omega))
  refine Done.pre st_8 ?_
  show Done _ _ _ _ _ _ _ (T_8.setTop (mkF m 20 #[Rv arr, Iv off, Lv q, Zs] []))
  have sg_12 : ∀ tt_, Steps p.tables e below (T_8.setTop (mkF m 30 #[Rv arr, Iv off, Lv q, Zs] [(.int ((((q.toUInt64 >>> ((40 : Int32) &&& 0x3f).toInt64.toUInt64).toInt64).toInt32).toInt8.toInt32)), (.int (off + (2 : Int32))), (.ref arr)])) tt_ → Steps p.tables e below (T_8.setTop (mkF m 20 #[Rv arr, Iv off, Lv q, Zs] [])) tt_ := by
    intro tt_ kt_
    refine XS.aloadN X_8.here hEX rfl (hb hBY d_method_2_code_20) rfl rfl ?_
    show Steps p.tables e below (T_8.setTop (mkF m 21 #[Rv arr, Iv off, Lv q, Zs] [(.ref arr)])) tt_
    refine XS.iloadN X_8.here hEX rfl (hb hBY d_method_2_code_21) rfl ?_
    show Steps p.tables e below (T_8.setTop (mkF m 22 #[Rv arr, Iv off, Lv q, Zs] [(.int off), (.ref arr)])) tt_
    refine XS.iconst X_8.here hEX rfl (hb hBY d_method_2_code_22) ?_
    show Steps p.tables e below (T_8.setTop (mkF m 23 #[Rv arr, Iv off, Lv q, Zs] [(.int (2 : Int32)), (.int off), (.ref arr)])) tt_
    refine XS.iadd X_8.here hEX rfl (hb hBY d_method_2_code_23) rfl ?_
    show Steps p.tables e below (T_8.setTop (mkF m 24 #[Rv arr, Iv off, Lv q, Zs] [(.int (off + (2 : Int32))), (.ref arr)])) tt_
    refine XS.lloadN X_8.here hEX rfl (hb hBY d_method_2_code_24) rfl ?_
    show Steps p.tables e below (T_8.setTop (mkF m 25 #[Rv arr, Iv off, Lv q, Zs] [(.long q), (.int (off + (2 : Int32))), (.ref arr)])) tt_
    refine XS.bipush X_8.here hEX rfl (hb hBY d_method_2_code_25) ?_
    show Steps p.tables e below (T_8.setTop (mkF m 27 #[Rv arr, Iv off, Lv q, Zs] [(.int (40 : Int32)), (.long q), (.int (off + (2 : Int32))), (.ref arr)])) tt_
    refine XS.lushr X_8.here hEX rfl (hb hBY d_method_2_code_27) rfl ?_
    show Steps p.tables e below (T_8.setTop (mkF m 28 #[Rv arr, Iv off, Lv q, Zs] [(.long ((q.toUInt64 >>> ((40 : Int32) &&& 0x3f).toInt64.toUInt64).toInt64)), (.int (off + (2 : Int32))), (.ref arr)])) tt_
    refine XS.l2i X_8.here hEX rfl (hb hBY d_method_2_code_28) rfl ?_
    show Steps p.tables e below (T_8.setTop (mkF m 29 #[Rv arr, Iv off, Lv q, Zs] [(.int (((q.toUInt64 >>> ((40 : Int32) &&& 0x3f).toInt64.toUInt64).toInt64).toInt32)), (.int (off + (2 : Int32))), (.ref arr)])) tt_
    refine XS.i2b X_8.here hEX rfl (hb hBY d_method_2_code_29) rfl ?_
    exact kt_
  refine Done.pre sg_12 ?_
  obtain ⟨cl_11, Ar_11, q_11, S_11, N__11, H_11, G_11⟩ := id f_10
  have hin_11 : ¬ ((off + (2 : Int32)) < 0 ∨ cl_11.slots.size ≤ ((off + (2 : Int32))).toNatClampNeg) := inb_of S_11 (own_ixj off o (2 : Int32) 2 ho (by decide)).1
  obtain ⟨T_13, h_13, X_13, e_13, W_13, st_13⟩ := stB X_8 hEX hZW e_8 Ar_11 (j := (off + (2 : Int32))) hin_11 (g := (mkF m 30 #[Rv arr, Iv off, Lv q, Zs] [(.int ((((q.toUInt64 >>> ((40 : Int32) &&& 0x3f).toInt64.toUInt64).toInt64).toInt32).toInt8.toInt32)), (.int (off + (2 : Int32))), (.ref arr)])) rfl rfl (hb hBY d_method_2_code_30)
  have N_13 := Fr.snoc X_13 N_8 ga
  have K__14 : Keep h0 h_13 [arr] := K__9.wr W_13 (Or.inl (List.mem_of_getElem? (i := 0) rfl))
  have f_15 : Arv Z h_13 arr k .byte (24 : Int32) (own_v (((L.set (o + 0) (own_by q 56)).set (o + 1) (own_by q 48)).set (o + 2) (own_by q 40))) (.int (0 : Int32)) := own_cast (own_vset _ _ _) (Arv.set Ar_11 q_11 S_11 N__11 H_11 G_11 (fits_nar_byte _) W_13 (o + 2) (own_ixj off o (2 : Int32) 2 ho (by decide)).2 (by rw [own_vlen]; (try simp only [List.length_set]); omega))
  refine Done.pre st_13 ?_
  show Done _ _ _ _ _ _ _ (T_13.setTop (mkF m 31 #[Rv arr, Iv off, Lv q, Zs] []))
  have sg_17 : ∀ tt_, Steps p.tables e below (T_13.setTop (mkF m 41 #[Rv arr, Iv off, Lv q, Zs] [(.int ((((q.toUInt64 >>> ((32 : Int32) &&& 0x3f).toInt64.toUInt64).toInt64).toInt32).toInt8.toInt32)), (.int (off + (3 : Int32))), (.ref arr)])) tt_ → Steps p.tables e below (T_13.setTop (mkF m 31 #[Rv arr, Iv off, Lv q, Zs] [])) tt_ := by
    intro tt_ kt_
    refine XS.aloadN X_13.here hEX rfl (hb hBY d_method_2_code_31) rfl rfl ?_
    show Steps p.tables e below (T_13.setTop (mkF m 32 #[Rv arr, Iv off, Lv q, Zs] [(.ref arr)])) tt_
    refine XS.iloadN X_13.here hEX rfl (hb hBY d_method_2_code_32) rfl ?_
    show Steps p.tables e below (T_13.setTop (mkF m 33 #[Rv arr, Iv off, Lv q, Zs] [(.int off), (.ref arr)])) tt_
    refine XS.iconst X_13.here hEX rfl (hb hBY d_method_2_code_33) ?_
    show Steps p.tables e below (T_13.setTop (mkF m 34 #[Rv arr, Iv off, Lv q, Zs] [(.int (3 : Int32)), (.int off), (.ref arr)])) tt_
    refine XS.iadd X_13.here hEX rfl (hb hBY d_method_2_code_34) rfl ?_
    show Steps p.tables e below (T_13.setTop (mkF m 35 #[Rv arr, Iv off, Lv q, Zs] [(.int (off + (3 : Int32))), (.ref arr)])) tt_
    refine XS.lloadN X_13.here hEX rfl (hb hBY d_method_2_code_35) rfl ?_
    show Steps p.tables e below (T_13.setTop (mkF m 36 #[Rv arr, Iv off, Lv q, Zs] [(.long q), (.int (off + (3 : Int32))), (.ref arr)])) tt_
    refine XS.bipush X_13.here hEX rfl (hb hBY d_method_2_code_36) ?_
    show Steps p.tables e below (T_13.setTop (mkF m 38 #[Rv arr, Iv off, Lv q, Zs] [(.int (32 : Int32)), (.long q), (.int (off + (3 : Int32))), (.ref arr)])) tt_
    refine XS.lushr X_13.here hEX rfl (hb hBY d_method_2_code_38) rfl ?_
    show Steps p.tables e below (T_13.setTop (mkF m 39 #[Rv arr, Iv off, Lv q, Zs] [(.long ((q.toUInt64 >>> ((32 : Int32) &&& 0x3f).toInt64.toUInt64).toInt64)), (.int (off + (3 : Int32))), (.ref arr)])) tt_
    refine XS.l2i X_13.here hEX rfl (hb hBY d_method_2_code_39) rfl ?_
    show Steps p.tables e below (T_13.setTop (mkF m 40 #[Rv arr, Iv off, Lv q, Zs] [(.int (((q.toUInt64 >>> ((32 : Int32) &&& 0x3f).toInt64.toUInt64).toInt64).toInt32)), (.int (off + (3 : Int32))), (.ref arr)])) tt_
    refine XS.i2b X_13.here hEX rfl (hb hBY d_method_2_code_40) rfl ?_
    exact kt_
  refine Done.pre sg_17 ?_
  obtain ⟨cl_16, Ar_16, q_16, S_16, N__16, H_16, G_16⟩ := id f_15
  have hin_16 : ¬ ((off + (3 : Int32)) < 0 ∨ cl_16.slots.size ≤ ((off + (3 : Int32))).toNatClampNeg) := inb_of S_16 (own_ixj off o (3 : Int32) 3 ho (by decide)).1
  obtain ⟨T_18, h_18, X_18, e_18, W_18, st_18⟩ := stB X_13 hEX hZW e_13 Ar_16 (j := (off + (3 : Int32))) hin_16 (g := (mkF m 41 #[Rv arr, Iv off, Lv q, Zs] [(.int ((((q.toUInt64 >>> ((32 : Int32) &&& 0x3f).toInt64.toUInt64).toInt64).toInt32).toInt8.toInt32)), (.int (off + (3 : Int32))), (.ref arr)])) rfl rfl (hb hBY d_method_2_code_41)
  have N_18 := Fr.snoc X_18 N_13 ga
  have K__19 : Keep h0 h_18 [arr] := K__14.wr W_18 (Or.inl (List.mem_of_getElem? (i := 0) rfl))
  have f_20 : Arv Z h_18 arr k .byte (24 : Int32) (own_v ((((L.set (o + 0) (own_by q 56)).set (o + 1) (own_by q 48)).set (o + 2) (own_by q 40)).set (o + 3) (own_by q 32))) (.int (0 : Int32)) := own_cast (own_vset _ _ _) (Arv.set Ar_16 q_16 S_16 N__16 H_16 G_16 (fits_nar_byte _) W_18 (o + 3) (own_ixj off o (3 : Int32) 3 ho (by decide)).2 (by rw [own_vlen]; (try simp only [List.length_set]); omega))
  refine Done.pre st_18 ?_
  show Done _ _ _ _ _ _ _ (T_18.setTop (mkF m 42 #[Rv arr, Iv off, Lv q, Zs] []))
  have sg_22 : ∀ tt_, Steps p.tables e below (T_18.setTop (mkF m 52 #[Rv arr, Iv off, Lv q, Zs] [(.int ((((q.toUInt64 >>> ((24 : Int32) &&& 0x3f).toInt64.toUInt64).toInt64).toInt32).toInt8.toInt32)), (.int (off + (4 : Int32))), (.ref arr)])) tt_ → Steps p.tables e below (T_18.setTop (mkF m 42 #[Rv arr, Iv off, Lv q, Zs] [])) tt_ := by
    intro tt_ kt_
    refine XS.aloadN X_18.here hEX rfl (hb hBY d_method_2_code_42) rfl rfl ?_
    show Steps p.tables e below (T_18.setTop (mkF m 43 #[Rv arr, Iv off, Lv q, Zs] [(.ref arr)])) tt_
    refine XS.iloadN X_18.here hEX rfl (hb hBY d_method_2_code_43) rfl ?_
    show Steps p.tables e below (T_18.setTop (mkF m 44 #[Rv arr, Iv off, Lv q, Zs] [(.int off), (.ref arr)])) tt_
    refine XS.iconst X_18.here hEX rfl (hb hBY d_method_2_code_44) ?_
    show Steps p.tables e below (T_18.setTop (mkF m 45 #[Rv arr, Iv off, Lv q, Zs] [(.int (4 : Int32)), (.int off), (.ref arr)])) tt_
    refine XS.iadd X_18.here hEX rfl (hb hBY d_method_2_code_45) rfl ?_
    show Steps p.tables e below (T_18.setTop (mkF m 46 #[Rv arr, Iv off, Lv q, Zs] [(.int (off + (4 : Int32))), (.ref arr)])) tt_
    refine XS.lloadN X_18.here hEX rfl (hb hBY d_method_2_code_46) rfl ?_
    show Steps p.tables e below (T_18.setTop (mkF m 47 #[Rv arr, Iv off, Lv q, Zs] [(.long q), (.int (off + (4 : Int32))), (.ref arr)])) tt_
    refine XS.bipush X_18.here hEX rfl (hb hBY d_method_2_code_47) ?_
    show Steps p.tables e below (T_18.setTop (mkF m 49 #[Rv arr, Iv off, Lv q, Zs] [(.int (24 : Int32)), (.long q), (.int (off + (4 : Int32))), (.ref arr)])) tt_
    refine XS.lushr X_18.here hEX rfl (hb hBY d_method_2_code_49) rfl ?_
    show Steps p.tables e below (T_18.setTop (mkF m 50 #[Rv arr, Iv off, Lv q, Zs] [(.long ((q.toUInt64 >>> ((24 : Int32) &&& 0x3f).toInt64.toUInt64).toInt64)), (.int (off + (4 : Int32))), (.ref arr)])) tt_
    refine XS.l2i X_18.here hEX rfl (hb hBY d_method_2_code_50) rfl ?_
    show Steps p.tables e below (T_18.setTop (mkF m 51 #[Rv arr, Iv off, Lv q, Zs] [(.int (((q.toUInt64 >>> ((24 : Int32) &&& 0x3f).toInt64.toUInt64).toInt64).toInt32)), (.int (off + (4 : Int32))), (.ref arr)])) tt_
    refine XS.i2b X_18.here hEX rfl (hb hBY d_method_2_code_51) rfl ?_
    exact kt_
  refine Done.pre sg_22 ?_
  obtain ⟨cl_21, Ar_21, q_21, S_21, N__21, H_21, G_21⟩ := id f_20
  have hin_21 : ¬ ((off + (4 : Int32)) < 0 ∨ cl_21.slots.size ≤ ((off + (4 : Int32))).toNatClampNeg) := inb_of S_21 (own_ixj off o (4 : Int32) 4 ho (by decide)).1
  obtain ⟨T_23, h_23, X_23, e_23, W_23, st_23⟩ := stB X_18 hEX hZW e_18 Ar_21 (j := (off + (4 : Int32))) hin_21 (g := (mkF m 52 #[Rv arr, Iv off, Lv q, Zs] [(.int ((((q.toUInt64 >>> ((24 : Int32) &&& 0x3f).toInt64.toUInt64).toInt64).toInt32).toInt8.toInt32)), (.int (off + (4 : Int32))), (.ref arr)])) rfl rfl (hb hBY d_method_2_code_52)
  have N_23 := Fr.snoc X_23 N_18 ga
  have K__24 : Keep h0 h_23 [arr] := K__19.wr W_23 (Or.inl (List.mem_of_getElem? (i := 0) rfl))
  have f_25 : Arv Z h_23 arr k .byte (24 : Int32) (own_v (((((L.set (o + 0) (own_by q 56)).set (o + 1) (own_by q 48)).set (o + 2) (own_by q 40)).set (o + 3) (own_by q 32)).set (o + 4) (own_by q 24))) (.int (0 : Int32)) := own_cast (own_vset _ _ _) (Arv.set Ar_21 q_21 S_21 N__21 H_21 G_21 (fits_nar_byte _) W_23 (o + 4) (own_ixj off o (4 : Int32) 4 ho (by decide)).2 (by rw [own_vlen]; (try simp only [List.length_set]); omega))
  refine Done.pre st_23 ?_
  show Done _ _ _ _ _ _ _ (T_23.setTop (mkF m 53 #[Rv arr, Iv off, Lv q, Zs] []))
  have sg_27 : ∀ tt_, Steps p.tables e below (T_23.setTop (mkF m 63 #[Rv arr, Iv off, Lv q, Zs] [(.int ((((q.toUInt64 >>> ((16 : Int32) &&& 0x3f).toInt64.toUInt64).toInt64).toInt32).toInt8.toInt32)), (.int (off + (5 : Int32))), (.ref arr)])) tt_ → Steps p.tables e below (T_23.setTop (mkF m 53 #[Rv arr, Iv off, Lv q, Zs] [])) tt_ := by
    intro tt_ kt_
    refine XS.aloadN X_23.here hEX rfl (hb hBY d_method_2_code_53) rfl rfl ?_
    show Steps p.tables e below (T_23.setTop (mkF m 54 #[Rv arr, Iv off, Lv q, Zs] [(.ref arr)])) tt_
    refine XS.iloadN X_23.here hEX rfl (hb hBY d_method_2_code_54) rfl ?_
    show Steps p.tables e below (T_23.setTop (mkF m 55 #[Rv arr, Iv off, Lv q, Zs] [(.int off), (.ref arr)])) tt_
    refine XS.iconst X_23.here hEX rfl (hb hBY d_method_2_code_55) ?_
    show Steps p.tables e below (T_23.setTop (mkF m 56 #[Rv arr, Iv off, Lv q, Zs] [(.int (5 : Int32)), (.int off), (.ref arr)])) tt_
    refine XS.iadd X_23.here hEX rfl (hb hBY d_method_2_code_56) rfl ?_
    show Steps p.tables e below (T_23.setTop (mkF m 57 #[Rv arr, Iv off, Lv q, Zs] [(.int (off + (5 : Int32))), (.ref arr)])) tt_
    refine XS.lloadN X_23.here hEX rfl (hb hBY d_method_2_code_57) rfl ?_
    show Steps p.tables e below (T_23.setTop (mkF m 58 #[Rv arr, Iv off, Lv q, Zs] [(.long q), (.int (off + (5 : Int32))), (.ref arr)])) tt_
    refine XS.bipush X_23.here hEX rfl (hb hBY d_method_2_code_58) ?_
    show Steps p.tables e below (T_23.setTop (mkF m 60 #[Rv arr, Iv off, Lv q, Zs] [(.int (16 : Int32)), (.long q), (.int (off + (5 : Int32))), (.ref arr)])) tt_
    refine XS.lushr X_23.here hEX rfl (hb hBY d_method_2_code_60) rfl ?_
    show Steps p.tables e below (T_23.setTop (mkF m 61 #[Rv arr, Iv off, Lv q, Zs] [(.long ((q.toUInt64 >>> ((16 : Int32) &&& 0x3f).toInt64.toUInt64).toInt64)), (.int (off + (5 : Int32))), (.ref arr)])) tt_
    refine XS.l2i X_23.here hEX rfl (hb hBY d_method_2_code_61) rfl ?_
    show Steps p.tables e below (T_23.setTop (mkF m 62 #[Rv arr, Iv off, Lv q, Zs] [(.int (((q.toUInt64 >>> ((16 : Int32) &&& 0x3f).toInt64.toUInt64).toInt64).toInt32)), (.int (off + (5 : Int32))), (.ref arr)])) tt_
    refine XS.i2b X_23.here hEX rfl (hb hBY d_method_2_code_62) rfl ?_
    exact kt_
  refine Done.pre sg_27 ?_
  obtain ⟨cl_26, Ar_26, q_26, S_26, N__26, H_26, G_26⟩ := id f_25
  have hin_26 : ¬ ((off + (5 : Int32)) < 0 ∨ cl_26.slots.size ≤ ((off + (5 : Int32))).toNatClampNeg) := inb_of S_26 (own_ixj off o (5 : Int32) 5 ho (by decide)).1
  obtain ⟨T_28, h_28, X_28, e_28, W_28, st_28⟩ := stB X_23 hEX hZW e_23 Ar_26 (j := (off + (5 : Int32))) hin_26 (g := (mkF m 63 #[Rv arr, Iv off, Lv q, Zs] [(.int ((((q.toUInt64 >>> ((16 : Int32) &&& 0x3f).toInt64.toUInt64).toInt64).toInt32).toInt8.toInt32)), (.int (off + (5 : Int32))), (.ref arr)])) rfl rfl (hb hBY d_method_2_code_63)
  have N_28 := Fr.snoc X_28 N_23 ga
  have K__29 : Keep h0 h_28 [arr] := K__24.wr W_28 (Or.inl (List.mem_of_getElem? (i := 0) rfl))
  have f_30 : Arv Z h_28 arr k .byte (24 : Int32) (own_v ((((((L.set (o + 0) (own_by q 56)).set (o + 1) (own_by q 48)).set (o + 2) (own_by q 40)).set (o + 3) (own_by q 32)).set (o + 4) (own_by q 24)).set (o + 5) (own_by q 16))) (.int (0 : Int32)) := own_cast (own_vset _ _ _) (Arv.set Ar_26 q_26 S_26 N__26 H_26 G_26 (fits_nar_byte _) W_28 (o + 5) (own_ixj off o (5 : Int32) 5 ho (by decide)).2 (by rw [own_vlen]; (try simp only [List.length_set]); omega))
  refine Done.pre st_28 ?_
  show Done _ _ _ _ _ _ _ (T_28.setTop (mkF m 64 #[Rv arr, Iv off, Lv q, Zs] []))
  have sg_32 : ∀ tt_, Steps p.tables e below (T_28.setTop (mkF m 75 #[Rv arr, Iv off, Lv q, Zs] [(.int ((((q.toUInt64 >>> ((8 : Int32) &&& 0x3f).toInt64.toUInt64).toInt64).toInt32).toInt8.toInt32)), (.int (off + (6 : Int32))), (.ref arr)])) tt_ → Steps p.tables e below (T_28.setTop (mkF m 64 #[Rv arr, Iv off, Lv q, Zs] [])) tt_ := by
    intro tt_ kt_
    refine XS.aloadN X_28.here hEX rfl (hb hBY d_method_2_code_64) rfl rfl ?_
    show Steps p.tables e below (T_28.setTop (mkF m 65 #[Rv arr, Iv off, Lv q, Zs] [(.ref arr)])) tt_
    refine XS.iloadN X_28.here hEX rfl (hb hBY d_method_2_code_65) rfl ?_
    show Steps p.tables e below (T_28.setTop (mkF m 66 #[Rv arr, Iv off, Lv q, Zs] [(.int off), (.ref arr)])) tt_
    refine XS.bipush X_28.here hEX rfl (hb hBY d_method_2_code_66) ?_
    show Steps p.tables e below (T_28.setTop (mkF m 68 #[Rv arr, Iv off, Lv q, Zs] [(.int (6 : Int32)), (.int off), (.ref arr)])) tt_
    refine XS.iadd X_28.here hEX rfl (hb hBY d_method_2_code_68) rfl ?_
    show Steps p.tables e below (T_28.setTop (mkF m 69 #[Rv arr, Iv off, Lv q, Zs] [(.int (off + (6 : Int32))), (.ref arr)])) tt_
    refine XS.lloadN X_28.here hEX rfl (hb hBY d_method_2_code_69) rfl ?_
    show Steps p.tables e below (T_28.setTop (mkF m 70 #[Rv arr, Iv off, Lv q, Zs] [(.long q), (.int (off + (6 : Int32))), (.ref arr)])) tt_
    refine XS.bipush X_28.here hEX rfl (hb hBY d_method_2_code_70) ?_
    show Steps p.tables e below (T_28.setTop (mkF m 72 #[Rv arr, Iv off, Lv q, Zs] [(.int (8 : Int32)), (.long q), (.int (off + (6 : Int32))), (.ref arr)])) tt_
    refine XS.lushr X_28.here hEX rfl (hb hBY d_method_2_code_72) rfl ?_
    show Steps p.tables e below (T_28.setTop (mkF m 73 #[Rv arr, Iv off, Lv q, Zs] [(.long ((q.toUInt64 >>> ((8 : Int32) &&& 0x3f).toInt64.toUInt64).toInt64)), (.int (off + (6 : Int32))), (.ref arr)])) tt_
    refine XS.l2i X_28.here hEX rfl (hb hBY d_method_2_code_73) rfl ?_
    show Steps p.tables e below (T_28.setTop (mkF m 74 #[Rv arr, Iv off, Lv q, Zs] [(.int (((q.toUInt64 >>> ((8 : Int32) &&& 0x3f).toInt64.toUInt64).toInt64).toInt32)), (.int (off + (6 : Int32))), (.ref arr)])) tt_
    refine XS.i2b X_28.here hEX rfl (hb hBY d_method_2_code_74) rfl ?_
    exact kt_
  refine Done.pre sg_32 ?_
  obtain ⟨cl_31, Ar_31, q_31, S_31, N__31, H_31, G_31⟩ := id f_30
  have hin_31 : ¬ ((off + (6 : Int32)) < 0 ∨ cl_31.slots.size ≤ ((off + (6 : Int32))).toNatClampNeg) := inb_of S_31 (own_ixj off o (6 : Int32) 6 ho (by decide)).1
  obtain ⟨T_33, h_33, X_33, e_33, W_33, st_33⟩ := stB X_28 hEX hZW e_28 Ar_31 (j := (off + (6 : Int32))) hin_31 (g := (mkF m 75 #[Rv arr, Iv off, Lv q, Zs] [(.int ((((q.toUInt64 >>> ((8 : Int32) &&& 0x3f).toInt64.toUInt64).toInt64).toInt32).toInt8.toInt32)), (.int (off + (6 : Int32))), (.ref arr)])) rfl rfl (hb hBY d_method_2_code_75)
  have N_33 := Fr.snoc X_33 N_28 ga
  have K__34 : Keep h0 h_33 [arr] := K__29.wr W_33 (Or.inl (List.mem_of_getElem? (i := 0) rfl))
  have f_35 : Arv Z h_33 arr k .byte (24 : Int32) (own_v (((((((L.set (o + 0) (own_by q 56)).set (o + 1) (own_by q 48)).set (o + 2) (own_by q 40)).set (o + 3) (own_by q 32)).set (o + 4) (own_by q 24)).set (o + 5) (own_by q 16)).set (o + 6) (own_by q 8))) (.int (0 : Int32)) := own_cast (own_vset _ _ _) (Arv.set Ar_31 q_31 S_31 N__31 H_31 G_31 (fits_nar_byte _) W_33 (o + 6) (own_ixj off o (6 : Int32) 6 ho (by decide)).2 (by rw [own_vlen]; (try simp only [List.length_set]); omega))
  refine Done.pre st_33 ?_
  show Done _ _ _ _ _ _ _ (T_33.setTop (mkF m 76 #[Rv arr, Iv off, Lv q, Zs] []))
  have sg_37 : ∀ tt_, Steps p.tables e below (T_33.setTop (mkF m 84 #[Rv arr, Iv off, Lv q, Zs] [(.int ((q.toInt32).toInt8.toInt32)), (.int (off + (7 : Int32))), (.ref arr)])) tt_ → Steps p.tables e below (T_33.setTop (mkF m 76 #[Rv arr, Iv off, Lv q, Zs] [])) tt_ := by
    intro tt_ kt_
    refine XS.aloadN X_33.here hEX rfl (hb hBY d_method_2_code_76) rfl rfl ?_
    show Steps p.tables e below (T_33.setTop (mkF m 77 #[Rv arr, Iv off, Lv q, Zs] [(.ref arr)])) tt_
    refine XS.iloadN X_33.here hEX rfl (hb hBY d_method_2_code_77) rfl ?_
    show Steps p.tables e below (T_33.setTop (mkF m 78 #[Rv arr, Iv off, Lv q, Zs] [(.int off), (.ref arr)])) tt_
    refine XS.bipush X_33.here hEX rfl (hb hBY d_method_2_code_78) ?_
    show Steps p.tables e below (T_33.setTop (mkF m 80 #[Rv arr, Iv off, Lv q, Zs] [(.int (7 : Int32)), (.int off), (.ref arr)])) tt_
    refine XS.iadd X_33.here hEX rfl (hb hBY d_method_2_code_80) rfl ?_
    show Steps p.tables e below (T_33.setTop (mkF m 81 #[Rv arr, Iv off, Lv q, Zs] [(.int (off + (7 : Int32))), (.ref arr)])) tt_
    refine XS.lloadN X_33.here hEX rfl (hb hBY d_method_2_code_81) rfl ?_
    show Steps p.tables e below (T_33.setTop (mkF m 82 #[Rv arr, Iv off, Lv q, Zs] [(.long q), (.int (off + (7 : Int32))), (.ref arr)])) tt_
    refine XS.l2i X_33.here hEX rfl (hb hBY d_method_2_code_82) rfl ?_
    show Steps p.tables e below (T_33.setTop (mkF m 83 #[Rv arr, Iv off, Lv q, Zs] [(.int (q.toInt32)), (.int (off + (7 : Int32))), (.ref arr)])) tt_
    refine XS.i2b X_33.here hEX rfl (hb hBY d_method_2_code_83) rfl ?_
    exact kt_
  refine Done.pre sg_37 ?_
  obtain ⟨cl_36, Ar_36, q_36, S_36, N__36, H_36, G_36⟩ := id f_35
  have hin_36 : ¬ ((off + (7 : Int32)) < 0 ∨ cl_36.slots.size ≤ ((off + (7 : Int32))).toNatClampNeg) := inb_of S_36 (own_ixj off o (7 : Int32) 7 ho (by decide)).1
  obtain ⟨T_38, h_38, X_38, e_38, W_38, st_38⟩ := stB X_33 hEX hZW e_33 Ar_36 (j := (off + (7 : Int32))) hin_36 (g := (mkF m 84 #[Rv arr, Iv off, Lv q, Zs] [(.int ((q.toInt32).toInt8.toInt32)), (.int (off + (7 : Int32))), (.ref arr)])) rfl rfl (hb hBY d_method_2_code_84)
  have N_38 := Fr.snoc X_38 N_33 ga
  have K__39 : Keep h0 h_38 [arr] := K__34.wr W_38 (Or.inl (List.mem_of_getElem? (i := 0) rfl))
  have f_40 : Arv Z h_38 arr k .byte (24 : Int32) (own_v ((((((((L.set (o + 0) (own_by q 56)).set (o + 1) (own_by q 48)).set (o + 2) (own_by q 40)).set (o + 3) (own_by q 32)).set (o + 4) (own_by q 24)).set (o + 5) (own_by q 16)).set (o + 6) (own_by q 8)).set (o + 7) (own_by0 q))) (.int (0 : Int32)) := own_cast (own_vset _ _ _) (Arv.set Ar_36 q_36 S_36 N__36 H_36 G_36 (fits_nar_byte _) W_38 (o + 7) (own_ixj off o (7 : Int32) 7 ho (by decide)).2 (by rw [own_vlen]; (try simp only [List.length_set]); omega))
  refine Done.pre st_38 ?_
  show Done _ _ _ _ _ _ _ (T_38.setTop (mkF m 85 #[Rv arr, Iv off, Lv q, Zs] []))
  exact Done.retV X_38 hEX hLK hRT (hb hBY d_method_2_code_85) (by rw [e_38]; exact ⟨rfl, N_38, K__39, f_40⟩) (by decide) (by decide)
theorem d_method_3_code_0 : decode method_3_code 0 = .ok (.aload_n 0, 1) := by decide +kernel
theorem d_method_3_code_1 : decode method_3_code 1 = .ok (.iload_n 1, 1) := by decide +kernel
theorem d_method_3_code_2 : decode method_3_code 2 = .ok (.baload, 1) := by decide +kernel
theorem d_method_3_code_3 : decode method_3_code 3 = .ok (.sipush 255, 3) := by decide +kernel
theorem d_method_3_code_6 : decode method_3_code 6 = .ok (.iand, 1) := by decide +kernel
theorem d_method_3_code_7 : decode method_3_code 7 = .ok (.i2l, 1) := by decide +kernel
theorem d_method_3_code_8 : decode method_3_code 8 = .ok (.bipush 56, 2) := by decide +kernel
theorem d_method_3_code_10 : decode method_3_code 10 = .ok (.lshl, 1) := by decide +kernel
theorem d_method_3_code_11 : decode method_3_code 11 = .ok (.aload_n 0, 1) := by decide +kernel
theorem d_method_3_code_12 : decode method_3_code 12 = .ok (.iload_n 1, 1) := by decide +kernel
theorem d_method_3_code_13 : decode method_3_code 13 = .ok (.iconst 1, 1) := by decide +kernel
theorem d_method_3_code_14 : decode method_3_code 14 = .ok (.iadd, 1) := by decide +kernel
theorem d_method_3_code_15 : decode method_3_code 15 = .ok (.baload, 1) := by decide +kernel
theorem d_method_3_code_16 : decode method_3_code 16 = .ok (.sipush 255, 3) := by decide +kernel
theorem d_method_3_code_19 : decode method_3_code 19 = .ok (.iand, 1) := by decide +kernel
theorem d_method_3_code_20 : decode method_3_code 20 = .ok (.i2l, 1) := by decide +kernel
theorem d_method_3_code_21 : decode method_3_code 21 = .ok (.bipush 48, 2) := by decide +kernel
theorem d_method_3_code_23 : decode method_3_code 23 = .ok (.lshl, 1) := by decide +kernel
theorem d_method_3_code_24 : decode method_3_code 24 = .ok (.lor, 1) := by decide +kernel
theorem d_method_3_code_25 : decode method_3_code 25 = .ok (.aload_n 0, 1) := by decide +kernel
theorem d_method_3_code_26 : decode method_3_code 26 = .ok (.iload_n 1, 1) := by decide +kernel
theorem d_method_3_code_27 : decode method_3_code 27 = .ok (.iconst 2, 1) := by decide +kernel
theorem d_method_3_code_28 : decode method_3_code 28 = .ok (.iadd, 1) := by decide +kernel
theorem d_method_3_code_29 : decode method_3_code 29 = .ok (.baload, 1) := by decide +kernel
theorem d_method_3_code_30 : decode method_3_code 30 = .ok (.sipush 255, 3) := by decide +kernel
theorem d_method_3_code_33 : decode method_3_code 33 = .ok (.iand, 1) := by decide +kernel
theorem d_method_3_code_34 : decode method_3_code 34 = .ok (.i2l, 1) := by decide +kernel
theorem d_method_3_code_35 : decode method_3_code 35 = .ok (.bipush 40, 2) := by decide +kernel
theorem d_method_3_code_37 : decode method_3_code 37 = .ok (.lshl, 1) := by decide +kernel
theorem d_method_3_code_38 : decode method_3_code 38 = .ok (.lor, 1) := by decide +kernel
theorem d_method_3_code_39 : decode method_3_code 39 = .ok (.aload_n 0, 1) := by decide +kernel
theorem d_method_3_code_40 : decode method_3_code 40 = .ok (.iload_n 1, 1) := by decide +kernel
theorem d_method_3_code_41 : decode method_3_code 41 = .ok (.iconst 3, 1) := by decide +kernel
theorem d_method_3_code_42 : decode method_3_code 42 = .ok (.iadd, 1) := by decide +kernel
theorem d_method_3_code_43 : decode method_3_code 43 = .ok (.baload, 1) := by decide +kernel
theorem d_method_3_code_44 : decode method_3_code 44 = .ok (.sipush 255, 3) := by decide +kernel
theorem d_method_3_code_47 : decode method_3_code 47 = .ok (.iand, 1) := by decide +kernel
theorem d_method_3_code_48 : decode method_3_code 48 = .ok (.i2l, 1) := by decide +kernel
theorem d_method_3_code_49 : decode method_3_code 49 = .ok (.bipush 32, 2) := by decide +kernel
theorem d_method_3_code_51 : decode method_3_code 51 = .ok (.lshl, 1) := by decide +kernel
theorem d_method_3_code_52 : decode method_3_code 52 = .ok (.lor, 1) := by decide +kernel
theorem d_method_3_code_53 : decode method_3_code 53 = .ok (.aload_n 0, 1) := by decide +kernel
theorem d_method_3_code_54 : decode method_3_code 54 = .ok (.iload_n 1, 1) := by decide +kernel
theorem d_method_3_code_55 : decode method_3_code 55 = .ok (.iconst 4, 1) := by decide +kernel
theorem d_method_3_code_56 : decode method_3_code 56 = .ok (.iadd, 1) := by decide +kernel
theorem d_method_3_code_57 : decode method_3_code 57 = .ok (.baload, 1) := by decide +kernel
theorem d_method_3_code_58 : decode method_3_code 58 = .ok (.sipush 255, 3) := by decide +kernel
theorem d_method_3_code_61 : decode method_3_code 61 = .ok (.iand, 1) := by decide +kernel
theorem d_method_3_code_62 : decode method_3_code 62 = .ok (.i2l, 1) := by decide +kernel
theorem d_method_3_code_63 : decode method_3_code 63 = .ok (.bipush 24, 2) := by decide +kernel
theorem d_method_3_code_65 : decode method_3_code 65 = .ok (.lshl, 1) := by decide +kernel
theorem d_method_3_code_66 : decode method_3_code 66 = .ok (.lor, 1) := by decide +kernel
theorem d_method_3_code_67 : decode method_3_code 67 = .ok (.aload_n 0, 1) := by decide +kernel
theorem d_method_3_code_68 : decode method_3_code 68 = .ok (.iload_n 1, 1) := by decide +kernel
theorem d_method_3_code_69 : decode method_3_code 69 = .ok (.iconst 5, 1) := by decide +kernel
theorem d_method_3_code_70 : decode method_3_code 70 = .ok (.iadd, 1) := by decide +kernel
theorem d_method_3_code_71 : decode method_3_code 71 = .ok (.baload, 1) := by decide +kernel
theorem d_method_3_code_72 : decode method_3_code 72 = .ok (.sipush 255, 3) := by decide +kernel
theorem d_method_3_code_75 : decode method_3_code 75 = .ok (.iand, 1) := by decide +kernel
theorem d_method_3_code_76 : decode method_3_code 76 = .ok (.i2l, 1) := by decide +kernel
theorem d_method_3_code_77 : decode method_3_code 77 = .ok (.bipush 16, 2) := by decide +kernel
theorem d_method_3_code_79 : decode method_3_code 79 = .ok (.lshl, 1) := by decide +kernel
theorem d_method_3_code_80 : decode method_3_code 80 = .ok (.lor, 1) := by decide +kernel
theorem d_method_3_code_81 : decode method_3_code 81 = .ok (.aload_n 0, 1) := by decide +kernel
theorem d_method_3_code_82 : decode method_3_code 82 = .ok (.iload_n 1, 1) := by decide +kernel
theorem d_method_3_code_83 : decode method_3_code 83 = .ok (.bipush 6, 2) := by decide +kernel
theorem d_method_3_code_85 : decode method_3_code 85 = .ok (.iadd, 1) := by decide +kernel
theorem d_method_3_code_86 : decode method_3_code 86 = .ok (.baload, 1) := by decide +kernel
theorem d_method_3_code_87 : decode method_3_code 87 = .ok (.sipush 255, 3) := by decide +kernel
theorem d_method_3_code_90 : decode method_3_code 90 = .ok (.iand, 1) := by decide +kernel
theorem d_method_3_code_91 : decode method_3_code 91 = .ok (.i2l, 1) := by decide +kernel
theorem d_method_3_code_92 : decode method_3_code 92 = .ok (.bipush 8, 2) := by decide +kernel
theorem d_method_3_code_94 : decode method_3_code 94 = .ok (.lshl, 1) := by decide +kernel
theorem d_method_3_code_95 : decode method_3_code 95 = .ok (.lor, 1) := by decide +kernel
theorem d_method_3_code_96 : decode method_3_code 96 = .ok (.aload_n 0, 1) := by decide +kernel
theorem d_method_3_code_97 : decode method_3_code 97 = .ok (.iload_n 1, 1) := by decide +kernel
theorem d_method_3_code_98 : decode method_3_code 98 = .ok (.bipush 7, 2) := by decide +kernel
theorem d_method_3_code_100 : decode method_3_code 100 = .ok (.iadd, 1) := by decide +kernel
theorem d_method_3_code_101 : decode method_3_code 101 = .ok (.baload, 1) := by decide +kernel
theorem d_method_3_code_102 : decode method_3_code 102 = .ok (.sipush 255, 3) := by decide +kernel
theorem d_method_3_code_105 : decode method_3_code 105 = .ok (.iand, 1) := by decide +kernel
theorem d_method_3_code_106 : decode method_3_code 106 = .ok (.i2l, 1) := by decide +kernel
theorem d_method_3_code_107 : decode method_3_code 107 = .ok (.lor, 1) := by decide +kernel
theorem d_method_3_code_108 : decode method_3_code 108 = .ok (.lreturn, 1) := by decide +kernel
def Qrm_get (Z : State) (arr : Addr) (off : Int32) (L : List Int32) (o : Nat) (k : ClassId) (h0 : Heap) (n0 : Nat) (v_ : Option Value) (h_ : Heap) (L_ : List Loc) : Prop := v_ = some (.long (own_get L o)) ∧ Fr n0 L_ ∧ h_ = h0
theorem ef_rm_get (m : MethodId) (x0 : Addr) (x1 : Int32) : entryFrame m #[(.ref x0), (.int x1)] 2 = mkF m 0 #[.val (.ref x0), .val (.int x1)] [] := by first | (simp [entryFrame, mkF, argsToLocals, Value.category]; done) | rfl
set_option maxRecDepth 65536 in
set_option maxHeartbeats 40000000 in
theorem rm_get (l : Launch) (Z : State) (aZ : Array Value) (hw : ∀ d ∈ tables_1, d.before aZ Z = true) (ws : List Jvm.Cond) (arr : Addr) (off : Int32) (L : List Int32) (o : Nat) (k : ClassId) (h0 : Heap) (n0 : Nat) (Z0 : n0 ≤ h0.size) (Av : Arv Z h0 arr k .byte (24 : Int32) (own_v L) (.int (0 : Int32))) (ho : off.toInt = (o : Int) ∧ o ≤ 16) :
    MetFree l (⟨"com/example/tidelog/tidelog/net/NonceNextPinLaw", "get", "([BI)J"⟩ : MethodName) (head1 (Jvm.Cond.code (⟨"com/example/tidelog/tidelog/net/NonceNextPinLaw", "get", "([BI)J"⟩ : MethodName) method_3_code 2 (some .long) :: ws) ({ frames := 0, cells := 0, slots := 0, locals := 0 } : Room)) (fun a_ U_ => a_ = #[(.ref arr), (.int off)] ∧ Z.Warmed39 U_.vm ∧ U_.heap = h0) (fun _ _ _ _ _ => True) (fun _ U_ o_ U2_ => ∃ v_ L_, o_ = .returned v_ ∧ Qrm_get Z arr off L o k h0 n0 v_ U2_.heap L_ ∧ FrameEnd U_ o_ U2_ L_ ({ frames := 0, cells := 0, slots := 0, locals := 0 } : Room).cells ({ frames := 0, cells := 0, slots := 0, locals := 0 } : Room).slots) := by
  refine MetFree.of_bodySF (plainFor_of_name pn_com_example_tidelog_tidelog_net_NonceNextPinLaw) hisR ?_
  intro p e s m args below meth cO s₁ Bd hml0 hP hK
  obtain ⟨rfl, hZW, hh⟩ := hP
  have hEX := Bd.exec
  have hBY := Bd.bytes
  have hMX : cO.maxLocals = 2 := hml0
  have hOW : s.vm.findClass "com/example/tidelog/tidelog/net/NonceNextPinLaw" = some m.cls := findClass_of_methodNamed Bd.named
  have hNM := (name_of_methodNamed Bd.named Bd.method).1
  have hLK := Bd.notSynchronized
  have hRT := Bd.returns
  have X0 : Stand p l e ({ frames := 0, cells := 0, slots := 0, locals := 0 } : Room) s m #[(.ref arr), (.int off)] below meth cO s₁ [] 0 0 := Stand.of_body Bd
  have e0 : s₁.heap = h0 := by rw [← hh, Bd.state]; rfl
  have N0 := Fr.nil n0
  have K0 : Keep h0 h0 [] := Keep.refl _ _
  show Done p e below s (Qrm_get Z arr off L o k h0 n0) ({ frames := 0, cells := 0, slots := 0, locals := 0 } : Room).cells ({ frames := 0, cells := 0, slots := 0, locals := 0 } : Room).slots (s₁.setTop (entryFrame m #[(.ref arr), (.int off)] 2))
  refine Done.pre (fun t_ k_ => castTop (ef_rm_get m arr off) k_) ?_
  show Done _ _ _ _ _ _ _ (s₁.setTop (mkF m 0 #[Rv arr, Iv off] []))
  obtain ⟨cl_1, Ar_1, q_1, S_1, N__1, H_1, G_1⟩ := id Av
  have hin_1 : ¬ (off < 0 ∨ cl_1.slots.size ≤ (off).toNatClampNeg) := inb_of S_1 (own_ix0 off o ho).1
  have hat_1 : cl_1.slots[(off).toNatClampNeg]? = some (.int (L.getD (o + 0) 0)) := H_1.at hin_1 (by rw [(own_ix0 off o ho).2]; exact own_vget _ _)
  obtain ⟨cl_2, Ar_2, q_2, S_2, N__2, H_2, G_2⟩ := id Av
  have hin_2 : ¬ ((off + (1 : Int32)) < 0 ∨ cl_2.slots.size ≤ ((off + (1 : Int32))).toNatClampNeg) := inb_of S_2 (own_ixj off o (1 : Int32) 1 ho (by decide)).1
  have hat_2 : cl_2.slots[((off + (1 : Int32))).toNatClampNeg]? = some (.int (L.getD (o + 1) 0)) := H_2.at hin_2 (by rw [(own_ixj off o (1 : Int32) 1 ho (by decide)).2]; exact own_vget _ _)
  obtain ⟨cl_3, Ar_3, q_3, S_3, N__3, H_3, G_3⟩ := id Av
  have hin_3 : ¬ ((off + (2 : Int32)) < 0 ∨ cl_3.slots.size ≤ ((off + (2 : Int32))).toNatClampNeg) := inb_of S_3 (own_ixj off o (2 : Int32) 2 ho (by decide)).1
  have hat_3 : cl_3.slots[((off + (2 : Int32))).toNatClampNeg]? = some (.int (L.getD (o + 2) 0)) := H_3.at hin_3 (by rw [(own_ixj off o (2 : Int32) 2 ho (by decide)).2]; exact own_vget _ _)
  obtain ⟨cl_4, Ar_4, q_4, S_4, N__4, H_4, G_4⟩ := id Av
  have hin_4 : ¬ ((off + (3 : Int32)) < 0 ∨ cl_4.slots.size ≤ ((off + (3 : Int32))).toNatClampNeg) := inb_of S_4 (own_ixj off o (3 : Int32) 3 ho (by decide)).1
  have hat_4 : cl_4.slots[((off + (3 : Int32))).toNatClampNeg]? = some (.int (L.getD (o + 3) 0)) := H_4.at hin_4 (by rw [(own_ixj off o (3 : Int32) 3 ho (by decide)).2]; exact own_vget _ _)
  obtain ⟨cl_5, Ar_5, q_5, S_5, N__5, H_5, G_5⟩ := id Av
  have hin_5 : ¬ ((off + (4 : Int32)) < 0 ∨ cl_5.slots.size ≤ ((off + (4 : Int32))).toNatClampNeg) := inb_of S_5 (own_ixj off o (4 : Int32) 4 ho (by decide)).1
  have hat_5 : cl_5.slots[((off + (4 : Int32))).toNatClampNeg]? = some (.int (L.getD (o + 4) 0)) := H_5.at hin_5 (by rw [(own_ixj off o (4 : Int32) 4 ho (by decide)).2]; exact own_vget _ _)
  obtain ⟨cl_6, Ar_6, q_6, S_6, N__6, H_6, G_6⟩ := id Av
  have hin_6 : ¬ ((off + (5 : Int32)) < 0 ∨ cl_6.slots.size ≤ ((off + (5 : Int32))).toNatClampNeg) := inb_of S_6 (own_ixj off o (5 : Int32) 5 ho (by decide)).1
  have hat_6 : cl_6.slots[((off + (5 : Int32))).toNatClampNeg]? = some (.int (L.getD (o + 5) 0)) := H_6.at hin_6 (by rw [(own_ixj off o (5 : Int32) 5 ho (by decide)).2]; exact own_vget _ _)
  obtain ⟨cl_7, Ar_7, q_7, S_7, N__7, H_7, G_7⟩ := id Av
  have hin_7 : ¬ ((off + (6 : Int32)) < 0 ∨ cl_7.slots.size ≤ ((off + (6 : Int32))).toNatClampNeg) := inb_of S_7 (own_ixj off o (6 : Int32) 6 ho (by decide)).1
  have hat_7 : cl_7.slots[((off + (6 : Int32))).toNatClampNeg]? = some (.int (L.getD (o + 6) 0)) := H_7.at hin_7 (by rw [(own_ixj off o (6 : Int32) 6 ho (by decide)).2]; exact own_vget _ _)
  obtain ⟨cl_8, Ar_8, q_8, S_8, N__8, H_8, G_8⟩ := id Av
  have hin_8 : ¬ ((off + (7 : Int32)) < 0 ∨ cl_8.slots.size ≤ ((off + (7 : Int32))).toNatClampNeg) := inb_of S_8 (own_ixj off o (7 : Int32) 7 ho (by decide)).1
  have hat_8 : cl_8.slots[((off + (7 : Int32))).toNatClampNeg]? = some (.int (L.getD (o + 7) 0)) := H_8.at hin_8 (by rw [(own_ixj off o (7 : Int32) 7 ho (by decide)).2]; exact own_vget _ _)
  have sg_9 : ∀ tt_, Steps p.tables e below (s₁.setTop (mkF m 108 #[Rv arr, Iv off] [(.long (((((((((((L.getD (o + 0) 0) &&& (255 : Int32)).toInt64) <<< ((56 : Int32) &&& 0x3f).toInt64) ||| ((((L.getD (o + 1) 0) &&& (255 : Int32)).toInt64) <<< ((48 : Int32) &&& 0x3f).toInt64)) ||| ((((L.getD (o + 2) 0) &&& (255 : Int32)).toInt64) <<< ((40 : Int32) &&& 0x3f).toInt64)) ||| ((((L.getD (o + 3) 0) &&& (255 : Int32)).toInt64) <<< ((32 : Int32) &&& 0x3f).toInt64)) ||| ((((L.getD (o + 4) 0) &&& (255 : Int32)).toInt64) <<< ((24 : Int32) &&& 0x3f).toInt64)) ||| ((((L.getD (o + 5) 0) &&& (255 : Int32)).toInt64) <<< ((16 : Int32) &&& 0x3f).toInt64)) ||| ((((L.getD (o + 6) 0) &&& (255 : Int32)).toInt64) <<< ((8 : Int32) &&& 0x3f).toInt64)) ||| (((L.getD (o + 7) 0) &&& (255 : Int32)).toInt64)))])) tt_ → Steps p.tables e below (s₁.setTop (mkF m 0 #[Rv arr, Iv off] [])) tt_ := by
    intro tt_ kt_
    refine XS.aloadN X0.here hEX rfl (hb hBY d_method_3_code_0) rfl rfl ?_
    show Steps p.tables e below (s₁.setTop (mkF m 1 #[Rv arr, Iv off] [(.ref arr)])) tt_
    refine XS.iloadN X0.here hEX rfl (hb hBY d_method_3_code_1) rfl ?_
    show Steps p.tables e below (s₁.setTop (mkF m 2 #[Rv arr, Iv off] [(.int off), (.ref arr)])) tt_
    refine X0.baloadBytes hEX (j := off) (v := (.int (L.getD (o + 0) 0))) (by rw [e0]; exact Ar_1.1) (State.isArrayOf_alike hZW.alike Ar_1.2.1) Ar_1.2.2 hin_1 hat_1 (g := (mkF m 2 #[Rv arr, Iv off] [(.int off), (.ref arr)])) rfl rfl (hb hBY d_method_3_code_2) _ ?_
    show Steps p.tables e below (s₁.setTop (mkF m 3 #[Rv arr, Iv off] [(.int (L.getD (o + 0) 0))])) tt_
    refine XS.sipush X0.here hEX rfl (hb hBY d_method_3_code_3) ?_
    show Steps p.tables e below (s₁.setTop (mkF m 6 #[Rv arr, Iv off] [(.int (255 : Int32)), (.int (L.getD (o + 0) 0))])) tt_
    refine XS.iand X0.here hEX rfl (hb hBY d_method_3_code_6) rfl ?_
    show Steps p.tables e below (s₁.setTop (mkF m 7 #[Rv arr, Iv off] [(.int ((L.getD (o + 0) 0) &&& (255 : Int32)))])) tt_
    refine XS.i2l X0.here hEX rfl (hb hBY d_method_3_code_7) rfl ?_
    show Steps p.tables e below (s₁.setTop (mkF m 8 #[Rv arr, Iv off] [(.long (((L.getD (o + 0) 0) &&& (255 : Int32)).toInt64))])) tt_
    refine XS.bipush X0.here hEX rfl (hb hBY d_method_3_code_8) ?_
    show Steps p.tables e below (s₁.setTop (mkF m 10 #[Rv arr, Iv off] [(.int (56 : Int32)), (.long (((L.getD (o + 0) 0) &&& (255 : Int32)).toInt64))])) tt_
    refine XS.lshl X0.here hEX rfl (hb hBY d_method_3_code_10) rfl ?_
    show Steps p.tables e below (s₁.setTop (mkF m 11 #[Rv arr, Iv off] [(.long ((((L.getD (o + 0) 0) &&& (255 : Int32)).toInt64) <<< ((56 : Int32) &&& 0x3f).toInt64))])) tt_
    refine XS.aloadN X0.here hEX rfl (hb hBY d_method_3_code_11) rfl rfl ?_
    show Steps p.tables e below (s₁.setTop (mkF m 12 #[Rv arr, Iv off] [(.ref arr), (.long ((((L.getD (o + 0) 0) &&& (255 : Int32)).toInt64) <<< ((56 : Int32) &&& 0x3f).toInt64))])) tt_
    refine XS.iloadN X0.here hEX rfl (hb hBY d_method_3_code_12) rfl ?_
    show Steps p.tables e below (s₁.setTop (mkF m 13 #[Rv arr, Iv off] [(.int off), (.ref arr), (.long ((((L.getD (o + 0) 0) &&& (255 : Int32)).toInt64) <<< ((56 : Int32) &&& 0x3f).toInt64))])) tt_
    refine XS.iconst X0.here hEX rfl (hb hBY d_method_3_code_13) ?_
    show Steps p.tables e below (s₁.setTop (mkF m 14 #[Rv arr, Iv off] [(.int (1 : Int32)), (.int off), (.ref arr), (.long ((((L.getD (o + 0) 0) &&& (255 : Int32)).toInt64) <<< ((56 : Int32) &&& 0x3f).toInt64))])) tt_
    refine XS.iadd X0.here hEX rfl (hb hBY d_method_3_code_14) rfl ?_
    show Steps p.tables e below (s₁.setTop (mkF m 15 #[Rv arr, Iv off] [(.int (off + (1 : Int32))), (.ref arr), (.long ((((L.getD (o + 0) 0) &&& (255 : Int32)).toInt64) <<< ((56 : Int32) &&& 0x3f).toInt64))])) tt_
    refine X0.baloadBytes hEX (j := (off + (1 : Int32))) (v := (.int (L.getD (o + 1) 0))) (by rw [e0]; exact Ar_2.1) (State.isArrayOf_alike hZW.alike Ar_2.2.1) Ar_2.2.2 hin_2 hat_2 (g := (mkF m 15 #[Rv arr, Iv off] [(.int (off + (1 : Int32))), (.ref arr), (.long ((((L.getD (o + 0) 0) &&& (255 : Int32)).toInt64) <<< ((56 : Int32) &&& 0x3f).toInt64))])) rfl rfl (hb hBY d_method_3_code_15) _ ?_
    show Steps p.tables e below (s₁.setTop (mkF m 16 #[Rv arr, Iv off] [(.int (L.getD (o + 1) 0)), (.long ((((L.getD (o + 0) 0) &&& (255 : Int32)).toInt64) <<< ((56 : Int32) &&& 0x3f).toInt64))])) tt_
    refine XS.sipush X0.here hEX rfl (hb hBY d_method_3_code_16) ?_
    show Steps p.tables e below (s₁.setTop (mkF m 19 #[Rv arr, Iv off] [(.int (255 : Int32)), (.int (L.getD (o + 1) 0)), (.long ((((L.getD (o + 0) 0) &&& (255 : Int32)).toInt64) <<< ((56 : Int32) &&& 0x3f).toInt64))])) tt_
    refine XS.iand X0.here hEX rfl (hb hBY d_method_3_code_19) rfl ?_
    show Steps p.tables e below (s₁.setTop (mkF m 20 #[Rv arr, Iv off] [(.int ((L.getD (o + 1) 0) &&& (255 : Int32))), (.long ((((L.getD (o + 0) 0) &&& (255 : Int32)).toInt64) <<< ((56 : Int32) &&& 0x3f).toInt64))])) tt_
    refine XS.i2l X0.here hEX rfl (hb hBY d_method_3_code_20) rfl ?_
    show Steps p.tables e below (s₁.setTop (mkF m 21 #[Rv arr, Iv off] [(.long (((L.getD (o + 1) 0) &&& (255 : Int32)).toInt64)), (.long ((((L.getD (o + 0) 0) &&& (255 : Int32)).toInt64) <<< ((56 : Int32) &&& 0x3f).toInt64))])) tt_
    refine XS.bipush X0.here hEX rfl (hb hBY d_method_3_code_21) ?_
    show Steps p.tables e below (s₁.setTop (mkF m 23 #[Rv arr, Iv off] [(.int (48 : Int32)), (.long (((L.getD (o + 1) 0) &&& (255 : Int32)).toInt64)), (.long ((((L.getD (o + 0) 0) &&& (255 : Int32)).toInt64) <<< ((56 : Int32) &&& 0x3f).toInt64))])) tt_
    refine XS.lshl X0.here hEX rfl (hb hBY d_method_3_code_23) rfl ?_
    show Steps p.tables e below (s₁.setTop (mkF m 24 #[Rv arr, Iv off] [(.long ((((L.getD (o + 1) 0) &&& (255 : Int32)).toInt64) <<< ((48 : Int32) &&& 0x3f).toInt64)), (.long ((((L.getD (o + 0) 0) &&& (255 : Int32)).toInt64) <<< ((56 : Int32) &&& 0x3f).toInt64))])) tt_
    refine XS.lor X0.here hEX rfl (hb hBY d_method_3_code_24) rfl ?_
    show Steps p.tables e below (s₁.setTop (mkF m 25 #[Rv arr, Iv off] [(.long (((((L.getD (o + 0) 0) &&& (255 : Int32)).toInt64) <<< ((56 : Int32) &&& 0x3f).toInt64) ||| ((((L.getD (o + 1) 0) &&& (255 : Int32)).toInt64) <<< ((48 : Int32) &&& 0x3f).toInt64)))])) tt_
    refine XS.aloadN X0.here hEX rfl (hb hBY d_method_3_code_25) rfl rfl ?_
    show Steps p.tables e below (s₁.setTop (mkF m 26 #[Rv arr, Iv off] [(.ref arr), (.long (((((L.getD (o + 0) 0) &&& (255 : Int32)).toInt64) <<< ((56 : Int32) &&& 0x3f).toInt64) ||| ((((L.getD (o + 1) 0) &&& (255 : Int32)).toInt64) <<< ((48 : Int32) &&& 0x3f).toInt64)))])) tt_
    refine XS.iloadN X0.here hEX rfl (hb hBY d_method_3_code_26) rfl ?_
    show Steps p.tables e below (s₁.setTop (mkF m 27 #[Rv arr, Iv off] [(.int off), (.ref arr), (.long (((((L.getD (o + 0) 0) &&& (255 : Int32)).toInt64) <<< ((56 : Int32) &&& 0x3f).toInt64) ||| ((((L.getD (o + 1) 0) &&& (255 : Int32)).toInt64) <<< ((48 : Int32) &&& 0x3f).toInt64)))])) tt_
    refine XS.iconst X0.here hEX rfl (hb hBY d_method_3_code_27) ?_
    show Steps p.tables e below (s₁.setTop (mkF m 28 #[Rv arr, Iv off] [(.int (2 : Int32)), (.int off), (.ref arr), (.long (((((L.getD (o + 0) 0) &&& (255 : Int32)).toInt64) <<< ((56 : Int32) &&& 0x3f).toInt64) ||| ((((L.getD (o + 1) 0) &&& (255 : Int32)).toInt64) <<< ((48 : Int32) &&& 0x3f).toInt64)))])) tt_
    refine XS.iadd X0.here hEX rfl (hb hBY d_method_3_code_28) rfl ?_
    show Steps p.tables e below (s₁.setTop (mkF m 29 #[Rv arr, Iv off] [(.int (off + (2 : Int32))), (.ref arr), (.long (((((L.getD (o + 0) 0) &&& (255 : Int32)).toInt64) <<< ((56 : Int32) &&& 0x3f).toInt64) ||| ((((L.getD (o + 1) 0) &&& (255 : Int32)).toInt64) <<< ((48 : Int32) &&& 0x3f).toInt64)))])) tt_
    refine X0.baloadBytes hEX (j := (off + (2 : Int32))) (v := (.int (L.getD (o + 2) 0))) (by rw [e0]; exact Ar_3.1) (State.isArrayOf_alike hZW.alike Ar_3.2.1) Ar_3.2.2 hin_3 hat_3 (g := (mkF m 29 #[Rv arr, Iv off] [(.int (off + (2 : Int32))), (.ref arr), (.long (((((L.getD (o + 0) 0) &&& (255 : Int32)).toInt64) <<< ((56 : Int32) &&& 0x3f).toInt64) ||| ((((L.getD (o + 1) 0) &&& (255 : Int32)).toInt64) <<< ((48 : Int32) &&& 0x3f).toInt64)))])) rfl rfl (hb hBY d_method_3_code_29) _ ?_
    show Steps p.tables e below (s₁.setTop (mkF m 30 #[Rv arr, Iv off] [(.int (L.getD (o + 2) 0)), (.long (((((L.getD (o + 0) 0) &&& (255 : Int32)).toInt64) <<< ((56 : Int32) &&& 0x3f).toInt64) ||| ((((L.getD (o + 1) 0) &&& (255 : Int32)).toInt64) <<< ((48 : Int32) &&& 0x3f).toInt64)))])) tt_
    refine XS.sipush X0.here hEX rfl (hb hBY d_method_3_code_30) ?_
    show Steps p.tables e below (s₁.setTop (mkF m 33 #[Rv arr, Iv off] [(.int (255 : Int32)), (.int (L.getD (o + 2) 0)), (.long (((((L.getD (o + 0) 0) &&& (255 : Int32)).toInt64) <<< ((56 : Int32) &&& 0x3f).toInt64) ||| ((((L.getD (o + 1) 0) &&& (255 : Int32)).toInt64) <<< ((48 : Int32) &&& 0x3f).toInt64)))])) tt_
    refine XS.iand X0.here hEX rfl (hb hBY d_method_3_code_33) rfl ?_
    show Steps p.tables e below (s₁.setTop (mkF m 34 #[Rv arr, Iv off] [(.int ((L.getD (o + 2) 0) &&& (255 : Int32))), (.long (((((L.getD (o + 0) 0) &&& (255 : Int32)).toInt64) <<< ((56 : Int32) &&& 0x3f).toInt64) ||| ((((L.getD (o + 1) 0) &&& (255 : Int32)).toInt64) <<< ((48 : Int32) &&& 0x3f).toInt64)))])) tt_
    refine XS.i2l X0.here hEX rfl (hb hBY d_method_3_code_34) rfl ?_
    show Steps p.tables e below (s₁.setTop (mkF m 35 #[Rv arr, Iv off] [(.long (((L.getD (o + 2) 0) &&& (255 : Int32)).toInt64)), (.long (((((L.getD (o + 0) 0) &&& (255 : Int32)).toInt64) <<< ((56 : Int32) &&& 0x3f).toInt64) ||| ((((L.getD (o + 1) 0) &&& (255 : Int32)).toInt64) <<< ((48 : Int32) &&& 0x3f).toInt64)))])) tt_
    refine XS.bipush X0.here hEX rfl (hb hBY d_method_3_code_35) ?_
    show Steps p.tables e below (s₁.setTop (mkF m 37 #[Rv arr, Iv off] [(.int (40 : Int32)), (.long (((L.getD (o + 2) 0) &&& (255 : Int32)).toInt64)), (.long (((((L.getD (o + 0) 0) &&& (255 : Int32)).toInt64) <<< ((56 : Int32) &&& 0x3f).toInt64) ||| ((((L.getD (o + 1) 0) &&& (255 : Int32)).toInt64) <<< ((48 : Int32) &&& 0x3f).toInt64)))])) tt_
    refine XS.lshl X0.here hEX rfl (hb hBY d_method_3_code_37) rfl ?_
    show Steps p.tables e below (s₁.setTop (mkF m 38 #[Rv arr, Iv off] [(.long ((((L.getD (o + 2) 0) &&& (255 : Int32)).toInt64) <<< ((40 : Int32) &&& 0x3f).toInt64)), (.long (((((L.getD (o + 0) 0) &&& (255 : Int32)).toInt64) <<< ((56 : Int32) &&& 0x3f).toInt64) ||| ((((L.getD (o + 1) 0) &&& (255 : Int32)).toInt64) <<< ((48 : Int32) &&& 0x3f).toInt64)))])) tt_
    refine XS.lor X0.here hEX rfl (hb hBY d_method_3_code_38) rfl ?_
    show Steps p.tables e below (s₁.setTop (mkF m 39 #[Rv arr, Iv off] [(.long ((((((L.getD (o + 0) 0) &&& (255 : Int32)).toInt64) <<< ((56 : Int32) &&& 0x3f).toInt64) ||| ((((L.getD (o + 1) 0) &&& (255 : Int32)).toInt64) <<< ((48 : Int32) &&& 0x3f).toInt64)) ||| ((((L.getD (o + 2) 0) &&& (255 : Int32)).toInt64) <<< ((40 : Int32) &&& 0x3f).toInt64)))])) tt_
    refine XS.aloadN X0.here hEX rfl (hb hBY d_method_3_code_39) rfl rfl ?_
    show Steps p.tables e below (s₁.setTop (mkF m 40 #[Rv arr, Iv off] [(.ref arr), (.long ((((((L.getD (o + 0) 0) &&& (255 : Int32)).toInt64) <<< ((56 : Int32) &&& 0x3f).toInt64) ||| ((((L.getD (o + 1) 0) &&& (255 : Int32)).toInt64) <<< ((48 : Int32) &&& 0x3f).toInt64)) ||| ((((L.getD (o + 2) 0) &&& (255 : Int32)).toInt64) <<< ((40 : Int32) &&& 0x3f).toInt64)))])) tt_
    refine XS.iloadN X0.here hEX rfl (hb hBY d_method_3_code_40) rfl ?_
    show Steps p.tables e below (s₁.setTop (mkF m 41 #[Rv arr, Iv off] [(.int off), (.ref arr), (.long ((((((L.getD (o + 0) 0) &&& (255 : Int32)).toInt64) <<< ((56 : Int32) &&& 0x3f).toInt64) ||| ((((L.getD (o + 1) 0) &&& (255 : Int32)).toInt64) <<< ((48 : Int32) &&& 0x3f).toInt64)) ||| ((((L.getD (o + 2) 0) &&& (255 : Int32)).toInt64) <<< ((40 : Int32) &&& 0x3f).toInt64)))])) tt_
    refine XS.iconst X0.here hEX rfl (hb hBY d_method_3_code_41) ?_
    show Steps p.tables e below (s₁.setTop (mkF m 42 #[Rv arr, Iv off] [(.int (3 : Int32)), (.int off), (.ref arr), (.long ((((((L.getD (o + 0) 0) &&& (255 : Int32)).toInt64) <<< ((56 : Int32) &&& 0x3f).toInt64) ||| ((((L.getD (o + 1) 0) &&& (255 : Int32)).toInt64) <<< ((48 : Int32) &&& 0x3f).toInt64)) ||| ((((L.getD (o + 2) 0) &&& (255 : Int32)).toInt64) <<< ((40 : Int32) &&& 0x3f).toInt64)))])) tt_
    refine XS.iadd X0.here hEX rfl (hb hBY d_method_3_code_42) rfl ?_
    show Steps p.tables e below (s₁.setTop (mkF m 43 #[Rv arr, Iv off] [(.int (off + (3 : Int32))), (.ref arr), (.long ((((((L.getD (o + 0) 0) &&& (255 : Int32)).toInt64) <<< ((56 : Int32) &&& 0x3f).toInt64) ||| ((((L.getD (o + 1) 0) &&& (255 : Int32)).toInt64) <<< ((48 : Int32) &&& 0x3f).toInt64)) ||| ((((L.getD (o + 2) 0) &&& (255 : Int32)).toInt64) <<< ((40 : Int32) &&& 0x3f).toInt64)))])) tt_
    refine X0.baloadBytes hEX (j := (off + (3 : Int32))) (v := (.int (L.getD (o + 3) 0))) (by rw [e0]; exact Ar_4.1) (State.isArrayOf_alike hZW.alike Ar_4.2.1) Ar_4.2.2 hin_4 hat_4 (g := (mkF m 43 #[Rv arr, Iv off] [(.int (off + (3 : Int32))), (.ref arr), (.long ((((((L.getD (o + 0) 0) &&& (255 : Int32)).toInt64) <<< ((56 : Int32) &&& 0x3f).toInt64) ||| ((((L.getD (o + 1) 0) &&& (255 : Int32)).toInt64) <<< ((48 : Int32) &&& 0x3f).toInt64)) ||| ((((L.getD (o + 2) 0) &&& (255 : Int32)).toInt64) <<< ((40 : Int32) &&& 0x3f).toInt64)))])) rfl rfl (hb hBY d_method_3_code_43) _ ?_
    show Steps p.tables e below (s₁.setTop (mkF m 44 #[Rv arr, Iv off] [(.int (L.getD (o + 3) 0)), (.long ((((((L.getD (o + 0) 0) &&& (255 : Int32)).toInt64) <<< ((56 : Int32) &&& 0x3f).toInt64) ||| ((((L.getD (o + 1) 0) &&& (255 : Int32)).toInt64) <<< ((48 : Int32) &&& 0x3f).toInt64)) ||| ((((L.getD (o + 2) 0) &&& (255 : Int32)).toInt64) <<< ((40 : Int32) &&& 0x3f).toInt64)))])) tt_
    refine XS.sipush X0.here hEX rfl (hb hBY d_method_3_code_44) ?_
    show Steps p.tables e below (s₁.setTop (mkF m 47 #[Rv arr, Iv off] [(.int (255 : Int32)), (.int (L.getD (o + 3) 0)), (.long ((((((L.getD (o + 0) 0) &&& (255 : Int32)).toInt64) <<< ((56 : Int32) &&& 0x3f).toInt64) ||| ((((L.getD (o + 1) 0) &&& (255 : Int32)).toInt64) <<< ((48 : Int32) &&& 0x3f).toInt64)) ||| ((((L.getD (o + 2) 0) &&& (255 : Int32)).toInt64) <<< ((40 : Int32) &&& 0x3f).toInt64)))])) tt_
    refine XS.iand X0.here hEX rfl (hb hBY d_method_3_code_47) rfl ?_
    show Steps p.tables e below (s₁.setTop (mkF m 48 #[Rv arr, Iv off] [(.int ((L.getD (o + 3) 0) &&& (255 : Int32))), (.long ((((((L.getD (o + 0) 0) &&& (255 : Int32)).toInt64) <<< ((56 : Int32) &&& 0x3f).toInt64) ||| ((((L.getD (o + 1) 0) &&& (255 : Int32)).toInt64) <<< ((48 : Int32) &&& 0x3f).toInt64)) ||| ((((L.getD (o + 2) 0) &&& (255 : Int32)).toInt64) <<< ((40 : Int32) &&& 0x3f).toInt64)))])) tt_
    refine XS.i2l X0.here hEX rfl (hb hBY d_method_3_code_48) rfl ?_
    show Steps p.tables e below (s₁.setTop (mkF m 49 #[Rv arr, Iv off] [(.long (((L.getD (o + 3) 0) &&& (255 : Int32)).toInt64)), (.long ((((((L.getD (o + 0) 0) &&& (255 : Int32)).toInt64) <<< ((56 : Int32) &&& 0x3f).toInt64) ||| ((((L.getD (o + 1) 0) &&& (255 : Int32)).toInt64) <<< ((48 : Int32) &&& 0x3f).toInt64)) ||| ((((L.getD (o + 2) 0) &&& (255 : Int32)).toInt64) <<< ((40 : Int32) &&& 0x3f).toInt64)))])) tt_
    refine XS.bipush X0.here hEX rfl (hb hBY d_method_3_code_49) ?_
    show Steps p.tables e below (s₁.setTop (mkF m 51 #[Rv arr, Iv off] [(.int (32 : Int32)), (.long (((L.getD (o + 3) 0) &&& (255 : Int32)).toInt64)), (.long ((((((L.getD (o + 0) 0) &&& (255 : Int32)).toInt64) <<< ((56 : Int32) &&& 0x3f).toInt64) ||| ((((L.getD (o + 1) 0) &&& (255 : Int32)).toInt64) <<< ((48 : Int32) &&& 0x3f).toInt64)) ||| ((((L.getD (o + 2) 0) &&& (255 : Int32)).toInt64) <<< ((40 : Int32) &&& 0x3f).toInt64)))])) tt_
    refine XS.lshl X0.here hEX rfl (hb hBY d_method_3_code_51) rfl ?_
    show Steps p.tables e below (s₁.setTop (mkF m 52 #[Rv arr, Iv off] [(.long ((((L.getD (o + 3) 0) &&& (255 : Int32)).toInt64) <<< ((32 : Int32) &&& 0x3f).toInt64)), (.long ((((((L.getD (o + 0) 0) &&& (255 : Int32)).toInt64) <<< ((56 : Int32) &&& 0x3f).toInt64) ||| ((((L.getD (o + 1) 0) &&& (255 : Int32)).toInt64) <<< ((48 : Int32) &&& 0x3f).toInt64)) ||| ((((L.getD (o + 2) 0) &&& (255 : Int32)).toInt64) <<< ((40 : Int32) &&& 0x3f).toInt64)))])) tt_
    refine XS.lor X0.here hEX rfl (hb hBY d_method_3_code_52) rfl ?_
    show Steps p.tables e below (s₁.setTop (mkF m 53 #[Rv arr, Iv off] [(.long (((((((L.getD (o + 0) 0) &&& (255 : Int32)).toInt64) <<< ((56 : Int32) &&& 0x3f).toInt64) ||| ((((L.getD (o + 1) 0) &&& (255 : Int32)).toInt64) <<< ((48 : Int32) &&& 0x3f).toInt64)) ||| ((((L.getD (o + 2) 0) &&& (255 : Int32)).toInt64) <<< ((40 : Int32) &&& 0x3f).toInt64)) ||| ((((L.getD (o + 3) 0) &&& (255 : Int32)).toInt64) <<< ((32 : Int32) &&& 0x3f).toInt64)))])) tt_
    refine XS.aloadN X0.here hEX rfl (hb hBY d_method_3_code_53) rfl rfl ?_
    show Steps p.tables e below (s₁.setTop (mkF m 54 #[Rv arr, Iv off] [(.ref arr), (.long (((((((L.getD (o + 0) 0) &&& (255 : Int32)).toInt64) <<< ((56 : Int32) &&& 0x3f).toInt64) ||| ((((L.getD (o + 1) 0) &&& (255 : Int32)).toInt64) <<< ((48 : Int32) &&& 0x3f).toInt64)) ||| ((((L.getD (o + 2) 0) &&& (255 : Int32)).toInt64) <<< ((40 : Int32) &&& 0x3f).toInt64)) ||| ((((L.getD (o + 3) 0) &&& (255 : Int32)).toInt64) <<< ((32 : Int32) &&& 0x3f).toInt64)))])) tt_
    refine XS.iloadN X0.here hEX rfl (hb hBY d_method_3_code_54) rfl ?_
    show Steps p.tables e below (s₁.setTop (mkF m 55 #[Rv arr, Iv off] [(.int off), (.ref arr), (.long (((((((L.getD (o + 0) 0) &&& (255 : Int32)).toInt64) <<< ((56 : Int32) &&& 0x3f).toInt64) ||| ((((L.getD (o + 1) 0) &&& (255 : Int32)).toInt64) <<< ((48 : Int32) &&& 0x3f).toInt64)) ||| ((((L.getD (o + 2) 0) &&& (255 : Int32)).toInt64) <<< ((40 : Int32) &&& 0x3f).toInt64)) ||| ((((L.getD (o + 3) 0) &&& (255 : Int32)).toInt64) <<< ((32 : Int32) &&& 0x3f).toInt64)))])) tt_
    refine XS.iconst X0.here hEX rfl (hb hBY d_method_3_code_55) ?_
    show Steps p.tables e below (s₁.setTop (mkF m 56 #[Rv arr, Iv off] [(.int (4 : Int32)), (.int off), (.ref arr), (.long (((((((L.getD (o + 0) 0) &&& (255 : Int32)).toInt64) <<< ((56 : Int32) &&& 0x3f).toInt64) ||| ((((L.getD (o + 1) 0) &&& (255 : Int32)).toInt64) <<< ((48 : Int32) &&& 0x3f).toInt64)) ||| ((((L.getD (o + 2) 0) &&& (255 : Int32)).toInt64) <<< ((40 : Int32) &&& 0x3f).toInt64)) ||| ((((L.getD (o + 3) 0) &&& (255 : Int32)).toInt64) <<< ((32 : Int32) &&& 0x3f).toInt64)))])) tt_
    refine XS.iadd X0.here hEX rfl (hb hBY d_method_3_code_56) rfl ?_
    show Steps p.tables e below (s₁.setTop (mkF m 57 #[Rv arr, Iv off] [(.int (off + (4 : Int32))), (.ref arr), (.long (((((((L.getD (o + 0) 0) &&& (255 : Int32)).toInt64) <<< ((56 : Int32) &&& 0x3f).toInt64) ||| ((((L.getD (o + 1) 0) &&& (255 : Int32)).toInt64) <<< ((48 : Int32) &&& 0x3f).toInt64)) ||| ((((L.getD (o + 2) 0) &&& (255 : Int32)).toInt64) <<< ((40 : Int32) &&& 0x3f).toInt64)) ||| ((((L.getD (o + 3) 0) &&& (255 : Int32)).toInt64) <<< ((32 : Int32) &&& 0x3f).toInt64)))])) tt_
    refine X0.baloadBytes hEX (j := (off + (4 : Int32))) (v := (.int (L.getD (o + 4) 0))) (by rw [e0]; exact Ar_5.1) (State.isArrayOf_alike hZW.alike Ar_5.2.1) Ar_5.2.2 hin_5 hat_5 (g := (mkF m 57 #[Rv arr, Iv off] [(.int (off + (4 : Int32))), (.ref arr), (.long (((((((L.getD (o + 0) 0) &&& (255 : Int32)).toInt64) <<< ((56 : Int32) &&& 0x3f).toInt64) ||| ((((L.getD (o + 1) 0) &&& (255 : Int32)).toInt64) <<< ((48 : Int32) &&& 0x3f).toInt64)) ||| ((((L.getD (o + 2) 0) &&& (255 : Int32)).toInt64) <<< ((40 : Int32) &&& 0x3f).toInt64)) ||| ((((L.getD (o + 3) 0) &&& (255 : Int32)).toInt64) <<< ((32 : Int32) &&& 0x3f).toInt64)))])) rfl rfl (hb hBY d_method_3_code_57) _ ?_
    show Steps p.tables e below (s₁.setTop (mkF m 58 #[Rv arr, Iv off] [(.int (L.getD (o + 4) 0)), (.long (((((((L.getD (o + 0) 0) &&& (255 : Int32)).toInt64) <<< ((56 : Int32) &&& 0x3f).toInt64) ||| ((((L.getD (o + 1) 0) &&& (255 : Int32)).toInt64) <<< ((48 : Int32) &&& 0x3f).toInt64)) ||| ((((L.getD (o + 2) 0) &&& (255 : Int32)).toInt64) <<< ((40 : Int32) &&& 0x3f).toInt64)) ||| ((((L.getD (o + 3) 0) &&& (255 : Int32)).toInt64) <<< ((32 : Int32) &&& 0x3f).toInt64)))])) tt_
    refine XS.sipush X0.here hEX rfl (hb hBY d_method_3_code_58) ?_
    show Steps p.tables e below (s₁.setTop (mkF m 61 #[Rv arr, Iv off] [(.int (255 : Int32)), (.int (L.getD (o + 4) 0)), (.long (((((((L.getD (o + 0) 0) &&& (255 : Int32)).toInt64) <<< ((56 : Int32) &&& 0x3f).toInt64) ||| ((((L.getD (o + 1) 0) &&& (255 : Int32)).toInt64) <<< ((48 : Int32) &&& 0x3f).toInt64)) ||| ((((L.getD (o + 2) 0) &&& (255 : Int32)).toInt64) <<< ((40 : Int32) &&& 0x3f).toInt64)) ||| ((((L.getD (o + 3) 0) &&& (255 : Int32)).toInt64) <<< ((32 : Int32) &&& 0x3f).toInt64)))])) tt_
    refine XS.iand X0.here hEX rfl (hb hBY d_method_3_code_61) rfl ?_
    show Steps p.tables e below (s₁.setTop (mkF m 62 #[Rv arr, Iv off] [(.int ((L.getD (o + 4) 0) &&& (255 : Int32))), (.long (((((((L.getD (o + 0) 0) &&& (255 : Int32)).toInt64) <<< ((56 : Int32) &&& 0x3f).toInt64) ||| ((((L.getD (o + 1) 0) &&& (255 : Int32)).toInt64) <<< ((48 : Int32) &&& 0x3f).toInt64)) ||| ((((L.getD (o + 2) 0) &&& (255 : Int32)).toInt64) <<< ((40 : Int32) &&& 0x3f).toInt64)) ||| ((((L.getD (o + 3) 0) &&& (255 : Int32)).toInt64) <<< ((32 : Int32) &&& 0x3f).toInt64)))])) tt_
    refine XS.i2l X0.here hEX rfl (hb hBY d_method_3_code_62) rfl ?_
    show Steps p.tables e below (s₁.setTop (mkF m 63 #[Rv arr, Iv off] [(.long (((L.getD (o + 4) 0) &&& (255 : Int32)).toInt64)), (.long (((((((L.getD (o + 0) 0) &&& (255 : Int32)).toInt64) <<< ((56 : Int32) &&& 0x3f).toInt64) ||| ((((L.getD (o + 1) 0) &&& (255 : Int32)).toInt64) <<< ((48 : Int32) &&& 0x3f).toInt64)) ||| ((((L.getD (o + 2) 0) &&& (255 : Int32)).toInt64) <<< ((40 : Int32) &&& 0x3f).toInt64)) ||| ((((L.getD (o + 3) 0) &&& (255 : Int32)).toInt64) <<< ((32 : Int32) &&& 0x3f).toInt64)))])) tt_
    refine XS.bipush X0.here hEX rfl (hb hBY d_method_3_code_63) ?_
    show Steps p.tables e below (s₁.setTop (mkF m 65 #[Rv arr, Iv off] [(.int (24 : Int32)), (.long (((L.getD (o + 4) 0) &&& (255 : Int32)).toInt64)), (.long (((((((L.getD (o + 0) 0) &&& (255 : Int32)).toInt64) <<< ((56 : Int32) &&& 0x3f).toInt64) ||| ((((L.getD (o + 1) 0) &&& (255 : Int32)).toInt64) <<< ((48 : Int32) &&& 0x3f).toInt64)) ||| ((((L.getD (o + 2) 0) &&& (255 : Int32)).toInt64) <<< ((40 : Int32) &&& 0x3f).toInt64)) ||| ((((L.getD (o + 3) 0) &&& (255 : Int32)).toInt64) <<< ((32 : Int32) &&& 0x3f).toInt64)))])) tt_
    refine XS.lshl X0.here hEX rfl (hb hBY d_method_3_code_65) rfl ?_
    show Steps p.tables e below (s₁.setTop (mkF m 66 #[Rv arr, Iv off] [(.long ((((L.getD (o + 4) 0) &&& (255 : Int32)).toInt64) <<< ((24 : Int32) &&& 0x3f).toInt64)), (.long (((((((L.getD (o + 0) 0) &&& (255 : Int32)).toInt64) <<< ((56 : Int32) &&& 0x3f).toInt64) ||| ((((L.getD (o + 1) 0) &&& (255 : Int32)).toInt64) <<< ((48 : Int32) &&& 0x3f).toInt64)) ||| ((((L.getD (o + 2) 0) &&& (255 : Int32)).toInt64) <<< ((40 : Int32) &&& 0x3f).toInt64)) ||| ((((L.getD (o + 3) 0) &&& (255 : Int32)).toInt64) <<< ((32 : Int32) &&& 0x3f).toInt64)))])) tt_
    refine XS.lor X0.here hEX rfl (hb hBY d_method_3_code_66) rfl ?_
    show Steps p.tables e below (s₁.setTop (mkF m 67 #[Rv arr, Iv off] [(.long ((((((((L.getD (o + 0) 0) &&& (255 : Int32)).toInt64) <<< ((56 : Int32) &&& 0x3f).toInt64) ||| ((((L.getD (o + 1) 0) &&& (255 : Int32)).toInt64) <<< ((48 : Int32) &&& 0x3f).toInt64)) ||| ((((L.getD (o + 2) 0) &&& (255 : Int32)).toInt64) <<< ((40 : Int32) &&& 0x3f).toInt64)) ||| ((((L.getD (o + 3) 0) &&& (255 : Int32)).toInt64) <<< ((32 : Int32) &&& 0x3f).toInt64)) ||| ((((L.getD (o + 4) 0) &&& (255 : Int32)).toInt64) <<< ((24 : Int32) &&& 0x3f).toInt64)))])) tt_
    refine XS.aloadN X0.here hEX rfl (hb hBY d_method_3_code_67) rfl rfl ?_
    show Steps p.tables e below (s₁.setTop (mkF m 68 #[Rv arr, Iv off] [(.ref arr), (.long ((((((((L.getD (o + 0) 0) &&& (255 : Int32)).toInt64) <<< ((56 : Int32) &&& 0x3f).toInt64) ||| ((((L.getD (o + 1) 0) &&& (255 : Int32)).toInt64) <<< ((48 : Int32) &&& 0x3f).toInt64)) ||| ((((L.getD (o + 2) 0) &&& (255 : Int32)).toInt64) <<< ((40 : Int32) &&& 0x3f).toInt64)) ||| ((((L.getD (o + 3) 0) &&& (255 : Int32)).toInt64) <<< ((32 : Int32) &&& 0x3f).toInt64)) ||| ((((L.getD (o + 4) 0) &&& (255 : Int32)).toInt64) <<< ((24 : Int32) &&& 0x3f).toInt64)))])) tt_
    refine XS.iloadN X0.here hEX rfl (hb hBY d_method_3_code_68) rfl ?_
    show Steps p.tables e below (s₁.setTop (mkF m 69 #[Rv arr, Iv off] [(.int off), (.ref arr), (.long ((((((((L.getD (o + 0) 0) &&& (255 : Int32)).toInt64) <<< ((56 : Int32) &&& 0x3f).toInt64) ||| ((((L.getD (o + 1) 0) &&& (255 : Int32)).toInt64) <<< ((48 : Int32) &&& 0x3f).toInt64)) ||| ((((L.getD (o + 2) 0) &&& (255 : Int32)).toInt64) <<< ((40 : Int32) &&& 0x3f).toInt64)) ||| ((((L.getD (o + 3) 0) &&& (255 : Int32)).toInt64) <<< ((32 : Int32) &&& 0x3f).toInt64)) ||| ((((L.getD (o + 4) 0) &&& (255 : Int32)).toInt64) <<< ((24 : Int32) &&& 0x3f).toInt64)))])) tt_
    refine XS.iconst X0.here hEX rfl (hb hBY d_method_3_code_69) ?_
    show Steps p.tables e below (s₁.setTop (mkF m 70 #[Rv arr, Iv off] [(.int (5 : Int32)), (.int off), (.ref arr), (.long ((((((((L.getD (o + 0) 0) &&& (255 : Int32)).toInt64) <<< ((56 : Int32) &&& 0x3f).toInt64) ||| ((((L.getD (o + 1) 0) &&& (255 : Int32)).toInt64) <<< ((48 : Int32) &&& 0x3f).toInt64)) ||| ((((L.getD (o + 2) 0) &&& (255 : Int32)).toInt64) <<< ((40 : Int32) &&& 0x3f).toInt64)) ||| ((((L.getD (o + 3) 0) &&& (255 : Int32)).toInt64) <<< ((32 : Int32) &&& 0x3f).toInt64)) ||| ((((L.getD (o + 4) 0) &&& (255 : Int32)).toInt64) <<< ((24 : Int32) &&& 0x3f).toInt64)))])) tt_
    refine XS.iadd X0.here hEX rfl (hb hBY d_method_3_code_70) rfl ?_
    show Steps p.tables e below (s₁.setTop (mkF m 71 #[Rv arr, Iv off] [(.int (off + (5 : Int32))), (.ref arr), (.long ((((((((L.getD (o + 0) 0) &&& (255 : Int32)).toInt64) <<< ((56 : Int32) &&& 0x3f).toInt64) ||| ((((L.getD (o + 1) 0) &&& (255 : Int32)).toInt64) <<< ((48 : Int32) &&& 0x3f).toInt64)) ||| ((((L.getD (o + 2) 0) &&& (255 : Int32)).toInt64) <<< ((40 : Int32) &&& 0x3f).toInt64)) ||| ((((L.getD (o + 3) 0) &&& (255 : Int32)).toInt64) <<< ((32 : Int32) &&& 0x3f).toInt64)) ||| ((((L.getD (o + 4) 0) &&& (255 : Int32)).toInt64) <<< ((24 : Int32) &&& 0x3f).toInt64)))])) tt_
    refine X0.baloadBytes hEX (j := (off + (5 : Int32))) (v := (.int (L.getD (o + 5) 0))) (by rw [e0]; exact Ar_6.1) (State.isArrayOf_alike hZW.alike Ar_6.2.1) Ar_6.2.2 hin_6 hat_6 (g := (mkF m 71 #[Rv arr, Iv off] [(.int (off + (5 : Int32))), (.ref arr), (.long ((((((((L.getD (o + 0) 0) &&& (255 : Int32)).toInt64) <<< ((56 : Int32) &&& 0x3f).toInt64) ||| ((((L.getD (o + 1) 0) &&& (255 : Int32)).toInt64) <<< ((48 : Int32) &&& 0x3f).toInt64)) ||| ((((L.getD (o + 2) 0) &&& (255 : Int32)).toInt64) <<< ((40 : Int32) &&& 0x3f).toInt64)) ||| ((((L.getD (o + 3) 0) &&& (255 : Int32)).toInt64) <<< ((32 : Int32) &&& 0x3f).toInt64)) ||| ((((L.getD (o + 4) 0) &&& (255 : Int32)).toInt64) <<< ((24 : Int32) &&& 0x3f).toInt64)))])) rfl rfl (hb hBY d_method_3_code_71) _ ?_
    show Steps p.tables e below (s₁.setTop (mkF m 72 #[Rv arr, Iv off] [(.int (L.getD (o + 5) 0)), (.long ((((((((L.getD (o + 0) 0) &&& (255 : Int32)).toInt64) <<< ((56 : Int32) &&& 0x3f).toInt64) ||| ((((L.getD (o + 1) 0) &&& (255 : Int32)).toInt64) <<< ((48 : Int32) &&& 0x3f).toInt64)) ||| ((((L.getD (o + 2) 0) &&& (255 : Int32)).toInt64) <<< ((40 : Int32) &&& 0x3f).toInt64)) ||| ((((L.getD (o + 3) 0) &&& (255 : Int32)).toInt64) <<< ((32 : Int32) &&& 0x3f).toInt64)) ||| ((((L.getD (o + 4) 0) &&& (255 : Int32)).toInt64) <<< ((24 : Int32) &&& 0x3f).toInt64)))])) tt_
    refine XS.sipush X0.here hEX rfl (hb hBY d_method_3_code_72) ?_
    show Steps p.tables e below (s₁.setTop (mkF m 75 #[Rv arr, Iv off] [(.int (255 : Int32)), (.int (L.getD (o + 5) 0)), (.long ((((((((L.getD (o + 0) 0) &&& (255 : Int32)).toInt64) <<< ((56 : Int32) &&& 0x3f).toInt64) ||| ((((L.getD (o + 1) 0) &&& (255 : Int32)).toInt64) <<< ((48 : Int32) &&& 0x3f).toInt64)) ||| ((((L.getD (o + 2) 0) &&& (255 : Int32)).toInt64) <<< ((40 : Int32) &&& 0x3f).toInt64)) ||| ((((L.getD (o + 3) 0) &&& (255 : Int32)).toInt64) <<< ((32 : Int32) &&& 0x3f).toInt64)) ||| ((((L.getD (o + 4) 0) &&& (255 : Int32)).toInt64) <<< ((24 : Int32) &&& 0x3f).toInt64)))])) tt_
    refine XS.iand X0.here hEX rfl (hb hBY d_method_3_code_75) rfl ?_
    show Steps p.tables e below (s₁.setTop (mkF m 76 #[Rv arr, Iv off] [(.int ((L.getD (o + 5) 0) &&& (255 : Int32))), (.long ((((((((L.getD (o + 0) 0) &&& (255 : Int32)).toInt64) <<< ((56 : Int32) &&& 0x3f).toInt64) ||| ((((L.getD (o + 1) 0) &&& (255 : Int32)).toInt64) <<< ((48 : Int32) &&& 0x3f).toInt64)) ||| ((((L.getD (o + 2) 0) &&& (255 : Int32)).toInt64) <<< ((40 : Int32) &&& 0x3f).toInt64)) ||| ((((L.getD (o + 3) 0) &&& (255 : Int32)).toInt64) <<< ((32 : Int32) &&& 0x3f).toInt64)) ||| ((((L.getD (o + 4) 0) &&& (255 : Int32)).toInt64) <<< ((24 : Int32) &&& 0x3f).toInt64)))])) tt_
    refine XS.i2l X0.here hEX rfl (hb hBY d_method_3_code_76) rfl ?_
    show Steps p.tables e below (s₁.setTop (mkF m 77 #[Rv arr, Iv off] [(.long (((L.getD (o + 5) 0) &&& (255 : Int32)).toInt64)), (.long ((((((((L.getD (o + 0) 0) &&& (255 : Int32)).toInt64) <<< ((56 : Int32) &&& 0x3f).toInt64) ||| ((((L.getD (o + 1) 0) &&& (255 : Int32)).toInt64) <<< ((48 : Int32) &&& 0x3f).toInt64)) ||| ((((L.getD (o + 2) 0) &&& (255 : Int32)).toInt64) <<< ((40 : Int32) &&& 0x3f).toInt64)) ||| ((((L.getD (o + 3) 0) &&& (255 : Int32)).toInt64) <<< ((32 : Int32) &&& 0x3f).toInt64)) ||| ((((L.getD (o + 4) 0) &&& (255 : Int32)).toInt64) <<< ((24 : Int32) &&& 0x3f).toInt64)))])) tt_
    refine XS.bipush X0.here hEX rfl (hb hBY d_method_3_code_77) ?_
    show Steps p.tables e below (s₁.setTop (mkF m 79 #[Rv arr, Iv off] [(.int (16 : Int32)), (.long (((L.getD (o + 5) 0) &&& (255 : Int32)).toInt64)), (.long ((((((((L.getD (o + 0) 0) &&& (255 : Int32)).toInt64) <<< ((56 : Int32) &&& 0x3f).toInt64) ||| ((((L.getD (o + 1) 0) &&& (255 : Int32)).toInt64) <<< ((48 : Int32) &&& 0x3f).toInt64)) ||| ((((L.getD (o + 2) 0) &&& (255 : Int32)).toInt64) <<< ((40 : Int32) &&& 0x3f).toInt64)) ||| ((((L.getD (o + 3) 0) &&& (255 : Int32)).toInt64) <<< ((32 : Int32) &&& 0x3f).toInt64)) ||| ((((L.getD (o + 4) 0) &&& (255 : Int32)).toInt64) <<< ((24 : Int32) &&& 0x3f).toInt64)))])) tt_
    refine XS.lshl X0.here hEX rfl (hb hBY d_method_3_code_79) rfl ?_
    show Steps p.tables e below (s₁.setTop (mkF m 80 #[Rv arr, Iv off] [(.long ((((L.getD (o + 5) 0) &&& (255 : Int32)).toInt64) <<< ((16 : Int32) &&& 0x3f).toInt64)), (.long ((((((((L.getD (o + 0) 0) &&& (255 : Int32)).toInt64) <<< ((56 : Int32) &&& 0x3f).toInt64) ||| ((((L.getD (o + 1) 0) &&& (255 : Int32)).toInt64) <<< ((48 : Int32) &&& 0x3f).toInt64)) ||| ((((L.getD (o + 2) 0) &&& (255 : Int32)).toInt64) <<< ((40 : Int32) &&& 0x3f).toInt64)) ||| ((((L.getD (o + 3) 0) &&& (255 : Int32)).toInt64) <<< ((32 : Int32) &&& 0x3f).toInt64)) ||| ((((L.getD (o + 4) 0) &&& (255 : Int32)).toInt64) <<< ((24 : Int32) &&& 0x3f).toInt64)))])) tt_
    refine XS.lor X0.here hEX rfl (hb hBY d_method_3_code_80) rfl ?_
    show Steps p.tables e below (s₁.setTop (mkF m 81 #[Rv arr, Iv off] [(.long (((((((((L.getD (o + 0) 0) &&& (255 : Int32)).toInt64) <<< ((56 : Int32) &&& 0x3f).toInt64) ||| ((((L.getD (o + 1) 0) &&& (255 : Int32)).toInt64) <<< ((48 : Int32) &&& 0x3f).toInt64)) ||| ((((L.getD (o + 2) 0) &&& (255 : Int32)).toInt64) <<< ((40 : Int32) &&& 0x3f).toInt64)) ||| ((((L.getD (o + 3) 0) &&& (255 : Int32)).toInt64) <<< ((32 : Int32) &&& 0x3f).toInt64)) ||| ((((L.getD (o + 4) 0) &&& (255 : Int32)).toInt64) <<< ((24 : Int32) &&& 0x3f).toInt64)) ||| ((((L.getD (o + 5) 0) &&& (255 : Int32)).toInt64) <<< ((16 : Int32) &&& 0x3f).toInt64)))])) tt_
    refine XS.aloadN X0.here hEX rfl (hb hBY d_method_3_code_81) rfl rfl ?_
    show Steps p.tables e below (s₁.setTop (mkF m 82 #[Rv arr, Iv off] [(.ref arr), (.long (((((((((L.getD (o + 0) 0) &&& (255 : Int32)).toInt64) <<< ((56 : Int32) &&& 0x3f).toInt64) ||| ((((L.getD (o + 1) 0) &&& (255 : Int32)).toInt64) <<< ((48 : Int32) &&& 0x3f).toInt64)) ||| ((((L.getD (o + 2) 0) &&& (255 : Int32)).toInt64) <<< ((40 : Int32) &&& 0x3f).toInt64)) ||| ((((L.getD (o + 3) 0) &&& (255 : Int32)).toInt64) <<< ((32 : Int32) &&& 0x3f).toInt64)) ||| ((((L.getD (o + 4) 0) &&& (255 : Int32)).toInt64) <<< ((24 : Int32) &&& 0x3f).toInt64)) ||| ((((L.getD (o + 5) 0) &&& (255 : Int32)).toInt64) <<< ((16 : Int32) &&& 0x3f).toInt64)))])) tt_
    refine XS.iloadN X0.here hEX rfl (hb hBY d_method_3_code_82) rfl ?_
    show Steps p.tables e below (s₁.setTop (mkF m 83 #[Rv arr, Iv off] [(.int off), (.ref arr), (.long (((((((((L.getD (o + 0) 0) &&& (255 : Int32)).toInt64) <<< ((56 : Int32) &&& 0x3f).toInt64) ||| ((((L.getD (o + 1) 0) &&& (255 : Int32)).toInt64) <<< ((48 : Int32) &&& 0x3f).toInt64)) ||| ((((L.getD (o + 2) 0) &&& (255 : Int32)).toInt64) <<< ((40 : Int32) &&& 0x3f).toInt64)) ||| ((((L.getD (o + 3) 0) &&& (255 : Int32)).toInt64) <<< ((32 : Int32) &&& 0x3f).toInt64)) ||| ((((L.getD (o + 4) 0) &&& (255 : Int32)).toInt64) <<< ((24 : Int32) &&& 0x3f).toInt64)) ||| ((((L.getD (o + 5) 0) &&& (255 : Int32)).toInt64) <<< ((16 : Int32) &&& 0x3f).toInt64)))])) tt_
    refine XS.bipush X0.here hEX rfl (hb hBY d_method_3_code_83) ?_
    show Steps p.tables e below (s₁.setTop (mkF m 85 #[Rv arr, Iv off] [(.int (6 : Int32)), (.int off), (.ref arr), (.long (((((((((L.getD (o + 0) 0) &&& (255 : Int32)).toInt64) <<< ((56 : Int32) &&& 0x3f).toInt64) ||| ((((L.getD (o + 1) 0) &&& (255 : Int32)).toInt64) <<< ((48 : Int32) &&& 0x3f).toInt64)) ||| ((((L.getD (o + 2) 0) &&& (255 : Int32)).toInt64) <<< ((40 : Int32) &&& 0x3f).toInt64)) ||| ((((L.getD (o + 3) 0) &&& (255 : Int32)).toInt64) <<< ((32 : Int32) &&& 0x3f).toInt64)) ||| ((((L.getD (o + 4) 0) &&& (255 : Int32)).toInt64) <<< ((24 : Int32) &&& 0x3f).toInt64)) ||| ((((L.getD (o + 5) 0) &&& (255 : Int32)).toInt64) <<< ((16 : Int32) &&& 0x3f).toInt64)))])) tt_
    refine XS.iadd X0.here hEX rfl (hb hBY d_method_3_code_85) rfl ?_
    show Steps p.tables e below (s₁.setTop (mkF m 86 #[Rv arr, Iv off] [(.int (off + (6 : Int32))), (.ref arr), (.long (((((((((L.getD (o + 0) 0) &&& (255 : Int32)).toInt64) <<< ((56 : Int32) &&& 0x3f).toInt64) ||| ((((L.getD (o + 1) 0) &&& (255 : Int32)).toInt64) <<< ((48 : Int32) &&& 0x3f).toInt64)) ||| ((((L.getD (o + 2) 0) &&& (255 : Int32)).toInt64) <<< ((40 : Int32) &&& 0x3f).toInt64)) ||| ((((L.getD (o + 3) 0) &&& (255 : Int32)).toInt64) <<< ((32 : Int32) &&& 0x3f).toInt64)) ||| ((((L.getD (o + 4) 0) &&& (255 : Int32)).toInt64) <<< ((24 : Int32) &&& 0x3f).toInt64)) ||| ((((L.getD (o + 5) 0) &&& (255 : Int32)).toInt64) <<< ((16 : Int32) &&& 0x3f).toInt64)))])) tt_
    refine X0.baloadBytes hEX (j := (off + (6 : Int32))) (v := (.int (L.getD (o + 6) 0))) (by rw [e0]; exact Ar_7.1) (State.isArrayOf_alike hZW.alike Ar_7.2.1) Ar_7.2.2 hin_7 hat_7 (g := (mkF m 86 #[Rv arr, Iv off] [(.int (off + (6 : Int32))), (.ref arr), (.long (((((((((L.getD (o + 0) 0) &&& (255 : Int32)).toInt64) <<< ((56 : Int32) &&& 0x3f).toInt64) ||| ((((L.getD (o + 1) 0) &&& (255 : Int32)).toInt64) <<< ((48 : Int32) &&& 0x3f).toInt64)) ||| ((((L.getD (o + 2) 0) &&& (255 : Int32)).toInt64) <<< ((40 : Int32) &&& 0x3f).toInt64)) ||| ((((L.getD (o + 3) 0) &&& (255 : Int32)).toInt64) <<< ((32 : Int32) &&& 0x3f).toInt64)) ||| ((((L.getD (o + 4) 0) &&& (255 : Int32)).toInt64) <<< ((24 : Int32) &&& 0x3f).toInt64)) ||| ((((L.getD (o + 5) 0) &&& (255 : Int32)).toInt64) <<< ((16 : Int32) &&& 0x3f).toInt64)))])) rfl rfl (hb hBY d_method_3_code_86) _ ?_
    show Steps p.tables e below (s₁.setTop (mkF m 87 #[Rv arr, Iv off] [(.int (L.getD (o + 6) 0)), (.long (((((((((L.getD (o + 0) 0) &&& (255 : Int32)).toInt64) <<< ((56 : Int32) &&& 0x3f).toInt64) ||| ((((L.getD (o + 1) 0) &&& (255 : Int32)).toInt64) <<< ((48 : Int32) &&& 0x3f).toInt64)) ||| ((((L.getD (o + 2) 0) &&& (255 : Int32)).toInt64) <<< ((40 : Int32) &&& 0x3f).toInt64)) ||| ((((L.getD (o + 3) 0) &&& (255 : Int32)).toInt64) <<< ((32 : Int32) &&& 0x3f).toInt64)) ||| ((((L.getD (o + 4) 0) &&& (255 : Int32)).toInt64) <<< ((24 : Int32) &&& 0x3f).toInt64)) ||| ((((L.getD (o + 5) 0) &&& (255 : Int32)).toInt64) <<< ((16 : Int32) &&& 0x3f).toInt64)))])) tt_
    refine XS.sipush X0.here hEX rfl (hb hBY d_method_3_code_87) ?_
    show Steps p.tables e below (s₁.setTop (mkF m 90 #[Rv arr, Iv off] [(.int (255 : Int32)), (.int (L.getD (o + 6) 0)), (.long (((((((((L.getD (o + 0) 0) &&& (255 : Int32)).toInt64) <<< ((56 : Int32) &&& 0x3f).toInt64) ||| ((((L.getD (o + 1) 0) &&& (255 : Int32)).toInt64) <<< ((48 : Int32) &&& 0x3f).toInt64)) ||| ((((L.getD (o + 2) 0) &&& (255 : Int32)).toInt64) <<< ((40 : Int32) &&& 0x3f).toInt64)) ||| ((((L.getD (o + 3) 0) &&& (255 : Int32)).toInt64) <<< ((32 : Int32) &&& 0x3f).toInt64)) ||| ((((L.getD (o + 4) 0) &&& (255 : Int32)).toInt64) <<< ((24 : Int32) &&& 0x3f).toInt64)) ||| ((((L.getD (o + 5) 0) &&& (255 : Int32)).toInt64) <<< ((16 : Int32) &&& 0x3f).toInt64)))])) tt_
    refine XS.iand X0.here hEX rfl (hb hBY d_method_3_code_90) rfl ?_
    show Steps p.tables e below (s₁.setTop (mkF m 91 #[Rv arr, Iv off] [(.int ((L.getD (o + 6) 0) &&& (255 : Int32))), (.long (((((((((L.getD (o + 0) 0) &&& (255 : Int32)).toInt64) <<< ((56 : Int32) &&& 0x3f).toInt64) ||| ((((L.getD (o + 1) 0) &&& (255 : Int32)).toInt64) <<< ((48 : Int32) &&& 0x3f).toInt64)) ||| ((((L.getD (o + 2) 0) &&& (255 : Int32)).toInt64) <<< ((40 : Int32) &&& 0x3f).toInt64)) ||| ((((L.getD (o + 3) 0) &&& (255 : Int32)).toInt64) <<< ((32 : Int32) &&& 0x3f).toInt64)) ||| ((((L.getD (o + 4) 0) &&& (255 : Int32)).toInt64) <<< ((24 : Int32) &&& 0x3f).toInt64)) ||| ((((L.getD (o + 5) 0) &&& (255 : Int32)).toInt64) <<< ((16 : Int32) &&& 0x3f).toInt64)))])) tt_
    refine XS.i2l X0.here hEX rfl (hb hBY d_method_3_code_91) rfl ?_
    show Steps p.tables e below (s₁.setTop (mkF m 92 #[Rv arr, Iv off] [(.long (((L.getD (o + 6) 0) &&& (255 : Int32)).toInt64)), (.long (((((((((L.getD (o + 0) 0) &&& (255 : Int32)).toInt64) <<< ((56 : Int32) &&& 0x3f).toInt64) ||| ((((L.getD (o + 1) 0) &&& (255 : Int32)).toInt64) <<< ((48 : Int32) &&& 0x3f).toInt64)) ||| ((((L.getD (o + 2) 0) &&& (255 : Int32)).toInt64) <<< ((40 : Int32) &&& 0x3f).toInt64)) ||| ((((L.getD (o + 3) 0) &&& (255 : Int32)).toInt64) <<< ((32 : Int32) &&& 0x3f).toInt64)) ||| ((((L.getD (o + 4) 0) &&& (255 : Int32)).toInt64) <<< ((24 : Int32) &&& 0x3f).toInt64)) ||| ((((L.getD (o + 5) 0) &&& (255 : Int32)).toInt64) <<< ((16 : Int32) &&& 0x3f).toInt64)))])) tt_
    refine XS.bipush X0.here hEX rfl (hb hBY d_method_3_code_92) ?_
    show Steps p.tables e below (s₁.setTop (mkF m 94 #[Rv arr, Iv off] [(.int (8 : Int32)), (.long (((L.getD (o + 6) 0) &&& (255 : Int32)).toInt64)), (.long (((((((((L.getD (o + 0) 0) &&& (255 : Int32)).toInt64) <<< ((56 : Int32) &&& 0x3f).toInt64) ||| ((((L.getD (o + 1) 0) &&& (255 : Int32)).toInt64) <<< ((48 : Int32) &&& 0x3f).toInt64)) ||| ((((L.getD (o + 2) 0) &&& (255 : Int32)).toInt64) <<< ((40 : Int32) &&& 0x3f).toInt64)) ||| ((((L.getD (o + 3) 0) &&& (255 : Int32)).toInt64) <<< ((32 : Int32) &&& 0x3f).toInt64)) ||| ((((L.getD (o + 4) 0) &&& (255 : Int32)).toInt64) <<< ((24 : Int32) &&& 0x3f).toInt64)) ||| ((((L.getD (o + 5) 0) &&& (255 : Int32)).toInt64) <<< ((16 : Int32) &&& 0x3f).toInt64)))])) tt_
    refine XS.lshl X0.here hEX rfl (hb hBY d_method_3_code_94) rfl ?_
    show Steps p.tables e below (s₁.setTop (mkF m 95 #[Rv arr, Iv off] [(.long ((((L.getD (o + 6) 0) &&& (255 : Int32)).toInt64) <<< ((8 : Int32) &&& 0x3f).toInt64)), (.long (((((((((L.getD (o + 0) 0) &&& (255 : Int32)).toInt64) <<< ((56 : Int32) &&& 0x3f).toInt64) ||| ((((L.getD (o + 1) 0) &&& (255 : Int32)).toInt64) <<< ((48 : Int32) &&& 0x3f).toInt64)) ||| ((((L.getD (o + 2) 0) &&& (255 : Int32)).toInt64) <<< ((40 : Int32) &&& 0x3f).toInt64)) ||| ((((L.getD (o + 3) 0) &&& (255 : Int32)).toInt64) <<< ((32 : Int32) &&& 0x3f).toInt64)) ||| ((((L.getD (o + 4) 0) &&& (255 : Int32)).toInt64) <<< ((24 : Int32) &&& 0x3f).toInt64)) ||| ((((L.getD (o + 5) 0) &&& (255 : Int32)).toInt64) <<< ((16 : Int32) &&& 0x3f).toInt64)))])) tt_
    refine XS.lor X0.here hEX rfl (hb hBY d_method_3_code_95) rfl ?_
    show Steps p.tables e below (s₁.setTop (mkF m 96 #[Rv arr, Iv off] [(.long ((((((((((L.getD (o + 0) 0) &&& (255 : Int32)).toInt64) <<< ((56 : Int32) &&& 0x3f).toInt64) ||| ((((L.getD (o + 1) 0) &&& (255 : Int32)).toInt64) <<< ((48 : Int32) &&& 0x3f).toInt64)) ||| ((((L.getD (o + 2) 0) &&& (255 : Int32)).toInt64) <<< ((40 : Int32) &&& 0x3f).toInt64)) ||| ((((L.getD (o + 3) 0) &&& (255 : Int32)).toInt64) <<< ((32 : Int32) &&& 0x3f).toInt64)) ||| ((((L.getD (o + 4) 0) &&& (255 : Int32)).toInt64) <<< ((24 : Int32) &&& 0x3f).toInt64)) ||| ((((L.getD (o + 5) 0) &&& (255 : Int32)).toInt64) <<< ((16 : Int32) &&& 0x3f).toInt64)) ||| ((((L.getD (o + 6) 0) &&& (255 : Int32)).toInt64) <<< ((8 : Int32) &&& 0x3f).toInt64)))])) tt_
    refine XS.aloadN X0.here hEX rfl (hb hBY d_method_3_code_96) rfl rfl ?_
    show Steps p.tables e below (s₁.setTop (mkF m 97 #[Rv arr, Iv off] [(.ref arr), (.long ((((((((((L.getD (o + 0) 0) &&& (255 : Int32)).toInt64) <<< ((56 : Int32) &&& 0x3f).toInt64) ||| ((((L.getD (o + 1) 0) &&& (255 : Int32)).toInt64) <<< ((48 : Int32) &&& 0x3f).toInt64)) ||| ((((L.getD (o + 2) 0) &&& (255 : Int32)).toInt64) <<< ((40 : Int32) &&& 0x3f).toInt64)) ||| ((((L.getD (o + 3) 0) &&& (255 : Int32)).toInt64) <<< ((32 : Int32) &&& 0x3f).toInt64)) ||| ((((L.getD (o + 4) 0) &&& (255 : Int32)).toInt64) <<< ((24 : Int32) &&& 0x3f).toInt64)) ||| ((((L.getD (o + 5) 0) &&& (255 : Int32)).toInt64) <<< ((16 : Int32) &&& 0x3f).toInt64)) ||| ((((L.getD (o + 6) 0) &&& (255 : Int32)).toInt64) <<< ((8 : Int32) &&& 0x3f).toInt64)))])) tt_
    refine XS.iloadN X0.here hEX rfl (hb hBY d_method_3_code_97) rfl ?_
    show Steps p.tables e below (s₁.setTop (mkF m 98 #[Rv arr, Iv off] [(.int off), (.ref arr), (.long ((((((((((L.getD (o + 0) 0) &&& (255 : Int32)).toInt64) <<< ((56 : Int32) &&& 0x3f).toInt64) ||| ((((L.getD (o + 1) 0) &&& (255 : Int32)).toInt64) <<< ((48 : Int32) &&& 0x3f).toInt64)) ||| ((((L.getD (o + 2) 0) &&& (255 : Int32)).toInt64) <<< ((40 : Int32) &&& 0x3f).toInt64)) ||| ((((L.getD (o + 3) 0) &&& (255 : Int32)).toInt64) <<< ((32 : Int32) &&& 0x3f).toInt64)) ||| ((((L.getD (o + 4) 0) &&& (255 : Int32)).toInt64) <<< ((24 : Int32) &&& 0x3f).toInt64)) ||| ((((L.getD (o + 5) 0) &&& (255 : Int32)).toInt64) <<< ((16 : Int32) &&& 0x3f).toInt64)) ||| ((((L.getD (o + 6) 0) &&& (255 : Int32)).toInt64) <<< ((8 : Int32) &&& 0x3f).toInt64)))])) tt_
    refine XS.bipush X0.here hEX rfl (hb hBY d_method_3_code_98) ?_
    show Steps p.tables e below (s₁.setTop (mkF m 100 #[Rv arr, Iv off] [(.int (7 : Int32)), (.int off), (.ref arr), (.long ((((((((((L.getD (o + 0) 0) &&& (255 : Int32)).toInt64) <<< ((56 : Int32) &&& 0x3f).toInt64) ||| ((((L.getD (o + 1) 0) &&& (255 : Int32)).toInt64) <<< ((48 : Int32) &&& 0x3f).toInt64)) ||| ((((L.getD (o + 2) 0) &&& (255 : Int32)).toInt64) <<< ((40 : Int32) &&& 0x3f).toInt64)) ||| ((((L.getD (o + 3) 0) &&& (255 : Int32)).toInt64) <<< ((32 : Int32) &&& 0x3f).toInt64)) ||| ((((L.getD (o + 4) 0) &&& (255 : Int32)).toInt64) <<< ((24 : Int32) &&& 0x3f).toInt64)) ||| ((((L.getD (o + 5) 0) &&& (255 : Int32)).toInt64) <<< ((16 : Int32) &&& 0x3f).toInt64)) ||| ((((L.getD (o + 6) 0) &&& (255 : Int32)).toInt64) <<< ((8 : Int32) &&& 0x3f).toInt64)))])) tt_
    refine XS.iadd X0.here hEX rfl (hb hBY d_method_3_code_100) rfl ?_
    show Steps p.tables e below (s₁.setTop (mkF m 101 #[Rv arr, Iv off] [(.int (off + (7 : Int32))), (.ref arr), (.long ((((((((((L.getD (o + 0) 0) &&& (255 : Int32)).toInt64) <<< ((56 : Int32) &&& 0x3f).toInt64) ||| ((((L.getD (o + 1) 0) &&& (255 : Int32)).toInt64) <<< ((48 : Int32) &&& 0x3f).toInt64)) ||| ((((L.getD (o + 2) 0) &&& (255 : Int32)).toInt64) <<< ((40 : Int32) &&& 0x3f).toInt64)) ||| ((((L.getD (o + 3) 0) &&& (255 : Int32)).toInt64) <<< ((32 : Int32) &&& 0x3f).toInt64)) ||| ((((L.getD (o + 4) 0) &&& (255 : Int32)).toInt64) <<< ((24 : Int32) &&& 0x3f).toInt64)) ||| ((((L.getD (o + 5) 0) &&& (255 : Int32)).toInt64) <<< ((16 : Int32) &&& 0x3f).toInt64)) ||| ((((L.getD (o + 6) 0) &&& (255 : Int32)).toInt64) <<< ((8 : Int32) &&& 0x3f).toInt64)))])) tt_
    refine X0.baloadBytes hEX (j := (off + (7 : Int32))) (v := (.int (L.getD (o + 7) 0))) (by rw [e0]; exact Ar_8.1) (State.isArrayOf_alike hZW.alike Ar_8.2.1) Ar_8.2.2 hin_8 hat_8 (g := (mkF m 101 #[Rv arr, Iv off] [(.int (off + (7 : Int32))), (.ref arr), (.long ((((((((((L.getD (o + 0) 0) &&& (255 : Int32)).toInt64) <<< ((56 : Int32) &&& 0x3f).toInt64) ||| ((((L.getD (o + 1) 0) &&& (255 : Int32)).toInt64) <<< ((48 : Int32) &&& 0x3f).toInt64)) ||| ((((L.getD (o + 2) 0) &&& (255 : Int32)).toInt64) <<< ((40 : Int32) &&& 0x3f).toInt64)) ||| ((((L.getD (o + 3) 0) &&& (255 : Int32)).toInt64) <<< ((32 : Int32) &&& 0x3f).toInt64)) ||| ((((L.getD (o + 4) 0) &&& (255 : Int32)).toInt64) <<< ((24 : Int32) &&& 0x3f).toInt64)) ||| ((((L.getD (o + 5) 0) &&& (255 : Int32)).toInt64) <<< ((16 : Int32) &&& 0x3f).toInt64)) ||| ((((L.getD (o + 6) 0) &&& (255 : Int32)).toInt64) <<< ((8 : Int32) &&& 0x3f).toInt64)))])) rfl rfl (hb hBY d_method_3_code_101) _ ?_
    show Steps p.tables e below (s₁.setTop (mkF m 102 #[Rv arr, Iv off] [(.int (L.getD (o + 7) 0)), (.long ((((((((((L.getD (o + 0) 0) &&& (255 : Int32)).toInt64) <<< ((56 : Int32) &&& 0x3f).toInt64) ||| ((((L.getD (o + 1) 0) &&& (255 : Int32)).toInt64) <<< ((48 : Int32) &&& 0x3f).toInt64)) ||| ((((L.getD (o + 2) 0) &&& (255 : Int32)).toInt64) <<< ((40 : Int32) &&& 0x3f).toInt64)) ||| ((((L.getD (o + 3) 0) &&& (255 : Int32)).toInt64) <<< ((32 : Int32) &&& 0x3f).toInt64)) ||| ((((L.getD (o + 4) 0) &&& (255 : Int32)).toInt64) <<< ((24 : Int32) &&& 0x3f).toInt64)) ||| ((((L.getD (o + 5) 0) &&& (255 : Int32)).toInt64) <<< ((16 : Int32) &&& 0x3f).toInt64)) ||| ((((L.getD (o + 6) 0) &&& (255 : Int32)).toInt64) <<< ((8 : Int32) &&& 0x3f).toInt64)))])) tt_
    refine XS.sipush X0.here hEX rfl (hb hBY d_method_3_code_102) ?_
    show Steps p.tables e below (s₁.setTop (mkF m 105 #[Rv arr, Iv off] [(.int (255 : Int32)), (.int (L.getD (o + 7) 0)), (.long ((((((((((L.getD (o + 0) 0) &&& (255 : Int32)).toInt64) <<< ((56 : Int32) &&& 0x3f).toInt64) ||| ((((L.getD (o + 1) 0) &&& (255 : Int32)).toInt64) <<< ((48 : Int32) &&& 0x3f).toInt64)) ||| ((((L.getD (o + 2) 0) &&& (255 : Int32)).toInt64) <<< ((40 : Int32) &&& 0x3f).toInt64)) ||| ((((L.getD (o + 3) 0) &&& (255 : Int32)).toInt64) <<< ((32 : Int32) &&& 0x3f).toInt64)) ||| ((((L.getD (o + 4) 0) &&& (255 : Int32)).toInt64) <<< ((24 : Int32) &&& 0x3f).toInt64)) ||| ((((L.getD (o + 5) 0) &&& (255 : Int32)).toInt64) <<< ((16 : Int32) &&& 0x3f).toInt64)) ||| ((((L.getD (o + 6) 0) &&& (255 : Int32)).toInt64) <<< ((8 : Int32) &&& 0x3f).toInt64)))])) tt_
    refine XS.iand X0.here hEX rfl (hb hBY d_method_3_code_105) rfl ?_
    show Steps p.tables e below (s₁.setTop (mkF m 106 #[Rv arr, Iv off] [(.int ((L.getD (o + 7) 0) &&& (255 : Int32))), (.long ((((((((((L.getD (o + 0) 0) &&& (255 : Int32)).toInt64) <<< ((56 : Int32) &&& 0x3f).toInt64) ||| ((((L.getD (o + 1) 0) &&& (255 : Int32)).toInt64) <<< ((48 : Int32) &&& 0x3f).toInt64)) ||| ((((L.getD (o + 2) 0) &&& (255 : Int32)).toInt64) <<< ((40 : Int32) &&& 0x3f).toInt64)) ||| ((((L.getD (o + 3) 0) &&& (255 : Int32)).toInt64) <<< ((32 : Int32) &&& 0x3f).toInt64)) ||| ((((L.getD (o + 4) 0) &&& (255 : Int32)).toInt64) <<< ((24 : Int32) &&& 0x3f).toInt64)) ||| ((((L.getD (o + 5) 0) &&& (255 : Int32)).toInt64) <<< ((16 : Int32) &&& 0x3f).toInt64)) ||| ((((L.getD (o + 6) 0) &&& (255 : Int32)).toInt64) <<< ((8 : Int32) &&& 0x3f).toInt64)))])) tt_
    refine XS.i2l X0.here hEX rfl (hb hBY d_method_3_code_106) rfl ?_
    show Steps p.tables e below (s₁.setTop (mkF m 107 #[Rv arr, Iv off] [(.long (((L.getD (o + 7) 0) &&& (255 : Int32)).toInt64)), (.long ((((((((((L.getD (o + 0) 0) &&& (255 : Int32)).toInt64) <<< ((56 : Int32) &&& 0x3f).toInt64) ||| ((((L.getD (o + 1) 0) &&& (255 : Int32)).toInt64) <<< ((48 : Int32) &&& 0x3f).toInt64)) ||| ((((L.getD (o + 2) 0) &&& (255 : Int32)).toInt64) <<< ((40 : Int32) &&& 0x3f).toInt64)) ||| ((((L.getD (o + 3) 0) &&& (255 : Int32)).toInt64) <<< ((32 : Int32) &&& 0x3f).toInt64)) ||| ((((L.getD (o + 4) 0) &&& (255 : Int32)).toInt64) <<< ((24 : Int32) &&& 0x3f).toInt64)) ||| ((((L.getD (o + 5) 0) &&& (255 : Int32)).toInt64) <<< ((16 : Int32) &&& 0x3f).toInt64)) ||| ((((L.getD (o + 6) 0) &&& (255 : Int32)).toInt64) <<< ((8 : Int32) &&& 0x3f).toInt64)))])) tt_
    refine XS.lor X0.here hEX rfl (hb hBY d_method_3_code_107) rfl ?_
    exact kt_
  refine Done.pre sg_9 ?_
  exact Done.retL X0 hEX hLK hRT (hb hBY d_method_3_code_108) (by rw [e0]; exact ⟨rfl, N0, rfl⟩) (by decide) (by decide)
theorem d_method_5_code_0 : decode method_5_code 0 = .ok (.aload_n 0, 1) := by decide +kernel
theorem d_method_5_code_1 : decode method_5_code 1 = .ok (.ifnull 10, 3) := by decide +kernel
theorem d_method_5_code_4 : decode method_5_code 4 = .ok (.aload_n 0, 1) := by decide +kernel
theorem d_method_5_code_5 : decode method_5_code 5 = .ok (.arraylength, 1) := by decide +kernel
theorem d_method_5_code_6 : decode method_5_code 6 = .ok (.bipush 24, 2) := by decide +kernel
theorem d_method_5_code_8 : decode method_5_code 8 = .ok (.if_icmp .eq 5, 3) := by decide +kernel
theorem d_method_5_code_13 : decode method_5_code 13 = .ok (.aload_n 0, 1) := by decide +kernel
theorem d_method_5_code_14 : decode method_5_code 14 = .ok (.iconst 0, 1) := by decide +kernel
theorem d_method_5_code_15 : decode method_5_code 15 = .ok (.invokestatic 7, 3) := by decide +kernel
theorem pd___BI_J_4 : parseMethodDescriptor "([BI)J" = some ⟨[(.array .byte), .int], some .long⟩ := by decide +kernel
theorem d_method_5_code_18 : decode method_5_code 18 = .ok (.aload_n 1, 1) := by decide +kernel
theorem d_method_5_code_19 : decode method_5_code 19 = .ok (.iconst 0, 1) := by decide +kernel
theorem d_method_5_code_20 : decode method_5_code 20 = .ok (.laload, 1) := by decide +kernel
theorem d_method_5_code_21 : decode method_5_code 21 = .ok (.lcmp, 1) := by decide +kernel
theorem d_method_5_code_22 : decode method_5_code 22 = .ok (.ifCond .ne 33, 3) := by decide +kernel
theorem d_method_5_code_25 : decode method_5_code 25 = .ok (.aload_n 0, 1) := by decide +kernel
theorem d_method_5_code_26 : decode method_5_code 26 = .ok (.bipush 8, 2) := by decide +kernel
theorem d_method_5_code_28 : decode method_5_code 28 = .ok (.invokestatic 7, 3) := by decide +kernel
theorem d_method_5_code_31 : decode method_5_code 31 = .ok (.aload_n 1, 1) := by decide +kernel
theorem d_method_5_code_32 : decode method_5_code 32 = .ok (.iconst 1, 1) := by decide +kernel
theorem d_method_5_code_33 : decode method_5_code 33 = .ok (.laload, 1) := by decide +kernel
theorem d_method_5_code_34 : decode method_5_code 34 = .ok (.lcmp, 1) := by decide +kernel
theorem d_method_5_code_35 : decode method_5_code 35 = .ok (.ifCond .ne 20, 3) := by decide +kernel
theorem d_method_5_code_38 : decode method_5_code 38 = .ok (.aload_n 0, 1) := by decide +kernel
theorem d_method_5_code_39 : decode method_5_code 39 = .ok (.bipush 16, 2) := by decide +kernel
theorem d_method_5_code_41 : decode method_5_code 41 = .ok (.invokestatic 7, 3) := by decide +kernel
theorem d_method_5_code_44 : decode method_5_code 44 = .ok (.aload_n 1, 1) := by decide +kernel
theorem d_method_5_code_45 : decode method_5_code 45 = .ok (.iconst 2, 1) := by decide +kernel
theorem d_method_5_code_46 : decode method_5_code 46 = .ok (.laload, 1) := by decide +kernel
theorem d_method_5_code_47 : decode method_5_code 47 = .ok (.lcmp, 1) := by decide +kernel
theorem d_method_5_code_48 : decode method_5_code 48 = .ok (.ifCond .ne 7, 3) := by decide +kernel
theorem d_method_5_code_51 : decode method_5_code 51 = .ok (.iconst 1, 1) := by decide +kernel
theorem d_method_5_code_52 : decode method_5_code 52 = .ok (.goto 4, 3) := by decide +kernel
theorem d_method_5_code_56 : decode method_5_code 56 = .ok (.ireturn, 1) := by decide +kernel
def Qrm_same (Z : State) (r : Addr) (t : Addr) (L : List Int32) (kr : ClassId) (kt : ClassId) (t0 : Int64) (t1 : Int64) (t2 : Int64) (h0 : Heap) (n0 : Nat) (v_ : Option Value) (h_ : Heap) (L_ : List Loc) : Prop := v_ = some (.int (1 : Int32)) ∧ Fr n0 L_ ∧ h_ = h0
theorem ef_rm_same (m : MethodId) (x0 : Addr) (x1 : Addr) : entryFrame m #[(.ref x0), (.ref x1)] 2 = mkF m 0 #[.val (.ref x0), .val (.ref x1)] [] := by first | (simp [entryFrame, mkF, argsToLocals, Value.category]; done) | rfl
set_option maxRecDepth 65536 in
set_option maxHeartbeats 40000000 in
theorem rm_same (l : Launch) (Z : State) (aZ : Array Value) (hw : ∀ d ∈ tables_1, d.before aZ Z = true) (ws : List Jvm.Cond) (r : Addr) (t : Addr) (L : List Int32) (kr : ClassId) (kt : ClassId) (t0 : Int64) (t1 : Int64) (t2 : Int64) (h0 : Heap) (n0 : Nat) (Z0 : n0 ≤ h0.size) (Ar_ : Arv Z h0 r kr .byte (24 : Int32) (own_v L) (.int (0 : Int32))) (At_ : Arv Z h0 t kt .long (3 : Int32) [(.long t0), (.long t1), (.long t2)] (.long (0 : Int64))) (hw3 : own_get L 0 = t0 ∧ own_get L 8 = t1 ∧ own_get L 16 = t2) :
    MetFree l (⟨"com/example/tidelog/tidelog/net/NonceNextPinLaw", "same", "([B[J)Z"⟩ : MethodName) (head1 (Jvm.Cond.code (⟨"com/example/tidelog/tidelog/net/NonceNextPinLaw", "same", "([B[J)Z"⟩ : MethodName) method_5_code 2 (some .boolean) :: ws) ({ frames := 1, cells := 0, slots := 0, locals := 13 } : Room)) (fun a_ U_ => a_ = #[(.ref r), (.ref t)] ∧ Z.Warmed39 U_.vm ∧ U_.heap = h0) (fun _ _ _ _ _ => True) (fun _ U_ o_ U2_ => ∃ v_ L_, o_ = .returned v_ ∧ Qrm_same Z r t L kr kt t0 t1 t2 h0 n0 v_ U2_.heap L_ ∧ FrameEnd U_ o_ U2_ L_ ({ frames := 1, cells := 0, slots := 0, locals := 13 } : Room).cells ({ frames := 1, cells := 0, slots := 0, locals := 13 } : Room).slots) := by
  refine MetFree.of_bodySF (plainFor_of_name pn_com_example_tidelog_tidelog_net_NonceNextPinLaw) hisR ?_
  intro p e s m args below meth cO s₁ Bd hml0 hP hK
  obtain ⟨rfl, hZW, hh⟩ := hP
  have hEX := Bd.exec
  have hBY := Bd.bytes
  have hMX : cO.maxLocals = 2 := hml0
  have hOW : s.vm.findClass "com/example/tidelog/tidelog/net/NonceNextPinLaw" = some m.cls := findClass_of_methodNamed Bd.named
  have hNM := (name_of_methodNamed Bd.named Bd.method).1
  have hLK := Bd.notSynchronized
  have hRT := Bd.returns
  have X0 : Stand p l e ({ frames := 1, cells := 0, slots := 0, locals := 13 } : Room) s m #[(.ref r), (.ref t)] below meth cO s₁ [] 0 0 := Stand.of_body Bd
  have e0 : s₁.heap = h0 := by rw [← hh, Bd.state]; rfl
  have N0 := Fr.nil n0
  have K0 : Keep h0 h0 [] := Keep.refl _ _
  show Done p e below s (Qrm_same Z r t L kr kt t0 t1 t2 h0 n0) ({ frames := 1, cells := 0, slots := 0, locals := 13 } : Room).cells ({ frames := 1, cells := 0, slots := 0, locals := 13 } : Room).slots (s₁.setTop (entryFrame m #[(.ref r), (.ref t)] 2))
  refine Done.pre (fun t_ k_ => castTop (ef_rm_same m r t) k_) ?_
  show Done _ _ _ _ _ _ _ (s₁.setTop (mkF m 0 #[Rv r, Rv t] []))
  obtain ⟨cl_1, Ar_1, -, S_1, N__1, -, -⟩ := id Ar_
  have sg_2 : ∀ tt_, Steps p.tables e below (s₁.setTop (mkF m 15 #[Rv r, Rv t] [(.int (0 : Int32)), (.ref r)])) tt_ → Steps p.tables e below (s₁.setTop (mkF m 0 #[Rv r, Rv t] [])) tt_ := by
    intro tt_ kt_
    refine XS.aloadN X0.here hEX rfl (hb hBY d_method_5_code_0) rfl rfl ?_
    show Steps p.tables e below (s₁.setTop (mkF m 1 #[Rv r, Rv t] [(.ref r)])) tt_
    refine XS.ifnullNo X0.here hEX rfl (hb hBY d_method_5_code_1) rfl ?_
    show Steps p.tables e below (s₁.setTop (mkF m 4 #[Rv r, Rv t] [])) tt_
    refine XS.aloadN X0.here hEX rfl (hb hBY d_method_5_code_4) rfl rfl ?_
    show Steps p.tables e below (s₁.setTop (mkF m 5 #[Rv r, Rv t] [(.ref r)])) tt_
    refine X0.arraylength hEX (by rw [e0]; exact Ar_1.1) (State.isArrayOf_alike hZW.alike Ar_1.2.1) (g := (mkF m 5 #[Rv r, Rv t] [(.ref r)])) rfl rfl (hb hBY d_method_5_code_5) _ ?_
    rw [len_of S_1 N__1]
    show Steps p.tables e below (s₁.setTop (mkF m 6 #[Rv r, Rv t] [(.int (24 : Int32))])) tt_
    refine XS.bipush X0.here hEX rfl (hb hBY d_method_5_code_6) ?_
    show Steps p.tables e below (s₁.setTop (mkF m 8 #[Rv r, Rv t] [(.int (24 : Int32)), (.int (24 : Int32))])) tt_
    refine XS.icmpYes X0.here hEX rfl (pc0 := 8) (pc' := 13) rfl (hb hBY d_method_5_code_8) rfl (teq (by decide : (24 : Int32) = (24 : Int32))).1 (by decide) (by decide) ?_
    show Steps p.tables e below (s₁.setTop (mkF m 13 #[Rv r, Rv t] [])) tt_
    refine XS.aloadN X0.here hEX rfl (hb hBY d_method_5_code_13) rfl rfl ?_
    show Steps p.tables e below (s₁.setTop (mkF m 14 #[Rv r, Rv t] [(.ref r)])) tt_
    refine XS.iconst X0.here hEX rfl (hb hBY d_method_5_code_14) ?_
    exact kt_
  refine Done.pre sg_2 ?_
  obtain ⟨_, _, ⟨T_3, L_3, k_3, n_3⟩, -, X_3, ⟨Lc_3, hQ_3, l_3, y_3, z_3⟩, st_3⟩ := Jvm.LawKit.callS X0 hEX (y := (⟨"com/example/tidelog/tidelog/net/NonceNextPinLaw", "get", "([BI)J"⟩ : MethodName)) hOW (mvT hZW (hw _ (List.mem_of_getElem? (i := 35) rfl))) (mvT hZW (hw _ (List.mem_of_getElem? (i := 36) rfl))) (mvT hZW (hw _ (List.mem_of_getElem? (i := 4) rfl))) (mvT hZW (hw _ (List.mem_of_getElem? (i := 37) rfl))) (by decide) (backOf (W := 0) (rm_get l Z aZ hw [] r (0 : Int32) L 0 kr h0 n0 (Nat.le_trans Z0 K0.1) Ar_ (by decide)) hZW (hw _ (List.mem_of_getElem? (i := 37) rfl)) (hw _ (List.mem_of_getElem? (i := 4) rfl)) (by decide) (by decide)) (g := (mkF m 15 #[Rv r, Rv t] [(.int (0 : Int32)), (.ref r)])) rfl (by rw [hMX]; rfl) (argsL := [(.ref r), (.int (0 : Int32))]) (rest := []) (lenOf pd___BI_J_4 rfl) rfl (by show 2 * 0 + _ ≤ _; exact Nat.le_of_eq rfl) (hb hBY d_method_5_code_15) (fun _ _ => ⟨rfl, e0, (by decide : 0 + 0 ≤ _), (by decide : 0 + 0 ≤ _)⟩)
  dsimp only [Pt.U, Pt.locs, Pt.cells, Pt.slots] at X_3 l_3 y_3 z_3 st_3 hQ_3
  subst l_3 y_3 z_3
  obtain ⟨rfl, N_3q, e_3⟩ := hQ_3
  have N_3 := Fr.app N0 N_3q
  refine Done.pre (fun _ k_ => st_3 _ k_) ?_
  show Done _ _ _ _ _ _ _ (T_3.setTop (mkF m 18 #[Rv r, Rv t] [(.long (own_get L 0))]))
  obtain ⟨cl_4, Ar_4, q_4, S_4, N__4, H_4, G_4⟩ := id At_
  have hin_4 : ¬ ((0 : Int32) < 0 ∨ cl_4.slots.size ≤ ((0 : Int32)).toNatClampNeg) := inb_of S_4 ⟨by decide, by decide⟩
  have hat_4 : cl_4.slots[((0 : Int32)).toNatClampNeg]? = some (.long t0) := H_4.at hin_4 rfl
  have sg_5 : ∀ tt_, Steps p.tables e below (T_3.setTop (mkF m 28 #[Rv r, Rv t] [(.int (8 : Int32)), (.ref r)])) tt_ → Steps p.tables e below (T_3.setTop (mkF m 18 #[Rv r, Rv t] [(.long (own_get L 0))])) tt_ := by
    intro tt_ kt_
    refine XS.aloadN X_3.here hEX rfl (hb hBY d_method_5_code_18) rfl rfl ?_
    show Steps p.tables e below (T_3.setTop (mkF m 19 #[Rv r, Rv t] [(.ref t), (.long (own_get L 0))])) tt_
    refine XS.iconst X_3.here hEX rfl (hb hBY d_method_5_code_19) ?_
    show Steps p.tables e below (T_3.setTop (mkF m 20 #[Rv r, Rv t] [(.int (0 : Int32)), (.ref t), (.long (own_get L 0))])) tt_
    refine X_3.laload hEX (j := (0 : Int32)) (v := (.long t0)) (by rw [e_3]; exact Ar_4.1) (State.isArrayOf_alike hZW.alike Ar_4.2.1) Ar_4.2.2 hin_4 hat_4 (g := (mkF m 20 #[Rv r, Rv t] [(.int (0 : Int32)), (.ref t), (.long (own_get L 0))])) rfl rfl (hb hBY d_method_5_code_20) _ ?_
    show Steps p.tables e below (T_3.setTop (mkF m 21 #[Rv r, Rv t] [(.long t0), (.long (own_get L 0))])) tt_
    refine XS.lcmp X_3.here hEX rfl (hb hBY d_method_5_code_21) rfl ?_
    show Steps p.tables e below (T_3.setTop (mkF m 22 #[Rv r, Rv t] [(.int (lcmpW (own_get L 0) t0))])) tt_
    refine XS.ifNo X_3.here hEX rfl (hb hBY d_method_5_code_22) rfl ((if0 _ _).trans (teq ((lw_eq _ _).mpr (hw3.1 : (own_get L 0) = t0))).2) ?_
    show Steps p.tables e below (T_3.setTop (mkF m 25 #[Rv r, Rv t] [])) tt_
    refine XS.aloadN X_3.here hEX rfl (hb hBY d_method_5_code_25) rfl rfl ?_
    show Steps p.tables e below (T_3.setTop (mkF m 26 #[Rv r, Rv t] [(.ref r)])) tt_
    refine XS.bipush X_3.here hEX rfl (hb hBY d_method_5_code_26) ?_
    exact kt_
  refine Done.pre sg_5 ?_
  obtain ⟨_, _, ⟨T_6, L_6, k_6, n_6⟩, -, X_6, ⟨Lc_6, hQ_6, l_6, y_6, z_6⟩, st_6⟩ := Jvm.LawKit.callS X_3 hEX (y := (⟨"com/example/tidelog/tidelog/net/NonceNextPinLaw", "get", "([BI)J"⟩ : MethodName)) hOW (mvT hZW (hw _ (List.mem_of_getElem? (i := 35) rfl))) (mvT hZW (hw _ (List.mem_of_getElem? (i := 36) rfl))) (mvT hZW (hw _ (List.mem_of_getElem? (i := 4) rfl))) (mvT hZW (hw _ (List.mem_of_getElem? (i := 37) rfl))) (by decide) (backOf (W := 0) (rm_get l Z aZ hw [] r (8 : Int32) L 8 kr h0 n0 (Nat.le_trans Z0 K0.1) Ar_ (by decide)) hZW (hw _ (List.mem_of_getElem? (i := 37) rfl)) (hw _ (List.mem_of_getElem? (i := 4) rfl)) (by decide) (by decide)) (g := (mkF m 28 #[Rv r, Rv t] [(.int (8 : Int32)), (.ref r)])) rfl (by rw [hMX]; rfl) (argsL := [(.ref r), (.int (8 : Int32))]) (rest := []) (lenOf pd___BI_J_4 rfl) rfl (by show 2 * 0 + _ ≤ _; exact Nat.le_of_eq rfl) (hb hBY d_method_5_code_28) (fun _ _ => ⟨rfl, e_3, (by decide : 0 + 0 ≤ _), (by decide : 0 + 0 ≤ _)⟩)
  dsimp only [Pt.U, Pt.locs, Pt.cells, Pt.slots] at X_6 l_6 y_6 z_6 st_6 hQ_6
  subst l_6 y_6 z_6
  obtain ⟨rfl, N_6q, e_6⟩ := hQ_6
  have N_6 := Fr.app N_3 N_6q
  refine Done.pre (fun _ k_ => st_6 _ k_) ?_
  show Done _ _ _ _ _ _ _ (T_6.setTop (mkF m 31 #[Rv r, Rv t] [(.long (own_get L 8))]))
  obtain ⟨cl_7, Ar_7, q_7, S_7, N__7, H_7, G_7⟩ := id At_
  have hin_7 : ¬ ((1 : Int32) < 0 ∨ cl_7.slots.size ≤ ((1 : Int32)).toNatClampNeg) := inb_of S_7 ⟨by decide, by decide⟩
  have hat_7 : cl_7.slots[((1 : Int32)).toNatClampNeg]? = some (.long t1) := H_7.at hin_7 rfl
  have sg_8 : ∀ tt_, Steps p.tables e below (T_6.setTop (mkF m 41 #[Rv r, Rv t] [(.int (16 : Int32)), (.ref r)])) tt_ → Steps p.tables e below (T_6.setTop (mkF m 31 #[Rv r, Rv t] [(.long (own_get L 8))])) tt_ := by
    intro tt_ kt_
    refine XS.aloadN X_6.here hEX rfl (hb hBY d_method_5_code_31) rfl rfl ?_
    show Steps p.tables e below (T_6.setTop (mkF m 32 #[Rv r, Rv t] [(.ref t), (.long (own_get L 8))])) tt_
    refine XS.iconst X_6.here hEX rfl (hb hBY d_method_5_code_32) ?_
    show Steps p.tables e below (T_6.setTop (mkF m 33 #[Rv r, Rv t] [(.int (1 : Int32)), (.ref t), (.long (own_get L 8))])) tt_
    refine X_6.laload hEX (j := (1 : Int32)) (v := (.long t1)) (by rw [e_6]; exact Ar_7.1) (State.isArrayOf_alike hZW.alike Ar_7.2.1) Ar_7.2.2 hin_7 hat_7 (g := (mkF m 33 #[Rv r, Rv t] [(.int (1 : Int32)), (.ref t), (.long (own_get L 8))])) rfl rfl (hb hBY d_method_5_code_33) _ ?_
    show Steps p.tables e below (T_6.setTop (mkF m 34 #[Rv r, Rv t] [(.long t1), (.long (own_get L 8))])) tt_
    refine XS.lcmp X_6.here hEX rfl (hb hBY d_method_5_code_34) rfl ?_
    show Steps p.tables e below (T_6.setTop (mkF m 35 #[Rv r, Rv t] [(.int (lcmpW (own_get L 8) t1))])) tt_
    refine XS.ifNo X_6.here hEX rfl (hb hBY d_method_5_code_35) rfl ((if0 _ _).trans (teq ((lw_eq _ _).mpr (hw3.2.1 : (own_get L 8) = t1))).2) ?_
    show Steps p.tables e below (T_6.setTop (mkF m 38 #[Rv r, Rv t] [])) tt_
    refine XS.aloadN X_6.here hEX rfl (hb hBY d_method_5_code_38) rfl rfl ?_
    show Steps p.tables e below (T_6.setTop (mkF m 39 #[Rv r, Rv t] [(.ref r)])) tt_
    refine XS.bipush X_6.here hEX rfl (hb hBY d_method_5_code_39) ?_
    exact kt_
  refine Done.pre sg_8 ?_
  obtain ⟨_, _, ⟨T_9, L_9, k_9, n_9⟩, -, X_9, ⟨Lc_9, hQ_9, l_9, y_9, z_9⟩, st_9⟩ := Jvm.LawKit.callS X_6 hEX (y := (⟨"com/example/tidelog/tidelog/net/NonceNextPinLaw", "get", "([BI)J"⟩ : MethodName)) hOW (mvT hZW (hw _ (List.mem_of_getElem? (i := 35) rfl))) (mvT hZW (hw _ (List.mem_of_getElem? (i := 36) rfl))) (mvT hZW (hw _ (List.mem_of_getElem? (i := 4) rfl))) (mvT hZW (hw _ (List.mem_of_getElem? (i := 37) rfl))) (by decide) (backOf (W := 0) (rm_get l Z aZ hw [] r (16 : Int32) L 16 kr h0 n0 (Nat.le_trans Z0 K0.1) Ar_ (by decide)) hZW (hw _ (List.mem_of_getElem? (i := 37) rfl)) (hw _ (List.mem_of_getElem? (i := 4) rfl)) (by decide) (by decide)) (g := (mkF m 41 #[Rv r, Rv t] [(.int (16 : Int32)), (.ref r)])) rfl (by rw [hMX]; rfl) (argsL := [(.ref r), (.int (16 : Int32))]) (rest := []) (lenOf pd___BI_J_4 rfl) rfl (by show 2 * 0 + _ ≤ _; exact Nat.le_of_eq rfl) (hb hBY d_method_5_code_41) (fun _ _ => ⟨rfl, e_6, (by decide : 0 + 0 ≤ _), (by decide : 0 + 0 ≤ _)⟩)
  dsimp only [Pt.U, Pt.locs, Pt.cells, Pt.slots] at X_9 l_9 y_9 z_9 st_9 hQ_9
  subst l_9 y_9 z_9
  obtain ⟨rfl, N_9q, e_9⟩ := hQ_9
  have N_9 := Fr.app N_6 N_9q
  refine Done.pre (fun _ k_ => st_9 _ k_) ?_
  show Done _ _ _ _ _ _ _ (T_9.setTop (mkF m 44 #[Rv r, Rv t] [(.long (own_get L 16))]))
  obtain ⟨cl_10, Ar_10, q_10, S_10, N__10, H_10, G_10⟩ := id At_
  have hin_10 : ¬ ((2 : Int32) < 0 ∨ cl_10.slots.size ≤ ((2 : Int32)).toNatClampNeg) := inb_of S_10 ⟨by decide, by decide⟩
  have hat_10 : cl_10.slots[((2 : Int32)).toNatClampNeg]? = some (.long t2) := H_10.at hin_10 rfl
  have sg_11 : ∀ tt_, Steps p.tables e below (T_9.setTop (mkF m 56 #[Rv r, Rv t] [(.int (1 : Int32))])) tt_ → Steps p.tables e below (T_9.setTop (mkF m 44 #[Rv r, Rv t] [(.long (own_get L 16))])) tt_ := by
    intro tt_ kt_
    refine XS.aloadN X_9.here hEX rfl (hb hBY d_method_5_code_44) rfl rfl ?_
    show Steps p.tables e below (T_9.setTop (mkF m 45 #[Rv r, Rv t] [(.ref t), (.long (own_get L 16))])) tt_
    refine XS.iconst X_9.here hEX rfl (hb hBY d_method_5_code_45) ?_
    show Steps p.tables e below (T_9.setTop (mkF m 46 #[Rv r, Rv t] [(.int (2 : Int32)), (.ref t), (.long (own_get L 16))])) tt_
    refine X_9.laload hEX (j := (2 : Int32)) (v := (.long t2)) (by rw [e_9]; exact Ar_10.1) (State.isArrayOf_alike hZW.alike Ar_10.2.1) Ar_10.2.2 hin_10 hat_10 (g := (mkF m 46 #[Rv r, Rv t] [(.int (2 : Int32)), (.ref t), (.long (own_get L 16))])) rfl rfl (hb hBY d_method_5_code_46) _ ?_
    show Steps p.tables e below (T_9.setTop (mkF m 47 #[Rv r, Rv t] [(.long t2), (.long (own_get L 16))])) tt_
    refine XS.lcmp X_9.here hEX rfl (hb hBY d_method_5_code_47) rfl ?_
    show Steps p.tables e below (T_9.setTop (mkF m 48 #[Rv r, Rv t] [(.int (lcmpW (own_get L 16) t2))])) tt_
    refine XS.ifNo X_9.here hEX rfl (hb hBY d_method_5_code_48) rfl ((if0 _ _).trans (teq ((lw_eq _ _).mpr (hw3.2.2 : (own_get L 16) = t2))).2) ?_
    show Steps p.tables e below (T_9.setTop (mkF m 51 #[Rv r, Rv t] [])) tt_
    refine XS.iconst X_9.here hEX rfl (hb hBY d_method_5_code_51) ?_
    show Steps p.tables e below (T_9.setTop (mkF m 52 #[Rv r, Rv t] [(.int (1 : Int32))])) tt_
    refine XS.goto X_9.here hEX rfl (pc0 := 52) (pc' := 56) rfl (hb hBY d_method_5_code_52) (by decide) (by decide) ?_
    exact kt_
  refine Done.pre sg_11 ?_
  exact Done.retN X_9 hEX hLK (t := .boolean) hRT (by simp) (hb hBY d_method_5_code_56) (by rw [e_9]; exact ⟨rfl, N_9, rfl⟩) (by decide) (by decide)
theorem d_method_4_code_0 : decode method_4_code 0 = .ok (.aload_n 0, 1) := by decide +kernel
theorem d_method_4_code_1 : decode method_4_code 1 = .ok (.iconst 2, 1) := by decide +kernel
theorem d_method_4_code_2 : decode method_4_code 2 = .ok (.aload_n 0, 1) := by decide +kernel
theorem d_method_4_code_3 : decode method_4_code 3 = .ok (.iconst 2, 1) := by decide +kernel
theorem d_method_4_code_4 : decode method_4_code 4 = .ok (.laload, 1) := by decide +kernel
theorem d_method_4_code_5 : decode method_4_code 5 = .ok (.lconst 1, 1) := by decide +kernel
theorem d_method_4_code_6 : decode method_4_code 6 = .ok (.ladd, 1) := by decide +kernel
theorem d_method_4_code_7 : decode method_4_code 7 = .ok (.lastore, 1) := by decide +kernel
theorem d_method_4_code_8 : decode method_4_code 8 = .ok (.aload_n 0, 1) := by decide +kernel
theorem d_method_4_code_9 : decode method_4_code 9 = .ok (.iconst 2, 1) := by decide +kernel
theorem d_method_4_code_10 : decode method_4_code 10 = .ok (.laload, 1) := by decide +kernel
theorem d_method_4_code_11 : decode method_4_code 11 = .ok (.lconst 0, 1) := by decide +kernel
theorem d_method_4_code_12 : decode method_4_code 12 = .ok (.lcmp, 1) := by decide +kernel
theorem d_method_4_code_13 : decode method_4_code 13 = .ok (.ifCond .ne 27, 3) := by decide +kernel
theorem d_method_4_code_16 : decode method_4_code 16 = .ok (.aload_n 0, 1) := by decide +kernel
theorem d_method_4_code_17 : decode method_4_code 17 = .ok (.iconst 1, 1) := by decide +kernel
theorem d_method_4_code_18 : decode method_4_code 18 = .ok (.aload_n 0, 1) := by decide +kernel
theorem d_method_4_code_19 : decode method_4_code 19 = .ok (.iconst 1, 1) := by decide +kernel
theorem d_method_4_code_20 : decode method_4_code 20 = .ok (.laload, 1) := by decide +kernel
theorem d_method_4_code_21 : decode method_4_code 21 = .ok (.lconst 1, 1) := by decide +kernel
theorem d_method_4_code_22 : decode method_4_code 22 = .ok (.ladd, 1) := by decide +kernel
theorem d_method_4_code_23 : decode method_4_code 23 = .ok (.lastore, 1) := by decide +kernel
theorem d_method_4_code_24 : decode method_4_code 24 = .ok (.aload_n 0, 1) := by decide +kernel
theorem d_method_4_code_25 : decode method_4_code 25 = .ok (.iconst 1, 1) := by decide +kernel
theorem d_method_4_code_26 : decode method_4_code 26 = .ok (.laload, 1) := by decide +kernel
theorem d_method_4_code_27 : decode method_4_code 27 = .ok (.lconst 0, 1) := by decide +kernel
theorem d_method_4_code_28 : decode method_4_code 28 = .ok (.lcmp, 1) := by decide +kernel
theorem d_method_4_code_29 : decode method_4_code 29 = .ok (.ifCond .ne 11, 3) := by decide +kernel
theorem d_method_4_code_32 : decode method_4_code 32 = .ok (.aload_n 0, 1) := by decide +kernel
theorem d_method_4_code_33 : decode method_4_code 33 = .ok (.iconst 0, 1) := by decide +kernel
theorem d_method_4_code_34 : decode method_4_code 34 = .ok (.aload_n 0, 1) := by decide +kernel
theorem d_method_4_code_35 : decode method_4_code 35 = .ok (.iconst 0, 1) := by decide +kernel
theorem d_method_4_code_36 : decode method_4_code 36 = .ok (.laload, 1) := by decide +kernel
theorem d_method_4_code_37 : decode method_4_code 37 = .ok (.lconst 1, 1) := by decide +kernel
theorem d_method_4_code_38 : decode method_4_code 38 = .ok (.ladd, 1) := by decide +kernel
theorem d_method_4_code_39 : decode method_4_code 39 = .ok (.lastore, 1) := by decide +kernel
theorem d_method_4_code_40 : decode method_4_code 40 = .ok (.return_, 1) := by decide +kernel
def Qrm_inc (Z : State) (t : Addr) (kt : ClassId) (t0 : Int64) (t1 : Int64) (t2 : Int64) (h0 : Heap) (n0 : Nat) (v_ : Option Value) (h_ : Heap) (L_ : List Loc) : Prop := v_ = none ∧ Fr n0 L_ ∧ Keep h0 h_ [t] ∧ Arv Z h_ t kt .long (3 : Int32) [(.long (own_i0 t0 t1 t2)), (.long (own_i1 t1 t2)), (.long (t2 + (1 : Int64)))] (.long (0 : Int64))
theorem ef_rm_inc (m : MethodId) (x0 : Addr) : entryFrame m #[(.ref x0)] 1 = mkF m 0 #[.val (.ref x0)] [] := by first | (simp [entryFrame, mkF, argsToLocals, Value.category]; done) | rfl
set_option maxRecDepth 65536 in
set_option maxHeartbeats 40000000 in
theorem rm_inc (l : Launch) (Z : State) (aZ : Array Value) (hw : ∀ d ∈ tables_1, d.before aZ Z = true) (ws : List Jvm.Cond) (t : Addr) (kt : ClassId) (t0 : Int64) (t1 : Int64) (t2 : Int64) (h0 : Heap) (n0 : Nat) (Z0 : n0 ≤ h0.size) (At_ : Arv Z h0 t kt .long (3 : Int32) [(.long t0), (.long t1), (.long t2)] (.long (0 : Int64))) (gt : n0 ≤ t) :
    MetFree l (⟨"com/example/tidelog/tidelog/net/NonceNextPinLaw", "inc", "([J)V"⟩ : MethodName) (head1 (Jvm.Cond.code (⟨"com/example/tidelog/tidelog/net/NonceNextPinLaw", "inc", "([J)V"⟩ : MethodName) method_4_code 1 none :: ws) ({ frames := 0, cells := 0, slots := 0, locals := 0 } : Room)) (fun a_ U_ => a_ = #[(.ref t)] ∧ Z.Warmed39 U_.vm ∧ U_.heap = h0) (fun _ _ _ _ _ => True) (fun _ U_ o_ U2_ => ∃ v_ L_, o_ = .returned v_ ∧ Qrm_inc Z t kt t0 t1 t2 h0 n0 v_ U2_.heap L_ ∧ FrameEnd U_ o_ U2_ L_ ({ frames := 0, cells := 0, slots := 0, locals := 0 } : Room).cells ({ frames := 0, cells := 0, slots := 0, locals := 0 } : Room).slots) := by
  refine MetFree.of_bodySF (plainFor_of_name pn_com_example_tidelog_tidelog_net_NonceNextPinLaw) hisR ?_
  intro p e s m args below meth cO s₁ Bd hml0 hP hK
  obtain ⟨rfl, hZW, hh⟩ := hP
  have hEX := Bd.exec
  have hBY := Bd.bytes
  have hMX : cO.maxLocals = 1 := hml0
  have hOW : s.vm.findClass "com/example/tidelog/tidelog/net/NonceNextPinLaw" = some m.cls := findClass_of_methodNamed Bd.named
  have hNM := (name_of_methodNamed Bd.named Bd.method).1
  have hLK := Bd.notSynchronized
  have hRT := Bd.returns
  have X0 : Stand p l e ({ frames := 0, cells := 0, slots := 0, locals := 0 } : Room) s m #[(.ref t)] below meth cO s₁ [] 0 0 := Stand.of_body Bd
  have e0 : s₁.heap = h0 := by rw [← hh, Bd.state]; rfl
  have N0 := Fr.nil n0
  have K0 : Keep h0 h0 [t] := Keep.refl _ _
  show Done p e below s (Qrm_inc Z t kt t0 t1 t2 h0 n0) ({ frames := 0, cells := 0, slots := 0, locals := 0 } : Room).cells ({ frames := 0, cells := 0, slots := 0, locals := 0 } : Room).slots (s₁.setTop (entryFrame m #[(.ref t)] 1))
  refine Done.pre (fun t_ k_ => castTop (ef_rm_inc m t) k_) ?_
  show Done _ _ _ _ _ _ _ (s₁.setTop (mkF m 0 #[Rv t] []))
  obtain ⟨cl_1, Ar_1, q_1, S_1, N__1, H_1, G_1⟩ := id At_
  have hin_1 : ¬ ((2 : Int32) < 0 ∨ cl_1.slots.size ≤ ((2 : Int32)).toNatClampNeg) := inb_of S_1 ⟨by decide, by decide⟩
  have hat_1 : cl_1.slots[((2 : Int32)).toNatClampNeg]? = some (.long t2) := H_1.at hin_1 rfl
  have sg_3 : ∀ tt_, Steps p.tables e below (s₁.setTop (mkF m 7 #[Rv t] [(.long (t2 + (1 : Int64))), (.int (2 : Int32)), (.ref t)])) tt_ → Steps p.tables e below (s₁.setTop (mkF m 0 #[Rv t] [])) tt_ := by
    intro tt_ kt_
    refine XS.aloadN X0.here hEX rfl (hb hBY d_method_4_code_0) rfl rfl ?_
    show Steps p.tables e below (s₁.setTop (mkF m 1 #[Rv t] [(.ref t)])) tt_
    refine XS.iconst X0.here hEX rfl (hb hBY d_method_4_code_1) ?_
    show Steps p.tables e below (s₁.setTop (mkF m 2 #[Rv t] [(.int (2 : Int32)), (.ref t)])) tt_
    refine XS.aloadN X0.here hEX rfl (hb hBY d_method_4_code_2) rfl rfl ?_
    show Steps p.tables e below (s₁.setTop (mkF m 3 #[Rv t] [(.ref t), (.int (2 : Int32)), (.ref t)])) tt_
    refine XS.iconst X0.here hEX rfl (hb hBY d_method_4_code_3) ?_
    show Steps p.tables e below (s₁.setTop (mkF m 4 #[Rv t] [(.int (2 : Int32)), (.ref t), (.int (2 : Int32)), (.ref t)])) tt_
    refine X0.laload hEX (j := (2 : Int32)) (v := (.long t2)) (by rw [e0]; exact Ar_1.1) (State.isArrayOf_alike hZW.alike Ar_1.2.1) Ar_1.2.2 hin_1 hat_1 (g := (mkF m 4 #[Rv t] [(.int (2 : Int32)), (.ref t), (.int (2 : Int32)), (.ref t)])) rfl rfl (hb hBY d_method_4_code_4) _ ?_
    show Steps p.tables e below (s₁.setTop (mkF m 5 #[Rv t] [(.long t2), (.int (2 : Int32)), (.ref t)])) tt_
    refine XS.lconst X0.here hEX rfl (hb hBY d_method_4_code_5) ?_
    show Steps p.tables e below (s₁.setTop (mkF m 6 #[Rv t] [(.long (1 : Int64)), (.long t2), (.int (2 : Int32)), (.ref t)])) tt_
    refine XS.ladd X0.here hEX rfl (hb hBY d_method_4_code_6) rfl ?_
    exact kt_
  refine Done.pre sg_3 ?_
  obtain ⟨cl_2, Ar_2, q_2, S_2, N__2, H_2, G_2⟩ := id At_
  have hin_2 : ¬ ((2 : Int32) < 0 ∨ cl_2.slots.size ≤ ((2 : Int32)).toNatClampNeg) := inb_of S_2 ⟨by decide, by decide⟩
  obtain ⟨T_4, h_4, X_4, e_4, W_4, st_4⟩ := stJ X0 hEX hZW e0 Ar_2 (j := (2 : Int32)) hin_2 (g := (mkF m 7 #[Rv t] [(.long (t2 + (1 : Int64))), (.int (2 : Int32)), (.ref t)])) rfl rfl (hb hBY d_method_4_code_7)
  have N_4 := Fr.snoc X_4 N0 gt
  have K__5 : Keep h0 h_4 [t] := K0.wr W_4 (Or.inl (List.mem_of_getElem? (i := 0) rfl))
  have f_6 : Arv Z h_4 t kt .long (3 : Int32) [(.long t0), (.long t1), (.long (t2 + (1 : Int64)))] (.long (0 : Int64)) := Arv.set Ar_2 q_2 S_2 N__2 H_2 G_2 rfl W_4 2 rfl (Nat.le_of_ble_eq_true rfl)
  refine Done.pre st_4 ?_
  show Done _ _ _ _ _ _ _ (T_4.setTop (mkF m 8 #[Rv t] []))
  obtain ⟨cl_7, Ar_7, q_7, S_7, N__7, H_7, G_7⟩ := id f_6
  have hin_7 : ¬ ((2 : Int32) < 0 ∨ cl_7.slots.size ≤ ((2 : Int32)).toNatClampNeg) := inb_of S_7 ⟨by decide, by decide⟩
  have hat_7 : cl_7.slots[((2 : Int32)).toNatClampNeg]? = some (.long (t2 + (1 : Int64))) := H_7.at hin_7 rfl
  have sg_8 : ∀ tt_, Steps p.tables e below (T_4.setTop (mkF m 13 #[Rv t] [(.int (lcmpW (t2 + (1 : Int64)) (0 : Int64)))])) tt_ → Steps p.tables e below (T_4.setTop (mkF m 8 #[Rv t] [])) tt_ := by
    intro tt_ kt_
    refine XS.aloadN X_4.here hEX rfl (hb hBY d_method_4_code_8) rfl rfl ?_
    show Steps p.tables e below (T_4.setTop (mkF m 9 #[Rv t] [(.ref t)])) tt_
    refine XS.iconst X_4.here hEX rfl (hb hBY d_method_4_code_9) ?_
    show Steps p.tables e below (T_4.setTop (mkF m 10 #[Rv t] [(.int (2 : Int32)), (.ref t)])) tt_
    refine X_4.laload hEX (j := (2 : Int32)) (v := (.long (t2 + (1 : Int64)))) (by rw [e_4]; exact Ar_7.1) (State.isArrayOf_alike hZW.alike Ar_7.2.1) Ar_7.2.2 hin_7 hat_7 (g := (mkF m 10 #[Rv t] [(.int (2 : Int32)), (.ref t)])) rfl rfl (hb hBY d_method_4_code_10) _ ?_
    show Steps p.tables e below (T_4.setTop (mkF m 11 #[Rv t] [(.long (t2 + (1 : Int64)))])) tt_
    refine XS.lconst X_4.here hEX rfl (hb hBY d_method_4_code_11) ?_
    show Steps p.tables e below (T_4.setTop (mkF m 12 #[Rv t] [(.long (0 : Int64)), (.long (t2 + (1 : Int64)))])) tt_
    refine XS.lcmp X_4.here hEX rfl (hb hBY d_method_4_code_12) rfl ?_
    exact kt_
  refine Done.pre sg_8 ?_
  by_cases hc13 : (t2 + (1 : Int64)) = (0 : Int64)
  · skip
    obtain ⟨cl_9, Ar_9, q_9, S_9, N__9, H_9, G_9⟩ := id f_6
    have hin_9 : ¬ ((1 : Int32) < 0 ∨ cl_9.slots.size ≤ ((1 : Int32)).toNatClampNeg) := inb_of S_9 ⟨by decide, by decide⟩
    have hat_9 : cl_9.slots[((1 : Int32)).toNatClampNeg]? = some (.long t1) := H_9.at hin_9 rfl
    have sg_11 : ∀ tt_, Steps p.tables e below (T_4.setTop (mkF m 23 #[Rv t] [(.long (t1 + (1 : Int64))), (.int (1 : Int32)), (.ref t)])) tt_ → Steps p.tables e below (T_4.setTop (mkF m 13 #[Rv t] [(.int (lcmpW (t2 + (1 : Int64)) (0 : Int64)))])) tt_ := by
      intro tt_ kt_
      refine XS.ifNo X_4.here hEX rfl (hb hBY d_method_4_code_13) rfl ((if0 _ _).trans (teq ((lw_eq _ _).mpr hc13)).2) ?_
      show Steps p.tables e below (T_4.setTop (mkF m 16 #[Rv t] [])) tt_
      refine XS.aloadN X_4.here hEX rfl (hb hBY d_method_4_code_16) rfl rfl ?_
      show Steps p.tables e below (T_4.setTop (mkF m 17 #[Rv t] [(.ref t)])) tt_
      refine XS.iconst X_4.here hEX rfl (hb hBY d_method_4_code_17) ?_
      show Steps p.tables e below (T_4.setTop (mkF m 18 #[Rv t] [(.int (1 : Int32)), (.ref t)])) tt_
      refine XS.aloadN X_4.here hEX rfl (hb hBY d_method_4_code_18) rfl rfl ?_
      show Steps p.tables e below (T_4.setTop (mkF m 19 #[Rv t] [(.ref t), (.int (1 : Int32)), (.ref t)])) tt_
      refine XS.iconst X_4.here hEX rfl (hb hBY d_method_4_code_19) ?_
      show Steps p.tables e below (T_4.setTop (mkF m 20 #[Rv t] [(.int (1 : Int32)), (.ref t), (.int (1 : Int32)), (.ref t)])) tt_
      refine X_4.laload hEX (j := (1 : Int32)) (v := (.long t1)) (by rw [e_4]; exact Ar_9.1) (State.isArrayOf_alike hZW.alike Ar_9.2.1) Ar_9.2.2 hin_9 hat_9 (g := (mkF m 20 #[Rv t] [(.int (1 : Int32)), (.ref t), (.int (1 : Int32)), (.ref t)])) rfl rfl (hb hBY d_method_4_code_20) _ ?_
      show Steps p.tables e below (T_4.setTop (mkF m 21 #[Rv t] [(.long t1), (.int (1 : Int32)), (.ref t)])) tt_
      refine XS.lconst X_4.here hEX rfl (hb hBY d_method_4_code_21) ?_
      show Steps p.tables e below (T_4.setTop (mkF m 22 #[Rv t] [(.long (1 : Int64)), (.long t1), (.int (1 : Int32)), (.ref t)])) tt_
      refine XS.ladd X_4.here hEX rfl (hb hBY d_method_4_code_22) rfl ?_
      exact kt_
    refine Done.pre sg_11 ?_
    obtain ⟨cl_10, Ar_10, q_10, S_10, N__10, H_10, G_10⟩ := id f_6
    have hin_10 : ¬ ((1 : Int32) < 0 ∨ cl_10.slots.size ≤ ((1 : Int32)).toNatClampNeg) := inb_of S_10 ⟨by decide, by decide⟩
    obtain ⟨T_12, h_12, X_12, e_12, W_12, st_12⟩ := stJ X_4 hEX hZW e_4 Ar_10 (j := (1 : Int32)) hin_10 (g := (mkF m 23 #[Rv t] [(.long (t1 + (1 : Int64))), (.int (1 : Int32)), (.ref t)])) rfl rfl (hb hBY d_method_4_code_23)
    have N_12 := Fr.snoc X_12 N_4 gt
    have K__13 : Keep h0 h_12 [t] := K__5.wr W_12 (Or.inl (List.mem_of_getElem? (i := 0) rfl))
    have f_14 : Arv Z h_12 t kt .long (3 : Int32) [(.long t0), (.long (t1 + (1 : Int64))), (.long (t2 + (1 : Int64)))] (.long (0 : Int64)) := Arv.set Ar_10 q_10 S_10 N__10 H_10 G_10 rfl W_12 1 rfl (Nat.le_of_ble_eq_true rfl)
    refine Done.pre st_12 ?_
    show Done _ _ _ _ _ _ _ (T_12.setTop (mkF m 24 #[Rv t] []))
    obtain ⟨cl_15, Ar_15, q_15, S_15, N__15, H_15, G_15⟩ := id f_14
    have hin_15 : ¬ ((1 : Int32) < 0 ∨ cl_15.slots.size ≤ ((1 : Int32)).toNatClampNeg) := inb_of S_15 ⟨by decide, by decide⟩
    have hat_15 : cl_15.slots[((1 : Int32)).toNatClampNeg]? = some (.long (t1 + (1 : Int64))) := H_15.at hin_15 rfl
    have sg_16 : ∀ tt_, Steps p.tables e below (T_12.setTop (mkF m 29 #[Rv t] [(.int (lcmpW (t1 + (1 : Int64)) (0 : Int64)))])) tt_ → Steps p.tables e below (T_12.setTop (mkF m 24 #[Rv t] [])) tt_ := by
      intro tt_ kt_
      refine XS.aloadN X_12.here hEX rfl (hb hBY d_method_4_code_24) rfl rfl ?_
      show Steps p.tables e below (T_12.setTop (mkF m 25 #[Rv t] [(.ref t)])) tt_
      refine XS.iconst X_12.here hEX rfl (hb hBY d_method_4_code_25) ?_
      show Steps p.tables e below (T_12.setTop (mkF m 26 #[Rv t] [(.int (1 : Int32)), (.ref t)])) tt_
      refine X_12.laload hEX (j := (1 : Int32)) (v := (.long (t1 + (1 : Int64)))) (by rw [e_12]; exact Ar_15.1) (State.isArrayOf_alike hZW.alike Ar_15.2.1) Ar_15.2.2 hin_15 hat_15 (g := (mkF m 26 #[Rv t] [(.int (1 : Int32)), (.ref t)])) rfl rfl (hb hBY d_method_4_code_26) _ ?_
      show Steps p.tables e below (T_12.setTop (mkF m 27 #[Rv t] [(.long (t1 + (1 : Int64)))])) tt_
      refine XS.lconst X_12.here hEX rfl (hb hBY d_method_4_code_27) ?_
      show Steps p.tables e below (T_12.setTop (mkF m 28 #[Rv t] [(.long (0 : Int64)), (.long (t1 + (1 : Int64)))])) tt_
      refine XS.lcmp X_12.here hEX rfl (hb hBY d_method_4_code_28) rfl ?_
      exact kt_
    refine Done.pre sg_16 ?_
    by_cases hc29 : (t1 + (1 : Int64)) = (0 : Int64)
    · skip
      obtain ⟨cl_17, Ar_17, q_17, S_17, N__17, H_17, G_17⟩ := id f_14
      have hin_17 : ¬ ((0 : Int32) < 0 ∨ cl_17.slots.size ≤ ((0 : Int32)).toNatClampNeg) := inb_of S_17 ⟨by decide, by decide⟩
      have hat_17 : cl_17.slots[((0 : Int32)).toNatClampNeg]? = some (.long t0) := H_17.at hin_17 rfl
      have sg_19 : ∀ tt_, Steps p.tables e below (T_12.setTop (mkF m 39 #[Rv t] [(.long (t0 + (1 : Int64))), (.int (0 : Int32)), (.ref t)])) tt_ → Steps p.tables e below (T_12.setTop (mkF m 29 #[Rv t] [(.int (lcmpW (t1 + (1 : Int64)) (0 : Int64)))])) tt_ := by
        intro tt_ kt_
        refine XS.ifNo X_12.here hEX rfl (hb hBY d_method_4_code_29) rfl ((if0 _ _).trans (teq ((lw_eq _ _).mpr hc29)).2) ?_
        show Steps p.tables e below (T_12.setTop (mkF m 32 #[Rv t] [])) tt_
        refine XS.aloadN X_12.here hEX rfl (hb hBY d_method_4_code_32) rfl rfl ?_
        show Steps p.tables e below (T_12.setTop (mkF m 33 #[Rv t] [(.ref t)])) tt_
        refine XS.iconst X_12.here hEX rfl (hb hBY d_method_4_code_33) ?_
        show Steps p.tables e below (T_12.setTop (mkF m 34 #[Rv t] [(.int (0 : Int32)), (.ref t)])) tt_
        refine XS.aloadN X_12.here hEX rfl (hb hBY d_method_4_code_34) rfl rfl ?_
        show Steps p.tables e below (T_12.setTop (mkF m 35 #[Rv t] [(.ref t), (.int (0 : Int32)), (.ref t)])) tt_
        refine XS.iconst X_12.here hEX rfl (hb hBY d_method_4_code_35) ?_
        show Steps p.tables e below (T_12.setTop (mkF m 36 #[Rv t] [(.int (0 : Int32)), (.ref t), (.int (0 : Int32)), (.ref t)])) tt_
        refine X_12.laload hEX (j := (0 : Int32)) (v := (.long t0)) (by rw [e_12]; exact Ar_17.1) (State.isArrayOf_alike hZW.alike Ar_17.2.1) Ar_17.2.2 hin_17 hat_17 (g := (mkF m 36 #[Rv t] [(.int (0 : Int32)), (.ref t), (.int (0 : Int32)), (.ref t)])) rfl rfl (hb hBY d_method_4_code_36) _ ?_
        show Steps p.tables e below (T_12.setTop (mkF m 37 #[Rv t] [(.long t0), (.int (0 : Int32)), (.ref t)])) tt_
        refine XS.lconst X_12.here hEX rfl (hb hBY d_method_4_code_37) ?_
        show Steps p.tables e below (T_12.setTop (mkF m 38 #[Rv t] [(.long (1 : Int64)), (.long t0), (.int (0 : Int32)), (.ref t)])) tt_
        refine XS.ladd X_12.here hEX rfl (hb hBY d_method_4_code_38) rfl ?_
        exact kt_
      refine Done.pre sg_19 ?_
      obtain ⟨cl_18, Ar_18, q_18, S_18, N__18, H_18, G_18⟩ := id f_14
      have hin_18 : ¬ ((0 : Int32) < 0 ∨ cl_18.slots.size ≤ ((0 : Int32)).toNatClampNeg) := inb_of S_18 ⟨by decide, by decide⟩
      obtain ⟨T_20, h_20, X_20, e_20, W_20, st_20⟩ := stJ X_12 hEX hZW e_12 Ar_18 (j := (0 : Int32)) hin_18 (g := (mkF m 39 #[Rv t] [(.long (t0 + (1 : Int64))), (.int (0 : Int32)), (.ref t)])) rfl rfl (hb hBY d_method_4_code_39)
      have N_20 := Fr.snoc X_20 N_12 gt
      have K__21 : Keep h0 h_20 [t] := K__13.wr W_20 (Or.inl (List.mem_of_getElem? (i := 0) rfl))
      have f_22 : Arv Z h_20 t kt .long (3 : Int32) [(.long (t0 + (1 : Int64))), (.long (t1 + (1 : Int64))), (.long (t2 + (1 : Int64)))] (.long (0 : Int64)) := Arv.set Ar_18 q_18 S_18 N__18 H_18 G_18 rfl W_20 0 rfl (Nat.le_of_ble_eq_true rfl)
      refine Done.pre st_20 ?_
      show Done _ _ _ _ _ _ _ (T_20.setTop (mkF m 40 #[Rv t] []))
      exact Done.retV X_20 hEX hLK hRT (hb hBY d_method_4_code_40) (by rw [e_20]; exact ⟨rfl, N_20, K__21, (by simp only [own_i0, own_i1, if_pos hc13, if_pos hc29]; exact f_22)⟩) (by decide) (by decide)
    · skip
      have sg_23 : ∀ tt_, Steps p.tables e below (T_12.setTop (mkF m 40 #[Rv t] [])) tt_ → Steps p.tables e below (T_12.setTop (mkF m 29 #[Rv t] [(.int (lcmpW (t1 + (1 : Int64)) (0 : Int64)))])) tt_ := by
        intro tt_ kt_
        refine XS.ifYes X_12.here hEX rfl (pc0 := 29) (pc' := 40) rfl (hb hBY d_method_4_code_29) rfl ((if0 _ _).trans (feq (fun q => hc29 ((lw_eq _ _).mp q))).2) (by decide) (by decide) ?_
        exact kt_
      refine Done.pre sg_23 ?_
      exact Done.retV X_12 hEX hLK hRT (hb hBY d_method_4_code_40) (by rw [e_12]; exact ⟨rfl, N_12, K__13, (by simp only [own_i0, own_i1, if_pos hc13, if_neg hc29]; exact f_14)⟩) (by decide) (by decide)
  · skip
    have sg_24 : ∀ tt_, Steps p.tables e below (T_4.setTop (mkF m 40 #[Rv t] [])) tt_ → Steps p.tables e below (T_4.setTop (mkF m 13 #[Rv t] [(.int (lcmpW (t2 + (1 : Int64)) (0 : Int64)))])) tt_ := by
      intro tt_ kt_
      refine XS.ifYes X_4.here hEX rfl (pc0 := 13) (pc' := 40) rfl (hb hBY d_method_4_code_13) rfl ((if0 _ _).trans (feq (fun q => hc13 ((lw_eq _ _).mp q))).2) (by decide) (by decide) ?_
      exact kt_
    refine Done.pre sg_24 ?_
    exact Done.retV X_4 hEX hLK hRT (hb hBY d_method_4_code_40) (by rw [e_4]; exact ⟨rfl, N_4, K__5, (by simp only [own_i0, own_i1, if_neg hc13]; exact f_6)⟩) (by decide) (by decide)
theorem d_prog_27_method_1_code_0 : decode prog_27_method_1_code 0 = .ok (.aload_n 0, 1) := by decide +kernel
theorem d_prog_27_method_1_code_1 : decode prog_27_method_1_code 1 = .ok (.invokespecial 1, 3) := by decide +kernel
theorem d_prog_27_method_1_code_4 : decode prog_27_method_1_code 4 = .ok (.aload_n 0, 1) := by decide +kernel
theorem d_prog_27_method_1_code_5 : decode prog_27_method_1_code 5 = .ok (.aload_n 1, 1) := by decide +kernel
theorem d_prog_27_method_1_code_6 : decode prog_27_method_1_code 6 = .ok (.invokevirtual 7, 3) := by decide +kernel
theorem d_prog_27_method_1_code_9 : decode prog_27_method_1_code 9 = .ok (.checkcast 8, 3) := by decide +kernel
theorem d_prog_27_method_1_code_12 : decode prog_27_method_1_code 12 = .ok (.putfield 13, 3) := by decide +kernel
theorem d_prog_27_method_1_code_15 : decode prog_27_method_1_code 15 = .ok (.return_, 1) := by decide +kernel
def Qrm_init (Z : State) (a : Addr) (f : Addr) (u : Value) (kf : ClassId) (L : List Int32) (h0 : Heap) (n0 : Nat) (v_ : Option Value) (h_ : Heap) (L_ : List Loc) : Prop := ∃ (b : Addr), v_ = none ∧ Fr n0 L_ ∧ Keep h0 h_ [a] ∧ Exa Z h_ a "com/example/tidelog/tidelog/net/Nonce" ∧ Fld Z h_ a "com/example/tidelog/tidelog/net/Nonce" "value" "[B" (.ref b) ∧ Arv Z h_ b kf .byte (24 : Int32) (own_v L) (.int (0 : Int32)) ∧ Exa Z h_ b "[B" ∧ h0.size ≤ b
theorem ef_rm_init (m : MethodId) (x0 : Addr) (x1 : Addr) : entryFrame m #[(.ref x0), (.ref x1)] 2 = mkF m 0 #[.val (.ref x0), .val (.ref x1)] [] := by first | (simp [entryFrame, mkF, argsToLocals, Value.category]; done) | rfl
theorem pn_com_example_tidelog_tidelog_net_Nonce : plainName "com/example/tidelog/tidelog/net/Nonce" = true := by first | (simp [plainName, overriddenIn]; done) | decide +kernel
set_option maxRecDepth 65536 in
set_option maxHeartbeats 40000000 in
theorem rm_init (l : Launch) (Z : State) (aZ : Array Value) (hw : ∀ d ∈ tables_1, d.before aZ Z = true) (ws : List Jvm.Cond) (a : Addr) (f : Addr) (u : Value) (kf : ClassId) (L : List Int32) (h0 : Heap) (n0 : Nat) (Z0 : n0 ≤ h0.size) (Ex : Exa Z h0 a "com/example/tidelog/tidelog/net/Nonce") (Fv : Fld Z h0 a "com/example/tidelog/tidelog/net/Nonce" "value" "[B" u) (Af : Arv Z h0 f kf .byte (24 : Int32) (own_v L) (.int (0 : Int32))) (Ef : Exa Z h0 f "[B") (ga : n0 ≤ a) (naf : a ≠ f) :
    MetFree l (⟨"com/example/tidelog/tidelog/net/Nonce", "<init>", "([B)V"⟩ : MethodName) (head1 (Jvm.Cond.code (⟨"com/example/tidelog/tidelog/net/Nonce", "<init>", "([B)V"⟩ : MethodName) prog_27_method_1_code 2 none :: ws) ({ frames := 1, cells := 1, slots := 24, locals := 15 } : Room)) (fun a_ U_ => a_ = #[(.ref a), (.ref f)] ∧ Z.Warmed39 U_.vm ∧ U_.heap = h0) (fun _ _ _ _ _ => True) (fun _ U_ o_ U2_ => ∃ v_ L_, o_ = .returned v_ ∧ Qrm_init Z a f u kf L h0 n0 v_ U2_.heap L_ ∧ FrameEnd U_ o_ U2_ L_ ({ frames := 1, cells := 1, slots := 24, locals := 15 } : Room).cells ({ frames := 1, cells := 1, slots := 24, locals := 15 } : Room).slots) := by
  refine MetFree.of_bodySF (plainFor_of_name pn_com_example_tidelog_tidelog_net_Nonce) hisR ?_
  intro p e s m args below meth cO s₁ Bd hml0 hP hK
  obtain ⟨rfl, hZW, hh⟩ := hP
  have hEX := Bd.exec
  have hBY := Bd.bytes
  have hMX : cO.maxLocals = 2 := hml0
  have hOW : s.vm.findClass "com/example/tidelog/tidelog/net/Nonce" = some m.cls := findClass_of_methodNamed Bd.named
  have hNM := (name_of_methodNamed Bd.named Bd.method).1
  have hLK := Bd.notSynchronized
  have hRT := Bd.returns
  have X0 : Stand p l e ({ frames := 1, cells := 1, slots := 24, locals := 15 } : Room) s m #[(.ref a), (.ref f)] below meth cO s₁ [] 0 0 := Stand.of_body Bd
  have e0 : s₁.heap = h0 := by rw [← hh, Bd.state]; rfl
  have N0 := Fr.nil n0
  have K0 : Keep h0 h0 [a] := Keep.refl _ _
  show Done p e below s (Qrm_init Z a f u kf L h0 n0) ({ frames := 1, cells := 1, slots := 24, locals := 15 } : Room).cells ({ frames := 1, cells := 1, slots := 24, locals := 15 } : Room).slots (s₁.setTop (entryFrame m #[(.ref a), (.ref f)] 2))
  refine Done.pre (fun t_ k_ => castTop (ef_rm_init m a f) k_) ?_
  show Done _ _ _ _ _ _ _ (s₁.setTop (mkF m 0 #[Rv a, Rv f] []))
  have sg_1 : ∀ tt_, Steps p.tables e below (s₁.setTop (mkF m 1 #[Rv a, Rv f] [(.ref a)])) tt_ → Steps p.tables e below (s₁.setTop (mkF m 0 #[Rv a, Rv f] [])) tt_ := by
    intro tt_ kt_
    refine XS.aloadN X0.here hEX rfl (hb hBY d_prog_27_method_1_code_0) rfl rfl ?_
    exact kt_
  refine Done.pre sg_1 ?_
  obtain ⟨T_2, X_2, e_2, st_2⟩ := initO X0 hEX hZW hOW (hw _ (List.mem_of_getElem? (i := 12) rfl)) (hw _ (List.mem_of_getElem? (i := 13) rfl)) (hw _ (List.mem_of_getElem? (i := 14) rfl)) e0 (g := (mkF m 1 #[Rv a, Rv f] [(.ref a)])) rfl (by rw [hMX]; rfl) rfl (hb hBY d_prog_27_method_1_code_1) (by decide) (W := 0) (by show 2 * 0 + _ ≤ _; exact Nat.le_of_eq rfl) (by decide)
  refine Done.pre st_2 ?_
  show Done _ _ _ _ _ _ _ (T_2.setTop (mkF m 4 #[Rv a, Rv f] []))
  have sg_3 : ∀ tt_, Steps p.tables e below (T_2.setTop (mkF m 6 #[Rv a, Rv f] [(.ref f), (.ref a)])) tt_ → Steps p.tables e below (T_2.setTop (mkF m 4 #[Rv a, Rv f] [])) tt_ := by
    intro tt_ kt_
    refine XS.aloadN X_2.here hEX rfl (hb hBY d_prog_27_method_1_code_4) rfl rfl ?_
    show Steps p.tables e below (T_2.setTop (mkF m 5 #[Rv a, Rv f] [(.ref a)])) tt_
    refine XS.aloadN X_2.here hEX rfl (hb hBY d_prog_27_method_1_code_5) rfl rfl ?_
    exact kt_
  refine Done.pre sg_3 ?_
  obtain ⟨T_4, h_4, X_4, e_4, E_4, A_4, B_4, st_4⟩ := cloneH X_2 hEX hZW hOW (hw _ (List.mem_of_getElem? (i := 15) rfl)) (hw _ (List.mem_of_getElem? (i := 16) rfl)) (hw _ (List.mem_of_getElem? (i := 20) rfl)) (hw _ (List.mem_of_getElem? (i := 18) rfl)) (hw _ (List.mem_of_getElem? (i := 19) rfl)) (hw _ (List.mem_of_getElem? (i := 21) rfl)) e_2 (Arv.arh Af) Ef (g := (mkF m 6 #[Rv a, Rv f] [(.ref f), (.ref a)])) rfl (by rw [hMX]; rfl) rfl (hb hBY d_prog_27_method_1_code_6) (by decide) (W := 1) (cap := 24) (by show 2 * 0 + _ ≤ _; exact Nat.le_of_eq rfl) (by decide) (by decide) (by decide) (by decide)
  obtain ⟨b_4, g_4⟩ : ∃ z, z = h0.size := ⟨_, rfl⟩
  rw [← g_4] at A_4 B_4 st_4
  have sz_b_4 : h0.size ≤ b_4 := Nat.le_trans K0.1 (Nat.le_of_eq g_4.symm)
  have ge_b_4 : n0 ≤ b_4 := Nat.le_trans Z0 sz_b_4
  have ne_a_b_4 : a ≠ b_4 := Nat.ne_of_lt (Nat.lt_of_lt_of_le Ex.lt (Nat.le_of_eq g_4.symm))
  have ne_f_b_4 : f ≠ b_4 := Nat.ne_of_lt (Nat.lt_of_lt_of_le Af.lt (Nat.le_of_eq g_4.symm))
  have K__5 : Keep h0 h_4 [a] := K0.ext E_4
  have f_6 : Exa Z h_4 a "com/example/tidelog/tidelog/net/Nonce" := Ex.ext E_4
  have f_7 : Fld Z h_4 a "com/example/tidelog/tidelog/net/Nonce" "value" "[B" u := Fv.ext E_4
  have f_8 : Arv Z h_4 f kf .byte (24 : Int32) (own_v L) (.int (0 : Int32)) := Af.ext E_4
  have f_9 : Exa Z h_4 f "[B" := Ef.ext E_4
  have f_10 : Arv Z h_4 b_4 kf .byte (24 : Int32) (own_v L) (.int (0 : Int32)) := A_4
  refine Done.pre st_4 ?_
  show Done _ _ _ _ _ _ _ (T_4.setTop (mkF m 9 #[Rv a, Rv f] [(.ref b_4), (.ref a)]))
  obtain ⟨T_11, X_11, e_11, st_11⟩ := castY X_4 hEX hZW hOW (hw _ (List.mem_of_getElem? (i := 22) rfl)) e_4 (Ins.self B_4) (g := (mkF m 9 #[Rv a, Rv f] [(.ref b_4), (.ref a)])) rfl rfl (hb hBY d_prog_27_method_1_code_9)
  refine Done.pre st_11 ?_
  show Done _ _ _ _ _ _ _ (T_11.setTop (mkF m 12 #[Rv a, Rv f] [(.ref b_4), (.ref a)]))
  obtain ⟨T_12, h_12, X_12, e_12, W_12, st_12⟩ := putF X_11 hEX hZW hOW (host := "") (Or.inl (hw _ (List.mem_of_getElem? (i := 24) rfl))) Via.refl e_11 f_7 f_6 (Or.inr ⟨(hw _ (List.mem_of_getElem? (i := 25) rfl)), rfl, hNM⟩) (hw _ (List.mem_of_getElem? (i := 7) rfl)) (ty := (.array .byte)) (by decide) rfl rfl (g := (mkF m 12 #[Rv a, Rv f] [(.ref b_4), (.ref a)])) rfl rfl (hb hBY d_prog_27_method_1_code_12)
  have N_12 := Fr.snoc X_12 N0 ga
  have K__13 : Keep h0 h_12 [a] := K__5.wr W_12 (Or.inl (List.mem_of_getElem? (i := 0) rfl))
  have f_14 : Exa Z h_12 a "com/example/tidelog/tidelog/net/Nonce" := f_6.wr W_12
  have f_15 : Arv Z h_12 f kf .byte (24 : Int32) (own_v L) (.int (0 : Int32)) := f_8.other W_12 (Ne.symm naf)
  have f_16 : Exa Z h_12 f "[B" := f_9.wr W_12
  have f_17 : Arv Z h_12 b_4 kf .byte (24 : Int32) (own_v L) (.int (0 : Int32)) := f_10.other W_12 (Ne.symm ne_a_b_4)
  have f_18 : Exa Z h_12 b_4 "[B" := B_4.wr W_12
  have f_19 : Fld Z h_12 a "com/example/tidelog/tidelog/net/Nonce" "value" "[B" (.ref b_4) := f_7.same W_12
  refine Done.pre st_12 ?_
  show Done _ _ _ _ _ _ _ (T_12.setTop (mkF m 15 #[Rv a, Rv f] []))
  exact Done.retV X_12 hEX hLK hRT (hb hBY d_prog_27_method_1_code_15) (by rw [e_12]; exact ⟨b_4, rfl, N_12, K__13, f_14, f_19, f_17, f_18, sz_b_4⟩) (by decide) (by decide)
theorem d_prog_27_method_2_code_0 : decode prog_27_method_2_code 0 = .ok (.aload_n 0, 1) := by decide +kernel
theorem d_prog_27_method_2_code_1 : decode prog_27_method_2_code 1 = .ok (.getfield 13, 3) := by decide +kernel
theorem d_prog_27_method_2_code_4 : decode prog_27_method_2_code 4 = .ok (.invokevirtual 7, 3) := by decide +kernel
theorem d_prog_27_method_2_code_7 : decode prog_27_method_2_code 7 = .ok (.checkcast 8, 3) := by decide +kernel
theorem d_prog_27_method_2_code_10 : decode prog_27_method_2_code 10 = .ok (.astore_n 1, 1) := by decide +kernel
theorem d_prog_27_method_2_code_11 : decode prog_27_method_2_code 11 = .ok (.aload_n 0, 1) := by decide +kernel
theorem d_prog_27_method_2_code_12 : decode prog_27_method_2_code 12 = .ok (.getfield 13, 3) := by decide +kernel
theorem d_prog_27_method_2_code_15 : decode prog_27_method_2_code 15 = .ok (.arraylength, 1) := by decide +kernel
theorem d_prog_27_method_2_code_16 : decode prog_27_method_2_code 16 = .ok (.iconst 1, 1) := by decide +kernel
theorem d_prog_27_method_2_code_17 : decode prog_27_method_2_code 17 = .ok (.isub, 1) := by decide +kernel
theorem d_prog_27_method_2_code_18 : decode prog_27_method_2_code 18 = .ok (.istore_n 2, 1) := by decide +kernel
theorem d_prog_27_method_2_code_19 : decode prog_27_method_2_code 19 = .ok (.iload_n 2, 1) := by decide +kernel
theorem d_prog_27_method_2_code_20 : decode prog_27_method_2_code 20 = .ok (.ifCond .lt 27, 3) := by decide +kernel
theorem d_prog_27_method_2_code_47 : decode prog_27_method_2_code 47 = .ok (.aload_n 1, 1) := by decide +kernel
theorem d_prog_27_method_2_code_48 : decode prog_27_method_2_code 48 = .ok (.areturn, 1) := by decide +kernel
theorem d_prog_27_method_2_code_23 : decode prog_27_method_2_code 23 = .ok (.aload_n 0, 1) := by decide +kernel
theorem d_prog_27_method_2_code_24 : decode prog_27_method_2_code 24 = .ok (.getfield 13, 3) := by decide +kernel
theorem d_prog_27_method_2_code_27 : decode prog_27_method_2_code 27 = .ok (.iload_n 2, 1) := by decide +kernel
theorem d_prog_27_method_2_code_28 : decode prog_27_method_2_code 28 = .ok (.dup2, 1) := by decide +kernel
theorem d_prog_27_method_2_code_29 : decode prog_27_method_2_code 29 = .ok (.baload, 1) := by decide +kernel
theorem d_prog_27_method_2_code_30 : decode prog_27_method_2_code 30 = .ok (.iconst 1, 1) := by decide +kernel
theorem d_prog_27_method_2_code_31 : decode prog_27_method_2_code 31 = .ok (.iadd, 1) := by decide +kernel
theorem d_prog_27_method_2_code_32 : decode prog_27_method_2_code 32 = .ok (.i2b, 1) := by decide +kernel
theorem d_prog_27_method_2_code_33 : decode prog_27_method_2_code 33 = .ok (.dup_x2, 1) := by decide +kernel
theorem d_prog_27_method_2_code_34 : decode prog_27_method_2_code 34 = .ok (.bastore, 1) := by decide +kernel
theorem d_prog_27_method_2_code_35 : decode prog_27_method_2_code 35 = .ok (.ifCond .eq 6, 3) := by decide +kernel
theorem d_prog_27_method_2_code_41 : decode prog_27_method_2_code 41 = .ok (.iinc 2 (-1), 3) := by decide +kernel
theorem d_prog_27_method_2_code_44 : decode prog_27_method_2_code 44 = .ok (.goto (-25), 3) := by decide +kernel
theorem d_prog_27_method_2_code_38 : decode prog_27_method_2_code 38 = .ok (.goto 9, 3) := by decide +kernel
def Qrm_next (Z : State) (a : Addr) (b : Addr) (k : ClassId) (L : List Int32) (h0 : Heap) (n0 : Nat) (v_ : Option Value) (h_ : Heap) (L_ : List Loc) : Prop := ∃ (r : Addr), v_ = some (.ref r) ∧ Fr n0 L_ ∧ Keep h0 h_ [b] ∧ Arv Z h_ r k .byte (24 : Int32) (own_v L) (.int (0 : Int32)) ∧ Exa Z h_ r "[B" ∧ h0.size ≤ r ∧ Arv Z h_ b k .byte (24 : Int32) (own_v (own_incL L)) (.int (0 : Int32)) ∧ Exa Z h_ b "[B"
theorem ef_rm_next (m : MethodId) (x0 : Addr) : entryFrame m #[(.ref x0)] 3 = mkF m 0 #[.val (.ref x0), .unset, .unset] [] := by first | (simp [entryFrame, mkF, argsToLocals, Value.category]; done) | rfl
set_option maxRecDepth 65536 in
set_option maxHeartbeats 40000000 in
theorem rm_next (l : Launch) (Z : State) (aZ : Array Value) (hw : ∀ d ∈ tables_1, d.before aZ Z = true) (ws : List Jvm.Cond) (a : Addr) (b : Addr) (k : ClassId) (L : List Int32) (h0 : Heap) (n0 : Nat) (Z0 : n0 ≤ h0.size) (Fv : Fld Z h0 a "com/example/tidelog/tidelog/net/Nonce" "value" "[B" (.ref b)) (Ab : Arv Z h0 b k .byte (24 : Int32) (own_v L) (.int (0 : Int32))) (Eb : Exa Z h0 b "[B") (gb : n0 ≤ b) (nab : a ≠ b) (hL : L.length = 24) :
    MetFree l (⟨"com/example/tidelog/tidelog/net/Nonce", "next", "()[B"⟩ : MethodName) (head1 (Jvm.Cond.code (⟨"com/example/tidelog/tidelog/net/Nonce", "next", "()[B"⟩ : MethodName) prog_27_method_2_code 3 (some (.array .byte)) :: ws) ({ frames := 1, cells := 1, slots := 24, locals := 14 } : Room)) (fun a_ U_ => a_ = #[(.ref a)] ∧ Z.Warmed39 U_.vm ∧ U_.heap = h0) (fun _ _ _ _ _ => True) (fun _ U_ o_ U2_ => ∃ v_ L_, o_ = .returned v_ ∧ Qrm_next Z a b k L h0 n0 v_ U2_.heap L_ ∧ FrameEnd U_ o_ U2_ L_ ({ frames := 1, cells := 1, slots := 24, locals := 14 } : Room).cells ({ frames := 1, cells := 1, slots := 24, locals := 14 } : Room).slots) := by
  refine MetFree.of_bodySF (plainFor_of_name pn_com_example_tidelog_tidelog_net_Nonce) hisR ?_
  intro p e s m args below meth cO s₁ Bd hml0 hP hK
  obtain ⟨rfl, hZW, hh⟩ := hP
  have hEX := Bd.exec
  have hBY := Bd.bytes
  have hMX : cO.maxLocals = 3 := hml0
  have hOW : s.vm.findClass "com/example/tidelog/tidelog/net/Nonce" = some m.cls := findClass_of_methodNamed Bd.named
  have hNM := (name_of_methodNamed Bd.named Bd.method).1
  have hLK := Bd.notSynchronized
  have hRT := Bd.returns
  have X0 : Stand p l e ({ frames := 1, cells := 1, slots := 24, locals := 14 } : Room) s m #[(.ref a)] below meth cO s₁ [] 0 0 := Stand.of_body Bd
  have e0 : s₁.heap = h0 := by rw [← hh, Bd.state]; rfl
  have N0 := Fr.nil n0
  have K0 : Keep h0 h0 [b] := Keep.refl _ _
  show Done p e below s (Qrm_next Z a b k L h0 n0) ({ frames := 1, cells := 1, slots := 24, locals := 14 } : Room).cells ({ frames := 1, cells := 1, slots := 24, locals := 14 } : Room).slots (s₁.setTop (entryFrame m #[(.ref a)] 3))
  refine Done.pre (fun t_ k_ => castTop (ef_rm_next m a) k_) ?_
  show Done _ _ _ _ _ _ _ (s₁.setTop (mkF m 0 #[Rv a, Us, Us] []))
  have sg_1 : ∀ tt_, Steps p.tables e below (s₁.setTop (mkF m 1 #[Rv a, Us, Us] [(.ref a)])) tt_ → Steps p.tables e below (s₁.setTop (mkF m 0 #[Rv a, Us, Us] [])) tt_ := by
    intro tt_ kt_
    refine XS.aloadN X0.here hEX rfl (hb hBY d_prog_27_method_2_code_0) rfl rfl ?_
    exact kt_
  refine Done.pre sg_1 ?_
  obtain ⟨T_2, X_2, e_2, st_2⟩ := getF X0 hEX hZW hOW (host := "") (Or.inl (hw _ (List.mem_of_getElem? (i := 24) rfl))) Via.refl e0 Fv (g := (mkF m 1 #[Rv a, Us, Us] [(.ref a)])) rfl rfl (hb hBY d_prog_27_method_2_code_1)
  refine Done.pre st_2 ?_
  show Done _ _ _ _ _ _ _ (T_2.setTop (mkF m 4 #[Rv a, Us, Us] [(.ref b)]))
  obtain ⟨T_3, h_3, X_3, e_3, E_3, A_3, B_3, st_3⟩ := cloneH X_2 hEX hZW hOW (hw _ (List.mem_of_getElem? (i := 15) rfl)) (hw _ (List.mem_of_getElem? (i := 16) rfl)) (hw _ (List.mem_of_getElem? (i := 20) rfl)) (hw _ (List.mem_of_getElem? (i := 18) rfl)) (hw _ (List.mem_of_getElem? (i := 19) rfl)) (hw _ (List.mem_of_getElem? (i := 21) rfl)) e_2 (Arv.arh Ab) Eb (g := (mkF m 4 #[Rv a, Us, Us] [(.ref b)])) rfl (by rw [hMX]; rfl) rfl (hb hBY d_prog_27_method_2_code_4) (by decide) (W := 0) (cap := 24) (by show 2 * 0 + _ ≤ _; exact Nat.le_of_eq rfl) (by decide) (by decide) (by decide) (by decide)
  obtain ⟨b_3, g_3⟩ : ∃ z, z = h0.size := ⟨_, rfl⟩
  rw [← g_3] at A_3 B_3 st_3
  have sz_b_3 : h0.size ≤ b_3 := Nat.le_trans K0.1 (Nat.le_of_eq g_3.symm)
  have ge_b_3 : n0 ≤ b_3 := Nat.le_trans Z0 sz_b_3
  have ne_a_b_3 : a ≠ b_3 := Nat.ne_of_lt (Nat.lt_of_lt_of_le Fv.lt (Nat.le_of_eq g_3.symm))
  have ne_b_b_3 : b ≠ b_3 := Nat.ne_of_lt (Nat.lt_of_lt_of_le Ab.lt (Nat.le_of_eq g_3.symm))
  have K__4 : Keep h0 h_3 [b] := K0.ext E_3
  have f_5 : Fld Z h_3 a "com/example/tidelog/tidelog/net/Nonce" "value" "[B" (.ref b) := Fv.ext E_3
  have f_6 : Arv Z h_3 b k .byte (24 : Int32) (own_v L) (.int (0 : Int32)) := Ab.ext E_3
  have f_7 : Exa Z h_3 b "[B" := Eb.ext E_3
  have f_8 : Arv Z h_3 b_3 k .byte (24 : Int32) (own_v L) (.int (0 : Int32)) := A_3
  refine Done.pre st_3 ?_
  show Done _ _ _ _ _ _ _ (T_3.setTop (mkF m 7 #[Rv a, Us, Us] [(.ref b_3)]))
  obtain ⟨T_9, X_9, e_9, st_9⟩ := castY X_3 hEX hZW hOW (hw _ (List.mem_of_getElem? (i := 22) rfl)) e_3 (Ins.self B_3) (g := (mkF m 7 #[Rv a, Us, Us] [(.ref b_3)])) rfl rfl (hb hBY d_prog_27_method_2_code_7)
  refine Done.pre st_9 ?_
  show Done _ _ _ _ _ _ _ (T_9.setTop (mkF m 10 #[Rv a, Us, Us] [(.ref b_3)]))
  have sg_10 : ∀ tt_, Steps p.tables e below (T_9.setTop (mkF m 12 #[Rv a, Rv b_3, Us] [(.ref a)])) tt_ → Steps p.tables e below (T_9.setTop (mkF m 10 #[Rv a, Us, Us] [(.ref b_3)])) tt_ := by
    intro tt_ kt_
    refine XS.astoreN X_9.here hEX rfl (hb hBY d_prog_27_method_2_code_10) rfl rfl (l' := #[Rv a, Rv b_3, Us]) rfl ?_
    show Steps p.tables e below (T_9.setTop (mkF m 11 #[Rv a, Rv b_3, Us] [])) tt_
    refine XS.aloadN X_9.here hEX rfl (hb hBY d_prog_27_method_2_code_11) rfl rfl ?_
    exact kt_
  refine Done.pre sg_10 ?_
  obtain ⟨T_11, X_11, e_11, st_11⟩ := getF X_9 hEX hZW hOW (host := "") (Or.inl (hw _ (List.mem_of_getElem? (i := 24) rfl))) Via.refl e_9 f_5 (g := (mkF m 12 #[Rv a, Rv b_3, Us] [(.ref a)])) rfl rfl (hb hBY d_prog_27_method_2_code_12)
  refine Done.pre st_11 ?_
  show Done _ _ _ _ _ _ _ (T_11.setTop (mkF m 15 #[Rv a, Rv b_3, Us] [(.ref b)]))
  obtain ⟨cl_12, Ar_12, -, S_12, N__12, -, -⟩ := id f_6
  have f_13 : Arv Z h_3 b k .byte (24 : Int32) (own_v (L ++ [])) (.int (0 : Int32)) := by rw [List.append_nil]; exact f_6
  have sg_14 : ∀ tt_, Steps p.tables e below (T_11.setTop (mkF m 19 #[Rv a, Rv b_3, Iv (23 : Int32)] [])) tt_ → Steps p.tables e below (T_11.setTop (mkF m 15 #[Rv a, Rv b_3, Us] [(.ref b)])) tt_ := by
    intro tt_ kt_
    refine X_11.arraylength hEX (by rw [e_11]; exact Ar_12.1) (State.isArrayOf_alike hZW.alike Ar_12.2.1) (g := (mkF m 15 #[Rv a, Rv b_3, Us] [(.ref b)])) rfl rfl (hb hBY d_prog_27_method_2_code_15) _ ?_
    rw [len_of S_12 N__12]
    show Steps p.tables e below (T_11.setTop (mkF m 16 #[Rv a, Rv b_3, Us] [(.int (24 : Int32))])) tt_
    refine XS.iconst X_11.here hEX rfl (hb hBY d_prog_27_method_2_code_16) ?_
    show Steps p.tables e below (T_11.setTop (mkF m 17 #[Rv a, Rv b_3, Us] [(.int (1 : Int32)), (.int (24 : Int32))])) tt_
    refine XS.isub X_11.here hEX rfl (hb hBY d_prog_27_method_2_code_17) rfl ?_
    show Steps p.tables e below (T_11.setTop (mkF m 18 #[Rv a, Rv b_3, Us] [(.int (23 : Int32))])) tt_
    refine XS.istoreN X_11.here hEX rfl (hb hBY d_prog_27_method_2_code_18) rfl (l' := #[Rv a, Rv b_3, Iv (23 : Int32)]) rfl ?_
    exact kt_
  refine Done.pre sg_14 ?_
  have jn_15 : ∀ (kk : Nat) (T_16 : State) (h_17 : Heap) (L_18 : List Loc) (X_19 : Stand p l e ({ frames := 1, cells := 1, slots := 24, locals := 14 } : Room) s m #[(.ref a)] below meth cO T_16 L_18 1 24) (e_20 : T_16.heap = h_17) (N_21 : Fr n0 L_18) (K__22 : Keep h0 h_17 [b]) (i : Int32) (A : List Int32) (B : List Int32) (f_23 : Fld Z h_17 a "com/example/tidelog/tidelog/net/Nonce" "value" "[B" (.ref b)) (f_24 : Exa Z h_17 b "[B") (f_25 : Arv Z h_17 b_3 k .byte (24 : Int32) (own_v L) (.int (0 : Int32))) (f_26 : Exa Z h_17 b_3 "[B") (f_27 : Arv Z h_17 b k .byte (24 : Int32) (own_v (A ++ B)) (.int (0 : Int32))) (hA : i.toInt + 1 = (A.length : Int)) (hB : A.length + B.length = 24) (hfin : (own_incR A.reverse).reverse ++ B = own_incL L) (hkk : A.length = kk), Done p e below s (Qrm_next Z a b k L h0 n0) ({ frames := 1, cells := 1, slots := 24, locals := 14 } : Room).cells ({ frames := 1, cells := 1, slots := 24, locals := 14 } : Room).slots (T_16.setTop (mkF m 19 #[Rv a, Rv b_3, Iv i] [])) := by
    intro kk
    induction kk using Nat.strongRecOn with
    | ind kk ih =>
      intro T_16 h_17 L_18 X_19 e_20 N_21 K__22 i A B f_23 f_24 f_25 f_26 f_27 hA hB hfin hkk
      show Done _ _ _ _ _ _ _ (T_16.setTop (mkF m 19 #[Rv a, Rv b_3, Iv i] []))
      have sg_28 : ∀ tt_, Steps p.tables e below (T_16.setTop (mkF m 20 #[Rv a, Rv b_3, Iv i] [(.int i)])) tt_ → Steps p.tables e below (T_16.setTop (mkF m 19 #[Rv a, Rv b_3, Iv i] [])) tt_ := by
        intro tt_ kt_
        refine XS.iloadN X_19.here hEX rfl (hb hBY d_prog_27_method_2_code_19) rfl ?_
        exact kt_
      refine Done.pre sg_28 ?_
      by_cases hc20 : i < (0 : Int32)
      · skip
        have sg_29 : ∀ tt_, Steps p.tables e below (T_16.setTop (mkF m 48 #[Rv a, Rv b_3, Iv i] [(.ref b_3)])) tt_ → Steps p.tables e below (T_16.setTop (mkF m 20 #[Rv a, Rv b_3, Iv i] [(.int i)])) tt_ := by
          intro tt_ kt_
          refine XS.ifYes X_19.here hEX rfl (pc0 := 20) (pc' := 47) rfl (hb hBY d_prog_27_method_2_code_20) rfl ((if0 _ _).trans (tlt hc20).1) (by decide) (by decide) ?_
          show Steps p.tables e below (T_16.setTop (mkF m 47 #[Rv a, Rv b_3, Iv i] [])) tt_
          refine XS.aloadN X_19.here hEX rfl (hb hBY d_prog_27_method_2_code_47) rfl rfl ?_
          exact kt_
        refine Done.pre sg_29 ?_
        exact Done.retA X_19 hEX hLK hRT rfl rfl (hb hBY d_prog_27_method_2_code_48) (by rw [e_20]; exact ⟨b_3, rfl, N_21, K__22, f_25, f_26, sz_b_3, (own_cast (by rw [← hfin, own_ilen i A B hA hc20]; rfl) f_27), f_24⟩) (by decide) (by decide)
      · skip
        have sg_30 : ∀ tt_, Steps p.tables e below (T_16.setTop (mkF m 23 #[Rv a, Rv b_3, Iv i] [])) tt_ → Steps p.tables e below (T_16.setTop (mkF m 20 #[Rv a, Rv b_3, Iv i] [(.int i)])) tt_ := by
          intro tt_ kt_
          refine XS.ifNo X_19.here hEX rfl (hb hBY d_prog_27_method_2_code_20) rfl ((if0 _ _).trans (flt hc20).1) ?_
          exact kt_
        refine Done.pre sg_30 ?_
        show Done _ _ _ _ _ _ _ (T_16.setTop (mkF m 23 #[Rv a, Rv b_3, Iv i] []))
        obtain ⟨A', x, rfl⟩ := own_snoc A (own_inz i A hA hc20)
        have sg_31 : ∀ tt_, Steps p.tables e below (T_16.setTop (mkF m 24 #[Rv a, Rv b_3, Iv i] [(.ref a)])) tt_ → Steps p.tables e below (T_16.setTop (mkF m 23 #[Rv a, Rv b_3, Iv i] [])) tt_ := by
          intro tt_ kt_
          refine XS.aloadN X_19.here hEX rfl (hb hBY d_prog_27_method_2_code_23) rfl rfl ?_
          exact kt_
        refine Done.pre sg_31 ?_
        obtain ⟨T_32, X_32, e_32, st_32⟩ := getF X_19 hEX hZW hOW (host := "") (Or.inl (hw _ (List.mem_of_getElem? (i := 24) rfl))) Via.refl e_20 f_23 (g := (mkF m 24 #[Rv a, Rv b_3, Iv i] [(.ref a)])) rfl rfl (hb hBY d_prog_27_method_2_code_24)
        refine Done.pre st_32 ?_
        show Done _ _ _ _ _ _ _ (T_32.setTop (mkF m 27 #[Rv a, Rv b_3, Iv i] [(.ref b)]))
        obtain ⟨cl_33, Ar_33, q_33, S_33, N__33, H_33, G_33⟩ := id f_27
        have hin_33 : ¬ (i < 0 ∨ cl_33.slots.size ≤ (i).toNatClampNeg) := inb_of S_33 (own_iix i A' B x hA hB).1
        have hat_33 : cl_33.slots[(i).toNatClampNeg]? = some (.int x) := H_33.at hin_33 (own_at A' B x i (own_iix i A' B x hA hB).2)
        have sg_35 : ∀ tt_, Steps p.tables e below (T_32.setTop (mkF m 34 #[Rv a, Rv b_3, Iv i] [(.int ((x + (1 : Int32)).toInt8.toInt32)), (.int i), (.ref b), (.int ((x + (1 : Int32)).toInt8.toInt32))])) tt_ → Steps p.tables e below (T_32.setTop (mkF m 27 #[Rv a, Rv b_3, Iv i] [(.ref b)])) tt_ := by
          intro tt_ kt_
          refine XS.iloadN X_32.here hEX rfl (hb hBY d_prog_27_method_2_code_27) rfl ?_
          show Steps p.tables e below (T_32.setTop (mkF m 28 #[Rv a, Rv b_3, Iv i] [(.int i), (.ref b)])) tt_
          refine XT.dup2 X_32.here hEX rfl (hb hBY d_prog_27_method_2_code_28) rfl rfl rfl ?_
          show Steps p.tables e below (T_32.setTop (mkF m 29 #[Rv a, Rv b_3, Iv i] [(.int i), (.ref b), (.int i), (.ref b)])) tt_
          refine X_32.baloadBytes hEX (j := i) (v := (.int x)) (by rw [e_32]; exact Ar_33.1) (State.isArrayOf_alike hZW.alike Ar_33.2.1) Ar_33.2.2 hin_33 hat_33 (g := (mkF m 29 #[Rv a, Rv b_3, Iv i] [(.int i), (.ref b), (.int i), (.ref b)])) rfl rfl (hb hBY d_prog_27_method_2_code_29) _ ?_
          show Steps p.tables e below (T_32.setTop (mkF m 30 #[Rv a, Rv b_3, Iv i] [(.int x), (.int i), (.ref b)])) tt_
          refine XS.iconst X_32.here hEX rfl (hb hBY d_prog_27_method_2_code_30) ?_
          show Steps p.tables e below (T_32.setTop (mkF m 31 #[Rv a, Rv b_3, Iv i] [(.int (1 : Int32)), (.int x), (.int i), (.ref b)])) tt_
          refine XS.iadd X_32.here hEX rfl (hb hBY d_prog_27_method_2_code_31) rfl ?_
          show Steps p.tables e below (T_32.setTop (mkF m 32 #[Rv a, Rv b_3, Iv i] [(.int (x + (1 : Int32))), (.int i), (.ref b)])) tt_
          refine XS.i2b X_32.here hEX rfl (hb hBY d_prog_27_method_2_code_32) rfl ?_
          show Steps p.tables e below (T_32.setTop (mkF m 33 #[Rv a, Rv b_3, Iv i] [(.int ((x + (1 : Int32)).toInt8.toInt32)), (.int i), (.ref b)])) tt_
          refine dupX2 X_32 hEX rfl (hb hBY d_prog_27_method_2_code_33) rfl rfl rfl rfl ?_
          exact kt_
        refine Done.pre sg_35 ?_
        obtain ⟨cl_34, Ar_34, q_34, S_34, N__34, H_34, G_34⟩ := id f_27
        have hin_34 : ¬ (i < 0 ∨ cl_34.slots.size ≤ (i).toNatClampNeg) := inb_of S_34 (own_iix i A' B x hA hB).1
        obtain ⟨T_36, h_36, X_36, e_36, W_36, st_36⟩ := stB X_32 hEX hZW e_32 Ar_34 (j := i) hin_34 (g := (mkF m 34 #[Rv a, Rv b_3, Iv i] [(.int ((x + (1 : Int32)).toInt8.toInt32)), (.int i), (.ref b), (.int ((x + (1 : Int32)).toInt8.toInt32))])) rfl rfl (hb hBY d_prog_27_method_2_code_34)
        have N_36 := Fr.snoc X_36 N_21 gb
        have K__37 : Keep h0 h_36 [b] := K__22.wr W_36 (Or.inl (List.mem_of_getElem? (i := 0) rfl))
        have f_38 : Fld Z h_36 a "com/example/tidelog/tidelog/net/Nonce" "value" "[B" (.ref b) := f_23.other W_36 (Or.inl nab)
        have f_39 : Exa Z h_36 b "[B" := f_24.wr W_36
        have f_40 : Arv Z h_36 b_3 k .byte (24 : Int32) (own_v L) (.int (0 : Int32)) := f_25.other W_36 (Ne.symm ne_b_b_3)
        have f_41 : Exa Z h_36 b_3 "[B" := f_26.wr W_36
        have f_42 : Arv Z h_36 b k .byte (24 : Int32) (own_v (A' ++ ((nar .byte ((x + (1 : Int32)).toInt8.toInt32)) :: B))) (.int (0 : Int32)) := own_cast (own_setat _ _ _ _) (Arv.set Ar_34 q_34 S_34 N__34 H_34 G_34 (fits_nar_byte _) W_36 (A'.length) (own_iix i A' B x hA hB).2 (own_alen A' B x))
        refine Done.pre st_36 ?_
        show Done _ _ _ _ _ _ _ (T_36.setTop (mkF m 35 #[Rv a, Rv b_3, Iv i] [(.int ((x + (1 : Int32)).toInt8.toInt32))]))
        by_cases hc35 : ((x + (1 : Int32)).toInt8.toInt32) = (0 : Int32)
        · skip
          have sg_43 : ∀ tt_, Steps p.tables e below (T_36.setTop (mkF m 19 #[Rv a, Rv b_3, Iv (i + (-1 : Int32))] [])) tt_ → Steps p.tables e below (T_36.setTop (mkF m 35 #[Rv a, Rv b_3, Iv i] [(.int ((x + (1 : Int32)).toInt8.toInt32))])) tt_ := by
            intro tt_ kt_
            refine XS.ifYes X_36.here hEX rfl (pc0 := 35) (pc' := 41) rfl (hb hBY d_prog_27_method_2_code_35) rfl ((if0 _ _).trans (teq hc35).1) (by decide) (by decide) ?_
            show Steps p.tables e below (T_36.setTop (mkF m 41 #[Rv a, Rv b_3, Iv i] [])) tt_
            refine XS.iinc X_36.here hEX rfl (hb hBY d_prog_27_method_2_code_41) rfl (l' := #[Rv a, Rv b_3, Iv (i + (-1 : Int32))]) rfl ?_
            show Steps p.tables e below (T_36.setTop (mkF m 44 #[Rv a, Rv b_3, Iv (i + (-1 : Int32))] [])) tt_
            refine XS.goto X_36.here hEX rfl (pc0 := 44) (pc' := 19) rfl (hb hBY d_prog_27_method_2_code_44) (by decide) (by decide) ?_
            exact kt_
          refine Done.pre sg_43 ?_
          exact ih _ (by simp at hkk; omega) T_36 h_36 _ X_36 e_36 N_36 K__37 ((i + (-1 : Int32))) (A') (((nar .byte ((x + (1 : Int32)).toInt8.toInt32)) :: B)) f_38 f_39 f_40 f_41 f_42 (own_idec i A' x hA hc20) (by simp at hB ⊢; omega) (own_more L A' B x hfin hc35) rfl
        · skip
          have sg_44 : ∀ tt_, Steps p.tables e below (T_36.setTop (mkF m 48 #[Rv a, Rv b_3, Iv i] [(.ref b_3)])) tt_ → Steps p.tables e below (T_36.setTop (mkF m 35 #[Rv a, Rv b_3, Iv i] [(.int ((x + (1 : Int32)).toInt8.toInt32))])) tt_ := by
            intro tt_ kt_
            refine XS.ifNo X_36.here hEX rfl (hb hBY d_prog_27_method_2_code_35) rfl ((if0 _ _).trans (feq hc35).1) ?_
            show Steps p.tables e below (T_36.setTop (mkF m 38 #[Rv a, Rv b_3, Iv i] [])) tt_
            refine XS.goto X_36.here hEX rfl (pc0 := 38) (pc' := 47) rfl (hb hBY d_prog_27_method_2_code_38) (by decide) (by decide) ?_
            show Steps p.tables e below (T_36.setTop (mkF m 47 #[Rv a, Rv b_3, Iv i] [])) tt_
            refine XS.aloadN X_36.here hEX rfl (hb hBY d_prog_27_method_2_code_47) rfl rfl ?_
            exact kt_
          refine Done.pre sg_44 ?_
          exact Done.retA X_36 hEX hLK hRT rfl rfl (hb hBY d_prog_27_method_2_code_48) (by rw [e_36]; exact ⟨b_3, rfl, N_36, K__37, f_40, f_41, sz_b_3, (own_cast (by rw [own_stop L A' B x hfin hc35]) f_42), f_39⟩) (by decide) (by decide)
  show Done _ _ _ _ _ _ _ (T_11.setTop (mkF m 19 #[Rv a, Rv b_3, Iv (23 : Int32)] []))
  exact jn_15 _ T_11 h_3 _ X_11 e_11 N0 K__4 ((23 : Int32)) (L) ([]) f_5 f_7 f_8 B_3 f_13 (by rw [hL]; rfl) (by simp [hL]) (by rw [List.append_nil]; rfl) rfl
theorem pd___BIJ_V_5 : parseMethodDescriptor "([BIJ)V" = some ⟨[(.array .byte), .int, .long], none⟩ := by decide +kernel
theorem pd___B_V_3 : parseMethodDescriptor "([B)V" = some ⟨[(.array .byte)], none⟩ := by decide +kernel
theorem pd____B_2 : parseMethodDescriptor "()[B" = some ⟨[], some (.array .byte)⟩ := by decide +kernel
theorem pd___B_J_Z_6 : parseMethodDescriptor "([B[J)Z" = some ⟨[(.array .byte), (.array .long)], some .boolean⟩ := by decide +kernel
theorem pd___J_V_7 : parseMethodDescriptor "([J)V" = some ⟨[(.array .long)], none⟩ := by decide +kernel
def Qrm0 (Z : State) (q1 : Int64) (q2 : Int64) (q3 : Int64) (p4 : Int32) (h0 : Heap) (n0 : Nat) (v_ : Option Value) (h_ : Heap) (L_ : List Loc) : Prop := v_ = some (.int (1 : Int32)) ∧ Fr n0 L_ ∧ Keep h0 h_ []
theorem ef_rm0 (m : MethodId) (x0 : Int64) (x1 : Int64) (x2 : Int64) (x3 : Int32) : entryFrame m #[(.long x0), (.long x1), (.long x2), (.int x3)] maxLocals = mkF m 0 #[.val (.long x0), .second, .val (.long x1), .second, .val (.long x2), .second, .val (.int x3), .unset, .unset, .unset, .unset, .unset, .unset, .unset, .unset, .unset] [] := by first | (simp [entryFrame, mkF, argsToLocals, Value.category, maxLocals]; done) | rfl
set_option maxRecDepth 65536 in
set_option maxHeartbeats 40000000 in
theorem rm0 (l : Launch) (Z : State) (aZ : Array Value) (hw : ∀ d ∈ tables_1, d.before aZ Z = true) (ws : List Jvm.Cond) (q1 : Int64) (q2 : Int64) (q3 : Int64) (p4 : Int32) (h0 : Heap) (n0 : Nat) (Z0 : n0 ≤ h0.size) :
    MetFree l x (head1 (Jvm.Cond.code x code maxLocals ret :: ws) room_1) (fun a_ U_ => a_ = #[(.long q1), (.long q2), (.long q3), (.int p4)] ∧ Z.Warmed39 U_.vm ∧ U_.heap = h0) (fun _ _ _ _ _ => True) (fun _ U_ o_ U2_ => ∃ v_ L_, o_ = .returned v_ ∧ Qrm0 Z q1 q2 q3 p4 h0 n0 v_ U2_.heap L_ ∧ FrameEnd U_ o_ U2_ L_ room_1.cells room_1.slots) := by
  refine MetFree.of_bodySF (plainFor_of_name pn_com_example_tidelog_tidelog_net_NonceNextPinLaw) hisR ?_
  intro p e s m args below meth cO s₁ Bd hml0 hP hK
  obtain ⟨rfl, hZW, hh⟩ := hP
  have hEX := Bd.exec
  have hBY := Bd.bytes
  have hMX : cO.maxLocals = 16 := hml0
  have hOW : s.vm.findClass "com/example/tidelog/tidelog/net/NonceNextPinLaw" = some m.cls := findClass_of_methodNamed Bd.named
  have hNM := (name_of_methodNamed Bd.named Bd.method).1
  have hLK := Bd.notSynchronized
  have hRT := Bd.returns
  have X0 : Stand p l e room_1 s m #[(.long q1), (.long q2), (.long q3), (.int p4)] below meth cO s₁ [] 0 0 := Stand.of_body Bd
  have e0 : s₁.heap = h0 := by rw [← hh, Bd.state]; rfl
  have N0 := Fr.nil n0
  have K0 : Keep h0 h0 [] := Keep.refl _ _
  show Done p e below s (Qrm0 Z q1 q2 q3 p4 h0 n0) room_1.cells room_1.slots (s₁.setTop (entryFrame m #[(.long q1), (.long q2), (.long q3), (.int p4)] maxLocals))
  refine Done.pre (fun t_ k_ => castTop (ef_rm0 m q1 q2 q3 p4) k_) ?_
  show Done _ _ _ _ _ _ _ (s₁.setTop (mkF m 0 #[Lv q1, Zs, Lv q2, Zs, Lv q3, Zs, Iv p4, Us, Us, Us, Us, Us, Us, Us, Us, Us] []))
  have sg_1 : ∀ tt_, Steps p.tables e below (s₁.setTop (mkF m 43 #[Lv (q1 ||| (((1 : Int64) <<< (((8 : Int32) * (((p4.toUInt32 >>> ((3 : Int32) &&& 31).toUInt32).toInt32) &&& (7 : Int32))) &&& 0x3f).toInt64) - (1 : Int64))), Zs, Lv (q2 ||| (((1 : Int64) <<< (((8 : Int32) * (((p4.toUInt32 >>> ((6 : Int32) &&& 31).toUInt32).toInt32) &&& (7 : Int32))) &&& 0x3f).toInt64) - (1 : Int64))), Zs, Lv q3, Zs, Iv p4, Iv (((p4.toUInt32 >>> ((3 : Int32) &&& 31).toUInt32).toInt32) &&& (7 : Int32)), Iv (((p4.toUInt32 >>> ((6 : Int32) &&& 31).toUInt32).toInt32) &&& (7 : Int32)), Us, Us, Us, Us, Us, Us, Us] [])) tt_ → Steps p.tables e below (s₁.setTop (mkF m 0 #[Lv q1, Zs, Lv q2, Zs, Lv q3, Zs, Iv p4, Us, Us, Us, Us, Us, Us, Us, Us, Us] [])) tt_ := by
    intro tt_ kt_
    refine XS.iload X0.here hEX rfl (hb hBY at_0) rfl ?_
    show Steps p.tables e below (s₁.setTop (mkF m 2 #[Lv q1, Zs, Lv q2, Zs, Lv q3, Zs, Iv p4, Us, Us, Us, Us, Us, Us, Us, Us, Us] [(.int p4)])) tt_
    refine XS.iconst X0.here hEX rfl (hb hBY at_2) ?_
    show Steps p.tables e below (s₁.setTop (mkF m 3 #[Lv q1, Zs, Lv q2, Zs, Lv q3, Zs, Iv p4, Us, Us, Us, Us, Us, Us, Us, Us, Us] [(.int (3 : Int32)), (.int p4)])) tt_
    refine XS.iushr X0.here hEX rfl (hb hBY at_3) rfl ?_
    show Steps p.tables e below (s₁.setTop (mkF m 4 #[Lv q1, Zs, Lv q2, Zs, Lv q3, Zs, Iv p4, Us, Us, Us, Us, Us, Us, Us, Us, Us] [(.int ((p4.toUInt32 >>> ((3 : Int32) &&& 31).toUInt32).toInt32))])) tt_
    refine XS.bipush X0.here hEX rfl (hb hBY at_4) ?_
    show Steps p.tables e below (s₁.setTop (mkF m 6 #[Lv q1, Zs, Lv q2, Zs, Lv q3, Zs, Iv p4, Us, Us, Us, Us, Us, Us, Us, Us, Us] [(.int (7 : Int32)), (.int ((p4.toUInt32 >>> ((3 : Int32) &&& 31).toUInt32).toInt32))])) tt_
    refine XS.iand X0.here hEX rfl (hb hBY at_6) rfl ?_
    show Steps p.tables e below (s₁.setTop (mkF m 7 #[Lv q1, Zs, Lv q2, Zs, Lv q3, Zs, Iv p4, Us, Us, Us, Us, Us, Us, Us, Us, Us] [(.int (((p4.toUInt32 >>> ((3 : Int32) &&& 31).toUInt32).toInt32) &&& (7 : Int32)))])) tt_
    refine XS.istore X0.here hEX rfl (hb hBY at_7) rfl (l' := #[Lv q1, Zs, Lv q2, Zs, Lv q3, Zs, Iv p4, Iv (((p4.toUInt32 >>> ((3 : Int32) &&& 31).toUInt32).toInt32) &&& (7 : Int32)), Us, Us, Us, Us, Us, Us, Us, Us]) rfl ?_
    show Steps p.tables e below (s₁.setTop (mkF m 9 #[Lv q1, Zs, Lv q2, Zs, Lv q3, Zs, Iv p4, Iv (((p4.toUInt32 >>> ((3 : Int32) &&& 31).toUInt32).toInt32) &&& (7 : Int32)), Us, Us, Us, Us, Us, Us, Us, Us] [])) tt_
    refine XS.iload X0.here hEX rfl (hb hBY at_9) rfl ?_
    show Steps p.tables e below (s₁.setTop (mkF m 11 #[Lv q1, Zs, Lv q2, Zs, Lv q3, Zs, Iv p4, Iv (((p4.toUInt32 >>> ((3 : Int32) &&& 31).toUInt32).toInt32) &&& (7 : Int32)), Us, Us, Us, Us, Us, Us, Us, Us] [(.int p4)])) tt_
    refine XS.bipush X0.here hEX rfl (hb hBY at_11) ?_
    show Steps p.tables e below (s₁.setTop (mkF m 13 #[Lv q1, Zs, Lv q2, Zs, Lv q3, Zs, Iv p4, Iv (((p4.toUInt32 >>> ((3 : Int32) &&& 31).toUInt32).toInt32) &&& (7 : Int32)), Us, Us, Us, Us, Us, Us, Us, Us] [(.int (6 : Int32)), (.int p4)])) tt_
    refine XS.iushr X0.here hEX rfl (hb hBY at_13) rfl ?_
    show Steps p.tables e below (s₁.setTop (mkF m 14 #[Lv q1, Zs, Lv q2, Zs, Lv q3, Zs, Iv p4, Iv (((p4.toUInt32 >>> ((3 : Int32) &&& 31).toUInt32).toInt32) &&& (7 : Int32)), Us, Us, Us, Us, Us, Us, Us, Us] [(.int ((p4.toUInt32 >>> ((6 : Int32) &&& 31).toUInt32).toInt32))])) tt_
    refine XS.bipush X0.here hEX rfl (hb hBY at_14) ?_
    show Steps p.tables e below (s₁.setTop (mkF m 16 #[Lv q1, Zs, Lv q2, Zs, Lv q3, Zs, Iv p4, Iv (((p4.toUInt32 >>> ((3 : Int32) &&& 31).toUInt32).toInt32) &&& (7 : Int32)), Us, Us, Us, Us, Us, Us, Us, Us] [(.int (7 : Int32)), (.int ((p4.toUInt32 >>> ((6 : Int32) &&& 31).toUInt32).toInt32))])) tt_
    refine XS.iand X0.here hEX rfl (hb hBY at_16) rfl ?_
    show Steps p.tables e below (s₁.setTop (mkF m 17 #[Lv q1, Zs, Lv q2, Zs, Lv q3, Zs, Iv p4, Iv (((p4.toUInt32 >>> ((3 : Int32) &&& 31).toUInt32).toInt32) &&& (7 : Int32)), Us, Us, Us, Us, Us, Us, Us, Us] [(.int (((p4.toUInt32 >>> ((6 : Int32) &&& 31).toUInt32).toInt32) &&& (7 : Int32)))])) tt_
    refine XS.istore X0.here hEX rfl (hb hBY at_17) rfl (l' := #[Lv q1, Zs, Lv q2, Zs, Lv q3, Zs, Iv p4, Iv (((p4.toUInt32 >>> ((3 : Int32) &&& 31).toUInt32).toInt32) &&& (7 : Int32)), Iv (((p4.toUInt32 >>> ((6 : Int32) &&& 31).toUInt32).toInt32) &&& (7 : Int32)), Us, Us, Us, Us, Us, Us, Us]) rfl ?_
    show Steps p.tables e below (s₁.setTop (mkF m 19 #[Lv q1, Zs, Lv q2, Zs, Lv q3, Zs, Iv p4, Iv (((p4.toUInt32 >>> ((3 : Int32) &&& 31).toUInt32).toInt32) &&& (7 : Int32)), Iv (((p4.toUInt32 >>> ((6 : Int32) &&& 31).toUInt32).toInt32) &&& (7 : Int32)), Us, Us, Us, Us, Us, Us, Us] [])) tt_
    refine XS.lloadN X0.here hEX rfl (hb hBY at_19) rfl ?_
    show Steps p.tables e below (s₁.setTop (mkF m 20 #[Lv q1, Zs, Lv q2, Zs, Lv q3, Zs, Iv p4, Iv (((p4.toUInt32 >>> ((3 : Int32) &&& 31).toUInt32).toInt32) &&& (7 : Int32)), Iv (((p4.toUInt32 >>> ((6 : Int32) &&& 31).toUInt32).toInt32) &&& (7 : Int32)), Us, Us, Us, Us, Us, Us, Us] [(.long q1)])) tt_
    refine XS.lconst X0.here hEX rfl (hb hBY at_20) ?_
    show Steps p.tables e below (s₁.setTop (mkF m 21 #[Lv q1, Zs, Lv q2, Zs, Lv q3, Zs, Iv p4, Iv (((p4.toUInt32 >>> ((3 : Int32) &&& 31).toUInt32).toInt32) &&& (7 : Int32)), Iv (((p4.toUInt32 >>> ((6 : Int32) &&& 31).toUInt32).toInt32) &&& (7 : Int32)), Us, Us, Us, Us, Us, Us, Us] [(.long (1 : Int64)), (.long q1)])) tt_
    refine XS.bipush X0.here hEX rfl (hb hBY at_21) ?_
    show Steps p.tables e below (s₁.setTop (mkF m 23 #[Lv q1, Zs, Lv q2, Zs, Lv q3, Zs, Iv p4, Iv (((p4.toUInt32 >>> ((3 : Int32) &&& 31).toUInt32).toInt32) &&& (7 : Int32)), Iv (((p4.toUInt32 >>> ((6 : Int32) &&& 31).toUInt32).toInt32) &&& (7 : Int32)), Us, Us, Us, Us, Us, Us, Us] [(.int (8 : Int32)), (.long (1 : Int64)), (.long q1)])) tt_
    refine XS.iload X0.here hEX rfl (hb hBY at_23) rfl ?_
    show Steps p.tables e below (s₁.setTop (mkF m 25 #[Lv q1, Zs, Lv q2, Zs, Lv q3, Zs, Iv p4, Iv (((p4.toUInt32 >>> ((3 : Int32) &&& 31).toUInt32).toInt32) &&& (7 : Int32)), Iv (((p4.toUInt32 >>> ((6 : Int32) &&& 31).toUInt32).toInt32) &&& (7 : Int32)), Us, Us, Us, Us, Us, Us, Us] [(.int (((p4.toUInt32 >>> ((3 : Int32) &&& 31).toUInt32).toInt32) &&& (7 : Int32))), (.int (8 : Int32)), (.long (1 : Int64)), (.long q1)])) tt_
    refine XS.imul X0.here hEX rfl (hb hBY at_25) rfl ?_
    show Steps p.tables e below (s₁.setTop (mkF m 26 #[Lv q1, Zs, Lv q2, Zs, Lv q3, Zs, Iv p4, Iv (((p4.toUInt32 >>> ((3 : Int32) &&& 31).toUInt32).toInt32) &&& (7 : Int32)), Iv (((p4.toUInt32 >>> ((6 : Int32) &&& 31).toUInt32).toInt32) &&& (7 : Int32)), Us, Us, Us, Us, Us, Us, Us] [(.int ((8 : Int32) * (((p4.toUInt32 >>> ((3 : Int32) &&& 31).toUInt32).toInt32) &&& (7 : Int32)))), (.long (1 : Int64)), (.long q1)])) tt_
    refine XS.lshl X0.here hEX rfl (hb hBY at_26) rfl ?_
    show Steps p.tables e below (s₁.setTop (mkF m 27 #[Lv q1, Zs, Lv q2, Zs, Lv q3, Zs, Iv p4, Iv (((p4.toUInt32 >>> ((3 : Int32) &&& 31).toUInt32).toInt32) &&& (7 : Int32)), Iv (((p4.toUInt32 >>> ((6 : Int32) &&& 31).toUInt32).toInt32) &&& (7 : Int32)), Us, Us, Us, Us, Us, Us, Us] [(.long ((1 : Int64) <<< (((8 : Int32) * (((p4.toUInt32 >>> ((3 : Int32) &&& 31).toUInt32).toInt32) &&& (7 : Int32))) &&& 0x3f).toInt64)), (.long q1)])) tt_
    refine XS.lconst X0.here hEX rfl (hb hBY at_27) ?_
    show Steps p.tables e below (s₁.setTop (mkF m 28 #[Lv q1, Zs, Lv q2, Zs, Lv q3, Zs, Iv p4, Iv (((p4.toUInt32 >>> ((3 : Int32) &&& 31).toUInt32).toInt32) &&& (7 : Int32)), Iv (((p4.toUInt32 >>> ((6 : Int32) &&& 31).toUInt32).toInt32) &&& (7 : Int32)), Us, Us, Us, Us, Us, Us, Us] [(.long (1 : Int64)), (.long ((1 : Int64) <<< (((8 : Int32) * (((p4.toUInt32 >>> ((3 : Int32) &&& 31).toUInt32).toInt32) &&& (7 : Int32))) &&& 0x3f).toInt64)), (.long q1)])) tt_
    refine XS.lsub X0.here hEX rfl (hb hBY at_28) rfl ?_
    show Steps p.tables e below (s₁.setTop (mkF m 29 #[Lv q1, Zs, Lv q2, Zs, Lv q3, Zs, Iv p4, Iv (((p4.toUInt32 >>> ((3 : Int32) &&& 31).toUInt32).toInt32) &&& (7 : Int32)), Iv (((p4.toUInt32 >>> ((6 : Int32) &&& 31).toUInt32).toInt32) &&& (7 : Int32)), Us, Us, Us, Us, Us, Us, Us] [(.long (((1 : Int64) <<< (((8 : Int32) * (((p4.toUInt32 >>> ((3 : Int32) &&& 31).toUInt32).toInt32) &&& (7 : Int32))) &&& 0x3f).toInt64) - (1 : Int64))), (.long q1)])) tt_
    refine XS.lor X0.here hEX rfl (hb hBY at_29) rfl ?_
    show Steps p.tables e below (s₁.setTop (mkF m 30 #[Lv q1, Zs, Lv q2, Zs, Lv q3, Zs, Iv p4, Iv (((p4.toUInt32 >>> ((3 : Int32) &&& 31).toUInt32).toInt32) &&& (7 : Int32)), Iv (((p4.toUInt32 >>> ((6 : Int32) &&& 31).toUInt32).toInt32) &&& (7 : Int32)), Us, Us, Us, Us, Us, Us, Us] [(.long (q1 ||| (((1 : Int64) <<< (((8 : Int32) * (((p4.toUInt32 >>> ((3 : Int32) &&& 31).toUInt32).toInt32) &&& (7 : Int32))) &&& 0x3f).toInt64) - (1 : Int64))))])) tt_
    refine XS.lstoreN X0.here hEX rfl (hb hBY at_30) rfl (l' := #[Lv (q1 ||| (((1 : Int64) <<< (((8 : Int32) * (((p4.toUInt32 >>> ((3 : Int32) &&& 31).toUInt32).toInt32) &&& (7 : Int32))) &&& 0x3f).toInt64) - (1 : Int64))), Zs, Lv q2, Zs, Lv q3, Zs, Iv p4, Iv (((p4.toUInt32 >>> ((3 : Int32) &&& 31).toUInt32).toInt32) &&& (7 : Int32)), Iv (((p4.toUInt32 >>> ((6 : Int32) &&& 31).toUInt32).toInt32) &&& (7 : Int32)), Us, Us, Us, Us, Us, Us, Us]) rfl ?_
    show Steps p.tables e below (s₁.setTop (mkF m 31 #[Lv (q1 ||| (((1 : Int64) <<< (((8 : Int32) * (((p4.toUInt32 >>> ((3 : Int32) &&& 31).toUInt32).toInt32) &&& (7 : Int32))) &&& 0x3f).toInt64) - (1 : Int64))), Zs, Lv q2, Zs, Lv q3, Zs, Iv p4, Iv (((p4.toUInt32 >>> ((3 : Int32) &&& 31).toUInt32).toInt32) &&& (7 : Int32)), Iv (((p4.toUInt32 >>> ((6 : Int32) &&& 31).toUInt32).toInt32) &&& (7 : Int32)), Us, Us, Us, Us, Us, Us, Us] [])) tt_
    refine XS.lloadN X0.here hEX rfl (hb hBY at_31) rfl ?_
    show Steps p.tables e below (s₁.setTop (mkF m 32 #[Lv (q1 ||| (((1 : Int64) <<< (((8 : Int32) * (((p4.toUInt32 >>> ((3 : Int32) &&& 31).toUInt32).toInt32) &&& (7 : Int32))) &&& 0x3f).toInt64) - (1 : Int64))), Zs, Lv q2, Zs, Lv q3, Zs, Iv p4, Iv (((p4.toUInt32 >>> ((3 : Int32) &&& 31).toUInt32).toInt32) &&& (7 : Int32)), Iv (((p4.toUInt32 >>> ((6 : Int32) &&& 31).toUInt32).toInt32) &&& (7 : Int32)), Us, Us, Us, Us, Us, Us, Us] [(.long q2)])) tt_
    refine XS.lconst X0.here hEX rfl (hb hBY at_32) ?_
    show Steps p.tables e below (s₁.setTop (mkF m 33 #[Lv (q1 ||| (((1 : Int64) <<< (((8 : Int32) * (((p4.toUInt32 >>> ((3 : Int32) &&& 31).toUInt32).toInt32) &&& (7 : Int32))) &&& 0x3f).toInt64) - (1 : Int64))), Zs, Lv q2, Zs, Lv q3, Zs, Iv p4, Iv (((p4.toUInt32 >>> ((3 : Int32) &&& 31).toUInt32).toInt32) &&& (7 : Int32)), Iv (((p4.toUInt32 >>> ((6 : Int32) &&& 31).toUInt32).toInt32) &&& (7 : Int32)), Us, Us, Us, Us, Us, Us, Us] [(.long (1 : Int64)), (.long q2)])) tt_
    refine XS.bipush X0.here hEX rfl (hb hBY at_33) ?_
    show Steps p.tables e below (s₁.setTop (mkF m 35 #[Lv (q1 ||| (((1 : Int64) <<< (((8 : Int32) * (((p4.toUInt32 >>> ((3 : Int32) &&& 31).toUInt32).toInt32) &&& (7 : Int32))) &&& 0x3f).toInt64) - (1 : Int64))), Zs, Lv q2, Zs, Lv q3, Zs, Iv p4, Iv (((p4.toUInt32 >>> ((3 : Int32) &&& 31).toUInt32).toInt32) &&& (7 : Int32)), Iv (((p4.toUInt32 >>> ((6 : Int32) &&& 31).toUInt32).toInt32) &&& (7 : Int32)), Us, Us, Us, Us, Us, Us, Us] [(.int (8 : Int32)), (.long (1 : Int64)), (.long q2)])) tt_
    refine XS.iload X0.here hEX rfl (hb hBY at_35) rfl ?_
    show Steps p.tables e below (s₁.setTop (mkF m 37 #[Lv (q1 ||| (((1 : Int64) <<< (((8 : Int32) * (((p4.toUInt32 >>> ((3 : Int32) &&& 31).toUInt32).toInt32) &&& (7 : Int32))) &&& 0x3f).toInt64) - (1 : Int64))), Zs, Lv q2, Zs, Lv q3, Zs, Iv p4, Iv (((p4.toUInt32 >>> ((3 : Int32) &&& 31).toUInt32).toInt32) &&& (7 : Int32)), Iv (((p4.toUInt32 >>> ((6 : Int32) &&& 31).toUInt32).toInt32) &&& (7 : Int32)), Us, Us, Us, Us, Us, Us, Us] [(.int (((p4.toUInt32 >>> ((6 : Int32) &&& 31).toUInt32).toInt32) &&& (7 : Int32))), (.int (8 : Int32)), (.long (1 : Int64)), (.long q2)])) tt_
    refine XS.imul X0.here hEX rfl (hb hBY at_37) rfl ?_
    show Steps p.tables e below (s₁.setTop (mkF m 38 #[Lv (q1 ||| (((1 : Int64) <<< (((8 : Int32) * (((p4.toUInt32 >>> ((3 : Int32) &&& 31).toUInt32).toInt32) &&& (7 : Int32))) &&& 0x3f).toInt64) - (1 : Int64))), Zs, Lv q2, Zs, Lv q3, Zs, Iv p4, Iv (((p4.toUInt32 >>> ((3 : Int32) &&& 31).toUInt32).toInt32) &&& (7 : Int32)), Iv (((p4.toUInt32 >>> ((6 : Int32) &&& 31).toUInt32).toInt32) &&& (7 : Int32)), Us, Us, Us, Us, Us, Us, Us] [(.int ((8 : Int32) * (((p4.toUInt32 >>> ((6 : Int32) &&& 31).toUInt32).toInt32) &&& (7 : Int32)))), (.long (1 : Int64)), (.long q2)])) tt_
    refine XS.lshl X0.here hEX rfl (hb hBY at_38) rfl ?_
    show Steps p.tables e below (s₁.setTop (mkF m 39 #[Lv (q1 ||| (((1 : Int64) <<< (((8 : Int32) * (((p4.toUInt32 >>> ((3 : Int32) &&& 31).toUInt32).toInt32) &&& (7 : Int32))) &&& 0x3f).toInt64) - (1 : Int64))), Zs, Lv q2, Zs, Lv q3, Zs, Iv p4, Iv (((p4.toUInt32 >>> ((3 : Int32) &&& 31).toUInt32).toInt32) &&& (7 : Int32)), Iv (((p4.toUInt32 >>> ((6 : Int32) &&& 31).toUInt32).toInt32) &&& (7 : Int32)), Us, Us, Us, Us, Us, Us, Us] [(.long ((1 : Int64) <<< (((8 : Int32) * (((p4.toUInt32 >>> ((6 : Int32) &&& 31).toUInt32).toInt32) &&& (7 : Int32))) &&& 0x3f).toInt64)), (.long q2)])) tt_
    refine XS.lconst X0.here hEX rfl (hb hBY at_39) ?_
    show Steps p.tables e below (s₁.setTop (mkF m 40 #[Lv (q1 ||| (((1 : Int64) <<< (((8 : Int32) * (((p4.toUInt32 >>> ((3 : Int32) &&& 31).toUInt32).toInt32) &&& (7 : Int32))) &&& 0x3f).toInt64) - (1 : Int64))), Zs, Lv q2, Zs, Lv q3, Zs, Iv p4, Iv (((p4.toUInt32 >>> ((3 : Int32) &&& 31).toUInt32).toInt32) &&& (7 : Int32)), Iv (((p4.toUInt32 >>> ((6 : Int32) &&& 31).toUInt32).toInt32) &&& (7 : Int32)), Us, Us, Us, Us, Us, Us, Us] [(.long (1 : Int64)), (.long ((1 : Int64) <<< (((8 : Int32) * (((p4.toUInt32 >>> ((6 : Int32) &&& 31).toUInt32).toInt32) &&& (7 : Int32))) &&& 0x3f).toInt64)), (.long q2)])) tt_
    refine XS.lsub X0.here hEX rfl (hb hBY at_40) rfl ?_
    show Steps p.tables e below (s₁.setTop (mkF m 41 #[Lv (q1 ||| (((1 : Int64) <<< (((8 : Int32) * (((p4.toUInt32 >>> ((3 : Int32) &&& 31).toUInt32).toInt32) &&& (7 : Int32))) &&& 0x3f).toInt64) - (1 : Int64))), Zs, Lv q2, Zs, Lv q3, Zs, Iv p4, Iv (((p4.toUInt32 >>> ((3 : Int32) &&& 31).toUInt32).toInt32) &&& (7 : Int32)), Iv (((p4.toUInt32 >>> ((6 : Int32) &&& 31).toUInt32).toInt32) &&& (7 : Int32)), Us, Us, Us, Us, Us, Us, Us] [(.long (((1 : Int64) <<< (((8 : Int32) * (((p4.toUInt32 >>> ((6 : Int32) &&& 31).toUInt32).toInt32) &&& (7 : Int32))) &&& 0x3f).toInt64) - (1 : Int64))), (.long q2)])) tt_
    refine XS.lor X0.here hEX rfl (hb hBY at_41) rfl ?_
    show Steps p.tables e below (s₁.setTop (mkF m 42 #[Lv (q1 ||| (((1 : Int64) <<< (((8 : Int32) * (((p4.toUInt32 >>> ((3 : Int32) &&& 31).toUInt32).toInt32) &&& (7 : Int32))) &&& 0x3f).toInt64) - (1 : Int64))), Zs, Lv q2, Zs, Lv q3, Zs, Iv p4, Iv (((p4.toUInt32 >>> ((3 : Int32) &&& 31).toUInt32).toInt32) &&& (7 : Int32)), Iv (((p4.toUInt32 >>> ((6 : Int32) &&& 31).toUInt32).toInt32) &&& (7 : Int32)), Us, Us, Us, Us, Us, Us, Us] [(.long (q2 ||| (((1 : Int64) <<< (((8 : Int32) * (((p4.toUInt32 >>> ((6 : Int32) &&& 31).toUInt32).toInt32) &&& (7 : Int32))) &&& 0x3f).toInt64) - (1 : Int64))))])) tt_
    refine XS.lstoreN X0.here hEX rfl (hb hBY at_42) rfl (l' := #[Lv (q1 ||| (((1 : Int64) <<< (((8 : Int32) * (((p4.toUInt32 >>> ((3 : Int32) &&& 31).toUInt32).toInt32) &&& (7 : Int32))) &&& 0x3f).toInt64) - (1 : Int64))), Zs, Lv (q2 ||| (((1 : Int64) <<< (((8 : Int32) * (((p4.toUInt32 >>> ((6 : Int32) &&& 31).toUInt32).toInt32) &&& (7 : Int32))) &&& 0x3f).toInt64) - (1 : Int64))), Zs, Lv q3, Zs, Iv p4, Iv (((p4.toUInt32 >>> ((3 : Int32) &&& 31).toUInt32).toInt32) &&& (7 : Int32)), Iv (((p4.toUInt32 >>> ((6 : Int32) &&& 31).toUInt32).toInt32) &&& (7 : Int32)), Us, Us, Us, Us, Us, Us, Us]) rfl ?_
    exact kt_
  refine Done.pre sg_1 ?_
  have jn_2 : ∀ (av : Int64) (bv : Int64) (cv : Int64), Done p e below s (Qrm0 Z q1 q2 q3 p4 h0 n0) room_1.cells room_1.slots (s₁.setTop (mkF m 77 #[Lv av, Zs, Lv bv, Zs, Lv cv, Zs, Iv p4, Iv (((p4.toUInt32 >>> ((3 : Int32) &&& 31).toUInt32).toInt32) &&& (7 : Int32)), Iv (((p4.toUInt32 >>> ((6 : Int32) &&& 31).toUInt32).toInt32) &&& (7 : Int32)), Us, Us, Us, Us, Us, Us, Us] [])) := by
    intro av bv cv
    show Done _ _ _ _ _ _ _ (s₁.setTop (mkF m 77 #[Lv av, Zs, Lv bv, Zs, Lv cv, Zs, Iv p4, Iv (((p4.toUInt32 >>> ((3 : Int32) &&& 31).toUInt32).toInt32) &&& (7 : Int32)), Iv (((p4.toUInt32 >>> ((6 : Int32) &&& 31).toUInt32).toInt32) &&& (7 : Int32)), Us, Us, Us, Us, Us, Us, Us] []))
    have sg_3 : ∀ tt_, Steps p.tables e below (s₁.setTop (mkF m 79 #[Lv av, Zs, Lv bv, Zs, Lv cv, Zs, Iv p4, Iv (((p4.toUInt32 >>> ((3 : Int32) &&& 31).toUInt32).toInt32) &&& (7 : Int32)), Iv (((p4.toUInt32 >>> ((6 : Int32) &&& 31).toUInt32).toInt32) &&& (7 : Int32)), Us, Us, Us, Us, Us, Us, Us] [(.int (24 : Int32))])) tt_ → Steps p.tables e below (s₁.setTop (mkF m 77 #[Lv av, Zs, Lv bv, Zs, Lv cv, Zs, Iv p4, Iv (((p4.toUInt32 >>> ((3 : Int32) &&& 31).toUInt32).toInt32) &&& (7 : Int32)), Iv (((p4.toUInt32 >>> ((6 : Int32) &&& 31).toUInt32).toInt32) &&& (7 : Int32)), Us, Us, Us, Us, Us, Us, Us] [])) tt_ := by
      intro tt_ kt_
      refine XS.bipush X0.here hEX rfl (hb hBY at_77) ?_
      exact kt_
    refine Done.pre sg_3 ?_
    obtain ⟨T_4, h_4, k_4, X_4, e_4, E_4, A_4, B_4, st_4⟩ := newPE X0 hEX hZW (hw _ (List.mem_of_getElem? (i := 1) rfl)) e0 (g := (mkF m 79 #[Lv av, Zs, Lv bv, Zs, Lv cv, Zs, Iv p4, Iv (((p4.toUInt32 >>> ((3 : Int32) &&& 31).toUInt32).toInt32) &&& (7 : Int32)), Iv (((p4.toUInt32 >>> ((6 : Int32) &&& 31).toUInt32).toInt32) &&& (7 : Int32)), Us, Us, Us, Us, Us, Us, Us] [(.int (24 : Int32))])) rfl (hb hBY at_79) rfl (by decide) (cap := 24) (by decide) (by decide) (by decide) (by decide) (ad := "[B") (by decide)
    obtain ⟨b_4, g_4⟩ : ∃ z, z = h0.size := ⟨_, rfl⟩
    rw [← g_4] at A_4 B_4 st_4
    have sz_b_4 : h0.size ≤ b_4 := Nat.le_trans K0.1 (Nat.le_of_eq g_4.symm)
    have ge_b_4 : n0 ≤ b_4 := Nat.le_trans Z0 sz_b_4
    have K__5 : Keep h0 h_4 [] := K0.ext E_4
    have f_6 : Arv Z h_4 b_4 k_4 .byte (24 : Int32) [(.int (0 : Int32)), (.int (0 : Int32)), (.int (0 : Int32)), (.int (0 : Int32)), (.int (0 : Int32)), (.int (0 : Int32)), (.int (0 : Int32)), (.int (0 : Int32)), (.int (0 : Int32)), (.int (0 : Int32)), (.int (0 : Int32)), (.int (0 : Int32)), (.int (0 : Int32)), (.int (0 : Int32)), (.int (0 : Int32)), (.int (0 : Int32)), (.int (0 : Int32)), (.int (0 : Int32)), (.int (0 : Int32)), (.int (0 : Int32)), (.int (0 : Int32)), (.int (0 : Int32)), (.int (0 : Int32)), (.int (0 : Int32))] (.int (0 : Int32)) := (Arv.new A_4 (by decide)).pad (pad_rep [] (.int (0 : Int32)) 24)
    refine Done.pre st_4 ?_
    show Done _ _ _ _ _ _ _ (T_4.setTop (mkF m 81 #[Lv av, Zs, Lv bv, Zs, Lv cv, Zs, Iv p4, Iv (((p4.toUInt32 >>> ((3 : Int32) &&& 31).toUInt32).toInt32) &&& (7 : Int32)), Iv (((p4.toUInt32 >>> ((6 : Int32) &&& 31).toUInt32).toInt32) &&& (7 : Int32)), Us, Us, Us, Us, Us, Us, Us] [(.ref b_4)]))
    have f_7 : Arv Z h_4 b_4 k_4 .byte (24 : Int32) (own_v own_z24) (.int (0 : Int32)) := by exact f_6
    have sg_8 : ∀ tt_, Steps p.tables e below (T_4.setTop (mkF m 88 #[Lv av, Zs, Lv bv, Zs, Lv cv, Zs, Iv p4, Iv (((p4.toUInt32 >>> ((3 : Int32) &&& 31).toUInt32).toInt32) &&& (7 : Int32)), Iv (((p4.toUInt32 >>> ((6 : Int32) &&& 31).toUInt32).toInt32) &&& (7 : Int32)), Rv b_4, Us, Us, Us, Us, Us, Us] [(.long cv), (.int (0 : Int32)), (.ref b_4)])) tt_ → Steps p.tables e below (T_4.setTop (mkF m 81 #[Lv av, Zs, Lv bv, Zs, Lv cv, Zs, Iv p4, Iv (((p4.toUInt32 >>> ((3 : Int32) &&& 31).toUInt32).toInt32) &&& (7 : Int32)), Iv (((p4.toUInt32 >>> ((6 : Int32) &&& 31).toUInt32).toInt32) &&& (7 : Int32)), Us, Us, Us, Us, Us, Us, Us] [(.ref b_4)])) tt_ := by
      intro tt_ kt_
      refine XS.astore X_4.here hEX rfl (hb hBY at_81) rfl rfl (l' := #[Lv av, Zs, Lv bv, Zs, Lv cv, Zs, Iv p4, Iv (((p4.toUInt32 >>> ((3 : Int32) &&& 31).toUInt32).toInt32) &&& (7 : Int32)), Iv (((p4.toUInt32 >>> ((6 : Int32) &&& 31).toUInt32).toInt32) &&& (7 : Int32)), Rv b_4, Us, Us, Us, Us, Us, Us]) rfl ?_
      show Steps p.tables e below (T_4.setTop (mkF m 83 #[Lv av, Zs, Lv bv, Zs, Lv cv, Zs, Iv p4, Iv (((p4.toUInt32 >>> ((3 : Int32) &&& 31).toUInt32).toInt32) &&& (7 : Int32)), Iv (((p4.toUInt32 >>> ((6 : Int32) &&& 31).toUInt32).toInt32) &&& (7 : Int32)), Rv b_4, Us, Us, Us, Us, Us, Us] [])) tt_
      refine XS.aload X_4.here hEX rfl (hb hBY at_83) rfl rfl ?_
      show Steps p.tables e below (T_4.setTop (mkF m 85 #[Lv av, Zs, Lv bv, Zs, Lv cv, Zs, Iv p4, Iv (((p4.toUInt32 >>> ((3 : Int32) &&& 31).toUInt32).toInt32) &&& (7 : Int32)), Iv (((p4.toUInt32 >>> ((6 : Int32) &&& 31).toUInt32).toInt32) &&& (7 : Int32)), Rv b_4, Us, Us, Us, Us, Us, Us] [(.ref b_4)])) tt_
      refine XS.iconst X_4.here hEX rfl (hb hBY at_85) ?_
      show Steps p.tables e below (T_4.setTop (mkF m 86 #[Lv av, Zs, Lv bv, Zs, Lv cv, Zs, Iv p4, Iv (((p4.toUInt32 >>> ((3 : Int32) &&& 31).toUInt32).toInt32) &&& (7 : Int32)), Iv (((p4.toUInt32 >>> ((6 : Int32) &&& 31).toUInt32).toInt32) &&& (7 : Int32)), Rv b_4, Us, Us, Us, Us, Us, Us] [(.int (0 : Int32)), (.ref b_4)])) tt_
      refine XS.lload X_4.here hEX rfl (hb hBY at_86) rfl ?_
      exact kt_
    refine Done.pre sg_8 ?_
    obtain ⟨_, _, ⟨T_9, L_9, k_9, n_9⟩, -, X_9, ⟨Lc_9, hQ_9, l_9, y_9, z_9⟩, st_9⟩ := Jvm.LawKit.callS X_4 hEX (y := (⟨"com/example/tidelog/tidelog/net/NonceNextPinLaw", "put", "([BIJ)V"⟩ : MethodName)) hOW (mvT hZW (hw _ (List.mem_of_getElem? (i := 2) rfl))) (mvT hZW (hw _ (List.mem_of_getElem? (i := 3) rfl))) (mvT hZW (hw _ (List.mem_of_getElem? (i := 4) rfl))) (mvT hZW (hw _ (List.mem_of_getElem? (i := 5) rfl))) (by decide) (backOf (W := 0) (rm_put l Z aZ hw [] b_4 (0 : Int32) cv own_z24 0 k_4 h_4 n0 (Nat.le_trans Z0 K__5.1) f_7 ge_b_4 rfl (by decide)) hZW (hw _ (List.mem_of_getElem? (i := 5) rfl)) (hw _ (List.mem_of_getElem? (i := 4) rfl)) (by decide) (by decide)) (g := (mkF m 88 #[Lv av, Zs, Lv bv, Zs, Lv cv, Zs, Iv p4, Iv (((p4.toUInt32 >>> ((3 : Int32) &&& 31).toUInt32).toInt32) &&& (7 : Int32)), Iv (((p4.toUInt32 >>> ((6 : Int32) &&& 31).toUInt32).toInt32) &&& (7 : Int32)), Rv b_4, Us, Us, Us, Us, Us, Us] [(.long cv), (.int (0 : Int32)), (.ref b_4)])) rfl (by rw [hMX]; rfl) (argsL := [(.ref b_4), (.int (0 : Int32)), (.long cv)]) (rest := []) (lenOf pd___BIJ_V_5 rfl) rfl (by show 2 * 0 + _ ≤ _; exact Nat.le_of_eq rfl) (hb hBY at_88) (fun _ _ => ⟨rfl, e_4, (by decide : 1 + 0 ≤ _), (by decide : 24 + 0 ≤ _)⟩)
    dsimp only [Pt.U, Pt.locs, Pt.cells, Pt.slots] at X_9 l_9 y_9 z_9 st_9 hQ_9
    subst l_9 y_9 z_9
    obtain ⟨rfl, N_9q, K_9, hq_9_0⟩ := hQ_9
    have N_9 := Fr.app N0 N_9q
    have K__10 : Keep h0 T_9.heap [] := K__5.trans K_9 (allS (Or.inr sz_b_4) all0)
    have f_11 : Exa Z T_9.heap b_4 "[B" := B_4.keep K_9
    refine Done.pre (fun _ k_ => st_9 _ k_) ?_
    show Done _ _ _ _ _ _ _ (T_9.setTop (mkF m 91 #[Lv av, Zs, Lv bv, Zs, Lv cv, Zs, Iv p4, Iv (((p4.toUInt32 >>> ((3 : Int32) &&& 31).toUInt32).toInt32) &&& (7 : Int32)), Iv (((p4.toUInt32 >>> ((6 : Int32) &&& 31).toUInt32).toInt32) &&& (7 : Int32)), Rv b_4, Us, Us, Us, Us, Us, Us] []))
    have sg_12 : ∀ tt_, Steps p.tables e below (T_9.setTop (mkF m 96 #[Lv av, Zs, Lv bv, Zs, Lv cv, Zs, Iv p4, Iv (((p4.toUInt32 >>> ((3 : Int32) &&& 31).toUInt32).toInt32) &&& (7 : Int32)), Iv (((p4.toUInt32 >>> ((6 : Int32) &&& 31).toUInt32).toInt32) &&& (7 : Int32)), Rv b_4, Us, Us, Us, Us, Us, Us] [(.long bv), (.int (8 : Int32)), (.ref b_4)])) tt_ → Steps p.tables e below (T_9.setTop (mkF m 91 #[Lv av, Zs, Lv bv, Zs, Lv cv, Zs, Iv p4, Iv (((p4.toUInt32 >>> ((3 : Int32) &&& 31).toUInt32).toInt32) &&& (7 : Int32)), Iv (((p4.toUInt32 >>> ((6 : Int32) &&& 31).toUInt32).toInt32) &&& (7 : Int32)), Rv b_4, Us, Us, Us, Us, Us, Us] [])) tt_ := by
      intro tt_ kt_
      refine XS.aload X_9.here hEX rfl (hb hBY at_91) rfl rfl ?_
      show Steps p.tables e below (T_9.setTop (mkF m 93 #[Lv av, Zs, Lv bv, Zs, Lv cv, Zs, Iv p4, Iv (((p4.toUInt32 >>> ((3 : Int32) &&& 31).toUInt32).toInt32) &&& (7 : Int32)), Iv (((p4.toUInt32 >>> ((6 : Int32) &&& 31).toUInt32).toInt32) &&& (7 : Int32)), Rv b_4, Us, Us, Us, Us, Us, Us] [(.ref b_4)])) tt_
      refine XS.bipush X_9.here hEX rfl (hb hBY at_93) ?_
      show Steps p.tables e below (T_9.setTop (mkF m 95 #[Lv av, Zs, Lv bv, Zs, Lv cv, Zs, Iv p4, Iv (((p4.toUInt32 >>> ((3 : Int32) &&& 31).toUInt32).toInt32) &&& (7 : Int32)), Iv (((p4.toUInt32 >>> ((6 : Int32) &&& 31).toUInt32).toInt32) &&& (7 : Int32)), Rv b_4, Us, Us, Us, Us, Us, Us] [(.int (8 : Int32)), (.ref b_4)])) tt_
      refine XS.lloadN X_9.here hEX rfl (hb hBY at_95) rfl ?_
      exact kt_
    refine Done.pre sg_12 ?_
    obtain ⟨_, _, ⟨T_13, L_13, k_13, n_13⟩, -, X_13, ⟨Lc_13, hQ_13, l_13, y_13, z_13⟩, st_13⟩ := Jvm.LawKit.callS X_9 hEX (y := (⟨"com/example/tidelog/tidelog/net/NonceNextPinLaw", "put", "([BIJ)V"⟩ : MethodName)) hOW (mvT hZW (hw _ (List.mem_of_getElem? (i := 2) rfl))) (mvT hZW (hw _ (List.mem_of_getElem? (i := 3) rfl))) (mvT hZW (hw _ (List.mem_of_getElem? (i := 4) rfl))) (mvT hZW (hw _ (List.mem_of_getElem? (i := 5) rfl))) (by decide) (backOf (W := 0) (rm_put l Z aZ hw [] b_4 (8 : Int32) bv (own_put own_z24 0 cv) 8 k_4 T_9.heap n0 (Nat.le_trans Z0 K__10.1) hq_9_0 ge_b_4 (by rw [own_putlen]; rfl) (by decide)) hZW (hw _ (List.mem_of_getElem? (i := 5) rfl)) (hw _ (List.mem_of_getElem? (i := 4) rfl)) (by decide) (by decide)) (g := (mkF m 96 #[Lv av, Zs, Lv bv, Zs, Lv cv, Zs, Iv p4, Iv (((p4.toUInt32 >>> ((3 : Int32) &&& 31).toUInt32).toInt32) &&& (7 : Int32)), Iv (((p4.toUInt32 >>> ((6 : Int32) &&& 31).toUInt32).toInt32) &&& (7 : Int32)), Rv b_4, Us, Us, Us, Us, Us, Us] [(.long bv), (.int (8 : Int32)), (.ref b_4)])) rfl (by rw [hMX]; rfl) (argsL := [(.ref b_4), (.int (8 : Int32)), (.long bv)]) (rest := []) (lenOf pd___BIJ_V_5 rfl) rfl (by show 2 * 0 + _ ≤ _; exact Nat.le_of_eq rfl) (hb hBY at_96) (fun _ _ => ⟨rfl, rfl, (by decide : 1 + 0 ≤ _), (by decide : 24 + 0 ≤ _)⟩)
    dsimp only [Pt.U, Pt.locs, Pt.cells, Pt.slots] at X_13 l_13 y_13 z_13 st_13 hQ_13
    subst l_13 y_13 z_13
    obtain ⟨rfl, N_13q, K_13, hq_13_0⟩ := hQ_13
    have N_13 := Fr.app N_9 N_13q
    have K__14 : Keep h0 T_13.heap [] := K__10.trans K_13 (allS (Or.inr sz_b_4) all0)
    have f_15 : Exa Z T_13.heap b_4 "[B" := f_11.keep K_13
    refine Done.pre (fun _ k_ => st_13 _ k_) ?_
    show Done _ _ _ _ _ _ _ (T_13.setTop (mkF m 99 #[Lv av, Zs, Lv bv, Zs, Lv cv, Zs, Iv p4, Iv (((p4.toUInt32 >>> ((3 : Int32) &&& 31).toUInt32).toInt32) &&& (7 : Int32)), Iv (((p4.toUInt32 >>> ((6 : Int32) &&& 31).toUInt32).toInt32) &&& (7 : Int32)), Rv b_4, Us, Us, Us, Us, Us, Us] []))
    have sg_16 : ∀ tt_, Steps p.tables e below (T_13.setTop (mkF m 104 #[Lv av, Zs, Lv bv, Zs, Lv cv, Zs, Iv p4, Iv (((p4.toUInt32 >>> ((3 : Int32) &&& 31).toUInt32).toInt32) &&& (7 : Int32)), Iv (((p4.toUInt32 >>> ((6 : Int32) &&& 31).toUInt32).toInt32) &&& (7 : Int32)), Rv b_4, Us, Us, Us, Us, Us, Us] [(.long av), (.int (16 : Int32)), (.ref b_4)])) tt_ → Steps p.tables e below (T_13.setTop (mkF m 99 #[Lv av, Zs, Lv bv, Zs, Lv cv, Zs, Iv p4, Iv (((p4.toUInt32 >>> ((3 : Int32) &&& 31).toUInt32).toInt32) &&& (7 : Int32)), Iv (((p4.toUInt32 >>> ((6 : Int32) &&& 31).toUInt32).toInt32) &&& (7 : Int32)), Rv b_4, Us, Us, Us, Us, Us, Us] [])) tt_ := by
      intro tt_ kt_
      refine XS.aload X_13.here hEX rfl (hb hBY at_99) rfl rfl ?_
      show Steps p.tables e below (T_13.setTop (mkF m 101 #[Lv av, Zs, Lv bv, Zs, Lv cv, Zs, Iv p4, Iv (((p4.toUInt32 >>> ((3 : Int32) &&& 31).toUInt32).toInt32) &&& (7 : Int32)), Iv (((p4.toUInt32 >>> ((6 : Int32) &&& 31).toUInt32).toInt32) &&& (7 : Int32)), Rv b_4, Us, Us, Us, Us, Us, Us] [(.ref b_4)])) tt_
      refine XS.bipush X_13.here hEX rfl (hb hBY at_101) ?_
      show Steps p.tables e below (T_13.setTop (mkF m 103 #[Lv av, Zs, Lv bv, Zs, Lv cv, Zs, Iv p4, Iv (((p4.toUInt32 >>> ((3 : Int32) &&& 31).toUInt32).toInt32) &&& (7 : Int32)), Iv (((p4.toUInt32 >>> ((6 : Int32) &&& 31).toUInt32).toInt32) &&& (7 : Int32)), Rv b_4, Us, Us, Us, Us, Us, Us] [(.int (16 : Int32)), (.ref b_4)])) tt_
      refine XS.lloadN X_13.here hEX rfl (hb hBY at_103) rfl ?_
      exact kt_
    refine Done.pre sg_16 ?_
    obtain ⟨_, _, ⟨T_17, L_17, k_17, n_17⟩, -, X_17, ⟨Lc_17, hQ_17, l_17, y_17, z_17⟩, st_17⟩ := Jvm.LawKit.callS X_13 hEX (y := (⟨"com/example/tidelog/tidelog/net/NonceNextPinLaw", "put", "([BIJ)V"⟩ : MethodName)) hOW (mvT hZW (hw _ (List.mem_of_getElem? (i := 2) rfl))) (mvT hZW (hw _ (List.mem_of_getElem? (i := 3) rfl))) (mvT hZW (hw _ (List.mem_of_getElem? (i := 4) rfl))) (mvT hZW (hw _ (List.mem_of_getElem? (i := 5) rfl))) (by decide) (backOf (W := 0) (rm_put l Z aZ hw [] b_4 (16 : Int32) av (own_put (own_put own_z24 0 cv) 8 bv) 16 k_4 T_13.heap n0 (Nat.le_trans Z0 K__14.1) hq_13_0 ge_b_4 (by rw [own_putlen, own_putlen]; rfl) (by decide)) hZW (hw _ (List.mem_of_getElem? (i := 5) rfl)) (hw _ (List.mem_of_getElem? (i := 4) rfl)) (by decide) (by decide)) (g := (mkF m 104 #[Lv av, Zs, Lv bv, Zs, Lv cv, Zs, Iv p4, Iv (((p4.toUInt32 >>> ((3 : Int32) &&& 31).toUInt32).toInt32) &&& (7 : Int32)), Iv (((p4.toUInt32 >>> ((6 : Int32) &&& 31).toUInt32).toInt32) &&& (7 : Int32)), Rv b_4, Us, Us, Us, Us, Us, Us] [(.long av), (.int (16 : Int32)), (.ref b_4)])) rfl (by rw [hMX]; rfl) (argsL := [(.ref b_4), (.int (16 : Int32)), (.long av)]) (rest := []) (lenOf pd___BIJ_V_5 rfl) rfl (by show 2 * 0 + _ ≤ _; exact Nat.le_of_eq rfl) (hb hBY at_104) (fun _ _ => ⟨rfl, rfl, (by decide : 1 + 0 ≤ _), (by decide : 24 + 0 ≤ _)⟩)
    dsimp only [Pt.U, Pt.locs, Pt.cells, Pt.slots] at X_17 l_17 y_17 z_17 st_17 hQ_17
    subst l_17 y_17 z_17
    obtain ⟨rfl, N_17q, K_17, hq_17_0⟩ := hQ_17
    have N_17 := Fr.app N_13 N_17q
    have K__18 : Keep h0 T_17.heap [] := K__14.trans K_17 (allS (Or.inr sz_b_4) all0)
    have f_19 : Exa Z T_17.heap b_4 "[B" := f_15.keep K_17
    refine Done.pre (fun _ k_ => st_17 _ k_) ?_
    show Done _ _ _ _ _ _ _ (T_17.setTop (mkF m 107 #[Lv av, Zs, Lv bv, Zs, Lv cv, Zs, Iv p4, Iv (((p4.toUInt32 >>> ((3 : Int32) &&& 31).toUInt32).toInt32) &&& (7 : Int32)), Iv (((p4.toUInt32 >>> ((6 : Int32) &&& 31).toUInt32).toInt32) &&& (7 : Int32)), Rv b_4, Us, Us, Us, Us, Us, Us] []))
    have f_20 : Arv Z T_17.heap b_4 k_4 .byte (24 : Int32) (own_v (own_first cv bv av)) (.int (0 : Int32)) := by exact hq_17_0
    obtain ⟨T_21, h_21, X_21, e_21, E_21, A_21, D_21, -, st_21⟩ := newO X_17 hEX hZW hOW (hw _ (List.mem_of_getElem? (i := 6) rfl)) (hw _ (List.mem_of_getElem? (i := 7) rfl)) (hw _ (List.mem_of_getElem? (i := 8) rfl)) rfl (g := (mkF m 107 #[Lv av, Zs, Lv bv, Zs, Lv cv, Zs, Iv p4, Iv (((p4.toUInt32 >>> ((3 : Int32) &&& 31).toUInt32).toInt32) &&& (7 : Int32)), Iv (((p4.toUInt32 >>> ((6 : Int32) &&& 31).toUInt32).toInt32) &&& (7 : Int32)), Rv b_4, Us, Us, Us, Us, Us, Us] [])) rfl (hb hBY at_107) (by decide) (by decide)
    obtain ⟨b_21, g_21⟩ : ∃ z, z = T_17.heap.size := ⟨_, rfl⟩
    rw [← g_21] at A_21 D_21 st_21
    have sz_b_21 : h0.size ≤ b_21 := Nat.le_trans K__18.1 (Nat.le_of_eq g_21.symm)
    have ge_b_21 : n0 ≤ b_21 := Nat.le_trans Z0 sz_b_21
    have ne_b_4_b_21 : b_4 ≠ b_21 := Nat.ne_of_lt (Nat.lt_of_lt_of_le f_19.lt (Nat.le_of_eq g_21.symm))
    have K__22 : Keep h0 h_21 [] := K__18.ext E_21
    have f_23 : Exa Z h_21 b_4 "[B" := f_19.ext E_21
    have f_24 : Arv Z h_21 b_4 k_4 .byte (24 : Int32) (own_v (own_first cv bv av)) (.int (0 : Int32)) := f_20.ext E_21
    have f_25 : Exa Z h_21 b_21 "com/example/tidelog/tidelog/net/Nonce" := A_21
    have f_26 : Fld Z h_21 b_21 "com/example/tidelog/tidelog/net/Nonce" "value" "[B" .null := D_21 (Or.inr (hw _ (List.mem_of_getElem? (i := 25) rfl))) (ty := (.array .byte)) (by decide)
    refine Done.pre st_21 ?_
    show Done _ _ _ _ _ _ _ (T_21.setTop (mkF m 110 #[Lv av, Zs, Lv bv, Zs, Lv cv, Zs, Iv p4, Iv (((p4.toUInt32 >>> ((3 : Int32) &&& 31).toUInt32).toInt32) &&& (7 : Int32)), Iv (((p4.toUInt32 >>> ((6 : Int32) &&& 31).toUInt32).toInt32) &&& (7 : Int32)), Rv b_4, Us, Us, Us, Us, Us, Us] [(.ref b_21)]))
    have sg_27 : ∀ tt_, Steps p.tables e below (T_21.setTop (mkF m 113 #[Lv av, Zs, Lv bv, Zs, Lv cv, Zs, Iv p4, Iv (((p4.toUInt32 >>> ((3 : Int32) &&& 31).toUInt32).toInt32) &&& (7 : Int32)), Iv (((p4.toUInt32 >>> ((6 : Int32) &&& 31).toUInt32).toInt32) &&& (7 : Int32)), Rv b_4, Us, Us, Us, Us, Us, Us] [(.ref b_4), (.ref b_21), (.ref b_21)])) tt_ → Steps p.tables e below (T_21.setTop (mkF m 110 #[Lv av, Zs, Lv bv, Zs, Lv cv, Zs, Iv p4, Iv (((p4.toUInt32 >>> ((3 : Int32) &&& 31).toUInt32).toInt32) &&& (7 : Int32)), Iv (((p4.toUInt32 >>> ((6 : Int32) &&& 31).toUInt32).toInt32) &&& (7 : Int32)), Rv b_4, Us, Us, Us, Us, Us, Us] [(.ref b_21)])) tt_ := by
      intro tt_ kt_
      refine XS.dup X_21.here hEX rfl (hb hBY at_110) rfl rfl ?_
      show Steps p.tables e below (T_21.setTop (mkF m 111 #[Lv av, Zs, Lv bv, Zs, Lv cv, Zs, Iv p4, Iv (((p4.toUInt32 >>> ((3 : Int32) &&& 31).toUInt32).toInt32) &&& (7 : Int32)), Iv (((p4.toUInt32 >>> ((6 : Int32) &&& 31).toUInt32).toInt32) &&& (7 : Int32)), Rv b_4, Us, Us, Us, Us, Us, Us] [(.ref b_21), (.ref b_21)])) tt_
      refine XS.aload X_21.here hEX rfl (hb hBY at_111) rfl rfl ?_
      exact kt_
    refine Done.pre sg_27 ?_
    obtain ⟨_, _, ⟨T_28, L_28, k_28, n_28⟩, -, X_28, ⟨Lc_28, hQ_28, l_28, y_28, z_28⟩, st_28⟩ := X_21.specialBack hEX (y := (⟨"com/example/tidelog/tidelog/net/Nonce", "<init>", "([B)V"⟩ : MethodName)) rfl hOW (mvT hZW (hw _ (List.mem_of_getElem? (i := 9) rfl))) (mvT hZW (hw _ (List.mem_of_getElem? (i := 10) rfl))) (mvT hZW (hw _ (List.mem_of_getElem? (i := 11) rfl))) (by decide) (backOf (W := 1) (rm_init l Z aZ hw [] b_21 b_4 .null k_4 (own_first cv bv av) h_21 n0 (Nat.le_trans Z0 K__22.1) f_25 f_26 f_24 f_23 ge_b_21 (Ne.symm ne_b_4_b_21)) hZW (hw _ (List.mem_of_getElem? (i := 11) rfl)) (hw _ (List.mem_of_getElem? (i := 8) rfl)) (by decide) (by decide)) (g := (mkF m 113 #[Lv av, Zs, Lv bv, Zs, Lv cv, Zs, Iv p4, Iv (((p4.toUInt32 >>> ((3 : Int32) &&& 31).toUInt32).toInt32) &&& (7 : Int32)), Iv (((p4.toUInt32 >>> ((6 : Int32) &&& 31).toUInt32).toInt32) &&& (7 : Int32)), Rv b_4, Us, Us, Us, Us, Us, Us] [(.ref b_4), (.ref b_21), (.ref b_21)])) rfl (by rw [hMX]; rfl) (Steps.refl _) (a := b_21) (argsL := [(.ref b_4)]) (rest := [(.ref b_21)]) (lenOf pd___B_V_3 rfl) rfl (by show 2 * 0 + _ ≤ _; exact Nat.le_of_eq rfl) (hb hBY at_113) (fun _ _ => ⟨rfl, e_21, (by decide : 2 + 1 ≤ _), (by decide : 25 + 24 ≤ _)⟩)
    dsimp only [Pt.U, Pt.locs, Pt.cells, Pt.slots] at X_28 l_28 y_28 z_28 st_28 hQ_28
    subst l_28 y_28 z_28
    obtain ⟨b__28, rfl, N_28q, K_28, hq_28_0, hq_28_1, hq_28_2, hq_28_3, hq_28_4⟩ := hQ_28
    have N_28 := Fr.app N_17 N_28q
    have K__29 : Keep h0 T_28.heap [] := K__22.trans K_28 (allS (Or.inr sz_b_21) all0)
    have f_30 : Exa Z T_28.heap b_4 "[B" := f_23.keep K_28
    have f_31 : Arv Z T_28.heap b_4 k_4 .byte (24 : Int32) (own_v (own_first cv bv av)) (.int (0 : Int32)) := f_24.keep K_28 (ninS ne_b_4_b_21 nin0)
    have f_32 : Exa Z T_28.heap b_21 "com/example/tidelog/tidelog/net/Nonce" := f_25.keep K_28
    have sz_b__28 : h0.size ≤ b__28 := Nat.le_trans K__22.1 hq_28_4
    have ne_b_4_b__28 : b_4 ≠ b__28 := Nat.ne_of_lt (Nat.lt_of_lt_of_le f_23.lt hq_28_4)
    have ne_b_21_b__28 : b_21 ≠ b__28 := Nat.ne_of_lt (Nat.lt_of_lt_of_le f_25.lt hq_28_4)
    refine Done.pre (fun _ k_ => st_28.trans k_) ?_
    show Done _ _ _ _ _ _ _ (T_28.setTop (mkF m 116 #[Lv av, Zs, Lv bv, Zs, Lv cv, Zs, Iv p4, Iv (((p4.toUInt32 >>> ((3 : Int32) &&& 31).toUInt32).toInt32) &&& (7 : Int32)), Iv (((p4.toUInt32 >>> ((6 : Int32) &&& 31).toUInt32).toInt32) &&& (7 : Int32)), Rv b_4, Us, Us, Us, Us, Us, Us] [(.ref b_21)]))
    have sg_33 : ∀ tt_, Steps p.tables e below (T_28.setTop (mkF m 120 #[Lv av, Zs, Lv bv, Zs, Lv cv, Zs, Iv p4, Iv (((p4.toUInt32 >>> ((3 : Int32) &&& 31).toUInt32).toInt32) &&& (7 : Int32)), Iv (((p4.toUInt32 >>> ((6 : Int32) &&& 31).toUInt32).toInt32) &&& (7 : Int32)), Rv b_4, Rv b_21, Us, Us, Us, Us, Us] [(.ref b_21)])) tt_ → Steps p.tables e below (T_28.setTop (mkF m 116 #[Lv av, Zs, Lv bv, Zs, Lv cv, Zs, Iv p4, Iv (((p4.toUInt32 >>> ((3 : Int32) &&& 31).toUInt32).toInt32) &&& (7 : Int32)), Iv (((p4.toUInt32 >>> ((6 : Int32) &&& 31).toUInt32).toInt32) &&& (7 : Int32)), Rv b_4, Us, Us, Us, Us, Us, Us] [(.ref b_21)])) tt_ := by
      intro tt_ kt_
      refine XS.astore X_28.here hEX rfl (hb hBY at_116) rfl rfl (l' := #[Lv av, Zs, Lv bv, Zs, Lv cv, Zs, Iv p4, Iv (((p4.toUInt32 >>> ((3 : Int32) &&& 31).toUInt32).toInt32) &&& (7 : Int32)), Iv (((p4.toUInt32 >>> ((6 : Int32) &&& 31).toUInt32).toInt32) &&& (7 : Int32)), Rv b_4, Rv b_21, Us, Us, Us, Us, Us]) rfl ?_
      show Steps p.tables e below (T_28.setTop (mkF m 118 #[Lv av, Zs, Lv bv, Zs, Lv cv, Zs, Iv p4, Iv (((p4.toUInt32 >>> ((3 : Int32) &&& 31).toUInt32).toInt32) &&& (7 : Int32)), Iv (((p4.toUInt32 >>> ((6 : Int32) &&& 31).toUInt32).toInt32) &&& (7 : Int32)), Rv b_4, Rv b_21, Us, Us, Us, Us, Us] [])) tt_
      refine XS.aload X_28.here hEX rfl (hb hBY at_118) rfl rfl ?_
      exact kt_
    refine Done.pre sg_33 ?_
    obtain ⟨cq_34, kq_34, q_34a, q_34b, q_34c⟩ := isOf hZW rfl hq_28_0
    obtain ⟨_, _, ⟨T_34, L_34, k_34, n_34⟩, -, X_34, ⟨Lc_34, hQ_34, l_34, y_34, z_34⟩, st_34⟩ := X_28.virtualBack hEX (y := (⟨"com/example/tidelog/tidelog/net/Nonce", "next", "()[B"⟩ : MethodName)) (z := (⟨"com/example/tidelog/tidelog/net/Nonce", "next", "()[B"⟩ : MethodName)) hOW (mvT hZW (hw _ (List.mem_of_getElem? (i := 26) rfl))) (mvT hZW (hw _ (List.mem_of_getElem? (i := 27) rfl))) (notFace_of_selects (args := #[]) (mvT hZW (hw _ (List.mem_of_getElem? (i := 29) rfl)))) (mvT hZW (hw _ (List.mem_of_getElem? (i := 29) rfl))) (mvT hZW (hw _ (List.mem_of_getElem? (i := 28) rfl))) (by decide) (backOf (W := 0) (rm_next l Z aZ hw [] b_21 b__28 k_4 (own_first cv bv av) T_28.heap n0 (Nat.le_trans Z0 K__29.1) hq_28_1 hq_28_2 hq_28_3 (Nat.le_trans Z0 sz_b__28) ne_b_21_b__28 (own_firstlen cv bv av)) hZW (hw _ (List.mem_of_getElem? (i := 30) rfl)) (hw _ (List.mem_of_getElem? (i := 8) rfl)) (by decide) (by decide)) q_34a q_34c (g := (mkF m 120 #[Lv av, Zs, Lv bv, Zs, Lv cv, Zs, Iv p4, Iv (((p4.toUInt32 >>> ((3 : Int32) &&& 31).toUInt32).toInt32) &&& (7 : Int32)), Iv (((p4.toUInt32 >>> ((6 : Int32) &&& 31).toUInt32).toInt32) &&& (7 : Int32)), Rv b_4, Rv b_21, Us, Us, Us, Us, Us] [(.ref b_21)])) rfl (by rw [hMX]; rfl) (Steps.refl _) (argsL := []) (rest := []) (lenOf pd____B_2 rfl) rfl (by show 2 * 0 + _ ≤ _; exact Nat.le_of_eq rfl) (hb hBY at_120) (fun _ _ => ⟨rfl, rfl, (by decide : 3 + 1 ≤ _), (by decide : 49 + 24 ≤ _)⟩)
    dsimp only [Pt.U, Pt.locs, Pt.cells, Pt.slots] at X_34 l_34 y_34 z_34 st_34 hQ_34
    subst l_34 y_34 z_34
    obtain ⟨r__34, rfl, N_34q, K_34, hq_34_0, hq_34_1, hq_34_2, hq_34_3, hq_34_4⟩ := hQ_34
    have N_34 := Fr.app N_28 N_34q
    have K__35 : Keep h0 T_34.heap [] := K__29.trans K_34 (allS (Or.inr sz_b__28) all0)
    have f_36 : Exa Z T_34.heap b_4 "[B" := f_30.keep K_34
    have f_37 : Arv Z T_34.heap b_4 k_4 .byte (24 : Int32) (own_v (own_first cv bv av)) (.int (0 : Int32)) := f_31.keep K_34 (ninS ne_b_4_b__28 nin0)
    have f_38 : Exa Z T_34.heap b_21 "com/example/tidelog/tidelog/net/Nonce" := hq_28_0.keep K_34
    have f_39 : Fld Z T_34.heap b_21 "com/example/tidelog/tidelog/net/Nonce" "value" "[B" (.ref b__28) := hq_28_1.keep K_34 (ninS ne_b_21_b__28 nin0)
    have f_40 : Exa Z T_34.heap b__28 "[B" := hq_28_3.keep K_34
    have sz_r__34 : h0.size ≤ r__34 := Nat.le_trans K__29.1 hq_34_2
    have ne_b_4_r__34 : b_4 ≠ r__34 := Nat.ne_of_lt (Nat.lt_of_lt_of_le f_30.lt hq_34_2)
    have ne_b_21_r__34 : b_21 ≠ r__34 := Nat.ne_of_lt (Nat.lt_of_lt_of_le hq_28_0.lt hq_34_2)
    have ne_b__28_r__34 : b__28 ≠ r__34 := Nat.ne_of_lt (Nat.lt_of_lt_of_le hq_28_2.lt hq_34_2)
    refine Done.pre (fun _ k_ => st_34.trans k_) ?_
    show Done _ _ _ _ _ _ _ (T_34.setTop (mkF m 123 #[Lv av, Zs, Lv bv, Zs, Lv cv, Zs, Iv p4, Iv (((p4.toUInt32 >>> ((3 : Int32) &&& 31).toUInt32).toInt32) &&& (7 : Int32)), Iv (((p4.toUInt32 >>> ((6 : Int32) &&& 31).toUInt32).toInt32) &&& (7 : Int32)), Rv b_4, Rv b_21, Us, Us, Us, Us, Us] [(.ref r__34)]))
    have sg_41 : ∀ tt_, Steps p.tables e below (T_34.setTop (mkF m 127 #[Lv av, Zs, Lv bv, Zs, Lv cv, Zs, Iv p4, Iv (((p4.toUInt32 >>> ((3 : Int32) &&& 31).toUInt32).toInt32) &&& (7 : Int32)), Iv (((p4.toUInt32 >>> ((6 : Int32) &&& 31).toUInt32).toInt32) &&& (7 : Int32)), Rv b_4, Rv b_21, Rv r__34, Us, Us, Us, Us] [(.ref b_21)])) tt_ → Steps p.tables e below (T_34.setTop (mkF m 123 #[Lv av, Zs, Lv bv, Zs, Lv cv, Zs, Iv p4, Iv (((p4.toUInt32 >>> ((3 : Int32) &&& 31).toUInt32).toInt32) &&& (7 : Int32)), Iv (((p4.toUInt32 >>> ((6 : Int32) &&& 31).toUInt32).toInt32) &&& (7 : Int32)), Rv b_4, Rv b_21, Us, Us, Us, Us, Us] [(.ref r__34)])) tt_ := by
      intro tt_ kt_
      refine XS.astore X_34.here hEX rfl (hb hBY at_123) rfl rfl (l' := #[Lv av, Zs, Lv bv, Zs, Lv cv, Zs, Iv p4, Iv (((p4.toUInt32 >>> ((3 : Int32) &&& 31).toUInt32).toInt32) &&& (7 : Int32)), Iv (((p4.toUInt32 >>> ((6 : Int32) &&& 31).toUInt32).toInt32) &&& (7 : Int32)), Rv b_4, Rv b_21, Rv r__34, Us, Us, Us, Us]) rfl ?_
      show Steps p.tables e below (T_34.setTop (mkF m 125 #[Lv av, Zs, Lv bv, Zs, Lv cv, Zs, Iv p4, Iv (((p4.toUInt32 >>> ((3 : Int32) &&& 31).toUInt32).toInt32) &&& (7 : Int32)), Iv (((p4.toUInt32 >>> ((6 : Int32) &&& 31).toUInt32).toInt32) &&& (7 : Int32)), Rv b_4, Rv b_21, Rv r__34, Us, Us, Us, Us] [])) tt_
      refine XS.aload X_34.here hEX rfl (hb hBY at_125) rfl rfl ?_
      exact kt_
    refine Done.pre sg_41 ?_
    obtain ⟨cq_42, kq_42, q_42a, q_42b, q_42c⟩ := isOf hZW rfl f_38
    obtain ⟨_, _, ⟨T_42, L_42, k_42, n_42⟩, -, X_42, ⟨Lc_42, hQ_42, l_42, y_42, z_42⟩, st_42⟩ := X_34.virtualBack hEX (y := (⟨"com/example/tidelog/tidelog/net/Nonce", "next", "()[B"⟩ : MethodName)) (z := (⟨"com/example/tidelog/tidelog/net/Nonce", "next", "()[B"⟩ : MethodName)) hOW (mvT hZW (hw _ (List.mem_of_getElem? (i := 26) rfl))) (mvT hZW (hw _ (List.mem_of_getElem? (i := 27) rfl))) (notFace_of_selects (args := #[]) (mvT hZW (hw _ (List.mem_of_getElem? (i := 29) rfl)))) (mvT hZW (hw _ (List.mem_of_getElem? (i := 29) rfl))) (mvT hZW (hw _ (List.mem_of_getElem? (i := 28) rfl))) (by decide) (backOf (W := 0) (rm_next l Z aZ hw [] b_21 b__28 k_4 (own_incL (own_first cv bv av)) T_34.heap n0 (Nat.le_trans Z0 K__35.1) f_39 hq_34_3 hq_34_4 (Nat.le_trans Z0 sz_b__28) ne_b_21_b__28 (by rw [own_inclen]; exact (own_firstlen cv bv av))) hZW (hw _ (List.mem_of_getElem? (i := 30) rfl)) (hw _ (List.mem_of_getElem? (i := 8) rfl)) (by decide) (by decide)) q_42a q_42c (g := (mkF m 127 #[Lv av, Zs, Lv bv, Zs, Lv cv, Zs, Iv p4, Iv (((p4.toUInt32 >>> ((3 : Int32) &&& 31).toUInt32).toInt32) &&& (7 : Int32)), Iv (((p4.toUInt32 >>> ((6 : Int32) &&& 31).toUInt32).toInt32) &&& (7 : Int32)), Rv b_4, Rv b_21, Rv r__34, Us, Us, Us, Us] [(.ref b_21)])) rfl (by rw [hMX]; rfl) (Steps.refl _) (argsL := []) (rest := []) (lenOf pd____B_2 rfl) rfl (by show 2 * 0 + _ ≤ _; exact Nat.le_of_eq rfl) (hb hBY at_127) (fun _ _ => ⟨rfl, rfl, (by decide : 4 + 1 ≤ _), (by decide : 73 + 24 ≤ _)⟩)
    dsimp only [Pt.U, Pt.locs, Pt.cells, Pt.slots] at X_42 l_42 y_42 z_42 st_42 hQ_42
    subst l_42 y_42 z_42
    obtain ⟨r__42, rfl, N_42q, K_42, hq_42_0, hq_42_1, hq_42_2, hq_42_3, hq_42_4⟩ := hQ_42
    have N_42 := Fr.app N_34 N_42q
    have K__43 : Keep h0 T_42.heap [] := K__35.trans K_42 (allS (Or.inr sz_b__28) all0)
    have f_44 : Exa Z T_42.heap b_4 "[B" := f_36.keep K_42
    have f_45 : Arv Z T_42.heap b_4 k_4 .byte (24 : Int32) (own_v (own_first cv bv av)) (.int (0 : Int32)) := f_37.keep K_42 (ninS ne_b_4_b__28 nin0)
    have f_46 : Exa Z T_42.heap b_21 "com/example/tidelog/tidelog/net/Nonce" := f_38.keep K_42
    have f_47 : Fld Z T_42.heap b_21 "com/example/tidelog/tidelog/net/Nonce" "value" "[B" (.ref b__28) := f_39.keep K_42 (ninS ne_b_21_b__28 nin0)
    have f_48 : Exa Z T_42.heap b__28 "[B" := hq_34_4.keep K_42
    have f_49 : Arv Z T_42.heap r__34 k_4 .byte (24 : Int32) (own_v (own_first cv bv av)) (.int (0 : Int32)) := hq_34_0.keep K_42 (ninS (Ne.symm ne_b__28_r__34) nin0)
    have f_50 : Exa Z T_42.heap r__34 "[B" := hq_34_1.keep K_42
    have sz_r__42 : h0.size ≤ r__42 := Nat.le_trans K__35.1 hq_42_2
    have ne_b_4_r__42 : b_4 ≠ r__42 := Nat.ne_of_lt (Nat.lt_of_lt_of_le f_36.lt hq_42_2)
    have ne_b_21_r__42 : b_21 ≠ r__42 := Nat.ne_of_lt (Nat.lt_of_lt_of_le f_38.lt hq_42_2)
    have ne_b__28_r__42 : b__28 ≠ r__42 := Nat.ne_of_lt (Nat.lt_of_lt_of_le hq_34_4.lt hq_42_2)
    have ne_r__34_r__42 : r__34 ≠ r__42 := Nat.ne_of_lt (Nat.lt_of_lt_of_le hq_34_0.lt hq_42_2)
    refine Done.pre (fun _ k_ => st_42.trans k_) ?_
    show Done _ _ _ _ _ _ _ (T_42.setTop (mkF m 130 #[Lv av, Zs, Lv bv, Zs, Lv cv, Zs, Iv p4, Iv (((p4.toUInt32 >>> ((3 : Int32) &&& 31).toUInt32).toInt32) &&& (7 : Int32)), Iv (((p4.toUInt32 >>> ((6 : Int32) &&& 31).toUInt32).toInt32) &&& (7 : Int32)), Rv b_4, Rv b_21, Rv r__34, Us, Us, Us, Us] [(.ref r__42)]))
    have sg_51 : ∀ tt_, Steps p.tables e below (T_42.setTop (mkF m 134 #[Lv av, Zs, Lv bv, Zs, Lv cv, Zs, Iv p4, Iv (((p4.toUInt32 >>> ((3 : Int32) &&& 31).toUInt32).toInt32) &&& (7 : Int32)), Iv (((p4.toUInt32 >>> ((6 : Int32) &&& 31).toUInt32).toInt32) &&& (7 : Int32)), Rv b_4, Rv b_21, Rv r__34, Rv r__42, Us, Us, Us] [(.ref b_21)])) tt_ → Steps p.tables e below (T_42.setTop (mkF m 130 #[Lv av, Zs, Lv bv, Zs, Lv cv, Zs, Iv p4, Iv (((p4.toUInt32 >>> ((3 : Int32) &&& 31).toUInt32).toInt32) &&& (7 : Int32)), Iv (((p4.toUInt32 >>> ((6 : Int32) &&& 31).toUInt32).toInt32) &&& (7 : Int32)), Rv b_4, Rv b_21, Rv r__34, Us, Us, Us, Us] [(.ref r__42)])) tt_ := by
      intro tt_ kt_
      refine XS.astore X_42.here hEX rfl (hb hBY at_130) rfl rfl (l' := #[Lv av, Zs, Lv bv, Zs, Lv cv, Zs, Iv p4, Iv (((p4.toUInt32 >>> ((3 : Int32) &&& 31).toUInt32).toInt32) &&& (7 : Int32)), Iv (((p4.toUInt32 >>> ((6 : Int32) &&& 31).toUInt32).toInt32) &&& (7 : Int32)), Rv b_4, Rv b_21, Rv r__34, Rv r__42, Us, Us, Us]) rfl ?_
      show Steps p.tables e below (T_42.setTop (mkF m 132 #[Lv av, Zs, Lv bv, Zs, Lv cv, Zs, Iv p4, Iv (((p4.toUInt32 >>> ((3 : Int32) &&& 31).toUInt32).toInt32) &&& (7 : Int32)), Iv (((p4.toUInt32 >>> ((6 : Int32) &&& 31).toUInt32).toInt32) &&& (7 : Int32)), Rv b_4, Rv b_21, Rv r__34, Rv r__42, Us, Us, Us] [])) tt_
      refine XS.aload X_42.here hEX rfl (hb hBY at_132) rfl rfl ?_
      exact kt_
    refine Done.pre sg_51 ?_
    obtain ⟨cq_52, kq_52, q_52a, q_52b, q_52c⟩ := isOf hZW rfl f_46
    obtain ⟨_, _, ⟨T_52, L_52, k_52, n_52⟩, -, X_52, ⟨Lc_52, hQ_52, l_52, y_52, z_52⟩, st_52⟩ := X_42.virtualBack hEX (y := (⟨"com/example/tidelog/tidelog/net/Nonce", "next", "()[B"⟩ : MethodName)) (z := (⟨"com/example/tidelog/tidelog/net/Nonce", "next", "()[B"⟩ : MethodName)) hOW (mvT hZW (hw _ (List.mem_of_getElem? (i := 26) rfl))) (mvT hZW (hw _ (List.mem_of_getElem? (i := 27) rfl))) (notFace_of_selects (args := #[]) (mvT hZW (hw _ (List.mem_of_getElem? (i := 29) rfl)))) (mvT hZW (hw _ (List.mem_of_getElem? (i := 29) rfl))) (mvT hZW (hw _ (List.mem_of_getElem? (i := 28) rfl))) (by decide) (backOf (W := 0) (rm_next l Z aZ hw [] b_21 b__28 k_4 (own_incL (own_incL (own_first cv bv av))) T_42.heap n0 (Nat.le_trans Z0 K__43.1) f_47 hq_42_3 hq_42_4 (Nat.le_trans Z0 sz_b__28) ne_b_21_b__28 (by rw [own_inclen, own_inclen]; exact (own_firstlen cv bv av))) hZW (hw _ (List.mem_of_getElem? (i := 30) rfl)) (hw _ (List.mem_of_getElem? (i := 8) rfl)) (by decide) (by decide)) q_52a q_52c (g := (mkF m 134 #[Lv av, Zs, Lv bv, Zs, Lv cv, Zs, Iv p4, Iv (((p4.toUInt32 >>> ((3 : Int32) &&& 31).toUInt32).toInt32) &&& (7 : Int32)), Iv (((p4.toUInt32 >>> ((6 : Int32) &&& 31).toUInt32).toInt32) &&& (7 : Int32)), Rv b_4, Rv b_21, Rv r__34, Rv r__42, Us, Us, Us] [(.ref b_21)])) rfl (by rw [hMX]; rfl) (Steps.refl _) (argsL := []) (rest := []) (lenOf pd____B_2 rfl) rfl (by show 2 * 0 + _ ≤ _; exact Nat.le_of_eq rfl) (hb hBY at_134) (fun _ _ => ⟨rfl, rfl, (by decide : 5 + 1 ≤ _), (by decide : 97 + 24 ≤ _)⟩)
    dsimp only [Pt.U, Pt.locs, Pt.cells, Pt.slots] at X_52 l_52 y_52 z_52 st_52 hQ_52
    subst l_52 y_52 z_52
    obtain ⟨r__52, rfl, N_52q, K_52, hq_52_0, hq_52_1, hq_52_2, hq_52_3, hq_52_4⟩ := hQ_52
    have N_52 := Fr.app N_42 N_52q
    have K__53 : Keep h0 T_52.heap [] := K__43.trans K_52 (allS (Or.inr sz_b__28) all0)
    have f_54 : Exa Z T_52.heap b_4 "[B" := f_44.keep K_52
    have f_55 : Arv Z T_52.heap b_4 k_4 .byte (24 : Int32) (own_v (own_first cv bv av)) (.int (0 : Int32)) := f_45.keep K_52 (ninS ne_b_4_b__28 nin0)
    have f_56 : Exa Z T_52.heap b_21 "com/example/tidelog/tidelog/net/Nonce" := f_46.keep K_52
    have f_57 : Fld Z T_52.heap b_21 "com/example/tidelog/tidelog/net/Nonce" "value" "[B" (.ref b__28) := f_47.keep K_52 (ninS ne_b_21_b__28 nin0)
    have f_58 : Exa Z T_52.heap b__28 "[B" := hq_42_4.keep K_52
    have f_59 : Arv Z T_52.heap r__34 k_4 .byte (24 : Int32) (own_v (own_first cv bv av)) (.int (0 : Int32)) := f_49.keep K_52 (ninS (Ne.symm ne_b__28_r__34) nin0)
    have f_60 : Exa Z T_52.heap r__34 "[B" := f_50.keep K_52
    have f_61 : Arv Z T_52.heap r__42 k_4 .byte (24 : Int32) (own_v (own_incL (own_first cv bv av))) (.int (0 : Int32)) := hq_42_0.keep K_52 (ninS (Ne.symm ne_b__28_r__42) nin0)
    have f_62 : Exa Z T_52.heap r__42 "[B" := hq_42_1.keep K_52
    have sz_r__52 : h0.size ≤ r__52 := Nat.le_trans K__43.1 hq_52_2
    have ne_b_4_r__52 : b_4 ≠ r__52 := Nat.ne_of_lt (Nat.lt_of_lt_of_le f_44.lt hq_52_2)
    have ne_b_21_r__52 : b_21 ≠ r__52 := Nat.ne_of_lt (Nat.lt_of_lt_of_le f_46.lt hq_52_2)
    have ne_b__28_r__52 : b__28 ≠ r__52 := Nat.ne_of_lt (Nat.lt_of_lt_of_le hq_42_4.lt hq_52_2)
    have ne_r__34_r__52 : r__34 ≠ r__52 := Nat.ne_of_lt (Nat.lt_of_lt_of_le f_49.lt hq_52_2)
    have ne_r__42_r__52 : r__42 ≠ r__52 := Nat.ne_of_lt (Nat.lt_of_lt_of_le hq_42_0.lt hq_52_2)
    refine Done.pre (fun _ k_ => st_52.trans k_) ?_
    show Done _ _ _ _ _ _ _ (T_52.setTop (mkF m 137 #[Lv av, Zs, Lv bv, Zs, Lv cv, Zs, Iv p4, Iv (((p4.toUInt32 >>> ((3 : Int32) &&& 31).toUInt32).toInt32) &&& (7 : Int32)), Iv (((p4.toUInt32 >>> ((6 : Int32) &&& 31).toUInt32).toInt32) &&& (7 : Int32)), Rv b_4, Rv b_21, Rv r__34, Rv r__42, Us, Us, Us] [(.ref r__52)]))
    have sg_63 : ∀ tt_, Steps p.tables e below (T_52.setTop (mkF m 140 #[Lv av, Zs, Lv bv, Zs, Lv cv, Zs, Iv p4, Iv (((p4.toUInt32 >>> ((3 : Int32) &&& 31).toUInt32).toInt32) &&& (7 : Int32)), Iv (((p4.toUInt32 >>> ((6 : Int32) &&& 31).toUInt32).toInt32) &&& (7 : Int32)), Rv b_4, Rv b_21, Rv r__34, Rv r__42, Rv r__52, Us, Us] [(.int (3 : Int32))])) tt_ → Steps p.tables e below (T_52.setTop (mkF m 137 #[Lv av, Zs, Lv bv, Zs, Lv cv, Zs, Iv p4, Iv (((p4.toUInt32 >>> ((3 : Int32) &&& 31).toUInt32).toInt32) &&& (7 : Int32)), Iv (((p4.toUInt32 >>> ((6 : Int32) &&& 31).toUInt32).toInt32) &&& (7 : Int32)), Rv b_4, Rv b_21, Rv r__34, Rv r__42, Us, Us, Us] [(.ref r__52)])) tt_ := by
      intro tt_ kt_
      refine XS.astore X_52.here hEX rfl (hb hBY at_137) rfl rfl (l' := #[Lv av, Zs, Lv bv, Zs, Lv cv, Zs, Iv p4, Iv (((p4.toUInt32 >>> ((3 : Int32) &&& 31).toUInt32).toInt32) &&& (7 : Int32)), Iv (((p4.toUInt32 >>> ((6 : Int32) &&& 31).toUInt32).toInt32) &&& (7 : Int32)), Rv b_4, Rv b_21, Rv r__34, Rv r__42, Rv r__52, Us, Us]) rfl ?_
      show Steps p.tables e below (T_52.setTop (mkF m 139 #[Lv av, Zs, Lv bv, Zs, Lv cv, Zs, Iv p4, Iv (((p4.toUInt32 >>> ((3 : Int32) &&& 31).toUInt32).toInt32) &&& (7 : Int32)), Iv (((p4.toUInt32 >>> ((6 : Int32) &&& 31).toUInt32).toInt32) &&& (7 : Int32)), Rv b_4, Rv b_21, Rv r__34, Rv r__42, Rv r__52, Us, Us] [])) tt_
      refine XS.iconst X_52.here hEX rfl (hb hBY at_139) ?_
      exact kt_
    refine Done.pre sg_63 ?_
    obtain ⟨T_64, h_64, k_64, X_64, e_64, E_64, A_64, B_64, st_64⟩ := newPE X_52 hEX hZW (hw _ (List.mem_of_getElem? (i := 31) rfl)) rfl (g := (mkF m 140 #[Lv av, Zs, Lv bv, Zs, Lv cv, Zs, Iv p4, Iv (((p4.toUInt32 >>> ((3 : Int32) &&& 31).toUInt32).toInt32) &&& (7 : Int32)), Iv (((p4.toUInt32 >>> ((6 : Int32) &&& 31).toUInt32).toInt32) &&& (7 : Int32)), Rv b_4, Rv b_21, Rv r__34, Rv r__42, Rv r__52, Us, Us] [(.int (3 : Int32))])) rfl (hb hBY at_140) rfl (by decide) (cap := 3) (by decide) (by decide) (by decide) (by decide) (ad := "[J") (by decide)
    obtain ⟨b_64, g_64⟩ : ∃ z, z = T_52.heap.size := ⟨_, rfl⟩
    rw [← g_64] at A_64 B_64 st_64
    have sz_b_64 : h0.size ≤ b_64 := Nat.le_trans K__53.1 (Nat.le_of_eq g_64.symm)
    have ge_b_64 : n0 ≤ b_64 := Nat.le_trans Z0 sz_b_64
    have ne_b_4_b_64 : b_4 ≠ b_64 := Nat.ne_of_lt (Nat.lt_of_lt_of_le f_54.lt (Nat.le_of_eq g_64.symm))
    have ne_b_21_b_64 : b_21 ≠ b_64 := Nat.ne_of_lt (Nat.lt_of_lt_of_le f_56.lt (Nat.le_of_eq g_64.symm))
    have ne_b__28_b_64 : b__28 ≠ b_64 := Nat.ne_of_lt (Nat.lt_of_lt_of_le hq_52_4.lt (Nat.le_of_eq g_64.symm))
    have ne_r__34_b_64 : r__34 ≠ b_64 := Nat.ne_of_lt (Nat.lt_of_lt_of_le f_59.lt (Nat.le_of_eq g_64.symm))
    have ne_r__42_b_64 : r__42 ≠ b_64 := Nat.ne_of_lt (Nat.lt_of_lt_of_le f_61.lt (Nat.le_of_eq g_64.symm))
    have ne_r__52_b_64 : r__52 ≠ b_64 := Nat.ne_of_lt (Nat.lt_of_lt_of_le hq_52_0.lt (Nat.le_of_eq g_64.symm))
    have K__65 : Keep h0 h_64 [] := K__53.ext E_64
    have f_66 : Exa Z h_64 b_4 "[B" := f_54.ext E_64
    have f_67 : Arv Z h_64 b_4 k_4 .byte (24 : Int32) (own_v (own_first cv bv av)) (.int (0 : Int32)) := f_55.ext E_64
    have f_68 : Exa Z h_64 b_21 "com/example/tidelog/tidelog/net/Nonce" := f_56.ext E_64
    have f_69 : Fld Z h_64 b_21 "com/example/tidelog/tidelog/net/Nonce" "value" "[B" (.ref b__28) := f_57.ext E_64
    have f_70 : Exa Z h_64 b__28 "[B" := hq_52_4.ext E_64
    have f_71 : Arv Z h_64 r__34 k_4 .byte (24 : Int32) (own_v (own_first cv bv av)) (.int (0 : Int32)) := f_59.ext E_64
    have f_72 : Exa Z h_64 r__34 "[B" := f_60.ext E_64
    have f_73 : Arv Z h_64 r__42 k_4 .byte (24 : Int32) (own_v (own_incL (own_first cv bv av))) (.int (0 : Int32)) := f_61.ext E_64
    have f_74 : Exa Z h_64 r__42 "[B" := f_62.ext E_64
    have f_75 : Arv Z h_64 r__52 k_4 .byte (24 : Int32) (own_v (own_incL (own_incL (own_first cv bv av)))) (.int (0 : Int32)) := hq_52_0.ext E_64
    have f_76 : Exa Z h_64 r__52 "[B" := hq_52_1.ext E_64
    have f_77 : Arv Z h_64 b__28 k_4 .byte (24 : Int32) (own_v (own_incL (own_incL (own_incL (own_first cv bv av))))) (.int (0 : Int32)) := hq_52_3.ext E_64
    have f_78 : Arv Z h_64 b_64 k_64 .long (3 : Int32) [(.long (0 : Int64)), (.long (0 : Int64)), (.long (0 : Int64))] (.long (0 : Int64)) := (Arv.new A_64 (by decide)).pad (pad_rep [] (.long (0 : Int64)) 3)
    refine Done.pre st_64 ?_
    show Done _ _ _ _ _ _ _ (T_64.setTop (mkF m 142 #[Lv av, Zs, Lv bv, Zs, Lv cv, Zs, Iv p4, Iv (((p4.toUInt32 >>> ((3 : Int32) &&& 31).toUInt32).toInt32) &&& (7 : Int32)), Iv (((p4.toUInt32 >>> ((6 : Int32) &&& 31).toUInt32).toInt32) &&& (7 : Int32)), Rv b_4, Rv b_21, Rv r__34, Rv r__42, Rv r__52, Us, Us] [(.ref b_64)]))
    have sg_80 : ∀ tt_, Steps p.tables e below (T_64.setTop (mkF m 149 #[Lv av, Zs, Lv bv, Zs, Lv cv, Zs, Iv p4, Iv (((p4.toUInt32 >>> ((3 : Int32) &&& 31).toUInt32).toInt32) &&& (7 : Int32)), Iv (((p4.toUInt32 >>> ((6 : Int32) &&& 31).toUInt32).toInt32) &&& (7 : Int32)), Rv b_4, Rv b_21, Rv r__34, Rv r__42, Rv r__52, Rv b_64, Us] [(.long cv), (.int (0 : Int32)), (.ref b_64)])) tt_ → Steps p.tables e below (T_64.setTop (mkF m 142 #[Lv av, Zs, Lv bv, Zs, Lv cv, Zs, Iv p4, Iv (((p4.toUInt32 >>> ((3 : Int32) &&& 31).toUInt32).toInt32) &&& (7 : Int32)), Iv (((p4.toUInt32 >>> ((6 : Int32) &&& 31).toUInt32).toInt32) &&& (7 : Int32)), Rv b_4, Rv b_21, Rv r__34, Rv r__42, Rv r__52, Us, Us] [(.ref b_64)])) tt_ := by
      intro tt_ kt_
      refine XS.astore X_64.here hEX rfl (hb hBY at_142) rfl rfl (l' := #[Lv av, Zs, Lv bv, Zs, Lv cv, Zs, Iv p4, Iv (((p4.toUInt32 >>> ((3 : Int32) &&& 31).toUInt32).toInt32) &&& (7 : Int32)), Iv (((p4.toUInt32 >>> ((6 : Int32) &&& 31).toUInt32).toInt32) &&& (7 : Int32)), Rv b_4, Rv b_21, Rv r__34, Rv r__42, Rv r__52, Rv b_64, Us]) rfl ?_
      show Steps p.tables e below (T_64.setTop (mkF m 144 #[Lv av, Zs, Lv bv, Zs, Lv cv, Zs, Iv p4, Iv (((p4.toUInt32 >>> ((3 : Int32) &&& 31).toUInt32).toInt32) &&& (7 : Int32)), Iv (((p4.toUInt32 >>> ((6 : Int32) &&& 31).toUInt32).toInt32) &&& (7 : Int32)), Rv b_4, Rv b_21, Rv r__34, Rv r__42, Rv r__52, Rv b_64, Us] [])) tt_
      refine XS.aload X_64.here hEX rfl (hb hBY at_144) rfl rfl ?_
      show Steps p.tables e below (T_64.setTop (mkF m 146 #[Lv av, Zs, Lv bv, Zs, Lv cv, Zs, Iv p4, Iv (((p4.toUInt32 >>> ((3 : Int32) &&& 31).toUInt32).toInt32) &&& (7 : Int32)), Iv (((p4.toUInt32 >>> ((6 : Int32) &&& 31).toUInt32).toInt32) &&& (7 : Int32)), Rv b_4, Rv b_21, Rv r__34, Rv r__42, Rv r__52, Rv b_64, Us] [(.ref b_64)])) tt_
      refine XS.iconst X_64.here hEX rfl (hb hBY at_146) ?_
      show Steps p.tables e below (T_64.setTop (mkF m 147 #[Lv av, Zs, Lv bv, Zs, Lv cv, Zs, Iv p4, Iv (((p4.toUInt32 >>> ((3 : Int32) &&& 31).toUInt32).toInt32) &&& (7 : Int32)), Iv (((p4.toUInt32 >>> ((6 : Int32) &&& 31).toUInt32).toInt32) &&& (7 : Int32)), Rv b_4, Rv b_21, Rv r__34, Rv r__42, Rv r__52, Rv b_64, Us] [(.int (0 : Int32)), (.ref b_64)])) tt_
      refine XS.lload X_64.here hEX rfl (hb hBY at_147) rfl ?_
      exact kt_
    refine Done.pre sg_80 ?_
    obtain ⟨cl_79, Ar_79, q_79, S_79, N__79, H_79, G_79⟩ := id f_78
    have hin_79 : ¬ ((0 : Int32) < 0 ∨ cl_79.slots.size ≤ ((0 : Int32)).toNatClampNeg) := inb_of S_79 ⟨by decide, by decide⟩
    obtain ⟨T_81, h_81, X_81, e_81, W_81, st_81⟩ := stJ X_64 hEX hZW e_64 Ar_79 (j := (0 : Int32)) hin_79 (g := (mkF m 149 #[Lv av, Zs, Lv bv, Zs, Lv cv, Zs, Iv p4, Iv (((p4.toUInt32 >>> ((3 : Int32) &&& 31).toUInt32).toInt32) &&& (7 : Int32)), Iv (((p4.toUInt32 >>> ((6 : Int32) &&& 31).toUInt32).toInt32) &&& (7 : Int32)), Rv b_4, Rv b_21, Rv r__34, Rv r__42, Rv r__52, Rv b_64, Us] [(.long cv), (.int (0 : Int32)), (.ref b_64)])) rfl rfl (hb hBY at_149)
    have N_81 := Fr.snoc X_81 N_52 ge_b_64
    have K__82 : Keep h0 h_81 [] := K__65.wr W_81 (Or.inr sz_b_64)
    have f_83 : Exa Z h_81 b_4 "[B" := f_66.wr W_81
    have f_84 : Arv Z h_81 b_4 k_4 .byte (24 : Int32) (own_v (own_first cv bv av)) (.int (0 : Int32)) := f_67.other W_81 ne_b_4_b_64
    have f_85 : Exa Z h_81 b_21 "com/example/tidelog/tidelog/net/Nonce" := f_68.wr W_81
    have f_86 : Fld Z h_81 b_21 "com/example/tidelog/tidelog/net/Nonce" "value" "[B" (.ref b__28) := f_69.other W_81 (Or.inl ne_b_21_b_64)
    have f_87 : Exa Z h_81 b__28 "[B" := f_70.wr W_81
    have f_88 : Arv Z h_81 r__34 k_4 .byte (24 : Int32) (own_v (own_first cv bv av)) (.int (0 : Int32)) := f_71.other W_81 ne_r__34_b_64
    have f_89 : Exa Z h_81 r__34 "[B" := f_72.wr W_81
    have f_90 : Arv Z h_81 r__42 k_4 .byte (24 : Int32) (own_v (own_incL (own_first cv bv av))) (.int (0 : Int32)) := f_73.other W_81 ne_r__42_b_64
    have f_91 : Exa Z h_81 r__42 "[B" := f_74.wr W_81
    have f_92 : Arv Z h_81 r__52 k_4 .byte (24 : Int32) (own_v (own_incL (own_incL (own_first cv bv av)))) (.int (0 : Int32)) := f_75.other W_81 ne_r__52_b_64
    have f_93 : Exa Z h_81 r__52 "[B" := f_76.wr W_81
    have f_94 : Arv Z h_81 b__28 k_4 .byte (24 : Int32) (own_v (own_incL (own_incL (own_incL (own_first cv bv av))))) (.int (0 : Int32)) := f_77.other W_81 ne_b__28_b_64
    have f_95 : Exa Z h_81 b_64 "[J" := B_64.wr W_81
    have f_96 : Arv Z h_81 b_64 k_64 .long (3 : Int32) [(.long cv), (.long (0 : Int64)), (.long (0 : Int64))] (.long (0 : Int64)) := Arv.set Ar_79 q_79 S_79 N__79 H_79 G_79 rfl W_81 0 rfl (Nat.le_of_ble_eq_true rfl)
    refine Done.pre st_81 ?_
    show Done _ _ _ _ _ _ _ (T_81.setTop (mkF m 150 #[Lv av, Zs, Lv bv, Zs, Lv cv, Zs, Iv p4, Iv (((p4.toUInt32 >>> ((3 : Int32) &&& 31).toUInt32).toInt32) &&& (7 : Int32)), Iv (((p4.toUInt32 >>> ((6 : Int32) &&& 31).toUInt32).toInt32) &&& (7 : Int32)), Rv b_4, Rv b_21, Rv r__34, Rv r__42, Rv r__52, Rv b_64, Us] []))
    have sg_98 : ∀ tt_, Steps p.tables e below (T_81.setTop (mkF m 154 #[Lv av, Zs, Lv bv, Zs, Lv cv, Zs, Iv p4, Iv (((p4.toUInt32 >>> ((3 : Int32) &&& 31).toUInt32).toInt32) &&& (7 : Int32)), Iv (((p4.toUInt32 >>> ((6 : Int32) &&& 31).toUInt32).toInt32) &&& (7 : Int32)), Rv b_4, Rv b_21, Rv r__34, Rv r__42, Rv r__52, Rv b_64, Us] [(.long bv), (.int (1 : Int32)), (.ref b_64)])) tt_ → Steps p.tables e below (T_81.setTop (mkF m 150 #[Lv av, Zs, Lv bv, Zs, Lv cv, Zs, Iv p4, Iv (((p4.toUInt32 >>> ((3 : Int32) &&& 31).toUInt32).toInt32) &&& (7 : Int32)), Iv (((p4.toUInt32 >>> ((6 : Int32) &&& 31).toUInt32).toInt32) &&& (7 : Int32)), Rv b_4, Rv b_21, Rv r__34, Rv r__42, Rv r__52, Rv b_64, Us] [])) tt_ := by
      intro tt_ kt_
      refine XS.aload X_81.here hEX rfl (hb hBY at_150) rfl rfl ?_
      show Steps p.tables e below (T_81.setTop (mkF m 152 #[Lv av, Zs, Lv bv, Zs, Lv cv, Zs, Iv p4, Iv (((p4.toUInt32 >>> ((3 : Int32) &&& 31).toUInt32).toInt32) &&& (7 : Int32)), Iv (((p4.toUInt32 >>> ((6 : Int32) &&& 31).toUInt32).toInt32) &&& (7 : Int32)), Rv b_4, Rv b_21, Rv r__34, Rv r__42, Rv r__52, Rv b_64, Us] [(.ref b_64)])) tt_
      refine XS.iconst X_81.here hEX rfl (hb hBY at_152) ?_
      show Steps p.tables e below (T_81.setTop (mkF m 153 #[Lv av, Zs, Lv bv, Zs, Lv cv, Zs, Iv p4, Iv (((p4.toUInt32 >>> ((3 : Int32) &&& 31).toUInt32).toInt32) &&& (7 : Int32)), Iv (((p4.toUInt32 >>> ((6 : Int32) &&& 31).toUInt32).toInt32) &&& (7 : Int32)), Rv b_4, Rv b_21, Rv r__34, Rv r__42, Rv r__52, Rv b_64, Us] [(.int (1 : Int32)), (.ref b_64)])) tt_
      refine XS.lloadN X_81.here hEX rfl (hb hBY at_153) rfl ?_
      exact kt_
    refine Done.pre sg_98 ?_
    obtain ⟨cl_97, Ar_97, q_97, S_97, N__97, H_97, G_97⟩ := id f_96
    have hin_97 : ¬ ((1 : Int32) < 0 ∨ cl_97.slots.size ≤ ((1 : Int32)).toNatClampNeg) := inb_of S_97 ⟨by decide, by decide⟩
    obtain ⟨T_99, h_99, X_99, e_99, W_99, st_99⟩ := stJ X_81 hEX hZW e_81 Ar_97 (j := (1 : Int32)) hin_97 (g := (mkF m 154 #[Lv av, Zs, Lv bv, Zs, Lv cv, Zs, Iv p4, Iv (((p4.toUInt32 >>> ((3 : Int32) &&& 31).toUInt32).toInt32) &&& (7 : Int32)), Iv (((p4.toUInt32 >>> ((6 : Int32) &&& 31).toUInt32).toInt32) &&& (7 : Int32)), Rv b_4, Rv b_21, Rv r__34, Rv r__42, Rv r__52, Rv b_64, Us] [(.long bv), (.int (1 : Int32)), (.ref b_64)])) rfl rfl (hb hBY at_154)
    have N_99 := Fr.snoc X_99 N_81 ge_b_64
    have K__100 : Keep h0 h_99 [] := K__82.wr W_99 (Or.inr sz_b_64)
    have f_101 : Exa Z h_99 b_4 "[B" := f_83.wr W_99
    have f_102 : Arv Z h_99 b_4 k_4 .byte (24 : Int32) (own_v (own_first cv bv av)) (.int (0 : Int32)) := f_84.other W_99 ne_b_4_b_64
    have f_103 : Exa Z h_99 b_21 "com/example/tidelog/tidelog/net/Nonce" := f_85.wr W_99
    have f_104 : Fld Z h_99 b_21 "com/example/tidelog/tidelog/net/Nonce" "value" "[B" (.ref b__28) := f_86.other W_99 (Or.inl ne_b_21_b_64)
    have f_105 : Exa Z h_99 b__28 "[B" := f_87.wr W_99
    have f_106 : Arv Z h_99 r__34 k_4 .byte (24 : Int32) (own_v (own_first cv bv av)) (.int (0 : Int32)) := f_88.other W_99 ne_r__34_b_64
    have f_107 : Exa Z h_99 r__34 "[B" := f_89.wr W_99
    have f_108 : Arv Z h_99 r__42 k_4 .byte (24 : Int32) (own_v (own_incL (own_first cv bv av))) (.int (0 : Int32)) := f_90.other W_99 ne_r__42_b_64
    have f_109 : Exa Z h_99 r__42 "[B" := f_91.wr W_99
    have f_110 : Arv Z h_99 r__52 k_4 .byte (24 : Int32) (own_v (own_incL (own_incL (own_first cv bv av)))) (.int (0 : Int32)) := f_92.other W_99 ne_r__52_b_64
    have f_111 : Exa Z h_99 r__52 "[B" := f_93.wr W_99
    have f_112 : Arv Z h_99 b__28 k_4 .byte (24 : Int32) (own_v (own_incL (own_incL (own_incL (own_first cv bv av))))) (.int (0 : Int32)) := f_94.other W_99 ne_b__28_b_64
    have f_113 : Exa Z h_99 b_64 "[J" := f_95.wr W_99
    have f_114 : Arv Z h_99 b_64 k_64 .long (3 : Int32) [(.long cv), (.long bv), (.long (0 : Int64))] (.long (0 : Int64)) := Arv.set Ar_97 q_97 S_97 N__97 H_97 G_97 rfl W_99 1 rfl (Nat.le_of_ble_eq_true rfl)
    refine Done.pre st_99 ?_
    show Done _ _ _ _ _ _ _ (T_99.setTop (mkF m 155 #[Lv av, Zs, Lv bv, Zs, Lv cv, Zs, Iv p4, Iv (((p4.toUInt32 >>> ((3 : Int32) &&& 31).toUInt32).toInt32) &&& (7 : Int32)), Iv (((p4.toUInt32 >>> ((6 : Int32) &&& 31).toUInt32).toInt32) &&& (7 : Int32)), Rv b_4, Rv b_21, Rv r__34, Rv r__42, Rv r__52, Rv b_64, Us] []))
    have sg_116 : ∀ tt_, Steps p.tables e below (T_99.setTop (mkF m 159 #[Lv av, Zs, Lv bv, Zs, Lv cv, Zs, Iv p4, Iv (((p4.toUInt32 >>> ((3 : Int32) &&& 31).toUInt32).toInt32) &&& (7 : Int32)), Iv (((p4.toUInt32 >>> ((6 : Int32) &&& 31).toUInt32).toInt32) &&& (7 : Int32)), Rv b_4, Rv b_21, Rv r__34, Rv r__42, Rv r__52, Rv b_64, Us] [(.long av), (.int (2 : Int32)), (.ref b_64)])) tt_ → Steps p.tables e below (T_99.setTop (mkF m 155 #[Lv av, Zs, Lv bv, Zs, Lv cv, Zs, Iv p4, Iv (((p4.toUInt32 >>> ((3 : Int32) &&& 31).toUInt32).toInt32) &&& (7 : Int32)), Iv (((p4.toUInt32 >>> ((6 : Int32) &&& 31).toUInt32).toInt32) &&& (7 : Int32)), Rv b_4, Rv b_21, Rv r__34, Rv r__42, Rv r__52, Rv b_64, Us] [])) tt_ := by
      intro tt_ kt_
      refine XS.aload X_99.here hEX rfl (hb hBY at_155) rfl rfl ?_
      show Steps p.tables e below (T_99.setTop (mkF m 157 #[Lv av, Zs, Lv bv, Zs, Lv cv, Zs, Iv p4, Iv (((p4.toUInt32 >>> ((3 : Int32) &&& 31).toUInt32).toInt32) &&& (7 : Int32)), Iv (((p4.toUInt32 >>> ((6 : Int32) &&& 31).toUInt32).toInt32) &&& (7 : Int32)), Rv b_4, Rv b_21, Rv r__34, Rv r__42, Rv r__52, Rv b_64, Us] [(.ref b_64)])) tt_
      refine XS.iconst X_99.here hEX rfl (hb hBY at_157) ?_
      show Steps p.tables e below (T_99.setTop (mkF m 158 #[Lv av, Zs, Lv bv, Zs, Lv cv, Zs, Iv p4, Iv (((p4.toUInt32 >>> ((3 : Int32) &&& 31).toUInt32).toInt32) &&& (7 : Int32)), Iv (((p4.toUInt32 >>> ((6 : Int32) &&& 31).toUInt32).toInt32) &&& (7 : Int32)), Rv b_4, Rv b_21, Rv r__34, Rv r__42, Rv r__52, Rv b_64, Us] [(.int (2 : Int32)), (.ref b_64)])) tt_
      refine XS.lloadN X_99.here hEX rfl (hb hBY at_158) rfl ?_
      exact kt_
    refine Done.pre sg_116 ?_
    obtain ⟨cl_115, Ar_115, q_115, S_115, N__115, H_115, G_115⟩ := id f_114
    have hin_115 : ¬ ((2 : Int32) < 0 ∨ cl_115.slots.size ≤ ((2 : Int32)).toNatClampNeg) := inb_of S_115 ⟨by decide, by decide⟩
    obtain ⟨T_117, h_117, X_117, e_117, W_117, st_117⟩ := stJ X_99 hEX hZW e_99 Ar_115 (j := (2 : Int32)) hin_115 (g := (mkF m 159 #[Lv av, Zs, Lv bv, Zs, Lv cv, Zs, Iv p4, Iv (((p4.toUInt32 >>> ((3 : Int32) &&& 31).toUInt32).toInt32) &&& (7 : Int32)), Iv (((p4.toUInt32 >>> ((6 : Int32) &&& 31).toUInt32).toInt32) &&& (7 : Int32)), Rv b_4, Rv b_21, Rv r__34, Rv r__42, Rv r__52, Rv b_64, Us] [(.long av), (.int (2 : Int32)), (.ref b_64)])) rfl rfl (hb hBY at_159)
    have N_117 := Fr.snoc X_117 N_99 ge_b_64
    have K__118 : Keep h0 h_117 [] := K__100.wr W_117 (Or.inr sz_b_64)
    have f_119 : Exa Z h_117 b_4 "[B" := f_101.wr W_117
    have f_120 : Arv Z h_117 b_4 k_4 .byte (24 : Int32) (own_v (own_first cv bv av)) (.int (0 : Int32)) := f_102.other W_117 ne_b_4_b_64
    have f_121 : Exa Z h_117 b_21 "com/example/tidelog/tidelog/net/Nonce" := f_103.wr W_117
    have f_122 : Fld Z h_117 b_21 "com/example/tidelog/tidelog/net/Nonce" "value" "[B" (.ref b__28) := f_104.other W_117 (Or.inl ne_b_21_b_64)
    have f_123 : Exa Z h_117 b__28 "[B" := f_105.wr W_117
    have f_124 : Arv Z h_117 r__34 k_4 .byte (24 : Int32) (own_v (own_first cv bv av)) (.int (0 : Int32)) := f_106.other W_117 ne_r__34_b_64
    have f_125 : Exa Z h_117 r__34 "[B" := f_107.wr W_117
    have f_126 : Arv Z h_117 r__42 k_4 .byte (24 : Int32) (own_v (own_incL (own_first cv bv av))) (.int (0 : Int32)) := f_108.other W_117 ne_r__42_b_64
    have f_127 : Exa Z h_117 r__42 "[B" := f_109.wr W_117
    have f_128 : Arv Z h_117 r__52 k_4 .byte (24 : Int32) (own_v (own_incL (own_incL (own_first cv bv av)))) (.int (0 : Int32)) := f_110.other W_117 ne_r__52_b_64
    have f_129 : Exa Z h_117 r__52 "[B" := f_111.wr W_117
    have f_130 : Arv Z h_117 b__28 k_4 .byte (24 : Int32) (own_v (own_incL (own_incL (own_incL (own_first cv bv av))))) (.int (0 : Int32)) := f_112.other W_117 ne_b__28_b_64
    have f_131 : Exa Z h_117 b_64 "[J" := f_113.wr W_117
    have f_132 : Arv Z h_117 b_64 k_64 .long (3 : Int32) [(.long cv), (.long bv), (.long av)] (.long (0 : Int64)) := Arv.set Ar_115 q_115 S_115 N__115 H_115 G_115 rfl W_117 2 rfl (Nat.le_of_ble_eq_true rfl)
    refine Done.pre st_117 ?_
    show Done _ _ _ _ _ _ _ (T_117.setTop (mkF m 160 #[Lv av, Zs, Lv bv, Zs, Lv cv, Zs, Iv p4, Iv (((p4.toUInt32 >>> ((3 : Int32) &&& 31).toUInt32).toInt32) &&& (7 : Int32)), Iv (((p4.toUInt32 >>> ((6 : Int32) &&& 31).toUInt32).toInt32) &&& (7 : Int32)), Rv b_4, Rv b_21, Rv r__34, Rv r__42, Rv r__52, Rv b_64, Us] []))
    have sg_133 : ∀ tt_, Steps p.tables e below (T_117.setTop (mkF m 164 #[Lv av, Zs, Lv bv, Zs, Lv cv, Zs, Iv p4, Iv (((p4.toUInt32 >>> ((3 : Int32) &&& 31).toUInt32).toInt32) &&& (7 : Int32)), Iv (((p4.toUInt32 >>> ((6 : Int32) &&& 31).toUInt32).toInt32) &&& (7 : Int32)), Rv b_4, Rv b_21, Rv r__34, Rv r__42, Rv r__52, Rv b_64, Us] [(.ref b_64), (.ref r__34)])) tt_ → Steps p.tables e below (T_117.setTop (mkF m 160 #[Lv av, Zs, Lv bv, Zs, Lv cv, Zs, Iv p4, Iv (((p4.toUInt32 >>> ((3 : Int32) &&& 31).toUInt32).toInt32) &&& (7 : Int32)), Iv (((p4.toUInt32 >>> ((6 : Int32) &&& 31).toUInt32).toInt32) &&& (7 : Int32)), Rv b_4, Rv b_21, Rv r__34, Rv r__42, Rv r__52, Rv b_64, Us] [])) tt_ := by
      intro tt_ kt_
      refine XS.aload X_117.here hEX rfl (hb hBY at_160) rfl rfl ?_
      show Steps p.tables e below (T_117.setTop (mkF m 162 #[Lv av, Zs, Lv bv, Zs, Lv cv, Zs, Iv p4, Iv (((p4.toUInt32 >>> ((3 : Int32) &&& 31).toUInt32).toInt32) &&& (7 : Int32)), Iv (((p4.toUInt32 >>> ((6 : Int32) &&& 31).toUInt32).toInt32) &&& (7 : Int32)), Rv b_4, Rv b_21, Rv r__34, Rv r__42, Rv r__52, Rv b_64, Us] [(.ref r__34)])) tt_
      refine XS.aload X_117.here hEX rfl (hb hBY at_162) rfl rfl ?_
      exact kt_
    refine Done.pre sg_133 ?_
    obtain ⟨_, _, ⟨T_134, L_134, k_134, n_134⟩, -, X_134, ⟨Lc_134, hQ_134, l_134, y_134, z_134⟩, st_134⟩ := Jvm.LawKit.callS X_117 hEX (y := (⟨"com/example/tidelog/tidelog/net/NonceNextPinLaw", "same", "([B[J)Z"⟩ : MethodName)) hOW (mvT hZW (hw _ (List.mem_of_getElem? (i := 32) rfl))) (mvT hZW (hw _ (List.mem_of_getElem? (i := 33) rfl))) (mvT hZW (hw _ (List.mem_of_getElem? (i := 4) rfl))) (mvT hZW (hw _ (List.mem_of_getElem? (i := 34) rfl))) (by decide) (backOf (W := 0) (rm_same l Z aZ hw [] r__34 b_64 (own_first cv bv av) k_4 k_64 cv bv av h_117 n0 (Nat.le_trans Z0 K__118.1) f_124 f_132 (own_ok0 cv bv av)) hZW (hw _ (List.mem_of_getElem? (i := 34) rfl)) (hw _ (List.mem_of_getElem? (i := 4) rfl)) (by decide) (by decide)) (g := (mkF m 164 #[Lv av, Zs, Lv bv, Zs, Lv cv, Zs, Iv p4, Iv (((p4.toUInt32 >>> ((3 : Int32) &&& 31).toUInt32).toInt32) &&& (7 : Int32)), Iv (((p4.toUInt32 >>> ((6 : Int32) &&& 31).toUInt32).toInt32) &&& (7 : Int32)), Rv b_4, Rv b_21, Rv r__34, Rv r__42, Rv r__52, Rv b_64, Us] [(.ref b_64), (.ref r__34)])) rfl (by rw [hMX]; rfl) (argsL := [(.ref r__34), (.ref b_64)]) (rest := []) (lenOf pd___B_J_Z_6 rfl) rfl (by show 2 * 0 + _ ≤ _; exact Nat.le_of_eq rfl) (hb hBY at_164) (fun _ _ => ⟨rfl, e_117, (by decide : 7 + 0 ≤ _), (by decide : 124 + 0 ≤ _)⟩)
    dsimp only [Pt.U, Pt.locs, Pt.cells, Pt.slots] at X_134 l_134 y_134 z_134 st_134 hQ_134
    subst l_134 y_134 z_134
    obtain ⟨rfl, N_134q, e_134⟩ := hQ_134
    have N_134 := Fr.app N_117 N_134q
    refine Done.pre (fun _ k_ => st_134 _ k_) ?_
    show Done _ _ _ _ _ _ _ (T_134.setTop (mkF m 167 #[Lv av, Zs, Lv bv, Zs, Lv cv, Zs, Iv p4, Iv (((p4.toUInt32 >>> ((3 : Int32) &&& 31).toUInt32).toInt32) &&& (7 : Int32)), Iv (((p4.toUInt32 >>> ((6 : Int32) &&& 31).toUInt32).toInt32) &&& (7 : Int32)), Rv b_4, Rv b_21, Rv r__34, Rv r__42, Rv r__52, Rv b_64, Us] [(.int (1 : Int32))]))
    have sg_135 : ∀ tt_, Steps p.tables e below (T_134.setTop (mkF m 171 #[Lv av, Zs, Lv bv, Zs, Lv cv, Zs, Iv p4, Iv (((p4.toUInt32 >>> ((3 : Int32) &&& 31).toUInt32).toInt32) &&& (7 : Int32)), Iv (((p4.toUInt32 >>> ((6 : Int32) &&& 31).toUInt32).toInt32) &&& (7 : Int32)), Rv b_4, Rv b_21, Rv r__34, Rv r__42, Rv r__52, Rv b_64, Iv (1 : Int32)] [(.ref b_64)])) tt_ → Steps p.tables e below (T_134.setTop (mkF m 167 #[Lv av, Zs, Lv bv, Zs, Lv cv, Zs, Iv p4, Iv (((p4.toUInt32 >>> ((3 : Int32) &&& 31).toUInt32).toInt32) &&& (7 : Int32)), Iv (((p4.toUInt32 >>> ((6 : Int32) &&& 31).toUInt32).toInt32) &&& (7 : Int32)), Rv b_4, Rv b_21, Rv r__34, Rv r__42, Rv r__52, Rv b_64, Us] [(.int (1 : Int32))])) tt_ := by
      intro tt_ kt_
      refine XS.istore X_134.here hEX rfl (hb hBY at_167) rfl (l' := #[Lv av, Zs, Lv bv, Zs, Lv cv, Zs, Iv p4, Iv (((p4.toUInt32 >>> ((3 : Int32) &&& 31).toUInt32).toInt32) &&& (7 : Int32)), Iv (((p4.toUInt32 >>> ((6 : Int32) &&& 31).toUInt32).toInt32) &&& (7 : Int32)), Rv b_4, Rv b_21, Rv r__34, Rv r__42, Rv r__52, Rv b_64, Iv (1 : Int32)]) rfl ?_
      show Steps p.tables e below (T_134.setTop (mkF m 169 #[Lv av, Zs, Lv bv, Zs, Lv cv, Zs, Iv p4, Iv (((p4.toUInt32 >>> ((3 : Int32) &&& 31).toUInt32).toInt32) &&& (7 : Int32)), Iv (((p4.toUInt32 >>> ((6 : Int32) &&& 31).toUInt32).toInt32) &&& (7 : Int32)), Rv b_4, Rv b_21, Rv r__34, Rv r__42, Rv r__52, Rv b_64, Iv (1 : Int32)] [])) tt_
      refine XS.aload X_134.here hEX rfl (hb hBY at_169) rfl rfl ?_
      exact kt_
    refine Done.pre sg_135 ?_
    obtain ⟨_, _, ⟨T_136, L_136, k_136, n_136⟩, -, X_136, ⟨Lc_136, hQ_136, l_136, y_136, z_136⟩, st_136⟩ := Jvm.LawKit.callS X_134 hEX (y := (⟨"com/example/tidelog/tidelog/net/NonceNextPinLaw", "inc", "([J)V"⟩ : MethodName)) hOW (mvT hZW (hw _ (List.mem_of_getElem? (i := 38) rfl))) (mvT hZW (hw _ (List.mem_of_getElem? (i := 39) rfl))) (mvT hZW (hw _ (List.mem_of_getElem? (i := 4) rfl))) (mvT hZW (hw _ (List.mem_of_getElem? (i := 40) rfl))) (by decide) (backOf (W := 0) (rm_inc l Z aZ hw [] b_64 k_64 cv bv av h_117 n0 (Nat.le_trans Z0 K__118.1) f_132 ge_b_64) hZW (hw _ (List.mem_of_getElem? (i := 40) rfl)) (hw _ (List.mem_of_getElem? (i := 4) rfl)) (by decide) (by decide)) (g := (mkF m 171 #[Lv av, Zs, Lv bv, Zs, Lv cv, Zs, Iv p4, Iv (((p4.toUInt32 >>> ((3 : Int32) &&& 31).toUInt32).toInt32) &&& (7 : Int32)), Iv (((p4.toUInt32 >>> ((6 : Int32) &&& 31).toUInt32).toInt32) &&& (7 : Int32)), Rv b_4, Rv b_21, Rv r__34, Rv r__42, Rv r__52, Rv b_64, Iv (1 : Int32)] [(.ref b_64)])) rfl (by rw [hMX]; rfl) (argsL := [(.ref b_64)]) (rest := []) (lenOf pd___J_V_7 rfl) rfl (by show 2 * 0 + _ ≤ _; exact Nat.le_of_eq rfl) (hb hBY at_171) (fun _ _ => ⟨rfl, e_134, (by decide : 7 + 0 ≤ _), (by decide : 124 + 0 ≤ _)⟩)
    dsimp only [Pt.U, Pt.locs, Pt.cells, Pt.slots] at X_136 l_136 y_136 z_136 st_136 hQ_136
    subst l_136 y_136 z_136
    obtain ⟨rfl, N_136q, K_136, hq_136_0⟩ := hQ_136
    have N_136 := Fr.app N_134 N_136q
    have K__137 : Keep h0 T_136.heap [] := K__118.trans K_136 (allS (Or.inr sz_b_64) all0)
    have f_138 : Exa Z T_136.heap b_4 "[B" := f_119.keep K_136
    have f_139 : Arv Z T_136.heap b_4 k_4 .byte (24 : Int32) (own_v (own_first cv bv av)) (.int (0 : Int32)) := f_120.keep K_136 (ninS ne_b_4_b_64 nin0)
    have f_140 : Exa Z T_136.heap b_21 "com/example/tidelog/tidelog/net/Nonce" := f_121.keep K_136
    have f_141 : Fld Z T_136.heap b_21 "com/example/tidelog/tidelog/net/Nonce" "value" "[B" (.ref b__28) := f_122.keep K_136 (ninS ne_b_21_b_64 nin0)
    have f_142 : Exa Z T_136.heap b__28 "[B" := f_123.keep K_136
    have f_143 : Arv Z T_136.heap r__34 k_4 .byte (24 : Int32) (own_v (own_first cv bv av)) (.int (0 : Int32)) := f_124.keep K_136 (ninS ne_r__34_b_64 nin0)
    have f_144 : Exa Z T_136.heap r__34 "[B" := f_125.keep K_136
    have f_145 : Arv Z T_136.heap r__42 k_4 .byte (24 : Int32) (own_v (own_incL (own_first cv bv av))) (.int (0 : Int32)) := f_126.keep K_136 (ninS ne_r__42_b_64 nin0)
    have f_146 : Exa Z T_136.heap r__42 "[B" := f_127.keep K_136
    have f_147 : Arv Z T_136.heap r__52 k_4 .byte (24 : Int32) (own_v (own_incL (own_incL (own_first cv bv av)))) (.int (0 : Int32)) := f_128.keep K_136 (ninS ne_r__52_b_64 nin0)
    have f_148 : Exa Z T_136.heap r__52 "[B" := f_129.keep K_136
    have f_149 : Arv Z T_136.heap b__28 k_4 .byte (24 : Int32) (own_v (own_incL (own_incL (own_incL (own_first cv bv av))))) (.int (0 : Int32)) := f_130.keep K_136 (ninS ne_b__28_b_64 nin0)
    have f_150 : Exa Z T_136.heap b_64 "[J" := f_131.keep K_136
    refine Done.pre (fun _ k_ => st_136 _ k_) ?_
    show Done _ _ _ _ _ _ _ (T_136.setTop (mkF m 174 #[Lv av, Zs, Lv bv, Zs, Lv cv, Zs, Iv p4, Iv (((p4.toUInt32 >>> ((3 : Int32) &&& 31).toUInt32).toInt32) &&& (7 : Int32)), Iv (((p4.toUInt32 >>> ((6 : Int32) &&& 31).toUInt32).toInt32) &&& (7 : Int32)), Rv b_4, Rv b_21, Rv r__34, Rv r__42, Rv r__52, Rv b_64, Iv (1 : Int32)] []))
    have sg_151 : ∀ tt_, Steps p.tables e below (T_136.setTop (mkF m 183 #[Lv av, Zs, Lv bv, Zs, Lv cv, Zs, Iv p4, Iv (((p4.toUInt32 >>> ((3 : Int32) &&& 31).toUInt32).toInt32) &&& (7 : Int32)), Iv (((p4.toUInt32 >>> ((6 : Int32) &&& 31).toUInt32).toInt32) &&& (7 : Int32)), Rv b_4, Rv b_21, Rv r__34, Rv r__42, Rv r__52, Rv b_64, Iv (1 : Int32)] [(.ref b_64), (.ref r__42)])) tt_ → Steps p.tables e below (T_136.setTop (mkF m 174 #[Lv av, Zs, Lv bv, Zs, Lv cv, Zs, Iv p4, Iv (((p4.toUInt32 >>> ((3 : Int32) &&& 31).toUInt32).toInt32) &&& (7 : Int32)), Iv (((p4.toUInt32 >>> ((6 : Int32) &&& 31).toUInt32).toInt32) &&& (7 : Int32)), Rv b_4, Rv b_21, Rv r__34, Rv r__42, Rv r__52, Rv b_64, Iv (1 : Int32)] [])) tt_ := by
      intro tt_ kt_
      refine XS.iload X_136.here hEX rfl (hb hBY at_174) rfl ?_
      show Steps p.tables e below (T_136.setTop (mkF m 176 #[Lv av, Zs, Lv bv, Zs, Lv cv, Zs, Iv p4, Iv (((p4.toUInt32 >>> ((3 : Int32) &&& 31).toUInt32).toInt32) &&& (7 : Int32)), Iv (((p4.toUInt32 >>> ((6 : Int32) &&& 31).toUInt32).toInt32) &&& (7 : Int32)), Rv b_4, Rv b_21, Rv r__34, Rv r__42, Rv r__52, Rv b_64, Iv (1 : Int32)] [(.int (1 : Int32))])) tt_
      refine XS.ifNo X_136.here hEX rfl (hb hBY at_176) rfl ((if0 _ _).trans (feq (by decide : ¬ ((1 : Int32) = (0 : Int32)))).1) ?_
      show Steps p.tables e below (T_136.setTop (mkF m 179 #[Lv av, Zs, Lv bv, Zs, Lv cv, Zs, Iv p4, Iv (((p4.toUInt32 >>> ((3 : Int32) &&& 31).toUInt32).toInt32) &&& (7 : Int32)), Iv (((p4.toUInt32 >>> ((6 : Int32) &&& 31).toUInt32).toInt32) &&& (7 : Int32)), Rv b_4, Rv b_21, Rv r__34, Rv r__42, Rv r__52, Rv b_64, Iv (1 : Int32)] [])) tt_
      refine XS.aload X_136.here hEX rfl (hb hBY at_179) rfl rfl ?_
      show Steps p.tables e below (T_136.setTop (mkF m 181 #[Lv av, Zs, Lv bv, Zs, Lv cv, Zs, Iv p4, Iv (((p4.toUInt32 >>> ((3 : Int32) &&& 31).toUInt32).toInt32) &&& (7 : Int32)), Iv (((p4.toUInt32 >>> ((6 : Int32) &&& 31).toUInt32).toInt32) &&& (7 : Int32)), Rv b_4, Rv b_21, Rv r__34, Rv r__42, Rv r__52, Rv b_64, Iv (1 : Int32)] [(.ref r__42)])) tt_
      refine XS.aload X_136.here hEX rfl (hb hBY at_181) rfl rfl ?_
      exact kt_
    refine Done.pre sg_151 ?_
    obtain ⟨_, _, ⟨T_152, L_152, k_152, n_152⟩, -, X_152, ⟨Lc_152, hQ_152, l_152, y_152, z_152⟩, st_152⟩ := Jvm.LawKit.callS X_136 hEX (y := (⟨"com/example/tidelog/tidelog/net/NonceNextPinLaw", "same", "([B[J)Z"⟩ : MethodName)) hOW (mvT hZW (hw _ (List.mem_of_getElem? (i := 32) rfl))) (mvT hZW (hw _ (List.mem_of_getElem? (i := 33) rfl))) (mvT hZW (hw _ (List.mem_of_getElem? (i := 4) rfl))) (mvT hZW (hw _ (List.mem_of_getElem? (i := 34) rfl))) (by decide) (backOf (W := 0) (rm_same l Z aZ hw [] r__42 b_64 (own_incL (own_first cv bv av)) k_4 k_64 (own_i0 cv bv av) (own_i1 bv av) (av + (1 : Int64)) T_136.heap n0 (Nat.le_trans Z0 K__137.1) f_145 hq_136_0 (own_step _ _ _ _ (own_firstlen cv bv av) (own_ok0 cv bv av))) hZW (hw _ (List.mem_of_getElem? (i := 34) rfl)) (hw _ (List.mem_of_getElem? (i := 4) rfl)) (by decide) (by decide)) (g := (mkF m 183 #[Lv av, Zs, Lv bv, Zs, Lv cv, Zs, Iv p4, Iv (((p4.toUInt32 >>> ((3 : Int32) &&& 31).toUInt32).toInt32) &&& (7 : Int32)), Iv (((p4.toUInt32 >>> ((6 : Int32) &&& 31).toUInt32).toInt32) &&& (7 : Int32)), Rv b_4, Rv b_21, Rv r__34, Rv r__42, Rv r__52, Rv b_64, Iv (1 : Int32)] [(.ref b_64), (.ref r__42)])) rfl (by rw [hMX]; rfl) (argsL := [(.ref r__42), (.ref b_64)]) (rest := []) (lenOf pd___B_J_Z_6 rfl) rfl (by show 2 * 0 + _ ≤ _; exact Nat.le_of_eq rfl) (hb hBY at_183) (fun _ _ => ⟨rfl, rfl, (by decide : 7 + 0 ≤ _), (by decide : 124 + 0 ≤ _)⟩)
    dsimp only [Pt.U, Pt.locs, Pt.cells, Pt.slots] at X_152 l_152 y_152 z_152 st_152 hQ_152
    subst l_152 y_152 z_152
    obtain ⟨rfl, N_152q, e_152⟩ := hQ_152
    have N_152 := Fr.app N_136 N_152q
    refine Done.pre (fun _ k_ => st_152 _ k_) ?_
    show Done _ _ _ _ _ _ _ (T_152.setTop (mkF m 186 #[Lv av, Zs, Lv bv, Zs, Lv cv, Zs, Iv p4, Iv (((p4.toUInt32 >>> ((3 : Int32) &&& 31).toUInt32).toInt32) &&& (7 : Int32)), Iv (((p4.toUInt32 >>> ((6 : Int32) &&& 31).toUInt32).toInt32) &&& (7 : Int32)), Rv b_4, Rv b_21, Rv r__34, Rv r__42, Rv r__52, Rv b_64, Iv (1 : Int32)] [(.int (1 : Int32))]))
    have sg_153 : ∀ tt_, Steps p.tables e below (T_152.setTop (mkF m 198 #[Lv av, Zs, Lv bv, Zs, Lv cv, Zs, Iv p4, Iv (((p4.toUInt32 >>> ((3 : Int32) &&& 31).toUInt32).toInt32) &&& (7 : Int32)), Iv (((p4.toUInt32 >>> ((6 : Int32) &&& 31).toUInt32).toInt32) &&& (7 : Int32)), Rv b_4, Rv b_21, Rv r__34, Rv r__42, Rv r__52, Rv b_64, Iv (1 : Int32)] [(.ref b_64)])) tt_ → Steps p.tables e below (T_152.setTop (mkF m 186 #[Lv av, Zs, Lv bv, Zs, Lv cv, Zs, Iv p4, Iv (((p4.toUInt32 >>> ((3 : Int32) &&& 31).toUInt32).toInt32) &&& (7 : Int32)), Iv (((p4.toUInt32 >>> ((6 : Int32) &&& 31).toUInt32).toInt32) &&& (7 : Int32)), Rv b_4, Rv b_21, Rv r__34, Rv r__42, Rv r__52, Rv b_64, Iv (1 : Int32)] [(.int (1 : Int32))])) tt_ := by
      intro tt_ kt_
      refine XS.ifNo X_152.here hEX rfl (hb hBY at_186) rfl ((if0 _ _).trans (feq (by decide : ¬ ((1 : Int32) = (0 : Int32)))).1) ?_
      show Steps p.tables e below (T_152.setTop (mkF m 189 #[Lv av, Zs, Lv bv, Zs, Lv cv, Zs, Iv p4, Iv (((p4.toUInt32 >>> ((3 : Int32) &&& 31).toUInt32).toInt32) &&& (7 : Int32)), Iv (((p4.toUInt32 >>> ((6 : Int32) &&& 31).toUInt32).toInt32) &&& (7 : Int32)), Rv b_4, Rv b_21, Rv r__34, Rv r__42, Rv r__52, Rv b_64, Iv (1 : Int32)] [])) tt_
      refine XS.iconst X_152.here hEX rfl (hb hBY at_189) ?_
      show Steps p.tables e below (T_152.setTop (mkF m 190 #[Lv av, Zs, Lv bv, Zs, Lv cv, Zs, Iv p4, Iv (((p4.toUInt32 >>> ((3 : Int32) &&& 31).toUInt32).toInt32) &&& (7 : Int32)), Iv (((p4.toUInt32 >>> ((6 : Int32) &&& 31).toUInt32).toInt32) &&& (7 : Int32)), Rv b_4, Rv b_21, Rv r__34, Rv r__42, Rv r__52, Rv b_64, Iv (1 : Int32)] [(.int (1 : Int32))])) tt_
      refine XS.goto X_152.here hEX rfl (pc0 := 190) (pc' := 194) rfl (hb hBY at_190) (by decide) (by decide) ?_
      show Steps p.tables e below (T_152.setTop (mkF m 194 #[Lv av, Zs, Lv bv, Zs, Lv cv, Zs, Iv p4, Iv (((p4.toUInt32 >>> ((3 : Int32) &&& 31).toUInt32).toInt32) &&& (7 : Int32)), Iv (((p4.toUInt32 >>> ((6 : Int32) &&& 31).toUInt32).toInt32) &&& (7 : Int32)), Rv b_4, Rv b_21, Rv r__34, Rv r__42, Rv r__52, Rv b_64, Iv (1 : Int32)] [(.int (1 : Int32))])) tt_
      refine XS.istore X_152.here hEX rfl (hb hBY at_194) rfl (l' := #[Lv av, Zs, Lv bv, Zs, Lv cv, Zs, Iv p4, Iv (((p4.toUInt32 >>> ((3 : Int32) &&& 31).toUInt32).toInt32) &&& (7 : Int32)), Iv (((p4.toUInt32 >>> ((6 : Int32) &&& 31).toUInt32).toInt32) &&& (7 : Int32)), Rv b_4, Rv b_21, Rv r__34, Rv r__42, Rv r__52, Rv b_64, Iv (1 : Int32)]) rfl ?_
      show Steps p.tables e below (T_152.setTop (mkF m 196 #[Lv av, Zs, Lv bv, Zs, Lv cv, Zs, Iv p4, Iv (((p4.toUInt32 >>> ((3 : Int32) &&& 31).toUInt32).toInt32) &&& (7 : Int32)), Iv (((p4.toUInt32 >>> ((6 : Int32) &&& 31).toUInt32).toInt32) &&& (7 : Int32)), Rv b_4, Rv b_21, Rv r__34, Rv r__42, Rv r__52, Rv b_64, Iv (1 : Int32)] [])) tt_
      refine XS.aload X_152.here hEX rfl (hb hBY at_196) rfl rfl ?_
      exact kt_
    refine Done.pre sg_153 ?_
    obtain ⟨_, _, ⟨T_154, L_154, k_154, n_154⟩, -, X_154, ⟨Lc_154, hQ_154, l_154, y_154, z_154⟩, st_154⟩ := Jvm.LawKit.callS X_152 hEX (y := (⟨"com/example/tidelog/tidelog/net/NonceNextPinLaw", "inc", "([J)V"⟩ : MethodName)) hOW (mvT hZW (hw _ (List.mem_of_getElem? (i := 38) rfl))) (mvT hZW (hw _ (List.mem_of_getElem? (i := 39) rfl))) (mvT hZW (hw _ (List.mem_of_getElem? (i := 4) rfl))) (mvT hZW (hw _ (List.mem_of_getElem? (i := 40) rfl))) (by decide) (backOf (W := 0) (rm_inc l Z aZ hw [] b_64 k_64 (own_i0 cv bv av) (own_i1 bv av) (av + (1 : Int64)) T_136.heap n0 (Nat.le_trans Z0 K__137.1) hq_136_0 ge_b_64) hZW (hw _ (List.mem_of_getElem? (i := 40) rfl)) (hw _ (List.mem_of_getElem? (i := 4) rfl)) (by decide) (by decide)) (g := (mkF m 198 #[Lv av, Zs, Lv bv, Zs, Lv cv, Zs, Iv p4, Iv (((p4.toUInt32 >>> ((3 : Int32) &&& 31).toUInt32).toInt32) &&& (7 : Int32)), Iv (((p4.toUInt32 >>> ((6 : Int32) &&& 31).toUInt32).toInt32) &&& (7 : Int32)), Rv b_4, Rv b_21, Rv r__34, Rv r__42, Rv r__52, Rv b_64, Iv (1 : Int32)] [(.ref b_64)])) rfl (by rw [hMX]; rfl) (argsL := [(.ref b_64)]) (rest := []) (lenOf pd___J_V_7 rfl) rfl (by show 2 * 0 + _ ≤ _; exact Nat.le_of_eq rfl) (hb hBY at_198) (fun _ _ => ⟨rfl, e_152, (by decide : 7 + 0 ≤ _), (by decide : 124 + 0 ≤ _)⟩)
    dsimp only [Pt.U, Pt.locs, Pt.cells, Pt.slots] at X_154 l_154 y_154 z_154 st_154 hQ_154
    subst l_154 y_154 z_154
    obtain ⟨rfl, N_154q, K_154, hq_154_0⟩ := hQ_154
    have N_154 := Fr.app N_152 N_154q
    have K__155 : Keep h0 T_154.heap [] := K__137.trans K_154 (allS (Or.inr sz_b_64) all0)
    have f_156 : Exa Z T_154.heap b_4 "[B" := f_138.keep K_154
    have f_157 : Arv Z T_154.heap b_4 k_4 .byte (24 : Int32) (own_v (own_first cv bv av)) (.int (0 : Int32)) := f_139.keep K_154 (ninS ne_b_4_b_64 nin0)
    have f_158 : Exa Z T_154.heap b_21 "com/example/tidelog/tidelog/net/Nonce" := f_140.keep K_154
    have f_159 : Fld Z T_154.heap b_21 "com/example/tidelog/tidelog/net/Nonce" "value" "[B" (.ref b__28) := f_141.keep K_154 (ninS ne_b_21_b_64 nin0)
    have f_160 : Exa Z T_154.heap b__28 "[B" := f_142.keep K_154
    have f_161 : Arv Z T_154.heap r__34 k_4 .byte (24 : Int32) (own_v (own_first cv bv av)) (.int (0 : Int32)) := f_143.keep K_154 (ninS ne_r__34_b_64 nin0)
    have f_162 : Exa Z T_154.heap r__34 "[B" := f_144.keep K_154
    have f_163 : Arv Z T_154.heap r__42 k_4 .byte (24 : Int32) (own_v (own_incL (own_first cv bv av))) (.int (0 : Int32)) := f_145.keep K_154 (ninS ne_r__42_b_64 nin0)
    have f_164 : Exa Z T_154.heap r__42 "[B" := f_146.keep K_154
    have f_165 : Arv Z T_154.heap r__52 k_4 .byte (24 : Int32) (own_v (own_incL (own_incL (own_first cv bv av)))) (.int (0 : Int32)) := f_147.keep K_154 (ninS ne_r__52_b_64 nin0)
    have f_166 : Exa Z T_154.heap r__52 "[B" := f_148.keep K_154
    have f_167 : Arv Z T_154.heap b__28 k_4 .byte (24 : Int32) (own_v (own_incL (own_incL (own_incL (own_first cv bv av))))) (.int (0 : Int32)) := f_149.keep K_154 (ninS ne_b__28_b_64 nin0)
    have f_168 : Exa Z T_154.heap b_64 "[J" := f_150.keep K_154
    refine Done.pre (fun _ k_ => st_154 _ k_) ?_
    show Done _ _ _ _ _ _ _ (T_154.setTop (mkF m 201 #[Lv av, Zs, Lv bv, Zs, Lv cv, Zs, Iv p4, Iv (((p4.toUInt32 >>> ((3 : Int32) &&& 31).toUInt32).toInt32) &&& (7 : Int32)), Iv (((p4.toUInt32 >>> ((6 : Int32) &&& 31).toUInt32).toInt32) &&& (7 : Int32)), Rv b_4, Rv b_21, Rv r__34, Rv r__42, Rv r__52, Rv b_64, Iv (1 : Int32)] []))
    have sg_169 : ∀ tt_, Steps p.tables e below (T_154.setTop (mkF m 210 #[Lv av, Zs, Lv bv, Zs, Lv cv, Zs, Iv p4, Iv (((p4.toUInt32 >>> ((3 : Int32) &&& 31).toUInt32).toInt32) &&& (7 : Int32)), Iv (((p4.toUInt32 >>> ((6 : Int32) &&& 31).toUInt32).toInt32) &&& (7 : Int32)), Rv b_4, Rv b_21, Rv r__34, Rv r__42, Rv r__52, Rv b_64, Iv (1 : Int32)] [(.ref b_64), (.ref r__52)])) tt_ → Steps p.tables e below (T_154.setTop (mkF m 201 #[Lv av, Zs, Lv bv, Zs, Lv cv, Zs, Iv p4, Iv (((p4.toUInt32 >>> ((3 : Int32) &&& 31).toUInt32).toInt32) &&& (7 : Int32)), Iv (((p4.toUInt32 >>> ((6 : Int32) &&& 31).toUInt32).toInt32) &&& (7 : Int32)), Rv b_4, Rv b_21, Rv r__34, Rv r__42, Rv r__52, Rv b_64, Iv (1 : Int32)] [])) tt_ := by
      intro tt_ kt_
      refine XS.iload X_154.here hEX rfl (hb hBY at_201) rfl ?_
      show Steps p.tables e below (T_154.setTop (mkF m 203 #[Lv av, Zs, Lv bv, Zs, Lv cv, Zs, Iv p4, Iv (((p4.toUInt32 >>> ((3 : Int32) &&& 31).toUInt32).toInt32) &&& (7 : Int32)), Iv (((p4.toUInt32 >>> ((6 : Int32) &&& 31).toUInt32).toInt32) &&& (7 : Int32)), Rv b_4, Rv b_21, Rv r__34, Rv r__42, Rv r__52, Rv b_64, Iv (1 : Int32)] [(.int (1 : Int32))])) tt_
      refine XS.ifNo X_154.here hEX rfl (hb hBY at_203) rfl ((if0 _ _).trans (feq (by decide : ¬ ((1 : Int32) = (0 : Int32)))).1) ?_
      show Steps p.tables e below (T_154.setTop (mkF m 206 #[Lv av, Zs, Lv bv, Zs, Lv cv, Zs, Iv p4, Iv (((p4.toUInt32 >>> ((3 : Int32) &&& 31).toUInt32).toInt32) &&& (7 : Int32)), Iv (((p4.toUInt32 >>> ((6 : Int32) &&& 31).toUInt32).toInt32) &&& (7 : Int32)), Rv b_4, Rv b_21, Rv r__34, Rv r__42, Rv r__52, Rv b_64, Iv (1 : Int32)] [])) tt_
      refine XS.aload X_154.here hEX rfl (hb hBY at_206) rfl rfl ?_
      show Steps p.tables e below (T_154.setTop (mkF m 208 #[Lv av, Zs, Lv bv, Zs, Lv cv, Zs, Iv p4, Iv (((p4.toUInt32 >>> ((3 : Int32) &&& 31).toUInt32).toInt32) &&& (7 : Int32)), Iv (((p4.toUInt32 >>> ((6 : Int32) &&& 31).toUInt32).toInt32) &&& (7 : Int32)), Rv b_4, Rv b_21, Rv r__34, Rv r__42, Rv r__52, Rv b_64, Iv (1 : Int32)] [(.ref r__52)])) tt_
      refine XS.aload X_154.here hEX rfl (hb hBY at_208) rfl rfl ?_
      exact kt_
    refine Done.pre sg_169 ?_
    obtain ⟨_, _, ⟨T_170, L_170, k_170, n_170⟩, -, X_170, ⟨Lc_170, hQ_170, l_170, y_170, z_170⟩, st_170⟩ := Jvm.LawKit.callS X_154 hEX (y := (⟨"com/example/tidelog/tidelog/net/NonceNextPinLaw", "same", "([B[J)Z"⟩ : MethodName)) hOW (mvT hZW (hw _ (List.mem_of_getElem? (i := 32) rfl))) (mvT hZW (hw _ (List.mem_of_getElem? (i := 33) rfl))) (mvT hZW (hw _ (List.mem_of_getElem? (i := 4) rfl))) (mvT hZW (hw _ (List.mem_of_getElem? (i := 34) rfl))) (by decide) (backOf (W := 0) (rm_same l Z aZ hw [] r__52 b_64 (own_incL (own_incL (own_first cv bv av))) k_4 k_64 (own_i0 (own_i0 cv bv av) (own_i1 bv av) (av + (1 : Int64))) (own_i1 (own_i1 bv av) (av + (1 : Int64))) ((av + (1 : Int64)) + (1 : Int64)) T_154.heap n0 (Nat.le_trans Z0 K__155.1) f_165 hq_154_0 (own_step _ _ _ _ (by rw [own_inclen]; exact (own_firstlen cv bv av)) (own_step _ _ _ _ (own_firstlen cv bv av) (own_ok0 cv bv av)))) hZW (hw _ (List.mem_of_getElem? (i := 34) rfl)) (hw _ (List.mem_of_getElem? (i := 4) rfl)) (by decide) (by decide)) (g := (mkF m 210 #[Lv av, Zs, Lv bv, Zs, Lv cv, Zs, Iv p4, Iv (((p4.toUInt32 >>> ((3 : Int32) &&& 31).toUInt32).toInt32) &&& (7 : Int32)), Iv (((p4.toUInt32 >>> ((6 : Int32) &&& 31).toUInt32).toInt32) &&& (7 : Int32)), Rv b_4, Rv b_21, Rv r__34, Rv r__42, Rv r__52, Rv b_64, Iv (1 : Int32)] [(.ref b_64), (.ref r__52)])) rfl (by rw [hMX]; rfl) (argsL := [(.ref r__52), (.ref b_64)]) (rest := []) (lenOf pd___B_J_Z_6 rfl) rfl (by show 2 * 0 + _ ≤ _; exact Nat.le_of_eq rfl) (hb hBY at_210) (fun _ _ => ⟨rfl, rfl, (by decide : 7 + 0 ≤ _), (by decide : 124 + 0 ≤ _)⟩)
    dsimp only [Pt.U, Pt.locs, Pt.cells, Pt.slots] at X_170 l_170 y_170 z_170 st_170 hQ_170
    subst l_170 y_170 z_170
    obtain ⟨rfl, N_170q, e_170⟩ := hQ_170
    have N_170 := Fr.app N_154 N_170q
    refine Done.pre (fun _ k_ => st_170 _ k_) ?_
    show Done _ _ _ _ _ _ _ (T_170.setTop (mkF m 213 #[Lv av, Zs, Lv bv, Zs, Lv cv, Zs, Iv p4, Iv (((p4.toUInt32 >>> ((3 : Int32) &&& 31).toUInt32).toInt32) &&& (7 : Int32)), Iv (((p4.toUInt32 >>> ((6 : Int32) &&& 31).toUInt32).toInt32) &&& (7 : Int32)), Rv b_4, Rv b_21, Rv r__34, Rv r__42, Rv r__52, Rv b_64, Iv (1 : Int32)] [(.int (1 : Int32))]))
    have sg_171 : ∀ tt_, Steps p.tables e below (T_170.setTop (mkF m 225 #[Lv av, Zs, Lv bv, Zs, Lv cv, Zs, Iv p4, Iv (((p4.toUInt32 >>> ((3 : Int32) &&& 31).toUInt32).toInt32) &&& (7 : Int32)), Iv (((p4.toUInt32 >>> ((6 : Int32) &&& 31).toUInt32).toInt32) &&& (7 : Int32)), Rv b_4, Rv b_21, Rv r__34, Rv r__42, Rv r__52, Rv b_64, Iv (1 : Int32)] [(.int (1 : Int32))])) tt_ → Steps p.tables e below (T_170.setTop (mkF m 213 #[Lv av, Zs, Lv bv, Zs, Lv cv, Zs, Iv p4, Iv (((p4.toUInt32 >>> ((3 : Int32) &&& 31).toUInt32).toInt32) &&& (7 : Int32)), Iv (((p4.toUInt32 >>> ((6 : Int32) &&& 31).toUInt32).toInt32) &&& (7 : Int32)), Rv b_4, Rv b_21, Rv r__34, Rv r__42, Rv r__52, Rv b_64, Iv (1 : Int32)] [(.int (1 : Int32))])) tt_ := by
      intro tt_ kt_
      refine XS.ifNo X_170.here hEX rfl (hb hBY at_213) rfl ((if0 _ _).trans (feq (by decide : ¬ ((1 : Int32) = (0 : Int32)))).1) ?_
      show Steps p.tables e below (T_170.setTop (mkF m 216 #[Lv av, Zs, Lv bv, Zs, Lv cv, Zs, Iv p4, Iv (((p4.toUInt32 >>> ((3 : Int32) &&& 31).toUInt32).toInt32) &&& (7 : Int32)), Iv (((p4.toUInt32 >>> ((6 : Int32) &&& 31).toUInt32).toInt32) &&& (7 : Int32)), Rv b_4, Rv b_21, Rv r__34, Rv r__42, Rv r__52, Rv b_64, Iv (1 : Int32)] [])) tt_
      refine XS.iconst X_170.here hEX rfl (hb hBY at_216) ?_
      show Steps p.tables e below (T_170.setTop (mkF m 217 #[Lv av, Zs, Lv bv, Zs, Lv cv, Zs, Iv p4, Iv (((p4.toUInt32 >>> ((3 : Int32) &&& 31).toUInt32).toInt32) &&& (7 : Int32)), Iv (((p4.toUInt32 >>> ((6 : Int32) &&& 31).toUInt32).toInt32) &&& (7 : Int32)), Rv b_4, Rv b_21, Rv r__34, Rv r__42, Rv r__52, Rv b_64, Iv (1 : Int32)] [(.int (1 : Int32))])) tt_
      refine XS.goto X_170.here hEX rfl (pc0 := 217) (pc' := 221) rfl (hb hBY at_217) (by decide) (by decide) ?_
      show Steps p.tables e below (T_170.setTop (mkF m 221 #[Lv av, Zs, Lv bv, Zs, Lv cv, Zs, Iv p4, Iv (((p4.toUInt32 >>> ((3 : Int32) &&& 31).toUInt32).toInt32) &&& (7 : Int32)), Iv (((p4.toUInt32 >>> ((6 : Int32) &&& 31).toUInt32).toInt32) &&& (7 : Int32)), Rv b_4, Rv b_21, Rv r__34, Rv r__42, Rv r__52, Rv b_64, Iv (1 : Int32)] [(.int (1 : Int32))])) tt_
      refine XS.istore X_170.here hEX rfl (hb hBY at_221) rfl (l' := #[Lv av, Zs, Lv bv, Zs, Lv cv, Zs, Iv p4, Iv (((p4.toUInt32 >>> ((3 : Int32) &&& 31).toUInt32).toInt32) &&& (7 : Int32)), Iv (((p4.toUInt32 >>> ((6 : Int32) &&& 31).toUInt32).toInt32) &&& (7 : Int32)), Rv b_4, Rv b_21, Rv r__34, Rv r__42, Rv r__52, Rv b_64, Iv (1 : Int32)]) rfl ?_
      show Steps p.tables e below (T_170.setTop (mkF m 223 #[Lv av, Zs, Lv bv, Zs, Lv cv, Zs, Iv p4, Iv (((p4.toUInt32 >>> ((3 : Int32) &&& 31).toUInt32).toInt32) &&& (7 : Int32)), Iv (((p4.toUInt32 >>> ((6 : Int32) &&& 31).toUInt32).toInt32) &&& (7 : Int32)), Rv b_4, Rv b_21, Rv r__34, Rv r__42, Rv r__52, Rv b_64, Iv (1 : Int32)] [])) tt_
      refine XS.iload X_170.here hEX rfl (hb hBY at_223) rfl ?_
      exact kt_
    refine Done.pre sg_171 ?_
    exact Done.retN X_170 hEX hLK (t := .boolean) hRT (by simp) (hb hBY at_225) (by rw [e_170]; exact ⟨rfl, N_170, K__155⟩) (by decide) (by decide)
  show Done _ _ _ _ _ _ _ (s₁.setTop (mkF m 43 #[Lv (q1 ||| (((1 : Int64) <<< (((8 : Int32) * (((p4.toUInt32 >>> ((3 : Int32) &&& 31).toUInt32).toInt32) &&& (7 : Int32))) &&& 0x3f).toInt64) - (1 : Int64))), Zs, Lv (q2 ||| (((1 : Int64) <<< (((8 : Int32) * (((p4.toUInt32 >>> ((6 : Int32) &&& 31).toUInt32).toInt32) &&& (7 : Int32))) &&& 0x3f).toInt64) - (1 : Int64))), Zs, Lv q3, Zs, Iv p4, Iv (((p4.toUInt32 >>> ((3 : Int32) &&& 31).toUInt32).toInt32) &&& (7 : Int32)), Iv (((p4.toUInt32 >>> ((6 : Int32) &&& 31).toUInt32).toInt32) &&& (7 : Int32)), Us, Us, Us, Us, Us, Us, Us] []))
  have sg_172 : ∀ tt_, Steps p.tables e below (s₁.setTop (mkF m 47 #[Lv (q1 ||| (((1 : Int64) <<< (((8 : Int32) * (((p4.toUInt32 >>> ((3 : Int32) &&& 31).toUInt32).toInt32) &&& (7 : Int32))) &&& 0x3f).toInt64) - (1 : Int64))), Zs, Lv (q2 ||| (((1 : Int64) <<< (((8 : Int32) * (((p4.toUInt32 >>> ((6 : Int32) &&& 31).toUInt32).toInt32) &&& (7 : Int32))) &&& 0x3f).toInt64) - (1 : Int64))), Zs, Lv q3, Zs, Iv p4, Iv (((p4.toUInt32 >>> ((3 : Int32) &&& 31).toUInt32).toInt32) &&& (7 : Int32)), Iv (((p4.toUInt32 >>> ((6 : Int32) &&& 31).toUInt32).toInt32) &&& (7 : Int32)), Us, Us, Us, Us, Us, Us, Us] [(.int (p4 &&& (1 : Int32)))])) tt_ → Steps p.tables e below (s₁.setTop (mkF m 43 #[Lv (q1 ||| (((1 : Int64) <<< (((8 : Int32) * (((p4.toUInt32 >>> ((3 : Int32) &&& 31).toUInt32).toInt32) &&& (7 : Int32))) &&& 0x3f).toInt64) - (1 : Int64))), Zs, Lv (q2 ||| (((1 : Int64) <<< (((8 : Int32) * (((p4.toUInt32 >>> ((6 : Int32) &&& 31).toUInt32).toInt32) &&& (7 : Int32))) &&& 0x3f).toInt64) - (1 : Int64))), Zs, Lv q3, Zs, Iv p4, Iv (((p4.toUInt32 >>> ((3 : Int32) &&& 31).toUInt32).toInt32) &&& (7 : Int32)), Iv (((p4.toUInt32 >>> ((6 : Int32) &&& 31).toUInt32).toInt32) &&& (7 : Int32)), Us, Us, Us, Us, Us, Us, Us] [])) tt_ := by
    intro tt_ kt_
    refine XS.iload X0.here hEX rfl (hb hBY at_43) rfl ?_
    show Steps p.tables e below (s₁.setTop (mkF m 45 #[Lv (q1 ||| (((1 : Int64) <<< (((8 : Int32) * (((p4.toUInt32 >>> ((3 : Int32) &&& 31).toUInt32).toInt32) &&& (7 : Int32))) &&& 0x3f).toInt64) - (1 : Int64))), Zs, Lv (q2 ||| (((1 : Int64) <<< (((8 : Int32) * (((p4.toUInt32 >>> ((6 : Int32) &&& 31).toUInt32).toInt32) &&& (7 : Int32))) &&& 0x3f).toInt64) - (1 : Int64))), Zs, Lv q3, Zs, Iv p4, Iv (((p4.toUInt32 >>> ((3 : Int32) &&& 31).toUInt32).toInt32) &&& (7 : Int32)), Iv (((p4.toUInt32 >>> ((6 : Int32) &&& 31).toUInt32).toInt32) &&& (7 : Int32)), Us, Us, Us, Us, Us, Us, Us] [(.int p4)])) tt_
    refine XS.iconst X0.here hEX rfl (hb hBY at_45) ?_
    show Steps p.tables e below (s₁.setTop (mkF m 46 #[Lv (q1 ||| (((1 : Int64) <<< (((8 : Int32) * (((p4.toUInt32 >>> ((3 : Int32) &&& 31).toUInt32).toInt32) &&& (7 : Int32))) &&& 0x3f).toInt64) - (1 : Int64))), Zs, Lv (q2 ||| (((1 : Int64) <<< (((8 : Int32) * (((p4.toUInt32 >>> ((6 : Int32) &&& 31).toUInt32).toInt32) &&& (7 : Int32))) &&& 0x3f).toInt64) - (1 : Int64))), Zs, Lv q3, Zs, Iv p4, Iv (((p4.toUInt32 >>> ((3 : Int32) &&& 31).toUInt32).toInt32) &&& (7 : Int32)), Iv (((p4.toUInt32 >>> ((6 : Int32) &&& 31).toUInt32).toInt32) &&& (7 : Int32)), Us, Us, Us, Us, Us, Us, Us] [(.int (1 : Int32)), (.int p4)])) tt_
    refine XS.iand X0.here hEX rfl (hb hBY at_46) rfl ?_
    exact kt_
  refine Done.pre sg_172 ?_
  by_cases hc47 : (p4 &&& (1 : Int32)) = (0 : Int32)
  · skip
    have sg_173 : ∀ tt_, Steps p.tables e below (s₁.setTop (mkF m 58 #[Lv (q1 ||| (((1 : Int64) <<< (((8 : Int32) * (((p4.toUInt32 >>> ((3 : Int32) &&& 31).toUInt32).toInt32) &&& (7 : Int32))) &&& 0x3f).toInt64) - (1 : Int64))), Zs, Lv (q2 ||| (((1 : Int64) <<< (((8 : Int32) * (((p4.toUInt32 >>> ((6 : Int32) &&& 31).toUInt32).toInt32) &&& (7 : Int32))) &&& 0x3f).toInt64) - (1 : Int64))), Zs, Lv q3, Zs, Iv p4, Iv (((p4.toUInt32 >>> ((3 : Int32) &&& 31).toUInt32).toInt32) &&& (7 : Int32)), Iv (((p4.toUInt32 >>> ((6 : Int32) &&& 31).toUInt32).toInt32) &&& (7 : Int32)), Us, Us, Us, Us, Us, Us, Us] [(.int (p4 &&& (2 : Int32)))])) tt_ → Steps p.tables e below (s₁.setTop (mkF m 47 #[Lv (q1 ||| (((1 : Int64) <<< (((8 : Int32) * (((p4.toUInt32 >>> ((3 : Int32) &&& 31).toUInt32).toInt32) &&& (7 : Int32))) &&& 0x3f).toInt64) - (1 : Int64))), Zs, Lv (q2 ||| (((1 : Int64) <<< (((8 : Int32) * (((p4.toUInt32 >>> ((6 : Int32) &&& 31).toUInt32).toInt32) &&& (7 : Int32))) &&& 0x3f).toInt64) - (1 : Int64))), Zs, Lv q3, Zs, Iv p4, Iv (((p4.toUInt32 >>> ((3 : Int32) &&& 31).toUInt32).toInt32) &&& (7 : Int32)), Iv (((p4.toUInt32 >>> ((6 : Int32) &&& 31).toUInt32).toInt32) &&& (7 : Int32)), Us, Us, Us, Us, Us, Us, Us] [(.int (p4 &&& (1 : Int32)))])) tt_ := by
      intro tt_ kt_
      refine XS.ifYes X0.here hEX rfl (pc0 := 47) (pc' := 54) rfl (hb hBY at_47) rfl ((if0 _ _).trans (teq hc47).1) (by decide) (by decide) ?_
      show Steps p.tables e below (s₁.setTop (mkF m 54 #[Lv (q1 ||| (((1 : Int64) <<< (((8 : Int32) * (((p4.toUInt32 >>> ((3 : Int32) &&& 31).toUInt32).toInt32) &&& (7 : Int32))) &&& 0x3f).toInt64) - (1 : Int64))), Zs, Lv (q2 ||| (((1 : Int64) <<< (((8 : Int32) * (((p4.toUInt32 >>> ((6 : Int32) &&& 31).toUInt32).toInt32) &&& (7 : Int32))) &&& 0x3f).toInt64) - (1 : Int64))), Zs, Lv q3, Zs, Iv p4, Iv (((p4.toUInt32 >>> ((3 : Int32) &&& 31).toUInt32).toInt32) &&& (7 : Int32)), Iv (((p4.toUInt32 >>> ((6 : Int32) &&& 31).toUInt32).toInt32) &&& (7 : Int32)), Us, Us, Us, Us, Us, Us, Us] [])) tt_
      refine XS.iload X0.here hEX rfl (hb hBY at_54) rfl ?_
      show Steps p.tables e below (s₁.setTop (mkF m 56 #[Lv (q1 ||| (((1 : Int64) <<< (((8 : Int32) * (((p4.toUInt32 >>> ((3 : Int32) &&& 31).toUInt32).toInt32) &&& (7 : Int32))) &&& 0x3f).toInt64) - (1 : Int64))), Zs, Lv (q2 ||| (((1 : Int64) <<< (((8 : Int32) * (((p4.toUInt32 >>> ((6 : Int32) &&& 31).toUInt32).toInt32) &&& (7 : Int32))) &&& 0x3f).toInt64) - (1 : Int64))), Zs, Lv q3, Zs, Iv p4, Iv (((p4.toUInt32 >>> ((3 : Int32) &&& 31).toUInt32).toInt32) &&& (7 : Int32)), Iv (((p4.toUInt32 >>> ((6 : Int32) &&& 31).toUInt32).toInt32) &&& (7 : Int32)), Us, Us, Us, Us, Us, Us, Us] [(.int p4)])) tt_
      refine XS.iconst X0.here hEX rfl (hb hBY at_56) ?_
      show Steps p.tables e below (s₁.setTop (mkF m 57 #[Lv (q1 ||| (((1 : Int64) <<< (((8 : Int32) * (((p4.toUInt32 >>> ((3 : Int32) &&& 31).toUInt32).toInt32) &&& (7 : Int32))) &&& 0x3f).toInt64) - (1 : Int64))), Zs, Lv (q2 ||| (((1 : Int64) <<< (((8 : Int32) * (((p4.toUInt32 >>> ((6 : Int32) &&& 31).toUInt32).toInt32) &&& (7 : Int32))) &&& 0x3f).toInt64) - (1 : Int64))), Zs, Lv q3, Zs, Iv p4, Iv (((p4.toUInt32 >>> ((3 : Int32) &&& 31).toUInt32).toInt32) &&& (7 : Int32)), Iv (((p4.toUInt32 >>> ((6 : Int32) &&& 31).toUInt32).toInt32) &&& (7 : Int32)), Us, Us, Us, Us, Us, Us, Us] [(.int (2 : Int32)), (.int p4)])) tt_
      refine XS.iand X0.here hEX rfl (hb hBY at_57) rfl ?_
      exact kt_
    refine Done.pre sg_173 ?_
    by_cases hc58 : (p4 &&& (2 : Int32)) = (0 : Int32)
    · skip
      have sg_174 : ∀ tt_, Steps p.tables e below (s₁.setTop (mkF m 69 #[Lv (q1 ||| (((1 : Int64) <<< (((8 : Int32) * (((p4.toUInt32 >>> ((3 : Int32) &&& 31).toUInt32).toInt32) &&& (7 : Int32))) &&& 0x3f).toInt64) - (1 : Int64))), Zs, Lv (q2 ||| (((1 : Int64) <<< (((8 : Int32) * (((p4.toUInt32 >>> ((6 : Int32) &&& 31).toUInt32).toInt32) &&& (7 : Int32))) &&& 0x3f).toInt64) - (1 : Int64))), Zs, Lv q3, Zs, Iv p4, Iv (((p4.toUInt32 >>> ((3 : Int32) &&& 31).toUInt32).toInt32) &&& (7 : Int32)), Iv (((p4.toUInt32 >>> ((6 : Int32) &&& 31).toUInt32).toInt32) &&& (7 : Int32)), Us, Us, Us, Us, Us, Us, Us] [(.int (p4 &&& (4 : Int32)))])) tt_ → Steps p.tables e below (s₁.setTop (mkF m 58 #[Lv (q1 ||| (((1 : Int64) <<< (((8 : Int32) * (((p4.toUInt32 >>> ((3 : Int32) &&& 31).toUInt32).toInt32) &&& (7 : Int32))) &&& 0x3f).toInt64) - (1 : Int64))), Zs, Lv (q2 ||| (((1 : Int64) <<< (((8 : Int32) * (((p4.toUInt32 >>> ((6 : Int32) &&& 31).toUInt32).toInt32) &&& (7 : Int32))) &&& 0x3f).toInt64) - (1 : Int64))), Zs, Lv q3, Zs, Iv p4, Iv (((p4.toUInt32 >>> ((3 : Int32) &&& 31).toUInt32).toInt32) &&& (7 : Int32)), Iv (((p4.toUInt32 >>> ((6 : Int32) &&& 31).toUInt32).toInt32) &&& (7 : Int32)), Us, Us, Us, Us, Us, Us, Us] [(.int (p4 &&& (2 : Int32)))])) tt_ := by
        intro tt_ kt_
        refine XS.ifYes X0.here hEX rfl (pc0 := 58) (pc' := 65) rfl (hb hBY at_58) rfl ((if0 _ _).trans (teq hc58).1) (by decide) (by decide) ?_
        show Steps p.tables e below (s₁.setTop (mkF m 65 #[Lv (q1 ||| (((1 : Int64) <<< (((8 : Int32) * (((p4.toUInt32 >>> ((3 : Int32) &&& 31).toUInt32).toInt32) &&& (7 : Int32))) &&& 0x3f).toInt64) - (1 : Int64))), Zs, Lv (q2 ||| (((1 : Int64) <<< (((8 : Int32) * (((p4.toUInt32 >>> ((6 : Int32) &&& 31).toUInt32).toInt32) &&& (7 : Int32))) &&& 0x3f).toInt64) - (1 : Int64))), Zs, Lv q3, Zs, Iv p4, Iv (((p4.toUInt32 >>> ((3 : Int32) &&& 31).toUInt32).toInt32) &&& (7 : Int32)), Iv (((p4.toUInt32 >>> ((6 : Int32) &&& 31).toUInt32).toInt32) &&& (7 : Int32)), Us, Us, Us, Us, Us, Us, Us] [])) tt_
        refine XS.iload X0.here hEX rfl (hb hBY at_65) rfl ?_
        show Steps p.tables e below (s₁.setTop (mkF m 67 #[Lv (q1 ||| (((1 : Int64) <<< (((8 : Int32) * (((p4.toUInt32 >>> ((3 : Int32) &&& 31).toUInt32).toInt32) &&& (7 : Int32))) &&& 0x3f).toInt64) - (1 : Int64))), Zs, Lv (q2 ||| (((1 : Int64) <<< (((8 : Int32) * (((p4.toUInt32 >>> ((6 : Int32) &&& 31).toUInt32).toInt32) &&& (7 : Int32))) &&& 0x3f).toInt64) - (1 : Int64))), Zs, Lv q3, Zs, Iv p4, Iv (((p4.toUInt32 >>> ((3 : Int32) &&& 31).toUInt32).toInt32) &&& (7 : Int32)), Iv (((p4.toUInt32 >>> ((6 : Int32) &&& 31).toUInt32).toInt32) &&& (7 : Int32)), Us, Us, Us, Us, Us, Us, Us] [(.int p4)])) tt_
        refine XS.iconst X0.here hEX rfl (hb hBY at_67) ?_
        show Steps p.tables e below (s₁.setTop (mkF m 68 #[Lv (q1 ||| (((1 : Int64) <<< (((8 : Int32) * (((p4.toUInt32 >>> ((3 : Int32) &&& 31).toUInt32).toInt32) &&& (7 : Int32))) &&& 0x3f).toInt64) - (1 : Int64))), Zs, Lv (q2 ||| (((1 : Int64) <<< (((8 : Int32) * (((p4.toUInt32 >>> ((6 : Int32) &&& 31).toUInt32).toInt32) &&& (7 : Int32))) &&& 0x3f).toInt64) - (1 : Int64))), Zs, Lv q3, Zs, Iv p4, Iv (((p4.toUInt32 >>> ((3 : Int32) &&& 31).toUInt32).toInt32) &&& (7 : Int32)), Iv (((p4.toUInt32 >>> ((6 : Int32) &&& 31).toUInt32).toInt32) &&& (7 : Int32)), Us, Us, Us, Us, Us, Us, Us] [(.int (4 : Int32)), (.int p4)])) tt_
        refine XS.iand X0.here hEX rfl (hb hBY at_68) rfl ?_
        exact kt_
      refine Done.pre sg_174 ?_
      by_cases hc69 : (p4 &&& (4 : Int32)) = (0 : Int32)
      · skip
        have sg_175 : ∀ tt_, Steps p.tables e below (s₁.setTop (mkF m 77 #[Lv (q1 ||| (((1 : Int64) <<< (((8 : Int32) * (((p4.toUInt32 >>> ((3 : Int32) &&& 31).toUInt32).toInt32) &&& (7 : Int32))) &&& 0x3f).toInt64) - (1 : Int64))), Zs, Lv (q2 ||| (((1 : Int64) <<< (((8 : Int32) * (((p4.toUInt32 >>> ((6 : Int32) &&& 31).toUInt32).toInt32) &&& (7 : Int32))) &&& 0x3f).toInt64) - (1 : Int64))), Zs, Lv q3, Zs, Iv p4, Iv (((p4.toUInt32 >>> ((3 : Int32) &&& 31).toUInt32).toInt32) &&& (7 : Int32)), Iv (((p4.toUInt32 >>> ((6 : Int32) &&& 31).toUInt32).toInt32) &&& (7 : Int32)), Us, Us, Us, Us, Us, Us, Us] [])) tt_ → Steps p.tables e below (s₁.setTop (mkF m 69 #[Lv (q1 ||| (((1 : Int64) <<< (((8 : Int32) * (((p4.toUInt32 >>> ((3 : Int32) &&& 31).toUInt32).toInt32) &&& (7 : Int32))) &&& 0x3f).toInt64) - (1 : Int64))), Zs, Lv (q2 ||| (((1 : Int64) <<< (((8 : Int32) * (((p4.toUInt32 >>> ((6 : Int32) &&& 31).toUInt32).toInt32) &&& (7 : Int32))) &&& 0x3f).toInt64) - (1 : Int64))), Zs, Lv q3, Zs, Iv p4, Iv (((p4.toUInt32 >>> ((3 : Int32) &&& 31).toUInt32).toInt32) &&& (7 : Int32)), Iv (((p4.toUInt32 >>> ((6 : Int32) &&& 31).toUInt32).toInt32) &&& (7 : Int32)), Us, Us, Us, Us, Us, Us, Us] [(.int (p4 &&& (4 : Int32)))])) tt_ := by
          intro tt_ kt_
          refine XS.ifYes X0.here hEX rfl (pc0 := 69) (pc' := 77) rfl (hb hBY at_69) rfl ((if0 _ _).trans (teq hc69).1) (by decide) (by decide) ?_
          exact kt_
        refine Done.pre sg_175 ?_
        exact jn_2 ((q1 ||| (((1 : Int64) <<< (((8 : Int32) * (((p4.toUInt32 >>> ((3 : Int32) &&& 31).toUInt32).toInt32) &&& (7 : Int32))) &&& 0x3f).toInt64) - (1 : Int64)))) ((q2 ||| (((1 : Int64) <<< (((8 : Int32) * (((p4.toUInt32 >>> ((6 : Int32) &&& 31).toUInt32).toInt32) &&& (7 : Int32))) &&& 0x3f).toInt64) - (1 : Int64)))) (q3)
      · skip
        have sg_176 : ∀ tt_, Steps p.tables e below (s₁.setTop (mkF m 77 #[Lv (q1 ||| (((1 : Int64) <<< (((8 : Int32) * (((p4.toUInt32 >>> ((3 : Int32) &&& 31).toUInt32).toInt32) &&& (7 : Int32))) &&& 0x3f).toInt64) - (1 : Int64))), Zs, Lv (q2 ||| (((1 : Int64) <<< (((8 : Int32) * (((p4.toUInt32 >>> ((6 : Int32) &&& 31).toUInt32).toInt32) &&& (7 : Int32))) &&& 0x3f).toInt64) - (1 : Int64))), Zs, Lv (-1 : Int64), Zs, Iv p4, Iv (((p4.toUInt32 >>> ((3 : Int32) &&& 31).toUInt32).toInt32) &&& (7 : Int32)), Iv (((p4.toUInt32 >>> ((6 : Int32) &&& 31).toUInt32).toInt32) &&& (7 : Int32)), Us, Us, Us, Us, Us, Us, Us] [])) tt_ → Steps p.tables e below (s₁.setTop (mkF m 69 #[Lv (q1 ||| (((1 : Int64) <<< (((8 : Int32) * (((p4.toUInt32 >>> ((3 : Int32) &&& 31).toUInt32).toInt32) &&& (7 : Int32))) &&& 0x3f).toInt64) - (1 : Int64))), Zs, Lv (q2 ||| (((1 : Int64) <<< (((8 : Int32) * (((p4.toUInt32 >>> ((6 : Int32) &&& 31).toUInt32).toInt32) &&& (7 : Int32))) &&& 0x3f).toInt64) - (1 : Int64))), Zs, Lv q3, Zs, Iv p4, Iv (((p4.toUInt32 >>> ((3 : Int32) &&& 31).toUInt32).toInt32) &&& (7 : Int32)), Iv (((p4.toUInt32 >>> ((6 : Int32) &&& 31).toUInt32).toInt32) &&& (7 : Int32)), Us, Us, Us, Us, Us, Us, Us] [(.int (p4 &&& (4 : Int32)))])) tt_ := by
          intro tt_ kt_
          refine XS.ifNo X0.here hEX rfl (hb hBY at_69) rfl ((if0 _ _).trans (feq hc69).1) ?_
          show Steps p.tables e below (s₁.setTop (mkF m 72 #[Lv (q1 ||| (((1 : Int64) <<< (((8 : Int32) * (((p4.toUInt32 >>> ((3 : Int32) &&& 31).toUInt32).toInt32) &&& (7 : Int32))) &&& 0x3f).toInt64) - (1 : Int64))), Zs, Lv (q2 ||| (((1 : Int64) <<< (((8 : Int32) * (((p4.toUInt32 >>> ((6 : Int32) &&& 31).toUInt32).toInt32) &&& (7 : Int32))) &&& 0x3f).toInt64) - (1 : Int64))), Zs, Lv q3, Zs, Iv p4, Iv (((p4.toUInt32 >>> ((3 : Int32) &&& 31).toUInt32).toInt32) &&& (7 : Int32)), Iv (((p4.toUInt32 >>> ((6 : Int32) &&& 31).toUInt32).toInt32) &&& (7 : Int32)), Us, Us, Us, Us, Us, Us, Us] [])) tt_
          refine X0.ldc2Long hEX hOW (mvT hZW (hw _ (List.mem_of_getElem? (i := 0) rfl))) (g := (mkF m 72 #[Lv (q1 ||| (((1 : Int64) <<< (((8 : Int32) * (((p4.toUInt32 >>> ((3 : Int32) &&& 31).toUInt32).toInt32) &&& (7 : Int32))) &&& 0x3f).toInt64) - (1 : Int64))), Zs, Lv (q2 ||| (((1 : Int64) <<< (((8 : Int32) * (((p4.toUInt32 >>> ((6 : Int32) &&& 31).toUInt32).toInt32) &&& (7 : Int32))) &&& 0x3f).toInt64) - (1 : Int64))), Zs, Lv q3, Zs, Iv p4, Iv (((p4.toUInt32 >>> ((3 : Int32) &&& 31).toUInt32).toInt32) &&& (7 : Int32)), Iv (((p4.toUInt32 >>> ((6 : Int32) &&& 31).toUInt32).toInt32) &&& (7 : Int32)), Us, Us, Us, Us, Us, Us, Us] [])) rfl (hb hBY at_72) _ ?_
          show Steps p.tables e below (s₁.setTop (mkF m 75 #[Lv (q1 ||| (((1 : Int64) <<< (((8 : Int32) * (((p4.toUInt32 >>> ((3 : Int32) &&& 31).toUInt32).toInt32) &&& (7 : Int32))) &&& 0x3f).toInt64) - (1 : Int64))), Zs, Lv (q2 ||| (((1 : Int64) <<< (((8 : Int32) * (((p4.toUInt32 >>> ((6 : Int32) &&& 31).toUInt32).toInt32) &&& (7 : Int32))) &&& 0x3f).toInt64) - (1 : Int64))), Zs, Lv q3, Zs, Iv p4, Iv (((p4.toUInt32 >>> ((3 : Int32) &&& 31).toUInt32).toInt32) &&& (7 : Int32)), Iv (((p4.toUInt32 >>> ((6 : Int32) &&& 31).toUInt32).toInt32) &&& (7 : Int32)), Us, Us, Us, Us, Us, Us, Us] [(.long (-1 : Int64))])) tt_
          refine XS.lstore X0.here hEX rfl (hb hBY at_75) rfl (l' := #[Lv (q1 ||| (((1 : Int64) <<< (((8 : Int32) * (((p4.toUInt32 >>> ((3 : Int32) &&& 31).toUInt32).toInt32) &&& (7 : Int32))) &&& 0x3f).toInt64) - (1 : Int64))), Zs, Lv (q2 ||| (((1 : Int64) <<< (((8 : Int32) * (((p4.toUInt32 >>> ((6 : Int32) &&& 31).toUInt32).toInt32) &&& (7 : Int32))) &&& 0x3f).toInt64) - (1 : Int64))), Zs, Lv (-1 : Int64), Zs, Iv p4, Iv (((p4.toUInt32 >>> ((3 : Int32) &&& 31).toUInt32).toInt32) &&& (7 : Int32)), Iv (((p4.toUInt32 >>> ((6 : Int32) &&& 31).toUInt32).toInt32) &&& (7 : Int32)), Us, Us, Us, Us, Us, Us, Us]) rfl ?_
          exact kt_
        refine Done.pre sg_176 ?_
        exact jn_2 ((q1 ||| (((1 : Int64) <<< (((8 : Int32) * (((p4.toUInt32 >>> ((3 : Int32) &&& 31).toUInt32).toInt32) &&& (7 : Int32))) &&& 0x3f).toInt64) - (1 : Int64)))) ((q2 ||| (((1 : Int64) <<< (((8 : Int32) * (((p4.toUInt32 >>> ((6 : Int32) &&& 31).toUInt32).toInt32) &&& (7 : Int32))) &&& 0x3f).toInt64) - (1 : Int64)))) ((-1 : Int64))
    · skip
      have sg_177 : ∀ tt_, Steps p.tables e below (s₁.setTop (mkF m 69 #[Lv (q1 ||| (((1 : Int64) <<< (((8 : Int32) * (((p4.toUInt32 >>> ((3 : Int32) &&& 31).toUInt32).toInt32) &&& (7 : Int32))) &&& 0x3f).toInt64) - (1 : Int64))), Zs, Lv (-1 : Int64), Zs, Lv q3, Zs, Iv p4, Iv (((p4.toUInt32 >>> ((3 : Int32) &&& 31).toUInt32).toInt32) &&& (7 : Int32)), Iv (((p4.toUInt32 >>> ((6 : Int32) &&& 31).toUInt32).toInt32) &&& (7 : Int32)), Us, Us, Us, Us, Us, Us, Us] [(.int (p4 &&& (4 : Int32)))])) tt_ → Steps p.tables e below (s₁.setTop (mkF m 58 #[Lv (q1 ||| (((1 : Int64) <<< (((8 : Int32) * (((p4.toUInt32 >>> ((3 : Int32) &&& 31).toUInt32).toInt32) &&& (7 : Int32))) &&& 0x3f).toInt64) - (1 : Int64))), Zs, Lv (q2 ||| (((1 : Int64) <<< (((8 : Int32) * (((p4.toUInt32 >>> ((6 : Int32) &&& 31).toUInt32).toInt32) &&& (7 : Int32))) &&& 0x3f).toInt64) - (1 : Int64))), Zs, Lv q3, Zs, Iv p4, Iv (((p4.toUInt32 >>> ((3 : Int32) &&& 31).toUInt32).toInt32) &&& (7 : Int32)), Iv (((p4.toUInt32 >>> ((6 : Int32) &&& 31).toUInt32).toInt32) &&& (7 : Int32)), Us, Us, Us, Us, Us, Us, Us] [(.int (p4 &&& (2 : Int32)))])) tt_ := by
        intro tt_ kt_
        refine XS.ifNo X0.here hEX rfl (hb hBY at_58) rfl ((if0 _ _).trans (feq hc58).1) ?_
        show Steps p.tables e below (s₁.setTop (mkF m 61 #[Lv (q1 ||| (((1 : Int64) <<< (((8 : Int32) * (((p4.toUInt32 >>> ((3 : Int32) &&& 31).toUInt32).toInt32) &&& (7 : Int32))) &&& 0x3f).toInt64) - (1 : Int64))), Zs, Lv (q2 ||| (((1 : Int64) <<< (((8 : Int32) * (((p4.toUInt32 >>> ((6 : Int32) &&& 31).toUInt32).toInt32) &&& (7 : Int32))) &&& 0x3f).toInt64) - (1 : Int64))), Zs, Lv q3, Zs, Iv p4, Iv (((p4.toUInt32 >>> ((3 : Int32) &&& 31).toUInt32).toInt32) &&& (7 : Int32)), Iv (((p4.toUInt32 >>> ((6 : Int32) &&& 31).toUInt32).toInt32) &&& (7 : Int32)), Us, Us, Us, Us, Us, Us, Us] [])) tt_
        refine X0.ldc2Long hEX hOW (mvT hZW (hw _ (List.mem_of_getElem? (i := 0) rfl))) (g := (mkF m 61 #[Lv (q1 ||| (((1 : Int64) <<< (((8 : Int32) * (((p4.toUInt32 >>> ((3 : Int32) &&& 31).toUInt32).toInt32) &&& (7 : Int32))) &&& 0x3f).toInt64) - (1 : Int64))), Zs, Lv (q2 ||| (((1 : Int64) <<< (((8 : Int32) * (((p4.toUInt32 >>> ((6 : Int32) &&& 31).toUInt32).toInt32) &&& (7 : Int32))) &&& 0x3f).toInt64) - (1 : Int64))), Zs, Lv q3, Zs, Iv p4, Iv (((p4.toUInt32 >>> ((3 : Int32) &&& 31).toUInt32).toInt32) &&& (7 : Int32)), Iv (((p4.toUInt32 >>> ((6 : Int32) &&& 31).toUInt32).toInt32) &&& (7 : Int32)), Us, Us, Us, Us, Us, Us, Us] [])) rfl (hb hBY at_61) _ ?_
        show Steps p.tables e below (s₁.setTop (mkF m 64 #[Lv (q1 ||| (((1 : Int64) <<< (((8 : Int32) * (((p4.toUInt32 >>> ((3 : Int32) &&& 31).toUInt32).toInt32) &&& (7 : Int32))) &&& 0x3f).toInt64) - (1 : Int64))), Zs, Lv (q2 ||| (((1 : Int64) <<< (((8 : Int32) * (((p4.toUInt32 >>> ((6 : Int32) &&& 31).toUInt32).toInt32) &&& (7 : Int32))) &&& 0x3f).toInt64) - (1 : Int64))), Zs, Lv q3, Zs, Iv p4, Iv (((p4.toUInt32 >>> ((3 : Int32) &&& 31).toUInt32).toInt32) &&& (7 : Int32)), Iv (((p4.toUInt32 >>> ((6 : Int32) &&& 31).toUInt32).toInt32) &&& (7 : Int32)), Us, Us, Us, Us, Us, Us, Us] [(.long (-1 : Int64))])) tt_
        refine XS.lstoreN X0.here hEX rfl (hb hBY at_64) rfl (l' := #[Lv (q1 ||| (((1 : Int64) <<< (((8 : Int32) * (((p4.toUInt32 >>> ((3 : Int32) &&& 31).toUInt32).toInt32) &&& (7 : Int32))) &&& 0x3f).toInt64) - (1 : Int64))), Zs, Lv (-1 : Int64), Zs, Lv q3, Zs, Iv p4, Iv (((p4.toUInt32 >>> ((3 : Int32) &&& 31).toUInt32).toInt32) &&& (7 : Int32)), Iv (((p4.toUInt32 >>> ((6 : Int32) &&& 31).toUInt32).toInt32) &&& (7 : Int32)), Us, Us, Us, Us, Us, Us, Us]) rfl ?_
        show Steps p.tables e below (s₁.setTop (mkF m 65 #[Lv (q1 ||| (((1 : Int64) <<< (((8 : Int32) * (((p4.toUInt32 >>> ((3 : Int32) &&& 31).toUInt32).toInt32) &&& (7 : Int32))) &&& 0x3f).toInt64) - (1 : Int64))), Zs, Lv (-1 : Int64), Zs, Lv q3, Zs, Iv p4, Iv (((p4.toUInt32 >>> ((3 : Int32) &&& 31).toUInt32).toInt32) &&& (7 : Int32)), Iv (((p4.toUInt32 >>> ((6 : Int32) &&& 31).toUInt32).toInt32) &&& (7 : Int32)), Us, Us, Us, Us, Us, Us, Us] [])) tt_
        refine XS.iload X0.here hEX rfl (hb hBY at_65) rfl ?_
        show Steps p.tables e below (s₁.setTop (mkF m 67 #[Lv (q1 ||| (((1 : Int64) <<< (((8 : Int32) * (((p4.toUInt32 >>> ((3 : Int32) &&& 31).toUInt32).toInt32) &&& (7 : Int32))) &&& 0x3f).toInt64) - (1 : Int64))), Zs, Lv (-1 : Int64), Zs, Lv q3, Zs, Iv p4, Iv (((p4.toUInt32 >>> ((3 : Int32) &&& 31).toUInt32).toInt32) &&& (7 : Int32)), Iv (((p4.toUInt32 >>> ((6 : Int32) &&& 31).toUInt32).toInt32) &&& (7 : Int32)), Us, Us, Us, Us, Us, Us, Us] [(.int p4)])) tt_
        refine XS.iconst X0.here hEX rfl (hb hBY at_67) ?_
        show Steps p.tables e below (s₁.setTop (mkF m 68 #[Lv (q1 ||| (((1 : Int64) <<< (((8 : Int32) * (((p4.toUInt32 >>> ((3 : Int32) &&& 31).toUInt32).toInt32) &&& (7 : Int32))) &&& 0x3f).toInt64) - (1 : Int64))), Zs, Lv (-1 : Int64), Zs, Lv q3, Zs, Iv p4, Iv (((p4.toUInt32 >>> ((3 : Int32) &&& 31).toUInt32).toInt32) &&& (7 : Int32)), Iv (((p4.toUInt32 >>> ((6 : Int32) &&& 31).toUInt32).toInt32) &&& (7 : Int32)), Us, Us, Us, Us, Us, Us, Us] [(.int (4 : Int32)), (.int p4)])) tt_
        refine XS.iand X0.here hEX rfl (hb hBY at_68) rfl ?_
        exact kt_
      refine Done.pre sg_177 ?_
      by_cases hc69 : (p4 &&& (4 : Int32)) = (0 : Int32)
      · skip
        have sg_178 : ∀ tt_, Steps p.tables e below (s₁.setTop (mkF m 77 #[Lv (q1 ||| (((1 : Int64) <<< (((8 : Int32) * (((p4.toUInt32 >>> ((3 : Int32) &&& 31).toUInt32).toInt32) &&& (7 : Int32))) &&& 0x3f).toInt64) - (1 : Int64))), Zs, Lv (-1 : Int64), Zs, Lv q3, Zs, Iv p4, Iv (((p4.toUInt32 >>> ((3 : Int32) &&& 31).toUInt32).toInt32) &&& (7 : Int32)), Iv (((p4.toUInt32 >>> ((6 : Int32) &&& 31).toUInt32).toInt32) &&& (7 : Int32)), Us, Us, Us, Us, Us, Us, Us] [])) tt_ → Steps p.tables e below (s₁.setTop (mkF m 69 #[Lv (q1 ||| (((1 : Int64) <<< (((8 : Int32) * (((p4.toUInt32 >>> ((3 : Int32) &&& 31).toUInt32).toInt32) &&& (7 : Int32))) &&& 0x3f).toInt64) - (1 : Int64))), Zs, Lv (-1 : Int64), Zs, Lv q3, Zs, Iv p4, Iv (((p4.toUInt32 >>> ((3 : Int32) &&& 31).toUInt32).toInt32) &&& (7 : Int32)), Iv (((p4.toUInt32 >>> ((6 : Int32) &&& 31).toUInt32).toInt32) &&& (7 : Int32)), Us, Us, Us, Us, Us, Us, Us] [(.int (p4 &&& (4 : Int32)))])) tt_ := by
          intro tt_ kt_
          refine XS.ifYes X0.here hEX rfl (pc0 := 69) (pc' := 77) rfl (hb hBY at_69) rfl ((if0 _ _).trans (teq hc69).1) (by decide) (by decide) ?_
          exact kt_
        refine Done.pre sg_178 ?_
        exact jn_2 ((q1 ||| (((1 : Int64) <<< (((8 : Int32) * (((p4.toUInt32 >>> ((3 : Int32) &&& 31).toUInt32).toInt32) &&& (7 : Int32))) &&& 0x3f).toInt64) - (1 : Int64)))) ((-1 : Int64)) (q3)
      · skip
        have sg_179 : ∀ tt_, Steps p.tables e below (s₁.setTop (mkF m 77 #[Lv (q1 ||| (((1 : Int64) <<< (((8 : Int32) * (((p4.toUInt32 >>> ((3 : Int32) &&& 31).toUInt32).toInt32) &&& (7 : Int32))) &&& 0x3f).toInt64) - (1 : Int64))), Zs, Lv (-1 : Int64), Zs, Lv (-1 : Int64), Zs, Iv p4, Iv (((p4.toUInt32 >>> ((3 : Int32) &&& 31).toUInt32).toInt32) &&& (7 : Int32)), Iv (((p4.toUInt32 >>> ((6 : Int32) &&& 31).toUInt32).toInt32) &&& (7 : Int32)), Us, Us, Us, Us, Us, Us, Us] [])) tt_ → Steps p.tables e below (s₁.setTop (mkF m 69 #[Lv (q1 ||| (((1 : Int64) <<< (((8 : Int32) * (((p4.toUInt32 >>> ((3 : Int32) &&& 31).toUInt32).toInt32) &&& (7 : Int32))) &&& 0x3f).toInt64) - (1 : Int64))), Zs, Lv (-1 : Int64), Zs, Lv q3, Zs, Iv p4, Iv (((p4.toUInt32 >>> ((3 : Int32) &&& 31).toUInt32).toInt32) &&& (7 : Int32)), Iv (((p4.toUInt32 >>> ((6 : Int32) &&& 31).toUInt32).toInt32) &&& (7 : Int32)), Us, Us, Us, Us, Us, Us, Us] [(.int (p4 &&& (4 : Int32)))])) tt_ := by
          intro tt_ kt_
          refine XS.ifNo X0.here hEX rfl (hb hBY at_69) rfl ((if0 _ _).trans (feq hc69).1) ?_
          show Steps p.tables e below (s₁.setTop (mkF m 72 #[Lv (q1 ||| (((1 : Int64) <<< (((8 : Int32) * (((p4.toUInt32 >>> ((3 : Int32) &&& 31).toUInt32).toInt32) &&& (7 : Int32))) &&& 0x3f).toInt64) - (1 : Int64))), Zs, Lv (-1 : Int64), Zs, Lv q3, Zs, Iv p4, Iv (((p4.toUInt32 >>> ((3 : Int32) &&& 31).toUInt32).toInt32) &&& (7 : Int32)), Iv (((p4.toUInt32 >>> ((6 : Int32) &&& 31).toUInt32).toInt32) &&& (7 : Int32)), Us, Us, Us, Us, Us, Us, Us] [])) tt_
          refine X0.ldc2Long hEX hOW (mvT hZW (hw _ (List.mem_of_getElem? (i := 0) rfl))) (g := (mkF m 72 #[Lv (q1 ||| (((1 : Int64) <<< (((8 : Int32) * (((p4.toUInt32 >>> ((3 : Int32) &&& 31).toUInt32).toInt32) &&& (7 : Int32))) &&& 0x3f).toInt64) - (1 : Int64))), Zs, Lv (-1 : Int64), Zs, Lv q3, Zs, Iv p4, Iv (((p4.toUInt32 >>> ((3 : Int32) &&& 31).toUInt32).toInt32) &&& (7 : Int32)), Iv (((p4.toUInt32 >>> ((6 : Int32) &&& 31).toUInt32).toInt32) &&& (7 : Int32)), Us, Us, Us, Us, Us, Us, Us] [])) rfl (hb hBY at_72) _ ?_
          show Steps p.tables e below (s₁.setTop (mkF m 75 #[Lv (q1 ||| (((1 : Int64) <<< (((8 : Int32) * (((p4.toUInt32 >>> ((3 : Int32) &&& 31).toUInt32).toInt32) &&& (7 : Int32))) &&& 0x3f).toInt64) - (1 : Int64))), Zs, Lv (-1 : Int64), Zs, Lv q3, Zs, Iv p4, Iv (((p4.toUInt32 >>> ((3 : Int32) &&& 31).toUInt32).toInt32) &&& (7 : Int32)), Iv (((p4.toUInt32 >>> ((6 : Int32) &&& 31).toUInt32).toInt32) &&& (7 : Int32)), Us, Us, Us, Us, Us, Us, Us] [(.long (-1 : Int64))])) tt_
          refine XS.lstore X0.here hEX rfl (hb hBY at_75) rfl (l' := #[Lv (q1 ||| (((1 : Int64) <<< (((8 : Int32) * (((p4.toUInt32 >>> ((3 : Int32) &&& 31).toUInt32).toInt32) &&& (7 : Int32))) &&& 0x3f).toInt64) - (1 : Int64))), Zs, Lv (-1 : Int64), Zs, Lv (-1 : Int64), Zs, Iv p4, Iv (((p4.toUInt32 >>> ((3 : Int32) &&& 31).toUInt32).toInt32) &&& (7 : Int32)), Iv (((p4.toUInt32 >>> ((6 : Int32) &&& 31).toUInt32).toInt32) &&& (7 : Int32)), Us, Us, Us, Us, Us, Us, Us]) rfl ?_
          exact kt_
        refine Done.pre sg_179 ?_
        exact jn_2 ((q1 ||| (((1 : Int64) <<< (((8 : Int32) * (((p4.toUInt32 >>> ((3 : Int32) &&& 31).toUInt32).toInt32) &&& (7 : Int32))) &&& 0x3f).toInt64) - (1 : Int64)))) ((-1 : Int64)) ((-1 : Int64))
  · skip
    have sg_180 : ∀ tt_, Steps p.tables e below (s₁.setTop (mkF m 58 #[Lv (-1 : Int64), Zs, Lv (q2 ||| (((1 : Int64) <<< (((8 : Int32) * (((p4.toUInt32 >>> ((6 : Int32) &&& 31).toUInt32).toInt32) &&& (7 : Int32))) &&& 0x3f).toInt64) - (1 : Int64))), Zs, Lv q3, Zs, Iv p4, Iv (((p4.toUInt32 >>> ((3 : Int32) &&& 31).toUInt32).toInt32) &&& (7 : Int32)), Iv (((p4.toUInt32 >>> ((6 : Int32) &&& 31).toUInt32).toInt32) &&& (7 : Int32)), Us, Us, Us, Us, Us, Us, Us] [(.int (p4 &&& (2 : Int32)))])) tt_ → Steps p.tables e below (s₁.setTop (mkF m 47 #[Lv (q1 ||| (((1 : Int64) <<< (((8 : Int32) * (((p4.toUInt32 >>> ((3 : Int32) &&& 31).toUInt32).toInt32) &&& (7 : Int32))) &&& 0x3f).toInt64) - (1 : Int64))), Zs, Lv (q2 ||| (((1 : Int64) <<< (((8 : Int32) * (((p4.toUInt32 >>> ((6 : Int32) &&& 31).toUInt32).toInt32) &&& (7 : Int32))) &&& 0x3f).toInt64) - (1 : Int64))), Zs, Lv q3, Zs, Iv p4, Iv (((p4.toUInt32 >>> ((3 : Int32) &&& 31).toUInt32).toInt32) &&& (7 : Int32)), Iv (((p4.toUInt32 >>> ((6 : Int32) &&& 31).toUInt32).toInt32) &&& (7 : Int32)), Us, Us, Us, Us, Us, Us, Us] [(.int (p4 &&& (1 : Int32)))])) tt_ := by
      intro tt_ kt_
      refine XS.ifNo X0.here hEX rfl (hb hBY at_47) rfl ((if0 _ _).trans (feq hc47).1) ?_
      show Steps p.tables e below (s₁.setTop (mkF m 50 #[Lv (q1 ||| (((1 : Int64) <<< (((8 : Int32) * (((p4.toUInt32 >>> ((3 : Int32) &&& 31).toUInt32).toInt32) &&& (7 : Int32))) &&& 0x3f).toInt64) - (1 : Int64))), Zs, Lv (q2 ||| (((1 : Int64) <<< (((8 : Int32) * (((p4.toUInt32 >>> ((6 : Int32) &&& 31).toUInt32).toInt32) &&& (7 : Int32))) &&& 0x3f).toInt64) - (1 : Int64))), Zs, Lv q3, Zs, Iv p4, Iv (((p4.toUInt32 >>> ((3 : Int32) &&& 31).toUInt32).toInt32) &&& (7 : Int32)), Iv (((p4.toUInt32 >>> ((6 : Int32) &&& 31).toUInt32).toInt32) &&& (7 : Int32)), Us, Us, Us, Us, Us, Us, Us] [])) tt_
      refine X0.ldc2Long hEX hOW (mvT hZW (hw _ (List.mem_of_getElem? (i := 0) rfl))) (g := (mkF m 50 #[Lv (q1 ||| (((1 : Int64) <<< (((8 : Int32) * (((p4.toUInt32 >>> ((3 : Int32) &&& 31).toUInt32).toInt32) &&& (7 : Int32))) &&& 0x3f).toInt64) - (1 : Int64))), Zs, Lv (q2 ||| (((1 : Int64) <<< (((8 : Int32) * (((p4.toUInt32 >>> ((6 : Int32) &&& 31).toUInt32).toInt32) &&& (7 : Int32))) &&& 0x3f).toInt64) - (1 : Int64))), Zs, Lv q3, Zs, Iv p4, Iv (((p4.toUInt32 >>> ((3 : Int32) &&& 31).toUInt32).toInt32) &&& (7 : Int32)), Iv (((p4.toUInt32 >>> ((6 : Int32) &&& 31).toUInt32).toInt32) &&& (7 : Int32)), Us, Us, Us, Us, Us, Us, Us] [])) rfl (hb hBY at_50) _ ?_
      show Steps p.tables e below (s₁.setTop (mkF m 53 #[Lv (q1 ||| (((1 : Int64) <<< (((8 : Int32) * (((p4.toUInt32 >>> ((3 : Int32) &&& 31).toUInt32).toInt32) &&& (7 : Int32))) &&& 0x3f).toInt64) - (1 : Int64))), Zs, Lv (q2 ||| (((1 : Int64) <<< (((8 : Int32) * (((p4.toUInt32 >>> ((6 : Int32) &&& 31).toUInt32).toInt32) &&& (7 : Int32))) &&& 0x3f).toInt64) - (1 : Int64))), Zs, Lv q3, Zs, Iv p4, Iv (((p4.toUInt32 >>> ((3 : Int32) &&& 31).toUInt32).toInt32) &&& (7 : Int32)), Iv (((p4.toUInt32 >>> ((6 : Int32) &&& 31).toUInt32).toInt32) &&& (7 : Int32)), Us, Us, Us, Us, Us, Us, Us] [(.long (-1 : Int64))])) tt_
      refine XS.lstoreN X0.here hEX rfl (hb hBY at_53) rfl (l' := #[Lv (-1 : Int64), Zs, Lv (q2 ||| (((1 : Int64) <<< (((8 : Int32) * (((p4.toUInt32 >>> ((6 : Int32) &&& 31).toUInt32).toInt32) &&& (7 : Int32))) &&& 0x3f).toInt64) - (1 : Int64))), Zs, Lv q3, Zs, Iv p4, Iv (((p4.toUInt32 >>> ((3 : Int32) &&& 31).toUInt32).toInt32) &&& (7 : Int32)), Iv (((p4.toUInt32 >>> ((6 : Int32) &&& 31).toUInt32).toInt32) &&& (7 : Int32)), Us, Us, Us, Us, Us, Us, Us]) rfl ?_
      show Steps p.tables e below (s₁.setTop (mkF m 54 #[Lv (-1 : Int64), Zs, Lv (q2 ||| (((1 : Int64) <<< (((8 : Int32) * (((p4.toUInt32 >>> ((6 : Int32) &&& 31).toUInt32).toInt32) &&& (7 : Int32))) &&& 0x3f).toInt64) - (1 : Int64))), Zs, Lv q3, Zs, Iv p4, Iv (((p4.toUInt32 >>> ((3 : Int32) &&& 31).toUInt32).toInt32) &&& (7 : Int32)), Iv (((p4.toUInt32 >>> ((6 : Int32) &&& 31).toUInt32).toInt32) &&& (7 : Int32)), Us, Us, Us, Us, Us, Us, Us] [])) tt_
      refine XS.iload X0.here hEX rfl (hb hBY at_54) rfl ?_
      show Steps p.tables e below (s₁.setTop (mkF m 56 #[Lv (-1 : Int64), Zs, Lv (q2 ||| (((1 : Int64) <<< (((8 : Int32) * (((p4.toUInt32 >>> ((6 : Int32) &&& 31).toUInt32).toInt32) &&& (7 : Int32))) &&& 0x3f).toInt64) - (1 : Int64))), Zs, Lv q3, Zs, Iv p4, Iv (((p4.toUInt32 >>> ((3 : Int32) &&& 31).toUInt32).toInt32) &&& (7 : Int32)), Iv (((p4.toUInt32 >>> ((6 : Int32) &&& 31).toUInt32).toInt32) &&& (7 : Int32)), Us, Us, Us, Us, Us, Us, Us] [(.int p4)])) tt_
      refine XS.iconst X0.here hEX rfl (hb hBY at_56) ?_
      show Steps p.tables e below (s₁.setTop (mkF m 57 #[Lv (-1 : Int64), Zs, Lv (q2 ||| (((1 : Int64) <<< (((8 : Int32) * (((p4.toUInt32 >>> ((6 : Int32) &&& 31).toUInt32).toInt32) &&& (7 : Int32))) &&& 0x3f).toInt64) - (1 : Int64))), Zs, Lv q3, Zs, Iv p4, Iv (((p4.toUInt32 >>> ((3 : Int32) &&& 31).toUInt32).toInt32) &&& (7 : Int32)), Iv (((p4.toUInt32 >>> ((6 : Int32) &&& 31).toUInt32).toInt32) &&& (7 : Int32)), Us, Us, Us, Us, Us, Us, Us] [(.int (2 : Int32)), (.int p4)])) tt_
      refine XS.iand X0.here hEX rfl (hb hBY at_57) rfl ?_
      exact kt_
    refine Done.pre sg_180 ?_
    by_cases hc58 : (p4 &&& (2 : Int32)) = (0 : Int32)
    · skip
      have sg_181 : ∀ tt_, Steps p.tables e below (s₁.setTop (mkF m 69 #[Lv (-1 : Int64), Zs, Lv (q2 ||| (((1 : Int64) <<< (((8 : Int32) * (((p4.toUInt32 >>> ((6 : Int32) &&& 31).toUInt32).toInt32) &&& (7 : Int32))) &&& 0x3f).toInt64) - (1 : Int64))), Zs, Lv q3, Zs, Iv p4, Iv (((p4.toUInt32 >>> ((3 : Int32) &&& 31).toUInt32).toInt32) &&& (7 : Int32)), Iv (((p4.toUInt32 >>> ((6 : Int32) &&& 31).toUInt32).toInt32) &&& (7 : Int32)), Us, Us, Us, Us, Us, Us, Us] [(.int (p4 &&& (4 : Int32)))])) tt_ → Steps p.tables e below (s₁.setTop (mkF m 58 #[Lv (-1 : Int64), Zs, Lv (q2 ||| (((1 : Int64) <<< (((8 : Int32) * (((p4.toUInt32 >>> ((6 : Int32) &&& 31).toUInt32).toInt32) &&& (7 : Int32))) &&& 0x3f).toInt64) - (1 : Int64))), Zs, Lv q3, Zs, Iv p4, Iv (((p4.toUInt32 >>> ((3 : Int32) &&& 31).toUInt32).toInt32) &&& (7 : Int32)), Iv (((p4.toUInt32 >>> ((6 : Int32) &&& 31).toUInt32).toInt32) &&& (7 : Int32)), Us, Us, Us, Us, Us, Us, Us] [(.int (p4 &&& (2 : Int32)))])) tt_ := by
        intro tt_ kt_
        refine XS.ifYes X0.here hEX rfl (pc0 := 58) (pc' := 65) rfl (hb hBY at_58) rfl ((if0 _ _).trans (teq hc58).1) (by decide) (by decide) ?_
        show Steps p.tables e below (s₁.setTop (mkF m 65 #[Lv (-1 : Int64), Zs, Lv (q2 ||| (((1 : Int64) <<< (((8 : Int32) * (((p4.toUInt32 >>> ((6 : Int32) &&& 31).toUInt32).toInt32) &&& (7 : Int32))) &&& 0x3f).toInt64) - (1 : Int64))), Zs, Lv q3, Zs, Iv p4, Iv (((p4.toUInt32 >>> ((3 : Int32) &&& 31).toUInt32).toInt32) &&& (7 : Int32)), Iv (((p4.toUInt32 >>> ((6 : Int32) &&& 31).toUInt32).toInt32) &&& (7 : Int32)), Us, Us, Us, Us, Us, Us, Us] [])) tt_
        refine XS.iload X0.here hEX rfl (hb hBY at_65) rfl ?_
        show Steps p.tables e below (s₁.setTop (mkF m 67 #[Lv (-1 : Int64), Zs, Lv (q2 ||| (((1 : Int64) <<< (((8 : Int32) * (((p4.toUInt32 >>> ((6 : Int32) &&& 31).toUInt32).toInt32) &&& (7 : Int32))) &&& 0x3f).toInt64) - (1 : Int64))), Zs, Lv q3, Zs, Iv p4, Iv (((p4.toUInt32 >>> ((3 : Int32) &&& 31).toUInt32).toInt32) &&& (7 : Int32)), Iv (((p4.toUInt32 >>> ((6 : Int32) &&& 31).toUInt32).toInt32) &&& (7 : Int32)), Us, Us, Us, Us, Us, Us, Us] [(.int p4)])) tt_
        refine XS.iconst X0.here hEX rfl (hb hBY at_67) ?_
        show Steps p.tables e below (s₁.setTop (mkF m 68 #[Lv (-1 : Int64), Zs, Lv (q2 ||| (((1 : Int64) <<< (((8 : Int32) * (((p4.toUInt32 >>> ((6 : Int32) &&& 31).toUInt32).toInt32) &&& (7 : Int32))) &&& 0x3f).toInt64) - (1 : Int64))), Zs, Lv q3, Zs, Iv p4, Iv (((p4.toUInt32 >>> ((3 : Int32) &&& 31).toUInt32).toInt32) &&& (7 : Int32)), Iv (((p4.toUInt32 >>> ((6 : Int32) &&& 31).toUInt32).toInt32) &&& (7 : Int32)), Us, Us, Us, Us, Us, Us, Us] [(.int (4 : Int32)), (.int p4)])) tt_
        refine XS.iand X0.here hEX rfl (hb hBY at_68) rfl ?_
        exact kt_
      refine Done.pre sg_181 ?_
      by_cases hc69 : (p4 &&& (4 : Int32)) = (0 : Int32)
      · skip
        have sg_182 : ∀ tt_, Steps p.tables e below (s₁.setTop (mkF m 77 #[Lv (-1 : Int64), Zs, Lv (q2 ||| (((1 : Int64) <<< (((8 : Int32) * (((p4.toUInt32 >>> ((6 : Int32) &&& 31).toUInt32).toInt32) &&& (7 : Int32))) &&& 0x3f).toInt64) - (1 : Int64))), Zs, Lv q3, Zs, Iv p4, Iv (((p4.toUInt32 >>> ((3 : Int32) &&& 31).toUInt32).toInt32) &&& (7 : Int32)), Iv (((p4.toUInt32 >>> ((6 : Int32) &&& 31).toUInt32).toInt32) &&& (7 : Int32)), Us, Us, Us, Us, Us, Us, Us] [])) tt_ → Steps p.tables e below (s₁.setTop (mkF m 69 #[Lv (-1 : Int64), Zs, Lv (q2 ||| (((1 : Int64) <<< (((8 : Int32) * (((p4.toUInt32 >>> ((6 : Int32) &&& 31).toUInt32).toInt32) &&& (7 : Int32))) &&& 0x3f).toInt64) - (1 : Int64))), Zs, Lv q3, Zs, Iv p4, Iv (((p4.toUInt32 >>> ((3 : Int32) &&& 31).toUInt32).toInt32) &&& (7 : Int32)), Iv (((p4.toUInt32 >>> ((6 : Int32) &&& 31).toUInt32).toInt32) &&& (7 : Int32)), Us, Us, Us, Us, Us, Us, Us] [(.int (p4 &&& (4 : Int32)))])) tt_ := by
          intro tt_ kt_
          refine XS.ifYes X0.here hEX rfl (pc0 := 69) (pc' := 77) rfl (hb hBY at_69) rfl ((if0 _ _).trans (teq hc69).1) (by decide) (by decide) ?_
          exact kt_
        refine Done.pre sg_182 ?_
        exact jn_2 ((-1 : Int64)) ((q2 ||| (((1 : Int64) <<< (((8 : Int32) * (((p4.toUInt32 >>> ((6 : Int32) &&& 31).toUInt32).toInt32) &&& (7 : Int32))) &&& 0x3f).toInt64) - (1 : Int64)))) (q3)
      · skip
        have sg_183 : ∀ tt_, Steps p.tables e below (s₁.setTop (mkF m 77 #[Lv (-1 : Int64), Zs, Lv (q2 ||| (((1 : Int64) <<< (((8 : Int32) * (((p4.toUInt32 >>> ((6 : Int32) &&& 31).toUInt32).toInt32) &&& (7 : Int32))) &&& 0x3f).toInt64) - (1 : Int64))), Zs, Lv (-1 : Int64), Zs, Iv p4, Iv (((p4.toUInt32 >>> ((3 : Int32) &&& 31).toUInt32).toInt32) &&& (7 : Int32)), Iv (((p4.toUInt32 >>> ((6 : Int32) &&& 31).toUInt32).toInt32) &&& (7 : Int32)), Us, Us, Us, Us, Us, Us, Us] [])) tt_ → Steps p.tables e below (s₁.setTop (mkF m 69 #[Lv (-1 : Int64), Zs, Lv (q2 ||| (((1 : Int64) <<< (((8 : Int32) * (((p4.toUInt32 >>> ((6 : Int32) &&& 31).toUInt32).toInt32) &&& (7 : Int32))) &&& 0x3f).toInt64) - (1 : Int64))), Zs, Lv q3, Zs, Iv p4, Iv (((p4.toUInt32 >>> ((3 : Int32) &&& 31).toUInt32).toInt32) &&& (7 : Int32)), Iv (((p4.toUInt32 >>> ((6 : Int32) &&& 31).toUInt32).toInt32) &&& (7 : Int32)), Us, Us, Us, Us, Us, Us, Us] [(.int (p4 &&& (4 : Int32)))])) tt_ := by
          intro tt_ kt_
          refine XS.ifNo X0.here hEX rfl (hb hBY at_69) rfl ((if0 _ _).trans (feq hc69).1) ?_
          show Steps p.tables e below (s₁.setTop (mkF m 72 #[Lv (-1 : Int64), Zs, Lv (q2 ||| (((1 : Int64) <<< (((8 : Int32) * (((p4.toUInt32 >>> ((6 : Int32) &&& 31).toUInt32).toInt32) &&& (7 : Int32))) &&& 0x3f).toInt64) - (1 : Int64))), Zs, Lv q3, Zs, Iv p4, Iv (((p4.toUInt32 >>> ((3 : Int32) &&& 31).toUInt32).toInt32) &&& (7 : Int32)), Iv (((p4.toUInt32 >>> ((6 : Int32) &&& 31).toUInt32).toInt32) &&& (7 : Int32)), Us, Us, Us, Us, Us, Us, Us] [])) tt_
          refine X0.ldc2Long hEX hOW (mvT hZW (hw _ (List.mem_of_getElem? (i := 0) rfl))) (g := (mkF m 72 #[Lv (-1 : Int64), Zs, Lv (q2 ||| (((1 : Int64) <<< (((8 : Int32) * (((p4.toUInt32 >>> ((6 : Int32) &&& 31).toUInt32).toInt32) &&& (7 : Int32))) &&& 0x3f).toInt64) - (1 : Int64))), Zs, Lv q3, Zs, Iv p4, Iv (((p4.toUInt32 >>> ((3 : Int32) &&& 31).toUInt32).toInt32) &&& (7 : Int32)), Iv (((p4.toUInt32 >>> ((6 : Int32) &&& 31).toUInt32).toInt32) &&& (7 : Int32)), Us, Us, Us, Us, Us, Us, Us] [])) rfl (hb hBY at_72) _ ?_
          show Steps p.tables e below (s₁.setTop (mkF m 75 #[Lv (-1 : Int64), Zs, Lv (q2 ||| (((1 : Int64) <<< (((8 : Int32) * (((p4.toUInt32 >>> ((6 : Int32) &&& 31).toUInt32).toInt32) &&& (7 : Int32))) &&& 0x3f).toInt64) - (1 : Int64))), Zs, Lv q3, Zs, Iv p4, Iv (((p4.toUInt32 >>> ((3 : Int32) &&& 31).toUInt32).toInt32) &&& (7 : Int32)), Iv (((p4.toUInt32 >>> ((6 : Int32) &&& 31).toUInt32).toInt32) &&& (7 : Int32)), Us, Us, Us, Us, Us, Us, Us] [(.long (-1 : Int64))])) tt_
          refine XS.lstore X0.here hEX rfl (hb hBY at_75) rfl (l' := #[Lv (-1 : Int64), Zs, Lv (q2 ||| (((1 : Int64) <<< (((8 : Int32) * (((p4.toUInt32 >>> ((6 : Int32) &&& 31).toUInt32).toInt32) &&& (7 : Int32))) &&& 0x3f).toInt64) - (1 : Int64))), Zs, Lv (-1 : Int64), Zs, Iv p4, Iv (((p4.toUInt32 >>> ((3 : Int32) &&& 31).toUInt32).toInt32) &&& (7 : Int32)), Iv (((p4.toUInt32 >>> ((6 : Int32) &&& 31).toUInt32).toInt32) &&& (7 : Int32)), Us, Us, Us, Us, Us, Us, Us]) rfl ?_
          exact kt_
        refine Done.pre sg_183 ?_
        exact jn_2 ((-1 : Int64)) ((q2 ||| (((1 : Int64) <<< (((8 : Int32) * (((p4.toUInt32 >>> ((6 : Int32) &&& 31).toUInt32).toInt32) &&& (7 : Int32))) &&& 0x3f).toInt64) - (1 : Int64)))) ((-1 : Int64))
    · skip
      have sg_184 : ∀ tt_, Steps p.tables e below (s₁.setTop (mkF m 69 #[Lv (-1 : Int64), Zs, Lv (-1 : Int64), Zs, Lv q3, Zs, Iv p4, Iv (((p4.toUInt32 >>> ((3 : Int32) &&& 31).toUInt32).toInt32) &&& (7 : Int32)), Iv (((p4.toUInt32 >>> ((6 : Int32) &&& 31).toUInt32).toInt32) &&& (7 : Int32)), Us, Us, Us, Us, Us, Us, Us] [(.int (p4 &&& (4 : Int32)))])) tt_ → Steps p.tables e below (s₁.setTop (mkF m 58 #[Lv (-1 : Int64), Zs, Lv (q2 ||| (((1 : Int64) <<< (((8 : Int32) * (((p4.toUInt32 >>> ((6 : Int32) &&& 31).toUInt32).toInt32) &&& (7 : Int32))) &&& 0x3f).toInt64) - (1 : Int64))), Zs, Lv q3, Zs, Iv p4, Iv (((p4.toUInt32 >>> ((3 : Int32) &&& 31).toUInt32).toInt32) &&& (7 : Int32)), Iv (((p4.toUInt32 >>> ((6 : Int32) &&& 31).toUInt32).toInt32) &&& (7 : Int32)), Us, Us, Us, Us, Us, Us, Us] [(.int (p4 &&& (2 : Int32)))])) tt_ := by
        intro tt_ kt_
        refine XS.ifNo X0.here hEX rfl (hb hBY at_58) rfl ((if0 _ _).trans (feq hc58).1) ?_
        show Steps p.tables e below (s₁.setTop (mkF m 61 #[Lv (-1 : Int64), Zs, Lv (q2 ||| (((1 : Int64) <<< (((8 : Int32) * (((p4.toUInt32 >>> ((6 : Int32) &&& 31).toUInt32).toInt32) &&& (7 : Int32))) &&& 0x3f).toInt64) - (1 : Int64))), Zs, Lv q3, Zs, Iv p4, Iv (((p4.toUInt32 >>> ((3 : Int32) &&& 31).toUInt32).toInt32) &&& (7 : Int32)), Iv (((p4.toUInt32 >>> ((6 : Int32) &&& 31).toUInt32).toInt32) &&& (7 : Int32)), Us, Us, Us, Us, Us, Us, Us] [])) tt_
        refine X0.ldc2Long hEX hOW (mvT hZW (hw _ (List.mem_of_getElem? (i := 0) rfl))) (g := (mkF m 61 #[Lv (-1 : Int64), Zs, Lv (q2 ||| (((1 : Int64) <<< (((8 : Int32) * (((p4.toUInt32 >>> ((6 : Int32) &&& 31).toUInt32).toInt32) &&& (7 : Int32))) &&& 0x3f).toInt64) - (1 : Int64))), Zs, Lv q3, Zs, Iv p4, Iv (((p4.toUInt32 >>> ((3 : Int32) &&& 31).toUInt32).toInt32) &&& (7 : Int32)), Iv (((p4.toUInt32 >>> ((6 : Int32) &&& 31).toUInt32).toInt32) &&& (7 : Int32)), Us, Us, Us, Us, Us, Us, Us] [])) rfl (hb hBY at_61) _ ?_
        show Steps p.tables e below (s₁.setTop (mkF m 64 #[Lv (-1 : Int64), Zs, Lv (q2 ||| (((1 : Int64) <<< (((8 : Int32) * (((p4.toUInt32 >>> ((6 : Int32) &&& 31).toUInt32).toInt32) &&& (7 : Int32))) &&& 0x3f).toInt64) - (1 : Int64))), Zs, Lv q3, Zs, Iv p4, Iv (((p4.toUInt32 >>> ((3 : Int32) &&& 31).toUInt32).toInt32) &&& (7 : Int32)), Iv (((p4.toUInt32 >>> ((6 : Int32) &&& 31).toUInt32).toInt32) &&& (7 : Int32)), Us, Us, Us, Us, Us, Us, Us] [(.long (-1 : Int64))])) tt_
        refine XS.lstoreN X0.here hEX rfl (hb hBY at_64) rfl (l' := #[Lv (-1 : Int64), Zs, Lv (-1 : Int64), Zs, Lv q3, Zs, Iv p4, Iv (((p4.toUInt32 >>> ((3 : Int32) &&& 31).toUInt32).toInt32) &&& (7 : Int32)), Iv (((p4.toUInt32 >>> ((6 : Int32) &&& 31).toUInt32).toInt32) &&& (7 : Int32)), Us, Us, Us, Us, Us, Us, Us]) rfl ?_
        show Steps p.tables e below (s₁.setTop (mkF m 65 #[Lv (-1 : Int64), Zs, Lv (-1 : Int64), Zs, Lv q3, Zs, Iv p4, Iv (((p4.toUInt32 >>> ((3 : Int32) &&& 31).toUInt32).toInt32) &&& (7 : Int32)), Iv (((p4.toUInt32 >>> ((6 : Int32) &&& 31).toUInt32).toInt32) &&& (7 : Int32)), Us, Us, Us, Us, Us, Us, Us] [])) tt_
        refine XS.iload X0.here hEX rfl (hb hBY at_65) rfl ?_
        show Steps p.tables e below (s₁.setTop (mkF m 67 #[Lv (-1 : Int64), Zs, Lv (-1 : Int64), Zs, Lv q3, Zs, Iv p4, Iv (((p4.toUInt32 >>> ((3 : Int32) &&& 31).toUInt32).toInt32) &&& (7 : Int32)), Iv (((p4.toUInt32 >>> ((6 : Int32) &&& 31).toUInt32).toInt32) &&& (7 : Int32)), Us, Us, Us, Us, Us, Us, Us] [(.int p4)])) tt_
        refine XS.iconst X0.here hEX rfl (hb hBY at_67) ?_
        show Steps p.tables e below (s₁.setTop (mkF m 68 #[Lv (-1 : Int64), Zs, Lv (-1 : Int64), Zs, Lv q3, Zs, Iv p4, Iv (((p4.toUInt32 >>> ((3 : Int32) &&& 31).toUInt32).toInt32) &&& (7 : Int32)), Iv (((p4.toUInt32 >>> ((6 : Int32) &&& 31).toUInt32).toInt32) &&& (7 : Int32)), Us, Us, Us, Us, Us, Us, Us] [(.int (4 : Int32)), (.int p4)])) tt_
        refine XS.iand X0.here hEX rfl (hb hBY at_68) rfl ?_
        exact kt_
      refine Done.pre sg_184 ?_
      by_cases hc69 : (p4 &&& (4 : Int32)) = (0 : Int32)
      · skip
        have sg_185 : ∀ tt_, Steps p.tables e below (s₁.setTop (mkF m 77 #[Lv (-1 : Int64), Zs, Lv (-1 : Int64), Zs, Lv q3, Zs, Iv p4, Iv (((p4.toUInt32 >>> ((3 : Int32) &&& 31).toUInt32).toInt32) &&& (7 : Int32)), Iv (((p4.toUInt32 >>> ((6 : Int32) &&& 31).toUInt32).toInt32) &&& (7 : Int32)), Us, Us, Us, Us, Us, Us, Us] [])) tt_ → Steps p.tables e below (s₁.setTop (mkF m 69 #[Lv (-1 : Int64), Zs, Lv (-1 : Int64), Zs, Lv q3, Zs, Iv p4, Iv (((p4.toUInt32 >>> ((3 : Int32) &&& 31).toUInt32).toInt32) &&& (7 : Int32)), Iv (((p4.toUInt32 >>> ((6 : Int32) &&& 31).toUInt32).toInt32) &&& (7 : Int32)), Us, Us, Us, Us, Us, Us, Us] [(.int (p4 &&& (4 : Int32)))])) tt_ := by
          intro tt_ kt_
          refine XS.ifYes X0.here hEX rfl (pc0 := 69) (pc' := 77) rfl (hb hBY at_69) rfl ((if0 _ _).trans (teq hc69).1) (by decide) (by decide) ?_
          exact kt_
        refine Done.pre sg_185 ?_
        exact jn_2 ((-1 : Int64)) ((-1 : Int64)) (q3)
      · skip
        have sg_186 : ∀ tt_, Steps p.tables e below (s₁.setTop (mkF m 77 #[Lv (-1 : Int64), Zs, Lv (-1 : Int64), Zs, Lv (-1 : Int64), Zs, Iv p4, Iv (((p4.toUInt32 >>> ((3 : Int32) &&& 31).toUInt32).toInt32) &&& (7 : Int32)), Iv (((p4.toUInt32 >>> ((6 : Int32) &&& 31).toUInt32).toInt32) &&& (7 : Int32)), Us, Us, Us, Us, Us, Us, Us] [])) tt_ → Steps p.tables e below (s₁.setTop (mkF m 69 #[Lv (-1 : Int64), Zs, Lv (-1 : Int64), Zs, Lv q3, Zs, Iv p4, Iv (((p4.toUInt32 >>> ((3 : Int32) &&& 31).toUInt32).toInt32) &&& (7 : Int32)), Iv (((p4.toUInt32 >>> ((6 : Int32) &&& 31).toUInt32).toInt32) &&& (7 : Int32)), Us, Us, Us, Us, Us, Us, Us] [(.int (p4 &&& (4 : Int32)))])) tt_ := by
          intro tt_ kt_
          refine XS.ifNo X0.here hEX rfl (hb hBY at_69) rfl ((if0 _ _).trans (feq hc69).1) ?_
          show Steps p.tables e below (s₁.setTop (mkF m 72 #[Lv (-1 : Int64), Zs, Lv (-1 : Int64), Zs, Lv q3, Zs, Iv p4, Iv (((p4.toUInt32 >>> ((3 : Int32) &&& 31).toUInt32).toInt32) &&& (7 : Int32)), Iv (((p4.toUInt32 >>> ((6 : Int32) &&& 31).toUInt32).toInt32) &&& (7 : Int32)), Us, Us, Us, Us, Us, Us, Us] [])) tt_
          refine X0.ldc2Long hEX hOW (mvT hZW (hw _ (List.mem_of_getElem? (i := 0) rfl))) (g := (mkF m 72 #[Lv (-1 : Int64), Zs, Lv (-1 : Int64), Zs, Lv q3, Zs, Iv p4, Iv (((p4.toUInt32 >>> ((3 : Int32) &&& 31).toUInt32).toInt32) &&& (7 : Int32)), Iv (((p4.toUInt32 >>> ((6 : Int32) &&& 31).toUInt32).toInt32) &&& (7 : Int32)), Us, Us, Us, Us, Us, Us, Us] [])) rfl (hb hBY at_72) _ ?_
          show Steps p.tables e below (s₁.setTop (mkF m 75 #[Lv (-1 : Int64), Zs, Lv (-1 : Int64), Zs, Lv q3, Zs, Iv p4, Iv (((p4.toUInt32 >>> ((3 : Int32) &&& 31).toUInt32).toInt32) &&& (7 : Int32)), Iv (((p4.toUInt32 >>> ((6 : Int32) &&& 31).toUInt32).toInt32) &&& (7 : Int32)), Us, Us, Us, Us, Us, Us, Us] [(.long (-1 : Int64))])) tt_
          refine XS.lstore X0.here hEX rfl (hb hBY at_75) rfl (l' := #[Lv (-1 : Int64), Zs, Lv (-1 : Int64), Zs, Lv (-1 : Int64), Zs, Iv p4, Iv (((p4.toUInt32 >>> ((3 : Int32) &&& 31).toUInt32).toInt32) &&& (7 : Int32)), Iv (((p4.toUInt32 >>> ((6 : Int32) &&& 31).toUInt32).toInt32) &&& (7 : Int32)), Us, Us, Us, Us, Us, Us, Us]) rfl ?_
          exact kt_
        refine Done.pre sg_186 ?_
        exact jn_2 ((-1 : Int64)) ((-1 : Int64)) ((-1 : Int64))
set_option maxRecDepth 65536 in
set_option maxHeartbeats 40000000 in
theorem comes_1 {Post : Tables → Env → Array Value → State → Outcome → State → Prop} (hpost : ∀ tb e args s v u, (limb_1_1.after args s (.returned v) u = true ∧ limb_1_2.after args s (.returned v) u = true ∧ True) → FrameEnd s (.returned v) u (Jvm.fieldLocs frame_1_writes args s ++ Jvm.arrayLocs frame_1_arrays args s ++ Jvm.staticLocs frame_1_statics s) 24 320 → Post tb e args s (.returned v) u) :
    ArmFor flags0 classFile x code maxLocals ret World_1 tables_1 room_1 Calls_1 rest_1 Pre_1 Post := by
  intro l hfl _ _ p e ha hc hk s m args below hf hA hF happ hP
  obtain ⟨hcalls, hrest, hpre⟩ := hP
  obtain ⟨-, -, -, hnamed, -, -, -, hat⟩ := (Spec.applies_iff hf).mp happ
  obtain ⟨hg, hn⟩ := and_e (Cond.before_iff.mp (show (Jvm.Cond.and given_1 narrow_1).before args s = true from hpre))
  obtain ⟨g1a, g1b⟩ := and_e hg
  obtain ⟨g2a, g2b⟩ := and_e g1b
  obtain ⟨g3a, g3b⟩ := and_e g2b
  obtain ⟨g4a, g4b⟩ := and_e g3b
  obtain ⟨w0, w1, w2, w3, rfl⟩ : ∃ w0 w1 w2 w3 : Value, args = #[w0, w1, w2, w3] := by
    have hs : args.size = 4 := by simpa [Cond.value, given_1] using g1a
    obtain ⟨L⟩ := args
    match L, hs with
    | [w0, w1, w2, w3], _ => exact ⟨w0, w1, w2, w3, rfl⟩
  have hw := fun d (hd : d ∈ tables_1) => atoms_spec (ws := Jvm.Cond.code x code maxLocals ret :: tables_1) hat d (List.mem_cons_of_mem _ hd)
  have hfit : Fit s := fun {y c} hc i hi => by
    obtain ⟨ha, rfl⟩ := Array.getElem?_eq_some_iff.mp hc
    have q := List.all_eq_true.mp ((Array.all_eq_true_iff_forall_mem.mp hF) _ (Array.getElem_mem ha)) i (List.mem_range.mpr hi)
    simpa [Array.getElem?_eq_getElem hi] using q
  obtain ⟨i0, ei0⟩ := isL_v g2a
  obtain rfl : w0 = (.long i0) := Option.some.inj ei0
  obtain ⟨i1, ei1⟩ := isL_v g3a
  obtain rfl : w1 = (.long i1) := Option.some.inj ei1
  obtain ⟨i2, ei2⟩ := isL_v g4a
  obtain rfl : w2 = (.long i2) := Option.some.inj ei2
  obtain ⟨i3, ei3⟩ := is_v g4b
  obtain rfl : w3 = (.int i3) := Option.some.inj ei3
  obtain ⟨n, o, h1, h2, h3, _, L, rfl, ⟨rfl, N, -⟩, hq⟩ := rm0 l s _ hw tables_1 i0 i1 i2 i3  s.heap s.heap.size (Nat.le_refl _)  p e ha hc hk s m _ below hf ((Spec.applies_iff_loose hf).mp happ).1 ⟨rfl, State.Warmed39.refl s, rfl⟩ trivial
  refine ⟨n, _, h1, h2, h3, hpost _ _ _ _ _ _ ⟨Cond.after_iff.mpr rfl, Cond.after_iff.mpr (eq_i res_at (Term.int_eval (1)) rfl), trivial⟩ ⟨hq.1, hq.2.1, (hq.2.2.sift fun y hy => Or.inr (N y hy)).mono (by decide) (by decide)⟩⟩
theorem main_1_1 : Claimed_1_1 := comes_1 fun _ _ _ _ _ _ h hF => ⟨h.1, hF⟩
theorem main_1_2 : Claimed_1_2 := comes_1 fun _ _ _ _ _ _ h hF => ⟨h.2.1, hF⟩
end Jvm.Pilot.@@N@@
namespace Jvm.Pilot.@@N@@
open Jvm Jvm.ClassFile Sem Op Lib Jvm.Free Jvm.Stand Jvm.Pilot.@@N@@.Jvm.D
/-! MADE BY PROGRAM (witnessworld.py) out of the Statement's table words and the real class files: 9 classes; the members and pool entries that the words name. The judged class is class 1, her method 5. -/
namespace start1
open Jvm.ClassFile
def u (s : String) : CpInfo := .utf8 (stringToUtf16 s)
/-- a pool by its gaps: so many unusable entries, then the entry; so many at the end -/
def gap : Nat → List CpInfo → List CpInfo
  | 0, r => r
  | n + 1, r => .unusable :: gap n r
def poolList (es : List (Nat × CpInfo)) (last : Nat) : List CpInfo := es.foldr (fun e r => gap e.1 (e.2 :: r)) (gap last [])
def pool (es : List (Nat × CpInfo)) (last : Nat) : Array CpInfo := ⟨poolList es last⟩
def fileOf (pool : Array CpInfo) (this : Nat) (attrs : Array Attribute := #[]) (ms : Array MethodInfo := #[]) (fl : Nat := 33) (sup : Nat := 0) (ifs : Array Nat := #[]) (fds : Array FieldInfo := #[]) : ClassFile where
  minorVersion := 0
  majorVersion := 65
  constantPool := pool
  accessFlags := fl
  thisClass := this
  superClass := sup
  interfaces := ifs
  fields := fds
  methods := ms
  attributes := attrs
def plain (name : String) (sup : Option ClassId) : Class where
  name := name
  kind := .ordinary
  loader := none
  accessFlags := 33
  super := sup
  interfaces := #[]
  cf := none
  fields := #[]
  methods := #[]
  instanceTypes := #[]
  staticTypes := #[]
  resolved := #[]
  callSites := []
  init := .initialized
  statics := none
  mirror := none

def pool0 : Array CpInfo := pool [(5, u "<init>"), (0, u "()V"), (1, .class_ 10), (1, u "java/lang/Object"), (85, u "clone"), (0, u "()Ljava/lang/Object;")] 26

def k0c0 : Code := { maxStack := 0, maxLocals := 1, code := object_method_1_code, exceptionTable := #[], attributes := #[] }
def k0m0 : Method := { name := "<init>", desc := "()V", sig := { parameters := [], returnType := none }, accessFlags := 1, code := some k0c0 }
def k0m1 : Method := { name := "clone", desc := "()Ljava/lang/Object;", sig := { parameters := [], returnType := some (.object "java/lang/Object") }, accessFlags := 260, code := none }
/-- java/lang/Object -/
def k0 : Class := { plain "java/lang/Object" none with
  accessFlags := 33
  interfaces := #[]
  cf := some (fileOf pool0 8 #[] #[{ accessFlags := 1, nameIndex := 5, descriptorIndex := 6, attributes := #[] }, { accessFlags := 260, nameIndex := 96, descriptorIndex := 97, attributes := #[] }] 33 0 #[] #[])
  fields := #[]
  methods := #[k0m0, k0m1]
  instanceTypes := #[]
  staticTypes := #[]
  resolved := Array.replicate 124 none
  statics := none }

def pool1 : Array CpInfo := pool [(2, .class_ 4), (1, u "java/lang/Object"), (0, u "<init>"), (0, u "()V"), (0, .methodref 8 9), (0, .class_ 10), (0, .nameAndType 11 12), (0, u "com/example/tidelog/tidelog/net/NonceNextPinLaw"), (0, u "get"), (0, u "([BI)J"), (0, .long 18446744073709551615), (1, .methodref 8 16), (0, .nameAndType 17 18), (0, u "put"), (0, u "([BIJ)V"), (0, .class_ 20), (0, u "com/example/tidelog/tidelog/net/Nonce"), (0, .methodref 19 22), (0, .nameAndType 5 23), (0, u "([B)V"), (0, .methodref 19 25), (0, .nameAndType 26 27), (0, u "next"), (0, u "()[B"), (0, .methodref 8 29), (0, .nameAndType 30 31), (0, u "same"), (0, u "([B[J)Z"), (0, .methodref 8 33), (0, .nameAndType 34 35), (0, u "inc"), (0, u "([J)V"), (3, u "law"), (0, u "(JJJI)Z")] 6

def k1m0 : Method := { name := "<init>", desc := "()V", sig := { parameters := [], returnType := none }, accessFlags := 1, code := none }
def k1c1 : Code := { maxStack := 5, maxLocals := 4, code := method_2_code, exceptionTable := #[], attributes := #[] }
def k1m1 : Method := { name := "put", desc := "([BIJ)V", sig := { parameters := [(.array .byte), .int, .long], returnType := none }, accessFlags := 10, code := some k1c1 }
def k1c2 : Code := { maxStack := 5, maxLocals := 2, code := method_3_code, exceptionTable := #[], attributes := #[] }
def k1m2 : Method := { name := "get", desc := "([BI)J", sig := { parameters := [(.array .byte), .int], returnType := some .long }, accessFlags := 10, code := some k1c2 }
def k1c3 : Code := { maxStack := 6, maxLocals := 1, code := method_4_code, exceptionTable := #[], attributes := #[] }
def k1m3 : Method := { name := "inc", desc := "([J)V", sig := { parameters := [(.array .long)], returnType := none }, accessFlags := 10, code := some k1c3 }
def k1c4 : Code := { maxStack := 4, maxLocals := 2, code := method_5_code, exceptionTable := #[], attributes := #[] }
def k1m4 : Method := { name := "same", desc := "([B[J)Z", sig := { parameters := [(.array .byte), (.array .long)], returnType := some .boolean }, accessFlags := 10, code := some k1c4 }
def k1c5 : Code := { maxStack := 6, maxLocals := 16, code := code, exceptionTable := #[], attributes := #[] }
def k1m5 : Method := { name := "law", desc := "(JJJI)Z", sig := { parameters := [.long, .long, .long, .int], returnType := some .boolean }, accessFlags := 9, code := some k1c5 }
/-- com/example/tidelog/tidelog/net/NonceNextPinLaw -/
def k1 : Class := { plain "com/example/tidelog/tidelog/net/NonceNextPinLaw" (some 0) with
  accessFlags := 49
  interfaces := #[]
  cf := some (fileOf pool1 8 #[] #[{ accessFlags := 1, nameIndex := 5, descriptorIndex := 6, attributes := #[] }, { accessFlags := 10, nameIndex := 17, descriptorIndex := 18, attributes := #[] }, { accessFlags := 10, nameIndex := 11, descriptorIndex := 12, attributes := #[] }, { accessFlags := 10, nameIndex := 34, descriptorIndex := 35, attributes := #[] }, { accessFlags := 10, nameIndex := 30, descriptorIndex := 31, attributes := #[] }, { accessFlags := 9, nameIndex := 39, descriptorIndex := 40, attributes := #[] }] 49 2 #[] #[])
  fields := #[]
  methods := #[k1m0, k1m1, k1m2, k1m3, k1m4, k1m5]
  instanceTypes := #[]
  staticTypes := #[]
  resolved := Array.replicate 47 none
  statics := none }

def pool2 : Array CpInfo := pool [(1, .methodref 2 3), (0, .class_ 4), (0, .nameAndType 5 6), (0, u "java/lang/Object"), (0, u "<init>"), (0, u "()V"), (0, .methodref 8 9), (0, .class_ 10), (0, .nameAndType 11 12), (0, u "[B"), (0, u "clone"), (0, u "()Ljava/lang/Object;"), (0, .fieldref 14 15), (0, .class_ 16), (0, .nameAndType 17 10), (0, u "com/example/tidelog/tidelog/net/Nonce"), (0, u "value"), (0, u "([B)V"), (2, u "next"), (0, u "()[B")] 3

def k2c0 : Code := { maxStack := 2, maxLocals := 2, code := prog_27_method_1_code, exceptionTable := #[], attributes := #[] }
def k2m0 : Method := { name := "<init>", desc := "([B)V", sig := { parameters := [(.array .byte)], returnType := none }, accessFlags := 0, code := some k2c0 }
def k2c1 : Code := { maxStack := 4, maxLocals := 3, code := prog_27_method_2_code, exceptionTable := #[], attributes := #[] }
def k2m1 : Method := { name := "next", desc := "()[B", sig := { parameters := [], returnType := some (.array .byte) }, accessFlags := 0, code := some k2c1 }
/-- com/example/tidelog/tidelog/net/Nonce -/
def k2 : Class := { plain "com/example/tidelog/tidelog/net/Nonce" (some 0) with
  accessFlags := 48
  interfaces := #[]
  cf := some (fileOf pool2 14 #[] #[{ accessFlags := 0, nameIndex := 5, descriptorIndex := 18, attributes := #[] }, { accessFlags := 0, nameIndex := 21, descriptorIndex := 22, attributes := #[] }] 48 2 #[] #[{ accessFlags := 18, nameIndex := 17, descriptorIndex := 10, attributes := #[] }])
  fields := #[{ name := "value", type := (.array .byte), accessFlags := 18, slot := 0, constantValue := 0 }]
  methods := #[k2m0, k2m1]
  instanceTypes := #[(.array .byte)]
  staticTypes := #[]
  resolved := Array.replicate 26 none
  statics := none }

def pool3 : Array CpInfo := pool [(1, .class_ 2), (0, u "java/lang/Cloneable"), (0, .class_ 4), (0, u "java/lang/Object")] 2

/-- java/lang/Cloneable -/
def k3 : Class := { plain "java/lang/Cloneable" (some 0) with
  accessFlags := 1537
  interfaces := #[]
  cf := some (fileOf pool3 1 #[] #[] 1537 3 #[] #[])
  fields := #[]
  methods := #[]
  instanceTypes := #[]
  staticTypes := #[]
  resolved := Array.replicate 7 none
  statics := none }

def pool4 : Array CpInfo := pool [(1, u "java/io/Serializable"), (0, .class_ 1), (0, u "java/lang/Object"), (0, .class_ 3)] 3

/-- java/io/Serializable -/
def k4 : Class := { plain "java/io/Serializable" (some 0) with
  accessFlags := 1537
  interfaces := #[]
  cf := some (fileOf pool4 2 #[] #[] 1537 4 #[] #[])
  fields := #[]
  methods := #[]
  instanceTypes := #[]
  staticTypes := #[]
  resolved := Array.replicate 8 none
  statics := none }

/-- the primitive byte -/
def k5 : Class := { plain "byte" none with kind := .primitive 'B', accessFlags := 0x411 }
/-- [B -/
def k6 : Class := { plain "[B" (some 0) with kind := .array 5 .byte, interfaces := #[3, 4], accessFlags := 1041 }

/-- the primitive long -/
def k7 : Class := { plain "long" none with kind := .primitive 'J', accessFlags := 0x411 }
/-- [J -/
def k8 : Class := { plain "[J" (some 0) with kind := .array 7 .long, interfaces := #[3, 4], accessFlags := 1041 }

def heap : Heap := #[]
def classes : Array Class := #[k0, k1, k2, k3, k4, k5, k6, k7, k8]
def interned : List (Array UInt16 × Addr) := []
def slotsUsed : Nat := 0
def theMethod : MethodId := ⟨1, 5⟩
def args0 : Array Value := #[.long 7, .long 8, .long 9, .int 5]
def aboutOver (below : List Frame) : State where
  vm := { classes := classes, interned := interned.toArray }
  heap := heap
  slotsUsed := slotsUsed
  threads := #[{ frames := .invoking theMethod args0 :: below }]
def below0 : List Frame := [.native { method := ⟨0, 0⟩, args := #[] }]
def about1 : State := aboutOver below0
def p0 : Program := .bare "" "" ""
def e0 : Env := launch0.env 0 0 0
theorem w_frames : about1.frames = Frame.invoking theMethod args0 :: below0 := rfl
set_option maxRecDepth 65536 in
theorem w_args : argsFit about1.vm theMethod args0 = true := by decide +kernel
set_option maxRecDepth 65536 in
theorem w_heap : heapFits about1 = true := by decide +kernel
set_option maxRecDepth 65536 in
theorem w_runnable : about1.curStatus? = some .runnable := by decide +kernel
set_option maxRecDepth 65536 in
theorem w_alone : about1.alone = true := by decide +kernel
set_option maxRecDepth 65536 in
theorem w_named : about1.methodNamed? x = some theMethod := by decide +kernel
set_option maxRecDepth 65536 in
theorem w_hears : about1.hears theMethod below0 = true := by decide +kernel
set_option maxRecDepth 65536 in
theorem w_ripe : about1.ripe theMethod args0 below0 = true := by decide +kernel
theorem w_running : about1.status = .running := rfl
set_option maxRecDepth 65536 in
theorem w_room : about1.hasRoom e0.platform room_1 = true :=
  launch0.hasRoom_least _ room_1 (by decide +kernel) (by decide +kernel) (by decide +kernel) (by decide +kernel) (by decide +kernel) (by decide +kernel)
theorem allAtoms_all (ts : List Jvm.Cond) (a : Array Jvm.Value) (st : Jvm.State) : (allAtoms ts).before a st = ts.all (fun c => c.before a st) := by
  induction ts with
  | nil => rfl
  | cons c t ih =>
    show (Jvm.Cond.and c (allAtoms t)).before a st = _
    rw [Jvm.Cond.before_and, ih, List.all_cons]
def words1 : List Jvm.Cond := Jvm.Cond.code x code maxLocals ret :: tables_1
/-- a 'code' word, met by the world's own term for the bytes: nothing is compared byte by byte -/
theorem code_word {y : MethodName} {bytes : ByteArray} {mx : Nat} {rt : Option FieldType} {a : Array Value} {s : State} {m : MethodId} {meth : Method} {c : Code} (h1 : s.methodNamed? y = some m) (h2 : s.vm.method? m = some meth) (h3 : meth.code = some c) (h4 : c.code = bytes)
    (h5 : (c.maxLocals == mx && c.exceptionTable.isEmpty && decide (c.maxStack ≤ mostOperands) && decide (meth.sig.returnType = rt) && !meth.locks && decide (parseMethodDescriptor y.desc = some meth.sig)) = true) : (Jvm.Cond.code y bytes mx rt).before a s = true := by
  simp only [Bool.and_eq_true, beq_iff_eq, Bool.not_eq_true', decide_eq_true_eq] at h5
  obtain ⟨⟨⟨⟨⟨g1, g2⟩, g3⟩, g4⟩, g5⟩, g6⟩ := h5
  simp [Cond.before, Cond.holds, Cond.value, h1, h2, h3, h4, g1, g2, g3, g4, g5, g6]
def isCode : Jvm.Cond → Bool
  | .code _ _ _ _ => true
  | _ => false
theorem all_split {L : List Jvm.Cond} {P : Jvm.Cond → Bool} (h1 : L.all (fun c => isCode c || P c) = true) (h2 : ∀ c ∈ L.filter isCode, P c = true) : L.all P = true := by
  refine List.all_eq_true.mpr fun c hc => ?_
  have h := List.all_eq_true.mp h1 c hc
  rcases Bool.eq_false_or_eq_true (isCode c) with hi | hi
  · exact h2 c (List.mem_filter.mpr ⟨hc, hi⟩)
  · simpa [hi] using h
set_option maxRecDepth 65536 in
theorem w_c0 : (Jvm.Cond.code x code maxLocals ret).before args0 about1 = true := code_word (m := ⟨1, 5⟩) (meth := k1m5) (c := k1c5) (by decide +kernel) rfl rfl rfl (by decide +kernel)
set_option maxRecDepth 65536 in
theorem w_c1 : (Jvm.Cond.code ({ cls := "com/example/tidelog/tidelog/net/NonceNextPinLaw", name := "put", desc := "([BIJ)V" } : Jvm.MethodName) method_2_code (4 : Nat) (Option.none : Option Jvm.ClassFile.FieldType)).before args0 about1 = true := code_word (m := ⟨1, 1⟩) (meth := k1m1) (c := k1c1) (by decide +kernel) rfl rfl rfl (by decide +kernel)
set_option maxRecDepth 65536 in
theorem w_c2 : (Jvm.Cond.code ({ cls := "com/example/tidelog/tidelog/net/Nonce", name := "<init>", desc := "([B)V" } : Jvm.MethodName) prog_27_method_1_code (2 : Nat) (Option.none : Option Jvm.ClassFile.FieldType)).before args0 about1 = true := code_word (m := ⟨2, 0⟩) (meth := k2m0) (c := k2c0) (by decide +kernel) rfl rfl rfl (by decide +kernel)
set_option maxRecDepth 65536 in
theorem w_c3 : (Jvm.Cond.code ({ cls := "java/lang/Object", name := "<init>", desc := "()V" } : Jvm.MethodName) object_method_1_code (1 : Nat) (Option.none : Option Jvm.ClassFile.FieldType)).before args0 about1 = true := code_word (m := ⟨0, 0⟩) (meth := k0m0) (c := k0c0) (by decide +kernel) rfl rfl rfl (by decide +kernel)
set_option maxRecDepth 65536 in
theorem w_c4 : (Jvm.Cond.code ({ cls := "com/example/tidelog/tidelog/net/Nonce", name := "next", desc := "()[B" } : Jvm.MethodName) prog_27_method_2_code (3 : Nat) (Option.some (Jvm.ClassFile.FieldType.array Jvm.ClassFile.FieldType.byte))).before args0 about1 = true := code_word (m := ⟨2, 1⟩) (meth := k2m1) (c := k2c1) (by decide +kernel) rfl rfl rfl (by decide +kernel)
set_option maxRecDepth 65536 in
theorem w_c5 : (Jvm.Cond.code ({ cls := "com/example/tidelog/tidelog/net/NonceNextPinLaw", name := "same", desc := "([B[J)Z" } : Jvm.MethodName) method_5_code (2 : Nat) (Option.some Jvm.ClassFile.FieldType.boolean)).before args0 about1 = true := code_word (m := ⟨1, 4⟩) (meth := k1m4) (c := k1c4) (by decide +kernel) rfl rfl rfl (by decide +kernel)
set_option maxRecDepth 65536 in
theorem w_c6 : (Jvm.Cond.code ({ cls := "com/example/tidelog/tidelog/net/NonceNextPinLaw", name := "get", desc := "([BI)J" } : Jvm.MethodName) method_3_code (2 : Nat) (Option.some Jvm.ClassFile.FieldType.long)).before args0 about1 = true := code_word (m := ⟨1, 2⟩) (meth := k1m2) (c := k1c2) (by decide +kernel) rfl rfl rfl (by decide +kernel)
set_option maxRecDepth 65536 in
theorem w_c7 : (Jvm.Cond.code ({ cls := "com/example/tidelog/tidelog/net/NonceNextPinLaw", name := "inc", desc := "([J)V" } : Jvm.MethodName) method_4_code (1 : Nat) (Option.none : Option Jvm.ClassFile.FieldType)).before args0 about1 = true := code_word (m := ⟨1, 3⟩) (meth := k1m3) (c := k1c3) (by decide +kernel) rfl rfl rfl (by decide +kernel)
def codes1 : List Jvm.Cond := [Jvm.Cond.code x code maxLocals ret, Jvm.Cond.code ({ cls := "com/example/tidelog/tidelog/net/NonceNextPinLaw", name := "put", desc := "([BIJ)V" } : Jvm.MethodName) method_2_code (4 : Nat) (Option.none : Option Jvm.ClassFile.FieldType), Jvm.Cond.code ({ cls := "com/example/tidelog/tidelog/net/Nonce", name := "<init>", desc := "([B)V" } : Jvm.MethodName) prog_27_method_1_code (2 : Nat) (Option.none : Option Jvm.ClassFile.FieldType), Jvm.Cond.code ({ cls := "java/lang/Object", name := "<init>", desc := "()V" } : Jvm.MethodName) object_method_1_code (1 : Nat) (Option.none : Option Jvm.ClassFile.FieldType), Jvm.Cond.code ({ cls := "com/example/tidelog/tidelog/net/Nonce", name := "next", desc := "()[B" } : Jvm.MethodName) prog_27_method_2_code (3 : Nat) (Option.some (Jvm.ClassFile.FieldType.array Jvm.ClassFile.FieldType.byte)), Jvm.Cond.code ({ cls := "com/example/tidelog/tidelog/net/NonceNextPinLaw", name := "same", desc := "([B[J)Z" } : Jvm.MethodName) method_5_code (2 : Nat) (Option.some Jvm.ClassFile.FieldType.boolean), Jvm.Cond.code ({ cls := "com/example/tidelog/tidelog/net/NonceNextPinLaw", name := "get", desc := "([BI)J" } : Jvm.MethodName) method_3_code (2 : Nat) (Option.some Jvm.ClassFile.FieldType.long), Jvm.Cond.code ({ cls := "com/example/tidelog/tidelog/net/NonceNextPinLaw", name := "inc", desc := "([J)V" } : Jvm.MethodName) method_4_code (1 : Nat) (Option.none : Option Jvm.ClassFile.FieldType)]
set_option maxRecDepth 65536 in
theorem codes_eq : words1.filter isCode = codes1 := rfl
theorem w_codes : ∀ c ∈ words1.filter isCode, c.before args0 about1 = true := by
  rw [codes_eq]
  intro c hc
  simp only [codes1, List.mem_cons, List.not_mem_nil, or_false] at hc
  rcases hc with rfl | rfl | rfl | rfl | rfl | rfl | rfl | rfl
  · exact w_c0
  · exact w_c1
  · exact w_c2
  · exact w_c3
  · exact w_c4
  · exact w_c5
  · exact w_c6
  · exact w_c7
set_option maxRecDepth 65536 in
theorem w_t1 : (words1.take 24).all (fun c => isCode c || c.before args0 about1) = true := by decide +kernel
set_option maxRecDepth 65536 in
theorem w_t2 : (words1.drop 24).all (fun c => isCode c || c.before args0 about1) = true := by decide +kernel
theorem w_tables : (allAtoms (Jvm.Cond.code x code maxLocals ret :: tables_1)).before args0 about1 = true := by
  rw [allAtoms_all]
  show words1.all (fun c => c.before args0 about1) = true
  refine all_split ?_ w_codes
  rw [← List.take_append_drop 24 words1, List.all_append, w_t1, w_t2]
  rfl
set_option maxRecDepth 65536 in
theorem w_case : (Jvm.Cond.and given_1 narrow_1).before args0 about1 = true := by decide +kernel
theorem w_applies : (headSpec (Jvm.Cond.code x code maxLocals ret :: tables_1) room_1).applies x e0.platform about1 = true :=
  (Spec.applies_iff w_frames).mpr ⟨w_running, w_runnable, w_alone, w_named, w_hears, w_ripe, w_room, w_tables⟩
theorem atStart : AtStart classFile x code maxLocals ret World_1 tables_1 room_1 Calls_1 rest_1 Pre_1 launch0 p0 e0 about1 theMethod args0 below0 :=
  ⟨lists_1, trivial, launch0.admits_env _ _ _, launch0.least_env, fairChoices_fair.cas, fairChoices_fair.clock, w_frames, w_args, w_heap, w_applies, trivial, trivial, w_case⟩
end start1
theorem witness_1 : WitnessClaimed_1 := ⟨start1.p0, start1.e0, start1.about1, start1.theMethod, start1.args0, start1.below0, start1.atStart⟩
end Jvm.Pilot.@@N@@
