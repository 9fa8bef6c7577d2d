import JvmDerived
import JvmDerived.Pilot.@@N@@Statement
import JvmDerived.Pilot.@@N@@Code
set_option linter.unusedVariables false
set_option linter.unusedSimpArgs false
namespace Jvm.Pilot.@@N@@
open Jvm Jvm.ClassFile Sem Op Lib Jvm.Free Jvm.Stand Jvm.LawKit Jvm.RoadKit Bundle Jvm.Pilot.@@N@@.Jvm.D
/-! A walk as one goal: from the state U the run comes to an end that answers Q. -/
section Kit
def Go (p : Program) (e : Env) (below : List Frame) (s : State) (Q : Option Value → Heap → List Loc → Prop) (C N : Nat) (U : State) : Prop :=
  ∃ s₂ o, Steps p.tables e below U s₂ ∧ s₂.status = .running ∧ Ended s₂ below o ∧ ∃ v L, o = .returned v ∧ Q v s₂.heap L ∧ FrameEnd s o s₂ L C N
variable {p : Program} {l : Launch} {e : Env} {R : Room} {s : State} {m : MethodId} {args : Array Value} {below : List Frame} {meth : Method} {c : Code} {T : State} {locs : List Loc} {cells slots : Nat} {Q : Option Value → Heap → List Loc → Prop} {C N : Nat}
theorem gob {U U' : State} (h : ∀ t, Steps p.tables e below U' t → Steps p.tables e below U t) (k : Go p e below s Q C N U') : Go p e below s Q C N U := by
  obtain ⟨s₂, o, h1, r⟩ := k
  exact ⟨s₂, o, h _ h1, r⟩
theorem goZ (X : Stand p l e R s m args below meth c T locs cells slots) (hx : p.tables.exec = Jvm.exec) (hlk : meth.locks = false) {t : FieldType} {pc : Nat} {Ls : Array Slot} {z z' : Int32} {rest : List Value} (hret : meth.sig.returnType = some t) (ht : t = .boolean ∨ t = .byte ∨ t = .char ∨ t = .short) (hd : decode c.code pc = .ok (.ireturn, 1)) (hz : nar t z = z') (hq : Q (some (.int z')) T.heap locs) (hc : cells ≤ C) (hn : slots ≤ N) :
    Go p e below s Q C N (T.setTop (mkF m pc Ls (.int z :: rest))) := by
  subst hz
  obtain ⟨fs, hr, hrun, hended, hW, hsame⟩ := X.leave (v := some (.int (nar t z))) (fun h => by rw [hret] at h; cases h) hlk
  exact ⟨_, _, retN X hx hret ht hd hr, hrun, hended, _, _, rfl, hq, ⟨_, rfl⟩, hW, hsame.mono hc hn⟩
theorem goI (X : Stand p l e R s m args below meth c T locs cells slots) (hx : p.tables.exec = Jvm.exec) (hlk : meth.locks = false) {pc : Nat} {Ls : Array Slot} {z : Int32} {rest : List Value} (hret : meth.sig.returnType = some .int) (hd : decode c.code pc = .ok (.ireturn, 1)) (hq : Q (some (.int z)) T.heap locs) (hc : cells ≤ C) (hn : slots ≤ N) :
    Go p e below s Q C N (T.setTop (mkF m pc Ls (.int z :: rest))) := by
  obtain ⟨fs, hr, hrun, hended, hW, hsame⟩ := X.leave (v := some (.int z)) (fun h => by rw [hret] at h; cases h) hlk
  exact ⟨_, _, retOut X hx hret rfl (Or.inl ⟨rfl, Or.inl rfl, z, rfl⟩) hd hr, hrun, hended, _, _, rfl, hq, ⟨_, rfl⟩, hW, hsame.mono hc hn⟩
theorem goJ (X : Stand p l e R s m args below meth c T locs cells slots) (hx : p.tables.exec = Jvm.exec) (hlk : meth.locks = false) {pc : Nat} {Ls : Array Slot} {z : Int64} {rest : List Value} (hret : meth.sig.returnType = some .long) (hd : decode c.code pc = .ok (.lreturn, 1)) (hq : Q (some (.long z)) T.heap locs) (hc : cells ≤ C) (hn : slots ≤ N) :
    Go p e below s Q C N (T.setTop (mkF m pc Ls (.long z :: rest))) := by
  obtain ⟨fs, hr, hrun, hended, hW, hsame⟩ := X.leave (v := some (.long z)) (fun h => by rw [hret] at h; cases h) hlk
  exact ⟨_, _, retOut X hx hret rfl (Or.inr (Or.inl ⟨rfl, rfl, z, rfl⟩)) hd hr, hrun, hended, _, _, rfl, hq, ⟨_, rfl⟩, hW, hsame.mono hc hn⟩
theorem goD (X : Stand p l e R s m args below meth c T locs cells slots) (hx : p.tables.exec = Jvm.exec) (hlk : meth.locks = false) {pc : Nat} {Ls : Array Slot} {z : UInt64} {rest : List Value} (hret : meth.sig.returnType = some .double) (hd : decode c.code pc = .ok (.dreturn, 1)) (hq : Q (some (.double z)) T.heap locs) (hc : cells ≤ C) (hn : slots ≤ N) :
    Go p e below s Q C N (T.setTop (mkF m pc Ls (.double z :: rest))) := by
  obtain ⟨fs, hr, hrun, hended, hW, hsame⟩ := X.leave (v := some (.double z)) (fun h => by rw [hret] at h; cases h) hlk
  exact ⟨_, _, retOut X hx hret rfl (Or.inr (Or.inr (Or.inl ⟨rfl, rfl, z, rfl⟩))) hd hr, hrun, hended, _, _, rfl, hq, ⟨_, rfl⟩, hW, hsame.mono hc hn⟩
theorem goA (X : Stand p l e R s m args below meth c T locs cells slots) (hx : p.tables.exec = Jvm.exec) (hlk : meth.locks = false) {t : FieldType} {pc : Nat} {Ls : Array Slot} {z : Value} {rest : List Value} (hret : meth.sig.returnType = some t) (ht : t.isReference = true) (hv : z.isRef = true) (hd : decode c.code pc = .ok (.areturn, 1)) (hq : Q (some z) T.heap locs) (hc : cells ≤ C) (hn : slots ≤ N) :
    Go p e below s Q C N (T.setTop (mkF m pc Ls (z :: rest))) := by
  obtain ⟨fs, hr, hrun, hended, hW, hsame⟩ := X.leave (v := some z) (fun h => by rw [hret] at h; cases h) hlk
  have hnw : narrow t z = z := by cases z <;> cases t <;> first | rfl | (simp [Value.isRef] at hv) | (simp [FieldType.isReference] at ht)
  exact ⟨_, _, retOut X hx hret hnw (Or.inr (Or.inr (Or.inr (Or.inr ⟨rfl, ht, hv⟩)))) hd hr, hrun, hended, _, _, rfl, hq, ⟨_, rfl⟩, hW, hsame.mono hc hn⟩
theorem goV (X : Stand p l e R s m args below meth c T locs cells slots) (hx : p.tables.exec = Jvm.exec) (hlk : meth.locks = false) {pc : Nat} {Ls : Array Slot} (hret : meth.sig.returnType = none) (hd : decode c.code pc = .ok (.return_, 1)) (hq : Q none T.heap locs) (hc : cells ≤ C) (hn : slots ≤ N) :
    Go p e below s Q C N (T.setTop (mkF m pc Ls [])) := by
  obtain ⟨fs, hr, hrun, hended, hW, hsame⟩ := X.leave (v := none) (fun _ => rfl) hlk
  exact ⟨_, _, X.returnOut hx hret hd hr, hrun, hended, _, _, rfl, hq, ⟨_, rfl⟩, hW, hsame.mono hc hn⟩
theorem lremM {g : JFrame} {target : State} (X : Stand p l e R s m args below meth c T locs cells slots) (hx : p.tables.exec = Jvm.exec) (hg : g.method = m) {x y : Int64} {rest : List Value} (hd : decode c.code g.pc = .ok (.lrem, 1)) (hs : g.stack = .long y :: .long x :: rest) (hy : y ≠ 0)
    (hr : Steps p.tables e below (T.setTop { g with pc := g.pc + 1, stack := .long (x % y) :: rest }) target) : Steps p.tables e below (T.setTop g) target :=
  XS.lrem X.here hx hg hd hs hy (by rw [lrem_mod x y]; exact hr)
theorem own_lrem (x y : Int64) (d : Int) (hy : y.toInt = d) : (0 ≤ x.toInt → (x % y).toInt = x.toInt % d) ∧ (x.toInt < 0 → (x % y).toInt = -((-x.toInt) % d)) := by rw [Int64.toInt_mod, hy]; exact tr _ _
theorem own_lxor (x y : Int64) (hy : 0 ≤ y.toInt) : ((x ^^^ y).toInt < 0 ↔ x.toInt < 0) := by
  have h1 : (x ^^^ y).toBitVec.msb = (x.toBitVec.msb ^^ y.toBitVec.msb) := by rw [Int64.toBitVec_xor, BitVec.msb_xor]
  have h2 := BitVec.msb_eq_toInt (x := (x ^^^ y).toBitVec)
  have h3 := BitVec.msb_eq_toInt (x := x.toBitVec)
  have h4 := BitVec.msb_eq_toInt (x := y.toBitVec)
  have e1 : (x ^^^ y).toBitVec.toInt = (x ^^^ y).toInt := rfl
  have e2 : x.toBitVec.toInt = x.toInt := rfl
  have e3 : y.toBitVec.toInt = y.toInt := rfl
  rw [e1] at h2
  rw [e2] at h3
  rw [e3] at h4
  have h5 : ¬ y.toInt < 0 := by omega
  rw [h2, h3, h4, decide_eq_false h5, Bool.xor_false] at h1
  simpa using h1
theorem pop2L {g : JFrame} {target : State} (X : Stand p l e R s m args below meth c T locs cells slots) (hx : p.tables.exec = Jvm.exec) (hg : g.method = m) {x : Int64} {rest : List Value} (hd : decode c.code g.pc = .ok (.pop2, 1)) (hs : g.stack = .long x :: rest)
    (hr : Steps p.tables e below (T.setTop { g with pc := g.pc + 1, stack := rest }) target) : Steps p.tables e below (T.setTop g) target := by
  subst hg
  jvm_step X.here [X.here.top, hx, hd, hs, Value.category]
  exact hr
theorem own_staKeep {Z : State} {h h' : Heap} {C n d : String} {v : Value} {ws : List Addr} (F : Sta Z h C n d v) (K : Keep h h' ws) (hn : ∀ x ∈ ws, ∀ cell : Cell, h[x]? = some cell → cell.vm.isStatics = false) : Sta Z h' C n d v := by
  obtain ⟨cf, i, k, f, st, cell, h1, h2, h3, h4, h5, h6, h7⟩ := F
  exact ⟨cf, i, k, f, st, cell, h1, h2, h3, h4, K.2.1 _ _ h5 (fun q => by have q2 := hn _ q _ h5; rw [h6] at q2; cases q2), h6, h7⟩
theorem own_lmulR (x y : Int64) (d : Int) (hy : y.toInt = d) : ((x * y).toInt - x.toInt * d) % 18446744073709551616 = 0 := by rw [← hy]; exact c_lmul x y
theorem own_lmulL (x y : Int64) (d : Int) (hx : x.toInt = d) : ((x * y).toInt - d * y.toInt) % 18446744073709551616 = 0 := by rw [← hx]; exact c_lmul x y
theorem own_imulR (x y : Int32) (d : Int) (hy : y.toInt = d) : ((x * y).toInt - x.toInt * d) % 4294967296 = 0 := by rw [← hy]; exact c_imul x y
theorem own_imulL (x y : Int32) (d : Int) (hx : x.toInt = d) : ((x * y).toInt - d * y.toInt) % 4294967296 = 0 := by rw [← hx]; exact c_imul x y
end Kit

/-- the store's size, on integers -/
def szI (P M : Int) : Int := 4 * (P / 4 + 1) * (2 * (P / 4) + P % 4) + (M - P) * P
theorem own_mulB {a b A B : Int} (ha0 : 0 ≤ a) (ha : a ≤ A) (hb0 : 0 ≤ b) (hb : b ≤ B) : 0 ≤ a * b ∧ a * b ≤ A * B :=
  ⟨Int.mul_nonneg ha0 hb0, Int.mul_le_mul ha hb hb0 (by omega)⟩
theorem own_lmul (x y : Int64) (h0 : 0 ≤ x.toInt * y.toInt) (h1 : x.toInt * y.toInt < 9223372036854775808) : (x * y).toInt = x.toInt * y.toInt := by
  have h2 := c_lmul x y
  have h3 := rng64 (x * y)
  generalize x.toInt * y.toInt = z at *
  omega
theorem own_sz (p m : Int32) (h1 : 0 ≤ p.toInt) (h2 : p.toInt ≤ 32768) (h3 : p.toInt ≤ m.toInt) (h4 : (m.toInt - p.toInt) * p.toInt ≤ 2147483647) :
    ((((4 : Int64) * (((p >>> ((2 : Int32) &&& 31)).toInt64) + (1 : Int64))) * (((2 : Int64) * ((p >>> ((2 : Int32) &&& 31)).toInt64)) + ((p &&& (3 : Int32)).toInt64))) + (((m - p).toInt64) * (p.toInt64))).toInt = szI p.toInt m.toInt := by
  have r1 := rng32 p
  have r2 := rng32 m
  have s1 : (p >>> ((2 : Int32) &&& 31)).toInt = p.toInt / (2 ^ 2 : Nat) := c_ishr p 2 2 (by decide)
  have s2 : (p &&& (3 : Int32)).toInt = p.toInt % (2 ^ 2 : Nat) := c_mask p 3 2 (by decide) (by decide)
  have s3 := c_isub m p
  have r3 := rng32 (m - p)
  have t1 := c_i2l (p >>> ((2 : Int32) &&& 31))
  have t2 := c_i2l (p &&& (3 : Int32))
  have t3 := c_i2l (m - p)
  have t4 := c_i2l p
  have e4 : (4 : Int64).toInt = 4 := by decide
  have e1 : (1 : Int64).toInt = 1 := by decide
  have e2 : (2 : Int64).toInt = 2 := by decide
  have hd : (m - p).toInt = m.toInt - p.toInt := by omega
  generalize hq : (p >>> ((2 : Int32) &&& 31)).toInt64 = q at *
  generalize hr : (p &&& (3 : Int32)).toInt64 = r at *
  generalize hk : (m - p).toInt64 = k at *
  generalize hp : p.toInt64 = w at *
  have q0 : q.toInt = p.toInt / 4 := by omega
  have r0 : r.toInt = p.toInt % 4 := by omega
  have a1 := c_ladd q 1
  have a1' := rng64 (q + 1)
  have a2 : (q + 1).toInt = p.toInt / 4 + 1 := by omega
  have b1 := c_lmul 4 (q + 1)
  have b1' := rng64 (4 * (q + 1))
  have b2 : (4 * (q + 1)).toInt = 4 * (p.toInt / 4 + 1) := by rw [e4, a2] at b1; omega
  have d1 := c_lmul 2 q
  have d1' := rng64 (2 * q)
  have d2 : (2 * q).toInt = 2 * (p.toInt / 4) := by rw [e2, q0] at d1; omega
  have f1 := c_ladd (2 * q) r
  have f1' := rng64 (2 * q + r)
  have f2 : (2 * q + r).toInt = 2 * (p.toInt / 4) + p.toInt % 4 := by omega
  have g0 := own_mulB (a := 4 * (p.toInt / 4 + 1)) (b := 2 * (p.toInt / 4) + p.toInt % 4) (A := 32772) (B := 16387) (by omega) (by omega) (by omega) (by omega)
  have g1 := own_lmul (4 * (q + 1)) (2 * q + r) (by rw [b2, f2]; exact g0.1) (by rw [b2, f2]; omega)
  rw [b2, f2] at g1
  have k0 : 0 ≤ (m.toInt - p.toInt) * p.toInt := Int.mul_nonneg (by omega) h1
  have k1 := own_lmul k w (by rw [t3, t4, hd]; exact k0) (by rw [t3, t4, hd]; omega)
  rw [t3, t4, hd] at k1
  have z1 := c_ladd ((4 * (q + 1)) * (2 * q + r)) (k * w)
  have z2 := rng64 ((4 * (q + 1)) * (2 * q + r) + k * w)
  unfold szI
  rw [g1, k1] at z1
  generalize 4 * (p.toInt / 4 + 1) * (2 * (p.toInt / 4) + p.toInt % 4) = G at *
  generalize (m.toInt - p.toInt) * p.toInt = H at *
  omega
theorem own_ok (p m : Int32) (h1 : 0 ≤ p.toInt) (h2 : p.toInt ≤ 32768) (h3 : p.toInt ≤ m.toInt) (h4 : szI p.toInt m.toInt ≤ 2147483639) :
    ¬ ((2147483639 : Int64) < ((((4 : Int64) * (((p >>> ((2 : Int32) &&& 31)).toInt64) + (1 : Int64))) * (((2 : Int64) * ((p >>> ((2 : Int32) &&& 31)).toInt64)) + ((p &&& (3 : Int32)).toInt64))) + (((m - p).toInt64) * (p.toInt64)))) ∧ (((((4 : Int64) * (((p >>> ((2 : Int32) &&& 31)).toInt64) + (1 : Int64))) * (((2 : Int64) * ((p >>> ((2 : Int32) &&& 31)).toInt64)) + ((p &&& (3 : Int32)).toInt64))) + (((m - p).toInt64) * (p.toInt64))).toInt32).toInt = szI p.toInt m.toInt ∧ 0 ≤ szI p.toInt m.toInt := by
  have g0 := own_mulB (a := 4 * (p.toInt / 4 + 1)) (b := 2 * (p.toInt / 4) + p.toInt % 4) (A := 32772) (B := 16387) (by omega) (by omega) (by omega) (by omega)
  have k0 : 0 ≤ (m.toInt - p.toInt) * p.toInt := Int.mul_nonneg (by omega) h1
  have h5 : szI p.toInt m.toInt = 4 * (p.toInt / 4 + 1) * (2 * (p.toInt / 4) + p.toInt % 4) + (m.toInt - p.toInt) * p.toInt := rfl
  have h6 := own_sz p m h1 h2 h3 (by omega)
  have h7 := c_l2i ((((4 : Int64) * (((p >>> ((2 : Int32) &&& 31)).toInt64) + (1 : Int64))) * (((2 : Int64) * ((p >>> ((2 : Int32) &&& 31)).toInt64)) + ((p &&& (3 : Int32)).toInt64))) + (((m - p).toInt64) * (p.toInt64)))
  have h8 := rng32 (((((4 : Int64) * (((p >>> ((2 : Int32) &&& 31)).toInt64) + (1 : Int64))) * (((2 : Int64) * ((p >>> ((2 : Int32) &&& 31)).toInt64)) + ((p &&& (3 : Int32)).toInt64))) + (((m - p).toInt64) * (p.toInt64))).toInt32)
  have e : (2147483639 : Int64).toInt = 2147483639 := by decide
  rw [Int64.lt_iff_toInt_lt, h6, e]
  rw [h6] at h7
  omega
theorem own_szB (P M : Int) (h1 : 0 ≤ P) (h2 : P ≤ 32768) (h3 : P ≤ M) (h4 : M - P ≤ 32767) : szI P M ≤ 2147483639 := by
  have g0 := own_mulB (a := 4 * (P / 4 + 1)) (b := 2 * (P / 4) + P % 4) (A := 32772) (B := 16387) (by omega) (by omega) (by omega) (by omega)
  have k0 := own_mulB (a := M - P) (b := P) (A := 32767) (B := 32768) (by omega) h4 h1 h2
  unfold szI
  omega
theorem own_sz1 (M : Int) : szI 1 M = 4 + (M - 1) := by
  unfold szI
  omega
theorem own_diag (P : Int) (h : 0 ≤ P) : szI (P + 1) (P + 1) - szI P P = 4 * (P / 4 + 1) := by
  unfold szI
  rw [Int.sub_self, Int.sub_self, Int.zero_mul, Int.zero_mul]
  obtain ⟨q, r, hr0, hr3, rfl⟩ : ∃ q r : Int, 0 ≤ r ∧ r ≤ 3 ∧ P = 4 * q + r := ⟨P / 4, P % 4, by omega, by omega, by omega⟩
  have c1 : (4 * q + r) / 4 = q := by omega
  have c2 : (4 * q + r) % 4 = r := by omega
  rw [c1, c2]
  by_cases h3 : r = 3
  · subst h3
    have c3 : (4 * q + 3 + 1) / 4 = q + 1 := by omega
    have c4 : (4 * q + 3 + 1) % 4 = 0 := by omega
    rw [c3, c4]
    have x1 : 4 * (q + 1 + 1) * (2 * (q + 1) + 0) = 8 * (q * q) + 24 * q + 16 := by
      rw [show 4 * (q + 1 + 1) = 4 * q + 8 by omega, show 2 * (q + 1) + 0 = 2 * q + 2 by omega, Int.add_mul, Int.mul_add, Int.mul_add, show 4 * q * (2 * q) = 8 * (q * q) by rw [Int.mul_assoc, Int.mul_left_comm q 2 q]; omega]
      omega
    have x2 : 4 * (q + 1) * (2 * q + 3) = 8 * (q * q) + 20 * q + 12 := by
      rw [show 4 * (q + 1) = 4 * q + 4 by omega, Int.add_mul, Int.mul_add, Int.mul_add, show 4 * q * (2 * q) = 8 * (q * q) by rw [Int.mul_assoc, Int.mul_left_comm q 2 q]; omega]
      omega
    rw [x1, x2]
    omega
  · have c3 : (4 * q + r + 1) / 4 = q := by omega
    have c4 : (4 * q + r + 1) % 4 = r + 1 := by omega
    rw [c3, c4, show 2 * q + (r + 1) = (2 * q + r) + 1 by omega, Int.mul_add (4 * (q + 1))]
    omega
theorem own_below (P D : Int) : szI P (P + D) = szI P P + D * P := by
  unfold szI
  rw [Int.sub_self, Int.zero_mul, show P + D - P = D by omega]
  omega

theorem own_z (r : Int32) (h : r = (((((4 : Int64) * ((((0 : Int32) >>> ((2 : Int32) &&& 31)).toInt64) + (1 : Int64))) * (((2 : Int64) * (((0 : Int32) >>> ((2 : Int32) &&& 31)).toInt64)) + (((0 : Int32) &&& (3 : Int32)).toInt64))) + ((((0 : Int32) - (0 : Int32)).toInt64) * ((0 : Int32).toInt64))).toInt32)) (k : (((((4 : Int64) * ((((0 : Int32) >>> ((2 : Int32) &&& 31)).toInt64) + (1 : Int64))) * (((2 : Int64) * (((0 : Int32) >>> ((2 : Int32) &&& 31)).toInt64)) + (((0 : Int32) &&& (3 : Int32)).toInt64))) + ((((0 : Int32) - (0 : Int32)).toInt64) * ((0 : Int32).toInt64))).toInt32).toInt = szI (0 : Int32).toInt (0 : Int32).toInt) : r = (0 : Int32) := by
  rw [← h] at k
  rw [← Int32.toInt_inj, k]
  decide
theorem own_bel (p d m rs rp : Int32) (h1 : rs = (((((4 : Int64) * (((p >>> ((2 : Int32) &&& 31)).toInt64) + (1 : Int64))) * (((2 : Int64) * ((p >>> ((2 : Int32) &&& 31)).toInt64)) + ((p &&& (3 : Int32)).toInt64))) + (((m - p).toInt64) * (p.toInt64))).toInt32)) (h2 : rp = (((((4 : Int64) * (((p >>> ((2 : Int32) &&& 31)).toInt64) + (1 : Int64))) * (((2 : Int64) * ((p >>> ((2 : Int32) &&& 31)).toInt64)) + ((p &&& (3 : Int32)).toInt64))) + (((p - p).toInt64) * (p.toInt64))).toInt32)) (k1 : (((((4 : Int64) * (((p >>> ((2 : Int32) &&& 31)).toInt64) + (1 : Int64))) * (((2 : Int64) * ((p >>> ((2 : Int32) &&& 31)).toInt64)) + ((p &&& (3 : Int32)).toInt64))) + (((m - p).toInt64) * (p.toInt64))).toInt32).toInt = szI p.toInt m.toInt) (k2 : (((((4 : Int64) * (((p >>> ((2 : Int32) &&& 31)).toInt64) + (1 : Int64))) * (((2 : Int64) * ((p >>> ((2 : Int32) &&& 31)).toInt64)) + ((p &&& (3 : Int32)).toInt64))) + (((p - p).toInt64) * (p.toInt64))).toInt32).toInt = szI p.toInt p.toInt)
    (bp : 0 ≤ p.toInt ∧ p.toInt ≤ 32767) (bd : 0 ≤ d.toInt ∧ d.toInt ≤ 32767) (bm : m.toInt = p.toInt + d.toInt) : (rs.toInt64) = ((rp.toInt64) + ((d.toInt64) * (p.toInt64))) := by
  rw [← h1] at k1
  rw [← h2] at k2
  rw [← Int64.toInt_inj, c_i2l]
  have t1 := c_i2l rp
  have t2 := c_i2l d
  have t3 := c_i2l p
  have g := own_mulB bd.1 bd.2 bp.1 bp.2
  have m1 := own_lmul d.toInt64 p.toInt64 (by rw [t2, t3]; exact g.1) (by rw [t2, t3]; omega)
  rw [t2, t3] at m1
  have a1 := c_ladd rp.toInt64 (d.toInt64 * p.toInt64)
  have a2 := rng64 (rp.toInt64 + d.toInt64 * p.toInt64)
  have a3 := rng32 rp
  have a4 := rng32 rs
  rw [bm, own_below] at k1
  omega
theorem own_dia (p rp r1 : Int32) (h2 : rp = (((((4 : Int64) * (((p >>> ((2 : Int32) &&& 31)).toInt64) + (1 : Int64))) * (((2 : Int64) * ((p >>> ((2 : Int32) &&& 31)).toInt64)) + ((p &&& (3 : Int32)).toInt64))) + (((p - p).toInt64) * (p.toInt64))).toInt32)) (h1 : r1 = (((((4 : Int64) * ((((p + (1 : Int32)) >>> ((2 : Int32) &&& 31)).toInt64) + (1 : Int64))) * (((2 : Int64) * (((p + (1 : Int32)) >>> ((2 : Int32) &&& 31)).toInt64)) + (((p + (1 : Int32)) &&& (3 : Int32)).toInt64))) + ((((p + (1 : Int32)) - (p + (1 : Int32))).toInt64) * ((p + (1 : Int32)).toInt64))).toInt32)) (k2 : (((((4 : Int64) * (((p >>> ((2 : Int32) &&& 31)).toInt64) + (1 : Int64))) * (((2 : Int64) * ((p >>> ((2 : Int32) &&& 31)).toInt64)) + ((p &&& (3 : Int32)).toInt64))) + (((p - p).toInt64) * (p.toInt64))).toInt32).toInt = szI p.toInt p.toInt ∧ 0 ≤ szI p.toInt p.toInt)
    (k1 : (((((4 : Int64) * ((((p + (1 : Int32)) >>> ((2 : Int32) &&& 31)).toInt64) + (1 : Int64))) * (((2 : Int64) * (((p + (1 : Int32)) >>> ((2 : Int32) &&& 31)).toInt64)) + (((p + (1 : Int32)) &&& (3 : Int32)).toInt64))) + ((((p + (1 : Int32)) - (p + (1 : Int32))).toInt64) * ((p + (1 : Int32)).toInt64))).toInt32).toInt = szI (p + (1 : Int32)).toInt (p + (1 : Int32)).toInt ∧ 0 ≤ szI (p + (1 : Int32)).toInt (p + (1 : Int32)).toInt) (bp : 0 ≤ p.toInt ∧ p.toInt ≤ 32767) (b1 : (p + (1 : Int32)).toInt = p.toInt + 1) :
    ((r1.toInt64) - (rp.toInt64)) = ((4 : Int64) * (((p >>> ((2 : Int32) &&& 31)) + (1 : Int32)).toInt64)) := by
  rw [← h1] at k1
  rw [← h2] at k2
  rw [b1] at k1
  have hd := own_diag p.toInt bp.1
  rw [← Int64.toInt_inj]
  have s1 : (p >>> ((2 : Int32) &&& 31)).toInt = p.toInt / (2 ^ 2 : Nat) := c_ishr p 2 2 (by decide)
  have t1 := c_i2l r1
  have t2 := c_i2l rp
  have t3 := c_i2l ((p >>> ((2 : Int32) &&& 31)) + (1 : Int32))
  have t4 := c_iadd (p >>> ((2 : Int32) &&& 31)) (1 : Int32)
  have t5 := rng32 ((p >>> ((2 : Int32) &&& 31)) + (1 : Int32))
  have t6 := c_lsub r1.toInt64 rp.toInt64
  have t7 := rng64 (r1.toInt64 - rp.toInt64)
  have t8 := c_lmul 4 (((p >>> ((2 : Int32) &&& 31)) + (1 : Int32)).toInt64)
  have t9 := rng64 (4 * (((p >>> ((2 : Int32) &&& 31)) + (1 : Int32)).toInt64))
  have e4 : (4 : Int64).toInt = 4 := by decide
  have e1 : (1 : Int32).toInt = 1 := by decide
  have a3 := rng32 rp
  have a4 := rng32 r1
  rw [e4] at t8
  omega
theorem own_big (e mb rb : Int32) (h1 : rb = (((((4 : Int64) * ((((1 : Int32) >>> ((2 : Int32) &&& 31)).toInt64) + (1 : Int64))) * (((2 : Int64) * (((1 : Int32) >>> ((2 : Int32) &&& 31)).toInt64)) + (((1 : Int32) &&& (3 : Int32)).toInt64))) + (((mb - (1 : Int32)).toInt64) * ((1 : Int32).toInt64))).toInt32)) (k1 : (((((4 : Int64) * ((((1 : Int32) >>> ((2 : Int32) &&& 31)).toInt64) + (1 : Int64))) * (((2 : Int64) * (((1 : Int32) >>> ((2 : Int32) &&& 31)).toInt64)) + (((1 : Int32) &&& (3 : Int32)).toInt64))) + (((mb - (1 : Int32)).toInt64) * ((1 : Int32).toInt64))).toInt32).toInt = szI (1 : Int32).toInt mb.toInt) (b : mb.toInt = 2147483636 - e.toInt ∧ 0 ≤ e.toInt ∧ e.toInt ≤ 65535) (e1 : (1 : Int32).toInt = 1) :
    rb = ((2147483639 : Int32) - e) := by
  rw [← h1, e1, own_sz1] at k1
  rw [← Int32.toInt_inj]
  have s := c_isub 2147483639 e
  have s2 := rng32 (2147483639 - e)
  have e2 : (2147483639 : Int32).toInt = 2147483639 := by decide
  omega

theorem d1_0 : decode prog_61_method_3_code 0 = .ok (.iload_n 0, 1) := by decide +kernel
theorem d1_1 : decode prog_61_method_3_code 1 = .ok (.iconst 2, 1) := by decide +kernel
theorem d1_2 : decode prog_61_method_3_code 2 = .ok (.ishr, 1) := by decide +kernel
theorem d1_3 : decode prog_61_method_3_code 3 = .ok (.i2l, 1) := by decide +kernel
theorem d1_4 : decode prog_61_method_3_code 4 = .ok (.lstore_n 2, 1) := by decide +kernel
theorem d1_5 : decode prog_61_method_3_code 5 = .ok (.ldc2_w 15, 3) := by decide +kernel
theorem d1_8 : decode prog_61_method_3_code 8 = .ok (.lload_n 2, 1) := by decide +kernel
theorem d1_9 : decode prog_61_method_3_code 9 = .ok (.lconst 1, 1) := by decide +kernel
theorem d1_10 : decode prog_61_method_3_code 10 = .ok (.ladd, 1) := by decide +kernel
theorem d1_11 : decode prog_61_method_3_code 11 = .ok (.lmul, 1) := by decide +kernel
theorem d1_12 : decode prog_61_method_3_code 12 = .ok (.ldc2_w 17, 3) := by decide +kernel
theorem d1_15 : decode prog_61_method_3_code 15 = .ok (.lload_n 2, 1) := by decide +kernel
theorem d1_16 : decode prog_61_method_3_code 16 = .ok (.lmul, 1) := by decide +kernel
theorem d1_17 : decode prog_61_method_3_code 17 = .ok (.iload_n 0, 1) := by decide +kernel
theorem d1_18 : decode prog_61_method_3_code 18 = .ok (.iconst 3, 1) := by decide +kernel
theorem d1_19 : decode prog_61_method_3_code 19 = .ok (.iand, 1) := by decide +kernel
theorem d1_20 : decode prog_61_method_3_code 20 = .ok (.i2l, 1) := by decide +kernel
theorem d1_21 : decode prog_61_method_3_code 21 = .ok (.ladd, 1) := by decide +kernel
theorem d1_22 : decode prog_61_method_3_code 22 = .ok (.lmul, 1) := by decide +kernel
theorem d1_23 : decode prog_61_method_3_code 23 = .ok (.iload_n 1, 1) := by decide +kernel
theorem d1_24 : decode prog_61_method_3_code 24 = .ok (.iload_n 0, 1) := by decide +kernel
theorem d1_25 : decode prog_61_method_3_code 25 = .ok (.isub, 1) := by decide +kernel
theorem d1_26 : decode prog_61_method_3_code 26 = .ok (.i2l, 1) := by decide +kernel
theorem d1_27 : decode prog_61_method_3_code 27 = .ok (.iload_n 0, 1) := by decide +kernel
theorem d1_28 : decode prog_61_method_3_code 28 = .ok (.i2l, 1) := by decide +kernel
theorem d1_29 : decode prog_61_method_3_code 29 = .ok (.lmul, 1) := by decide +kernel
theorem d1_30 : decode prog_61_method_3_code 30 = .ok (.ladd, 1) := by decide +kernel
theorem d1_31 : decode prog_61_method_3_code 31 = .ok (.lstore 4, 2) := by decide +kernel
theorem d1_33 : decode prog_61_method_3_code 33 = .ok (.lload 4, 2) := by decide +kernel
theorem d1_35 : decode prog_61_method_3_code 35 = .ok (.ldc2_w 19, 3) := by decide +kernel
theorem d1_38 : decode prog_61_method_3_code 38 = .ok (.lcmp, 1) := by decide +kernel
theorem d1_39 : decode prog_61_method_3_code 39 = .ok (.ifCond .le 18, 3) := by decide +kernel
theorem d1_42 : decode prog_61_method_3_code 42 = .ok (.new 21, 3) := by decide +kernel
theorem d1_45 : decode prog_61_method_3_code 45 = .ok (.dup, 1) := by decide +kernel
theorem d1_46 : decode prog_61_method_3_code 46 = .ok (.iload_n 1, 1) := by decide +kernel
theorem d1_47 : decode prog_61_method_3_code 47 = .ok (.iload_n 0, 1) := by decide +kernel
theorem d1_53 : decode prog_61_method_3_code 53 = .ok (.invokespecial 27, 3) := by decide +kernel
theorem d1_56 : decode prog_61_method_3_code 56 = .ok (.athrow, 1) := by decide +kernel
theorem d1_57 : decode prog_61_method_3_code 57 = .ok (.lload 4, 2) := by decide +kernel
theorem d1_59 : decode prog_61_method_3_code 59 = .ok (.l2i, 1) := by decide +kernel
theorem d1_60 : decode prog_61_method_3_code 60 = .ok (.ireturn, 1) := by decide +kernel
theorem ef_1 (m : MethodId) (x0 : Int32) (x1 : Int32) : entryFrame m #[(.int x0), (.int x1)] 6 = mkF m 0 #[.val (.int x0), .val (.int x1), .unset, .unset, .unset, .unset] [] := by first | (simp [entryFrame, mkF, argsToLocals, Value.category]; done) | rfl
def Q1 (Z : State) (p0 : Int32) (p1 : Int32) (h0 : Heap) (n0 : Nat) (v : Option Value) (h : Heap) (L : List Loc) : Prop := ∃ r : Int32, v = some (.int r) ∧ ((r = (((((4 : Int64) * (((p0 >>> ((2 : Int32) &&& 31)).toInt64) + (1 : Int64))) * (((2 : Int64) * ((p0 >>> ((2 : Int32) &&& 31)).toInt64)) + ((p0 &&& (3 : Int32)).toInt64))) + (((p1 - p0).toInt64) * (p0.toInt64))).toInt32))) ∧ Fr n0 L ∧ h = h0
set_option maxRecDepth 65536 in
set_option maxHeartbeats 40000000 in
theorem rm1 (l : Launch) (Z : State) (a0 : Array Value) (hw : ∀ d ∈ tables_1, d.before a0 Z = true) (ws : List Jvm.Cond) (p0 : Int32) (p1 : Int32) (h0 : Heap) (n0 : Nat) (Z0 : n0 ≤ h0.size) (hf39 : ¬ ((2147483639 : Int64) < ((((4 : Int64) * (((p0 >>> ((2 : Int32) &&& 31)).toInt64) + (1 : Int64))) * (((2 : Int64) * ((p0 >>> ((2 : Int32) &&& 31)).toInt64)) + ((p0 &&& (3 : Int32)).toInt64))) + (((p1 - p0).toInt64) * (p0.toInt64))))) :
    MetFree l (⟨"com/example/fenda/fenda/linalg/Dense", "size", "(II)I"⟩ : MethodName) (head1 (Jvm.Cond.code (⟨"com/example/fenda/fenda/linalg/Dense", "size", "(II)I"⟩ : MethodName) prog_61_method_3_code 6 (some .int) :: ws) ({ frames := 0, cells := 0, slots := 0, locals := 0 } : Room)) (fun a U => a = #[(.int p0), (.int p1)] ∧ Z.Warmed39 U.vm ∧ U.heap = h0) (fun _ _ _ _ _ => True) (fun _ U o U' => ∃ v L, o = .returned v ∧ Q1 Z p0 p1 h0 n0 v U'.heap L ∧ FrameEnd U o U' L ({ frames := 0, cells := 0, slots := 0, locals := 0 } : Room).cells ({ frames := 0, cells := 0, slots := 0, locals := 0 } : Room).slots) := by
  refine MetFree.of_bodySF (plainFor_of_name (by first | (simp [plainName, overriddenIn]; done) | decide +kernel)) hisR ?_
  intro p e s m args below meth c s₁ Bd hml0 hP hK
  obtain ⟨rfl, hZ, hh⟩ := hP
  have hx := Bd.exec
  have hby := Bd.bytes
  have hml : c.maxLocals = 6 := hml0
  have hown : s.vm.findClass "com/example/fenda/fenda/linalg/Dense" = some m.cls := findClass_of_methodNamed Bd.named
  have hnm := (name_of_methodNamed Bd.named Bd.method).1
  have hlk := BodyLoose.notSynchronized Bd
  have X0 : Stand p l e ({ frames := 0, cells := 0, slots := 0, locals := 0 } : Room) s m #[(.int p0), (.int p1)] below meth c s₁ [] 0 0 := Stand.of_body Bd
  have e0 : s₁.heap = h0 := by rw [← hh, Bd.state]; rfl
  have N0 := Fr.nil n0
  show Go p e below s (Q1 Z p0 p1 h0 n0) 0 0 (s₁.setTop (entryFrame m #[(.int p0), (.int p1)] 6))
  rw [ef_1]
  show Go _ _ _ _ _ _ _ (s₁.setTop (mkF m 0 #[.val (.int p0), .val (.int p1), .unset, .unset, .unset, .unset] []))
  refine gob (fun _ k => XS.iloadN X0.here hx rfl (hb hby d1_0) rfl k) ?_
  show Go _ _ _ _ _ _ _ (s₁.setTop (mkF m 1 #[.val (.int p0), .val (.int p1), .unset, .unset, .unset, .unset] [(.int p0)]))
  refine gob (fun _ k => XS.iconst X0.here hx rfl (hb hby d1_1) k) ?_
  show Go _ _ _ _ _ _ _ (s₁.setTop (mkF m 2 #[.val (.int p0), .val (.int p1), .unset, .unset, .unset, .unset] [(.int (2 : Int32)), (.int p0)]))
  refine gob (fun _ k => XS.ishr X0.here hx rfl (hb hby d1_2) rfl k) ?_
  show Go _ _ _ _ _ _ _ (s₁.setTop (mkF m 3 #[.val (.int p0), .val (.int p1), .unset, .unset, .unset, .unset] [(.int (p0 >>> ((2 : Int32) &&& 31)))]))
  refine gob (fun _ k => XS.i2l X0.here hx rfl (hb hby d1_3) rfl k) ?_
  show Go _ _ _ _ _ _ _ (s₁.setTop (mkF m 4 #[.val (.int p0), .val (.int p1), .unset, .unset, .unset, .unset] [(.long ((p0 >>> ((2 : Int32) &&& 31)).toInt64))]))
  refine gob (fun _ k => XS.lstoreN X0.here hx rfl (hb hby d1_4) rfl (l' := #[.val (.int p0), .val (.int p1), .val (.long ((p0 >>> ((2 : Int32) &&& 31)).toInt64)), .second, .unset, .unset]) rfl k) ?_
  show Go _ _ _ _ _ _ _ (s₁.setTop (mkF m 5 #[.val (.int p0), .val (.int p1), .val (.long ((p0 >>> ((2 : Int32) &&& 31)).toInt64)), .second, .unset, .unset] []))
  refine gob (X0.ldc2Long hx hown (mvT hZ (hw _ (List.mem_of_getElem? (i := 4) rfl))) (g := (mkF m 5 #[.val (.int p0), .val (.int p1), .val (.long ((p0 >>> ((2 : Int32) &&& 31)).toInt64)), .second, .unset, .unset] [])) rfl (hb hby d1_5)) ?_
  show Go _ _ _ _ _ _ _ (s₁.setTop (mkF m 8 #[.val (.int p0), .val (.int p1), .val (.long ((p0 >>> ((2 : Int32) &&& 31)).toInt64)), .second, .unset, .unset] [(.long (4 : Int64))]))
  refine gob (fun _ k => XS.lloadN X0.here hx rfl (hb hby d1_8) rfl k) ?_
  show Go _ _ _ _ _ _ _ (s₁.setTop (mkF m 9 #[.val (.int p0), .val (.int p1), .val (.long ((p0 >>> ((2 : Int32) &&& 31)).toInt64)), .second, .unset, .unset] [(.long ((p0 >>> ((2 : Int32) &&& 31)).toInt64)), (.long (4 : Int64))]))
  refine gob (fun _ k => XS.lconst X0.here hx rfl (hb hby d1_9) k) ?_
  show Go _ _ _ _ _ _ _ (s₁.setTop (mkF m 10 #[.val (.int p0), .val (.int p1), .val (.long ((p0 >>> ((2 : Int32) &&& 31)).toInt64)), .second, .unset, .unset] [(.long (1 : Int64)), (.long ((p0 >>> ((2 : Int32) &&& 31)).toInt64)), (.long (4 : Int64))]))
  refine gob (fun _ k => XS.ladd X0.here hx rfl (hb hby d1_10) rfl k) ?_
  show Go _ _ _ _ _ _ _ (s₁.setTop (mkF m 11 #[.val (.int p0), .val (.int p1), .val (.long ((p0 >>> ((2 : Int32) &&& 31)).toInt64)), .second, .unset, .unset] [(.long (((p0 >>> ((2 : Int32) &&& 31)).toInt64) + (1 : Int64))), (.long (4 : Int64))]))
  refine gob (fun _ k => XS.lmul X0.here hx rfl (hb hby d1_11) rfl k) ?_
  show Go _ _ _ _ _ _ _ (s₁.setTop (mkF m 12 #[.val (.int p0), .val (.int p1), .val (.long ((p0 >>> ((2 : Int32) &&& 31)).toInt64)), .second, .unset, .unset] [(.long ((4 : Int64) * (((p0 >>> ((2 : Int32) &&& 31)).toInt64) + (1 : Int64))))]))
  refine gob (X0.ldc2Long hx hown (mvT hZ (hw _ (List.mem_of_getElem? (i := 5) rfl))) (g := (mkF m 12 #[.val (.int p0), .val (.int p1), .val (.long ((p0 >>> ((2 : Int32) &&& 31)).toInt64)), .second, .unset, .unset] [(.long ((4 : Int64) * (((p0 >>> ((2 : Int32) &&& 31)).toInt64) + (1 : Int64))))])) rfl (hb hby d1_12)) ?_
  show Go _ _ _ _ _ _ _ (s₁.setTop (mkF m 15 #[.val (.int p0), .val (.int p1), .val (.long ((p0 >>> ((2 : Int32) &&& 31)).toInt64)), .second, .unset, .unset] [(.long (2 : Int64)), (.long ((4 : Int64) * (((p0 >>> ((2 : Int32) &&& 31)).toInt64) + (1 : Int64))))]))
  refine gob (fun _ k => XS.lloadN X0.here hx rfl (hb hby d1_15) rfl k) ?_
  show Go _ _ _ _ _ _ _ (s₁.setTop (mkF m 16 #[.val (.int p0), .val (.int p1), .val (.long ((p0 >>> ((2 : Int32) &&& 31)).toInt64)), .second, .unset, .unset] [(.long ((p0 >>> ((2 : Int32) &&& 31)).toInt64)), (.long (2 : Int64)), (.long ((4 : Int64) * (((p0 >>> ((2 : Int32) &&& 31)).toInt64) + (1 : Int64))))]))
  refine gob (fun _ k => XS.lmul X0.here hx rfl (hb hby d1_16) rfl k) ?_
  show Go _ _ _ _ _ _ _ (s₁.setTop (mkF m 17 #[.val (.int p0), .val (.int p1), .val (.long ((p0 >>> ((2 : Int32) &&& 31)).toInt64)), .second, .unset, .unset] [(.long ((2 : Int64) * ((p0 >>> ((2 : Int32) &&& 31)).toInt64))), (.long ((4 : Int64) * (((p0 >>> ((2 : Int32) &&& 31)).toInt64) + (1 : Int64))))]))
  refine gob (fun _ k => XS.iloadN X0.here hx rfl (hb hby d1_17) rfl k) ?_
  show Go _ _ _ _ _ _ _ (s₁.setTop (mkF m 18 #[.val (.int p0), .val (.int p1), .val (.long ((p0 >>> ((2 : Int32) &&& 31)).toInt64)), .second, .unset, .unset] [(.int p0), (.long ((2 : Int64) * ((p0 >>> ((2 : Int32) &&& 31)).toInt64))), (.long ((4 : Int64) * (((p0 >>> ((2 : Int32) &&& 31)).toInt64) + (1 : Int64))))]))
  refine gob (fun _ k => XS.iconst X0.here hx rfl (hb hby d1_18) k) ?_
  show Go _ _ _ _ _ _ _ (s₁.setTop (mkF m 19 #[.val (.int p0), .val (.int p1), .val (.long ((p0 >>> ((2 : Int32) &&& 31)).toInt64)), .second, .unset, .unset] [(.int (3 : Int32)), (.int p0), (.long ((2 : Int64) * ((p0 >>> ((2 : Int32) &&& 31)).toInt64))), (.long ((4 : Int64) * (((p0 >>> ((2 : Int32) &&& 31)).toInt64) + (1 : Int64))))]))
  refine gob (fun _ k => XS.iand X0.here hx rfl (hb hby d1_19) rfl k) ?_
  show Go _ _ _ _ _ _ _ (s₁.setTop (mkF m 20 #[.val (.int p0), .val (.int p1), .val (.long ((p0 >>> ((2 : Int32) &&& 31)).toInt64)), .second, .unset, .unset] [(.int (p0 &&& (3 : Int32))), (.long ((2 : Int64) * ((p0 >>> ((2 : Int32) &&& 31)).toInt64))), (.long ((4 : Int64) * (((p0 >>> ((2 : Int32) &&& 31)).toInt64) + (1 : Int64))))]))
  refine gob (fun _ k => XS.i2l X0.here hx rfl (hb hby d1_20) rfl k) ?_
  show Go _ _ _ _ _ _ _ (s₁.setTop (mkF m 21 #[.val (.int p0), .val (.int p1), .val (.long ((p0 >>> ((2 : Int32) &&& 31)).toInt64)), .second, .unset, .unset] [(.long ((p0 &&& (3 : Int32)).toInt64)), (.long ((2 : Int64) * ((p0 >>> ((2 : Int32) &&& 31)).toInt64))), (.long ((4 : Int64) * (((p0 >>> ((2 : Int32) &&& 31)).toInt64) + (1 : Int64))))]))
  refine gob (fun _ k => XS.ladd X0.here hx rfl (hb hby d1_21) rfl k) ?_
  show Go _ _ _ _ _ _ _ (s₁.setTop (mkF m 22 #[.val (.int p0), .val (.int p1), .val (.long ((p0 >>> ((2 : Int32) &&& 31)).toInt64)), .second, .unset, .unset] [(.long (((2 : Int64) * ((p0 >>> ((2 : Int32) &&& 31)).toInt64)) + ((p0 &&& (3 : Int32)).toInt64))), (.long ((4 : Int64) * (((p0 >>> ((2 : Int32) &&& 31)).toInt64) + (1 : Int64))))]))
  refine gob (fun _ k => XS.lmul X0.here hx rfl (hb hby d1_22) rfl k) ?_
  show Go _ _ _ _ _ _ _ (s₁.setTop (mkF m 23 #[.val (.int p0), .val (.int p1), .val (.long ((p0 >>> ((2 : Int32) &&& 31)).toInt64)), .second, .unset, .unset] [(.long (((4 : Int64) * (((p0 >>> ((2 : Int32) &&& 31)).toInt64) + (1 : Int64))) * (((2 : Int64) * ((p0 >>> ((2 : Int32) &&& 31)).toInt64)) + ((p0 &&& (3 : Int32)).toInt64))))]))
  refine gob (fun _ k => XS.iloadN X0.here hx rfl (hb hby d1_23) rfl k) ?_
  show Go _ _ _ _ _ _ _ (s₁.setTop (mkF m 24 #[.val (.int p0), .val (.int p1), .val (.long ((p0 >>> ((2 : Int32) &&& 31)).toInt64)), .second, .unset, .unset] [(.int p1), (.long (((4 : Int64) * (((p0 >>> ((2 : Int32) &&& 31)).toInt64) + (1 : Int64))) * (((2 : Int64) * ((p0 >>> ((2 : Int32) &&& 31)).toInt64)) + ((p0 &&& (3 : Int32)).toInt64))))]))
  refine gob (fun _ k => XS.iloadN X0.here hx rfl (hb hby d1_24) rfl k) ?_
  show Go _ _ _ _ _ _ _ (s₁.setTop (mkF m 25 #[.val (.int p0), .val (.int p1), .val (.long ((p0 >>> ((2 : Int32) &&& 31)).toInt64)), .second, .unset, .unset] [(.int p0), (.int p1), (.long (((4 : Int64) * (((p0 >>> ((2 : Int32) &&& 31)).toInt64) + (1 : Int64))) * (((2 : Int64) * ((p0 >>> ((2 : Int32) &&& 31)).toInt64)) + ((p0 &&& (3 : Int32)).toInt64))))]))
  refine gob (fun _ k => XS.isub X0.here hx rfl (hb hby d1_25) rfl k) ?_
  show Go _ _ _ _ _ _ _ (s₁.setTop (mkF m 26 #[.val (.int p0), .val (.int p1), .val (.long ((p0 >>> ((2 : Int32) &&& 31)).toInt64)), .second, .unset, .unset] [(.int (p1 - p0)), (.long (((4 : Int64) * (((p0 >>> ((2 : Int32) &&& 31)).toInt64) + (1 : Int64))) * (((2 : Int64) * ((p0 >>> ((2 : Int32) &&& 31)).toInt64)) + ((p0 &&& (3 : Int32)).toInt64))))]))
  refine gob (fun _ k => XS.i2l X0.here hx rfl (hb hby d1_26) rfl k) ?_
  show Go _ _ _ _ _ _ _ (s₁.setTop (mkF m 27 #[.val (.int p0), .val (.int p1), .val (.long ((p0 >>> ((2 : Int32) &&& 31)).toInt64)), .second, .unset, .unset] [(.long ((p1 - p0).toInt64)), (.long (((4 : Int64) * (((p0 >>> ((2 : Int32) &&& 31)).toInt64) + (1 : Int64))) * (((2 : Int64) * ((p0 >>> ((2 : Int32) &&& 31)).toInt64)) + ((p0 &&& (3 : Int32)).toInt64))))]))
  refine gob (fun _ k => XS.iloadN X0.here hx rfl (hb hby d1_27) rfl k) ?_
  show Go _ _ _ _ _ _ _ (s₁.setTop (mkF m 28 #[.val (.int p0), .val (.int p1), .val (.long ((p0 >>> ((2 : Int32) &&& 31)).toInt64)), .second, .unset, .unset] [(.int p0), (.long ((p1 - p0).toInt64)), (.long (((4 : Int64) * (((p0 >>> ((2 : Int32) &&& 31)).toInt64) + (1 : Int64))) * (((2 : Int64) * ((p0 >>> ((2 : Int32) &&& 31)).toInt64)) + ((p0 &&& (3 : Int32)).toInt64))))]))
  refine gob (fun _ k => XS.i2l X0.here hx rfl (hb hby d1_28) rfl k) ?_
  show Go _ _ _ _ _ _ _ (s₁.setTop (mkF m 29 #[.val (.int p0), .val (.int p1), .val (.long ((p0 >>> ((2 : Int32) &&& 31)).toInt64)), .second, .unset, .unset] [(.long (p0.toInt64)), (.long ((p1 - p0).toInt64)), (.long (((4 : Int64) * (((p0 >>> ((2 : Int32) &&& 31)).toInt64) + (1 : Int64))) * (((2 : Int64) * ((p0 >>> ((2 : Int32) &&& 31)).toInt64)) + ((p0 &&& (3 : Int32)).toInt64))))]))
  refine gob (fun _ k => XS.lmul X0.here hx rfl (hb hby d1_29) rfl k) ?_
  show Go _ _ _ _ _ _ _ (s₁.setTop (mkF m 30 #[.val (.int p0), .val (.int p1), .val (.long ((p0 >>> ((2 : Int32) &&& 31)).toInt64)), .second, .unset, .unset] [(.long (((p1 - p0).toInt64) * (p0.toInt64))), (.long (((4 : Int64) * (((p0 >>> ((2 : Int32) &&& 31)).toInt64) + (1 : Int64))) * (((2 : Int64) * ((p0 >>> ((2 : Int32) &&& 31)).toInt64)) + ((p0 &&& (3 : Int32)).toInt64))))]))
  refine gob (fun _ k => XS.ladd X0.here hx rfl (hb hby d1_30) rfl k) ?_
  show Go _ _ _ _ _ _ _ (s₁.setTop (mkF m 31 #[.val (.int p0), .val (.int p1), .val (.long ((p0 >>> ((2 : Int32) &&& 31)).toInt64)), .second, .unset, .unset] [(.long ((((4 : Int64) * (((p0 >>> ((2 : Int32) &&& 31)).toInt64) + (1 : Int64))) * (((2 : Int64) * ((p0 >>> ((2 : Int32) &&& 31)).toInt64)) + ((p0 &&& (3 : Int32)).toInt64))) + (((p1 - p0).toInt64) * (p0.toInt64))))]))
  refine gob (fun _ k => XS.lstore X0.here hx rfl (hb hby d1_31) rfl (l' := #[.val (.int p0), .val (.int p1), .val (.long ((p0 >>> ((2 : Int32) &&& 31)).toInt64)), .second, .val (.long ((((4 : Int64) * (((p0 >>> ((2 : Int32) &&& 31)).toInt64) + (1 : Int64))) * (((2 : Int64) * ((p0 >>> ((2 : Int32) &&& 31)).toInt64)) + ((p0 &&& (3 : Int32)).toInt64))) + (((p1 - p0).toInt64) * (p0.toInt64)))), .second]) rfl k) ?_
  show Go _ _ _ _ _ _ _ (s₁.setTop (mkF m 33 #[.val (.int p0), .val (.int p1), .val (.long ((p0 >>> ((2 : Int32) &&& 31)).toInt64)), .second, .val (.long ((((4 : Int64) * (((p0 >>> ((2 : Int32) &&& 31)).toInt64) + (1 : Int64))) * (((2 : Int64) * ((p0 >>> ((2 : Int32) &&& 31)).toInt64)) + ((p0 &&& (3 : Int32)).toInt64))) + (((p1 - p0).toInt64) * (p0.toInt64)))), .second] []))
  refine gob (fun _ k => XS.lload X0.here hx rfl (hb hby d1_33) rfl k) ?_
  show Go _ _ _ _ _ _ _ (s₁.setTop (mkF m 35 #[.val (.int p0), .val (.int p1), .val (.long ((p0 >>> ((2 : Int32) &&& 31)).toInt64)), .second, .val (.long ((((4 : Int64) * (((p0 >>> ((2 : Int32) &&& 31)).toInt64) + (1 : Int64))) * (((2 : Int64) * ((p0 >>> ((2 : Int32) &&& 31)).toInt64)) + ((p0 &&& (3 : Int32)).toInt64))) + (((p1 - p0).toInt64) * (p0.toInt64)))), .second] [(.long ((((4 : Int64) * (((p0 >>> ((2 : Int32) &&& 31)).toInt64) + (1 : Int64))) * (((2 : Int64) * ((p0 >>> ((2 : Int32) &&& 31)).toInt64)) + ((p0 &&& (3 : Int32)).toInt64))) + (((p1 - p0).toInt64) * (p0.toInt64))))]))
  refine gob (X0.ldc2Long hx hown (mvT hZ (hw _ (List.mem_of_getElem? (i := 6) rfl))) (g := (mkF m 35 #[.val (.int p0), .val (.int p1), .val (.long ((p0 >>> ((2 : Int32) &&& 31)).toInt64)), .second, .val (.long ((((4 : Int64) * (((p0 >>> ((2 : Int32) &&& 31)).toInt64) + (1 : Int64))) * (((2 : Int64) * ((p0 >>> ((2 : Int32) &&& 31)).toInt64)) + ((p0 &&& (3 : Int32)).toInt64))) + (((p1 - p0).toInt64) * (p0.toInt64)))), .second] [(.long ((((4 : Int64) * (((p0 >>> ((2 : Int32) &&& 31)).toInt64) + (1 : Int64))) * (((2 : Int64) * ((p0 >>> ((2 : Int32) &&& 31)).toInt64)) + ((p0 &&& (3 : Int32)).toInt64))) + (((p1 - p0).toInt64) * (p0.toInt64))))])) rfl (hb hby d1_35)) ?_
  show Go _ _ _ _ _ _ _ (s₁.setTop (mkF m 38 #[.val (.int p0), .val (.int p1), .val (.long ((p0 >>> ((2 : Int32) &&& 31)).toInt64)), .second, .val (.long ((((4 : Int64) * (((p0 >>> ((2 : Int32) &&& 31)).toInt64) + (1 : Int64))) * (((2 : Int64) * ((p0 >>> ((2 : Int32) &&& 31)).toInt64)) + ((p0 &&& (3 : Int32)).toInt64))) + (((p1 - p0).toInt64) * (p0.toInt64)))), .second] [(.long (2147483639 : Int64)), (.long ((((4 : Int64) * (((p0 >>> ((2 : Int32) &&& 31)).toInt64) + (1 : Int64))) * (((2 : Int64) * ((p0 >>> ((2 : Int32) &&& 31)).toInt64)) + ((p0 &&& (3 : Int32)).toInt64))) + (((p1 - p0).toInt64) * (p0.toInt64))))]))
  refine gob (fun _ k => XS.lcmp X0.here hx rfl (hb hby d1_38) rfl k) ?_
  show Go _ _ _ _ _ _ _ (s₁.setTop (mkF m 39 #[.val (.int p0), .val (.int p1), .val (.long ((p0 >>> ((2 : Int32) &&& 31)).toInt64)), .second, .val (.long ((((4 : Int64) * (((p0 >>> ((2 : Int32) &&& 31)).toInt64) + (1 : Int64))) * (((2 : Int64) * ((p0 >>> ((2 : Int32) &&& 31)).toInt64)) + ((p0 &&& (3 : Int32)).toInt64))) + (((p1 - p0).toInt64) * (p0.toInt64)))), .second] [(.int (lcmpW ((((4 : Int64) * (((p0 >>> ((2 : Int32) &&& 31)).toInt64) + (1 : Int64))) * (((2 : Int64) * ((p0 >>> ((2 : Int32) &&& 31)).toInt64)) + ((p0 &&& (3 : Int32)).toInt64))) + (((p1 - p0).toInt64) * (p0.toInt64))) (2147483639 : Int64)))]))
  refine gob (fun _ k => XS.ifYes X0.here hx rfl (pc0 := 39) (pc' := 57) rfl (hb hby d1_39) rfl ((if0 _ _).trans (flt (mt (lw_gt _ _).mp hf39)).2.2.2) (by decide) (by decide) k) ?_
  show Go _ _ _ _ _ _ _ (s₁.setTop (mkF m 57 #[.val (.int p0), .val (.int p1), .val (.long ((p0 >>> ((2 : Int32) &&& 31)).toInt64)), .second, .val (.long ((((4 : Int64) * (((p0 >>> ((2 : Int32) &&& 31)).toInt64) + (1 : Int64))) * (((2 : Int64) * ((p0 >>> ((2 : Int32) &&& 31)).toInt64)) + ((p0 &&& (3 : Int32)).toInt64))) + (((p1 - p0).toInt64) * (p0.toInt64)))), .second] []))
  refine gob (fun _ k => XS.lload X0.here hx rfl (hb hby d1_57) rfl k) ?_
  show Go _ _ _ _ _ _ _ (s₁.setTop (mkF m 59 #[.val (.int p0), .val (.int p1), .val (.long ((p0 >>> ((2 : Int32) &&& 31)).toInt64)), .second, .val (.long ((((4 : Int64) * (((p0 >>> ((2 : Int32) &&& 31)).toInt64) + (1 : Int64))) * (((2 : Int64) * ((p0 >>> ((2 : Int32) &&& 31)).toInt64)) + ((p0 &&& (3 : Int32)).toInt64))) + (((p1 - p0).toInt64) * (p0.toInt64)))), .second] [(.long ((((4 : Int64) * (((p0 >>> ((2 : Int32) &&& 31)).toInt64) + (1 : Int64))) * (((2 : Int64) * ((p0 >>> ((2 : Int32) &&& 31)).toInt64)) + ((p0 &&& (3 : Int32)).toInt64))) + (((p1 - p0).toInt64) * (p0.toInt64))))]))
  refine gob (fun _ k => XS.l2i X0.here hx rfl (hb hby d1_59) rfl k) ?_
  show Go _ _ _ _ _ _ _ (s₁.setTop (mkF m 60 #[.val (.int p0), .val (.int p1), .val (.long ((p0 >>> ((2 : Int32) &&& 31)).toInt64)), .second, .val (.long ((((4 : Int64) * (((p0 >>> ((2 : Int32) &&& 31)).toInt64) + (1 : Int64))) * (((2 : Int64) * ((p0 >>> ((2 : Int32) &&& 31)).toInt64)) + ((p0 &&& (3 : Int32)).toInt64))) + (((p1 - p0).toInt64) * (p0.toInt64)))), .second] [(.int (((((4 : Int64) * (((p0 >>> ((2 : Int32) &&& 31)).toInt64) + (1 : Int64))) * (((2 : Int64) * ((p0 >>> ((2 : Int32) &&& 31)).toInt64)) + ((p0 &&& (3 : Int32)).toInt64))) + (((p1 - p0).toInt64) * (p0.toInt64))).toInt32))]))
  refine goI X0 hx hlk Bd.returns (hb hby d1_60) ?_ (by decide) (by decide)
  show Q1 Z p0 p1 h0 n0 (some (.int (((((4 : Int64) * (((p0 >>> ((2 : Int32) &&& 31)).toInt64) + (1 : Int64))) * (((2 : Int64) * ((p0 >>> ((2 : Int32) &&& 31)).toInt64)) + ((p0 &&& (3 : Int32)).toInt64))) + (((p1 - p0).toInt64) * (p0.toInt64))).toInt32))) s₁.heap _
  exact ⟨(((((4 : Int64) * (((p0 >>> ((2 : Int32) &&& 31)).toInt64) + (1 : Int64))) * (((2 : Int64) * ((p0 >>> ((2 : Int32) &&& 31)).toInt64)) + ((p0 &&& (3 : Int32)).toInt64))) + (((p1 - p0).toInt64) * (p0.toInt64))).toInt32), rfl, rfl, N0, e0⟩
theorem pd_0 : parseMethodDescriptor "(II)I" = some ⟨[.int, .int], some .int⟩ := by decide +kernel
theorem ef_0 (m : MethodId) (x0 : Int32) (x1 : Int32) (x2 : Int32) : entryFrame m #[(.int x0), (.int x1), (.int x2)] maxLocals = mkF m 0 #[.val (.int x0), .val (.int x1), .val (.int x2), .unset, .unset, .unset, .unset, .unset, .unset, .unset, .unset, .unset, .unset, .unset, .unset, .unset, .unset] [] := by first | (simp [entryFrame, mkF, argsToLocals, Value.category, maxLocals]; done) | rfl
def Q0 (Z : State) (p0 : Int32) (p1 : Int32) (p2 : Int32) (h0 : Heap) (n0 : Nat) (v : Option Value) (h : Heap) (L : List Loc) : Prop := v = some (.int 1) ∧ Fr n0 L
theorem la_0_19_1 (p0 : Int32) (p_ : Int32) (hp_ : (p0 &&& (32767 : Int32)) = p_) : 0 ≤ p_.toInt ∧ p_.toInt ≤ 32767 := by
  have := rng32 p0
  have := rng32 p_
  have : (32767 : Int32).toInt = 32767 := by decide
  have : ((p0 &&& (32767 : Int32))).toInt = (p0).toInt % (2 ^ 15 : Nat) := c_mask p0 (32767 : Int32) 15 (by decide) (by decide)
  try (simp only [Int32.lt_iff_toInt_lt, Int32.le_iff_toInt_le, Int64.lt_iff_toInt_lt, Int64.le_iff_toInt_le, ← Int32.toInt_inj, ← Int64.toInt_inj, ne_eq] at *)
  omega
theorem la_0_19_2 (p1 : Int32) (d_ : Int32) (hd_ : (p1 &&& (32767 : Int32)) = d_) : 0 ≤ d_.toInt ∧ d_.toInt ≤ 32767 := by
  have := rng32 p1
  have := rng32 d_
  have : (32767 : Int32).toInt = 32767 := by decide
  have : ((p1 &&& (32767 : Int32))).toInt = (p1).toInt % (2 ^ 15 : Nat) := c_mask p1 (32767 : Int32) 15 (by decide) (by decide)
  try (simp only [Int32.lt_iff_toInt_lt, Int32.le_iff_toInt_le, Int64.lt_iff_toInt_lt, Int64.le_iff_toInt_le, ← Int32.toInt_inj, ← Int64.toInt_inj, ne_eq] at *)
  omega
theorem la_0_19_3 (p0 : Int32) (p1 : Int32) (p_ : Int32) (d_ : Int32) (m_ : Int32) (hp_ : (p0 &&& (32767 : Int32)) = p_) (hd_ : (p1 &&& (32767 : Int32)) = d_) (hm_ : (p_ + d_) = m_) : m_.toInt = p_.toInt + d_.toInt := by
  have := rng32 p0
  have := rng32 p1
  have := rng32 p_
  have := rng32 d_
  have := rng32 m_
  have : (32767 : Int32).toInt = 32767 := by decide
  have : ((p0 &&& (32767 : Int32))).toInt = (p0).toInt % (2 ^ 15 : Nat) := c_mask p0 (32767 : Int32) 15 (by decide) (by decide)
  have : ((p1 &&& (32767 : Int32))).toInt = (p1).toInt % (2 ^ 15 : Nat) := c_mask p1 (32767 : Int32) 15 (by decide) (by decide)
  have := c_iadd p_ d_
  have := rng32 (p_ + d_)
  try (simp only [Int32.lt_iff_toInt_lt, Int32.le_iff_toInt_le, Int64.lt_iff_toInt_lt, Int64.le_iff_toInt_le, ← Int32.toInt_inj, ← Int64.toInt_inj, ne_eq] at *)
  omega
theorem la_0_19_4 (p0 : Int32) (p_ : Int32) (hp_ : (p0 &&& (32767 : Int32)) = p_) : (p_ + (1 : Int32)).toInt = p_.toInt + 1 := by
  have := c_iadd p_ (1 : Int32)
  have := rng32 (p_ + (1 : Int32))
  have : (1 : Int32).toInt = 1 := by decide
  have := rng32 p0
  have := rng32 p_
  have : (1 : Int32).toInt = 1 := by decide
  have : (32767 : Int32).toInt = 32767 := by decide
  have : ((p0 &&& (32767 : Int32))).toInt = (p0).toInt % (2 ^ 15 : Nat) := c_mask p0 (32767 : Int32) 15 (by decide) (by decide)
  have := c_iadd p_ (1 : Int32)
  have := rng32 (p_ + (1 : Int32))
  try (simp only [Int32.lt_iff_toInt_lt, Int32.le_iff_toInt_le, Int64.lt_iff_toInt_lt, Int64.le_iff_toInt_le, ← Int32.toInt_inj, ← Int64.toInt_inj, ne_eq] at *)
  omega
theorem la_0_129_9 (p2 : Int32) (e_ : Int32) (mb_ : Int32) (he_ : (p2 &&& (65535 : Int32)) = e_) (hmb_ : ((2147483636 : Int32) - e_) = mb_) : mb_.toInt = 2147483636 - e_.toInt ∧ 0 ≤ e_.toInt ∧ e_.toInt ≤ 65535 := by
  have := rng32 p2
  have := rng32 e_
  have := rng32 mb_
  have : (2147483636 : Int32).toInt = 2147483636 := by decide
  have : (65535 : Int32).toInt = 65535 := by decide
  have : ((p2 &&& (65535 : Int32))).toInt = (p2).toInt % (2 ^ 16 : Nat) := c_mask p2 (65535 : Int32) 16 (by decide) (by decide)
  have := c_isub (2147483636 : Int32) e_
  have := rng32 ((2147483636 : Int32) - e_)
  try (simp only [Int32.lt_iff_toInt_lt, Int32.le_iff_toInt_le, Int64.lt_iff_toInt_lt, Int64.le_iff_toInt_le, ← Int32.toInt_inj, ← Int64.toInt_inj, ne_eq] at *)
  omega
set_option maxRecDepth 65536 in
set_option maxHeartbeats 40000000 in
theorem rm0 (l : Launch) (Z : State) (a0 : Array Value) (hw : ∀ d ∈ tables_1, d.before a0 Z = true) (ws : List Jvm.Cond) (p0 : Int32) (p1 : Int32) (p2 : Int32) (h0 : Heap) (n0 : Nat) (Z0 : n0 ≤ h0.size) :
    MetFree l x (head1 (Jvm.Cond.code x code maxLocals ret :: ws) room_1) (fun a U => a = #[(.int p0), (.int p1), (.int p2)] ∧ Z.Warmed39 U.vm ∧ U.heap = h0) (fun _ _ _ _ _ => True) (fun _ U o U' => ∃ v L, o = .returned v ∧ Q0 Z p0 p1 p2 h0 n0 v U'.heap L ∧ FrameEnd U o U' L 0 0) := by
  refine MetFree.of_bodySF (plainFor_of_name (by first | (simp [plainName, overriddenIn]; done) | decide +kernel)) hisR ?_
  intro p e s m args below meth c s₁ Bd hml0 hP hK
  obtain ⟨rfl, hZ, hh⟩ := hP
  have hx := Bd.exec
  have hby := Bd.bytes
  have hml : c.maxLocals = 17 := hml0
  have hown : s.vm.findClass "com/example/fenda/fenda/linalg/DenseSizePinLaw" = some m.cls := findClass_of_methodNamed Bd.named
  have hnm := (name_of_methodNamed Bd.named Bd.method).1
  have hlk := BodyLoose.notSynchronized Bd
  have X0 : Stand p l e room_1 s m #[(.int p0), (.int p1), (.int p2)] below meth c s₁ [] 0 0 := Stand.of_body Bd
  have e0 : s₁.heap = h0 := by rw [← hh, Bd.state]; rfl
  have N0 := Fr.nil n0
  show Go p e below s (Q0 Z p0 p1 p2 h0 n0) 0 0 (s₁.setTop (entryFrame m #[(.int p0), (.int p1), (.int p2)] maxLocals))
  rw [ef_0]
  show Go _ _ _ _ _ _ _ (s₁.setTop (mkF m 0 #[.val (.int p0), .val (.int p1), .val (.int p2), .unset, .unset, .unset, .unset, .unset, .unset, .unset, .unset, .unset, .unset, .unset, .unset, .unset, .unset] []))
  refine gob (fun _ k => XS.iloadN X0.here hx rfl (hb hby at_0) rfl k) ?_
  show Go _ _ _ _ _ _ _ (s₁.setTop (mkF m 1 #[.val (.int p0), .val (.int p1), .val (.int p2), .unset, .unset, .unset, .unset, .unset, .unset, .unset, .unset, .unset, .unset, .unset, .unset, .unset, .unset] [(.int p0)]))
  refine gob (fun _ k => XS.sipush X0.here hx rfl (hb hby at_1) k) ?_
  show Go _ _ _ _ _ _ _ (s₁.setTop (mkF m 4 #[.val (.int p0), .val (.int p1), .val (.int p2), .unset, .unset, .unset, .unset, .unset, .unset, .unset, .unset, .unset, .unset, .unset, .unset, .unset, .unset] [(.int (32767 : Int32)), (.int p0)]))
  refine gob (fun _ k => XS.iand X0.here hx rfl (hb hby at_4) rfl k) ?_
  show Go _ _ _ _ _ _ _ (s₁.setTop (mkF m 5 #[.val (.int p0), .val (.int p1), .val (.int p2), .unset, .unset, .unset, .unset, .unset, .unset, .unset, .unset, .unset, .unset, .unset, .unset, .unset, .unset] [(.int (p0 &&& (32767 : Int32)))]))
  refine gob (fun _ k => XS.istoreN X0.here hx rfl (hb hby at_5) rfl (l' := #[.val (.int p0), .val (.int p1), .val (.int p2), .val (.int (p0 &&& (32767 : Int32))), .unset, .unset, .unset, .unset, .unset, .unset, .unset, .unset, .unset, .unset, .unset, .unset, .unset]) rfl k) ?_
  show Go _ _ _ _ _ _ _ (s₁.setTop (mkF m 6 #[.val (.int p0), .val (.int p1), .val (.int p2), .val (.int (p0 &&& (32767 : Int32))), .unset, .unset, .unset, .unset, .unset, .unset, .unset, .unset, .unset, .unset, .unset, .unset, .unset] []))
  generalize hp_ : (p0 &&& (32767 : Int32)) = p_
  show Go _ _ _ _ _ _ _ (s₁.setTop (mkF m 6 #[.val (.int p0), .val (.int p1), .val (.int p2), .val (.int p_), .unset, .unset, .unset, .unset, .unset, .unset, .unset, .unset, .unset, .unset, .unset, .unset, .unset] []))
  refine gob (fun _ k => XS.iloadN X0.here hx rfl (hb hby at_6) rfl k) ?_
  show Go _ _ _ _ _ _ _ (s₁.setTop (mkF m 7 #[.val (.int p0), .val (.int p1), .val (.int p2), .val (.int p_), .unset, .unset, .unset, .unset, .unset, .unset, .unset, .unset, .unset, .unset, .unset, .unset, .unset] [(.int p1)]))
  refine gob (fun _ k => XS.sipush X0.here hx rfl (hb hby at_7) k) ?_
  show Go _ _ _ _ _ _ _ (s₁.setTop (mkF m 10 #[.val (.int p0), .val (.int p1), .val (.int p2), .val (.int p_), .unset, .unset, .unset, .unset, .unset, .unset, .unset, .unset, .unset, .unset, .unset, .unset, .unset] [(.int (32767 : Int32)), (.int p1)]))
  refine gob (fun _ k => XS.iand X0.here hx rfl (hb hby at_10) rfl k) ?_
  show Go _ _ _ _ _ _ _ (s₁.setTop (mkF m 11 #[.val (.int p0), .val (.int p1), .val (.int p2), .val (.int p_), .unset, .unset, .unset, .unset, .unset, .unset, .unset, .unset, .unset, .unset, .unset, .unset, .unset] [(.int (p1 &&& (32767 : Int32)))]))
  refine gob (fun _ k => XS.istore X0.here hx rfl (hb hby at_11) rfl (l' := #[.val (.int p0), .val (.int p1), .val (.int p2), .val (.int p_), .val (.int (p1 &&& (32767 : Int32))), .unset, .unset, .unset, .unset, .unset, .unset, .unset, .unset, .unset, .unset, .unset, .unset]) rfl k) ?_
  show Go _ _ _ _ _ _ _ (s₁.setTop (mkF m 13 #[.val (.int p0), .val (.int p1), .val (.int p2), .val (.int p_), .val (.int (p1 &&& (32767 : Int32))), .unset, .unset, .unset, .unset, .unset, .unset, .unset, .unset, .unset, .unset, .unset, .unset] []))
  generalize hd_ : (p1 &&& (32767 : Int32)) = d_
  show Go _ _ _ _ _ _ _ (s₁.setTop (mkF m 13 #[.val (.int p0), .val (.int p1), .val (.int p2), .val (.int p_), .val (.int d_), .unset, .unset, .unset, .unset, .unset, .unset, .unset, .unset, .unset, .unset, .unset, .unset] []))
  refine gob (fun _ k => XS.iloadN X0.here hx rfl (hb hby at_13) rfl k) ?_
  show Go _ _ _ _ _ _ _ (s₁.setTop (mkF m 14 #[.val (.int p0), .val (.int p1), .val (.int p2), .val (.int p_), .val (.int d_), .unset, .unset, .unset, .unset, .unset, .unset, .unset, .unset, .unset, .unset, .unset, .unset] [(.int p_)]))
  refine gob (fun _ k => XS.iload X0.here hx rfl (hb hby at_14) rfl k) ?_
  show Go _ _ _ _ _ _ _ (s₁.setTop (mkF m 16 #[.val (.int p0), .val (.int p1), .val (.int p2), .val (.int p_), .val (.int d_), .unset, .unset, .unset, .unset, .unset, .unset, .unset, .unset, .unset, .unset, .unset, .unset] [(.int d_), (.int p_)]))
  refine gob (fun _ k => XS.iadd X0.here hx rfl (hb hby at_16) rfl k) ?_
  show Go _ _ _ _ _ _ _ (s₁.setTop (mkF m 17 #[.val (.int p0), .val (.int p1), .val (.int p2), .val (.int p_), .val (.int d_), .unset, .unset, .unset, .unset, .unset, .unset, .unset, .unset, .unset, .unset, .unset, .unset] [(.int (p_ + d_))]))
  refine gob (fun _ k => XS.istore X0.here hx rfl (hb hby at_17) rfl (l' := #[.val (.int p0), .val (.int p1), .val (.int p2), .val (.int p_), .val (.int d_), .val (.int (p_ + d_)), .unset, .unset, .unset, .unset, .unset, .unset, .unset, .unset, .unset, .unset, .unset]) rfl k) ?_
  show Go _ _ _ _ _ _ _ (s₁.setTop (mkF m 19 #[.val (.int p0), .val (.int p1), .val (.int p2), .val (.int p_), .val (.int d_), .val (.int (p_ + d_)), .unset, .unset, .unset, .unset, .unset, .unset, .unset, .unset, .unset, .unset, .unset] []))
  generalize hm_ : (p_ + d_) = m_
  show Go _ _ _ _ _ _ _ (s₁.setTop (mkF m 19 #[.val (.int p0), .val (.int p1), .val (.int p2), .val (.int p_), .val (.int d_), .val (.int m_), .unset, .unset, .unset, .unset, .unset, .unset, .unset, .unset, .unset, .unset, .unset] []))
  have b_p : 0 ≤ p_.toInt ∧ p_.toInt ≤ 32767 := (la_0_19_1 p0 p_ hp_)
  have b_d : 0 ≤ d_.toInt ∧ d_.toInt ≤ 32767 := (la_0_19_2 p1 d_ hd_)
  have b_m : m_.toInt = p_.toInt + d_.toInt := (la_0_19_3 p0 p1 p_ d_ m_ hp_ hd_ hm_)
  have k_s := own_ok p_ m_ (by omega) (by omega) (by omega) (own_szB _ _ (by omega) (by omega) (by omega) (by omega))
  have k_sp := own_ok p_ p_ (by omega) (by omega) (by omega) (own_szB _ _ (by omega) (by omega) (by omega) (by omega))
  have b_p1 : (p_ + (1 : Int32)).toInt = p_.toInt + 1 := (la_0_19_4 p0 p_ hp_)
  have k_sp1 := own_ok (p_ + (1 : Int32)) (p_ + (1 : Int32)) (by omega) (by omega) (by omega) (own_szB _ _ (by omega) (by omega) (by omega) (by omega))
  have k_0 := own_ok (0 : Int32) (0 : Int32) (by decide) (by decide) (by decide) (by decide)
  refine gob (fun _ k => XS.iloadN X0.here hx rfl (hb hby at_19) rfl k) ?_
  show Go _ _ _ _ _ _ _ (s₁.setTop (mkF m 20 #[.val (.int p0), .val (.int p1), .val (.int p2), .val (.int p_), .val (.int d_), .val (.int m_), .unset, .unset, .unset, .unset, .unset, .unset, .unset, .unset, .unset, .unset, .unset] [(.int p_)]))
  refine gob (fun _ k => XS.iload X0.here hx rfl (hb hby at_20) rfl k) ?_
  show Go _ _ _ _ _ _ _ (s₁.setTop (mkF m 22 #[.val (.int p0), .val (.int p1), .val (.int p2), .val (.int p_), .val (.int d_), .val (.int m_), .unset, .unset, .unset, .unset, .unset, .unset, .unset, .unset, .unset, .unset, .unset] [(.int m_), (.int p_)]))
  obtain ⟨_, _, ⟨T5, L5, k5, n5⟩, -, X5, ⟨Lc5, hQ5, l5, y5, z5⟩, st5⟩ := Jvm.LawKit.callS X0 hx (y := (⟨"com/example/fenda/fenda/linalg/Dense", "size", "(II)I"⟩ : MethodName)) hown (mvT hZ (hw _ (List.mem_of_getElem? (i := 0) rfl))) (mvT hZ (hw _ (List.mem_of_getElem? (i := 1) rfl))) (mvT hZ (hw _ (List.mem_of_getElem? (i := 2) rfl))) (mvT hZ (hw _ (List.mem_of_getElem? (i := 3) rfl))) (by decide) (backOf (W := 0) (rm1 l Z a0 hw [] p_ m_ h0 n0 Z0 k_s.1) hZ (hw _ (List.mem_of_getElem? (i := 3) rfl)) (hw _ (List.mem_of_getElem? (i := 2) rfl)) (by decide) (by decide)) (g := (mkF m 22 #[.val (.int p0), .val (.int p1), .val (.int p2), .val (.int p_), .val (.int d_), .val (.int m_), .unset, .unset, .unset, .unset, .unset, .unset, .unset, .unset, .unset, .unset, .unset] [(.int m_), (.int p_)])) rfl (by rw [hml]; rfl) (argsL := [(.int p_), (.int m_)]) (rest := []) (lenOf pd_0 rfl) rfl (by show 2 * 0 + _ ≤ _; exact Nat.le_of_eq rfl) (hb hby at_22) (fun _ _ => ⟨rfl, e0, (by decide : 0 + 0 ≤ _), (by decide : 0 + 0 ≤ _)⟩)
  dsimp only [Pt.U, Pt.locs, Pt.cells, Pt.slots] at X5 l5 y5 z5 st5 hQ5
  subst l5 y5 z5
  obtain ⟨r_s, rfl, hr_s, Nq5, e5⟩ := hQ5
  have N5 := Fr.app N0 Nq5
  refine gob st5 ?_
  show Go _ _ _ _ _ _ _ (T5.setTop (mkF m 25 #[.val (.int p0), .val (.int p1), .val (.int p2), .val (.int p_), .val (.int d_), .val (.int m_), .unset, .unset, .unset, .unset, .unset, .unset, .unset, .unset, .unset, .unset, .unset] [(.int r_s)]))
  refine gob (fun _ k => XS.istore X5.here hx rfl (hb hby at_25) rfl (l' := #[.val (.int p0), .val (.int p1), .val (.int p2), .val (.int p_), .val (.int d_), .val (.int m_), .val (.int r_s), .unset, .unset, .unset, .unset, .unset, .unset, .unset, .unset, .unset, .unset]) rfl k) ?_
  show Go _ _ _ _ _ _ _ (T5.setTop (mkF m 27 #[.val (.int p0), .val (.int p1), .val (.int p2), .val (.int p_), .val (.int d_), .val (.int m_), .val (.int r_s), .unset, .unset, .unset, .unset, .unset, .unset, .unset, .unset, .unset, .unset] []))
  refine gob (fun _ k => XS.iloadN X5.here hx rfl (hb hby at_27) rfl k) ?_
  show Go _ _ _ _ _ _ _ (T5.setTop (mkF m 28 #[.val (.int p0), .val (.int p1), .val (.int p2), .val (.int p_), .val (.int d_), .val (.int m_), .val (.int r_s), .unset, .unset, .unset, .unset, .unset, .unset, .unset, .unset, .unset, .unset] [(.int p_)]))
  refine gob (fun _ k => XS.iloadN X5.here hx rfl (hb hby at_28) rfl k) ?_
  show Go _ _ _ _ _ _ _ (T5.setTop (mkF m 29 #[.val (.int p0), .val (.int p1), .val (.int p2), .val (.int p_), .val (.int d_), .val (.int m_), .val (.int r_s), .unset, .unset, .unset, .unset, .unset, .unset, .unset, .unset, .unset, .unset] [(.int p_), (.int p_)]))
  obtain ⟨_, _, ⟨T6, L6, k6, n6⟩, -, X6, ⟨Lc6, hQ6, l6, y6, z6⟩, st6⟩ := Jvm.LawKit.callS X5 hx (y := (⟨"com/example/fenda/fenda/linalg/Dense", "size", "(II)I"⟩ : MethodName)) hown (mvT hZ (hw _ (List.mem_of_getElem? (i := 0) rfl))) (mvT hZ (hw _ (List.mem_of_getElem? (i := 1) rfl))) (mvT hZ (hw _ (List.mem_of_getElem? (i := 2) rfl))) (mvT hZ (hw _ (List.mem_of_getElem? (i := 3) rfl))) (by decide) (backOf (W := 0) (rm1 l Z a0 hw [] p_ p_ h0 n0 Z0 k_sp.1) hZ (hw _ (List.mem_of_getElem? (i := 3) rfl)) (hw _ (List.mem_of_getElem? (i := 2) rfl)) (by decide) (by decide)) (g := (mkF m 29 #[.val (.int p0), .val (.int p1), .val (.int p2), .val (.int p_), .val (.int d_), .val (.int m_), .val (.int r_s), .unset, .unset, .unset, .unset, .unset, .unset, .unset, .unset, .unset, .unset] [(.int p_), (.int p_)])) rfl (by rw [hml]; rfl) (argsL := [(.int p_), (.int p_)]) (rest := []) (lenOf pd_0 rfl) rfl (by show 2 * 0 + _ ≤ _; exact Nat.le_of_eq rfl) (hb hby at_29) (fun _ _ => ⟨rfl, e5, (by decide : 0 + 0 ≤ _), (by decide : 0 + 0 ≤ _)⟩)
  dsimp only [Pt.U, Pt.locs, Pt.cells, Pt.slots] at X6 l6 y6 z6 st6 hQ6
  subst l6 y6 z6
  obtain ⟨r_sp, rfl, hr_sp, Nq6, e6⟩ := hQ6
  have N6 := Fr.app N5 Nq6
  refine gob st6 ?_
  show Go _ _ _ _ _ _ _ (T6.setTop (mkF m 32 #[.val (.int p0), .val (.int p1), .val (.int p2), .val (.int p_), .val (.int d_), .val (.int m_), .val (.int r_s), .unset, .unset, .unset, .unset, .unset, .unset, .unset, .unset, .unset, .unset] [(.int r_sp)]))
  refine gob (fun _ k => XS.istore X6.here hx rfl (hb hby at_32) rfl (l' := #[.val (.int p0), .val (.int p1), .val (.int p2), .val (.int p_), .val (.int d_), .val (.int m_), .val (.int r_s), .val (.int r_sp), .unset, .unset, .unset, .unset, .unset, .unset, .unset, .unset, .unset]) rfl k) ?_
  show Go _ _ _ _ _ _ _ (T6.setTop (mkF m 34 #[.val (.int p0), .val (.int p1), .val (.int p2), .val (.int p_), .val (.int d_), .val (.int m_), .val (.int r_s), .val (.int r_sp), .unset, .unset, .unset, .unset, .unset, .unset, .unset, .unset, .unset] []))
  refine gob (fun _ k => XS.iloadN X6.here hx rfl (hb hby at_34) rfl k) ?_
  show Go _ _ _ _ _ _ _ (T6.setTop (mkF m 35 #[.val (.int p0), .val (.int p1), .val (.int p2), .val (.int p_), .val (.int d_), .val (.int m_), .val (.int r_s), .val (.int r_sp), .unset, .unset, .unset, .unset, .unset, .unset, .unset, .unset, .unset] [(.int p_)]))
  refine gob (fun _ k => XS.iconst X6.here hx rfl (hb hby at_35) k) ?_
  show Go _ _ _ _ _ _ _ (T6.setTop (mkF m 36 #[.val (.int p0), .val (.int p1), .val (.int p2), .val (.int p_), .val (.int d_), .val (.int m_), .val (.int r_s), .val (.int r_sp), .unset, .unset, .unset, .unset, .unset, .unset, .unset, .unset, .unset] [(.int (1 : Int32)), (.int p_)]))
  refine gob (fun _ k => XS.iadd X6.here hx rfl (hb hby at_36) rfl k) ?_
  show Go _ _ _ _ _ _ _ (T6.setTop (mkF m 37 #[.val (.int p0), .val (.int p1), .val (.int p2), .val (.int p_), .val (.int d_), .val (.int m_), .val (.int r_s), .val (.int r_sp), .unset, .unset, .unset, .unset, .unset, .unset, .unset, .unset, .unset] [(.int (p_ + (1 : Int32)))]))
  refine gob (fun _ k => XS.iloadN X6.here hx rfl (hb hby at_37) rfl k) ?_
  show Go _ _ _ _ _ _ _ (T6.setTop (mkF m 38 #[.val (.int p0), .val (.int p1), .val (.int p2), .val (.int p_), .val (.int d_), .val (.int m_), .val (.int r_s), .val (.int r_sp), .unset, .unset, .unset, .unset, .unset, .unset, .unset, .unset, .unset] [(.int p_), (.int (p_ + (1 : Int32)))]))
  refine gob (fun _ k => XS.iconst X6.here hx rfl (hb hby at_38) k) ?_
  show Go _ _ _ _ _ _ _ (T6.setTop (mkF m 39 #[.val (.int p0), .val (.int p1), .val (.int p2), .val (.int p_), .val (.int d_), .val (.int m_), .val (.int r_s), .val (.int r_sp), .unset, .unset, .unset, .unset, .unset, .unset, .unset, .unset, .unset] [(.int (1 : Int32)), (.int p_), (.int (p_ + (1 : Int32)))]))
  refine gob (fun _ k => XS.iadd X6.here hx rfl (hb hby at_39) rfl k) ?_
  show Go _ _ _ _ _ _ _ (T6.setTop (mkF m 40 #[.val (.int p0), .val (.int p1), .val (.int p2), .val (.int p_), .val (.int d_), .val (.int m_), .val (.int r_s), .val (.int r_sp), .unset, .unset, .unset, .unset, .unset, .unset, .unset, .unset, .unset] [(.int (p_ + (1 : Int32))), (.int (p_ + (1 : Int32)))]))
  obtain ⟨_, _, ⟨T7, L7, k7, n7⟩, -, X7, ⟨Lc7, hQ7, l7, y7, z7⟩, st7⟩ := Jvm.LawKit.callS X6 hx (y := (⟨"com/example/fenda/fenda/linalg/Dense", "size", "(II)I"⟩ : MethodName)) hown (mvT hZ (hw _ (List.mem_of_getElem? (i := 0) rfl))) (mvT hZ (hw _ (List.mem_of_getElem? (i := 1) rfl))) (mvT hZ (hw _ (List.mem_of_getElem? (i := 2) rfl))) (mvT hZ (hw _ (List.mem_of_getElem? (i := 3) rfl))) (by decide) (backOf (W := 0) (rm1 l Z a0 hw [] (p_ + (1 : Int32)) (p_ + (1 : Int32)) h0 n0 Z0 k_sp1.1) hZ (hw _ (List.mem_of_getElem? (i := 3) rfl)) (hw _ (List.mem_of_getElem? (i := 2) rfl)) (by decide) (by decide)) (g := (mkF m 40 #[.val (.int p0), .val (.int p1), .val (.int p2), .val (.int p_), .val (.int d_), .val (.int m_), .val (.int r_s), .val (.int r_sp), .unset, .unset, .unset, .unset, .unset, .unset, .unset, .unset, .unset] [(.int (p_ + (1 : Int32))), (.int (p_ + (1 : Int32)))])) rfl (by rw [hml]; rfl) (argsL := [(.int (p_ + (1 : Int32))), (.int (p_ + (1 : Int32)))]) (rest := []) (lenOf pd_0 rfl) rfl (by show 2 * 0 + _ ≤ _; exact Nat.le_of_eq rfl) (hb hby at_40) (fun _ _ => ⟨rfl, e6, (by decide : 0 + 0 ≤ _), (by decide : 0 + 0 ≤ _)⟩)
  dsimp only [Pt.U, Pt.locs, Pt.cells, Pt.slots] at X7 l7 y7 z7 st7 hQ7
  subst l7 y7 z7
  obtain ⟨r_sp1, rfl, hr_sp1, Nq7, e7⟩ := hQ7
  have N7 := Fr.app N6 Nq7
  refine gob st7 ?_
  show Go _ _ _ _ _ _ _ (T7.setTop (mkF m 43 #[.val (.int p0), .val (.int p1), .val (.int p2), .val (.int p_), .val (.int d_), .val (.int m_), .val (.int r_s), .val (.int r_sp), .unset, .unset, .unset, .unset, .unset, .unset, .unset, .unset, .unset] [(.int r_sp1)]))
  refine gob (fun _ k => XS.istore X7.here hx rfl (hb hby at_43) rfl (l' := #[.val (.int p0), .val (.int p1), .val (.int p2), .val (.int p_), .val (.int d_), .val (.int m_), .val (.int r_s), .val (.int r_sp), .val (.int r_sp1), .unset, .unset, .unset, .unset, .unset, .unset, .unset, .unset]) rfl k) ?_
  show Go _ _ _ _ _ _ _ (T7.setTop (mkF m 45 #[.val (.int p0), .val (.int p1), .val (.int p2), .val (.int p_), .val (.int d_), .val (.int m_), .val (.int r_s), .val (.int r_sp), .val (.int r_sp1), .unset, .unset, .unset, .unset, .unset, .unset, .unset, .unset] []))
  refine gob (fun _ k => XS.iconst X7.here hx rfl (hb hby at_45) k) ?_
  show Go _ _ _ _ _ _ _ (T7.setTop (mkF m 46 #[.val (.int p0), .val (.int p1), .val (.int p2), .val (.int p_), .val (.int d_), .val (.int m_), .val (.int r_s), .val (.int r_sp), .val (.int r_sp1), .unset, .unset, .unset, .unset, .unset, .unset, .unset, .unset] [(.int (0 : Int32))]))
  refine gob (fun _ k => XS.iconst X7.here hx rfl (hb hby at_46) k) ?_
  show Go _ _ _ _ _ _ _ (T7.setTop (mkF m 47 #[.val (.int p0), .val (.int p1), .val (.int p2), .val (.int p_), .val (.int d_), .val (.int m_), .val (.int r_s), .val (.int r_sp), .val (.int r_sp1), .unset, .unset, .unset, .unset, .unset, .unset, .unset, .unset] [(.int (0 : Int32)), (.int (0 : Int32))]))
  obtain ⟨_, _, ⟨T8, L8, k8, n8⟩, -, X8, ⟨Lc8, hQ8, l8, y8, z8⟩, st8⟩ := Jvm.LawKit.callS X7 hx (y := (⟨"com/example/fenda/fenda/linalg/Dense", "size", "(II)I"⟩ : MethodName)) hown (mvT hZ (hw _ (List.mem_of_getElem? (i := 0) rfl))) (mvT hZ (hw _ (List.mem_of_getElem? (i := 1) rfl))) (mvT hZ (hw _ (List.mem_of_getElem? (i := 2) rfl))) (mvT hZ (hw _ (List.mem_of_getElem? (i := 3) rfl))) (by decide) (backOf (W := 0) (rm1 l Z a0 hw [] (0 : Int32) (0 : Int32) h0 n0 Z0 k_0.1) hZ (hw _ (List.mem_of_getElem? (i := 3) rfl)) (hw _ (List.mem_of_getElem? (i := 2) rfl)) (by decide) (by decide)) (g := (mkF m 47 #[.val (.int p0), .val (.int p1), .val (.int p2), .val (.int p_), .val (.int d_), .val (.int m_), .val (.int r_s), .val (.int r_sp), .val (.int r_sp1), .unset, .unset, .unset, .unset, .unset, .unset, .unset, .unset] [(.int (0 : Int32)), (.int (0 : Int32))])) rfl (by rw [hml]; rfl) (argsL := [(.int (0 : Int32)), (.int (0 : Int32))]) (rest := []) (lenOf pd_0 rfl) rfl (by show 2 * 0 + _ ≤ _; exact Nat.le_of_eq rfl) (hb hby at_47) (fun _ _ => ⟨rfl, e7, (by decide : 0 + 0 ≤ _), (by decide : 0 + 0 ≤ _)⟩)
  dsimp only [Pt.U, Pt.locs, Pt.cells, Pt.slots] at X8 l8 y8 z8 st8 hQ8
  subst l8 y8 z8
  obtain ⟨r_0, rfl, hr_0, Nq8, e8⟩ := hQ8
  have N8 := Fr.app N7 Nq8
  refine gob st8 ?_
  show Go _ _ _ _ _ _ _ (T8.setTop (mkF m 50 #[.val (.int p0), .val (.int p1), .val (.int p2), .val (.int p_), .val (.int d_), .val (.int m_), .val (.int r_s), .val (.int r_sp), .val (.int r_sp1), .unset, .unset, .unset, .unset, .unset, .unset, .unset, .unset] [(.int r_0)]))
  refine gob (fun _ k => XS.istore X8.here hx rfl (hb hby at_50) rfl (l' := #[.val (.int p0), .val (.int p1), .val (.int p2), .val (.int p_), .val (.int d_), .val (.int m_), .val (.int r_s), .val (.int r_sp), .val (.int r_sp1), .val (.int r_0), .unset, .unset, .unset, .unset, .unset, .unset, .unset]) rfl k) ?_
  show Go _ _ _ _ _ _ _ (T8.setTop (mkF m 52 #[.val (.int p0), .val (.int p1), .val (.int p2), .val (.int p_), .val (.int d_), .val (.int m_), .val (.int r_s), .val (.int r_sp), .val (.int r_sp1), .val (.int r_0), .unset, .unset, .unset, .unset, .unset, .unset, .unset] []))
  refine gob (fun _ k => XS.iload X8.here hx rfl (hb hby at_52) rfl k) ?_
  show Go _ _ _ _ _ _ _ (T8.setTop (mkF m 54 #[.val (.int p0), .val (.int p1), .val (.int p2), .val (.int p_), .val (.int d_), .val (.int m_), .val (.int r_s), .val (.int r_sp), .val (.int r_sp1), .val (.int r_0), .unset, .unset, .unset, .unset, .unset, .unset, .unset] [(.int r_0)]))
  refine gob (fun _ k => XS.ifNo X8.here hx rfl (hb hby at_54) rfl ((if0 _ _).trans (teq ((own_z r_0 hr_0 k_0.2.1) : r_0 = (0 : Int32))).2) k) ?_
  show Go _ _ _ _ _ _ _ (T8.setTop (mkF m 57 #[.val (.int p0), .val (.int p1), .val (.int p2), .val (.int p_), .val (.int d_), .val (.int m_), .val (.int r_s), .val (.int r_sp), .val (.int r_sp1), .val (.int r_0), .unset, .unset, .unset, .unset, .unset, .unset, .unset] []))
  refine gob (fun _ k => XS.iconst X8.here hx rfl (hb hby at_57) k) ?_
  show Go _ _ _ _ _ _ _ (T8.setTop (mkF m 58 #[.val (.int p0), .val (.int p1), .val (.int p2), .val (.int p_), .val (.int d_), .val (.int m_), .val (.int r_s), .val (.int r_sp), .val (.int r_sp1), .val (.int r_0), .unset, .unset, .unset, .unset, .unset, .unset, .unset] [(.int (1 : Int32))]))
  refine gob (fun _ k => XS.goto X8.here hx rfl (pc0 := 58) (pc' := 62) rfl (hb hby at_58) (by decide) (by decide) k) ?_
  show Go _ _ _ _ _ _ _ (T8.setTop (mkF m 62 #[.val (.int p0), .val (.int p1), .val (.int p2), .val (.int p_), .val (.int d_), .val (.int m_), .val (.int r_s), .val (.int r_sp), .val (.int r_sp1), .val (.int r_0), .unset, .unset, .unset, .unset, .unset, .unset, .unset] [(.int (1 : Int32))]))
  refine gob (fun _ k => XS.istore X8.here hx rfl (hb hby at_62) rfl (l' := #[.val (.int p0), .val (.int p1), .val (.int p2), .val (.int p_), .val (.int d_), .val (.int m_), .val (.int r_s), .val (.int r_sp), .val (.int r_sp1), .val (.int r_0), .val (.int (1 : Int32)), .unset, .unset, .unset, .unset, .unset, .unset]) rfl k) ?_
  show Go _ _ _ _ _ _ _ (T8.setTop (mkF m 64 #[.val (.int p0), .val (.int p1), .val (.int p2), .val (.int p_), .val (.int d_), .val (.int m_), .val (.int r_s), .val (.int r_sp), .val (.int r_sp1), .val (.int r_0), .val (.int (1 : Int32)), .unset, .unset, .unset, .unset, .unset, .unset] []))
  refine gob (fun _ k => XS.iload X8.here hx rfl (hb hby at_64) rfl k) ?_
  show Go _ _ _ _ _ _ _ (T8.setTop (mkF m 66 #[.val (.int p0), .val (.int p1), .val (.int p2), .val (.int p_), .val (.int d_), .val (.int m_), .val (.int r_s), .val (.int r_sp), .val (.int r_sp1), .val (.int r_0), .val (.int (1 : Int32)), .unset, .unset, .unset, .unset, .unset, .unset] [(.int r_s)]))
  refine gob (fun _ k => XS.i2l X8.here hx rfl (hb hby at_66) rfl k) ?_
  show Go _ _ _ _ _ _ _ (T8.setTop (mkF m 67 #[.val (.int p0), .val (.int p1), .val (.int p2), .val (.int p_), .val (.int d_), .val (.int m_), .val (.int r_s), .val (.int r_sp), .val (.int r_sp1), .val (.int r_0), .val (.int (1 : Int32)), .unset, .unset, .unset, .unset, .unset, .unset] [(.long (r_s.toInt64))]))
  refine gob (fun _ k => XS.iload X8.here hx rfl (hb hby at_67) rfl k) ?_
  show Go _ _ _ _ _ _ _ (T8.setTop (mkF m 69 #[.val (.int p0), .val (.int p1), .val (.int p2), .val (.int p_), .val (.int d_), .val (.int m_), .val (.int r_s), .val (.int r_sp), .val (.int r_sp1), .val (.int r_0), .val (.int (1 : Int32)), .unset, .unset, .unset, .unset, .unset, .unset] [(.int r_sp), (.long (r_s.toInt64))]))
  refine gob (fun _ k => XS.i2l X8.here hx rfl (hb hby at_69) rfl k) ?_
  show Go _ _ _ _ _ _ _ (T8.setTop (mkF m 70 #[.val (.int p0), .val (.int p1), .val (.int p2), .val (.int p_), .val (.int d_), .val (.int m_), .val (.int r_s), .val (.int r_sp), .val (.int r_sp1), .val (.int r_0), .val (.int (1 : Int32)), .unset, .unset, .unset, .unset, .unset, .unset] [(.long (r_sp.toInt64)), (.long (r_s.toInt64))]))
  refine gob (fun _ k => XS.iload X8.here hx rfl (hb hby at_70) rfl k) ?_
  show Go _ _ _ _ _ _ _ (T8.setTop (mkF m 72 #[.val (.int p0), .val (.int p1), .val (.int p2), .val (.int p_), .val (.int d_), .val (.int m_), .val (.int r_s), .val (.int r_sp), .val (.int r_sp1), .val (.int r_0), .val (.int (1 : Int32)), .unset, .unset, .unset, .unset, .unset, .unset] [(.int d_), (.long (r_sp.toInt64)), (.long (r_s.toInt64))]))
  refine gob (fun _ k => XS.i2l X8.here hx rfl (hb hby at_72) rfl k) ?_
  show Go _ _ _ _ _ _ _ (T8.setTop (mkF m 73 #[.val (.int p0), .val (.int p1), .val (.int p2), .val (.int p_), .val (.int d_), .val (.int m_), .val (.int r_s), .val (.int r_sp), .val (.int r_sp1), .val (.int r_0), .val (.int (1 : Int32)), .unset, .unset, .unset, .unset, .unset, .unset] [(.long (d_.toInt64)), (.long (r_sp.toInt64)), (.long (r_s.toInt64))]))
  refine gob (fun _ k => XS.iloadN X8.here hx rfl (hb hby at_73) rfl k) ?_
  show Go _ _ _ _ _ _ _ (T8.setTop (mkF m 74 #[.val (.int p0), .val (.int p1), .val (.int p2), .val (.int p_), .val (.int d_), .val (.int m_), .val (.int r_s), .val (.int r_sp), .val (.int r_sp1), .val (.int r_0), .val (.int (1 : Int32)), .unset, .unset, .unset, .unset, .unset, .unset] [(.int p_), (.long (d_.toInt64)), (.long (r_sp.toInt64)), (.long (r_s.toInt64))]))
  refine gob (fun _ k => XS.i2l X8.here hx rfl (hb hby at_74) rfl k) ?_
  show Go _ _ _ _ _ _ _ (T8.setTop (mkF m 75 #[.val (.int p0), .val (.int p1), .val (.int p2), .val (.int p_), .val (.int d_), .val (.int m_), .val (.int r_s), .val (.int r_sp), .val (.int r_sp1), .val (.int r_0), .val (.int (1 : Int32)), .unset, .unset, .unset, .unset, .unset, .unset] [(.long (p_.toInt64)), (.long (d_.toInt64)), (.long (r_sp.toInt64)), (.long (r_s.toInt64))]))
  refine gob (fun _ k => XS.lmul X8.here hx rfl (hb hby at_75) rfl k) ?_
  show Go _ _ _ _ _ _ _ (T8.setTop (mkF m 76 #[.val (.int p0), .val (.int p1), .val (.int p2), .val (.int p_), .val (.int d_), .val (.int m_), .val (.int r_s), .val (.int r_sp), .val (.int r_sp1), .val (.int r_0), .val (.int (1 : Int32)), .unset, .unset, .unset, .unset, .unset, .unset] [(.long ((d_.toInt64) * (p_.toInt64))), (.long (r_sp.toInt64)), (.long (r_s.toInt64))]))
  refine gob (fun _ k => XS.ladd X8.here hx rfl (hb hby at_76) rfl k) ?_
  show Go _ _ _ _ _ _ _ (T8.setTop (mkF m 77 #[.val (.int p0), .val (.int p1), .val (.int p2), .val (.int p_), .val (.int d_), .val (.int m_), .val (.int r_s), .val (.int r_sp), .val (.int r_sp1), .val (.int r_0), .val (.int (1 : Int32)), .unset, .unset, .unset, .unset, .unset, .unset] [(.long ((r_sp.toInt64) + ((d_.toInt64) * (p_.toInt64)))), (.long (r_s.toInt64))]))
  refine gob (fun _ k => XS.lcmp X8.here hx rfl (hb hby at_77) rfl k) ?_
  show Go _ _ _ _ _ _ _ (T8.setTop (mkF m 78 #[.val (.int p0), .val (.int p1), .val (.int p2), .val (.int p_), .val (.int d_), .val (.int m_), .val (.int r_s), .val (.int r_sp), .val (.int r_sp1), .val (.int r_0), .val (.int (1 : Int32)), .unset, .unset, .unset, .unset, .unset, .unset] [(.int (lcmpW (r_s.toInt64) ((r_sp.toInt64) + ((d_.toInt64) * (p_.toInt64)))))]))
  refine gob (fun _ k => XS.ifNo X8.here hx rfl (hb hby at_78) rfl ((if0 _ _).trans (teq ((lw_eq _ _).mpr ((own_bel p_ d_ m_ r_s r_sp hr_s hr_sp k_s.2.1 k_sp.2.1 b_p b_d b_m) : (r_s.toInt64) = ((r_sp.toInt64) + ((d_.toInt64) * (p_.toInt64)))))).2) k) ?_
  show Go _ _ _ _ _ _ _ (T8.setTop (mkF m 81 #[.val (.int p0), .val (.int p1), .val (.int p2), .val (.int p_), .val (.int d_), .val (.int m_), .val (.int r_s), .val (.int r_sp), .val (.int r_sp1), .val (.int r_0), .val (.int (1 : Int32)), .unset, .unset, .unset, .unset, .unset, .unset] []))
  refine gob (fun _ k => XS.iconst X8.here hx rfl (hb hby at_81) k) ?_
  show Go _ _ _ _ _ _ _ (T8.setTop (mkF m 82 #[.val (.int p0), .val (.int p1), .val (.int p2), .val (.int p_), .val (.int d_), .val (.int m_), .val (.int r_s), .val (.int r_sp), .val (.int r_sp1), .val (.int r_0), .val (.int (1 : Int32)), .unset, .unset, .unset, .unset, .unset, .unset] [(.int (1 : Int32))]))
  refine gob (fun _ k => XS.goto X8.here hx rfl (pc0 := 82) (pc' := 86) rfl (hb hby at_82) (by decide) (by decide) k) ?_
  show Go _ _ _ _ _ _ _ (T8.setTop (mkF m 86 #[.val (.int p0), .val (.int p1), .val (.int p2), .val (.int p_), .val (.int d_), .val (.int m_), .val (.int r_s), .val (.int r_sp), .val (.int r_sp1), .val (.int r_0), .val (.int (1 : Int32)), .unset, .unset, .unset, .unset, .unset, .unset] [(.int (1 : Int32))]))
  refine gob (fun _ k => XS.istore X8.here hx rfl (hb hby at_86) rfl (l' := #[.val (.int p0), .val (.int p1), .val (.int p2), .val (.int p_), .val (.int d_), .val (.int m_), .val (.int r_s), .val (.int r_sp), .val (.int r_sp1), .val (.int r_0), .val (.int (1 : Int32)), .val (.int (1 : Int32)), .unset, .unset, .unset, .unset, .unset]) rfl k) ?_
  show Go _ _ _ _ _ _ _ (T8.setTop (mkF m 88 #[.val (.int p0), .val (.int p1), .val (.int p2), .val (.int p_), .val (.int d_), .val (.int m_), .val (.int r_s), .val (.int r_sp), .val (.int r_sp1), .val (.int r_0), .val (.int (1 : Int32)), .val (.int (1 : Int32)), .unset, .unset, .unset, .unset, .unset] []))
  refine gob (fun _ k => XS.iload X8.here hx rfl (hb hby at_88) rfl k) ?_
  show Go _ _ _ _ _ _ _ (T8.setTop (mkF m 90 #[.val (.int p0), .val (.int p1), .val (.int p2), .val (.int p_), .val (.int d_), .val (.int m_), .val (.int r_s), .val (.int r_sp), .val (.int r_sp1), .val (.int r_0), .val (.int (1 : Int32)), .val (.int (1 : Int32)), .unset, .unset, .unset, .unset, .unset] [(.int r_sp1)]))
  refine gob (fun _ k => XS.i2l X8.here hx rfl (hb hby at_90) rfl k) ?_
  show Go _ _ _ _ _ _ _ (T8.setTop (mkF m 91 #[.val (.int p0), .val (.int p1), .val (.int p2), .val (.int p_), .val (.int d_), .val (.int m_), .val (.int r_s), .val (.int r_sp), .val (.int r_sp1), .val (.int r_0), .val (.int (1 : Int32)), .val (.int (1 : Int32)), .unset, .unset, .unset, .unset, .unset] [(.long (r_sp1.toInt64))]))
  refine gob (fun _ k => XS.iload X8.here hx rfl (hb hby at_91) rfl k) ?_
  show Go _ _ _ _ _ _ _ (T8.setTop (mkF m 93 #[.val (.int p0), .val (.int p1), .val (.int p2), .val (.int p_), .val (.int d_), .val (.int m_), .val (.int r_s), .val (.int r_sp), .val (.int r_sp1), .val (.int r_0), .val (.int (1 : Int32)), .val (.int (1 : Int32)), .unset, .unset, .unset, .unset, .unset] [(.int r_sp), (.long (r_sp1.toInt64))]))
  refine gob (fun _ k => XS.i2l X8.here hx rfl (hb hby at_93) rfl k) ?_
  show Go _ _ _ _ _ _ _ (T8.setTop (mkF m 94 #[.val (.int p0), .val (.int p1), .val (.int p2), .val (.int p_), .val (.int d_), .val (.int m_), .val (.int r_s), .val (.int r_sp), .val (.int r_sp1), .val (.int r_0), .val (.int (1 : Int32)), .val (.int (1 : Int32)), .unset, .unset, .unset, .unset, .unset] [(.long (r_sp.toInt64)), (.long (r_sp1.toInt64))]))
  refine gob (fun _ k => XS.lsub X8.here hx rfl (hb hby at_94) rfl k) ?_
  show Go _ _ _ _ _ _ _ (T8.setTop (mkF m 95 #[.val (.int p0), .val (.int p1), .val (.int p2), .val (.int p_), .val (.int d_), .val (.int m_), .val (.int r_s), .val (.int r_sp), .val (.int r_sp1), .val (.int r_0), .val (.int (1 : Int32)), .val (.int (1 : Int32)), .unset, .unset, .unset, .unset, .unset] [(.long ((r_sp1.toInt64) - (r_sp.toInt64)))]))
  refine gob (X8.ldc2Long hx hown (mvT hZ (hw _ (List.mem_of_getElem? (i := 7) rfl))) (g := (mkF m 95 #[.val (.int p0), .val (.int p1), .val (.int p2), .val (.int p_), .val (.int d_), .val (.int m_), .val (.int r_s), .val (.int r_sp), .val (.int r_sp1), .val (.int r_0), .val (.int (1 : Int32)), .val (.int (1 : Int32)), .unset, .unset, .unset, .unset, .unset] [(.long ((r_sp1.toInt64) - (r_sp.toInt64)))])) rfl (hb hby at_95)) ?_
  show Go _ _ _ _ _ _ _ (T8.setTop (mkF m 98 #[.val (.int p0), .val (.int p1), .val (.int p2), .val (.int p_), .val (.int d_), .val (.int m_), .val (.int r_s), .val (.int r_sp), .val (.int r_sp1), .val (.int r_0), .val (.int (1 : Int32)), .val (.int (1 : Int32)), .unset, .unset, .unset, .unset, .unset] [(.long (4 : Int64)), (.long ((r_sp1.toInt64) - (r_sp.toInt64)))]))
  refine gob (fun _ k => XS.iloadN X8.here hx rfl (hb hby at_98) rfl k) ?_
  show Go _ _ _ _ _ _ _ (T8.setTop (mkF m 99 #[.val (.int p0), .val (.int p1), .val (.int p2), .val (.int p_), .val (.int d_), .val (.int m_), .val (.int r_s), .val (.int r_sp), .val (.int r_sp1), .val (.int r_0), .val (.int (1 : Int32)), .val (.int (1 : Int32)), .unset, .unset, .unset, .unset, .unset] [(.int p_), (.long (4 : Int64)), (.long ((r_sp1.toInt64) - (r_sp.toInt64)))]))
  refine gob (fun _ k => XS.iconst X8.here hx rfl (hb hby at_99) k) ?_
  show Go _ _ _ _ _ _ _ (T8.setTop (mkF m 100 #[.val (.int p0), .val (.int p1), .val (.int p2), .val (.int p_), .val (.int d_), .val (.int m_), .val (.int r_s), .val (.int r_sp), .val (.int r_sp1), .val (.int r_0), .val (.int (1 : Int32)), .val (.int (1 : Int32)), .unset, .unset, .unset, .unset, .unset] [(.int (2 : Int32)), (.int p_), (.long (4 : Int64)), (.long ((r_sp1.toInt64) - (r_sp.toInt64)))]))
  refine gob (fun _ k => XS.ishr X8.here hx rfl (hb hby at_100) rfl k) ?_
  show Go _ _ _ _ _ _ _ (T8.setTop (mkF m 101 #[.val (.int p0), .val (.int p1), .val (.int p2), .val (.int p_), .val (.int d_), .val (.int m_), .val (.int r_s), .val (.int r_sp), .val (.int r_sp1), .val (.int r_0), .val (.int (1 : Int32)), .val (.int (1 : Int32)), .unset, .unset, .unset, .unset, .unset] [(.int (p_ >>> ((2 : Int32) &&& 31))), (.long (4 : Int64)), (.long ((r_sp1.toInt64) - (r_sp.toInt64)))]))
  refine gob (fun _ k => XS.iconst X8.here hx rfl (hb hby at_101) k) ?_
  show Go _ _ _ _ _ _ _ (T8.setTop (mkF m 102 #[.val (.int p0), .val (.int p1), .val (.int p2), .val (.int p_), .val (.int d_), .val (.int m_), .val (.int r_s), .val (.int r_sp), .val (.int r_sp1), .val (.int r_0), .val (.int (1 : Int32)), .val (.int (1 : Int32)), .unset, .unset, .unset, .unset, .unset] [(.int (1 : Int32)), (.int (p_ >>> ((2 : Int32) &&& 31))), (.long (4 : Int64)), (.long ((r_sp1.toInt64) - (r_sp.toInt64)))]))
  refine gob (fun _ k => XS.iadd X8.here hx rfl (hb hby at_102) rfl k) ?_
  show Go _ _ _ _ _ _ _ (T8.setTop (mkF m 103 #[.val (.int p0), .val (.int p1), .val (.int p2), .val (.int p_), .val (.int d_), .val (.int m_), .val (.int r_s), .val (.int r_sp), .val (.int r_sp1), .val (.int r_0), .val (.int (1 : Int32)), .val (.int (1 : Int32)), .unset, .unset, .unset, .unset, .unset] [(.int ((p_ >>> ((2 : Int32) &&& 31)) + (1 : Int32))), (.long (4 : Int64)), (.long ((r_sp1.toInt64) - (r_sp.toInt64)))]))
  refine gob (fun _ k => XS.i2l X8.here hx rfl (hb hby at_103) rfl k) ?_
  show Go _ _ _ _ _ _ _ (T8.setTop (mkF m 104 #[.val (.int p0), .val (.int p1), .val (.int p2), .val (.int p_), .val (.int d_), .val (.int m_), .val (.int r_s), .val (.int r_sp), .val (.int r_sp1), .val (.int r_0), .val (.int (1 : Int32)), .val (.int (1 : Int32)), .unset, .unset, .unset, .unset, .unset] [(.long (((p_ >>> ((2 : Int32) &&& 31)) + (1 : Int32)).toInt64)), (.long (4 : Int64)), (.long ((r_sp1.toInt64) - (r_sp.toInt64)))]))
  refine gob (fun _ k => XS.lmul X8.here hx rfl (hb hby at_104) rfl k) ?_
  show Go _ _ _ _ _ _ _ (T8.setTop (mkF m 105 #[.val (.int p0), .val (.int p1), .val (.int p2), .val (.int p_), .val (.int d_), .val (.int m_), .val (.int r_s), .val (.int r_sp), .val (.int r_sp1), .val (.int r_0), .val (.int (1 : Int32)), .val (.int (1 : Int32)), .unset, .unset, .unset, .unset, .unset] [(.long ((4 : Int64) * (((p_ >>> ((2 : Int32) &&& 31)) + (1 : Int32)).toInt64))), (.long ((r_sp1.toInt64) - (r_sp.toInt64)))]))
  refine gob (fun _ k => XS.lcmp X8.here hx rfl (hb hby at_105) rfl k) ?_
  show Go _ _ _ _ _ _ _ (T8.setTop (mkF m 106 #[.val (.int p0), .val (.int p1), .val (.int p2), .val (.int p_), .val (.int d_), .val (.int m_), .val (.int r_s), .val (.int r_sp), .val (.int r_sp1), .val (.int r_0), .val (.int (1 : Int32)), .val (.int (1 : Int32)), .unset, .unset, .unset, .unset, .unset] [(.int (lcmpW ((r_sp1.toInt64) - (r_sp.toInt64)) ((4 : Int64) * (((p_ >>> ((2 : Int32) &&& 31)) + (1 : Int32)).toInt64))))]))
  refine gob (fun _ k => XS.ifNo X8.here hx rfl (hb hby at_106) rfl ((if0 _ _).trans (teq ((lw_eq _ _).mpr ((own_dia p_ r_sp r_sp1 hr_sp hr_sp1 k_sp.2 k_sp1.2 b_p b_p1) : ((r_sp1.toInt64) - (r_sp.toInt64)) = ((4 : Int64) * (((p_ >>> ((2 : Int32) &&& 31)) + (1 : Int32)).toInt64))))).2) k) ?_
  show Go _ _ _ _ _ _ _ (T8.setTop (mkF m 109 #[.val (.int p0), .val (.int p1), .val (.int p2), .val (.int p_), .val (.int d_), .val (.int m_), .val (.int r_s), .val (.int r_sp), .val (.int r_sp1), .val (.int r_0), .val (.int (1 : Int32)), .val (.int (1 : Int32)), .unset, .unset, .unset, .unset, .unset] []))
  refine gob (fun _ k => XS.iconst X8.here hx rfl (hb hby at_109) k) ?_
  show Go _ _ _ _ _ _ _ (T8.setTop (mkF m 110 #[.val (.int p0), .val (.int p1), .val (.int p2), .val (.int p_), .val (.int d_), .val (.int m_), .val (.int r_s), .val (.int r_sp), .val (.int r_sp1), .val (.int r_0), .val (.int (1 : Int32)), .val (.int (1 : Int32)), .unset, .unset, .unset, .unset, .unset] [(.int (1 : Int32))]))
  refine gob (fun _ k => XS.goto X8.here hx rfl (pc0 := 110) (pc' := 114) rfl (hb hby at_110) (by decide) (by decide) k) ?_
  show Go _ _ _ _ _ _ _ (T8.setTop (mkF m 114 #[.val (.int p0), .val (.int p1), .val (.int p2), .val (.int p_), .val (.int d_), .val (.int m_), .val (.int r_s), .val (.int r_sp), .val (.int r_sp1), .val (.int r_0), .val (.int (1 : Int32)), .val (.int (1 : Int32)), .unset, .unset, .unset, .unset, .unset] [(.int (1 : Int32))]))
  refine gob (fun _ k => XS.istore X8.here hx rfl (hb hby at_114) rfl (l' := #[.val (.int p0), .val (.int p1), .val (.int p2), .val (.int p_), .val (.int d_), .val (.int m_), .val (.int r_s), .val (.int r_sp), .val (.int r_sp1), .val (.int r_0), .val (.int (1 : Int32)), .val (.int (1 : Int32)), .val (.int (1 : Int32)), .unset, .unset, .unset, .unset]) rfl k) ?_
  show Go _ _ _ _ _ _ _ (T8.setTop (mkF m 116 #[.val (.int p0), .val (.int p1), .val (.int p2), .val (.int p_), .val (.int d_), .val (.int m_), .val (.int r_s), .val (.int r_sp), .val (.int r_sp1), .val (.int r_0), .val (.int (1 : Int32)), .val (.int (1 : Int32)), .val (.int (1 : Int32)), .unset, .unset, .unset, .unset] []))
  refine gob (fun _ k => XS.iloadN X8.here hx rfl (hb hby at_116) rfl k) ?_
  show Go _ _ _ _ _ _ _ (T8.setTop (mkF m 117 #[.val (.int p0), .val (.int p1), .val (.int p2), .val (.int p_), .val (.int d_), .val (.int m_), .val (.int r_s), .val (.int r_sp), .val (.int r_sp1), .val (.int r_0), .val (.int (1 : Int32)), .val (.int (1 : Int32)), .val (.int (1 : Int32)), .unset, .unset, .unset, .unset] [(.int p2)]))
  refine gob (X8.ldcInt hx hown (mvT hZ (hw _ (List.mem_of_getElem? (i := 8) rfl))) (g := (mkF m 117 #[.val (.int p0), .val (.int p1), .val (.int p2), .val (.int p_), .val (.int d_), .val (.int m_), .val (.int r_s), .val (.int r_sp), .val (.int r_sp1), .val (.int r_0), .val (.int (1 : Int32)), .val (.int (1 : Int32)), .val (.int (1 : Int32)), .unset, .unset, .unset, .unset] [(.int p2)])) rfl (hb hby at_117)) ?_
  show Go _ _ _ _ _ _ _ (T8.setTop (mkF m 119 #[.val (.int p0), .val (.int p1), .val (.int p2), .val (.int p_), .val (.int d_), .val (.int m_), .val (.int r_s), .val (.int r_sp), .val (.int r_sp1), .val (.int r_0), .val (.int (1 : Int32)), .val (.int (1 : Int32)), .val (.int (1 : Int32)), .unset, .unset, .unset, .unset] [(.int (65535 : Int32)), (.int p2)]))
  refine gob (fun _ k => XS.iand X8.here hx rfl (hb hby at_119) rfl k) ?_
  show Go _ _ _ _ _ _ _ (T8.setTop (mkF m 120 #[.val (.int p0), .val (.int p1), .val (.int p2), .val (.int p_), .val (.int d_), .val (.int m_), .val (.int r_s), .val (.int r_sp), .val (.int r_sp1), .val (.int r_0), .val (.int (1 : Int32)), .val (.int (1 : Int32)), .val (.int (1 : Int32)), .unset, .unset, .unset, .unset] [(.int (p2 &&& (65535 : Int32)))]))
  refine gob (fun _ k => XS.istore X8.here hx rfl (hb hby at_120) rfl (l' := #[.val (.int p0), .val (.int p1), .val (.int p2), .val (.int p_), .val (.int d_), .val (.int m_), .val (.int r_s), .val (.int r_sp), .val (.int r_sp1), .val (.int r_0), .val (.int (1 : Int32)), .val (.int (1 : Int32)), .val (.int (1 : Int32)), .val (.int (p2 &&& (65535 : Int32))), .unset, .unset, .unset]) rfl k) ?_
  show Go _ _ _ _ _ _ _ (T8.setTop (mkF m 122 #[.val (.int p0), .val (.int p1), .val (.int p2), .val (.int p_), .val (.int d_), .val (.int m_), .val (.int r_s), .val (.int r_sp), .val (.int r_sp1), .val (.int r_0), .val (.int (1 : Int32)), .val (.int (1 : Int32)), .val (.int (1 : Int32)), .val (.int (p2 &&& (65535 : Int32))), .unset, .unset, .unset] []))
  generalize he_ : (p2 &&& (65535 : Int32)) = e_
  show Go _ _ _ _ _ _ _ (T8.setTop (mkF m 122 #[.val (.int p0), .val (.int p1), .val (.int p2), .val (.int p_), .val (.int d_), .val (.int m_), .val (.int r_s), .val (.int r_sp), .val (.int r_sp1), .val (.int r_0), .val (.int (1 : Int32)), .val (.int (1 : Int32)), .val (.int (1 : Int32)), .val (.int e_), .unset, .unset, .unset] []))
  refine gob (X8.ldcInt hx hown (mvT hZ (hw _ (List.mem_of_getElem? (i := 9) rfl))) (g := (mkF m 122 #[.val (.int p0), .val (.int p1), .val (.int p2), .val (.int p_), .val (.int d_), .val (.int m_), .val (.int r_s), .val (.int r_sp), .val (.int r_sp1), .val (.int r_0), .val (.int (1 : Int32)), .val (.int (1 : Int32)), .val (.int (1 : Int32)), .val (.int e_), .unset, .unset, .unset] [])) rfl (hb hby at_122)) ?_
  show Go _ _ _ _ _ _ _ (T8.setTop (mkF m 124 #[.val (.int p0), .val (.int p1), .val (.int p2), .val (.int p_), .val (.int d_), .val (.int m_), .val (.int r_s), .val (.int r_sp), .val (.int r_sp1), .val (.int r_0), .val (.int (1 : Int32)), .val (.int (1 : Int32)), .val (.int (1 : Int32)), .val (.int e_), .unset, .unset, .unset] [(.int (2147483636 : Int32))]))
  refine gob (fun _ k => XS.iload X8.here hx rfl (hb hby at_124) rfl k) ?_
  show Go _ _ _ _ _ _ _ (T8.setTop (mkF m 126 #[.val (.int p0), .val (.int p1), .val (.int p2), .val (.int p_), .val (.int d_), .val (.int m_), .val (.int r_s), .val (.int r_sp), .val (.int r_sp1), .val (.int r_0), .val (.int (1 : Int32)), .val (.int (1 : Int32)), .val (.int (1 : Int32)), .val (.int e_), .unset, .unset, .unset] [(.int e_), (.int (2147483636 : Int32))]))
  refine gob (fun _ k => XS.isub X8.here hx rfl (hb hby at_126) rfl k) ?_
  show Go _ _ _ _ _ _ _ (T8.setTop (mkF m 127 #[.val (.int p0), .val (.int p1), .val (.int p2), .val (.int p_), .val (.int d_), .val (.int m_), .val (.int r_s), .val (.int r_sp), .val (.int r_sp1), .val (.int r_0), .val (.int (1 : Int32)), .val (.int (1 : Int32)), .val (.int (1 : Int32)), .val (.int e_), .unset, .unset, .unset] [(.int ((2147483636 : Int32) - e_))]))
  refine gob (fun _ k => XS.istore X8.here hx rfl (hb hby at_127) rfl (l' := #[.val (.int p0), .val (.int p1), .val (.int p2), .val (.int p_), .val (.int d_), .val (.int m_), .val (.int r_s), .val (.int r_sp), .val (.int r_sp1), .val (.int r_0), .val (.int (1 : Int32)), .val (.int (1 : Int32)), .val (.int (1 : Int32)), .val (.int e_), .val (.int ((2147483636 : Int32) - e_)), .unset, .unset]) rfl k) ?_
  show Go _ _ _ _ _ _ _ (T8.setTop (mkF m 129 #[.val (.int p0), .val (.int p1), .val (.int p2), .val (.int p_), .val (.int d_), .val (.int m_), .val (.int r_s), .val (.int r_sp), .val (.int r_sp1), .val (.int r_0), .val (.int (1 : Int32)), .val (.int (1 : Int32)), .val (.int (1 : Int32)), .val (.int e_), .val (.int ((2147483636 : Int32) - e_)), .unset, .unset] []))
  generalize hmb_ : ((2147483636 : Int32) - e_) = mb_
  show Go _ _ _ _ _ _ _ (T8.setTop (mkF m 129 #[.val (.int p0), .val (.int p1), .val (.int p2), .val (.int p_), .val (.int d_), .val (.int m_), .val (.int r_s), .val (.int r_sp), .val (.int r_sp1), .val (.int r_0), .val (.int (1 : Int32)), .val (.int (1 : Int32)), .val (.int (1 : Int32)), .val (.int e_), .val (.int mb_), .unset, .unset] []))
  have b_b : mb_.toInt = 2147483636 - e_.toInt ∧ 0 ≤ e_.toInt ∧ e_.toInt ≤ 65535 := (la_0_129_9 p2 e_ mb_ he_ hmb_)
  have e_1 : (1 : Int32).toInt = 1 := by decide
  have k_b := own_ok (1 : Int32) mb_ (by decide) (by decide) (by rw [e_1]; omega) (by rw [e_1, own_sz1]; omega)
  refine gob (fun _ k => XS.iconst X8.here hx rfl (hb hby at_129) k) ?_
  show Go _ _ _ _ _ _ _ (T8.setTop (mkF m 130 #[.val (.int p0), .val (.int p1), .val (.int p2), .val (.int p_), .val (.int d_), .val (.int m_), .val (.int r_s), .val (.int r_sp), .val (.int r_sp1), .val (.int r_0), .val (.int (1 : Int32)), .val (.int (1 : Int32)), .val (.int (1 : Int32)), .val (.int e_), .val (.int mb_), .unset, .unset] [(.int (1 : Int32))]))
  refine gob (fun _ k => XS.iload X8.here hx rfl (hb hby at_130) rfl k) ?_
  show Go _ _ _ _ _ _ _ (T8.setTop (mkF m 132 #[.val (.int p0), .val (.int p1), .val (.int p2), .val (.int p_), .val (.int d_), .val (.int m_), .val (.int r_s), .val (.int r_sp), .val (.int r_sp1), .val (.int r_0), .val (.int (1 : Int32)), .val (.int (1 : Int32)), .val (.int (1 : Int32)), .val (.int e_), .val (.int mb_), .unset, .unset] [(.int mb_), (.int (1 : Int32))]))
  obtain ⟨_, _, ⟨T10, L10, k10, n10⟩, -, X10, ⟨Lc10, hQ10, l10, y10, z10⟩, st10⟩ := Jvm.LawKit.callS X8 hx (y := (⟨"com/example/fenda/fenda/linalg/Dense", "size", "(II)I"⟩ : MethodName)) hown (mvT hZ (hw _ (List.mem_of_getElem? (i := 0) rfl))) (mvT hZ (hw _ (List.mem_of_getElem? (i := 1) rfl))) (mvT hZ (hw _ (List.mem_of_getElem? (i := 2) rfl))) (mvT hZ (hw _ (List.mem_of_getElem? (i := 3) rfl))) (by decide) (backOf (W := 0) (rm1 l Z a0 hw [] (1 : Int32) mb_ h0 n0 Z0 k_b.1) hZ (hw _ (List.mem_of_getElem? (i := 3) rfl)) (hw _ (List.mem_of_getElem? (i := 2) rfl)) (by decide) (by decide)) (g := (mkF m 132 #[.val (.int p0), .val (.int p1), .val (.int p2), .val (.int p_), .val (.int d_), .val (.int m_), .val (.int r_s), .val (.int r_sp), .val (.int r_sp1), .val (.int r_0), .val (.int (1 : Int32)), .val (.int (1 : Int32)), .val (.int (1 : Int32)), .val (.int e_), .val (.int mb_), .unset, .unset] [(.int mb_), (.int (1 : Int32))])) rfl (by rw [hml]; rfl) (argsL := [(.int (1 : Int32)), (.int mb_)]) (rest := []) (lenOf pd_0 rfl) rfl (by show 2 * 0 + _ ≤ _; exact Nat.le_of_eq rfl) (hb hby at_132) (fun _ _ => ⟨rfl, e8, (by decide : 0 + 0 ≤ _), (by decide : 0 + 0 ≤ _)⟩)
  dsimp only [Pt.U, Pt.locs, Pt.cells, Pt.slots] at X10 l10 y10 z10 st10 hQ10
  subst l10 y10 z10
  obtain ⟨r_b, rfl, hr_b, Nq10, e10⟩ := hQ10
  have N10 := Fr.app N8 Nq10
  refine gob st10 ?_
  show Go _ _ _ _ _ _ _ (T10.setTop (mkF m 135 #[.val (.int p0), .val (.int p1), .val (.int p2), .val (.int p_), .val (.int d_), .val (.int m_), .val (.int r_s), .val (.int r_sp), .val (.int r_sp1), .val (.int r_0), .val (.int (1 : Int32)), .val (.int (1 : Int32)), .val (.int (1 : Int32)), .val (.int e_), .val (.int mb_), .unset, .unset] [(.int r_b)]))
  refine gob (fun _ k => XS.istore X10.here hx rfl (hb hby at_135) rfl (l' := #[.val (.int p0), .val (.int p1), .val (.int p2), .val (.int p_), .val (.int d_), .val (.int m_), .val (.int r_s), .val (.int r_sp), .val (.int r_sp1), .val (.int r_0), .val (.int (1 : Int32)), .val (.int (1 : Int32)), .val (.int (1 : Int32)), .val (.int e_), .val (.int mb_), .val (.int r_b), .unset]) rfl k) ?_
  show Go _ _ _ _ _ _ _ (T10.setTop (mkF m 137 #[.val (.int p0), .val (.int p1), .val (.int p2), .val (.int p_), .val (.int d_), .val (.int m_), .val (.int r_s), .val (.int r_sp), .val (.int r_sp1), .val (.int r_0), .val (.int (1 : Int32)), .val (.int (1 : Int32)), .val (.int (1 : Int32)), .val (.int e_), .val (.int mb_), .val (.int r_b), .unset] []))
  refine gob (fun _ k => XS.iload X10.here hx rfl (hb hby at_137) rfl k) ?_
  show Go _ _ _ _ _ _ _ (T10.setTop (mkF m 139 #[.val (.int p0), .val (.int p1), .val (.int p2), .val (.int p_), .val (.int d_), .val (.int m_), .val (.int r_s), .val (.int r_sp), .val (.int r_sp1), .val (.int r_0), .val (.int (1 : Int32)), .val (.int (1 : Int32)), .val (.int (1 : Int32)), .val (.int e_), .val (.int mb_), .val (.int r_b), .unset] [(.int r_b)]))
  refine gob (X10.ldcInt hx hown (mvT hZ (hw _ (List.mem_of_getElem? (i := 10) rfl))) (g := (mkF m 139 #[.val (.int p0), .val (.int p1), .val (.int p2), .val (.int p_), .val (.int d_), .val (.int m_), .val (.int r_s), .val (.int r_sp), .val (.int r_sp1), .val (.int r_0), .val (.int (1 : Int32)), .val (.int (1 : Int32)), .val (.int (1 : Int32)), .val (.int e_), .val (.int mb_), .val (.int r_b), .unset] [(.int r_b)])) rfl (hb hby at_139)) ?_
  show Go _ _ _ _ _ _ _ (T10.setTop (mkF m 141 #[.val (.int p0), .val (.int p1), .val (.int p2), .val (.int p_), .val (.int d_), .val (.int m_), .val (.int r_s), .val (.int r_sp), .val (.int r_sp1), .val (.int r_0), .val (.int (1 : Int32)), .val (.int (1 : Int32)), .val (.int (1 : Int32)), .val (.int e_), .val (.int mb_), .val (.int r_b), .unset] [(.int (2147483639 : Int32)), (.int r_b)]))
  refine gob (fun _ k => XS.iload X10.here hx rfl (hb hby at_141) rfl k) ?_
  show Go _ _ _ _ _ _ _ (T10.setTop (mkF m 143 #[.val (.int p0), .val (.int p1), .val (.int p2), .val (.int p_), .val (.int d_), .val (.int m_), .val (.int r_s), .val (.int r_sp), .val (.int r_sp1), .val (.int r_0), .val (.int (1 : Int32)), .val (.int (1 : Int32)), .val (.int (1 : Int32)), .val (.int e_), .val (.int mb_), .val (.int r_b), .unset] [(.int e_), (.int (2147483639 : Int32)), (.int r_b)]))
  refine gob (fun _ k => XS.isub X10.here hx rfl (hb hby at_143) rfl k) ?_
  show Go _ _ _ _ _ _ _ (T10.setTop (mkF m 144 #[.val (.int p0), .val (.int p1), .val (.int p2), .val (.int p_), .val (.int d_), .val (.int m_), .val (.int r_s), .val (.int r_sp), .val (.int r_sp1), .val (.int r_0), .val (.int (1 : Int32)), .val (.int (1 : Int32)), .val (.int (1 : Int32)), .val (.int e_), .val (.int mb_), .val (.int r_b), .unset] [(.int ((2147483639 : Int32) - e_)), (.int r_b)]))
  refine gob (fun _ k => XS.icmpNo X10.here hx rfl (hb hby at_144) rfl (teq ((own_big e_ mb_ r_b hr_b k_b.2.1 b_b e_1) : r_b = ((2147483639 : Int32) - e_))).2 k) ?_
  show Go _ _ _ _ _ _ _ (T10.setTop (mkF m 147 #[.val (.int p0), .val (.int p1), .val (.int p2), .val (.int p_), .val (.int d_), .val (.int m_), .val (.int r_s), .val (.int r_sp), .val (.int r_sp1), .val (.int r_0), .val (.int (1 : Int32)), .val (.int (1 : Int32)), .val (.int (1 : Int32)), .val (.int e_), .val (.int mb_), .val (.int r_b), .unset] []))
  refine gob (fun _ k => XS.iconst X10.here hx rfl (hb hby at_147) k) ?_
  show Go _ _ _ _ _ _ _ (T10.setTop (mkF m 148 #[.val (.int p0), .val (.int p1), .val (.int p2), .val (.int p_), .val (.int d_), .val (.int m_), .val (.int r_s), .val (.int r_sp), .val (.int r_sp1), .val (.int r_0), .val (.int (1 : Int32)), .val (.int (1 : Int32)), .val (.int (1 : Int32)), .val (.int e_), .val (.int mb_), .val (.int r_b), .unset] [(.int (1 : Int32))]))
  refine gob (fun _ k => XS.goto X10.here hx rfl (pc0 := 148) (pc' := 152) rfl (hb hby at_148) (by decide) (by decide) k) ?_
  show Go _ _ _ _ _ _ _ (T10.setTop (mkF m 152 #[.val (.int p0), .val (.int p1), .val (.int p2), .val (.int p_), .val (.int d_), .val (.int m_), .val (.int r_s), .val (.int r_sp), .val (.int r_sp1), .val (.int r_0), .val (.int (1 : Int32)), .val (.int (1 : Int32)), .val (.int (1 : Int32)), .val (.int e_), .val (.int mb_), .val (.int r_b), .unset] [(.int (1 : Int32))]))
  refine gob (fun _ k => XS.istore X10.here hx rfl (hb hby at_152) rfl (l' := #[.val (.int p0), .val (.int p1), .val (.int p2), .val (.int p_), .val (.int d_), .val (.int m_), .val (.int r_s), .val (.int r_sp), .val (.int r_sp1), .val (.int r_0), .val (.int (1 : Int32)), .val (.int (1 : Int32)), .val (.int (1 : Int32)), .val (.int e_), .val (.int mb_), .val (.int r_b), .val (.int (1 : Int32))]) rfl k) ?_
  show Go _ _ _ _ _ _ _ (T10.setTop (mkF m 154 #[.val (.int p0), .val (.int p1), .val (.int p2), .val (.int p_), .val (.int d_), .val (.int m_), .val (.int r_s), .val (.int r_sp), .val (.int r_sp1), .val (.int r_0), .val (.int (1 : Int32)), .val (.int (1 : Int32)), .val (.int (1 : Int32)), .val (.int e_), .val (.int mb_), .val (.int r_b), .val (.int (1 : Int32))] []))
  refine gob (fun _ k => XS.iload X10.here hx rfl (hb hby at_154) rfl k) ?_
  show Go _ _ _ _ _ _ _ (T10.setTop (mkF m 156 #[.val (.int p0), .val (.int p1), .val (.int p2), .val (.int p_), .val (.int d_), .val (.int m_), .val (.int r_s), .val (.int r_sp), .val (.int r_sp1), .val (.int r_0), .val (.int (1 : Int32)), .val (.int (1 : Int32)), .val (.int (1 : Int32)), .val (.int e_), .val (.int mb_), .val (.int r_b), .val (.int (1 : Int32))] [(.int (1 : Int32))]))
  refine gob (fun _ k => XS.ifNo X10.here hx rfl (hb hby at_156) rfl ((if0 _ _).trans (feq (by decide : ¬ ((1 : Int32) = (0 : Int32)))).1) k) ?_
  show Go _ _ _ _ _ _ _ (T10.setTop (mkF m 159 #[.val (.int p0), .val (.int p1), .val (.int p2), .val (.int p_), .val (.int d_), .val (.int m_), .val (.int r_s), .val (.int r_sp), .val (.int r_sp1), .val (.int r_0), .val (.int (1 : Int32)), .val (.int (1 : Int32)), .val (.int (1 : Int32)), .val (.int e_), .val (.int mb_), .val (.int r_b), .val (.int (1 : Int32))] []))
  refine gob (fun _ k => XS.iload X10.here hx rfl (hb hby at_159) rfl k) ?_
  show Go _ _ _ _ _ _ _ (T10.setTop (mkF m 161 #[.val (.int p0), .val (.int p1), .val (.int p2), .val (.int p_), .val (.int d_), .val (.int m_), .val (.int r_s), .val (.int r_sp), .val (.int r_sp1), .val (.int r_0), .val (.int (1 : Int32)), .val (.int (1 : Int32)), .val (.int (1 : Int32)), .val (.int e_), .val (.int mb_), .val (.int r_b), .val (.int (1 : Int32))] [(.int (1 : Int32))]))
  refine gob (fun _ k => XS.ifNo X10.here hx rfl (hb hby at_161) rfl ((if0 _ _).trans (feq (by decide : ¬ ((1 : Int32) = (0 : Int32)))).1) k) ?_
  show Go _ _ _ _ _ _ _ (T10.setTop (mkF m 164 #[.val (.int p0), .val (.int p1), .val (.int p2), .val (.int p_), .val (.int d_), .val (.int m_), .val (.int r_s), .val (.int r_sp), .val (.int r_sp1), .val (.int r_0), .val (.int (1 : Int32)), .val (.int (1 : Int32)), .val (.int (1 : Int32)), .val (.int e_), .val (.int mb_), .val (.int r_b), .val (.int (1 : Int32))] []))
  refine gob (fun _ k => XS.iload X10.here hx rfl (hb hby at_164) rfl k) ?_
  show Go _ _ _ _ _ _ _ (T10.setTop (mkF m 166 #[.val (.int p0), .val (.int p1), .val (.int p2), .val (.int p_), .val (.int d_), .val (.int m_), .val (.int r_s), .val (.int r_sp), .val (.int r_sp1), .val (.int r_0), .val (.int (1 : Int32)), .val (.int (1 : Int32)), .val (.int (1 : Int32)), .val (.int e_), .val (.int mb_), .val (.int r_b), .val (.int (1 : Int32))] [(.int (1 : Int32))]))
  refine gob (fun _ k => XS.ifNo X10.here hx rfl (hb hby at_166) rfl ((if0 _ _).trans (feq (by decide : ¬ ((1 : Int32) = (0 : Int32)))).1) k) ?_
  show Go _ _ _ _ _ _ _ (T10.setTop (mkF m 169 #[.val (.int p0), .val (.int p1), .val (.int p2), .val (.int p_), .val (.int d_), .val (.int m_), .val (.int r_s), .val (.int r_sp), .val (.int r_sp1), .val (.int r_0), .val (.int (1 : Int32)), .val (.int (1 : Int32)), .val (.int (1 : Int32)), .val (.int e_), .val (.int mb_), .val (.int r_b), .val (.int (1 : Int32))] []))
  refine gob (fun _ k => XS.iload X10.here hx rfl (hb hby at_169) rfl k) ?_
  show Go _ _ _ _ _ _ _ (T10.setTop (mkF m 171 #[.val (.int p0), .val (.int p1), .val (.int p2), .val (.int p_), .val (.int d_), .val (.int m_), .val (.int r_s), .val (.int r_sp), .val (.int r_sp1), .val (.int r_0), .val (.int (1 : Int32)), .val (.int (1 : Int32)), .val (.int (1 : Int32)), .val (.int e_), .val (.int mb_), .val (.int r_b), .val (.int (1 : Int32))] [(.int (1 : Int32))]))
  refine gob (fun _ k => XS.ifNo X10.here hx rfl (hb hby at_171) rfl ((if0 _ _).trans (feq (by decide : ¬ ((1 : Int32) = (0 : Int32)))).1) k) ?_
  show Go _ _ _ _ _ _ _ (T10.setTop (mkF m 174 #[.val (.int p0), .val (.int p1), .val (.int p2), .val (.int p_), .val (.int d_), .val (.int m_), .val (.int r_s), .val (.int r_sp), .val (.int r_sp1), .val (.int r_0), .val (.int (1 : Int32)), .val (.int (1 : Int32)), .val (.int (1 : Int32)), .val (.int e_), .val (.int mb_), .val (.int r_b), .val (.int (1 : Int32))] []))
  refine gob (fun _ k => XS.iconst X10.here hx rfl (hb hby at_174) k) ?_
  show Go _ _ _ _ _ _ _ (T10.setTop (mkF m 175 #[.val (.int p0), .val (.int p1), .val (.int p2), .val (.int p_), .val (.int d_), .val (.int m_), .val (.int r_s), .val (.int r_sp), .val (.int r_sp1), .val (.int r_0), .val (.int (1 : Int32)), .val (.int (1 : Int32)), .val (.int (1 : Int32)), .val (.int e_), .val (.int mb_), .val (.int r_b), .val (.int (1 : Int32))] [(.int (1 : Int32))]))
  refine gob (fun _ k => XS.goto X10.here hx rfl (pc0 := 175) (pc' := 179) rfl (hb hby at_175) (by decide) (by decide) k) ?_
  show Go _ _ _ _ _ _ _ (T10.setTop (mkF m 179 #[.val (.int p0), .val (.int p1), .val (.int p2), .val (.int p_), .val (.int d_), .val (.int m_), .val (.int r_s), .val (.int r_sp), .val (.int r_sp1), .val (.int r_0), .val (.int (1 : Int32)), .val (.int (1 : Int32)), .val (.int (1 : Int32)), .val (.int e_), .val (.int mb_), .val (.int r_b), .val (.int (1 : Int32))] [(.int (1 : Int32))]))
  refine goZ X10 hx hlk (t := .boolean) Bd.returns (by simp) (hb hby at_179) (z' := (1 : Int32)) rfl ?_ (by decide) (by decide)
  show Q0 Z p0 p1 p2 h0 n0 (some (.int (1 : Int32))) T10.heap _
  exact ⟨rfl, N10⟩
set_option maxRecDepth 65536 in
set_option maxHeartbeats 40000000 in
theorem comes_1 {Post : Tables → Env → Array Value → State → Outcome → State → Prop} (hpost : ∀ tb e args s v u, (limb_1_1.after args s (.returned v) u = true ∧ limb_1_2.after args s (.returned v) u = true ∧ True) → FrameEnd s (.returned v) u (Jvm.fieldLocs frame_1_writes args s ++ Jvm.arrayLocs frame_1_arrays args s ++ Jvm.staticLocs frame_1_statics s) 0 0 → Post tb e args s (.returned v) u) :
    ArmFor flags0 classFile x code maxLocals ret World_1 tables_1 room_1 Calls_1 rest_1 Pre_1 Post := by
  intro l hfl _ _ p e ha hc hk s m args below hf hA hF happ hP
  obtain ⟨hcalls, hrest, hpre⟩ := hP
  obtain ⟨-, -, -, hnamed, -, -, -, hat⟩ := (Spec.applies_iff hf).mp happ
  obtain ⟨hg, hn⟩ := and_e (Cond.before_iff.mp (show (Jvm.Cond.and given_1 narrow_1).before args s = true from hpre))
  obtain ⟨g1, g2⟩ := and_e hg
  obtain ⟨g3, g4⟩ := and_e g2
  obtain ⟨g5, g6⟩ := and_e g4
  obtain ⟨w0, w1, w2, rfl⟩ : ∃ w0 w1 w2 : Value, args = #[w0, w1, w2] := by
    have hs : args.size = 3 := by simpa [Cond.value, given_1] using g1
    obtain ⟨L⟩ := args
    match L, hs with
    | [w0, w1, w2], _ => exact ⟨w0, w1, w2, rfl⟩
  have hw := fun d (hd : d ∈ tables_1) => atoms_spec (ws := Jvm.Cond.code x code maxLocals ret :: tables_1) hat d (List.mem_cons_of_mem _ hd)
  have hfit : Fit s := fun {y c} hc i hi => by
    obtain ⟨ha, rfl⟩ := Array.getElem?_eq_some_iff.mp hc
    have q := List.all_eq_true.mp ((Array.all_eq_true_iff_forall_mem.mp hF) _ (Array.getElem_mem ha)) i (List.mem_range.mpr hi)
    simpa [Array.getElem?_eq_getElem hi] using q
  obtain ⟨i0, ei0⟩ := is_v g3
  obtain rfl : w0 = (.int i0) := Option.some.inj ei0
  obtain ⟨i1, ei1⟩ := is_v g5
  obtain rfl : w1 = (.int i1) := Option.some.inj ei1
  obtain ⟨i2, ei2⟩ := is_v g6
  obtain rfl : w2 = (.int i2) := Option.some.inj ei2
  obtain ⟨n, o, h1, h2, h3, _, L, rfl, ⟨rfl, N⟩, hq⟩ := rm0 l s _ hw tables_1 i0 i1 i2 s.heap s.heap.size (Nat.le_refl _)  p e ha hc hk s m _ below hf ((Spec.applies_iff_loose hf).mp happ).1 ⟨rfl, State.Warmed39.refl s, rfl⟩ trivial
  exact ⟨n, _, h1, h2, h3, hpost _ _ _ _ _ _ ⟨Cond.after_iff.mpr rfl, Cond.after_iff.mpr (eq_i res_at (Term.int_eval (1)) rfl), trivial⟩ ⟨hq.1, hq.2.1, (hq.2.2.sift fun y hy => Or.inr (N y hy)).mono (by decide) (by decide)⟩⟩
theorem main_1_1 : Claimed_1_1 := comes_1 fun _ _ _ _ _ _ h hF => ⟨h.1, hF⟩
theorem main_1_2 : Claimed_1_2 := comes_1 fun _ _ _ _ _ _ h hF => ⟨h.2.1, hF⟩
end Jvm.Pilot.@@N@@
namespace Jvm.Pilot.@@N@@
open Jvm Jvm.ClassFile Sem Op Lib Jvm.Free Jvm.Stand Jvm.Pilot.@@N@@.Jvm.D
/-! MADE BY PROGRAM (witnessworld.py) out of the Statement's table words and the real class files: 9 classes; the members and pool entries that the words name. The judged class is class 1, her method 1. -/
namespace start1
open Jvm.ClassFile
def u (s : String) : CpInfo := .utf8 (stringToUtf16 s)
/-- a pool by its gaps: so many unusable entries, then the entry; so many at the end -/
def gap : Nat → List CpInfo → List CpInfo
  | 0, r => r
  | n + 1, r => .unusable :: gap n r
def poolList (es : List (Nat × CpInfo)) (last : Nat) : List CpInfo := es.foldr (fun e r => gap e.1 (e.2 :: r)) (gap last [])
def pool (es : List (Nat × CpInfo)) (last : Nat) : Array CpInfo := ⟨poolList es last⟩
def fileOf (pool : Array CpInfo) (this : Nat) (attrs : Array Attribute := #[]) (ms : Array MethodInfo := #[]) (fl : Nat := 33) (sup : Nat := 0) (ifs : Array Nat := #[]) (fds : Array FieldInfo := #[]) : ClassFile where
  minorVersion := 0
  majorVersion := 65
  constantPool := pool
  accessFlags := fl
  thisClass := this
  superClass := sup
  interfaces := ifs
  fields := fds
  methods := ms
  attributes := attrs
def plain (name : String) (sup : Option ClassId) : Class where
  name := name
  kind := .ordinary
  loader := none
  accessFlags := 33
  super := sup
  interfaces := #[]
  cf := none
  fields := #[]
  methods := #[]
  instanceTypes := #[]
  staticTypes := #[]
  resolved := #[]
  callSites := []
  init := .initialized
  statics := none
  mirror := none

def pool0 : Array CpInfo := pool [(5, u "<init>"), (0, u "()V"), (1, .class_ 10), (1, u "java/lang/Object")] 113

def k0m0 : Method := { name := "<init>", desc := "()V", sig := { parameters := [], returnType := none }, accessFlags := 1, code := none }
/-- java/lang/Object -/
def k0 : Class := { plain "java/lang/Object" none with
  accessFlags := 33
  interfaces := #[]
  cf := some (fileOf pool0 8 #[] #[{ accessFlags := 1, nameIndex := 5, descriptorIndex := 6, attributes := #[] }] 33 0 #[] #[])
  fields := #[]
  methods := #[k0m0]
  instanceTypes := #[]
  staticTypes := #[]
  resolved := Array.replicate 124 none
  statics := none }

def pool1 : Array CpInfo := pool [(2, .class_ 4), (1, u "java/lang/Object"), (0, u "<init>"), (0, u "()V"), (0, .methodref 8 9), (0, .class_ 10), (0, .nameAndType 11 12), (0, u "com/example/fenda/fenda/linalg/Dense"), (0, u "size"), (0, u "(II)I"), (0, .long 4), (1, .integer 65535), (0, .integer 2147483636), (0, .integer 2147483639), (0, .class_ 19), (0, u "com/example/fenda/fenda/linalg/DenseSizePinLaw"), (2, u "law"), (0, u "(III)Z")] 3

def k1m0 : Method := { name := "<init>", desc := "()V", sig := { parameters := [], returnType := none }, accessFlags := 2, code := none }
def k1c1 : Code := { maxStack := 8, maxLocals := 17, code := code, exceptionTable := #[], attributes := #[] }
def k1m1 : Method := { name := "law", desc := "(III)Z", sig := { parameters := [.int, .int, .int], returnType := some .boolean }, accessFlags := 9, code := some k1c1 }
/-- com/example/fenda/fenda/linalg/DenseSizePinLaw -/
def k1 : Class := { plain "com/example/fenda/fenda/linalg/DenseSizePinLaw" (some 0) with
  accessFlags := 49
  interfaces := #[]
  cf := some (fileOf pool1 18 #[] #[{ accessFlags := 2, nameIndex := 5, descriptorIndex := 6, attributes := #[] }, { accessFlags := 9, nameIndex := 22, descriptorIndex := 23, attributes := #[] }] 49 2 #[] #[])
  fields := #[]
  methods := #[k1m0, k1m1]
  instanceTypes := #[]
  staticTypes := #[]
  resolved := Array.replicate 27 none
  statics := none }

def pool2 : Array CpInfo := pool [(4, .class_ 6), (1, u "java/lang/Object"), (0, u "<init>"), (0, u "()V"), (1, .class_ 12), (1, u "com/example/fenda/fenda/linalg/Dense"), (1, u "(II)I"), (0, .long 4), (1, .long 2), (1, .long 2147483639), (27, .class_ 48), (0, u "com/example/fenda/fenda/linalg/Dense$PanelBelow"), (28, .class_ 78), (0, u "com/example/fenda/fenda/linalg/Dense$Product"), (4, .class_ 85), (1, u "com/example/fenda/fenda/linalg/Dense$RowWork"), (8, .class_ 95), (0, u "com/example/fenda/fenda/linalg/Dense$Split"), (5, u "PIVOT_TOLERANCE"), (0, u "D"), (1, u "REPLACED_PIVOT"), (0, u "PANEL"), (0, u "I"), (1, u "DEPTH"), (1, u "WIDTH"), (1, u "PARALLEL_WORK"), (0, u "J"), (0, u "LARGEST_ARRAY"), (4, u "size")] 28

def k2m0 : Method := { name := "<init>", desc := "()V", sig := { parameters := [], returnType := none }, accessFlags := 2, code := none }
def k2c1 : Code := { maxStack := 6, maxLocals := 6, code := prog_61_method_3_code, exceptionTable := #[], attributes := #[] }
def k2m1 : Method := { name := "size", desc := "(II)I", sig := { parameters := [.int, .int], returnType := some .int }, accessFlags := 8, code := some k2c1 }
/-- com/example/fenda/fenda/linalg/Dense -/
def k2 : Class := { plain "com/example/fenda/fenda/linalg/Dense" (some 0) with
  accessFlags := 48
  interfaces := #[]
  cf := some (fileOf pool2 10 #[.nestMembers #[94, 77, 47, 83]] #[{ accessFlags := 2, nameIndex := 7, descriptorIndex := 8, attributes := #[] }, { accessFlags := 8, nameIndex := 119, descriptorIndex := 14, attributes := #[] }] 48 4 #[] #[{ accessFlags := 24, nameIndex := 101, descriptorIndex := 102, attributes := #[] }, { accessFlags := 24, nameIndex := 104, descriptorIndex := 102, attributes := #[] }, { accessFlags := 24, nameIndex := 105, descriptorIndex := 106, attributes := #[] }, { accessFlags := 26, nameIndex := 108, descriptorIndex := 106, attributes := #[] }, { accessFlags := 26, nameIndex := 110, descriptorIndex := 106, attributes := #[] }, { accessFlags := 26, nameIndex := 112, descriptorIndex := 113, attributes := #[] }, { accessFlags := 24, nameIndex := 114, descriptorIndex := 106, attributes := #[] }])
  fields := #[{ name := "PIVOT_TOLERANCE", type := .double, accessFlags := 24, slot := 0, constantValue := 0 }, { name := "REPLACED_PIVOT", type := .double, accessFlags := 24, slot := 1, constantValue := 0 }, { name := "PANEL", type := .int, accessFlags := 24, slot := 2, constantValue := 0 }, { name := "DEPTH", type := .int, accessFlags := 26, slot := 3, constantValue := 0 }, { name := "WIDTH", type := .int, accessFlags := 26, slot := 4, constantValue := 0 }, { name := "PARALLEL_WORK", type := .long, accessFlags := 26, slot := 5, constantValue := 0 }, { name := "LARGEST_ARRAY", type := .int, accessFlags := 24, slot := 6, constantValue := 0 }]
  methods := #[k2m0, k2m1]
  instanceTypes := #[]
  staticTypes := #[.double, .double, .int, .int, .int, .long, .int]
  resolved := Array.replicate 148 none
  statics := none }

def pool3 : Array CpInfo := pool [(1, u "java/lang/Cloneable"), (0, .class_ 1), (0, u "java/lang/Object"), (0, .class_ 3)] 3

/-- java/lang/Cloneable -/
def k3 : Class := { plain "java/lang/Cloneable" (some 0) with
  accessFlags := 1537
  interfaces := #[]
  cf := some (fileOf pool3 2 #[] #[] 1537 4 #[] #[])
  fields := #[]
  methods := #[]
  instanceTypes := #[]
  staticTypes := #[]
  resolved := Array.replicate 8 none
  statics := none }

def pool4 : Array CpInfo := pool [(1, u "java/io/Serializable"), (0, .class_ 1), (0, u "java/lang/Object"), (0, .class_ 3)] 3

/-- java/io/Serializable -/
def k4 : Class := { plain "java/io/Serializable" (some 0) with
  accessFlags := 1537
  interfaces := #[]
  cf := some (fileOf pool4 2 #[] #[] 1537 4 #[] #[])
  fields := #[]
  methods := #[]
  instanceTypes := #[]
  staticTypes := #[]
  resolved := Array.replicate 8 none
  statics := none }

/-- the primitive byte -/
def k5 : Class := { plain "byte" none with kind := .primitive 'B', accessFlags := 0x411 }
/-- [B -/
def k6 : Class := { plain "[B" (some 0) with kind := .array 5 .byte, interfaces := #[3, 4], accessFlags := 1041 }

/-- the primitive int -/
def k7 : Class := { plain "int" none with kind := .primitive 'I', accessFlags := 0x411 }
/-- [I -/
def k8 : Class := { plain "[I" (some 0) with kind := .array 7 .int, interfaces := #[3, 4], accessFlags := 1041 }

def heap : Heap := #[]
def classes : Array Class := #[k0, k1, k2, k3, k4, k5, k6, k7, k8]
def interned : List (Array UInt16 × Addr) := []
def slotsUsed : Nat := 0
def theMethod : MethodId := ⟨1, 1⟩
def args0 : Array Value := #[.int 5, .int 3, .int 7]
def aboutOver (below : List Frame) : State where
  vm := { classes := classes, interned := interned.toArray }
  heap := heap
  slotsUsed := slotsUsed
  threads := #[{ frames := .invoking theMethod args0 :: below }]
def below0 : List Frame := [.native { method := ⟨0, 0⟩, args := #[] }]
def about1 : State := aboutOver below0
def p0 : Program := .bare "" "" ""
def e0 : Env := launch0.env 0 0 0
theorem w_frames : about1.frames = Frame.invoking theMethod args0 :: below0 := rfl
set_option maxRecDepth 65536 in
theorem w_args : argsFit about1.vm theMethod args0 = true := by decide +kernel
set_option maxRecDepth 65536 in
theorem w_heap : heapFits about1 = true := by decide +kernel
set_option maxRecDepth 65536 in
theorem w_runnable : about1.curStatus? = some .runnable := by decide +kernel
set_option maxRecDepth 65536 in
theorem w_alone : about1.alone = true := by decide +kernel
set_option maxRecDepth 65536 in
theorem w_named : about1.methodNamed? x = some theMethod := by decide +kernel
set_option maxRecDepth 65536 in
theorem w_hears : about1.hears theMethod below0 = true := by decide +kernel
set_option maxRecDepth 65536 in
theorem w_ripe : about1.ripe theMethod args0 below0 = true := by decide +kernel
theorem w_running : about1.status = .running := rfl
set_option maxRecDepth 65536 in
theorem w_room : about1.hasRoom e0.platform room_1 = true :=
  launch0.hasRoom_least _ room_1 (by decide +kernel) (by decide +kernel) (by decide +kernel) (by decide +kernel) (by decide +kernel) (by decide +kernel)
theorem allAtoms_all (ts : List Jvm.Cond) (a : Array Jvm.Value) (st : Jvm.State) : (allAtoms ts).before a st = ts.all (fun c => c.before a st) := by
  induction ts with
  | nil => rfl
  | cons c t ih =>
    show (Jvm.Cond.and c (allAtoms t)).before a st = _
    rw [Jvm.Cond.before_and, ih, List.all_cons]
def words1 : List Jvm.Cond := Jvm.Cond.code x code maxLocals ret :: tables_1
/-- a 'code' word, met by the world's own term for the bytes: nothing is compared byte by byte -/
theorem code_word {y : MethodName} {bytes : ByteArray} {mx : Nat} {rt : Option FieldType} {a : Array Value} {s : State} {m : MethodId} {meth : Method} {c : Code} (h1 : s.methodNamed? y = some m) (h2 : s.vm.method? m = some meth) (h3 : meth.code = some c) (h4 : c.code = bytes)
    (h5 : (c.maxLocals == mx && c.exceptionTable.isEmpty && decide (c.maxStack ≤ mostOperands) && decide (meth.sig.returnType = rt) && !meth.locks && decide (parseMethodDescriptor y.desc = some meth.sig)) = true) : (Jvm.Cond.code y bytes mx rt).before a s = true := by
  simp only [Bool.and_eq_true, beq_iff_eq, Bool.not_eq_true', decide_eq_true_eq] at h5
  obtain ⟨⟨⟨⟨⟨g1, g2⟩, g3⟩, g4⟩, g5⟩, g6⟩ := h5
  simp [Cond.before, Cond.holds, Cond.value, h1, h2, h3, h4, g1, g2, g3, g4, g5, g6]
def isCode : Jvm.Cond → Bool
  | .code _ _ _ _ => true
  | _ => false
theorem all_split {L : List Jvm.Cond} {P : Jvm.Cond → Bool} (h1 : L.all (fun c => isCode c || P c) = true) (h2 : ∀ c ∈ L.filter isCode, P c = true) : L.all P = true := by
  refine List.all_eq_true.mpr fun c hc => ?_
  have h := List.all_eq_true.mp h1 c hc
  rcases Bool.eq_false_or_eq_true (isCode c) with hi | hi
  · exact h2 c (List.mem_filter.mpr ⟨hc, hi⟩)
  · simpa [hi] using h
set_option maxRecDepth 65536 in
theorem w_c0 : (Jvm.Cond.code x code maxLocals ret).before args0 about1 = true := code_word (m := ⟨1, 1⟩) (meth := k1m1) (c := k1c1) (by decide +kernel) rfl rfl rfl (by decide +kernel)
set_option maxRecDepth 65536 in
theorem w_c1 : (Jvm.Cond.code ({ cls := "com/example/fenda/fenda/linalg/Dense", name := "size", desc := "(II)I" } : Jvm.MethodName) prog_61_method_3_code (6 : Nat) (Option.some Jvm.ClassFile.FieldType.int)).before args0 about1 = true := code_word (m := ⟨2, 1⟩) (meth := k2m1) (c := k2c1) (by decide +kernel) rfl rfl rfl (by decide +kernel)
def codes1 : List Jvm.Cond := [Jvm.Cond.code x code maxLocals ret, Jvm.Cond.code ({ cls := "com/example/fenda/fenda/linalg/Dense", name := "size", desc := "(II)I" } : Jvm.MethodName) prog_61_method_3_code (6 : Nat) (Option.some Jvm.ClassFile.FieldType.int)]
set_option maxRecDepth 65536 in
theorem codes_eq : words1.filter isCode = codes1 := rfl
theorem w_codes : ∀ c ∈ words1.filter isCode, c.before args0 about1 = true := by
  rw [codes_eq]
  intro c hc
  simp only [codes1, List.mem_cons, List.not_mem_nil, or_false] at hc
  rcases hc with rfl | rfl
  · exact w_c0
  · exact w_c1
set_option maxRecDepth 65536 in
theorem w_t1 : words1.all (fun c => isCode c || c.before args0 about1) = true := by decide +kernel
theorem w_tables : (allAtoms (Jvm.Cond.code x code maxLocals ret :: tables_1)).before args0 about1 = true := by
  rw [allAtoms_all]
  show words1.all (fun c => c.before args0 about1) = true
  refine all_split ?_ w_codes
  rw [w_t1]
set_option maxRecDepth 65536 in
theorem w_case : (Jvm.Cond.and given_1 narrow_1).before args0 about1 = true := by decide +kernel
theorem w_applies : (headSpec (Jvm.Cond.code x code maxLocals ret :: tables_1) room_1).applies x e0.platform about1 = true :=
  (Spec.applies_iff w_frames).mpr ⟨w_running, w_runnable, w_alone, w_named, w_hears, w_ripe, w_room, w_tables⟩
theorem atStart : AtStart classFile x code maxLocals ret World_1 tables_1 room_1 Calls_1 rest_1 Pre_1 launch0 p0 e0 about1 theMethod args0 below0 :=
  ⟨lists_1, trivial, launch0.admits_env _ _ _, launch0.least_env, fairChoices_fair.cas, fairChoices_fair.clock, w_frames, w_args, w_heap, w_applies, trivial, trivial, w_case⟩
end start1
theorem witness_1 : WitnessClaimed_1 := ⟨start1.p0, start1.e0, start1.about1, start1.theMethod, start1.args0, start1.below0, start1.atStart⟩
end Jvm.Pilot.@@N@@
