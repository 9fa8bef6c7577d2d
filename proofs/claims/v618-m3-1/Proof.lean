import JvmDerived
import JvmDerived.Pilot.@@N@@Statement
import JvmDerived.Pilot.@@N@@Code
set_option linter.unusedVariables false
set_option linter.unusedSimpArgs false
namespace Jvm.Pilot.@@N@@
open Jvm Jvm.ClassFile Sem Op Lib Jvm.Free Jvm.Stand Jvm.LawKit Jvm.RoadKit Bundle Jvm.Pilot.@@N@@.Jvm.D
/-! A walk as one goal: from the state U the run comes to an end that answers Q. -/
section Kit
def Go (p : Program) (e : Env) (below : List Frame) (s : State) (Q : Option Value → Heap → List Loc → Prop) (C N : Nat) (U : State) : Prop :=
  ∃ s₂ o, Steps p.tables e below U s₂ ∧ s₂.status = .running ∧ Ended s₂ below o ∧ ∃ v L, o = .returned v ∧ Q v s₂.heap L ∧ FrameEnd s o s₂ L C N
variable {p : Program} {l : Launch} {e : Env} {R : Room} {s : State} {m : MethodId} {args : Array Value} {below : List Frame} {meth : Method} {c : Code} {T : State} {locs : List Loc} {cells slots : Nat} {Q : Option Value → Heap → List Loc → Prop} {C N : Nat}
theorem gob {U U' : State} (h : ∀ t, Steps p.tables e below U' t → Steps p.tables e below U t) (k : Go p e below s Q C N U') : Go p e below s Q C N U := by
  obtain ⟨s₂, o, h1, r⟩ := k
  exact ⟨s₂, o, h _ h1, r⟩
theorem goZ (X : Stand p l e R s m args below meth c T locs cells slots) (hx : p.tables.exec = Jvm.exec) (hlk : meth.locks = false) {t : FieldType} {pc : Nat} {Ls : Array Slot} {z z' : Int32} {rest : List Value} (hret : meth.sig.returnType = some t) (ht : t = .boolean ∨ t = .byte ∨ t = .char ∨ t = .short) (hd : decode c.code pc = .ok (.ireturn, 1)) (hz : nar t z = z') (hq : Q (some (.int z')) T.heap locs) (hc : cells ≤ C) (hn : slots ≤ N) :
    Go p e below s Q C N (T.setTop (mkF m pc Ls (.int z :: rest))) := by
  subst hz
  obtain ⟨fs, hr, hrun, hended, hW, hsame⟩ := X.leave (v := some (.int (nar t z))) (fun h => by rw [hret] at h; cases h) hlk
  exact ⟨_, _, retN X hx hret ht hd hr, hrun, hended, _, _, rfl, hq, ⟨_, rfl⟩, hW, hsame.mono hc hn⟩
theorem goI (X : Stand p l e R s m args below meth c T locs cells slots) (hx : p.tables.exec = Jvm.exec) (hlk : meth.locks = false) {pc : Nat} {Ls : Array Slot} {z : Int32} {rest : List Value} (hret : meth.sig.returnType = some .int) (hd : decode c.code pc = .ok (.ireturn, 1)) (hq : Q (some (.int z)) T.heap locs) (hc : cells ≤ C) (hn : slots ≤ N) :
    Go p e below s Q C N (T.setTop (mkF m pc Ls (.int z :: rest))) := by
  obtain ⟨fs, hr, hrun, hended, hW, hsame⟩ := X.leave (v := some (.int z)) (fun h => by rw [hret] at h; cases h) hlk
  exact ⟨_, _, retOut X hx hret rfl (Or.inl ⟨rfl, Or.inl rfl, z, rfl⟩) hd hr, hrun, hended, _, _, rfl, hq, ⟨_, rfl⟩, hW, hsame.mono hc hn⟩
theorem goJ (X : Stand p l e R s m args below meth c T locs cells slots) (hx : p.tables.exec = Jvm.exec) (hlk : meth.locks = false) {pc : Nat} {Ls : Array Slot} {z : Int64} {rest : List Value} (hret : meth.sig.returnType = some .long) (hd : decode c.code pc = .ok (.lreturn, 1)) (hq : Q (some (.long z)) T.heap locs) (hc : cells ≤ C) (hn : slots ≤ N) :
    Go p e below s Q C N (T.setTop (mkF m pc Ls (.long z :: rest))) := by
  obtain ⟨fs, hr, hrun, hended, hW, hsame⟩ := X.leave (v := some (.long z)) (fun h => by rw [hret] at h; cases h) hlk
  exact ⟨_, _, retOut X hx hret rfl (Or.inr (Or.inl ⟨rfl, rfl, z, rfl⟩)) hd hr, hrun, hended, _, _, rfl, hq, ⟨_, rfl⟩, hW, hsame.mono hc hn⟩
theorem goD (X : Stand p l e R s m args below meth c T locs cells slots) (hx : p.tables.exec = Jvm.exec) (hlk : meth.locks = false) {pc : Nat} {Ls : Array Slot} {z : UInt64} {rest : List Value} (hret : meth.sig.returnType = some .double) (hd : decode c.code pc = .ok (.dreturn, 1)) (hq : Q (some (.double z)) T.heap locs) (hc : cells ≤ C) (hn : slots ≤ N) :
    Go p e below s Q C N (T.setTop (mkF m pc Ls (.double z :: rest))) := by
  obtain ⟨fs, hr, hrun, hended, hW, hsame⟩ := X.leave (v := some (.double z)) (fun h => by rw [hret] at h; cases h) hlk
  exact ⟨_, _, retOut X hx hret rfl (Or.inr (Or.inr (Or.inl ⟨rfl, rfl, z, rfl⟩))) hd hr, hrun, hended, _, _, rfl, hq, ⟨_, rfl⟩, hW, hsame.mono hc hn⟩
theorem goA (X : Stand p l e R s m args below meth c T locs cells slots) (hx : p.tables.exec = Jvm.exec) (hlk : meth.locks = false) {t : FieldType} {pc : Nat} {Ls : Array Slot} {z : Value} {rest : List Value} (hret : meth.sig.returnType = some t) (ht : t.isReference = true) (hv : z.isRef = true) (hd : decode c.code pc = .ok (.areturn, 1)) (hq : Q (some z) T.heap locs) (hc : cells ≤ C) (hn : slots ≤ N) :
    Go p e below s Q C N (T.setTop (mkF m pc Ls (z :: rest))) := by
  obtain ⟨fs, hr, hrun, hended, hW, hsame⟩ := X.leave (v := some z) (fun h => by rw [hret] at h; cases h) hlk
  have hnw : narrow t z = z := by cases z <;> cases t <;> first | rfl | (simp [Value.isRef] at hv) | (simp [FieldType.isReference] at ht)
  exact ⟨_, _, retOut X hx hret hnw (Or.inr (Or.inr (Or.inr (Or.inr ⟨rfl, ht, hv⟩)))) hd hr, hrun, hended, _, _, rfl, hq, ⟨_, rfl⟩, hW, hsame.mono hc hn⟩
theorem goV (X : Stand p l e R s m args below meth c T locs cells slots) (hx : p.tables.exec = Jvm.exec) (hlk : meth.locks = false) {pc : Nat} {Ls : Array Slot} (hret : meth.sig.returnType = none) (hd : decode c.code pc = .ok (.return_, 1)) (hq : Q none T.heap locs) (hc : cells ≤ C) (hn : slots ≤ N) :
    Go p e below s Q C N (T.setTop (mkF m pc Ls [])) := by
  obtain ⟨fs, hr, hrun, hended, hW, hsame⟩ := X.leave (v := none) (fun _ => rfl) hlk
  exact ⟨_, _, X.returnOut hx hret hd hr, hrun, hended, _, _, rfl, hq, ⟨_, rfl⟩, hW, hsame.mono hc hn⟩
theorem lremM {g : JFrame} {target : State} (X : Stand p l e R s m args below meth c T locs cells slots) (hx : p.tables.exec = Jvm.exec) (hg : g.method = m) {x y : Int64} {rest : List Value} (hd : decode c.code g.pc = .ok (.lrem, 1)) (hs : g.stack = .long y :: .long x :: rest) (hy : y ≠ 0)
    (hr : Steps p.tables e below (T.setTop { g with pc := g.pc + 1, stack := .long (x % y) :: rest }) target) : Steps p.tables e below (T.setTop g) target :=
  XS.lrem X.here hx hg hd hs hy (by rw [lrem_mod x y]; exact hr)
theorem own_lrem (x y : Int64) (d : Int) (hy : y.toInt = d) : (0 ≤ x.toInt → (x % y).toInt = x.toInt % d) ∧ (x.toInt < 0 → (x % y).toInt = -((-x.toInt) % d)) := by rw [Int64.toInt_mod, hy]; exact tr _ _
theorem own_lxor (x y : Int64) (hy : 0 ≤ y.toInt) : ((x ^^^ y).toInt < 0 ↔ x.toInt < 0) := by
  have h1 : (x ^^^ y).toBitVec.msb = (x.toBitVec.msb ^^ y.toBitVec.msb) := by rw [Int64.toBitVec_xor, BitVec.msb_xor]
  have h2 := BitVec.msb_eq_toInt (x := (x ^^^ y).toBitVec)
  have h3 := BitVec.msb_eq_toInt (x := x.toBitVec)
  have h4 := BitVec.msb_eq_toInt (x := y.toBitVec)
  have e1 : (x ^^^ y).toBitVec.toInt = (x ^^^ y).toInt := rfl
  have e2 : x.toBitVec.toInt = x.toInt := rfl
  have e3 : y.toBitVec.toInt = y.toInt := rfl
  rw [e1] at h2
  rw [e2] at h3
  rw [e3] at h4
  have h5 : ¬ y.toInt < 0 := by omega
  rw [h2, h3, h4, decide_eq_false h5, Bool.xor_false] at h1
  simpa using h1
theorem pop2L {g : JFrame} {target : State} (X : Stand p l e R s m args below meth c T locs cells slots) (hx : p.tables.exec = Jvm.exec) (hg : g.method = m) {x : Int64} {rest : List Value} (hd : decode c.code g.pc = .ok (.pop2, 1)) (hs : g.stack = .long x :: rest)
    (hr : Steps p.tables e below (T.setTop { g with pc := g.pc + 1, stack := rest }) target) : Steps p.tables e below (T.setTop g) target := by
  subst hg
  jvm_step X.here [X.here.top, hx, hd, hs, Value.category]
  exact hr
theorem own_staKeep {Z : State} {h h' : Heap} {C n d : String} {v : Value} {ws : List Addr} (F : Sta Z h C n d v) (K : Keep h h' ws) (hn : ∀ x ∈ ws, ∀ cell : Cell, h[x]? = some cell → cell.vm.isStatics = false) : Sta Z h' C n d v := by
  obtain ⟨cf, i, k, f, st, cell, h1, h2, h3, h4, h5, h6, h7⟩ := F
  exact ⟨cf, i, k, f, st, cell, h1, h2, h3, h4, K.2.1 _ _ h5 (fun q => by have q2 := hn _ q _ h5; rw [h6] at q2; cases q2), h6, h7⟩
theorem own_lmulR (x y : Int64) (d : Int) (hy : y.toInt = d) : ((x * y).toInt - x.toInt * d) % 18446744073709551616 = 0 := by rw [← hy]; exact c_lmul x y
theorem own_lmulL (x y : Int64) (d : Int) (hx : x.toInt = d) : ((x * y).toInt - d * y.toInt) % 18446744073709551616 = 0 := by rw [← hx]; exact c_lmul x y
theorem own_imulR (x y : Int32) (d : Int) (hy : y.toInt = d) : ((x * y).toInt - x.toInt * d) % 4294967296 = 0 := by rw [← hy]; exact c_imul x y
theorem own_imulL (x y : Int32) (d : Int) (hx : x.toInt = d) : ((x * y).toInt - d * y.toInt) % 4294967296 = 0 := by rw [← hx]; exact c_imul x y
end Kit

theorem own_dm_400 (q x : Int64) (hx : (q / (400 : Int64)) = x) : (x * (400 : Int64)).toInt = x.toInt * 400 ∧ (0 ≤ q.toInt → x.toInt = q.toInt / 400) ∧ (q.toInt < 0 → x.toInt = -((-q.toInt) / 400)) := by
  have h1 := c_ldiv q 400 400 (by decide) (by decide)
  rw [hx] at h1
  have h2 := own_lmulR x 400 400 (by decide)
  have h3 := rng64 (x * 400)
  have h4 := rng64 q
  have hb : -9223372036854775808 ≤ x.toInt * 400 ∧ x.toInt * 400 ≤ 9223372036854775807 := by
    by_cases hq : 0 ≤ q.toInt
    · have := h1.1 hq
      omega
    · have := h1.2 (by omega)
      omega
  refine ⟨?_, h1⟩
  generalize x.toInt * 400 = w at *
  omega

theorem own_G (y : Int) : (y / 400) * 146097 + 365 * (y % 400) + (y % 400) / 4 - (y % 400) / 100 = 365 * y + y / 4 - y / 100 + y / 400 := by omega
theorem own_s1 (v r : Int64) (x : Int32) (hr : r.toInt = v.toInt / 400) (hx : ((v - (r * (400 : Int64))).toInt32) = x) : x.toInt = v.toInt % 400 := by
  have h1 := own_lmulR r 400 400 (by decide)
  have h2 := c_lsub v (r * 400)
  have h3 := c_l2i (v - r * 400)
  have h4 := rng64 (v - r * 400)
  have h5 := rng64 (r * 400)
  have h6 := rng64 v
  have h7 := rng32 x
  rw [hx] at h3
  omega
theorem own_s2 (v d x : Int32) (h1 : 0 ≤ v.toInt) (h2 : v.toInt ≤ 11) (h3 : 1 ≤ d.toInt) (h4 : d.toInt ≤ 31) (hx : ((((((153 : Int32) * v) + (2 : Int32)) / (5 : Int32)) + d) - (1 : Int32)) = x) : x.toInt = (153 * v.toInt + 2) / 5 + d.toInt - 1 := by
  have a1 := own_imulL 153 v 153 (by decide)
  have a2 := c_iadd (153 * v) 2
  have a3 := (c_idiv (153 * v + 2) 5 5 (by decide) (by decide)).1
  have a4 := c_iadd ((153 * v + 2) / 5) d
  have a5 := c_isub ((153 * v + 2) / 5 + d) 1
  have b1 := rng32 (153 * v)
  have b2 := rng32 (153 * v + 2)
  have b3 := rng32 ((153 * v + 2) / 5)
  have b4 := rng32 ((153 * v + 2) / 5 + d)
  have b5 := rng32 x
  have e1 : (2 : Int32).toInt = 2 := by decide
  have e2 : (1 : Int32).toInt = 1 := by decide
  rw [hx] at a5
  have c1 : (153 * v).toInt = 153 * v.toInt := by omega
  have c2 : (153 * v + 2).toInt = 153 * v.toInt + 2 := by omega
  have c3 := a3 (by omega)
  rw [c2] at c3
  omega
theorem own_s3 (x y z : Int32) (h1 : 0 ≤ x.toInt) (h2 : x.toInt ≤ 399) (h3 : 0 ≤ y.toInt) (h4 : y.toInt ≤ 400) (hz : (((((365 : Int32) * x) + (x / (4 : Int32))) - (x / (100 : Int32))) + y) = z) : z.toInt = 365 * x.toInt + x.toInt / 4 - x.toInt / 100 + y.toInt := by
  have a1 := own_imulL 365 x 365 (by decide)
  have a2 := (c_idiv x 4 4 (by decide) (by decide)).1 h1
  have a3 := (c_idiv x 100 100 (by decide) (by decide)).1 h1
  have a4 := c_iadd (365 * x) (x / 4)
  have a5 := c_isub (365 * x + x / 4) (x / 100)
  have a6 := c_iadd (365 * x + x / 4 - x / 100) y
  have b1 := rng32 (365 * x)
  have b4 := rng32 (365 * x + x / 4)
  have b5 := rng32 (365 * x + x / 4 - x / 100)
  have b6 := rng32 z
  rw [hz] at a6
  omega
theorem own_s4 (v r : Int64) (x y z : Int32) (hr : r.toInt = v.toInt / 400) (hx : x.toInt = v.toInt % 400) (hz : z.toInt = 365 * x.toInt + x.toInt / 4 - x.toInt / 100 + y.toInt) :
    ((((r * (146097 : Int64)) + (z.toInt64)) - (719468 : Int64)).toInt - (365 * v.toInt + v.toInt / 4 - v.toInt / 100 + v.toInt / 400 + y.toInt - 719468)) % 18446744073709551616 = 0 := by
  have g := own_G v.toInt
  have h1 := own_lmulR r 146097 146097 (by decide)
  have h2 := c_i2l z
  have h3 := c_ladd (r * 146097) z.toInt64
  have h4 := c_lsub (r * 146097 + z.toInt64) 719468
  have e1 : (719468 : Int64).toInt = 719468 := by decide
  rw [hx] at hz
  rw [hr] at h1
  generalize 365 * v.toInt + v.toInt / 4 - v.toInt / 100 + v.toInt / 400 = W at *
  omega

theorem own_rem0 (q k : Int64) (d : Int) (hk : k.toInt = d) : (q % k = 0 ↔ (q.toInt % d = 0)) := by
  rw [← Int64.toInt_inj, Int64.toInt_mod, hk]
  have e : (0 : Int64).toInt = 0 := by decide
  rw [e]
  constructor
  · intro h
    exact Int.emod_eq_zero_of_dvd (Int.dvd_of_tmod_eq_zero h)
  · intro h
    exact Int.tmod_eq_zero_of_dvd (Int.dvd_of_emod_eq_zero h)
theorem own_L (Y : Int) : ((Y % 4 ≠ 0 ∨ (Y % 100 = 0 ∧ Y % 400 ≠ 0)) → Y / 4 - Y / 100 + Y / 400 = (Y - 1) / 4 - (Y - 1) / 100 + (Y - 1) / 400) ∧ ((Y % 400 = 0 ∨ (Y % 4 = 0 ∧ Y % 100 ≠ 0)) → Y / 4 - Y / 100 + Y / 400 = (Y - 1) / 4 - (Y - 1) / 100 + (Y - 1) / 400 + 1) := by
  constructor
  · intro h
    omega
  · intro h
    omega
theorem own_vv (Y : Int) (x l v : Int32) (ll : ((Y % 4 ≠ 0 ∨ (Y % 100 = 0 ∧ Y % 400 ≠ 0)) → Y / 4 - Y / 100 + Y / 400 = (Y - 1) / 4 - (Y - 1) / 100 + (Y - 1) / 400) ∧ ((Y % 400 = 0 ∨ (Y % 4 = 0 ∧ Y % 100 ≠ 0)) → Y / 4 - Y / 100 + Y / 400 = (Y - 1) / 4 - (Y - 1) / 100 + (Y - 1) / 400 + 1))
    (J : (Y % 4 = 0 ∧ Y % 100 = 0 ∧ Y % 400 = 0 ∧ l = (1 : Int32)) ∨ (Y % 4 = 0 ∧ Y % 100 = 0 ∧ ¬ (Y % 400 = 0) ∧ l = (0 : Int32)) ∨ (Y % 4 = 0 ∧ ¬ (Y % 100 = 0) ∧ l = (1 : Int32)) ∨ (¬ (Y % 4 = 0) ∧ l = (0 : Int32)))
    (V : (l = (0 : Int32) ∧ v = (0 : Int32)) ∨ (¬ (l = (0 : Int32)) ∧ 2 < x.toInt ∧ v = (1 : Int32)) ∨ (¬ (l = (0 : Int32)) ∧ ¬ (2 < x.toInt) ∧ v = (0 : Int32))) :
    0 ≤ v.toInt ∧ v.toInt ≤ 1 ∧ (x.toInt ≤ 2 → v.toInt = 0) ∧ (2 < x.toInt → Y / 4 - Y / 100 + Y / 400 = (Y - 1) / 4 - (Y - 1) / 100 + (Y - 1) / 400 + v.toInt) := by
  have z0 : (0 : Int32).toInt = 0 := by decide
  have z1 : (1 : Int32).toInt = 1 := by decide
  have n1 : ¬ ((1 : Int32) = (0 : Int32)) := by decide
  rcases J with ⟨g1, g2, g3, rfl⟩ | ⟨g1, g2, g3, rfl⟩ | ⟨g1, g2, rfl⟩ | ⟨g1, rfl⟩
  · have k := ll.2 (Or.inl g3)
    rcases V with ⟨q, rfl⟩ | ⟨q, q2, rfl⟩ | ⟨q, q2, rfl⟩
    · exact absurd q n1
    · exact ⟨by rw [z1]; decide, by rw [z1]; decide, fun h => absurd h (by omega), fun _ => by rw [k, z1]⟩
    · exact ⟨by rw [z0]; decide, by rw [z0]; decide, fun _ => z0, fun h => absurd h q2⟩
  · have k := ll.1 (Or.inr ⟨g2, g3⟩)
    rcases V with ⟨q, rfl⟩ | ⟨q, q2, rfl⟩ | ⟨q, q2, rfl⟩
    · exact ⟨by rw [z0]; decide, by rw [z0]; decide, fun _ => z0, fun _ => by rw [k, z0, Int.add_zero]⟩
    · exact absurd rfl q
    · exact absurd rfl q
  · have k := ll.2 (Or.inr ⟨g1, g2⟩)
    rcases V with ⟨q, rfl⟩ | ⟨q, q2, rfl⟩ | ⟨q, q2, rfl⟩
    · exact absurd q n1
    · exact ⟨by rw [z1]; decide, by rw [z1]; decide, fun h => absurd h (by omega), fun _ => by rw [k, z1]⟩
    · exact ⟨by rw [z0]; decide, by rw [z0]; decide, fun _ => z0, fun h => absurd h q2⟩
  · have k := ll.1 (Or.inl g1)
    rcases V with ⟨q, rfl⟩ | ⟨q, q2, rfl⟩ | ⟨q, q2, rfl⟩
    · exact ⟨by rw [z0]; decide, by rw [z0]; decide, fun _ => z0, fun _ => by rw [k, z0, Int.add_zero]⟩
    · exact absurd rfl q
    · exact absurd rfl q
theorem own_fin (Y M D w v E R : Int) (hR : -9223372036854775808 ≤ R ∧ R < 9223372036854775808) (hE : -9223372036854775808 ≤ E ∧ E < 9223372036854775808) (mo : (M ≤ 2 → (153 * (M + 9) + 2) / 5 = w + 306) ∧ (2 < M → (153 * (M - 3) + 2) / 5 = w - 59))
    (vv : (M ≤ 2 → v = 0) ∧ (2 < M → Y / 4 - Y / 100 + Y / 400 = (Y - 1) / 4 - (Y - 1) / 100 + (Y - 1) / 400 + v)) (ex : E = 365 * Y + ((Y - 1) / 4 - (Y - 1) / 100 + (Y - 1) / 400) + w + v + D - 719528)
    (rr : (M ≤ 2 → (R - (365 * (Y - 1) + (Y - 1) / 4 - (Y - 1) / 100 + (Y - 1) / 400 + (153 * (M + 9) + 2) / 5 + D - 719469)) % 18446744073709551616 = 0) ∧ (2 < M → (R - (365 * Y + Y / 4 - Y / 100 + Y / 400 + (153 * (M - 3) + 2) / 5 + D - 719469)) % 18446744073709551616 = 0)) : R = E := by
  by_cases hm : M ≤ 2
  · have f1 := rr.1 hm
    have f2 := mo.1 hm
    have f3 := vv.1 hm
    rw [f2] at f1
    clear mo vv rr f2
    generalize (Y - 1) / 4 = a at *
    generalize (Y - 1) / 100 = b at *
    generalize (Y - 1) / 400 = c at *
    omega
  · have f1 := rr.2 (by omega)
    have f2 := mo.2 (by omega)
    have f3 := vv.2 (by omega)
    rw [f2] at f1
    clear mo vv rr f2
    generalize (Y - 1) / 4 = a at *
    generalize (Y - 1) / 100 = b at *
    generalize (Y - 1) / 400 = c at *
    generalize Y / 4 = a' at *
    generalize Y / 100 = b' at *
    generalize Y / 400 = c' at *
    omega
theorem own_Lb (Y : Int) (h : -4503599627370496 < Y ∧ Y < 4503599627370496) : -4503599627370496 ≤ (Y - 1) / 4 - (Y - 1) / 100 + (Y - 1) / 400 ∧ (Y - 1) / 4 - (Y - 1) / 100 + (Y - 1) / 400 ≤ 4503599627370496 := by omega
theorem own_Y (q x : Int64) (h : (q % (4503599627370496 : Int64)) = x) : -4503599627370496 < x.toInt ∧ x.toInt < 4503599627370496 ∧ (x - (1 : Int64)).toInt = x.toInt - 1 := by
  have y0 := own_lrem q 4503599627370496 4503599627370496 (by decide)
  rw [h] at y0
  have y1 : -4503599627370496 < x.toInt ∧ x.toInt < 4503599627370496 := by omega
  have a1 := c_lsub x 1
  have a2 := rng64 (x - 1)
  have a3 : (1 : Int64).toInt = 1 := by decide
  exact ⟨y1.1, y1.2, by omega⟩
theorem own_month (x w : Int32) (h1 : 1 ≤ x.toInt) (h2 : x.toInt ≤ 12)
    (h : ((x - (1 : Int32)).toInt = 0 ∧ w = (0 : Int32)) ∨ ((x - (1 : Int32)).toInt = 1 ∧ w = (31 : Int32)) ∨ ((x - (1 : Int32)).toInt = 2 ∧ w = (59 : Int32)) ∨ ((x - (1 : Int32)).toInt = 3 ∧ w = (90 : Int32)) ∨ ((x - (1 : Int32)).toInt = 4 ∧ w = (120 : Int32)) ∨ ((x - (1 : Int32)).toInt = 5 ∧ w = (151 : Int32)) ∨ ((x - (1 : Int32)).toInt = 6 ∧ w = (181 : Int32)) ∨ ((x - (1 : Int32)).toInt = 7 ∧ w = (212 : Int32)) ∨ ((x - (1 : Int32)).toInt = 8 ∧ w = (243 : Int32)) ∨ ((x - (1 : Int32)).toInt = 9 ∧ w = (273 : Int32)) ∨ ((x - (1 : Int32)).toInt = 10 ∧ w = (304 : Int32)) ∨ ((x - (1 : Int32)).toInt = 11 ∧ w = (334 : Int32))) :
    (x.toInt ≤ 2 → (153 * (x.toInt + 9) + 2) / 5 = w.toInt + 306) ∧ (2 < x.toInt → (153 * (x.toInt - 3) + 2) / 5 = w.toInt - 59) ∧ 0 ≤ w.toInt ∧ w.toInt ≤ 334 := by
  have s := c_isub x 1
  have r := rng32 (x - 1)
  have e : (1 : Int32).toInt = 1 := by decide
  have q : (x - 1).toInt = x.toInt - 1 := by omega
  rw [q] at h
  rcases h with ⟨a, rfl⟩ | ⟨a, rfl⟩ | ⟨a, rfl⟩ | ⟨a, rfl⟩ | ⟨a, rfl⟩ | ⟨a, rfl⟩ | ⟨a, rfl⟩ | ⟨a, rfl⟩ | ⟨a, rfl⟩ | ⟨a, rfl⟩ | ⟨a, rfl⟩ | ⟨a, rfl⟩ <;> simp only [Int32.reduceToInt] <;> omega
theorem own_exp (x r s z : Int64) (w v d : Int32) (L : Int) (hY : -4503599627370496 < x.toInt ∧ x.toInt < 4503599627370496) (hr : r.toInt = L) (hL : -4503599627370496 ≤ L ∧ L ≤ 4503599627370496) (hs : s.toInt = 477) (hw : 0 ≤ w.toInt ∧ w.toInt ≤ 334) (hv : 0 ≤ v.toInt ∧ v.toInt ≤ 1) (hd : 1 ≤ d.toInt ∧ d.toInt ≤ 31)
    (hz : (((((((365 : Int64) * (x - (1970 : Int64))) + r) - s) + (w.toInt64)) + (v.toInt64)) + ((d - (1 : Int32)).toInt64)) = z) : z.toInt = 365 * x.toInt + L + w.toInt + v.toInt + d.toInt - 719528 := by
  have a1 := c_lsub x 1970
  have b1 := rng64 (x - 1970)
  have e1 : (1970 : Int64).toInt = 1970 := by decide
  have f1 : (x - 1970).toInt = x.toInt - 1970 := by omega
  have a2 := own_lmulL 365 (x - 1970) 365 (by decide)
  have b2 := rng64 (365 * (x - 1970))
  have f2 : (365 * (x - 1970)).toInt = 365 * (x.toInt - 1970) := by omega
  have a3 := c_ladd (365 * (x - 1970)) r
  have b3 := rng64 (365 * (x - 1970) + r)
  have f3 : (365 * (x - 1970) + r).toInt = 365 * (x.toInt - 1970) + L := by omega
  have a4 := c_lsub (365 * (x - 1970) + r) s
  have b4 := rng64 (365 * (x - 1970) + r - s)
  have f4 : (365 * (x - 1970) + r - s).toInt = 365 * (x.toInt - 1970) + L - 477 := by omega
  have a5 := c_ladd (365 * (x - 1970) + r - s) w.toInt64
  have b5 := rng64 (365 * (x - 1970) + r - s + w.toInt64)
  have g5 := c_i2l w
  have f5 : (365 * (x - 1970) + r - s + w.toInt64).toInt = 365 * (x.toInt - 1970) + L - 477 + w.toInt := by omega
  have a6 := c_ladd (365 * (x - 1970) + r - s + w.toInt64) v.toInt64
  have b6 := rng64 (365 * (x - 1970) + r - s + w.toInt64 + v.toInt64)
  have g6 := c_i2l v
  have f6 : (365 * (x - 1970) + r - s + w.toInt64 + v.toInt64).toInt = 365 * (x.toInt - 1970) + L - 477 + w.toInt + v.toInt := by omega
  have a7 := c_isub d 1
  have b7 := rng32 (d - 1)
  have e7 : (1 : Int32).toInt = 1 := by decide
  have g7 := c_i2l (d - 1)
  have a8 := c_ladd (365 * (x - 1970) + r - s + w.toInt64 + v.toInt64) (d - 1).toInt64
  rw [hz] at a8
  have b8 := rng64 z
  omega
theorem own_nat {j : Int32} {k : Nat} (h : j.toInt = k) : j.toNatClampNeg = k := by
  have q : ¬ j < 0 := by
    rw [Int32.lt_iff_toInt_lt]
    have : (0 : Int32).toInt = 0 := by decide
    omega
  have := nat_of q
  omega
theorem own_at12 (a0 a1 a2 a3 a4 a5 a6 a7 a8 a9 a10 a11 : Int32) (dv : Value) (j : Int32) (h1 : 0 ≤ j.toInt) (h2 : j.toInt < 12) :
    ∃ w : Int32, ((j.toInt = 0 ∧ w = a0) ∨ (j.toInt = 1 ∧ w = a1) ∨ (j.toInt = 2 ∧ w = a2) ∨ (j.toInt = 3 ∧ w = a3) ∨ (j.toInt = 4 ∧ w = a4) ∨ (j.toInt = 5 ∧ w = a5) ∨ (j.toInt = 6 ∧ w = a6) ∨ (j.toInt = 7 ∧ w = a7) ∨ (j.toInt = 8 ∧ w = a8) ∨ (j.toInt = 9 ∧ w = a9) ∨ (j.toInt = 10 ∧ w = a10) ∨ (j.toInt = 11 ∧ w = a11)) ∧
      ([(.int a0), (.int a1), (.int a2), (.int a3), (.int a4), (.int a5), (.int a6), (.int a7), (.int a8), (.int a9), (.int a10), (.int a11)] : List Value).getD j.toNatClampNeg dv = .int w := by
  have h : j.toInt = (0 : Nat) ∨ j.toInt = (1 : Nat) ∨ j.toInt = (2 : Nat) ∨ j.toInt = (3 : Nat) ∨ j.toInt = (4 : Nat) ∨ j.toInt = (5 : Nat) ∨ j.toInt = (6 : Nat) ∨ j.toInt = (7 : Nat) ∨ j.toInt = (8 : Nat) ∨ j.toInt = (9 : Nat) ∨ j.toInt = (10 : Nat) ∨ j.toInt = (11 : Nat) := by omega
  rcases h with h | h | h | h | h | h | h | h | h | h | h | h <;> (rw [own_nat h]; refine ⟨_, ?_, rfl⟩; simp [h])
theorem own_idx (j : Int32) (h1 : 0 ≤ j.toInt) (h2 : j.toInt < 12) : ¬ j < 0 ∧ j < (12 : Int32) := by
  rw [Int32.lt_iff_toInt_lt, Int32.lt_iff_toInt_lt]
  have : (0 : Int32).toInt = 0 := by decide
  have : (12 : Int32).toInt = 12 := by decide
  omega

theorem d4_0 : decode jdk_30_method_1_code 0 = .ok (.aload_n 0, 1) := by decide +kernel
theorem d4_1 : decode jdk_30_method_1_code 1 = .ok (.invokespecial 1, 3) := by decide +kernel
theorem d4_4 : decode jdk_30_method_1_code 4 = .ok (.return_, 1) := by decide +kernel
theorem ef_4 (m : MethodId) (x0 : Addr) : entryFrame m #[(.ref x0)] 1 = mkF m 0 #[.val (.ref x0)] [] := by first | (simp [entryFrame, mkF, argsToLocals, Value.category]; done) | rfl
def Q4 (Z : State) (o0 : Addr) (h0 : Heap) (n0 : Nat) (v : Option Value) (h : Heap) (L : List Loc) : Prop := v = none ∧ Fr n0 L ∧ h = h0
set_option maxRecDepth 65536 in
set_option maxHeartbeats 40000000 in
theorem rm4 (l : Launch) (Z : State) (a0 : Array Value) (hw : ∀ d ∈ tables_1, d.before a0 Z = true) (ws : List Jvm.Cond) (o0 : Addr) (h0 : Heap) (n0 : Nat) (Z0 : n0 ≤ h0.size) :
    MetFree l (⟨"java/lang/Record", "<init>", "()V"⟩ : MethodName) (head1 (Jvm.Cond.code (⟨"java/lang/Record", "<init>", "()V"⟩ : MethodName) jdk_30_method_1_code 1 none :: ws) ({ frames := 1, cells := 0, slots := 0, locals := 12 } : Room)) (fun a U => a = #[(.ref o0)] ∧ Z.Warmed39 U.vm ∧ U.heap = h0) (fun _ _ _ _ _ => True) (fun _ U o U' => ∃ v L, o = .returned v ∧ Q4 Z o0 h0 n0 v U'.heap L ∧ FrameEnd U o U' L ({ frames := 1, cells := 0, slots := 0, locals := 12 } : Room).cells ({ frames := 1, cells := 0, slots := 0, locals := 12 } : Room).slots) := by
  refine MetFree.of_bodySF (plainFor_of_name (by first | (simp [plainName, overriddenIn]; done) | decide +kernel)) hisR ?_
  intro p e s m args below meth c s₁ Bd hml0 hP hK
  obtain ⟨rfl, hZ, hh⟩ := hP
  have hx := Bd.exec
  have hby := Bd.bytes
  have hml : c.maxLocals = 1 := hml0
  have hown : s.vm.findClass "java/lang/Record" = some m.cls := findClass_of_methodNamed Bd.named
  have hnm := (name_of_methodNamed Bd.named Bd.method).1
  have hlk := BodyLoose.notSynchronized Bd
  have X0 : Stand p l e ({ frames := 1, cells := 0, slots := 0, locals := 12 } : Room) s m #[(.ref o0)] below meth c s₁ [] 0 0 := Stand.of_body Bd
  have e0 : s₁.heap = h0 := by rw [← hh, Bd.state]; rfl
  have N0 := Fr.nil n0
  show Go p e below s (Q4 Z o0 h0 n0) 0 0 (s₁.setTop (entryFrame m #[(.ref o0)] 1))
  rw [ef_4]
  show Go _ _ _ _ _ _ _ (s₁.setTop (mkF m 0 #[.val (.ref o0)] []))
  refine gob (fun _ k => XS.aloadN X0.here hx rfl (hb hby d4_0) rfl rfl k) ?_
  show Go _ _ _ _ _ _ _ (s₁.setTop (mkF m 1 #[.val (.ref o0)] [(.ref o0)]))
  obtain ⟨T1, X1, e1, st1⟩ := initO X0 hx hZ hown (hw _ (List.mem_of_getElem? (i := 27) rfl)) (hw _ (List.mem_of_getElem? (i := 28) rfl)) (hw _ (List.mem_of_getElem? (i := 29) rfl)) e0 (g := (mkF m 1 #[.val (.ref o0)] [(.ref o0)])) rfl (by rw [hml]; rfl) rfl (hb hby d4_1) (by decide) (W := 0) (by show 2 * 0 + _ ≤ _; exact Nat.le_of_eq rfl) (by decide)
  refine gob st1 ?_
  show Go _ _ _ _ _ _ _ (T1.setTop (mkF m 4 #[.val (.ref o0)] []))
  refine goV X1 hx hlk Bd.returns (hb hby d4_4) ?_ (by decide) (by decide)
  show Q4 Z o0 h0 n0 (none) T1.heap _
  exact ⟨rfl, N0, e1⟩
theorem d3_0 : decode prog_4_method_1_code 0 = .ok (.aload_n 0, 1) := by decide +kernel
theorem d3_1 : decode prog_4_method_1_code 1 = .ok (.invokespecial 1, 3) := by decide +kernel
theorem d3_4 : decode prog_4_method_1_code 4 = .ok (.aload_n 0, 1) := by decide +kernel
theorem d3_5 : decode prog_4_method_1_code 5 = .ok (.lload_n 1, 1) := by decide +kernel
theorem d3_6 : decode prog_4_method_1_code 6 = .ok (.putfield 7, 3) := by decide +kernel
theorem d3_9 : decode prog_4_method_1_code 9 = .ok (.aload_n 0, 1) := by decide +kernel
theorem d3_10 : decode prog_4_method_1_code 10 = .ok (.iload_n 3, 1) := by decide +kernel
theorem d3_11 : decode prog_4_method_1_code 11 = .ok (.putfield 13, 3) := by decide +kernel
theorem d3_14 : decode prog_4_method_1_code 14 = .ok (.aload_n 0, 1) := by decide +kernel
theorem d3_15 : decode prog_4_method_1_code 15 = .ok (.iload 4, 2) := by decide +kernel
theorem d3_17 : decode prog_4_method_1_code 17 = .ok (.putfield 17, 3) := by decide +kernel
theorem d3_20 : decode prog_4_method_1_code 20 = .ok (.return_, 1) := by decide +kernel
theorem pd_0 : parseMethodDescriptor "()V" = some ⟨[], none⟩ := by decide +kernel
theorem ef_3 (m : MethodId) (x0 : Addr) (x1 : Int64) (x2 : Int32) (x3 : Int32) : entryFrame m #[(.ref x0), (.long x1), (.int x2), (.int x3)] 5 = mkF m 0 #[.val (.ref x0), .val (.long x1), .second, .val (.int x2), .val (.int x3)] [] := by first | (simp [entryFrame, mkF, argsToLocals, Value.category]; done) | rfl
def Q3 (Z : State) (o0 : Addr) (q1 : Int64) (p2 : Int32) (p3 : Int32) (h0 : Heap) (n0 : Nat) (v : Option Value) (h : Heap) (L : List Loc) : Prop := v = none ∧ Fr n0 L ∧ Keep h0 h ([o0] : List Addr) ∧ Fld Z h o0 "com/example/cairnlog/cairnlog/CivilDate" "year" "J" (.long q1) ∧ Fld Z h o0 "com/example/cairnlog/cairnlog/CivilDate" "month" "I" (.int p2) ∧ Fld Z h o0 "com/example/cairnlog/cairnlog/CivilDate" "day" "I" (.int p3)
set_option maxRecDepth 65536 in
set_option maxHeartbeats 40000000 in
theorem rm3 (l : Launch) (Z : State) (a0 : Array Value) (hw : ∀ d ∈ tables_1, d.before a0 Z = true) (ws : List Jvm.Cond) (o0 : Addr) (q1 : Int64) (p2 : Int32) (p3 : Int32) (h0 : Heap) (n0 : Nat) (Z0 : n0 ≤ h0.size) (E_o0 : Exa Z h0 o0 "com/example/cairnlog/cairnlog/CivilDate") (F_year_o0 : Fld Z h0 o0 "com/example/cairnlog/cairnlog/CivilDate" "year" "J" (.long (0 : Int64))) (g_o0 : n0 ≤ o0) (F_month_o0 : Fld Z h0 o0 "com/example/cairnlog/cairnlog/CivilDate" "month" "I" (.int (0 : Int32))) (F_day_o0 : Fld Z h0 o0 "com/example/cairnlog/cairnlog/CivilDate" "day" "I" (.int (0 : Int32))) :
    MetFree l (⟨"com/example/cairnlog/cairnlog/CivilDate", "<init>", "(JII)V"⟩ : MethodName) (head1 (Jvm.Cond.code (⟨"com/example/cairnlog/cairnlog/CivilDate", "<init>", "(JII)V"⟩ : MethodName) prog_4_method_1_code 5 none :: ws) ({ frames := 2, cells := 0, slots := 0, locals := 24 } : Room)) (fun a U => a = #[(.ref o0), (.long q1), (.int p2), (.int p3)] ∧ Z.Warmed39 U.vm ∧ U.heap = h0) (fun _ _ _ _ _ => True) (fun _ U o U' => ∃ v L, o = .returned v ∧ Q3 Z o0 q1 p2 p3 h0 n0 v U'.heap L ∧ FrameEnd U o U' L ({ frames := 2, cells := 0, slots := 0, locals := 24 } : Room).cells ({ frames := 2, cells := 0, slots := 0, locals := 24 } : Room).slots) := by
  refine MetFree.of_bodySF (plainFor_of_name (by first | (simp [plainName, overriddenIn]; done) | decide +kernel)) hisR ?_
  intro p e s m args below meth c s₁ Bd hml0 hP hK
  obtain ⟨rfl, hZ, hh⟩ := hP
  have hx := Bd.exec
  have hby := Bd.bytes
  have hml : c.maxLocals = 5 := hml0
  have hown : s.vm.findClass "com/example/cairnlog/cairnlog/CivilDate" = some m.cls := findClass_of_methodNamed Bd.named
  have hnm := (name_of_methodNamed Bd.named Bd.method).1
  have hlk := BodyLoose.notSynchronized Bd
  have X0 : Stand p l e ({ frames := 2, cells := 0, slots := 0, locals := 24 } : Room) s m #[(.ref o0), (.long q1), (.int p2), (.int p3)] below meth c s₁ [] 0 0 := Stand.of_body Bd
  have e0 : s₁.heap = h0 := by rw [← hh, Bd.state]; rfl
  have N0 := Fr.nil n0
  show Go p e below s (Q3 Z o0 q1 p2 p3 h0 n0) 0 0 (s₁.setTop (entryFrame m #[(.ref o0), (.long q1), (.int p2), (.int p3)] 5))
  rw [ef_3]
  show Go _ _ _ _ _ _ _ (s₁.setTop (mkF m 0 #[.val (.ref o0), .val (.long q1), .second, .val (.int p2), .val (.int p3)] []))
  refine gob (fun _ k => XS.aloadN X0.here hx rfl (hb hby d3_0) rfl rfl k) ?_
  show Go _ _ _ _ _ _ _ (s₁.setTop (mkF m 1 #[.val (.ref o0), .val (.long q1), .second, .val (.int p2), .val (.int p3)] [(.ref o0)]))
  obtain ⟨_, _, ⟨T1, L1, k1, n1⟩, -, X1, ⟨Lc1, hQ1, l1, y1, z1⟩, st1⟩ := X0.specialBack hx (y := (⟨"java/lang/Record", "<init>", "()V"⟩ : MethodName)) rfl hown (mvT hZ (hw _ (List.mem_of_getElem? (i := 22) rfl))) (mvT hZ (hw _ (List.mem_of_getElem? (i := 23) rfl))) (mvT hZ (hw _ (List.mem_of_getElem? (i := 26) rfl))) (by decide) (backOf (W := 0) (rm4 l Z a0 hw [] o0 h0 n0 Z0 ) hZ (hw _ (List.mem_of_getElem? (i := 26) rfl)) (hw _ (List.mem_of_getElem? (i := 25) rfl)) (by decide) (by decide)) (g := (mkF m 1 #[.val (.ref o0), .val (.long q1), .second, .val (.int p2), .val (.int p3)] [(.ref o0)])) rfl (by rw [hml]; rfl) (Steps.refl _) (a := o0) (argsL := []) (rest := []) (lenOf pd_0 rfl) rfl (by show 2 * 0 + _ ≤ _; exact Nat.le_of_eq rfl) (hb hby d3_1) (fun _ _ => ⟨rfl, e0, (by decide : 0 + 0 ≤ _), (by decide : 0 + 0 ≤ _)⟩)
  dsimp only [Pt.U, Pt.locs, Pt.cells, Pt.slots] at X1 l1 y1 z1 st1 hQ1
  subst l1 y1 z1
  obtain ⟨rfl, Nq1, e1⟩ := hQ1
  have N1 := Fr.app N0 Nq1
  refine gob (fun _ k => st1.trans k) ?_
  show Go _ _ _ _ _ _ _ (T1.setTop (mkF m 4 #[.val (.ref o0), .val (.long q1), .second, .val (.int p2), .val (.int p3)] []))
  refine gob (fun _ k => XS.aloadN X1.here hx rfl (hb hby d3_4) rfl rfl k) ?_
  show Go _ _ _ _ _ _ _ (T1.setTop (mkF m 5 #[.val (.ref o0), .val (.long q1), .second, .val (.int p2), .val (.int p3)] [(.ref o0)]))
  refine gob (fun _ k => XS.lloadN X1.here hx rfl (hb hby d3_5) rfl k) ?_
  show Go _ _ _ _ _ _ _ (T1.setTop (mkF m 6 #[.val (.ref o0), .val (.long q1), .second, .val (.int p2), .val (.int p3)] [(.long q1), (.ref o0)]))
  obtain ⟨T2, h2, X2, e2, W2, st2⟩ := putF X1 hx hZ hown (host := "") (Or.inl (hw _ (List.mem_of_getElem? (i := 30) rfl))) Via.refl e1 F_year_o0 E_o0 (Or.inr ⟨(hw _ (List.mem_of_getElem? (i := 31) rfl)), rfl, hnm⟩) (hw _ (List.mem_of_getElem? (i := 17) rfl)) (ty := .long) (by decide) rfl rfl (g := (mkF m 6 #[.val (.ref o0), .val (.long q1), .second, .val (.int p2), .val (.int p3)] [(.long q1), (.ref o0)])) rfl rfl (hb hby d3_6)
  refine gob st2 ?_
  have z3 : n0 ≤ h2.size := Nat.le_trans Z0 (Keep.of_wr W2).1
  have N2 := Fr.snoc X2 N1 g_o0
  have K4 : Keep h0 h2 ([o0] : List Addr) := (Keep.refl h0 ([o0] : List Addr)).wr W2 (Or.inl (List.mem_of_getElem? (i := 0) rfl))
  have Fw2 := F_year_o0.same W2
  show Go _ _ _ _ _ _ _ (T2.setTop (mkF m 9 #[.val (.ref o0), .val (.long q1), .second, .val (.int p2), .val (.int p3)] []))
  refine gob (fun _ k => XS.aloadN X2.here hx rfl (hb hby d3_9) rfl rfl k) ?_
  show Go _ _ _ _ _ _ _ (T2.setTop (mkF m 10 #[.val (.ref o0), .val (.long q1), .second, .val (.int p2), .val (.int p3)] [(.ref o0)]))
  refine gob (fun _ k => XS.iloadN X2.here hx rfl (hb hby d3_10) rfl k) ?_
  show Go _ _ _ _ _ _ _ (T2.setTop (mkF m 11 #[.val (.ref o0), .val (.long q1), .second, .val (.int p2), .val (.int p3)] [(.int p2), (.ref o0)]))
  have c5 := (F_month_o0.other W2 (Or.inr (slot_ne (Or.inr (hw _ (List.mem_of_getElem? (i := 33) rfl))) (Or.inr (hw _ (List.mem_of_getElem? (i := 31) rfl))) (by decide) (t := .int) (t' := .long) (by decide) (by decide))))
  have c6 := (E_o0.wr W2)
  obtain ⟨T7, h7, X7, e7, W7, st7⟩ := putF X2 hx hZ hown (host := "") (Or.inl (hw _ (List.mem_of_getElem? (i := 32) rfl))) Via.refl e2 c5 c6 (Or.inr ⟨(hw _ (List.mem_of_getElem? (i := 33) rfl)), rfl, hnm⟩) (hw _ (List.mem_of_getElem? (i := 17) rfl)) (ty := .int) (by decide) rfl rfl (g := (mkF m 11 #[.val (.ref o0), .val (.long q1), .second, .val (.int p2), .val (.int p3)] [(.int p2), (.ref o0)])) rfl rfl (hb hby d3_11)
  refine gob st7 ?_
  have z8 : n0 ≤ h7.size := Nat.le_trans z3 (Keep.of_wr W7).1
  have N7 := Fr.snoc X7 N2 g_o0
  have K9 : Keep h0 h7 ([o0] : List Addr) := K4.wr W7 (Or.inl (List.mem_of_getElem? (i := 0) rfl))
  have Fw7 := c5.same W7
  show Go _ _ _ _ _ _ _ (T7.setTop (mkF m 14 #[.val (.ref o0), .val (.long q1), .second, .val (.int p2), .val (.int p3)] []))
  refine gob (fun _ k => XS.aloadN X7.here hx rfl (hb hby d3_14) rfl rfl k) ?_
  show Go _ _ _ _ _ _ _ (T7.setTop (mkF m 15 #[.val (.ref o0), .val (.long q1), .second, .val (.int p2), .val (.int p3)] [(.ref o0)]))
  refine gob (fun _ k => XS.iload X7.here hx rfl (hb hby d3_15) rfl k) ?_
  show Go _ _ _ _ _ _ _ (T7.setTop (mkF m 17 #[.val (.ref o0), .val (.long q1), .second, .val (.int p2), .val (.int p3)] [(.int p3), (.ref o0)]))
  have c10 := ((F_day_o0.other W2 (Or.inr (slot_ne (Or.inr (hw _ (List.mem_of_getElem? (i := 35) rfl))) (Or.inr (hw _ (List.mem_of_getElem? (i := 31) rfl))) (by decide) (t := .int) (t' := .long) (by decide) (by decide)))).other W7 (Or.inr (slot_ne (Or.inr (hw _ (List.mem_of_getElem? (i := 35) rfl))) (Or.inr (hw _ (List.mem_of_getElem? (i := 33) rfl))) (by decide) (t := .int) (t' := .int) (by decide) (by decide))))
  have c11 := (c6.wr W7)
  obtain ⟨T12, h12, X12, e12, W12, st12⟩ := putF X7 hx hZ hown (host := "") (Or.inl (hw _ (List.mem_of_getElem? (i := 34) rfl))) Via.refl e7 c10 c11 (Or.inr ⟨(hw _ (List.mem_of_getElem? (i := 35) rfl)), rfl, hnm⟩) (hw _ (List.mem_of_getElem? (i := 17) rfl)) (ty := .int) (by decide) rfl rfl (g := (mkF m 17 #[.val (.ref o0), .val (.long q1), .second, .val (.int p2), .val (.int p3)] [(.int p3), (.ref o0)])) rfl rfl (hb hby d3_17)
  refine gob st12 ?_
  have z13 : n0 ≤ h12.size := Nat.le_trans z8 (Keep.of_wr W12).1
  have N12 := Fr.snoc X12 N7 g_o0
  have K14 : Keep h0 h12 ([o0] : List Addr) := K9.wr W12 (Or.inl (List.mem_of_getElem? (i := 0) rfl))
  have Fw12 := c10.same W12
  show Go _ _ _ _ _ _ _ (T12.setTop (mkF m 20 #[.val (.ref o0), .val (.long q1), .second, .val (.int p2), .val (.int p3)] []))
  refine goV X12 hx hlk Bd.returns (hb hby d3_20) ?_ (by decide) (by decide)
  show Q3 Z o0 q1 p2 p3 h0 n0 (none) T12.heap _
  have c15 := ((Fw2.other W7 (Or.inr (slot_ne (Or.inr (hw _ (List.mem_of_getElem? (i := 31) rfl))) (Or.inr (hw _ (List.mem_of_getElem? (i := 33) rfl))) (by decide) (t := .long) (t' := .int) (by decide) (by decide)))).other W12 (Or.inr (slot_ne (Or.inr (hw _ (List.mem_of_getElem? (i := 31) rfl))) (Or.inr (hw _ (List.mem_of_getElem? (i := 35) rfl))) (by decide) (t := .long) (t' := .int) (by decide) (by decide))))
  have c16 := (Fw7.other W12 (Or.inr (slot_ne (Or.inr (hw _ (List.mem_of_getElem? (i := 33) rfl))) (Or.inr (hw _ (List.mem_of_getElem? (i := 35) rfl))) (by decide) (t := .int) (t' := .int) (by decide) (by decide))))
  rw [e12]
  exact ⟨rfl, N12, K14, c15, c16, Fw12⟩
theorem d2_0 : decode method_3_code 0 = .ok (.lload_n 0, 1) := by decide +kernel
theorem d2_1 : decode method_3_code 1 = .ok (.lload_n 2, 1) := by decide +kernel
theorem d2_2 : decode method_3_code 2 = .ok (.ldiv, 1) := by decide +kernel
theorem d2_3 : decode method_3_code 3 = .ok (.lstore 4, 2) := by decide +kernel
theorem d2_5 : decode method_3_code 5 = .ok (.lload_n 0, 1) := by decide +kernel
theorem d2_6 : decode method_3_code 6 = .ok (.lload_n 2, 1) := by decide +kernel
theorem d2_7 : decode method_3_code 7 = .ok (.lrem, 1) := by decide +kernel
theorem d2_8 : decode method_3_code 8 = .ok (.lconst 0, 1) := by decide +kernel
theorem d2_9 : decode method_3_code 9 = .ok (.lcmp, 1) := by decide +kernel
theorem d2_10 : decode method_3_code 10 = .ok (.ifCond .eq 15, 3) := by decide +kernel
theorem d2_13 : decode method_3_code 13 = .ok (.lload_n 0, 1) := by decide +kernel
theorem d2_14 : decode method_3_code 14 = .ok (.lconst 0, 1) := by decide +kernel
theorem d2_15 : decode method_3_code 15 = .ok (.lcmp, 1) := by decide +kernel
theorem d2_16 : decode method_3_code 16 = .ok (.ifCond .ge 9, 3) := by decide +kernel
theorem d2_19 : decode method_3_code 19 = .ok (.lload 4, 2) := by decide +kernel
theorem d2_21 : decode method_3_code 21 = .ok (.lconst 1, 1) := by decide +kernel
theorem d2_22 : decode method_3_code 22 = .ok (.lsub, 1) := by decide +kernel
theorem d2_23 : decode method_3_code 23 = .ok (.lstore 4, 2) := by decide +kernel
theorem d2_25 : decode method_3_code 25 = .ok (.lload 4, 2) := by decide +kernel
theorem d2_27 : decode method_3_code 27 = .ok (.lreturn, 1) := by decide +kernel
theorem ef_2_4 (m : MethodId) (x0 : Int64) : entryFrame m #[(.long x0), (.long (4 : Int64))] 6 = mkF m 0 #[.val (.long x0), .second, .val (.long (4 : Int64)), .second, .unset, .unset] [] := by first | (simp [entryFrame, mkF, argsToLocals, Value.category]; done) | rfl
def Q2_4 (Z : State) (q0 : Int64) (h0 : Heap) (n0 : Nat) (v : Option Value) (h : Heap) (L : List Loc) : Prop := ∃ r : Int64, v = some (.long r) ∧ (r.toInt = q0.toInt / 4) ∧ Fr n0 L ∧ h = h0
theorem lf_2_4_0 (q0 : Int64) (x1 : Int64) (v4 : Int64) (hx1 : (q0 / (4 : Int64)) = x1) (hj11 : ((q0 % (4 : Int64)) = (0 : Int64) ∧ v4 = x1) ∨ (¬ ((q0 % (4 : Int64)) = (0 : Int64)) ∧ q0 < (0 : Int64) ∧ v4 = (x1 - (1 : Int64))) ∨ (¬ ((q0 % (4 : Int64)) = (0 : Int64)) ∧ ¬ (q0 < (0 : Int64)) ∧ v4 = x1)) : v4.toInt = q0.toInt / 4 := by
  have := rng64 q0
  have := rng64 x1
  have := rng64 v4
  have : (0 : Int64).toInt = 0 := by decide
  have : (1 : Int64).toInt = 1 := by decide
  have : (4 : Int64).toInt = 4 := by decide
  have := c_ldiv q0 (4 : Int64) (4) (by decide) (by decide)
  have := rng64 (q0 / (4 : Int64))
  have := own_lrem q0 (4 : Int64) (4) (by decide)
  have := rng64 (q0 % (4 : Int64))
  have := c_lsub x1 (1 : Int64)
  have := rng64 (x1 - (1 : Int64))
  try (simp only [Int32.lt_iff_toInt_lt, Int32.le_iff_toInt_le, Int64.lt_iff_toInt_lt, Int64.le_iff_toInt_le, ← Int32.toInt_inj, ← Int64.toInt_inj, ne_eq] at *)
  omega
set_option maxRecDepth 65536 in
set_option maxHeartbeats 40000000 in
theorem rm2_4 (l : Launch) (Z : State) (a0 : Array Value) (hw : ∀ d ∈ tables_1, d.before a0 Z = true) (ws : List Jvm.Cond) (q0 : Int64) (h0 : Heap) (n0 : Nat) (Z0 : n0 ≤ h0.size) :
    MetFree l (⟨"com/example/cairnlog/cairnlog/CivilDateEpochDayPinLaw", "floorDiv", "(JJ)J"⟩ : MethodName) (head1 (Jvm.Cond.code (⟨"com/example/cairnlog/cairnlog/CivilDateEpochDayPinLaw", "floorDiv", "(JJ)J"⟩ : MethodName) method_3_code 6 (some .long) :: ws) ({ frames := 0, cells := 0, slots := 0, locals := 0 } : Room)) (fun a U => a = #[(.long q0), (.long (4 : Int64))] ∧ Z.Warmed39 U.vm ∧ U.heap = h0) (fun _ _ _ _ _ => True) (fun _ U o U' => ∃ v L, o = .returned v ∧ Q2_4 Z q0 h0 n0 v U'.heap L ∧ FrameEnd U o U' L ({ frames := 0, cells := 0, slots := 0, locals := 0 } : Room).cells ({ frames := 0, cells := 0, slots := 0, locals := 0 } : Room).slots) := by
  refine MetFree.of_bodySF (plainFor_of_name (by first | (simp [plainName, overriddenIn]; done) | decide +kernel)) hisR ?_
  intro p e s m args below meth c s₁ Bd hml0 hP hK
  obtain ⟨rfl, hZ, hh⟩ := hP
  have hx := Bd.exec
  have hby := Bd.bytes
  have hml : c.maxLocals = 6 := hml0
  have hown : s.vm.findClass "com/example/cairnlog/cairnlog/CivilDateEpochDayPinLaw" = some m.cls := findClass_of_methodNamed Bd.named
  have hnm := (name_of_methodNamed Bd.named Bd.method).1
  have hlk := BodyLoose.notSynchronized Bd
  have X0 : Stand p l e ({ frames := 0, cells := 0, slots := 0, locals := 0 } : Room) s m #[(.long q0), (.long (4 : Int64))] below meth c s₁ [] 0 0 := Stand.of_body Bd
  have e0 : s₁.heap = h0 := by rw [← hh, Bd.state]; rfl
  have N0 := Fr.nil n0
  show Go p e below s (Q2_4 Z q0 h0 n0) 0 0 (s₁.setTop (entryFrame m #[(.long q0), (.long (4 : Int64))] 6))
  rw [ef_2_4]
  show Go _ _ _ _ _ _ _ (s₁.setTop (mkF m 0 #[.val (.long q0), .second, .val (.long (4 : Int64)), .second, .unset, .unset] []))
  refine gob (fun _ k => XS.lloadN X0.here hx rfl (hb hby d2_0) rfl k) ?_
  show Go _ _ _ _ _ _ _ (s₁.setTop (mkF m 1 #[.val (.long q0), .second, .val (.long (4 : Int64)), .second, .unset, .unset] [(.long q0)]))
  refine gob (fun _ k => XS.lloadN X0.here hx rfl (hb hby d2_1) rfl k) ?_
  show Go _ _ _ _ _ _ _ (s₁.setTop (mkF m 2 #[.val (.long q0), .second, .val (.long (4 : Int64)), .second, .unset, .unset] [(.long (4 : Int64)), (.long q0)]))
  refine gob (fun _ k => XS.ldiv X0.here hx rfl (hb hby d2_2) rfl (by decide) k) ?_
  show Go _ _ _ _ _ _ _ (s₁.setTop (mkF m 3 #[.val (.long q0), .second, .val (.long (4 : Int64)), .second, .unset, .unset] [(.long (q0 / (4 : Int64)))]))
  refine gob (fun _ k => XS.lstore X0.here hx rfl (hb hby d2_3) rfl (l' := #[.val (.long q0), .second, .val (.long (4 : Int64)), .second, .val (.long (q0 / (4 : Int64))), .second]) rfl k) ?_
  show Go _ _ _ _ _ _ _ (s₁.setTop (mkF m 5 #[.val (.long q0), .second, .val (.long (4 : Int64)), .second, .val (.long (q0 / (4 : Int64))), .second] []))
  generalize hx1 : (q0 / (4 : Int64)) = x1
  show Go _ _ _ _ _ _ _ (s₁.setTop (mkF m 5 #[.val (.long q0), .second, .val (.long (4 : Int64)), .second, .val (.long x1), .second] []))
  refine gob (fun _ k => XS.lloadN X0.here hx rfl (hb hby d2_5) rfl k) ?_
  show Go _ _ _ _ _ _ _ (s₁.setTop (mkF m 6 #[.val (.long q0), .second, .val (.long (4 : Int64)), .second, .val (.long x1), .second] [(.long q0)]))
  refine gob (fun _ k => XS.lloadN X0.here hx rfl (hb hby d2_6) rfl k) ?_
  show Go _ _ _ _ _ _ _ (s₁.setTop (mkF m 7 #[.val (.long q0), .second, .val (.long (4 : Int64)), .second, .val (.long x1), .second] [(.long (4 : Int64)), (.long q0)]))
  refine gob (fun _ k => lremM X0 hx rfl (hb hby d2_7) rfl (by decide) k) ?_
  show Go _ _ _ _ _ _ _ (s₁.setTop (mkF m 8 #[.val (.long q0), .second, .val (.long (4 : Int64)), .second, .val (.long x1), .second] [(.long (q0 % (4 : Int64)))]))
  refine gob (fun _ k => XS.lconst X0.here hx rfl (hb hby d2_8) k) ?_
  show Go _ _ _ _ _ _ _ (s₁.setTop (mkF m 9 #[.val (.long q0), .second, .val (.long (4 : Int64)), .second, .val (.long x1), .second] [(.long (0 : Int64)), (.long (q0 % (4 : Int64)))]))
  refine gob (fun _ k => XS.lcmp X0.here hx rfl (hb hby d2_9) rfl k) ?_
  show Go _ _ _ _ _ _ _ (s₁.setTop (mkF m 10 #[.val (.long q0), .second, .val (.long (4 : Int64)), .second, .val (.long x1), .second] [(.int (lcmpW (q0 % (4 : Int64)) (0 : Int64)))]))
  have join25_5 : ∀ (T6 : State) (lj7 : List Loc) (v4 : Int64), Stand p l e ({ frames := 0, cells := 0, slots := 0, locals := 0 } : Room) s m #[(.long q0), (.long (4 : Int64))] below meth c T6 lj7 0 0 → T6.heap = h0 → Fr n0 lj7 → ((q0 % (4 : Int64)) = (0 : Int64) ∧ v4 = x1) ∨ (¬ ((q0 % (4 : Int64)) = (0 : Int64)) ∧ q0 < (0 : Int64) ∧ v4 = (x1 - (1 : Int64))) ∨ (¬ ((q0 % (4 : Int64)) = (0 : Int64)) ∧ ¬ (q0 < (0 : Int64)) ∧ v4 = x1) → Go p e below s (Q2_4 Z q0 h0 n0) 0 0 (T6.setTop (mkF m 25 #[.val (.long q0), .second, .val (.long (4 : Int64)), .second, .val (.long v4), .second] [])) := by
    intro T6 lj7 v4 X8 e9 N10 hj11
    show Go _ _ _ _ _ _ _ (T6.setTop (mkF m 25 #[.val (.long q0), .second, .val (.long (4 : Int64)), .second, .val (.long v4), .second] []))
    refine gob (fun _ k => XS.lload X8.here hx rfl (hb hby d2_25) rfl k) ?_
    show Go _ _ _ _ _ _ _ (T6.setTop (mkF m 27 #[.val (.long q0), .second, .val (.long (4 : Int64)), .second, .val (.long v4), .second] [(.long v4)]))
    refine goJ X8 hx hlk Bd.returns (hb hby d2_27) ?_ (by decide) (by decide)
    show Q2_4 Z q0 h0 n0 (some (.long v4)) T6.heap _
    exact ⟨v4, rfl, lf_2_4_0 q0 x1 v4 hx1 hj11, N10, e9⟩
  by_cases hc10_12 : (q0 % (4 : Int64)) = (0 : Int64)
  · skip
    refine gob (fun _ k => XS.ifYes X0.here hx rfl (pc0 := 10) (pc' := 25) rfl (hb hby d2_10) rfl ((if0 _ _).trans (teq ((lw_eq _ _).mpr hc10_12)).1) (by decide) (by decide) k) ?_
    show Go _ _ _ _ _ _ _ (s₁.setTop (mkF m 25 #[.val (.long q0), .second, .val (.long (4 : Int64)), .second, .val (.long x1), .second] []))
    exact join25_5 _ _ (x1) X0 e0 N0 (Or.inl ⟨hc10_12, rfl⟩)
  · skip
    refine gob (fun _ k => XS.ifNo X0.here hx rfl (hb hby d2_10) rfl ((if0 _ _).trans (feq (mt (lw_eq _ _).mp hc10_12)).1) k) ?_
    show Go _ _ _ _ _ _ _ (s₁.setTop (mkF m 13 #[.val (.long q0), .second, .val (.long (4 : Int64)), .second, .val (.long x1), .second] []))
    refine gob (fun _ k => XS.lloadN X0.here hx rfl (hb hby d2_13) rfl k) ?_
    show Go _ _ _ _ _ _ _ (s₁.setTop (mkF m 14 #[.val (.long q0), .second, .val (.long (4 : Int64)), .second, .val (.long x1), .second] [(.long q0)]))
    refine gob (fun _ k => XS.lconst X0.here hx rfl (hb hby d2_14) k) ?_
    show Go _ _ _ _ _ _ _ (s₁.setTop (mkF m 15 #[.val (.long q0), .second, .val (.long (4 : Int64)), .second, .val (.long x1), .second] [(.long (0 : Int64)), (.long q0)]))
    refine gob (fun _ k => XS.lcmp X0.here hx rfl (hb hby d2_15) rfl k) ?_
    show Go _ _ _ _ _ _ _ (s₁.setTop (mkF m 16 #[.val (.long q0), .second, .val (.long (4 : Int64)), .second, .val (.long x1), .second] [(.int (lcmpW q0 (0 : Int64)))]))
    by_cases hc16_13 : q0 < (0 : Int64)
    · skip
      refine gob (fun _ k => XS.ifNo X0.here hx rfl (hb hby d2_16) rfl ((if0 _ _).trans (tlt ((lw_lt _ _).mpr hc16_13)).2.1) k) ?_
      show Go _ _ _ _ _ _ _ (s₁.setTop (mkF m 19 #[.val (.long q0), .second, .val (.long (4 : Int64)), .second, .val (.long x1), .second] []))
      refine gob (fun _ k => XS.lload X0.here hx rfl (hb hby d2_19) rfl k) ?_
      show Go _ _ _ _ _ _ _ (s₁.setTop (mkF m 21 #[.val (.long q0), .second, .val (.long (4 : Int64)), .second, .val (.long x1), .second] [(.long x1)]))
      refine gob (fun _ k => XS.lconst X0.here hx rfl (hb hby d2_21) k) ?_
      show Go _ _ _ _ _ _ _ (s₁.setTop (mkF m 22 #[.val (.long q0), .second, .val (.long (4 : Int64)), .second, .val (.long x1), .second] [(.long (1 : Int64)), (.long x1)]))
      refine gob (fun _ k => XS.lsub X0.here hx rfl (hb hby d2_22) rfl k) ?_
      show Go _ _ _ _ _ _ _ (s₁.setTop (mkF m 23 #[.val (.long q0), .second, .val (.long (4 : Int64)), .second, .val (.long x1), .second] [(.long (x1 - (1 : Int64)))]))
      refine gob (fun _ k => XS.lstore X0.here hx rfl (hb hby d2_23) rfl (l' := #[.val (.long q0), .second, .val (.long (4 : Int64)), .second, .val (.long (x1 - (1 : Int64))), .second]) rfl k) ?_
      show Go _ _ _ _ _ _ _ (s₁.setTop (mkF m 25 #[.val (.long q0), .second, .val (.long (4 : Int64)), .second, .val (.long (x1 - (1 : Int64))), .second] []))
      exact join25_5 _ _ ((x1 - (1 : Int64))) X0 e0 N0 (Or.inr (Or.inl ⟨hc10_12, hc16_13, rfl⟩))
    · skip
      refine gob (fun _ k => XS.ifYes X0.here hx rfl (pc0 := 16) (pc' := 25) rfl (hb hby d2_16) rfl ((if0 _ _).trans (flt (mt (lw_lt _ _).mp hc16_13)).2.1) (by decide) (by decide) k) ?_
      show Go _ _ _ _ _ _ _ (s₁.setTop (mkF m 25 #[.val (.long q0), .second, .val (.long (4 : Int64)), .second, .val (.long x1), .second] []))
      exact join25_5 _ _ (x1) X0 e0 N0 (Or.inr (Or.inr ⟨hc10_12, hc16_13, rfl⟩))
theorem ef_2_100 (m : MethodId) (x0 : Int64) : entryFrame m #[(.long x0), (.long (100 : Int64))] 6 = mkF m 0 #[.val (.long x0), .second, .val (.long (100 : Int64)), .second, .unset, .unset] [] := by first | (simp [entryFrame, mkF, argsToLocals, Value.category]; done) | rfl
def Q2_100 (Z : State) (q0 : Int64) (h0 : Heap) (n0 : Nat) (v : Option Value) (h : Heap) (L : List Loc) : Prop := ∃ r : Int64, v = some (.long r) ∧ (r.toInt = q0.toInt / 100) ∧ Fr n0 L ∧ h = h0
theorem lf_2_100_0 (q0 : Int64) (x1 : Int64) (v4 : Int64) (hx1 : (q0 / (100 : Int64)) = x1) (hj11 : ((q0 % (100 : Int64)) = (0 : Int64) ∧ v4 = x1) ∨ (¬ ((q0 % (100 : Int64)) = (0 : Int64)) ∧ q0 < (0 : Int64) ∧ v4 = (x1 - (1 : Int64))) ∨ (¬ ((q0 % (100 : Int64)) = (0 : Int64)) ∧ ¬ (q0 < (0 : Int64)) ∧ v4 = x1)) : v4.toInt = q0.toInt / 100 := by
  have := rng64 q0
  have := rng64 x1
  have := rng64 v4
  have : (0 : Int64).toInt = 0 := by decide
  have : (1 : Int64).toInt = 1 := by decide
  have : (100 : Int64).toInt = 100 := by decide
  have := c_lsub x1 (1 : Int64)
  have := rng64 (x1 - (1 : Int64))
  have := c_ldiv q0 (100 : Int64) (100) (by decide) (by decide)
  have := rng64 (q0 / (100 : Int64))
  have := own_lrem q0 (100 : Int64) (100) (by decide)
  have := rng64 (q0 % (100 : Int64))
  try (simp only [Int32.lt_iff_toInt_lt, Int32.le_iff_toInt_le, Int64.lt_iff_toInt_lt, Int64.le_iff_toInt_le, ← Int32.toInt_inj, ← Int64.toInt_inj, ne_eq] at *)
  omega
set_option maxRecDepth 65536 in
set_option maxHeartbeats 40000000 in
theorem rm2_100 (l : Launch) (Z : State) (a0 : Array Value) (hw : ∀ d ∈ tables_1, d.before a0 Z = true) (ws : List Jvm.Cond) (q0 : Int64) (h0 : Heap) (n0 : Nat) (Z0 : n0 ≤ h0.size) :
    MetFree l (⟨"com/example/cairnlog/cairnlog/CivilDateEpochDayPinLaw", "floorDiv", "(JJ)J"⟩ : MethodName) (head1 (Jvm.Cond.code (⟨"com/example/cairnlog/cairnlog/CivilDateEpochDayPinLaw", "floorDiv", "(JJ)J"⟩ : MethodName) method_3_code 6 (some .long) :: ws) ({ frames := 0, cells := 0, slots := 0, locals := 0 } : Room)) (fun a U => a = #[(.long q0), (.long (100 : Int64))] ∧ Z.Warmed39 U.vm ∧ U.heap = h0) (fun _ _ _ _ _ => True) (fun _ U o U' => ∃ v L, o = .returned v ∧ Q2_100 Z q0 h0 n0 v U'.heap L ∧ FrameEnd U o U' L ({ frames := 0, cells := 0, slots := 0, locals := 0 } : Room).cells ({ frames := 0, cells := 0, slots := 0, locals := 0 } : Room).slots) := by
  refine MetFree.of_bodySF (plainFor_of_name (by first | (simp [plainName, overriddenIn]; done) | decide +kernel)) hisR ?_
  intro p e s m args below meth c s₁ Bd hml0 hP hK
  obtain ⟨rfl, hZ, hh⟩ := hP
  have hx := Bd.exec
  have hby := Bd.bytes
  have hml : c.maxLocals = 6 := hml0
  have hown : s.vm.findClass "com/example/cairnlog/cairnlog/CivilDateEpochDayPinLaw" = some m.cls := findClass_of_methodNamed Bd.named
  have hnm := (name_of_methodNamed Bd.named Bd.method).1
  have hlk := BodyLoose.notSynchronized Bd
  have X0 : Stand p l e ({ frames := 0, cells := 0, slots := 0, locals := 0 } : Room) s m #[(.long q0), (.long (100 : Int64))] below meth c s₁ [] 0 0 := Stand.of_body Bd
  have e0 : s₁.heap = h0 := by rw [← hh, Bd.state]; rfl
  have N0 := Fr.nil n0
  show Go p e below s (Q2_100 Z q0 h0 n0) 0 0 (s₁.setTop (entryFrame m #[(.long q0), (.long (100 : Int64))] 6))
  rw [ef_2_100]
  show Go _ _ _ _ _ _ _ (s₁.setTop (mkF m 0 #[.val (.long q0), .second, .val (.long (100 : Int64)), .second, .unset, .unset] []))
  refine gob (fun _ k => XS.lloadN X0.here hx rfl (hb hby d2_0) rfl k) ?_
  show Go _ _ _ _ _ _ _ (s₁.setTop (mkF m 1 #[.val (.long q0), .second, .val (.long (100 : Int64)), .second, .unset, .unset] [(.long q0)]))
  refine gob (fun _ k => XS.lloadN X0.here hx rfl (hb hby d2_1) rfl k) ?_
  show Go _ _ _ _ _ _ _ (s₁.setTop (mkF m 2 #[.val (.long q0), .second, .val (.long (100 : Int64)), .second, .unset, .unset] [(.long (100 : Int64)), (.long q0)]))
  refine gob (fun _ k => XS.ldiv X0.here hx rfl (hb hby d2_2) rfl (by decide) k) ?_
  show Go _ _ _ _ _ _ _ (s₁.setTop (mkF m 3 #[.val (.long q0), .second, .val (.long (100 : Int64)), .second, .unset, .unset] [(.long (q0 / (100 : Int64)))]))
  refine gob (fun _ k => XS.lstore X0.here hx rfl (hb hby d2_3) rfl (l' := #[.val (.long q0), .second, .val (.long (100 : Int64)), .second, .val (.long (q0 / (100 : Int64))), .second]) rfl k) ?_
  show Go _ _ _ _ _ _ _ (s₁.setTop (mkF m 5 #[.val (.long q0), .second, .val (.long (100 : Int64)), .second, .val (.long (q0 / (100 : Int64))), .second] []))
  generalize hx1 : (q0 / (100 : Int64)) = x1
  show Go _ _ _ _ _ _ _ (s₁.setTop (mkF m 5 #[.val (.long q0), .second, .val (.long (100 : Int64)), .second, .val (.long x1), .second] []))
  refine gob (fun _ k => XS.lloadN X0.here hx rfl (hb hby d2_5) rfl k) ?_
  show Go _ _ _ _ _ _ _ (s₁.setTop (mkF m 6 #[.val (.long q0), .second, .val (.long (100 : Int64)), .second, .val (.long x1), .second] [(.long q0)]))
  refine gob (fun _ k => XS.lloadN X0.here hx rfl (hb hby d2_6) rfl k) ?_
  show Go _ _ _ _ _ _ _ (s₁.setTop (mkF m 7 #[.val (.long q0), .second, .val (.long (100 : Int64)), .second, .val (.long x1), .second] [(.long (100 : Int64)), (.long q0)]))
  refine gob (fun _ k => lremM X0 hx rfl (hb hby d2_7) rfl (by decide) k) ?_
  show Go _ _ _ _ _ _ _ (s₁.setTop (mkF m 8 #[.val (.long q0), .second, .val (.long (100 : Int64)), .second, .val (.long x1), .second] [(.long (q0 % (100 : Int64)))]))
  refine gob (fun _ k => XS.lconst X0.here hx rfl (hb hby d2_8) k) ?_
  show Go _ _ _ _ _ _ _ (s₁.setTop (mkF m 9 #[.val (.long q0), .second, .val (.long (100 : Int64)), .second, .val (.long x1), .second] [(.long (0 : Int64)), (.long (q0 % (100 : Int64)))]))
  refine gob (fun _ k => XS.lcmp X0.here hx rfl (hb hby d2_9) rfl k) ?_
  show Go _ _ _ _ _ _ _ (s₁.setTop (mkF m 10 #[.val (.long q0), .second, .val (.long (100 : Int64)), .second, .val (.long x1), .second] [(.int (lcmpW (q0 % (100 : Int64)) (0 : Int64)))]))
  have join25_5 : ∀ (T6 : State) (lj7 : List Loc) (v4 : Int64), Stand p l e ({ frames := 0, cells := 0, slots := 0, locals := 0 } : Room) s m #[(.long q0), (.long (100 : Int64))] below meth c T6 lj7 0 0 → T6.heap = h0 → Fr n0 lj7 → ((q0 % (100 : Int64)) = (0 : Int64) ∧ v4 = x1) ∨ (¬ ((q0 % (100 : Int64)) = (0 : Int64)) ∧ q0 < (0 : Int64) ∧ v4 = (x1 - (1 : Int64))) ∨ (¬ ((q0 % (100 : Int64)) = (0 : Int64)) ∧ ¬ (q0 < (0 : Int64)) ∧ v4 = x1) → Go p e below s (Q2_100 Z q0 h0 n0) 0 0 (T6.setTop (mkF m 25 #[.val (.long q0), .second, .val (.long (100 : Int64)), .second, .val (.long v4), .second] [])) := by
    intro T6 lj7 v4 X8 e9 N10 hj11
    show Go _ _ _ _ _ _ _ (T6.setTop (mkF m 25 #[.val (.long q0), .second, .val (.long (100 : Int64)), .second, .val (.long v4), .second] []))
    refine gob (fun _ k => XS.lload X8.here hx rfl (hb hby d2_25) rfl k) ?_
    show Go _ _ _ _ _ _ _ (T6.setTop (mkF m 27 #[.val (.long q0), .second, .val (.long (100 : Int64)), .second, .val (.long v4), .second] [(.long v4)]))
    refine goJ X8 hx hlk Bd.returns (hb hby d2_27) ?_ (by decide) (by decide)
    show Q2_100 Z q0 h0 n0 (some (.long v4)) T6.heap _
    exact ⟨v4, rfl, lf_2_100_0 q0 x1 v4 hx1 hj11, N10, e9⟩
  by_cases hc10_12 : (q0 % (100 : Int64)) = (0 : Int64)
  · skip
    refine gob (fun _ k => XS.ifYes X0.here hx rfl (pc0 := 10) (pc' := 25) rfl (hb hby d2_10) rfl ((if0 _ _).trans (teq ((lw_eq _ _).mpr hc10_12)).1) (by decide) (by decide) k) ?_
    show Go _ _ _ _ _ _ _ (s₁.setTop (mkF m 25 #[.val (.long q0), .second, .val (.long (100 : Int64)), .second, .val (.long x1), .second] []))
    exact join25_5 _ _ (x1) X0 e0 N0 (Or.inl ⟨hc10_12, rfl⟩)
  · skip
    refine gob (fun _ k => XS.ifNo X0.here hx rfl (hb hby d2_10) rfl ((if0 _ _).trans (feq (mt (lw_eq _ _).mp hc10_12)).1) k) ?_
    show Go _ _ _ _ _ _ _ (s₁.setTop (mkF m 13 #[.val (.long q0), .second, .val (.long (100 : Int64)), .second, .val (.long x1), .second] []))
    refine gob (fun _ k => XS.lloadN X0.here hx rfl (hb hby d2_13) rfl k) ?_
    show Go _ _ _ _ _ _ _ (s₁.setTop (mkF m 14 #[.val (.long q0), .second, .val (.long (100 : Int64)), .second, .val (.long x1), .second] [(.long q0)]))
    refine gob (fun _ k => XS.lconst X0.here hx rfl (hb hby d2_14) k) ?_
    show Go _ _ _ _ _ _ _ (s₁.setTop (mkF m 15 #[.val (.long q0), .second, .val (.long (100 : Int64)), .second, .val (.long x1), .second] [(.long (0 : Int64)), (.long q0)]))
    refine gob (fun _ k => XS.lcmp X0.here hx rfl (hb hby d2_15) rfl k) ?_
    show Go _ _ _ _ _ _ _ (s₁.setTop (mkF m 16 #[.val (.long q0), .second, .val (.long (100 : Int64)), .second, .val (.long x1), .second] [(.int (lcmpW q0 (0 : Int64)))]))
    by_cases hc16_13 : q0 < (0 : Int64)
    · skip
      refine gob (fun _ k => XS.ifNo X0.here hx rfl (hb hby d2_16) rfl ((if0 _ _).trans (tlt ((lw_lt _ _).mpr hc16_13)).2.1) k) ?_
      show Go _ _ _ _ _ _ _ (s₁.setTop (mkF m 19 #[.val (.long q0), .second, .val (.long (100 : Int64)), .second, .val (.long x1), .second] []))
      refine gob (fun _ k => XS.lload X0.here hx rfl (hb hby d2_19) rfl k) ?_
      show Go _ _ _ _ _ _ _ (s₁.setTop (mkF m 21 #[.val (.long q0), .second, .val (.long (100 : Int64)), .second, .val (.long x1), .second] [(.long x1)]))
      refine gob (fun _ k => XS.lconst X0.here hx rfl (hb hby d2_21) k) ?_
      show Go _ _ _ _ _ _ _ (s₁.setTop (mkF m 22 #[.val (.long q0), .second, .val (.long (100 : Int64)), .second, .val (.long x1), .second] [(.long (1 : Int64)), (.long x1)]))
      refine gob (fun _ k => XS.lsub X0.here hx rfl (hb hby d2_22) rfl k) ?_
      show Go _ _ _ _ _ _ _ (s₁.setTop (mkF m 23 #[.val (.long q0), .second, .val (.long (100 : Int64)), .second, .val (.long x1), .second] [(.long (x1 - (1 : Int64)))]))
      refine gob (fun _ k => XS.lstore X0.here hx rfl (hb hby d2_23) rfl (l' := #[.val (.long q0), .second, .val (.long (100 : Int64)), .second, .val (.long (x1 - (1 : Int64))), .second]) rfl k) ?_
      show Go _ _ _ _ _ _ _ (s₁.setTop (mkF m 25 #[.val (.long q0), .second, .val (.long (100 : Int64)), .second, .val (.long (x1 - (1 : Int64))), .second] []))
      exact join25_5 _ _ ((x1 - (1 : Int64))) X0 e0 N0 (Or.inr (Or.inl ⟨hc10_12, hc16_13, rfl⟩))
    · skip
      refine gob (fun _ k => XS.ifYes X0.here hx rfl (pc0 := 16) (pc' := 25) rfl (hb hby d2_16) rfl ((if0 _ _).trans (flt (mt (lw_lt _ _).mp hc16_13)).2.1) (by decide) (by decide) k) ?_
      show Go _ _ _ _ _ _ _ (s₁.setTop (mkF m 25 #[.val (.long q0), .second, .val (.long (100 : Int64)), .second, .val (.long x1), .second] []))
      exact join25_5 _ _ (x1) X0 e0 N0 (Or.inr (Or.inr ⟨hc10_12, hc16_13, rfl⟩))
theorem ef_2_400 (m : MethodId) (x0 : Int64) : entryFrame m #[(.long x0), (.long (400 : Int64))] 6 = mkF m 0 #[.val (.long x0), .second, .val (.long (400 : Int64)), .second, .unset, .unset] [] := by first | (simp [entryFrame, mkF, argsToLocals, Value.category]; done) | rfl
def Q2_400 (Z : State) (q0 : Int64) (h0 : Heap) (n0 : Nat) (v : Option Value) (h : Heap) (L : List Loc) : Prop := ∃ r : Int64, v = some (.long r) ∧ (r.toInt = q0.toInt / 400) ∧ Fr n0 L ∧ h = h0
theorem lf_2_400_0 (q0 : Int64) (x1 : Int64) (v4 : Int64) (hx1 : (q0 / (400 : Int64)) = x1) (hj11 : ((q0 % (400 : Int64)) = (0 : Int64) ∧ v4 = x1) ∨ (¬ ((q0 % (400 : Int64)) = (0 : Int64)) ∧ q0 < (0 : Int64) ∧ v4 = (x1 - (1 : Int64))) ∨ (¬ ((q0 % (400 : Int64)) = (0 : Int64)) ∧ ¬ (q0 < (0 : Int64)) ∧ v4 = x1)) : v4.toInt = q0.toInt / 400 := by
  have := rng64 q0
  have := rng64 x1
  have := rng64 v4
  have : (0 : Int64).toInt = 0 := by decide
  have : (1 : Int64).toInt = 1 := by decide
  have : (400 : Int64).toInt = 400 := by decide
  have := c_lsub x1 (1 : Int64)
  have := rng64 (x1 - (1 : Int64))
  have := c_ldiv q0 (400 : Int64) (400) (by decide) (by decide)
  have := rng64 (q0 / (400 : Int64))
  have := own_lrem q0 (400 : Int64) (400) (by decide)
  have := rng64 (q0 % (400 : Int64))
  try (simp only [Int32.lt_iff_toInt_lt, Int32.le_iff_toInt_le, Int64.lt_iff_toInt_lt, Int64.le_iff_toInt_le, ← Int32.toInt_inj, ← Int64.toInt_inj, ne_eq] at *)
  omega
set_option maxRecDepth 65536 in
set_option maxHeartbeats 40000000 in
theorem rm2_400 (l : Launch) (Z : State) (a0 : Array Value) (hw : ∀ d ∈ tables_1, d.before a0 Z = true) (ws : List Jvm.Cond) (q0 : Int64) (h0 : Heap) (n0 : Nat) (Z0 : n0 ≤ h0.size) :
    MetFree l (⟨"com/example/cairnlog/cairnlog/CivilDateEpochDayPinLaw", "floorDiv", "(JJ)J"⟩ : MethodName) (head1 (Jvm.Cond.code (⟨"com/example/cairnlog/cairnlog/CivilDateEpochDayPinLaw", "floorDiv", "(JJ)J"⟩ : MethodName) method_3_code 6 (some .long) :: ws) ({ frames := 0, cells := 0, slots := 0, locals := 0 } : Room)) (fun a U => a = #[(.long q0), (.long (400 : Int64))] ∧ Z.Warmed39 U.vm ∧ U.heap = h0) (fun _ _ _ _ _ => True) (fun _ U o U' => ∃ v L, o = .returned v ∧ Q2_400 Z q0 h0 n0 v U'.heap L ∧ FrameEnd U o U' L ({ frames := 0, cells := 0, slots := 0, locals := 0 } : Room).cells ({ frames := 0, cells := 0, slots := 0, locals := 0 } : Room).slots) := by
  refine MetFree.of_bodySF (plainFor_of_name (by first | (simp [plainName, overriddenIn]; done) | decide +kernel)) hisR ?_
  intro p e s m args below meth c s₁ Bd hml0 hP hK
  obtain ⟨rfl, hZ, hh⟩ := hP
  have hx := Bd.exec
  have hby := Bd.bytes
  have hml : c.maxLocals = 6 := hml0
  have hown : s.vm.findClass "com/example/cairnlog/cairnlog/CivilDateEpochDayPinLaw" = some m.cls := findClass_of_methodNamed Bd.named
  have hnm := (name_of_methodNamed Bd.named Bd.method).1
  have hlk := BodyLoose.notSynchronized Bd
  have X0 : Stand p l e ({ frames := 0, cells := 0, slots := 0, locals := 0 } : Room) s m #[(.long q0), (.long (400 : Int64))] below meth c s₁ [] 0 0 := Stand.of_body Bd
  have e0 : s₁.heap = h0 := by rw [← hh, Bd.state]; rfl
  have N0 := Fr.nil n0
  show Go p e below s (Q2_400 Z q0 h0 n0) 0 0 (s₁.setTop (entryFrame m #[(.long q0), (.long (400 : Int64))] 6))
  rw [ef_2_400]
  show Go _ _ _ _ _ _ _ (s₁.setTop (mkF m 0 #[.val (.long q0), .second, .val (.long (400 : Int64)), .second, .unset, .unset] []))
  refine gob (fun _ k => XS.lloadN X0.here hx rfl (hb hby d2_0) rfl k) ?_
  show Go _ _ _ _ _ _ _ (s₁.setTop (mkF m 1 #[.val (.long q0), .second, .val (.long (400 : Int64)), .second, .unset, .unset] [(.long q0)]))
  refine gob (fun _ k => XS.lloadN X0.here hx rfl (hb hby d2_1) rfl k) ?_
  show Go _ _ _ _ _ _ _ (s₁.setTop (mkF m 2 #[.val (.long q0), .second, .val (.long (400 : Int64)), .second, .unset, .unset] [(.long (400 : Int64)), (.long q0)]))
  refine gob (fun _ k => XS.ldiv X0.here hx rfl (hb hby d2_2) rfl (by decide) k) ?_
  show Go _ _ _ _ _ _ _ (s₁.setTop (mkF m 3 #[.val (.long q0), .second, .val (.long (400 : Int64)), .second, .unset, .unset] [(.long (q0 / (400 : Int64)))]))
  refine gob (fun _ k => XS.lstore X0.here hx rfl (hb hby d2_3) rfl (l' := #[.val (.long q0), .second, .val (.long (400 : Int64)), .second, .val (.long (q0 / (400 : Int64))), .second]) rfl k) ?_
  show Go _ _ _ _ _ _ _ (s₁.setTop (mkF m 5 #[.val (.long q0), .second, .val (.long (400 : Int64)), .second, .val (.long (q0 / (400 : Int64))), .second] []))
  generalize hx1 : (q0 / (400 : Int64)) = x1
  show Go _ _ _ _ _ _ _ (s₁.setTop (mkF m 5 #[.val (.long q0), .second, .val (.long (400 : Int64)), .second, .val (.long x1), .second] []))
  refine gob (fun _ k => XS.lloadN X0.here hx rfl (hb hby d2_5) rfl k) ?_
  show Go _ _ _ _ _ _ _ (s₁.setTop (mkF m 6 #[.val (.long q0), .second, .val (.long (400 : Int64)), .second, .val (.long x1), .second] [(.long q0)]))
  refine gob (fun _ k => XS.lloadN X0.here hx rfl (hb hby d2_6) rfl k) ?_
  show Go _ _ _ _ _ _ _ (s₁.setTop (mkF m 7 #[.val (.long q0), .second, .val (.long (400 : Int64)), .second, .val (.long x1), .second] [(.long (400 : Int64)), (.long q0)]))
  refine gob (fun _ k => lremM X0 hx rfl (hb hby d2_7) rfl (by decide) k) ?_
  show Go _ _ _ _ _ _ _ (s₁.setTop (mkF m 8 #[.val (.long q0), .second, .val (.long (400 : Int64)), .second, .val (.long x1), .second] [(.long (q0 % (400 : Int64)))]))
  refine gob (fun _ k => XS.lconst X0.here hx rfl (hb hby d2_8) k) ?_
  show Go _ _ _ _ _ _ _ (s₁.setTop (mkF m 9 #[.val (.long q0), .second, .val (.long (400 : Int64)), .second, .val (.long x1), .second] [(.long (0 : Int64)), (.long (q0 % (400 : Int64)))]))
  refine gob (fun _ k => XS.lcmp X0.here hx rfl (hb hby d2_9) rfl k) ?_
  show Go _ _ _ _ _ _ _ (s₁.setTop (mkF m 10 #[.val (.long q0), .second, .val (.long (400 : Int64)), .second, .val (.long x1), .second] [(.int (lcmpW (q0 % (400 : Int64)) (0 : Int64)))]))
  have join25_5 : ∀ (T6 : State) (lj7 : List Loc) (v4 : Int64), Stand p l e ({ frames := 0, cells := 0, slots := 0, locals := 0 } : Room) s m #[(.long q0), (.long (400 : Int64))] below meth c T6 lj7 0 0 → T6.heap = h0 → Fr n0 lj7 → ((q0 % (400 : Int64)) = (0 : Int64) ∧ v4 = x1) ∨ (¬ ((q0 % (400 : Int64)) = (0 : Int64)) ∧ q0 < (0 : Int64) ∧ v4 = (x1 - (1 : Int64))) ∨ (¬ ((q0 % (400 : Int64)) = (0 : Int64)) ∧ ¬ (q0 < (0 : Int64)) ∧ v4 = x1) → Go p e below s (Q2_400 Z q0 h0 n0) 0 0 (T6.setTop (mkF m 25 #[.val (.long q0), .second, .val (.long (400 : Int64)), .second, .val (.long v4), .second] [])) := by
    intro T6 lj7 v4 X8 e9 N10 hj11
    show Go _ _ _ _ _ _ _ (T6.setTop (mkF m 25 #[.val (.long q0), .second, .val (.long (400 : Int64)), .second, .val (.long v4), .second] []))
    refine gob (fun _ k => XS.lload X8.here hx rfl (hb hby d2_25) rfl k) ?_
    show Go _ _ _ _ _ _ _ (T6.setTop (mkF m 27 #[.val (.long q0), .second, .val (.long (400 : Int64)), .second, .val (.long v4), .second] [(.long v4)]))
    refine goJ X8 hx hlk Bd.returns (hb hby d2_27) ?_ (by decide) (by decide)
    show Q2_400 Z q0 h0 n0 (some (.long v4)) T6.heap _
    exact ⟨v4, rfl, lf_2_400_0 q0 x1 v4 hx1 hj11, N10, e9⟩
  by_cases hc10_12 : (q0 % (400 : Int64)) = (0 : Int64)
  · skip
    refine gob (fun _ k => XS.ifYes X0.here hx rfl (pc0 := 10) (pc' := 25) rfl (hb hby d2_10) rfl ((if0 _ _).trans (teq ((lw_eq _ _).mpr hc10_12)).1) (by decide) (by decide) k) ?_
    show Go _ _ _ _ _ _ _ (s₁.setTop (mkF m 25 #[.val (.long q0), .second, .val (.long (400 : Int64)), .second, .val (.long x1), .second] []))
    exact join25_5 _ _ (x1) X0 e0 N0 (Or.inl ⟨hc10_12, rfl⟩)
  · skip
    refine gob (fun _ k => XS.ifNo X0.here hx rfl (hb hby d2_10) rfl ((if0 _ _).trans (feq (mt (lw_eq _ _).mp hc10_12)).1) k) ?_
    show Go _ _ _ _ _ _ _ (s₁.setTop (mkF m 13 #[.val (.long q0), .second, .val (.long (400 : Int64)), .second, .val (.long x1), .second] []))
    refine gob (fun _ k => XS.lloadN X0.here hx rfl (hb hby d2_13) rfl k) ?_
    show Go _ _ _ _ _ _ _ (s₁.setTop (mkF m 14 #[.val (.long q0), .second, .val (.long (400 : Int64)), .second, .val (.long x1), .second] [(.long q0)]))
    refine gob (fun _ k => XS.lconst X0.here hx rfl (hb hby d2_14) k) ?_
    show Go _ _ _ _ _ _ _ (s₁.setTop (mkF m 15 #[.val (.long q0), .second, .val (.long (400 : Int64)), .second, .val (.long x1), .second] [(.long (0 : Int64)), (.long q0)]))
    refine gob (fun _ k => XS.lcmp X0.here hx rfl (hb hby d2_15) rfl k) ?_
    show Go _ _ _ _ _ _ _ (s₁.setTop (mkF m 16 #[.val (.long q0), .second, .val (.long (400 : Int64)), .second, .val (.long x1), .second] [(.int (lcmpW q0 (0 : Int64)))]))
    by_cases hc16_13 : q0 < (0 : Int64)
    · skip
      refine gob (fun _ k => XS.ifNo X0.here hx rfl (hb hby d2_16) rfl ((if0 _ _).trans (tlt ((lw_lt _ _).mpr hc16_13)).2.1) k) ?_
      show Go _ _ _ _ _ _ _ (s₁.setTop (mkF m 19 #[.val (.long q0), .second, .val (.long (400 : Int64)), .second, .val (.long x1), .second] []))
      refine gob (fun _ k => XS.lload X0.here hx rfl (hb hby d2_19) rfl k) ?_
      show Go _ _ _ _ _ _ _ (s₁.setTop (mkF m 21 #[.val (.long q0), .second, .val (.long (400 : Int64)), .second, .val (.long x1), .second] [(.long x1)]))
      refine gob (fun _ k => XS.lconst X0.here hx rfl (hb hby d2_21) k) ?_
      show Go _ _ _ _ _ _ _ (s₁.setTop (mkF m 22 #[.val (.long q0), .second, .val (.long (400 : Int64)), .second, .val (.long x1), .second] [(.long (1 : Int64)), (.long x1)]))
      refine gob (fun _ k => XS.lsub X0.here hx rfl (hb hby d2_22) rfl k) ?_
      show Go _ _ _ _ _ _ _ (s₁.setTop (mkF m 23 #[.val (.long q0), .second, .val (.long (400 : Int64)), .second, .val (.long x1), .second] [(.long (x1 - (1 : Int64)))]))
      refine gob (fun _ k => XS.lstore X0.here hx rfl (hb hby d2_23) rfl (l' := #[.val (.long q0), .second, .val (.long (400 : Int64)), .second, .val (.long (x1 - (1 : Int64))), .second]) rfl k) ?_
      show Go _ _ _ _ _ _ _ (s₁.setTop (mkF m 25 #[.val (.long q0), .second, .val (.long (400 : Int64)), .second, .val (.long (x1 - (1 : Int64))), .second] []))
      exact join25_5 _ _ ((x1 - (1 : Int64))) X0 e0 N0 (Or.inr (Or.inl ⟨hc10_12, hc16_13, rfl⟩))
    · skip
      refine gob (fun _ k => XS.ifYes X0.here hx rfl (pc0 := 16) (pc' := 25) rfl (hb hby d2_16) rfl ((if0 _ _).trans (flt (mt (lw_lt _ _).mp hc16_13)).2.1) (by decide) (by decide) k) ?_
      show Go _ _ _ _ _ _ _ (s₁.setTop (mkF m 25 #[.val (.long q0), .second, .val (.long (400 : Int64)), .second, .val (.long x1), .second] []))
      exact join25_5 _ _ (x1) X0 e0 N0 (Or.inr (Or.inr ⟨hc10_12, hc16_13, rfl⟩))
theorem d1_0 : decode method_4_code 0 = .ok (.lload_n 0, 1) := by decide +kernel
theorem d1_1 : decode method_4_code 1 = .ok (.ldc2_w 10, 3) := by decide +kernel
theorem d1_4 : decode method_4_code 4 = .ok (.invokestatic 37, 3) := by decide +kernel
theorem d1_7 : decode method_4_code 7 = .ok (.lload_n 0, 1) := by decide +kernel
theorem d1_8 : decode method_4_code 8 = .ok (.ldc2_w 12, 3) := by decide +kernel
theorem d1_11 : decode method_4_code 11 = .ok (.invokestatic 37, 3) := by decide +kernel
theorem d1_14 : decode method_4_code 14 = .ok (.lsub, 1) := by decide +kernel
theorem d1_15 : decode method_4_code 15 = .ok (.lload_n 0, 1) := by decide +kernel
theorem d1_16 : decode method_4_code 16 = .ok (.ldc2_w 14, 3) := by decide +kernel
theorem d1_19 : decode method_4_code 19 = .ok (.invokestatic 37, 3) := by decide +kernel
theorem d1_22 : decode method_4_code 22 = .ok (.ladd, 1) := by decide +kernel
theorem d1_23 : decode method_4_code 23 = .ok (.lreturn, 1) := by decide +kernel
theorem pd_1 : parseMethodDescriptor "(JJ)J" = some ⟨[.long, .long], some .long⟩ := by decide +kernel
theorem ef_1 (m : MethodId) (x0 : Int64) : entryFrame m #[(.long x0)] 2 = mkF m 0 #[.val (.long x0), .second] [] := by first | (simp [entryFrame, mkF, argsToLocals, Value.category]; done) | rfl
def Q1 (Z : State) (q0 : Int64) (h0 : Heap) (n0 : Nat) (v : Option Value) (h : Heap) (L : List Loc) : Prop := ∃ r : Int64, v = some (.long r) ∧ (r.toInt = q0.toInt / 4 - q0.toInt / 100 + q0.toInt / 400) ∧ Fr n0 L ∧ h = h0
theorem lf_1_0 (q0 : Int64) (r1 : Int64) (r2 : Int64) (r3 : Int64) (hr1 : r1.toInt = q0.toInt / 4) (hr2 : r2.toInt = q0.toInt / 100) (hr3 : r3.toInt = q0.toInt / 400) : ((r1 - r2) + r3).toInt = q0.toInt / 4 - q0.toInt / 100 + q0.toInt / 400 := by
  have := rng64 q0
  have := rng64 r1
  have := rng64 r2
  have := rng64 r3
  have := c_lsub r1 r2
  have := rng64 (r1 - r2)
  have := c_ladd (r1 - r2) r3
  have := rng64 ((r1 - r2) + r3)
  try (simp only [Int32.lt_iff_toInt_lt, Int32.le_iff_toInt_le, Int64.lt_iff_toInt_lt, Int64.le_iff_toInt_le, ← Int32.toInt_inj, ← Int64.toInt_inj, ne_eq] at *)
  omega
set_option maxRecDepth 65536 in
set_option maxHeartbeats 40000000 in
theorem rm1 (l : Launch) (Z : State) (a0 : Array Value) (hw : ∀ d ∈ tables_1, d.before a0 Z = true) (ws : List Jvm.Cond) (q0 : Int64) (h0 : Heap) (n0 : Nat) (Z0 : n0 ≤ h0.size) :
    MetFree l (⟨"com/example/cairnlog/cairnlog/CivilDateEpochDayPinLaw", "leapsUpTo", "(J)J"⟩ : MethodName) (head1 (Jvm.Cond.code (⟨"com/example/cairnlog/cairnlog/CivilDateEpochDayPinLaw", "leapsUpTo", "(J)J"⟩ : MethodName) method_4_code 2 (some .long) :: ws) ({ frames := 1, cells := 0, slots := 0, locals := 19 } : Room)) (fun a U => a = #[(.long q0)] ∧ Z.Warmed39 U.vm ∧ U.heap = h0) (fun _ _ _ _ _ => True) (fun _ U o U' => ∃ v L, o = .returned v ∧ Q1 Z q0 h0 n0 v U'.heap L ∧ FrameEnd U o U' L ({ frames := 1, cells := 0, slots := 0, locals := 19 } : Room).cells ({ frames := 1, cells := 0, slots := 0, locals := 19 } : Room).slots) := by
  refine MetFree.of_bodySF (plainFor_of_name (by first | (simp [plainName, overriddenIn]; done) | decide +kernel)) hisR ?_
  intro p e s m args below meth c s₁ Bd hml0 hP hK
  obtain ⟨rfl, hZ, hh⟩ := hP
  have hx := Bd.exec
  have hby := Bd.bytes
  have hml : c.maxLocals = 2 := hml0
  have hown : s.vm.findClass "com/example/cairnlog/cairnlog/CivilDateEpochDayPinLaw" = some m.cls := findClass_of_methodNamed Bd.named
  have hnm := (name_of_methodNamed Bd.named Bd.method).1
  have hlk := BodyLoose.notSynchronized Bd
  have X0 : Stand p l e ({ frames := 1, cells := 0, slots := 0, locals := 19 } : Room) s m #[(.long q0)] below meth c s₁ [] 0 0 := Stand.of_body Bd
  have e0 : s₁.heap = h0 := by rw [← hh, Bd.state]; rfl
  have N0 := Fr.nil n0
  show Go p e below s (Q1 Z q0 h0 n0) 0 0 (s₁.setTop (entryFrame m #[(.long q0)] 2))
  rw [ef_1]
  show Go _ _ _ _ _ _ _ (s₁.setTop (mkF m 0 #[.val (.long q0), .second] []))
  refine gob (fun _ k => XS.lloadN X0.here hx rfl (hb hby d1_0) rfl k) ?_
  show Go _ _ _ _ _ _ _ (s₁.setTop (mkF m 1 #[.val (.long q0), .second] [(.long q0)]))
  refine gob (X0.ldc2Long hx hown (mvT hZ (hw _ (List.mem_of_getElem? (i := 2) rfl))) (g := (mkF m 1 #[.val (.long q0), .second] [(.long q0)])) rfl (hb hby d1_1)) ?_
  show Go _ _ _ _ _ _ _ (s₁.setTop (mkF m 4 #[.val (.long q0), .second] [(.long (4 : Int64)), (.long q0)]))
  obtain ⟨_, _, ⟨T1, L1, k1, n1⟩, -, X1, ⟨Lc1, hQ1, l1, y1, z1⟩, st1⟩ := Jvm.LawKit.callS X0 hx (y := (⟨"com/example/cairnlog/cairnlog/CivilDateEpochDayPinLaw", "floorDiv", "(JJ)J"⟩ : MethodName)) hown (mvT hZ (hw _ (List.mem_of_getElem? (i := 10) rfl))) (mvT hZ (hw _ (List.mem_of_getElem? (i := 11) rfl))) (mvT hZ (hw _ (List.mem_of_getElem? (i := 8) rfl))) (mvT hZ (hw _ (List.mem_of_getElem? (i := 12) rfl))) (by decide) (backOf (W := 0) (rm2_4 l Z a0 hw [] q0 h0 n0 Z0 ) hZ (hw _ (List.mem_of_getElem? (i := 12) rfl)) (hw _ (List.mem_of_getElem? (i := 8) rfl)) (by decide) (by decide)) (g := (mkF m 4 #[.val (.long q0), .second] [(.long (4 : Int64)), (.long q0)])) rfl (by rw [hml]; rfl) (argsL := [(.long q0), (.long (4 : Int64))]) (rest := []) (lenOf pd_1 rfl) rfl (by show 2 * 0 + _ ≤ _; exact Nat.le_of_eq rfl) (hb hby d1_4) (fun _ _ => ⟨rfl, e0, (by decide : 0 + 0 ≤ _), (by decide : 0 + 0 ≤ _)⟩)
  dsimp only [Pt.U, Pt.locs, Pt.cells, Pt.slots] at X1 l1 y1 z1 st1 hQ1
  subst l1 y1 z1
  obtain ⟨r1, rfl, hr1, Nq1, e1⟩ := hQ1
  have N1 := Fr.app N0 Nq1
  refine gob st1 ?_
  show Go _ _ _ _ _ _ _ (T1.setTop (mkF m 7 #[.val (.long q0), .second] [(.long r1)]))
  refine gob (fun _ k => XS.lloadN X1.here hx rfl (hb hby d1_7) rfl k) ?_
  show Go _ _ _ _ _ _ _ (T1.setTop (mkF m 8 #[.val (.long q0), .second] [(.long q0), (.long r1)]))
  refine gob (X1.ldc2Long hx hown (mvT hZ (hw _ (List.mem_of_getElem? (i := 13) rfl))) (g := (mkF m 8 #[.val (.long q0), .second] [(.long q0), (.long r1)])) rfl (hb hby d1_8)) ?_
  show Go _ _ _ _ _ _ _ (T1.setTop (mkF m 11 #[.val (.long q0), .second] [(.long (100 : Int64)), (.long q0), (.long r1)]))
  obtain ⟨_, _, ⟨T2, L2, k2, n2⟩, -, X2, ⟨Lc2, hQ2, l2, y2, z2⟩, st2⟩ := Jvm.LawKit.callS X1 hx (y := (⟨"com/example/cairnlog/cairnlog/CivilDateEpochDayPinLaw", "floorDiv", "(JJ)J"⟩ : MethodName)) hown (mvT hZ (hw _ (List.mem_of_getElem? (i := 10) rfl))) (mvT hZ (hw _ (List.mem_of_getElem? (i := 11) rfl))) (mvT hZ (hw _ (List.mem_of_getElem? (i := 8) rfl))) (mvT hZ (hw _ (List.mem_of_getElem? (i := 12) rfl))) (by decide) (backOf (W := 2) (rm2_100 l Z a0 hw [] q0 h0 n0 Z0 ) hZ (hw _ (List.mem_of_getElem? (i := 12) rfl)) (hw _ (List.mem_of_getElem? (i := 8) rfl)) (by decide) (by decide)) (g := (mkF m 11 #[.val (.long q0), .second] [(.long (100 : Int64)), (.long q0), (.long r1)])) rfl (by rw [hml]; rfl) (argsL := [(.long q0), (.long (100 : Int64))]) (rest := [(.long r1)]) (lenOf pd_1 rfl) rfl (by show 2 * 0 + _ ≤ _; exact Nat.le_of_eq rfl) (hb hby d1_11) (fun _ _ => ⟨rfl, e1, (by decide : 0 + 0 ≤ _), (by decide : 0 + 0 ≤ _)⟩)
  dsimp only [Pt.U, Pt.locs, Pt.cells, Pt.slots] at X2 l2 y2 z2 st2 hQ2
  subst l2 y2 z2
  obtain ⟨r2, rfl, hr2, Nq2, e2⟩ := hQ2
  have N2 := Fr.app N1 Nq2
  refine gob st2 ?_
  show Go _ _ _ _ _ _ _ (T2.setTop (mkF m 14 #[.val (.long q0), .second] [(.long r2), (.long r1)]))
  refine gob (fun _ k => XS.lsub X2.here hx rfl (hb hby d1_14) rfl k) ?_
  show Go _ _ _ _ _ _ _ (T2.setTop (mkF m 15 #[.val (.long q0), .second] [(.long (r1 - r2))]))
  refine gob (fun _ k => XS.lloadN X2.here hx rfl (hb hby d1_15) rfl k) ?_
  show Go _ _ _ _ _ _ _ (T2.setTop (mkF m 16 #[.val (.long q0), .second] [(.long q0), (.long (r1 - r2))]))
  refine gob (X2.ldc2Long hx hown (mvT hZ (hw _ (List.mem_of_getElem? (i := 14) rfl))) (g := (mkF m 16 #[.val (.long q0), .second] [(.long q0), (.long (r1 - r2))])) rfl (hb hby d1_16)) ?_
  show Go _ _ _ _ _ _ _ (T2.setTop (mkF m 19 #[.val (.long q0), .second] [(.long (400 : Int64)), (.long q0), (.long (r1 - r2))]))
  obtain ⟨_, _, ⟨T3, L3, k3, n3⟩, -, X3, ⟨Lc3, hQ3, l3, y3, z3⟩, st3⟩ := Jvm.LawKit.callS X2 hx (y := (⟨"com/example/cairnlog/cairnlog/CivilDateEpochDayPinLaw", "floorDiv", "(JJ)J"⟩ : MethodName)) hown (mvT hZ (hw _ (List.mem_of_getElem? (i := 10) rfl))) (mvT hZ (hw _ (List.mem_of_getElem? (i := 11) rfl))) (mvT hZ (hw _ (List.mem_of_getElem? (i := 8) rfl))) (mvT hZ (hw _ (List.mem_of_getElem? (i := 12) rfl))) (by decide) (backOf (W := 2) (rm2_400 l Z a0 hw [] q0 h0 n0 Z0 ) hZ (hw _ (List.mem_of_getElem? (i := 12) rfl)) (hw _ (List.mem_of_getElem? (i := 8) rfl)) (by decide) (by decide)) (g := (mkF m 19 #[.val (.long q0), .second] [(.long (400 : Int64)), (.long q0), (.long (r1 - r2))])) rfl (by rw [hml]; rfl) (argsL := [(.long q0), (.long (400 : Int64))]) (rest := [(.long (r1 - r2))]) (lenOf pd_1 rfl) rfl (by show 2 * 0 + _ ≤ _; exact Nat.le_of_eq rfl) (hb hby d1_19) (fun _ _ => ⟨rfl, e2, (by decide : 0 + 0 ≤ _), (by decide : 0 + 0 ≤ _)⟩)
  dsimp only [Pt.U, Pt.locs, Pt.cells, Pt.slots] at X3 l3 y3 z3 st3 hQ3
  subst l3 y3 z3
  obtain ⟨r3, rfl, hr3, Nq3, e3⟩ := hQ3
  have N3 := Fr.app N2 Nq3
  refine gob st3 ?_
  show Go _ _ _ _ _ _ _ (T3.setTop (mkF m 22 #[.val (.long q0), .second] [(.long r3), (.long (r1 - r2))]))
  refine gob (fun _ k => XS.ladd X3.here hx rfl (hb hby d1_22) rfl k) ?_
  show Go _ _ _ _ _ _ _ (T3.setTop (mkF m 23 #[.val (.long q0), .second] [(.long ((r1 - r2) + r3))]))
  refine goJ X3 hx hlk Bd.returns (hb hby d1_23) ?_ (by decide) (by decide)
  show Q1 Z q0 h0 n0 (some (.long ((r1 - r2) + r3))) T3.heap _
  exact ⟨((r1 - r2) + r3), rfl, lf_1_0 q0 r1 r2 r3 hr1 hr2 hr3, N3, e3⟩
theorem d8_0 : decode jdk_29_method_49_code 0 = .ok (.lload_n 0, 1) := by decide +kernel
theorem d8_1 : decode jdk_29_method_49_code 1 = .ok (.lload_n 2, 1) := by decide +kernel
theorem d8_2 : decode jdk_29_method_49_code 2 = .ok (.ldiv, 1) := by decide +kernel
theorem d8_3 : decode jdk_29_method_49_code 3 = .ok (.lstore 4, 2) := by decide +kernel
theorem d8_5 : decode jdk_29_method_49_code 5 = .ok (.lload_n 0, 1) := by decide +kernel
theorem d8_6 : decode jdk_29_method_49_code 6 = .ok (.lload_n 2, 1) := by decide +kernel
theorem d8_7 : decode jdk_29_method_49_code 7 = .ok (.lxor, 1) := by decide +kernel
theorem d8_8 : decode jdk_29_method_49_code 8 = .ok (.lconst 0, 1) := by decide +kernel
theorem d8_9 : decode jdk_29_method_49_code 9 = .ok (.lcmp, 1) := by decide +kernel
theorem d8_10 : decode jdk_29_method_49_code 10 = .ok (.ifCond .ge 17, 3) := by decide +kernel
theorem d8_13 : decode jdk_29_method_49_code 13 = .ok (.lload 4, 2) := by decide +kernel
theorem d8_15 : decode jdk_29_method_49_code 15 = .ok (.lload_n 2, 1) := by decide +kernel
theorem d8_16 : decode jdk_29_method_49_code 16 = .ok (.lmul, 1) := by decide +kernel
theorem d8_17 : decode jdk_29_method_49_code 17 = .ok (.lload_n 0, 1) := by decide +kernel
theorem d8_18 : decode jdk_29_method_49_code 18 = .ok (.lcmp, 1) := by decide +kernel
theorem d8_19 : decode jdk_29_method_49_code 19 = .ok (.ifCond .eq 8, 3) := by decide +kernel
theorem d8_22 : decode jdk_29_method_49_code 22 = .ok (.lload 4, 2) := by decide +kernel
theorem d8_24 : decode jdk_29_method_49_code 24 = .ok (.lconst 1, 1) := by decide +kernel
theorem d8_25 : decode jdk_29_method_49_code 25 = .ok (.lsub, 1) := by decide +kernel
theorem d8_26 : decode jdk_29_method_49_code 26 = .ok (.lreturn, 1) := by decide +kernel
theorem d8_27 : decode jdk_29_method_49_code 27 = .ok (.lload 4, 2) := by decide +kernel
theorem d8_29 : decode jdk_29_method_49_code 29 = .ok (.lreturn, 1) := by decide +kernel
theorem ef_8 (m : MethodId) (x0 : Int64) : entryFrame m #[(.long x0), (.long (400 : Int64))] 6 = mkF m 0 #[.val (.long x0), .second, .val (.long (400 : Int64)), .second, .unset, .unset] [] := by first | (simp [entryFrame, mkF, argsToLocals, Value.category]; done) | rfl
def Q8 (Z : State) (q0 : Int64) (h0 : Heap) (n0 : Nat) (v : Option Value) (h : Heap) (L : List Loc) : Prop := ∃ r : Int64, v = some (.long r) ∧ (r.toInt = q0.toInt / 400) ∧ Fr n0 L ∧ h = h0
theorem lf_8_0 (q0 : Int64) (x1 : Int64) (hx1 : (q0 / (400 : Int64)) = x1) (hc10_2 : (q0 ^^^ (400 : Int64)) < (0 : Int64)) (hc19_3 : (x1 * (400 : Int64)) = q0) : x1.toInt = q0.toInt / 400 := by
  have := own_dm_400 q0 x1 hx1
  have := rng64 q0
  have := rng64 x1
  have : (0 : Int64).toInt = 0 := by decide
  have : (400 : Int64).toInt = 400 := by decide
  have := c_ldiv q0 (400 : Int64) (400) (by decide) (by decide)
  have := rng64 (q0 / (400 : Int64))
  have := own_lxor q0 (400 : Int64) (by decide)
  have := own_lmulR x1 (400 : Int64) (400) (by decide)
  have := rng64 (x1 * (400 : Int64))
  try (simp only [Int32.lt_iff_toInt_lt, Int32.le_iff_toInt_le, Int64.lt_iff_toInt_lt, Int64.le_iff_toInt_le, ← Int32.toInt_inj, ← Int64.toInt_inj, ne_eq] at *)
  omega
theorem lf_8_1 (q0 : Int64) (x1 : Int64) (hx1 : (q0 / (400 : Int64)) = x1) (hc10_2 : (q0 ^^^ (400 : Int64)) < (0 : Int64)) (hc19_3 : ¬ ((x1 * (400 : Int64)) = q0)) : (x1 - (1 : Int64)).toInt = q0.toInt / 400 := by
  have := own_dm_400 q0 x1 hx1
  have := rng64 q0
  have := rng64 x1
  have : (0 : Int64).toInt = 0 := by decide
  have : (1 : Int64).toInt = 1 := by decide
  have : (400 : Int64).toInt = 400 := by decide
  have := c_lsub x1 (1 : Int64)
  have := rng64 (x1 - (1 : Int64))
  have := c_ldiv q0 (400 : Int64) (400) (by decide) (by decide)
  have := rng64 (q0 / (400 : Int64))
  have := own_lxor q0 (400 : Int64) (by decide)
  have := own_lmulR x1 (400 : Int64) (400) (by decide)
  have := rng64 (x1 * (400 : Int64))
  try (simp only [Int32.lt_iff_toInt_lt, Int32.le_iff_toInt_le, Int64.lt_iff_toInt_lt, Int64.le_iff_toInt_le, ← Int32.toInt_inj, ← Int64.toInt_inj, ne_eq] at *)
  omega
theorem lf_8_2 (q0 : Int64) (x1 : Int64) (hx1 : (q0 / (400 : Int64)) = x1) (hc10_2 : ¬ ((q0 ^^^ (400 : Int64)) < (0 : Int64))) : x1.toInt = q0.toInt / 400 := by
  have := own_dm_400 q0 x1 hx1
  have := rng64 q0
  have := rng64 x1
  have : (0 : Int64).toInt = 0 := by decide
  have : (400 : Int64).toInt = 400 := by decide
  have := c_ldiv q0 (400 : Int64) (400) (by decide) (by decide)
  have := rng64 (q0 / (400 : Int64))
  have := own_lxor q0 (400 : Int64) (by decide)
  try (simp only [Int32.lt_iff_toInt_lt, Int32.le_iff_toInt_le, Int64.lt_iff_toInt_lt, Int64.le_iff_toInt_le, ← Int32.toInt_inj, ← Int64.toInt_inj, ne_eq] at *)
  omega
set_option maxRecDepth 65536 in
set_option maxHeartbeats 40000000 in
theorem rm8 (l : Launch) (Z : State) (a0 : Array Value) (hw : ∀ d ∈ tables_1, d.before a0 Z = true) (ws : List Jvm.Cond) (q0 : Int64) (h0 : Heap) (n0 : Nat) (Z0 : n0 ≤ h0.size) :
    MetFree l (⟨"java/lang/Math", "floorDiv", "(JJ)J"⟩ : MethodName) (head1 (Jvm.Cond.code (⟨"java/lang/Math", "floorDiv", "(JJ)J"⟩ : MethodName) jdk_29_method_49_code 6 (some .long) :: ws) ({ frames := 0, cells := 0, slots := 0, locals := 0 } : Room)) (fun a U => a = #[(.long q0), (.long (400 : Int64))] ∧ Z.Warmed39 U.vm ∧ U.heap = h0) (fun _ _ _ _ _ => True) (fun _ U o U' => ∃ v L, o = .returned v ∧ Q8 Z q0 h0 n0 v U'.heap L ∧ FrameEnd U o U' L ({ frames := 0, cells := 0, slots := 0, locals := 0 } : Room).cells ({ frames := 0, cells := 0, slots := 0, locals := 0 } : Room).slots) := by
  refine MetFree.of_bodySF (Jvm.Free.JP.mathPlain rfl (by decide +kernel)) hisR ?_
  intro p e s m args below meth c s₁ Bd hml0 hP hK
  obtain ⟨rfl, hZ, hh⟩ := hP
  have hx := Bd.exec
  have hby := Bd.bytes
  have hml : c.maxLocals = 6 := hml0
  have hown : s.vm.findClass "java/lang/Math" = some m.cls := findClass_of_methodNamed Bd.named
  have hnm := (name_of_methodNamed Bd.named Bd.method).1
  have hlk := BodyLoose.notSynchronized Bd
  have X0 : Stand p l e ({ frames := 0, cells := 0, slots := 0, locals := 0 } : Room) s m #[(.long q0), (.long (400 : Int64))] below meth c s₁ [] 0 0 := Stand.of_body Bd
  have e0 : s₁.heap = h0 := by rw [← hh, Bd.state]; rfl
  have N0 := Fr.nil n0
  show Go p e below s (Q8 Z q0 h0 n0) 0 0 (s₁.setTop (entryFrame m #[(.long q0), (.long (400 : Int64))] 6))
  rw [ef_8]
  show Go _ _ _ _ _ _ _ (s₁.setTop (mkF m 0 #[.val (.long q0), .second, .val (.long (400 : Int64)), .second, .unset, .unset] []))
  refine gob (fun _ k => XS.lloadN X0.here hx rfl (hb hby d8_0) rfl k) ?_
  show Go _ _ _ _ _ _ _ (s₁.setTop (mkF m 1 #[.val (.long q0), .second, .val (.long (400 : Int64)), .second, .unset, .unset] [(.long q0)]))
  refine gob (fun _ k => XS.lloadN X0.here hx rfl (hb hby d8_1) rfl k) ?_
  show Go _ _ _ _ _ _ _ (s₁.setTop (mkF m 2 #[.val (.long q0), .second, .val (.long (400 : Int64)), .second, .unset, .unset] [(.long (400 : Int64)), (.long q0)]))
  refine gob (fun _ k => XS.ldiv X0.here hx rfl (hb hby d8_2) rfl (by decide) k) ?_
  show Go _ _ _ _ _ _ _ (s₁.setTop (mkF m 3 #[.val (.long q0), .second, .val (.long (400 : Int64)), .second, .unset, .unset] [(.long (q0 / (400 : Int64)))]))
  refine gob (fun _ k => XS.lstore X0.here hx rfl (hb hby d8_3) rfl (l' := #[.val (.long q0), .second, .val (.long (400 : Int64)), .second, .val (.long (q0 / (400 : Int64))), .second]) rfl k) ?_
  show Go _ _ _ _ _ _ _ (s₁.setTop (mkF m 5 #[.val (.long q0), .second, .val (.long (400 : Int64)), .second, .val (.long (q0 / (400 : Int64))), .second] []))
  generalize hx1 : (q0 / (400 : Int64)) = x1
  show Go _ _ _ _ _ _ _ (s₁.setTop (mkF m 5 #[.val (.long q0), .second, .val (.long (400 : Int64)), .second, .val (.long x1), .second] []))
  refine gob (fun _ k => XS.lloadN X0.here hx rfl (hb hby d8_5) rfl k) ?_
  show Go _ _ _ _ _ _ _ (s₁.setTop (mkF m 6 #[.val (.long q0), .second, .val (.long (400 : Int64)), .second, .val (.long x1), .second] [(.long q0)]))
  refine gob (fun _ k => XS.lloadN X0.here hx rfl (hb hby d8_6) rfl k) ?_
  show Go _ _ _ _ _ _ _ (s₁.setTop (mkF m 7 #[.val (.long q0), .second, .val (.long (400 : Int64)), .second, .val (.long x1), .second] [(.long (400 : Int64)), (.long q0)]))
  refine gob (fun _ k => XS.lxor X0.here hx rfl (hb hby d8_7) rfl k) ?_
  show Go _ _ _ _ _ _ _ (s₁.setTop (mkF m 8 #[.val (.long q0), .second, .val (.long (400 : Int64)), .second, .val (.long x1), .second] [(.long (q0 ^^^ (400 : Int64)))]))
  refine gob (fun _ k => XS.lconst X0.here hx rfl (hb hby d8_8) k) ?_
  show Go _ _ _ _ _ _ _ (s₁.setTop (mkF m 9 #[.val (.long q0), .second, .val (.long (400 : Int64)), .second, .val (.long x1), .second] [(.long (0 : Int64)), (.long (q0 ^^^ (400 : Int64)))]))
  refine gob (fun _ k => XS.lcmp X0.here hx rfl (hb hby d8_9) rfl k) ?_
  show Go _ _ _ _ _ _ _ (s₁.setTop (mkF m 10 #[.val (.long q0), .second, .val (.long (400 : Int64)), .second, .val (.long x1), .second] [(.int (lcmpW (q0 ^^^ (400 : Int64)) (0 : Int64)))]))
  by_cases hc10_2 : (q0 ^^^ (400 : Int64)) < (0 : Int64)
  · skip
    refine gob (fun _ k => XS.ifNo X0.here hx rfl (hb hby d8_10) rfl ((if0 _ _).trans (tlt ((lw_lt _ _).mpr hc10_2)).2.1) k) ?_
    show Go _ _ _ _ _ _ _ (s₁.setTop (mkF m 13 #[.val (.long q0), .second, .val (.long (400 : Int64)), .second, .val (.long x1), .second] []))
    refine gob (fun _ k => XS.lload X0.here hx rfl (hb hby d8_13) rfl k) ?_
    show Go _ _ _ _ _ _ _ (s₁.setTop (mkF m 15 #[.val (.long q0), .second, .val (.long (400 : Int64)), .second, .val (.long x1), .second] [(.long x1)]))
    refine gob (fun _ k => XS.lloadN X0.here hx rfl (hb hby d8_15) rfl k) ?_
    show Go _ _ _ _ _ _ _ (s₁.setTop (mkF m 16 #[.val (.long q0), .second, .val (.long (400 : Int64)), .second, .val (.long x1), .second] [(.long (400 : Int64)), (.long x1)]))
    refine gob (fun _ k => XS.lmul X0.here hx rfl (hb hby d8_16) rfl k) ?_
    show Go _ _ _ _ _ _ _ (s₁.setTop (mkF m 17 #[.val (.long q0), .second, .val (.long (400 : Int64)), .second, .val (.long x1), .second] [(.long (x1 * (400 : Int64)))]))
    refine gob (fun _ k => XS.lloadN X0.here hx rfl (hb hby d8_17) rfl k) ?_
    show Go _ _ _ _ _ _ _ (s₁.setTop (mkF m 18 #[.val (.long q0), .second, .val (.long (400 : Int64)), .second, .val (.long x1), .second] [(.long q0), (.long (x1 * (400 : Int64)))]))
    refine gob (fun _ k => XS.lcmp X0.here hx rfl (hb hby d8_18) rfl k) ?_
    show Go _ _ _ _ _ _ _ (s₁.setTop (mkF m 19 #[.val (.long q0), .second, .val (.long (400 : Int64)), .second, .val (.long x1), .second] [(.int (lcmpW (x1 * (400 : Int64)) q0))]))
    by_cases hc19_3 : (x1 * (400 : Int64)) = q0
    · skip
      refine gob (fun _ k => XS.ifYes X0.here hx rfl (pc0 := 19) (pc' := 27) rfl (hb hby d8_19) rfl ((if0 _ _).trans (teq ((lw_eq _ _).mpr hc19_3)).1) (by decide) (by decide) k) ?_
      show Go _ _ _ _ _ _ _ (s₁.setTop (mkF m 27 #[.val (.long q0), .second, .val (.long (400 : Int64)), .second, .val (.long x1), .second] []))
      refine gob (fun _ k => XS.lload X0.here hx rfl (hb hby d8_27) rfl k) ?_
      show Go _ _ _ _ _ _ _ (s₁.setTop (mkF m 29 #[.val (.long q0), .second, .val (.long (400 : Int64)), .second, .val (.long x1), .second] [(.long x1)]))
      refine goJ X0 hx hlk Bd.returns (hb hby d8_29) ?_ (by decide) (by decide)
      show Q8 Z q0 h0 n0 (some (.long x1)) s₁.heap _
      exact ⟨x1, rfl, lf_8_0 q0 x1 hx1 hc10_2 hc19_3, N0, e0⟩
    · skip
      refine gob (fun _ k => XS.ifNo X0.here hx rfl (hb hby d8_19) rfl ((if0 _ _).trans (feq (mt (lw_eq _ _).mp hc19_3)).1) k) ?_
      show Go _ _ _ _ _ _ _ (s₁.setTop (mkF m 22 #[.val (.long q0), .second, .val (.long (400 : Int64)), .second, .val (.long x1), .second] []))
      refine gob (fun _ k => XS.lload X0.here hx rfl (hb hby d8_22) rfl k) ?_
      show Go _ _ _ _ _ _ _ (s₁.setTop (mkF m 24 #[.val (.long q0), .second, .val (.long (400 : Int64)), .second, .val (.long x1), .second] [(.long x1)]))
      refine gob (fun _ k => XS.lconst X0.here hx rfl (hb hby d8_24) k) ?_
      show Go _ _ _ _ _ _ _ (s₁.setTop (mkF m 25 #[.val (.long q0), .second, .val (.long (400 : Int64)), .second, .val (.long x1), .second] [(.long (1 : Int64)), (.long x1)]))
      refine gob (fun _ k => XS.lsub X0.here hx rfl (hb hby d8_25) rfl k) ?_
      show Go _ _ _ _ _ _ _ (s₁.setTop (mkF m 26 #[.val (.long q0), .second, .val (.long (400 : Int64)), .second, .val (.long x1), .second] [(.long (x1 - (1 : Int64)))]))
      refine goJ X0 hx hlk Bd.returns (hb hby d8_26) ?_ (by decide) (by decide)
      show Q8 Z q0 h0 n0 (some (.long (x1 - (1 : Int64)))) s₁.heap _
      exact ⟨(x1 - (1 : Int64)), rfl, lf_8_1 q0 x1 hx1 hc10_2 hc19_3, N0, e0⟩
  · skip
    refine gob (fun _ k => XS.ifYes X0.here hx rfl (pc0 := 10) (pc' := 27) rfl (hb hby d8_10) rfl ((if0 _ _).trans (flt (mt (lw_lt _ _).mp hc10_2)).2.1) (by decide) (by decide) k) ?_
    show Go _ _ _ _ _ _ _ (s₁.setTop (mkF m 27 #[.val (.long q0), .second, .val (.long (400 : Int64)), .second, .val (.long x1), .second] []))
    refine gob (fun _ k => XS.lload X0.here hx rfl (hb hby d8_27) rfl k) ?_
    show Go _ _ _ _ _ _ _ (s₁.setTop (mkF m 29 #[.val (.long q0), .second, .val (.long (400 : Int64)), .second, .val (.long x1), .second] [(.long x1)]))
    refine goJ X0 hx hlk Bd.returns (hb hby d8_29) ?_ (by decide) (by decide)
    show Q8 Z q0 h0 n0 (some (.long x1)) s₁.heap _
    exact ⟨x1, rfl, lf_8_2 q0 x1 hx1 hc10_2, N0, e0⟩
theorem d7_0 : decode jdk_29_method_48_code 0 = .ok (.lload_n 0, 1) := by decide +kernel
theorem d7_1 : decode jdk_29_method_48_code 1 = .ok (.iload_n 2, 1) := by decide +kernel
theorem d7_2 : decode jdk_29_method_48_code 2 = .ok (.i2l, 1) := by decide +kernel
theorem d7_3 : decode jdk_29_method_48_code 3 = .ok (.invokestatic 143, 3) := by decide +kernel
theorem d7_6 : decode jdk_29_method_48_code 6 = .ok (.lreturn, 1) := by decide +kernel
theorem ef_7 (m : MethodId) (x0 : Int64) : entryFrame m #[(.long x0), (.int (400 : Int32))] 3 = mkF m 0 #[.val (.long x0), .second, .val (.int (400 : Int32))] [] := by first | (simp [entryFrame, mkF, argsToLocals, Value.category]; done) | rfl
def Q7 (Z : State) (q0 : Int64) (h0 : Heap) (n0 : Nat) (v : Option Value) (h : Heap) (L : List Loc) : Prop := ∃ r : Int64, v = some (.long r) ∧ (r.toInt = q0.toInt / 400) ∧ Fr n0 L ∧ h = h0
theorem lf_7_0 (q0 : Int64) (r1 : Int64) (hr1 : r1.toInt = q0.toInt / 400) : r1.toInt = q0.toInt / 400 := by
  exact hr1
set_option maxRecDepth 65536 in
set_option maxHeartbeats 40000000 in
theorem rm7 (l : Launch) (Z : State) (a0 : Array Value) (hw : ∀ d ∈ tables_1, d.before a0 Z = true) (ws : List Jvm.Cond) (q0 : Int64) (h0 : Heap) (n0 : Nat) (Z0 : n0 ≤ h0.size) :
    MetFree l (⟨"java/lang/Math", "floorDiv", "(JI)J"⟩ : MethodName) (head1 (Jvm.Cond.code (⟨"java/lang/Math", "floorDiv", "(JI)J"⟩ : MethodName) jdk_29_method_48_code 3 (some .long) :: ws) ({ frames := 1, cells := 0, slots := 0, locals := 17 } : Room)) (fun a U => a = #[(.long q0), (.int (400 : Int32))] ∧ Z.Warmed39 U.vm ∧ U.heap = h0) (fun _ _ _ _ _ => True) (fun _ U o U' => ∃ v L, o = .returned v ∧ Q7 Z q0 h0 n0 v U'.heap L ∧ FrameEnd U o U' L ({ frames := 1, cells := 0, slots := 0, locals := 17 } : Room).cells ({ frames := 1, cells := 0, slots := 0, locals := 17 } : Room).slots) := by
  refine MetFree.of_bodySF (Jvm.Free.JP.mathPlain rfl (by decide +kernel)) hisR ?_
  intro p e s m args below meth c s₁ Bd hml0 hP hK
  obtain ⟨rfl, hZ, hh⟩ := hP
  have hx := Bd.exec
  have hby := Bd.bytes
  have hml : c.maxLocals = 3 := hml0
  have hown : s.vm.findClass "java/lang/Math" = some m.cls := findClass_of_methodNamed Bd.named
  have hnm := (name_of_methodNamed Bd.named Bd.method).1
  have hlk := BodyLoose.notSynchronized Bd
  have X0 : Stand p l e ({ frames := 1, cells := 0, slots := 0, locals := 17 } : Room) s m #[(.long q0), (.int (400 : Int32))] below meth c s₁ [] 0 0 := Stand.of_body Bd
  have e0 : s₁.heap = h0 := by rw [← hh, Bd.state]; rfl
  have N0 := Fr.nil n0
  show Go p e below s (Q7 Z q0 h0 n0) 0 0 (s₁.setTop (entryFrame m #[(.long q0), (.int (400 : Int32))] 3))
  rw [ef_7]
  show Go _ _ _ _ _ _ _ (s₁.setTop (mkF m 0 #[.val (.long q0), .second, .val (.int (400 : Int32))] []))
  refine gob (fun _ k => XS.lloadN X0.here hx rfl (hb hby d7_0) rfl k) ?_
  show Go _ _ _ _ _ _ _ (s₁.setTop (mkF m 1 #[.val (.long q0), .second, .val (.int (400 : Int32))] [(.long q0)]))
  refine gob (fun _ k => XS.iloadN X0.here hx rfl (hb hby d7_1) rfl k) ?_
  show Go _ _ _ _ _ _ _ (s₁.setTop (mkF m 2 #[.val (.long q0), .second, .val (.int (400 : Int32))] [(.int (400 : Int32)), (.long q0)]))
  refine gob (fun _ k => XS.i2l X0.here hx rfl (hb hby d7_2) rfl k) ?_
  show Go _ _ _ _ _ _ _ (s₁.setTop (mkF m 3 #[.val (.long q0), .second, .val (.int (400 : Int32))] [(.long (400 : Int64)), (.long q0)]))
  obtain ⟨_, _, ⟨T1, L1, k1, n1⟩, -, X1, ⟨Lc1, hQ1, l1, y1, z1⟩, st1⟩ := Jvm.LawKit.callS X0 hx (y := (⟨"java/lang/Math", "floorDiv", "(JJ)J"⟩ : MethodName)) hown (mvT hZ (hw _ (List.mem_of_getElem? (i := 45) rfl))) (mvT hZ (hw _ (List.mem_of_getElem? (i := 46) rfl))) (mvT hZ (hw _ (List.mem_of_getElem? (i := 43) rfl))) (mvT hZ (hw _ (List.mem_of_getElem? (i := 47) rfl))) (by decide) (backOf (W := 0) (rm8 l Z a0 hw [] q0 h0 n0 Z0 ) hZ (hw _ (List.mem_of_getElem? (i := 47) rfl)) (hw _ (List.mem_of_getElem? (i := 43) rfl)) (by decide) (by decide)) (g := (mkF m 3 #[.val (.long q0), .second, .val (.int (400 : Int32))] [(.long (400 : Int64)), (.long q0)])) rfl (by rw [hml]; rfl) (argsL := [(.long q0), (.long (400 : Int64))]) (rest := []) (lenOf pd_1 rfl) rfl (by show 2 * 0 + _ ≤ _; exact Nat.le_of_eq rfl) (hb hby d7_3) (fun _ _ => ⟨rfl, e0, (by decide : 0 + 0 ≤ _), (by decide : 0 + 0 ≤ _)⟩)
  dsimp only [Pt.U, Pt.locs, Pt.cells, Pt.slots] at X1 l1 y1 z1 st1 hQ1
  subst l1 y1 z1
  obtain ⟨r1, rfl, hr1, Nq1, e1⟩ := hQ1
  have N1 := Fr.app N0 Nq1
  refine gob st1 ?_
  show Go _ _ _ _ _ _ _ (T1.setTop (mkF m 6 #[.val (.long q0), .second, .val (.int (400 : Int32))] [(.long r1)]))
  refine goJ X1 hx hlk Bd.returns (hb hby d7_6) ?_ (by decide) (by decide)
  show Q7 Z q0 h0 n0 (some (.long r1)) T1.heap _
  exact ⟨r1, rfl, lf_7_0 q0 r1 hr1, N1, e1⟩
theorem d6_0 : decode prog_4_method_3_code 0 = .ok (.aload_n 0, 1) := by decide +kernel
theorem d6_1 : decode prog_4_method_3_code 1 = .ok (.getfield 13, 3) := by decide +kernel
theorem d6_4 : decode prog_4_method_3_code 4 = .ok (.iconst 2, 1) := by decide +kernel
theorem d6_5 : decode prog_4_method_3_code 5 = .ok (.if_icmp .gt 12, 3) := by decide +kernel
theorem d6_8 : decode prog_4_method_3_code 8 = .ok (.aload_n 0, 1) := by decide +kernel
theorem d6_9 : decode prog_4_method_3_code 9 = .ok (.getfield 7, 3) := by decide +kernel
theorem d6_12 : decode prog_4_method_3_code 12 = .ok (.lconst 1, 1) := by decide +kernel
theorem d6_13 : decode prog_4_method_3_code 13 = .ok (.lsub, 1) := by decide +kernel
theorem d6_14 : decode prog_4_method_3_code 14 = .ok (.goto 7, 3) := by decide +kernel
theorem d6_17 : decode prog_4_method_3_code 17 = .ok (.aload_n 0, 1) := by decide +kernel
theorem d6_18 : decode prog_4_method_3_code 18 = .ok (.getfield 7, 3) := by decide +kernel
theorem d6_21 : decode prog_4_method_3_code 21 = .ok (.lstore_n 1, 1) := by decide +kernel
theorem d6_22 : decode prog_4_method_3_code 22 = .ok (.lload_n 1, 1) := by decide +kernel
theorem d6_23 : decode prog_4_method_3_code 23 = .ok (.sipush 400, 3) := by decide +kernel
theorem d6_26 : decode prog_4_method_3_code 26 = .ok (.invokestatic 37, 3) := by decide +kernel
theorem d6_29 : decode prog_4_method_3_code 29 = .ok (.lstore_n 3, 1) := by decide +kernel
theorem d6_30 : decode prog_4_method_3_code 30 = .ok (.lload_n 1, 1) := by decide +kernel
theorem d6_31 : decode prog_4_method_3_code 31 = .ok (.lload_n 3, 1) := by decide +kernel
theorem d6_32 : decode prog_4_method_3_code 32 = .ok (.ldc2_w 32, 3) := by decide +kernel
theorem d6_35 : decode prog_4_method_3_code 35 = .ok (.lmul, 1) := by decide +kernel
theorem d6_36 : decode prog_4_method_3_code 36 = .ok (.lsub, 1) := by decide +kernel
theorem d6_37 : decode prog_4_method_3_code 37 = .ok (.l2i, 1) := by decide +kernel
theorem d6_38 : decode prog_4_method_3_code 38 = .ok (.istore 5, 2) := by decide +kernel
theorem d6_40 : decode prog_4_method_3_code 40 = .ok (.aload_n 0, 1) := by decide +kernel
theorem d6_41 : decode prog_4_method_3_code 41 = .ok (.getfield 13, 3) := by decide +kernel
theorem d6_44 : decode prog_4_method_3_code 44 = .ok (.iconst 2, 1) := by decide +kernel
theorem d6_45 : decode prog_4_method_3_code 45 = .ok (.if_icmp .gt 13, 3) := by decide +kernel
theorem d6_48 : decode prog_4_method_3_code 48 = .ok (.aload_n 0, 1) := by decide +kernel
theorem d6_49 : decode prog_4_method_3_code 49 = .ok (.getfield 13, 3) := by decide +kernel
theorem d6_52 : decode prog_4_method_3_code 52 = .ok (.bipush 9, 2) := by decide +kernel
theorem d6_54 : decode prog_4_method_3_code 54 = .ok (.iadd, 1) := by decide +kernel
theorem d6_55 : decode prog_4_method_3_code 55 = .ok (.goto 9, 3) := by decide +kernel
theorem d6_58 : decode prog_4_method_3_code 58 = .ok (.aload_n 0, 1) := by decide +kernel
theorem d6_59 : decode prog_4_method_3_code 59 = .ok (.getfield 13, 3) := by decide +kernel
theorem d6_62 : decode prog_4_method_3_code 62 = .ok (.iconst 3, 1) := by decide +kernel
theorem d6_63 : decode prog_4_method_3_code 63 = .ok (.isub, 1) := by decide +kernel
theorem d6_64 : decode prog_4_method_3_code 64 = .ok (.istore 6, 2) := by decide +kernel
theorem d6_66 : decode prog_4_method_3_code 66 = .ok (.sipush 153, 3) := by decide +kernel
theorem d6_69 : decode prog_4_method_3_code 69 = .ok (.iload 6, 2) := by decide +kernel
theorem d6_71 : decode prog_4_method_3_code 71 = .ok (.imul, 1) := by decide +kernel
theorem d6_72 : decode prog_4_method_3_code 72 = .ok (.iconst 2, 1) := by decide +kernel
theorem d6_73 : decode prog_4_method_3_code 73 = .ok (.iadd, 1) := by decide +kernel
theorem d6_74 : decode prog_4_method_3_code 74 = .ok (.iconst 5, 1) := by decide +kernel
theorem d6_75 : decode prog_4_method_3_code 75 = .ok (.idiv, 1) := by decide +kernel
theorem d6_76 : decode prog_4_method_3_code 76 = .ok (.aload_n 0, 1) := by decide +kernel
theorem d6_77 : decode prog_4_method_3_code 77 = .ok (.getfield 17, 3) := by decide +kernel
theorem d6_80 : decode prog_4_method_3_code 80 = .ok (.iadd, 1) := by decide +kernel
theorem d6_81 : decode prog_4_method_3_code 81 = .ok (.iconst 1, 1) := by decide +kernel
theorem d6_82 : decode prog_4_method_3_code 82 = .ok (.isub, 1) := by decide +kernel
theorem d6_83 : decode prog_4_method_3_code 83 = .ok (.istore 7, 2) := by decide +kernel
theorem d6_85 : decode prog_4_method_3_code 85 = .ok (.sipush 365, 3) := by decide +kernel
theorem d6_88 : decode prog_4_method_3_code 88 = .ok (.iload 5, 2) := by decide +kernel
theorem d6_90 : decode prog_4_method_3_code 90 = .ok (.imul, 1) := by decide +kernel
theorem d6_91 : decode prog_4_method_3_code 91 = .ok (.iload 5, 2) := by decide +kernel
theorem d6_93 : decode prog_4_method_3_code 93 = .ok (.iconst 4, 1) := by decide +kernel
theorem d6_94 : decode prog_4_method_3_code 94 = .ok (.idiv, 1) := by decide +kernel
theorem d6_95 : decode prog_4_method_3_code 95 = .ok (.iadd, 1) := by decide +kernel
theorem d6_96 : decode prog_4_method_3_code 96 = .ok (.iload 5, 2) := by decide +kernel
theorem d6_98 : decode prog_4_method_3_code 98 = .ok (.bipush 100, 2) := by decide +kernel
theorem d6_100 : decode prog_4_method_3_code 100 = .ok (.idiv, 1) := by decide +kernel
theorem d6_101 : decode prog_4_method_3_code 101 = .ok (.isub, 1) := by decide +kernel
theorem d6_102 : decode prog_4_method_3_code 102 = .ok (.iload 7, 2) := by decide +kernel
theorem d6_104 : decode prog_4_method_3_code 104 = .ok (.iadd, 1) := by decide +kernel
theorem d6_105 : decode prog_4_method_3_code 105 = .ok (.istore 8, 2) := by decide +kernel
theorem d6_107 : decode prog_4_method_3_code 107 = .ok (.lload_n 3, 1) := by decide +kernel
theorem d6_108 : decode prog_4_method_3_code 108 = .ok (.ldc2_w 22, 3) := by decide +kernel
theorem d6_111 : decode prog_4_method_3_code 111 = .ok (.lmul, 1) := by decide +kernel
theorem d6_112 : decode prog_4_method_3_code 112 = .ok (.iload 8, 2) := by decide +kernel
theorem d6_114 : decode prog_4_method_3_code 114 = .ok (.i2l, 1) := by decide +kernel
theorem d6_115 : decode prog_4_method_3_code 115 = .ok (.ladd, 1) := by decide +kernel
theorem d6_116 : decode prog_4_method_3_code 116 = .ok (.ldc2_w 20, 3) := by decide +kernel
theorem d6_119 : decode prog_4_method_3_code 119 = .ok (.lsub, 1) := by decide +kernel
theorem d6_120 : decode prog_4_method_3_code 120 = .ok (.lreturn, 1) := by decide +kernel
theorem pd_2 : parseMethodDescriptor "(JI)J" = some ⟨[.long, .int], some .long⟩ := by decide +kernel
theorem ef_6 (m : MethodId) (x0 : Addr) : entryFrame m #[(.ref x0)] 9 = mkF m 0 #[.val (.ref x0), .unset, .unset, .unset, .unset, .unset, .unset, .unset, .unset] [] := by first | (simp [entryFrame, mkF, argsToLocals, Value.category]; done) | rfl
def Q6 (Z : State) (o0 : Addr) (q_y : Int64) (p_m : Int32) (p_d : Int32) (h0 : Heap) (n0 : Nat) (v : Option Value) (h : Heap) (L : List Loc) : Prop := ∃ r : Int64, v = some (.long r) ∧ (((p_m.toInt ≤ 2 → (r.toInt - (365 * (q_y.toInt - 1) + (q_y.toInt - 1) / 4 - (q_y.toInt - 1) / 100 + (q_y.toInt - 1) / 400 + (153 * (p_m.toInt + 9) + 2) / 5 + p_d.toInt - 719469)) % 18446744073709551616 = 0) ∧ (2 < p_m.toInt → (r.toInt - (365 * (q_y.toInt) + (q_y.toInt) / 4 - (q_y.toInt) / 100 + (q_y.toInt) / 400 + (153 * (p_m.toInt - 3) + 2) / 5 + p_d.toInt - 719469)) % 18446744073709551616 = 0))) ∧ Fr n0 L ∧ h = h0
theorem lf_6_0 (q_y : Int64) (p_m : Int32) (p_d : Int32) (v5 : Int64) (r13 : Int64) (x14 : Int32) (v19 : Int32) (x28 : Int32) (x29 : Int32) (hm1 : 1 ≤ p_m.toInt) (hm2 : p_m.toInt ≤ 12) (hd1 : 1 ≤ p_d.toInt) (hd2 : p_d.toInt ≤ 31) (hy : -9223372036854775808 < q_y.toInt) (hj12 : ((2 : Int32) < p_m ∧ v5 = q_y) ∨ (¬ ((2 : Int32) < p_m) ∧ v5 = (q_y - (1 : Int64)))) (hr13 : r13.toInt = v5.toInt / 400) (hx14 : ((v5 - (r13 * (400 : Int64))).toInt32) = x14) (hj26 : ((2 : Int32) < p_m ∧ v19 = (p_m - (3 : Int32))) ∨ (¬ ((2 : Int32) < p_m) ∧ v19 = (p_m + (9 : Int32)))) (hx28 : ((((((153 : Int32) * v19) + (2 : Int32)) / (5 : Int32)) + p_d) - (1 : Int32)) = x28) (hx29 : (((((365 : Int32) * x14) + (x14 / (4 : Int32))) - (x14 / (100 : Int32))) + x28) = x29) : ((p_m.toInt ≤ 2 → ((((r13 * (146097 : Int64)) + (x29.toInt64)) - (719468 : Int64)).toInt - (365 * (q_y.toInt - 1) + (q_y.toInt - 1) / 4 - (q_y.toInt - 1) / 100 + (q_y.toInt - 1) / 400 + (153 * (p_m.toInt + 9) + 2) / 5 + p_d.toInt - 719469)) % 18446744073709551616 = 0) ∧ (2 < p_m.toInt → ((((r13 * (146097 : Int64)) + (x29.toInt64)) - (719468 : Int64)).toInt - (365 * (q_y.toInt) + (q_y.toInt) / 4 - (q_y.toInt) / 100 + (q_y.toInt) / 400 + (153 * (p_m.toInt - 3) + 2) / 5 + p_d.toInt - 719469)) % 18446744073709551616 = 0)) := by
  have r1 := rng64 q_y
  have r2 : (2 : Int32).toInt = 2 := by decide
  have r3 : (3 : Int32).toInt = 3 := by decide
  have r9 : (9 : Int32).toInt = 9 := by decide
  have l1 : (1 : Int64).toInt = 1 := by decide
  have k1 := c_lsub q_y 1
  have k2 := rng64 (q_y - 1)
  have k3 := c_isub p_m 3
  have k4 := rng32 (p_m - 3)
  have k5 := c_iadd p_m 9
  have k6 := rng32 (p_m + 9)
  simp only [Int32.lt_iff_toInt_lt] at hj12 hj26
  have hv : (2 < p_m.toInt → v5.toInt = q_y.toInt ∧ v19.toInt = p_m.toInt - 3) ∧ (p_m.toInt ≤ 2 → v5.toInt = q_y.toInt - 1 ∧ v19.toInt = p_m.toInt + 9) := by
    constructor
    · intro q
      rcases hj12 with ⟨_, rfl⟩ | ⟨q1, _⟩
      · rcases hj26 with ⟨_, rfl⟩ | ⟨q2, _⟩
        · omega
        · omega
      · omega
    · intro q
      rcases hj12 with ⟨q1, _⟩ | ⟨_, rfl⟩
      · omega
      · rcases hj26 with ⟨q2, _⟩ | ⟨_, rfl⟩
        · omega
        · omega
  have t1 := own_s1 _ _ _ hr13 hx14
  have t2 := own_s2 _ _ _ (by omega) (by omega) hd1 hd2 hx28
  have t3 := own_s3 _ _ _ (by omega) (by omega) (by omega) (by omega) hx29
  have t4 := own_s4 _ _ _ _ _ hr13 t1 t3
  constructor
  · intro q
    obtain ⟨e1, e2⟩ := hv.2 q
    rw [t2, e1, e2] at t4
    omega
  · intro q
    obtain ⟨e1, e2⟩ := hv.1 q
    rw [t2, e1, e2] at t4
    omega
set_option maxRecDepth 65536 in
set_option maxHeartbeats 40000000 in
theorem rm6 (l : Launch) (Z : State) (a0 : Array Value) (hw : ∀ d ∈ tables_1, d.before a0 Z = true) (ws : List Jvm.Cond) (o0 : Addr) (q_y : Int64) (p_m : Int32) (p_d : Int32) (h0 : Heap) (n0 : Nat) (Z0 : n0 ≤ h0.size) (F_year_o0 : Fld Z h0 o0 "com/example/cairnlog/cairnlog/CivilDate" "year" "J" (.long q_y)) (F_month_o0 : Fld Z h0 o0 "com/example/cairnlog/cairnlog/CivilDate" "month" "I" (.int p_m)) (F_day_o0 : Fld Z h0 o0 "com/example/cairnlog/cairnlog/CivilDate" "day" "I" (.int p_d)) (hm1 : 1 ≤ p_m.toInt) (hm2 : p_m.toInt ≤ 12) (hd1 : 1 ≤ p_d.toInt) (hd2 : p_d.toInt ≤ 31) (hy : -9223372036854775808 < q_y.toInt) :
    MetFree l (⟨"com/example/cairnlog/cairnlog/CivilDate", "epochDay", "()J"⟩ : MethodName) (head1 (Jvm.Cond.code (⟨"com/example/cairnlog/cairnlog/CivilDate", "epochDay", "()J"⟩ : MethodName) prog_4_method_3_code 9 (some .long) :: ws) ({ frames := 2, cells := 0, slots := 0, locals := 31 } : Room)) (fun a U => a = #[(.ref o0)] ∧ Z.Warmed39 U.vm ∧ U.heap = h0) (fun _ _ _ _ _ => True) (fun _ U o U' => ∃ v L, o = .returned v ∧ Q6 Z o0 q_y p_m p_d h0 n0 v U'.heap L ∧ FrameEnd U o U' L ({ frames := 2, cells := 0, slots := 0, locals := 31 } : Room).cells ({ frames := 2, cells := 0, slots := 0, locals := 31 } : Room).slots) := by
  refine MetFree.of_bodySF (plainFor_of_name (by first | (simp [plainName, overriddenIn]; done) | decide +kernel)) hisR ?_
  intro p e s m args below meth c s₁ Bd hml0 hP hK
  obtain ⟨rfl, hZ, hh⟩ := hP
  have hx := Bd.exec
  have hby := Bd.bytes
  have hml : c.maxLocals = 9 := hml0
  have hown : s.vm.findClass "com/example/cairnlog/cairnlog/CivilDate" = some m.cls := findClass_of_methodNamed Bd.named
  have hnm := (name_of_methodNamed Bd.named Bd.method).1
  have hlk := BodyLoose.notSynchronized Bd
  have X0 : Stand p l e ({ frames := 2, cells := 0, slots := 0, locals := 31 } : Room) s m #[(.ref o0)] below meth c s₁ [] 0 0 := Stand.of_body Bd
  have e0 : s₁.heap = h0 := by rw [← hh, Bd.state]; rfl
  have N0 := Fr.nil n0
  show Go p e below s (Q6 Z o0 q_y p_m p_d h0 n0) 0 0 (s₁.setTop (entryFrame m #[(.ref o0)] 9))
  rw [ef_6]
  show Go _ _ _ _ _ _ _ (s₁.setTop (mkF m 0 #[.val (.ref o0), .unset, .unset, .unset, .unset, .unset, .unset, .unset, .unset] []))
  refine gob (fun _ k => XS.aloadN X0.here hx rfl (hb hby d6_0) rfl rfl k) ?_
  show Go _ _ _ _ _ _ _ (s₁.setTop (mkF m 1 #[.val (.ref o0), .unset, .unset, .unset, .unset, .unset, .unset, .unset, .unset] [(.ref o0)]))
  obtain ⟨T1, X1, e1, st1⟩ := getF X0 hx hZ hown (host := "") (Or.inl (hw _ (List.mem_of_getElem? (i := 32) rfl))) Via.refl e0 F_month_o0 (g := (mkF m 1 #[.val (.ref o0), .unset, .unset, .unset, .unset, .unset, .unset, .unset, .unset] [(.ref o0)])) rfl rfl (hb hby d6_1)
  refine gob st1 ?_
  show Go _ _ _ _ _ _ _ (T1.setTop (mkF m 4 #[.val (.ref o0), .unset, .unset, .unset, .unset, .unset, .unset, .unset, .unset] [(.int p_m)]))
  refine gob (fun _ k => XS.iconst X1.here hx rfl (hb hby d6_4) k) ?_
  show Go _ _ _ _ _ _ _ (T1.setTop (mkF m 5 #[.val (.ref o0), .unset, .unset, .unset, .unset, .unset, .unset, .unset, .unset] [(.int (2 : Int32)), (.int p_m)]))
  have join21_6 : ∀ (T7 : State) (lj8 : List Loc) (v5 : Int64), Stand p l e ({ frames := 2, cells := 0, slots := 0, locals := 31 } : Room) s m #[(.ref o0)] below meth c T7 lj8 0 0 → T7.heap = h0 → Fr n0 lj8 → ((2 : Int32) < p_m ∧ v5 = q_y) ∨ (¬ ((2 : Int32) < p_m) ∧ v5 = (q_y - (1 : Int64))) → Go p e below s (Q6 Z o0 q_y p_m p_d h0 n0) 0 0 (T7.setTop (mkF m 21 #[.val (.ref o0), .unset, .unset, .unset, .unset, .unset, .unset, .unset, .unset] [(.long v5)])) := by
    intro T7 lj8 v5 X9 e10 N11 hj12
    show Go _ _ _ _ _ _ _ (T7.setTop (mkF m 21 #[.val (.ref o0), .unset, .unset, .unset, .unset, .unset, .unset, .unset, .unset] [(.long v5)]))
    refine gob (fun _ k => XS.lstoreN X9.here hx rfl (hb hby d6_21) rfl (l' := #[.val (.ref o0), .val (.long v5), .second, .unset, .unset, .unset, .unset, .unset, .unset]) rfl k) ?_
    show Go _ _ _ _ _ _ _ (T7.setTop (mkF m 22 #[.val (.ref o0), .val (.long v5), .second, .unset, .unset, .unset, .unset, .unset, .unset] []))
    refine gob (fun _ k => XS.lloadN X9.here hx rfl (hb hby d6_22) rfl k) ?_
    show Go _ _ _ _ _ _ _ (T7.setTop (mkF m 23 #[.val (.ref o0), .val (.long v5), .second, .unset, .unset, .unset, .unset, .unset, .unset] [(.long v5)]))
    refine gob (fun _ k => XS.sipush X9.here hx rfl (hb hby d6_23) k) ?_
    show Go _ _ _ _ _ _ _ (T7.setTop (mkF m 26 #[.val (.ref o0), .val (.long v5), .second, .unset, .unset, .unset, .unset, .unset, .unset] [(.int (400 : Int32)), (.long v5)]))
    obtain ⟨_, _, ⟨T13, L13, k13, n13⟩, -, X13, ⟨Lc13, hQ13, l13, y13, z13⟩, st13⟩ := Jvm.LawKit.callS X9 hx (y := (⟨"java/lang/Math", "floorDiv", "(JI)J"⟩ : MethodName)) hown (mvT hZ (hw _ (List.mem_of_getElem? (i := 41) rfl))) (mvT hZ (hw _ (List.mem_of_getElem? (i := 42) rfl))) (mvT hZ (hw _ (List.mem_of_getElem? (i := 43) rfl))) (mvT hZ (hw _ (List.mem_of_getElem? (i := 44) rfl))) (by decide) (backOf (W := 0) (rm7 l Z a0 hw [] v5 h0 n0 Z0 ) hZ (hw _ (List.mem_of_getElem? (i := 44) rfl)) (hw _ (List.mem_of_getElem? (i := 43) rfl)) (by decide) (by decide)) (g := (mkF m 26 #[.val (.ref o0), .val (.long v5), .second, .unset, .unset, .unset, .unset, .unset, .unset] [(.int (400 : Int32)), (.long v5)])) rfl (by rw [hml]; rfl) (argsL := [(.long v5), (.int (400 : Int32))]) (rest := []) (lenOf pd_2 rfl) rfl (by show 2 * 0 + _ ≤ _; exact Nat.le_of_eq rfl) (hb hby d6_26) (fun _ _ => ⟨rfl, e10, (by decide : 0 + 0 ≤ _), (by decide : 0 + 0 ≤ _)⟩)
    dsimp only [Pt.U, Pt.locs, Pt.cells, Pt.slots] at X13 l13 y13 z13 st13 hQ13
    subst l13 y13 z13
    obtain ⟨r13, rfl, hr13, Nq13, e13⟩ := hQ13
    have N13 := Fr.app N11 Nq13
    refine gob st13 ?_
    show Go _ _ _ _ _ _ _ (T13.setTop (mkF m 29 #[.val (.ref o0), .val (.long v5), .second, .unset, .unset, .unset, .unset, .unset, .unset] [(.long r13)]))
    refine gob (fun _ k => XS.lstoreN X13.here hx rfl (hb hby d6_29) rfl (l' := #[.val (.ref o0), .val (.long v5), .second, .val (.long r13), .second, .unset, .unset, .unset, .unset]) rfl k) ?_
    show Go _ _ _ _ _ _ _ (T13.setTop (mkF m 30 #[.val (.ref o0), .val (.long v5), .second, .val (.long r13), .second, .unset, .unset, .unset, .unset] []))
    refine gob (fun _ k => XS.lloadN X13.here hx rfl (hb hby d6_30) rfl k) ?_
    show Go _ _ _ _ _ _ _ (T13.setTop (mkF m 31 #[.val (.ref o0), .val (.long v5), .second, .val (.long r13), .second, .unset, .unset, .unset, .unset] [(.long v5)]))
    refine gob (fun _ k => XS.lloadN X13.here hx rfl (hb hby d6_31) rfl k) ?_
    show Go _ _ _ _ _ _ _ (T13.setTop (mkF m 32 #[.val (.ref o0), .val (.long v5), .second, .val (.long r13), .second, .unset, .unset, .unset, .unset] [(.long r13), (.long v5)]))
    refine gob (X13.ldc2Long hx hown (mvT hZ (hw _ (List.mem_of_getElem? (i := 48) rfl))) (g := (mkF m 32 #[.val (.ref o0), .val (.long v5), .second, .val (.long r13), .second, .unset, .unset, .unset, .unset] [(.long r13), (.long v5)])) rfl (hb hby d6_32)) ?_
    show Go _ _ _ _ _ _ _ (T13.setTop (mkF m 35 #[.val (.ref o0), .val (.long v5), .second, .val (.long r13), .second, .unset, .unset, .unset, .unset] [(.long (400 : Int64)), (.long r13), (.long v5)]))
    refine gob (fun _ k => XS.lmul X13.here hx rfl (hb hby d6_35) rfl k) ?_
    show Go _ _ _ _ _ _ _ (T13.setTop (mkF m 36 #[.val (.ref o0), .val (.long v5), .second, .val (.long r13), .second, .unset, .unset, .unset, .unset] [(.long (r13 * (400 : Int64))), (.long v5)]))
    refine gob (fun _ k => XS.lsub X13.here hx rfl (hb hby d6_36) rfl k) ?_
    show Go _ _ _ _ _ _ _ (T13.setTop (mkF m 37 #[.val (.ref o0), .val (.long v5), .second, .val (.long r13), .second, .unset, .unset, .unset, .unset] [(.long (v5 - (r13 * (400 : Int64))))]))
    refine gob (fun _ k => XS.l2i X13.here hx rfl (hb hby d6_37) rfl k) ?_
    show Go _ _ _ _ _ _ _ (T13.setTop (mkF m 38 #[.val (.ref o0), .val (.long v5), .second, .val (.long r13), .second, .unset, .unset, .unset, .unset] [(.int ((v5 - (r13 * (400 : Int64))).toInt32))]))
    refine gob (fun _ k => XS.istore X13.here hx rfl (hb hby d6_38) rfl (l' := #[.val (.ref o0), .val (.long v5), .second, .val (.long r13), .second, .val (.int ((v5 - (r13 * (400 : Int64))).toInt32)), .unset, .unset, .unset]) rfl k) ?_
    show Go _ _ _ _ _ _ _ (T13.setTop (mkF m 40 #[.val (.ref o0), .val (.long v5), .second, .val (.long r13), .second, .val (.int ((v5 - (r13 * (400 : Int64))).toInt32)), .unset, .unset, .unset] []))
    generalize hx14 : ((v5 - (r13 * (400 : Int64))).toInt32) = x14
    show Go _ _ _ _ _ _ _ (T13.setTop (mkF m 40 #[.val (.ref o0), .val (.long v5), .second, .val (.long r13), .second, .val (.int x14), .unset, .unset, .unset] []))
    refine gob (fun _ k => XS.aloadN X13.here hx rfl (hb hby d6_40) rfl rfl k) ?_
    show Go _ _ _ _ _ _ _ (T13.setTop (mkF m 41 #[.val (.ref o0), .val (.long v5), .second, .val (.long r13), .second, .val (.int x14), .unset, .unset, .unset] [(.ref o0)]))
    obtain ⟨T15, X15, e15, st15⟩ := getF X13 hx hZ hown (host := "") (Or.inl (hw _ (List.mem_of_getElem? (i := 32) rfl))) Via.refl e13 F_month_o0 (g := (mkF m 41 #[.val (.ref o0), .val (.long v5), .second, .val (.long r13), .second, .val (.int x14), .unset, .unset, .unset] [(.ref o0)])) rfl rfl (hb hby d6_41)
    refine gob st15 ?_
    show Go _ _ _ _ _ _ _ (T15.setTop (mkF m 44 #[.val (.ref o0), .val (.long v5), .second, .val (.long r13), .second, .val (.int x14), .unset, .unset, .unset] [(.int p_m)]))
    refine gob (fun _ k => XS.iconst X15.here hx rfl (hb hby d6_44) k) ?_
    show Go _ _ _ _ _ _ _ (T15.setTop (mkF m 45 #[.val (.ref o0), .val (.long v5), .second, .val (.long r13), .second, .val (.int x14), .unset, .unset, .unset] [(.int (2 : Int32)), (.int p_m)]))
    have join64_20 : ∀ (T21 : State) (lj22 : List Loc) (v19 : Int32), Stand p l e ({ frames := 2, cells := 0, slots := 0, locals := 31 } : Room) s m #[(.ref o0)] below meth c T21 lj22 0 0 → T21.heap = h0 → Fr n0 lj22 → ((2 : Int32) < p_m ∧ v19 = (p_m - (3 : Int32))) ∨ (¬ ((2 : Int32) < p_m) ∧ v19 = (p_m + (9 : Int32))) → Go p e below s (Q6 Z o0 q_y p_m p_d h0 n0) 0 0 (T21.setTop (mkF m 64 #[.val (.ref o0), .val (.long v5), .second, .val (.long r13), .second, .val (.int x14), .unset, .unset, .unset] [(.int v19)])) := by
      intro T21 lj22 v19 X23 e24 N25 hj26
      show Go _ _ _ _ _ _ _ (T21.setTop (mkF m 64 #[.val (.ref o0), .val (.long v5), .second, .val (.long r13), .second, .val (.int x14), .unset, .unset, .unset] [(.int v19)]))
      refine gob (fun _ k => XS.istore X23.here hx rfl (hb hby d6_64) rfl (l' := #[.val (.ref o0), .val (.long v5), .second, .val (.long r13), .second, .val (.int x14), .val (.int v19), .unset, .unset]) rfl k) ?_
      show Go _ _ _ _ _ _ _ (T21.setTop (mkF m 66 #[.val (.ref o0), .val (.long v5), .second, .val (.long r13), .second, .val (.int x14), .val (.int v19), .unset, .unset] []))
      refine gob (fun _ k => XS.sipush X23.here hx rfl (hb hby d6_66) k) ?_
      show Go _ _ _ _ _ _ _ (T21.setTop (mkF m 69 #[.val (.ref o0), .val (.long v5), .second, .val (.long r13), .second, .val (.int x14), .val (.int v19), .unset, .unset] [(.int (153 : Int32))]))
      refine gob (fun _ k => XS.iload X23.here hx rfl (hb hby d6_69) rfl k) ?_
      show Go _ _ _ _ _ _ _ (T21.setTop (mkF m 71 #[.val (.ref o0), .val (.long v5), .second, .val (.long r13), .second, .val (.int x14), .val (.int v19), .unset, .unset] [(.int v19), (.int (153 : Int32))]))
      refine gob (fun _ k => XS.imul X23.here hx rfl (hb hby d6_71) rfl k) ?_
      show Go _ _ _ _ _ _ _ (T21.setTop (mkF m 72 #[.val (.ref o0), .val (.long v5), .second, .val (.long r13), .second, .val (.int x14), .val (.int v19), .unset, .unset] [(.int ((153 : Int32) * v19))]))
      refine gob (fun _ k => XS.iconst X23.here hx rfl (hb hby d6_72) k) ?_
      show Go _ _ _ _ _ _ _ (T21.setTop (mkF m 73 #[.val (.ref o0), .val (.long v5), .second, .val (.long r13), .second, .val (.int x14), .val (.int v19), .unset, .unset] [(.int (2 : Int32)), (.int ((153 : Int32) * v19))]))
      refine gob (fun _ k => XS.iadd X23.here hx rfl (hb hby d6_73) rfl k) ?_
      show Go _ _ _ _ _ _ _ (T21.setTop (mkF m 74 #[.val (.ref o0), .val (.long v5), .second, .val (.long r13), .second, .val (.int x14), .val (.int v19), .unset, .unset] [(.int (((153 : Int32) * v19) + (2 : Int32)))]))
      refine gob (fun _ k => XS.iconst X23.here hx rfl (hb hby d6_74) k) ?_
      show Go _ _ _ _ _ _ _ (T21.setTop (mkF m 75 #[.val (.ref o0), .val (.long v5), .second, .val (.long r13), .second, .val (.int x14), .val (.int v19), .unset, .unset] [(.int (5 : Int32)), (.int (((153 : Int32) * v19) + (2 : Int32)))]))
      refine gob (fun _ k => XS.idiv X23.here hx rfl (hb hby d6_75) rfl (by decide) k) ?_
      show Go _ _ _ _ _ _ _ (T21.setTop (mkF m 76 #[.val (.ref o0), .val (.long v5), .second, .val (.long r13), .second, .val (.int x14), .val (.int v19), .unset, .unset] [(.int ((((153 : Int32) * v19) + (2 : Int32)) / (5 : Int32)))]))
      refine gob (fun _ k => XS.aloadN X23.here hx rfl (hb hby d6_76) rfl rfl k) ?_
      show Go _ _ _ _ _ _ _ (T21.setTop (mkF m 77 #[.val (.ref o0), .val (.long v5), .second, .val (.long r13), .second, .val (.int x14), .val (.int v19), .unset, .unset] [(.ref o0), (.int ((((153 : Int32) * v19) + (2 : Int32)) / (5 : Int32)))]))
      obtain ⟨T27, X27, e27, st27⟩ := getF X23 hx hZ hown (host := "") (Or.inl (hw _ (List.mem_of_getElem? (i := 34) rfl))) Via.refl e24 F_day_o0 (g := (mkF m 77 #[.val (.ref o0), .val (.long v5), .second, .val (.long r13), .second, .val (.int x14), .val (.int v19), .unset, .unset] [(.ref o0), (.int ((((153 : Int32) * v19) + (2 : Int32)) / (5 : Int32)))])) rfl rfl (hb hby d6_77)
      refine gob st27 ?_
      show Go _ _ _ _ _ _ _ (T27.setTop (mkF m 80 #[.val (.ref o0), .val (.long v5), .second, .val (.long r13), .second, .val (.int x14), .val (.int v19), .unset, .unset] [(.int p_d), (.int ((((153 : Int32) * v19) + (2 : Int32)) / (5 : Int32)))]))
      refine gob (fun _ k => XS.iadd X27.here hx rfl (hb hby d6_80) rfl k) ?_
      show Go _ _ _ _ _ _ _ (T27.setTop (mkF m 81 #[.val (.ref o0), .val (.long v5), .second, .val (.long r13), .second, .val (.int x14), .val (.int v19), .unset, .unset] [(.int (((((153 : Int32) * v19) + (2 : Int32)) / (5 : Int32)) + p_d))]))
      refine gob (fun _ k => XS.iconst X27.here hx rfl (hb hby d6_81) k) ?_
      show Go _ _ _ _ _ _ _ (T27.setTop (mkF m 82 #[.val (.ref o0), .val (.long v5), .second, .val (.long r13), .second, .val (.int x14), .val (.int v19), .unset, .unset] [(.int (1 : Int32)), (.int (((((153 : Int32) * v19) + (2 : Int32)) / (5 : Int32)) + p_d))]))
      refine gob (fun _ k => XS.isub X27.here hx rfl (hb hby d6_82) rfl k) ?_
      show Go _ _ _ _ _ _ _ (T27.setTop (mkF m 83 #[.val (.ref o0), .val (.long v5), .second, .val (.long r13), .second, .val (.int x14), .val (.int v19), .unset, .unset] [(.int ((((((153 : Int32) * v19) + (2 : Int32)) / (5 : Int32)) + p_d) - (1 : Int32)))]))
      refine gob (fun _ k => XS.istore X27.here hx rfl (hb hby d6_83) rfl (l' := #[.val (.ref o0), .val (.long v5), .second, .val (.long r13), .second, .val (.int x14), .val (.int v19), .val (.int ((((((153 : Int32) * v19) + (2 : Int32)) / (5 : Int32)) + p_d) - (1 : Int32))), .unset]) rfl k) ?_
      show Go _ _ _ _ _ _ _ (T27.setTop (mkF m 85 #[.val (.ref o0), .val (.long v5), .second, .val (.long r13), .second, .val (.int x14), .val (.int v19), .val (.int ((((((153 : Int32) * v19) + (2 : Int32)) / (5 : Int32)) + p_d) - (1 : Int32))), .unset] []))
      generalize hx28 : ((((((153 : Int32) * v19) + (2 : Int32)) / (5 : Int32)) + p_d) - (1 : Int32)) = x28
      show Go _ _ _ _ _ _ _ (T27.setTop (mkF m 85 #[.val (.ref o0), .val (.long v5), .second, .val (.long r13), .second, .val (.int x14), .val (.int v19), .val (.int x28), .unset] []))
      refine gob (fun _ k => XS.sipush X27.here hx rfl (hb hby d6_85) k) ?_
      show Go _ _ _ _ _ _ _ (T27.setTop (mkF m 88 #[.val (.ref o0), .val (.long v5), .second, .val (.long r13), .second, .val (.int x14), .val (.int v19), .val (.int x28), .unset] [(.int (365 : Int32))]))
      refine gob (fun _ k => XS.iload X27.here hx rfl (hb hby d6_88) rfl k) ?_
      show Go _ _ _ _ _ _ _ (T27.setTop (mkF m 90 #[.val (.ref o0), .val (.long v5), .second, .val (.long r13), .second, .val (.int x14), .val (.int v19), .val (.int x28), .unset] [(.int x14), (.int (365 : Int32))]))
      refine gob (fun _ k => XS.imul X27.here hx rfl (hb hby d6_90) rfl k) ?_
      show Go _ _ _ _ _ _ _ (T27.setTop (mkF m 91 #[.val (.ref o0), .val (.long v5), .second, .val (.long r13), .second, .val (.int x14), .val (.int v19), .val (.int x28), .unset] [(.int ((365 : Int32) * x14))]))
      refine gob (fun _ k => XS.iload X27.here hx rfl (hb hby d6_91) rfl k) ?_
      show Go _ _ _ _ _ _ _ (T27.setTop (mkF m 93 #[.val (.ref o0), .val (.long v5), .second, .val (.long r13), .second, .val (.int x14), .val (.int v19), .val (.int x28), .unset] [(.int x14), (.int ((365 : Int32) * x14))]))
      refine gob (fun _ k => XS.iconst X27.here hx rfl (hb hby d6_93) k) ?_
      show Go _ _ _ _ _ _ _ (T27.setTop (mkF m 94 #[.val (.ref o0), .val (.long v5), .second, .val (.long r13), .second, .val (.int x14), .val (.int v19), .val (.int x28), .unset] [(.int (4 : Int32)), (.int x14), (.int ((365 : Int32) * x14))]))
      refine gob (fun _ k => XS.idiv X27.here hx rfl (hb hby d6_94) rfl (by decide) k) ?_
      show Go _ _ _ _ _ _ _ (T27.setTop (mkF m 95 #[.val (.ref o0), .val (.long v5), .second, .val (.long r13), .second, .val (.int x14), .val (.int v19), .val (.int x28), .unset] [(.int (x14 / (4 : Int32))), (.int ((365 : Int32) * x14))]))
      refine gob (fun _ k => XS.iadd X27.here hx rfl (hb hby d6_95) rfl k) ?_
      show Go _ _ _ _ _ _ _ (T27.setTop (mkF m 96 #[.val (.ref o0), .val (.long v5), .second, .val (.long r13), .second, .val (.int x14), .val (.int v19), .val (.int x28), .unset] [(.int (((365 : Int32) * x14) + (x14 / (4 : Int32))))]))
      refine gob (fun _ k => XS.iload X27.here hx rfl (hb hby d6_96) rfl k) ?_
      show Go _ _ _ _ _ _ _ (T27.setTop (mkF m 98 #[.val (.ref o0), .val (.long v5), .second, .val (.long r13), .second, .val (.int x14), .val (.int v19), .val (.int x28), .unset] [(.int x14), (.int (((365 : Int32) * x14) + (x14 / (4 : Int32))))]))
      refine gob (fun _ k => XS.bipush X27.here hx rfl (hb hby d6_98) k) ?_
      show Go _ _ _ _ _ _ _ (T27.setTop (mkF m 100 #[.val (.ref o0), .val (.long v5), .second, .val (.long r13), .second, .val (.int x14), .val (.int v19), .val (.int x28), .unset] [(.int (100 : Int32)), (.int x14), (.int (((365 : Int32) * x14) + (x14 / (4 : Int32))))]))
      refine gob (fun _ k => XS.idiv X27.here hx rfl (hb hby d6_100) rfl (by decide) k) ?_
      show Go _ _ _ _ _ _ _ (T27.setTop (mkF m 101 #[.val (.ref o0), .val (.long v5), .second, .val (.long r13), .second, .val (.int x14), .val (.int v19), .val (.int x28), .unset] [(.int (x14 / (100 : Int32))), (.int (((365 : Int32) * x14) + (x14 / (4 : Int32))))]))
      refine gob (fun _ k => XS.isub X27.here hx rfl (hb hby d6_101) rfl k) ?_
      show Go _ _ _ _ _ _ _ (T27.setTop (mkF m 102 #[.val (.ref o0), .val (.long v5), .second, .val (.long r13), .second, .val (.int x14), .val (.int v19), .val (.int x28), .unset] [(.int ((((365 : Int32) * x14) + (x14 / (4 : Int32))) - (x14 / (100 : Int32))))]))
      refine gob (fun _ k => XS.iload X27.here hx rfl (hb hby d6_102) rfl k) ?_
      show Go _ _ _ _ _ _ _ (T27.setTop (mkF m 104 #[.val (.ref o0), .val (.long v5), .second, .val (.long r13), .second, .val (.int x14), .val (.int v19), .val (.int x28), .unset] [(.int x28), (.int ((((365 : Int32) * x14) + (x14 / (4 : Int32))) - (x14 / (100 : Int32))))]))
      refine gob (fun _ k => XS.iadd X27.here hx rfl (hb hby d6_104) rfl k) ?_
      show Go _ _ _ _ _ _ _ (T27.setTop (mkF m 105 #[.val (.ref o0), .val (.long v5), .second, .val (.long r13), .second, .val (.int x14), .val (.int v19), .val (.int x28), .unset] [(.int (((((365 : Int32) * x14) + (x14 / (4 : Int32))) - (x14 / (100 : Int32))) + x28))]))
      refine gob (fun _ k => XS.istore X27.here hx rfl (hb hby d6_105) rfl (l' := #[.val (.ref o0), .val (.long v5), .second, .val (.long r13), .second, .val (.int x14), .val (.int v19), .val (.int x28), .val (.int (((((365 : Int32) * x14) + (x14 / (4 : Int32))) - (x14 / (100 : Int32))) + x28))]) rfl k) ?_
      show Go _ _ _ _ _ _ _ (T27.setTop (mkF m 107 #[.val (.ref o0), .val (.long v5), .second, .val (.long r13), .second, .val (.int x14), .val (.int v19), .val (.int x28), .val (.int (((((365 : Int32) * x14) + (x14 / (4 : Int32))) - (x14 / (100 : Int32))) + x28))] []))
      generalize hx29 : (((((365 : Int32) * x14) + (x14 / (4 : Int32))) - (x14 / (100 : Int32))) + x28) = x29
      show Go _ _ _ _ _ _ _ (T27.setTop (mkF m 107 #[.val (.ref o0), .val (.long v5), .second, .val (.long r13), .second, .val (.int x14), .val (.int v19), .val (.int x28), .val (.int x29)] []))
      refine gob (fun _ k => XS.lloadN X27.here hx rfl (hb hby d6_107) rfl k) ?_
      show Go _ _ _ _ _ _ _ (T27.setTop (mkF m 108 #[.val (.ref o0), .val (.long v5), .second, .val (.long r13), .second, .val (.int x14), .val (.int v19), .val (.int x28), .val (.int x29)] [(.long r13)]))
      refine gob (X27.ldc2Long hx hown (mvT hZ (hw _ (List.mem_of_getElem? (i := 49) rfl))) (g := (mkF m 108 #[.val (.ref o0), .val (.long v5), .second, .val (.long r13), .second, .val (.int x14), .val (.int v19), .val (.int x28), .val (.int x29)] [(.long r13)])) rfl (hb hby d6_108)) ?_
      show Go _ _ _ _ _ _ _ (T27.setTop (mkF m 111 #[.val (.ref o0), .val (.long v5), .second, .val (.long r13), .second, .val (.int x14), .val (.int v19), .val (.int x28), .val (.int x29)] [(.long (146097 : Int64)), (.long r13)]))
      refine gob (fun _ k => XS.lmul X27.here hx rfl (hb hby d6_111) rfl k) ?_
      show Go _ _ _ _ _ _ _ (T27.setTop (mkF m 112 #[.val (.ref o0), .val (.long v5), .second, .val (.long r13), .second, .val (.int x14), .val (.int v19), .val (.int x28), .val (.int x29)] [(.long (r13 * (146097 : Int64)))]))
      refine gob (fun _ k => XS.iload X27.here hx rfl (hb hby d6_112) rfl k) ?_
      show Go _ _ _ _ _ _ _ (T27.setTop (mkF m 114 #[.val (.ref o0), .val (.long v5), .second, .val (.long r13), .second, .val (.int x14), .val (.int v19), .val (.int x28), .val (.int x29)] [(.int x29), (.long (r13 * (146097 : Int64)))]))
      refine gob (fun _ k => XS.i2l X27.here hx rfl (hb hby d6_114) rfl k) ?_
      show Go _ _ _ _ _ _ _ (T27.setTop (mkF m 115 #[.val (.ref o0), .val (.long v5), .second, .val (.long r13), .second, .val (.int x14), .val (.int v19), .val (.int x28), .val (.int x29)] [(.long (x29.toInt64)), (.long (r13 * (146097 : Int64)))]))
      refine gob (fun _ k => XS.ladd X27.here hx rfl (hb hby d6_115) rfl k) ?_
      show Go _ _ _ _ _ _ _ (T27.setTop (mkF m 116 #[.val (.ref o0), .val (.long v5), .second, .val (.long r13), .second, .val (.int x14), .val (.int v19), .val (.int x28), .val (.int x29)] [(.long ((r13 * (146097 : Int64)) + (x29.toInt64)))]))
      refine gob (X27.ldc2Long hx hown (mvT hZ (hw _ (List.mem_of_getElem? (i := 50) rfl))) (g := (mkF m 116 #[.val (.ref o0), .val (.long v5), .second, .val (.long r13), .second, .val (.int x14), .val (.int v19), .val (.int x28), .val (.int x29)] [(.long ((r13 * (146097 : Int64)) + (x29.toInt64)))])) rfl (hb hby d6_116)) ?_
      show Go _ _ _ _ _ _ _ (T27.setTop (mkF m 119 #[.val (.ref o0), .val (.long v5), .second, .val (.long r13), .second, .val (.int x14), .val (.int v19), .val (.int x28), .val (.int x29)] [(.long (719468 : Int64)), (.long ((r13 * (146097 : Int64)) + (x29.toInt64)))]))
      refine gob (fun _ k => XS.lsub X27.here hx rfl (hb hby d6_119) rfl k) ?_
      show Go _ _ _ _ _ _ _ (T27.setTop (mkF m 120 #[.val (.ref o0), .val (.long v5), .second, .val (.long r13), .second, .val (.int x14), .val (.int v19), .val (.int x28), .val (.int x29)] [(.long (((r13 * (146097 : Int64)) + (x29.toInt64)) - (719468 : Int64)))]))
      refine goJ X27 hx hlk Bd.returns (hb hby d6_120) ?_ (by decide) (by decide)
      show Q6 Z o0 q_y p_m p_d h0 n0 (some (.long (((r13 * (146097 : Int64)) + (x29.toInt64)) - (719468 : Int64)))) T27.heap _
      exact ⟨(((r13 * (146097 : Int64)) + (x29.toInt64)) - (719468 : Int64)), rfl, lf_6_0 q_y p_m p_d v5 r13 x14 v19 x28 x29 hm1 hm2 hd1 hd2 hy hj12 hr13 hx14 hj26 hx28 hx29, N25, e27⟩
    by_cases hc45_30 : (2 : Int32) < p_m
    · skip
      refine gob (fun _ k => XS.icmpYes X15.here hx rfl (pc0 := 45) (pc' := 58) rfl (hb hby d6_45) rfl (tlt hc45_30).2.2.1 (by decide) (by decide) k) ?_
      show Go _ _ _ _ _ _ _ (T15.setTop (mkF m 58 #[.val (.ref o0), .val (.long v5), .second, .val (.long r13), .second, .val (.int x14), .unset, .unset, .unset] []))
      refine gob (fun _ k => XS.aloadN X15.here hx rfl (hb hby d6_58) rfl rfl k) ?_
      show Go _ _ _ _ _ _ _ (T15.setTop (mkF m 59 #[.val (.ref o0), .val (.long v5), .second, .val (.long r13), .second, .val (.int x14), .unset, .unset, .unset] [(.ref o0)]))
      obtain ⟨T31, X31, e31, st31⟩ := getF X15 hx hZ hown (host := "") (Or.inl (hw _ (List.mem_of_getElem? (i := 32) rfl))) Via.refl e15 F_month_o0 (g := (mkF m 59 #[.val (.ref o0), .val (.long v5), .second, .val (.long r13), .second, .val (.int x14), .unset, .unset, .unset] [(.ref o0)])) rfl rfl (hb hby d6_59)
      refine gob st31 ?_
      show Go _ _ _ _ _ _ _ (T31.setTop (mkF m 62 #[.val (.ref o0), .val (.long v5), .second, .val (.long r13), .second, .val (.int x14), .unset, .unset, .unset] [(.int p_m)]))
      refine gob (fun _ k => XS.iconst X31.here hx rfl (hb hby d6_62) k) ?_
      show Go _ _ _ _ _ _ _ (T31.setTop (mkF m 63 #[.val (.ref o0), .val (.long v5), .second, .val (.long r13), .second, .val (.int x14), .unset, .unset, .unset] [(.int (3 : Int32)), (.int p_m)]))
      refine gob (fun _ k => XS.isub X31.here hx rfl (hb hby d6_63) rfl k) ?_
      show Go _ _ _ _ _ _ _ (T31.setTop (mkF m 64 #[.val (.ref o0), .val (.long v5), .second, .val (.long r13), .second, .val (.int x14), .unset, .unset, .unset] [(.int (p_m - (3 : Int32)))]))
      exact join64_20 _ _ ((p_m - (3 : Int32))) X31 e31 N13 (Or.inl ⟨hc45_30, rfl⟩)
    · skip
      refine gob (fun _ k => XS.icmpNo X15.here hx rfl (hb hby d6_45) rfl (flt hc45_30).2.2.1 k) ?_
      show Go _ _ _ _ _ _ _ (T15.setTop (mkF m 48 #[.val (.ref o0), .val (.long v5), .second, .val (.long r13), .second, .val (.int x14), .unset, .unset, .unset] []))
      refine gob (fun _ k => XS.aloadN X15.here hx rfl (hb hby d6_48) rfl rfl k) ?_
      show Go _ _ _ _ _ _ _ (T15.setTop (mkF m 49 #[.val (.ref o0), .val (.long v5), .second, .val (.long r13), .second, .val (.int x14), .unset, .unset, .unset] [(.ref o0)]))
      obtain ⟨T32, X32, e32, st32⟩ := getF X15 hx hZ hown (host := "") (Or.inl (hw _ (List.mem_of_getElem? (i := 32) rfl))) Via.refl e15 F_month_o0 (g := (mkF m 49 #[.val (.ref o0), .val (.long v5), .second, .val (.long r13), .second, .val (.int x14), .unset, .unset, .unset] [(.ref o0)])) rfl rfl (hb hby d6_49)
      refine gob st32 ?_
      show Go _ _ _ _ _ _ _ (T32.setTop (mkF m 52 #[.val (.ref o0), .val (.long v5), .second, .val (.long r13), .second, .val (.int x14), .unset, .unset, .unset] [(.int p_m)]))
      refine gob (fun _ k => XS.bipush X32.here hx rfl (hb hby d6_52) k) ?_
      show Go _ _ _ _ _ _ _ (T32.setTop (mkF m 54 #[.val (.ref o0), .val (.long v5), .second, .val (.long r13), .second, .val (.int x14), .unset, .unset, .unset] [(.int (9 : Int32)), (.int p_m)]))
      refine gob (fun _ k => XS.iadd X32.here hx rfl (hb hby d6_54) rfl k) ?_
      show Go _ _ _ _ _ _ _ (T32.setTop (mkF m 55 #[.val (.ref o0), .val (.long v5), .second, .val (.long r13), .second, .val (.int x14), .unset, .unset, .unset] [(.int (p_m + (9 : Int32)))]))
      refine gob (fun _ k => XS.goto X32.here hx rfl (pc0 := 55) (pc' := 64) rfl (hb hby d6_55) (by decide) (by decide) k) ?_
      show Go _ _ _ _ _ _ _ (T32.setTop (mkF m 64 #[.val (.ref o0), .val (.long v5), .second, .val (.long r13), .second, .val (.int x14), .unset, .unset, .unset] [(.int (p_m + (9 : Int32)))]))
      exact join64_20 _ _ ((p_m + (9 : Int32))) X32 e32 N13 (Or.inr ⟨hc45_30, rfl⟩)
  by_cases hc5_33 : (2 : Int32) < p_m
  · skip
    refine gob (fun _ k => XS.icmpYes X1.here hx rfl (pc0 := 5) (pc' := 17) rfl (hb hby d6_5) rfl (tlt hc5_33).2.2.1 (by decide) (by decide) k) ?_
    show Go _ _ _ _ _ _ _ (T1.setTop (mkF m 17 #[.val (.ref o0), .unset, .unset, .unset, .unset, .unset, .unset, .unset, .unset] []))
    refine gob (fun _ k => XS.aloadN X1.here hx rfl (hb hby d6_17) rfl rfl k) ?_
    show Go _ _ _ _ _ _ _ (T1.setTop (mkF m 18 #[.val (.ref o0), .unset, .unset, .unset, .unset, .unset, .unset, .unset, .unset] [(.ref o0)]))
    obtain ⟨T34, X34, e34, st34⟩ := getF X1 hx hZ hown (host := "") (Or.inl (hw _ (List.mem_of_getElem? (i := 30) rfl))) Via.refl e1 F_year_o0 (g := (mkF m 18 #[.val (.ref o0), .unset, .unset, .unset, .unset, .unset, .unset, .unset, .unset] [(.ref o0)])) rfl rfl (hb hby d6_18)
    refine gob st34 ?_
    show Go _ _ _ _ _ _ _ (T34.setTop (mkF m 21 #[.val (.ref o0), .unset, .unset, .unset, .unset, .unset, .unset, .unset, .unset] [(.long q_y)]))
    exact join21_6 _ _ (q_y) X34 e34 N0 (Or.inl ⟨hc5_33, rfl⟩)
  · skip
    refine gob (fun _ k => XS.icmpNo X1.here hx rfl (hb hby d6_5) rfl (flt hc5_33).2.2.1 k) ?_
    show Go _ _ _ _ _ _ _ (T1.setTop (mkF m 8 #[.val (.ref o0), .unset, .unset, .unset, .unset, .unset, .unset, .unset, .unset] []))
    refine gob (fun _ k => XS.aloadN X1.here hx rfl (hb hby d6_8) rfl rfl k) ?_
    show Go _ _ _ _ _ _ _ (T1.setTop (mkF m 9 #[.val (.ref o0), .unset, .unset, .unset, .unset, .unset, .unset, .unset, .unset] [(.ref o0)]))
    obtain ⟨T35, X35, e35, st35⟩ := getF X1 hx hZ hown (host := "") (Or.inl (hw _ (List.mem_of_getElem? (i := 30) rfl))) Via.refl e1 F_year_o0 (g := (mkF m 9 #[.val (.ref o0), .unset, .unset, .unset, .unset, .unset, .unset, .unset, .unset] [(.ref o0)])) rfl rfl (hb hby d6_9)
    refine gob st35 ?_
    show Go _ _ _ _ _ _ _ (T35.setTop (mkF m 12 #[.val (.ref o0), .unset, .unset, .unset, .unset, .unset, .unset, .unset, .unset] [(.long q_y)]))
    refine gob (fun _ k => XS.lconst X35.here hx rfl (hb hby d6_12) k) ?_
    show Go _ _ _ _ _ _ _ (T35.setTop (mkF m 13 #[.val (.ref o0), .unset, .unset, .unset, .unset, .unset, .unset, .unset, .unset] [(.long (1 : Int64)), (.long q_y)]))
    refine gob (fun _ k => XS.lsub X35.here hx rfl (hb hby d6_13) rfl k) ?_
    show Go _ _ _ _ _ _ _ (T35.setTop (mkF m 14 #[.val (.ref o0), .unset, .unset, .unset, .unset, .unset, .unset, .unset, .unset] [(.long (q_y - (1 : Int64)))]))
    refine gob (fun _ k => XS.goto X35.here hx rfl (pc0 := 14) (pc' := 21) rfl (hb hby d6_14) (by decide) (by decide) k) ?_
    show Go _ _ _ _ _ _ _ (T35.setTop (mkF m 21 #[.val (.ref o0), .unset, .unset, .unset, .unset, .unset, .unset, .unset, .unset] [(.long (q_y - (1 : Int64)))]))
    exact join21_6 _ _ ((q_y - (1 : Int64))) X35 e35 N0 (Or.inr ⟨hc5_33, rfl⟩)
theorem pd_3 : parseMethodDescriptor "(J)J" = some ⟨[.long], some .long⟩ := by decide +kernel
theorem pd_4 : parseMethodDescriptor "(JII)V" = some ⟨[.long, .int, .int], none⟩ := by decide +kernel
theorem pd_5 : parseMethodDescriptor "()J" = some ⟨[], some .long⟩ := by decide +kernel
theorem ef_0 (m : MethodId) (x0 : Int64) (x1 : Int32) (x2 : Int32) : entryFrame m #[(.long x0), (.int x1), (.int x2)] maxLocals = mkF m 0 #[.val (.long x0), .second, .val (.int x1), .val (.int x2), .unset, .unset, .unset, .unset, .unset, .unset, .unset, .unset, .unset, .unset] [] := by first | (simp [entryFrame, mkF, argsToLocals, Value.category, maxLocals]; done) | rfl
def Q0 (Z : State) (q0 : Int64) (p1 : Int32) (p2 : Int32) (h0 : Heap) (n0 : Nat) (v : Option Value) (h : Heap) (L : List Loc) : Prop := v = some (.int 1) ∧ Fr n0 L
theorem la_0_214_96 (p1 : Int32) (x2 : Int32) (hx2 : (((p1 &&& (2147483647 : Int32)) % (12 : Int32)) + (1 : Int32)) = x2) : 0 ≤ (x2 - (1 : Int32)).toInt ∧ (x2 - (1 : Int32)).toInt < 12 := by
  have := rng32 p1
  have := rng32 x2
  have : (1 : Int32).toInt = 1 := by decide
  have : (12 : Int32).toInt = 12 := by decide
  have : (2147483647 : Int32).toInt = 2147483647 := by decide
  have : ((p1 &&& (2147483647 : Int32))).toInt = (p1).toInt % (2 ^ 31 : Nat) := c_mask p1 (2147483647 : Int32) 31 (by decide) (by decide)
  have := c_irem (p1 &&& (2147483647 : Int32)) (12 : Int32) (12) (by decide)
  have := rng32 ((p1 &&& (2147483647 : Int32)) % (12 : Int32))
  have := c_iadd ((p1 &&& (2147483647 : Int32)) % (12 : Int32)) (1 : Int32)
  have := rng32 (((p1 &&& (2147483647 : Int32)) % (12 : Int32)) + (1 : Int32))
  have := c_isub x2 (1 : Int32)
  have := rng32 (x2 - (1 : Int32))
  try (simp only [Int32.lt_iff_toInt_lt, Int32.le_iff_toInt_le, Int64.lt_iff_toInt_lt, Int64.le_iff_toInt_le, ← Int32.toInt_inj, ← Int64.toInt_inj, ne_eq] at *)
  omega
theorem la_0_240_108 (q0 : Int64) (p1 : Int32) (x1 : Int64) (x2 : Int32) (v6 : Int32) (w95 : Int32) (v99 : Int32) (x107 : Int32) (hx1 : (q0 % (4503599627370496 : Int64)) = x1) (hx2 : (((p1 &&& (2147483647 : Int32)) % (12 : Int32)) + (1 : Int32)) = x2) (hj13 : ((x1 % (4 : Int64)) = (0 : Int64) ∧ (x1 % (100 : Int64)) = (0 : Int64) ∧ (x1 % (400 : Int64)) = (0 : Int64) ∧ v6 = (1 : Int32)) ∨ ((x1 % (4 : Int64)) = (0 : Int64) ∧ (x1 % (100 : Int64)) = (0 : Int64) ∧ ¬ ((x1 % (400 : Int64)) = (0 : Int64)) ∧ v6 = (0 : Int32)) ∨ ((x1 % (4 : Int64)) = (0 : Int64) ∧ ¬ ((x1 % (100 : Int64)) = (0 : Int64)) ∧ v6 = (1 : Int32)) ∨ (¬ ((x1 % (4 : Int64)) = (0 : Int64)) ∧ v6 = (0 : Int32))) (hw95 : ((x2 - (1 : Int32)).toInt = 0 ∧ w95 = (31 : Int32)) ∨ ((x2 - (1 : Int32)).toInt = 1 ∧ w95 = (28 : Int32)) ∨ ((x2 - (1 : Int32)).toInt = 2 ∧ w95 = (31 : Int32)) ∨ ((x2 - (1 : Int32)).toInt = 3 ∧ w95 = (30 : Int32)) ∨ ((x2 - (1 : Int32)).toInt = 4 ∧ w95 = (31 : Int32)) ∨ ((x2 - (1 : Int32)).toInt = 5 ∧ w95 = (30 : Int32)) ∨ ((x2 - (1 : Int32)).toInt = 6 ∧ w95 = (31 : Int32)) ∨ ((x2 - (1 : Int32)).toInt = 7 ∧ w95 = (31 : Int32)) ∨ ((x2 - (1 : Int32)).toInt = 8 ∧ w95 = (30 : Int32)) ∨ ((x2 - (1 : Int32)).toInt = 9 ∧ w95 = (31 : Int32)) ∨ ((x2 - (1 : Int32)).toInt = 10 ∧ w95 = (30 : Int32)) ∨ ((x2 - (1 : Int32)).toInt = 11 ∧ w95 = (31 : Int32))) (hj106 : (v6 = (0 : Int32) ∧ v99 = (0 : Int32)) ∨ (¬ (v6 = (0 : Int32)) ∧ x2 = (2 : Int32) ∧ v99 = (1 : Int32)) ∨ (¬ (v6 = (0 : Int32)) ∧ ¬ (x2 = (2 : Int32)) ∧ v99 = (0 : Int32))) (hx107 : (w95 + v99) = x107) : x107 ≠ 0 := by
  have := rng64 q0
  have := rng32 p1
  have := rng64 x1
  have := rng32 x2
  have := rng32 v6
  have := rng32 w95
  have := rng32 v99
  have := rng32 x107
  have : (0 : Int32).toInt = 0 := by decide
  have : (0 : Int64).toInt = 0 := by decide
  have : (1 : Int32).toInt = 1 := by decide
  have : (100 : Int64).toInt = 100 := by decide
  have : (12 : Int32).toInt = 12 := by decide
  have : (2 : Int32).toInt = 2 := by decide
  have : (2147483647 : Int32).toInt = 2147483647 := by decide
  have : (28 : Int32).toInt = 28 := by decide
  have : (30 : Int32).toInt = 30 := by decide
  have : (31 : Int32).toInt = 31 := by decide
  have : (4 : Int64).toInt = 4 := by decide
  have : (400 : Int64).toInt = 400 := by decide
  have : (4503599627370496 : Int64).toInt = 4503599627370496 := by decide
  have := own_lrem q0 (4503599627370496 : Int64) (4503599627370496) (by decide)
  have := rng64 (q0 % (4503599627370496 : Int64))
  have : ((p1 &&& (2147483647 : Int32))).toInt = (p1).toInt % (2 ^ 31 : Nat) := c_mask p1 (2147483647 : Int32) 31 (by decide) (by decide)
  have := c_irem (p1 &&& (2147483647 : Int32)) (12 : Int32) (12) (by decide)
  have := rng32 ((p1 &&& (2147483647 : Int32)) % (12 : Int32))
  have := c_iadd ((p1 &&& (2147483647 : Int32)) % (12 : Int32)) (1 : Int32)
  have := rng32 (((p1 &&& (2147483647 : Int32)) % (12 : Int32)) + (1 : Int32))
  have := own_lrem x1 (4 : Int64) (4) (by decide)
  have := rng64 (x1 % (4 : Int64))
  have := own_lrem x1 (100 : Int64) (100) (by decide)
  have := rng64 (x1 % (100 : Int64))
  have := own_lrem x1 (400 : Int64) (400) (by decide)
  have := rng64 (x1 % (400 : Int64))
  have := c_isub x2 (1 : Int32)
  have := rng32 (x2 - (1 : Int32))
  have := c_iadd w95 v99
  have := rng32 (w95 + v99)
  try (simp only [Int32.lt_iff_toInt_lt, Int32.le_iff_toInt_le, Int64.lt_iff_toInt_lt, Int64.le_iff_toInt_le, ← Int32.toInt_inj, ← Int64.toInt_inj, ne_eq] at *)
  omega
theorem la_0_276_114 (p1 : Int32) (x2 : Int32) (hx2 : (((p1 &&& (2147483647 : Int32)) % (12 : Int32)) + (1 : Int32)) = x2) : 0 ≤ (x2 - (1 : Int32)).toInt ∧ (x2 - (1 : Int32)).toInt < 12 := by
  have := rng32 p1
  have := rng32 x2
  have : (1 : Int32).toInt = 1 := by decide
  have : (12 : Int32).toInt = 12 := by decide
  have : (2147483647 : Int32).toInt = 2147483647 := by decide
  have : ((p1 &&& (2147483647 : Int32))).toInt = (p1).toInt % (2 ^ 31 : Nat) := c_mask p1 (2147483647 : Int32) 31 (by decide) (by decide)
  have := c_irem (p1 &&& (2147483647 : Int32)) (12 : Int32) (12) (by decide)
  have := rng32 ((p1 &&& (2147483647 : Int32)) % (12 : Int32))
  have := c_iadd ((p1 &&& (2147483647 : Int32)) % (12 : Int32)) (1 : Int32)
  have := rng32 (((p1 &&& (2147483647 : Int32)) % (12 : Int32)) + (1 : Int32))
  have := c_isub x2 (1 : Int32)
  have := rng32 (x2 - (1 : Int32))
  try (simp only [Int32.lt_iff_toInt_lt, Int32.le_iff_toInt_le, Int64.lt_iff_toInt_lt, Int64.le_iff_toInt_le, ← Int32.toInt_inj, ← Int64.toInt_inj, ne_eq] at *)
  omega
theorem la_0_318_137 (p1 : Int32) (x2 : Int32) (hx2 : (((p1 &&& (2147483647 : Int32)) % (12 : Int32)) + (1 : Int32)) = x2) : 1 ≤ x2.toInt := by
  have := rng32 p1
  have := rng32 x2
  have : (1 : Int32).toInt = 1 := by decide
  have : (12 : Int32).toInt = 12 := by decide
  have : (2147483647 : Int32).toInt = 2147483647 := by decide
  have : ((p1 &&& (2147483647 : Int32))).toInt = (p1).toInt % (2 ^ 31 : Nat) := c_mask p1 (2147483647 : Int32) 31 (by decide) (by decide)
  have := c_irem (p1 &&& (2147483647 : Int32)) (12 : Int32) (12) (by decide)
  have := rng32 ((p1 &&& (2147483647 : Int32)) % (12 : Int32))
  have := c_iadd ((p1 &&& (2147483647 : Int32)) % (12 : Int32)) (1 : Int32)
  have := rng32 (((p1 &&& (2147483647 : Int32)) % (12 : Int32)) + (1 : Int32))
  try (simp only [Int32.lt_iff_toInt_lt, Int32.le_iff_toInt_le, Int64.lt_iff_toInt_lt, Int64.le_iff_toInt_le, ← Int32.toInt_inj, ← Int64.toInt_inj, ne_eq] at *)
  omega
theorem la_0_318_138 (p1 : Int32) (x2 : Int32) (hx2 : (((p1 &&& (2147483647 : Int32)) % (12 : Int32)) + (1 : Int32)) = x2) : x2.toInt ≤ 12 := by
  have := rng32 p1
  have := rng32 x2
  have : (1 : Int32).toInt = 1 := by decide
  have : (12 : Int32).toInt = 12 := by decide
  have : (2147483647 : Int32).toInt = 2147483647 := by decide
  have : ((p1 &&& (2147483647 : Int32))).toInt = (p1).toInt % (2 ^ 31 : Nat) := c_mask p1 (2147483647 : Int32) 31 (by decide) (by decide)
  have := c_irem (p1 &&& (2147483647 : Int32)) (12 : Int32) (12) (by decide)
  have := rng32 ((p1 &&& (2147483647 : Int32)) % (12 : Int32))
  have := c_iadd ((p1 &&& (2147483647 : Int32)) % (12 : Int32)) (1 : Int32)
  have := rng32 (((p1 &&& (2147483647 : Int32)) % (12 : Int32)) + (1 : Int32))
  try (simp only [Int32.lt_iff_toInt_lt, Int32.le_iff_toInt_le, Int64.lt_iff_toInt_lt, Int64.le_iff_toInt_le, ← Int32.toInt_inj, ← Int64.toInt_inj, ne_eq] at *)
  omega
theorem la_0_318_139 (q0 : Int64) (p1 : Int32) (p2 : Int32) (x1 : Int64) (x2 : Int32) (v6 : Int32) (w95 : Int32) (v99 : Int32) (x107 : Int32) (x109 : Int32) (hx1 : (q0 % (4503599627370496 : Int64)) = x1) (hx2 : (((p1 &&& (2147483647 : Int32)) % (12 : Int32)) + (1 : Int32)) = x2) (hj13 : ((x1 % (4 : Int64)) = (0 : Int64) ∧ (x1 % (100 : Int64)) = (0 : Int64) ∧ (x1 % (400 : Int64)) = (0 : Int64) ∧ v6 = (1 : Int32)) ∨ ((x1 % (4 : Int64)) = (0 : Int64) ∧ (x1 % (100 : Int64)) = (0 : Int64) ∧ ¬ ((x1 % (400 : Int64)) = (0 : Int64)) ∧ v6 = (0 : Int32)) ∨ ((x1 % (4 : Int64)) = (0 : Int64) ∧ ¬ ((x1 % (100 : Int64)) = (0 : Int64)) ∧ v6 = (1 : Int32)) ∨ (¬ ((x1 % (4 : Int64)) = (0 : Int64)) ∧ v6 = (0 : Int32))) (hw95 : ((x2 - (1 : Int32)).toInt = 0 ∧ w95 = (31 : Int32)) ∨ ((x2 - (1 : Int32)).toInt = 1 ∧ w95 = (28 : Int32)) ∨ ((x2 - (1 : Int32)).toInt = 2 ∧ w95 = (31 : Int32)) ∨ ((x2 - (1 : Int32)).toInt = 3 ∧ w95 = (30 : Int32)) ∨ ((x2 - (1 : Int32)).toInt = 4 ∧ w95 = (31 : Int32)) ∨ ((x2 - (1 : Int32)).toInt = 5 ∧ w95 = (30 : Int32)) ∨ ((x2 - (1 : Int32)).toInt = 6 ∧ w95 = (31 : Int32)) ∨ ((x2 - (1 : Int32)).toInt = 7 ∧ w95 = (31 : Int32)) ∨ ((x2 - (1 : Int32)).toInt = 8 ∧ w95 = (30 : Int32)) ∨ ((x2 - (1 : Int32)).toInt = 9 ∧ w95 = (31 : Int32)) ∨ ((x2 - (1 : Int32)).toInt = 10 ∧ w95 = (30 : Int32)) ∨ ((x2 - (1 : Int32)).toInt = 11 ∧ w95 = (31 : Int32))) (hj106 : (v6 = (0 : Int32) ∧ v99 = (0 : Int32)) ∨ (¬ (v6 = (0 : Int32)) ∧ x2 = (2 : Int32) ∧ v99 = (1 : Int32)) ∨ (¬ (v6 = (0 : Int32)) ∧ ¬ (x2 = (2 : Int32)) ∧ v99 = (0 : Int32))) (hx107 : (w95 + v99) = x107) (hx109 : (((p2 &&& (2147483647 : Int32)) % x107) + (1 : Int32)) = x109) : 1 ≤ x109.toInt := by
  have := rng64 q0
  have := rng32 p1
  have := rng32 p2
  have := rng64 x1
  have := rng32 x2
  have := rng32 v6
  have := rng32 w95
  have := rng32 v99
  have := rng32 x107
  have := rng32 x109
  have : (0 : Int32).toInt = 0 := by decide
  have : (0 : Int64).toInt = 0 := by decide
  have : (1 : Int32).toInt = 1 := by decide
  have : (100 : Int64).toInt = 100 := by decide
  have : (12 : Int32).toInt = 12 := by decide
  have : (2 : Int32).toInt = 2 := by decide
  have : (2147483647 : Int32).toInt = 2147483647 := by decide
  have : (28 : Int32).toInt = 28 := by decide
  have : (30 : Int32).toInt = 30 := by decide
  have : (31 : Int32).toInt = 31 := by decide
  have : (4 : Int64).toInt = 4 := by decide
  have : (400 : Int64).toInt = 400 := by decide
  have : (4503599627370496 : Int64).toInt = 4503599627370496 := by decide
  have := own_lrem q0 (4503599627370496 : Int64) (4503599627370496) (by decide)
  have := rng64 (q0 % (4503599627370496 : Int64))
  have : ((p1 &&& (2147483647 : Int32))).toInt = (p1).toInt % (2 ^ 31 : Nat) := c_mask p1 (2147483647 : Int32) 31 (by decide) (by decide)
  have := c_irem (p1 &&& (2147483647 : Int32)) (12 : Int32) (12) (by decide)
  have := rng32 ((p1 &&& (2147483647 : Int32)) % (12 : Int32))
  have := c_iadd ((p1 &&& (2147483647 : Int32)) % (12 : Int32)) (1 : Int32)
  have := rng32 (((p1 &&& (2147483647 : Int32)) % (12 : Int32)) + (1 : Int32))
  have := own_lrem x1 (4 : Int64) (4) (by decide)
  have := rng64 (x1 % (4 : Int64))
  have := own_lrem x1 (100 : Int64) (100) (by decide)
  have := rng64 (x1 % (100 : Int64))
  have := own_lrem x1 (400 : Int64) (400) (by decide)
  have := rng64 (x1 % (400 : Int64))
  have := c_isub x2 (1 : Int32)
  have := rng32 (x2 - (1 : Int32))
  have := c_iadd w95 v99
  have := rng32 (w95 + v99)
  have : ((p2 &&& (2147483647 : Int32))).toInt = (p2).toInt % (2 ^ 31 : Nat) := c_mask p2 (2147483647 : Int32) 31 (by decide) (by decide)
  have := c_iremV (p2 &&& (2147483647 : Int32)) x107
  have := rng32 ((p2 &&& (2147483647 : Int32)) % x107)
  have := c_iadd ((p2 &&& (2147483647 : Int32)) % x107) (1 : Int32)
  have := rng32 (((p2 &&& (2147483647 : Int32)) % x107) + (1 : Int32))
  try (simp only [Int32.lt_iff_toInt_lt, Int32.le_iff_toInt_le, Int64.lt_iff_toInt_lt, Int64.le_iff_toInt_le, ← Int32.toInt_inj, ← Int64.toInt_inj, ne_eq] at *)
  omega
theorem la_0_318_140 (q0 : Int64) (p1 : Int32) (p2 : Int32) (x1 : Int64) (x2 : Int32) (v6 : Int32) (w95 : Int32) (v99 : Int32) (x107 : Int32) (x109 : Int32) (hx1 : (q0 % (4503599627370496 : Int64)) = x1) (hx2 : (((p1 &&& (2147483647 : Int32)) % (12 : Int32)) + (1 : Int32)) = x2) (hj13 : ((x1 % (4 : Int64)) = (0 : Int64) ∧ (x1 % (100 : Int64)) = (0 : Int64) ∧ (x1 % (400 : Int64)) = (0 : Int64) ∧ v6 = (1 : Int32)) ∨ ((x1 % (4 : Int64)) = (0 : Int64) ∧ (x1 % (100 : Int64)) = (0 : Int64) ∧ ¬ ((x1 % (400 : Int64)) = (0 : Int64)) ∧ v6 = (0 : Int32)) ∨ ((x1 % (4 : Int64)) = (0 : Int64) ∧ ¬ ((x1 % (100 : Int64)) = (0 : Int64)) ∧ v6 = (1 : Int32)) ∨ (¬ ((x1 % (4 : Int64)) = (0 : Int64)) ∧ v6 = (0 : Int32))) (hw95 : ((x2 - (1 : Int32)).toInt = 0 ∧ w95 = (31 : Int32)) ∨ ((x2 - (1 : Int32)).toInt = 1 ∧ w95 = (28 : Int32)) ∨ ((x2 - (1 : Int32)).toInt = 2 ∧ w95 = (31 : Int32)) ∨ ((x2 - (1 : Int32)).toInt = 3 ∧ w95 = (30 : Int32)) ∨ ((x2 - (1 : Int32)).toInt = 4 ∧ w95 = (31 : Int32)) ∨ ((x2 - (1 : Int32)).toInt = 5 ∧ w95 = (30 : Int32)) ∨ ((x2 - (1 : Int32)).toInt = 6 ∧ w95 = (31 : Int32)) ∨ ((x2 - (1 : Int32)).toInt = 7 ∧ w95 = (31 : Int32)) ∨ ((x2 - (1 : Int32)).toInt = 8 ∧ w95 = (30 : Int32)) ∨ ((x2 - (1 : Int32)).toInt = 9 ∧ w95 = (31 : Int32)) ∨ ((x2 - (1 : Int32)).toInt = 10 ∧ w95 = (30 : Int32)) ∨ ((x2 - (1 : Int32)).toInt = 11 ∧ w95 = (31 : Int32))) (hj106 : (v6 = (0 : Int32) ∧ v99 = (0 : Int32)) ∨ (¬ (v6 = (0 : Int32)) ∧ x2 = (2 : Int32) ∧ v99 = (1 : Int32)) ∨ (¬ (v6 = (0 : Int32)) ∧ ¬ (x2 = (2 : Int32)) ∧ v99 = (0 : Int32))) (hx107 : (w95 + v99) = x107) (hx109 : (((p2 &&& (2147483647 : Int32)) % x107) + (1 : Int32)) = x109) : x109.toInt ≤ 31 := by
  have := rng64 q0
  have := rng32 p1
  have := rng32 p2
  have := rng64 x1
  have := rng32 x2
  have := rng32 v6
  have := rng32 w95
  have := rng32 v99
  have := rng32 x107
  have := rng32 x109
  have : (0 : Int32).toInt = 0 := by decide
  have : (0 : Int64).toInt = 0 := by decide
  have : (1 : Int32).toInt = 1 := by decide
  have : (100 : Int64).toInt = 100 := by decide
  have : (12 : Int32).toInt = 12 := by decide
  have : (2 : Int32).toInt = 2 := by decide
  have : (2147483647 : Int32).toInt = 2147483647 := by decide
  have : (28 : Int32).toInt = 28 := by decide
  have : (30 : Int32).toInt = 30 := by decide
  have : (31 : Int32).toInt = 31 := by decide
  have : (4 : Int64).toInt = 4 := by decide
  have : (400 : Int64).toInt = 400 := by decide
  have : (4503599627370496 : Int64).toInt = 4503599627370496 := by decide
  have := own_lrem q0 (4503599627370496 : Int64) (4503599627370496) (by decide)
  have := rng64 (q0 % (4503599627370496 : Int64))
  have : ((p1 &&& (2147483647 : Int32))).toInt = (p1).toInt % (2 ^ 31 : Nat) := c_mask p1 (2147483647 : Int32) 31 (by decide) (by decide)
  have := c_irem (p1 &&& (2147483647 : Int32)) (12 : Int32) (12) (by decide)
  have := rng32 ((p1 &&& (2147483647 : Int32)) % (12 : Int32))
  have := c_iadd ((p1 &&& (2147483647 : Int32)) % (12 : Int32)) (1 : Int32)
  have := rng32 (((p1 &&& (2147483647 : Int32)) % (12 : Int32)) + (1 : Int32))
  have := own_lrem x1 (4 : Int64) (4) (by decide)
  have := rng64 (x1 % (4 : Int64))
  have := own_lrem x1 (100 : Int64) (100) (by decide)
  have := rng64 (x1 % (100 : Int64))
  have := own_lrem x1 (400 : Int64) (400) (by decide)
  have := rng64 (x1 % (400 : Int64))
  have := c_isub x2 (1 : Int32)
  have := rng32 (x2 - (1 : Int32))
  have := c_iadd w95 v99
  have := rng32 (w95 + v99)
  have : ((p2 &&& (2147483647 : Int32))).toInt = (p2).toInt % (2 ^ 31 : Nat) := c_mask p2 (2147483647 : Int32) 31 (by decide) (by decide)
  have := c_iremV (p2 &&& (2147483647 : Int32)) x107
  have := rng32 ((p2 &&& (2147483647 : Int32)) % x107)
  have := c_iadd ((p2 &&& (2147483647 : Int32)) % x107) (1 : Int32)
  have := rng32 (((p2 &&& (2147483647 : Int32)) % x107) + (1 : Int32))
  try (simp only [Int32.lt_iff_toInt_lt, Int32.le_iff_toInt_le, Int64.lt_iff_toInt_lt, Int64.le_iff_toInt_le, ← Int32.toInt_inj, ← Int64.toInt_inj, ne_eq] at *)
  omega
theorem la_0_318_141 (q0 : Int64) (x1 : Int64) (hx1 : (q0 % (4503599627370496 : Int64)) = x1) : -9223372036854775808 < x1.toInt := by
  have := rng64 q0
  have := rng64 x1
  have : (4503599627370496 : Int64).toInt = 4503599627370496 := by decide
  have := own_lrem q0 (4503599627370496 : Int64) (4503599627370496) (by decide)
  have := rng64 (q0 % (4503599627370496 : Int64))
  try (simp only [Int32.lt_iff_toInt_lt, Int32.le_iff_toInt_le, Int64.lt_iff_toInt_lt, Int64.le_iff_toInt_le, ← Int32.toInt_inj, ← Int64.toInt_inj, ne_eq] at *)
  omega
theorem ld_0_324_143 (q0 : Int64) (p1 : Int32) (p2 : Int32) (x1 : Int64) (x2 : Int32) (v6 : Int32) (w95 : Int32) (v99 : Int32) (x107 : Int32) (x109 : Int32) (r110 : Int64) (r111 : Int64) (w113 : Int32) (v117 : Int32) (x125 : Int64) (r136 : Int64) (hx1 : (q0 % (4503599627370496 : Int64)) = x1) (hx2 : (((p1 &&& (2147483647 : Int32)) % (12 : Int32)) + (1 : Int32)) = x2) (hj13 : ((x1 % (4 : Int64)) = (0 : Int64) ∧ (x1 % (100 : Int64)) = (0 : Int64) ∧ (x1 % (400 : Int64)) = (0 : Int64) ∧ v6 = (1 : Int32)) ∨ ((x1 % (4 : Int64)) = (0 : Int64) ∧ (x1 % (100 : Int64)) = (0 : Int64) ∧ ¬ ((x1 % (400 : Int64)) = (0 : Int64)) ∧ v6 = (0 : Int32)) ∨ ((x1 % (4 : Int64)) = (0 : Int64) ∧ ¬ ((x1 % (100 : Int64)) = (0 : Int64)) ∧ v6 = (1 : Int32)) ∨ (¬ ((x1 % (4 : Int64)) = (0 : Int64)) ∧ v6 = (0 : Int32))) (hw95 : ((x2 - (1 : Int32)).toInt = 0 ∧ w95 = (31 : Int32)) ∨ ((x2 - (1 : Int32)).toInt = 1 ∧ w95 = (28 : Int32)) ∨ ((x2 - (1 : Int32)).toInt = 2 ∧ w95 = (31 : Int32)) ∨ ((x2 - (1 : Int32)).toInt = 3 ∧ w95 = (30 : Int32)) ∨ ((x2 - (1 : Int32)).toInt = 4 ∧ w95 = (31 : Int32)) ∨ ((x2 - (1 : Int32)).toInt = 5 ∧ w95 = (30 : Int32)) ∨ ((x2 - (1 : Int32)).toInt = 6 ∧ w95 = (31 : Int32)) ∨ ((x2 - (1 : Int32)).toInt = 7 ∧ w95 = (31 : Int32)) ∨ ((x2 - (1 : Int32)).toInt = 8 ∧ w95 = (30 : Int32)) ∨ ((x2 - (1 : Int32)).toInt = 9 ∧ w95 = (31 : Int32)) ∨ ((x2 - (1 : Int32)).toInt = 10 ∧ w95 = (30 : Int32)) ∨ ((x2 - (1 : Int32)).toInt = 11 ∧ w95 = (31 : Int32))) (hj106 : (v6 = (0 : Int32) ∧ v99 = (0 : Int32)) ∨ (¬ (v6 = (0 : Int32)) ∧ x2 = (2 : Int32) ∧ v99 = (1 : Int32)) ∨ (¬ (v6 = (0 : Int32)) ∧ ¬ (x2 = (2 : Int32)) ∧ v99 = (0 : Int32))) (hx107 : (w95 + v99) = x107) (hx109 : (((p2 &&& (2147483647 : Int32)) % x107) + (1 : Int32)) = x109) (hr110 : r110.toInt = (x1 - (1 : Int64)).toInt / 4 - (x1 - (1 : Int64)).toInt / 100 + (x1 - (1 : Int64)).toInt / 400) (hr111 : r111.toInt = (1969 : Int64).toInt / 4 - (1969 : Int64).toInt / 100 + (1969 : Int64).toInt / 400) (hw113 : ((x2 - (1 : Int32)).toInt = 0 ∧ w113 = (0 : Int32)) ∨ ((x2 - (1 : Int32)).toInt = 1 ∧ w113 = (31 : Int32)) ∨ ((x2 - (1 : Int32)).toInt = 2 ∧ w113 = (59 : Int32)) ∨ ((x2 - (1 : Int32)).toInt = 3 ∧ w113 = (90 : Int32)) ∨ ((x2 - (1 : Int32)).toInt = 4 ∧ w113 = (120 : Int32)) ∨ ((x2 - (1 : Int32)).toInt = 5 ∧ w113 = (151 : Int32)) ∨ ((x2 - (1 : Int32)).toInt = 6 ∧ w113 = (181 : Int32)) ∨ ((x2 - (1 : Int32)).toInt = 7 ∧ w113 = (212 : Int32)) ∨ ((x2 - (1 : Int32)).toInt = 8 ∧ w113 = (243 : Int32)) ∨ ((x2 - (1 : Int32)).toInt = 9 ∧ w113 = (273 : Int32)) ∨ ((x2 - (1 : Int32)).toInt = 10 ∧ w113 = (304 : Int32)) ∨ ((x2 - (1 : Int32)).toInt = 11 ∧ w113 = (334 : Int32))) (hj124 : (v6 = (0 : Int32) ∧ v117 = (0 : Int32)) ∨ (¬ (v6 = (0 : Int32)) ∧ (2 : Int32) < x2 ∧ v117 = (1 : Int32)) ∨ (¬ (v6 = (0 : Int32)) ∧ ¬ ((2 : Int32) < x2) ∧ v117 = (0 : Int32))) (hx125 : (((((((365 : Int64) * (x1 - (1970 : Int64))) + r110) - r111) + (w113.toInt64)) + (v117.toInt64)) + ((x109 - (1 : Int32)).toInt64)) = x125) (hr136 : ((x2.toInt ≤ 2 → (r136.toInt - (365 * (x1.toInt - 1) + (x1.toInt - 1) / 4 - (x1.toInt - 1) / 100 + (x1.toInt - 1) / 400 + (153 * (x2.toInt + 9) + 2) / 5 + x109.toInt - 719469)) % 18446744073709551616 = 0) ∧ (2 < x2.toInt → (r136.toInt - (365 * (x1.toInt) + (x1.toInt) / 4 - (x1.toInt) / 100 + (x1.toInt) / 400 + (153 * (x2.toInt - 3) + 2) / 5 + x109.toInt - 719469)) % 18446744073709551616 = 0))) : r136 = x125 := by
  have d1 := la_0_318_139 q0 p1 p2 x1 x2 v6 w95 v99 x107 x109 hx1 hx2 hj13 hw95 hj106 hx107 hx109
  have d2 := la_0_318_140 q0 p1 p2 x1 x2 v6 w95 v99 x107 x109 hx1 hx2 hj13 hw95 hj106 hx107 hx109
  have m1 := la_0_318_137 p1 x2 hx2
  have m2 := la_0_318_138 p1 x2 hx2
  have mo := own_month x2 _ m1 m2 hw113
  have y1 := own_Y q0 x1 hx1
  rw [y1.2.2] at hr110
  have e2 : (2 : Int32).toInt = 2 := by decide
  have s1 : (1969 : Int64).toInt / 4 - (1969 : Int64).toInt / 100 + (1969 : Int64).toInt / 400 = 477 := by decide
  rw [s1] at hr111
  rw [own_rem0 x1 4 4 (by decide), own_rem0 x1 100 100 (by decide), own_rem0 x1 400 400 (by decide)] at hj13
  rw [Int32.lt_iff_toInt_lt, e2] at hj124
  have vv := own_vv x1.toInt x2 _ _ (own_L x1.toInt) hj13 hj124
  have ex := own_exp x1 _ _ _ _ _ _ _ ⟨y1.1, y1.2.1⟩ hr110 (own_Lb _ ⟨y1.1, y1.2.1⟩) hr111 mo.2.2 ⟨vv.1, vv.2.1⟩ ⟨d1, d2⟩ hx125
  rw [← Int64.toInt_inj]
  exact own_fin _ _ _ _ _ _ _ (rng64 _) (rng64 _) ⟨mo.1, mo.2.1⟩ vv.2.2 ex hr136
set_option maxRecDepth 65536 in
set_option maxHeartbeats 40000000 in
theorem rm0 (l : Launch) (Z : State) (a0 : Array Value) (hw : ∀ d ∈ tables_1, d.before a0 Z = true) (ws : List Jvm.Cond) (q0 : Int64) (p1 : Int32) (p2 : Int32) (h0 : Heap) (n0 : Nat) (Z0 : n0 ≤ h0.size) :
    MetFree l x (head1 (Jvm.Cond.code x code maxLocals ret :: ws) room_1) (fun a U => a = #[(.long q0), (.int p1), (.int p2)] ∧ Z.Warmed39 U.vm ∧ U.heap = h0) (fun _ _ _ _ _ => True) (fun _ U o U' => ∃ v L, o = .returned v ∧ Q0 Z q0 p1 p2 h0 n0 v U'.heap L ∧ FrameEnd U o U' L 16 128) := by
  refine MetFree.of_bodySF (plainFor_of_name (by first | (simp [plainName, overriddenIn]; done) | decide +kernel)) hisR ?_
  intro p e s m args below meth c s₁ Bd hml0 hP hK
  obtain ⟨rfl, hZ, hh⟩ := hP
  have hx := Bd.exec
  have hby := Bd.bytes
  have hml : c.maxLocals = 14 := hml0
  have hown : s.vm.findClass "com/example/cairnlog/cairnlog/CivilDateEpochDayPinLaw" = some m.cls := findClass_of_methodNamed Bd.named
  have hnm := (name_of_methodNamed Bd.named Bd.method).1
  have hlk := BodyLoose.notSynchronized Bd
  have X0 : Stand p l e room_1 s m #[(.long q0), (.int p1), (.int p2)] below meth c s₁ [] 0 0 := Stand.of_body Bd
  have e0 : s₁.heap = h0 := by rw [← hh, Bd.state]; rfl
  have N0 := Fr.nil n0
  show Go p e below s (Q0 Z q0 p1 p2 h0 n0) 16 128 (s₁.setTop (entryFrame m #[(.long q0), (.int p1), (.int p2)] maxLocals))
  rw [ef_0]
  show Go _ _ _ _ _ _ _ (s₁.setTop (mkF m 0 #[.val (.long q0), .second, .val (.int p1), .val (.int p2), .unset, .unset, .unset, .unset, .unset, .unset, .unset, .unset, .unset, .unset] []))
  refine gob (fun _ k => XS.lloadN X0.here hx rfl (hb hby at_0) rfl k) ?_
  show Go _ _ _ _ _ _ _ (s₁.setTop (mkF m 1 #[.val (.long q0), .second, .val (.int p1), .val (.int p2), .unset, .unset, .unset, .unset, .unset, .unset, .unset, .unset, .unset, .unset] [(.long q0)]))
  refine gob (X0.ldc2Long hx hown (mvT hZ (hw _ (List.mem_of_getElem? (i := 0) rfl))) (g := (mkF m 1 #[.val (.long q0), .second, .val (.int p1), .val (.int p2), .unset, .unset, .unset, .unset, .unset, .unset, .unset, .unset, .unset, .unset] [(.long q0)])) rfl (hb hby at_1)) ?_
  show Go _ _ _ _ _ _ _ (s₁.setTop (mkF m 4 #[.val (.long q0), .second, .val (.int p1), .val (.int p2), .unset, .unset, .unset, .unset, .unset, .unset, .unset, .unset, .unset, .unset] [(.long (4503599627370496 : Int64)), (.long q0)]))
  refine gob (fun _ k => lremM X0 hx rfl (hb hby at_4) rfl (by decide) k) ?_
  show Go _ _ _ _ _ _ _ (s₁.setTop (mkF m 5 #[.val (.long q0), .second, .val (.int p1), .val (.int p2), .unset, .unset, .unset, .unset, .unset, .unset, .unset, .unset, .unset, .unset] [(.long (q0 % (4503599627370496 : Int64)))]))
  refine gob (fun _ k => XS.lstore X0.here hx rfl (hb hby at_5) rfl (l' := #[.val (.long q0), .second, .val (.int p1), .val (.int p2), .val (.long (q0 % (4503599627370496 : Int64))), .second, .unset, .unset, .unset, .unset, .unset, .unset, .unset, .unset]) rfl k) ?_
  show Go _ _ _ _ _ _ _ (s₁.setTop (mkF m 7 #[.val (.long q0), .second, .val (.int p1), .val (.int p2), .val (.long (q0 % (4503599627370496 : Int64))), .second, .unset, .unset, .unset, .unset, .unset, .unset, .unset, .unset] []))
  generalize hx1 : (q0 % (4503599627370496 : Int64)) = x1
  show Go _ _ _ _ _ _ _ (s₁.setTop (mkF m 7 #[.val (.long q0), .second, .val (.int p1), .val (.int p2), .val (.long x1), .second, .unset, .unset, .unset, .unset, .unset, .unset, .unset, .unset] []))
  refine gob (fun _ k => XS.iloadN X0.here hx rfl (hb hby at_7) rfl k) ?_
  show Go _ _ _ _ _ _ _ (s₁.setTop (mkF m 8 #[.val (.long q0), .second, .val (.int p1), .val (.int p2), .val (.long x1), .second, .unset, .unset, .unset, .unset, .unset, .unset, .unset, .unset] [(.int p1)]))
  refine gob (X0.ldcInt hx hown (mvT hZ (hw _ (List.mem_of_getElem? (i := 1) rfl))) (g := (mkF m 8 #[.val (.long q0), .second, .val (.int p1), .val (.int p2), .val (.long x1), .second, .unset, .unset, .unset, .unset, .unset, .unset, .unset, .unset] [(.int p1)])) rfl (hb hby at_8)) ?_
  show Go _ _ _ _ _ _ _ (s₁.setTop (mkF m 10 #[.val (.long q0), .second, .val (.int p1), .val (.int p2), .val (.long x1), .second, .unset, .unset, .unset, .unset, .unset, .unset, .unset, .unset] [(.int (2147483647 : Int32)), (.int p1)]))
  refine gob (fun _ k => XS.iand X0.here hx rfl (hb hby at_10) rfl k) ?_
  show Go _ _ _ _ _ _ _ (s₁.setTop (mkF m 11 #[.val (.long q0), .second, .val (.int p1), .val (.int p2), .val (.long x1), .second, .unset, .unset, .unset, .unset, .unset, .unset, .unset, .unset] [(.int (p1 &&& (2147483647 : Int32)))]))
  refine gob (fun _ k => XS.bipush X0.here hx rfl (hb hby at_11) k) ?_
  show Go _ _ _ _ _ _ _ (s₁.setTop (mkF m 13 #[.val (.long q0), .second, .val (.int p1), .val (.int p2), .val (.long x1), .second, .unset, .unset, .unset, .unset, .unset, .unset, .unset, .unset] [(.int (12 : Int32)), (.int (p1 &&& (2147483647 : Int32)))]))
  refine gob (fun _ k => iremM X0 hx rfl (hb hby at_13) rfl (by decide) k) ?_
  show Go _ _ _ _ _ _ _ (s₁.setTop (mkF m 14 #[.val (.long q0), .second, .val (.int p1), .val (.int p2), .val (.long x1), .second, .unset, .unset, .unset, .unset, .unset, .unset, .unset, .unset] [(.int ((p1 &&& (2147483647 : Int32)) % (12 : Int32)))]))
  refine gob (fun _ k => XS.iconst X0.here hx rfl (hb hby at_14) k) ?_
  show Go _ _ _ _ _ _ _ (s₁.setTop (mkF m 15 #[.val (.long q0), .second, .val (.int p1), .val (.int p2), .val (.long x1), .second, .unset, .unset, .unset, .unset, .unset, .unset, .unset, .unset] [(.int (1 : Int32)), (.int ((p1 &&& (2147483647 : Int32)) % (12 : Int32)))]))
  refine gob (fun _ k => XS.iadd X0.here hx rfl (hb hby at_15) rfl k) ?_
  show Go _ _ _ _ _ _ _ (s₁.setTop (mkF m 16 #[.val (.long q0), .second, .val (.int p1), .val (.int p2), .val (.long x1), .second, .unset, .unset, .unset, .unset, .unset, .unset, .unset, .unset] [(.int (((p1 &&& (2147483647 : Int32)) % (12 : Int32)) + (1 : Int32)))]))
  refine gob (fun _ k => XS.istore X0.here hx rfl (hb hby at_16) rfl (l' := #[.val (.long q0), .second, .val (.int p1), .val (.int p2), .val (.long x1), .second, .val (.int (((p1 &&& (2147483647 : Int32)) % (12 : Int32)) + (1 : Int32))), .unset, .unset, .unset, .unset, .unset, .unset, .unset]) rfl k) ?_
  show Go _ _ _ _ _ _ _ (s₁.setTop (mkF m 18 #[.val (.long q0), .second, .val (.int p1), .val (.int p2), .val (.long x1), .second, .val (.int (((p1 &&& (2147483647 : Int32)) % (12 : Int32)) + (1 : Int32))), .unset, .unset, .unset, .unset, .unset, .unset, .unset] []))
  generalize hx2 : (((p1 &&& (2147483647 : Int32)) % (12 : Int32)) + (1 : Int32)) = x2
  show Go _ _ _ _ _ _ _ (s₁.setTop (mkF m 18 #[.val (.long q0), .second, .val (.int p1), .val (.int p2), .val (.long x1), .second, .val (.int x2), .unset, .unset, .unset, .unset, .unset, .unset, .unset] []))
  refine gob (fun _ k => XS.lload X0.here hx rfl (hb hby at_18) rfl k) ?_
  show Go _ _ _ _ _ _ _ (s₁.setTop (mkF m 20 #[.val (.long q0), .second, .val (.int p1), .val (.int p2), .val (.long x1), .second, .val (.int x2), .unset, .unset, .unset, .unset, .unset, .unset, .unset] [(.long x1)]))
  refine gob (X0.ldc2Long hx hown (mvT hZ (hw _ (List.mem_of_getElem? (i := 2) rfl))) (g := (mkF m 20 #[.val (.long q0), .second, .val (.int p1), .val (.int p2), .val (.long x1), .second, .val (.int x2), .unset, .unset, .unset, .unset, .unset, .unset, .unset] [(.long x1)])) rfl (hb hby at_20)) ?_
  show Go _ _ _ _ _ _ _ (s₁.setTop (mkF m 23 #[.val (.long q0), .second, .val (.int p1), .val (.int p2), .val (.long x1), .second, .val (.int x2), .unset, .unset, .unset, .unset, .unset, .unset, .unset] [(.long (4 : Int64)), (.long x1)]))
  refine gob (fun _ k => lremM X0 hx rfl (hb hby at_23) rfl (by decide) k) ?_
  show Go _ _ _ _ _ _ _ (s₁.setTop (mkF m 24 #[.val (.long q0), .second, .val (.int p1), .val (.int p2), .val (.long x1), .second, .val (.int x2), .unset, .unset, .unset, .unset, .unset, .unset, .unset] [(.long (x1 % (4 : Int64)))]))
  refine gob (fun _ k => XS.lconst X0.here hx rfl (hb hby at_24) k) ?_
  show Go _ _ _ _ _ _ _ (s₁.setTop (mkF m 25 #[.val (.long q0), .second, .val (.int p1), .val (.int p2), .val (.long x1), .second, .val (.int x2), .unset, .unset, .unset, .unset, .unset, .unset, .unset] [(.long (0 : Int64)), (.long (x1 % (4 : Int64)))]))
  refine gob (fun _ k => XS.lcmp X0.here hx rfl (hb hby at_25) rfl k) ?_
  show Go _ _ _ _ _ _ _ (s₁.setTop (mkF m 26 #[.val (.long q0), .second, .val (.int p1), .val (.int p2), .val (.long x1), .second, .val (.int x2), .unset, .unset, .unset, .unset, .unset, .unset, .unset] [(.int (lcmpW (x1 % (4 : Int64)) (0 : Int64)))]))
  have join56_7 : ∀ (T8 : State) (lj9 : List Loc) (v6 : Int32), Stand p l e room_1 s m #[(.long q0), (.int p1), (.int p2)] below meth c T8 lj9 0 0 → T8.heap = h0 → Fr n0 lj9 → ((x1 % (4 : Int64)) = (0 : Int64) ∧ (x1 % (100 : Int64)) = (0 : Int64) ∧ (x1 % (400 : Int64)) = (0 : Int64) ∧ v6 = (1 : Int32)) ∨ ((x1 % (4 : Int64)) = (0 : Int64) ∧ (x1 % (100 : Int64)) = (0 : Int64) ∧ ¬ ((x1 % (400 : Int64)) = (0 : Int64)) ∧ v6 = (0 : Int32)) ∨ ((x1 % (4 : Int64)) = (0 : Int64) ∧ ¬ ((x1 % (100 : Int64)) = (0 : Int64)) ∧ v6 = (1 : Int32)) ∨ (¬ ((x1 % (4 : Int64)) = (0 : Int64)) ∧ v6 = (0 : Int32)) → Go p e below s (Q0 Z q0 p1 p2 h0 n0) 16 128 (T8.setTop (mkF m 56 #[.val (.long q0), .second, .val (.int p1), .val (.int p2), .val (.long x1), .second, .val (.int x2), .unset, .unset, .unset, .unset, .unset, .unset, .unset] [(.int v6)])) := by
    intro T8 lj9 v6 X10 e11 N12 hj13
    show Go _ _ _ _ _ _ _ (T8.setTop (mkF m 56 #[.val (.long q0), .second, .val (.int p1), .val (.int p2), .val (.long x1), .second, .val (.int x2), .unset, .unset, .unset, .unset, .unset, .unset, .unset] [(.int v6)]))
    refine gob (fun _ k => XS.istore X10.here hx rfl (hb hby at_56) rfl (l' := #[.val (.long q0), .second, .val (.int p1), .val (.int p2), .val (.long x1), .second, .val (.int x2), .val (.int v6), .unset, .unset, .unset, .unset, .unset, .unset]) rfl k) ?_
    show Go _ _ _ _ _ _ _ (T8.setTop (mkF m 58 #[.val (.long q0), .second, .val (.int p1), .val (.int p2), .val (.long x1), .second, .val (.int x2), .val (.int v6), .unset, .unset, .unset, .unset, .unset, .unset] []))
    refine gob (fun _ k => XS.bipush X10.here hx rfl (hb hby at_58) k) ?_
    show Go _ _ _ _ _ _ _ (T8.setTop (mkF m 60 #[.val (.long q0), .second, .val (.int p1), .val (.int p2), .val (.long x1), .second, .val (.int x2), .val (.int v6), .unset, .unset, .unset, .unset, .unset, .unset] [(.int (12 : Int32))]))
    obtain ⟨T14, h14, k14, X14, e14, E14, A14, st14⟩ := newP X10 hx hZ (hw _ (List.mem_of_getElem? (i := 3) rfl)) e11 (g := (mkF m 60 #[.val (.long q0), .second, .val (.int p1), .val (.int p2), .val (.long x1), .second, .val (.int x2), .val (.int v6), .unset, .unset, .unset, .unset, .unset, .unset] [(.int (12 : Int32))])) rfl (hb hby at_60) rfl (by decide) (cap := 12) (by decide) (by decide) (by decide) (by decide)
    obtain ⟨b14, g14⟩ : ∃ z, z = h0.size := ⟨_, rfl⟩
    rw [← g14] at A14 st14
    have g15 : n0 ≤ b14 := Nat.le_trans Z0 (Nat.le_of_eq g14.symm)
    have z16 : n0 ≤ h14.size := Nat.le_trans Z0 E14.1
    have V14 : Arv Z h14 b14 k14 .int (12 : Int32) [(.int (0 : Int32)), (.int (0 : Int32)), (.int (0 : Int32)), (.int (0 : Int32)), (.int (0 : Int32)), (.int (0 : Int32)), (.int (0 : Int32)), (.int (0 : Int32)), (.int (0 : Int32)), (.int (0 : Int32)), (.int (0 : Int32)), (.int (0 : Int32))] (.int (0 : Int32)) := (Arv.new A14 (by decide)).pad (pad_rep [] (.int (0 : Int32)) 12)
    refine gob st14 ?_
    show Go _ _ _ _ _ _ _ (T14.setTop (mkF m 62 #[.val (.long q0), .second, .val (.int p1), .val (.int p2), .val (.long x1), .second, .val (.int x2), .val (.int v6), .unset, .unset, .unset, .unset, .unset, .unset] [(.ref b14)]))
    refine gob (fun _ k => XS.dup X14.here hx rfl (hb hby at_62) rfl rfl k) ?_
    show Go _ _ _ _ _ _ _ (T14.setTop (mkF m 63 #[.val (.long q0), .second, .val (.int p1), .val (.int p2), .val (.long x1), .second, .val (.int x2), .val (.int v6), .unset, .unset, .unset, .unset, .unset, .unset] [(.ref b14), (.ref b14)]))
    refine gob (fun _ k => XS.iconst X14.here hx rfl (hb hby at_63) k) ?_
    show Go _ _ _ _ _ _ _ (T14.setTop (mkF m 64 #[.val (.long q0), .second, .val (.int p1), .val (.int p2), .val (.long x1), .second, .val (.int x2), .val (.int v6), .unset, .unset, .unset, .unset, .unset, .unset] [(.int (0 : Int32)), (.ref b14), (.ref b14)]))
    refine gob (fun _ k => XS.bipush X14.here hx rfl (hb hby at_64) k) ?_
    show Go _ _ _ _ _ _ _ (T14.setTop (mkF m 66 #[.val (.long q0), .second, .val (.int p1), .val (.int p2), .val (.long x1), .second, .val (.int x2), .val (.int v6), .unset, .unset, .unset, .unset, .unset, .unset] [(.int (31 : Int32)), (.int (0 : Int32)), (.ref b14), (.ref b14)]))
    obtain ⟨cl17, Ar17, q17, S17, N17, H17, G17⟩ := id V14
    have hin17 : ¬ ((0 : Int32) < 0 ∨ cl17.slots.size ≤ ((0 : Int32)).toNatClampNeg) := inb_of S17 ⟨by decide, by decide⟩
    obtain ⟨T18, h18, X18, e18, W18, st18⟩ := stI X14 hx hZ e14 Ar17 (j := (0 : Int32)) hin17 (g := (mkF m 66 #[.val (.long q0), .second, .val (.int p1), .val (.int p2), .val (.long x1), .second, .val (.int x2), .val (.int v6), .unset, .unset, .unset, .unset, .unset, .unset] [(.int (31 : Int32)), (.int (0 : Int32)), (.ref b14), (.ref b14)])) rfl rfl (hb hby at_66)
    refine gob st18 ?_
    have z19 : n0 ≤ h18.size := Nat.le_trans z16 (Keep.of_wr W18).1
    have N18 := Fr.snoc X18 N12 g15
    have V18 : Arv Z h18 b14 k14 .int (12 : Int32) [(.int (31 : Int32)), (.int (0 : Int32)), (.int (0 : Int32)), (.int (0 : Int32)), (.int (0 : Int32)), (.int (0 : Int32)), (.int (0 : Int32)), (.int (0 : Int32)), (.int (0 : Int32)), (.int (0 : Int32)), (.int (0 : Int32)), (.int (0 : Int32))] (.int (0 : Int32)) := Arv.set Ar17 q17 S17 N17 H17 G17 rfl W18 0 rfl (Nat.le_of_ble_eq_true rfl)
    show Go _ _ _ _ _ _ _ (T18.setTop (mkF m 67 #[.val (.long q0), .second, .val (.int p1), .val (.int p2), .val (.long x1), .second, .val (.int x2), .val (.int v6), .unset, .unset, .unset, .unset, .unset, .unset] [(.ref b14)]))
    refine gob (fun _ k => XS.dup X18.here hx rfl (hb hby at_67) rfl rfl k) ?_
    show Go _ _ _ _ _ _ _ (T18.setTop (mkF m 68 #[.val (.long q0), .second, .val (.int p1), .val (.int p2), .val (.long x1), .second, .val (.int x2), .val (.int v6), .unset, .unset, .unset, .unset, .unset, .unset] [(.ref b14), (.ref b14)]))
    refine gob (fun _ k => XS.iconst X18.here hx rfl (hb hby at_68) k) ?_
    show Go _ _ _ _ _ _ _ (T18.setTop (mkF m 69 #[.val (.long q0), .second, .val (.int p1), .val (.int p2), .val (.long x1), .second, .val (.int x2), .val (.int v6), .unset, .unset, .unset, .unset, .unset, .unset] [(.int (1 : Int32)), (.ref b14), (.ref b14)]))
    refine gob (fun _ k => XS.bipush X18.here hx rfl (hb hby at_69) k) ?_
    show Go _ _ _ _ _ _ _ (T18.setTop (mkF m 71 #[.val (.long q0), .second, .val (.int p1), .val (.int p2), .val (.long x1), .second, .val (.int x2), .val (.int v6), .unset, .unset, .unset, .unset, .unset, .unset] [(.int (28 : Int32)), (.int (1 : Int32)), (.ref b14), (.ref b14)]))
    obtain ⟨cl20, Ar20, q20, S20, N20, H20, G20⟩ := id V18
    have hin20 : ¬ ((1 : Int32) < 0 ∨ cl20.slots.size ≤ ((1 : Int32)).toNatClampNeg) := inb_of S20 ⟨by decide, by decide⟩
    obtain ⟨T21, h21, X21, e21, W21, st21⟩ := stI X18 hx hZ e18 Ar20 (j := (1 : Int32)) hin20 (g := (mkF m 71 #[.val (.long q0), .second, .val (.int p1), .val (.int p2), .val (.long x1), .second, .val (.int x2), .val (.int v6), .unset, .unset, .unset, .unset, .unset, .unset] [(.int (28 : Int32)), (.int (1 : Int32)), (.ref b14), (.ref b14)])) rfl rfl (hb hby at_71)
    refine gob st21 ?_
    have z22 : n0 ≤ h21.size := Nat.le_trans z19 (Keep.of_wr W21).1
    have N21 := Fr.snoc X21 N18 g15
    have V21 : Arv Z h21 b14 k14 .int (12 : Int32) [(.int (31 : Int32)), (.int (28 : Int32)), (.int (0 : Int32)), (.int (0 : Int32)), (.int (0 : Int32)), (.int (0 : Int32)), (.int (0 : Int32)), (.int (0 : Int32)), (.int (0 : Int32)), (.int (0 : Int32)), (.int (0 : Int32)), (.int (0 : Int32))] (.int (0 : Int32)) := Arv.set Ar20 q20 S20 N20 H20 G20 rfl W21 1 rfl (Nat.le_of_ble_eq_true rfl)
    show Go _ _ _ _ _ _ _ (T21.setTop (mkF m 72 #[.val (.long q0), .second, .val (.int p1), .val (.int p2), .val (.long x1), .second, .val (.int x2), .val (.int v6), .unset, .unset, .unset, .unset, .unset, .unset] [(.ref b14)]))
    refine gob (fun _ k => XS.dup X21.here hx rfl (hb hby at_72) rfl rfl k) ?_
    show Go _ _ _ _ _ _ _ (T21.setTop (mkF m 73 #[.val (.long q0), .second, .val (.int p1), .val (.int p2), .val (.long x1), .second, .val (.int x2), .val (.int v6), .unset, .unset, .unset, .unset, .unset, .unset] [(.ref b14), (.ref b14)]))
    refine gob (fun _ k => XS.iconst X21.here hx rfl (hb hby at_73) k) ?_
    show Go _ _ _ _ _ _ _ (T21.setTop (mkF m 74 #[.val (.long q0), .second, .val (.int p1), .val (.int p2), .val (.long x1), .second, .val (.int x2), .val (.int v6), .unset, .unset, .unset, .unset, .unset, .unset] [(.int (2 : Int32)), (.ref b14), (.ref b14)]))
    refine gob (fun _ k => XS.bipush X21.here hx rfl (hb hby at_74) k) ?_
    show Go _ _ _ _ _ _ _ (T21.setTop (mkF m 76 #[.val (.long q0), .second, .val (.int p1), .val (.int p2), .val (.long x1), .second, .val (.int x2), .val (.int v6), .unset, .unset, .unset, .unset, .unset, .unset] [(.int (31 : Int32)), (.int (2 : Int32)), (.ref b14), (.ref b14)]))
    obtain ⟨cl23, Ar23, q23, S23, N23, H23, G23⟩ := id V21
    have hin23 : ¬ ((2 : Int32) < 0 ∨ cl23.slots.size ≤ ((2 : Int32)).toNatClampNeg) := inb_of S23 ⟨by decide, by decide⟩
    obtain ⟨T24, h24, X24, e24, W24, st24⟩ := stI X21 hx hZ e21 Ar23 (j := (2 : Int32)) hin23 (g := (mkF m 76 #[.val (.long q0), .second, .val (.int p1), .val (.int p2), .val (.long x1), .second, .val (.int x2), .val (.int v6), .unset, .unset, .unset, .unset, .unset, .unset] [(.int (31 : Int32)), (.int (2 : Int32)), (.ref b14), (.ref b14)])) rfl rfl (hb hby at_76)
    refine gob st24 ?_
    have z25 : n0 ≤ h24.size := Nat.le_trans z22 (Keep.of_wr W24).1
    have N24 := Fr.snoc X24 N21 g15
    have V24 : Arv Z h24 b14 k14 .int (12 : Int32) [(.int (31 : Int32)), (.int (28 : Int32)), (.int (31 : Int32)), (.int (0 : Int32)), (.int (0 : Int32)), (.int (0 : Int32)), (.int (0 : Int32)), (.int (0 : Int32)), (.int (0 : Int32)), (.int (0 : Int32)), (.int (0 : Int32)), (.int (0 : Int32))] (.int (0 : Int32)) := Arv.set Ar23 q23 S23 N23 H23 G23 rfl W24 2 rfl (Nat.le_of_ble_eq_true rfl)
    show Go _ _ _ _ _ _ _ (T24.setTop (mkF m 77 #[.val (.long q0), .second, .val (.int p1), .val (.int p2), .val (.long x1), .second, .val (.int x2), .val (.int v6), .unset, .unset, .unset, .unset, .unset, .unset] [(.ref b14)]))
    refine gob (fun _ k => XS.dup X24.here hx rfl (hb hby at_77) rfl rfl k) ?_
    show Go _ _ _ _ _ _ _ (T24.setTop (mkF m 78 #[.val (.long q0), .second, .val (.int p1), .val (.int p2), .val (.long x1), .second, .val (.int x2), .val (.int v6), .unset, .unset, .unset, .unset, .unset, .unset] [(.ref b14), (.ref b14)]))
    refine gob (fun _ k => XS.iconst X24.here hx rfl (hb hby at_78) k) ?_
    show Go _ _ _ _ _ _ _ (T24.setTop (mkF m 79 #[.val (.long q0), .second, .val (.int p1), .val (.int p2), .val (.long x1), .second, .val (.int x2), .val (.int v6), .unset, .unset, .unset, .unset, .unset, .unset] [(.int (3 : Int32)), (.ref b14), (.ref b14)]))
    refine gob (fun _ k => XS.bipush X24.here hx rfl (hb hby at_79) k) ?_
    show Go _ _ _ _ _ _ _ (T24.setTop (mkF m 81 #[.val (.long q0), .second, .val (.int p1), .val (.int p2), .val (.long x1), .second, .val (.int x2), .val (.int v6), .unset, .unset, .unset, .unset, .unset, .unset] [(.int (30 : Int32)), (.int (3 : Int32)), (.ref b14), (.ref b14)]))
    obtain ⟨cl26, Ar26, q26, S26, N26, H26, G26⟩ := id V24
    have hin26 : ¬ ((3 : Int32) < 0 ∨ cl26.slots.size ≤ ((3 : Int32)).toNatClampNeg) := inb_of S26 ⟨by decide, by decide⟩
    obtain ⟨T27, h27, X27, e27, W27, st27⟩ := stI X24 hx hZ e24 Ar26 (j := (3 : Int32)) hin26 (g := (mkF m 81 #[.val (.long q0), .second, .val (.int p1), .val (.int p2), .val (.long x1), .second, .val (.int x2), .val (.int v6), .unset, .unset, .unset, .unset, .unset, .unset] [(.int (30 : Int32)), (.int (3 : Int32)), (.ref b14), (.ref b14)])) rfl rfl (hb hby at_81)
    refine gob st27 ?_
    have z28 : n0 ≤ h27.size := Nat.le_trans z25 (Keep.of_wr W27).1
    have N27 := Fr.snoc X27 N24 g15
    have V27 : Arv Z h27 b14 k14 .int (12 : Int32) [(.int (31 : Int32)), (.int (28 : Int32)), (.int (31 : Int32)), (.int (30 : Int32)), (.int (0 : Int32)), (.int (0 : Int32)), (.int (0 : Int32)), (.int (0 : Int32)), (.int (0 : Int32)), (.int (0 : Int32)), (.int (0 : Int32)), (.int (0 : Int32))] (.int (0 : Int32)) := Arv.set Ar26 q26 S26 N26 H26 G26 rfl W27 3 rfl (Nat.le_of_ble_eq_true rfl)
    show Go _ _ _ _ _ _ _ (T27.setTop (mkF m 82 #[.val (.long q0), .second, .val (.int p1), .val (.int p2), .val (.long x1), .second, .val (.int x2), .val (.int v6), .unset, .unset, .unset, .unset, .unset, .unset] [(.ref b14)]))
    refine gob (fun _ k => XS.dup X27.here hx rfl (hb hby at_82) rfl rfl k) ?_
    show Go _ _ _ _ _ _ _ (T27.setTop (mkF m 83 #[.val (.long q0), .second, .val (.int p1), .val (.int p2), .val (.long x1), .second, .val (.int x2), .val (.int v6), .unset, .unset, .unset, .unset, .unset, .unset] [(.ref b14), (.ref b14)]))
    refine gob (fun _ k => XS.iconst X27.here hx rfl (hb hby at_83) k) ?_
    show Go _ _ _ _ _ _ _ (T27.setTop (mkF m 84 #[.val (.long q0), .second, .val (.int p1), .val (.int p2), .val (.long x1), .second, .val (.int x2), .val (.int v6), .unset, .unset, .unset, .unset, .unset, .unset] [(.int (4 : Int32)), (.ref b14), (.ref b14)]))
    refine gob (fun _ k => XS.bipush X27.here hx rfl (hb hby at_84) k) ?_
    show Go _ _ _ _ _ _ _ (T27.setTop (mkF m 86 #[.val (.long q0), .second, .val (.int p1), .val (.int p2), .val (.long x1), .second, .val (.int x2), .val (.int v6), .unset, .unset, .unset, .unset, .unset, .unset] [(.int (31 : Int32)), (.int (4 : Int32)), (.ref b14), (.ref b14)]))
    obtain ⟨cl29, Ar29, q29, S29, N29, H29, G29⟩ := id V27
    have hin29 : ¬ ((4 : Int32) < 0 ∨ cl29.slots.size ≤ ((4 : Int32)).toNatClampNeg) := inb_of S29 ⟨by decide, by decide⟩
    obtain ⟨T30, h30, X30, e30, W30, st30⟩ := stI X27 hx hZ e27 Ar29 (j := (4 : Int32)) hin29 (g := (mkF m 86 #[.val (.long q0), .second, .val (.int p1), .val (.int p2), .val (.long x1), .second, .val (.int x2), .val (.int v6), .unset, .unset, .unset, .unset, .unset, .unset] [(.int (31 : Int32)), (.int (4 : Int32)), (.ref b14), (.ref b14)])) rfl rfl (hb hby at_86)
    refine gob st30 ?_
    have z31 : n0 ≤ h30.size := Nat.le_trans z28 (Keep.of_wr W30).1
    have N30 := Fr.snoc X30 N27 g15
    have V30 : Arv Z h30 b14 k14 .int (12 : Int32) [(.int (31 : Int32)), (.int (28 : Int32)), (.int (31 : Int32)), (.int (30 : Int32)), (.int (31 : Int32)), (.int (0 : Int32)), (.int (0 : Int32)), (.int (0 : Int32)), (.int (0 : Int32)), (.int (0 : Int32)), (.int (0 : Int32)), (.int (0 : Int32))] (.int (0 : Int32)) := Arv.set Ar29 q29 S29 N29 H29 G29 rfl W30 4 rfl (Nat.le_of_ble_eq_true rfl)
    show Go _ _ _ _ _ _ _ (T30.setTop (mkF m 87 #[.val (.long q0), .second, .val (.int p1), .val (.int p2), .val (.long x1), .second, .val (.int x2), .val (.int v6), .unset, .unset, .unset, .unset, .unset, .unset] [(.ref b14)]))
    refine gob (fun _ k => XS.dup X30.here hx rfl (hb hby at_87) rfl rfl k) ?_
    show Go _ _ _ _ _ _ _ (T30.setTop (mkF m 88 #[.val (.long q0), .second, .val (.int p1), .val (.int p2), .val (.long x1), .second, .val (.int x2), .val (.int v6), .unset, .unset, .unset, .unset, .unset, .unset] [(.ref b14), (.ref b14)]))
    refine gob (fun _ k => XS.iconst X30.here hx rfl (hb hby at_88) k) ?_
    show Go _ _ _ _ _ _ _ (T30.setTop (mkF m 89 #[.val (.long q0), .second, .val (.int p1), .val (.int p2), .val (.long x1), .second, .val (.int x2), .val (.int v6), .unset, .unset, .unset, .unset, .unset, .unset] [(.int (5 : Int32)), (.ref b14), (.ref b14)]))
    refine gob (fun _ k => XS.bipush X30.here hx rfl (hb hby at_89) k) ?_
    show Go _ _ _ _ _ _ _ (T30.setTop (mkF m 91 #[.val (.long q0), .second, .val (.int p1), .val (.int p2), .val (.long x1), .second, .val (.int x2), .val (.int v6), .unset, .unset, .unset, .unset, .unset, .unset] [(.int (30 : Int32)), (.int (5 : Int32)), (.ref b14), (.ref b14)]))
    obtain ⟨cl32, Ar32, q32, S32, N32, H32, G32⟩ := id V30
    have hin32 : ¬ ((5 : Int32) < 0 ∨ cl32.slots.size ≤ ((5 : Int32)).toNatClampNeg) := inb_of S32 ⟨by decide, by decide⟩
    obtain ⟨T33, h33, X33, e33, W33, st33⟩ := stI X30 hx hZ e30 Ar32 (j := (5 : Int32)) hin32 (g := (mkF m 91 #[.val (.long q0), .second, .val (.int p1), .val (.int p2), .val (.long x1), .second, .val (.int x2), .val (.int v6), .unset, .unset, .unset, .unset, .unset, .unset] [(.int (30 : Int32)), (.int (5 : Int32)), (.ref b14), (.ref b14)])) rfl rfl (hb hby at_91)
    refine gob st33 ?_
    have z34 : n0 ≤ h33.size := Nat.le_trans z31 (Keep.of_wr W33).1
    have N33 := Fr.snoc X33 N30 g15
    have V33 : Arv Z h33 b14 k14 .int (12 : Int32) [(.int (31 : Int32)), (.int (28 : Int32)), (.int (31 : Int32)), (.int (30 : Int32)), (.int (31 : Int32)), (.int (30 : Int32)), (.int (0 : Int32)), (.int (0 : Int32)), (.int (0 : Int32)), (.int (0 : Int32)), (.int (0 : Int32)), (.int (0 : Int32))] (.int (0 : Int32)) := Arv.set Ar32 q32 S32 N32 H32 G32 rfl W33 5 rfl (Nat.le_of_ble_eq_true rfl)
    show Go _ _ _ _ _ _ _ (T33.setTop (mkF m 92 #[.val (.long q0), .second, .val (.int p1), .val (.int p2), .val (.long x1), .second, .val (.int x2), .val (.int v6), .unset, .unset, .unset, .unset, .unset, .unset] [(.ref b14)]))
    refine gob (fun _ k => XS.dup X33.here hx rfl (hb hby at_92) rfl rfl k) ?_
    show Go _ _ _ _ _ _ _ (T33.setTop (mkF m 93 #[.val (.long q0), .second, .val (.int p1), .val (.int p2), .val (.long x1), .second, .val (.int x2), .val (.int v6), .unset, .unset, .unset, .unset, .unset, .unset] [(.ref b14), (.ref b14)]))
    refine gob (fun _ k => XS.bipush X33.here hx rfl (hb hby at_93) k) ?_
    show Go _ _ _ _ _ _ _ (T33.setTop (mkF m 95 #[.val (.long q0), .second, .val (.int p1), .val (.int p2), .val (.long x1), .second, .val (.int x2), .val (.int v6), .unset, .unset, .unset, .unset, .unset, .unset] [(.int (6 : Int32)), (.ref b14), (.ref b14)]))
    refine gob (fun _ k => XS.bipush X33.here hx rfl (hb hby at_95) k) ?_
    show Go _ _ _ _ _ _ _ (T33.setTop (mkF m 97 #[.val (.long q0), .second, .val (.int p1), .val (.int p2), .val (.long x1), .second, .val (.int x2), .val (.int v6), .unset, .unset, .unset, .unset, .unset, .unset] [(.int (31 : Int32)), (.int (6 : Int32)), (.ref b14), (.ref b14)]))
    obtain ⟨cl35, Ar35, q35, S35, N35, H35, G35⟩ := id V33
    have hin35 : ¬ ((6 : Int32) < 0 ∨ cl35.slots.size ≤ ((6 : Int32)).toNatClampNeg) := inb_of S35 ⟨by decide, by decide⟩
    obtain ⟨T36, h36, X36, e36, W36, st36⟩ := stI X33 hx hZ e33 Ar35 (j := (6 : Int32)) hin35 (g := (mkF m 97 #[.val (.long q0), .second, .val (.int p1), .val (.int p2), .val (.long x1), .second, .val (.int x2), .val (.int v6), .unset, .unset, .unset, .unset, .unset, .unset] [(.int (31 : Int32)), (.int (6 : Int32)), (.ref b14), (.ref b14)])) rfl rfl (hb hby at_97)
    refine gob st36 ?_
    have z37 : n0 ≤ h36.size := Nat.le_trans z34 (Keep.of_wr W36).1
    have N36 := Fr.snoc X36 N33 g15
    have V36 : Arv Z h36 b14 k14 .int (12 : Int32) [(.int (31 : Int32)), (.int (28 : Int32)), (.int (31 : Int32)), (.int (30 : Int32)), (.int (31 : Int32)), (.int (30 : Int32)), (.int (31 : Int32)), (.int (0 : Int32)), (.int (0 : Int32)), (.int (0 : Int32)), (.int (0 : Int32)), (.int (0 : Int32))] (.int (0 : Int32)) := Arv.set Ar35 q35 S35 N35 H35 G35 rfl W36 6 rfl (Nat.le_of_ble_eq_true rfl)
    show Go _ _ _ _ _ _ _ (T36.setTop (mkF m 98 #[.val (.long q0), .second, .val (.int p1), .val (.int p2), .val (.long x1), .second, .val (.int x2), .val (.int v6), .unset, .unset, .unset, .unset, .unset, .unset] [(.ref b14)]))
    refine gob (fun _ k => XS.dup X36.here hx rfl (hb hby at_98) rfl rfl k) ?_
    show Go _ _ _ _ _ _ _ (T36.setTop (mkF m 99 #[.val (.long q0), .second, .val (.int p1), .val (.int p2), .val (.long x1), .second, .val (.int x2), .val (.int v6), .unset, .unset, .unset, .unset, .unset, .unset] [(.ref b14), (.ref b14)]))
    refine gob (fun _ k => XS.bipush X36.here hx rfl (hb hby at_99) k) ?_
    show Go _ _ _ _ _ _ _ (T36.setTop (mkF m 101 #[.val (.long q0), .second, .val (.int p1), .val (.int p2), .val (.long x1), .second, .val (.int x2), .val (.int v6), .unset, .unset, .unset, .unset, .unset, .unset] [(.int (7 : Int32)), (.ref b14), (.ref b14)]))
    refine gob (fun _ k => XS.bipush X36.here hx rfl (hb hby at_101) k) ?_
    show Go _ _ _ _ _ _ _ (T36.setTop (mkF m 103 #[.val (.long q0), .second, .val (.int p1), .val (.int p2), .val (.long x1), .second, .val (.int x2), .val (.int v6), .unset, .unset, .unset, .unset, .unset, .unset] [(.int (31 : Int32)), (.int (7 : Int32)), (.ref b14), (.ref b14)]))
    obtain ⟨cl38, Ar38, q38, S38, N38, H38, G38⟩ := id V36
    have hin38 : ¬ ((7 : Int32) < 0 ∨ cl38.slots.size ≤ ((7 : Int32)).toNatClampNeg) := inb_of S38 ⟨by decide, by decide⟩
    obtain ⟨T39, h39, X39, e39, W39, st39⟩ := stI X36 hx hZ e36 Ar38 (j := (7 : Int32)) hin38 (g := (mkF m 103 #[.val (.long q0), .second, .val (.int p1), .val (.int p2), .val (.long x1), .second, .val (.int x2), .val (.int v6), .unset, .unset, .unset, .unset, .unset, .unset] [(.int (31 : Int32)), (.int (7 : Int32)), (.ref b14), (.ref b14)])) rfl rfl (hb hby at_103)
    refine gob st39 ?_
    have z40 : n0 ≤ h39.size := Nat.le_trans z37 (Keep.of_wr W39).1
    have N39 := Fr.snoc X39 N36 g15
    have V39 : Arv Z h39 b14 k14 .int (12 : Int32) [(.int (31 : Int32)), (.int (28 : Int32)), (.int (31 : Int32)), (.int (30 : Int32)), (.int (31 : Int32)), (.int (30 : Int32)), (.int (31 : Int32)), (.int (31 : Int32)), (.int (0 : Int32)), (.int (0 : Int32)), (.int (0 : Int32)), (.int (0 : Int32))] (.int (0 : Int32)) := Arv.set Ar38 q38 S38 N38 H38 G38 rfl W39 7 rfl (Nat.le_of_ble_eq_true rfl)
    show Go _ _ _ _ _ _ _ (T39.setTop (mkF m 104 #[.val (.long q0), .second, .val (.int p1), .val (.int p2), .val (.long x1), .second, .val (.int x2), .val (.int v6), .unset, .unset, .unset, .unset, .unset, .unset] [(.ref b14)]))
    refine gob (fun _ k => XS.dup X39.here hx rfl (hb hby at_104) rfl rfl k) ?_
    show Go _ _ _ _ _ _ _ (T39.setTop (mkF m 105 #[.val (.long q0), .second, .val (.int p1), .val (.int p2), .val (.long x1), .second, .val (.int x2), .val (.int v6), .unset, .unset, .unset, .unset, .unset, .unset] [(.ref b14), (.ref b14)]))
    refine gob (fun _ k => XS.bipush X39.here hx rfl (hb hby at_105) k) ?_
    show Go _ _ _ _ _ _ _ (T39.setTop (mkF m 107 #[.val (.long q0), .second, .val (.int p1), .val (.int p2), .val (.long x1), .second, .val (.int x2), .val (.int v6), .unset, .unset, .unset, .unset, .unset, .unset] [(.int (8 : Int32)), (.ref b14), (.ref b14)]))
    refine gob (fun _ k => XS.bipush X39.here hx rfl (hb hby at_107) k) ?_
    show Go _ _ _ _ _ _ _ (T39.setTop (mkF m 109 #[.val (.long q0), .second, .val (.int p1), .val (.int p2), .val (.long x1), .second, .val (.int x2), .val (.int v6), .unset, .unset, .unset, .unset, .unset, .unset] [(.int (30 : Int32)), (.int (8 : Int32)), (.ref b14), (.ref b14)]))
    obtain ⟨cl41, Ar41, q41, S41, N41, H41, G41⟩ := id V39
    have hin41 : ¬ ((8 : Int32) < 0 ∨ cl41.slots.size ≤ ((8 : Int32)).toNatClampNeg) := inb_of S41 ⟨by decide, by decide⟩
    obtain ⟨T42, h42, X42, e42, W42, st42⟩ := stI X39 hx hZ e39 Ar41 (j := (8 : Int32)) hin41 (g := (mkF m 109 #[.val (.long q0), .second, .val (.int p1), .val (.int p2), .val (.long x1), .second, .val (.int x2), .val (.int v6), .unset, .unset, .unset, .unset, .unset, .unset] [(.int (30 : Int32)), (.int (8 : Int32)), (.ref b14), (.ref b14)])) rfl rfl (hb hby at_109)
    refine gob st42 ?_
    have z43 : n0 ≤ h42.size := Nat.le_trans z40 (Keep.of_wr W42).1
    have N42 := Fr.snoc X42 N39 g15
    have V42 : Arv Z h42 b14 k14 .int (12 : Int32) [(.int (31 : Int32)), (.int (28 : Int32)), (.int (31 : Int32)), (.int (30 : Int32)), (.int (31 : Int32)), (.int (30 : Int32)), (.int (31 : Int32)), (.int (31 : Int32)), (.int (30 : Int32)), (.int (0 : Int32)), (.int (0 : Int32)), (.int (0 : Int32))] (.int (0 : Int32)) := Arv.set Ar41 q41 S41 N41 H41 G41 rfl W42 8 rfl (Nat.le_of_ble_eq_true rfl)
    show Go _ _ _ _ _ _ _ (T42.setTop (mkF m 110 #[.val (.long q0), .second, .val (.int p1), .val (.int p2), .val (.long x1), .second, .val (.int x2), .val (.int v6), .unset, .unset, .unset, .unset, .unset, .unset] [(.ref b14)]))
    refine gob (fun _ k => XS.dup X42.here hx rfl (hb hby at_110) rfl rfl k) ?_
    show Go _ _ _ _ _ _ _ (T42.setTop (mkF m 111 #[.val (.long q0), .second, .val (.int p1), .val (.int p2), .val (.long x1), .second, .val (.int x2), .val (.int v6), .unset, .unset, .unset, .unset, .unset, .unset] [(.ref b14), (.ref b14)]))
    refine gob (fun _ k => XS.bipush X42.here hx rfl (hb hby at_111) k) ?_
    show Go _ _ _ _ _ _ _ (T42.setTop (mkF m 113 #[.val (.long q0), .second, .val (.int p1), .val (.int p2), .val (.long x1), .second, .val (.int x2), .val (.int v6), .unset, .unset, .unset, .unset, .unset, .unset] [(.int (9 : Int32)), (.ref b14), (.ref b14)]))
    refine gob (fun _ k => XS.bipush X42.here hx rfl (hb hby at_113) k) ?_
    show Go _ _ _ _ _ _ _ (T42.setTop (mkF m 115 #[.val (.long q0), .second, .val (.int p1), .val (.int p2), .val (.long x1), .second, .val (.int x2), .val (.int v6), .unset, .unset, .unset, .unset, .unset, .unset] [(.int (31 : Int32)), (.int (9 : Int32)), (.ref b14), (.ref b14)]))
    obtain ⟨cl44, Ar44, q44, S44, N44, H44, G44⟩ := id V42
    have hin44 : ¬ ((9 : Int32) < 0 ∨ cl44.slots.size ≤ ((9 : Int32)).toNatClampNeg) := inb_of S44 ⟨by decide, by decide⟩
    obtain ⟨T45, h45, X45, e45, W45, st45⟩ := stI X42 hx hZ e42 Ar44 (j := (9 : Int32)) hin44 (g := (mkF m 115 #[.val (.long q0), .second, .val (.int p1), .val (.int p2), .val (.long x1), .second, .val (.int x2), .val (.int v6), .unset, .unset, .unset, .unset, .unset, .unset] [(.int (31 : Int32)), (.int (9 : Int32)), (.ref b14), (.ref b14)])) rfl rfl (hb hby at_115)
    refine gob st45 ?_
    have z46 : n0 ≤ h45.size := Nat.le_trans z43 (Keep.of_wr W45).1
    have N45 := Fr.snoc X45 N42 g15
    have V45 : Arv Z h45 b14 k14 .int (12 : Int32) [(.int (31 : Int32)), (.int (28 : Int32)), (.int (31 : Int32)), (.int (30 : Int32)), (.int (31 : Int32)), (.int (30 : Int32)), (.int (31 : Int32)), (.int (31 : Int32)), (.int (30 : Int32)), (.int (31 : Int32)), (.int (0 : Int32)), (.int (0 : Int32))] (.int (0 : Int32)) := Arv.set Ar44 q44 S44 N44 H44 G44 rfl W45 9 rfl (Nat.le_of_ble_eq_true rfl)
    show Go _ _ _ _ _ _ _ (T45.setTop (mkF m 116 #[.val (.long q0), .second, .val (.int p1), .val (.int p2), .val (.long x1), .second, .val (.int x2), .val (.int v6), .unset, .unset, .unset, .unset, .unset, .unset] [(.ref b14)]))
    refine gob (fun _ k => XS.dup X45.here hx rfl (hb hby at_116) rfl rfl k) ?_
    show Go _ _ _ _ _ _ _ (T45.setTop (mkF m 117 #[.val (.long q0), .second, .val (.int p1), .val (.int p2), .val (.long x1), .second, .val (.int x2), .val (.int v6), .unset, .unset, .unset, .unset, .unset, .unset] [(.ref b14), (.ref b14)]))
    refine gob (fun _ k => XS.bipush X45.here hx rfl (hb hby at_117) k) ?_
    show Go _ _ _ _ _ _ _ (T45.setTop (mkF m 119 #[.val (.long q0), .second, .val (.int p1), .val (.int p2), .val (.long x1), .second, .val (.int x2), .val (.int v6), .unset, .unset, .unset, .unset, .unset, .unset] [(.int (10 : Int32)), (.ref b14), (.ref b14)]))
    refine gob (fun _ k => XS.bipush X45.here hx rfl (hb hby at_119) k) ?_
    show Go _ _ _ _ _ _ _ (T45.setTop (mkF m 121 #[.val (.long q0), .second, .val (.int p1), .val (.int p2), .val (.long x1), .second, .val (.int x2), .val (.int v6), .unset, .unset, .unset, .unset, .unset, .unset] [(.int (30 : Int32)), (.int (10 : Int32)), (.ref b14), (.ref b14)]))
    obtain ⟨cl47, Ar47, q47, S47, N47, H47, G47⟩ := id V45
    have hin47 : ¬ ((10 : Int32) < 0 ∨ cl47.slots.size ≤ ((10 : Int32)).toNatClampNeg) := inb_of S47 ⟨by decide, by decide⟩
    obtain ⟨T48, h48, X48, e48, W48, st48⟩ := stI X45 hx hZ e45 Ar47 (j := (10 : Int32)) hin47 (g := (mkF m 121 #[.val (.long q0), .second, .val (.int p1), .val (.int p2), .val (.long x1), .second, .val (.int x2), .val (.int v6), .unset, .unset, .unset, .unset, .unset, .unset] [(.int (30 : Int32)), (.int (10 : Int32)), (.ref b14), (.ref b14)])) rfl rfl (hb hby at_121)
    refine gob st48 ?_
    have z49 : n0 ≤ h48.size := Nat.le_trans z46 (Keep.of_wr W48).1
    have N48 := Fr.snoc X48 N45 g15
    have V48 : Arv Z h48 b14 k14 .int (12 : Int32) [(.int (31 : Int32)), (.int (28 : Int32)), (.int (31 : Int32)), (.int (30 : Int32)), (.int (31 : Int32)), (.int (30 : Int32)), (.int (31 : Int32)), (.int (31 : Int32)), (.int (30 : Int32)), (.int (31 : Int32)), (.int (30 : Int32)), (.int (0 : Int32))] (.int (0 : Int32)) := Arv.set Ar47 q47 S47 N47 H47 G47 rfl W48 10 rfl (Nat.le_of_ble_eq_true rfl)
    show Go _ _ _ _ _ _ _ (T48.setTop (mkF m 122 #[.val (.long q0), .second, .val (.int p1), .val (.int p2), .val (.long x1), .second, .val (.int x2), .val (.int v6), .unset, .unset, .unset, .unset, .unset, .unset] [(.ref b14)]))
    refine gob (fun _ k => XS.dup X48.here hx rfl (hb hby at_122) rfl rfl k) ?_
    show Go _ _ _ _ _ _ _ (T48.setTop (mkF m 123 #[.val (.long q0), .second, .val (.int p1), .val (.int p2), .val (.long x1), .second, .val (.int x2), .val (.int v6), .unset, .unset, .unset, .unset, .unset, .unset] [(.ref b14), (.ref b14)]))
    refine gob (fun _ k => XS.bipush X48.here hx rfl (hb hby at_123) k) ?_
    show Go _ _ _ _ _ _ _ (T48.setTop (mkF m 125 #[.val (.long q0), .second, .val (.int p1), .val (.int p2), .val (.long x1), .second, .val (.int x2), .val (.int v6), .unset, .unset, .unset, .unset, .unset, .unset] [(.int (11 : Int32)), (.ref b14), (.ref b14)]))
    refine gob (fun _ k => XS.bipush X48.here hx rfl (hb hby at_125) k) ?_
    show Go _ _ _ _ _ _ _ (T48.setTop (mkF m 127 #[.val (.long q0), .second, .val (.int p1), .val (.int p2), .val (.long x1), .second, .val (.int x2), .val (.int v6), .unset, .unset, .unset, .unset, .unset, .unset] [(.int (31 : Int32)), (.int (11 : Int32)), (.ref b14), (.ref b14)]))
    obtain ⟨cl50, Ar50, q50, S50, N50, H50, G50⟩ := id V48
    have hin50 : ¬ ((11 : Int32) < 0 ∨ cl50.slots.size ≤ ((11 : Int32)).toNatClampNeg) := inb_of S50 ⟨by decide, by decide⟩
    obtain ⟨T51, h51, X51, e51, W51, st51⟩ := stI X48 hx hZ e48 Ar50 (j := (11 : Int32)) hin50 (g := (mkF m 127 #[.val (.long q0), .second, .val (.int p1), .val (.int p2), .val (.long x1), .second, .val (.int x2), .val (.int v6), .unset, .unset, .unset, .unset, .unset, .unset] [(.int (31 : Int32)), (.int (11 : Int32)), (.ref b14), (.ref b14)])) rfl rfl (hb hby at_127)
    refine gob st51 ?_
    have z52 : n0 ≤ h51.size := Nat.le_trans z49 (Keep.of_wr W51).1
    have N51 := Fr.snoc X51 N48 g15
    have V51 : Arv Z h51 b14 k14 .int (12 : Int32) [(.int (31 : Int32)), (.int (28 : Int32)), (.int (31 : Int32)), (.int (30 : Int32)), (.int (31 : Int32)), (.int (30 : Int32)), (.int (31 : Int32)), (.int (31 : Int32)), (.int (30 : Int32)), (.int (31 : Int32)), (.int (30 : Int32)), (.int (31 : Int32))] (.int (0 : Int32)) := Arv.set Ar50 q50 S50 N50 H50 G50 rfl W51 11 rfl (Nat.le_of_ble_eq_true rfl)
    show Go _ _ _ _ _ _ _ (T51.setTop (mkF m 128 #[.val (.long q0), .second, .val (.int p1), .val (.int p2), .val (.long x1), .second, .val (.int x2), .val (.int v6), .unset, .unset, .unset, .unset, .unset, .unset] [(.ref b14)]))
    refine gob (fun _ k => XS.astore X51.here hx rfl (hb hby at_128) rfl rfl (l' := #[.val (.long q0), .second, .val (.int p1), .val (.int p2), .val (.long x1), .second, .val (.int x2), .val (.int v6), .val (.ref b14), .unset, .unset, .unset, .unset, .unset]) rfl k) ?_
    show Go _ _ _ _ _ _ _ (T51.setTop (mkF m 130 #[.val (.long q0), .second, .val (.int p1), .val (.int p2), .val (.long x1), .second, .val (.int x2), .val (.int v6), .val (.ref b14), .unset, .unset, .unset, .unset, .unset] []))
    refine gob (fun _ k => XS.bipush X51.here hx rfl (hb hby at_130) k) ?_
    show Go _ _ _ _ _ _ _ (T51.setTop (mkF m 132 #[.val (.long q0), .second, .val (.int p1), .val (.int p2), .val (.long x1), .second, .val (.int x2), .val (.int v6), .val (.ref b14), .unset, .unset, .unset, .unset, .unset] [(.int (12 : Int32))]))
    obtain ⟨T53, h53, k53, X53, e53, E53, A53, st53⟩ := newP X51 hx hZ (hw _ (List.mem_of_getElem? (i := 3) rfl)) e51 (g := (mkF m 132 #[.val (.long q0), .second, .val (.int p1), .val (.int p2), .val (.long x1), .second, .val (.int x2), .val (.int v6), .val (.ref b14), .unset, .unset, .unset, .unset, .unset] [(.int (12 : Int32))])) rfl (hb hby at_132) rfl (by decide) (cap := 12) (by decide) (by decide) (by decide) (by decide)
    obtain ⟨b53, g53⟩ : ∃ z, z = h51.size := ⟨_, rfl⟩
    rw [← g53] at A53 st53
    have n54 : b14 ≠ b53 := Nat.ne_of_lt (Nat.lt_of_lt_of_le V51.lt (Nat.le_of_eq g53.symm))
    have g55 : n0 ≤ b53 := Nat.le_trans z52 (Nat.le_of_eq g53.symm)
    have z56 : n0 ≤ h53.size := Nat.le_trans z52 E53.1
    have V53 : Arv Z h53 b53 k53 .int (12 : Int32) [(.int (0 : Int32)), (.int (0 : Int32)), (.int (0 : Int32)), (.int (0 : Int32)), (.int (0 : Int32)), (.int (0 : Int32)), (.int (0 : Int32)), (.int (0 : Int32)), (.int (0 : Int32)), (.int (0 : Int32)), (.int (0 : Int32)), (.int (0 : Int32))] (.int (0 : Int32)) := (Arv.new A53 (by decide)).pad (pad_rep [] (.int (0 : Int32)) 12)
    refine gob st53 ?_
    show Go _ _ _ _ _ _ _ (T53.setTop (mkF m 134 #[.val (.long q0), .second, .val (.int p1), .val (.int p2), .val (.long x1), .second, .val (.int x2), .val (.int v6), .val (.ref b14), .unset, .unset, .unset, .unset, .unset] [(.ref b53)]))
    refine gob (fun _ k => XS.dup X53.here hx rfl (hb hby at_134) rfl rfl k) ?_
    show Go _ _ _ _ _ _ _ (T53.setTop (mkF m 135 #[.val (.long q0), .second, .val (.int p1), .val (.int p2), .val (.long x1), .second, .val (.int x2), .val (.int v6), .val (.ref b14), .unset, .unset, .unset, .unset, .unset] [(.ref b53), (.ref b53)]))
    refine gob (fun _ k => XS.iconst X53.here hx rfl (hb hby at_135) k) ?_
    show Go _ _ _ _ _ _ _ (T53.setTop (mkF m 136 #[.val (.long q0), .second, .val (.int p1), .val (.int p2), .val (.long x1), .second, .val (.int x2), .val (.int v6), .val (.ref b14), .unset, .unset, .unset, .unset, .unset] [(.int (0 : Int32)), (.ref b53), (.ref b53)]))
    refine gob (fun _ k => XS.iconst X53.here hx rfl (hb hby at_136) k) ?_
    show Go _ _ _ _ _ _ _ (T53.setTop (mkF m 137 #[.val (.long q0), .second, .val (.int p1), .val (.int p2), .val (.long x1), .second, .val (.int x2), .val (.int v6), .val (.ref b14), .unset, .unset, .unset, .unset, .unset] [(.int (0 : Int32)), (.int (0 : Int32)), (.ref b53), (.ref b53)]))
    obtain ⟨cl57, Ar57, q57, S57, N57, H57, G57⟩ := id V53
    have hin57 : ¬ ((0 : Int32) < 0 ∨ cl57.slots.size ≤ ((0 : Int32)).toNatClampNeg) := inb_of S57 ⟨by decide, by decide⟩
    obtain ⟨T58, h58, X58, e58, W58, st58⟩ := stI X53 hx hZ e53 Ar57 (j := (0 : Int32)) hin57 (g := (mkF m 137 #[.val (.long q0), .second, .val (.int p1), .val (.int p2), .val (.long x1), .second, .val (.int x2), .val (.int v6), .val (.ref b14), .unset, .unset, .unset, .unset, .unset] [(.int (0 : Int32)), (.int (0 : Int32)), (.ref b53), (.ref b53)])) rfl rfl (hb hby at_137)
    refine gob st58 ?_
    have z59 : n0 ≤ h58.size := Nat.le_trans z56 (Keep.of_wr W58).1
    have N58 := Fr.snoc X58 N51 g55
    have V58 : Arv Z h58 b53 k53 .int (12 : Int32) [(.int (0 : Int32)), (.int (0 : Int32)), (.int (0 : Int32)), (.int (0 : Int32)), (.int (0 : Int32)), (.int (0 : Int32)), (.int (0 : Int32)), (.int (0 : Int32)), (.int (0 : Int32)), (.int (0 : Int32)), (.int (0 : Int32)), (.int (0 : Int32))] (.int (0 : Int32)) := Arv.set Ar57 q57 S57 N57 H57 G57 rfl W58 0 rfl (Nat.le_of_ble_eq_true rfl)
    show Go _ _ _ _ _ _ _ (T58.setTop (mkF m 138 #[.val (.long q0), .second, .val (.int p1), .val (.int p2), .val (.long x1), .second, .val (.int x2), .val (.int v6), .val (.ref b14), .unset, .unset, .unset, .unset, .unset] [(.ref b53)]))
    refine gob (fun _ k => XS.dup X58.here hx rfl (hb hby at_138) rfl rfl k) ?_
    show Go _ _ _ _ _ _ _ (T58.setTop (mkF m 139 #[.val (.long q0), .second, .val (.int p1), .val (.int p2), .val (.long x1), .second, .val (.int x2), .val (.int v6), .val (.ref b14), .unset, .unset, .unset, .unset, .unset] [(.ref b53), (.ref b53)]))
    refine gob (fun _ k => XS.iconst X58.here hx rfl (hb hby at_139) k) ?_
    show Go _ _ _ _ _ _ _ (T58.setTop (mkF m 140 #[.val (.long q0), .second, .val (.int p1), .val (.int p2), .val (.long x1), .second, .val (.int x2), .val (.int v6), .val (.ref b14), .unset, .unset, .unset, .unset, .unset] [(.int (1 : Int32)), (.ref b53), (.ref b53)]))
    refine gob (fun _ k => XS.bipush X58.here hx rfl (hb hby at_140) k) ?_
    show Go _ _ _ _ _ _ _ (T58.setTop (mkF m 142 #[.val (.long q0), .second, .val (.int p1), .val (.int p2), .val (.long x1), .second, .val (.int x2), .val (.int v6), .val (.ref b14), .unset, .unset, .unset, .unset, .unset] [(.int (31 : Int32)), (.int (1 : Int32)), (.ref b53), (.ref b53)]))
    obtain ⟨cl60, Ar60, q60, S60, N60, H60, G60⟩ := id V58
    have hin60 : ¬ ((1 : Int32) < 0 ∨ cl60.slots.size ≤ ((1 : Int32)).toNatClampNeg) := inb_of S60 ⟨by decide, by decide⟩
    obtain ⟨T61, h61, X61, e61, W61, st61⟩ := stI X58 hx hZ e58 Ar60 (j := (1 : Int32)) hin60 (g := (mkF m 142 #[.val (.long q0), .second, .val (.int p1), .val (.int p2), .val (.long x1), .second, .val (.int x2), .val (.int v6), .val (.ref b14), .unset, .unset, .unset, .unset, .unset] [(.int (31 : Int32)), (.int (1 : Int32)), (.ref b53), (.ref b53)])) rfl rfl (hb hby at_142)
    refine gob st61 ?_
    have z62 : n0 ≤ h61.size := Nat.le_trans z59 (Keep.of_wr W61).1
    have N61 := Fr.snoc X61 N58 g55
    have V61 : Arv Z h61 b53 k53 .int (12 : Int32) [(.int (0 : Int32)), (.int (31 : Int32)), (.int (0 : Int32)), (.int (0 : Int32)), (.int (0 : Int32)), (.int (0 : Int32)), (.int (0 : Int32)), (.int (0 : Int32)), (.int (0 : Int32)), (.int (0 : Int32)), (.int (0 : Int32)), (.int (0 : Int32))] (.int (0 : Int32)) := Arv.set Ar60 q60 S60 N60 H60 G60 rfl W61 1 rfl (Nat.le_of_ble_eq_true rfl)
    show Go _ _ _ _ _ _ _ (T61.setTop (mkF m 143 #[.val (.long q0), .second, .val (.int p1), .val (.int p2), .val (.long x1), .second, .val (.int x2), .val (.int v6), .val (.ref b14), .unset, .unset, .unset, .unset, .unset] [(.ref b53)]))
    refine gob (fun _ k => XS.dup X61.here hx rfl (hb hby at_143) rfl rfl k) ?_
    show Go _ _ _ _ _ _ _ (T61.setTop (mkF m 144 #[.val (.long q0), .second, .val (.int p1), .val (.int p2), .val (.long x1), .second, .val (.int x2), .val (.int v6), .val (.ref b14), .unset, .unset, .unset, .unset, .unset] [(.ref b53), (.ref b53)]))
    refine gob (fun _ k => XS.iconst X61.here hx rfl (hb hby at_144) k) ?_
    show Go _ _ _ _ _ _ _ (T61.setTop (mkF m 145 #[.val (.long q0), .second, .val (.int p1), .val (.int p2), .val (.long x1), .second, .val (.int x2), .val (.int v6), .val (.ref b14), .unset, .unset, .unset, .unset, .unset] [(.int (2 : Int32)), (.ref b53), (.ref b53)]))
    refine gob (fun _ k => XS.bipush X61.here hx rfl (hb hby at_145) k) ?_
    show Go _ _ _ _ _ _ _ (T61.setTop (mkF m 147 #[.val (.long q0), .second, .val (.int p1), .val (.int p2), .val (.long x1), .second, .val (.int x2), .val (.int v6), .val (.ref b14), .unset, .unset, .unset, .unset, .unset] [(.int (59 : Int32)), (.int (2 : Int32)), (.ref b53), (.ref b53)]))
    obtain ⟨cl63, Ar63, q63, S63, N63, H63, G63⟩ := id V61
    have hin63 : ¬ ((2 : Int32) < 0 ∨ cl63.slots.size ≤ ((2 : Int32)).toNatClampNeg) := inb_of S63 ⟨by decide, by decide⟩
    obtain ⟨T64, h64, X64, e64, W64, st64⟩ := stI X61 hx hZ e61 Ar63 (j := (2 : Int32)) hin63 (g := (mkF m 147 #[.val (.long q0), .second, .val (.int p1), .val (.int p2), .val (.long x1), .second, .val (.int x2), .val (.int v6), .val (.ref b14), .unset, .unset, .unset, .unset, .unset] [(.int (59 : Int32)), (.int (2 : Int32)), (.ref b53), (.ref b53)])) rfl rfl (hb hby at_147)
    refine gob st64 ?_
    have z65 : n0 ≤ h64.size := Nat.le_trans z62 (Keep.of_wr W64).1
    have N64 := Fr.snoc X64 N61 g55
    have V64 : Arv Z h64 b53 k53 .int (12 : Int32) [(.int (0 : Int32)), (.int (31 : Int32)), (.int (59 : Int32)), (.int (0 : Int32)), (.int (0 : Int32)), (.int (0 : Int32)), (.int (0 : Int32)), (.int (0 : Int32)), (.int (0 : Int32)), (.int (0 : Int32)), (.int (0 : Int32)), (.int (0 : Int32))] (.int (0 : Int32)) := Arv.set Ar63 q63 S63 N63 H63 G63 rfl W64 2 rfl (Nat.le_of_ble_eq_true rfl)
    show Go _ _ _ _ _ _ _ (T64.setTop (mkF m 148 #[.val (.long q0), .second, .val (.int p1), .val (.int p2), .val (.long x1), .second, .val (.int x2), .val (.int v6), .val (.ref b14), .unset, .unset, .unset, .unset, .unset] [(.ref b53)]))
    refine gob (fun _ k => XS.dup X64.here hx rfl (hb hby at_148) rfl rfl k) ?_
    show Go _ _ _ _ _ _ _ (T64.setTop (mkF m 149 #[.val (.long q0), .second, .val (.int p1), .val (.int p2), .val (.long x1), .second, .val (.int x2), .val (.int v6), .val (.ref b14), .unset, .unset, .unset, .unset, .unset] [(.ref b53), (.ref b53)]))
    refine gob (fun _ k => XS.iconst X64.here hx rfl (hb hby at_149) k) ?_
    show Go _ _ _ _ _ _ _ (T64.setTop (mkF m 150 #[.val (.long q0), .second, .val (.int p1), .val (.int p2), .val (.long x1), .second, .val (.int x2), .val (.int v6), .val (.ref b14), .unset, .unset, .unset, .unset, .unset] [(.int (3 : Int32)), (.ref b53), (.ref b53)]))
    refine gob (fun _ k => XS.bipush X64.here hx rfl (hb hby at_150) k) ?_
    show Go _ _ _ _ _ _ _ (T64.setTop (mkF m 152 #[.val (.long q0), .second, .val (.int p1), .val (.int p2), .val (.long x1), .second, .val (.int x2), .val (.int v6), .val (.ref b14), .unset, .unset, .unset, .unset, .unset] [(.int (90 : Int32)), (.int (3 : Int32)), (.ref b53), (.ref b53)]))
    obtain ⟨cl66, Ar66, q66, S66, N66, H66, G66⟩ := id V64
    have hin66 : ¬ ((3 : Int32) < 0 ∨ cl66.slots.size ≤ ((3 : Int32)).toNatClampNeg) := inb_of S66 ⟨by decide, by decide⟩
    obtain ⟨T67, h67, X67, e67, W67, st67⟩ := stI X64 hx hZ e64 Ar66 (j := (3 : Int32)) hin66 (g := (mkF m 152 #[.val (.long q0), .second, .val (.int p1), .val (.int p2), .val (.long x1), .second, .val (.int x2), .val (.int v6), .val (.ref b14), .unset, .unset, .unset, .unset, .unset] [(.int (90 : Int32)), (.int (3 : Int32)), (.ref b53), (.ref b53)])) rfl rfl (hb hby at_152)
    refine gob st67 ?_
    have z68 : n0 ≤ h67.size := Nat.le_trans z65 (Keep.of_wr W67).1
    have N67 := Fr.snoc X67 N64 g55
    have V67 : Arv Z h67 b53 k53 .int (12 : Int32) [(.int (0 : Int32)), (.int (31 : Int32)), (.int (59 : Int32)), (.int (90 : Int32)), (.int (0 : Int32)), (.int (0 : Int32)), (.int (0 : Int32)), (.int (0 : Int32)), (.int (0 : Int32)), (.int (0 : Int32)), (.int (0 : Int32)), (.int (0 : Int32))] (.int (0 : Int32)) := Arv.set Ar66 q66 S66 N66 H66 G66 rfl W67 3 rfl (Nat.le_of_ble_eq_true rfl)
    show Go _ _ _ _ _ _ _ (T67.setTop (mkF m 153 #[.val (.long q0), .second, .val (.int p1), .val (.int p2), .val (.long x1), .second, .val (.int x2), .val (.int v6), .val (.ref b14), .unset, .unset, .unset, .unset, .unset] [(.ref b53)]))
    refine gob (fun _ k => XS.dup X67.here hx rfl (hb hby at_153) rfl rfl k) ?_
    show Go _ _ _ _ _ _ _ (T67.setTop (mkF m 154 #[.val (.long q0), .second, .val (.int p1), .val (.int p2), .val (.long x1), .second, .val (.int x2), .val (.int v6), .val (.ref b14), .unset, .unset, .unset, .unset, .unset] [(.ref b53), (.ref b53)]))
    refine gob (fun _ k => XS.iconst X67.here hx rfl (hb hby at_154) k) ?_
    show Go _ _ _ _ _ _ _ (T67.setTop (mkF m 155 #[.val (.long q0), .second, .val (.int p1), .val (.int p2), .val (.long x1), .second, .val (.int x2), .val (.int v6), .val (.ref b14), .unset, .unset, .unset, .unset, .unset] [(.int (4 : Int32)), (.ref b53), (.ref b53)]))
    refine gob (fun _ k => XS.bipush X67.here hx rfl (hb hby at_155) k) ?_
    show Go _ _ _ _ _ _ _ (T67.setTop (mkF m 157 #[.val (.long q0), .second, .val (.int p1), .val (.int p2), .val (.long x1), .second, .val (.int x2), .val (.int v6), .val (.ref b14), .unset, .unset, .unset, .unset, .unset] [(.int (120 : Int32)), (.int (4 : Int32)), (.ref b53), (.ref b53)]))
    obtain ⟨cl69, Ar69, q69, S69, N69, H69, G69⟩ := id V67
    have hin69 : ¬ ((4 : Int32) < 0 ∨ cl69.slots.size ≤ ((4 : Int32)).toNatClampNeg) := inb_of S69 ⟨by decide, by decide⟩
    obtain ⟨T70, h70, X70, e70, W70, st70⟩ := stI X67 hx hZ e67 Ar69 (j := (4 : Int32)) hin69 (g := (mkF m 157 #[.val (.long q0), .second, .val (.int p1), .val (.int p2), .val (.long x1), .second, .val (.int x2), .val (.int v6), .val (.ref b14), .unset, .unset, .unset, .unset, .unset] [(.int (120 : Int32)), (.int (4 : Int32)), (.ref b53), (.ref b53)])) rfl rfl (hb hby at_157)
    refine gob st70 ?_
    have z71 : n0 ≤ h70.size := Nat.le_trans z68 (Keep.of_wr W70).1
    have N70 := Fr.snoc X70 N67 g55
    have V70 : Arv Z h70 b53 k53 .int (12 : Int32) [(.int (0 : Int32)), (.int (31 : Int32)), (.int (59 : Int32)), (.int (90 : Int32)), (.int (120 : Int32)), (.int (0 : Int32)), (.int (0 : Int32)), (.int (0 : Int32)), (.int (0 : Int32)), (.int (0 : Int32)), (.int (0 : Int32)), (.int (0 : Int32))] (.int (0 : Int32)) := Arv.set Ar69 q69 S69 N69 H69 G69 rfl W70 4 rfl (Nat.le_of_ble_eq_true rfl)
    show Go _ _ _ _ _ _ _ (T70.setTop (mkF m 158 #[.val (.long q0), .second, .val (.int p1), .val (.int p2), .val (.long x1), .second, .val (.int x2), .val (.int v6), .val (.ref b14), .unset, .unset, .unset, .unset, .unset] [(.ref b53)]))
    refine gob (fun _ k => XS.dup X70.here hx rfl (hb hby at_158) rfl rfl k) ?_
    show Go _ _ _ _ _ _ _ (T70.setTop (mkF m 159 #[.val (.long q0), .second, .val (.int p1), .val (.int p2), .val (.long x1), .second, .val (.int x2), .val (.int v6), .val (.ref b14), .unset, .unset, .unset, .unset, .unset] [(.ref b53), (.ref b53)]))
    refine gob (fun _ k => XS.iconst X70.here hx rfl (hb hby at_159) k) ?_
    show Go _ _ _ _ _ _ _ (T70.setTop (mkF m 160 #[.val (.long q0), .second, .val (.int p1), .val (.int p2), .val (.long x1), .second, .val (.int x2), .val (.int v6), .val (.ref b14), .unset, .unset, .unset, .unset, .unset] [(.int (5 : Int32)), (.ref b53), (.ref b53)]))
    refine gob (fun _ k => XS.sipush X70.here hx rfl (hb hby at_160) k) ?_
    show Go _ _ _ _ _ _ _ (T70.setTop (mkF m 163 #[.val (.long q0), .second, .val (.int p1), .val (.int p2), .val (.long x1), .second, .val (.int x2), .val (.int v6), .val (.ref b14), .unset, .unset, .unset, .unset, .unset] [(.int (151 : Int32)), (.int (5 : Int32)), (.ref b53), (.ref b53)]))
    obtain ⟨cl72, Ar72, q72, S72, N72, H72, G72⟩ := id V70
    have hin72 : ¬ ((5 : Int32) < 0 ∨ cl72.slots.size ≤ ((5 : Int32)).toNatClampNeg) := inb_of S72 ⟨by decide, by decide⟩
    obtain ⟨T73, h73, X73, e73, W73, st73⟩ := stI X70 hx hZ e70 Ar72 (j := (5 : Int32)) hin72 (g := (mkF m 163 #[.val (.long q0), .second, .val (.int p1), .val (.int p2), .val (.long x1), .second, .val (.int x2), .val (.int v6), .val (.ref b14), .unset, .unset, .unset, .unset, .unset] [(.int (151 : Int32)), (.int (5 : Int32)), (.ref b53), (.ref b53)])) rfl rfl (hb hby at_163)
    refine gob st73 ?_
    have z74 : n0 ≤ h73.size := Nat.le_trans z71 (Keep.of_wr W73).1
    have N73 := Fr.snoc X73 N70 g55
    have V73 : Arv Z h73 b53 k53 .int (12 : Int32) [(.int (0 : Int32)), (.int (31 : Int32)), (.int (59 : Int32)), (.int (90 : Int32)), (.int (120 : Int32)), (.int (151 : Int32)), (.int (0 : Int32)), (.int (0 : Int32)), (.int (0 : Int32)), (.int (0 : Int32)), (.int (0 : Int32)), (.int (0 : Int32))] (.int (0 : Int32)) := Arv.set Ar72 q72 S72 N72 H72 G72 rfl W73 5 rfl (Nat.le_of_ble_eq_true rfl)
    show Go _ _ _ _ _ _ _ (T73.setTop (mkF m 164 #[.val (.long q0), .second, .val (.int p1), .val (.int p2), .val (.long x1), .second, .val (.int x2), .val (.int v6), .val (.ref b14), .unset, .unset, .unset, .unset, .unset] [(.ref b53)]))
    refine gob (fun _ k => XS.dup X73.here hx rfl (hb hby at_164) rfl rfl k) ?_
    show Go _ _ _ _ _ _ _ (T73.setTop (mkF m 165 #[.val (.long q0), .second, .val (.int p1), .val (.int p2), .val (.long x1), .second, .val (.int x2), .val (.int v6), .val (.ref b14), .unset, .unset, .unset, .unset, .unset] [(.ref b53), (.ref b53)]))
    refine gob (fun _ k => XS.bipush X73.here hx rfl (hb hby at_165) k) ?_
    show Go _ _ _ _ _ _ _ (T73.setTop (mkF m 167 #[.val (.long q0), .second, .val (.int p1), .val (.int p2), .val (.long x1), .second, .val (.int x2), .val (.int v6), .val (.ref b14), .unset, .unset, .unset, .unset, .unset] [(.int (6 : Int32)), (.ref b53), (.ref b53)]))
    refine gob (fun _ k => XS.sipush X73.here hx rfl (hb hby at_167) k) ?_
    show Go _ _ _ _ _ _ _ (T73.setTop (mkF m 170 #[.val (.long q0), .second, .val (.int p1), .val (.int p2), .val (.long x1), .second, .val (.int x2), .val (.int v6), .val (.ref b14), .unset, .unset, .unset, .unset, .unset] [(.int (181 : Int32)), (.int (6 : Int32)), (.ref b53), (.ref b53)]))
    obtain ⟨cl75, Ar75, q75, S75, N75, H75, G75⟩ := id V73
    have hin75 : ¬ ((6 : Int32) < 0 ∨ cl75.slots.size ≤ ((6 : Int32)).toNatClampNeg) := inb_of S75 ⟨by decide, by decide⟩
    obtain ⟨T76, h76, X76, e76, W76, st76⟩ := stI X73 hx hZ e73 Ar75 (j := (6 : Int32)) hin75 (g := (mkF m 170 #[.val (.long q0), .second, .val (.int p1), .val (.int p2), .val (.long x1), .second, .val (.int x2), .val (.int v6), .val (.ref b14), .unset, .unset, .unset, .unset, .unset] [(.int (181 : Int32)), (.int (6 : Int32)), (.ref b53), (.ref b53)])) rfl rfl (hb hby at_170)
    refine gob st76 ?_
    have z77 : n0 ≤ h76.size := Nat.le_trans z74 (Keep.of_wr W76).1
    have N76 := Fr.snoc X76 N73 g55
    have V76 : Arv Z h76 b53 k53 .int (12 : Int32) [(.int (0 : Int32)), (.int (31 : Int32)), (.int (59 : Int32)), (.int (90 : Int32)), (.int (120 : Int32)), (.int (151 : Int32)), (.int (181 : Int32)), (.int (0 : Int32)), (.int (0 : Int32)), (.int (0 : Int32)), (.int (0 : Int32)), (.int (0 : Int32))] (.int (0 : Int32)) := Arv.set Ar75 q75 S75 N75 H75 G75 rfl W76 6 rfl (Nat.le_of_ble_eq_true rfl)
    show Go _ _ _ _ _ _ _ (T76.setTop (mkF m 171 #[.val (.long q0), .second, .val (.int p1), .val (.int p2), .val (.long x1), .second, .val (.int x2), .val (.int v6), .val (.ref b14), .unset, .unset, .unset, .unset, .unset] [(.ref b53)]))
    refine gob (fun _ k => XS.dup X76.here hx rfl (hb hby at_171) rfl rfl k) ?_
    show Go _ _ _ _ _ _ _ (T76.setTop (mkF m 172 #[.val (.long q0), .second, .val (.int p1), .val (.int p2), .val (.long x1), .second, .val (.int x2), .val (.int v6), .val (.ref b14), .unset, .unset, .unset, .unset, .unset] [(.ref b53), (.ref b53)]))
    refine gob (fun _ k => XS.bipush X76.here hx rfl (hb hby at_172) k) ?_
    show Go _ _ _ _ _ _ _ (T76.setTop (mkF m 174 #[.val (.long q0), .second, .val (.int p1), .val (.int p2), .val (.long x1), .second, .val (.int x2), .val (.int v6), .val (.ref b14), .unset, .unset, .unset, .unset, .unset] [(.int (7 : Int32)), (.ref b53), (.ref b53)]))
    refine gob (fun _ k => XS.sipush X76.here hx rfl (hb hby at_174) k) ?_
    show Go _ _ _ _ _ _ _ (T76.setTop (mkF m 177 #[.val (.long q0), .second, .val (.int p1), .val (.int p2), .val (.long x1), .second, .val (.int x2), .val (.int v6), .val (.ref b14), .unset, .unset, .unset, .unset, .unset] [(.int (212 : Int32)), (.int (7 : Int32)), (.ref b53), (.ref b53)]))
    obtain ⟨cl78, Ar78, q78, S78, N78, H78, G78⟩ := id V76
    have hin78 : ¬ ((7 : Int32) < 0 ∨ cl78.slots.size ≤ ((7 : Int32)).toNatClampNeg) := inb_of S78 ⟨by decide, by decide⟩
    obtain ⟨T79, h79, X79, e79, W79, st79⟩ := stI X76 hx hZ e76 Ar78 (j := (7 : Int32)) hin78 (g := (mkF m 177 #[.val (.long q0), .second, .val (.int p1), .val (.int p2), .val (.long x1), .second, .val (.int x2), .val (.int v6), .val (.ref b14), .unset, .unset, .unset, .unset, .unset] [(.int (212 : Int32)), (.int (7 : Int32)), (.ref b53), (.ref b53)])) rfl rfl (hb hby at_177)
    refine gob st79 ?_
    have z80 : n0 ≤ h79.size := Nat.le_trans z77 (Keep.of_wr W79).1
    have N79 := Fr.snoc X79 N76 g55
    have V79 : Arv Z h79 b53 k53 .int (12 : Int32) [(.int (0 : Int32)), (.int (31 : Int32)), (.int (59 : Int32)), (.int (90 : Int32)), (.int (120 : Int32)), (.int (151 : Int32)), (.int (181 : Int32)), (.int (212 : Int32)), (.int (0 : Int32)), (.int (0 : Int32)), (.int (0 : Int32)), (.int (0 : Int32))] (.int (0 : Int32)) := Arv.set Ar78 q78 S78 N78 H78 G78 rfl W79 7 rfl (Nat.le_of_ble_eq_true rfl)
    show Go _ _ _ _ _ _ _ (T79.setTop (mkF m 178 #[.val (.long q0), .second, .val (.int p1), .val (.int p2), .val (.long x1), .second, .val (.int x2), .val (.int v6), .val (.ref b14), .unset, .unset, .unset, .unset, .unset] [(.ref b53)]))
    refine gob (fun _ k => XS.dup X79.here hx rfl (hb hby at_178) rfl rfl k) ?_
    show Go _ _ _ _ _ _ _ (T79.setTop (mkF m 179 #[.val (.long q0), .second, .val (.int p1), .val (.int p2), .val (.long x1), .second, .val (.int x2), .val (.int v6), .val (.ref b14), .unset, .unset, .unset, .unset, .unset] [(.ref b53), (.ref b53)]))
    refine gob (fun _ k => XS.bipush X79.here hx rfl (hb hby at_179) k) ?_
    show Go _ _ _ _ _ _ _ (T79.setTop (mkF m 181 #[.val (.long q0), .second, .val (.int p1), .val (.int p2), .val (.long x1), .second, .val (.int x2), .val (.int v6), .val (.ref b14), .unset, .unset, .unset, .unset, .unset] [(.int (8 : Int32)), (.ref b53), (.ref b53)]))
    refine gob (fun _ k => XS.sipush X79.here hx rfl (hb hby at_181) k) ?_
    show Go _ _ _ _ _ _ _ (T79.setTop (mkF m 184 #[.val (.long q0), .second, .val (.int p1), .val (.int p2), .val (.long x1), .second, .val (.int x2), .val (.int v6), .val (.ref b14), .unset, .unset, .unset, .unset, .unset] [(.int (243 : Int32)), (.int (8 : Int32)), (.ref b53), (.ref b53)]))
    obtain ⟨cl81, Ar81, q81, S81, N81, H81, G81⟩ := id V79
    have hin81 : ¬ ((8 : Int32) < 0 ∨ cl81.slots.size ≤ ((8 : Int32)).toNatClampNeg) := inb_of S81 ⟨by decide, by decide⟩
    obtain ⟨T82, h82, X82, e82, W82, st82⟩ := stI X79 hx hZ e79 Ar81 (j := (8 : Int32)) hin81 (g := (mkF m 184 #[.val (.long q0), .second, .val (.int p1), .val (.int p2), .val (.long x1), .second, .val (.int x2), .val (.int v6), .val (.ref b14), .unset, .unset, .unset, .unset, .unset] [(.int (243 : Int32)), (.int (8 : Int32)), (.ref b53), (.ref b53)])) rfl rfl (hb hby at_184)
    refine gob st82 ?_
    have z83 : n0 ≤ h82.size := Nat.le_trans z80 (Keep.of_wr W82).1
    have N82 := Fr.snoc X82 N79 g55
    have V82 : Arv Z h82 b53 k53 .int (12 : Int32) [(.int (0 : Int32)), (.int (31 : Int32)), (.int (59 : Int32)), (.int (90 : Int32)), (.int (120 : Int32)), (.int (151 : Int32)), (.int (181 : Int32)), (.int (212 : Int32)), (.int (243 : Int32)), (.int (0 : Int32)), (.int (0 : Int32)), (.int (0 : Int32))] (.int (0 : Int32)) := Arv.set Ar81 q81 S81 N81 H81 G81 rfl W82 8 rfl (Nat.le_of_ble_eq_true rfl)
    show Go _ _ _ _ _ _ _ (T82.setTop (mkF m 185 #[.val (.long q0), .second, .val (.int p1), .val (.int p2), .val (.long x1), .second, .val (.int x2), .val (.int v6), .val (.ref b14), .unset, .unset, .unset, .unset, .unset] [(.ref b53)]))
    refine gob (fun _ k => XS.dup X82.here hx rfl (hb hby at_185) rfl rfl k) ?_
    show Go _ _ _ _ _ _ _ (T82.setTop (mkF m 186 #[.val (.long q0), .second, .val (.int p1), .val (.int p2), .val (.long x1), .second, .val (.int x2), .val (.int v6), .val (.ref b14), .unset, .unset, .unset, .unset, .unset] [(.ref b53), (.ref b53)]))
    refine gob (fun _ k => XS.bipush X82.here hx rfl (hb hby at_186) k) ?_
    show Go _ _ _ _ _ _ _ (T82.setTop (mkF m 188 #[.val (.long q0), .second, .val (.int p1), .val (.int p2), .val (.long x1), .second, .val (.int x2), .val (.int v6), .val (.ref b14), .unset, .unset, .unset, .unset, .unset] [(.int (9 : Int32)), (.ref b53), (.ref b53)]))
    refine gob (fun _ k => XS.sipush X82.here hx rfl (hb hby at_188) k) ?_
    show Go _ _ _ _ _ _ _ (T82.setTop (mkF m 191 #[.val (.long q0), .second, .val (.int p1), .val (.int p2), .val (.long x1), .second, .val (.int x2), .val (.int v6), .val (.ref b14), .unset, .unset, .unset, .unset, .unset] [(.int (273 : Int32)), (.int (9 : Int32)), (.ref b53), (.ref b53)]))
    obtain ⟨cl84, Ar84, q84, S84, N84, H84, G84⟩ := id V82
    have hin84 : ¬ ((9 : Int32) < 0 ∨ cl84.slots.size ≤ ((9 : Int32)).toNatClampNeg) := inb_of S84 ⟨by decide, by decide⟩
    obtain ⟨T85, h85, X85, e85, W85, st85⟩ := stI X82 hx hZ e82 Ar84 (j := (9 : Int32)) hin84 (g := (mkF m 191 #[.val (.long q0), .second, .val (.int p1), .val (.int p2), .val (.long x1), .second, .val (.int x2), .val (.int v6), .val (.ref b14), .unset, .unset, .unset, .unset, .unset] [(.int (273 : Int32)), (.int (9 : Int32)), (.ref b53), (.ref b53)])) rfl rfl (hb hby at_191)
    refine gob st85 ?_
    have z86 : n0 ≤ h85.size := Nat.le_trans z83 (Keep.of_wr W85).1
    have N85 := Fr.snoc X85 N82 g55
    have V85 : Arv Z h85 b53 k53 .int (12 : Int32) [(.int (0 : Int32)), (.int (31 : Int32)), (.int (59 : Int32)), (.int (90 : Int32)), (.int (120 : Int32)), (.int (151 : Int32)), (.int (181 : Int32)), (.int (212 : Int32)), (.int (243 : Int32)), (.int (273 : Int32)), (.int (0 : Int32)), (.int (0 : Int32))] (.int (0 : Int32)) := Arv.set Ar84 q84 S84 N84 H84 G84 rfl W85 9 rfl (Nat.le_of_ble_eq_true rfl)
    show Go _ _ _ _ _ _ _ (T85.setTop (mkF m 192 #[.val (.long q0), .second, .val (.int p1), .val (.int p2), .val (.long x1), .second, .val (.int x2), .val (.int v6), .val (.ref b14), .unset, .unset, .unset, .unset, .unset] [(.ref b53)]))
    refine gob (fun _ k => XS.dup X85.here hx rfl (hb hby at_192) rfl rfl k) ?_
    show Go _ _ _ _ _ _ _ (T85.setTop (mkF m 193 #[.val (.long q0), .second, .val (.int p1), .val (.int p2), .val (.long x1), .second, .val (.int x2), .val (.int v6), .val (.ref b14), .unset, .unset, .unset, .unset, .unset] [(.ref b53), (.ref b53)]))
    refine gob (fun _ k => XS.bipush X85.here hx rfl (hb hby at_193) k) ?_
    show Go _ _ _ _ _ _ _ (T85.setTop (mkF m 195 #[.val (.long q0), .second, .val (.int p1), .val (.int p2), .val (.long x1), .second, .val (.int x2), .val (.int v6), .val (.ref b14), .unset, .unset, .unset, .unset, .unset] [(.int (10 : Int32)), (.ref b53), (.ref b53)]))
    refine gob (fun _ k => XS.sipush X85.here hx rfl (hb hby at_195) k) ?_
    show Go _ _ _ _ _ _ _ (T85.setTop (mkF m 198 #[.val (.long q0), .second, .val (.int p1), .val (.int p2), .val (.long x1), .second, .val (.int x2), .val (.int v6), .val (.ref b14), .unset, .unset, .unset, .unset, .unset] [(.int (304 : Int32)), (.int (10 : Int32)), (.ref b53), (.ref b53)]))
    obtain ⟨cl87, Ar87, q87, S87, N87, H87, G87⟩ := id V85
    have hin87 : ¬ ((10 : Int32) < 0 ∨ cl87.slots.size ≤ ((10 : Int32)).toNatClampNeg) := inb_of S87 ⟨by decide, by decide⟩
    obtain ⟨T88, h88, X88, e88, W88, st88⟩ := stI X85 hx hZ e85 Ar87 (j := (10 : Int32)) hin87 (g := (mkF m 198 #[.val (.long q0), .second, .val (.int p1), .val (.int p2), .val (.long x1), .second, .val (.int x2), .val (.int v6), .val (.ref b14), .unset, .unset, .unset, .unset, .unset] [(.int (304 : Int32)), (.int (10 : Int32)), (.ref b53), (.ref b53)])) rfl rfl (hb hby at_198)
    refine gob st88 ?_
    have z89 : n0 ≤ h88.size := Nat.le_trans z86 (Keep.of_wr W88).1
    have N88 := Fr.snoc X88 N85 g55
    have V88 : Arv Z h88 b53 k53 .int (12 : Int32) [(.int (0 : Int32)), (.int (31 : Int32)), (.int (59 : Int32)), (.int (90 : Int32)), (.int (120 : Int32)), (.int (151 : Int32)), (.int (181 : Int32)), (.int (212 : Int32)), (.int (243 : Int32)), (.int (273 : Int32)), (.int (304 : Int32)), (.int (0 : Int32))] (.int (0 : Int32)) := Arv.set Ar87 q87 S87 N87 H87 G87 rfl W88 10 rfl (Nat.le_of_ble_eq_true rfl)
    show Go _ _ _ _ _ _ _ (T88.setTop (mkF m 199 #[.val (.long q0), .second, .val (.int p1), .val (.int p2), .val (.long x1), .second, .val (.int x2), .val (.int v6), .val (.ref b14), .unset, .unset, .unset, .unset, .unset] [(.ref b53)]))
    refine gob (fun _ k => XS.dup X88.here hx rfl (hb hby at_199) rfl rfl k) ?_
    show Go _ _ _ _ _ _ _ (T88.setTop (mkF m 200 #[.val (.long q0), .second, .val (.int p1), .val (.int p2), .val (.long x1), .second, .val (.int x2), .val (.int v6), .val (.ref b14), .unset, .unset, .unset, .unset, .unset] [(.ref b53), (.ref b53)]))
    refine gob (fun _ k => XS.bipush X88.here hx rfl (hb hby at_200) k) ?_
    show Go _ _ _ _ _ _ _ (T88.setTop (mkF m 202 #[.val (.long q0), .second, .val (.int p1), .val (.int p2), .val (.long x1), .second, .val (.int x2), .val (.int v6), .val (.ref b14), .unset, .unset, .unset, .unset, .unset] [(.int (11 : Int32)), (.ref b53), (.ref b53)]))
    refine gob (fun _ k => XS.sipush X88.here hx rfl (hb hby at_202) k) ?_
    show Go _ _ _ _ _ _ _ (T88.setTop (mkF m 205 #[.val (.long q0), .second, .val (.int p1), .val (.int p2), .val (.long x1), .second, .val (.int x2), .val (.int v6), .val (.ref b14), .unset, .unset, .unset, .unset, .unset] [(.int (334 : Int32)), (.int (11 : Int32)), (.ref b53), (.ref b53)]))
    obtain ⟨cl90, Ar90, q90, S90, N90, H90, G90⟩ := id V88
    have hin90 : ¬ ((11 : Int32) < 0 ∨ cl90.slots.size ≤ ((11 : Int32)).toNatClampNeg) := inb_of S90 ⟨by decide, by decide⟩
    obtain ⟨T91, h91, X91, e91, W91, st91⟩ := stI X88 hx hZ e88 Ar90 (j := (11 : Int32)) hin90 (g := (mkF m 205 #[.val (.long q0), .second, .val (.int p1), .val (.int p2), .val (.long x1), .second, .val (.int x2), .val (.int v6), .val (.ref b14), .unset, .unset, .unset, .unset, .unset] [(.int (334 : Int32)), (.int (11 : Int32)), (.ref b53), (.ref b53)])) rfl rfl (hb hby at_205)
    refine gob st91 ?_
    have z92 : n0 ≤ h91.size := Nat.le_trans z89 (Keep.of_wr W91).1
    have N91 := Fr.snoc X91 N88 g55
    have V91 : Arv Z h91 b53 k53 .int (12 : Int32) [(.int (0 : Int32)), (.int (31 : Int32)), (.int (59 : Int32)), (.int (90 : Int32)), (.int (120 : Int32)), (.int (151 : Int32)), (.int (181 : Int32)), (.int (212 : Int32)), (.int (243 : Int32)), (.int (273 : Int32)), (.int (304 : Int32)), (.int (334 : Int32))] (.int (0 : Int32)) := Arv.set Ar90 q90 S90 N90 H90 G90 rfl W91 11 rfl (Nat.le_of_ble_eq_true rfl)
    show Go _ _ _ _ _ _ _ (T91.setTop (mkF m 206 #[.val (.long q0), .second, .val (.int p1), .val (.int p2), .val (.long x1), .second, .val (.int x2), .val (.int v6), .val (.ref b14), .unset, .unset, .unset, .unset, .unset] [(.ref b53)]))
    refine gob (fun _ k => XS.astore X91.here hx rfl (hb hby at_206) rfl rfl (l' := #[.val (.long q0), .second, .val (.int p1), .val (.int p2), .val (.long x1), .second, .val (.int x2), .val (.int v6), .val (.ref b14), .val (.ref b53), .unset, .unset, .unset, .unset]) rfl k) ?_
    show Go _ _ _ _ _ _ _ (T91.setTop (mkF m 208 #[.val (.long q0), .second, .val (.int p1), .val (.int p2), .val (.long x1), .second, .val (.int x2), .val (.int v6), .val (.ref b14), .val (.ref b53), .unset, .unset, .unset, .unset] []))
    refine gob (fun _ k => XS.aload X91.here hx rfl (hb hby at_208) rfl rfl k) ?_
    show Go _ _ _ _ _ _ _ (T91.setTop (mkF m 210 #[.val (.long q0), .second, .val (.int p1), .val (.int p2), .val (.long x1), .second, .val (.int x2), .val (.int v6), .val (.ref b14), .val (.ref b53), .unset, .unset, .unset, .unset] [(.ref b14)]))
    refine gob (fun _ k => XS.iload X91.here hx rfl (hb hby at_210) rfl k) ?_
    show Go _ _ _ _ _ _ _ (T91.setTop (mkF m 212 #[.val (.long q0), .second, .val (.int p1), .val (.int p2), .val (.long x1), .second, .val (.int x2), .val (.int v6), .val (.ref b14), .val (.ref b53), .unset, .unset, .unset, .unset] [(.int x2), (.ref b14)]))
    refine gob (fun _ k => XS.iconst X91.here hx rfl (hb hby at_212) k) ?_
    show Go _ _ _ _ _ _ _ (T91.setTop (mkF m 213 #[.val (.long q0), .second, .val (.int p1), .val (.int p2), .val (.long x1), .second, .val (.int x2), .val (.int v6), .val (.ref b14), .val (.ref b53), .unset, .unset, .unset, .unset] [(.int (1 : Int32)), (.int x2), (.ref b14)]))
    refine gob (fun _ k => XS.isub X91.here hx rfl (hb hby at_213) rfl k) ?_
    show Go _ _ _ _ _ _ _ (T91.setTop (mkF m 214 #[.val (.long q0), .second, .val (.int p1), .val (.int p2), .val (.long x1), .second, .val (.int x2), .val (.int v6), .val (.ref b14), .val (.ref b53), .unset, .unset, .unset, .unset] [(.int (x2 - (1 : Int32))), (.ref b14)]))
    have c94 := (((((((((((((V51.ext E53).other W58 n54).other W61 n54).other W64 n54).other W67 n54).other W70 n54).other W73 n54).other W76 n54).other W79 n54).other W82 n54).other W85 n54).other W88 n54).other W91 n54)
    obtain ⟨cl93, Ar93, q93, S93, N93, H93, G93⟩ := id c94
    have hj95 : 0 ≤ (x2 - (1 : Int32)).toInt ∧ (x2 - (1 : Int32)).toInt < 12 := (la_0_214_96 p1 x2 hx2)
    obtain ⟨w95, hw95, hg95⟩ := own_at12 (31 : Int32) (28 : Int32) (31 : Int32) (30 : Int32) (31 : Int32) (30 : Int32) (31 : Int32) (31 : Int32) (30 : Int32) (31 : Int32) (30 : Int32) (31 : Int32) (.int (0 : Int32)) (x2 - (1 : Int32)) hj95.1 hj95.2
    have hin95 : ¬ ((x2 - (1 : Int32)) < 0 ∨ cl93.slots.size ≤ ((x2 - (1 : Int32))).toNatClampNeg) := inb_of S93 (own_idx _ hj95.1 hj95.2)
    refine gob (X91.iaload hx (j := (x2 - (1 : Int32))) (v := (.int w95)) (by rw [e91]; exact Ar93.1) (State.isArrayOf_alike hZ.alike Ar93.2.1) Ar93.2.2 hin95 (Has.at H93 hin95 hg95) (g := (mkF m 214 #[.val (.long q0), .second, .val (.int p1), .val (.int p2), .val (.long x1), .second, .val (.int x2), .val (.int v6), .val (.ref b14), .val (.ref b53), .unset, .unset, .unset, .unset] [(.int (x2 - (1 : Int32))), (.ref b14)])) rfl rfl (hb hby at_214)) ?_
    show Go _ _ _ _ _ _ _ (T91.setTop (mkF m 215 #[.val (.long q0), .second, .val (.int p1), .val (.int p2), .val (.long x1), .second, .val (.int x2), .val (.int v6), .val (.ref b14), .val (.ref b53), .unset, .unset, .unset, .unset] [(.int w95)]))
    refine gob (fun _ k => XS.iload X91.here hx rfl (hb hby at_215) rfl k) ?_
    show Go _ _ _ _ _ _ _ (T91.setTop (mkF m 217 #[.val (.long q0), .second, .val (.int p1), .val (.int p2), .val (.long x1), .second, .val (.int x2), .val (.int v6), .val (.ref b14), .val (.ref b53), .unset, .unset, .unset, .unset] [(.int v6), (.int w95)]))
    have join231_100 : ∀ (T101 : State) (lj102 : List Loc) (v99 : Int32), Stand p l e room_1 s m #[(.long q0), (.int p1), (.int p2)] below meth c T101 lj102 2 24 → T101.heap = h91 → Fr n0 lj102 → (v6 = (0 : Int32) ∧ v99 = (0 : Int32)) ∨ (¬ (v6 = (0 : Int32)) ∧ x2 = (2 : Int32) ∧ v99 = (1 : Int32)) ∨ (¬ (v6 = (0 : Int32)) ∧ ¬ (x2 = (2 : Int32)) ∧ v99 = (0 : Int32)) → Go p e below s (Q0 Z q0 p1 p2 h0 n0) 16 128 (T101.setTop (mkF m 231 #[.val (.long q0), .second, .val (.int p1), .val (.int p2), .val (.long x1), .second, .val (.int x2), .val (.int v6), .val (.ref b14), .val (.ref b53), .unset, .unset, .unset, .unset] [(.int v99), (.int w95)])) := by
      intro T101 lj102 v99 X103 e104 N105 hj106
      show Go _ _ _ _ _ _ _ (T101.setTop (mkF m 231 #[.val (.long q0), .second, .val (.int p1), .val (.int p2), .val (.long x1), .second, .val (.int x2), .val (.int v6), .val (.ref b14), .val (.ref b53), .unset, .unset, .unset, .unset] [(.int v99), (.int w95)]))
      refine gob (fun _ k => XS.iadd X103.here hx rfl (hb hby at_231) rfl k) ?_
      show Go _ _ _ _ _ _ _ (T101.setTop (mkF m 232 #[.val (.long q0), .second, .val (.int p1), .val (.int p2), .val (.long x1), .second, .val (.int x2), .val (.int v6), .val (.ref b14), .val (.ref b53), .unset, .unset, .unset, .unset] [(.int (w95 + v99))]))
      refine gob (fun _ k => XS.istore X103.here hx rfl (hb hby at_232) rfl (l' := #[.val (.long q0), .second, .val (.int p1), .val (.int p2), .val (.long x1), .second, .val (.int x2), .val (.int v6), .val (.ref b14), .val (.ref b53), .val (.int (w95 + v99)), .unset, .unset, .unset]) rfl k) ?_
      show Go _ _ _ _ _ _ _ (T101.setTop (mkF m 234 #[.val (.long q0), .second, .val (.int p1), .val (.int p2), .val (.long x1), .second, .val (.int x2), .val (.int v6), .val (.ref b14), .val (.ref b53), .val (.int (w95 + v99)), .unset, .unset, .unset] []))
      generalize hx107 : (w95 + v99) = x107
      show Go _ _ _ _ _ _ _ (T101.setTop (mkF m 234 #[.val (.long q0), .second, .val (.int p1), .val (.int p2), .val (.long x1), .second, .val (.int x2), .val (.int v6), .val (.ref b14), .val (.ref b53), .val (.int x107), .unset, .unset, .unset] []))
      refine gob (fun _ k => XS.iloadN X103.here hx rfl (hb hby at_234) rfl k) ?_
      show Go _ _ _ _ _ _ _ (T101.setTop (mkF m 235 #[.val (.long q0), .second, .val (.int p1), .val (.int p2), .val (.long x1), .second, .val (.int x2), .val (.int v6), .val (.ref b14), .val (.ref b53), .val (.int x107), .unset, .unset, .unset] [(.int p2)]))
      refine gob (X103.ldcInt hx hown (mvT hZ (hw _ (List.mem_of_getElem? (i := 1) rfl))) (g := (mkF m 235 #[.val (.long q0), .second, .val (.int p1), .val (.int p2), .val (.long x1), .second, .val (.int x2), .val (.int v6), .val (.ref b14), .val (.ref b53), .val (.int x107), .unset, .unset, .unset] [(.int p2)])) rfl (hb hby at_235)) ?_
      show Go _ _ _ _ _ _ _ (T101.setTop (mkF m 237 #[.val (.long q0), .second, .val (.int p1), .val (.int p2), .val (.long x1), .second, .val (.int x2), .val (.int v6), .val (.ref b14), .val (.ref b53), .val (.int x107), .unset, .unset, .unset] [(.int (2147483647 : Int32)), (.int p2)]))
      refine gob (fun _ k => XS.iand X103.here hx rfl (hb hby at_237) rfl k) ?_
      show Go _ _ _ _ _ _ _ (T101.setTop (mkF m 238 #[.val (.long q0), .second, .val (.int p1), .val (.int p2), .val (.long x1), .second, .val (.int x2), .val (.int v6), .val (.ref b14), .val (.ref b53), .val (.int x107), .unset, .unset, .unset] [(.int (p2 &&& (2147483647 : Int32)))]))
      refine gob (fun _ k => XS.iload X103.here hx rfl (hb hby at_238) rfl k) ?_
      show Go _ _ _ _ _ _ _ (T101.setTop (mkF m 240 #[.val (.long q0), .second, .val (.int p1), .val (.int p2), .val (.long x1), .second, .val (.int x2), .val (.int v6), .val (.ref b14), .val (.ref b53), .val (.int x107), .unset, .unset, .unset] [(.int x107), (.int (p2 &&& (2147483647 : Int32)))]))
      refine gob (fun _ k => iremM X103 hx rfl (hb hby at_240) rfl (la_0_240_108 q0 p1 x1 x2 v6 w95 v99 x107 hx1 hx2 hj13 hw95 hj106 hx107) k) ?_
      show Go _ _ _ _ _ _ _ (T101.setTop (mkF m 241 #[.val (.long q0), .second, .val (.int p1), .val (.int p2), .val (.long x1), .second, .val (.int x2), .val (.int v6), .val (.ref b14), .val (.ref b53), .val (.int x107), .unset, .unset, .unset] [(.int ((p2 &&& (2147483647 : Int32)) % x107))]))
      refine gob (fun _ k => XS.iconst X103.here hx rfl (hb hby at_241) k) ?_
      show Go _ _ _ _ _ _ _ (T101.setTop (mkF m 242 #[.val (.long q0), .second, .val (.int p1), .val (.int p2), .val (.long x1), .second, .val (.int x2), .val (.int v6), .val (.ref b14), .val (.ref b53), .val (.int x107), .unset, .unset, .unset] [(.int (1 : Int32)), (.int ((p2 &&& (2147483647 : Int32)) % x107))]))
      refine gob (fun _ k => XS.iadd X103.here hx rfl (hb hby at_242) rfl k) ?_
      show Go _ _ _ _ _ _ _ (T101.setTop (mkF m 243 #[.val (.long q0), .second, .val (.int p1), .val (.int p2), .val (.long x1), .second, .val (.int x2), .val (.int v6), .val (.ref b14), .val (.ref b53), .val (.int x107), .unset, .unset, .unset] [(.int (((p2 &&& (2147483647 : Int32)) % x107) + (1 : Int32)))]))
      refine gob (fun _ k => XS.istore X103.here hx rfl (hb hby at_243) rfl (l' := #[.val (.long q0), .second, .val (.int p1), .val (.int p2), .val (.long x1), .second, .val (.int x2), .val (.int v6), .val (.ref b14), .val (.ref b53), .val (.int x107), .val (.int (((p2 &&& (2147483647 : Int32)) % x107) + (1 : Int32))), .unset, .unset]) rfl k) ?_
      show Go _ _ _ _ _ _ _ (T101.setTop (mkF m 245 #[.val (.long q0), .second, .val (.int p1), .val (.int p2), .val (.long x1), .second, .val (.int x2), .val (.int v6), .val (.ref b14), .val (.ref b53), .val (.int x107), .val (.int (((p2 &&& (2147483647 : Int32)) % x107) + (1 : Int32))), .unset, .unset] []))
      generalize hx109 : (((p2 &&& (2147483647 : Int32)) % x107) + (1 : Int32)) = x109
      show Go _ _ _ _ _ _ _ (T101.setTop (mkF m 245 #[.val (.long q0), .second, .val (.int p1), .val (.int p2), .val (.long x1), .second, .val (.int x2), .val (.int v6), .val (.ref b14), .val (.ref b53), .val (.int x107), .val (.int x109), .unset, .unset] []))
      refine gob (X103.ldc2Long hx hown (mvT hZ (hw _ (List.mem_of_getElem? (i := 4) rfl))) (g := (mkF m 245 #[.val (.long q0), .second, .val (.int p1), .val (.int p2), .val (.long x1), .second, .val (.int x2), .val (.int v6), .val (.ref b14), .val (.ref b53), .val (.int x107), .val (.int x109), .unset, .unset] [])) rfl (hb hby at_245)) ?_
      show Go _ _ _ _ _ _ _ (T101.setTop (mkF m 248 #[.val (.long q0), .second, .val (.int p1), .val (.int p2), .val (.long x1), .second, .val (.int x2), .val (.int v6), .val (.ref b14), .val (.ref b53), .val (.int x107), .val (.int x109), .unset, .unset] [(.long (365 : Int64))]))
      refine gob (fun _ k => XS.lload X103.here hx rfl (hb hby at_248) rfl k) ?_
      show Go _ _ _ _ _ _ _ (T101.setTop (mkF m 250 #[.val (.long q0), .second, .val (.int p1), .val (.int p2), .val (.long x1), .second, .val (.int x2), .val (.int v6), .val (.ref b14), .val (.ref b53), .val (.int x107), .val (.int x109), .unset, .unset] [(.long x1), (.long (365 : Int64))]))
      refine gob (X103.ldc2Long hx hown (mvT hZ (hw _ (List.mem_of_getElem? (i := 5) rfl))) (g := (mkF m 250 #[.val (.long q0), .second, .val (.int p1), .val (.int p2), .val (.long x1), .second, .val (.int x2), .val (.int v6), .val (.ref b14), .val (.ref b53), .val (.int x107), .val (.int x109), .unset, .unset] [(.long x1), (.long (365 : Int64))])) rfl (hb hby at_250)) ?_
      show Go _ _ _ _ _ _ _ (T101.setTop (mkF m 253 #[.val (.long q0), .second, .val (.int p1), .val (.int p2), .val (.long x1), .second, .val (.int x2), .val (.int v6), .val (.ref b14), .val (.ref b53), .val (.int x107), .val (.int x109), .unset, .unset] [(.long (1970 : Int64)), (.long x1), (.long (365 : Int64))]))
      refine gob (fun _ k => XS.lsub X103.here hx rfl (hb hby at_253) rfl k) ?_
      show Go _ _ _ _ _ _ _ (T101.setTop (mkF m 254 #[.val (.long q0), .second, .val (.int p1), .val (.int p2), .val (.long x1), .second, .val (.int x2), .val (.int v6), .val (.ref b14), .val (.ref b53), .val (.int x107), .val (.int x109), .unset, .unset] [(.long (x1 - (1970 : Int64))), (.long (365 : Int64))]))
      refine gob (fun _ k => XS.lmul X103.here hx rfl (hb hby at_254) rfl k) ?_
      show Go _ _ _ _ _ _ _ (T101.setTop (mkF m 255 #[.val (.long q0), .second, .val (.int p1), .val (.int p2), .val (.long x1), .second, .val (.int x2), .val (.int v6), .val (.ref b14), .val (.ref b53), .val (.int x107), .val (.int x109), .unset, .unset] [(.long ((365 : Int64) * (x1 - (1970 : Int64))))]))
      refine gob (fun _ k => XS.lload X103.here hx rfl (hb hby at_255) rfl k) ?_
      show Go _ _ _ _ _ _ _ (T101.setTop (mkF m 257 #[.val (.long q0), .second, .val (.int p1), .val (.int p2), .val (.long x1), .second, .val (.int x2), .val (.int v6), .val (.ref b14), .val (.ref b53), .val (.int x107), .val (.int x109), .unset, .unset] [(.long x1), (.long ((365 : Int64) * (x1 - (1970 : Int64))))]))
      refine gob (fun _ k => XS.lconst X103.here hx rfl (hb hby at_257) k) ?_
      show Go _ _ _ _ _ _ _ (T101.setTop (mkF m 258 #[.val (.long q0), .second, .val (.int p1), .val (.int p2), .val (.long x1), .second, .val (.int x2), .val (.int v6), .val (.ref b14), .val (.ref b53), .val (.int x107), .val (.int x109), .unset, .unset] [(.long (1 : Int64)), (.long x1), (.long ((365 : Int64) * (x1 - (1970 : Int64))))]))
      refine gob (fun _ k => XS.lsub X103.here hx rfl (hb hby at_258) rfl k) ?_
      show Go _ _ _ _ _ _ _ (T101.setTop (mkF m 259 #[.val (.long q0), .second, .val (.int p1), .val (.int p2), .val (.long x1), .second, .val (.int x2), .val (.int v6), .val (.ref b14), .val (.ref b53), .val (.int x107), .val (.int x109), .unset, .unset] [(.long (x1 - (1 : Int64))), (.long ((365 : Int64) * (x1 - (1970 : Int64))))]))
      obtain ⟨_, _, ⟨T110, L110, k110, n110⟩, -, X110, ⟨Lc110, hQ110, l110, y110, z110⟩, st110⟩ := Jvm.LawKit.callS X103 hx (y := (⟨"com/example/cairnlog/cairnlog/CivilDateEpochDayPinLaw", "leapsUpTo", "(J)J"⟩ : MethodName)) hown (mvT hZ (hw _ (List.mem_of_getElem? (i := 6) rfl))) (mvT hZ (hw _ (List.mem_of_getElem? (i := 7) rfl))) (mvT hZ (hw _ (List.mem_of_getElem? (i := 8) rfl))) (mvT hZ (hw _ (List.mem_of_getElem? (i := 9) rfl))) (by decide) (backOf (W := 2) (rm1 l Z a0 hw [] (x1 - (1 : Int64)) h91 n0 z92 ) hZ (hw _ (List.mem_of_getElem? (i := 9) rfl)) (hw _ (List.mem_of_getElem? (i := 8) rfl)) (by decide) (by decide)) (g := (mkF m 259 #[.val (.long q0), .second, .val (.int p1), .val (.int p2), .val (.long x1), .second, .val (.int x2), .val (.int v6), .val (.ref b14), .val (.ref b53), .val (.int x107), .val (.int x109), .unset, .unset] [(.long (x1 - (1 : Int64))), (.long ((365 : Int64) * (x1 - (1970 : Int64))))])) rfl (by rw [hml]; rfl) (argsL := [(.long (x1 - (1 : Int64)))]) (rest := [(.long ((365 : Int64) * (x1 - (1970 : Int64))))]) (lenOf pd_3 rfl) rfl (by show 2 * 0 + _ ≤ _; exact Nat.le_of_eq rfl) (hb hby at_259) (fun _ _ => ⟨rfl, e104, (by decide : 2 + 0 ≤ _), (by decide : 24 + 0 ≤ _)⟩)
      dsimp only [Pt.U, Pt.locs, Pt.cells, Pt.slots] at X110 l110 y110 z110 st110 hQ110
      subst l110 y110 z110
      obtain ⟨r110, rfl, hr110, Nq110, e110⟩ := hQ110
      have N110 := Fr.app N105 Nq110
      refine gob st110 ?_
      show Go _ _ _ _ _ _ _ (T110.setTop (mkF m 262 #[.val (.long q0), .second, .val (.int p1), .val (.int p2), .val (.long x1), .second, .val (.int x2), .val (.int v6), .val (.ref b14), .val (.ref b53), .val (.int x107), .val (.int x109), .unset, .unset] [(.long r110), (.long ((365 : Int64) * (x1 - (1970 : Int64))))]))
      refine gob (fun _ k => XS.ladd X110.here hx rfl (hb hby at_262) rfl k) ?_
      show Go _ _ _ _ _ _ _ (T110.setTop (mkF m 263 #[.val (.long q0), .second, .val (.int p1), .val (.int p2), .val (.long x1), .second, .val (.int x2), .val (.int v6), .val (.ref b14), .val (.ref b53), .val (.int x107), .val (.int x109), .unset, .unset] [(.long (((365 : Int64) * (x1 - (1970 : Int64))) + r110))]))
      refine gob (X110.ldc2Long hx hown (mvT hZ (hw _ (List.mem_of_getElem? (i := 15) rfl))) (g := (mkF m 263 #[.val (.long q0), .second, .val (.int p1), .val (.int p2), .val (.long x1), .second, .val (.int x2), .val (.int v6), .val (.ref b14), .val (.ref b53), .val (.int x107), .val (.int x109), .unset, .unset] [(.long (((365 : Int64) * (x1 - (1970 : Int64))) + r110))])) rfl (hb hby at_263)) ?_
      show Go _ _ _ _ _ _ _ (T110.setTop (mkF m 266 #[.val (.long q0), .second, .val (.int p1), .val (.int p2), .val (.long x1), .second, .val (.int x2), .val (.int v6), .val (.ref b14), .val (.ref b53), .val (.int x107), .val (.int x109), .unset, .unset] [(.long (1969 : Int64)), (.long (((365 : Int64) * (x1 - (1970 : Int64))) + r110))]))
      obtain ⟨_, _, ⟨T111, L111, k111, n111⟩, -, X111, ⟨Lc111, hQ111, l111, y111, z111⟩, st111⟩ := Jvm.LawKit.callS X110 hx (y := (⟨"com/example/cairnlog/cairnlog/CivilDateEpochDayPinLaw", "leapsUpTo", "(J)J"⟩ : MethodName)) hown (mvT hZ (hw _ (List.mem_of_getElem? (i := 6) rfl))) (mvT hZ (hw _ (List.mem_of_getElem? (i := 7) rfl))) (mvT hZ (hw _ (List.mem_of_getElem? (i := 8) rfl))) (mvT hZ (hw _ (List.mem_of_getElem? (i := 9) rfl))) (by decide) (backOf (W := 2) (rm1 l Z a0 hw [] (1969 : Int64) h91 n0 z92 ) hZ (hw _ (List.mem_of_getElem? (i := 9) rfl)) (hw _ (List.mem_of_getElem? (i := 8) rfl)) (by decide) (by decide)) (g := (mkF m 266 #[.val (.long q0), .second, .val (.int p1), .val (.int p2), .val (.long x1), .second, .val (.int x2), .val (.int v6), .val (.ref b14), .val (.ref b53), .val (.int x107), .val (.int x109), .unset, .unset] [(.long (1969 : Int64)), (.long (((365 : Int64) * (x1 - (1970 : Int64))) + r110))])) rfl (by rw [hml]; rfl) (argsL := [(.long (1969 : Int64))]) (rest := [(.long (((365 : Int64) * (x1 - (1970 : Int64))) + r110))]) (lenOf pd_3 rfl) rfl (by show 2 * 0 + _ ≤ _; exact Nat.le_of_eq rfl) (hb hby at_266) (fun _ _ => ⟨rfl, e110, (by decide : 2 + 0 ≤ _), (by decide : 24 + 0 ≤ _)⟩)
      dsimp only [Pt.U, Pt.locs, Pt.cells, Pt.slots] at X111 l111 y111 z111 st111 hQ111
      subst l111 y111 z111
      obtain ⟨r111, rfl, hr111, Nq111, e111⟩ := hQ111
      have N111 := Fr.app N110 Nq111
      refine gob st111 ?_
      show Go _ _ _ _ _ _ _ (T111.setTop (mkF m 269 #[.val (.long q0), .second, .val (.int p1), .val (.int p2), .val (.long x1), .second, .val (.int x2), .val (.int v6), .val (.ref b14), .val (.ref b53), .val (.int x107), .val (.int x109), .unset, .unset] [(.long r111), (.long (((365 : Int64) * (x1 - (1970 : Int64))) + r110))]))
      refine gob (fun _ k => XS.lsub X111.here hx rfl (hb hby at_269) rfl k) ?_
      show Go _ _ _ _ _ _ _ (T111.setTop (mkF m 270 #[.val (.long q0), .second, .val (.int p1), .val (.int p2), .val (.long x1), .second, .val (.int x2), .val (.int v6), .val (.ref b14), .val (.ref b53), .val (.int x107), .val (.int x109), .unset, .unset] [(.long ((((365 : Int64) * (x1 - (1970 : Int64))) + r110) - r111))]))
      refine gob (fun _ k => XS.aload X111.here hx rfl (hb hby at_270) rfl rfl k) ?_
      show Go _ _ _ _ _ _ _ (T111.setTop (mkF m 272 #[.val (.long q0), .second, .val (.int p1), .val (.int p2), .val (.long x1), .second, .val (.int x2), .val (.int v6), .val (.ref b14), .val (.ref b53), .val (.int x107), .val (.int x109), .unset, .unset] [(.ref b53), (.long ((((365 : Int64) * (x1 - (1970 : Int64))) + r110) - r111))]))
      refine gob (fun _ k => XS.iload X111.here hx rfl (hb hby at_272) rfl k) ?_
      show Go _ _ _ _ _ _ _ (T111.setTop (mkF m 274 #[.val (.long q0), .second, .val (.int p1), .val (.int p2), .val (.long x1), .second, .val (.int x2), .val (.int v6), .val (.ref b14), .val (.ref b53), .val (.int x107), .val (.int x109), .unset, .unset] [(.int x2), (.ref b53), (.long ((((365 : Int64) * (x1 - (1970 : Int64))) + r110) - r111))]))
      refine gob (fun _ k => XS.iconst X111.here hx rfl (hb hby at_274) k) ?_
      show Go _ _ _ _ _ _ _ (T111.setTop (mkF m 275 #[.val (.long q0), .second, .val (.int p1), .val (.int p2), .val (.long x1), .second, .val (.int x2), .val (.int v6), .val (.ref b14), .val (.ref b53), .val (.int x107), .val (.int x109), .unset, .unset] [(.int (1 : Int32)), (.int x2), (.ref b53), (.long ((((365 : Int64) * (x1 - (1970 : Int64))) + r110) - r111))]))
      refine gob (fun _ k => XS.isub X111.here hx rfl (hb hby at_275) rfl k) ?_
      show Go _ _ _ _ _ _ _ (T111.setTop (mkF m 276 #[.val (.long q0), .second, .val (.int p1), .val (.int p2), .val (.long x1), .second, .val (.int x2), .val (.int v6), .val (.ref b14), .val (.ref b53), .val (.int x107), .val (.int x109), .unset, .unset] [(.int (x2 - (1 : Int32))), (.ref b53), (.long ((((365 : Int64) * (x1 - (1970 : Int64))) + r110) - r111))]))
      obtain ⟨cl112, Ar112, q112, S112, N112, H112, G112⟩ := id V91
      have hj113 : 0 ≤ (x2 - (1 : Int32)).toInt ∧ (x2 - (1 : Int32)).toInt < 12 := (la_0_276_114 p1 x2 hx2)
      obtain ⟨w113, hw113, hg113⟩ := own_at12 (0 : Int32) (31 : Int32) (59 : Int32) (90 : Int32) (120 : Int32) (151 : Int32) (181 : Int32) (212 : Int32) (243 : Int32) (273 : Int32) (304 : Int32) (334 : Int32) (.int (0 : Int32)) (x2 - (1 : Int32)) hj113.1 hj113.2
      have hin113 : ¬ ((x2 - (1 : Int32)) < 0 ∨ cl112.slots.size ≤ ((x2 - (1 : Int32))).toNatClampNeg) := inb_of S112 (own_idx _ hj113.1 hj113.2)
      refine gob (X111.iaload hx (j := (x2 - (1 : Int32))) (v := (.int w113)) (by rw [e111]; exact Ar112.1) (State.isArrayOf_alike hZ.alike Ar112.2.1) Ar112.2.2 hin113 (Has.at H112 hin113 hg113) (g := (mkF m 276 #[.val (.long q0), .second, .val (.int p1), .val (.int p2), .val (.long x1), .second, .val (.int x2), .val (.int v6), .val (.ref b14), .val (.ref b53), .val (.int x107), .val (.int x109), .unset, .unset] [(.int (x2 - (1 : Int32))), (.ref b53), (.long ((((365 : Int64) * (x1 - (1970 : Int64))) + r110) - r111))])) rfl rfl (hb hby at_276)) ?_
      show Go _ _ _ _ _ _ _ (T111.setTop (mkF m 277 #[.val (.long q0), .second, .val (.int p1), .val (.int p2), .val (.long x1), .second, .val (.int x2), .val (.int v6), .val (.ref b14), .val (.ref b53), .val (.int x107), .val (.int x109), .unset, .unset] [(.int w113), (.long ((((365 : Int64) * (x1 - (1970 : Int64))) + r110) - r111))]))
      refine gob (fun _ k => XS.i2l X111.here hx rfl (hb hby at_277) rfl k) ?_
      show Go _ _ _ _ _ _ _ (T111.setTop (mkF m 278 #[.val (.long q0), .second, .val (.int p1), .val (.int p2), .val (.long x1), .second, .val (.int x2), .val (.int v6), .val (.ref b14), .val (.ref b53), .val (.int x107), .val (.int x109), .unset, .unset] [(.long (w113.toInt64)), (.long ((((365 : Int64) * (x1 - (1970 : Int64))) + r110) - r111))]))
      refine gob (fun _ k => XS.ladd X111.here hx rfl (hb hby at_278) rfl k) ?_
      show Go _ _ _ _ _ _ _ (T111.setTop (mkF m 279 #[.val (.long q0), .second, .val (.int p1), .val (.int p2), .val (.long x1), .second, .val (.int x2), .val (.int v6), .val (.ref b14), .val (.ref b53), .val (.int x107), .val (.int x109), .unset, .unset] [(.long (((((365 : Int64) * (x1 - (1970 : Int64))) + r110) - r111) + (w113.toInt64)))]))
      refine gob (fun _ k => XS.iload X111.here hx rfl (hb hby at_279) rfl k) ?_
      show Go _ _ _ _ _ _ _ (T111.setTop (mkF m 281 #[.val (.long q0), .second, .val (.int p1), .val (.int p2), .val (.long x1), .second, .val (.int x2), .val (.int v6), .val (.ref b14), .val (.ref b53), .val (.int x107), .val (.int x109), .unset, .unset] [(.int v6), (.long (((((365 : Int64) * (x1 - (1970 : Int64))) + r110) - r111) + (w113.toInt64)))]))
      have join295_118 : ∀ (T119 : State) (lj120 : List Loc) (v117 : Int32), Stand p l e room_1 s m #[(.long q0), (.int p1), (.int p2)] below meth c T119 lj120 2 24 → T119.heap = h91 → Fr n0 lj120 → (v6 = (0 : Int32) ∧ v117 = (0 : Int32)) ∨ (¬ (v6 = (0 : Int32)) ∧ (2 : Int32) < x2 ∧ v117 = (1 : Int32)) ∨ (¬ (v6 = (0 : Int32)) ∧ ¬ ((2 : Int32) < x2) ∧ v117 = (0 : Int32)) → Go p e below s (Q0 Z q0 p1 p2 h0 n0) 16 128 (T119.setTop (mkF m 295 #[.val (.long q0), .second, .val (.int p1), .val (.int p2), .val (.long x1), .second, .val (.int x2), .val (.int v6), .val (.ref b14), .val (.ref b53), .val (.int x107), .val (.int x109), .unset, .unset] [(.int v117), (.long (((((365 : Int64) * (x1 - (1970 : Int64))) + r110) - r111) + (w113.toInt64)))])) := by
        intro T119 lj120 v117 X121 e122 N123 hj124
        show Go _ _ _ _ _ _ _ (T119.setTop (mkF m 295 #[.val (.long q0), .second, .val (.int p1), .val (.int p2), .val (.long x1), .second, .val (.int x2), .val (.int v6), .val (.ref b14), .val (.ref b53), .val (.int x107), .val (.int x109), .unset, .unset] [(.int v117), (.long (((((365 : Int64) * (x1 - (1970 : Int64))) + r110) - r111) + (w113.toInt64)))]))
        refine gob (fun _ k => XS.i2l X121.here hx rfl (hb hby at_295) rfl k) ?_
        show Go _ _ _ _ _ _ _ (T119.setTop (mkF m 296 #[.val (.long q0), .second, .val (.int p1), .val (.int p2), .val (.long x1), .second, .val (.int x2), .val (.int v6), .val (.ref b14), .val (.ref b53), .val (.int x107), .val (.int x109), .unset, .unset] [(.long (v117.toInt64)), (.long (((((365 : Int64) * (x1 - (1970 : Int64))) + r110) - r111) + (w113.toInt64)))]))
        refine gob (fun _ k => XS.ladd X121.here hx rfl (hb hby at_296) rfl k) ?_
        show Go _ _ _ _ _ _ _ (T119.setTop (mkF m 297 #[.val (.long q0), .second, .val (.int p1), .val (.int p2), .val (.long x1), .second, .val (.int x2), .val (.int v6), .val (.ref b14), .val (.ref b53), .val (.int x107), .val (.int x109), .unset, .unset] [(.long ((((((365 : Int64) * (x1 - (1970 : Int64))) + r110) - r111) + (w113.toInt64)) + (v117.toInt64)))]))
        refine gob (fun _ k => XS.iload X121.here hx rfl (hb hby at_297) rfl k) ?_
        show Go _ _ _ _ _ _ _ (T119.setTop (mkF m 299 #[.val (.long q0), .second, .val (.int p1), .val (.int p2), .val (.long x1), .second, .val (.int x2), .val (.int v6), .val (.ref b14), .val (.ref b53), .val (.int x107), .val (.int x109), .unset, .unset] [(.int x109), (.long ((((((365 : Int64) * (x1 - (1970 : Int64))) + r110) - r111) + (w113.toInt64)) + (v117.toInt64)))]))
        refine gob (fun _ k => XS.iconst X121.here hx rfl (hb hby at_299) k) ?_
        show Go _ _ _ _ _ _ _ (T119.setTop (mkF m 300 #[.val (.long q0), .second, .val (.int p1), .val (.int p2), .val (.long x1), .second, .val (.int x2), .val (.int v6), .val (.ref b14), .val (.ref b53), .val (.int x107), .val (.int x109), .unset, .unset] [(.int (1 : Int32)), (.int x109), (.long ((((((365 : Int64) * (x1 - (1970 : Int64))) + r110) - r111) + (w113.toInt64)) + (v117.toInt64)))]))
        refine gob (fun _ k => XS.isub X121.here hx rfl (hb hby at_300) rfl k) ?_
        show Go _ _ _ _ _ _ _ (T119.setTop (mkF m 301 #[.val (.long q0), .second, .val (.int p1), .val (.int p2), .val (.long x1), .second, .val (.int x2), .val (.int v6), .val (.ref b14), .val (.ref b53), .val (.int x107), .val (.int x109), .unset, .unset] [(.int (x109 - (1 : Int32))), (.long ((((((365 : Int64) * (x1 - (1970 : Int64))) + r110) - r111) + (w113.toInt64)) + (v117.toInt64)))]))
        refine gob (fun _ k => XS.i2l X121.here hx rfl (hb hby at_301) rfl k) ?_
        show Go _ _ _ _ _ _ _ (T119.setTop (mkF m 302 #[.val (.long q0), .second, .val (.int p1), .val (.int p2), .val (.long x1), .second, .val (.int x2), .val (.int v6), .val (.ref b14), .val (.ref b53), .val (.int x107), .val (.int x109), .unset, .unset] [(.long ((x109 - (1 : Int32)).toInt64)), (.long ((((((365 : Int64) * (x1 - (1970 : Int64))) + r110) - r111) + (w113.toInt64)) + (v117.toInt64)))]))
        refine gob (fun _ k => XS.ladd X121.here hx rfl (hb hby at_302) rfl k) ?_
        show Go _ _ _ _ _ _ _ (T119.setTop (mkF m 303 #[.val (.long q0), .second, .val (.int p1), .val (.int p2), .val (.long x1), .second, .val (.int x2), .val (.int v6), .val (.ref b14), .val (.ref b53), .val (.int x107), .val (.int x109), .unset, .unset] [(.long (((((((365 : Int64) * (x1 - (1970 : Int64))) + r110) - r111) + (w113.toInt64)) + (v117.toInt64)) + ((x109 - (1 : Int32)).toInt64)))]))
        refine gob (fun _ k => XS.lstore X121.here hx rfl (hb hby at_303) rfl (l' := #[.val (.long q0), .second, .val (.int p1), .val (.int p2), .val (.long x1), .second, .val (.int x2), .val (.int v6), .val (.ref b14), .val (.ref b53), .val (.int x107), .val (.int x109), .val (.long (((((((365 : Int64) * (x1 - (1970 : Int64))) + r110) - r111) + (w113.toInt64)) + (v117.toInt64)) + ((x109 - (1 : Int32)).toInt64))), .second]) rfl k) ?_
        show Go _ _ _ _ _ _ _ (T119.setTop (mkF m 305 #[.val (.long q0), .second, .val (.int p1), .val (.int p2), .val (.long x1), .second, .val (.int x2), .val (.int v6), .val (.ref b14), .val (.ref b53), .val (.int x107), .val (.int x109), .val (.long (((((((365 : Int64) * (x1 - (1970 : Int64))) + r110) - r111) + (w113.toInt64)) + (v117.toInt64)) + ((x109 - (1 : Int32)).toInt64))), .second] []))
        generalize hx125 : (((((((365 : Int64) * (x1 - (1970 : Int64))) + r110) - r111) + (w113.toInt64)) + (v117.toInt64)) + ((x109 - (1 : Int32)).toInt64)) = x125
        show Go _ _ _ _ _ _ _ (T119.setTop (mkF m 305 #[.val (.long q0), .second, .val (.int p1), .val (.int p2), .val (.long x1), .second, .val (.int x2), .val (.int v6), .val (.ref b14), .val (.ref b53), .val (.int x107), .val (.int x109), .val (.long x125), .second] []))
        obtain ⟨T126, h126, X126, e126, E126, A126, D126, -, st126⟩ := newO X121 hx hZ hown (hw _ (List.mem_of_getElem? (i := 16) rfl)) (hw _ (List.mem_of_getElem? (i := 17) rfl)) (hw _ (List.mem_of_getElem? (i := 18) rfl)) e122 (g := (mkF m 305 #[.val (.long q0), .second, .val (.int p1), .val (.int p2), .val (.long x1), .second, .val (.int x2), .val (.int v6), .val (.ref b14), .val (.ref b53), .val (.int x107), .val (.int x109), .val (.long x125), .second] [])) rfl (hb hby at_305) (by decide) (by decide)
        obtain ⟨b126, g126⟩ : ∃ z, z = h91.size := ⟨_, rfl⟩
        rw [← g126] at A126 D126 st126
        have n127 : b14 ≠ b126 := Nat.ne_of_lt (Nat.lt_of_lt_of_le c94.lt (Nat.le_of_eq g126.symm))
        have n128 : b53 ≠ b126 := Nat.ne_of_lt (Nat.lt_of_lt_of_le V91.lt (Nat.le_of_eq g126.symm))
        have g129 : n0 ≤ b126 := Nat.le_trans z92 (Nat.le_of_eq g126.symm)
        have z130 : n0 ≤ h126.size := Nat.le_trans z92 E126.1
        have F126_year : Fld Z h126 b126 "com/example/cairnlog/cairnlog/CivilDate" "year" "J" (.long (0 : Int64)) := D126 (Or.inr (hw _ (List.mem_of_getElem? (i := 31) rfl))) (ty := .long) (by decide)
        have F126_month : Fld Z h126 b126 "com/example/cairnlog/cairnlog/CivilDate" "month" "I" (.int (0 : Int32)) := D126 (Or.inr (hw _ (List.mem_of_getElem? (i := 33) rfl))) (ty := .int) (by decide)
        have F126_day : Fld Z h126 b126 "com/example/cairnlog/cairnlog/CivilDate" "day" "I" (.int (0 : Int32)) := D126 (Or.inr (hw _ (List.mem_of_getElem? (i := 35) rfl))) (ty := .int) (by decide)
        refine gob st126 ?_
        show Go _ _ _ _ _ _ _ (T126.setTop (mkF m 308 #[.val (.long q0), .second, .val (.int p1), .val (.int p2), .val (.long x1), .second, .val (.int x2), .val (.int v6), .val (.ref b14), .val (.ref b53), .val (.int x107), .val (.int x109), .val (.long x125), .second] [(.ref b126)]))
        refine gob (fun _ k => XS.dup X126.here hx rfl (hb hby at_308) rfl rfl k) ?_
        show Go _ _ _ _ _ _ _ (T126.setTop (mkF m 309 #[.val (.long q0), .second, .val (.int p1), .val (.int p2), .val (.long x1), .second, .val (.int x2), .val (.int v6), .val (.ref b14), .val (.ref b53), .val (.int x107), .val (.int x109), .val (.long x125), .second] [(.ref b126), (.ref b126)]))
        refine gob (fun _ k => XS.lload X126.here hx rfl (hb hby at_309) rfl k) ?_
        show Go _ _ _ _ _ _ _ (T126.setTop (mkF m 311 #[.val (.long q0), .second, .val (.int p1), .val (.int p2), .val (.long x1), .second, .val (.int x2), .val (.int v6), .val (.ref b14), .val (.ref b53), .val (.int x107), .val (.int x109), .val (.long x125), .second] [(.long x1), (.ref b126), (.ref b126)]))
        refine gob (fun _ k => XS.iload X126.here hx rfl (hb hby at_311) rfl k) ?_
        show Go _ _ _ _ _ _ _ (T126.setTop (mkF m 313 #[.val (.long q0), .second, .val (.int p1), .val (.int p2), .val (.long x1), .second, .val (.int x2), .val (.int v6), .val (.ref b14), .val (.ref b53), .val (.int x107), .val (.int x109), .val (.long x125), .second] [(.int x2), (.long x1), (.ref b126), (.ref b126)]))
        refine gob (fun _ k => XS.iload X126.here hx rfl (hb hby at_313) rfl k) ?_
        show Go _ _ _ _ _ _ _ (T126.setTop (mkF m 315 #[.val (.long q0), .second, .val (.int p1), .val (.int p2), .val (.long x1), .second, .val (.int x2), .val (.int v6), .val (.ref b14), .val (.ref b53), .val (.int x107), .val (.int x109), .val (.long x125), .second] [(.int x109), (.int x2), (.long x1), (.ref b126), (.ref b126)]))
        obtain ⟨_, _, ⟨T131, L131, k131, n131⟩, -, X131, ⟨Lc131, hQ131, l131, y131, z131⟩, st131⟩ := X126.specialBack hx (y := (⟨"com/example/cairnlog/cairnlog/CivilDate", "<init>", "(JII)V"⟩ : MethodName)) rfl hown (mvT hZ (hw _ (List.mem_of_getElem? (i := 19) rfl))) (mvT hZ (hw _ (List.mem_of_getElem? (i := 20) rfl))) (mvT hZ (hw _ (List.mem_of_getElem? (i := 21) rfl))) (by decide) (backOf (W := 1) (rm3 l Z a0 hw [] b126 x1 x2 x109 h126 n0 z130 A126 F126_year g129 F126_month F126_day) hZ (hw _ (List.mem_of_getElem? (i := 21) rfl)) (hw _ (List.mem_of_getElem? (i := 18) rfl)) (by decide) (by decide)) (g := (mkF m 315 #[.val (.long q0), .second, .val (.int p1), .val (.int p2), .val (.long x1), .second, .val (.int x2), .val (.int v6), .val (.ref b14), .val (.ref b53), .val (.int x107), .val (.int x109), .val (.long x125), .second] [(.int x109), (.int x2), (.long x1), (.ref b126), (.ref b126)])) rfl (by rw [hml]; rfl) (Steps.refl _) (a := b126) (argsL := [(.long x1), (.int x2), (.int x109)]) (rest := [(.ref b126)]) (lenOf pd_4 rfl) rfl (by show 2 * 0 + _ ≤ _; exact Nat.le_of_eq rfl) (hb hby at_315) (fun _ _ => ⟨rfl, e126, (by decide : 3 + 0 ≤ _), (by decide : 27 + 0 ≤ _)⟩)
        dsimp only [Pt.U, Pt.locs, Pt.cells, Pt.slots] at X131 l131 y131 z131 st131 hQ131
        subst l131 y131 z131
        obtain ⟨rfl, Nq131, K131, F132, F133, F134⟩ := hQ131
        have N131 := Fr.app N123 Nq131
        have z135 : n0 ≤ T131.heap.size := Nat.le_trans z130 K131.1
        refine gob (fun _ k => st131.trans k) ?_
        show Go _ _ _ _ _ _ _ (T131.setTop (mkF m 318 #[.val (.long q0), .second, .val (.int p1), .val (.int p2), .val (.long x1), .second, .val (.int x2), .val (.int v6), .val (.ref b14), .val (.ref b53), .val (.int x107), .val (.int x109), .val (.long x125), .second] [(.ref b126)]))
        have c142 := (A126.keep K131)
        obtain ⟨cq136, kq136, q136a, q136b, q136c⟩ := isOf hZ (rfl : T131.heap = _) c142
        obtain ⟨_, _, ⟨T136, L136, k136, n136⟩, -, X136, ⟨Lc136, hQ136, l136, y136, z136⟩, st136⟩ := X131.virtualBack hx (y := (⟨"com/example/cairnlog/cairnlog/CivilDate", "epochDay", "()J"⟩ : MethodName)) (z := (⟨"com/example/cairnlog/cairnlog/CivilDate", "epochDay", "()J"⟩ : MethodName)) hown (mvT hZ (hw _ (List.mem_of_getElem? (i := 36) rfl))) (mvT hZ (hw _ (List.mem_of_getElem? (i := 37) rfl))) (notFace_of_selects (args := #[]) (mvT hZ (hw _ (List.mem_of_getElem? (i := 39) rfl)))) (mvT hZ (hw _ (List.mem_of_getElem? (i := 39) rfl))) (mvT hZ (hw _ (List.mem_of_getElem? (i := 38) rfl))) (by decide) (backOf (W := 0) (rm6 l Z a0 hw [] b126 x1 x2 x109 T131.heap n0 z135 F132 F133 F134 (la_0_318_137 p1 x2 hx2) (la_0_318_138 p1 x2 hx2) (la_0_318_139 q0 p1 p2 x1 x2 v6 w95 v99 x107 x109 hx1 hx2 hj13 hw95 hj106 hx107 hx109) (la_0_318_140 q0 p1 p2 x1 x2 v6 w95 v99 x107 x109 hx1 hx2 hj13 hw95 hj106 hx107 hx109) (la_0_318_141 q0 x1 hx1)) hZ (hw _ (List.mem_of_getElem? (i := 40) rfl)) (hw _ (List.mem_of_getElem? (i := 18) rfl)) (by decide) (by decide)) q136a q136c (g := (mkF m 318 #[.val (.long q0), .second, .val (.int p1), .val (.int p2), .val (.long x1), .second, .val (.int x2), .val (.int v6), .val (.ref b14), .val (.ref b53), .val (.int x107), .val (.int x109), .val (.long x125), .second] [(.ref b126)])) rfl (by rw [hml]; rfl) (Steps.refl _) (argsL := []) (rest := []) (lenOf pd_5 rfl) rfl (by show 2 * 0 + _ ≤ _; exact Nat.le_of_eq rfl) (hb hby at_318) (fun _ _ => ⟨rfl, (rfl : T131.heap = _), (by decide : 3 + 0 ≤ _), (by decide : 27 + 0 ≤ _)⟩)
        dsimp only [Pt.U, Pt.locs, Pt.cells, Pt.slots] at X136 l136 y136 z136 st136 hQ136
        subst l136 y136 z136
        obtain ⟨r136, rfl, hr136, Nq136, e136⟩ := hQ136
        have N136 := Fr.app N131 Nq136
        refine gob (fun _ k => st136.trans k) ?_
        show Go _ _ _ _ _ _ _ (T136.setTop (mkF m 321 #[.val (.long q0), .second, .val (.int p1), .val (.int p2), .val (.long x1), .second, .val (.int x2), .val (.int v6), .val (.ref b14), .val (.ref b53), .val (.int x107), .val (.int x109), .val (.long x125), .second] [(.long r136)]))
        refine gob (fun _ k => XS.lload X136.here hx rfl (hb hby at_321) rfl k) ?_
        show Go _ _ _ _ _ _ _ (T136.setTop (mkF m 323 #[.val (.long q0), .second, .val (.int p1), .val (.int p2), .val (.long x1), .second, .val (.int x2), .val (.int v6), .val (.ref b14), .val (.ref b53), .val (.int x107), .val (.int x109), .val (.long x125), .second] [(.long x125), (.long r136)]))
        refine gob (fun _ k => XS.lcmp X136.here hx rfl (hb hby at_323) rfl k) ?_
        show Go _ _ _ _ _ _ _ (T136.setTop (mkF m 324 #[.val (.long q0), .second, .val (.int p1), .val (.int p2), .val (.long x1), .second, .val (.int x2), .val (.int v6), .val (.ref b14), .val (.ref b53), .val (.int x107), .val (.int x109), .val (.long x125), .second] [(.int (lcmpW r136 x125))]))
        have hd144 : r136 = x125 := ld_0_324_143 q0 p1 p2 x1 x2 v6 w95 v99 x107 x109 r110 r111 w113 v117 x125 r136 hx1 hx2 hj13 hw95 hj106 hx107 hx109 hr110 hr111 hw113 hj124 hx125 hr136
        refine gob (fun _ k => XS.ifNo X136.here hx rfl (hb hby at_324) rfl ((if0 _ _).trans (teq ((lw_eq _ _).mpr hd144)).2) k) ?_
        show Go _ _ _ _ _ _ _ (T136.setTop (mkF m 327 #[.val (.long q0), .second, .val (.int p1), .val (.int p2), .val (.long x1), .second, .val (.int x2), .val (.int v6), .val (.ref b14), .val (.ref b53), .val (.int x107), .val (.int x109), .val (.long x125), .second] []))
        refine gob (fun _ k => XS.iconst X136.here hx rfl (hb hby at_327) k) ?_
        show Go _ _ _ _ _ _ _ (T136.setTop (mkF m 328 #[.val (.long q0), .second, .val (.int p1), .val (.int p2), .val (.long x1), .second, .val (.int x2), .val (.int v6), .val (.ref b14), .val (.ref b53), .val (.int x107), .val (.int x109), .val (.long x125), .second] [(.int (1 : Int32))]))
        refine gob (fun _ k => XS.goto X136.here hx rfl (pc0 := 328) (pc' := 332) rfl (hb hby at_328) (by decide) (by decide) k) ?_
        show Go _ _ _ _ _ _ _ (T136.setTop (mkF m 332 #[.val (.long q0), .second, .val (.int p1), .val (.int p2), .val (.long x1), .second, .val (.int x2), .val (.int v6), .val (.ref b14), .val (.ref b53), .val (.int x107), .val (.int x109), .val (.long x125), .second] [(.int (1 : Int32))]))
        refine goZ X136 hx hlk (t := .boolean) Bd.returns (by simp) (hb hby at_332) (z' := (1 : Int32)) rfl ?_ (by decide) (by decide)
        show Q0 Z q0 p1 p2 h0 n0 (some (.int (1 : Int32))) T136.heap _
        exact ⟨rfl, N136⟩
      by_cases hc281_145 : v6 = (0 : Int32)
      · skip
        refine gob (fun _ k => XS.ifYes X111.here hx rfl (pc0 := 281) (pc' := 294) rfl (hb hby at_281) rfl ((if0 _ _).trans (teq hc281_145).1) (by decide) (by decide) k) ?_
        show Go _ _ _ _ _ _ _ (T111.setTop (mkF m 294 #[.val (.long q0), .second, .val (.int p1), .val (.int p2), .val (.long x1), .second, .val (.int x2), .val (.int v6), .val (.ref b14), .val (.ref b53), .val (.int x107), .val (.int x109), .unset, .unset] [(.long (((((365 : Int64) * (x1 - (1970 : Int64))) + r110) - r111) + (w113.toInt64)))]))
        refine gob (fun _ k => XS.iconst X111.here hx rfl (hb hby at_294) k) ?_
        show Go _ _ _ _ _ _ _ (T111.setTop (mkF m 295 #[.val (.long q0), .second, .val (.int p1), .val (.int p2), .val (.long x1), .second, .val (.int x2), .val (.int v6), .val (.ref b14), .val (.ref b53), .val (.int x107), .val (.int x109), .unset, .unset] [(.int (0 : Int32)), (.long (((((365 : Int64) * (x1 - (1970 : Int64))) + r110) - r111) + (w113.toInt64)))]))
        exact join295_118 _ _ ((0 : Int32)) X111 e111 N111 (Or.inl ⟨hc281_145, rfl⟩)
      · skip
        refine gob (fun _ k => XS.ifNo X111.here hx rfl (hb hby at_281) rfl ((if0 _ _).trans (feq hc281_145).1) k) ?_
        show Go _ _ _ _ _ _ _ (T111.setTop (mkF m 284 #[.val (.long q0), .second, .val (.int p1), .val (.int p2), .val (.long x1), .second, .val (.int x2), .val (.int v6), .val (.ref b14), .val (.ref b53), .val (.int x107), .val (.int x109), .unset, .unset] [(.long (((((365 : Int64) * (x1 - (1970 : Int64))) + r110) - r111) + (w113.toInt64)))]))
        refine gob (fun _ k => XS.iload X111.here hx rfl (hb hby at_284) rfl k) ?_
        show Go _ _ _ _ _ _ _ (T111.setTop (mkF m 286 #[.val (.long q0), .second, .val (.int p1), .val (.int p2), .val (.long x1), .second, .val (.int x2), .val (.int v6), .val (.ref b14), .val (.ref b53), .val (.int x107), .val (.int x109), .unset, .unset] [(.int x2), (.long (((((365 : Int64) * (x1 - (1970 : Int64))) + r110) - r111) + (w113.toInt64)))]))
        refine gob (fun _ k => XS.iconst X111.here hx rfl (hb hby at_286) k) ?_
        show Go _ _ _ _ _ _ _ (T111.setTop (mkF m 287 #[.val (.long q0), .second, .val (.int p1), .val (.int p2), .val (.long x1), .second, .val (.int x2), .val (.int v6), .val (.ref b14), .val (.ref b53), .val (.int x107), .val (.int x109), .unset, .unset] [(.int (2 : Int32)), (.int x2), (.long (((((365 : Int64) * (x1 - (1970 : Int64))) + r110) - r111) + (w113.toInt64)))]))
        by_cases hc287_146 : (2 : Int32) < x2
        · skip
          refine gob (fun _ k => XS.icmpNo X111.here hx rfl (hb hby at_287) rfl (tlt hc287_146).2.2.2 k) ?_
          show Go _ _ _ _ _ _ _ (T111.setTop (mkF m 290 #[.val (.long q0), .second, .val (.int p1), .val (.int p2), .val (.long x1), .second, .val (.int x2), .val (.int v6), .val (.ref b14), .val (.ref b53), .val (.int x107), .val (.int x109), .unset, .unset] [(.long (((((365 : Int64) * (x1 - (1970 : Int64))) + r110) - r111) + (w113.toInt64)))]))
          refine gob (fun _ k => XS.iconst X111.here hx rfl (hb hby at_290) k) ?_
          show Go _ _ _ _ _ _ _ (T111.setTop (mkF m 291 #[.val (.long q0), .second, .val (.int p1), .val (.int p2), .val (.long x1), .second, .val (.int x2), .val (.int v6), .val (.ref b14), .val (.ref b53), .val (.int x107), .val (.int x109), .unset, .unset] [(.int (1 : Int32)), (.long (((((365 : Int64) * (x1 - (1970 : Int64))) + r110) - r111) + (w113.toInt64)))]))
          refine gob (fun _ k => XS.goto X111.here hx rfl (pc0 := 291) (pc' := 295) rfl (hb hby at_291) (by decide) (by decide) k) ?_
          show Go _ _ _ _ _ _ _ (T111.setTop (mkF m 295 #[.val (.long q0), .second, .val (.int p1), .val (.int p2), .val (.long x1), .second, .val (.int x2), .val (.int v6), .val (.ref b14), .val (.ref b53), .val (.int x107), .val (.int x109), .unset, .unset] [(.int (1 : Int32)), (.long (((((365 : Int64) * (x1 - (1970 : Int64))) + r110) - r111) + (w113.toInt64)))]))
          exact join295_118 _ _ ((1 : Int32)) X111 e111 N111 (Or.inr (Or.inl ⟨hc281_145, hc287_146, rfl⟩))
        · skip
          refine gob (fun _ k => XS.icmpYes X111.here hx rfl (pc0 := 287) (pc' := 294) rfl (hb hby at_287) rfl (flt hc287_146).2.2.2 (by decide) (by decide) k) ?_
          show Go _ _ _ _ _ _ _ (T111.setTop (mkF m 294 #[.val (.long q0), .second, .val (.int p1), .val (.int p2), .val (.long x1), .second, .val (.int x2), .val (.int v6), .val (.ref b14), .val (.ref b53), .val (.int x107), .val (.int x109), .unset, .unset] [(.long (((((365 : Int64) * (x1 - (1970 : Int64))) + r110) - r111) + (w113.toInt64)))]))
          refine gob (fun _ k => XS.iconst X111.here hx rfl (hb hby at_294) k) ?_
          show Go _ _ _ _ _ _ _ (T111.setTop (mkF m 295 #[.val (.long q0), .second, .val (.int p1), .val (.int p2), .val (.long x1), .second, .val (.int x2), .val (.int v6), .val (.ref b14), .val (.ref b53), .val (.int x107), .val (.int x109), .unset, .unset] [(.int (0 : Int32)), (.long (((((365 : Int64) * (x1 - (1970 : Int64))) + r110) - r111) + (w113.toInt64)))]))
          exact join295_118 _ _ ((0 : Int32)) X111 e111 N111 (Or.inr (Or.inr ⟨hc281_145, hc287_146, rfl⟩))
    by_cases hc217_147 : v6 = (0 : Int32)
    · skip
      refine gob (fun _ k => XS.ifYes X91.here hx rfl (pc0 := 217) (pc' := 230) rfl (hb hby at_217) rfl ((if0 _ _).trans (teq hc217_147).1) (by decide) (by decide) k) ?_
      show Go _ _ _ _ _ _ _ (T91.setTop (mkF m 230 #[.val (.long q0), .second, .val (.int p1), .val (.int p2), .val (.long x1), .second, .val (.int x2), .val (.int v6), .val (.ref b14), .val (.ref b53), .unset, .unset, .unset, .unset] [(.int w95)]))
      refine gob (fun _ k => XS.iconst X91.here hx rfl (hb hby at_230) k) ?_
      show Go _ _ _ _ _ _ _ (T91.setTop (mkF m 231 #[.val (.long q0), .second, .val (.int p1), .val (.int p2), .val (.long x1), .second, .val (.int x2), .val (.int v6), .val (.ref b14), .val (.ref b53), .unset, .unset, .unset, .unset] [(.int (0 : Int32)), (.int w95)]))
      exact join231_100 _ _ ((0 : Int32)) X91 e91 N91 (Or.inl ⟨hc217_147, rfl⟩)
    · skip
      refine gob (fun _ k => XS.ifNo X91.here hx rfl (hb hby at_217) rfl ((if0 _ _).trans (feq hc217_147).1) k) ?_
      show Go _ _ _ _ _ _ _ (T91.setTop (mkF m 220 #[.val (.long q0), .second, .val (.int p1), .val (.int p2), .val (.long x1), .second, .val (.int x2), .val (.int v6), .val (.ref b14), .val (.ref b53), .unset, .unset, .unset, .unset] [(.int w95)]))
      refine gob (fun _ k => XS.iload X91.here hx rfl (hb hby at_220) rfl k) ?_
      show Go _ _ _ _ _ _ _ (T91.setTop (mkF m 222 #[.val (.long q0), .second, .val (.int p1), .val (.int p2), .val (.long x1), .second, .val (.int x2), .val (.int v6), .val (.ref b14), .val (.ref b53), .unset, .unset, .unset, .unset] [(.int x2), (.int w95)]))
      refine gob (fun _ k => XS.iconst X91.here hx rfl (hb hby at_222) k) ?_
      show Go _ _ _ _ _ _ _ (T91.setTop (mkF m 223 #[.val (.long q0), .second, .val (.int p1), .val (.int p2), .val (.long x1), .second, .val (.int x2), .val (.int v6), .val (.ref b14), .val (.ref b53), .unset, .unset, .unset, .unset] [(.int (2 : Int32)), (.int x2), (.int w95)]))
      by_cases hc223_148 : x2 = (2 : Int32)
      · skip
        refine gob (fun _ k => XS.icmpNo X91.here hx rfl (hb hby at_223) rfl (teq hc223_148).2 k) ?_
        show Go _ _ _ _ _ _ _ (T91.setTop (mkF m 226 #[.val (.long q0), .second, .val (.int p1), .val (.int p2), .val (.long x1), .second, .val (.int x2), .val (.int v6), .val (.ref b14), .val (.ref b53), .unset, .unset, .unset, .unset] [(.int w95)]))
        refine gob (fun _ k => XS.iconst X91.here hx rfl (hb hby at_226) k) ?_
        show Go _ _ _ _ _ _ _ (T91.setTop (mkF m 227 #[.val (.long q0), .second, .val (.int p1), .val (.int p2), .val (.long x1), .second, .val (.int x2), .val (.int v6), .val (.ref b14), .val (.ref b53), .unset, .unset, .unset, .unset] [(.int (1 : Int32)), (.int w95)]))
        refine gob (fun _ k => XS.goto X91.here hx rfl (pc0 := 227) (pc' := 231) rfl (hb hby at_227) (by decide) (by decide) k) ?_
        show Go _ _ _ _ _ _ _ (T91.setTop (mkF m 231 #[.val (.long q0), .second, .val (.int p1), .val (.int p2), .val (.long x1), .second, .val (.int x2), .val (.int v6), .val (.ref b14), .val (.ref b53), .unset, .unset, .unset, .unset] [(.int (1 : Int32)), (.int w95)]))
        exact join231_100 _ _ ((1 : Int32)) X91 e91 N91 (Or.inr (Or.inl ⟨hc217_147, hc223_148, rfl⟩))
      · skip
        refine gob (fun _ k => XS.icmpYes X91.here hx rfl (pc0 := 223) (pc' := 230) rfl (hb hby at_223) rfl (feq hc223_148).2 (by decide) (by decide) k) ?_
        show Go _ _ _ _ _ _ _ (T91.setTop (mkF m 230 #[.val (.long q0), .second, .val (.int p1), .val (.int p2), .val (.long x1), .second, .val (.int x2), .val (.int v6), .val (.ref b14), .val (.ref b53), .unset, .unset, .unset, .unset] [(.int w95)]))
        refine gob (fun _ k => XS.iconst X91.here hx rfl (hb hby at_230) k) ?_
        show Go _ _ _ _ _ _ _ (T91.setTop (mkF m 231 #[.val (.long q0), .second, .val (.int p1), .val (.int p2), .val (.long x1), .second, .val (.int x2), .val (.int v6), .val (.ref b14), .val (.ref b53), .unset, .unset, .unset, .unset] [(.int (0 : Int32)), (.int w95)]))
        exact join231_100 _ _ ((0 : Int32)) X91 e91 N91 (Or.inr (Or.inr ⟨hc217_147, hc223_148, rfl⟩))
  by_cases hc26_149 : (x1 % (4 : Int64)) = (0 : Int64)
  · skip
    refine gob (fun _ k => XS.ifNo X0.here hx rfl (hb hby at_26) rfl ((if0 _ _).trans (teq ((lw_eq _ _).mpr hc26_149)).2) k) ?_
    show Go _ _ _ _ _ _ _ (s₁.setTop (mkF m 29 #[.val (.long q0), .second, .val (.int p1), .val (.int p2), .val (.long x1), .second, .val (.int x2), .unset, .unset, .unset, .unset, .unset, .unset, .unset] []))
    refine gob (fun _ k => XS.lload X0.here hx rfl (hb hby at_29) rfl k) ?_
    show Go _ _ _ _ _ _ _ (s₁.setTop (mkF m 31 #[.val (.long q0), .second, .val (.int p1), .val (.int p2), .val (.long x1), .second, .val (.int x2), .unset, .unset, .unset, .unset, .unset, .unset, .unset] [(.long x1)]))
    refine gob (X0.ldc2Long hx hown (mvT hZ (hw _ (List.mem_of_getElem? (i := 13) rfl))) (g := (mkF m 31 #[.val (.long q0), .second, .val (.int p1), .val (.int p2), .val (.long x1), .second, .val (.int x2), .unset, .unset, .unset, .unset, .unset, .unset, .unset] [(.long x1)])) rfl (hb hby at_31)) ?_
    show Go _ _ _ _ _ _ _ (s₁.setTop (mkF m 34 #[.val (.long q0), .second, .val (.int p1), .val (.int p2), .val (.long x1), .second, .val (.int x2), .unset, .unset, .unset, .unset, .unset, .unset, .unset] [(.long (100 : Int64)), (.long x1)]))
    refine gob (fun _ k => lremM X0 hx rfl (hb hby at_34) rfl (by decide) k) ?_
    show Go _ _ _ _ _ _ _ (s₁.setTop (mkF m 35 #[.val (.long q0), .second, .val (.int p1), .val (.int p2), .val (.long x1), .second, .val (.int x2), .unset, .unset, .unset, .unset, .unset, .unset, .unset] [(.long (x1 % (100 : Int64)))]))
    refine gob (fun _ k => XS.lconst X0.here hx rfl (hb hby at_35) k) ?_
    show Go _ _ _ _ _ _ _ (s₁.setTop (mkF m 36 #[.val (.long q0), .second, .val (.int p1), .val (.int p2), .val (.long x1), .second, .val (.int x2), .unset, .unset, .unset, .unset, .unset, .unset, .unset] [(.long (0 : Int64)), (.long (x1 % (100 : Int64)))]))
    refine gob (fun _ k => XS.lcmp X0.here hx rfl (hb hby at_36) rfl k) ?_
    show Go _ _ _ _ _ _ _ (s₁.setTop (mkF m 37 #[.val (.long q0), .second, .val (.int p1), .val (.int p2), .val (.long x1), .second, .val (.int x2), .unset, .unset, .unset, .unset, .unset, .unset, .unset] [(.int (lcmpW (x1 % (100 : Int64)) (0 : Int64)))]))
    by_cases hc37_150 : (x1 % (100 : Int64)) = (0 : Int64)
    · skip
      refine gob (fun _ k => XS.ifNo X0.here hx rfl (hb hby at_37) rfl ((if0 _ _).trans (teq ((lw_eq _ _).mpr hc37_150)).2) k) ?_
      show Go _ _ _ _ _ _ _ (s₁.setTop (mkF m 40 #[.val (.long q0), .second, .val (.int p1), .val (.int p2), .val (.long x1), .second, .val (.int x2), .unset, .unset, .unset, .unset, .unset, .unset, .unset] []))
      refine gob (fun _ k => XS.lload X0.here hx rfl (hb hby at_40) rfl k) ?_
      show Go _ _ _ _ _ _ _ (s₁.setTop (mkF m 42 #[.val (.long q0), .second, .val (.int p1), .val (.int p2), .val (.long x1), .second, .val (.int x2), .unset, .unset, .unset, .unset, .unset, .unset, .unset] [(.long x1)]))
      refine gob (X0.ldc2Long hx hown (mvT hZ (hw _ (List.mem_of_getElem? (i := 14) rfl))) (g := (mkF m 42 #[.val (.long q0), .second, .val (.int p1), .val (.int p2), .val (.long x1), .second, .val (.int x2), .unset, .unset, .unset, .unset, .unset, .unset, .unset] [(.long x1)])) rfl (hb hby at_42)) ?_
      show Go _ _ _ _ _ _ _ (s₁.setTop (mkF m 45 #[.val (.long q0), .second, .val (.int p1), .val (.int p2), .val (.long x1), .second, .val (.int x2), .unset, .unset, .unset, .unset, .unset, .unset, .unset] [(.long (400 : Int64)), (.long x1)]))
      refine gob (fun _ k => lremM X0 hx rfl (hb hby at_45) rfl (by decide) k) ?_
      show Go _ _ _ _ _ _ _ (s₁.setTop (mkF m 46 #[.val (.long q0), .second, .val (.int p1), .val (.int p2), .val (.long x1), .second, .val (.int x2), .unset, .unset, .unset, .unset, .unset, .unset, .unset] [(.long (x1 % (400 : Int64)))]))
      refine gob (fun _ k => XS.lconst X0.here hx rfl (hb hby at_46) k) ?_
      show Go _ _ _ _ _ _ _ (s₁.setTop (mkF m 47 #[.val (.long q0), .second, .val (.int p1), .val (.int p2), .val (.long x1), .second, .val (.int x2), .unset, .unset, .unset, .unset, .unset, .unset, .unset] [(.long (0 : Int64)), (.long (x1 % (400 : Int64)))]))
      refine gob (fun _ k => XS.lcmp X0.here hx rfl (hb hby at_47) rfl k) ?_
      show Go _ _ _ _ _ _ _ (s₁.setTop (mkF m 48 #[.val (.long q0), .second, .val (.int p1), .val (.int p2), .val (.long x1), .second, .val (.int x2), .unset, .unset, .unset, .unset, .unset, .unset, .unset] [(.int (lcmpW (x1 % (400 : Int64)) (0 : Int64)))]))
      by_cases hc48_151 : (x1 % (400 : Int64)) = (0 : Int64)
      · skip
        refine gob (fun _ k => XS.ifNo X0.here hx rfl (hb hby at_48) rfl ((if0 _ _).trans (teq ((lw_eq _ _).mpr hc48_151)).2) k) ?_
        show Go _ _ _ _ _ _ _ (s₁.setTop (mkF m 51 #[.val (.long q0), .second, .val (.int p1), .val (.int p2), .val (.long x1), .second, .val (.int x2), .unset, .unset, .unset, .unset, .unset, .unset, .unset] []))
        refine gob (fun _ k => XS.iconst X0.here hx rfl (hb hby at_51) k) ?_
        show Go _ _ _ _ _ _ _ (s₁.setTop (mkF m 52 #[.val (.long q0), .second, .val (.int p1), .val (.int p2), .val (.long x1), .second, .val (.int x2), .unset, .unset, .unset, .unset, .unset, .unset, .unset] [(.int (1 : Int32))]))
        refine gob (fun _ k => XS.goto X0.here hx rfl (pc0 := 52) (pc' := 56) rfl (hb hby at_52) (by decide) (by decide) k) ?_
        show Go _ _ _ _ _ _ _ (s₁.setTop (mkF m 56 #[.val (.long q0), .second, .val (.int p1), .val (.int p2), .val (.long x1), .second, .val (.int x2), .unset, .unset, .unset, .unset, .unset, .unset, .unset] [(.int (1 : Int32))]))
        exact join56_7 _ _ ((1 : Int32)) X0 e0 N0 (Or.inl ⟨hc26_149, hc37_150, hc48_151, rfl⟩)
      · skip
        refine gob (fun _ k => XS.ifYes X0.here hx rfl (pc0 := 48) (pc' := 55) rfl (hb hby at_48) rfl ((if0 _ _).trans (feq (mt (lw_eq _ _).mp hc48_151)).2) (by decide) (by decide) k) ?_
        show Go _ _ _ _ _ _ _ (s₁.setTop (mkF m 55 #[.val (.long q0), .second, .val (.int p1), .val (.int p2), .val (.long x1), .second, .val (.int x2), .unset, .unset, .unset, .unset, .unset, .unset, .unset] []))
        refine gob (fun _ k => XS.iconst X0.here hx rfl (hb hby at_55) k) ?_
        show Go _ _ _ _ _ _ _ (s₁.setTop (mkF m 56 #[.val (.long q0), .second, .val (.int p1), .val (.int p2), .val (.long x1), .second, .val (.int x2), .unset, .unset, .unset, .unset, .unset, .unset, .unset] [(.int (0 : Int32))]))
        exact join56_7 _ _ ((0 : Int32)) X0 e0 N0 (Or.inr (Or.inl ⟨hc26_149, hc37_150, hc48_151, rfl⟩))
    · skip
      refine gob (fun _ k => XS.ifYes X0.here hx rfl (pc0 := 37) (pc' := 51) rfl (hb hby at_37) rfl ((if0 _ _).trans (feq (mt (lw_eq _ _).mp hc37_150)).2) (by decide) (by decide) k) ?_
      show Go _ _ _ _ _ _ _ (s₁.setTop (mkF m 51 #[.val (.long q0), .second, .val (.int p1), .val (.int p2), .val (.long x1), .second, .val (.int x2), .unset, .unset, .unset, .unset, .unset, .unset, .unset] []))
      refine gob (fun _ k => XS.iconst X0.here hx rfl (hb hby at_51) k) ?_
      show Go _ _ _ _ _ _ _ (s₁.setTop (mkF m 52 #[.val (.long q0), .second, .val (.int p1), .val (.int p2), .val (.long x1), .second, .val (.int x2), .unset, .unset, .unset, .unset, .unset, .unset, .unset] [(.int (1 : Int32))]))
      refine gob (fun _ k => XS.goto X0.here hx rfl (pc0 := 52) (pc' := 56) rfl (hb hby at_52) (by decide) (by decide) k) ?_
      show Go _ _ _ _ _ _ _ (s₁.setTop (mkF m 56 #[.val (.long q0), .second, .val (.int p1), .val (.int p2), .val (.long x1), .second, .val (.int x2), .unset, .unset, .unset, .unset, .unset, .unset, .unset] [(.int (1 : Int32))]))
      exact join56_7 _ _ ((1 : Int32)) X0 e0 N0 (Or.inr (Or.inr (Or.inl ⟨hc26_149, hc37_150, rfl⟩)))
  · skip
    refine gob (fun _ k => XS.ifYes X0.here hx rfl (pc0 := 26) (pc' := 55) rfl (hb hby at_26) rfl ((if0 _ _).trans (feq (mt (lw_eq _ _).mp hc26_149)).2) (by decide) (by decide) k) ?_
    show Go _ _ _ _ _ _ _ (s₁.setTop (mkF m 55 #[.val (.long q0), .second, .val (.int p1), .val (.int p2), .val (.long x1), .second, .val (.int x2), .unset, .unset, .unset, .unset, .unset, .unset, .unset] []))
    refine gob (fun _ k => XS.iconst X0.here hx rfl (hb hby at_55) k) ?_
    show Go _ _ _ _ _ _ _ (s₁.setTop (mkF m 56 #[.val (.long q0), .second, .val (.int p1), .val (.int p2), .val (.long x1), .second, .val (.int x2), .unset, .unset, .unset, .unset, .unset, .unset, .unset] [(.int (0 : Int32))]))
    exact join56_7 _ _ ((0 : Int32)) X0 e0 N0 (Or.inr (Or.inr (Or.inr ⟨hc26_149, rfl⟩)))
set_option maxRecDepth 65536 in
set_option maxHeartbeats 40000000 in
theorem comes_1 {Post : Tables → Env → Array Value → State → Outcome → State → Prop} (hpost : ∀ tb e args s v u, (limb_1_1.after args s (.returned v) u = true ∧ limb_1_2.after args s (.returned v) u = true ∧ True) → FrameEnd s (.returned v) u (Jvm.fieldLocs frame_1_writes args s ++ Jvm.arrayLocs frame_1_arrays args s ++ Jvm.staticLocs frame_1_statics s) 16 128 → Post tb e args s (.returned v) u) :
    ArmFor flags0 classFile x code maxLocals ret World_1 tables_1 room_1 Calls_1 rest_1 Pre_1 Post := by
  intro l hfl _ _ p e ha hc hk s m args below hf hA hF happ hP
  obtain ⟨hcalls, hrest, hpre⟩ := hP
  obtain ⟨-, -, -, hnamed, -, -, -, hat⟩ := (Spec.applies_iff hf).mp happ
  obtain ⟨hg, hn⟩ := and_e (Cond.before_iff.mp (show (Jvm.Cond.and given_1 narrow_1).before args s = true from hpre))
  obtain ⟨g1, g2⟩ := and_e hg
  obtain ⟨g3, g4⟩ := and_e g2
  obtain ⟨g5, g6⟩ := and_e g4
  obtain ⟨w0, w1, w2, rfl⟩ : ∃ w0 w1 w2 : Value, args = #[w0, w1, w2] := by
    have hs : args.size = 3 := by simpa [Cond.value, given_1] using g1
    obtain ⟨L⟩ := args
    match L, hs with
    | [w0, w1, w2], _ => exact ⟨w0, w1, w2, rfl⟩
  have hw := fun d (hd : d ∈ tables_1) => atoms_spec (ws := Jvm.Cond.code x code maxLocals ret :: tables_1) hat d (List.mem_cons_of_mem _ hd)
  have hfit : Fit s := fun {y c} hc i hi => by
    obtain ⟨ha, rfl⟩ := Array.getElem?_eq_some_iff.mp hc
    have q := List.all_eq_true.mp ((Array.all_eq_true_iff_forall_mem.mp hF) _ (Array.getElem_mem ha)) i (List.mem_range.mpr hi)
    simpa [Array.getElem?_eq_getElem hi] using q
  obtain ⟨i0, ei0⟩ := isL_v g3
  obtain rfl : w0 = (.long i0) := Option.some.inj ei0
  obtain ⟨i1, ei1⟩ := is_v g5
  obtain rfl : w1 = (.int i1) := Option.some.inj ei1
  obtain ⟨i2, ei2⟩ := is_v g6
  obtain rfl : w2 = (.int i2) := Option.some.inj ei2
  obtain ⟨n, o, h1, h2, h3, _, L, rfl, ⟨rfl, N⟩, hq⟩ := rm0 l s _ hw tables_1 i0 i1 i2 s.heap s.heap.size (Nat.le_refl _)  p e ha hc hk s m _ below hf ((Spec.applies_iff_loose hf).mp happ).1 ⟨rfl, State.Warmed39.refl s, rfl⟩ trivial
  exact ⟨n, _, h1, h2, h3, hpost _ _ _ _ _ _ ⟨Cond.after_iff.mpr rfl, Cond.after_iff.mpr (eq_i res_at (Term.int_eval (1)) rfl), trivial⟩ ⟨hq.1, hq.2.1, (hq.2.2.sift fun y hy => Or.inr (N y hy)).mono (by decide) (by decide)⟩⟩
theorem main_1_1 : Claimed_1_1 := comes_1 fun _ _ _ _ _ _ h hF => ⟨h.1, hF⟩
theorem main_1_2 : Claimed_1_2 := comes_1 fun _ _ _ _ _ _ h hF => ⟨h.2.1, hF⟩
end Jvm.Pilot.@@N@@
namespace Jvm.Pilot.@@N@@
open Jvm Jvm.ClassFile Sem Op Lib Jvm.Free Jvm.Stand Jvm.Pilot.@@N@@.Jvm.D
/-! MADE BY PROGRAM (witnessworld.py) out of the Statement's table words and the real class files: 11 classes; the members and pool entries that the words name. The judged class is class 1, her method 1. -/
namespace start1
open Jvm.ClassFile
def u (s : String) : CpInfo := .utf8 (stringToUtf16 s)
/-- a pool by its gaps: so many unusable entries, then the entry; so many at the end -/
def gap : Nat → List CpInfo → List CpInfo
  | 0, r => r
  | n + 1, r => .unusable :: gap n r
def poolList (es : List (Nat × CpInfo)) (last : Nat) : List CpInfo := es.foldr (fun e r => gap e.1 (e.2 :: r)) (gap last [])
def pool (es : List (Nat × CpInfo)) (last : Nat) : Array CpInfo := ⟨poolList es last⟩
def fileOf (pool : Array CpInfo) (this : Nat) (attrs : Array Attribute := #[]) (ms : Array MethodInfo := #[]) (fl : Nat := 33) (sup : Nat := 0) (ifs : Array Nat := #[]) (fds : Array FieldInfo := #[]) : ClassFile where
  minorVersion := 0
  majorVersion := 65
  constantPool := pool
  accessFlags := fl
  thisClass := this
  superClass := sup
  interfaces := ifs
  fields := fds
  methods := ms
  attributes := attrs
def plain (name : String) (sup : Option ClassId) : Class where
  name := name
  kind := .ordinary
  loader := none
  accessFlags := 33
  super := sup
  interfaces := #[]
  cf := none
  fields := #[]
  methods := #[]
  instanceTypes := #[]
  staticTypes := #[]
  resolved := #[]
  callSites := []
  init := .initialized
  statics := none
  mirror := none

def pool0 : Array CpInfo := pool [(5, u "<init>"), (0, u "()V"), (1, .class_ 10), (1, u "java/lang/Object")] 113

def k0c0 : Code := { maxStack := 0, maxLocals := 1, code := object_method_1_code, exceptionTable := #[], attributes := #[] }
def k0m0 : Method := { name := "<init>", desc := "()V", sig := { parameters := [], returnType := none }, accessFlags := 1, code := some k0c0 }
/-- java/lang/Object -/
def k0 : Class := { plain "java/lang/Object" none with
  accessFlags := 33
  interfaces := #[]
  cf := some (fileOf pool0 8 #[] #[{ accessFlags := 1, nameIndex := 5, descriptorIndex := 6, attributes := #[] }] 33 0 #[] #[])
  fields := #[]
  methods := #[k0m0]
  instanceTypes := #[]
  staticTypes := #[]
  resolved := Array.replicate 124 none
  statics := none }

def pool1 : Array CpInfo := pool [(2, .class_ 4), (1, u "java/lang/Object"), (0, u "<init>"), (0, u "()V"), (0, .long 4503599627370496), (1, .integer 2147483647), (0, .long 4), (1, .long 100), (1, .long 400), (1, .long 365), (1, .long 1970), (1, .methodref 21 22), (0, .class_ 23), (0, .nameAndType 24 25), (0, u "com/example/cairnlog/cairnlog/CivilDateEpochDayPinLaw"), (0, u "leapsUpTo"), (0, u "(J)J"), (0, .long 1969), (1, .class_ 29), (0, u "com/example/cairnlog/cairnlog/CivilDate"), (0, .methodref 28 31), (0, .nameAndType 5 32), (0, u "(JII)V"), (0, .methodref 28 34), (0, .nameAndType 35 36), (0, u "epochDay"), (0, u "()J"), (0, .methodref 21 38), (0, .nameAndType 39 40), (0, u "floorDiv"), (0, u "(JJ)J"), (2, u "law"), (0, u "(JII)Z")] 5

def k1m0 : Method := { name := "<init>", desc := "()V", sig := { parameters := [], returnType := none }, accessFlags := 1, code := none }
def k1c1 : Code := { maxStack := 6, maxLocals := 14, code := code, exceptionTable := #[], attributes := #[] }
def k1m1 : Method := { name := "law", desc := "(JII)Z", sig := { parameters := [.long, .int, .int], returnType := some .boolean }, accessFlags := 9, code := some k1c1 }
def k1c2 : Code := { maxStack := 4, maxLocals := 6, code := method_3_code, exceptionTable := #[], attributes := #[] }
def k1m2 : Method := { name := "floorDiv", desc := "(JJ)J", sig := { parameters := [.long, .long], returnType := some .long }, accessFlags := 10, code := some k1c2 }
def k1c3 : Code := { maxStack := 6, maxLocals := 2, code := method_4_code, exceptionTable := #[], attributes := #[] }
def k1m3 : Method := { name := "leapsUpTo", desc := "(J)J", sig := { parameters := [.long], returnType := some .long }, accessFlags := 10, code := some k1c3 }
/-- com/example/cairnlog/cairnlog/CivilDateEpochDayPinLaw -/
def k1 : Class := { plain "com/example/cairnlog/cairnlog/CivilDateEpochDayPinLaw" (some 0) with
  accessFlags := 49
  interfaces := #[]
  cf := some (fileOf pool1 21 #[] #[{ accessFlags := 1, nameIndex := 5, descriptorIndex := 6, attributes := #[] }, { accessFlags := 9, nameIndex := 43, descriptorIndex := 44, attributes := #[] }, { accessFlags := 10, nameIndex := 39, descriptorIndex := 40, attributes := #[] }, { accessFlags := 10, nameIndex := 24, descriptorIndex := 25, attributes := #[] }] 49 2 #[] #[])
  fields := #[]
  methods := #[k1m0, k1m1, k1m2, k1m3]
  instanceTypes := #[]
  staticTypes := #[]
  resolved := Array.replicate 50 none
  statics := none }

def pool2 : Array CpInfo := pool [(1, .methodref 2 3), (0, .class_ 4), (0, .nameAndType 5 6), (0, u "java/lang/Object"), (0, u "<init>"), (0, u "()V"), (0, .class_ 8), (0, u "java/lang/Record")] 13

def k2c0 : Code := { maxStack := 1, maxLocals := 1, code := jdk_30_method_1_code, exceptionTable := #[], attributes := #[] }
def k2m0 : Method := { name := "<init>", desc := "()V", sig := { parameters := [], returnType := none }, accessFlags := 4, code := some k2c0 }
/-- java/lang/Record -/
def k2 : Class := { plain "java/lang/Record" (some 0) with
  accessFlags := 1057
  interfaces := #[]
  cf := some (fileOf pool2 7 #[] #[{ accessFlags := 4, nameIndex := 5, descriptorIndex := 6, attributes := #[] }] 1057 2 #[] #[])
  fields := #[]
  methods := #[k2m0]
  instanceTypes := #[]
  staticTypes := #[]
  resolved := Array.replicate 22 none
  statics := none }

def pool3 : Array CpInfo := pool [(1, .methodref 2 3), (0, .class_ 4), (0, .nameAndType 5 6), (0, u "java/lang/Record"), (0, u "<init>"), (0, u "()V"), (0, .fieldref 8 9), (0, .class_ 10), (0, .nameAndType 11 12), (0, u "com/example/cairnlog/cairnlog/CivilDate"), (0, u "year"), (0, u "J"), (0, .fieldref 8 14), (0, .nameAndType 15 16), (0, u "month"), (0, u "I"), (0, .fieldref 8 18), (0, .nameAndType 19 16), (0, u "day"), (0, .long 719468), (1, .long 146097), (2, .class_ 27), (1, u "java/lang/Math"), (0, u "floorDiv"), (3, .long 400), (3, u "(JII)V"), (0, .methodref 25 38), (0, .nameAndType 28 39), (0, u "(JI)J"), (20, u "DAYS_PER_400_YEARS"), (1, u "DAYS_FROM_MARCH_0000"), (6, u "epochDay"), (0, u "()J")] 29

def k3c0 : Code := { maxStack := 3, maxLocals := 5, code := prog_4_method_1_code, exceptionTable := #[], attributes := #[] }
def k3m0 : Method := { name := "<init>", desc := "(JII)V", sig := { parameters := [.long, .int, .int], returnType := none }, accessFlags := 0, code := some k3c0 }
def k3c1 : Code := { maxStack := 6, maxLocals := 9, code := prog_4_method_3_code, exceptionTable := #[], attributes := #[] }
def k3m1 : Method := { name := "epochDay", desc := "()J", sig := { parameters := [], returnType := some .long }, accessFlags := 0, code := some k3c1 }
/-- com/example/cairnlog/cairnlog/CivilDate -/
def k3 : Class := { plain "com/example/cairnlog/cairnlog/CivilDate" (some 2) with
  accessFlags := 48
  interfaces := #[]
  cf := some (fileOf pool3 8 #[] #[{ accessFlags := 0, nameIndex := 5, descriptorIndex := 36, attributes := #[] }, { accessFlags := 0, nameIndex := 69, descriptorIndex := 70, attributes := #[] }] 48 2 #[] #[{ accessFlags := 18, nameIndex := 11, descriptorIndex := 12, attributes := #[] }, { accessFlags := 18, nameIndex := 15, descriptorIndex := 16, attributes := #[] }, { accessFlags := 18, nameIndex := 19, descriptorIndex := 16, attributes := #[] }, { accessFlags := 26, nameIndex := 60, descriptorIndex := 12, attributes := #[] }, { accessFlags := 26, nameIndex := 62, descriptorIndex := 12, attributes := #[] }])
  fields := #[{ name := "year", type := .long, accessFlags := 18, slot := 0, constantValue := 0 }, { name := "month", type := .int, accessFlags := 18, slot := 1, constantValue := 0 }, { name := "day", type := .int, accessFlags := 18, slot := 2, constantValue := 0 }, { name := "DAYS_PER_400_YEARS", type := .long, accessFlags := 26, slot := 0, constantValue := 0 }, { name := "DAYS_FROM_MARCH_0000", type := .long, accessFlags := 26, slot := 1, constantValue := 0 }]
  methods := #[k3m0, k3m1]
  instanceTypes := #[.long, .int, .int]
  staticTypes := #[.long, .long]
  resolved := Array.replicate 100 none
  statics := none }

def pool4 : Array CpInfo := pool [(1, .class_ 2), (0, u "java/lang/Math"), (1, .class_ 6), (1, u "java/lang/Object"), (0, u "<init>"), (0, u "()V"), (89, .class_ 100), (1, u "java/lang/Math$RandomNumberGeneratorHolder"), (20, u "(JJ)J"), (21, .methodref 1 144), (0, .nameAndType 145 121), (0, u "floorDiv"), (26, u "negativeZeroFloatBits"), (0, u "J"), (2, u "negativeZeroDoubleBits"), (68, u "$assertionsDisabled"), (0, u "Z"), (91, u "twoToTheDoubleScaleDown"), (0, u "D"), (4, u "twoToTheDoubleScaleUp"), (9, u "E"), (3, u "PI"), (2, u "TAU"), (2, u "DEGREES_TO_RADIANS"), (0, u "RADIANS_TO_DEGREES"), (29, u "(JI)J")] 64

def k4m0 : Method := { name := "<init>", desc := "()V", sig := { parameters := [], returnType := none }, accessFlags := 2, code := none }
def k4c1 : Code := { maxStack := 4, maxLocals := 3, code := jdk_29_method_48_code, exceptionTable := #[], attributes := #[] }
def k4m1 : Method := { name := "floorDiv", desc := "(JI)J", sig := { parameters := [.long, .int], returnType := some .long }, accessFlags := 9, code := some k4c1 }
def k4c2 : Code := { maxStack := 4, maxLocals := 6, code := jdk_29_method_49_code, exceptionTable := #[], attributes := #[] }
def k4m2 : Method := { name := "floorDiv", desc := "(JJ)J", sig := { parameters := [.long, .long], returnType := some .long }, accessFlags := 9, code := some k4c2 }
/-- java/lang/Math -/
def k4 : Class := { plain "java/lang/Math" (some 0) with
  accessFlags := 49
  interfaces := #[]
  cf := some (fileOf pool4 1 #[.nestMembers #[98]] #[{ accessFlags := 2, nameIndex := 7, descriptorIndex := 8, attributes := #[] }, { accessFlags := 9, nameIndex := 145, descriptorIndex := 395, attributes := #[] }, { accessFlags := 9, nameIndex := 145, descriptorIndex := 121, attributes := #[] }] 49 4 #[] #[{ accessFlags := 25, nameIndex := 354, descriptorIndex := 339, attributes := #[] }, { accessFlags := 25, nameIndex := 358, descriptorIndex := 339, attributes := #[] }, { accessFlags := 25, nameIndex := 361, descriptorIndex := 339, attributes := #[] }, { accessFlags := 26, nameIndex := 364, descriptorIndex := 339, attributes := #[] }, { accessFlags := 26, nameIndex := 365, descriptorIndex := 339, attributes := #[] }, { accessFlags := 26, nameIndex := 172, descriptorIndex := 173, attributes := #[] }, { accessFlags := 26, nameIndex := 176, descriptorIndex := 173, attributes := #[] }, { accessFlags := 8, nameIndex := 344, descriptorIndex := 339, attributes := #[] }, { accessFlags := 8, nameIndex := 338, descriptorIndex := 339, attributes := #[] }, { accessFlags := 4120, nameIndex := 245, descriptorIndex := 246, attributes := #[] }])
  fields := #[{ name := "E", type := .double, accessFlags := 25, slot := 0, constantValue := 0 }, { name := "PI", type := .double, accessFlags := 25, slot := 1, constantValue := 0 }, { name := "TAU", type := .double, accessFlags := 25, slot := 2, constantValue := 0 }, { name := "DEGREES_TO_RADIANS", type := .double, accessFlags := 26, slot := 3, constantValue := 0 }, { name := "RADIANS_TO_DEGREES", type := .double, accessFlags := 26, slot := 4, constantValue := 0 }, { name := "negativeZeroFloatBits", type := .long, accessFlags := 26, slot := 5, constantValue := 0 }, { name := "negativeZeroDoubleBits", type := .long, accessFlags := 26, slot := 6, constantValue := 0 }, { name := "twoToTheDoubleScaleUp", type := .double, accessFlags := 8, slot := 7, constantValue := 0 }, { name := "twoToTheDoubleScaleDown", type := .double, accessFlags := 8, slot := 8, constantValue := 0 }, { name := "$assertionsDisabled", type := .boolean, accessFlags := 4120, slot := 9, constantValue := 0 }]
  methods := #[k4m0, k4m1, k4m2]
  instanceTypes := #[]
  staticTypes := #[.double, .double, .double, .double, .double, .long, .long, .double, .double, .boolean]
  resolved := Array.replicate 460 none
  statics := none }

def pool5 : Array CpInfo := pool [(1, u "java/lang/Cloneable"), (0, .class_ 1), (0, u "java/lang/Object"), (0, .class_ 3)] 3

/-- java/lang/Cloneable -/
def k5 : Class := { plain "java/lang/Cloneable" (some 0) with
  accessFlags := 1537
  interfaces := #[]
  cf := some (fileOf pool5 2 #[] #[] 1537 4 #[] #[])
  fields := #[]
  methods := #[]
  instanceTypes := #[]
  staticTypes := #[]
  resolved := Array.replicate 8 none
  statics := none }

def pool6 : Array CpInfo := pool [(1, u "java/io/Serializable"), (0, .class_ 1), (0, u "java/lang/Object"), (0, .class_ 3)] 3

/-- java/io/Serializable -/
def k6 : Class := { plain "java/io/Serializable" (some 0) with
  accessFlags := 1537
  interfaces := #[]
  cf := some (fileOf pool6 2 #[] #[] 1537 4 #[] #[])
  fields := #[]
  methods := #[]
  instanceTypes := #[]
  staticTypes := #[]
  resolved := Array.replicate 8 none
  statics := none }

/-- the primitive byte -/
def k7 : Class := { plain "byte" none with kind := .primitive 'B', accessFlags := 0x411 }
/-- [B -/
def k8 : Class := { plain "[B" (some 0) with kind := .array 7 .byte, interfaces := #[5, 6], accessFlags := 1041 }

/-- the primitive int -/
def k9 : Class := { plain "int" none with kind := .primitive 'I', accessFlags := 0x411 }
/-- [I -/
def k10 : Class := { plain "[I" (some 0) with kind := .array 9 .int, interfaces := #[5, 6], accessFlags := 1041 }

def heap : Heap := #[]
def classes : Array Class := #[k0, k1, k2, k3, k4, k5, k6, k7, k8, k9, k10]
def interned : List (Array UInt16 × Addr) := []
def slotsUsed : Nat := 0
def theMethod : MethodId := ⟨1, 1⟩
def args0 : Array Value := #[.long 2024, .int 2, .int 3]
def aboutOver (below : List Frame) : State where
  vm := { classes := classes, interned := interned.toArray }
  heap := heap
  slotsUsed := slotsUsed
  threads := #[{ frames := .invoking theMethod args0 :: below }]
def below0 : List Frame := [.native { method := ⟨0, 0⟩, args := #[] }]
def about1 : State := aboutOver below0
def p0 : Program := .bare "" "" ""
def e0 : Env := launch0.env 0 0 0
theorem w_frames : about1.frames = Frame.invoking theMethod args0 :: below0 := rfl
set_option maxRecDepth 65536 in
theorem w_args : argsFit about1.vm theMethod args0 = true := by decide +kernel
set_option maxRecDepth 65536 in
theorem w_heap : heapFits about1 = true := by decide +kernel
set_option maxRecDepth 65536 in
theorem w_runnable : about1.curStatus? = some .runnable := by decide +kernel
set_option maxRecDepth 65536 in
theorem w_alone : about1.alone = true := by decide +kernel
set_option maxRecDepth 65536 in
theorem w_named : about1.methodNamed? x = some theMethod := by decide +kernel
set_option maxRecDepth 65536 in
theorem w_hears : about1.hears theMethod below0 = true := by decide +kernel
set_option maxRecDepth 65536 in
theorem w_ripe : about1.ripe theMethod args0 below0 = true := by decide +kernel
theorem w_running : about1.status = .running := rfl
set_option maxRecDepth 65536 in
theorem w_room : about1.hasRoom e0.platform room_1 = true :=
  launch0.hasRoom_least _ room_1 (by decide +kernel) (by decide +kernel) (by decide +kernel) (by decide +kernel) (by decide +kernel) (by decide +kernel)
theorem allAtoms_all (ts : List Jvm.Cond) (a : Array Jvm.Value) (st : Jvm.State) : (allAtoms ts).before a st = ts.all (fun c => c.before a st) := by
  induction ts with
  | nil => rfl
  | cons c t ih =>
    show (Jvm.Cond.and c (allAtoms t)).before a st = _
    rw [Jvm.Cond.before_and, ih, List.all_cons]
def words1 : List Jvm.Cond := Jvm.Cond.code x code maxLocals ret :: tables_1
/-- a 'code' word, met by the world's own term for the bytes: nothing is compared byte by byte -/
theorem code_word {y : MethodName} {bytes : ByteArray} {mx : Nat} {rt : Option FieldType} {a : Array Value} {s : State} {m : MethodId} {meth : Method} {c : Code} (h1 : s.methodNamed? y = some m) (h2 : s.vm.method? m = some meth) (h3 : meth.code = some c) (h4 : c.code = bytes)
    (h5 : (c.maxLocals == mx && c.exceptionTable.isEmpty && decide (c.maxStack ≤ mostOperands) && decide (meth.sig.returnType = rt) && !meth.locks && decide (parseMethodDescriptor y.desc = some meth.sig)) = true) : (Jvm.Cond.code y bytes mx rt).before a s = true := by
  simp only [Bool.and_eq_true, beq_iff_eq, Bool.not_eq_true', decide_eq_true_eq] at h5
  obtain ⟨⟨⟨⟨⟨g1, g2⟩, g3⟩, g4⟩, g5⟩, g6⟩ := h5
  simp [Cond.before, Cond.holds, Cond.value, h1, h2, h3, h4, g1, g2, g3, g4, g5, g6]
def isCode : Jvm.Cond → Bool
  | .code _ _ _ _ => true
  | _ => false
theorem all_split {L : List Jvm.Cond} {P : Jvm.Cond → Bool} (h1 : L.all (fun c => isCode c || P c) = true) (h2 : ∀ c ∈ L.filter isCode, P c = true) : L.all P = true := by
  refine List.all_eq_true.mpr fun c hc => ?_
  have h := List.all_eq_true.mp h1 c hc
  rcases Bool.eq_false_or_eq_true (isCode c) with hi | hi
  · exact h2 c (List.mem_filter.mpr ⟨hc, hi⟩)
  · simpa [hi] using h
set_option maxRecDepth 65536 in
theorem w_c0 : (Jvm.Cond.code x code maxLocals ret).before args0 about1 = true := code_word (m := ⟨1, 1⟩) (meth := k1m1) (c := k1c1) (by decide +kernel) rfl rfl rfl (by decide +kernel)
set_option maxRecDepth 65536 in
theorem w_c1 : (Jvm.Cond.code ({ cls := "com/example/cairnlog/cairnlog/CivilDateEpochDayPinLaw", name := "leapsUpTo", desc := "(J)J" } : Jvm.MethodName) method_4_code (2 : Nat) (Option.some Jvm.ClassFile.FieldType.long)).before args0 about1 = true := code_word (m := ⟨1, 3⟩) (meth := k1m3) (c := k1c3) (by decide +kernel) rfl rfl rfl (by decide +kernel)
set_option maxRecDepth 65536 in
theorem w_c2 : (Jvm.Cond.code ({ cls := "com/example/cairnlog/cairnlog/CivilDateEpochDayPinLaw", name := "floorDiv", desc := "(JJ)J" } : Jvm.MethodName) method_3_code (6 : Nat) (Option.some Jvm.ClassFile.FieldType.long)).before args0 about1 = true := code_word (m := ⟨1, 2⟩) (meth := k1m2) (c := k1c2) (by decide +kernel) rfl rfl rfl (by decide +kernel)
set_option maxRecDepth 65536 in
theorem w_c3 : (Jvm.Cond.code ({ cls := "com/example/cairnlog/cairnlog/CivilDate", name := "<init>", desc := "(JII)V" } : Jvm.MethodName) prog_4_method_1_code (5 : Nat) (Option.none : Option Jvm.ClassFile.FieldType)).before args0 about1 = true := code_word (m := ⟨3, 0⟩) (meth := k3m0) (c := k3c0) (by decide +kernel) rfl rfl rfl (by decide +kernel)
set_option maxRecDepth 65536 in
theorem w_c4 : (Jvm.Cond.code ({ cls := "java/lang/Record", name := "<init>", desc := "()V" } : Jvm.MethodName) jdk_30_method_1_code (1 : Nat) (Option.none : Option Jvm.ClassFile.FieldType)).before args0 about1 = true := code_word (m := ⟨2, 0⟩) (meth := k2m0) (c := k2c0) (by decide +kernel) rfl rfl rfl (by decide +kernel)
set_option maxRecDepth 65536 in
theorem w_c5 : (Jvm.Cond.code ({ cls := "java/lang/Object", name := "<init>", desc := "()V" } : Jvm.MethodName) object_method_1_code (1 : Nat) (Option.none : Option Jvm.ClassFile.FieldType)).before args0 about1 = true := code_word (m := ⟨0, 0⟩) (meth := k0m0) (c := k0c0) (by decide +kernel) rfl rfl rfl (by decide +kernel)
set_option maxRecDepth 65536 in
theorem w_c6 : (Jvm.Cond.code ({ cls := "com/example/cairnlog/cairnlog/CivilDate", name := "epochDay", desc := "()J" } : Jvm.MethodName) prog_4_method_3_code (9 : Nat) (Option.some Jvm.ClassFile.FieldType.long)).before args0 about1 = true := code_word (m := ⟨3, 1⟩) (meth := k3m1) (c := k3c1) (by decide +kernel) rfl rfl rfl (by decide +kernel)
set_option maxRecDepth 65536 in
theorem w_c7 : (Jvm.Cond.code ({ cls := "java/lang/Math", name := "floorDiv", desc := "(JI)J" } : Jvm.MethodName) jdk_29_method_48_code (3 : Nat) (Option.some Jvm.ClassFile.FieldType.long)).before args0 about1 = true := code_word (m := ⟨4, 1⟩) (meth := k4m1) (c := k4c1) (by decide +kernel) rfl rfl rfl (by decide +kernel)
set_option maxRecDepth 65536 in
theorem w_c8 : (Jvm.Cond.code ({ cls := "java/lang/Math", name := "floorDiv", desc := "(JJ)J" } : Jvm.MethodName) jdk_29_method_49_code (6 : Nat) (Option.some Jvm.ClassFile.FieldType.long)).before args0 about1 = true := code_word (m := ⟨4, 2⟩) (meth := k4m2) (c := k4c2) (by decide +kernel) rfl rfl rfl (by decide +kernel)
def codes1 : List Jvm.Cond := [Jvm.Cond.code x code maxLocals ret, Jvm.Cond.code ({ cls := "com/example/cairnlog/cairnlog/CivilDateEpochDayPinLaw", name := "leapsUpTo", desc := "(J)J" } : Jvm.MethodName) method_4_code (2 : Nat) (Option.some Jvm.ClassFile.FieldType.long), Jvm.Cond.code ({ cls := "com/example/cairnlog/cairnlog/CivilDateEpochDayPinLaw", name := "floorDiv", desc := "(JJ)J" } : Jvm.MethodName) method_3_code (6 : Nat) (Option.some Jvm.ClassFile.FieldType.long), Jvm.Cond.code ({ cls := "com/example/cairnlog/cairnlog/CivilDate", name := "<init>", desc := "(JII)V" } : Jvm.MethodName) prog_4_method_1_code (5 : Nat) (Option.none : Option Jvm.ClassFile.FieldType), Jvm.Cond.code ({ cls := "java/lang/Record", name := "<init>", desc := "()V" } : Jvm.MethodName) jdk_30_method_1_code (1 : Nat) (Option.none : Option Jvm.ClassFile.FieldType), Jvm.Cond.code ({ cls := "java/lang/Object", name := "<init>", desc := "()V" } : Jvm.MethodName) object_method_1_code (1 : Nat) (Option.none : Option Jvm.ClassFile.FieldType), Jvm.Cond.code ({ cls := "com/example/cairnlog/cairnlog/CivilDate", name := "epochDay", desc := "()J" } : Jvm.MethodName) prog_4_method_3_code (9 : Nat) (Option.some Jvm.ClassFile.FieldType.long), Jvm.Cond.code ({ cls := "java/lang/Math", name := "floorDiv", desc := "(JI)J" } : Jvm.MethodName) jdk_29_method_48_code (3 : Nat) (Option.some Jvm.ClassFile.FieldType.long), Jvm.Cond.code ({ cls := "java/lang/Math", name := "floorDiv", desc := "(JJ)J" } : Jvm.MethodName) jdk_29_method_49_code (6 : Nat) (Option.some Jvm.ClassFile.FieldType.long)]
set_option maxRecDepth 65536 in
theorem codes_eq : words1.filter isCode = codes1 := rfl
theorem w_codes : ∀ c ∈ words1.filter isCode, c.before args0 about1 = true := by
  rw [codes_eq]
  intro c hc
  simp only [codes1, List.mem_cons, List.not_mem_nil, or_false] at hc
  rcases hc with rfl | rfl | rfl | rfl | rfl | rfl | rfl | rfl | rfl
  · exact w_c0
  · exact w_c1
  · exact w_c2
  · exact w_c3
  · exact w_c4
  · exact w_c5
  · exact w_c6
  · exact w_c7
  · exact w_c8
set_option maxRecDepth 65536 in
theorem w_t1 : (words1.take 24).all (fun c => isCode c || c.before args0 about1) = true := by decide +kernel
set_option maxRecDepth 65536 in
theorem w_t2 : ((words1.drop 24).take 24).all (fun c => isCode c || c.before args0 about1) = true := by decide +kernel
set_option maxRecDepth 65536 in
theorem w_t3 : ((words1.drop 24).drop 24).all (fun c => isCode c || c.before args0 about1) = true := by decide +kernel
theorem w_tables : (allAtoms (Jvm.Cond.code x code maxLocals ret :: tables_1)).before args0 about1 = true := by
  rw [allAtoms_all]
  show words1.all (fun c => c.before args0 about1) = true
  refine all_split ?_ w_codes
  rw [← List.take_append_drop 24 words1, List.all_append, w_t1, ← List.take_append_drop 24 (words1.drop 24), List.all_append, w_t2, w_t3]
  rfl
set_option maxRecDepth 65536 in
theorem w_case : (Jvm.Cond.and given_1 narrow_1).before args0 about1 = true := by decide +kernel
theorem w_applies : (headSpec (Jvm.Cond.code x code maxLocals ret :: tables_1) room_1).applies x e0.platform about1 = true :=
  (Spec.applies_iff w_frames).mpr ⟨w_running, w_runnable, w_alone, w_named, w_hears, w_ripe, w_room, w_tables⟩
theorem atStart : AtStart classFile x code maxLocals ret World_1 tables_1 room_1 Calls_1 rest_1 Pre_1 launch0 p0 e0 about1 theMethod args0 below0 :=
  ⟨lists_1, trivial, launch0.admits_env _ _ _, launch0.least_env, fairChoices_fair.cas, fairChoices_fair.clock, w_frames, w_args, w_heap, w_applies, trivial, trivial, w_case⟩
end start1
theorem witness_1 : WitnessClaimed_1 := ⟨start1.p0, start1.e0, start1.about1, start1.theMethod, start1.args0, start1.below0, start1.atStart⟩
end Jvm.Pilot.@@N@@
