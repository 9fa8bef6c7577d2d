import JvmDerived
import JvmDerived.Pilot.@@N@@Statement
import JvmDerived.Pilot.@@N@@Code
set_option linter.unusedVariables false
set_option linter.unusedSimpArgs false
namespace Jvm.Pilot.@@N@@
open Jvm Jvm.ClassFile Sem Op Lib Jvm.Free Jvm.Stand Jvm.LawKit Jvm.RoadKit Bundle Jvm.Pilot.@@N@@.Jvm.D
/-! A walk as one goal: from the state U the run comes to an end that answers Q. -/
section Kit
def Go (p : Program) (e : Env) (below : List Frame) (s : State) (Q : Option Value → Heap → List Loc → Prop) (C N : Nat) (U : State) : Prop :=
  ∃ s₂ o, Steps p.tables e below U s₂ ∧ s₂.status = .running ∧ Ended s₂ below o ∧ ∃ v L, o = .returned v ∧ Q v s₂.heap L ∧ FrameEnd s o s₂ L C N
variable {p : Program} {l : Launch} {e : Env} {R : Room} {s : State} {m : MethodId} {args : Array Value} {below : List Frame} {meth : Method} {c : Code} {T : State} {locs : List Loc} {cells slots : Nat} {Q : Option Value → Heap → List Loc → Prop} {C N : Nat}
theorem gob {U U' : State} (h : ∀ t, Steps p.tables e below U' t → Steps p.tables e below U t) (k : Go p e below s Q C N U') : Go p e below s Q C N U := by
  obtain ⟨s₂, o, h1, r⟩ := k
  exact ⟨s₂, o, h _ h1, r⟩
theorem goZ (X : Stand p l e R s m args below meth c T locs cells slots) (hx : p.tables.exec = Jvm.exec) (hlk : meth.locks = false) {t : FieldType} {pc : Nat} {Ls : Array Slot} {z z' : Int32} {rest : List Value} (hret : meth.sig.returnType = some t) (ht : t = .boolean ∨ t = .byte ∨ t = .char ∨ t = .short) (hd : decode c.code pc = .ok (.ireturn, 1)) (hz : nar t z = z') (hq : Q (some (.int z')) T.heap locs) (hc : cells ≤ C) (hn : slots ≤ N) :
    Go p e below s Q C N (T.setTop (mkF m pc Ls (.int z :: rest))) := by
  subst hz
  obtain ⟨fs, hr, hrun, hended, hW, hsame⟩ := X.leave (v := some (.int (nar t z))) (fun h => by rw [hret] at h; cases h) hlk
  exact ⟨_, _, retN X hx hret ht hd hr, hrun, hended, _, _, rfl, hq, ⟨_, rfl⟩, hW, hsame.mono hc hn⟩
theorem goI (X : Stand p l e R s m args below meth c T locs cells slots) (hx : p.tables.exec = Jvm.exec) (hlk : meth.locks = false) {pc : Nat} {Ls : Array Slot} {z : Int32} {rest : List Value} (hret : meth.sig.returnType = some .int) (hd : decode c.code pc = .ok (.ireturn, 1)) (hq : Q (some (.int z)) T.heap locs) (hc : cells ≤ C) (hn : slots ≤ N) :
    Go p e below s Q C N (T.setTop (mkF m pc Ls (.int z :: rest))) := by
  obtain ⟨fs, hr, hrun, hended, hW, hsame⟩ := X.leave (v := some (.int z)) (fun h => by rw [hret] at h; cases h) hlk
  exact ⟨_, _, retOut X hx hret rfl (Or.inl ⟨rfl, Or.inl rfl, z, rfl⟩) hd hr, hrun, hended, _, _, rfl, hq, ⟨_, rfl⟩, hW, hsame.mono hc hn⟩
theorem goJ (X : Stand p l e R s m args below meth c T locs cells slots) (hx : p.tables.exec = Jvm.exec) (hlk : meth.locks = false) {pc : Nat} {Ls : Array Slot} {z : Int64} {rest : List Value} (hret : meth.sig.returnType = some .long) (hd : decode c.code pc = .ok (.lreturn, 1)) (hq : Q (some (.long z)) T.heap locs) (hc : cells ≤ C) (hn : slots ≤ N) :
    Go p e below s Q C N (T.setTop (mkF m pc Ls (.long z :: rest))) := by
  obtain ⟨fs, hr, hrun, hended, hW, hsame⟩ := X.leave (v := some (.long z)) (fun h => by rw [hret] at h; cases h) hlk
  exact ⟨_, _, retOut X hx hret rfl (Or.inr (Or.inl ⟨rfl, rfl, z, rfl⟩)) hd hr, hrun, hended, _, _, rfl, hq, ⟨_, rfl⟩, hW, hsame.mono hc hn⟩
theorem goD (X : Stand p l e R s m args below meth c T locs cells slots) (hx : p.tables.exec = Jvm.exec) (hlk : meth.locks = false) {pc : Nat} {Ls : Array Slot} {z : UInt64} {rest : List Value} (hret : meth.sig.returnType = some .double) (hd : decode c.code pc = .ok (.dreturn, 1)) (hq : Q (some (.double z)) T.heap locs) (hc : cells ≤ C) (hn : slots ≤ N) :
    Go p e below s Q C N (T.setTop (mkF m pc Ls (.double z :: rest))) := by
  obtain ⟨fs, hr, hrun, hended, hW, hsame⟩ := X.leave (v := some (.double z)) (fun h => by rw [hret] at h; cases h) hlk
  exact ⟨_, _, retOut X hx hret rfl (Or.inr (Or.inr (Or.inl ⟨rfl, rfl, z, rfl⟩))) hd hr, hrun, hended, _, _, rfl, hq, ⟨_, rfl⟩, hW, hsame.mono hc hn⟩
theorem goA (X : Stand p l e R s m args below meth c T locs cells slots) (hx : p.tables.exec = Jvm.exec) (hlk : meth.locks = false) {t : FieldType} {pc : Nat} {Ls : Array Slot} {z : Value} {rest : List Value} (hret : meth.sig.returnType = some t) (ht : t.isReference = true) (hv : z.isRef = true) (hd : decode c.code pc = .ok (.areturn, 1)) (hq : Q (some z) T.heap locs) (hc : cells ≤ C) (hn : slots ≤ N) :
    Go p e below s Q C N (T.setTop (mkF m pc Ls (z :: rest))) := by
  obtain ⟨fs, hr, hrun, hended, hW, hsame⟩ := X.leave (v := some z) (fun h => by rw [hret] at h; cases h) hlk
  have hnw : narrow t z = z := by cases z <;> cases t <;> first | rfl | (simp [Value.isRef] at hv) | (simp [FieldType.isReference] at ht)
  exact ⟨_, _, retOut X hx hret hnw (Or.inr (Or.inr (Or.inr (Or.inr ⟨rfl, ht, hv⟩)))) hd hr, hrun, hended, _, _, rfl, hq, ⟨_, rfl⟩, hW, hsame.mono hc hn⟩
theorem goV (X : Stand p l e R s m args below meth c T locs cells slots) (hx : p.tables.exec = Jvm.exec) (hlk : meth.locks = false) {pc : Nat} {Ls : Array Slot} (hret : meth.sig.returnType = none) (hd : decode c.code pc = .ok (.return_, 1)) (hq : Q none T.heap locs) (hc : cells ≤ C) (hn : slots ≤ N) :
    Go p e below s Q C N (T.setTop (mkF m pc Ls [])) := by
  obtain ⟨fs, hr, hrun, hended, hW, hsame⟩ := X.leave (v := none) (fun _ => rfl) hlk
  exact ⟨_, _, X.returnOut hx hret hd hr, hrun, hended, _, _, rfl, hq, ⟨_, rfl⟩, hW, hsame.mono hc hn⟩
theorem lremM {g : JFrame} {target : State} (X : Stand p l e R s m args below meth c T locs cells slots) (hx : p.tables.exec = Jvm.exec) (hg : g.method = m) {x y : Int64} {rest : List Value} (hd : decode c.code g.pc = .ok (.lrem, 1)) (hs : g.stack = .long y :: .long x :: rest) (hy : y ≠ 0)
    (hr : Steps p.tables e below (T.setTop { g with pc := g.pc + 1, stack := .long (x % y) :: rest }) target) : Steps p.tables e below (T.setTop g) target :=
  XS.lrem X.here hx hg hd hs hy (by rw [lrem_mod x y]; exact hr)
theorem own_lrem (x y : Int64) (d : Int) (hy : y.toInt = d) : (0 ≤ x.toInt → (x % y).toInt = x.toInt % d) ∧ (x.toInt < 0 → (x % y).toInt = -((-x.toInt) % d)) := by rw [Int64.toInt_mod, hy]; exact tr _ _
theorem own_lxor (x y : Int64) (hy : 0 ≤ y.toInt) : ((x ^^^ y).toInt < 0 ↔ x.toInt < 0) := by
  have h1 : (x ^^^ y).toBitVec.msb = (x.toBitVec.msb ^^ y.toBitVec.msb) := by rw [Int64.toBitVec_xor, BitVec.msb_xor]
  have h2 := BitVec.msb_eq_toInt (x := (x ^^^ y).toBitVec)
  have h3 := BitVec.msb_eq_toInt (x := x.toBitVec)
  have h4 := BitVec.msb_eq_toInt (x := y.toBitVec)
  have e1 : (x ^^^ y).toBitVec.toInt = (x ^^^ y).toInt := rfl
  have e2 : x.toBitVec.toInt = x.toInt := rfl
  have e3 : y.toBitVec.toInt = y.toInt := rfl
  rw [e1] at h2
  rw [e2] at h3
  rw [e3] at h4
  have h5 : ¬ y.toInt < 0 := by omega
  rw [h2, h3, h4, decide_eq_false h5, Bool.xor_false] at h1
  simpa using h1
theorem pop2L {g : JFrame} {target : State} (X : Stand p l e R s m args below meth c T locs cells slots) (hx : p.tables.exec = Jvm.exec) (hg : g.method = m) {x : Int64} {rest : List Value} (hd : decode c.code g.pc = .ok (.pop2, 1)) (hs : g.stack = .long x :: rest)
    (hr : Steps p.tables e below (T.setTop { g with pc := g.pc + 1, stack := rest }) target) : Steps p.tables e below (T.setTop g) target := by
  subst hg
  jvm_step X.here [X.here.top, hx, hd, hs, Value.category]
  exact hr
theorem own_staKeep {Z : State} {h h' : Heap} {C n d : String} {v : Value} {ws : List Addr} (F : Sta Z h C n d v) (K : Keep h h' ws) (hn : ∀ x ∈ ws, ∀ cell : Cell, h[x]? = some cell → cell.vm.isStatics = false) : Sta Z h' C n d v := by
  obtain ⟨cf, i, k, f, st, cell, h1, h2, h3, h4, h5, h6, h7⟩ := F
  exact ⟨cf, i, k, f, st, cell, h1, h2, h3, h4, K.2.1 _ _ h5 (fun q => by have q2 := hn _ q _ h5; rw [h6] at q2; cases q2), h6, h7⟩
theorem own_lmulR (x y : Int64) (d : Int) (hy : y.toInt = d) : ((x * y).toInt - x.toInt * d) % 18446744073709551616 = 0 := by rw [← hy]; exact c_lmul x y
theorem own_lmulL (x y : Int64) (d : Int) (hx : x.toInt = d) : ((x * y).toInt - d * y.toInt) % 18446744073709551616 = 0 := by rw [← hx]; exact c_lmul x y
theorem own_imulR (x y : Int32) (d : Int) (hy : y.toInt = d) : ((x * y).toInt - x.toInt * d) % 4294967296 = 0 := by rw [← hy]; exact c_imul x y
theorem own_imulL (x y : Int32) (d : Int) (hx : x.toInt = d) : ((x * y).toInt - d * y.toInt) % 4294967296 = 0 := by rw [← hx]; exact c_imul x y
end Kit

theorem own_dm_400 (q x : Int64) (hx : (q / (400 : Int64)) = x) : (x * (400 : Int64)).toInt = x.toInt * 400 ∧ (0 ≤ q.toInt → x.toInt = q.toInt / 400) ∧ (q.toInt < 0 → x.toInt = -((-q.toInt) / 400)) := by
  have h1 := c_ldiv q 400 400 (by decide) (by decide)
  rw [hx] at h1
  have h2 := own_lmulR x 400 400 (by decide)
  have h3 := rng64 (x * 400)
  have h4 := rng64 q
  have hb : -9223372036854775808 ≤ x.toInt * 400 ∧ x.toInt * 400 ≤ 9223372036854775807 := by
    by_cases hq : 0 ≤ q.toInt
    · have := h1.1 hq
      omega
    · have := h1.2 (by omega)
      omega
  refine ⟨?_, h1⟩
  generalize x.toInt * 400 = w at *
  omega

theorem own_G (y : Int) : (y / 400) * 146097 + 365 * (y % 400) + (y % 400) / 4 - (y % 400) / 100 = 365 * y + y / 4 - y / 100 + y / 400 := by omega
theorem own_s1 (v r : Int64) (x : Int32) (hr : r.toInt = v.toInt / 400) (hx : ((v - (r * (400 : Int64))).toInt32) = x) : x.toInt = v.toInt % 400 := by
  have h1 := own_lmulR r 400 400 (by decide)
  have h2 := c_lsub v (r * 400)
  have h3 := c_l2i (v - r * 400)
  have h4 := rng64 (v - r * 400)
  have h5 := rng64 (r * 400)
  have h6 := rng64 v
  have h7 := rng32 x
  rw [hx] at h3
  omega
theorem own_s2 (v d x : Int32) (h1 : 0 ≤ v.toInt) (h2 : v.toInt ≤ 11) (h3 : 1 ≤ d.toInt) (h4 : d.toInt ≤ 31) (hx : ((((((153 : Int32) * v) + (2 : Int32)) / (5 : Int32)) + d) - (1 : Int32)) = x) : x.toInt = (153 * v.toInt + 2) / 5 + d.toInt - 1 := by
  have a1 := own_imulL 153 v 153 (by decide)
  have a2 := c_iadd (153 * v) 2
  have a3 := (c_idiv (153 * v + 2) 5 5 (by decide) (by decide)).1
  have a4 := c_iadd ((153 * v + 2) / 5) d
  have a5 := c_isub ((153 * v + 2) / 5 + d) 1
  have b1 := rng32 (153 * v)
  have b2 := rng32 (153 * v + 2)
  have b3 := rng32 ((153 * v + 2) / 5)
  have b4 := rng32 ((153 * v + 2) / 5 + d)
  have b5 := rng32 x
  have e1 : (2 : Int32).toInt = 2 := by decide
  have e2 : (1 : Int32).toInt = 1 := by decide
  rw [hx] at a5
  have c1 : (153 * v).toInt = 153 * v.toInt := by omega
  have c2 : (153 * v + 2).toInt = 153 * v.toInt + 2 := by omega
  have c3 := a3 (by omega)
  rw [c2] at c3
  omega
theorem own_s3 (x y z : Int32) (h1 : 0 ≤ x.toInt) (h2 : x.toInt ≤ 399) (h3 : 0 ≤ y.toInt) (h4 : y.toInt ≤ 400) (hz : (((((365 : Int32) * x) + (x / (4 : Int32))) - (x / (100 : Int32))) + y) = z) : z.toInt = 365 * x.toInt + x.toInt / 4 - x.toInt / 100 + y.toInt := by
  have a1 := own_imulL 365 x 365 (by decide)
  have a2 := (c_idiv x 4 4 (by decide) (by decide)).1 h1
  have a3 := (c_idiv x 100 100 (by decide) (by decide)).1 h1
  have a4 := c_iadd (365 * x) (x / 4)
  have a5 := c_isub (365 * x + x / 4) (x / 100)
  have a6 := c_iadd (365 * x + x / 4 - x / 100) y
  have b1 := rng32 (365 * x)
  have b4 := rng32 (365 * x + x / 4)
  have b5 := rng32 (365 * x + x / 4 - x / 100)
  have b6 := rng32 z
  rw [hz] at a6
  omega
theorem own_s4 (v r : Int64) (x y z : Int32) (hr : r.toInt = v.toInt / 400) (hx : x.toInt = v.toInt % 400) (hz : z.toInt = 365 * x.toInt + x.toInt / 4 - x.toInt / 100 + y.toInt) :
    ((((r * (146097 : Int64)) + (z.toInt64)) - (719468 : Int64)).toInt - (365 * v.toInt + v.toInt / 4 - v.toInt / 100 + v.toInt / 400 + y.toInt - 719468)) % 18446744073709551616 = 0 := by
  have g := own_G v.toInt
  have h1 := own_lmulR r 146097 146097 (by decide)
  have h2 := c_i2l z
  have h3 := c_ladd (r * 146097) z.toInt64
  have h4 := c_lsub (r * 146097 + z.toInt64) 719468
  have e1 : (719468 : Int64).toInt = 719468 := by decide
  rw [hx] at hz
  rw [hr] at h1
  generalize 365 * v.toInt + v.toInt / 4 - v.toInt / 100 + v.toInt / 400 = W at *
  omega

theorem own_rem0 (q k : Int64) (d : Int) (hk : k.toInt = d) : (q % k = 0 ↔ (q.toInt % d = 0)) := by
  rw [← Int64.toInt_inj, Int64.toInt_mod, hk]
  have e : (0 : Int64).toInt = 0 := by decide
  rw [e]
  constructor
  · intro h
    exact Int.emod_eq_zero_of_dvd (Int.dvd_of_tmod_eq_zero h)
  · intro h
    exact Int.tmod_eq_zero_of_dvd (Int.dvd_of_emod_eq_zero h)
theorem own_gap (Y : Int) : ((Y % 4 ≠ 0 ∨ (Y % 100 = 0 ∧ Y % 400 ≠ 0)) → 365 * Y + Y / 4 - Y / 100 + Y / 400 - (365 * (Y - 1) + (Y - 1) / 4 - (Y - 1) / 100 + (Y - 1) / 400) = 365) ∧ ((Y % 400 = 0 ∨ (Y % 4 = 0 ∧ Y % 100 ≠ 0)) → 365 * Y + Y / 4 - Y / 100 + Y / 400 - (365 * (Y - 1) + (Y - 1) / 4 - (Y - 1) / 100 + (Y - 1) / 400) = 366) := by
  constructor
  · intro h
    omega
  · intro h
    omega
theorem own_days (a b x : Int64) (Y : Int) (hx : (a - b) = x) (ha : (a.toInt - (365 * Y + Y / 4 - Y / 100 + Y / 400 + 0 + 1 - 719469)) % 18446744073709551616 = 0) (hb : (b.toInt - (365 * (Y - 1) + (Y - 1) / 4 - (Y - 1) / 100 + (Y - 1) / 400 + 337 + 28 - 719469)) % 18446744073709551616 = 0) :
    ((Y % 4 ≠ 0 ∨ (Y % 100 = 0 ∧ Y % 400 ≠ 0)) → x.toInt = 1) ∧ ((Y % 400 = 0 ∨ (Y % 4 = 0 ∧ Y % 100 ≠ 0)) → x.toInt = 2) := by
  have g := own_gap Y
  have s := c_lsub a b
  rw [hx] at s
  have r := rng64 x
  generalize 365 * Y + Y / 4 - Y / 100 + Y / 400 = A at *
  generalize 365 * (Y - 1) + (Y - 1) / 4 - (Y - 1) / 100 + (Y - 1) / 400 = B at *
  constructor
  · intro h
    have := g.1 h
    omega
  · intro h
    have := g.2 h
    omega
theorem own_min {q : Int64} (h : ¬ (q = (-9223372036854775808 : Int64))) : -9223372036854775808 < q.toInt := by
  have := rng64 q
  have : (-9223372036854775808 : Int64).toInt = -9223372036854775808 := by decide
  rw [← Int64.toInt_inj] at h
  omega

theorem d3_0 : decode jdk_30_method_1_code 0 = .ok (.aload_n 0, 1) := by decide +kernel
theorem d3_1 : decode jdk_30_method_1_code 1 = .ok (.invokespecial 1, 3) := by decide +kernel
theorem d3_4 : decode jdk_30_method_1_code 4 = .ok (.return_, 1) := by decide +kernel
theorem ef_3 (m : MethodId) (x0 : Addr) : entryFrame m #[(.ref x0)] 1 = mkF m 0 #[.val (.ref x0)] [] := by first | (simp [entryFrame, mkF, argsToLocals, Value.category]; done) | rfl
def Q3 (Z : State) (o0 : Addr) (h0 : Heap) (n0 : Nat) (v : Option Value) (h : Heap) (L : List Loc) : Prop := v = none ∧ Fr n0 L ∧ h = h0
set_option maxRecDepth 65536 in
set_option maxHeartbeats 40000000 in
theorem rm3 (l : Launch) (Z : State) (a0 : Array Value) (hw : ∀ d ∈ tables_1, d.before a0 Z = true) (ws : List Jvm.Cond) (o0 : Addr) (h0 : Heap) (n0 : Nat) (Z0 : n0 ≤ h0.size) :
    MetFree l (⟨"java/lang/Record", "<init>", "()V"⟩ : MethodName) (head1 (Jvm.Cond.code (⟨"java/lang/Record", "<init>", "()V"⟩ : MethodName) jdk_30_method_1_code 1 none :: ws) ({ frames := 1, cells := 0, slots := 0, locals := 12 } : Room)) (fun a U => a = #[(.ref o0)] ∧ Z.Warmed39 U.vm ∧ U.heap = h0) (fun _ _ _ _ _ => True) (fun _ U o U' => ∃ v L, o = .returned v ∧ Q3 Z o0 h0 n0 v U'.heap L ∧ FrameEnd U o U' L ({ frames := 1, cells := 0, slots := 0, locals := 12 } : Room).cells ({ frames := 1, cells := 0, slots := 0, locals := 12 } : Room).slots) := by
  refine MetFree.of_bodySF (plainFor_of_name (by first | (simp [plainName, overriddenIn]; done) | decide +kernel)) hisR ?_
  intro p e s m args below meth c s₁ Bd hml0 hP hK
  obtain ⟨rfl, hZ, hh⟩ := hP
  have hx := Bd.exec
  have hby := Bd.bytes
  have hml : c.maxLocals = 1 := hml0
  have hown : s.vm.findClass "java/lang/Record" = some m.cls := findClass_of_methodNamed Bd.named
  have hnm := (name_of_methodNamed Bd.named Bd.method).1
  have hlk := BodyLoose.notSynchronized Bd
  have X0 : Stand p l e ({ frames := 1, cells := 0, slots := 0, locals := 12 } : Room) s m #[(.ref o0)] below meth c s₁ [] 0 0 := Stand.of_body Bd
  have e0 : s₁.heap = h0 := by rw [← hh, Bd.state]; rfl
  have N0 := Fr.nil n0
  show Go p e below s (Q3 Z o0 h0 n0) 0 0 (s₁.setTop (entryFrame m #[(.ref o0)] 1))
  rw [ef_3]
  show Go _ _ _ _ _ _ _ (s₁.setTop (mkF m 0 #[.val (.ref o0)] []))
  refine gob (fun _ k => XS.aloadN X0.here hx rfl (hb hby d3_0) rfl rfl k) ?_
  show Go _ _ _ _ _ _ _ (s₁.setTop (mkF m 1 #[.val (.ref o0)] [(.ref o0)]))
  obtain ⟨T1, X1, e1, st1⟩ := initO X0 hx hZ hown (hw _ (List.mem_of_getElem? (i := 16) rfl)) (hw _ (List.mem_of_getElem? (i := 17) rfl)) (hw _ (List.mem_of_getElem? (i := 18) rfl)) e0 (g := (mkF m 1 #[.val (.ref o0)] [(.ref o0)])) rfl (by rw [hml]; rfl) rfl (hb hby d3_1) (by decide) (W := 0) (by show 2 * 0 + _ ≤ _; exact Nat.le_of_eq rfl) (by decide)
  refine gob st1 ?_
  show Go _ _ _ _ _ _ _ (T1.setTop (mkF m 4 #[.val (.ref o0)] []))
  refine goV X1 hx hlk Bd.returns (hb hby d3_4) ?_ (by decide) (by decide)
  show Q3 Z o0 h0 n0 (none) T1.heap _
  exact ⟨rfl, N0, e1⟩
theorem d2_0 : decode prog_4_method_1_code 0 = .ok (.aload_n 0, 1) := by decide +kernel
theorem d2_1 : decode prog_4_method_1_code 1 = .ok (.invokespecial 1, 3) := by decide +kernel
theorem d2_4 : decode prog_4_method_1_code 4 = .ok (.aload_n 0, 1) := by decide +kernel
theorem d2_5 : decode prog_4_method_1_code 5 = .ok (.lload_n 1, 1) := by decide +kernel
theorem d2_6 : decode prog_4_method_1_code 6 = .ok (.putfield 7, 3) := by decide +kernel
theorem d2_9 : decode prog_4_method_1_code 9 = .ok (.aload_n 0, 1) := by decide +kernel
theorem d2_10 : decode prog_4_method_1_code 10 = .ok (.iload_n 3, 1) := by decide +kernel
theorem d2_11 : decode prog_4_method_1_code 11 = .ok (.putfield 13, 3) := by decide +kernel
theorem d2_14 : decode prog_4_method_1_code 14 = .ok (.aload_n 0, 1) := by decide +kernel
theorem d2_15 : decode prog_4_method_1_code 15 = .ok (.iload 4, 2) := by decide +kernel
theorem d2_17 : decode prog_4_method_1_code 17 = .ok (.putfield 17, 3) := by decide +kernel
theorem d2_20 : decode prog_4_method_1_code 20 = .ok (.return_, 1) := by decide +kernel
theorem pd_0 : parseMethodDescriptor "()V" = some ⟨[], none⟩ := by decide +kernel
theorem ef_2 (m : MethodId) (x0 : Addr) (x1 : Int64) (x2 : Int32) (x3 : Int32) : entryFrame m #[(.ref x0), (.long x1), (.int x2), (.int x3)] 5 = mkF m 0 #[.val (.ref x0), .val (.long x1), .second, .val (.int x2), .val (.int x3)] [] := by first | (simp [entryFrame, mkF, argsToLocals, Value.category]; done) | rfl
def Q2 (Z : State) (o0 : Addr) (q1 : Int64) (p2 : Int32) (p3 : Int32) (h0 : Heap) (n0 : Nat) (v : Option Value) (h : Heap) (L : List Loc) : Prop := v = none ∧ Fr n0 L ∧ Keep h0 h ([o0] : List Addr) ∧ Fld Z h o0 "com/example/cairnlog/cairnlog/CivilDate" "year" "J" (.long q1) ∧ Fld Z h o0 "com/example/cairnlog/cairnlog/CivilDate" "month" "I" (.int p2) ∧ Fld Z h o0 "com/example/cairnlog/cairnlog/CivilDate" "day" "I" (.int p3)
set_option maxRecDepth 65536 in
set_option maxHeartbeats 40000000 in
theorem rm2 (l : Launch) (Z : State) (a0 : Array Value) (hw : ∀ d ∈ tables_1, d.before a0 Z = true) (ws : List Jvm.Cond) (o0 : Addr) (q1 : Int64) (p2 : Int32) (p3 : Int32) (h0 : Heap) (n0 : Nat) (Z0 : n0 ≤ h0.size) (E_o0 : Exa Z h0 o0 "com/example/cairnlog/cairnlog/CivilDate") (F_year_o0 : Fld Z h0 o0 "com/example/cairnlog/cairnlog/CivilDate" "year" "J" (.long (0 : Int64))) (g_o0 : n0 ≤ o0) (F_month_o0 : Fld Z h0 o0 "com/example/cairnlog/cairnlog/CivilDate" "month" "I" (.int (0 : Int32))) (F_day_o0 : Fld Z h0 o0 "com/example/cairnlog/cairnlog/CivilDate" "day" "I" (.int (0 : Int32))) :
    MetFree l (⟨"com/example/cairnlog/cairnlog/CivilDate", "<init>", "(JII)V"⟩ : MethodName) (head1 (Jvm.Cond.code (⟨"com/example/cairnlog/cairnlog/CivilDate", "<init>", "(JII)V"⟩ : MethodName) prog_4_method_1_code 5 none :: ws) ({ frames := 2, cells := 0, slots := 0, locals := 24 } : Room)) (fun a U => a = #[(.ref o0), (.long q1), (.int p2), (.int p3)] ∧ Z.Warmed39 U.vm ∧ U.heap = h0) (fun _ _ _ _ _ => True) (fun _ U o U' => ∃ v L, o = .returned v ∧ Q2 Z o0 q1 p2 p3 h0 n0 v U'.heap L ∧ FrameEnd U o U' L ({ frames := 2, cells := 0, slots := 0, locals := 24 } : Room).cells ({ frames := 2, cells := 0, slots := 0, locals := 24 } : Room).slots) := by
  refine MetFree.of_bodySF (plainFor_of_name (by first | (simp [plainName, overriddenIn]; done) | decide +kernel)) hisR ?_
  intro p e s m args below meth c s₁ Bd hml0 hP hK
  obtain ⟨rfl, hZ, hh⟩ := hP
  have hx := Bd.exec
  have hby := Bd.bytes
  have hml : c.maxLocals = 5 := hml0
  have hown : s.vm.findClass "com/example/cairnlog/cairnlog/CivilDate" = some m.cls := findClass_of_methodNamed Bd.named
  have hnm := (name_of_methodNamed Bd.named Bd.method).1
  have hlk := BodyLoose.notSynchronized Bd
  have X0 : Stand p l e ({ frames := 2, cells := 0, slots := 0, locals := 24 } : Room) s m #[(.ref o0), (.long q1), (.int p2), (.int p3)] below meth c s₁ [] 0 0 := Stand.of_body Bd
  have e0 : s₁.heap = h0 := by rw [← hh, Bd.state]; rfl
  have N0 := Fr.nil n0
  show Go p e below s (Q2 Z o0 q1 p2 p3 h0 n0) 0 0 (s₁.setTop (entryFrame m #[(.ref o0), (.long q1), (.int p2), (.int p3)] 5))
  rw [ef_2]
  show Go _ _ _ _ _ _ _ (s₁.setTop (mkF m 0 #[.val (.ref o0), .val (.long q1), .second, .val (.int p2), .val (.int p3)] []))
  refine gob (fun _ k => XS.aloadN X0.here hx rfl (hb hby d2_0) rfl rfl k) ?_
  show Go _ _ _ _ _ _ _ (s₁.setTop (mkF m 1 #[.val (.ref o0), .val (.long q1), .second, .val (.int p2), .val (.int p3)] [(.ref o0)]))
  obtain ⟨_, _, ⟨T1, L1, k1, n1⟩, -, X1, ⟨Lc1, hQ1, l1, y1, z1⟩, st1⟩ := X0.specialBack hx (y := (⟨"java/lang/Record", "<init>", "()V"⟩ : MethodName)) rfl hown (mvT hZ (hw _ (List.mem_of_getElem? (i := 11) rfl))) (mvT hZ (hw _ (List.mem_of_getElem? (i := 12) rfl))) (mvT hZ (hw _ (List.mem_of_getElem? (i := 15) rfl))) (by decide) (backOf (W := 0) (rm3 l Z a0 hw [] o0 h0 n0 Z0 ) hZ (hw _ (List.mem_of_getElem? (i := 15) rfl)) (hw _ (List.mem_of_getElem? (i := 14) rfl)) (by decide) (by decide)) (g := (mkF m 1 #[.val (.ref o0), .val (.long q1), .second, .val (.int p2), .val (.int p3)] [(.ref o0)])) rfl (by rw [hml]; rfl) (Steps.refl _) (a := o0) (argsL := []) (rest := []) (lenOf pd_0 rfl) rfl (by show 2 * 0 + _ ≤ _; exact Nat.le_of_eq rfl) (hb hby d2_1) (fun _ _ => ⟨rfl, e0, (by decide : 0 + 0 ≤ _), (by decide : 0 + 0 ≤ _)⟩)
  dsimp only [Pt.U, Pt.locs, Pt.cells, Pt.slots] at X1 l1 y1 z1 st1 hQ1
  subst l1 y1 z1
  obtain ⟨rfl, Nq1, e1⟩ := hQ1
  have N1 := Fr.app N0 Nq1
  refine gob (fun _ k => st1.trans k) ?_
  show Go _ _ _ _ _ _ _ (T1.setTop (mkF m 4 #[.val (.ref o0), .val (.long q1), .second, .val (.int p2), .val (.int p3)] []))
  refine gob (fun _ k => XS.aloadN X1.here hx rfl (hb hby d2_4) rfl rfl k) ?_
  show Go _ _ _ _ _ _ _ (T1.setTop (mkF m 5 #[.val (.ref o0), .val (.long q1), .second, .val (.int p2), .val (.int p3)] [(.ref o0)]))
  refine gob (fun _ k => XS.lloadN X1.here hx rfl (hb hby d2_5) rfl k) ?_
  show Go _ _ _ _ _ _ _ (T1.setTop (mkF m 6 #[.val (.ref o0), .val (.long q1), .second, .val (.int p2), .val (.int p3)] [(.long q1), (.ref o0)]))
  obtain ⟨T2, h2, X2, e2, W2, st2⟩ := putF X1 hx hZ hown (host := "") (Or.inl (hw _ (List.mem_of_getElem? (i := 19) rfl))) Via.refl e1 F_year_o0 E_o0 (Or.inr ⟨(hw _ (List.mem_of_getElem? (i := 20) rfl)), rfl, hnm⟩) (hw _ (List.mem_of_getElem? (i := 7) rfl)) (ty := .long) (by decide) rfl rfl (g := (mkF m 6 #[.val (.ref o0), .val (.long q1), .second, .val (.int p2), .val (.int p3)] [(.long q1), (.ref o0)])) rfl rfl (hb hby d2_6)
  refine gob st2 ?_
  have z3 : n0 ≤ h2.size := Nat.le_trans Z0 (Keep.of_wr W2).1
  have N2 := Fr.snoc X2 N1 g_o0
  have K4 : Keep h0 h2 ([o0] : List Addr) := (Keep.refl h0 ([o0] : List Addr)).wr W2 (Or.inl (List.mem_of_getElem? (i := 0) rfl))
  have Fw2 := F_year_o0.same W2
  show Go _ _ _ _ _ _ _ (T2.setTop (mkF m 9 #[.val (.ref o0), .val (.long q1), .second, .val (.int p2), .val (.int p3)] []))
  refine gob (fun _ k => XS.aloadN X2.here hx rfl (hb hby d2_9) rfl rfl k) ?_
  show Go _ _ _ _ _ _ _ (T2.setTop (mkF m 10 #[.val (.ref o0), .val (.long q1), .second, .val (.int p2), .val (.int p3)] [(.ref o0)]))
  refine gob (fun _ k => XS.iloadN X2.here hx rfl (hb hby d2_10) rfl k) ?_
  show Go _ _ _ _ _ _ _ (T2.setTop (mkF m 11 #[.val (.ref o0), .val (.long q1), .second, .val (.int p2), .val (.int p3)] [(.int p2), (.ref o0)]))
  have c5 := (F_month_o0.other W2 (Or.inr (slot_ne (Or.inr (hw _ (List.mem_of_getElem? (i := 22) rfl))) (Or.inr (hw _ (List.mem_of_getElem? (i := 20) rfl))) (by decide) (t := .int) (t' := .long) (by decide) (by decide))))
  have c6 := (E_o0.wr W2)
  obtain ⟨T7, h7, X7, e7, W7, st7⟩ := putF X2 hx hZ hown (host := "") (Or.inl (hw _ (List.mem_of_getElem? (i := 21) rfl))) Via.refl e2 c5 c6 (Or.inr ⟨(hw _ (List.mem_of_getElem? (i := 22) rfl)), rfl, hnm⟩) (hw _ (List.mem_of_getElem? (i := 7) rfl)) (ty := .int) (by decide) rfl rfl (g := (mkF m 11 #[.val (.ref o0), .val (.long q1), .second, .val (.int p2), .val (.int p3)] [(.int p2), (.ref o0)])) rfl rfl (hb hby d2_11)
  refine gob st7 ?_
  have z8 : n0 ≤ h7.size := Nat.le_trans z3 (Keep.of_wr W7).1
  have N7 := Fr.snoc X7 N2 g_o0
  have K9 : Keep h0 h7 ([o0] : List Addr) := K4.wr W7 (Or.inl (List.mem_of_getElem? (i := 0) rfl))
  have Fw7 := c5.same W7
  show Go _ _ _ _ _ _ _ (T7.setTop (mkF m 14 #[.val (.ref o0), .val (.long q1), .second, .val (.int p2), .val (.int p3)] []))
  refine gob (fun _ k => XS.aloadN X7.here hx rfl (hb hby d2_14) rfl rfl k) ?_
  show Go _ _ _ _ _ _ _ (T7.setTop (mkF m 15 #[.val (.ref o0), .val (.long q1), .second, .val (.int p2), .val (.int p3)] [(.ref o0)]))
  refine gob (fun _ k => XS.iload X7.here hx rfl (hb hby d2_15) rfl k) ?_
  show Go _ _ _ _ _ _ _ (T7.setTop (mkF m 17 #[.val (.ref o0), .val (.long q1), .second, .val (.int p2), .val (.int p3)] [(.int p3), (.ref o0)]))
  have c10 := ((F_day_o0.other W2 (Or.inr (slot_ne (Or.inr (hw _ (List.mem_of_getElem? (i := 24) rfl))) (Or.inr (hw _ (List.mem_of_getElem? (i := 20) rfl))) (by decide) (t := .int) (t' := .long) (by decide) (by decide)))).other W7 (Or.inr (slot_ne (Or.inr (hw _ (List.mem_of_getElem? (i := 24) rfl))) (Or.inr (hw _ (List.mem_of_getElem? (i := 22) rfl))) (by decide) (t := .int) (t' := .int) (by decide) (by decide))))
  have c11 := (c6.wr W7)
  obtain ⟨T12, h12, X12, e12, W12, st12⟩ := putF X7 hx hZ hown (host := "") (Or.inl (hw _ (List.mem_of_getElem? (i := 23) rfl))) Via.refl e7 c10 c11 (Or.inr ⟨(hw _ (List.mem_of_getElem? (i := 24) rfl)), rfl, hnm⟩) (hw _ (List.mem_of_getElem? (i := 7) rfl)) (ty := .int) (by decide) rfl rfl (g := (mkF m 17 #[.val (.ref o0), .val (.long q1), .second, .val (.int p2), .val (.int p3)] [(.int p3), (.ref o0)])) rfl rfl (hb hby d2_17)
  refine gob st12 ?_
  have z13 : n0 ≤ h12.size := Nat.le_trans z8 (Keep.of_wr W12).1
  have N12 := Fr.snoc X12 N7 g_o0
  have K14 : Keep h0 h12 ([o0] : List Addr) := K9.wr W12 (Or.inl (List.mem_of_getElem? (i := 0) rfl))
  have Fw12 := c10.same W12
  show Go _ _ _ _ _ _ _ (T12.setTop (mkF m 20 #[.val (.ref o0), .val (.long q1), .second, .val (.int p2), .val (.int p3)] []))
  refine goV X12 hx hlk Bd.returns (hb hby d2_20) ?_ (by decide) (by decide)
  show Q2 Z o0 q1 p2 p3 h0 n0 (none) T12.heap _
  have c15 := ((Fw2.other W7 (Or.inr (slot_ne (Or.inr (hw _ (List.mem_of_getElem? (i := 20) rfl))) (Or.inr (hw _ (List.mem_of_getElem? (i := 22) rfl))) (by decide) (t := .long) (t' := .int) (by decide) (by decide)))).other W12 (Or.inr (slot_ne (Or.inr (hw _ (List.mem_of_getElem? (i := 20) rfl))) (Or.inr (hw _ (List.mem_of_getElem? (i := 24) rfl))) (by decide) (t := .long) (t' := .int) (by decide) (by decide))))
  have c16 := (Fw7.other W12 (Or.inr (slot_ne (Or.inr (hw _ (List.mem_of_getElem? (i := 22) rfl))) (Or.inr (hw _ (List.mem_of_getElem? (i := 24) rfl))) (by decide) (t := .int) (t' := .int) (by decide) (by decide))))
  rw [e12]
  exact ⟨rfl, N12, K14, c15, c16, Fw12⟩
theorem d1_0 : decode prog_4_method_5_code 0 = .ok (.lload_n 0, 1) := by decide +kernel
theorem d1_1 : decode prog_4_method_5_code 1 = .ok (.ldc2_w 40, 3) := by decide +kernel
theorem d1_4 : decode prog_4_method_5_code 4 = .ok (.lrem, 1) := by decide +kernel
theorem d1_5 : decode prog_4_method_5_code 5 = .ok (.lconst 0, 1) := by decide +kernel
theorem d1_6 : decode prog_4_method_5_code 6 = .ok (.lcmp, 1) := by decide +kernel
theorem d1_7 : decode prog_4_method_5_code 7 = .ok (.ifCond .ne 27, 3) := by decide +kernel
theorem d1_10 : decode prog_4_method_5_code 10 = .ok (.lload_n 0, 1) := by decide +kernel
theorem d1_11 : decode prog_4_method_5_code 11 = .ok (.ldc2_w 46, 3) := by decide +kernel
theorem d1_14 : decode prog_4_method_5_code 14 = .ok (.lrem, 1) := by decide +kernel
theorem d1_15 : decode prog_4_method_5_code 15 = .ok (.lconst 0, 1) := by decide +kernel
theorem d1_16 : decode prog_4_method_5_code 16 = .ok (.lcmp, 1) := by decide +kernel
theorem d1_17 : decode prog_4_method_5_code 17 = .ok (.ifCond .ne 13, 3) := by decide +kernel
theorem d1_20 : decode prog_4_method_5_code 20 = .ok (.lload_n 0, 1) := by decide +kernel
theorem d1_21 : decode prog_4_method_5_code 21 = .ok (.ldc2_w 32, 3) := by decide +kernel
theorem d1_24 : decode prog_4_method_5_code 24 = .ok (.lrem, 1) := by decide +kernel
theorem d1_25 : decode prog_4_method_5_code 25 = .ok (.lconst 0, 1) := by decide +kernel
theorem d1_26 : decode prog_4_method_5_code 26 = .ok (.lcmp, 1) := by decide +kernel
theorem d1_27 : decode prog_4_method_5_code 27 = .ok (.ifCond .ne 7, 3) := by decide +kernel
theorem d1_30 : decode prog_4_method_5_code 30 = .ok (.iconst 1, 1) := by decide +kernel
theorem d1_31 : decode prog_4_method_5_code 31 = .ok (.goto 4, 3) := by decide +kernel
theorem d1_34 : decode prog_4_method_5_code 34 = .ok (.iconst 0, 1) := by decide +kernel
theorem d1_35 : decode prog_4_method_5_code 35 = .ok (.ireturn, 1) := by decide +kernel
theorem ef_1 (m : MethodId) (x0 : Int64) : entryFrame m #[(.long x0)] 2 = mkF m 0 #[.val (.long x0), .second] [] := by first | (simp [entryFrame, mkF, argsToLocals, Value.category]; done) | rfl
def Q1 (Z : State) (q0 : Int64) (h0 : Heap) (n0 : Nat) (v : Option Value) (h : Heap) (L : List Loc) : Prop := ∃ r : Int32, v = some (.int r) ∧ (((q0 % (4 : Int64)) = (0 : Int64) ∧ (q0 % (100 : Int64)) = (0 : Int64) ∧ (q0 % (400 : Int64)) = (0 : Int64) ∧ r = (1 : Int32)) ∨ ((q0 % (4 : Int64)) = (0 : Int64) ∧ (q0 % (100 : Int64)) = (0 : Int64) ∧ ¬ ((q0 % (400 : Int64)) = (0 : Int64)) ∧ r = (0 : Int32)) ∨ ((q0 % (4 : Int64)) = (0 : Int64) ∧ ¬ ((q0 % (100 : Int64)) = (0 : Int64)) ∧ r = (1 : Int32)) ∨ (¬ ((q0 % (4 : Int64)) = (0 : Int64)) ∧ r = (0 : Int32))) ∧ Fr n0 L ∧ h = h0
set_option maxRecDepth 65536 in
set_option maxHeartbeats 40000000 in
theorem rm1 (l : Launch) (Z : State) (a0 : Array Value) (hw : ∀ d ∈ tables_1, d.before a0 Z = true) (ws : List Jvm.Cond) (q0 : Int64) (h0 : Heap) (n0 : Nat) (Z0 : n0 ≤ h0.size) :
    MetFree l (⟨"com/example/cairnlog/cairnlog/CivilDate", "isLeapYear", "(J)Z"⟩ : MethodName) (head1 (Jvm.Cond.code (⟨"com/example/cairnlog/cairnlog/CivilDate", "isLeapYear", "(J)Z"⟩ : MethodName) prog_4_method_5_code 2 (some .boolean) :: ws) ({ frames := 0, cells := 0, slots := 0, locals := 0 } : Room)) (fun a U => a = #[(.long q0)] ∧ Z.Warmed39 U.vm ∧ U.heap = h0) (fun _ _ _ _ _ => True) (fun _ U o U' => ∃ v L, o = .returned v ∧ Q1 Z q0 h0 n0 v U'.heap L ∧ FrameEnd U o U' L ({ frames := 0, cells := 0, slots := 0, locals := 0 } : Room).cells ({ frames := 0, cells := 0, slots := 0, locals := 0 } : Room).slots) := by
  refine MetFree.of_bodySF (plainFor_of_name (by first | (simp [plainName, overriddenIn]; done) | decide +kernel)) hisR ?_
  intro p e s m args below meth c s₁ Bd hml0 hP hK
  obtain ⟨rfl, hZ, hh⟩ := hP
  have hx := Bd.exec
  have hby := Bd.bytes
  have hml : c.maxLocals = 2 := hml0
  have hown : s.vm.findClass "com/example/cairnlog/cairnlog/CivilDate" = some m.cls := findClass_of_methodNamed Bd.named
  have hnm := (name_of_methodNamed Bd.named Bd.method).1
  have hlk := BodyLoose.notSynchronized Bd
  have X0 : Stand p l e ({ frames := 0, cells := 0, slots := 0, locals := 0 } : Room) s m #[(.long q0)] below meth c s₁ [] 0 0 := Stand.of_body Bd
  have e0 : s₁.heap = h0 := by rw [← hh, Bd.state]; rfl
  have N0 := Fr.nil n0
  show Go p e below s (Q1 Z q0 h0 n0) 0 0 (s₁.setTop (entryFrame m #[(.long q0)] 2))
  rw [ef_1]
  show Go _ _ _ _ _ _ _ (s₁.setTop (mkF m 0 #[.val (.long q0), .second] []))
  refine gob (fun _ k => XS.lloadN X0.here hx rfl (hb hby d1_0) rfl k) ?_
  show Go _ _ _ _ _ _ _ (s₁.setTop (mkF m 1 #[.val (.long q0), .second] [(.long q0)]))
  refine gob (X0.ldc2Long hx hown (mvT hZ (hw _ (List.mem_of_getElem? (i := 4) rfl))) (g := (mkF m 1 #[.val (.long q0), .second] [(.long q0)])) rfl (hb hby d1_1)) ?_
  show Go _ _ _ _ _ _ _ (s₁.setTop (mkF m 4 #[.val (.long q0), .second] [(.long (4 : Int64)), (.long q0)]))
  refine gob (fun _ k => lremM X0 hx rfl (hb hby d1_4) rfl (by decide) k) ?_
  show Go _ _ _ _ _ _ _ (s₁.setTop (mkF m 5 #[.val (.long q0), .second] [(.long (q0 % (4 : Int64)))]))
  refine gob (fun _ k => XS.lconst X0.here hx rfl (hb hby d1_5) k) ?_
  show Go _ _ _ _ _ _ _ (s₁.setTop (mkF m 6 #[.val (.long q0), .second] [(.long (0 : Int64)), (.long (q0 % (4 : Int64)))]))
  refine gob (fun _ k => XS.lcmp X0.here hx rfl (hb hby d1_6) rfl k) ?_
  show Go _ _ _ _ _ _ _ (s₁.setTop (mkF m 7 #[.val (.long q0), .second] [(.int (lcmpW (q0 % (4 : Int64)) (0 : Int64)))]))
  by_cases hc7_1 : (q0 % (4 : Int64)) = (0 : Int64)
  · skip
    refine gob (fun _ k => XS.ifNo X0.here hx rfl (hb hby d1_7) rfl ((if0 _ _).trans (teq ((lw_eq _ _).mpr hc7_1)).2) k) ?_
    show Go _ _ _ _ _ _ _ (s₁.setTop (mkF m 10 #[.val (.long q0), .second] []))
    refine gob (fun _ k => XS.lloadN X0.here hx rfl (hb hby d1_10) rfl k) ?_
    show Go _ _ _ _ _ _ _ (s₁.setTop (mkF m 11 #[.val (.long q0), .second] [(.long q0)]))
    refine gob (X0.ldc2Long hx hown (mvT hZ (hw _ (List.mem_of_getElem? (i := 40) rfl))) (g := (mkF m 11 #[.val (.long q0), .second] [(.long q0)])) rfl (hb hby d1_11)) ?_
    show Go _ _ _ _ _ _ _ (s₁.setTop (mkF m 14 #[.val (.long q0), .second] [(.long (100 : Int64)), (.long q0)]))
    refine gob (fun _ k => lremM X0 hx rfl (hb hby d1_14) rfl (by decide) k) ?_
    show Go _ _ _ _ _ _ _ (s₁.setTop (mkF m 15 #[.val (.long q0), .second] [(.long (q0 % (100 : Int64)))]))
    refine gob (fun _ k => XS.lconst X0.here hx rfl (hb hby d1_15) k) ?_
    show Go _ _ _ _ _ _ _ (s₁.setTop (mkF m 16 #[.val (.long q0), .second] [(.long (0 : Int64)), (.long (q0 % (100 : Int64)))]))
    refine gob (fun _ k => XS.lcmp X0.here hx rfl (hb hby d1_16) rfl k) ?_
    show Go _ _ _ _ _ _ _ (s₁.setTop (mkF m 17 #[.val (.long q0), .second] [(.int (lcmpW (q0 % (100 : Int64)) (0 : Int64)))]))
    by_cases hc17_2 : (q0 % (100 : Int64)) = (0 : Int64)
    · skip
      refine gob (fun _ k => XS.ifNo X0.here hx rfl (hb hby d1_17) rfl ((if0 _ _).trans (teq ((lw_eq _ _).mpr hc17_2)).2) k) ?_
      show Go _ _ _ _ _ _ _ (s₁.setTop (mkF m 20 #[.val (.long q0), .second] []))
      refine gob (fun _ k => XS.lloadN X0.here hx rfl (hb hby d1_20) rfl k) ?_
      show Go _ _ _ _ _ _ _ (s₁.setTop (mkF m 21 #[.val (.long q0), .second] [(.long q0)]))
      refine gob (X0.ldc2Long hx hown (mvT hZ (hw _ (List.mem_of_getElem? (i := 37) rfl))) (g := (mkF m 21 #[.val (.long q0), .second] [(.long q0)])) rfl (hb hby d1_21)) ?_
      show Go _ _ _ _ _ _ _ (s₁.setTop (mkF m 24 #[.val (.long q0), .second] [(.long (400 : Int64)), (.long q0)]))
      refine gob (fun _ k => lremM X0 hx rfl (hb hby d1_24) rfl (by decide) k) ?_
      show Go _ _ _ _ _ _ _ (s₁.setTop (mkF m 25 #[.val (.long q0), .second] [(.long (q0 % (400 : Int64)))]))
      refine gob (fun _ k => XS.lconst X0.here hx rfl (hb hby d1_25) k) ?_
      show Go _ _ _ _ _ _ _ (s₁.setTop (mkF m 26 #[.val (.long q0), .second] [(.long (0 : Int64)), (.long (q0 % (400 : Int64)))]))
      refine gob (fun _ k => XS.lcmp X0.here hx rfl (hb hby d1_26) rfl k) ?_
      show Go _ _ _ _ _ _ _ (s₁.setTop (mkF m 27 #[.val (.long q0), .second] [(.int (lcmpW (q0 % (400 : Int64)) (0 : Int64)))]))
      by_cases hc27_3 : (q0 % (400 : Int64)) = (0 : Int64)
      · skip
        refine gob (fun _ k => XS.ifNo X0.here hx rfl (hb hby d1_27) rfl ((if0 _ _).trans (teq ((lw_eq _ _).mpr hc27_3)).2) k) ?_
        show Go _ _ _ _ _ _ _ (s₁.setTop (mkF m 30 #[.val (.long q0), .second] []))
        refine gob (fun _ k => XS.iconst X0.here hx rfl (hb hby d1_30) k) ?_
        show Go _ _ _ _ _ _ _ (s₁.setTop (mkF m 31 #[.val (.long q0), .second] [(.int (1 : Int32))]))
        refine gob (fun _ k => XS.goto X0.here hx rfl (pc0 := 31) (pc' := 35) rfl (hb hby d1_31) (by decide) (by decide) k) ?_
        show Go _ _ _ _ _ _ _ (s₁.setTop (mkF m 35 #[.val (.long q0), .second] [(.int (1 : Int32))]))
        refine goZ X0 hx hlk (t := .boolean) Bd.returns (by simp) (hb hby d1_35) (z' := (1 : Int32)) rfl ?_ (by decide) (by decide)
        show Q1 Z q0 h0 n0 (some (.int (1 : Int32))) s₁.heap _
        exact ⟨(1 : Int32), rfl, (Or.inl ⟨hc7_1, hc17_2, hc27_3, rfl⟩), N0, e0⟩
      · skip
        refine gob (fun _ k => XS.ifYes X0.here hx rfl (pc0 := 27) (pc' := 34) rfl (hb hby d1_27) rfl ((if0 _ _).trans (feq (mt (lw_eq _ _).mp hc27_3)).2) (by decide) (by decide) k) ?_
        show Go _ _ _ _ _ _ _ (s₁.setTop (mkF m 34 #[.val (.long q0), .second] []))
        refine gob (fun _ k => XS.iconst X0.here hx rfl (hb hby d1_34) k) ?_
        show Go _ _ _ _ _ _ _ (s₁.setTop (mkF m 35 #[.val (.long q0), .second] [(.int (0 : Int32))]))
        refine goZ X0 hx hlk (t := .boolean) Bd.returns (by simp) (hb hby d1_35) (z' := (0 : Int32)) rfl ?_ (by decide) (by decide)
        show Q1 Z q0 h0 n0 (some (.int (0 : Int32))) s₁.heap _
        exact ⟨(0 : Int32), rfl, (Or.inr (Or.inl ⟨hc7_1, hc17_2, hc27_3, rfl⟩)), N0, e0⟩
    · skip
      refine gob (fun _ k => XS.ifYes X0.here hx rfl (pc0 := 17) (pc' := 30) rfl (hb hby d1_17) rfl ((if0 _ _).trans (feq (mt (lw_eq _ _).mp hc17_2)).2) (by decide) (by decide) k) ?_
      show Go _ _ _ _ _ _ _ (s₁.setTop (mkF m 30 #[.val (.long q0), .second] []))
      refine gob (fun _ k => XS.iconst X0.here hx rfl (hb hby d1_30) k) ?_
      show Go _ _ _ _ _ _ _ (s₁.setTop (mkF m 31 #[.val (.long q0), .second] [(.int (1 : Int32))]))
      refine gob (fun _ k => XS.goto X0.here hx rfl (pc0 := 31) (pc' := 35) rfl (hb hby d1_31) (by decide) (by decide) k) ?_
      show Go _ _ _ _ _ _ _ (s₁.setTop (mkF m 35 #[.val (.long q0), .second] [(.int (1 : Int32))]))
      refine goZ X0 hx hlk (t := .boolean) Bd.returns (by simp) (hb hby d1_35) (z' := (1 : Int32)) rfl ?_ (by decide) (by decide)
      show Q1 Z q0 h0 n0 (some (.int (1 : Int32))) s₁.heap _
      exact ⟨(1 : Int32), rfl, (Or.inr (Or.inr (Or.inl ⟨hc7_1, hc17_2, rfl⟩))), N0, e0⟩
  · skip
    refine gob (fun _ k => XS.ifYes X0.here hx rfl (pc0 := 7) (pc' := 34) rfl (hb hby d1_7) rfl ((if0 _ _).trans (feq (mt (lw_eq _ _).mp hc7_1)).2) (by decide) (by decide) k) ?_
    show Go _ _ _ _ _ _ _ (s₁.setTop (mkF m 34 #[.val (.long q0), .second] []))
    refine gob (fun _ k => XS.iconst X0.here hx rfl (hb hby d1_34) k) ?_
    show Go _ _ _ _ _ _ _ (s₁.setTop (mkF m 35 #[.val (.long q0), .second] [(.int (0 : Int32))]))
    refine goZ X0 hx hlk (t := .boolean) Bd.returns (by simp) (hb hby d1_35) (z' := (0 : Int32)) rfl ?_ (by decide) (by decide)
    show Q1 Z q0 h0 n0 (some (.int (0 : Int32))) s₁.heap _
    exact ⟨(0 : Int32), rfl, (Or.inr (Or.inr (Or.inr ⟨hc7_1, rfl⟩))), N0, e0⟩
theorem d7_0 : decode jdk_29_method_49_code 0 = .ok (.lload_n 0, 1) := by decide +kernel
theorem d7_1 : decode jdk_29_method_49_code 1 = .ok (.lload_n 2, 1) := by decide +kernel
theorem d7_2 : decode jdk_29_method_49_code 2 = .ok (.ldiv, 1) := by decide +kernel
theorem d7_3 : decode jdk_29_method_49_code 3 = .ok (.lstore 4, 2) := by decide +kernel
theorem d7_5 : decode jdk_29_method_49_code 5 = .ok (.lload_n 0, 1) := by decide +kernel
theorem d7_6 : decode jdk_29_method_49_code 6 = .ok (.lload_n 2, 1) := by decide +kernel
theorem d7_7 : decode jdk_29_method_49_code 7 = .ok (.lxor, 1) := by decide +kernel
theorem d7_8 : decode jdk_29_method_49_code 8 = .ok (.lconst 0, 1) := by decide +kernel
theorem d7_9 : decode jdk_29_method_49_code 9 = .ok (.lcmp, 1) := by decide +kernel
theorem d7_10 : decode jdk_29_method_49_code 10 = .ok (.ifCond .ge 17, 3) := by decide +kernel
theorem d7_13 : decode jdk_29_method_49_code 13 = .ok (.lload 4, 2) := by decide +kernel
theorem d7_15 : decode jdk_29_method_49_code 15 = .ok (.lload_n 2, 1) := by decide +kernel
theorem d7_16 : decode jdk_29_method_49_code 16 = .ok (.lmul, 1) := by decide +kernel
theorem d7_17 : decode jdk_29_method_49_code 17 = .ok (.lload_n 0, 1) := by decide +kernel
theorem d7_18 : decode jdk_29_method_49_code 18 = .ok (.lcmp, 1) := by decide +kernel
theorem d7_19 : decode jdk_29_method_49_code 19 = .ok (.ifCond .eq 8, 3) := by decide +kernel
theorem d7_22 : decode jdk_29_method_49_code 22 = .ok (.lload 4, 2) := by decide +kernel
theorem d7_24 : decode jdk_29_method_49_code 24 = .ok (.lconst 1, 1) := by decide +kernel
theorem d7_25 : decode jdk_29_method_49_code 25 = .ok (.lsub, 1) := by decide +kernel
theorem d7_26 : decode jdk_29_method_49_code 26 = .ok (.lreturn, 1) := by decide +kernel
theorem d7_27 : decode jdk_29_method_49_code 27 = .ok (.lload 4, 2) := by decide +kernel
theorem d7_29 : decode jdk_29_method_49_code 29 = .ok (.lreturn, 1) := by decide +kernel
theorem ef_7 (m : MethodId) (x0 : Int64) : entryFrame m #[(.long x0), (.long (400 : Int64))] 6 = mkF m 0 #[.val (.long x0), .second, .val (.long (400 : Int64)), .second, .unset, .unset] [] := by first | (simp [entryFrame, mkF, argsToLocals, Value.category]; done) | rfl
def Q7 (Z : State) (q0 : Int64) (h0 : Heap) (n0 : Nat) (v : Option Value) (h : Heap) (L : List Loc) : Prop := ∃ r : Int64, v = some (.long r) ∧ (r.toInt = q0.toInt / 400) ∧ Fr n0 L ∧ h = h0
theorem lf_7_0 (q0 : Int64) (x1 : Int64) (hx1 : (q0 / (400 : Int64)) = x1) (hc10_2 : (q0 ^^^ (400 : Int64)) < (0 : Int64)) (hc19_3 : (x1 * (400 : Int64)) = q0) : x1.toInt = q0.toInt / 400 := by
  have := own_dm_400 q0 x1 hx1
  have := rng64 q0
  have := rng64 x1
  have : (0 : Int64).toInt = 0 := by decide
  have : (400 : Int64).toInt = 400 := by decide
  have := c_ldiv q0 (400 : Int64) (400) (by decide) (by decide)
  have := rng64 (q0 / (400 : Int64))
  have := own_lxor q0 (400 : Int64) (by decide)
  have := own_lmulR x1 (400 : Int64) (400) (by decide)
  have := rng64 (x1 * (400 : Int64))
  try (simp only [Int32.lt_iff_toInt_lt, Int32.le_iff_toInt_le, Int64.lt_iff_toInt_lt, Int64.le_iff_toInt_le, ← Int32.toInt_inj, ← Int64.toInt_inj, ne_eq] at *)
  omega
theorem lf_7_1 (q0 : Int64) (x1 : Int64) (hx1 : (q0 / (400 : Int64)) = x1) (hc10_2 : (q0 ^^^ (400 : Int64)) < (0 : Int64)) (hc19_3 : ¬ ((x1 * (400 : Int64)) = q0)) : (x1 - (1 : Int64)).toInt = q0.toInt / 400 := by
  have := own_dm_400 q0 x1 hx1
  have := rng64 q0
  have := rng64 x1
  have : (0 : Int64).toInt = 0 := by decide
  have : (1 : Int64).toInt = 1 := by decide
  have : (400 : Int64).toInt = 400 := by decide
  have := c_ldiv q0 (400 : Int64) (400) (by decide) (by decide)
  have := rng64 (q0 / (400 : Int64))
  have := own_lxor q0 (400 : Int64) (by decide)
  have := own_lmulR x1 (400 : Int64) (400) (by decide)
  have := rng64 (x1 * (400 : Int64))
  have := c_lsub x1 (1 : Int64)
  have := rng64 (x1 - (1 : Int64))
  try (simp only [Int32.lt_iff_toInt_lt, Int32.le_iff_toInt_le, Int64.lt_iff_toInt_lt, Int64.le_iff_toInt_le, ← Int32.toInt_inj, ← Int64.toInt_inj, ne_eq] at *)
  omega
theorem lf_7_2 (q0 : Int64) (x1 : Int64) (hx1 : (q0 / (400 : Int64)) = x1) (hc10_2 : ¬ ((q0 ^^^ (400 : Int64)) < (0 : Int64))) : x1.toInt = q0.toInt / 400 := by
  have := own_dm_400 q0 x1 hx1
  have := rng64 q0
  have := rng64 x1
  have : (0 : Int64).toInt = 0 := by decide
  have : (400 : Int64).toInt = 400 := by decide
  have := c_ldiv q0 (400 : Int64) (400) (by decide) (by decide)
  have := rng64 (q0 / (400 : Int64))
  have := own_lxor q0 (400 : Int64) (by decide)
  try (simp only [Int32.lt_iff_toInt_lt, Int32.le_iff_toInt_le, Int64.lt_iff_toInt_lt, Int64.le_iff_toInt_le, ← Int32.toInt_inj, ← Int64.toInt_inj, ne_eq] at *)
  omega
set_option maxRecDepth 65536 in
set_option maxHeartbeats 40000000 in
theorem rm7 (l : Launch) (Z : State) (a0 : Array Value) (hw : ∀ d ∈ tables_1, d.before a0 Z = true) (ws : List Jvm.Cond) (q0 : Int64) (h0 : Heap) (n0 : Nat) (Z0 : n0 ≤ h0.size) :
    MetFree l (⟨"java/lang/Math", "floorDiv", "(JJ)J"⟩ : MethodName) (head1 (Jvm.Cond.code (⟨"java/lang/Math", "floorDiv", "(JJ)J"⟩ : MethodName) jdk_29_method_49_code 6 (some .long) :: ws) ({ frames := 0, cells := 0, slots := 0, locals := 0 } : Room)) (fun a U => a = #[(.long q0), (.long (400 : Int64))] ∧ Z.Warmed39 U.vm ∧ U.heap = h0) (fun _ _ _ _ _ => True) (fun _ U o U' => ∃ v L, o = .returned v ∧ Q7 Z q0 h0 n0 v U'.heap L ∧ FrameEnd U o U' L ({ frames := 0, cells := 0, slots := 0, locals := 0 } : Room).cells ({ frames := 0, cells := 0, slots := 0, locals := 0 } : Room).slots) := by
  refine MetFree.of_bodySF (Jvm.Free.JP.mathPlain rfl (by decide +kernel)) hisR ?_
  intro p e s m args below meth c s₁ Bd hml0 hP hK
  obtain ⟨rfl, hZ, hh⟩ := hP
  have hx := Bd.exec
  have hby := Bd.bytes
  have hml : c.maxLocals = 6 := hml0
  have hown : s.vm.findClass "java/lang/Math" = some m.cls := findClass_of_methodNamed Bd.named
  have hnm := (name_of_methodNamed Bd.named Bd.method).1
  have hlk := BodyLoose.notSynchronized Bd
  have X0 : Stand p l e ({ frames := 0, cells := 0, slots := 0, locals := 0 } : Room) s m #[(.long q0), (.long (400 : Int64))] below meth c s₁ [] 0 0 := Stand.of_body Bd
  have e0 : s₁.heap = h0 := by rw [← hh, Bd.state]; rfl
  have N0 := Fr.nil n0
  show Go p e below s (Q7 Z q0 h0 n0) 0 0 (s₁.setTop (entryFrame m #[(.long q0), (.long (400 : Int64))] 6))
  rw [ef_7]
  show Go _ _ _ _ _ _ _ (s₁.setTop (mkF m 0 #[.val (.long q0), .second, .val (.long (400 : Int64)), .second, .unset, .unset] []))
  refine gob (fun _ k => XS.lloadN X0.here hx rfl (hb hby d7_0) rfl k) ?_
  show Go _ _ _ _ _ _ _ (s₁.setTop (mkF m 1 #[.val (.long q0), .second, .val (.long (400 : Int64)), .second, .unset, .unset] [(.long q0)]))
  refine gob (fun _ k => XS.lloadN X0.here hx rfl (hb hby d7_1) rfl k) ?_
  show Go _ _ _ _ _ _ _ (s₁.setTop (mkF m 2 #[.val (.long q0), .second, .val (.long (400 : Int64)), .second, .unset, .unset] [(.long (400 : Int64)), (.long q0)]))
  refine gob (fun _ k => XS.ldiv X0.here hx rfl (hb hby d7_2) rfl (by decide) k) ?_
  show Go _ _ _ _ _ _ _ (s₁.setTop (mkF m 3 #[.val (.long q0), .second, .val (.long (400 : Int64)), .second, .unset, .unset] [(.long (q0 / (400 : Int64)))]))
  refine gob (fun _ k => XS.lstore X0.here hx rfl (hb hby d7_3) rfl (l' := #[.val (.long q0), .second, .val (.long (400 : Int64)), .second, .val (.long (q0 / (400 : Int64))), .second]) rfl k) ?_
  show Go _ _ _ _ _ _ _ (s₁.setTop (mkF m 5 #[.val (.long q0), .second, .val (.long (400 : Int64)), .second, .val (.long (q0 / (400 : Int64))), .second] []))
  generalize hx1 : (q0 / (400 : Int64)) = x1
  show Go _ _ _ _ _ _ _ (s₁.setTop (mkF m 5 #[.val (.long q0), .second, .val (.long (400 : Int64)), .second, .val (.long x1), .second] []))
  refine gob (fun _ k => XS.lloadN X0.here hx rfl (hb hby d7_5) rfl k) ?_
  show Go _ _ _ _ _ _ _ (s₁.setTop (mkF m 6 #[.val (.long q0), .second, .val (.long (400 : Int64)), .second, .val (.long x1), .second] [(.long q0)]))
  refine gob (fun _ k => XS.lloadN X0.here hx rfl (hb hby d7_6) rfl k) ?_
  show Go _ _ _ _ _ _ _ (s₁.setTop (mkF m 7 #[.val (.long q0), .second, .val (.long (400 : Int64)), .second, .val (.long x1), .second] [(.long (400 : Int64)), (.long q0)]))
  refine gob (fun _ k => XS.lxor X0.here hx rfl (hb hby d7_7) rfl k) ?_
  show Go _ _ _ _ _ _ _ (s₁.setTop (mkF m 8 #[.val (.long q0), .second, .val (.long (400 : Int64)), .second, .val (.long x1), .second] [(.long (q0 ^^^ (400 : Int64)))]))
  refine gob (fun _ k => XS.lconst X0.here hx rfl (hb hby d7_8) k) ?_
  show Go _ _ _ _ _ _ _ (s₁.setTop (mkF m 9 #[.val (.long q0), .second, .val (.long (400 : Int64)), .second, .val (.long x1), .second] [(.long (0 : Int64)), (.long (q0 ^^^ (400 : Int64)))]))
  refine gob (fun _ k => XS.lcmp X0.here hx rfl (hb hby d7_9) rfl k) ?_
  show Go _ _ _ _ _ _ _ (s₁.setTop (mkF m 10 #[.val (.long q0), .second, .val (.long (400 : Int64)), .second, .val (.long x1), .second] [(.int (lcmpW (q0 ^^^ (400 : Int64)) (0 : Int64)))]))
  by_cases hc10_2 : (q0 ^^^ (400 : Int64)) < (0 : Int64)
  · skip
    refine gob (fun _ k => XS.ifNo X0.here hx rfl (hb hby d7_10) rfl ((if0 _ _).trans (tlt ((lw_lt _ _).mpr hc10_2)).2.1) k) ?_
    show Go _ _ _ _ _ _ _ (s₁.setTop (mkF m 13 #[.val (.long q0), .second, .val (.long (400 : Int64)), .second, .val (.long x1), .second] []))
    refine gob (fun _ k => XS.lload X0.here hx rfl (hb hby d7_13) rfl k) ?_
    show Go _ _ _ _ _ _ _ (s₁.setTop (mkF m 15 #[.val (.long q0), .second, .val (.long (400 : Int64)), .second, .val (.long x1), .second] [(.long x1)]))
    refine gob (fun _ k => XS.lloadN X0.here hx rfl (hb hby d7_15) rfl k) ?_
    show Go _ _ _ _ _ _ _ (s₁.setTop (mkF m 16 #[.val (.long q0), .second, .val (.long (400 : Int64)), .second, .val (.long x1), .second] [(.long (400 : Int64)), (.long x1)]))
    refine gob (fun _ k => XS.lmul X0.here hx rfl (hb hby d7_16) rfl k) ?_
    show Go _ _ _ _ _ _ _ (s₁.setTop (mkF m 17 #[.val (.long q0), .second, .val (.long (400 : Int64)), .second, .val (.long x1), .second] [(.long (x1 * (400 : Int64)))]))
    refine gob (fun _ k => XS.lloadN X0.here hx rfl (hb hby d7_17) rfl k) ?_
    show Go _ _ _ _ _ _ _ (s₁.setTop (mkF m 18 #[.val (.long q0), .second, .val (.long (400 : Int64)), .second, .val (.long x1), .second] [(.long q0), (.long (x1 * (400 : Int64)))]))
    refine gob (fun _ k => XS.lcmp X0.here hx rfl (hb hby d7_18) rfl k) ?_
    show Go _ _ _ _ _ _ _ (s₁.setTop (mkF m 19 #[.val (.long q0), .second, .val (.long (400 : Int64)), .second, .val (.long x1), .second] [(.int (lcmpW (x1 * (400 : Int64)) q0))]))
    by_cases hc19_3 : (x1 * (400 : Int64)) = q0
    · skip
      refine gob (fun _ k => XS.ifYes X0.here hx rfl (pc0 := 19) (pc' := 27) rfl (hb hby d7_19) rfl ((if0 _ _).trans (teq ((lw_eq _ _).mpr hc19_3)).1) (by decide) (by decide) k) ?_
      show Go _ _ _ _ _ _ _ (s₁.setTop (mkF m 27 #[.val (.long q0), .second, .val (.long (400 : Int64)), .second, .val (.long x1), .second] []))
      refine gob (fun _ k => XS.lload X0.here hx rfl (hb hby d7_27) rfl k) ?_
      show Go _ _ _ _ _ _ _ (s₁.setTop (mkF m 29 #[.val (.long q0), .second, .val (.long (400 : Int64)), .second, .val (.long x1), .second] [(.long x1)]))
      refine goJ X0 hx hlk Bd.returns (hb hby d7_29) ?_ (by decide) (by decide)
      show Q7 Z q0 h0 n0 (some (.long x1)) s₁.heap _
      exact ⟨x1, rfl, lf_7_0 q0 x1 hx1 hc10_2 hc19_3, N0, e0⟩
    · skip
      refine gob (fun _ k => XS.ifNo X0.here hx rfl (hb hby d7_19) rfl ((if0 _ _).trans (feq (mt (lw_eq _ _).mp hc19_3)).1) k) ?_
      show Go _ _ _ _ _ _ _ (s₁.setTop (mkF m 22 #[.val (.long q0), .second, .val (.long (400 : Int64)), .second, .val (.long x1), .second] []))
      refine gob (fun _ k => XS.lload X0.here hx rfl (hb hby d7_22) rfl k) ?_
      show Go _ _ _ _ _ _ _ (s₁.setTop (mkF m 24 #[.val (.long q0), .second, .val (.long (400 : Int64)), .second, .val (.long x1), .second] [(.long x1)]))
      refine gob (fun _ k => XS.lconst X0.here hx rfl (hb hby d7_24) k) ?_
      show Go _ _ _ _ _ _ _ (s₁.setTop (mkF m 25 #[.val (.long q0), .second, .val (.long (400 : Int64)), .second, .val (.long x1), .second] [(.long (1 : Int64)), (.long x1)]))
      refine gob (fun _ k => XS.lsub X0.here hx rfl (hb hby d7_25) rfl k) ?_
      show Go _ _ _ _ _ _ _ (s₁.setTop (mkF m 26 #[.val (.long q0), .second, .val (.long (400 : Int64)), .second, .val (.long x1), .second] [(.long (x1 - (1 : Int64)))]))
      refine goJ X0 hx hlk Bd.returns (hb hby d7_26) ?_ (by decide) (by decide)
      show Q7 Z q0 h0 n0 (some (.long (x1 - (1 : Int64)))) s₁.heap _
      exact ⟨(x1 - (1 : Int64)), rfl, lf_7_1 q0 x1 hx1 hc10_2 hc19_3, N0, e0⟩
  · skip
    refine gob (fun _ k => XS.ifYes X0.here hx rfl (pc0 := 10) (pc' := 27) rfl (hb hby d7_10) rfl ((if0 _ _).trans (flt (mt (lw_lt _ _).mp hc10_2)).2.1) (by decide) (by decide) k) ?_
    show Go _ _ _ _ _ _ _ (s₁.setTop (mkF m 27 #[.val (.long q0), .second, .val (.long (400 : Int64)), .second, .val (.long x1), .second] []))
    refine gob (fun _ k => XS.lload X0.here hx rfl (hb hby d7_27) rfl k) ?_
    show Go _ _ _ _ _ _ _ (s₁.setTop (mkF m 29 #[.val (.long q0), .second, .val (.long (400 : Int64)), .second, .val (.long x1), .second] [(.long x1)]))
    refine goJ X0 hx hlk Bd.returns (hb hby d7_29) ?_ (by decide) (by decide)
    show Q7 Z q0 h0 n0 (some (.long x1)) s₁.heap _
    exact ⟨x1, rfl, lf_7_2 q0 x1 hx1 hc10_2, N0, e0⟩
theorem d6_0 : decode jdk_29_method_48_code 0 = .ok (.lload_n 0, 1) := by decide +kernel
theorem d6_1 : decode jdk_29_method_48_code 1 = .ok (.iload_n 2, 1) := by decide +kernel
theorem d6_2 : decode jdk_29_method_48_code 2 = .ok (.i2l, 1) := by decide +kernel
theorem d6_3 : decode jdk_29_method_48_code 3 = .ok (.invokestatic 143, 3) := by decide +kernel
theorem d6_6 : decode jdk_29_method_48_code 6 = .ok (.lreturn, 1) := by decide +kernel
theorem pd_1 : parseMethodDescriptor "(JJ)J" = some ⟨[.long, .long], some .long⟩ := by decide +kernel
theorem ef_6 (m : MethodId) (x0 : Int64) : entryFrame m #[(.long x0), (.int (400 : Int32))] 3 = mkF m 0 #[.val (.long x0), .second, .val (.int (400 : Int32))] [] := by first | (simp [entryFrame, mkF, argsToLocals, Value.category]; done) | rfl
def Q6 (Z : State) (q0 : Int64) (h0 : Heap) (n0 : Nat) (v : Option Value) (h : Heap) (L : List Loc) : Prop := ∃ r : Int64, v = some (.long r) ∧ (r.toInt = q0.toInt / 400) ∧ Fr n0 L ∧ h = h0
theorem lf_6_0 (q0 : Int64) (r1 : Int64) (hr1 : r1.toInt = q0.toInt / 400) : r1.toInt = q0.toInt / 400 := by
  exact hr1
set_option maxRecDepth 65536 in
set_option maxHeartbeats 40000000 in
theorem rm6 (l : Launch) (Z : State) (a0 : Array Value) (hw : ∀ d ∈ tables_1, d.before a0 Z = true) (ws : List Jvm.Cond) (q0 : Int64) (h0 : Heap) (n0 : Nat) (Z0 : n0 ≤ h0.size) :
    MetFree l (⟨"java/lang/Math", "floorDiv", "(JI)J"⟩ : MethodName) (head1 (Jvm.Cond.code (⟨"java/lang/Math", "floorDiv", "(JI)J"⟩ : MethodName) jdk_29_method_48_code 3 (some .long) :: ws) ({ frames := 1, cells := 0, slots := 0, locals := 17 } : Room)) (fun a U => a = #[(.long q0), (.int (400 : Int32))] ∧ Z.Warmed39 U.vm ∧ U.heap = h0) (fun _ _ _ _ _ => True) (fun _ U o U' => ∃ v L, o = .returned v ∧ Q6 Z q0 h0 n0 v U'.heap L ∧ FrameEnd U o U' L ({ frames := 1, cells := 0, slots := 0, locals := 17 } : Room).cells ({ frames := 1, cells := 0, slots := 0, locals := 17 } : Room).slots) := by
  refine MetFree.of_bodySF (Jvm.Free.JP.mathPlain rfl (by decide +kernel)) hisR ?_
  intro p e s m args below meth c s₁ Bd hml0 hP hK
  obtain ⟨rfl, hZ, hh⟩ := hP
  have hx := Bd.exec
  have hby := Bd.bytes
  have hml : c.maxLocals = 3 := hml0
  have hown : s.vm.findClass "java/lang/Math" = some m.cls := findClass_of_methodNamed Bd.named
  have hnm := (name_of_methodNamed Bd.named Bd.method).1
  have hlk := BodyLoose.notSynchronized Bd
  have X0 : Stand p l e ({ frames := 1, cells := 0, slots := 0, locals := 17 } : Room) s m #[(.long q0), (.int (400 : Int32))] below meth c s₁ [] 0 0 := Stand.of_body Bd
  have e0 : s₁.heap = h0 := by rw [← hh, Bd.state]; rfl
  have N0 := Fr.nil n0
  show Go p e below s (Q6 Z q0 h0 n0) 0 0 (s₁.setTop (entryFrame m #[(.long q0), (.int (400 : Int32))] 3))
  rw [ef_6]
  show Go _ _ _ _ _ _ _ (s₁.setTop (mkF m 0 #[.val (.long q0), .second, .val (.int (400 : Int32))] []))
  refine gob (fun _ k => XS.lloadN X0.here hx rfl (hb hby d6_0) rfl k) ?_
  show Go _ _ _ _ _ _ _ (s₁.setTop (mkF m 1 #[.val (.long q0), .second, .val (.int (400 : Int32))] [(.long q0)]))
  refine gob (fun _ k => XS.iloadN X0.here hx rfl (hb hby d6_1) rfl k) ?_
  show Go _ _ _ _ _ _ _ (s₁.setTop (mkF m 2 #[.val (.long q0), .second, .val (.int (400 : Int32))] [(.int (400 : Int32)), (.long q0)]))
  refine gob (fun _ k => XS.i2l X0.here hx rfl (hb hby d6_2) rfl k) ?_
  show Go _ _ _ _ _ _ _ (s₁.setTop (mkF m 3 #[.val (.long q0), .second, .val (.int (400 : Int32))] [(.long (400 : Int64)), (.long q0)]))
  obtain ⟨_, _, ⟨T1, L1, k1, n1⟩, -, X1, ⟨Lc1, hQ1, l1, y1, z1⟩, st1⟩ := Jvm.LawKit.callS X0 hx (y := (⟨"java/lang/Math", "floorDiv", "(JJ)J"⟩ : MethodName)) hown (mvT hZ (hw _ (List.mem_of_getElem? (i := 34) rfl))) (mvT hZ (hw _ (List.mem_of_getElem? (i := 35) rfl))) (mvT hZ (hw _ (List.mem_of_getElem? (i := 32) rfl))) (mvT hZ (hw _ (List.mem_of_getElem? (i := 36) rfl))) (by decide) (backOf (W := 0) (rm7 l Z a0 hw [] q0 h0 n0 Z0 ) hZ (hw _ (List.mem_of_getElem? (i := 36) rfl)) (hw _ (List.mem_of_getElem? (i := 32) rfl)) (by decide) (by decide)) (g := (mkF m 3 #[.val (.long q0), .second, .val (.int (400 : Int32))] [(.long (400 : Int64)), (.long q0)])) rfl (by rw [hml]; rfl) (argsL := [(.long q0), (.long (400 : Int64))]) (rest := []) (lenOf pd_1 rfl) rfl (by show 2 * 0 + _ ≤ _; exact Nat.le_of_eq rfl) (hb hby d6_3) (fun _ _ => ⟨rfl, e0, (by decide : 0 + 0 ≤ _), (by decide : 0 + 0 ≤ _)⟩)
  dsimp only [Pt.U, Pt.locs, Pt.cells, Pt.slots] at X1 l1 y1 z1 st1 hQ1
  subst l1 y1 z1
  obtain ⟨r1, rfl, hr1, Nq1, e1⟩ := hQ1
  have N1 := Fr.app N0 Nq1
  refine gob st1 ?_
  show Go _ _ _ _ _ _ _ (T1.setTop (mkF m 6 #[.val (.long q0), .second, .val (.int (400 : Int32))] [(.long r1)]))
  refine goJ X1 hx hlk Bd.returns (hb hby d6_6) ?_ (by decide) (by decide)
  show Q6 Z q0 h0 n0 (some (.long r1)) T1.heap _
  exact ⟨r1, rfl, lf_6_0 q0 r1 hr1, N1, e1⟩
theorem d5_0 : decode prog_4_method_3_code 0 = .ok (.aload_n 0, 1) := by decide +kernel
theorem d5_1 : decode prog_4_method_3_code 1 = .ok (.getfield 13, 3) := by decide +kernel
theorem d5_4 : decode prog_4_method_3_code 4 = .ok (.iconst 2, 1) := by decide +kernel
theorem d5_5 : decode prog_4_method_3_code 5 = .ok (.if_icmp .gt 12, 3) := by decide +kernel
theorem d5_8 : decode prog_4_method_3_code 8 = .ok (.aload_n 0, 1) := by decide +kernel
theorem d5_9 : decode prog_4_method_3_code 9 = .ok (.getfield 7, 3) := by decide +kernel
theorem d5_12 : decode prog_4_method_3_code 12 = .ok (.lconst 1, 1) := by decide +kernel
theorem d5_13 : decode prog_4_method_3_code 13 = .ok (.lsub, 1) := by decide +kernel
theorem d5_14 : decode prog_4_method_3_code 14 = .ok (.goto 7, 3) := by decide +kernel
theorem d5_17 : decode prog_4_method_3_code 17 = .ok (.aload_n 0, 1) := by decide +kernel
theorem d5_18 : decode prog_4_method_3_code 18 = .ok (.getfield 7, 3) := by decide +kernel
theorem d5_21 : decode prog_4_method_3_code 21 = .ok (.lstore_n 1, 1) := by decide +kernel
theorem d5_22 : decode prog_4_method_3_code 22 = .ok (.lload_n 1, 1) := by decide +kernel
theorem d5_23 : decode prog_4_method_3_code 23 = .ok (.sipush 400, 3) := by decide +kernel
theorem d5_26 : decode prog_4_method_3_code 26 = .ok (.invokestatic 37, 3) := by decide +kernel
theorem d5_29 : decode prog_4_method_3_code 29 = .ok (.lstore_n 3, 1) := by decide +kernel
theorem d5_30 : decode prog_4_method_3_code 30 = .ok (.lload_n 1, 1) := by decide +kernel
theorem d5_31 : decode prog_4_method_3_code 31 = .ok (.lload_n 3, 1) := by decide +kernel
theorem d5_32 : decode prog_4_method_3_code 32 = .ok (.ldc2_w 32, 3) := by decide +kernel
theorem d5_35 : decode prog_4_method_3_code 35 = .ok (.lmul, 1) := by decide +kernel
theorem d5_36 : decode prog_4_method_3_code 36 = .ok (.lsub, 1) := by decide +kernel
theorem d5_37 : decode prog_4_method_3_code 37 = .ok (.l2i, 1) := by decide +kernel
theorem d5_38 : decode prog_4_method_3_code 38 = .ok (.istore 5, 2) := by decide +kernel
theorem d5_40 : decode prog_4_method_3_code 40 = .ok (.aload_n 0, 1) := by decide +kernel
theorem d5_41 : decode prog_4_method_3_code 41 = .ok (.getfield 13, 3) := by decide +kernel
theorem d5_44 : decode prog_4_method_3_code 44 = .ok (.iconst 2, 1) := by decide +kernel
theorem d5_45 : decode prog_4_method_3_code 45 = .ok (.if_icmp .gt 13, 3) := by decide +kernel
theorem d5_48 : decode prog_4_method_3_code 48 = .ok (.aload_n 0, 1) := by decide +kernel
theorem d5_49 : decode prog_4_method_3_code 49 = .ok (.getfield 13, 3) := by decide +kernel
theorem d5_52 : decode prog_4_method_3_code 52 = .ok (.bipush 9, 2) := by decide +kernel
theorem d5_54 : decode prog_4_method_3_code 54 = .ok (.iadd, 1) := by decide +kernel
theorem d5_55 : decode prog_4_method_3_code 55 = .ok (.goto 9, 3) := by decide +kernel
theorem d5_58 : decode prog_4_method_3_code 58 = .ok (.aload_n 0, 1) := by decide +kernel
theorem d5_59 : decode prog_4_method_3_code 59 = .ok (.getfield 13, 3) := by decide +kernel
theorem d5_62 : decode prog_4_method_3_code 62 = .ok (.iconst 3, 1) := by decide +kernel
theorem d5_63 : decode prog_4_method_3_code 63 = .ok (.isub, 1) := by decide +kernel
theorem d5_64 : decode prog_4_method_3_code 64 = .ok (.istore 6, 2) := by decide +kernel
theorem d5_66 : decode prog_4_method_3_code 66 = .ok (.sipush 153, 3) := by decide +kernel
theorem d5_69 : decode prog_4_method_3_code 69 = .ok (.iload 6, 2) := by decide +kernel
theorem d5_71 : decode prog_4_method_3_code 71 = .ok (.imul, 1) := by decide +kernel
theorem d5_72 : decode prog_4_method_3_code 72 = .ok (.iconst 2, 1) := by decide +kernel
theorem d5_73 : decode prog_4_method_3_code 73 = .ok (.iadd, 1) := by decide +kernel
theorem d5_74 : decode prog_4_method_3_code 74 = .ok (.iconst 5, 1) := by decide +kernel
theorem d5_75 : decode prog_4_method_3_code 75 = .ok (.idiv, 1) := by decide +kernel
theorem d5_76 : decode prog_4_method_3_code 76 = .ok (.aload_n 0, 1) := by decide +kernel
theorem d5_77 : decode prog_4_method_3_code 77 = .ok (.getfield 17, 3) := by decide +kernel
theorem d5_80 : decode prog_4_method_3_code 80 = .ok (.iadd, 1) := by decide +kernel
theorem d5_81 : decode prog_4_method_3_code 81 = .ok (.iconst 1, 1) := by decide +kernel
theorem d5_82 : decode prog_4_method_3_code 82 = .ok (.isub, 1) := by decide +kernel
theorem d5_83 : decode prog_4_method_3_code 83 = .ok (.istore 7, 2) := by decide +kernel
theorem d5_85 : decode prog_4_method_3_code 85 = .ok (.sipush 365, 3) := by decide +kernel
theorem d5_88 : decode prog_4_method_3_code 88 = .ok (.iload 5, 2) := by decide +kernel
theorem d5_90 : decode prog_4_method_3_code 90 = .ok (.imul, 1) := by decide +kernel
theorem d5_91 : decode prog_4_method_3_code 91 = .ok (.iload 5, 2) := by decide +kernel
theorem d5_93 : decode prog_4_method_3_code 93 = .ok (.iconst 4, 1) := by decide +kernel
theorem d5_94 : decode prog_4_method_3_code 94 = .ok (.idiv, 1) := by decide +kernel
theorem d5_95 : decode prog_4_method_3_code 95 = .ok (.iadd, 1) := by decide +kernel
theorem d5_96 : decode prog_4_method_3_code 96 = .ok (.iload 5, 2) := by decide +kernel
theorem d5_98 : decode prog_4_method_3_code 98 = .ok (.bipush 100, 2) := by decide +kernel
theorem d5_100 : decode prog_4_method_3_code 100 = .ok (.idiv, 1) := by decide +kernel
theorem d5_101 : decode prog_4_method_3_code 101 = .ok (.isub, 1) := by decide +kernel
theorem d5_102 : decode prog_4_method_3_code 102 = .ok (.iload 7, 2) := by decide +kernel
theorem d5_104 : decode prog_4_method_3_code 104 = .ok (.iadd, 1) := by decide +kernel
theorem d5_105 : decode prog_4_method_3_code 105 = .ok (.istore 8, 2) := by decide +kernel
theorem d5_107 : decode prog_4_method_3_code 107 = .ok (.lload_n 3, 1) := by decide +kernel
theorem d5_108 : decode prog_4_method_3_code 108 = .ok (.ldc2_w 22, 3) := by decide +kernel
theorem d5_111 : decode prog_4_method_3_code 111 = .ok (.lmul, 1) := by decide +kernel
theorem d5_112 : decode prog_4_method_3_code 112 = .ok (.iload 8, 2) := by decide +kernel
theorem d5_114 : decode prog_4_method_3_code 114 = .ok (.i2l, 1) := by decide +kernel
theorem d5_115 : decode prog_4_method_3_code 115 = .ok (.ladd, 1) := by decide +kernel
theorem d5_116 : decode prog_4_method_3_code 116 = .ok (.ldc2_w 20, 3) := by decide +kernel
theorem d5_119 : decode prog_4_method_3_code 119 = .ok (.lsub, 1) := by decide +kernel
theorem d5_120 : decode prog_4_method_3_code 120 = .ok (.lreturn, 1) := by decide +kernel
theorem pd_2 : parseMethodDescriptor "(JI)J" = some ⟨[.long, .int], some .long⟩ := by decide +kernel
theorem ef_5 (m : MethodId) (x0 : Addr) : entryFrame m #[(.ref x0)] 9 = mkF m 0 #[.val (.ref x0), .unset, .unset, .unset, .unset, .unset, .unset, .unset, .unset] [] := by first | (simp [entryFrame, mkF, argsToLocals, Value.category]; done) | rfl
def Q5 (Z : State) (o0 : Addr) (q_y : Int64) (p_m : Int32) (p_d : Int32) (h0 : Heap) (n0 : Nat) (v : Option Value) (h : Heap) (L : List Loc) : Prop := ∃ r : Int64, v = some (.long r) ∧ (((p_m.toInt ≤ 2 → (r.toInt - (365 * (q_y.toInt - 1) + (q_y.toInt - 1) / 4 - (q_y.toInt - 1) / 100 + (q_y.toInt - 1) / 400 + (153 * (p_m.toInt + 9) + 2) / 5 + p_d.toInt - 719469)) % 18446744073709551616 = 0) ∧ (2 < p_m.toInt → (r.toInt - (365 * (q_y.toInt) + (q_y.toInt) / 4 - (q_y.toInt) / 100 + (q_y.toInt) / 400 + (153 * (p_m.toInt - 3) + 2) / 5 + p_d.toInt - 719469)) % 18446744073709551616 = 0))) ∧ Fr n0 L ∧ h = h0
theorem lf_5_0 (q_y : Int64) (p_m : Int32) (p_d : Int32) (v5 : Int64) (r13 : Int64) (x14 : Int32) (v19 : Int32) (x28 : Int32) (x29 : Int32) (hm1 : 1 ≤ p_m.toInt) (hm2 : p_m.toInt ≤ 12) (hd1 : 1 ≤ p_d.toInt) (hd2 : p_d.toInt ≤ 31) (hy : -9223372036854775808 < q_y.toInt) (hj12 : ((2 : Int32) < p_m ∧ v5 = q_y) ∨ (¬ ((2 : Int32) < p_m) ∧ v5 = (q_y - (1 : Int64)))) (hr13 : r13.toInt = v5.toInt / 400) (hx14 : ((v5 - (r13 * (400 : Int64))).toInt32) = x14) (hj26 : ((2 : Int32) < p_m ∧ v19 = (p_m - (3 : Int32))) ∨ (¬ ((2 : Int32) < p_m) ∧ v19 = (p_m + (9 : Int32)))) (hx28 : ((((((153 : Int32) * v19) + (2 : Int32)) / (5 : Int32)) + p_d) - (1 : Int32)) = x28) (hx29 : (((((365 : Int32) * x14) + (x14 / (4 : Int32))) - (x14 / (100 : Int32))) + x28) = x29) : ((p_m.toInt ≤ 2 → ((((r13 * (146097 : Int64)) + (x29.toInt64)) - (719468 : Int64)).toInt - (365 * (q_y.toInt - 1) + (q_y.toInt - 1) / 4 - (q_y.toInt - 1) / 100 + (q_y.toInt - 1) / 400 + (153 * (p_m.toInt + 9) + 2) / 5 + p_d.toInt - 719469)) % 18446744073709551616 = 0) ∧ (2 < p_m.toInt → ((((r13 * (146097 : Int64)) + (x29.toInt64)) - (719468 : Int64)).toInt - (365 * (q_y.toInt) + (q_y.toInt) / 4 - (q_y.toInt) / 100 + (q_y.toInt) / 400 + (153 * (p_m.toInt - 3) + 2) / 5 + p_d.toInt - 719469)) % 18446744073709551616 = 0)) := by
  have r1 := rng64 q_y
  have r2 : (2 : Int32).toInt = 2 := by decide
  have r3 : (3 : Int32).toInt = 3 := by decide
  have r9 : (9 : Int32).toInt = 9 := by decide
  have l1 : (1 : Int64).toInt = 1 := by decide
  have k1 := c_lsub q_y 1
  have k2 := rng64 (q_y - 1)
  have k3 := c_isub p_m 3
  have k4 := rng32 (p_m - 3)
  have k5 := c_iadd p_m 9
  have k6 := rng32 (p_m + 9)
  simp only [Int32.lt_iff_toInt_lt] at hj12 hj26
  have hv : (2 < p_m.toInt → v5.toInt = q_y.toInt ∧ v19.toInt = p_m.toInt - 3) ∧ (p_m.toInt ≤ 2 → v5.toInt = q_y.toInt - 1 ∧ v19.toInt = p_m.toInt + 9) := by
    constructor
    · intro q
      rcases hj12 with ⟨_, rfl⟩ | ⟨q1, _⟩
      · rcases hj26 with ⟨_, rfl⟩ | ⟨q2, _⟩
        · omega
        · omega
      · omega
    · intro q
      rcases hj12 with ⟨q1, _⟩ | ⟨_, rfl⟩
      · omega
      · rcases hj26 with ⟨q2, _⟩ | ⟨_, rfl⟩
        · omega
        · omega
  have t1 := own_s1 _ _ _ hr13 hx14
  have t2 := own_s2 _ _ _ (by omega) (by omega) hd1 hd2 hx28
  have t3 := own_s3 _ _ _ (by omega) (by omega) (by omega) (by omega) hx29
  have t4 := own_s4 _ _ _ _ _ hr13 t1 t3
  constructor
  · intro q
    obtain ⟨e1, e2⟩ := hv.2 q
    rw [t2, e1, e2] at t4
    omega
  · intro q
    obtain ⟨e1, e2⟩ := hv.1 q
    rw [t2, e1, e2] at t4
    omega
set_option maxRecDepth 65536 in
set_option maxHeartbeats 40000000 in
theorem rm5 (l : Launch) (Z : State) (a0 : Array Value) (hw : ∀ d ∈ tables_1, d.before a0 Z = true) (ws : List Jvm.Cond) (o0 : Addr) (q_y : Int64) (p_m : Int32) (p_d : Int32) (h0 : Heap) (n0 : Nat) (Z0 : n0 ≤ h0.size) (F_year_o0 : Fld Z h0 o0 "com/example/cairnlog/cairnlog/CivilDate" "year" "J" (.long q_y)) (F_month_o0 : Fld Z h0 o0 "com/example/cairnlog/cairnlog/CivilDate" "month" "I" (.int p_m)) (F_day_o0 : Fld Z h0 o0 "com/example/cairnlog/cairnlog/CivilDate" "day" "I" (.int p_d)) (hm1 : 1 ≤ p_m.toInt) (hm2 : p_m.toInt ≤ 12) (hd1 : 1 ≤ p_d.toInt) (hd2 : p_d.toInt ≤ 31) (hy : -9223372036854775808 < q_y.toInt) :
    MetFree l (⟨"com/example/cairnlog/cairnlog/CivilDate", "epochDay", "()J"⟩ : MethodName) (head1 (Jvm.Cond.code (⟨"com/example/cairnlog/cairnlog/CivilDate", "epochDay", "()J"⟩ : MethodName) prog_4_method_3_code 9 (some .long) :: ws) ({ frames := 2, cells := 0, slots := 0, locals := 31 } : Room)) (fun a U => a = #[(.ref o0)] ∧ Z.Warmed39 U.vm ∧ U.heap = h0) (fun _ _ _ _ _ => True) (fun _ U o U' => ∃ v L, o = .returned v ∧ Q5 Z o0 q_y p_m p_d h0 n0 v U'.heap L ∧ FrameEnd U o U' L ({ frames := 2, cells := 0, slots := 0, locals := 31 } : Room).cells ({ frames := 2, cells := 0, slots := 0, locals := 31 } : Room).slots) := by
  refine MetFree.of_bodySF (plainFor_of_name (by first | (simp [plainName, overriddenIn]; done) | decide +kernel)) hisR ?_
  intro p e s m args below meth c s₁ Bd hml0 hP hK
  obtain ⟨rfl, hZ, hh⟩ := hP
  have hx := Bd.exec
  have hby := Bd.bytes
  have hml : c.maxLocals = 9 := hml0
  have hown : s.vm.findClass "com/example/cairnlog/cairnlog/CivilDate" = some m.cls := findClass_of_methodNamed Bd.named
  have hnm := (name_of_methodNamed Bd.named Bd.method).1
  have hlk := BodyLoose.notSynchronized Bd
  have X0 : Stand p l e ({ frames := 2, cells := 0, slots := 0, locals := 31 } : Room) s m #[(.ref o0)] below meth c s₁ [] 0 0 := Stand.of_body Bd
  have e0 : s₁.heap = h0 := by rw [← hh, Bd.state]; rfl
  have N0 := Fr.nil n0
  show Go p e below s (Q5 Z o0 q_y p_m p_d h0 n0) 0 0 (s₁.setTop (entryFrame m #[(.ref o0)] 9))
  rw [ef_5]
  show Go _ _ _ _ _ _ _ (s₁.setTop (mkF m 0 #[.val (.ref o0), .unset, .unset, .unset, .unset, .unset, .unset, .unset, .unset] []))
  refine gob (fun _ k => XS.aloadN X0.here hx rfl (hb hby d5_0) rfl rfl k) ?_
  show Go _ _ _ _ _ _ _ (s₁.setTop (mkF m 1 #[.val (.ref o0), .unset, .unset, .unset, .unset, .unset, .unset, .unset, .unset] [(.ref o0)]))
  obtain ⟨T1, X1, e1, st1⟩ := getF X0 hx hZ hown (host := "") (Or.inl (hw _ (List.mem_of_getElem? (i := 21) rfl))) Via.refl e0 F_month_o0 (g := (mkF m 1 #[.val (.ref o0), .unset, .unset, .unset, .unset, .unset, .unset, .unset, .unset] [(.ref o0)])) rfl rfl (hb hby d5_1)
  refine gob st1 ?_
  show Go _ _ _ _ _ _ _ (T1.setTop (mkF m 4 #[.val (.ref o0), .unset, .unset, .unset, .unset, .unset, .unset, .unset, .unset] [(.int p_m)]))
  refine gob (fun _ k => XS.iconst X1.here hx rfl (hb hby d5_4) k) ?_
  show Go _ _ _ _ _ _ _ (T1.setTop (mkF m 5 #[.val (.ref o0), .unset, .unset, .unset, .unset, .unset, .unset, .unset, .unset] [(.int (2 : Int32)), (.int p_m)]))
  have join21_6 : ∀ (T7 : State) (lj8 : List Loc) (v5 : Int64), Stand p l e ({ frames := 2, cells := 0, slots := 0, locals := 31 } : Room) s m #[(.ref o0)] below meth c T7 lj8 0 0 → T7.heap = h0 → Fr n0 lj8 → ((2 : Int32) < p_m ∧ v5 = q_y) ∨ (¬ ((2 : Int32) < p_m) ∧ v5 = (q_y - (1 : Int64))) → Go p e below s (Q5 Z o0 q_y p_m p_d h0 n0) 0 0 (T7.setTop (mkF m 21 #[.val (.ref o0), .unset, .unset, .unset, .unset, .unset, .unset, .unset, .unset] [(.long v5)])) := by
    intro T7 lj8 v5 X9 e10 N11 hj12
    show Go _ _ _ _ _ _ _ (T7.setTop (mkF m 21 #[.val (.ref o0), .unset, .unset, .unset, .unset, .unset, .unset, .unset, .unset] [(.long v5)]))
    refine gob (fun _ k => XS.lstoreN X9.here hx rfl (hb hby d5_21) rfl (l' := #[.val (.ref o0), .val (.long v5), .second, .unset, .unset, .unset, .unset, .unset, .unset]) rfl k) ?_
    show Go _ _ _ _ _ _ _ (T7.setTop (mkF m 22 #[.val (.ref o0), .val (.long v5), .second, .unset, .unset, .unset, .unset, .unset, .unset] []))
    refine gob (fun _ k => XS.lloadN X9.here hx rfl (hb hby d5_22) rfl k) ?_
    show Go _ _ _ _ _ _ _ (T7.setTop (mkF m 23 #[.val (.ref o0), .val (.long v5), .second, .unset, .unset, .unset, .unset, .unset, .unset] [(.long v5)]))
    refine gob (fun _ k => XS.sipush X9.here hx rfl (hb hby d5_23) k) ?_
    show Go _ _ _ _ _ _ _ (T7.setTop (mkF m 26 #[.val (.ref o0), .val (.long v5), .second, .unset, .unset, .unset, .unset, .unset, .unset] [(.int (400 : Int32)), (.long v5)]))
    obtain ⟨_, _, ⟨T13, L13, k13, n13⟩, -, X13, ⟨Lc13, hQ13, l13, y13, z13⟩, st13⟩ := Jvm.LawKit.callS X9 hx (y := (⟨"java/lang/Math", "floorDiv", "(JI)J"⟩ : MethodName)) hown (mvT hZ (hw _ (List.mem_of_getElem? (i := 30) rfl))) (mvT hZ (hw _ (List.mem_of_getElem? (i := 31) rfl))) (mvT hZ (hw _ (List.mem_of_getElem? (i := 32) rfl))) (mvT hZ (hw _ (List.mem_of_getElem? (i := 33) rfl))) (by decide) (backOf (W := 0) (rm6 l Z a0 hw [] v5 h0 n0 Z0 ) hZ (hw _ (List.mem_of_getElem? (i := 33) rfl)) (hw _ (List.mem_of_getElem? (i := 32) rfl)) (by decide) (by decide)) (g := (mkF m 26 #[.val (.ref o0), .val (.long v5), .second, .unset, .unset, .unset, .unset, .unset, .unset] [(.int (400 : Int32)), (.long v5)])) rfl (by rw [hml]; rfl) (argsL := [(.long v5), (.int (400 : Int32))]) (rest := []) (lenOf pd_2 rfl) rfl (by show 2 * 0 + _ ≤ _; exact Nat.le_of_eq rfl) (hb hby d5_26) (fun _ _ => ⟨rfl, e10, (by decide : 0 + 0 ≤ _), (by decide : 0 + 0 ≤ _)⟩)
    dsimp only [Pt.U, Pt.locs, Pt.cells, Pt.slots] at X13 l13 y13 z13 st13 hQ13
    subst l13 y13 z13
    obtain ⟨r13, rfl, hr13, Nq13, e13⟩ := hQ13
    have N13 := Fr.app N11 Nq13
    refine gob st13 ?_
    show Go _ _ _ _ _ _ _ (T13.setTop (mkF m 29 #[.val (.ref o0), .val (.long v5), .second, .unset, .unset, .unset, .unset, .unset, .unset] [(.long r13)]))
    refine gob (fun _ k => XS.lstoreN X13.here hx rfl (hb hby d5_29) rfl (l' := #[.val (.ref o0), .val (.long v5), .second, .val (.long r13), .second, .unset, .unset, .unset, .unset]) rfl k) ?_
    show Go _ _ _ _ _ _ _ (T13.setTop (mkF m 30 #[.val (.ref o0), .val (.long v5), .second, .val (.long r13), .second, .unset, .unset, .unset, .unset] []))
    refine gob (fun _ k => XS.lloadN X13.here hx rfl (hb hby d5_30) rfl k) ?_
    show Go _ _ _ _ _ _ _ (T13.setTop (mkF m 31 #[.val (.ref o0), .val (.long v5), .second, .val (.long r13), .second, .unset, .unset, .unset, .unset] [(.long v5)]))
    refine gob (fun _ k => XS.lloadN X13.here hx rfl (hb hby d5_31) rfl k) ?_
    show Go _ _ _ _ _ _ _ (T13.setTop (mkF m 32 #[.val (.ref o0), .val (.long v5), .second, .val (.long r13), .second, .unset, .unset, .unset, .unset] [(.long r13), (.long v5)]))
    refine gob (X13.ldc2Long hx hown (mvT hZ (hw _ (List.mem_of_getElem? (i := 37) rfl))) (g := (mkF m 32 #[.val (.ref o0), .val (.long v5), .second, .val (.long r13), .second, .unset, .unset, .unset, .unset] [(.long r13), (.long v5)])) rfl (hb hby d5_32)) ?_
    show Go _ _ _ _ _ _ _ (T13.setTop (mkF m 35 #[.val (.ref o0), .val (.long v5), .second, .val (.long r13), .second, .unset, .unset, .unset, .unset] [(.long (400 : Int64)), (.long r13), (.long v5)]))
    refine gob (fun _ k => XS.lmul X13.here hx rfl (hb hby d5_35) rfl k) ?_
    show Go _ _ _ _ _ _ _ (T13.setTop (mkF m 36 #[.val (.ref o0), .val (.long v5), .second, .val (.long r13), .second, .unset, .unset, .unset, .unset] [(.long (r13 * (400 : Int64))), (.long v5)]))
    refine gob (fun _ k => XS.lsub X13.here hx rfl (hb hby d5_36) rfl k) ?_
    show Go _ _ _ _ _ _ _ (T13.setTop (mkF m 37 #[.val (.ref o0), .val (.long v5), .second, .val (.long r13), .second, .unset, .unset, .unset, .unset] [(.long (v5 - (r13 * (400 : Int64))))]))
    refine gob (fun _ k => XS.l2i X13.here hx rfl (hb hby d5_37) rfl k) ?_
    show Go _ _ _ _ _ _ _ (T13.setTop (mkF m 38 #[.val (.ref o0), .val (.long v5), .second, .val (.long r13), .second, .unset, .unset, .unset, .unset] [(.int ((v5 - (r13 * (400 : Int64))).toInt32))]))
    refine gob (fun _ k => XS.istore X13.here hx rfl (hb hby d5_38) rfl (l' := #[.val (.ref o0), .val (.long v5), .second, .val (.long r13), .second, .val (.int ((v5 - (r13 * (400 : Int64))).toInt32)), .unset, .unset, .unset]) rfl k) ?_
    show Go _ _ _ _ _ _ _ (T13.setTop (mkF m 40 #[.val (.ref o0), .val (.long v5), .second, .val (.long r13), .second, .val (.int ((v5 - (r13 * (400 : Int64))).toInt32)), .unset, .unset, .unset] []))
    generalize hx14 : ((v5 - (r13 * (400 : Int64))).toInt32) = x14
    show Go _ _ _ _ _ _ _ (T13.setTop (mkF m 40 #[.val (.ref o0), .val (.long v5), .second, .val (.long r13), .second, .val (.int x14), .unset, .unset, .unset] []))
    refine gob (fun _ k => XS.aloadN X13.here hx rfl (hb hby d5_40) rfl rfl k) ?_
    show Go _ _ _ _ _ _ _ (T13.setTop (mkF m 41 #[.val (.ref o0), .val (.long v5), .second, .val (.long r13), .second, .val (.int x14), .unset, .unset, .unset] [(.ref o0)]))
    obtain ⟨T15, X15, e15, st15⟩ := getF X13 hx hZ hown (host := "") (Or.inl (hw _ (List.mem_of_getElem? (i := 21) rfl))) Via.refl e13 F_month_o0 (g := (mkF m 41 #[.val (.ref o0), .val (.long v5), .second, .val (.long r13), .second, .val (.int x14), .unset, .unset, .unset] [(.ref o0)])) rfl rfl (hb hby d5_41)
    refine gob st15 ?_
    show Go _ _ _ _ _ _ _ (T15.setTop (mkF m 44 #[.val (.ref o0), .val (.long v5), .second, .val (.long r13), .second, .val (.int x14), .unset, .unset, .unset] [(.int p_m)]))
    refine gob (fun _ k => XS.iconst X15.here hx rfl (hb hby d5_44) k) ?_
    show Go _ _ _ _ _ _ _ (T15.setTop (mkF m 45 #[.val (.ref o0), .val (.long v5), .second, .val (.long r13), .second, .val (.int x14), .unset, .unset, .unset] [(.int (2 : Int32)), (.int p_m)]))
    have join64_20 : ∀ (T21 : State) (lj22 : List Loc) (v19 : Int32), Stand p l e ({ frames := 2, cells := 0, slots := 0, locals := 31 } : Room) s m #[(.ref o0)] below meth c T21 lj22 0 0 → T21.heap = h0 → Fr n0 lj22 → ((2 : Int32) < p_m ∧ v19 = (p_m - (3 : Int32))) ∨ (¬ ((2 : Int32) < p_m) ∧ v19 = (p_m + (9 : Int32))) → Go p e below s (Q5 Z o0 q_y p_m p_d h0 n0) 0 0 (T21.setTop (mkF m 64 #[.val (.ref o0), .val (.long v5), .second, .val (.long r13), .second, .val (.int x14), .unset, .unset, .unset] [(.int v19)])) := by
      intro T21 lj22 v19 X23 e24 N25 hj26
      show Go _ _ _ _ _ _ _ (T21.setTop (mkF m 64 #[.val (.ref o0), .val (.long v5), .second, .val (.long r13), .second, .val (.int x14), .unset, .unset, .unset] [(.int v19)]))
      refine gob (fun _ k => XS.istore X23.here hx rfl (hb hby d5_64) rfl (l' := #[.val (.ref o0), .val (.long v5), .second, .val (.long r13), .second, .val (.int x14), .val (.int v19), .unset, .unset]) rfl k) ?_
      show Go _ _ _ _ _ _ _ (T21.setTop (mkF m 66 #[.val (.ref o0), .val (.long v5), .second, .val (.long r13), .second, .val (.int x14), .val (.int v19), .unset, .unset] []))
      refine gob (fun _ k => XS.sipush X23.here hx rfl (hb hby d5_66) k) ?_
      show Go _ _ _ _ _ _ _ (T21.setTop (mkF m 69 #[.val (.ref o0), .val (.long v5), .second, .val (.long r13), .second, .val (.int x14), .val (.int v19), .unset, .unset] [(.int (153 : Int32))]))
      refine gob (fun _ k => XS.iload X23.here hx rfl (hb hby d5_69) rfl k) ?_
      show Go _ _ _ _ _ _ _ (T21.setTop (mkF m 71 #[.val (.ref o0), .val (.long v5), .second, .val (.long r13), .second, .val (.int x14), .val (.int v19), .unset, .unset] [(.int v19), (.int (153 : Int32))]))
      refine gob (fun _ k => XS.imul X23.here hx rfl (hb hby d5_71) rfl k) ?_
      show Go _ _ _ _ _ _ _ (T21.setTop (mkF m 72 #[.val (.ref o0), .val (.long v5), .second, .val (.long r13), .second, .val (.int x14), .val (.int v19), .unset, .unset] [(.int ((153 : Int32) * v19))]))
      refine gob (fun _ k => XS.iconst X23.here hx rfl (hb hby d5_72) k) ?_
      show Go _ _ _ _ _ _ _ (T21.setTop (mkF m 73 #[.val (.ref o0), .val (.long v5), .second, .val (.long r13), .second, .val (.int x14), .val (.int v19), .unset, .unset] [(.int (2 : Int32)), (.int ((153 : Int32) * v19))]))
      refine gob (fun _ k => XS.iadd X23.here hx rfl (hb hby d5_73) rfl k) ?_
      show Go _ _ _ _ _ _ _ (T21.setTop (mkF m 74 #[.val (.ref o0), .val (.long v5), .second, .val (.long r13), .second, .val (.int x14), .val (.int v19), .unset, .unset] [(.int (((153 : Int32) * v19) + (2 : Int32)))]))
      refine gob (fun _ k => XS.iconst X23.here hx rfl (hb hby d5_74) k) ?_
      show Go _ _ _ _ _ _ _ (T21.setTop (mkF m 75 #[.val (.ref o0), .val (.long v5), .second, .val (.long r13), .second, .val (.int x14), .val (.int v19), .unset, .unset] [(.int (5 : Int32)), (.int (((153 : Int32) * v19) + (2 : Int32)))]))
      refine gob (fun _ k => XS.idiv X23.here hx rfl (hb hby d5_75) rfl (by decide) k) ?_
      show Go _ _ _ _ _ _ _ (T21.setTop (mkF m 76 #[.val (.ref o0), .val (.long v5), .second, .val (.long r13), .second, .val (.int x14), .val (.int v19), .unset, .unset] [(.int ((((153 : Int32) * v19) + (2 : Int32)) / (5 : Int32)))]))
      refine gob (fun _ k => XS.aloadN X23.here hx rfl (hb hby d5_76) rfl rfl k) ?_
      show Go _ _ _ _ _ _ _ (T21.setTop (mkF m 77 #[.val (.ref o0), .val (.long v5), .second, .val (.long r13), .second, .val (.int x14), .val (.int v19), .unset, .unset] [(.ref o0), (.int ((((153 : Int32) * v19) + (2 : Int32)) / (5 : Int32)))]))
      obtain ⟨T27, X27, e27, st27⟩ := getF X23 hx hZ hown (host := "") (Or.inl (hw _ (List.mem_of_getElem? (i := 23) rfl))) Via.refl e24 F_day_o0 (g := (mkF m 77 #[.val (.ref o0), .val (.long v5), .second, .val (.long r13), .second, .val (.int x14), .val (.int v19), .unset, .unset] [(.ref o0), (.int ((((153 : Int32) * v19) + (2 : Int32)) / (5 : Int32)))])) rfl rfl (hb hby d5_77)
      refine gob st27 ?_
      show Go _ _ _ _ _ _ _ (T27.setTop (mkF m 80 #[.val (.ref o0), .val (.long v5), .second, .val (.long r13), .second, .val (.int x14), .val (.int v19), .unset, .unset] [(.int p_d), (.int ((((153 : Int32) * v19) + (2 : Int32)) / (5 : Int32)))]))
      refine gob (fun _ k => XS.iadd X27.here hx rfl (hb hby d5_80) rfl k) ?_
      show Go _ _ _ _ _ _ _ (T27.setTop (mkF m 81 #[.val (.ref o0), .val (.long v5), .second, .val (.long r13), .second, .val (.int x14), .val (.int v19), .unset, .unset] [(.int (((((153 : Int32) * v19) + (2 : Int32)) / (5 : Int32)) + p_d))]))
      refine gob (fun _ k => XS.iconst X27.here hx rfl (hb hby d5_81) k) ?_
      show Go _ _ _ _ _ _ _ (T27.setTop (mkF m 82 #[.val (.ref o0), .val (.long v5), .second, .val (.long r13), .second, .val (.int x14), .val (.int v19), .unset, .unset] [(.int (1 : Int32)), (.int (((((153 : Int32) * v19) + (2 : Int32)) / (5 : Int32)) + p_d))]))
      refine gob (fun _ k => XS.isub X27.here hx rfl (hb hby d5_82) rfl k) ?_
      show Go _ _ _ _ _ _ _ (T27.setTop (mkF m 83 #[.val (.ref o0), .val (.long v5), .second, .val (.long r13), .second, .val (.int x14), .val (.int v19), .unset, .unset] [(.int ((((((153 : Int32) * v19) + (2 : Int32)) / (5 : Int32)) + p_d) - (1 : Int32)))]))
      refine gob (fun _ k => XS.istore X27.here hx rfl (hb hby d5_83) rfl (l' := #[.val (.ref o0), .val (.long v5), .second, .val (.long r13), .second, .val (.int x14), .val (.int v19), .val (.int ((((((153 : Int32) * v19) + (2 : Int32)) / (5 : Int32)) + p_d) - (1 : Int32))), .unset]) rfl k) ?_
      show Go _ _ _ _ _ _ _ (T27.setTop (mkF m 85 #[.val (.ref o0), .val (.long v5), .second, .val (.long r13), .second, .val (.int x14), .val (.int v19), .val (.int ((((((153 : Int32) * v19) + (2 : Int32)) / (5 : Int32)) + p_d) - (1 : Int32))), .unset] []))
      generalize hx28 : ((((((153 : Int32) * v19) + (2 : Int32)) / (5 : Int32)) + p_d) - (1 : Int32)) = x28
      show Go _ _ _ _ _ _ _ (T27.setTop (mkF m 85 #[.val (.ref o0), .val (.long v5), .second, .val (.long r13), .second, .val (.int x14), .val (.int v19), .val (.int x28), .unset] []))
      refine gob (fun _ k => XS.sipush X27.here hx rfl (hb hby d5_85) k) ?_
      show Go _ _ _ _ _ _ _ (T27.setTop (mkF m 88 #[.val (.ref o0), .val (.long v5), .second, .val (.long r13), .second, .val (.int x14), .val (.int v19), .val (.int x28), .unset] [(.int (365 : Int32))]))
      refine gob (fun _ k => XS.iload X27.here hx rfl (hb hby d5_88) rfl k) ?_
      show Go _ _ _ _ _ _ _ (T27.setTop (mkF m 90 #[.val (.ref o0), .val (.long v5), .second, .val (.long r13), .second, .val (.int x14), .val (.int v19), .val (.int x28), .unset] [(.int x14), (.int (365 : Int32))]))
      refine gob (fun _ k => XS.imul X27.here hx rfl (hb hby d5_90) rfl k) ?_
      show Go _ _ _ _ _ _ _ (T27.setTop (mkF m 91 #[.val (.ref o0), .val (.long v5), .second, .val (.long r13), .second, .val (.int x14), .val (.int v19), .val (.int x28), .unset] [(.int ((365 : Int32) * x14))]))
      refine gob (fun _ k => XS.iload X27.here hx rfl (hb hby d5_91) rfl k) ?_
      show Go _ _ _ _ _ _ _ (T27.setTop (mkF m 93 #[.val (.ref o0), .val (.long v5), .second, .val (.long r13), .second, .val (.int x14), .val (.int v19), .val (.int x28), .unset] [(.int x14), (.int ((365 : Int32) * x14))]))
      refine gob (fun _ k => XS.iconst X27.here hx rfl (hb hby d5_93) k) ?_
      show Go _ _ _ _ _ _ _ (T27.setTop (mkF m 94 #[.val (.ref o0), .val (.long v5), .second, .val (.long r13), .second, .val (.int x14), .val (.int v19), .val (.int x28), .unset] [(.int (4 : Int32)), (.int x14), (.int ((365 : Int32) * x14))]))
      refine gob (fun _ k => XS.idiv X27.here hx rfl (hb hby d5_94) rfl (by decide) k) ?_
      show Go _ _ _ _ _ _ _ (T27.setTop (mkF m 95 #[.val (.ref o0), .val (.long v5), .second, .val (.long r13), .second, .val (.int x14), .val (.int v19), .val (.int x28), .unset] [(.int (x14 / (4 : Int32))), (.int ((365 : Int32) * x14))]))
      refine gob (fun _ k => XS.iadd X27.here hx rfl (hb hby d5_95) rfl k) ?_
      show Go _ _ _ _ _ _ _ (T27.setTop (mkF m 96 #[.val (.ref o0), .val (.long v5), .second, .val (.long r13), .second, .val (.int x14), .val (.int v19), .val (.int x28), .unset] [(.int (((365 : Int32) * x14) + (x14 / (4 : Int32))))]))
      refine gob (fun _ k => XS.iload X27.here hx rfl (hb hby d5_96) rfl k) ?_
      show Go _ _ _ _ _ _ _ (T27.setTop (mkF m 98 #[.val (.ref o0), .val (.long v5), .second, .val (.long r13), .second, .val (.int x14), .val (.int v19), .val (.int x28), .unset] [(.int x14), (.int (((365 : Int32) * x14) + (x14 / (4 : Int32))))]))
      refine gob (fun _ k => XS.bipush X27.here hx rfl (hb hby d5_98) k) ?_
      show Go _ _ _ _ _ _ _ (T27.setTop (mkF m 100 #[.val (.ref o0), .val (.long v5), .second, .val (.long r13), .second, .val (.int x14), .val (.int v19), .val (.int x28), .unset] [(.int (100 : Int32)), (.int x14), (.int (((365 : Int32) * x14) + (x14 / (4 : Int32))))]))
      refine gob (fun _ k => XS.idiv X27.here hx rfl (hb hby d5_100) rfl (by decide) k) ?_
      show Go _ _ _ _ _ _ _ (T27.setTop (mkF m 101 #[.val (.ref o0), .val (.long v5), .second, .val (.long r13), .second, .val (.int x14), .val (.int v19), .val (.int x28), .unset] [(.int (x14 / (100 : Int32))), (.int (((365 : Int32) * x14) + (x14 / (4 : Int32))))]))
      refine gob (fun _ k => XS.isub X27.here hx rfl (hb hby d5_101) rfl k) ?_
      show Go _ _ _ _ _ _ _ (T27.setTop (mkF m 102 #[.val (.ref o0), .val (.long v5), .second, .val (.long r13), .second, .val (.int x14), .val (.int v19), .val (.int x28), .unset] [(.int ((((365 : Int32) * x14) + (x14 / (4 : Int32))) - (x14 / (100 : Int32))))]))
      refine gob (fun _ k => XS.iload X27.here hx rfl (hb hby d5_102) rfl k) ?_
      show Go _ _ _ _ _ _ _ (T27.setTop (mkF m 104 #[.val (.ref o0), .val (.long v5), .second, .val (.long r13), .second, .val (.int x14), .val (.int v19), .val (.int x28), .unset] [(.int x28), (.int ((((365 : Int32) * x14) + (x14 / (4 : Int32))) - (x14 / (100 : Int32))))]))
      refine gob (fun _ k => XS.iadd X27.here hx rfl (hb hby d5_104) rfl k) ?_
      show Go _ _ _ _ _ _ _ (T27.setTop (mkF m 105 #[.val (.ref o0), .val (.long v5), .second, .val (.long r13), .second, .val (.int x14), .val (.int v19), .val (.int x28), .unset] [(.int (((((365 : Int32) * x14) + (x14 / (4 : Int32))) - (x14 / (100 : Int32))) + x28))]))
      refine gob (fun _ k => XS.istore X27.here hx rfl (hb hby d5_105) rfl (l' := #[.val (.ref o0), .val (.long v5), .second, .val (.long r13), .second, .val (.int x14), .val (.int v19), .val (.int x28), .val (.int (((((365 : Int32) * x14) + (x14 / (4 : Int32))) - (x14 / (100 : Int32))) + x28))]) rfl k) ?_
      show Go _ _ _ _ _ _ _ (T27.setTop (mkF m 107 #[.val (.ref o0), .val (.long v5), .second, .val (.long r13), .second, .val (.int x14), .val (.int v19), .val (.int x28), .val (.int (((((365 : Int32) * x14) + (x14 / (4 : Int32))) - (x14 / (100 : Int32))) + x28))] []))
      generalize hx29 : (((((365 : Int32) * x14) + (x14 / (4 : Int32))) - (x14 / (100 : Int32))) + x28) = x29
      show Go _ _ _ _ _ _ _ (T27.setTop (mkF m 107 #[.val (.ref o0), .val (.long v5), .second, .val (.long r13), .second, .val (.int x14), .val (.int v19), .val (.int x28), .val (.int x29)] []))
      refine gob (fun _ k => XS.lloadN X27.here hx rfl (hb hby d5_107) rfl k) ?_
      show Go _ _ _ _ _ _ _ (T27.setTop (mkF m 108 #[.val (.ref o0), .val (.long v5), .second, .val (.long r13), .second, .val (.int x14), .val (.int v19), .val (.int x28), .val (.int x29)] [(.long r13)]))
      refine gob (X27.ldc2Long hx hown (mvT hZ (hw _ (List.mem_of_getElem? (i := 38) rfl))) (g := (mkF m 108 #[.val (.ref o0), .val (.long v5), .second, .val (.long r13), .second, .val (.int x14), .val (.int v19), .val (.int x28), .val (.int x29)] [(.long r13)])) rfl (hb hby d5_108)) ?_
      show Go _ _ _ _ _ _ _ (T27.setTop (mkF m 111 #[.val (.ref o0), .val (.long v5), .second, .val (.long r13), .second, .val (.int x14), .val (.int v19), .val (.int x28), .val (.int x29)] [(.long (146097 : Int64)), (.long r13)]))
      refine gob (fun _ k => XS.lmul X27.here hx rfl (hb hby d5_111) rfl k) ?_
      show Go _ _ _ _ _ _ _ (T27.setTop (mkF m 112 #[.val (.ref o0), .val (.long v5), .second, .val (.long r13), .second, .val (.int x14), .val (.int v19), .val (.int x28), .val (.int x29)] [(.long (r13 * (146097 : Int64)))]))
      refine gob (fun _ k => XS.iload X27.here hx rfl (hb hby d5_112) rfl k) ?_
      show Go _ _ _ _ _ _ _ (T27.setTop (mkF m 114 #[.val (.ref o0), .val (.long v5), .second, .val (.long r13), .second, .val (.int x14), .val (.int v19), .val (.int x28), .val (.int x29)] [(.int x29), (.long (r13 * (146097 : Int64)))]))
      refine gob (fun _ k => XS.i2l X27.here hx rfl (hb hby d5_114) rfl k) ?_
      show Go _ _ _ _ _ _ _ (T27.setTop (mkF m 115 #[.val (.ref o0), .val (.long v5), .second, .val (.long r13), .second, .val (.int x14), .val (.int v19), .val (.int x28), .val (.int x29)] [(.long (x29.toInt64)), (.long (r13 * (146097 : Int64)))]))
      refine gob (fun _ k => XS.ladd X27.here hx rfl (hb hby d5_115) rfl k) ?_
      show Go _ _ _ _ _ _ _ (T27.setTop (mkF m 116 #[.val (.ref o0), .val (.long v5), .second, .val (.long r13), .second, .val (.int x14), .val (.int v19), .val (.int x28), .val (.int x29)] [(.long ((r13 * (146097 : Int64)) + (x29.toInt64)))]))
      refine gob (X27.ldc2Long hx hown (mvT hZ (hw _ (List.mem_of_getElem? (i := 39) rfl))) (g := (mkF m 116 #[.val (.ref o0), .val (.long v5), .second, .val (.long r13), .second, .val (.int x14), .val (.int v19), .val (.int x28), .val (.int x29)] [(.long ((r13 * (146097 : Int64)) + (x29.toInt64)))])) rfl (hb hby d5_116)) ?_
      show Go _ _ _ _ _ _ _ (T27.setTop (mkF m 119 #[.val (.ref o0), .val (.long v5), .second, .val (.long r13), .second, .val (.int x14), .val (.int v19), .val (.int x28), .val (.int x29)] [(.long (719468 : Int64)), (.long ((r13 * (146097 : Int64)) + (x29.toInt64)))]))
      refine gob (fun _ k => XS.lsub X27.here hx rfl (hb hby d5_119) rfl k) ?_
      show Go _ _ _ _ _ _ _ (T27.setTop (mkF m 120 #[.val (.ref o0), .val (.long v5), .second, .val (.long r13), .second, .val (.int x14), .val (.int v19), .val (.int x28), .val (.int x29)] [(.long (((r13 * (146097 : Int64)) + (x29.toInt64)) - (719468 : Int64)))]))
      refine goJ X27 hx hlk Bd.returns (hb hby d5_120) ?_ (by decide) (by decide)
      show Q5 Z o0 q_y p_m p_d h0 n0 (some (.long (((r13 * (146097 : Int64)) + (x29.toInt64)) - (719468 : Int64)))) T27.heap _
      exact ⟨(((r13 * (146097 : Int64)) + (x29.toInt64)) - (719468 : Int64)), rfl, lf_5_0 q_y p_m p_d v5 r13 x14 v19 x28 x29 hm1 hm2 hd1 hd2 hy hj12 hr13 hx14 hj26 hx28 hx29, N25, e27⟩
    by_cases hc45_30 : (2 : Int32) < p_m
    · skip
      refine gob (fun _ k => XS.icmpYes X15.here hx rfl (pc0 := 45) (pc' := 58) rfl (hb hby d5_45) rfl (tlt hc45_30).2.2.1 (by decide) (by decide) k) ?_
      show Go _ _ _ _ _ _ _ (T15.setTop (mkF m 58 #[.val (.ref o0), .val (.long v5), .second, .val (.long r13), .second, .val (.int x14), .unset, .unset, .unset] []))
      refine gob (fun _ k => XS.aloadN X15.here hx rfl (hb hby d5_58) rfl rfl k) ?_
      show Go _ _ _ _ _ _ _ (T15.setTop (mkF m 59 #[.val (.ref o0), .val (.long v5), .second, .val (.long r13), .second, .val (.int x14), .unset, .unset, .unset] [(.ref o0)]))
      obtain ⟨T31, X31, e31, st31⟩ := getF X15 hx hZ hown (host := "") (Or.inl (hw _ (List.mem_of_getElem? (i := 21) rfl))) Via.refl e15 F_month_o0 (g := (mkF m 59 #[.val (.ref o0), .val (.long v5), .second, .val (.long r13), .second, .val (.int x14), .unset, .unset, .unset] [(.ref o0)])) rfl rfl (hb hby d5_59)
      refine gob st31 ?_
      show Go _ _ _ _ _ _ _ (T31.setTop (mkF m 62 #[.val (.ref o0), .val (.long v5), .second, .val (.long r13), .second, .val (.int x14), .unset, .unset, .unset] [(.int p_m)]))
      refine gob (fun _ k => XS.iconst X31.here hx rfl (hb hby d5_62) k) ?_
      show Go _ _ _ _ _ _ _ (T31.setTop (mkF m 63 #[.val (.ref o0), .val (.long v5), .second, .val (.long r13), .second, .val (.int x14), .unset, .unset, .unset] [(.int (3 : Int32)), (.int p_m)]))
      refine gob (fun _ k => XS.isub X31.here hx rfl (hb hby d5_63) rfl k) ?_
      show Go _ _ _ _ _ _ _ (T31.setTop (mkF m 64 #[.val (.ref o0), .val (.long v5), .second, .val (.long r13), .second, .val (.int x14), .unset, .unset, .unset] [(.int (p_m - (3 : Int32)))]))
      exact join64_20 _ _ ((p_m - (3 : Int32))) X31 e31 N13 (Or.inl ⟨hc45_30, rfl⟩)
    · skip
      refine gob (fun _ k => XS.icmpNo X15.here hx rfl (hb hby d5_45) rfl (flt hc45_30).2.2.1 k) ?_
      show Go _ _ _ _ _ _ _ (T15.setTop (mkF m 48 #[.val (.ref o0), .val (.long v5), .second, .val (.long r13), .second, .val (.int x14), .unset, .unset, .unset] []))
      refine gob (fun _ k => XS.aloadN X15.here hx rfl (hb hby d5_48) rfl rfl k) ?_
      show Go _ _ _ _ _ _ _ (T15.setTop (mkF m 49 #[.val (.ref o0), .val (.long v5), .second, .val (.long r13), .second, .val (.int x14), .unset, .unset, .unset] [(.ref o0)]))
      obtain ⟨T32, X32, e32, st32⟩ := getF X15 hx hZ hown (host := "") (Or.inl (hw _ (List.mem_of_getElem? (i := 21) rfl))) Via.refl e15 F_month_o0 (g := (mkF m 49 #[.val (.ref o0), .val (.long v5), .second, .val (.long r13), .second, .val (.int x14), .unset, .unset, .unset] [(.ref o0)])) rfl rfl (hb hby d5_49)
      refine gob st32 ?_
      show Go _ _ _ _ _ _ _ (T32.setTop (mkF m 52 #[.val (.ref o0), .val (.long v5), .second, .val (.long r13), .second, .val (.int x14), .unset, .unset, .unset] [(.int p_m)]))
      refine gob (fun _ k => XS.bipush X32.here hx rfl (hb hby d5_52) k) ?_
      show Go _ _ _ _ _ _ _ (T32.setTop (mkF m 54 #[.val (.ref o0), .val (.long v5), .second, .val (.long r13), .second, .val (.int x14), .unset, .unset, .unset] [(.int (9 : Int32)), (.int p_m)]))
      refine gob (fun _ k => XS.iadd X32.here hx rfl (hb hby d5_54) rfl k) ?_
      show Go _ _ _ _ _ _ _ (T32.setTop (mkF m 55 #[.val (.ref o0), .val (.long v5), .second, .val (.long r13), .second, .val (.int x14), .unset, .unset, .unset] [(.int (p_m + (9 : Int32)))]))
      refine gob (fun _ k => XS.goto X32.here hx rfl (pc0 := 55) (pc' := 64) rfl (hb hby d5_55) (by decide) (by decide) k) ?_
      show Go _ _ _ _ _ _ _ (T32.setTop (mkF m 64 #[.val (.ref o0), .val (.long v5), .second, .val (.long r13), .second, .val (.int x14), .unset, .unset, .unset] [(.int (p_m + (9 : Int32)))]))
      exact join64_20 _ _ ((p_m + (9 : Int32))) X32 e32 N13 (Or.inr ⟨hc45_30, rfl⟩)
  by_cases hc5_33 : (2 : Int32) < p_m
  · skip
    refine gob (fun _ k => XS.icmpYes X1.here hx rfl (pc0 := 5) (pc' := 17) rfl (hb hby d5_5) rfl (tlt hc5_33).2.2.1 (by decide) (by decide) k) ?_
    show Go _ _ _ _ _ _ _ (T1.setTop (mkF m 17 #[.val (.ref o0), .unset, .unset, .unset, .unset, .unset, .unset, .unset, .unset] []))
    refine gob (fun _ k => XS.aloadN X1.here hx rfl (hb hby d5_17) rfl rfl k) ?_
    show Go _ _ _ _ _ _ _ (T1.setTop (mkF m 18 #[.val (.ref o0), .unset, .unset, .unset, .unset, .unset, .unset, .unset, .unset] [(.ref o0)]))
    obtain ⟨T34, X34, e34, st34⟩ := getF X1 hx hZ hown (host := "") (Or.inl (hw _ (List.mem_of_getElem? (i := 19) rfl))) Via.refl e1 F_year_o0 (g := (mkF m 18 #[.val (.ref o0), .unset, .unset, .unset, .unset, .unset, .unset, .unset, .unset] [(.ref o0)])) rfl rfl (hb hby d5_18)
    refine gob st34 ?_
    show Go _ _ _ _ _ _ _ (T34.setTop (mkF m 21 #[.val (.ref o0), .unset, .unset, .unset, .unset, .unset, .unset, .unset, .unset] [(.long q_y)]))
    exact join21_6 _ _ (q_y) X34 e34 N0 (Or.inl ⟨hc5_33, rfl⟩)
  · skip
    refine gob (fun _ k => XS.icmpNo X1.here hx rfl (hb hby d5_5) rfl (flt hc5_33).2.2.1 k) ?_
    show Go _ _ _ _ _ _ _ (T1.setTop (mkF m 8 #[.val (.ref o0), .unset, .unset, .unset, .unset, .unset, .unset, .unset, .unset] []))
    refine gob (fun _ k => XS.aloadN X1.here hx rfl (hb hby d5_8) rfl rfl k) ?_
    show Go _ _ _ _ _ _ _ (T1.setTop (mkF m 9 #[.val (.ref o0), .unset, .unset, .unset, .unset, .unset, .unset, .unset, .unset] [(.ref o0)]))
    obtain ⟨T35, X35, e35, st35⟩ := getF X1 hx hZ hown (host := "") (Or.inl (hw _ (List.mem_of_getElem? (i := 19) rfl))) Via.refl e1 F_year_o0 (g := (mkF m 9 #[.val (.ref o0), .unset, .unset, .unset, .unset, .unset, .unset, .unset, .unset] [(.ref o0)])) rfl rfl (hb hby d5_9)
    refine gob st35 ?_
    show Go _ _ _ _ _ _ _ (T35.setTop (mkF m 12 #[.val (.ref o0), .unset, .unset, .unset, .unset, .unset, .unset, .unset, .unset] [(.long q_y)]))
    refine gob (fun _ k => XS.lconst X35.here hx rfl (hb hby d5_12) k) ?_
    show Go _ _ _ _ _ _ _ (T35.setTop (mkF m 13 #[.val (.ref o0), .unset, .unset, .unset, .unset, .unset, .unset, .unset, .unset] [(.long (1 : Int64)), (.long q_y)]))
    refine gob (fun _ k => XS.lsub X35.here hx rfl (hb hby d5_13) rfl k) ?_
    show Go _ _ _ _ _ _ _ (T35.setTop (mkF m 14 #[.val (.ref o0), .unset, .unset, .unset, .unset, .unset, .unset, .unset, .unset] [(.long (q_y - (1 : Int64)))]))
    refine gob (fun _ k => XS.goto X35.here hx rfl (pc0 := 14) (pc' := 21) rfl (hb hby d5_14) (by decide) (by decide) k) ?_
    show Go _ _ _ _ _ _ _ (T35.setTop (mkF m 21 #[.val (.ref o0), .unset, .unset, .unset, .unset, .unset, .unset, .unset, .unset] [(.long (q_y - (1 : Int64)))]))
    exact join21_6 _ _ ((q_y - (1 : Int64))) X35 e35 N0 (Or.inr ⟨hc5_33, rfl⟩)
theorem pd_3 : parseMethodDescriptor "(J)Z" = some ⟨[.long], some .boolean⟩ := by decide +kernel
theorem pd_4 : parseMethodDescriptor "(JII)V" = some ⟨[.long, .int, .int], none⟩ := by decide +kernel
theorem pd_5 : parseMethodDescriptor "()J" = some ⟨[], some .long⟩ := by decide +kernel
theorem ef_0 (m : MethodId) (x0 : Int64) : entryFrame m #[(.long x0)] maxLocals = mkF m 0 #[.val (.long x0), .second, .unset, .unset, .unset] [] := by first | (simp [entryFrame, mkF, argsToLocals, Value.category, maxLocals]; done) | rfl
def Q0 (Z : State) (q0 : Int64) (h0 : Heap) (n0 : Nat) (v : Option Value) (h : Heap) (L : List Loc) : Prop := v = some (.int 1) ∧ Fr n0 L
theorem lf_0_0 (q0 : Int64) (r_leap : Int32) (hr_leap : ((q0 % (4 : Int64)) = (0 : Int64) ∧ (q0 % (100 : Int64)) = (0 : Int64) ∧ (q0 % (400 : Int64)) = (0 : Int64) ∧ r_leap = (1 : Int32)) ∨ ((q0 % (4 : Int64)) = (0 : Int64) ∧ (q0 % (100 : Int64)) = (0 : Int64) ∧ ¬ ((q0 % (400 : Int64)) = (0 : Int64)) ∧ r_leap = (0 : Int32)) ∨ ((q0 % (4 : Int64)) = (0 : Int64) ∧ ¬ ((q0 % (100 : Int64)) = (0 : Int64)) ∧ r_leap = (1 : Int32)) ∨ (¬ ((q0 % (4 : Int64)) = (0 : Int64)) ∧ r_leap = (0 : Int32))) (hc10_2 : q0 = (-9223372036854775808 : Int64)) : r_leap = 1 := by
  have := rng64 q0
  have := rng32 r_leap
  have : (-9223372036854775808 : Int64).toInt = -9223372036854775808 := by decide
  have : (0 : Int32).toInt = 0 := by decide
  have : (0 : Int64).toInt = 0 := by decide
  have : (1 : Int32).toInt = 1 := by decide
  have : (100 : Int64).toInt = 100 := by decide
  have : (4 : Int64).toInt = 4 := by decide
  have : (400 : Int64).toInt = 400 := by decide
  have := own_lrem q0 (4 : Int64) (4) (by decide)
  have := rng64 (q0 % (4 : Int64))
  have := own_lrem q0 (100 : Int64) (100) (by decide)
  have := rng64 (q0 % (100 : Int64))
  have := own_lrem q0 (400 : Int64) (400) (by decide)
  have := rng64 (q0 % (400 : Int64))
  try (simp only [Int32.lt_iff_toInt_lt, Int32.le_iff_toInt_le, Int64.lt_iff_toInt_lt, Int64.le_iff_toInt_le, ← Int32.toInt_inj, ← Int64.toInt_inj, ne_eq] at *)
  omega
theorem ld_0_65_26 (q0 : Int64) (r_leap : Int32) (r11 : Int64) (r22 : Int64) (x24 : Int64) (hr_leap : ((q0 % (4 : Int64)) = (0 : Int64) ∧ (q0 % (100 : Int64)) = (0 : Int64) ∧ (q0 % (400 : Int64)) = (0 : Int64) ∧ r_leap = (1 : Int32)) ∨ ((q0 % (4 : Int64)) = (0 : Int64) ∧ (q0 % (100 : Int64)) = (0 : Int64) ∧ ¬ ((q0 % (400 : Int64)) = (0 : Int64)) ∧ r_leap = (0 : Int32)) ∨ ((q0 % (4 : Int64)) = (0 : Int64) ∧ ¬ ((q0 % (100 : Int64)) = (0 : Int64)) ∧ r_leap = (1 : Int32)) ∨ (¬ ((q0 % (4 : Int64)) = (0 : Int64)) ∧ r_leap = (0 : Int32))) (hc10_2 : ¬ (q0 = (-9223372036854775808 : Int64))) (hr11 : (((3 : Int32).toInt ≤ 2 → (r11.toInt - (365 * (q0.toInt - 1) + (q0.toInt - 1) / 4 - (q0.toInt - 1) / 100 + (q0.toInt - 1) / 400 + (153 * ((3 : Int32).toInt + 9) + 2) / 5 + (1 : Int32).toInt - 719469)) % 18446744073709551616 = 0) ∧ (2 < (3 : Int32).toInt → (r11.toInt - (365 * (q0.toInt) + (q0.toInt) / 4 - (q0.toInt) / 100 + (q0.toInt) / 400 + (153 * ((3 : Int32).toInt - 3) + 2) / 5 + (1 : Int32).toInt - 719469)) % 18446744073709551616 = 0))) (hr22 : (((2 : Int32).toInt ≤ 2 → (r22.toInt - (365 * (q0.toInt - 1) + (q0.toInt - 1) / 4 - (q0.toInt - 1) / 100 + (q0.toInt - 1) / 400 + (153 * ((2 : Int32).toInt + 9) + 2) / 5 + (28 : Int32).toInt - 719469)) % 18446744073709551616 = 0) ∧ (2 < (2 : Int32).toInt → (r22.toInt - (365 * (q0.toInt) + (q0.toInt) / 4 - (q0.toInt) / 100 + (q0.toInt) / 400 + (153 * ((2 : Int32).toInt - 3) + 2) / 5 + (28 : Int32).toInt - 719469)) % 18446744073709551616 = 0))) (hx24 : (r11 - r22) = x24) (hc45_25 : r_leap = (0 : Int32)) : x24 = (1 : Int64) := by
  have e1 : (1 : Int32).toInt = 1 := by decide
  have e2 : (2 : Int32).toInt = 2 := by decide
  have e3 : (3 : Int32).toInt = 3 := by decide
  have e28 : (28 : Int32).toInt = 28 := by decide
  have A := hr11.2 (by decide)
  have B := hr22.1 (by decide)
  rw [e3, e1] at A
  rw [e2, e28] at B
  have D := own_days _ _ _ q0.toInt hx24 A B
  rw [own_rem0 q0 4 4 (by decide), own_rem0 q0 100 100 (by decide), own_rem0 q0 400 400 (by decide)] at hr_leap
  rw [← Int64.toInt_inj]
  have f1 : (1 : Int64).toInt = 1 := by decide
  have f2 : (2 : Int64).toInt = 2 := by decide
  have f3 : ¬ ((1 : Int32) = (0 : Int32)) := by decide
  rcases hr_leap with ⟨g1, g2, g3, rfl⟩ | ⟨g1, g2, g3, rfl⟩ | ⟨g1, g2, rfl⟩ | ⟨g1, rfl⟩ <;> first | (rw [f1]; exact D.1 (by omega)) | (rw [f2]; exact D.2 (by omega)) | exact absurd rfl hc45_25 | exact absurd hc45_25 f3
theorem ld_0_53_28 (q0 : Int64) (r_leap : Int32) (r11 : Int64) (r22 : Int64) (x24 : Int64) (hr_leap : ((q0 % (4 : Int64)) = (0 : Int64) ∧ (q0 % (100 : Int64)) = (0 : Int64) ∧ (q0 % (400 : Int64)) = (0 : Int64) ∧ r_leap = (1 : Int32)) ∨ ((q0 % (4 : Int64)) = (0 : Int64) ∧ (q0 % (100 : Int64)) = (0 : Int64) ∧ ¬ ((q0 % (400 : Int64)) = (0 : Int64)) ∧ r_leap = (0 : Int32)) ∨ ((q0 % (4 : Int64)) = (0 : Int64) ∧ ¬ ((q0 % (100 : Int64)) = (0 : Int64)) ∧ r_leap = (1 : Int32)) ∨ (¬ ((q0 % (4 : Int64)) = (0 : Int64)) ∧ r_leap = (0 : Int32))) (hc10_2 : ¬ (q0 = (-9223372036854775808 : Int64))) (hr11 : (((3 : Int32).toInt ≤ 2 → (r11.toInt - (365 * (q0.toInt - 1) + (q0.toInt - 1) / 4 - (q0.toInt - 1) / 100 + (q0.toInt - 1) / 400 + (153 * ((3 : Int32).toInt + 9) + 2) / 5 + (1 : Int32).toInt - 719469)) % 18446744073709551616 = 0) ∧ (2 < (3 : Int32).toInt → (r11.toInt - (365 * (q0.toInt) + (q0.toInt) / 4 - (q0.toInt) / 100 + (q0.toInt) / 400 + (153 * ((3 : Int32).toInt - 3) + 2) / 5 + (1 : Int32).toInt - 719469)) % 18446744073709551616 = 0))) (hr22 : (((2 : Int32).toInt ≤ 2 → (r22.toInt - (365 * (q0.toInt - 1) + (q0.toInt - 1) / 4 - (q0.toInt - 1) / 100 + (q0.toInt - 1) / 400 + (153 * ((2 : Int32).toInt + 9) + 2) / 5 + (28 : Int32).toInt - 719469)) % 18446744073709551616 = 0) ∧ (2 < (2 : Int32).toInt → (r22.toInt - (365 * (q0.toInt) + (q0.toInt) / 4 - (q0.toInt) / 100 + (q0.toInt) / 400 + (153 * ((2 : Int32).toInt - 3) + 2) / 5 + (28 : Int32).toInt - 719469)) % 18446744073709551616 = 0))) (hx24 : (r11 - r22) = x24) (hc45_25 : ¬ (r_leap = (0 : Int32))) : x24 = (2 : Int64) := by
  have e1 : (1 : Int32).toInt = 1 := by decide
  have e2 : (2 : Int32).toInt = 2 := by decide
  have e3 : (3 : Int32).toInt = 3 := by decide
  have e28 : (28 : Int32).toInt = 28 := by decide
  have A := hr11.2 (by decide)
  have B := hr22.1 (by decide)
  rw [e3, e1] at A
  rw [e2, e28] at B
  have D := own_days _ _ _ q0.toInt hx24 A B
  rw [own_rem0 q0 4 4 (by decide), own_rem0 q0 100 100 (by decide), own_rem0 q0 400 400 (by decide)] at hr_leap
  rw [← Int64.toInt_inj]
  have f1 : (1 : Int64).toInt = 1 := by decide
  have f2 : (2 : Int64).toInt = 2 := by decide
  have f3 : ¬ ((1 : Int32) = (0 : Int32)) := by decide
  rcases hr_leap with ⟨g1, g2, g3, rfl⟩ | ⟨g1, g2, g3, rfl⟩ | ⟨g1, g2, rfl⟩ | ⟨g1, rfl⟩ <;> first | (rw [f1]; exact D.1 (by omega)) | (rw [f2]; exact D.2 (by omega)) | exact absurd rfl hc45_25 | exact absurd hc45_25 f3
set_option maxRecDepth 65536 in
set_option maxHeartbeats 40000000 in
theorem rm0 (l : Launch) (Z : State) (a0 : Array Value) (hw : ∀ d ∈ tables_1, d.before a0 Z = true) (ws : List Jvm.Cond) (q0 : Int64) (h0 : Heap) (n0 : Nat) (Z0 : n0 ≤ h0.size) :
    MetFree l x (head1 (Jvm.Cond.code x code maxLocals ret :: ws) room_1) (fun a U => a = #[(.long q0)] ∧ Z.Warmed39 U.vm ∧ U.heap = h0) (fun _ _ _ _ _ => True) (fun _ U o U' => ∃ v L, o = .returned v ∧ Q0 Z q0 h0 n0 v U'.heap L ∧ FrameEnd U o U' L 16 128) := by
  refine MetFree.of_bodySF (plainFor_of_name (by first | (simp [plainName, overriddenIn]; done) | decide +kernel)) hisR ?_
  intro p e s m args below meth c s₁ Bd hml0 hP hK
  obtain ⟨rfl, hZ, hh⟩ := hP
  have hx := Bd.exec
  have hby := Bd.bytes
  have hml : c.maxLocals = 5 := hml0
  have hown : s.vm.findClass "com/example/cairnlog/cairnlog/CivilDateIsLeapYearPinLaw" = some m.cls := findClass_of_methodNamed Bd.named
  have hnm := (name_of_methodNamed Bd.named Bd.method).1
  have hlk := BodyLoose.notSynchronized Bd
  have X0 : Stand p l e room_1 s m #[(.long q0)] below meth c s₁ [] 0 0 := Stand.of_body Bd
  have e0 : s₁.heap = h0 := by rw [← hh, Bd.state]; rfl
  have N0 := Fr.nil n0
  show Go p e below s (Q0 Z q0 h0 n0) 16 128 (s₁.setTop (entryFrame m #[(.long q0)] maxLocals))
  rw [ef_0]
  show Go _ _ _ _ _ _ _ (s₁.setTop (mkF m 0 #[.val (.long q0), .second, .unset, .unset, .unset] []))
  refine gob (fun _ k => XS.lloadN X0.here hx rfl (hb hby at_0) rfl k) ?_
  show Go _ _ _ _ _ _ _ (s₁.setTop (mkF m 1 #[.val (.long q0), .second, .unset, .unset, .unset] [(.long q0)]))
  obtain ⟨_, _, ⟨T1, L1, k1, n1⟩, -, X1, ⟨Lc1, hQ1, l1, y1, z1⟩, st1⟩ := Jvm.LawKit.callS X0 hx (y := (⟨"com/example/cairnlog/cairnlog/CivilDate", "isLeapYear", "(J)Z"⟩ : MethodName)) hown (mvT hZ (hw _ (List.mem_of_getElem? (i := 0) rfl))) (mvT hZ (hw _ (List.mem_of_getElem? (i := 1) rfl))) (mvT hZ (hw _ (List.mem_of_getElem? (i := 2) rfl))) (mvT hZ (hw _ (List.mem_of_getElem? (i := 3) rfl))) (by decide) (backOf (W := 0) (rm1 l Z a0 hw [] q0 h0 n0 Z0 ) hZ (hw _ (List.mem_of_getElem? (i := 3) rfl)) (hw _ (List.mem_of_getElem? (i := 2) rfl)) (by decide) (by decide)) (g := (mkF m 1 #[.val (.long q0), .second, .unset, .unset, .unset] [(.long q0)])) rfl (by rw [hml]; rfl) (argsL := [(.long q0)]) (rest := []) (lenOf pd_3 rfl) rfl (by show 2 * 0 + _ ≤ _; exact Nat.le_of_eq rfl) (hb hby at_1) (fun _ _ => ⟨rfl, e0, (by decide : 0 + 0 ≤ _), (by decide : 0 + 0 ≤ _)⟩)
  dsimp only [Pt.U, Pt.locs, Pt.cells, Pt.slots] at X1 l1 y1 z1 st1 hQ1
  subst l1 y1 z1
  obtain ⟨r_leap, rfl, hr_leap, Nq1, e1⟩ := hQ1
  have N1 := Fr.app N0 Nq1
  refine gob st1 ?_
  show Go _ _ _ _ _ _ _ (T1.setTop (mkF m 4 #[.val (.long q0), .second, .unset, .unset, .unset] [(.int r_leap)]))
  refine gob (fun _ k => XS.istoreN X1.here hx rfl (hb hby at_4) rfl (l' := #[.val (.long q0), .second, .val (.int r_leap), .unset, .unset]) rfl k) ?_
  show Go _ _ _ _ _ _ _ (T1.setTop (mkF m 5 #[.val (.long q0), .second, .val (.int r_leap), .unset, .unset] []))
  refine gob (fun _ k => XS.lloadN X1.here hx rfl (hb hby at_5) rfl k) ?_
  show Go _ _ _ _ _ _ _ (T1.setTop (mkF m 6 #[.val (.long q0), .second, .val (.int r_leap), .unset, .unset] [(.long q0)]))
  refine gob (X1.ldc2Long hx hown (mvT hZ (hw _ (List.mem_of_getElem? (i := 5) rfl))) (g := (mkF m 6 #[.val (.long q0), .second, .val (.int r_leap), .unset, .unset] [(.long q0)])) rfl (hb hby at_6)) ?_
  show Go _ _ _ _ _ _ _ (T1.setTop (mkF m 9 #[.val (.long q0), .second, .val (.int r_leap), .unset, .unset] [(.long (-9223372036854775808 : Int64)), (.long q0)]))
  refine gob (fun _ k => XS.lcmp X1.here hx rfl (hb hby at_9) rfl k) ?_
  show Go _ _ _ _ _ _ _ (T1.setTop (mkF m 10 #[.val (.long q0), .second, .val (.int r_leap), .unset, .unset] [(.int (lcmpW q0 (-9223372036854775808 : Int64)))]))
  by_cases hc10_2 : q0 = (-9223372036854775808 : Int64)
  · skip
    refine gob (fun _ k => XS.ifNo X1.here hx rfl (hb hby at_10) rfl ((if0 _ _).trans (teq ((lw_eq _ _).mpr hc10_2)).2) k) ?_
    show Go _ _ _ _ _ _ _ (T1.setTop (mkF m 13 #[.val (.long q0), .second, .val (.int r_leap), .unset, .unset] []))
    refine gob (fun _ k => XS.iloadN X1.here hx rfl (hb hby at_13) rfl k) ?_
    show Go _ _ _ _ _ _ _ (T1.setTop (mkF m 14 #[.val (.long q0), .second, .val (.int r_leap), .unset, .unset] [(.int r_leap)]))
    have hl0 := lf_0_0 q0 r_leap hr_leap hc10_2
    refine goZ X1 hx hlk (t := .boolean) Bd.returns (by simp) (hb hby at_14) (z' := 1) (by rw [hl0]; rfl) ?_ (by decide) (by decide)
    exact ⟨rfl, N1⟩
  · skip
    refine gob (fun _ k => XS.ifYes X1.here hx rfl (pc0 := 10) (pc' := 15) rfl (hb hby at_10) rfl ((if0 _ _).trans (feq (mt (lw_eq _ _).mp hc10_2)).2) (by decide) (by decide) k) ?_
    show Go _ _ _ _ _ _ _ (T1.setTop (mkF m 15 #[.val (.long q0), .second, .val (.int r_leap), .unset, .unset] []))
    obtain ⟨T3, h3, X3, e3, E3, A3, D3, -, st3⟩ := newO X1 hx hZ hown (hw _ (List.mem_of_getElem? (i := 6) rfl)) (hw _ (List.mem_of_getElem? (i := 7) rfl)) (hw _ (List.mem_of_getElem? (i := 2) rfl)) e1 (g := (mkF m 15 #[.val (.long q0), .second, .val (.int r_leap), .unset, .unset] [])) rfl (hb hby at_15) (by decide) (by decide)
    obtain ⟨b3, g3⟩ : ∃ z, z = h0.size := ⟨_, rfl⟩
    rw [← g3] at A3 D3 st3
    have g4 : n0 ≤ b3 := Nat.le_trans Z0 (Nat.le_of_eq g3.symm)
    have z5 : n0 ≤ h3.size := Nat.le_trans Z0 E3.1
    have F3_year : Fld Z h3 b3 "com/example/cairnlog/cairnlog/CivilDate" "year" "J" (.long (0 : Int64)) := D3 (Or.inr (hw _ (List.mem_of_getElem? (i := 20) rfl))) (ty := .long) (by decide)
    have F3_month : Fld Z h3 b3 "com/example/cairnlog/cairnlog/CivilDate" "month" "I" (.int (0 : Int32)) := D3 (Or.inr (hw _ (List.mem_of_getElem? (i := 22) rfl))) (ty := .int) (by decide)
    have F3_day : Fld Z h3 b3 "com/example/cairnlog/cairnlog/CivilDate" "day" "I" (.int (0 : Int32)) := D3 (Or.inr (hw _ (List.mem_of_getElem? (i := 24) rfl))) (ty := .int) (by decide)
    refine gob st3 ?_
    show Go _ _ _ _ _ _ _ (T3.setTop (mkF m 18 #[.val (.long q0), .second, .val (.int r_leap), .unset, .unset] [(.ref b3)]))
    refine gob (fun _ k => XS.dup X3.here hx rfl (hb hby at_18) rfl rfl k) ?_
    show Go _ _ _ _ _ _ _ (T3.setTop (mkF m 19 #[.val (.long q0), .second, .val (.int r_leap), .unset, .unset] [(.ref b3), (.ref b3)]))
    refine gob (fun _ k => XS.lloadN X3.here hx rfl (hb hby at_19) rfl k) ?_
    show Go _ _ _ _ _ _ _ (T3.setTop (mkF m 20 #[.val (.long q0), .second, .val (.int r_leap), .unset, .unset] [(.long q0), (.ref b3), (.ref b3)]))
    refine gob (fun _ k => XS.iconst X3.here hx rfl (hb hby at_20) k) ?_
    show Go _ _ _ _ _ _ _ (T3.setTop (mkF m 21 #[.val (.long q0), .second, .val (.int r_leap), .unset, .unset] [(.int (3 : Int32)), (.long q0), (.ref b3), (.ref b3)]))
    refine gob (fun _ k => XS.iconst X3.here hx rfl (hb hby at_21) k) ?_
    show Go _ _ _ _ _ _ _ (T3.setTop (mkF m 22 #[.val (.long q0), .second, .val (.int r_leap), .unset, .unset] [(.int (1 : Int32)), (.int (3 : Int32)), (.long q0), (.ref b3), (.ref b3)]))
    obtain ⟨_, _, ⟨T6, L6, k6, n6⟩, -, X6, ⟨Lc6, hQ6, l6, y6, z6⟩, st6⟩ := X3.specialBack hx (y := (⟨"com/example/cairnlog/cairnlog/CivilDate", "<init>", "(JII)V"⟩ : MethodName)) rfl hown (mvT hZ (hw _ (List.mem_of_getElem? (i := 8) rfl))) (mvT hZ (hw _ (List.mem_of_getElem? (i := 9) rfl))) (mvT hZ (hw _ (List.mem_of_getElem? (i := 10) rfl))) (by decide) (backOf (W := 1) (rm2 l Z a0 hw [] b3 q0 (3 : Int32) (1 : Int32) h3 n0 z5 A3 F3_year g4 F3_month F3_day) hZ (hw _ (List.mem_of_getElem? (i := 10) rfl)) (hw _ (List.mem_of_getElem? (i := 2) rfl)) (by decide) (by decide)) (g := (mkF m 22 #[.val (.long q0), .second, .val (.int r_leap), .unset, .unset] [(.int (1 : Int32)), (.int (3 : Int32)), (.long q0), (.ref b3), (.ref b3)])) rfl (by rw [hml]; rfl) (Steps.refl _) (a := b3) (argsL := [(.long q0), (.int (3 : Int32)), (.int (1 : Int32))]) (rest := [(.ref b3)]) (lenOf pd_4 rfl) rfl (by show 2 * 0 + _ ≤ _; exact Nat.le_of_eq rfl) (hb hby at_22) (fun _ _ => ⟨rfl, e3, (by decide : 1 + 0 ≤ _), (by decide : 3 + 0 ≤ _)⟩)
    dsimp only [Pt.U, Pt.locs, Pt.cells, Pt.slots] at X6 l6 y6 z6 st6 hQ6
    subst l6 y6 z6
    obtain ⟨rfl, Nq6, K6, F7, F8, F9⟩ := hQ6
    have N6 := Fr.app N1 Nq6
    have z10 : n0 ≤ T6.heap.size := Nat.le_trans z5 K6.1
    refine gob (fun _ k => st6.trans k) ?_
    show Go _ _ _ _ _ _ _ (T6.setTop (mkF m 25 #[.val (.long q0), .second, .val (.int r_leap), .unset, .unset] [(.ref b3)]))
    have c12 := (A3.keep K6)
    obtain ⟨cq11, kq11, q11a, q11b, q11c⟩ := isOf hZ (rfl : T6.heap = _) c12
    obtain ⟨_, _, ⟨T11, L11, k11, n11⟩, -, X11, ⟨Lc11, hQ11, l11, y11, z11⟩, st11⟩ := X6.virtualBack hx (y := (⟨"com/example/cairnlog/cairnlog/CivilDate", "epochDay", "()J"⟩ : MethodName)) (z := (⟨"com/example/cairnlog/cairnlog/CivilDate", "epochDay", "()J"⟩ : MethodName)) hown (mvT hZ (hw _ (List.mem_of_getElem? (i := 25) rfl))) (mvT hZ (hw _ (List.mem_of_getElem? (i := 26) rfl))) (notFace_of_selects (args := #[]) (mvT hZ (hw _ (List.mem_of_getElem? (i := 28) rfl)))) (mvT hZ (hw _ (List.mem_of_getElem? (i := 28) rfl))) (mvT hZ (hw _ (List.mem_of_getElem? (i := 27) rfl))) (by decide) (backOf (W := 0) (rm5 l Z a0 hw [] b3 q0 (3 : Int32) (1 : Int32) T6.heap n0 z10 F7 F8 F9 (by decide) (by decide) (by decide) (by decide) (own_min hc10_2)) hZ (hw _ (List.mem_of_getElem? (i := 29) rfl)) (hw _ (List.mem_of_getElem? (i := 2) rfl)) (by decide) (by decide)) q11a q11c (g := (mkF m 25 #[.val (.long q0), .second, .val (.int r_leap), .unset, .unset] [(.ref b3)])) rfl (by rw [hml]; rfl) (Steps.refl _) (argsL := []) (rest := []) (lenOf pd_5 rfl) rfl (by show 2 * 0 + _ ≤ _; exact Nat.le_of_eq rfl) (hb hby at_25) (fun _ _ => ⟨rfl, (rfl : T6.heap = _), (by decide : 1 + 0 ≤ _), (by decide : 3 + 0 ≤ _)⟩)
    dsimp only [Pt.U, Pt.locs, Pt.cells, Pt.slots] at X11 l11 y11 z11 st11 hQ11
    subst l11 y11 z11
    obtain ⟨r11, rfl, hr11, Nq11, e11⟩ := hQ11
    have N11 := Fr.app N6 Nq11
    refine gob (fun _ k => st11.trans k) ?_
    show Go _ _ _ _ _ _ _ (T11.setTop (mkF m 28 #[.val (.long q0), .second, .val (.int r_leap), .unset, .unset] [(.long r11)]))
    obtain ⟨T13, h13, X13, e13, E13, A13, D13, -, st13⟩ := newO X11 hx hZ hown (hw _ (List.mem_of_getElem? (i := 6) rfl)) (hw _ (List.mem_of_getElem? (i := 7) rfl)) (hw _ (List.mem_of_getElem? (i := 2) rfl)) e11 (g := (mkF m 28 #[.val (.long q0), .second, .val (.int r_leap), .unset, .unset] [(.long r11)])) rfl (hb hby at_28) (by decide) (by decide)
    obtain ⟨b13, g13⟩ : ∃ z, z = T6.heap.size := ⟨_, rfl⟩
    rw [← g13] at A13 D13 st13
    have n14 : b3 ≠ b13 := Nat.ne_of_lt (Nat.lt_of_lt_of_le c12.lt (Nat.le_of_eq g13.symm))
    have g15 : n0 ≤ b13 := Nat.le_trans z10 (Nat.le_of_eq g13.symm)
    have z16 : n0 ≤ h13.size := Nat.le_trans z10 E13.1
    have F13_year : Fld Z h13 b13 "com/example/cairnlog/cairnlog/CivilDate" "year" "J" (.long (0 : Int64)) := D13 (Or.inr (hw _ (List.mem_of_getElem? (i := 20) rfl))) (ty := .long) (by decide)
    have F13_month : Fld Z h13 b13 "com/example/cairnlog/cairnlog/CivilDate" "month" "I" (.int (0 : Int32)) := D13 (Or.inr (hw _ (List.mem_of_getElem? (i := 22) rfl))) (ty := .int) (by decide)
    have F13_day : Fld Z h13 b13 "com/example/cairnlog/cairnlog/CivilDate" "day" "I" (.int (0 : Int32)) := D13 (Or.inr (hw _ (List.mem_of_getElem? (i := 24) rfl))) (ty := .int) (by decide)
    refine gob st13 ?_
    show Go _ _ _ _ _ _ _ (T13.setTop (mkF m 31 #[.val (.long q0), .second, .val (.int r_leap), .unset, .unset] [(.ref b13), (.long r11)]))
    refine gob (fun _ k => XS.dup X13.here hx rfl (hb hby at_31) rfl rfl k) ?_
    show Go _ _ _ _ _ _ _ (T13.setTop (mkF m 32 #[.val (.long q0), .second, .val (.int r_leap), .unset, .unset] [(.ref b13), (.ref b13), (.long r11)]))
    refine gob (fun _ k => XS.lloadN X13.here hx rfl (hb hby at_32) rfl k) ?_
    show Go _ _ _ _ _ _ _ (T13.setTop (mkF m 33 #[.val (.long q0), .second, .val (.int r_leap), .unset, .unset] [(.long q0), (.ref b13), (.ref b13), (.long r11)]))
    refine gob (fun _ k => XS.iconst X13.here hx rfl (hb hby at_33) k) ?_
    show Go _ _ _ _ _ _ _ (T13.setTop (mkF m 34 #[.val (.long q0), .second, .val (.int r_leap), .unset, .unset] [(.int (2 : Int32)), (.long q0), (.ref b13), (.ref b13), (.long r11)]))
    refine gob (fun _ k => XS.bipush X13.here hx rfl (hb hby at_34) k) ?_
    show Go _ _ _ _ _ _ _ (T13.setTop (mkF m 36 #[.val (.long q0), .second, .val (.int r_leap), .unset, .unset] [(.int (28 : Int32)), (.int (2 : Int32)), (.long q0), (.ref b13), (.ref b13), (.long r11)]))
    obtain ⟨_, _, ⟨T17, L17, k17, n17⟩, -, X17, ⟨Lc17, hQ17, l17, y17, z17⟩, st17⟩ := X13.specialBack hx (y := (⟨"com/example/cairnlog/cairnlog/CivilDate", "<init>", "(JII)V"⟩ : MethodName)) rfl hown (mvT hZ (hw _ (List.mem_of_getElem? (i := 8) rfl))) (mvT hZ (hw _ (List.mem_of_getElem? (i := 9) rfl))) (mvT hZ (hw _ (List.mem_of_getElem? (i := 10) rfl))) (by decide) (backOf (W := 3) (rm2 l Z a0 hw [] b13 q0 (2 : Int32) (28 : Int32) h13 n0 z16 A13 F13_year g15 F13_month F13_day) hZ (hw _ (List.mem_of_getElem? (i := 10) rfl)) (hw _ (List.mem_of_getElem? (i := 2) rfl)) (by decide) (by decide)) (g := (mkF m 36 #[.val (.long q0), .second, .val (.int r_leap), .unset, .unset] [(.int (28 : Int32)), (.int (2 : Int32)), (.long q0), (.ref b13), (.ref b13), (.long r11)])) rfl (by rw [hml]; rfl) (Steps.refl _) (a := b13) (argsL := [(.long q0), (.int (2 : Int32)), (.int (28 : Int32))]) (rest := [(.ref b13), (.long r11)]) (lenOf pd_4 rfl) rfl (by show 2 * 0 + _ ≤ _; exact Nat.le_of_eq rfl) (hb hby at_36) (fun _ _ => ⟨rfl, e13, (by decide : 2 + 0 ≤ _), (by decide : 6 + 0 ≤ _)⟩)
    dsimp only [Pt.U, Pt.locs, Pt.cells, Pt.slots] at X17 l17 y17 z17 st17 hQ17
    subst l17 y17 z17
    obtain ⟨rfl, Nq17, K17, F18, F19, F20⟩ := hQ17
    have N17 := Fr.app N11 Nq17
    have z21 : n0 ≤ T17.heap.size := Nat.le_trans z16 K17.1
    refine gob (fun _ k => st17.trans k) ?_
    show Go _ _ _ _ _ _ _ (T17.setTop (mkF m 39 #[.val (.long q0), .second, .val (.int r_leap), .unset, .unset] [(.ref b13), (.long r11)]))
    have c23 := (A13.keep K17)
    obtain ⟨cq22, kq22, q22a, q22b, q22c⟩ := isOf hZ (rfl : T17.heap = _) c23
    obtain ⟨_, _, ⟨T22, L22, k22, n22⟩, -, X22, ⟨Lc22, hQ22, l22, y22, z22⟩, st22⟩ := X17.virtualBack hx (y := (⟨"com/example/cairnlog/cairnlog/CivilDate", "epochDay", "()J"⟩ : MethodName)) (z := (⟨"com/example/cairnlog/cairnlog/CivilDate", "epochDay", "()J"⟩ : MethodName)) hown (mvT hZ (hw _ (List.mem_of_getElem? (i := 25) rfl))) (mvT hZ (hw _ (List.mem_of_getElem? (i := 26) rfl))) (notFace_of_selects (args := #[]) (mvT hZ (hw _ (List.mem_of_getElem? (i := 28) rfl)))) (mvT hZ (hw _ (List.mem_of_getElem? (i := 28) rfl))) (mvT hZ (hw _ (List.mem_of_getElem? (i := 27) rfl))) (by decide) (backOf (W := 2) (rm5 l Z a0 hw [] b13 q0 (2 : Int32) (28 : Int32) T17.heap n0 z21 F18 F19 F20 (by decide) (by decide) (by decide) (by decide) (own_min hc10_2)) hZ (hw _ (List.mem_of_getElem? (i := 29) rfl)) (hw _ (List.mem_of_getElem? (i := 2) rfl)) (by decide) (by decide)) q22a q22c (g := (mkF m 39 #[.val (.long q0), .second, .val (.int r_leap), .unset, .unset] [(.ref b13), (.long r11)])) rfl (by rw [hml]; rfl) (Steps.refl _) (argsL := []) (rest := [(.long r11)]) (lenOf pd_5 rfl) rfl (by show 2 * 0 + _ ≤ _; exact Nat.le_of_eq rfl) (hb hby at_39) (fun _ _ => ⟨rfl, (rfl : T17.heap = _), (by decide : 2 + 0 ≤ _), (by decide : 6 + 0 ≤ _)⟩)
    dsimp only [Pt.U, Pt.locs, Pt.cells, Pt.slots] at X22 l22 y22 z22 st22 hQ22
    subst l22 y22 z22
    obtain ⟨r22, rfl, hr22, Nq22, e22⟩ := hQ22
    have N22 := Fr.app N17 Nq22
    refine gob (fun _ k => st22.trans k) ?_
    show Go _ _ _ _ _ _ _ (T22.setTop (mkF m 42 #[.val (.long q0), .second, .val (.int r_leap), .unset, .unset] [(.long r22), (.long r11)]))
    refine gob (fun _ k => XS.lsub X22.here hx rfl (hb hby at_42) rfl k) ?_
    show Go _ _ _ _ _ _ _ (T22.setTop (mkF m 43 #[.val (.long q0), .second, .val (.int r_leap), .unset, .unset] [(.long (r11 - r22))]))
    refine gob (fun _ k => XS.lstoreN X22.here hx rfl (hb hby at_43) rfl (l' := #[.val (.long q0), .second, .val (.int r_leap), .val (.long (r11 - r22)), .second]) rfl k) ?_
    show Go _ _ _ _ _ _ _ (T22.setTop (mkF m 44 #[.val (.long q0), .second, .val (.int r_leap), .val (.long (r11 - r22)), .second] []))
    generalize hx24 : (r11 - r22) = x24
    show Go _ _ _ _ _ _ _ (T22.setTop (mkF m 44 #[.val (.long q0), .second, .val (.int r_leap), .val (.long x24), .second] []))
    refine gob (fun _ k => XS.iloadN X22.here hx rfl (hb hby at_44) rfl k) ?_
    show Go _ _ _ _ _ _ _ (T22.setTop (mkF m 45 #[.val (.long q0), .second, .val (.int r_leap), .val (.long x24), .second] [(.int r_leap)]))
    by_cases hc45_25 : r_leap = (0 : Int32)
    · skip
      refine gob (fun _ k => XS.ifYes X22.here hx rfl (pc0 := 45) (pc' := 62) rfl (hb hby at_45) rfl ((if0 _ _).trans (teq hc45_25).1) (by decide) (by decide) k) ?_
      show Go _ _ _ _ _ _ _ (T22.setTop (mkF m 62 #[.val (.long q0), .second, .val (.int r_leap), .val (.long x24), .second] []))
      refine gob (fun _ k => XS.lloadN X22.here hx rfl (hb hby at_62) rfl k) ?_
      show Go _ _ _ _ _ _ _ (T22.setTop (mkF m 63 #[.val (.long q0), .second, .val (.int r_leap), .val (.long x24), .second] [(.long x24)]))
      refine gob (fun _ k => XS.lconst X22.here hx rfl (hb hby at_63) k) ?_
      show Go _ _ _ _ _ _ _ (T22.setTop (mkF m 64 #[.val (.long q0), .second, .val (.int r_leap), .val (.long x24), .second] [(.long (1 : Int64)), (.long x24)]))
      refine gob (fun _ k => XS.lcmp X22.here hx rfl (hb hby at_64) rfl k) ?_
      show Go _ _ _ _ _ _ _ (T22.setTop (mkF m 65 #[.val (.long q0), .second, .val (.int r_leap), .val (.long x24), .second] [(.int (lcmpW x24 (1 : Int64)))]))
      have hd27 : x24 = (1 : Int64) := ld_0_65_26 q0 r_leap r11 r22 x24 hr_leap hc10_2 hr11 hr22 hx24 hc45_25
      refine gob (fun _ k => XS.ifNo X22.here hx rfl (hb hby at_65) rfl ((if0 _ _).trans (teq ((lw_eq _ _).mpr hd27)).2) k) ?_
      show Go _ _ _ _ _ _ _ (T22.setTop (mkF m 68 #[.val (.long q0), .second, .val (.int r_leap), .val (.long x24), .second] []))
      refine gob (fun _ k => XS.iconst X22.here hx rfl (hb hby at_68) k) ?_
      show Go _ _ _ _ _ _ _ (T22.setTop (mkF m 69 #[.val (.long q0), .second, .val (.int r_leap), .val (.long x24), .second] [(.int (1 : Int32))]))
      refine gob (fun _ k => XS.goto X22.here hx rfl (pc0 := 69) (pc' := 73) rfl (hb hby at_69) (by decide) (by decide) k) ?_
      show Go _ _ _ _ _ _ _ (T22.setTop (mkF m 73 #[.val (.long q0), .second, .val (.int r_leap), .val (.long x24), .second] [(.int (1 : Int32))]))
      refine goZ X22 hx hlk (t := .boolean) Bd.returns (by simp) (hb hby at_73) (z' := (1 : Int32)) rfl ?_ (by decide) (by decide)
      show Q0 Z q0 h0 n0 (some (.int (1 : Int32))) T22.heap _
      exact ⟨rfl, N22⟩
    · skip
      refine gob (fun _ k => XS.ifNo X22.here hx rfl (hb hby at_45) rfl ((if0 _ _).trans (feq hc45_25).1) k) ?_
      show Go _ _ _ _ _ _ _ (T22.setTop (mkF m 48 #[.val (.long q0), .second, .val (.int r_leap), .val (.long x24), .second] []))
      refine gob (fun _ k => XS.lloadN X22.here hx rfl (hb hby at_48) rfl k) ?_
      show Go _ _ _ _ _ _ _ (T22.setTop (mkF m 49 #[.val (.long q0), .second, .val (.int r_leap), .val (.long x24), .second] [(.long x24)]))
      refine gob (X22.ldc2Long hx hown (mvT hZ (hw _ (List.mem_of_getElem? (i := 41) rfl))) (g := (mkF m 49 #[.val (.long q0), .second, .val (.int r_leap), .val (.long x24), .second] [(.long x24)])) rfl (hb hby at_49)) ?_
      show Go _ _ _ _ _ _ _ (T22.setTop (mkF m 52 #[.val (.long q0), .second, .val (.int r_leap), .val (.long x24), .second] [(.long (2 : Int64)), (.long x24)]))
      refine gob (fun _ k => XS.lcmp X22.here hx rfl (hb hby at_52) rfl k) ?_
      show Go _ _ _ _ _ _ _ (T22.setTop (mkF m 53 #[.val (.long q0), .second, .val (.int r_leap), .val (.long x24), .second] [(.int (lcmpW x24 (2 : Int64)))]))
      have hd29 : x24 = (2 : Int64) := ld_0_53_28 q0 r_leap r11 r22 x24 hr_leap hc10_2 hr11 hr22 hx24 hc45_25
      refine gob (fun _ k => XS.ifNo X22.here hx rfl (hb hby at_53) rfl ((if0 _ _).trans (teq ((lw_eq _ _).mpr hd29)).2) k) ?_
      show Go _ _ _ _ _ _ _ (T22.setTop (mkF m 56 #[.val (.long q0), .second, .val (.int r_leap), .val (.long x24), .second] []))
      refine gob (fun _ k => XS.iconst X22.here hx rfl (hb hby at_56) k) ?_
      show Go _ _ _ _ _ _ _ (T22.setTop (mkF m 57 #[.val (.long q0), .second, .val (.int r_leap), .val (.long x24), .second] [(.int (1 : Int32))]))
      refine gob (fun _ k => XS.goto X22.here hx rfl (pc0 := 57) (pc' := 61) rfl (hb hby at_57) (by decide) (by decide) k) ?_
      show Go _ _ _ _ _ _ _ (T22.setTop (mkF m 61 #[.val (.long q0), .second, .val (.int r_leap), .val (.long x24), .second] [(.int (1 : Int32))]))
      refine goZ X22 hx hlk (t := .boolean) Bd.returns (by simp) (hb hby at_61) (z' := (1 : Int32)) rfl ?_ (by decide) (by decide)
      show Q0 Z q0 h0 n0 (some (.int (1 : Int32))) T22.heap _
      exact ⟨rfl, N22⟩
set_option maxRecDepth 65536 in
set_option maxHeartbeats 40000000 in
theorem comes_1 {Post : Tables → Env → Array Value → State → Outcome → State → Prop} (hpost : ∀ tb e args s v u, (limb_1_1.after args s (.returned v) u = true ∧ limb_1_2.after args s (.returned v) u = true ∧ True) → FrameEnd s (.returned v) u (Jvm.fieldLocs frame_1_writes args s ++ Jvm.arrayLocs frame_1_arrays args s ++ Jvm.staticLocs frame_1_statics s) 16 128 → Post tb e args s (.returned v) u) :
    ArmFor flags0 classFile x code maxLocals ret World_1 tables_1 room_1 Calls_1 rest_1 Pre_1 Post := by
  intro l hfl _ _ p e ha hc hk s m args below hf hA hF happ hP
  obtain ⟨hcalls, hrest, hpre⟩ := hP
  obtain ⟨-, -, -, hnamed, -, -, -, hat⟩ := (Spec.applies_iff hf).mp happ
  obtain ⟨hg, hn⟩ := and_e (Cond.before_iff.mp (show (Jvm.Cond.and given_1 narrow_1).before args s = true from hpre))
  obtain ⟨g1, g2⟩ := and_e hg
  obtain ⟨w0, rfl⟩ : ∃ w0 : Value, args = #[w0] := by
    have hs : args.size = 1 := by simpa [Cond.value, given_1] using g1
    obtain ⟨L⟩ := args
    match L, hs with
    | [w0], _ => exact ⟨w0, rfl⟩
  have hw := fun d (hd : d ∈ tables_1) => atoms_spec (ws := Jvm.Cond.code x code maxLocals ret :: tables_1) hat d (List.mem_cons_of_mem _ hd)
  have hfit : Fit s := fun {y c} hc i hi => by
    obtain ⟨ha, rfl⟩ := Array.getElem?_eq_some_iff.mp hc
    have q := List.all_eq_true.mp ((Array.all_eq_true_iff_forall_mem.mp hF) _ (Array.getElem_mem ha)) i (List.mem_range.mpr hi)
    simpa [Array.getElem?_eq_getElem hi] using q
  obtain ⟨i0, ei0⟩ := isL_v g2
  obtain rfl : w0 = (.long i0) := Option.some.inj ei0
  obtain ⟨n, o, h1, h2, h3, _, L, rfl, ⟨rfl, N⟩, hq⟩ := rm0 l s _ hw tables_1 i0 s.heap s.heap.size (Nat.le_refl _)  p e ha hc hk s m _ below hf ((Spec.applies_iff_loose hf).mp happ).1 ⟨rfl, State.Warmed39.refl s, rfl⟩ trivial
  exact ⟨n, _, h1, h2, h3, hpost _ _ _ _ _ _ ⟨Cond.after_iff.mpr rfl, Cond.after_iff.mpr (eq_i res_at (Term.int_eval (1)) rfl), trivial⟩ ⟨hq.1, hq.2.1, (hq.2.2.sift fun y hy => Or.inr (N y hy)).mono (by decide) (by decide)⟩⟩
theorem main_1_1 : Claimed_1_1 := comes_1 fun _ _ _ _ _ _ h hF => ⟨h.1, hF⟩
theorem main_1_2 : Claimed_1_2 := comes_1 fun _ _ _ _ _ _ h hF => ⟨h.2.1, hF⟩
end Jvm.Pilot.@@N@@
namespace Jvm.Pilot.@@N@@
open Jvm Jvm.ClassFile Sem Op Lib Jvm.Free Jvm.Stand Jvm.Pilot.@@N@@.Jvm.D
/-! MADE BY PROGRAM (witnessworld.py) out of the Statement's table words and the real class files: 11 classes; the members and pool entries that the words name. The judged class is class 1, her method 1. -/
namespace start1
open Jvm.ClassFile
def u (s : String) : CpInfo := .utf8 (stringToUtf16 s)
/-- a pool by its gaps: so many unusable entries, then the entry; so many at the end -/
def gap : Nat → List CpInfo → List CpInfo
  | 0, r => r
  | n + 1, r => .unusable :: gap n r
def poolList (es : List (Nat × CpInfo)) (last : Nat) : List CpInfo := es.foldr (fun e r => gap e.1 (e.2 :: r)) (gap last [])
def pool (es : List (Nat × CpInfo)) (last : Nat) : Array CpInfo := ⟨poolList es last⟩
def fileOf (pool : Array CpInfo) (this : Nat) (attrs : Array Attribute := #[]) (ms : Array MethodInfo := #[]) (fl : Nat := 33) (sup : Nat := 0) (ifs : Array Nat := #[]) (fds : Array FieldInfo := #[]) : ClassFile where
  minorVersion := 0
  majorVersion := 65
  constantPool := pool
  accessFlags := fl
  thisClass := this
  superClass := sup
  interfaces := ifs
  fields := fds
  methods := ms
  attributes := attrs
def plain (name : String) (sup : Option ClassId) : Class where
  name := name
  kind := .ordinary
  loader := none
  accessFlags := 33
  super := sup
  interfaces := #[]
  cf := none
  fields := #[]
  methods := #[]
  instanceTypes := #[]
  staticTypes := #[]
  resolved := #[]
  callSites := []
  init := .initialized
  statics := none
  mirror := none

def pool0 : Array CpInfo := pool [(5, u "<init>"), (0, u "()V"), (1, .class_ 10), (1, u "java/lang/Object")] 113

def k0c0 : Code := { maxStack := 0, maxLocals := 1, code := object_method_1_code, exceptionTable := #[], attributes := #[] }
def k0m0 : Method := { name := "<init>", desc := "()V", sig := { parameters := [], returnType := none }, accessFlags := 1, code := some k0c0 }
/-- java/lang/Object -/
def k0 : Class := { plain "java/lang/Object" none with
  accessFlags := 33
  interfaces := #[]
  cf := some (fileOf pool0 8 #[] #[{ accessFlags := 1, nameIndex := 5, descriptorIndex := 6, attributes := #[] }] 33 0 #[] #[])
  fields := #[]
  methods := #[k0m0]
  instanceTypes := #[]
  staticTypes := #[]
  resolved := Array.replicate 124 none
  statics := none }

def pool1 : Array CpInfo := pool [(2, .class_ 4), (1, u "java/lang/Object"), (0, u "<init>"), (0, u "()V"), (0, .methodref 8 9), (0, .class_ 10), (0, .nameAndType 11 12), (0, u "com/example/cairnlog/cairnlog/CivilDate"), (0, u "isLeapYear"), (0, u "(J)Z"), (2, .long 9223372036854775808), (1, .methodref 8 18), (0, .nameAndType 5 19), (0, u "(JII)V"), (0, .methodref 8 21), (0, .nameAndType 22 23), (0, u "epochDay"), (0, u "()J"), (0, .long 2), (1, .class_ 27), (0, u "com/example/cairnlog/cairnlog/CivilDateIsLeapYearPinLaw"), (2, u "law")] 3

def k1m0 : Method := { name := "<init>", desc := "()V", sig := { parameters := [], returnType := none }, accessFlags := 1, code := none }
def k1c1 : Code := { maxStack := 8, maxLocals := 5, code := code, exceptionTable := #[], attributes := #[] }
def k1m1 : Method := { name := "law", desc := "(J)Z", sig := { parameters := [.long], returnType := some .boolean }, accessFlags := 9, code := some k1c1 }
/-- com/example/cairnlog/cairnlog/CivilDateIsLeapYearPinLaw -/
def k1 : Class := { plain "com/example/cairnlog/cairnlog/CivilDateIsLeapYearPinLaw" (some 0) with
  accessFlags := 49
  interfaces := #[]
  cf := some (fileOf pool1 26 #[] #[{ accessFlags := 1, nameIndex := 5, descriptorIndex := 6, attributes := #[] }, { accessFlags := 9, nameIndex := 30, descriptorIndex := 12, attributes := #[] }] 49 2 #[] #[])
  fields := #[]
  methods := #[k1m0, k1m1]
  instanceTypes := #[]
  staticTypes := #[]
  resolved := Array.replicate 34 none
  statics := none }

def pool2 : Array CpInfo := pool [(1, .methodref 2 3), (0, .class_ 4), (0, .nameAndType 5 6), (0, u "java/lang/Object"), (0, u "<init>"), (0, u "()V"), (0, .class_ 8), (0, u "java/lang/Record")] 13

def k2c0 : Code := { maxStack := 1, maxLocals := 1, code := jdk_30_method_1_code, exceptionTable := #[], attributes := #[] }
def k2m0 : Method := { name := "<init>", desc := "()V", sig := { parameters := [], returnType := none }, accessFlags := 4, code := some k2c0 }
/-- java/lang/Record -/
def k2 : Class := { plain "java/lang/Record" (some 0) with
  accessFlags := 1057
  interfaces := #[]
  cf := some (fileOf pool2 7 #[] #[{ accessFlags := 4, nameIndex := 5, descriptorIndex := 6, attributes := #[] }] 1057 2 #[] #[])
  fields := #[]
  methods := #[k2m0]
  instanceTypes := #[]
  staticTypes := #[]
  resolved := Array.replicate 22 none
  statics := none }

def pool3 : Array CpInfo := pool [(1, .methodref 2 3), (0, .class_ 4), (0, .nameAndType 5 6), (0, u "java/lang/Record"), (0, u "<init>"), (0, u "()V"), (0, .fieldref 8 9), (0, .class_ 10), (0, .nameAndType 11 12), (0, u "com/example/cairnlog/cairnlog/CivilDate"), (0, u "year"), (0, u "J"), (0, .fieldref 8 14), (0, .nameAndType 15 16), (0, u "month"), (0, u "I"), (0, .fieldref 8 18), (0, .nameAndType 19 16), (0, u "day"), (0, .long 719468), (1, .long 146097), (2, .class_ 27), (1, u "java/lang/Math"), (0, u "floorDiv"), (3, .long 400), (3, u "(JII)V"), (0, .methodref 25 38), (0, .nameAndType 28 39), (0, u "(JI)J"), (0, .long 4), (5, .long 100), (13, u "DAYS_PER_400_YEARS"), (1, u "DAYS_FROM_MARCH_0000"), (6, u "epochDay"), (0, u "()J"), (2, u "isLeapYear"), (0, u "(J)Z")] 25

def k3c0 : Code := { maxStack := 3, maxLocals := 5, code := prog_4_method_1_code, exceptionTable := #[], attributes := #[] }
def k3m0 : Method := { name := "<init>", desc := "(JII)V", sig := { parameters := [.long, .int, .int], returnType := none }, accessFlags := 0, code := some k3c0 }
def k3c1 : Code := { maxStack := 6, maxLocals := 9, code := prog_4_method_3_code, exceptionTable := #[], attributes := #[] }
def k3m1 : Method := { name := "epochDay", desc := "()J", sig := { parameters := [], returnType := some .long }, accessFlags := 0, code := some k3c1 }
def k3c2 : Code := { maxStack := 4, maxLocals := 2, code := prog_4_method_5_code, exceptionTable := #[], attributes := #[] }
def k3m2 : Method := { name := "isLeapYear", desc := "(J)Z", sig := { parameters := [.long], returnType := some .boolean }, accessFlags := 8, code := some k3c2 }
/-- com/example/cairnlog/cairnlog/CivilDate -/
def k3 : Class := { plain "com/example/cairnlog/cairnlog/CivilDate" (some 2) with
  accessFlags := 48
  interfaces := #[]
  cf := some (fileOf pool3 8 #[] #[{ accessFlags := 0, nameIndex := 5, descriptorIndex := 36, attributes := #[] }, { accessFlags := 0, nameIndex := 69, descriptorIndex := 70, attributes := #[] }, { accessFlags := 8, nameIndex := 73, descriptorIndex := 74, attributes := #[] }] 48 2 #[] #[{ accessFlags := 18, nameIndex := 11, descriptorIndex := 12, attributes := #[] }, { accessFlags := 18, nameIndex := 15, descriptorIndex := 16, attributes := #[] }, { accessFlags := 18, nameIndex := 19, descriptorIndex := 16, attributes := #[] }, { accessFlags := 26, nameIndex := 60, descriptorIndex := 12, attributes := #[] }, { accessFlags := 26, nameIndex := 62, descriptorIndex := 12, attributes := #[] }])
  fields := #[{ name := "year", type := .long, accessFlags := 18, slot := 0, constantValue := 0 }, { name := "month", type := .int, accessFlags := 18, slot := 1, constantValue := 0 }, { name := "day", type := .int, accessFlags := 18, slot := 2, constantValue := 0 }, { name := "DAYS_PER_400_YEARS", type := .long, accessFlags := 26, slot := 0, constantValue := 0 }, { name := "DAYS_FROM_MARCH_0000", type := .long, accessFlags := 26, slot := 1, constantValue := 0 }]
  methods := #[k3m0, k3m1, k3m2]
  instanceTypes := #[.long, .int, .int]
  staticTypes := #[.long, .long]
  resolved := Array.replicate 100 none
  statics := none }

def pool4 : Array CpInfo := pool [(1, .class_ 2), (0, u "java/lang/Math"), (1, .class_ 6), (1, u "java/lang/Object"), (0, u "<init>"), (0, u "()V"), (89, .class_ 100), (1, u "java/lang/Math$RandomNumberGeneratorHolder"), (20, u "(JJ)J"), (21, .methodref 1 144), (0, .nameAndType 145 121), (0, u "floorDiv"), (26, u "negativeZeroFloatBits"), (0, u "J"), (2, u "negativeZeroDoubleBits"), (68, u "$assertionsDisabled"), (0, u "Z"), (91, u "twoToTheDoubleScaleDown"), (0, u "D"), (4, u "twoToTheDoubleScaleUp"), (9, u "E"), (3, u "PI"), (2, u "TAU"), (2, u "DEGREES_TO_RADIANS"), (0, u "RADIANS_TO_DEGREES"), (29, u "(JI)J")] 64

def k4m0 : Method := { name := "<init>", desc := "()V", sig := { parameters := [], returnType := none }, accessFlags := 2, code := none }
def k4c1 : Code := { maxStack := 4, maxLocals := 3, code := jdk_29_method_48_code, exceptionTable := #[], attributes := #[] }
def k4m1 : Method := { name := "floorDiv", desc := "(JI)J", sig := { parameters := [.long, .int], returnType := some .long }, accessFlags := 9, code := some k4c1 }
def k4c2 : Code := { maxStack := 4, maxLocals := 6, code := jdk_29_method_49_code, exceptionTable := #[], attributes := #[] }
def k4m2 : Method := { name := "floorDiv", desc := "(JJ)J", sig := { parameters := [.long, .long], returnType := some .long }, accessFlags := 9, code := some k4c2 }
/-- java/lang/Math -/
def k4 : Class := { plain "java/lang/Math" (some 0) with
  accessFlags := 49
  interfaces := #[]
  cf := some (fileOf pool4 1 #[.nestMembers #[98]] #[{ accessFlags := 2, nameIndex := 7, descriptorIndex := 8, attributes := #[] }, { accessFlags := 9, nameIndex := 145, descriptorIndex := 395, attributes := #[] }, { accessFlags := 9, nameIndex := 145, descriptorIndex := 121, attributes := #[] }] 49 4 #[] #[{ accessFlags := 25, nameIndex := 354, descriptorIndex := 339, attributes := #[] }, { accessFlags := 25, nameIndex := 358, descriptorIndex := 339, attributes := #[] }, { accessFlags := 25, nameIndex := 361, descriptorIndex := 339, attributes := #[] }, { accessFlags := 26, nameIndex := 364, descriptorIndex := 339, attributes := #[] }, { accessFlags := 26, nameIndex := 365, descriptorIndex := 339, attributes := #[] }, { accessFlags := 26, nameIndex := 172, descriptorIndex := 173, attributes := #[] }, { accessFlags := 26, nameIndex := 176, descriptorIndex := 173, attributes := #[] }, { accessFlags := 8, nameIndex := 344, descriptorIndex := 339, attributes := #[] }, { accessFlags := 8, nameIndex := 338, descriptorIndex := 339, attributes := #[] }, { accessFlags := 4120, nameIndex := 245, descriptorIndex := 246, attributes := #[] }])
  fields := #[{ name := "E", type := .double, accessFlags := 25, slot := 0, constantValue := 0 }, { name := "PI", type := .double, accessFlags := 25, slot := 1, constantValue := 0 }, { name := "TAU", type := .double, accessFlags := 25, slot := 2, constantValue := 0 }, { name := "DEGREES_TO_RADIANS", type := .double, accessFlags := 26, slot := 3, constantValue := 0 }, { name := "RADIANS_TO_DEGREES", type := .double, accessFlags := 26, slot := 4, constantValue := 0 }, { name := "negativeZeroFloatBits", type := .long, accessFlags := 26, slot := 5, constantValue := 0 }, { name := "negativeZeroDoubleBits", type := .long, accessFlags := 26, slot := 6, constantValue := 0 }, { name := "twoToTheDoubleScaleUp", type := .double, accessFlags := 8, slot := 7, constantValue := 0 }, { name := "twoToTheDoubleScaleDown", type := .double, accessFlags := 8, slot := 8, constantValue := 0 }, { name := "$assertionsDisabled", type := .boolean, accessFlags := 4120, slot := 9, constantValue := 0 }]
  methods := #[k4m0, k4m1, k4m2]
  instanceTypes := #[]
  staticTypes := #[.double, .double, .double, .double, .double, .long, .long, .double, .double, .boolean]
  resolved := Array.replicate 460 none
  statics := none }

def pool5 : Array CpInfo := pool [(1, u "java/lang/Cloneable"), (0, .class_ 1), (0, u "java/lang/Object"), (0, .class_ 3)] 3

/-- java/lang/Cloneable -/
def k5 : Class := { plain "java/lang/Cloneable" (some 0) with
  accessFlags := 1537
  interfaces := #[]
  cf := some (fileOf pool5 2 #[] #[] 1537 4 #[] #[])
  fields := #[]
  methods := #[]
  instanceTypes := #[]
  staticTypes := #[]
  resolved := Array.replicate 8 none
  statics := none }

def pool6 : Array CpInfo := pool [(1, u "java/io/Serializable"), (0, .class_ 1), (0, u "java/lang/Object"), (0, .class_ 3)] 3

/-- java/io/Serializable -/
def k6 : Class := { plain "java/io/Serializable" (some 0) with
  accessFlags := 1537
  interfaces := #[]
  cf := some (fileOf pool6 2 #[] #[] 1537 4 #[] #[])
  fields := #[]
  methods := #[]
  instanceTypes := #[]
  staticTypes := #[]
  resolved := Array.replicate 8 none
  statics := none }

/-- the primitive byte -/
def k7 : Class := { plain "byte" none with kind := .primitive 'B', accessFlags := 0x411 }
/-- [B -/
def k8 : Class := { plain "[B" (some 0) with kind := .array 7 .byte, interfaces := #[5, 6], accessFlags := 1041 }

/-- the primitive int -/
def k9 : Class := { plain "int" none with kind := .primitive 'I', accessFlags := 0x411 }
/-- [I -/
def k10 : Class := { plain "[I" (some 0) with kind := .array 9 .int, interfaces := #[5, 6], accessFlags := 1041 }

def heap : Heap := #[]
def classes : Array Class := #[k0, k1, k2, k3, k4, k5, k6, k7, k8, k9, k10]
def interned : List (Array UInt16 × Addr) := []
def slotsUsed : Nat := 0
def theMethod : MethodId := ⟨1, 1⟩
def args0 : Array Value := #[.long 2024]
def aboutOver (below : List Frame) : State where
  vm := { classes := classes, interned := interned.toArray }
  heap := heap
  slotsUsed := slotsUsed
  threads := #[{ frames := .invoking theMethod args0 :: below }]
def below0 : List Frame := [.native { method := ⟨0, 0⟩, args := #[] }]
def about1 : State := aboutOver below0
def p0 : Program := .bare "" "" ""
def e0 : Env := launch0.env 0 0 0
theorem w_frames : about1.frames = Frame.invoking theMethod args0 :: below0 := rfl
set_option maxRecDepth 65536 in
theorem w_args : argsFit about1.vm theMethod args0 = true := by decide +kernel
set_option maxRecDepth 65536 in
theorem w_heap : heapFits about1 = true := by decide +kernel
set_option maxRecDepth 65536 in
theorem w_runnable : about1.curStatus? = some .runnable := by decide +kernel
set_option maxRecDepth 65536 in
theorem w_alone : about1.alone = true := by decide +kernel
set_option maxRecDepth 65536 in
theorem w_named : about1.methodNamed? x = some theMethod := by decide +kernel
set_option maxRecDepth 65536 in
theorem w_hears : about1.hears theMethod below0 = true := by decide +kernel
set_option maxRecDepth 65536 in
theorem w_ripe : about1.ripe theMethod args0 below0 = true := by decide +kernel
theorem w_running : about1.status = .running := rfl
set_option maxRecDepth 65536 in
theorem w_room : about1.hasRoom e0.platform room_1 = true :=
  launch0.hasRoom_least _ room_1 (by decide +kernel) (by decide +kernel) (by decide +kernel) (by decide +kernel) (by decide +kernel) (by decide +kernel)
theorem allAtoms_all (ts : List Jvm.Cond) (a : Array Jvm.Value) (st : Jvm.State) : (allAtoms ts).before a st = ts.all (fun c => c.before a st) := by
  induction ts with
  | nil => rfl
  | cons c t ih =>
    show (Jvm.Cond.and c (allAtoms t)).before a st = _
    rw [Jvm.Cond.before_and, ih, List.all_cons]
def words1 : List Jvm.Cond := Jvm.Cond.code x code maxLocals ret :: tables_1
/-- a 'code' word, met by the world's own term for the bytes: nothing is compared byte by byte -/
theorem code_word {y : MethodName} {bytes : ByteArray} {mx : Nat} {rt : Option FieldType} {a : Array Value} {s : State} {m : MethodId} {meth : Method} {c : Code} (h1 : s.methodNamed? y = some m) (h2 : s.vm.method? m = some meth) (h3 : meth.code = some c) (h4 : c.code = bytes)
    (h5 : (c.maxLocals == mx && c.exceptionTable.isEmpty && decide (c.maxStack ≤ mostOperands) && decide (meth.sig.returnType = rt) && !meth.locks && decide (parseMethodDescriptor y.desc = some meth.sig)) = true) : (Jvm.Cond.code y bytes mx rt).before a s = true := by
  simp only [Bool.and_eq_true, beq_iff_eq, Bool.not_eq_true', decide_eq_true_eq] at h5
  obtain ⟨⟨⟨⟨⟨g1, g2⟩, g3⟩, g4⟩, g5⟩, g6⟩ := h5
  simp [Cond.before, Cond.holds, Cond.value, h1, h2, h3, h4, g1, g2, g3, g4, g5, g6]
def isCode : Jvm.Cond → Bool
  | .code _ _ _ _ => true
  | _ => false
theorem all_split {L : List Jvm.Cond} {P : Jvm.Cond → Bool} (h1 : L.all (fun c => isCode c || P c) = true) (h2 : ∀ c ∈ L.filter isCode, P c = true) : L.all P = true := by
  refine List.all_eq_true.mpr fun c hc => ?_
  have h := List.all_eq_true.mp h1 c hc
  rcases Bool.eq_false_or_eq_true (isCode c) with hi | hi
  · exact h2 c (List.mem_filter.mpr ⟨hc, hi⟩)
  · simpa [hi] using h
set_option maxRecDepth 65536 in
theorem w_c0 : (Jvm.Cond.code x code maxLocals ret).before args0 about1 = true := code_word (m := ⟨1, 1⟩) (meth := k1m1) (c := k1c1) (by decide +kernel) rfl rfl rfl (by decide +kernel)
set_option maxRecDepth 65536 in
theorem w_c1 : (Jvm.Cond.code ({ cls := "com/example/cairnlog/cairnlog/CivilDate", name := "isLeapYear", desc := "(J)Z" } : Jvm.MethodName) prog_4_method_5_code (2 : Nat) (Option.some Jvm.ClassFile.FieldType.boolean)).before args0 about1 = true := code_word (m := ⟨3, 2⟩) (meth := k3m2) (c := k3c2) (by decide +kernel) rfl rfl rfl (by decide +kernel)
set_option maxRecDepth 65536 in
theorem w_c2 : (Jvm.Cond.code ({ cls := "com/example/cairnlog/cairnlog/CivilDate", name := "<init>", desc := "(JII)V" } : Jvm.MethodName) prog_4_method_1_code (5 : Nat) (Option.none : Option Jvm.ClassFile.FieldType)).before args0 about1 = true := code_word (m := ⟨3, 0⟩) (meth := k3m0) (c := k3c0) (by decide +kernel) rfl rfl rfl (by decide +kernel)
set_option maxRecDepth 65536 in
theorem w_c3 : (Jvm.Cond.code ({ cls := "java/lang/Record", name := "<init>", desc := "()V" } : Jvm.MethodName) jdk_30_method_1_code (1 : Nat) (Option.none : Option Jvm.ClassFile.FieldType)).before args0 about1 = true := code_word (m := ⟨2, 0⟩) (meth := k2m0) (c := k2c0) (by decide +kernel) rfl rfl rfl (by decide +kernel)
set_option maxRecDepth 65536 in
theorem w_c4 : (Jvm.Cond.code ({ cls := "java/lang/Object", name := "<init>", desc := "()V" } : Jvm.MethodName) object_method_1_code (1 : Nat) (Option.none : Option Jvm.ClassFile.FieldType)).before args0 about1 = true := code_word (m := ⟨0, 0⟩) (meth := k0m0) (c := k0c0) (by decide +kernel) rfl rfl rfl (by decide +kernel)
set_option maxRecDepth 65536 in
theorem w_c5 : (Jvm.Cond.code ({ cls := "com/example/cairnlog/cairnlog/CivilDate", name := "epochDay", desc := "()J" } : Jvm.MethodName) prog_4_method_3_code (9 : Nat) (Option.some Jvm.ClassFile.FieldType.long)).before args0 about1 = true := code_word (m := ⟨3, 1⟩) (meth := k3m1) (c := k3c1) (by decide +kernel) rfl rfl rfl (by decide +kernel)
set_option maxRecDepth 65536 in
theorem w_c6 : (Jvm.Cond.code ({ cls := "java/lang/Math", name := "floorDiv", desc := "(JI)J" } : Jvm.MethodName) jdk_29_method_48_code (3 : Nat) (Option.some Jvm.ClassFile.FieldType.long)).before args0 about1 = true := code_word (m := ⟨4, 1⟩) (meth := k4m1) (c := k4c1) (by decide +kernel) rfl rfl rfl (by decide +kernel)
set_option maxRecDepth 65536 in
theorem w_c7 : (Jvm.Cond.code ({ cls := "java/lang/Math", name := "floorDiv", desc := "(JJ)J" } : Jvm.MethodName) jdk_29_method_49_code (6 : Nat) (Option.some Jvm.ClassFile.FieldType.long)).before args0 about1 = true := code_word (m := ⟨4, 2⟩) (meth := k4m2) (c := k4c2) (by decide +kernel) rfl rfl rfl (by decide +kernel)
def codes1 : List Jvm.Cond := [Jvm.Cond.code x code maxLocals ret, Jvm.Cond.code ({ cls := "com/example/cairnlog/cairnlog/CivilDate", name := "isLeapYear", desc := "(J)Z" } : Jvm.MethodName) prog_4_method_5_code (2 : Nat) (Option.some Jvm.ClassFile.FieldType.boolean), Jvm.Cond.code ({ cls := "com/example/cairnlog/cairnlog/CivilDate", name := "<init>", desc := "(JII)V" } : Jvm.MethodName) prog_4_method_1_code (5 : Nat) (Option.none : Option Jvm.ClassFile.FieldType), Jvm.Cond.code ({ cls := "java/lang/Record", name := "<init>", desc := "()V" } : Jvm.MethodName) jdk_30_method_1_code (1 : Nat) (Option.none : Option Jvm.ClassFile.FieldType), Jvm.Cond.code ({ cls := "java/lang/Object", name := "<init>", desc := "()V" } : Jvm.MethodName) object_method_1_code (1 : Nat) (Option.none : Option Jvm.ClassFile.FieldType), Jvm.Cond.code ({ cls := "com/example/cairnlog/cairnlog/CivilDate", name := "epochDay", desc := "()J" } : Jvm.MethodName) prog_4_method_3_code (9 : Nat) (Option.some Jvm.ClassFile.FieldType.long), Jvm.Cond.code ({ cls := "java/lang/Math", name := "floorDiv", desc := "(JI)J" } : Jvm.MethodName) jdk_29_method_48_code (3 : Nat) (Option.some Jvm.ClassFile.FieldType.long), Jvm.Cond.code ({ cls := "java/lang/Math", name := "floorDiv", desc := "(JJ)J" } : Jvm.MethodName) jdk_29_method_49_code (6 : Nat) (Option.some Jvm.ClassFile.FieldType.long)]
set_option maxRecDepth 65536 in
theorem codes_eq : words1.filter isCode = codes1 := rfl
theorem w_codes : ∀ c ∈ words1.filter isCode, c.before args0 about1 = true := by
  rw [codes_eq]
  intro c hc
  simp only [codes1, List.mem_cons, List.not_mem_nil, or_false] at hc
  rcases hc with rfl | rfl | rfl | rfl | rfl | rfl | rfl | rfl
  · exact w_c0
  · exact w_c1
  · exact w_c2
  · exact w_c3
  · exact w_c4
  · exact w_c5
  · exact w_c6
  · exact w_c7
set_option maxRecDepth 65536 in
theorem w_t1 : (words1.take 24).all (fun c => isCode c || c.before args0 about1) = true := by decide +kernel
set_option maxRecDepth 65536 in
theorem w_t2 : (words1.drop 24).all (fun c => isCode c || c.before args0 about1) = true := by decide +kernel
theorem w_tables : (allAtoms (Jvm.Cond.code x code maxLocals ret :: tables_1)).before args0 about1 = true := by
  rw [allAtoms_all]
  show words1.all (fun c => c.before args0 about1) = true
  refine all_split ?_ w_codes
  rw [← List.take_append_drop 24 words1, List.all_append, w_t1, w_t2]
  rfl
set_option maxRecDepth 65536 in
theorem w_case : (Jvm.Cond.and given_1 narrow_1).before args0 about1 = true := by decide +kernel
theorem w_applies : (headSpec (Jvm.Cond.code x code maxLocals ret :: tables_1) room_1).applies x e0.platform about1 = true :=
  (Spec.applies_iff w_frames).mpr ⟨w_running, w_runnable, w_alone, w_named, w_hears, w_ripe, w_room, w_tables⟩
theorem atStart : AtStart classFile x code maxLocals ret World_1 tables_1 room_1 Calls_1 rest_1 Pre_1 launch0 p0 e0 about1 theMethod args0 below0 :=
  ⟨lists_1, trivial, launch0.admits_env _ _ _, launch0.least_env, fairChoices_fair.cas, fairChoices_fair.clock, w_frames, w_args, w_heap, w_applies, trivial, trivial, w_case⟩
end start1
theorem witness_1 : WitnessClaimed_1 := ⟨start1.p0, start1.e0, start1.about1, start1.theMethod, start1.args0, start1.below0, start1.atStart⟩
end Jvm.Pilot.@@N@@
