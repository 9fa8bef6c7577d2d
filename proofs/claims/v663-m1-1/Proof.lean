import JvmDerived
import JvmDerived.Pilot.@@N@@Statement
import JvmDerived.Pilot.@@N@@Code
set_option linter.unusedVariables false
set_option linter.unusedSimpArgs false
namespace Jvm.Pilot.@@N@@
open Jvm Jvm.ClassFile Sem Op Lib Jvm.Free Jvm.Stand Jvm.LawKit Jvm.RoadKit Bundle Jvm.Pilot.@@N@@.Jvm.D
/-! A walk as one goal: from the state U the run comes to an end that answers Q. -/
section Kit
def Go (p : Program) (e : Env) (below : List Frame) (s : State) (Q : Option Value → Heap → List Loc → Prop) (C N : Nat) (U : State) : Prop :=
  ∃ s₂ o, Steps p.tables e below U s₂ ∧ s₂.status = .running ∧ Ended s₂ below o ∧ ∃ v L, o = .returned v ∧ Q v s₂.heap L ∧ FrameEnd s o s₂ L C N
variable {p : Program} {l : Launch} {e : Env} {R : Room} {s : State} {m : MethodId} {args : Array Value} {below : List Frame} {meth : Method} {c : Code} {T : State} {locs : List Loc} {cells slots : Nat} {Q : Option Value → Heap → List Loc → Prop} {C N : Nat}
theorem gob {U U' : State} (h : ∀ t, Steps p.tables e below U' t → Steps p.tables e below U t) (k : Go p e below s Q C N U') : Go p e below s Q C N U := by
  obtain ⟨s₂, o, h1, r⟩ := k
  exact ⟨s₂, o, h _ h1, r⟩
theorem goZ (X : Stand p l e R s m args below meth c T locs cells slots) (hx : p.tables.exec = Jvm.exec) (hlk : meth.locks = false) {t : FieldType} {pc : Nat} {Ls : Array Slot} {z z' : Int32} {rest : List Value} (hret : meth.sig.returnType = some t) (ht : t = .boolean ∨ t = .byte ∨ t = .char ∨ t = .short) (hd : decode c.code pc = .ok (.ireturn, 1)) (hz : nar t z = z') (hq : Q (some (.int z')) T.heap locs) (hc : cells ≤ C) (hn : slots ≤ N) :
    Go p e below s Q C N (T.setTop (mkF m pc Ls (.int z :: rest))) := by
  subst hz
  obtain ⟨fs, hr, hrun, hended, hW, hsame⟩ := X.leave (v := some (.int (nar t z))) (fun h => by rw [hret] at h; cases h) hlk
  exact ⟨_, _, retN X hx hret ht hd hr, hrun, hended, _, _, rfl, hq, ⟨_, rfl⟩, hW, hsame.mono hc hn⟩
theorem goI (X : Stand p l e R s m args below meth c T locs cells slots) (hx : p.tables.exec = Jvm.exec) (hlk : meth.locks = false) {pc : Nat} {Ls : Array Slot} {z : Int32} {rest : List Value} (hret : meth.sig.returnType = some .int) (hd : decode c.code pc = .ok (.ireturn, 1)) (hq : Q (some (.int z)) T.heap locs) (hc : cells ≤ C) (hn : slots ≤ N) :
    Go p e below s Q C N (T.setTop (mkF m pc Ls (.int z :: rest))) := by
  obtain ⟨fs, hr, hrun, hended, hW, hsame⟩ := X.leave (v := some (.int z)) (fun h => by rw [hret] at h; cases h) hlk
  exact ⟨_, _, retOut X hx hret rfl (Or.inl ⟨rfl, Or.inl rfl, z, rfl⟩) hd hr, hrun, hended, _, _, rfl, hq, ⟨_, rfl⟩, hW, hsame.mono hc hn⟩
theorem goJ (X : Stand p l e R s m args below meth c T locs cells slots) (hx : p.tables.exec = Jvm.exec) (hlk : meth.locks = false) {pc : Nat} {Ls : Array Slot} {z : Int64} {rest : List Value} (hret : meth.sig.returnType = some .long) (hd : decode c.code pc = .ok (.lreturn, 1)) (hq : Q (some (.long z)) T.heap locs) (hc : cells ≤ C) (hn : slots ≤ N) :
    Go p e below s Q C N (T.setTop (mkF m pc Ls (.long z :: rest))) := by
  obtain ⟨fs, hr, hrun, hended, hW, hsame⟩ := X.leave (v := some (.long z)) (fun h => by rw [hret] at h; cases h) hlk
  exact ⟨_, _, retOut X hx hret rfl (Or.inr (Or.inl ⟨rfl, rfl, z, rfl⟩)) hd hr, hrun, hended, _, _, rfl, hq, ⟨_, rfl⟩, hW, hsame.mono hc hn⟩
theorem goD (X : Stand p l e R s m args below meth c T locs cells slots) (hx : p.tables.exec = Jvm.exec) (hlk : meth.locks = false) {pc : Nat} {Ls : Array Slot} {z : UInt64} {rest : List Value} (hret : meth.sig.returnType = some .double) (hd : decode c.code pc = .ok (.dreturn, 1)) (hq : Q (some (.double z)) T.heap locs) (hc : cells ≤ C) (hn : slots ≤ N) :
    Go p e below s Q C N (T.setTop (mkF m pc Ls (.double z :: rest))) := by
  obtain ⟨fs, hr, hrun, hended, hW, hsame⟩ := X.leave (v := some (.double z)) (fun h => by rw [hret] at h; cases h) hlk
  exact ⟨_, _, retOut X hx hret rfl (Or.inr (Or.inr (Or.inl ⟨rfl, rfl, z, rfl⟩))) hd hr, hrun, hended, _, _, rfl, hq, ⟨_, rfl⟩, hW, hsame.mono hc hn⟩
theorem goA (X : Stand p l e R s m args below meth c T locs cells slots) (hx : p.tables.exec = Jvm.exec) (hlk : meth.locks = false) {t : FieldType} {pc : Nat} {Ls : Array Slot} {z : Value} {rest : List Value} (hret : meth.sig.returnType = some t) (ht : t.isReference = true) (hv : z.isRef = true) (hd : decode c.code pc = .ok (.areturn, 1)) (hq : Q (some z) T.heap locs) (hc : cells ≤ C) (hn : slots ≤ N) :
    Go p e below s Q C N (T.setTop (mkF m pc Ls (z :: rest))) := by
  obtain ⟨fs, hr, hrun, hended, hW, hsame⟩ := X.leave (v := some z) (fun h => by rw [hret] at h; cases h) hlk
  have hnw : narrow t z = z := by cases z <;> cases t <;> first | rfl | (simp [Value.isRef] at hv) | (simp [FieldType.isReference] at ht)
  exact ⟨_, _, retOut X hx hret hnw (Or.inr (Or.inr (Or.inr (Or.inr ⟨rfl, ht, hv⟩)))) hd hr, hrun, hended, _, _, rfl, hq, ⟨_, rfl⟩, hW, hsame.mono hc hn⟩
theorem goV (X : Stand p l e R s m args below meth c T locs cells slots) (hx : p.tables.exec = Jvm.exec) (hlk : meth.locks = false) {pc : Nat} {Ls : Array Slot} (hret : meth.sig.returnType = none) (hd : decode c.code pc = .ok (.return_, 1)) (hq : Q none T.heap locs) (hc : cells ≤ C) (hn : slots ≤ N) :
    Go p e below s Q C N (T.setTop (mkF m pc Ls [])) := by
  obtain ⟨fs, hr, hrun, hended, hW, hsame⟩ := X.leave (v := none) (fun _ => rfl) hlk
  exact ⟨_, _, X.returnOut hx hret hd hr, hrun, hended, _, _, rfl, hq, ⟨_, rfl⟩, hW, hsame.mono hc hn⟩
theorem lremM {g : JFrame} {target : State} (X : Stand p l e R s m args below meth c T locs cells slots) (hx : p.tables.exec = Jvm.exec) (hg : g.method = m) {x y : Int64} {rest : List Value} (hd : decode c.code g.pc = .ok (.lrem, 1)) (hs : g.stack = .long y :: .long x :: rest) (hy : y ≠ 0)
    (hr : Steps p.tables e below (T.setTop { g with pc := g.pc + 1, stack := .long (x % y) :: rest }) target) : Steps p.tables e below (T.setTop g) target :=
  XS.lrem X.here hx hg hd hs hy (by rw [lrem_mod x y]; exact hr)
theorem own_lrem (x y : Int64) (d : Int) (hy : y.toInt = d) : (0 ≤ x.toInt → (x % y).toInt = x.toInt % d) ∧ (x.toInt < 0 → (x % y).toInt = -((-x.toInt) % d)) := by rw [Int64.toInt_mod, hy]; exact tr _ _
theorem own_lxor (x y : Int64) (hy : 0 ≤ y.toInt) : ((x ^^^ y).toInt < 0 ↔ x.toInt < 0) := by
  have h1 : (x ^^^ y).toBitVec.msb = (x.toBitVec.msb ^^ y.toBitVec.msb) := by rw [Int64.toBitVec_xor, BitVec.msb_xor]
  have h2 := BitVec.msb_eq_toInt (x := (x ^^^ y).toBitVec)
  have h3 := BitVec.msb_eq_toInt (x := x.toBitVec)
  have h4 := BitVec.msb_eq_toInt (x := y.toBitVec)
  have e1 : (x ^^^ y).toBitVec.toInt = (x ^^^ y).toInt := rfl
  have e2 : x.toBitVec.toInt = x.toInt := rfl
  have e3 : y.toBitVec.toInt = y.toInt := rfl
  rw [e1] at h2
  rw [e2] at h3
  rw [e3] at h4
  have h5 : ¬ y.toInt < 0 := by omega
  rw [h2, h3, h4, decide_eq_false h5, Bool.xor_false] at h1
  simpa using h1
theorem pop2L {g : JFrame} {target : State} (X : Stand p l e R s m args below meth c T locs cells slots) (hx : p.tables.exec = Jvm.exec) (hg : g.method = m) {x : Int64} {rest : List Value} (hd : decode c.code g.pc = .ok (.pop2, 1)) (hs : g.stack = .long x :: rest)
    (hr : Steps p.tables e below (T.setTop { g with pc := g.pc + 1, stack := rest }) target) : Steps p.tables e below (T.setTop g) target := by
  subst hg
  jvm_step X.here [X.here.top, hx, hd, hs, Value.category]
  exact hr
theorem own_staKeep {Z : State} {h h' : Heap} {C n d : String} {v : Value} {ws : List Addr} (F : Sta Z h C n d v) (K : Keep h h' ws) (hn : ∀ x ∈ ws, ∀ cell : Cell, h[x]? = some cell → cell.vm.isStatics = false) : Sta Z h' C n d v := by
  obtain ⟨cf, i, k, f, st, cell, h1, h2, h3, h4, h5, h6, h7⟩ := F
  exact ⟨cf, i, k, f, st, cell, h1, h2, h3, h4, K.2.1 _ _ h5 (fun q => by have q2 := hn _ q _ h5; rw [h6] at q2; cases q2), h6, h7⟩
theorem own_lmulR (x y : Int64) (d : Int) (hy : y.toInt = d) : ((x * y).toInt - x.toInt * d) % 18446744073709551616 = 0 := by rw [← hy]; exact c_lmul x y
theorem own_lmulL (x y : Int64) (d : Int) (hx : x.toInt = d) : ((x * y).toInt - d * y.toInt) % 18446744073709551616 = 0 := by rw [← hx]; exact c_lmul x y
theorem own_imulR (x y : Int32) (d : Int) (hy : y.toInt = d) : ((x * y).toInt - x.toInt * d) % 4294967296 = 0 := by rw [← hy]; exact c_imul x y
theorem own_imulL (x y : Int32) (d : Int) (hx : x.toInt = d) : ((x * y).toInt - d * y.toInt) % 4294967296 = 0 := by rw [← hx]; exact c_imul x y
end Kit

theorem own_w0 (r x : Int64) (h : r.toInt = (x - x).toInt / 100000) : r = 0 := by
  have s := c_lsub x x
  have q := rng64 (x - x)
  rw [← Int64.toInt_inj]
  have e : (0 : Int64).toInt = 0 := by decide
  omega
theorem own_eqw (r s d : Int64) (h1 : r.toInt = d.toInt / 100000) (h2 : s.toInt = d.toInt / 100000) : r = s := by
  rw [← Int64.toInt_inj, h1, h2]
theorem own_same {P : Prop} {m m' a b : Int64} (h : (P ∧ m = a) ∨ (¬ (P) ∧ m = b)) (h' : (P ∧ m' = a) ∨ (¬ (P) ∧ m' = b)) : m = m' := by
  rcases h with ⟨p, rfl⟩ | ⟨p, rfl⟩ <;> rcases h' with ⟨p', rfl⟩ | ⟨p', rfl⟩ <;> first | rfl | exact absurd p p' | exact absurd p' p

theorem d1_0 : decode method_2_code 0 = .ok (.lload_n 0, 1) := by decide +kernel
theorem d1_1 : decode method_2_code 1 = .ok (.ldc2_w 7, 3) := by decide +kernel
theorem d1_4 : decode method_2_code 4 = .ok (.ldiv, 1) := by decide +kernel
theorem d1_5 : decode method_2_code 5 = .ok (.lstore_n 2, 1) := by decide +kernel
theorem d1_6 : decode method_2_code 6 = .ok (.lload_n 0, 1) := by decide +kernel
theorem d1_7 : decode method_2_code 7 = .ok (.lconst 0, 1) := by decide +kernel
theorem d1_8 : decode method_2_code 8 = .ok (.lcmp, 1) := by decide +kernel
theorem d1_9 : decode method_2_code 9 = .ok (.ifCond .ge 17, 3) := by decide +kernel
theorem d1_12 : decode method_2_code 12 = .ok (.lload_n 2, 1) := by decide +kernel
theorem d1_13 : decode method_2_code 13 = .ok (.ldc2_w 7, 3) := by decide +kernel
theorem d1_16 : decode method_2_code 16 = .ok (.lmul, 1) := by decide +kernel
theorem d1_17 : decode method_2_code 17 = .ok (.lload_n 0, 1) := by decide +kernel
theorem d1_18 : decode method_2_code 18 = .ok (.lcmp, 1) := by decide +kernel
theorem d1_19 : decode method_2_code 19 = .ok (.ifCond .eq 7, 3) := by decide +kernel
theorem d1_22 : decode method_2_code 22 = .ok (.lload_n 2, 1) := by decide +kernel
theorem d1_23 : decode method_2_code 23 = .ok (.lconst 1, 1) := by decide +kernel
theorem d1_24 : decode method_2_code 24 = .ok (.lsub, 1) := by decide +kernel
theorem d1_25 : decode method_2_code 25 = .ok (.lstore_n 2, 1) := by decide +kernel
theorem d1_26 : decode method_2_code 26 = .ok (.lload_n 2, 1) := by decide +kernel
theorem d1_27 : decode method_2_code 27 = .ok (.lreturn, 1) := by decide +kernel
theorem ef_1 (m : MethodId) (x0 : Int64) : entryFrame m #[(.long x0)] 4 = mkF m 0 #[.val (.long x0), .second, .unset, .unset] [] := by first | (simp [entryFrame, mkF, argsToLocals, Value.category]; done) | rfl
def Q1 (Z : State) (q0 : Int64) (h0 : Heap) (n0 : Nat) (v : Option Value) (h : Heap) (L : List Loc) : Prop := ∃ r : Int64, v = some (.long r) ∧ (r.toInt = q0.toInt / 100000) ∧ Fr n0 L ∧ h = h0
theorem lf_1_0 (q0 : Int64) (x1 : Int64) (v4 : Int64) (hx1 : (q0 / (100000 : Int64)) = x1) (hj11 : (q0 < (0 : Int64) ∧ (x1 * (100000 : Int64)) = q0 ∧ v4 = x1) ∨ (q0 < (0 : Int64) ∧ ¬ ((x1 * (100000 : Int64)) = q0) ∧ v4 = (x1 - (1 : Int64))) ∨ (¬ (q0 < (0 : Int64)) ∧ v4 = x1)) : v4.toInt = q0.toInt / 100000 := by
  have := rng64 q0
  have := rng64 x1
  have := rng64 v4
  have : (0 : Int64).toInt = 0 := by decide
  have : (1 : Int64).toInt = 1 := by decide
  have : (100000 : Int64).toInt = 100000 := by decide
  have := c_ldiv q0 (100000 : Int64) (100000) (by decide) (by decide)
  have := rng64 (q0 / (100000 : Int64))
  have := own_lmulR x1 (100000 : Int64) (100000) (by decide)
  have := rng64 (x1 * (100000 : Int64))
  have := c_lsub x1 (1 : Int64)
  have := rng64 (x1 - (1 : Int64))
  try (simp only [Int32.lt_iff_toInt_lt, Int32.le_iff_toInt_le, Int64.lt_iff_toInt_lt, Int64.le_iff_toInt_le, ← Int32.toInt_inj, ← Int64.toInt_inj, ne_eq] at *)
  omega
set_option maxRecDepth 65536 in
set_option maxHeartbeats 40000000 in
theorem rm1 (l : Launch) (Z : State) (a0 : Array Value) (hw : ∀ d ∈ tables_1, d.before a0 Z = true) (ws : List Jvm.Cond) (q0 : Int64) (h0 : Heap) (n0 : Nat) (Z0 : n0 ≤ h0.size) :
    MetFree l (⟨"com/example/flomem/flomem/replay/TimelineWindowsPinLaw", "fl", "(J)J"⟩ : MethodName) (head1 (Jvm.Cond.code (⟨"com/example/flomem/flomem/replay/TimelineWindowsPinLaw", "fl", "(J)J"⟩ : MethodName) method_2_code 4 (some .long) :: ws) ({ frames := 0, cells := 0, slots := 0, locals := 0 } : Room)) (fun a U => a = #[(.long q0)] ∧ Z.Warmed39 U.vm ∧ U.heap = h0) (fun _ _ _ _ _ => True) (fun _ U o U' => ∃ v L, o = .returned v ∧ Q1 Z q0 h0 n0 v U'.heap L ∧ FrameEnd U o U' L ({ frames := 0, cells := 0, slots := 0, locals := 0 } : Room).cells ({ frames := 0, cells := 0, slots := 0, locals := 0 } : Room).slots) := by
  refine MetFree.of_bodySF (plainFor_of_name (by first | (simp [plainName, overriddenIn]; done) | decide +kernel)) hisR ?_
  intro p e s m args below meth c s₁ Bd hml0 hP hK
  obtain ⟨rfl, hZ, hh⟩ := hP
  have hx := Bd.exec
  have hby := Bd.bytes
  have hml : c.maxLocals = 4 := hml0
  have hown : s.vm.findClass "com/example/flomem/flomem/replay/TimelineWindowsPinLaw" = some m.cls := findClass_of_methodNamed Bd.named
  have hnm := (name_of_methodNamed Bd.named Bd.method).1
  have hlk := BodyLoose.notSynchronized Bd
  have X0 : Stand p l e ({ frames := 0, cells := 0, slots := 0, locals := 0 } : Room) s m #[(.long q0)] below meth c s₁ [] 0 0 := Stand.of_body Bd
  have e0 : s₁.heap = h0 := by rw [← hh, Bd.state]; rfl
  have N0 := Fr.nil n0
  show Go p e below s (Q1 Z q0 h0 n0) 0 0 (s₁.setTop (entryFrame m #[(.long q0)] 4))
  rw [ef_1]
  show Go _ _ _ _ _ _ _ (s₁.setTop (mkF m 0 #[.val (.long q0), .second, .unset, .unset] []))
  refine gob (fun _ k => XS.lloadN X0.here hx rfl (hb hby d1_0) rfl k) ?_
  show Go _ _ _ _ _ _ _ (s₁.setTop (mkF m 1 #[.val (.long q0), .second, .unset, .unset] [(.long q0)]))
  refine gob (X0.ldc2Long hx hown (mvT hZ (hw _ (List.mem_of_getElem? (i := 5) rfl))) (g := (mkF m 1 #[.val (.long q0), .second, .unset, .unset] [(.long q0)])) rfl (hb hby d1_1)) ?_
  show Go _ _ _ _ _ _ _ (s₁.setTop (mkF m 4 #[.val (.long q0), .second, .unset, .unset] [(.long (100000 : Int64)), (.long q0)]))
  refine gob (fun _ k => XS.ldiv X0.here hx rfl (hb hby d1_4) rfl (by decide) k) ?_
  show Go _ _ _ _ _ _ _ (s₁.setTop (mkF m 5 #[.val (.long q0), .second, .unset, .unset] [(.long (q0 / (100000 : Int64)))]))
  refine gob (fun _ k => XS.lstoreN X0.here hx rfl (hb hby d1_5) rfl (l' := #[.val (.long q0), .second, .val (.long (q0 / (100000 : Int64))), .second]) rfl k) ?_
  show Go _ _ _ _ _ _ _ (s₁.setTop (mkF m 6 #[.val (.long q0), .second, .val (.long (q0 / (100000 : Int64))), .second] []))
  generalize hx1 : (q0 / (100000 : Int64)) = x1
  show Go _ _ _ _ _ _ _ (s₁.setTop (mkF m 6 #[.val (.long q0), .second, .val (.long x1), .second] []))
  refine gob (fun _ k => XS.lloadN X0.here hx rfl (hb hby d1_6) rfl k) ?_
  show Go _ _ _ _ _ _ _ (s₁.setTop (mkF m 7 #[.val (.long q0), .second, .val (.long x1), .second] [(.long q0)]))
  refine gob (fun _ k => XS.lconst X0.here hx rfl (hb hby d1_7) k) ?_
  show Go _ _ _ _ _ _ _ (s₁.setTop (mkF m 8 #[.val (.long q0), .second, .val (.long x1), .second] [(.long (0 : Int64)), (.long q0)]))
  refine gob (fun _ k => XS.lcmp X0.here hx rfl (hb hby d1_8) rfl k) ?_
  show Go _ _ _ _ _ _ _ (s₁.setTop (mkF m 9 #[.val (.long q0), .second, .val (.long x1), .second] [(.int (lcmpW q0 (0 : Int64)))]))
  have join26_5 : ∀ (T6 : State) (lj7 : List Loc) (v4 : Int64), Stand p l e ({ frames := 0, cells := 0, slots := 0, locals := 0 } : Room) s m #[(.long q0)] below meth c T6 lj7 0 0 → T6.heap = h0 → Fr n0 lj7 → (q0 < (0 : Int64) ∧ (x1 * (100000 : Int64)) = q0 ∧ v4 = x1) ∨ (q0 < (0 : Int64) ∧ ¬ ((x1 * (100000 : Int64)) = q0) ∧ v4 = (x1 - (1 : Int64))) ∨ (¬ (q0 < (0 : Int64)) ∧ v4 = x1) → Go p e below s (Q1 Z q0 h0 n0) 0 0 (T6.setTop (mkF m 26 #[.val (.long q0), .second, .val (.long v4), .second] [])) := by
    intro T6 lj7 v4 X8 e9 N10 hj11
    show Go _ _ _ _ _ _ _ (T6.setTop (mkF m 26 #[.val (.long q0), .second, .val (.long v4), .second] []))
    refine gob (fun _ k => XS.lloadN X8.here hx rfl (hb hby d1_26) rfl k) ?_
    show Go _ _ _ _ _ _ _ (T6.setTop (mkF m 27 #[.val (.long q0), .second, .val (.long v4), .second] [(.long v4)]))
    refine goJ X8 hx hlk Bd.returns (hb hby d1_27) ?_ (by decide) (by decide)
    show Q1 Z q0 h0 n0 (some (.long v4)) T6.heap _
    exact ⟨v4, rfl, lf_1_0 q0 x1 v4 hx1 hj11, N10, e9⟩
  by_cases hc9_12 : q0 < (0 : Int64)
  · skip
    refine gob (fun _ k => XS.ifNo X0.here hx rfl (hb hby d1_9) rfl ((if0 _ _).trans (tlt ((lw_lt _ _).mpr hc9_12)).2.1) k) ?_
    show Go _ _ _ _ _ _ _ (s₁.setTop (mkF m 12 #[.val (.long q0), .second, .val (.long x1), .second] []))
    refine gob (fun _ k => XS.lloadN X0.here hx rfl (hb hby d1_12) rfl k) ?_
    show Go _ _ _ _ _ _ _ (s₁.setTop (mkF m 13 #[.val (.long q0), .second, .val (.long x1), .second] [(.long x1)]))
    refine gob (X0.ldc2Long hx hown (mvT hZ (hw _ (List.mem_of_getElem? (i := 5) rfl))) (g := (mkF m 13 #[.val (.long q0), .second, .val (.long x1), .second] [(.long x1)])) rfl (hb hby d1_13)) ?_
    show Go _ _ _ _ _ _ _ (s₁.setTop (mkF m 16 #[.val (.long q0), .second, .val (.long x1), .second] [(.long (100000 : Int64)), (.long x1)]))
    refine gob (fun _ k => XS.lmul X0.here hx rfl (hb hby d1_16) rfl k) ?_
    show Go _ _ _ _ _ _ _ (s₁.setTop (mkF m 17 #[.val (.long q0), .second, .val (.long x1), .second] [(.long (x1 * (100000 : Int64)))]))
    refine gob (fun _ k => XS.lloadN X0.here hx rfl (hb hby d1_17) rfl k) ?_
    show Go _ _ _ _ _ _ _ (s₁.setTop (mkF m 18 #[.val (.long q0), .second, .val (.long x1), .second] [(.long q0), (.long (x1 * (100000 : Int64)))]))
    refine gob (fun _ k => XS.lcmp X0.here hx rfl (hb hby d1_18) rfl k) ?_
    show Go _ _ _ _ _ _ _ (s₁.setTop (mkF m 19 #[.val (.long q0), .second, .val (.long x1), .second] [(.int (lcmpW (x1 * (100000 : Int64)) q0))]))
    by_cases hc19_13 : (x1 * (100000 : Int64)) = q0
    · skip
      refine gob (fun _ k => XS.ifYes X0.here hx rfl (pc0 := 19) (pc' := 26) rfl (hb hby d1_19) rfl ((if0 _ _).trans (teq ((lw_eq _ _).mpr hc19_13)).1) (by decide) (by decide) k) ?_
      show Go _ _ _ _ _ _ _ (s₁.setTop (mkF m 26 #[.val (.long q0), .second, .val (.long x1), .second] []))
      exact join26_5 _ _ (x1) X0 e0 N0 (Or.inl ⟨hc9_12, hc19_13, rfl⟩)
    · skip
      refine gob (fun _ k => XS.ifNo X0.here hx rfl (hb hby d1_19) rfl ((if0 _ _).trans (feq (mt (lw_eq _ _).mp hc19_13)).1) k) ?_
      show Go _ _ _ _ _ _ _ (s₁.setTop (mkF m 22 #[.val (.long q0), .second, .val (.long x1), .second] []))
      refine gob (fun _ k => XS.lloadN X0.here hx rfl (hb hby d1_22) rfl k) ?_
      show Go _ _ _ _ _ _ _ (s₁.setTop (mkF m 23 #[.val (.long q0), .second, .val (.long x1), .second] [(.long x1)]))
      refine gob (fun _ k => XS.lconst X0.here hx rfl (hb hby d1_23) k) ?_
      show Go _ _ _ _ _ _ _ (s₁.setTop (mkF m 24 #[.val (.long q0), .second, .val (.long x1), .second] [(.long (1 : Int64)), (.long x1)]))
      refine gob (fun _ k => XS.lsub X0.here hx rfl (hb hby d1_24) rfl k) ?_
      show Go _ _ _ _ _ _ _ (s₁.setTop (mkF m 25 #[.val (.long q0), .second, .val (.long x1), .second] [(.long (x1 - (1 : Int64)))]))
      refine gob (fun _ k => XS.lstoreN X0.here hx rfl (hb hby d1_25) rfl (l' := #[.val (.long q0), .second, .val (.long (x1 - (1 : Int64))), .second]) rfl k) ?_
      show Go _ _ _ _ _ _ _ (s₁.setTop (mkF m 26 #[.val (.long q0), .second, .val (.long (x1 - (1 : Int64))), .second] []))
      exact join26_5 _ _ ((x1 - (1 : Int64))) X0 e0 N0 (Or.inr (Or.inl ⟨hc9_12, hc19_13, rfl⟩))
  · skip
    refine gob (fun _ k => XS.ifYes X0.here hx rfl (pc0 := 9) (pc' := 26) rfl (hb hby d1_9) rfl ((if0 _ _).trans (flt (mt (lw_lt _ _).mp hc9_12)).2.1) (by decide) (by decide) k) ?_
    show Go _ _ _ _ _ _ _ (s₁.setTop (mkF m 26 #[.val (.long q0), .second, .val (.long x1), .second] []))
    exact join26_5 _ _ (x1) X0 e0 N0 (Or.inr (Or.inr ⟨hc9_12, rfl⟩))
theorem d2_0 : decode prog_42_method_1_code 0 = .ok (.aload_n 0, 1) := by decide +kernel
theorem d2_1 : decode prog_42_method_1_code 1 = .ok (.invokespecial 1, 3) := by decide +kernel
theorem d2_4 : decode prog_42_method_1_code 4 = .ok (.return_, 1) := by decide +kernel
theorem ef_2 (m : MethodId) (x0 : Addr) : entryFrame m #[(.ref x0)] 1 = mkF m 0 #[.val (.ref x0)] [] := by first | (simp [entryFrame, mkF, argsToLocals, Value.category]; done) | rfl
def Q2 (Z : State) (o0 : Addr) (h0 : Heap) (n0 : Nat) (v : Option Value) (h : Heap) (L : List Loc) : Prop := v = none ∧ Fr n0 L ∧ h = h0
set_option maxRecDepth 65536 in
set_option maxHeartbeats 40000000 in
theorem rm2 (l : Launch) (Z : State) (a0 : Array Value) (hw : ∀ d ∈ tables_1, d.before a0 Z = true) (ws : List Jvm.Cond) (o0 : Addr) (h0 : Heap) (n0 : Nat) (Z0 : n0 ≤ h0.size) :
    MetFree l (⟨"com/example/flomem/flomem/replay/Timeline", "<init>", "()V"⟩ : MethodName) (head1 (Jvm.Cond.code (⟨"com/example/flomem/flomem/replay/Timeline", "<init>", "()V"⟩ : MethodName) prog_42_method_1_code 1 none :: ws) ({ frames := 1, cells := 0, slots := 0, locals := 12 } : Room)) (fun a U => a = #[(.ref o0)] ∧ Z.Warmed39 U.vm ∧ U.heap = h0) (fun _ _ _ _ _ => True) (fun _ U o U' => ∃ v L, o = .returned v ∧ Q2 Z o0 h0 n0 v U'.heap L ∧ FrameEnd U o U' L ({ frames := 1, cells := 0, slots := 0, locals := 12 } : Room).cells ({ frames := 1, cells := 0, slots := 0, locals := 12 } : Room).slots) := by
  refine MetFree.of_bodySF (plainFor_of_name (by first | (simp [plainName, overriddenIn]; done) | decide +kernel)) hisR ?_
  intro p e s m args below meth c s₁ Bd hml0 hP hK
  obtain ⟨rfl, hZ, hh⟩ := hP
  have hx := Bd.exec
  have hby := Bd.bytes
  have hml : c.maxLocals = 1 := hml0
  have hown : s.vm.findClass "com/example/flomem/flomem/replay/Timeline" = some m.cls := findClass_of_methodNamed Bd.named
  have hnm := (name_of_methodNamed Bd.named Bd.method).1
  have hlk := BodyLoose.notSynchronized Bd
  have X0 : Stand p l e ({ frames := 1, cells := 0, slots := 0, locals := 12 } : Room) s m #[(.ref o0)] below meth c s₁ [] 0 0 := Stand.of_body Bd
  have e0 : s₁.heap = h0 := by rw [← hh, Bd.state]; rfl
  have N0 := Fr.nil n0
  show Go p e below s (Q2 Z o0 h0 n0) 0 0 (s₁.setTop (entryFrame m #[(.ref o0)] 1))
  rw [ef_2]
  show Go _ _ _ _ _ _ _ (s₁.setTop (mkF m 0 #[.val (.ref o0)] []))
  refine gob (fun _ k => XS.aloadN X0.here hx rfl (hb hby d2_0) rfl rfl k) ?_
  show Go _ _ _ _ _ _ _ (s₁.setTop (mkF m 1 #[.val (.ref o0)] [(.ref o0)]))
  obtain ⟨T1, X1, e1, st1⟩ := initO X0 hx hZ hown (hw _ (List.mem_of_getElem? (i := 12) rfl)) (hw _ (List.mem_of_getElem? (i := 13) rfl)) (hw _ (List.mem_of_getElem? (i := 14) rfl)) e0 (g := (mkF m 1 #[.val (.ref o0)] [(.ref o0)])) rfl (by rw [hml]; rfl) rfl (hb hby d2_1) (by decide) (W := 0) (by show 2 * 0 + _ ≤ _; exact Nat.le_of_eq rfl) (by decide)
  refine gob st1 ?_
  show Go _ _ _ _ _ _ _ (T1.setTop (mkF m 4 #[.val (.ref o0)] []))
  refine goV X1 hx hlk Bd.returns (hb hby d2_4) ?_ (by decide) (by decide)
  show Q2 Z o0 h0 n0 (none) T1.heap _
  exact ⟨rfl, N0, e1⟩
theorem d5_0 : decode jdk_29_method_70_code 0 = .ok (.lload_n 0, 1) := by decide +kernel
theorem d5_1 : decode jdk_29_method_70_code 1 = .ok (.lload_n 2, 1) := by decide +kernel
theorem d5_2 : decode jdk_29_method_70_code 2 = .ok (.lcmp, 1) := by decide +kernel
theorem d5_3 : decode jdk_29_method_70_code 3 = .ok (.ifCond .gt 7, 3) := by decide +kernel
theorem d5_6 : decode jdk_29_method_70_code 6 = .ok (.lload_n 0, 1) := by decide +kernel
theorem d5_7 : decode jdk_29_method_70_code 7 = .ok (.goto 4, 3) := by decide +kernel
theorem d5_10 : decode jdk_29_method_70_code 10 = .ok (.lload_n 2, 1) := by decide +kernel
theorem d5_11 : decode jdk_29_method_70_code 11 = .ok (.lreturn, 1) := by decide +kernel
theorem ef_5 (m : MethodId) (x0 : Int64) (x1 : Int64) : entryFrame m #[(.long x0), (.long x1)] 4 = mkF m 0 #[.val (.long x0), .second, .val (.long x1), .second] [] := by first | (simp [entryFrame, mkF, argsToLocals, Value.category]; done) | rfl
def Q5 (Z : State) (q0 : Int64) (q1 : Int64) (h0 : Heap) (n0 : Nat) (v : Option Value) (h : Heap) (L : List Loc) : Prop := ∃ r : Int64, v = some (.long r) ∧ ((q1 < q0 ∧ r = q1) ∨ (¬ (q1 < q0) ∧ r = q0)) ∧ Fr n0 L ∧ h = h0
set_option maxRecDepth 65536 in
set_option maxHeartbeats 40000000 in
theorem rm5 (l : Launch) (Z : State) (a0 : Array Value) (hw : ∀ d ∈ tables_1, d.before a0 Z = true) (ws : List Jvm.Cond) (q0 : Int64) (q1 : Int64) (h0 : Heap) (n0 : Nat) (Z0 : n0 ≤ h0.size) :
    MetFree l (⟨"java/lang/Math", "min", "(JJ)J"⟩ : MethodName) (head1 (Jvm.Cond.code (⟨"java/lang/Math", "min", "(JJ)J"⟩ : MethodName) jdk_29_method_70_code 4 (some .long) :: ws) ({ frames := 0, cells := 0, slots := 0, locals := 0 } : Room)) (fun a U => a = #[(.long q0), (.long q1)] ∧ Z.Warmed39 U.vm ∧ U.heap = h0) (fun _ _ _ _ _ => True) (fun _ U o U' => ∃ v L, o = .returned v ∧ Q5 Z q0 q1 h0 n0 v U'.heap L ∧ FrameEnd U o U' L ({ frames := 0, cells := 0, slots := 0, locals := 0 } : Room).cells ({ frames := 0, cells := 0, slots := 0, locals := 0 } : Room).slots) := by
  refine MetFree.of_bodySF (Jvm.Free.JP.mathPlain rfl (by decide +kernel)) hisR ?_
  intro p e s m args below meth c s₁ Bd hml0 hP hK
  obtain ⟨rfl, hZ, hh⟩ := hP
  have hx := Bd.exec
  have hby := Bd.bytes
  have hml : c.maxLocals = 4 := hml0
  have hown : s.vm.findClass "java/lang/Math" = some m.cls := findClass_of_methodNamed Bd.named
  have hnm := (name_of_methodNamed Bd.named Bd.method).1
  have hlk := BodyLoose.notSynchronized Bd
  have X0 : Stand p l e ({ frames := 0, cells := 0, slots := 0, locals := 0 } : Room) s m #[(.long q0), (.long q1)] below meth c s₁ [] 0 0 := Stand.of_body Bd
  have e0 : s₁.heap = h0 := by rw [← hh, Bd.state]; rfl
  have N0 := Fr.nil n0
  show Go p e below s (Q5 Z q0 q1 h0 n0) 0 0 (s₁.setTop (entryFrame m #[(.long q0), (.long q1)] 4))
  rw [ef_5]
  show Go _ _ _ _ _ _ _ (s₁.setTop (mkF m 0 #[.val (.long q0), .second, .val (.long q1), .second] []))
  refine gob (fun _ k => XS.lloadN X0.here hx rfl (hb hby d5_0) rfl k) ?_
  show Go _ _ _ _ _ _ _ (s₁.setTop (mkF m 1 #[.val (.long q0), .second, .val (.long q1), .second] [(.long q0)]))
  refine gob (fun _ k => XS.lloadN X0.here hx rfl (hb hby d5_1) rfl k) ?_
  show Go _ _ _ _ _ _ _ (s₁.setTop (mkF m 2 #[.val (.long q0), .second, .val (.long q1), .second] [(.long q1), (.long q0)]))
  refine gob (fun _ k => XS.lcmp X0.here hx rfl (hb hby d5_2) rfl k) ?_
  show Go _ _ _ _ _ _ _ (s₁.setTop (mkF m 3 #[.val (.long q0), .second, .val (.long q1), .second] [(.int (lcmpW q0 q1))]))
  by_cases hc3_1 : q1 < q0
  · skip
    refine gob (fun _ k => XS.ifYes X0.here hx rfl (pc0 := 3) (pc' := 10) rfl (hb hby d5_3) rfl ((if0 _ _).trans (tlt ((lw_gt _ _).mpr hc3_1)).2.2.1) (by decide) (by decide) k) ?_
    show Go _ _ _ _ _ _ _ (s₁.setTop (mkF m 10 #[.val (.long q0), .second, .val (.long q1), .second] []))
    refine gob (fun _ k => XS.lloadN X0.here hx rfl (hb hby d5_10) rfl k) ?_
    show Go _ _ _ _ _ _ _ (s₁.setTop (mkF m 11 #[.val (.long q0), .second, .val (.long q1), .second] [(.long q1)]))
    refine goJ X0 hx hlk Bd.returns (hb hby d5_11) ?_ (by decide) (by decide)
    show Q5 Z q0 q1 h0 n0 (some (.long q1)) s₁.heap _
    exact ⟨q1, rfl, (Or.inl ⟨hc3_1, rfl⟩), N0, e0⟩
  · skip
    refine gob (fun _ k => XS.ifNo X0.here hx rfl (hb hby d5_3) rfl ((if0 _ _).trans (flt (mt (lw_gt _ _).mp hc3_1)).2.2.1) k) ?_
    show Go _ _ _ _ _ _ _ (s₁.setTop (mkF m 6 #[.val (.long q0), .second, .val (.long q1), .second] []))
    refine gob (fun _ k => XS.lloadN X0.here hx rfl (hb hby d5_6) rfl k) ?_
    show Go _ _ _ _ _ _ _ (s₁.setTop (mkF m 7 #[.val (.long q0), .second, .val (.long q1), .second] [(.long q0)]))
    refine gob (fun _ k => XS.goto X0.here hx rfl (pc0 := 7) (pc' := 11) rfl (hb hby d5_7) (by decide) (by decide) k) ?_
    show Go _ _ _ _ _ _ _ (s₁.setTop (mkF m 11 #[.val (.long q0), .second, .val (.long q1), .second] [(.long q0)]))
    refine goJ X0 hx hlk Bd.returns (hb hby d5_11) ?_ (by decide) (by decide)
    show Q5 Z q0 q1 h0 n0 (some (.long q0)) s₁.heap _
    exact ⟨q0, rfl, (Or.inr ⟨hc3_1, rfl⟩), N0, e0⟩
theorem d6_0 : decode jdk_29_method_66_code 0 = .ok (.lload_n 0, 1) := by decide +kernel
theorem d6_1 : decode jdk_29_method_66_code 1 = .ok (.lload_n 2, 1) := by decide +kernel
theorem d6_2 : decode jdk_29_method_66_code 2 = .ok (.lcmp, 1) := by decide +kernel
theorem d6_3 : decode jdk_29_method_66_code 3 = .ok (.ifCond .lt 7, 3) := by decide +kernel
theorem d6_6 : decode jdk_29_method_66_code 6 = .ok (.lload_n 0, 1) := by decide +kernel
theorem d6_7 : decode jdk_29_method_66_code 7 = .ok (.goto 4, 3) := by decide +kernel
theorem d6_10 : decode jdk_29_method_66_code 10 = .ok (.lload_n 2, 1) := by decide +kernel
theorem d6_11 : decode jdk_29_method_66_code 11 = .ok (.lreturn, 1) := by decide +kernel
theorem ef_6 (m : MethodId) (x0 : Int64) (x1 : Int64) : entryFrame m #[(.long x0), (.long x1)] 4 = mkF m 0 #[.val (.long x0), .second, .val (.long x1), .second] [] := by first | (simp [entryFrame, mkF, argsToLocals, Value.category]; done) | rfl
def Q6 (Z : State) (q0 : Int64) (q1 : Int64) (h0 : Heap) (n0 : Nat) (v : Option Value) (h : Heap) (L : List Loc) : Prop := ∃ r : Int64, v = some (.long r) ∧ ((q0 < q1 ∧ r = q1) ∨ (¬ (q0 < q1) ∧ r = q0)) ∧ Fr n0 L ∧ h = h0
set_option maxRecDepth 65536 in
set_option maxHeartbeats 40000000 in
theorem rm6 (l : Launch) (Z : State) (a0 : Array Value) (hw : ∀ d ∈ tables_1, d.before a0 Z = true) (ws : List Jvm.Cond) (q0 : Int64) (q1 : Int64) (h0 : Heap) (n0 : Nat) (Z0 : n0 ≤ h0.size) :
    MetFree l (⟨"java/lang/Math", "max", "(JJ)J"⟩ : MethodName) (head1 (Jvm.Cond.code (⟨"java/lang/Math", "max", "(JJ)J"⟩ : MethodName) jdk_29_method_66_code 4 (some .long) :: ws) ({ frames := 0, cells := 0, slots := 0, locals := 0 } : Room)) (fun a U => a = #[(.long q0), (.long q1)] ∧ Z.Warmed39 U.vm ∧ U.heap = h0) (fun _ _ _ _ _ => True) (fun _ U o U' => ∃ v L, o = .returned v ∧ Q6 Z q0 q1 h0 n0 v U'.heap L ∧ FrameEnd U o U' L ({ frames := 0, cells := 0, slots := 0, locals := 0 } : Room).cells ({ frames := 0, cells := 0, slots := 0, locals := 0 } : Room).slots) := by
  refine MetFree.of_bodySF (Jvm.Free.JP.mathPlain rfl (by decide +kernel)) hisR ?_
  intro p e s m args below meth c s₁ Bd hml0 hP hK
  obtain ⟨rfl, hZ, hh⟩ := hP
  have hx := Bd.exec
  have hby := Bd.bytes
  have hml : c.maxLocals = 4 := hml0
  have hown : s.vm.findClass "java/lang/Math" = some m.cls := findClass_of_methodNamed Bd.named
  have hnm := (name_of_methodNamed Bd.named Bd.method).1
  have hlk := BodyLoose.notSynchronized Bd
  have X0 : Stand p l e ({ frames := 0, cells := 0, slots := 0, locals := 0 } : Room) s m #[(.long q0), (.long q1)] below meth c s₁ [] 0 0 := Stand.of_body Bd
  have e0 : s₁.heap = h0 := by rw [← hh, Bd.state]; rfl
  have N0 := Fr.nil n0
  show Go p e below s (Q6 Z q0 q1 h0 n0) 0 0 (s₁.setTop (entryFrame m #[(.long q0), (.long q1)] 4))
  rw [ef_6]
  show Go _ _ _ _ _ _ _ (s₁.setTop (mkF m 0 #[.val (.long q0), .second, .val (.long q1), .second] []))
  refine gob (fun _ k => XS.lloadN X0.here hx rfl (hb hby d6_0) rfl k) ?_
  show Go _ _ _ _ _ _ _ (s₁.setTop (mkF m 1 #[.val (.long q0), .second, .val (.long q1), .second] [(.long q0)]))
  refine gob (fun _ k => XS.lloadN X0.here hx rfl (hb hby d6_1) rfl k) ?_
  show Go _ _ _ _ _ _ _ (s₁.setTop (mkF m 2 #[.val (.long q0), .second, .val (.long q1), .second] [(.long q1), (.long q0)]))
  refine gob (fun _ k => XS.lcmp X0.here hx rfl (hb hby d6_2) rfl k) ?_
  show Go _ _ _ _ _ _ _ (s₁.setTop (mkF m 3 #[.val (.long q0), .second, .val (.long q1), .second] [(.int (lcmpW q0 q1))]))
  by_cases hc3_1 : q0 < q1
  · skip
    refine gob (fun _ k => XS.ifYes X0.here hx rfl (pc0 := 3) (pc' := 10) rfl (hb hby d6_3) rfl ((if0 _ _).trans (tlt ((lw_lt _ _).mpr hc3_1)).1) (by decide) (by decide) k) ?_
    show Go _ _ _ _ _ _ _ (s₁.setTop (mkF m 10 #[.val (.long q0), .second, .val (.long q1), .second] []))
    refine gob (fun _ k => XS.lloadN X0.here hx rfl (hb hby d6_10) rfl k) ?_
    show Go _ _ _ _ _ _ _ (s₁.setTop (mkF m 11 #[.val (.long q0), .second, .val (.long q1), .second] [(.long q1)]))
    refine goJ X0 hx hlk Bd.returns (hb hby d6_11) ?_ (by decide) (by decide)
    show Q6 Z q0 q1 h0 n0 (some (.long q1)) s₁.heap _
    exact ⟨q1, rfl, (Or.inl ⟨hc3_1, rfl⟩), N0, e0⟩
  · skip
    refine gob (fun _ k => XS.ifNo X0.here hx rfl (hb hby d6_3) rfl ((if0 _ _).trans (flt (mt (lw_lt _ _).mp hc3_1)).1) k) ?_
    show Go _ _ _ _ _ _ _ (s₁.setTop (mkF m 6 #[.val (.long q0), .second, .val (.long q1), .second] []))
    refine gob (fun _ k => XS.lloadN X0.here hx rfl (hb hby d6_6) rfl k) ?_
    show Go _ _ _ _ _ _ _ (s₁.setTop (mkF m 7 #[.val (.long q0), .second, .val (.long q1), .second] [(.long q0)]))
    refine gob (fun _ k => XS.goto X0.here hx rfl (pc0 := 7) (pc' := 11) rfl (hb hby d6_7) (by decide) (by decide) k) ?_
    show Go _ _ _ _ _ _ _ (s₁.setTop (mkF m 11 #[.val (.long q0), .second, .val (.long q1), .second] [(.long q0)]))
    refine goJ X0 hx hlk Bd.returns (hb hby d6_11) ?_ (by decide) (by decide)
    show Q6 Z q0 q1 h0 n0 (some (.long q0)) s₁.heap _
    exact ⟨q0, rfl, (Or.inr ⟨hc3_1, rfl⟩), N0, e0⟩
theorem d8_0 : decode jdk_29_method_49_code 0 = .ok (.lload_n 0, 1) := by decide +kernel
theorem d8_1 : decode jdk_29_method_49_code 1 = .ok (.lload_n 2, 1) := by decide +kernel
theorem d8_2 : decode jdk_29_method_49_code 2 = .ok (.ldiv, 1) := by decide +kernel
theorem d8_3 : decode jdk_29_method_49_code 3 = .ok (.lstore 4, 2) := by decide +kernel
theorem d8_5 : decode jdk_29_method_49_code 5 = .ok (.lload_n 0, 1) := by decide +kernel
theorem d8_6 : decode jdk_29_method_49_code 6 = .ok (.lload_n 2, 1) := by decide +kernel
theorem d8_7 : decode jdk_29_method_49_code 7 = .ok (.lxor, 1) := by decide +kernel
theorem d8_8 : decode jdk_29_method_49_code 8 = .ok (.lconst 0, 1) := by decide +kernel
theorem d8_9 : decode jdk_29_method_49_code 9 = .ok (.lcmp, 1) := by decide +kernel
theorem d8_10 : decode jdk_29_method_49_code 10 = .ok (.ifCond .ge 17, 3) := by decide +kernel
theorem d8_13 : decode jdk_29_method_49_code 13 = .ok (.lload 4, 2) := by decide +kernel
theorem d8_15 : decode jdk_29_method_49_code 15 = .ok (.lload_n 2, 1) := by decide +kernel
theorem d8_16 : decode jdk_29_method_49_code 16 = .ok (.lmul, 1) := by decide +kernel
theorem d8_17 : decode jdk_29_method_49_code 17 = .ok (.lload_n 0, 1) := by decide +kernel
theorem d8_18 : decode jdk_29_method_49_code 18 = .ok (.lcmp, 1) := by decide +kernel
theorem d8_19 : decode jdk_29_method_49_code 19 = .ok (.ifCond .eq 8, 3) := by decide +kernel
theorem d8_22 : decode jdk_29_method_49_code 22 = .ok (.lload 4, 2) := by decide +kernel
theorem d8_24 : decode jdk_29_method_49_code 24 = .ok (.lconst 1, 1) := by decide +kernel
theorem d8_25 : decode jdk_29_method_49_code 25 = .ok (.lsub, 1) := by decide +kernel
theorem d8_26 : decode jdk_29_method_49_code 26 = .ok (.lreturn, 1) := by decide +kernel
theorem d8_27 : decode jdk_29_method_49_code 27 = .ok (.lload 4, 2) := by decide +kernel
theorem d8_29 : decode jdk_29_method_49_code 29 = .ok (.lreturn, 1) := by decide +kernel
theorem ef_8 (m : MethodId) (x0 : Int64) : entryFrame m #[(.long x0), (.long (100000 : Int64))] 6 = mkF m 0 #[.val (.long x0), .second, .val (.long (100000 : Int64)), .second, .unset, .unset] [] := by first | (simp [entryFrame, mkF, argsToLocals, Value.category]; done) | rfl
def Q8 (Z : State) (q0 : Int64) (h0 : Heap) (n0 : Nat) (v : Option Value) (h : Heap) (L : List Loc) : Prop := ∃ r : Int64, v = some (.long r) ∧ (r.toInt = q0.toInt / 100000) ∧ Fr n0 L ∧ h = h0
theorem lf_8_0 (q0 : Int64) (x1 : Int64) (hx1 : (q0 / (100000 : Int64)) = x1) (hc10_2 : (q0 ^^^ (100000 : Int64)) < (0 : Int64)) (hc19_3 : (x1 * (100000 : Int64)) = q0) : x1.toInt = q0.toInt / 100000 := by
  have := rng64 q0
  have := rng64 x1
  have : (0 : Int64).toInt = 0 := by decide
  have : (100000 : Int64).toInt = 100000 := by decide
  have := c_ldiv q0 (100000 : Int64) (100000) (by decide) (by decide)
  have := rng64 (q0 / (100000 : Int64))
  have := own_lmulR x1 (100000 : Int64) (100000) (by decide)
  have := rng64 (x1 * (100000 : Int64))
  have := own_lxor q0 (100000 : Int64) (by decide)
  try (simp only [Int32.lt_iff_toInt_lt, Int32.le_iff_toInt_le, Int64.lt_iff_toInt_lt, Int64.le_iff_toInt_le, ← Int32.toInt_inj, ← Int64.toInt_inj, ne_eq] at *)
  omega
theorem lf_8_1 (q0 : Int64) (x1 : Int64) (hx1 : (q0 / (100000 : Int64)) = x1) (hc10_2 : (q0 ^^^ (100000 : Int64)) < (0 : Int64)) (hc19_3 : ¬ ((x1 * (100000 : Int64)) = q0)) : (x1 - (1 : Int64)).toInt = q0.toInt / 100000 := by
  have := rng64 q0
  have := rng64 x1
  have : (0 : Int64).toInt = 0 := by decide
  have : (1 : Int64).toInt = 1 := by decide
  have : (100000 : Int64).toInt = 100000 := by decide
  have := c_ldiv q0 (100000 : Int64) (100000) (by decide) (by decide)
  have := rng64 (q0 / (100000 : Int64))
  have := own_lmulR x1 (100000 : Int64) (100000) (by decide)
  have := rng64 (x1 * (100000 : Int64))
  have := c_lsub x1 (1 : Int64)
  have := rng64 (x1 - (1 : Int64))
  have := own_lxor q0 (100000 : Int64) (by decide)
  try (simp only [Int32.lt_iff_toInt_lt, Int32.le_iff_toInt_le, Int64.lt_iff_toInt_lt, Int64.le_iff_toInt_le, ← Int32.toInt_inj, ← Int64.toInt_inj, ne_eq] at *)
  omega
theorem lf_8_2 (q0 : Int64) (x1 : Int64) (hx1 : (q0 / (100000 : Int64)) = x1) (hc10_2 : ¬ ((q0 ^^^ (100000 : Int64)) < (0 : Int64))) : x1.toInt = q0.toInt / 100000 := by
  have := rng64 q0
  have := rng64 x1
  have : (0 : Int64).toInt = 0 := by decide
  have : (100000 : Int64).toInt = 100000 := by decide
  have := c_ldiv q0 (100000 : Int64) (100000) (by decide) (by decide)
  have := rng64 (q0 / (100000 : Int64))
  have := own_lxor q0 (100000 : Int64) (by decide)
  try (simp only [Int32.lt_iff_toInt_lt, Int32.le_iff_toInt_le, Int64.lt_iff_toInt_lt, Int64.le_iff_toInt_le, ← Int32.toInt_inj, ← Int64.toInt_inj, ne_eq] at *)
  omega
set_option maxRecDepth 65536 in
set_option maxHeartbeats 40000000 in
theorem rm8 (l : Launch) (Z : State) (a0 : Array Value) (hw : ∀ d ∈ tables_1, d.before a0 Z = true) (ws : List Jvm.Cond) (q0 : Int64) (h0 : Heap) (n0 : Nat) (Z0 : n0 ≤ h0.size) :
    MetFree l (⟨"java/lang/Math", "floorDiv", "(JJ)J"⟩ : MethodName) (head1 (Jvm.Cond.code (⟨"java/lang/Math", "floorDiv", "(JJ)J"⟩ : MethodName) jdk_29_method_49_code 6 (some .long) :: ws) ({ frames := 0, cells := 0, slots := 0, locals := 0 } : Room)) (fun a U => a = #[(.long q0), (.long (100000 : Int64))] ∧ Z.Warmed39 U.vm ∧ U.heap = h0) (fun _ _ _ _ _ => True) (fun _ U o U' => ∃ v L, o = .returned v ∧ Q8 Z q0 h0 n0 v U'.heap L ∧ FrameEnd U o U' L ({ frames := 0, cells := 0, slots := 0, locals := 0 } : Room).cells ({ frames := 0, cells := 0, slots := 0, locals := 0 } : Room).slots) := by
  refine MetFree.of_bodySF (Jvm.Free.JP.mathPlain rfl (by decide +kernel)) hisR ?_
  intro p e s m args below meth c s₁ Bd hml0 hP hK
  obtain ⟨rfl, hZ, hh⟩ := hP
  have hx := Bd.exec
  have hby := Bd.bytes
  have hml : c.maxLocals = 6 := hml0
  have hown : s.vm.findClass "java/lang/Math" = some m.cls := findClass_of_methodNamed Bd.named
  have hnm := (name_of_methodNamed Bd.named Bd.method).1
  have hlk := BodyLoose.notSynchronized Bd
  have X0 : Stand p l e ({ frames := 0, cells := 0, slots := 0, locals := 0 } : Room) s m #[(.long q0), (.long (100000 : Int64))] below meth c s₁ [] 0 0 := Stand.of_body Bd
  have e0 : s₁.heap = h0 := by rw [← hh, Bd.state]; rfl
  have N0 := Fr.nil n0
  show Go p e below s (Q8 Z q0 h0 n0) 0 0 (s₁.setTop (entryFrame m #[(.long q0), (.long (100000 : Int64))] 6))
  rw [ef_8]
  show Go _ _ _ _ _ _ _ (s₁.setTop (mkF m 0 #[.val (.long q0), .second, .val (.long (100000 : Int64)), .second, .unset, .unset] []))
  refine gob (fun _ k => XS.lloadN X0.here hx rfl (hb hby d8_0) rfl k) ?_
  show Go _ _ _ _ _ _ _ (s₁.setTop (mkF m 1 #[.val (.long q0), .second, .val (.long (100000 : Int64)), .second, .unset, .unset] [(.long q0)]))
  refine gob (fun _ k => XS.lloadN X0.here hx rfl (hb hby d8_1) rfl k) ?_
  show Go _ _ _ _ _ _ _ (s₁.setTop (mkF m 2 #[.val (.long q0), .second, .val (.long (100000 : Int64)), .second, .unset, .unset] [(.long (100000 : Int64)), (.long q0)]))
  refine gob (fun _ k => XS.ldiv X0.here hx rfl (hb hby d8_2) rfl (by decide) k) ?_
  show Go _ _ _ _ _ _ _ (s₁.setTop (mkF m 3 #[.val (.long q0), .second, .val (.long (100000 : Int64)), .second, .unset, .unset] [(.long (q0 / (100000 : Int64)))]))
  refine gob (fun _ k => XS.lstore X0.here hx rfl (hb hby d8_3) rfl (l' := #[.val (.long q0), .second, .val (.long (100000 : Int64)), .second, .val (.long (q0 / (100000 : Int64))), .second]) rfl k) ?_
  show Go _ _ _ _ _ _ _ (s₁.setTop (mkF m 5 #[.val (.long q0), .second, .val (.long (100000 : Int64)), .second, .val (.long (q0 / (100000 : Int64))), .second] []))
  generalize hx1 : (q0 / (100000 : Int64)) = x1
  show Go _ _ _ _ _ _ _ (s₁.setTop (mkF m 5 #[.val (.long q0), .second, .val (.long (100000 : Int64)), .second, .val (.long x1), .second] []))
  refine gob (fun _ k => XS.lloadN X0.here hx rfl (hb hby d8_5) rfl k) ?_
  show Go _ _ _ _ _ _ _ (s₁.setTop (mkF m 6 #[.val (.long q0), .second, .val (.long (100000 : Int64)), .second, .val (.long x1), .second] [(.long q0)]))
  refine gob (fun _ k => XS.lloadN X0.here hx rfl (hb hby d8_6) rfl k) ?_
  show Go _ _ _ _ _ _ _ (s₁.setTop (mkF m 7 #[.val (.long q0), .second, .val (.long (100000 : Int64)), .second, .val (.long x1), .second] [(.long (100000 : Int64)), (.long q0)]))
  refine gob (fun _ k => XS.lxor X0.here hx rfl (hb hby d8_7) rfl k) ?_
  show Go _ _ _ _ _ _ _ (s₁.setTop (mkF m 8 #[.val (.long q0), .second, .val (.long (100000 : Int64)), .second, .val (.long x1), .second] [(.long (q0 ^^^ (100000 : Int64)))]))
  refine gob (fun _ k => XS.lconst X0.here hx rfl (hb hby d8_8) k) ?_
  show Go _ _ _ _ _ _ _ (s₁.setTop (mkF m 9 #[.val (.long q0), .second, .val (.long (100000 : Int64)), .second, .val (.long x1), .second] [(.long (0 : Int64)), (.long (q0 ^^^ (100000 : Int64)))]))
  refine gob (fun _ k => XS.lcmp X0.here hx rfl (hb hby d8_9) rfl k) ?_
  show Go _ _ _ _ _ _ _ (s₁.setTop (mkF m 10 #[.val (.long q0), .second, .val (.long (100000 : Int64)), .second, .val (.long x1), .second] [(.int (lcmpW (q0 ^^^ (100000 : Int64)) (0 : Int64)))]))
  by_cases hc10_2 : (q0 ^^^ (100000 : Int64)) < (0 : Int64)
  · skip
    refine gob (fun _ k => XS.ifNo X0.here hx rfl (hb hby d8_10) rfl ((if0 _ _).trans (tlt ((lw_lt _ _).mpr hc10_2)).2.1) k) ?_
    show Go _ _ _ _ _ _ _ (s₁.setTop (mkF m 13 #[.val (.long q0), .second, .val (.long (100000 : Int64)), .second, .val (.long x1), .second] []))
    refine gob (fun _ k => XS.lload X0.here hx rfl (hb hby d8_13) rfl k) ?_
    show Go _ _ _ _ _ _ _ (s₁.setTop (mkF m 15 #[.val (.long q0), .second, .val (.long (100000 : Int64)), .second, .val (.long x1), .second] [(.long x1)]))
    refine gob (fun _ k => XS.lloadN X0.here hx rfl (hb hby d8_15) rfl k) ?_
    show Go _ _ _ _ _ _ _ (s₁.setTop (mkF m 16 #[.val (.long q0), .second, .val (.long (100000 : Int64)), .second, .val (.long x1), .second] [(.long (100000 : Int64)), (.long x1)]))
    refine gob (fun _ k => XS.lmul X0.here hx rfl (hb hby d8_16) rfl k) ?_
    show Go _ _ _ _ _ _ _ (s₁.setTop (mkF m 17 #[.val (.long q0), .second, .val (.long (100000 : Int64)), .second, .val (.long x1), .second] [(.long (x1 * (100000 : Int64)))]))
    refine gob (fun _ k => XS.lloadN X0.here hx rfl (hb hby d8_17) rfl k) ?_
    show Go _ _ _ _ _ _ _ (s₁.setTop (mkF m 18 #[.val (.long q0), .second, .val (.long (100000 : Int64)), .second, .val (.long x1), .second] [(.long q0), (.long (x1 * (100000 : Int64)))]))
    refine gob (fun _ k => XS.lcmp X0.here hx rfl (hb hby d8_18) rfl k) ?_
    show Go _ _ _ _ _ _ _ (s₁.setTop (mkF m 19 #[.val (.long q0), .second, .val (.long (100000 : Int64)), .second, .val (.long x1), .second] [(.int (lcmpW (x1 * (100000 : Int64)) q0))]))
    by_cases hc19_3 : (x1 * (100000 : Int64)) = q0
    · skip
      refine gob (fun _ k => XS.ifYes X0.here hx rfl (pc0 := 19) (pc' := 27) rfl (hb hby d8_19) rfl ((if0 _ _).trans (teq ((lw_eq _ _).mpr hc19_3)).1) (by decide) (by decide) k) ?_
      show Go _ _ _ _ _ _ _ (s₁.setTop (mkF m 27 #[.val (.long q0), .second, .val (.long (100000 : Int64)), .second, .val (.long x1), .second] []))
      refine gob (fun _ k => XS.lload X0.here hx rfl (hb hby d8_27) rfl k) ?_
      show Go _ _ _ _ _ _ _ (s₁.setTop (mkF m 29 #[.val (.long q0), .second, .val (.long (100000 : Int64)), .second, .val (.long x1), .second] [(.long x1)]))
      refine goJ X0 hx hlk Bd.returns (hb hby d8_29) ?_ (by decide) (by decide)
      show Q8 Z q0 h0 n0 (some (.long x1)) s₁.heap _
      exact ⟨x1, rfl, lf_8_0 q0 x1 hx1 hc10_2 hc19_3, N0, e0⟩
    · skip
      refine gob (fun _ k => XS.ifNo X0.here hx rfl (hb hby d8_19) rfl ((if0 _ _).trans (feq (mt (lw_eq _ _).mp hc19_3)).1) k) ?_
      show Go _ _ _ _ _ _ _ (s₁.setTop (mkF m 22 #[.val (.long q0), .second, .val (.long (100000 : Int64)), .second, .val (.long x1), .second] []))
      refine gob (fun _ k => XS.lload X0.here hx rfl (hb hby d8_22) rfl k) ?_
      show Go _ _ _ _ _ _ _ (s₁.setTop (mkF m 24 #[.val (.long q0), .second, .val (.long (100000 : Int64)), .second, .val (.long x1), .second] [(.long x1)]))
      refine gob (fun _ k => XS.lconst X0.here hx rfl (hb hby d8_24) k) ?_
      show Go _ _ _ _ _ _ _ (s₁.setTop (mkF m 25 #[.val (.long q0), .second, .val (.long (100000 : Int64)), .second, .val (.long x1), .second] [(.long (1 : Int64)), (.long x1)]))
      refine gob (fun _ k => XS.lsub X0.here hx rfl (hb hby d8_25) rfl k) ?_
      show Go _ _ _ _ _ _ _ (s₁.setTop (mkF m 26 #[.val (.long q0), .second, .val (.long (100000 : Int64)), .second, .val (.long x1), .second] [(.long (x1 - (1 : Int64)))]))
      refine goJ X0 hx hlk Bd.returns (hb hby d8_26) ?_ (by decide) (by decide)
      show Q8 Z q0 h0 n0 (some (.long (x1 - (1 : Int64)))) s₁.heap _
      exact ⟨(x1 - (1 : Int64)), rfl, lf_8_1 q0 x1 hx1 hc10_2 hc19_3, N0, e0⟩
  · skip
    refine gob (fun _ k => XS.ifYes X0.here hx rfl (pc0 := 10) (pc' := 27) rfl (hb hby d8_10) rfl ((if0 _ _).trans (flt (mt (lw_lt _ _).mp hc10_2)).2.1) (by decide) (by decide) k) ?_
    show Go _ _ _ _ _ _ _ (s₁.setTop (mkF m 27 #[.val (.long q0), .second, .val (.long (100000 : Int64)), .second, .val (.long x1), .second] []))
    refine gob (fun _ k => XS.lload X0.here hx rfl (hb hby d8_27) rfl k) ?_
    show Go _ _ _ _ _ _ _ (s₁.setTop (mkF m 29 #[.val (.long q0), .second, .val (.long (100000 : Int64)), .second, .val (.long x1), .second] [(.long x1)]))
    refine goJ X0 hx hlk Bd.returns (hb hby d8_29) ?_ (by decide) (by decide)
    show Q8 Z q0 h0 n0 (some (.long x1)) s₁.heap _
    exact ⟨x1, rfl, lf_8_2 q0 x1 hx1 hc10_2, N0, e0⟩
theorem d4_0 : decode prog_42_method_3_code 0 = .ok (.aload_n 0, 1) := by decide +kernel
theorem d4_1 : decode prog_42_method_3_code 1 = .ok (.getfield 7, 3) := by decide +kernel
theorem d4_4 : decode prog_42_method_3_code 4 = .ok (.ifCond .eq 17, 3) := by decide +kernel
theorem d4_7 : decode prog_42_method_3_code 7 = .ok (.aload_n 0, 1) := by decide +kernel
theorem d4_8 : decode prog_42_method_3_code 8 = .ok (.getfield 31, 3) := by decide +kernel
theorem d4_11 : decode prog_42_method_3_code 11 = .ok (.aload_n 0, 1) := by decide +kernel
theorem d4_12 : decode prog_42_method_3_code 12 = .ok (.getfield 25, 3) := by decide +kernel
theorem d4_15 : decode prog_42_method_3_code 15 = .ok (.lsub, 1) := by decide +kernel
theorem d4_16 : decode prog_42_method_3_code 16 = .ok (.lconst 1, 1) := by decide +kernel
theorem d4_17 : decode prog_42_method_3_code 17 = .ok (.ladd, 1) := by decide +kernel
theorem d4_18 : decode prog_42_method_3_code 18 = .ok (.goto 4, 3) := by decide +kernel
theorem d4_21 : decode prog_42_method_3_code 21 = .ok (.lconst 0, 1) := by decide +kernel
theorem d4_22 : decode prog_42_method_3_code 22 = .ok (.lreturn, 1) := by decide +kernel
theorem ef_4a (m : MethodId) (x0 : Addr) : entryFrame m #[(.ref x0)] 1 = mkF m 0 #[.val (.ref x0)] [] := by first | (simp [entryFrame, mkF, argsToLocals, Value.category]; done) | rfl
def Q4a (Z : State) (o0 : Addr) (q_fi : Int64) (q_lo : Int64) (q_hi : Int64) (h0 : Heap) (n0 : Nat) (v : Option Value) (h : Heap) (L : List Loc) : Prop := ∃ r : Int64, v = some (.long r) ∧ ((r = (0 : Int64))) ∧ Fr n0 L ∧ h = h0
set_option maxRecDepth 65536 in
set_option maxHeartbeats 40000000 in
theorem rm4a (l : Launch) (Z : State) (a0 : Array Value) (hw : ∀ d ∈ tables_1, d.before a0 Z = true) (ws : List Jvm.Cond) (o0 : Addr) (q_fi : Int64) (q_lo : Int64) (q_hi : Int64) (h0 : Heap) (n0 : Nat) (Z0 : n0 ≤ h0.size) (F_started_o0 : Fld Z h0 o0 "com/example/flomem/flomem/replay/Timeline" "started" "Z" (.int (0 : Int32))) (F_firstMicros_o0 : Fld Z h0 o0 "com/example/flomem/flomem/replay/Timeline" "firstMicros" "J" (.long q_fi)) (F_lowestWindow_o0 : Fld Z h0 o0 "com/example/flomem/flomem/replay/Timeline" "lowestWindow" "J" (.long q_lo)) (F_highestWindow_o0 : Fld Z h0 o0 "com/example/flomem/flomem/replay/Timeline" "highestWindow" "J" (.long q_hi)) :
    MetFree l (⟨"com/example/flomem/flomem/replay/Timeline", "windows", "()J"⟩ : MethodName) (head1 (Jvm.Cond.code (⟨"com/example/flomem/flomem/replay/Timeline", "windows", "()J"⟩ : MethodName) prog_42_method_3_code 1 (some .long) :: ws) ({ frames := 0, cells := 0, slots := 0, locals := 0 } : Room)) (fun a U => a = #[(.ref o0)] ∧ Z.Warmed39 U.vm ∧ U.heap = h0) (fun _ _ _ _ _ => True) (fun _ U o U' => ∃ v L, o = .returned v ∧ Q4a Z o0 q_fi q_lo q_hi h0 n0 v U'.heap L ∧ FrameEnd U o U' L ({ frames := 0, cells := 0, slots := 0, locals := 0 } : Room).cells ({ frames := 0, cells := 0, slots := 0, locals := 0 } : Room).slots) := by
  refine MetFree.of_bodySF (plainFor_of_name (by first | (simp [plainName, overriddenIn]; done) | decide +kernel)) hisR ?_
  intro p e s m args below meth c s₁ Bd hml0 hP hK
  obtain ⟨rfl, hZ, hh⟩ := hP
  have hx := Bd.exec
  have hby := Bd.bytes
  have hml : c.maxLocals = 1 := hml0
  have hown : s.vm.findClass "com/example/flomem/flomem/replay/Timeline" = some m.cls := findClass_of_methodNamed Bd.named
  have hnm := (name_of_methodNamed Bd.named Bd.method).1
  have hlk := BodyLoose.notSynchronized Bd
  have X0 : Stand p l e ({ frames := 0, cells := 0, slots := 0, locals := 0 } : Room) s m #[(.ref o0)] below meth c s₁ [] 0 0 := Stand.of_body Bd
  have e0 : s₁.heap = h0 := by rw [← hh, Bd.state]; rfl
  have N0 := Fr.nil n0
  show Go p e below s (Q4a Z o0 q_fi q_lo q_hi h0 n0) 0 0 (s₁.setTop (entryFrame m #[(.ref o0)] 1))
  rw [ef_4a]
  show Go _ _ _ _ _ _ _ (s₁.setTop (mkF m 0 #[.val (.ref o0)] []))
  refine gob (fun _ k => XS.aloadN X0.here hx rfl (hb hby d4_0) rfl rfl k) ?_
  show Go _ _ _ _ _ _ _ (s₁.setTop (mkF m 1 #[.val (.ref o0)] [(.ref o0)]))
  obtain ⟨T1, X1, e1, st1⟩ := getF X0 hx hZ hown (host := "") (Or.inl (hw _ (List.mem_of_getElem? (i := 20) rfl))) Via.refl e0 F_started_o0 (g := (mkF m 1 #[.val (.ref o0)] [(.ref o0)])) rfl rfl (hb hby d4_1)
  refine gob st1 ?_
  show Go _ _ _ _ _ _ _ (T1.setTop (mkF m 4 #[.val (.ref o0)] [(.int (0 : Int32))]))
  refine gob (fun _ k => XS.ifYes X1.here hx rfl (pc0 := 4) (pc' := 21) rfl (hb hby d4_4) rfl ((if0 _ _).trans (teq (by decide : (0 : Int32) = (0 : Int32))).1) (by decide) (by decide) k) ?_
  show Go _ _ _ _ _ _ _ (T1.setTop (mkF m 21 #[.val (.ref o0)] []))
  refine gob (fun _ k => XS.lconst X1.here hx rfl (hb hby d4_21) k) ?_
  show Go _ _ _ _ _ _ _ (T1.setTop (mkF m 22 #[.val (.ref o0)] [(.long (0 : Int64))]))
  refine goJ X1 hx hlk Bd.returns (hb hby d4_22) ?_ (by decide) (by decide)
  show Q4a Z o0 q_fi q_lo q_hi h0 n0 (some (.long (0 : Int64))) T1.heap _
  exact ⟨(0 : Int64), rfl, rfl, N0, e1⟩
theorem d7_0 : decode prog_42_method_2_code 0 = .ok (.aload_n 0, 1) := by decide +kernel
theorem d7_1 : decode prog_42_method_2_code 1 = .ok (.getfield 7, 3) := by decide +kernel
theorem d7_4 : decode prog_42_method_2_code 4 = .ok (.ifCond .ne 13, 3) := by decide +kernel
theorem d7_7 : decode prog_42_method_2_code 7 = .ok (.aload_n 0, 1) := by decide +kernel
theorem d7_8 : decode prog_42_method_2_code 8 = .ok (.iconst 1, 1) := by decide +kernel
theorem d7_9 : decode prog_42_method_2_code 9 = .ok (.putfield 7, 3) := by decide +kernel
theorem d7_12 : decode prog_42_method_2_code 12 = .ok (.aload_n 0, 1) := by decide +kernel
theorem d7_13 : decode prog_42_method_2_code 13 = .ok (.lload_n 1, 1) := by decide +kernel
theorem d7_14 : decode prog_42_method_2_code 14 = .ok (.putfield 13, 3) := by decide +kernel
theorem d7_17 : decode prog_42_method_2_code 17 = .ok (.lload_n 1, 1) := by decide +kernel
theorem d7_18 : decode prog_42_method_2_code 18 = .ok (.aload_n 0, 1) := by decide +kernel
theorem d7_19 : decode prog_42_method_2_code 19 = .ok (.getfield 13, 3) := by decide +kernel
theorem d7_22 : decode prog_42_method_2_code 22 = .ok (.lsub, 1) := by decide +kernel
theorem d7_23 : decode prog_42_method_2_code 23 = .ok (.ldc2_w 17, 3) := by decide +kernel
theorem d7_26 : decode prog_42_method_2_code 26 = .ok (.invokestatic 19, 3) := by decide +kernel
theorem d7_29 : decode prog_42_method_2_code 29 = .ok (.lstore_n 3, 1) := by decide +kernel
theorem d7_30 : decode prog_42_method_2_code 30 = .ok (.aload_n 0, 1) := by decide +kernel
theorem d7_31 : decode prog_42_method_2_code 31 = .ok (.aload_n 0, 1) := by decide +kernel
theorem d7_32 : decode prog_42_method_2_code 32 = .ok (.getfield 25, 3) := by decide +kernel
theorem d7_35 : decode prog_42_method_2_code 35 = .ok (.lload_n 3, 1) := by decide +kernel
theorem d7_36 : decode prog_42_method_2_code 36 = .ok (.invokestatic 28, 3) := by decide +kernel
theorem d7_39 : decode prog_42_method_2_code 39 = .ok (.putfield 25, 3) := by decide +kernel
theorem d7_42 : decode prog_42_method_2_code 42 = .ok (.aload_n 0, 1) := by decide +kernel
theorem d7_43 : decode prog_42_method_2_code 43 = .ok (.aload_n 0, 1) := by decide +kernel
theorem d7_44 : decode prog_42_method_2_code 44 = .ok (.getfield 31, 3) := by decide +kernel
theorem d7_47 : decode prog_42_method_2_code 47 = .ok (.lload_n 3, 1) := by decide +kernel
theorem d7_48 : decode prog_42_method_2_code 48 = .ok (.invokestatic 34, 3) := by decide +kernel
theorem d7_51 : decode prog_42_method_2_code 51 = .ok (.putfield 31, 3) := by decide +kernel
theorem d7_54 : decode prog_42_method_2_code 54 = .ok (.lload_n 3, 1) := by decide +kernel
theorem d7_55 : decode prog_42_method_2_code 55 = .ok (.lreturn, 1) := by decide +kernel
theorem pd_0 : parseMethodDescriptor "(JJ)J" = some ⟨[.long, .long], some .long⟩ := by decide +kernel
theorem ef_7a (m : MethodId) (x0 : Addr) (x1 : Int64) : entryFrame m #[(.ref x0), (.long x1)] 5 = mkF m 0 #[.val (.ref x0), .val (.long x1), .second, .unset, .unset] [] := by first | (simp [entryFrame, mkF, argsToLocals, Value.category]; done) | rfl
def Q7a (Z : State) (o0 : Addr) (q1 : Int64) (q_fi : Int64) (q_lo : Int64) (q_hi : Int64) (h0 : Heap) (n0 : Nat) (v : Option Value) (h : Heap) (L : List Loc) : Prop := ∃ r11 : Int64, ∃ r14 : Int64, ∃ r21 : Int64, v = some (.long r11) ∧ Fr n0 L ∧ Keep h0 h ([o0] : List Addr) ∧ Fld Z h o0 "com/example/flomem/flomem/replay/Timeline" "started" "Z" (.int (1 : Int32)) ∧ Fld Z h o0 "com/example/flomem/flomem/replay/Timeline" "firstMicros" "J" (.long q1) ∧ Fld Z h o0 "com/example/flomem/flomem/replay/Timeline" "lowestWindow" "J" (.long r14) ∧ Fld Z h o0 "com/example/flomem/flomem/replay/Timeline" "highestWindow" "J" (.long r21) ∧ r11.toInt = (q1 - q1).toInt / 100000 ∧ ((r11 < q_lo ∧ r14 = r11) ∨ (¬ (r11 < q_lo) ∧ r14 = q_lo)) ∧ ((q_hi < r11 ∧ r21 = r11) ∨ (¬ (q_hi < r11) ∧ r21 = q_hi))
set_option maxRecDepth 65536 in
set_option maxHeartbeats 40000000 in
theorem rm7a (l : Launch) (Z : State) (a0 : Array Value) (hw : ∀ d ∈ tables_1, d.before a0 Z = true) (ws : List Jvm.Cond) (o0 : Addr) (q1 : Int64) (q_fi : Int64) (q_lo : Int64) (q_hi : Int64) (h0 : Heap) (n0 : Nat) (Z0 : n0 ≤ h0.size) (F_started_o0 : Fld Z h0 o0 "com/example/flomem/flomem/replay/Timeline" "started" "Z" (.int (0 : Int32))) (F_firstMicros_o0 : Fld Z h0 o0 "com/example/flomem/flomem/replay/Timeline" "firstMicros" "J" (.long q_fi)) (F_lowestWindow_o0 : Fld Z h0 o0 "com/example/flomem/flomem/replay/Timeline" "lowestWindow" "J" (.long q_lo)) (F_highestWindow_o0 : Fld Z h0 o0 "com/example/flomem/flomem/replay/Timeline" "highestWindow" "J" (.long q_hi)) (E_o0 : Exa Z h0 o0 "com/example/flomem/flomem/replay/Timeline") (g_o0 : n0 ≤ o0) :
    MetFree l (⟨"com/example/flomem/flomem/replay/Timeline", "place", "(J)J"⟩ : MethodName) (head1 (Jvm.Cond.code (⟨"com/example/flomem/flomem/replay/Timeline", "place", "(J)J"⟩ : MethodName) prog_42_method_2_code 5 (some .long) :: ws) ({ frames := 1, cells := 0, slots := 0, locals := 17 } : Room)) (fun a U => a = #[(.ref o0), (.long q1)] ∧ Z.Warmed39 U.vm ∧ U.heap = h0) (fun _ _ _ _ _ => True) (fun _ U o U' => ∃ v L, o = .returned v ∧ Q7a Z o0 q1 q_fi q_lo q_hi h0 n0 v U'.heap L ∧ FrameEnd U o U' L ({ frames := 1, cells := 0, slots := 0, locals := 17 } : Room).cells ({ frames := 1, cells := 0, slots := 0, locals := 17 } : Room).slots) := by
  refine MetFree.of_bodySF (plainFor_of_name (by first | (simp [plainName, overriddenIn]; done) | decide +kernel)) hisR ?_
  intro p e s m args below meth c s₁ Bd hml0 hP hK
  obtain ⟨rfl, hZ, hh⟩ := hP
  have hx := Bd.exec
  have hby := Bd.bytes
  have hml : c.maxLocals = 5 := hml0
  have hown : s.vm.findClass "com/example/flomem/flomem/replay/Timeline" = some m.cls := findClass_of_methodNamed Bd.named
  have hnm := (name_of_methodNamed Bd.named Bd.method).1
  have hlk := BodyLoose.notSynchronized Bd
  have X0 : Stand p l e ({ frames := 1, cells := 0, slots := 0, locals := 17 } : Room) s m #[(.ref o0), (.long q1)] below meth c s₁ [] 0 0 := Stand.of_body Bd
  have e0 : s₁.heap = h0 := by rw [← hh, Bd.state]; rfl
  have N0 := Fr.nil n0
  show Go p e below s (Q7a Z o0 q1 q_fi q_lo q_hi h0 n0) 0 0 (s₁.setTop (entryFrame m #[(.ref o0), (.long q1)] 5))
  rw [ef_7a]
  show Go _ _ _ _ _ _ _ (s₁.setTop (mkF m 0 #[.val (.ref o0), .val (.long q1), .second, .unset, .unset] []))
  refine gob (fun _ k => XS.aloadN X0.here hx rfl (hb hby d7_0) rfl rfl k) ?_
  show Go _ _ _ _ _ _ _ (s₁.setTop (mkF m 1 #[.val (.ref o0), .val (.long q1), .second, .unset, .unset] [(.ref o0)]))
  obtain ⟨T1, X1, e1, st1⟩ := getF X0 hx hZ hown (host := "") (Or.inl (hw _ (List.mem_of_getElem? (i := 20) rfl))) Via.refl e0 F_started_o0 (g := (mkF m 1 #[.val (.ref o0), .val (.long q1), .second, .unset, .unset] [(.ref o0)])) rfl rfl (hb hby d7_1)
  refine gob st1 ?_
  show Go _ _ _ _ _ _ _ (T1.setTop (mkF m 4 #[.val (.ref o0), .val (.long q1), .second, .unset, .unset] [(.int (0 : Int32))]))
  refine gob (fun _ k => XS.ifNo X1.here hx rfl (hb hby d7_4) rfl ((if0 _ _).trans (teq (by decide : (0 : Int32) = (0 : Int32))).2) k) ?_
  show Go _ _ _ _ _ _ _ (T1.setTop (mkF m 7 #[.val (.ref o0), .val (.long q1), .second, .unset, .unset] []))
  refine gob (fun _ k => XS.aloadN X1.here hx rfl (hb hby d7_7) rfl rfl k) ?_
  show Go _ _ _ _ _ _ _ (T1.setTop (mkF m 8 #[.val (.ref o0), .val (.long q1), .second, .unset, .unset] [(.ref o0)]))
  refine gob (fun _ k => XS.iconst X1.here hx rfl (hb hby d7_8) k) ?_
  show Go _ _ _ _ _ _ _ (T1.setTop (mkF m 9 #[.val (.ref o0), .val (.long q1), .second, .unset, .unset] [(.int (1 : Int32)), (.ref o0)]))
  obtain ⟨T2, h2, X2, e2, W2, st2⟩ := putFN X1 hx hZ hown (hw _ (List.mem_of_getElem? (i := 20) rfl)) Via.refl e1 F_started_o0 E_o0 (Or.inl (hw _ (List.mem_of_getElem? (i := 21) rfl))) (hw _ (List.mem_of_getElem? (i := 7) rfl)) (ty := .boolean) (v' := (.int (1 : Int32))) (by decide) rfl rfl (g := (mkF m 9 #[.val (.ref o0), .val (.long q1), .second, .unset, .unset] [(.int (1 : Int32)), (.ref o0)])) rfl rfl (hb hby d7_9)
  refine gob st2 ?_
  have z3 : n0 ≤ h2.size := Nat.le_trans Z0 (Keep.of_wr W2).1
  have N2 := Fr.snoc X2 N0 g_o0
  have K4 : Keep h0 h2 ([o0] : List Addr) := (Keep.refl h0 ([o0] : List Addr)).wr W2 (Or.inl (List.mem_of_getElem? (i := 0) rfl))
  have Fw2 := F_started_o0.same W2
  show Go _ _ _ _ _ _ _ (T2.setTop (mkF m 12 #[.val (.ref o0), .val (.long q1), .second, .unset, .unset] []))
  refine gob (fun _ k => XS.aloadN X2.here hx rfl (hb hby d7_12) rfl rfl k) ?_
  show Go _ _ _ _ _ _ _ (T2.setTop (mkF m 13 #[.val (.ref o0), .val (.long q1), .second, .unset, .unset] [(.ref o0)]))
  refine gob (fun _ k => XS.lloadN X2.here hx rfl (hb hby d7_13) rfl k) ?_
  show Go _ _ _ _ _ _ _ (T2.setTop (mkF m 14 #[.val (.ref o0), .val (.long q1), .second, .unset, .unset] [(.long q1), (.ref o0)]))
  have c5 := (F_firstMicros_o0.other W2 (Or.inr (slot_ne (Or.inl (hw _ (List.mem_of_getElem? (i := 36) rfl))) (Or.inl (hw _ (List.mem_of_getElem? (i := 21) rfl))) (by decide) (t := .long) (t' := .boolean) (by decide) (by decide))))
  have c6 := (E_o0.wr W2)
  obtain ⟨T7, h7, X7, e7, W7, st7⟩ := putF X2 hx hZ hown (host := "") (Or.inl (hw _ (List.mem_of_getElem? (i := 35) rfl))) Via.refl e2 c5 c6 (Or.inl (hw _ (List.mem_of_getElem? (i := 36) rfl))) (hw _ (List.mem_of_getElem? (i := 7) rfl)) (ty := .long) (by decide) rfl rfl (g := (mkF m 14 #[.val (.ref o0), .val (.long q1), .second, .unset, .unset] [(.long q1), (.ref o0)])) rfl rfl (hb hby d7_14)
  refine gob st7 ?_
  have z8 : n0 ≤ h7.size := Nat.le_trans z3 (Keep.of_wr W7).1
  have N7 := Fr.snoc X7 N2 g_o0
  have K9 : Keep h0 h7 ([o0] : List Addr) := K4.wr W7 (Or.inl (List.mem_of_getElem? (i := 0) rfl))
  have Fw7 := c5.same W7
  show Go _ _ _ _ _ _ _ (T7.setTop (mkF m 17 #[.val (.ref o0), .val (.long q1), .second, .unset, .unset] []))
  refine gob (fun _ k => XS.lloadN X7.here hx rfl (hb hby d7_17) rfl k) ?_
  show Go _ _ _ _ _ _ _ (T7.setTop (mkF m 18 #[.val (.ref o0), .val (.long q1), .second, .unset, .unset] [(.long q1)]))
  refine gob (fun _ k => XS.aloadN X7.here hx rfl (hb hby d7_18) rfl rfl k) ?_
  show Go _ _ _ _ _ _ _ (T7.setTop (mkF m 19 #[.val (.ref o0), .val (.long q1), .second, .unset, .unset] [(.ref o0), (.long q1)]))
  obtain ⟨T10, X10, e10, st10⟩ := getF X7 hx hZ hown (host := "") (Or.inl (hw _ (List.mem_of_getElem? (i := 35) rfl))) Via.refl e7 Fw7 (g := (mkF m 19 #[.val (.ref o0), .val (.long q1), .second, .unset, .unset] [(.ref o0), (.long q1)])) rfl rfl (hb hby d7_19)
  refine gob st10 ?_
  show Go _ _ _ _ _ _ _ (T10.setTop (mkF m 22 #[.val (.ref o0), .val (.long q1), .second, .unset, .unset] [(.long q1), (.long q1)]))
  refine gob (fun _ k => XS.lsub X10.here hx rfl (hb hby d7_22) rfl k) ?_
  show Go _ _ _ _ _ _ _ (T10.setTop (mkF m 23 #[.val (.ref o0), .val (.long q1), .second, .unset, .unset] [(.long (q1 - q1))]))
  refine gob (X10.ldc2Long hx hown (mvT hZ (hw _ (List.mem_of_getElem? (i := 37) rfl))) (g := (mkF m 23 #[.val (.ref o0), .val (.long q1), .second, .unset, .unset] [(.long (q1 - q1))])) rfl (hb hby d7_23)) ?_
  show Go _ _ _ _ _ _ _ (T10.setTop (mkF m 26 #[.val (.ref o0), .val (.long q1), .second, .unset, .unset] [(.long (100000 : Int64)), (.long (q1 - q1))]))
  obtain ⟨_, _, ⟨T11, L11, k11, n11⟩, -, X11, ⟨Lc11, hQ11, l11, y11, z11⟩, st11⟩ := Jvm.LawKit.callS X10 hx (y := (⟨"java/lang/Math", "floorDiv", "(JJ)J"⟩ : MethodName)) hown (mvT hZ (hw _ (List.mem_of_getElem? (i := 38) rfl))) (mvT hZ (hw _ (List.mem_of_getElem? (i := 39) rfl))) (mvT hZ (hw _ (List.mem_of_getElem? (i := 24) rfl))) (mvT hZ (hw _ (List.mem_of_getElem? (i := 40) rfl))) (by decide) (backOf (W := 0) (rm8 l Z a0 hw [] (q1 - q1) h7 n0 z8 ) hZ (hw _ (List.mem_of_getElem? (i := 40) rfl)) (hw _ (List.mem_of_getElem? (i := 24) rfl)) (by decide) (by decide)) (g := (mkF m 26 #[.val (.ref o0), .val (.long q1), .second, .unset, .unset] [(.long (100000 : Int64)), (.long (q1 - q1))])) rfl (by rw [hml]; rfl) (argsL := [(.long (q1 - q1)), (.long (100000 : Int64))]) (rest := []) (lenOf pd_0 rfl) rfl (by show 2 * 0 + _ ≤ _; exact Nat.le_of_eq rfl) (hb hby d7_26) (fun _ _ => ⟨rfl, e10, (by decide : 0 + 0 ≤ _), (by decide : 0 + 0 ≤ _)⟩)
  dsimp only [Pt.U, Pt.locs, Pt.cells, Pt.slots] at X11 l11 y11 z11 st11 hQ11
  subst l11 y11 z11
  obtain ⟨r11, rfl, hr11, Nq11, e11⟩ := hQ11
  have N11 := Fr.app N7 Nq11
  refine gob st11 ?_
  show Go _ _ _ _ _ _ _ (T11.setTop (mkF m 29 #[.val (.ref o0), .val (.long q1), .second, .unset, .unset] [(.long r11)]))
  refine gob (fun _ k => XS.lstoreN X11.here hx rfl (hb hby d7_29) rfl (l' := #[.val (.ref o0), .val (.long q1), .second, .val (.long r11), .second]) rfl k) ?_
  show Go _ _ _ _ _ _ _ (T11.setTop (mkF m 30 #[.val (.ref o0), .val (.long q1), .second, .val (.long r11), .second] []))
  refine gob (fun _ k => XS.aloadN X11.here hx rfl (hb hby d7_30) rfl rfl k) ?_
  show Go _ _ _ _ _ _ _ (T11.setTop (mkF m 31 #[.val (.ref o0), .val (.long q1), .second, .val (.long r11), .second] [(.ref o0)]))
  refine gob (fun _ k => XS.aloadN X11.here hx rfl (hb hby d7_31) rfl rfl k) ?_
  show Go _ _ _ _ _ _ _ (T11.setTop (mkF m 32 #[.val (.ref o0), .val (.long q1), .second, .val (.long r11), .second] [(.ref o0), (.ref o0)]))
  have c12 := ((F_lowestWindow_o0.other W2 (Or.inr (slot_ne (Or.inl (hw _ (List.mem_of_getElem? (i := 42) rfl))) (Or.inl (hw _ (List.mem_of_getElem? (i := 21) rfl))) (by decide) (t := .long) (t' := .boolean) (by decide) (by decide)))).other W7 (Or.inr (slot_ne (Or.inl (hw _ (List.mem_of_getElem? (i := 42) rfl))) (Or.inl (hw _ (List.mem_of_getElem? (i := 36) rfl))) (by decide) (t := .long) (t' := .long) (by decide) (by decide))))
  obtain ⟨T13, X13, e13, st13⟩ := getF X11 hx hZ hown (host := "") (Or.inl (hw _ (List.mem_of_getElem? (i := 41) rfl))) Via.refl e11 c12 (g := (mkF m 32 #[.val (.ref o0), .val (.long q1), .second, .val (.long r11), .second] [(.ref o0), (.ref o0)])) rfl rfl (hb hby d7_32)
  refine gob st13 ?_
  show Go _ _ _ _ _ _ _ (T13.setTop (mkF m 35 #[.val (.ref o0), .val (.long q1), .second, .val (.long r11), .second] [(.long q_lo), (.ref o0)]))
  refine gob (fun _ k => XS.lloadN X13.here hx rfl (hb hby d7_35) rfl k) ?_
  show Go _ _ _ _ _ _ _ (T13.setTop (mkF m 36 #[.val (.ref o0), .val (.long q1), .second, .val (.long r11), .second] [(.long r11), (.long q_lo), (.ref o0)]))
  obtain ⟨_, _, ⟨T14, L14, k14, n14⟩, -, X14, ⟨Lc14, hQ14, l14, y14, z14⟩, st14⟩ := Jvm.LawKit.callS X13 hx (y := (⟨"java/lang/Math", "min", "(JJ)J"⟩ : MethodName)) hown (mvT hZ (hw _ (List.mem_of_getElem? (i := 43) rfl))) (mvT hZ (hw _ (List.mem_of_getElem? (i := 23) rfl))) (mvT hZ (hw _ (List.mem_of_getElem? (i := 24) rfl))) (mvT hZ (hw _ (List.mem_of_getElem? (i := 25) rfl))) (by decide) (backOf (W := 1) (rm5 l Z a0 hw [] q_lo r11 h7 n0 z8 ) hZ (hw _ (List.mem_of_getElem? (i := 25) rfl)) (hw _ (List.mem_of_getElem? (i := 24) rfl)) (by decide) (by decide)) (g := (mkF m 36 #[.val (.ref o0), .val (.long q1), .second, .val (.long r11), .second] [(.long r11), (.long q_lo), (.ref o0)])) rfl (by rw [hml]; rfl) (argsL := [(.long q_lo), (.long r11)]) (rest := [(.ref o0)]) (lenOf pd_0 rfl) rfl (by show 2 * 0 + _ ≤ _; exact Nat.le_of_eq rfl) (hb hby d7_36) (fun _ _ => ⟨rfl, e13, (by decide : 0 + 0 ≤ _), (by decide : 0 + 0 ≤ _)⟩)
  dsimp only [Pt.U, Pt.locs, Pt.cells, Pt.slots] at X14 l14 y14 z14 st14 hQ14
  subst l14 y14 z14
  obtain ⟨r14, rfl, hr14, Nq14, e14⟩ := hQ14
  have N14 := Fr.app N11 Nq14
  refine gob st14 ?_
  show Go _ _ _ _ _ _ _ (T14.setTop (mkF m 39 #[.val (.ref o0), .val (.long q1), .second, .val (.long r11), .second] [(.long r14), (.ref o0)]))
  have c15 := (c6.wr W7)
  obtain ⟨T16, h16, X16, e16, W16, st16⟩ := putF X14 hx hZ hown (host := "") (Or.inl (hw _ (List.mem_of_getElem? (i := 41) rfl))) Via.refl e14 c12 c15 (Or.inl (hw _ (List.mem_of_getElem? (i := 42) rfl))) (hw _ (List.mem_of_getElem? (i := 7) rfl)) (ty := .long) (by decide) rfl rfl (g := (mkF m 39 #[.val (.ref o0), .val (.long q1), .second, .val (.long r11), .second] [(.long r14), (.ref o0)])) rfl rfl (hb hby d7_39)
  refine gob st16 ?_
  have z17 : n0 ≤ h16.size := Nat.le_trans z8 (Keep.of_wr W16).1
  have N16 := Fr.snoc X16 N14 g_o0
  have K18 : Keep h0 h16 ([o0] : List Addr) := K9.wr W16 (Or.inl (List.mem_of_getElem? (i := 0) rfl))
  have Fw16 := c12.same W16
  show Go _ _ _ _ _ _ _ (T16.setTop (mkF m 42 #[.val (.ref o0), .val (.long q1), .second, .val (.long r11), .second] []))
  refine gob (fun _ k => XS.aloadN X16.here hx rfl (hb hby d7_42) rfl rfl k) ?_
  show Go _ _ _ _ _ _ _ (T16.setTop (mkF m 43 #[.val (.ref o0), .val (.long q1), .second, .val (.long r11), .second] [(.ref o0)]))
  refine gob (fun _ k => XS.aloadN X16.here hx rfl (hb hby d7_43) rfl rfl k) ?_
  show Go _ _ _ _ _ _ _ (T16.setTop (mkF m 44 #[.val (.ref o0), .val (.long q1), .second, .val (.long r11), .second] [(.ref o0), (.ref o0)]))
  have c19 := (((F_highestWindow_o0.other W2 (Or.inr (slot_ne (Or.inl (hw _ (List.mem_of_getElem? (i := 45) rfl))) (Or.inl (hw _ (List.mem_of_getElem? (i := 21) rfl))) (by decide) (t := .long) (t' := .boolean) (by decide) (by decide)))).other W7 (Or.inr (slot_ne (Or.inl (hw _ (List.mem_of_getElem? (i := 45) rfl))) (Or.inl (hw _ (List.mem_of_getElem? (i := 36) rfl))) (by decide) (t := .long) (t' := .long) (by decide) (by decide)))).other W16 (Or.inr (slot_ne (Or.inl (hw _ (List.mem_of_getElem? (i := 45) rfl))) (Or.inl (hw _ (List.mem_of_getElem? (i := 42) rfl))) (by decide) (t := .long) (t' := .long) (by decide) (by decide))))
  obtain ⟨T20, X20, e20, st20⟩ := getF X16 hx hZ hown (host := "") (Or.inl (hw _ (List.mem_of_getElem? (i := 44) rfl))) Via.refl e16 c19 (g := (mkF m 44 #[.val (.ref o0), .val (.long q1), .second, .val (.long r11), .second] [(.ref o0), (.ref o0)])) rfl rfl (hb hby d7_44)
  refine gob st20 ?_
  show Go _ _ _ _ _ _ _ (T20.setTop (mkF m 47 #[.val (.ref o0), .val (.long q1), .second, .val (.long r11), .second] [(.long q_hi), (.ref o0)]))
  refine gob (fun _ k => XS.lloadN X20.here hx rfl (hb hby d7_47) rfl k) ?_
  show Go _ _ _ _ _ _ _ (T20.setTop (mkF m 48 #[.val (.ref o0), .val (.long q1), .second, .val (.long r11), .second] [(.long r11), (.long q_hi), (.ref o0)]))
  obtain ⟨_, _, ⟨T21, L21, k21, n21⟩, -, X21, ⟨Lc21, hQ21, l21, y21, z21⟩, st21⟩ := Jvm.LawKit.callS X20 hx (y := (⟨"java/lang/Math", "max", "(JJ)J"⟩ : MethodName)) hown (mvT hZ (hw _ (List.mem_of_getElem? (i := 46) rfl))) (mvT hZ (hw _ (List.mem_of_getElem? (i := 27) rfl))) (mvT hZ (hw _ (List.mem_of_getElem? (i := 24) rfl))) (mvT hZ (hw _ (List.mem_of_getElem? (i := 28) rfl))) (by decide) (backOf (W := 1) (rm6 l Z a0 hw [] q_hi r11 h16 n0 z17 ) hZ (hw _ (List.mem_of_getElem? (i := 28) rfl)) (hw _ (List.mem_of_getElem? (i := 24) rfl)) (by decide) (by decide)) (g := (mkF m 48 #[.val (.ref o0), .val (.long q1), .second, .val (.long r11), .second] [(.long r11), (.long q_hi), (.ref o0)])) rfl (by rw [hml]; rfl) (argsL := [(.long q_hi), (.long r11)]) (rest := [(.ref o0)]) (lenOf pd_0 rfl) rfl (by show 2 * 0 + _ ≤ _; exact Nat.le_of_eq rfl) (hb hby d7_48) (fun _ _ => ⟨rfl, e20, (by decide : 0 + 0 ≤ _), (by decide : 0 + 0 ≤ _)⟩)
  dsimp only [Pt.U, Pt.locs, Pt.cells, Pt.slots] at X21 l21 y21 z21 st21 hQ21
  subst l21 y21 z21
  obtain ⟨r21, rfl, hr21, Nq21, e21⟩ := hQ21
  have N21 := Fr.app N16 Nq21
  refine gob st21 ?_
  show Go _ _ _ _ _ _ _ (T21.setTop (mkF m 51 #[.val (.ref o0), .val (.long q1), .second, .val (.long r11), .second] [(.long r21), (.ref o0)]))
  have c22 := (c15.wr W16)
  obtain ⟨T23, h23, X23, e23, W23, st23⟩ := putF X21 hx hZ hown (host := "") (Or.inl (hw _ (List.mem_of_getElem? (i := 44) rfl))) Via.refl e21 c19 c22 (Or.inl (hw _ (List.mem_of_getElem? (i := 45) rfl))) (hw _ (List.mem_of_getElem? (i := 7) rfl)) (ty := .long) (by decide) rfl rfl (g := (mkF m 51 #[.val (.ref o0), .val (.long q1), .second, .val (.long r11), .second] [(.long r21), (.ref o0)])) rfl rfl (hb hby d7_51)
  refine gob st23 ?_
  have z24 : n0 ≤ h23.size := Nat.le_trans z17 (Keep.of_wr W23).1
  have N23 := Fr.snoc X23 N21 g_o0
  have K25 : Keep h0 h23 ([o0] : List Addr) := K18.wr W23 (Or.inl (List.mem_of_getElem? (i := 0) rfl))
  have Fw23 := c19.same W23
  show Go _ _ _ _ _ _ _ (T23.setTop (mkF m 54 #[.val (.ref o0), .val (.long q1), .second, .val (.long r11), .second] []))
  refine gob (fun _ k => XS.lloadN X23.here hx rfl (hb hby d7_54) rfl k) ?_
  show Go _ _ _ _ _ _ _ (T23.setTop (mkF m 55 #[.val (.ref o0), .val (.long q1), .second, .val (.long r11), .second] [(.long r11)]))
  refine goJ X23 hx hlk Bd.returns (hb hby d7_55) ?_ (by decide) (by decide)
  show Q7a Z o0 q1 q_fi q_lo q_hi h0 n0 (some (.long r11)) T23.heap _
  have c26 := (((Fw2.other W7 (Or.inr (slot_ne (Or.inl (hw _ (List.mem_of_getElem? (i := 21) rfl))) (Or.inl (hw _ (List.mem_of_getElem? (i := 36) rfl))) (by decide) (t := .boolean) (t' := .long) (by decide) (by decide)))).other W16 (Or.inr (slot_ne (Or.inl (hw _ (List.mem_of_getElem? (i := 21) rfl))) (Or.inl (hw _ (List.mem_of_getElem? (i := 42) rfl))) (by decide) (t := .boolean) (t' := .long) (by decide) (by decide)))).other W23 (Or.inr (slot_ne (Or.inl (hw _ (List.mem_of_getElem? (i := 21) rfl))) (Or.inl (hw _ (List.mem_of_getElem? (i := 45) rfl))) (by decide) (t := .boolean) (t' := .long) (by decide) (by decide))))
  have c27 := ((Fw7.other W16 (Or.inr (slot_ne (Or.inl (hw _ (List.mem_of_getElem? (i := 36) rfl))) (Or.inl (hw _ (List.mem_of_getElem? (i := 42) rfl))) (by decide) (t := .long) (t' := .long) (by decide) (by decide)))).other W23 (Or.inr (slot_ne (Or.inl (hw _ (List.mem_of_getElem? (i := 36) rfl))) (Or.inl (hw _ (List.mem_of_getElem? (i := 45) rfl))) (by decide) (t := .long) (t' := .long) (by decide) (by decide))))
  have c28 := (Fw16.other W23 (Or.inr (slot_ne (Or.inl (hw _ (List.mem_of_getElem? (i := 42) rfl))) (Or.inl (hw _ (List.mem_of_getElem? (i := 45) rfl))) (by decide) (t := .long) (t' := .long) (by decide) (by decide))))
  rw [e23]
  exact ⟨r11, r14, r21, rfl, N23, K25, c26, c27, c28, Fw23, hr11, hr14, hr21⟩
theorem ef_4b (m : MethodId) (x0 : Addr) : entryFrame m #[(.ref x0)] 1 = mkF m 0 #[.val (.ref x0)] [] := by first | (simp [entryFrame, mkF, argsToLocals, Value.category]; done) | rfl
def Q4b (Z : State) (o0 : Addr) (q_fi : Int64) (q_lo : Int64) (q_hi : Int64) (h0 : Heap) (n0 : Nat) (v : Option Value) (h : Heap) (L : List Loc) : Prop := ∃ r : Int64, v = some (.long r) ∧ ((r = ((q_hi - q_lo) + (1 : Int64)))) ∧ Fr n0 L ∧ h = h0
set_option maxRecDepth 65536 in
set_option maxHeartbeats 40000000 in
theorem rm4b (l : Launch) (Z : State) (a0 : Array Value) (hw : ∀ d ∈ tables_1, d.before a0 Z = true) (ws : List Jvm.Cond) (o0 : Addr) (q_fi : Int64) (q_lo : Int64) (q_hi : Int64) (h0 : Heap) (n0 : Nat) (Z0 : n0 ≤ h0.size) (F_started_o0 : Fld Z h0 o0 "com/example/flomem/flomem/replay/Timeline" "started" "Z" (.int (1 : Int32))) (F_firstMicros_o0 : Fld Z h0 o0 "com/example/flomem/flomem/replay/Timeline" "firstMicros" "J" (.long q_fi)) (F_lowestWindow_o0 : Fld Z h0 o0 "com/example/flomem/flomem/replay/Timeline" "lowestWindow" "J" (.long q_lo)) (F_highestWindow_o0 : Fld Z h0 o0 "com/example/flomem/flomem/replay/Timeline" "highestWindow" "J" (.long q_hi)) :
    MetFree l (⟨"com/example/flomem/flomem/replay/Timeline", "windows", "()J"⟩ : MethodName) (head1 (Jvm.Cond.code (⟨"com/example/flomem/flomem/replay/Timeline", "windows", "()J"⟩ : MethodName) prog_42_method_3_code 1 (some .long) :: ws) ({ frames := 0, cells := 0, slots := 0, locals := 0 } : Room)) (fun a U => a = #[(.ref o0)] ∧ Z.Warmed39 U.vm ∧ U.heap = h0) (fun _ _ _ _ _ => True) (fun _ U o U' => ∃ v L, o = .returned v ∧ Q4b Z o0 q_fi q_lo q_hi h0 n0 v U'.heap L ∧ FrameEnd U o U' L ({ frames := 0, cells := 0, slots := 0, locals := 0 } : Room).cells ({ frames := 0, cells := 0, slots := 0, locals := 0 } : Room).slots) := by
  refine MetFree.of_bodySF (plainFor_of_name (by first | (simp [plainName, overriddenIn]; done) | decide +kernel)) hisR ?_
  intro p e s m args below meth c s₁ Bd hml0 hP hK
  obtain ⟨rfl, hZ, hh⟩ := hP
  have hx := Bd.exec
  have hby := Bd.bytes
  have hml : c.maxLocals = 1 := hml0
  have hown : s.vm.findClass "com/example/flomem/flomem/replay/Timeline" = some m.cls := findClass_of_methodNamed Bd.named
  have hnm := (name_of_methodNamed Bd.named Bd.method).1
  have hlk := BodyLoose.notSynchronized Bd
  have X0 : Stand p l e ({ frames := 0, cells := 0, slots := 0, locals := 0 } : Room) s m #[(.ref o0)] below meth c s₁ [] 0 0 := Stand.of_body Bd
  have e0 : s₁.heap = h0 := by rw [← hh, Bd.state]; rfl
  have N0 := Fr.nil n0
  show Go p e below s (Q4b Z o0 q_fi q_lo q_hi h0 n0) 0 0 (s₁.setTop (entryFrame m #[(.ref o0)] 1))
  rw [ef_4b]
  show Go _ _ _ _ _ _ _ (s₁.setTop (mkF m 0 #[.val (.ref o0)] []))
  refine gob (fun _ k => XS.aloadN X0.here hx rfl (hb hby d4_0) rfl rfl k) ?_
  show Go _ _ _ _ _ _ _ (s₁.setTop (mkF m 1 #[.val (.ref o0)] [(.ref o0)]))
  obtain ⟨T1, X1, e1, st1⟩ := getF X0 hx hZ hown (host := "") (Or.inl (hw _ (List.mem_of_getElem? (i := 20) rfl))) Via.refl e0 F_started_o0 (g := (mkF m 1 #[.val (.ref o0)] [(.ref o0)])) rfl rfl (hb hby d4_1)
  refine gob st1 ?_
  show Go _ _ _ _ _ _ _ (T1.setTop (mkF m 4 #[.val (.ref o0)] [(.int (1 : Int32))]))
  refine gob (fun _ k => XS.ifNo X1.here hx rfl (hb hby d4_4) rfl ((if0 _ _).trans (feq (by decide : ¬ ((1 : Int32) = (0 : Int32)))).1) k) ?_
  show Go _ _ _ _ _ _ _ (T1.setTop (mkF m 7 #[.val (.ref o0)] []))
  refine gob (fun _ k => XS.aloadN X1.here hx rfl (hb hby d4_7) rfl rfl k) ?_
  show Go _ _ _ _ _ _ _ (T1.setTop (mkF m 8 #[.val (.ref o0)] [(.ref o0)]))
  obtain ⟨T2, X2, e2, st2⟩ := getF X1 hx hZ hown (host := "") (Or.inl (hw _ (List.mem_of_getElem? (i := 44) rfl))) Via.refl e1 F_highestWindow_o0 (g := (mkF m 8 #[.val (.ref o0)] [(.ref o0)])) rfl rfl (hb hby d4_8)
  refine gob st2 ?_
  show Go _ _ _ _ _ _ _ (T2.setTop (mkF m 11 #[.val (.ref o0)] [(.long q_hi)]))
  refine gob (fun _ k => XS.aloadN X2.here hx rfl (hb hby d4_11) rfl rfl k) ?_
  show Go _ _ _ _ _ _ _ (T2.setTop (mkF m 12 #[.val (.ref o0)] [(.ref o0), (.long q_hi)]))
  obtain ⟨T3, X3, e3, st3⟩ := getF X2 hx hZ hown (host := "") (Or.inl (hw _ (List.mem_of_getElem? (i := 41) rfl))) Via.refl e2 F_lowestWindow_o0 (g := (mkF m 12 #[.val (.ref o0)] [(.ref o0), (.long q_hi)])) rfl rfl (hb hby d4_12)
  refine gob st3 ?_
  show Go _ _ _ _ _ _ _ (T3.setTop (mkF m 15 #[.val (.ref o0)] [(.long q_lo), (.long q_hi)]))
  refine gob (fun _ k => XS.lsub X3.here hx rfl (hb hby d4_15) rfl k) ?_
  show Go _ _ _ _ _ _ _ (T3.setTop (mkF m 16 #[.val (.ref o0)] [(.long (q_hi - q_lo))]))
  refine gob (fun _ k => XS.lconst X3.here hx rfl (hb hby d4_16) k) ?_
  show Go _ _ _ _ _ _ _ (T3.setTop (mkF m 17 #[.val (.ref o0)] [(.long (1 : Int64)), (.long (q_hi - q_lo))]))
  refine gob (fun _ k => XS.ladd X3.here hx rfl (hb hby d4_17) rfl k) ?_
  show Go _ _ _ _ _ _ _ (T3.setTop (mkF m 18 #[.val (.ref o0)] [(.long ((q_hi - q_lo) + (1 : Int64)))]))
  refine gob (fun _ k => XS.goto X3.here hx rfl (pc0 := 18) (pc' := 22) rfl (hb hby d4_18) (by decide) (by decide) k) ?_
  show Go _ _ _ _ _ _ _ (T3.setTop (mkF m 22 #[.val (.ref o0)] [(.long ((q_hi - q_lo) + (1 : Int64)))]))
  refine goJ X3 hx hlk Bd.returns (hb hby d4_22) ?_ (by decide) (by decide)
  show Q4b Z o0 q_fi q_lo q_hi h0 n0 (some (.long ((q_hi - q_lo) + (1 : Int64)))) T3.heap _
  exact ⟨((q_hi - q_lo) + (1 : Int64)), rfl, rfl, N0, e3⟩
theorem ef_7b (m : MethodId) (x0 : Addr) (x1 : Int64) : entryFrame m #[(.ref x0), (.long x1)] 5 = mkF m 0 #[.val (.ref x0), .val (.long x1), .second, .unset, .unset] [] := by first | (simp [entryFrame, mkF, argsToLocals, Value.category]; done) | rfl
def Q7b (Z : State) (o0 : Addr) (q1 : Int64) (q_fi : Int64) (q_lo : Int64) (q_hi : Int64) (h0 : Heap) (n0 : Nat) (v : Option Value) (h : Heap) (L : List Loc) : Prop := ∃ r3 : Int64, ∃ r5 : Int64, ∃ r11 : Int64, v = some (.long r3) ∧ Fr n0 L ∧ Keep h0 h ([o0] : List Addr) ∧ Fld Z h o0 "com/example/flomem/flomem/replay/Timeline" "started" "Z" (.int (1 : Int32)) ∧ Fld Z h o0 "com/example/flomem/flomem/replay/Timeline" "firstMicros" "J" (.long q_fi) ∧ Fld Z h o0 "com/example/flomem/flomem/replay/Timeline" "lowestWindow" "J" (.long r5) ∧ Fld Z h o0 "com/example/flomem/flomem/replay/Timeline" "highestWindow" "J" (.long r11) ∧ r3.toInt = (q1 - q_fi).toInt / 100000 ∧ ((r3 < q_lo ∧ r5 = r3) ∨ (¬ (r3 < q_lo) ∧ r5 = q_lo)) ∧ ((q_hi < r3 ∧ r11 = r3) ∨ (¬ (q_hi < r3) ∧ r11 = q_hi))
set_option maxRecDepth 65536 in
set_option maxHeartbeats 40000000 in
theorem rm7b (l : Launch) (Z : State) (a0 : Array Value) (hw : ∀ d ∈ tables_1, d.before a0 Z = true) (ws : List Jvm.Cond) (o0 : Addr) (q1 : Int64) (q_fi : Int64) (q_lo : Int64) (q_hi : Int64) (h0 : Heap) (n0 : Nat) (Z0 : n0 ≤ h0.size) (F_started_o0 : Fld Z h0 o0 "com/example/flomem/flomem/replay/Timeline" "started" "Z" (.int (1 : Int32))) (F_firstMicros_o0 : Fld Z h0 o0 "com/example/flomem/flomem/replay/Timeline" "firstMicros" "J" (.long q_fi)) (F_lowestWindow_o0 : Fld Z h0 o0 "com/example/flomem/flomem/replay/Timeline" "lowestWindow" "J" (.long q_lo)) (F_highestWindow_o0 : Fld Z h0 o0 "com/example/flomem/flomem/replay/Timeline" "highestWindow" "J" (.long q_hi)) (E_o0 : Exa Z h0 o0 "com/example/flomem/flomem/replay/Timeline") (g_o0 : n0 ≤ o0) :
    MetFree l (⟨"com/example/flomem/flomem/replay/Timeline", "place", "(J)J"⟩ : MethodName) (head1 (Jvm.Cond.code (⟨"com/example/flomem/flomem/replay/Timeline", "place", "(J)J"⟩ : MethodName) prog_42_method_2_code 5 (some .long) :: ws) ({ frames := 1, cells := 0, slots := 0, locals := 17 } : Room)) (fun a U => a = #[(.ref o0), (.long q1)] ∧ Z.Warmed39 U.vm ∧ U.heap = h0) (fun _ _ _ _ _ => True) (fun _ U o U' => ∃ v L, o = .returned v ∧ Q7b Z o0 q1 q_fi q_lo q_hi h0 n0 v U'.heap L ∧ FrameEnd U o U' L ({ frames := 1, cells := 0, slots := 0, locals := 17 } : Room).cells ({ frames := 1, cells := 0, slots := 0, locals := 17 } : Room).slots) := by
  refine MetFree.of_bodySF (plainFor_of_name (by first | (simp [plainName, overriddenIn]; done) | decide +kernel)) hisR ?_
  intro p e s m args below meth c s₁ Bd hml0 hP hK
  obtain ⟨rfl, hZ, hh⟩ := hP
  have hx := Bd.exec
  have hby := Bd.bytes
  have hml : c.maxLocals = 5 := hml0
  have hown : s.vm.findClass "com/example/flomem/flomem/replay/Timeline" = some m.cls := findClass_of_methodNamed Bd.named
  have hnm := (name_of_methodNamed Bd.named Bd.method).1
  have hlk := BodyLoose.notSynchronized Bd
  have X0 : Stand p l e ({ frames := 1, cells := 0, slots := 0, locals := 17 } : Room) s m #[(.ref o0), (.long q1)] below meth c s₁ [] 0 0 := Stand.of_body Bd
  have e0 : s₁.heap = h0 := by rw [← hh, Bd.state]; rfl
  have N0 := Fr.nil n0
  show Go p e below s (Q7b Z o0 q1 q_fi q_lo q_hi h0 n0) 0 0 (s₁.setTop (entryFrame m #[(.ref o0), (.long q1)] 5))
  rw [ef_7b]
  show Go _ _ _ _ _ _ _ (s₁.setTop (mkF m 0 #[.val (.ref o0), .val (.long q1), .second, .unset, .unset] []))
  refine gob (fun _ k => XS.aloadN X0.here hx rfl (hb hby d7_0) rfl rfl k) ?_
  show Go _ _ _ _ _ _ _ (s₁.setTop (mkF m 1 #[.val (.ref o0), .val (.long q1), .second, .unset, .unset] [(.ref o0)]))
  obtain ⟨T1, X1, e1, st1⟩ := getF X0 hx hZ hown (host := "") (Or.inl (hw _ (List.mem_of_getElem? (i := 20) rfl))) Via.refl e0 F_started_o0 (g := (mkF m 1 #[.val (.ref o0), .val (.long q1), .second, .unset, .unset] [(.ref o0)])) rfl rfl (hb hby d7_1)
  refine gob st1 ?_
  show Go _ _ _ _ _ _ _ (T1.setTop (mkF m 4 #[.val (.ref o0), .val (.long q1), .second, .unset, .unset] [(.int (1 : Int32))]))
  refine gob (fun _ k => XS.ifYes X1.here hx rfl (pc0 := 4) (pc' := 17) rfl (hb hby d7_4) rfl ((if0 _ _).trans (feq (by decide : ¬ ((1 : Int32) = (0 : Int32)))).2) (by decide) (by decide) k) ?_
  show Go _ _ _ _ _ _ _ (T1.setTop (mkF m 17 #[.val (.ref o0), .val (.long q1), .second, .unset, .unset] []))
  refine gob (fun _ k => XS.lloadN X1.here hx rfl (hb hby d7_17) rfl k) ?_
  show Go _ _ _ _ _ _ _ (T1.setTop (mkF m 18 #[.val (.ref o0), .val (.long q1), .second, .unset, .unset] [(.long q1)]))
  refine gob (fun _ k => XS.aloadN X1.here hx rfl (hb hby d7_18) rfl rfl k) ?_
  show Go _ _ _ _ _ _ _ (T1.setTop (mkF m 19 #[.val (.ref o0), .val (.long q1), .second, .unset, .unset] [(.ref o0), (.long q1)]))
  obtain ⟨T2, X2, e2, st2⟩ := getF X1 hx hZ hown (host := "") (Or.inl (hw _ (List.mem_of_getElem? (i := 35) rfl))) Via.refl e1 F_firstMicros_o0 (g := (mkF m 19 #[.val (.ref o0), .val (.long q1), .second, .unset, .unset] [(.ref o0), (.long q1)])) rfl rfl (hb hby d7_19)
  refine gob st2 ?_
  show Go _ _ _ _ _ _ _ (T2.setTop (mkF m 22 #[.val (.ref o0), .val (.long q1), .second, .unset, .unset] [(.long q_fi), (.long q1)]))
  refine gob (fun _ k => XS.lsub X2.here hx rfl (hb hby d7_22) rfl k) ?_
  show Go _ _ _ _ _ _ _ (T2.setTop (mkF m 23 #[.val (.ref o0), .val (.long q1), .second, .unset, .unset] [(.long (q1 - q_fi))]))
  refine gob (X2.ldc2Long hx hown (mvT hZ (hw _ (List.mem_of_getElem? (i := 37) rfl))) (g := (mkF m 23 #[.val (.ref o0), .val (.long q1), .second, .unset, .unset] [(.long (q1 - q_fi))])) rfl (hb hby d7_23)) ?_
  show Go _ _ _ _ _ _ _ (T2.setTop (mkF m 26 #[.val (.ref o0), .val (.long q1), .second, .unset, .unset] [(.long (100000 : Int64)), (.long (q1 - q_fi))]))
  obtain ⟨_, _, ⟨T3, L3, k3, n3⟩, -, X3, ⟨Lc3, hQ3, l3, y3, z3⟩, st3⟩ := Jvm.LawKit.callS X2 hx (y := (⟨"java/lang/Math", "floorDiv", "(JJ)J"⟩ : MethodName)) hown (mvT hZ (hw _ (List.mem_of_getElem? (i := 38) rfl))) (mvT hZ (hw _ (List.mem_of_getElem? (i := 39) rfl))) (mvT hZ (hw _ (List.mem_of_getElem? (i := 24) rfl))) (mvT hZ (hw _ (List.mem_of_getElem? (i := 40) rfl))) (by decide) (backOf (W := 0) (rm8 l Z a0 hw [] (q1 - q_fi) h0 n0 Z0 ) hZ (hw _ (List.mem_of_getElem? (i := 40) rfl)) (hw _ (List.mem_of_getElem? (i := 24) rfl)) (by decide) (by decide)) (g := (mkF m 26 #[.val (.ref o0), .val (.long q1), .second, .unset, .unset] [(.long (100000 : Int64)), (.long (q1 - q_fi))])) rfl (by rw [hml]; rfl) (argsL := [(.long (q1 - q_fi)), (.long (100000 : Int64))]) (rest := []) (lenOf pd_0 rfl) rfl (by show 2 * 0 + _ ≤ _; exact Nat.le_of_eq rfl) (hb hby d7_26) (fun _ _ => ⟨rfl, e2, (by decide : 0 + 0 ≤ _), (by decide : 0 + 0 ≤ _)⟩)
  dsimp only [Pt.U, Pt.locs, Pt.cells, Pt.slots] at X3 l3 y3 z3 st3 hQ3
  subst l3 y3 z3
  obtain ⟨r3, rfl, hr3, Nq3, e3⟩ := hQ3
  have N3 := Fr.app N0 Nq3
  refine gob st3 ?_
  show Go _ _ _ _ _ _ _ (T3.setTop (mkF m 29 #[.val (.ref o0), .val (.long q1), .second, .unset, .unset] [(.long r3)]))
  refine gob (fun _ k => XS.lstoreN X3.here hx rfl (hb hby d7_29) rfl (l' := #[.val (.ref o0), .val (.long q1), .second, .val (.long r3), .second]) rfl k) ?_
  show Go _ _ _ _ _ _ _ (T3.setTop (mkF m 30 #[.val (.ref o0), .val (.long q1), .second, .val (.long r3), .second] []))
  refine gob (fun _ k => XS.aloadN X3.here hx rfl (hb hby d7_30) rfl rfl k) ?_
  show Go _ _ _ _ _ _ _ (T3.setTop (mkF m 31 #[.val (.ref o0), .val (.long q1), .second, .val (.long r3), .second] [(.ref o0)]))
  refine gob (fun _ k => XS.aloadN X3.here hx rfl (hb hby d7_31) rfl rfl k) ?_
  show Go _ _ _ _ _ _ _ (T3.setTop (mkF m 32 #[.val (.ref o0), .val (.long q1), .second, .val (.long r3), .second] [(.ref o0), (.ref o0)]))
  obtain ⟨T4, X4, e4, st4⟩ := getF X3 hx hZ hown (host := "") (Or.inl (hw _ (List.mem_of_getElem? (i := 41) rfl))) Via.refl e3 F_lowestWindow_o0 (g := (mkF m 32 #[.val (.ref o0), .val (.long q1), .second, .val (.long r3), .second] [(.ref o0), (.ref o0)])) rfl rfl (hb hby d7_32)
  refine gob st4 ?_
  show Go _ _ _ _ _ _ _ (T4.setTop (mkF m 35 #[.val (.ref o0), .val (.long q1), .second, .val (.long r3), .second] [(.long q_lo), (.ref o0)]))
  refine gob (fun _ k => XS.lloadN X4.here hx rfl (hb hby d7_35) rfl k) ?_
  show Go _ _ _ _ _ _ _ (T4.setTop (mkF m 36 #[.val (.ref o0), .val (.long q1), .second, .val (.long r3), .second] [(.long r3), (.long q_lo), (.ref o0)]))
  obtain ⟨_, _, ⟨T5, L5, k5, n5⟩, -, X5, ⟨Lc5, hQ5, l5, y5, z5⟩, st5⟩ := Jvm.LawKit.callS X4 hx (y := (⟨"java/lang/Math", "min", "(JJ)J"⟩ : MethodName)) hown (mvT hZ (hw _ (List.mem_of_getElem? (i := 43) rfl))) (mvT hZ (hw _ (List.mem_of_getElem? (i := 23) rfl))) (mvT hZ (hw _ (List.mem_of_getElem? (i := 24) rfl))) (mvT hZ (hw _ (List.mem_of_getElem? (i := 25) rfl))) (by decide) (backOf (W := 1) (rm5 l Z a0 hw [] q_lo r3 h0 n0 Z0 ) hZ (hw _ (List.mem_of_getElem? (i := 25) rfl)) (hw _ (List.mem_of_getElem? (i := 24) rfl)) (by decide) (by decide)) (g := (mkF m 36 #[.val (.ref o0), .val (.long q1), .second, .val (.long r3), .second] [(.long r3), (.long q_lo), (.ref o0)])) rfl (by rw [hml]; rfl) (argsL := [(.long q_lo), (.long r3)]) (rest := [(.ref o0)]) (lenOf pd_0 rfl) rfl (by show 2 * 0 + _ ≤ _; exact Nat.le_of_eq rfl) (hb hby d7_36) (fun _ _ => ⟨rfl, e4, (by decide : 0 + 0 ≤ _), (by decide : 0 + 0 ≤ _)⟩)
  dsimp only [Pt.U, Pt.locs, Pt.cells, Pt.slots] at X5 l5 y5 z5 st5 hQ5
  subst l5 y5 z5
  obtain ⟨r5, rfl, hr5, Nq5, e5⟩ := hQ5
  have N5 := Fr.app N3 Nq5
  refine gob st5 ?_
  show Go _ _ _ _ _ _ _ (T5.setTop (mkF m 39 #[.val (.ref o0), .val (.long q1), .second, .val (.long r3), .second] [(.long r5), (.ref o0)]))
  obtain ⟨T6, h6, X6, e6, W6, st6⟩ := putF X5 hx hZ hown (host := "") (Or.inl (hw _ (List.mem_of_getElem? (i := 41) rfl))) Via.refl e5 F_lowestWindow_o0 E_o0 (Or.inl (hw _ (List.mem_of_getElem? (i := 42) rfl))) (hw _ (List.mem_of_getElem? (i := 7) rfl)) (ty := .long) (by decide) rfl rfl (g := (mkF m 39 #[.val (.ref o0), .val (.long q1), .second, .val (.long r3), .second] [(.long r5), (.ref o0)])) rfl rfl (hb hby d7_39)
  refine gob st6 ?_
  have z7 : n0 ≤ h6.size := Nat.le_trans Z0 (Keep.of_wr W6).1
  have N6 := Fr.snoc X6 N5 g_o0
  have K8 : Keep h0 h6 ([o0] : List Addr) := (Keep.refl h0 ([o0] : List Addr)).wr W6 (Or.inl (List.mem_of_getElem? (i := 0) rfl))
  have Fw6 := F_lowestWindow_o0.same W6
  show Go _ _ _ _ _ _ _ (T6.setTop (mkF m 42 #[.val (.ref o0), .val (.long q1), .second, .val (.long r3), .second] []))
  refine gob (fun _ k => XS.aloadN X6.here hx rfl (hb hby d7_42) rfl rfl k) ?_
  show Go _ _ _ _ _ _ _ (T6.setTop (mkF m 43 #[.val (.ref o0), .val (.long q1), .second, .val (.long r3), .second] [(.ref o0)]))
  refine gob (fun _ k => XS.aloadN X6.here hx rfl (hb hby d7_43) rfl rfl k) ?_
  show Go _ _ _ _ _ _ _ (T6.setTop (mkF m 44 #[.val (.ref o0), .val (.long q1), .second, .val (.long r3), .second] [(.ref o0), (.ref o0)]))
  have c9 := (F_highestWindow_o0.other W6 (Or.inr (slot_ne (Or.inl (hw _ (List.mem_of_getElem? (i := 45) rfl))) (Or.inl (hw _ (List.mem_of_getElem? (i := 42) rfl))) (by decide) (t := .long) (t' := .long) (by decide) (by decide))))
  obtain ⟨T10, X10, e10, st10⟩ := getF X6 hx hZ hown (host := "") (Or.inl (hw _ (List.mem_of_getElem? (i := 44) rfl))) Via.refl e6 c9 (g := (mkF m 44 #[.val (.ref o0), .val (.long q1), .second, .val (.long r3), .second] [(.ref o0), (.ref o0)])) rfl rfl (hb hby d7_44)
  refine gob st10 ?_
  show Go _ _ _ _ _ _ _ (T10.setTop (mkF m 47 #[.val (.ref o0), .val (.long q1), .second, .val (.long r3), .second] [(.long q_hi), (.ref o0)]))
  refine gob (fun _ k => XS.lloadN X10.here hx rfl (hb hby d7_47) rfl k) ?_
  show Go _ _ _ _ _ _ _ (T10.setTop (mkF m 48 #[.val (.ref o0), .val (.long q1), .second, .val (.long r3), .second] [(.long r3), (.long q_hi), (.ref o0)]))
  obtain ⟨_, _, ⟨T11, L11, k11, n11⟩, -, X11, ⟨Lc11, hQ11, l11, y11, z11⟩, st11⟩ := Jvm.LawKit.callS X10 hx (y := (⟨"java/lang/Math", "max", "(JJ)J"⟩ : MethodName)) hown (mvT hZ (hw _ (List.mem_of_getElem? (i := 46) rfl))) (mvT hZ (hw _ (List.mem_of_getElem? (i := 27) rfl))) (mvT hZ (hw _ (List.mem_of_getElem? (i := 24) rfl))) (mvT hZ (hw _ (List.mem_of_getElem? (i := 28) rfl))) (by decide) (backOf (W := 1) (rm6 l Z a0 hw [] q_hi r3 h6 n0 z7 ) hZ (hw _ (List.mem_of_getElem? (i := 28) rfl)) (hw _ (List.mem_of_getElem? (i := 24) rfl)) (by decide) (by decide)) (g := (mkF m 48 #[.val (.ref o0), .val (.long q1), .second, .val (.long r3), .second] [(.long r3), (.long q_hi), (.ref o0)])) rfl (by rw [hml]; rfl) (argsL := [(.long q_hi), (.long r3)]) (rest := [(.ref o0)]) (lenOf pd_0 rfl) rfl (by show 2 * 0 + _ ≤ _; exact Nat.le_of_eq rfl) (hb hby d7_48) (fun _ _ => ⟨rfl, e10, (by decide : 0 + 0 ≤ _), (by decide : 0 + 0 ≤ _)⟩)
  dsimp only [Pt.U, Pt.locs, Pt.cells, Pt.slots] at X11 l11 y11 z11 st11 hQ11
  subst l11 y11 z11
  obtain ⟨r11, rfl, hr11, Nq11, e11⟩ := hQ11
  have N11 := Fr.app N6 Nq11
  refine gob st11 ?_
  show Go _ _ _ _ _ _ _ (T11.setTop (mkF m 51 #[.val (.ref o0), .val (.long q1), .second, .val (.long r3), .second] [(.long r11), (.ref o0)]))
  have c12 := (E_o0.wr W6)
  obtain ⟨T13, h13, X13, e13, W13, st13⟩ := putF X11 hx hZ hown (host := "") (Or.inl (hw _ (List.mem_of_getElem? (i := 44) rfl))) Via.refl e11 c9 c12 (Or.inl (hw _ (List.mem_of_getElem? (i := 45) rfl))) (hw _ (List.mem_of_getElem? (i := 7) rfl)) (ty := .long) (by decide) rfl rfl (g := (mkF m 51 #[.val (.ref o0), .val (.long q1), .second, .val (.long r3), .second] [(.long r11), (.ref o0)])) rfl rfl (hb hby d7_51)
  refine gob st13 ?_
  have z14 : n0 ≤ h13.size := Nat.le_trans z7 (Keep.of_wr W13).1
  have N13 := Fr.snoc X13 N11 g_o0
  have K15 : Keep h0 h13 ([o0] : List Addr) := K8.wr W13 (Or.inl (List.mem_of_getElem? (i := 0) rfl))
  have Fw13 := c9.same W13
  show Go _ _ _ _ _ _ _ (T13.setTop (mkF m 54 #[.val (.ref o0), .val (.long q1), .second, .val (.long r3), .second] []))
  refine gob (fun _ k => XS.lloadN X13.here hx rfl (hb hby d7_54) rfl k) ?_
  show Go _ _ _ _ _ _ _ (T13.setTop (mkF m 55 #[.val (.ref o0), .val (.long q1), .second, .val (.long r3), .second] [(.long r3)]))
  refine goJ X13 hx hlk Bd.returns (hb hby d7_55) ?_ (by decide) (by decide)
  show Q7b Z o0 q1 q_fi q_lo q_hi h0 n0 (some (.long r3)) T13.heap _
  have c16 := ((F_started_o0.other W6 (Or.inr (slot_ne (Or.inl (hw _ (List.mem_of_getElem? (i := 21) rfl))) (Or.inl (hw _ (List.mem_of_getElem? (i := 42) rfl))) (by decide) (t := .boolean) (t' := .long) (by decide) (by decide)))).other W13 (Or.inr (slot_ne (Or.inl (hw _ (List.mem_of_getElem? (i := 21) rfl))) (Or.inl (hw _ (List.mem_of_getElem? (i := 45) rfl))) (by decide) (t := .boolean) (t' := .long) (by decide) (by decide))))
  have c17 := ((F_firstMicros_o0.other W6 (Or.inr (slot_ne (Or.inl (hw _ (List.mem_of_getElem? (i := 36) rfl))) (Or.inl (hw _ (List.mem_of_getElem? (i := 42) rfl))) (by decide) (t := .long) (t' := .long) (by decide) (by decide)))).other W13 (Or.inr (slot_ne (Or.inl (hw _ (List.mem_of_getElem? (i := 36) rfl))) (Or.inl (hw _ (List.mem_of_getElem? (i := 45) rfl))) (by decide) (t := .long) (t' := .long) (by decide) (by decide))))
  have c18 := (Fw6.other W13 (Or.inr (slot_ne (Or.inl (hw _ (List.mem_of_getElem? (i := 42) rfl))) (Or.inl (hw _ (List.mem_of_getElem? (i := 45) rfl))) (by decide) (t := .long) (t' := .long) (by decide) (by decide))))
  rw [e13]
  exact ⟨r3, r5, r11, rfl, N13, K15, c16, c17, c18, Fw13, hr3, hr5, hr11⟩
theorem pd_1 : parseMethodDescriptor "(J)J" = some ⟨[.long], some .long⟩ := by decide +kernel
theorem pd_2 : parseMethodDescriptor "()V" = some ⟨[], none⟩ := by decide +kernel
theorem pd_3 : parseMethodDescriptor "()J" = some ⟨[], some .long⟩ := by decide +kernel
theorem ef_0 (m : MethodId) (x0 : Int32) (x1 : Int64) (x2 : Int64) (x3 : Int64) (x4 : Int32) : entryFrame m #[(.int x0), (.long x1), (.long x2), (.long x3), (.int x4)] maxLocals = mkF m 0 #[.val (.int x0), .val (.long x1), .second, .val (.long x2), .second, .val (.long x3), .second, .val (.int x4), .unset, .unset, .unset, .unset, .unset, .unset, .unset, .unset, .unset, .unset, .unset, .unset, .unset, .unset, .unset, .unset, .unset, .unset, .unset, .unset, .unset, .unset, .unset] [] := by first | (simp [entryFrame, mkF, argsToLocals, Value.category, maxLocals]; done) | rfl
def Q0 (Z : State) (p0 : Int32) (q1 : Int64) (q2 : Int64) (q3 : Int64) (p4 : Int32) (h0 : Heap) (n0 : Nat) (v : Option Value) (h : Heap) (L : List Loc) : Prop := v = some (.int 1) ∧ Fr n0 L
theorem ld_0_108_28 (r27 : Int64) (hr27 : (r27 = (0 : Int64))) : r27 = (0 : Int64) := by
  have := rng64 r27
  have : (0 : Int64).toInt = 0 := by decide
  try (simp only [Int32.lt_iff_toInt_lt, Int32.le_iff_toInt_le, Int64.lt_iff_toInt_lt, Int64.le_iff_toInt_le, ← Int32.toInt_inj, ← Int64.toInt_inj, ne_eq] at *)
  omega
theorem ld_0_173_33 (p0 : Int32) (x1 : Int32) (hx1 : (p0 &&& (3 : Int32)) = x1) (hc121_30 : x1 < (1 : Int32)) : x1 < (2 : Int32) := by
  have := rng32 p0
  have := rng32 x1
  have : (1 : Int32).toInt = 1 := by decide
  have : (2 : Int32).toInt = 2 := by decide
  have : (3 : Int32).toInt = 3 := by decide
  have : ((p0 &&& (3 : Int32))).toInt = (p0).toInt % (2 ^ 2 : Nat) := c_mask p0 (3 : Int32) 2 (by decide) (by decide)
  try (simp only [Int32.lt_iff_toInt_lt, Int32.le_iff_toInt_le, Int64.lt_iff_toInt_lt, Int64.le_iff_toInt_le, ← Int32.toInt_inj, ← Int64.toInt_inj, ne_eq] at *)
  omega
theorem ld_0_215_35 (p0 : Int32) (x1 : Int32) (hx1 : (p0 &&& (3 : Int32)) = x1) (hc121_30 : x1 < (1 : Int32)) : x1 < (3 : Int32) := by
  have := rng32 p0
  have := rng32 x1
  have : (1 : Int32).toInt = 1 := by decide
  have : (3 : Int32).toInt = 3 := by decide
  have : ((p0 &&& (3 : Int32))).toInt = (p0).toInt % (2 ^ 2 : Nat) := c_mask p0 (3 : Int32) 2 (by decide) (by decide)
  try (simp only [Int32.lt_iff_toInt_lt, Int32.le_iff_toInt_le, Int64.lt_iff_toInt_lt, Int64.le_iff_toInt_le, ← Int32.toInt_inj, ← Int64.toInt_inj, ne_eq] at *)
  omega
theorem ld_0_144_51 (q1 : Int64) (x2 : Int64) (r38 : Int64) (r39 : Int64) (r40 : Int64) (r49 : Int64) (hx2 : (q1 &&& (9223372036854775807 : Int64)) = x2) (hi45 : r38.toInt = (x2 - x2).toInt / 100000) (hi46 : (r38 < (0 : Int64) ∧ r39 = r38) ∨ (¬ (r38 < (0 : Int64)) ∧ r39 = (0 : Int64))) (hi47 : ((0 : Int64) < r38 ∧ r40 = r38) ∨ (¬ ((0 : Int64) < r38) ∧ r40 = (0 : Int64))) (hr49 : (r49 = ((r40 - r39) + (1 : Int64)))) : r49 = (1 : Int64) := by
  have := rng64 q1
  have := rng64 x2
  have := rng64 r38
  have := rng64 r39
  have := rng64 r40
  have := rng64 r49
  have : (0 : Int64).toInt = 0 := by decide
  have : (1 : Int64).toInt = 1 := by decide
  have : (9223372036854775807 : Int64).toInt = 9223372036854775807 := by decide
  have : ((q1 &&& (9223372036854775807 : Int64))).toInt = (q1).toInt % (2 ^ 63 : Nat) := c_maskL q1 (9223372036854775807 : Int64) 63 (by decide) (by decide)
  have := c_lsub x2 x2
  have := rng64 (x2 - x2)
  have := c_lsub r40 r39
  have := rng64 (r40 - r39)
  have := c_ladd (r40 - r39) (1 : Int64)
  have := rng64 ((r40 - r39) + (1 : Int64))
  try (simp only [Int32.lt_iff_toInt_lt, Int32.le_iff_toInt_le, Int64.lt_iff_toInt_lt, Int64.le_iff_toInt_le, ← Int32.toInt_inj, ← Int64.toInt_inj, ne_eq] at *)
  omega
theorem ld_0_215_56 (p0 : Int32) (x1 : Int32) (hx1 : (p0 &&& (3 : Int32)) = x1) (hc121_30 : ¬ (x1 < (1 : Int32))) (hc173_55 : x1 < (2 : Int32)) : x1 < (3 : Int32) := by
  have := rng32 p0
  have := rng32 x1
  have : (1 : Int32).toInt = 1 := by decide
  have : (2 : Int32).toInt = 2 := by decide
  have : (3 : Int32).toInt = 3 := by decide
  have : ((p0 &&& (3 : Int32))).toInt = (p0).toInt % (2 ^ 2 : Nat) := c_mask p0 (3 : Int32) 2 (by decide) (by decide)
  try (simp only [Int32.lt_iff_toInt_lt, Int32.le_iff_toInt_le, Int64.lt_iff_toInt_lt, Int64.le_iff_toInt_le, ← Int32.toInt_inj, ← Int64.toInt_inj, ne_eq] at *)
  omega
theorem ld_0_202_72 (q1 : Int64) (q2 : Int64) (p4 : Int32) (x2 : Int64) (v4 : Int64) (r21 : Int64) (r38 : Int64) (r39 : Int64) (r40 : Int64) (r53 : Int64) (r54 : Int64) (r59 : Int64) (r60 : Int64) (r61 : Int64) (r70 : Int64) (hx2 : (q1 &&& (9223372036854775807 : Int64)) = x2) (hj11 : ((p4 &&& (1 : Int32)) = (0 : Int32) ∧ v4 = ((x2 + (q2 % (1000000 : Int64))) &&& (9223372036854775807 : Int64))) ∨ (¬ ((p4 &&& (1 : Int32)) = (0 : Int32)) ∧ v4 = (q2 &&& (9223372036854775807 : Int64)))) (hr21 : r21.toInt = (v4 - x2).toInt / 100000) (hi45 : r38.toInt = (x2 - x2).toInt / 100000) (hi46 : (r38 < (0 : Int64) ∧ r39 = r38) ∨ (¬ (r38 < (0 : Int64)) ∧ r39 = (0 : Int64))) (hi47 : ((0 : Int64) < r38 ∧ r40 = r38) ∨ (¬ ((0 : Int64) < r38) ∧ r40 = (0 : Int64))) (hr53 : (r21 < (0 : Int64) ∧ r53 = r21) ∨ (¬ (r21 < (0 : Int64)) ∧ r53 = (0 : Int64))) (hr54 : ((0 : Int64) < r21 ∧ r54 = r21) ∨ (¬ ((0 : Int64) < r21) ∧ r54 = (0 : Int64))) (hi66 : r59.toInt = (v4 - x2).toInt / 100000) (hi67 : (r59 < r39 ∧ r60 = r59) ∨ (¬ (r59 < r39) ∧ r60 = r39)) (hi68 : (r40 < r59 ∧ r61 = r59) ∨ (¬ (r40 < r59) ∧ r61 = r40)) (hr70 : (r70 = ((r61 - r60) + (1 : Int64)))) : r70 = ((r54 - r53) + (1 : Int64)) := by
  have := rng64 q1
  have := rng64 q2
  have := rng32 p4
  have := rng64 x2
  have := rng64 v4
  have := rng64 r21
  have := rng64 r38
  have := rng64 r39
  have := rng64 r40
  have := rng64 r53
  have := rng64 r54
  have := rng64 r59
  have := rng64 r60
  have := rng64 r61
  have := rng64 r70
  have : (0 : Int32).toInt = 0 := by decide
  have : (0 : Int64).toInt = 0 := by decide
  have : (1 : Int32).toInt = 1 := by decide
  have : (1 : Int64).toInt = 1 := by decide
  have : (1000000 : Int64).toInt = 1000000 := by decide
  have : (9223372036854775807 : Int64).toInt = 9223372036854775807 := by decide
  have : ((q1 &&& (9223372036854775807 : Int64))).toInt = (q1).toInt % (2 ^ 63 : Nat) := c_maskL q1 (9223372036854775807 : Int64) 63 (by decide) (by decide)
  have : ((p4 &&& (1 : Int32))).toInt = (p4).toInt % (2 ^ 1 : Nat) := c_mask p4 (1 : Int32) 1 (by decide) (by decide)
  have := own_lrem q2 (1000000 : Int64) (1000000) (by decide)
  have := rng64 (q2 % (1000000 : Int64))
  have := c_ladd x2 (q2 % (1000000 : Int64))
  have := rng64 (x2 + (q2 % (1000000 : Int64)))
  have : (((x2 + (q2 % (1000000 : Int64))) &&& (9223372036854775807 : Int64))).toInt = ((x2 + (q2 % (1000000 : Int64)))).toInt % (2 ^ 63 : Nat) := c_maskL (x2 + (q2 % (1000000 : Int64))) (9223372036854775807 : Int64) 63 (by decide) (by decide)
  have : ((q2 &&& (9223372036854775807 : Int64))).toInt = (q2).toInt % (2 ^ 63 : Nat) := c_maskL q2 (9223372036854775807 : Int64) 63 (by decide) (by decide)
  have := c_lsub v4 x2
  have := rng64 (v4 - x2)
  have := c_lsub x2 x2
  have := rng64 (x2 - x2)
  have := c_lsub r61 r60
  have := rng64 (r61 - r60)
  have := c_ladd (r61 - r60) (1 : Int64)
  have := rng64 ((r61 - r60) + (1 : Int64))
  have := c_lsub r54 r53
  have := rng64 (r54 - r53)
  have := c_ladd (r54 - r53) (1 : Int64)
  have := rng64 ((r54 - r53) + (1 : Int64))
  try (simp only [Int32.lt_iff_toInt_lt, Int32.le_iff_toInt_le, Int64.lt_iff_toInt_lt, Int64.le_iff_toInt_le, ← Int32.toInt_inj, ← Int64.toInt_inj, ne_eq] at *)
  omega
theorem ld_0_262_91 (q1 : Int64) (q2 : Int64) (q3 : Int64) (p4 : Int32) (x2 : Int64) (v4 : Int64) (v13 : Int64) (r21 : Int64) (r22 : Int64) (r38 : Int64) (r39 : Int64) (r40 : Int64) (r53 : Int64) (r54 : Int64) (r59 : Int64) (r60 : Int64) (r61 : Int64) (r76 : Int64) (r77 : Int64) (r78 : Int64) (r87 : Int64) (r88 : Int64) (r89 : Int64) (hx2 : (q1 &&& (9223372036854775807 : Int64)) = x2) (hj11 : ((p4 &&& (1 : Int32)) = (0 : Int32) ∧ v4 = ((x2 + (q2 % (1000000 : Int64))) &&& (9223372036854775807 : Int64))) ∨ (¬ ((p4 &&& (1 : Int32)) = (0 : Int32)) ∧ v4 = (q2 &&& (9223372036854775807 : Int64)))) (hj20 : ((p4 &&& (2 : Int32)) = (0 : Int32) ∧ v13 = ((x2 + (q3 % (1000000 : Int64))) &&& (9223372036854775807 : Int64))) ∨ (¬ ((p4 &&& (2 : Int32)) = (0 : Int32)) ∧ v13 = (q3 &&& (9223372036854775807 : Int64)))) (hr21 : r21.toInt = (v4 - x2).toInt / 100000) (hr22 : r22.toInt = (v13 - x2).toInt / 100000) (hi45 : r38.toInt = (x2 - x2).toInt / 100000) (hi46 : (r38 < (0 : Int64) ∧ r39 = r38) ∨ (¬ (r38 < (0 : Int64)) ∧ r39 = (0 : Int64))) (hi47 : ((0 : Int64) < r38 ∧ r40 = r38) ∨ (¬ ((0 : Int64) < r38) ∧ r40 = (0 : Int64))) (hr53 : (r21 < (0 : Int64) ∧ r53 = r21) ∨ (¬ (r21 < (0 : Int64)) ∧ r53 = (0 : Int64))) (hr54 : ((0 : Int64) < r21 ∧ r54 = r21) ∨ (¬ ((0 : Int64) < r21) ∧ r54 = (0 : Int64))) (hi66 : r59.toInt = (v4 - x2).toInt / 100000) (hi67 : (r59 < r39 ∧ r60 = r59) ∨ (¬ (r59 < r39) ∧ r60 = r39)) (hi68 : (r40 < r59 ∧ r61 = r59) ∨ (¬ (r40 < r59) ∧ r61 = r40)) (hi83 : r76.toInt = (v13 - x2).toInt / 100000) (hi84 : (r76 < r60 ∧ r77 = r76) ∨ (¬ (r76 < r60) ∧ r77 = r60)) (hi85 : (r61 < r76 ∧ r78 = r76) ∨ (¬ (r61 < r76) ∧ r78 = r61)) (hr87 : (r22 < r53 ∧ r87 = r22) ∨ (¬ (r22 < r53) ∧ r87 = r53)) (hr88 : (r54 < r22 ∧ r88 = r22) ∨ (¬ (r54 < r22) ∧ r88 = r54)) (hr89 : (r89 = ((r78 - r77) + (1 : Int64)))) : r89 = ((r88 - r87) + (1 : Int64)) := by
  have e1 : r38 = 0 := own_w0 _ _ hi45
  rw [e1] at hi46 hi47
  have e2 : r39 = 0 := by rcases hi46 with ⟨_, q⟩ | ⟨_, q⟩ <;> exact q
  have e3 : r40 = 0 := by rcases hi47 with ⟨_, q⟩ | ⟨_, q⟩ <;> exact q
  have e4 : r59 = r21 := own_eqw _ _ _ hi66 hr21
  rw [e4, e2] at hi67
  rw [e4, e3] at hi68
  have e5 : r60 = r53 := own_same hi67 hr53
  have e6 : r61 = r54 := own_same hi68 hr54
  have e7 : r76 = r22 := own_eqw _ _ _ hi83 hr22
  rw [e7, e5] at hi84
  rw [e7, e6] at hi85
  have e8 : r77 = r87 := own_same hi84 hr87
  have e9 : r78 = r88 := own_same hi85 hr88
  rw [e8, e9] at hr89
  exact hr89
set_option maxRecDepth 65536 in
set_option maxHeartbeats 40000000 in
theorem rm0 (l : Launch) (Z : State) (a0 : Array Value) (hw : ∀ d ∈ tables_1, d.before a0 Z = true) (ws : List Jvm.Cond) (p0 : Int32) (q1 : Int64) (q2 : Int64) (q3 : Int64) (p4 : Int32) (h0 : Heap) (n0 : Nat) (Z0 : n0 ≤ h0.size) :
    MetFree l x (head1 (Jvm.Cond.code x code maxLocals ret :: ws) room_1) (fun a U => a = #[(.int p0), (.long q1), (.long q2), (.long q3), (.int p4)] ∧ Z.Warmed39 U.vm ∧ U.heap = h0) (fun _ _ _ _ _ => True) (fun _ U o U' => ∃ v L, o = .returned v ∧ Q0 Z p0 q1 q2 q3 p4 h0 n0 v U'.heap L ∧ FrameEnd U o U' L 16 128) := by
  refine MetFree.of_bodySF (plainFor_of_name (by first | (simp [plainName, overriddenIn]; done) | decide +kernel)) hisR ?_
  intro p e s m args below meth c s₁ Bd hml0 hP hK
  obtain ⟨rfl, hZ, hh⟩ := hP
  have hx := Bd.exec
  have hby := Bd.bytes
  have hml : c.maxLocals = 31 := hml0
  have hown : s.vm.findClass "com/example/flomem/flomem/replay/TimelineWindowsPinLaw" = some m.cls := findClass_of_methodNamed Bd.named
  have hnm := (name_of_methodNamed Bd.named Bd.method).1
  have hlk := BodyLoose.notSynchronized Bd
  have X0 : Stand p l e room_1 s m #[(.int p0), (.long q1), (.long q2), (.long q3), (.int p4)] below meth c s₁ [] 0 0 := Stand.of_body Bd
  have e0 : s₁.heap = h0 := by rw [← hh, Bd.state]; rfl
  have N0 := Fr.nil n0
  show Go p e below s (Q0 Z p0 q1 q2 q3 p4 h0 n0) 16 128 (s₁.setTop (entryFrame m #[(.int p0), (.long q1), (.long q2), (.long q3), (.int p4)] maxLocals))
  rw [ef_0]
  show Go _ _ _ _ _ _ _ (s₁.setTop (mkF m 0 #[.val (.int p0), .val (.long q1), .second, .val (.long q2), .second, .val (.long q3), .second, .val (.int p4), .unset, .unset, .unset, .unset, .unset, .unset, .unset, .unset, .unset, .unset, .unset, .unset, .unset, .unset, .unset, .unset, .unset, .unset, .unset, .unset, .unset, .unset, .unset] []))
  refine gob (fun _ k => XS.iloadN X0.here hx rfl (hb hby at_0) rfl k) ?_
  show Go _ _ _ _ _ _ _ (s₁.setTop (mkF m 1 #[.val (.int p0), .val (.long q1), .second, .val (.long q2), .second, .val (.long q3), .second, .val (.int p4), .unset, .unset, .unset, .unset, .unset, .unset, .unset, .unset, .unset, .unset, .unset, .unset, .unset, .unset, .unset, .unset, .unset, .unset, .unset, .unset, .unset, .unset, .unset] [(.int p0)]))
  refine gob (fun _ k => XS.iconst X0.here hx rfl (hb hby at_1) k) ?_
  show Go _ _ _ _ _ _ _ (s₁.setTop (mkF m 2 #[.val (.int p0), .val (.long q1), .second, .val (.long q2), .second, .val (.long q3), .second, .val (.int p4), .unset, .unset, .unset, .unset, .unset, .unset, .unset, .unset, .unset, .unset, .unset, .unset, .unset, .unset, .unset, .unset, .unset, .unset, .unset, .unset, .unset, .unset, .unset] [(.int (3 : Int32)), (.int p0)]))
  refine gob (fun _ k => XS.iand X0.here hx rfl (hb hby at_2) rfl k) ?_
  show Go _ _ _ _ _ _ _ (s₁.setTop (mkF m 3 #[.val (.int p0), .val (.long q1), .second, .val (.long q2), .second, .val (.long q3), .second, .val (.int p4), .unset, .unset, .unset, .unset, .unset, .unset, .unset, .unset, .unset, .unset, .unset, .unset, .unset, .unset, .unset, .unset, .unset, .unset, .unset, .unset, .unset, .unset, .unset] [(.int (p0 &&& (3 : Int32)))]))
  refine gob (fun _ k => XS.istore X0.here hx rfl (hb hby at_3) rfl (l' := #[.val (.int p0), .val (.long q1), .second, .val (.long q2), .second, .val (.long q3), .second, .val (.int p4), .val (.int (p0 &&& (3 : Int32))), .unset, .unset, .unset, .unset, .unset, .unset, .unset, .unset, .unset, .unset, .unset, .unset, .unset, .unset, .unset, .unset, .unset, .unset, .unset, .unset, .unset, .unset]) rfl k) ?_
  show Go _ _ _ _ _ _ _ (s₁.setTop (mkF m 5 #[.val (.int p0), .val (.long q1), .second, .val (.long q2), .second, .val (.long q3), .second, .val (.int p4), .val (.int (p0 &&& (3 : Int32))), .unset, .unset, .unset, .unset, .unset, .unset, .unset, .unset, .unset, .unset, .unset, .unset, .unset, .unset, .unset, .unset, .unset, .unset, .unset, .unset, .unset, .unset] []))
  generalize hx1 : (p0 &&& (3 : Int32)) = x1
  show Go _ _ _ _ _ _ _ (s₁.setTop (mkF m 5 #[.val (.int p0), .val (.long q1), .second, .val (.long q2), .second, .val (.long q3), .second, .val (.int p4), .val (.int x1), .unset, .unset, .unset, .unset, .unset, .unset, .unset, .unset, .unset, .unset, .unset, .unset, .unset, .unset, .unset, .unset, .unset, .unset, .unset, .unset, .unset, .unset] []))
  refine gob (X0.ldc2Long hx hown (mvT hZ (hw _ (List.mem_of_getElem? (i := 0) rfl))) (g := (mkF m 5 #[.val (.int p0), .val (.long q1), .second, .val (.long q2), .second, .val (.long q3), .second, .val (.int p4), .val (.int x1), .unset, .unset, .unset, .unset, .unset, .unset, .unset, .unset, .unset, .unset, .unset, .unset, .unset, .unset, .unset, .unset, .unset, .unset, .unset, .unset, .unset, .unset] [])) rfl (hb hby at_5)) ?_
  show Go _ _ _ _ _ _ _ (s₁.setTop (mkF m 8 #[.val (.int p0), .val (.long q1), .second, .val (.long q2), .second, .val (.long q3), .second, .val (.int p4), .val (.int x1), .unset, .unset, .unset, .unset, .unset, .unset, .unset, .unset, .unset, .unset, .unset, .unset, .unset, .unset, .unset, .unset, .unset, .unset, .unset, .unset, .unset, .unset] [(.long (9223372036854775807 : Int64))]))
  refine gob (fun _ k => XS.lstore X0.here hx rfl (hb hby at_8) rfl (l' := #[.val (.int p0), .val (.long q1), .second, .val (.long q2), .second, .val (.long q3), .second, .val (.int p4), .val (.int x1), .val (.long (9223372036854775807 : Int64)), .second, .unset, .unset, .unset, .unset, .unset, .unset, .unset, .unset, .unset, .unset, .unset, .unset, .unset, .unset, .unset, .unset, .unset, .unset, .unset, .unset]) rfl k) ?_
  show Go _ _ _ _ _ _ _ (s₁.setTop (mkF m 10 #[.val (.int p0), .val (.long q1), .second, .val (.long q2), .second, .val (.long q3), .second, .val (.int p4), .val (.int x1), .val (.long (9223372036854775807 : Int64)), .second, .unset, .unset, .unset, .unset, .unset, .unset, .unset, .unset, .unset, .unset, .unset, .unset, .unset, .unset, .unset, .unset, .unset, .unset, .unset, .unset] []))
  refine gob (fun _ k => XS.lloadN X0.here hx rfl (hb hby at_10) rfl k) ?_
  show Go _ _ _ _ _ _ _ (s₁.setTop (mkF m 11 #[.val (.int p0), .val (.long q1), .second, .val (.long q2), .second, .val (.long q3), .second, .val (.int p4), .val (.int x1), .val (.long (9223372036854775807 : Int64)), .second, .unset, .unset, .unset, .unset, .unset, .unset, .unset, .unset, .unset, .unset, .unset, .unset, .unset, .unset, .unset, .unset, .unset, .unset, .unset, .unset] [(.long q1)]))
  refine gob (fun _ k => XS.lload X0.here hx rfl (hb hby at_11) rfl k) ?_
  show Go _ _ _ _ _ _ _ (s₁.setTop (mkF m 13 #[.val (.int p0), .val (.long q1), .second, .val (.long q2), .second, .val (.long q3), .second, .val (.int p4), .val (.int x1), .val (.long (9223372036854775807 : Int64)), .second, .unset, .unset, .unset, .unset, .unset, .unset, .unset, .unset, .unset, .unset, .unset, .unset, .unset, .unset, .unset, .unset, .unset, .unset, .unset, .unset] [(.long (9223372036854775807 : Int64)), (.long q1)]))
  refine gob (fun _ k => XS.land X0.here hx rfl (hb hby at_13) rfl k) ?_
  show Go _ _ _ _ _ _ _ (s₁.setTop (mkF m 14 #[.val (.int p0), .val (.long q1), .second, .val (.long q2), .second, .val (.long q3), .second, .val (.int p4), .val (.int x1), .val (.long (9223372036854775807 : Int64)), .second, .unset, .unset, .unset, .unset, .unset, .unset, .unset, .unset, .unset, .unset, .unset, .unset, .unset, .unset, .unset, .unset, .unset, .unset, .unset, .unset] [(.long (q1 &&& (9223372036854775807 : Int64)))]))
  refine gob (fun _ k => XS.lstore X0.here hx rfl (hb hby at_14) rfl (l' := #[.val (.int p0), .val (.long q1), .second, .val (.long q2), .second, .val (.long q3), .second, .val (.int p4), .val (.int x1), .val (.long (9223372036854775807 : Int64)), .second, .val (.long (q1 &&& (9223372036854775807 : Int64))), .second, .unset, .unset, .unset, .unset, .unset, .unset, .unset, .unset, .unset, .unset, .unset, .unset, .unset, .unset, .unset, .unset, .unset, .unset]) rfl k) ?_
  show Go _ _ _ _ _ _ _ (s₁.setTop (mkF m 16 #[.val (.int p0), .val (.long q1), .second, .val (.long q2), .second, .val (.long q3), .second, .val (.int p4), .val (.int x1), .val (.long (9223372036854775807 : Int64)), .second, .val (.long (q1 &&& (9223372036854775807 : Int64))), .second, .unset, .unset, .unset, .unset, .unset, .unset, .unset, .unset, .unset, .unset, .unset, .unset, .unset, .unset, .unset, .unset, .unset, .unset] []))
  generalize hx2 : (q1 &&& (9223372036854775807 : Int64)) = x2
  show Go _ _ _ _ _ _ _ (s₁.setTop (mkF m 16 #[.val (.int p0), .val (.long q1), .second, .val (.long q2), .second, .val (.long q3), .second, .val (.int p4), .val (.int x1), .val (.long (9223372036854775807 : Int64)), .second, .val (.long x2), .second, .unset, .unset, .unset, .unset, .unset, .unset, .unset, .unset, .unset, .unset, .unset, .unset, .unset, .unset, .unset, .unset, .unset, .unset] []))
  refine gob (fun _ k => XS.iload X0.here hx rfl (hb hby at_16) rfl k) ?_
  show Go _ _ _ _ _ _ _ (s₁.setTop (mkF m 18 #[.val (.int p0), .val (.long q1), .second, .val (.long q2), .second, .val (.long q3), .second, .val (.int p4), .val (.int x1), .val (.long (9223372036854775807 : Int64)), .second, .val (.long x2), .second, .unset, .unset, .unset, .unset, .unset, .unset, .unset, .unset, .unset, .unset, .unset, .unset, .unset, .unset, .unset, .unset, .unset, .unset] [(.int p4)]))
  refine gob (fun _ k => XS.iconst X0.here hx rfl (hb hby at_18) k) ?_
  show Go _ _ _ _ _ _ _ (s₁.setTop (mkF m 19 #[.val (.int p0), .val (.long q1), .second, .val (.long q2), .second, .val (.long q3), .second, .val (.int p4), .val (.int x1), .val (.long (9223372036854775807 : Int64)), .second, .val (.long x2), .second, .unset, .unset, .unset, .unset, .unset, .unset, .unset, .unset, .unset, .unset, .unset, .unset, .unset, .unset, .unset, .unset, .unset, .unset] [(.int (1 : Int32)), (.int p4)]))
  refine gob (fun _ k => XS.iand X0.here hx rfl (hb hby at_19) rfl k) ?_
  show Go _ _ _ _ _ _ _ (s₁.setTop (mkF m 20 #[.val (.int p0), .val (.long q1), .second, .val (.long q2), .second, .val (.long q3), .second, .val (.int p4), .val (.int x1), .val (.long (9223372036854775807 : Int64)), .second, .val (.long x2), .second, .unset, .unset, .unset, .unset, .unset, .unset, .unset, .unset, .unset, .unset, .unset, .unset, .unset, .unset, .unset, .unset, .unset, .unset] [(.int (p4 &&& (1 : Int32)))]))
  have join41_5 : ∀ (T6 : State) (lj7 : List Loc) (v4 : Int64), Stand p l e room_1 s m #[(.int p0), (.long q1), (.long q2), (.long q3), (.int p4)] below meth c T6 lj7 0 0 → T6.heap = h0 → Fr n0 lj7 → ((p4 &&& (1 : Int32)) = (0 : Int32) ∧ v4 = ((x2 + (q2 % (1000000 : Int64))) &&& (9223372036854775807 : Int64))) ∨ (¬ ((p4 &&& (1 : Int32)) = (0 : Int32)) ∧ v4 = (q2 &&& (9223372036854775807 : Int64))) → Go p e below s (Q0 Z p0 q1 q2 q3 p4 h0 n0) 16 128 (T6.setTop (mkF m 41 #[.val (.int p0), .val (.long q1), .second, .val (.long q2), .second, .val (.long q3), .second, .val (.int p4), .val (.int x1), .val (.long (9223372036854775807 : Int64)), .second, .val (.long x2), .second, .unset, .unset, .unset, .unset, .unset, .unset, .unset, .unset, .unset, .unset, .unset, .unset, .unset, .unset, .unset, .unset, .unset, .unset] [(.long v4)])) := by
    intro T6 lj7 v4 X8 e9 N10 hj11
    show Go _ _ _ _ _ _ _ (T6.setTop (mkF m 41 #[.val (.int p0), .val (.long q1), .second, .val (.long q2), .second, .val (.long q3), .second, .val (.int p4), .val (.int x1), .val (.long (9223372036854775807 : Int64)), .second, .val (.long x2), .second, .unset, .unset, .unset, .unset, .unset, .unset, .unset, .unset, .unset, .unset, .unset, .unset, .unset, .unset, .unset, .unset, .unset, .unset] [(.long v4)]))
    refine gob (fun _ k => XS.lstore X8.here hx rfl (hb hby at_41) rfl (l' := #[.val (.int p0), .val (.long q1), .second, .val (.long q2), .second, .val (.long q3), .second, .val (.int p4), .val (.int x1), .val (.long (9223372036854775807 : Int64)), .second, .val (.long x2), .second, .val (.long v4), .second, .unset, .unset, .unset, .unset, .unset, .unset, .unset, .unset, .unset, .unset, .unset, .unset, .unset, .unset, .unset, .unset]) rfl k) ?_
    show Go _ _ _ _ _ _ _ (T6.setTop (mkF m 43 #[.val (.int p0), .val (.long q1), .second, .val (.long q2), .second, .val (.long q3), .second, .val (.int p4), .val (.int x1), .val (.long (9223372036854775807 : Int64)), .second, .val (.long x2), .second, .val (.long v4), .second, .unset, .unset, .unset, .unset, .unset, .unset, .unset, .unset, .unset, .unset, .unset, .unset, .unset, .unset, .unset, .unset] []))
    refine gob (fun _ k => XS.iload X8.here hx rfl (hb hby at_43) rfl k) ?_
    show Go _ _ _ _ _ _ _ (T6.setTop (mkF m 45 #[.val (.int p0), .val (.long q1), .second, .val (.long q2), .second, .val (.long q3), .second, .val (.int p4), .val (.int x1), .val (.long (9223372036854775807 : Int64)), .second, .val (.long x2), .second, .val (.long v4), .second, .unset, .unset, .unset, .unset, .unset, .unset, .unset, .unset, .unset, .unset, .unset, .unset, .unset, .unset, .unset, .unset] [(.int p4)]))
    refine gob (fun _ k => XS.iconst X8.here hx rfl (hb hby at_45) k) ?_
    show Go _ _ _ _ _ _ _ (T6.setTop (mkF m 46 #[.val (.int p0), .val (.long q1), .second, .val (.long q2), .second, .val (.long q3), .second, .val (.int p4), .val (.int x1), .val (.long (9223372036854775807 : Int64)), .second, .val (.long x2), .second, .val (.long v4), .second, .unset, .unset, .unset, .unset, .unset, .unset, .unset, .unset, .unset, .unset, .unset, .unset, .unset, .unset, .unset, .unset] [(.int (2 : Int32)), (.int p4)]))
    refine gob (fun _ k => XS.iand X8.here hx rfl (hb hby at_46) rfl k) ?_
    show Go _ _ _ _ _ _ _ (T6.setTop (mkF m 47 #[.val (.int p0), .val (.long q1), .second, .val (.long q2), .second, .val (.long q3), .second, .val (.int p4), .val (.int x1), .val (.long (9223372036854775807 : Int64)), .second, .val (.long x2), .second, .val (.long v4), .second, .unset, .unset, .unset, .unset, .unset, .unset, .unset, .unset, .unset, .unset, .unset, .unset, .unset, .unset, .unset, .unset] [(.int (p4 &&& (2 : Int32)))]))
    have join70_14 : ∀ (T15 : State) (lj16 : List Loc) (v13 : Int64), Stand p l e room_1 s m #[(.int p0), (.long q1), (.long q2), (.long q3), (.int p4)] below meth c T15 lj16 0 0 → T15.heap = h0 → Fr n0 lj16 → ((p4 &&& (2 : Int32)) = (0 : Int32) ∧ v13 = ((x2 + (q3 % (1000000 : Int64))) &&& (9223372036854775807 : Int64))) ∨ (¬ ((p4 &&& (2 : Int32)) = (0 : Int32)) ∧ v13 = (q3 &&& (9223372036854775807 : Int64))) → Go p e below s (Q0 Z p0 q1 q2 q3 p4 h0 n0) 16 128 (T15.setTop (mkF m 70 #[.val (.int p0), .val (.long q1), .second, .val (.long q2), .second, .val (.long q3), .second, .val (.int p4), .val (.int x1), .val (.long (9223372036854775807 : Int64)), .second, .val (.long x2), .second, .val (.long v4), .second, .unset, .unset, .unset, .unset, .unset, .unset, .unset, .unset, .unset, .unset, .unset, .unset, .unset, .unset, .unset, .unset] [(.long v13)])) := by
      intro T15 lj16 v13 X17 e18 N19 hj20
      show Go _ _ _ _ _ _ _ (T15.setTop (mkF m 70 #[.val (.int p0), .val (.long q1), .second, .val (.long q2), .second, .val (.long q3), .second, .val (.int p4), .val (.int x1), .val (.long (9223372036854775807 : Int64)), .second, .val (.long x2), .second, .val (.long v4), .second, .unset, .unset, .unset, .unset, .unset, .unset, .unset, .unset, .unset, .unset, .unset, .unset, .unset, .unset, .unset, .unset] [(.long v13)]))
      refine gob (fun _ k => XS.lstore X17.here hx rfl (hb hby at_70) rfl (l' := #[.val (.int p0), .val (.long q1), .second, .val (.long q2), .second, .val (.long q3), .second, .val (.int p4), .val (.int x1), .val (.long (9223372036854775807 : Int64)), .second, .val (.long x2), .second, .val (.long v4), .second, .val (.long v13), .second, .unset, .unset, .unset, .unset, .unset, .unset, .unset, .unset, .unset, .unset, .unset, .unset, .unset, .unset]) rfl k) ?_
      show Go _ _ _ _ _ _ _ (T15.setTop (mkF m 72 #[.val (.int p0), .val (.long q1), .second, .val (.long q2), .second, .val (.long q3), .second, .val (.int p4), .val (.int x1), .val (.long (9223372036854775807 : Int64)), .second, .val (.long x2), .second, .val (.long v4), .second, .val (.long v13), .second, .unset, .unset, .unset, .unset, .unset, .unset, .unset, .unset, .unset, .unset, .unset, .unset, .unset, .unset] []))
      refine gob (fun _ k => XS.lload X17.here hx rfl (hb hby at_72) rfl k) ?_
      show Go _ _ _ _ _ _ _ (T15.setTop (mkF m 74 #[.val (.int p0), .val (.long q1), .second, .val (.long q2), .second, .val (.long q3), .second, .val (.int p4), .val (.int x1), .val (.long (9223372036854775807 : Int64)), .second, .val (.long x2), .second, .val (.long v4), .second, .val (.long v13), .second, .unset, .unset, .unset, .unset, .unset, .unset, .unset, .unset, .unset, .unset, .unset, .unset, .unset, .unset] [(.long v4)]))
      refine gob (fun _ k => XS.lload X17.here hx rfl (hb hby at_74) rfl k) ?_
      show Go _ _ _ _ _ _ _ (T15.setTop (mkF m 76 #[.val (.int p0), .val (.long q1), .second, .val (.long q2), .second, .val (.long q3), .second, .val (.int p4), .val (.int x1), .val (.long (9223372036854775807 : Int64)), .second, .val (.long x2), .second, .val (.long v4), .second, .val (.long v13), .second, .unset, .unset, .unset, .unset, .unset, .unset, .unset, .unset, .unset, .unset, .unset, .unset, .unset, .unset] [(.long x2), (.long v4)]))
      refine gob (fun _ k => XS.lsub X17.here hx rfl (hb hby at_76) rfl k) ?_
      show Go _ _ _ _ _ _ _ (T15.setTop (mkF m 77 #[.val (.int p0), .val (.long q1), .second, .val (.long q2), .second, .val (.long q3), .second, .val (.int p4), .val (.int x1), .val (.long (9223372036854775807 : Int64)), .second, .val (.long x2), .second, .val (.long v4), .second, .val (.long v13), .second, .unset, .unset, .unset, .unset, .unset, .unset, .unset, .unset, .unset, .unset, .unset, .unset, .unset, .unset] [(.long (v4 - x2))]))
      obtain ⟨_, _, ⟨T21, L21, k21, n21⟩, -, X21, ⟨Lc21, hQ21, l21, y21, z21⟩, st21⟩ := Jvm.LawKit.callS X17 hx (y := (⟨"com/example/flomem/flomem/replay/TimelineWindowsPinLaw", "fl", "(J)J"⟩ : MethodName)) hown (mvT hZ (hw _ (List.mem_of_getElem? (i := 1) rfl))) (mvT hZ (hw _ (List.mem_of_getElem? (i := 2) rfl))) (mvT hZ (hw _ (List.mem_of_getElem? (i := 3) rfl))) (mvT hZ (hw _ (List.mem_of_getElem? (i := 4) rfl))) (by decide) (backOf (W := 0) (rm1 l Z a0 hw [] (v4 - x2) h0 n0 Z0 ) hZ (hw _ (List.mem_of_getElem? (i := 4) rfl)) (hw _ (List.mem_of_getElem? (i := 3) rfl)) (by decide) (by decide)) (g := (mkF m 77 #[.val (.int p0), .val (.long q1), .second, .val (.long q2), .second, .val (.long q3), .second, .val (.int p4), .val (.int x1), .val (.long (9223372036854775807 : Int64)), .second, .val (.long x2), .second, .val (.long v4), .second, .val (.long v13), .second, .unset, .unset, .unset, .unset, .unset, .unset, .unset, .unset, .unset, .unset, .unset, .unset, .unset, .unset] [(.long (v4 - x2))])) rfl (by rw [hml]; rfl) (argsL := [(.long (v4 - x2))]) (rest := []) (lenOf pd_1 rfl) rfl (by show 2 * 0 + _ ≤ _; exact Nat.le_of_eq rfl) (hb hby at_77) (fun _ _ => ⟨rfl, e18, (by decide : 0 + 0 ≤ _), (by decide : 0 + 0 ≤ _)⟩)
      dsimp only [Pt.U, Pt.locs, Pt.cells, Pt.slots] at X21 l21 y21 z21 st21 hQ21
      subst l21 y21 z21
      obtain ⟨r21, rfl, hr21, Nq21, e21⟩ := hQ21
      have N21 := Fr.app N19 Nq21
      refine gob st21 ?_
      show Go _ _ _ _ _ _ _ (T21.setTop (mkF m 80 #[.val (.int p0), .val (.long q1), .second, .val (.long q2), .second, .val (.long q3), .second, .val (.int p4), .val (.int x1), .val (.long (9223372036854775807 : Int64)), .second, .val (.long x2), .second, .val (.long v4), .second, .val (.long v13), .second, .unset, .unset, .unset, .unset, .unset, .unset, .unset, .unset, .unset, .unset, .unset, .unset, .unset, .unset] [(.long r21)]))
      refine gob (fun _ k => XS.lstore X21.here hx rfl (hb hby at_80) rfl (l' := #[.val (.int p0), .val (.long q1), .second, .val (.long q2), .second, .val (.long q3), .second, .val (.int p4), .val (.int x1), .val (.long (9223372036854775807 : Int64)), .second, .val (.long x2), .second, .val (.long v4), .second, .val (.long v13), .second, .val (.long r21), .second, .unset, .unset, .unset, .unset, .unset, .unset, .unset, .unset, .unset, .unset, .unset, .unset]) rfl k) ?_
      show Go _ _ _ _ _ _ _ (T21.setTop (mkF m 82 #[.val (.int p0), .val (.long q1), .second, .val (.long q2), .second, .val (.long q3), .second, .val (.int p4), .val (.int x1), .val (.long (9223372036854775807 : Int64)), .second, .val (.long x2), .second, .val (.long v4), .second, .val (.long v13), .second, .val (.long r21), .second, .unset, .unset, .unset, .unset, .unset, .unset, .unset, .unset, .unset, .unset, .unset, .unset] []))
      refine gob (fun _ k => XS.lload X21.here hx rfl (hb hby at_82) rfl k) ?_
      show Go _ _ _ _ _ _ _ (T21.setTop (mkF m 84 #[.val (.int p0), .val (.long q1), .second, .val (.long q2), .second, .val (.long q3), .second, .val (.int p4), .val (.int x1), .val (.long (9223372036854775807 : Int64)), .second, .val (.long x2), .second, .val (.long v4), .second, .val (.long v13), .second, .val (.long r21), .second, .unset, .unset, .unset, .unset, .unset, .unset, .unset, .unset, .unset, .unset, .unset, .unset] [(.long v13)]))
      refine gob (fun _ k => XS.lload X21.here hx rfl (hb hby at_84) rfl k) ?_
      show Go _ _ _ _ _ _ _ (T21.setTop (mkF m 86 #[.val (.int p0), .val (.long q1), .second, .val (.long q2), .second, .val (.long q3), .second, .val (.int p4), .val (.int x1), .val (.long (9223372036854775807 : Int64)), .second, .val (.long x2), .second, .val (.long v4), .second, .val (.long v13), .second, .val (.long r21), .second, .unset, .unset, .unset, .unset, .unset, .unset, .unset, .unset, .unset, .unset, .unset, .unset] [(.long x2), (.long v13)]))
      refine gob (fun _ k => XS.lsub X21.here hx rfl (hb hby at_86) rfl k) ?_
      show Go _ _ _ _ _ _ _ (T21.setTop (mkF m 87 #[.val (.int p0), .val (.long q1), .second, .val (.long q2), .second, .val (.long q3), .second, .val (.int p4), .val (.int x1), .val (.long (9223372036854775807 : Int64)), .second, .val (.long x2), .second, .val (.long v4), .second, .val (.long v13), .second, .val (.long r21), .second, .unset, .unset, .unset, .unset, .unset, .unset, .unset, .unset, .unset, .unset, .unset, .unset] [(.long (v13 - x2))]))
      obtain ⟨_, _, ⟨T22, L22, k22, n22⟩, -, X22, ⟨Lc22, hQ22, l22, y22, z22⟩, st22⟩ := Jvm.LawKit.callS X21 hx (y := (⟨"com/example/flomem/flomem/replay/TimelineWindowsPinLaw", "fl", "(J)J"⟩ : MethodName)) hown (mvT hZ (hw _ (List.mem_of_getElem? (i := 1) rfl))) (mvT hZ (hw _ (List.mem_of_getElem? (i := 2) rfl))) (mvT hZ (hw _ (List.mem_of_getElem? (i := 3) rfl))) (mvT hZ (hw _ (List.mem_of_getElem? (i := 4) rfl))) (by decide) (backOf (W := 0) (rm1 l Z a0 hw [] (v13 - x2) h0 n0 Z0 ) hZ (hw _ (List.mem_of_getElem? (i := 4) rfl)) (hw _ (List.mem_of_getElem? (i := 3) rfl)) (by decide) (by decide)) (g := (mkF m 87 #[.val (.int p0), .val (.long q1), .second, .val (.long q2), .second, .val (.long q3), .second, .val (.int p4), .val (.int x1), .val (.long (9223372036854775807 : Int64)), .second, .val (.long x2), .second, .val (.long v4), .second, .val (.long v13), .second, .val (.long r21), .second, .unset, .unset, .unset, .unset, .unset, .unset, .unset, .unset, .unset, .unset, .unset, .unset] [(.long (v13 - x2))])) rfl (by rw [hml]; rfl) (argsL := [(.long (v13 - x2))]) (rest := []) (lenOf pd_1 rfl) rfl (by show 2 * 0 + _ ≤ _; exact Nat.le_of_eq rfl) (hb hby at_87) (fun _ _ => ⟨rfl, e21, (by decide : 0 + 0 ≤ _), (by decide : 0 + 0 ≤ _)⟩)
      dsimp only [Pt.U, Pt.locs, Pt.cells, Pt.slots] at X22 l22 y22 z22 st22 hQ22
      subst l22 y22 z22
      obtain ⟨r22, rfl, hr22, Nq22, e22⟩ := hQ22
      have N22 := Fr.app N21 Nq22
      refine gob st22 ?_
      show Go _ _ _ _ _ _ _ (T22.setTop (mkF m 90 #[.val (.int p0), .val (.long q1), .second, .val (.long q2), .second, .val (.long q3), .second, .val (.int p4), .val (.int x1), .val (.long (9223372036854775807 : Int64)), .second, .val (.long x2), .second, .val (.long v4), .second, .val (.long v13), .second, .val (.long r21), .second, .unset, .unset, .unset, .unset, .unset, .unset, .unset, .unset, .unset, .unset, .unset, .unset] [(.long r22)]))
      refine gob (fun _ k => XS.lstore X22.here hx rfl (hb hby at_90) rfl (l' := #[.val (.int p0), .val (.long q1), .second, .val (.long q2), .second, .val (.long q3), .second, .val (.int p4), .val (.int x1), .val (.long (9223372036854775807 : Int64)), .second, .val (.long x2), .second, .val (.long v4), .second, .val (.long v13), .second, .val (.long r21), .second, .val (.long r22), .second, .unset, .unset, .unset, .unset, .unset, .unset, .unset, .unset, .unset, .unset]) rfl k) ?_
      show Go _ _ _ _ _ _ _ (T22.setTop (mkF m 92 #[.val (.int p0), .val (.long q1), .second, .val (.long q2), .second, .val (.long q3), .second, .val (.int p4), .val (.int x1), .val (.long (9223372036854775807 : Int64)), .second, .val (.long x2), .second, .val (.long v4), .second, .val (.long v13), .second, .val (.long r21), .second, .val (.long r22), .second, .unset, .unset, .unset, .unset, .unset, .unset, .unset, .unset, .unset, .unset] []))
      obtain ⟨T23, h23, X23, e23, E23, A23, D23, -, st23⟩ := newO X22 hx hZ hown (hw _ (List.mem_of_getElem? (i := 6) rfl)) (hw _ (List.mem_of_getElem? (i := 7) rfl)) (hw _ (List.mem_of_getElem? (i := 8) rfl)) e22 (g := (mkF m 92 #[.val (.int p0), .val (.long q1), .second, .val (.long q2), .second, .val (.long q3), .second, .val (.int p4), .val (.int x1), .val (.long (9223372036854775807 : Int64)), .second, .val (.long x2), .second, .val (.long v4), .second, .val (.long v13), .second, .val (.long r21), .second, .val (.long r22), .second, .unset, .unset, .unset, .unset, .unset, .unset, .unset, .unset, .unset, .unset] [])) rfl (hb hby at_92) (by decide) (by decide)
      obtain ⟨b23, g23⟩ : ∃ z, z = h0.size := ⟨_, rfl⟩
      rw [← g23] at A23 D23 st23
      have g24 : n0 ≤ b23 := Nat.le_trans Z0 (Nat.le_of_eq g23.symm)
      have z25 : n0 ≤ h23.size := Nat.le_trans Z0 E23.1
      have F23_started : Fld Z h23 b23 "com/example/flomem/flomem/replay/Timeline" "started" "Z" (.int (0 : Int32)) := D23 (Or.inl (hw _ (List.mem_of_getElem? (i := 21) rfl))) (ty := .boolean) (by decide)
      have F23_firstMicros : Fld Z h23 b23 "com/example/flomem/flomem/replay/Timeline" "firstMicros" "J" (.long (0 : Int64)) := D23 (Or.inl (hw _ (List.mem_of_getElem? (i := 36) rfl))) (ty := .long) (by decide)
      have F23_lowestWindow : Fld Z h23 b23 "com/example/flomem/flomem/replay/Timeline" "lowestWindow" "J" (.long (0 : Int64)) := D23 (Or.inl (hw _ (List.mem_of_getElem? (i := 42) rfl))) (ty := .long) (by decide)
      have F23_highestWindow : Fld Z h23 b23 "com/example/flomem/flomem/replay/Timeline" "highestWindow" "J" (.long (0 : Int64)) := D23 (Or.inl (hw _ (List.mem_of_getElem? (i := 45) rfl))) (ty := .long) (by decide)
      refine gob st23 ?_
      show Go _ _ _ _ _ _ _ (T23.setTop (mkF m 95 #[.val (.int p0), .val (.long q1), .second, .val (.long q2), .second, .val (.long q3), .second, .val (.int p4), .val (.int x1), .val (.long (9223372036854775807 : Int64)), .second, .val (.long x2), .second, .val (.long v4), .second, .val (.long v13), .second, .val (.long r21), .second, .val (.long r22), .second, .unset, .unset, .unset, .unset, .unset, .unset, .unset, .unset, .unset, .unset] [(.ref b23)]))
      refine gob (fun _ k => XS.dup X23.here hx rfl (hb hby at_95) rfl rfl k) ?_
      show Go _ _ _ _ _ _ _ (T23.setTop (mkF m 96 #[.val (.int p0), .val (.long q1), .second, .val (.long q2), .second, .val (.long q3), .second, .val (.int p4), .val (.int x1), .val (.long (9223372036854775807 : Int64)), .second, .val (.long x2), .second, .val (.long v4), .second, .val (.long v13), .second, .val (.long r21), .second, .val (.long r22), .second, .unset, .unset, .unset, .unset, .unset, .unset, .unset, .unset, .unset, .unset] [(.ref b23), (.ref b23)]))
      obtain ⟨_, _, ⟨T26, L26, k26, n26⟩, -, X26, ⟨Lc26, hQ26, l26, y26, z26⟩, st26⟩ := X23.specialBack hx (y := (⟨"com/example/flomem/flomem/replay/Timeline", "<init>", "()V"⟩ : MethodName)) rfl hown (mvT hZ (hw _ (List.mem_of_getElem? (i := 9) rfl))) (mvT hZ (hw _ (List.mem_of_getElem? (i := 10) rfl))) (mvT hZ (hw _ (List.mem_of_getElem? (i := 11) rfl))) (by decide) (backOf (W := 1) (rm2 l Z a0 hw [] b23 h23 n0 z25 ) hZ (hw _ (List.mem_of_getElem? (i := 11) rfl)) (hw _ (List.mem_of_getElem? (i := 8) rfl)) (by decide) (by decide)) (g := (mkF m 96 #[.val (.int p0), .val (.long q1), .second, .val (.long q2), .second, .val (.long q3), .second, .val (.int p4), .val (.int x1), .val (.long (9223372036854775807 : Int64)), .second, .val (.long x2), .second, .val (.long v4), .second, .val (.long v13), .second, .val (.long r21), .second, .val (.long r22), .second, .unset, .unset, .unset, .unset, .unset, .unset, .unset, .unset, .unset, .unset] [(.ref b23), (.ref b23)])) rfl (by rw [hml]; rfl) (Steps.refl _) (a := b23) (argsL := []) (rest := [(.ref b23)]) (lenOf pd_2 rfl) rfl (by show 2 * 0 + _ ≤ _; exact Nat.le_of_eq rfl) (hb hby at_96) (fun _ _ => ⟨rfl, e23, (by decide : 1 + 0 ≤ _), (by decide : 4 + 0 ≤ _)⟩)
      dsimp only [Pt.U, Pt.locs, Pt.cells, Pt.slots] at X26 l26 y26 z26 st26 hQ26
      subst l26 y26 z26
      obtain ⟨rfl, Nq26, e26⟩ := hQ26
      have N26 := Fr.app N22 Nq26
      refine gob (fun _ k => st26.trans k) ?_
      show Go _ _ _ _ _ _ _ (T26.setTop (mkF m 99 #[.val (.int p0), .val (.long q1), .second, .val (.long q2), .second, .val (.long q3), .second, .val (.int p4), .val (.int x1), .val (.long (9223372036854775807 : Int64)), .second, .val (.long x2), .second, .val (.long v4), .second, .val (.long v13), .second, .val (.long r21), .second, .val (.long r22), .second, .unset, .unset, .unset, .unset, .unset, .unset, .unset, .unset, .unset, .unset] [(.ref b23)]))
      refine gob (fun _ k => XS.astore X26.here hx rfl (hb hby at_99) rfl rfl (l' := #[.val (.int p0), .val (.long q1), .second, .val (.long q2), .second, .val (.long q3), .second, .val (.int p4), .val (.int x1), .val (.long (9223372036854775807 : Int64)), .second, .val (.long x2), .second, .val (.long v4), .second, .val (.long v13), .second, .val (.long r21), .second, .val (.long r22), .second, .val (.ref b23), .unset, .unset, .unset, .unset, .unset, .unset, .unset, .unset, .unset]) rfl k) ?_
      show Go _ _ _ _ _ _ _ (T26.setTop (mkF m 101 #[.val (.int p0), .val (.long q1), .second, .val (.long q2), .second, .val (.long q3), .second, .val (.int p4), .val (.int x1), .val (.long (9223372036854775807 : Int64)), .second, .val (.long x2), .second, .val (.long v4), .second, .val (.long v13), .second, .val (.long r21), .second, .val (.long r22), .second, .val (.ref b23), .unset, .unset, .unset, .unset, .unset, .unset, .unset, .unset, .unset] []))
      refine gob (fun _ k => XS.aload X26.here hx rfl (hb hby at_101) rfl rfl k) ?_
      show Go _ _ _ _ _ _ _ (T26.setTop (mkF m 103 #[.val (.int p0), .val (.long q1), .second, .val (.long q2), .second, .val (.long q3), .second, .val (.int p4), .val (.int x1), .val (.long (9223372036854775807 : Int64)), .second, .val (.long x2), .second, .val (.long v4), .second, .val (.long v13), .second, .val (.long r21), .second, .val (.long r22), .second, .val (.ref b23), .unset, .unset, .unset, .unset, .unset, .unset, .unset, .unset, .unset] [(.ref b23)]))
      obtain ⟨cq27, kq27, q27a, q27b, q27c⟩ := isOf hZ e26 A23
      obtain ⟨_, _, ⟨T27, L27, k27, n27⟩, -, X27, ⟨Lc27, hQ27, l27, y27, z27⟩, st27⟩ := X26.virtualBack hx (y := (⟨"com/example/flomem/flomem/replay/Timeline", "windows", "()J"⟩ : MethodName)) (z := (⟨"com/example/flomem/flomem/replay/Timeline", "windows", "()J"⟩ : MethodName)) hown (mvT hZ (hw _ (List.mem_of_getElem? (i := 15) rfl))) (mvT hZ (hw _ (List.mem_of_getElem? (i := 16) rfl))) (notFace_of_selects (args := #[]) (mvT hZ (hw _ (List.mem_of_getElem? (i := 18) rfl)))) (mvT hZ (hw _ (List.mem_of_getElem? (i := 18) rfl))) (mvT hZ (hw _ (List.mem_of_getElem? (i := 17) rfl))) (by decide) (backOf (W := 0) (rm4a l Z a0 hw [] b23 (0 : Int64) (0 : Int64) (0 : Int64) h23 n0 z25 F23_started F23_firstMicros F23_lowestWindow F23_highestWindow) hZ (hw _ (List.mem_of_getElem? (i := 19) rfl)) (hw _ (List.mem_of_getElem? (i := 8) rfl)) (by decide) (by decide)) q27a q27c (g := (mkF m 103 #[.val (.int p0), .val (.long q1), .second, .val (.long q2), .second, .val (.long q3), .second, .val (.int p4), .val (.int x1), .val (.long (9223372036854775807 : Int64)), .second, .val (.long x2), .second, .val (.long v4), .second, .val (.long v13), .second, .val (.long r21), .second, .val (.long r22), .second, .val (.ref b23), .unset, .unset, .unset, .unset, .unset, .unset, .unset, .unset, .unset] [(.ref b23)])) rfl (by rw [hml]; rfl) (Steps.refl _) (argsL := []) (rest := []) (lenOf pd_3 rfl) rfl (by show 2 * 0 + _ ≤ _; exact Nat.le_of_eq rfl) (hb hby at_103) (fun _ _ => ⟨rfl, e26, (by decide : 1 + 0 ≤ _), (by decide : 4 + 0 ≤ _)⟩)
      dsimp only [Pt.U, Pt.locs, Pt.cells, Pt.slots] at X27 l27 y27 z27 st27 hQ27
      subst l27 y27 z27
      obtain ⟨r27, rfl, hr27, Nq27, e27⟩ := hQ27
      have N27 := Fr.app N26 Nq27
      refine gob (fun _ k => st27.trans k) ?_
      show Go _ _ _ _ _ _ _ (T27.setTop (mkF m 106 #[.val (.int p0), .val (.long q1), .second, .val (.long q2), .second, .val (.long q3), .second, .val (.int p4), .val (.int x1), .val (.long (9223372036854775807 : Int64)), .second, .val (.long x2), .second, .val (.long v4), .second, .val (.long v13), .second, .val (.long r21), .second, .val (.long r22), .second, .val (.ref b23), .unset, .unset, .unset, .unset, .unset, .unset, .unset, .unset, .unset] [(.long r27)]))
      refine gob (fun _ k => XS.lconst X27.here hx rfl (hb hby at_106) k) ?_
      show Go _ _ _ _ _ _ _ (T27.setTop (mkF m 107 #[.val (.int p0), .val (.long q1), .second, .val (.long q2), .second, .val (.long q3), .second, .val (.int p4), .val (.int x1), .val (.long (9223372036854775807 : Int64)), .second, .val (.long x2), .second, .val (.long v4), .second, .val (.long v13), .second, .val (.long r21), .second, .val (.long r22), .second, .val (.ref b23), .unset, .unset, .unset, .unset, .unset, .unset, .unset, .unset, .unset] [(.long (0 : Int64)), (.long r27)]))
      refine gob (fun _ k => XS.lcmp X27.here hx rfl (hb hby at_107) rfl k) ?_
      show Go _ _ _ _ _ _ _ (T27.setTop (mkF m 108 #[.val (.int p0), .val (.long q1), .second, .val (.long q2), .second, .val (.long q3), .second, .val (.int p4), .val (.int x1), .val (.long (9223372036854775807 : Int64)), .second, .val (.long x2), .second, .val (.long v4), .second, .val (.long v13), .second, .val (.long r21), .second, .val (.long r22), .second, .val (.ref b23), .unset, .unset, .unset, .unset, .unset, .unset, .unset, .unset, .unset] [(.int (lcmpW r27 (0 : Int64)))]))
      have hd29 : r27 = (0 : Int64) := ld_0_108_28 r27 hr27
      refine gob (fun _ k => XS.ifNo X27.here hx rfl (hb hby at_108) rfl ((if0 _ _).trans (teq ((lw_eq _ _).mpr hd29)).2) k) ?_
      show Go _ _ _ _ _ _ _ (T27.setTop (mkF m 111 #[.val (.int p0), .val (.long q1), .second, .val (.long q2), .second, .val (.long q3), .second, .val (.int p4), .val (.int x1), .val (.long (9223372036854775807 : Int64)), .second, .val (.long x2), .second, .val (.long v4), .second, .val (.long v13), .second, .val (.long r21), .second, .val (.long r22), .second, .val (.ref b23), .unset, .unset, .unset, .unset, .unset, .unset, .unset, .unset, .unset] []))
      refine gob (fun _ k => XS.iconst X27.here hx rfl (hb hby at_111) k) ?_
      show Go _ _ _ _ _ _ _ (T27.setTop (mkF m 112 #[.val (.int p0), .val (.long q1), .second, .val (.long q2), .second, .val (.long q3), .second, .val (.int p4), .val (.int x1), .val (.long (9223372036854775807 : Int64)), .second, .val (.long x2), .second, .val (.long v4), .second, .val (.long v13), .second, .val (.long r21), .second, .val (.long r22), .second, .val (.ref b23), .unset, .unset, .unset, .unset, .unset, .unset, .unset, .unset, .unset] [(.int (1 : Int32))]))
      refine gob (fun _ k => XS.goto X27.here hx rfl (pc0 := 112) (pc' := 116) rfl (hb hby at_112) (by decide) (by decide) k) ?_
      show Go _ _ _ _ _ _ _ (T27.setTop (mkF m 116 #[.val (.int p0), .val (.long q1), .second, .val (.long q2), .second, .val (.long q3), .second, .val (.int p4), .val (.int x1), .val (.long (9223372036854775807 : Int64)), .second, .val (.long x2), .second, .val (.long v4), .second, .val (.long v13), .second, .val (.long r21), .second, .val (.long r22), .second, .val (.ref b23), .unset, .unset, .unset, .unset, .unset, .unset, .unset, .unset, .unset] [(.int (1 : Int32))]))
      refine gob (fun _ k => XS.istore X27.here hx rfl (hb hby at_116) rfl (l' := #[.val (.int p0), .val (.long q1), .second, .val (.long q2), .second, .val (.long q3), .second, .val (.int p4), .val (.int x1), .val (.long (9223372036854775807 : Int64)), .second, .val (.long x2), .second, .val (.long v4), .second, .val (.long v13), .second, .val (.long r21), .second, .val (.long r22), .second, .val (.ref b23), .val (.int (1 : Int32)), .unset, .unset, .unset, .unset, .unset, .unset, .unset, .unset]) rfl k) ?_
      show Go _ _ _ _ _ _ _ (T27.setTop (mkF m 118 #[.val (.int p0), .val (.long q1), .second, .val (.long q2), .second, .val (.long q3), .second, .val (.int p4), .val (.int x1), .val (.long (9223372036854775807 : Int64)), .second, .val (.long x2), .second, .val (.long v4), .second, .val (.long v13), .second, .val (.long r21), .second, .val (.long r22), .second, .val (.ref b23), .val (.int (1 : Int32)), .unset, .unset, .unset, .unset, .unset, .unset, .unset, .unset] []))
      refine gob (fun _ k => XS.iload X27.here hx rfl (hb hby at_118) rfl k) ?_
      show Go _ _ _ _ _ _ _ (T27.setTop (mkF m 120 #[.val (.int p0), .val (.long q1), .second, .val (.long q2), .second, .val (.long q3), .second, .val (.int p4), .val (.int x1), .val (.long (9223372036854775807 : Int64)), .second, .val (.long x2), .second, .val (.long v4), .second, .val (.long v13), .second, .val (.long r21), .second, .val (.long r22), .second, .val (.ref b23), .val (.int (1 : Int32)), .unset, .unset, .unset, .unset, .unset, .unset, .unset, .unset] [(.int x1)]))
      refine gob (fun _ k => XS.iconst X27.here hx rfl (hb hby at_120) k) ?_
      show Go _ _ _ _ _ _ _ (T27.setTop (mkF m 121 #[.val (.int p0), .val (.long q1), .second, .val (.long q2), .second, .val (.long q3), .second, .val (.int p4), .val (.int x1), .val (.long (9223372036854775807 : Int64)), .second, .val (.long x2), .second, .val (.long v4), .second, .val (.long v13), .second, .val (.long r21), .second, .val (.long r22), .second, .val (.ref b23), .val (.int (1 : Int32)), .unset, .unset, .unset, .unset, .unset, .unset, .unset, .unset] [(.int (1 : Int32)), (.int x1)]))
      by_cases hc121_30 : x1 < (1 : Int32)
      · skip
        refine gob (fun _ k => XS.icmpYes X27.here hx rfl (pc0 := 121) (pc' := 154) rfl (hb hby at_121) rfl (tlt hc121_30).1 (by decide) (by decide) k) ?_
        show Go _ _ _ _ _ _ _ (T27.setTop (mkF m 154 #[.val (.int p0), .val (.long q1), .second, .val (.long q2), .second, .val (.long q3), .second, .val (.int p4), .val (.int x1), .val (.long (9223372036854775807 : Int64)), .second, .val (.long x2), .second, .val (.long v4), .second, .val (.long v13), .second, .val (.long r21), .second, .val (.long r22), .second, .val (.ref b23), .val (.int (1 : Int32)), .unset, .unset, .unset, .unset, .unset, .unset, .unset, .unset] []))
        refine gob (fun _ k => XS.lconst X27.here hx rfl (hb hby at_154) k) ?_
        show Go _ _ _ _ _ _ _ (T27.setTop (mkF m 155 #[.val (.int p0), .val (.long q1), .second, .val (.long q2), .second, .val (.long q3), .second, .val (.int p4), .val (.int x1), .val (.long (9223372036854775807 : Int64)), .second, .val (.long x2), .second, .val (.long v4), .second, .val (.long v13), .second, .val (.long r21), .second, .val (.long r22), .second, .val (.ref b23), .val (.int (1 : Int32)), .unset, .unset, .unset, .unset, .unset, .unset, .unset, .unset] [(.long (0 : Int64))]))
        refine gob (fun _ k => XS.lload X27.here hx rfl (hb hby at_155) rfl k) ?_
        show Go _ _ _ _ _ _ _ (T27.setTop (mkF m 157 #[.val (.int p0), .val (.long q1), .second, .val (.long q2), .second, .val (.long q3), .second, .val (.int p4), .val (.int x1), .val (.long (9223372036854775807 : Int64)), .second, .val (.long x2), .second, .val (.long v4), .second, .val (.long v13), .second, .val (.long r21), .second, .val (.long r22), .second, .val (.ref b23), .val (.int (1 : Int32)), .unset, .unset, .unset, .unset, .unset, .unset, .unset, .unset] [(.long r21), (.long (0 : Int64))]))
        obtain ⟨_, _, ⟨T31, L31, k31, n31⟩, -, X31, ⟨Lc31, hQ31, l31, y31, z31⟩, st31⟩ := Jvm.LawKit.callS X27 hx (y := (⟨"java/lang/Math", "min", "(JJ)J"⟩ : MethodName)) hown (mvT hZ (hw _ (List.mem_of_getElem? (i := 22) rfl))) (mvT hZ (hw _ (List.mem_of_getElem? (i := 23) rfl))) (mvT hZ (hw _ (List.mem_of_getElem? (i := 24) rfl))) (mvT hZ (hw _ (List.mem_of_getElem? (i := 25) rfl))) (by decide) (backOf (W := 0) (rm5 l Z a0 hw [] (0 : Int64) r21 h23 n0 z25 ) hZ (hw _ (List.mem_of_getElem? (i := 25) rfl)) (hw _ (List.mem_of_getElem? (i := 24) rfl)) (by decide) (by decide)) (g := (mkF m 157 #[.val (.int p0), .val (.long q1), .second, .val (.long q2), .second, .val (.long q3), .second, .val (.int p4), .val (.int x1), .val (.long (9223372036854775807 : Int64)), .second, .val (.long x2), .second, .val (.long v4), .second, .val (.long v13), .second, .val (.long r21), .second, .val (.long r22), .second, .val (.ref b23), .val (.int (1 : Int32)), .unset, .unset, .unset, .unset, .unset, .unset, .unset, .unset] [(.long r21), (.long (0 : Int64))])) rfl (by rw [hml]; rfl) (argsL := [(.long (0 : Int64)), (.long r21)]) (rest := []) (lenOf pd_0 rfl) rfl (by show 2 * 0 + _ ≤ _; exact Nat.le_of_eq rfl) (hb hby at_157) (fun _ _ => ⟨rfl, e27, (by decide : 1 + 0 ≤ _), (by decide : 4 + 0 ≤ _)⟩)
        dsimp only [Pt.U, Pt.locs, Pt.cells, Pt.slots] at X31 l31 y31 z31 st31 hQ31
        subst l31 y31 z31
        obtain ⟨r31, rfl, hr31, Nq31, e31⟩ := hQ31
        have N31 := Fr.app N27 Nq31
        refine gob st31 ?_
        show Go _ _ _ _ _ _ _ (T31.setTop (mkF m 160 #[.val (.int p0), .val (.long q1), .second, .val (.long q2), .second, .val (.long q3), .second, .val (.int p4), .val (.int x1), .val (.long (9223372036854775807 : Int64)), .second, .val (.long x2), .second, .val (.long v4), .second, .val (.long v13), .second, .val (.long r21), .second, .val (.long r22), .second, .val (.ref b23), .val (.int (1 : Int32)), .unset, .unset, .unset, .unset, .unset, .unset, .unset, .unset] [(.long r31)]))
        refine gob (fun _ k => XS.lstore X31.here hx rfl (hb hby at_160) rfl (l' := #[.val (.int p0), .val (.long q1), .second, .val (.long q2), .second, .val (.long q3), .second, .val (.int p4), .val (.int x1), .val (.long (9223372036854775807 : Int64)), .second, .val (.long x2), .second, .val (.long v4), .second, .val (.long v13), .second, .val (.long r21), .second, .val (.long r22), .second, .val (.ref b23), .val (.int (1 : Int32)), .val (.long r31), .second, .unset, .unset, .unset, .unset, .unset, .unset]) rfl k) ?_
        show Go _ _ _ _ _ _ _ (T31.setTop (mkF m 162 #[.val (.int p0), .val (.long q1), .second, .val (.long q2), .second, .val (.long q3), .second, .val (.int p4), .val (.int x1), .val (.long (9223372036854775807 : Int64)), .second, .val (.long x2), .second, .val (.long v4), .second, .val (.long v13), .second, .val (.long r21), .second, .val (.long r22), .second, .val (.ref b23), .val (.int (1 : Int32)), .val (.long r31), .second, .unset, .unset, .unset, .unset, .unset, .unset] []))
        refine gob (fun _ k => XS.lconst X31.here hx rfl (hb hby at_162) k) ?_
        show Go _ _ _ _ _ _ _ (T31.setTop (mkF m 163 #[.val (.int p0), .val (.long q1), .second, .val (.long q2), .second, .val (.long q3), .second, .val (.int p4), .val (.int x1), .val (.long (9223372036854775807 : Int64)), .second, .val (.long x2), .second, .val (.long v4), .second, .val (.long v13), .second, .val (.long r21), .second, .val (.long r22), .second, .val (.ref b23), .val (.int (1 : Int32)), .val (.long r31), .second, .unset, .unset, .unset, .unset, .unset, .unset] [(.long (0 : Int64))]))
        refine gob (fun _ k => XS.lload X31.here hx rfl (hb hby at_163) rfl k) ?_
        show Go _ _ _ _ _ _ _ (T31.setTop (mkF m 165 #[.val (.int p0), .val (.long q1), .second, .val (.long q2), .second, .val (.long q3), .second, .val (.int p4), .val (.int x1), .val (.long (9223372036854775807 : Int64)), .second, .val (.long x2), .second, .val (.long v4), .second, .val (.long v13), .second, .val (.long r21), .second, .val (.long r22), .second, .val (.ref b23), .val (.int (1 : Int32)), .val (.long r31), .second, .unset, .unset, .unset, .unset, .unset, .unset] [(.long r21), (.long (0 : Int64))]))
        obtain ⟨_, _, ⟨T32, L32, k32, n32⟩, -, X32, ⟨Lc32, hQ32, l32, y32, z32⟩, st32⟩ := Jvm.LawKit.callS X31 hx (y := (⟨"java/lang/Math", "max", "(JJ)J"⟩ : MethodName)) hown (mvT hZ (hw _ (List.mem_of_getElem? (i := 26) rfl))) (mvT hZ (hw _ (List.mem_of_getElem? (i := 27) rfl))) (mvT hZ (hw _ (List.mem_of_getElem? (i := 24) rfl))) (mvT hZ (hw _ (List.mem_of_getElem? (i := 28) rfl))) (by decide) (backOf (W := 0) (rm6 l Z a0 hw [] (0 : Int64) r21 h23 n0 z25 ) hZ (hw _ (List.mem_of_getElem? (i := 28) rfl)) (hw _ (List.mem_of_getElem? (i := 24) rfl)) (by decide) (by decide)) (g := (mkF m 165 #[.val (.int p0), .val (.long q1), .second, .val (.long q2), .second, .val (.long q3), .second, .val (.int p4), .val (.int x1), .val (.long (9223372036854775807 : Int64)), .second, .val (.long x2), .second, .val (.long v4), .second, .val (.long v13), .second, .val (.long r21), .second, .val (.long r22), .second, .val (.ref b23), .val (.int (1 : Int32)), .val (.long r31), .second, .unset, .unset, .unset, .unset, .unset, .unset] [(.long r21), (.long (0 : Int64))])) rfl (by rw [hml]; rfl) (argsL := [(.long (0 : Int64)), (.long r21)]) (rest := []) (lenOf pd_0 rfl) rfl (by show 2 * 0 + _ ≤ _; exact Nat.le_of_eq rfl) (hb hby at_165) (fun _ _ => ⟨rfl, e31, (by decide : 1 + 0 ≤ _), (by decide : 4 + 0 ≤ _)⟩)
        dsimp only [Pt.U, Pt.locs, Pt.cells, Pt.slots] at X32 l32 y32 z32 st32 hQ32
        subst l32 y32 z32
        obtain ⟨r32, rfl, hr32, Nq32, e32⟩ := hQ32
        have N32 := Fr.app N31 Nq32
        refine gob st32 ?_
        show Go _ _ _ _ _ _ _ (T32.setTop (mkF m 168 #[.val (.int p0), .val (.long q1), .second, .val (.long q2), .second, .val (.long q3), .second, .val (.int p4), .val (.int x1), .val (.long (9223372036854775807 : Int64)), .second, .val (.long x2), .second, .val (.long v4), .second, .val (.long v13), .second, .val (.long r21), .second, .val (.long r22), .second, .val (.ref b23), .val (.int (1 : Int32)), .val (.long r31), .second, .unset, .unset, .unset, .unset, .unset, .unset] [(.long r32)]))
        refine gob (fun _ k => XS.lstore X32.here hx rfl (hb hby at_168) rfl (l' := #[.val (.int p0), .val (.long q1), .second, .val (.long q2), .second, .val (.long q3), .second, .val (.int p4), .val (.int x1), .val (.long (9223372036854775807 : Int64)), .second, .val (.long x2), .second, .val (.long v4), .second, .val (.long v13), .second, .val (.long r21), .second, .val (.long r22), .second, .val (.ref b23), .val (.int (1 : Int32)), .val (.long r31), .second, .val (.long r32), .second, .unset, .unset, .unset, .unset]) rfl k) ?_
        show Go _ _ _ _ _ _ _ (T32.setTop (mkF m 170 #[.val (.int p0), .val (.long q1), .second, .val (.long q2), .second, .val (.long q3), .second, .val (.int p4), .val (.int x1), .val (.long (9223372036854775807 : Int64)), .second, .val (.long x2), .second, .val (.long v4), .second, .val (.long v13), .second, .val (.long r21), .second, .val (.long r22), .second, .val (.ref b23), .val (.int (1 : Int32)), .val (.long r31), .second, .val (.long r32), .second, .unset, .unset, .unset, .unset] []))
        refine gob (fun _ k => XS.iload X32.here hx rfl (hb hby at_170) rfl k) ?_
        show Go _ _ _ _ _ _ _ (T32.setTop (mkF m 172 #[.val (.int p0), .val (.long q1), .second, .val (.long q2), .second, .val (.long q3), .second, .val (.int p4), .val (.int x1), .val (.long (9223372036854775807 : Int64)), .second, .val (.long x2), .second, .val (.long v4), .second, .val (.long v13), .second, .val (.long r21), .second, .val (.long r22), .second, .val (.ref b23), .val (.int (1 : Int32)), .val (.long r31), .second, .val (.long r32), .second, .unset, .unset, .unset, .unset] [(.int x1)]))
        refine gob (fun _ k => XS.iconst X32.here hx rfl (hb hby at_172) k) ?_
        show Go _ _ _ _ _ _ _ (T32.setTop (mkF m 173 #[.val (.int p0), .val (.long q1), .second, .val (.long q2), .second, .val (.long q3), .second, .val (.int p4), .val (.int x1), .val (.long (9223372036854775807 : Int64)), .second, .val (.long x2), .second, .val (.long v4), .second, .val (.long v13), .second, .val (.long r21), .second, .val (.long r22), .second, .val (.ref b23), .val (.int (1 : Int32)), .val (.long r31), .second, .val (.long r32), .second, .unset, .unset, .unset, .unset] [(.int (2 : Int32)), (.int x1)]))
        have hd34 : x1 < (2 : Int32) := ld_0_173_33 p0 x1 hx1 hc121_30
        refine gob (fun _ k => XS.icmpYes X32.here hx rfl (pc0 := 173) (pc' := 212) rfl (hb hby at_173) rfl (tlt hd34).1 (by decide) (by decide) k) ?_
        show Go _ _ _ _ _ _ _ (T32.setTop (mkF m 212 #[.val (.int p0), .val (.long q1), .second, .val (.long q2), .second, .val (.long q3), .second, .val (.int p4), .val (.int x1), .val (.long (9223372036854775807 : Int64)), .second, .val (.long x2), .second, .val (.long v4), .second, .val (.long v13), .second, .val (.long r21), .second, .val (.long r22), .second, .val (.ref b23), .val (.int (1 : Int32)), .val (.long r31), .second, .val (.long r32), .second, .unset, .unset, .unset, .unset] []))
        refine gob (fun _ k => XS.iload X32.here hx rfl (hb hby at_212) rfl k) ?_
        show Go _ _ _ _ _ _ _ (T32.setTop (mkF m 214 #[.val (.int p0), .val (.long q1), .second, .val (.long q2), .second, .val (.long q3), .second, .val (.int p4), .val (.int x1), .val (.long (9223372036854775807 : Int64)), .second, .val (.long x2), .second, .val (.long v4), .second, .val (.long v13), .second, .val (.long r21), .second, .val (.long r22), .second, .val (.ref b23), .val (.int (1 : Int32)), .val (.long r31), .second, .val (.long r32), .second, .unset, .unset, .unset, .unset] [(.int x1)]))
        refine gob (fun _ k => XS.iconst X32.here hx rfl (hb hby at_214) k) ?_
        show Go _ _ _ _ _ _ _ (T32.setTop (mkF m 215 #[.val (.int p0), .val (.long q1), .second, .val (.long q2), .second, .val (.long q3), .second, .val (.int p4), .val (.int x1), .val (.long (9223372036854775807 : Int64)), .second, .val (.long x2), .second, .val (.long v4), .second, .val (.long v13), .second, .val (.long r21), .second, .val (.long r22), .second, .val (.ref b23), .val (.int (1 : Int32)), .val (.long r31), .second, .val (.long r32), .second, .unset, .unset, .unset, .unset] [(.int (3 : Int32)), (.int x1)]))
        have hd36 : x1 < (3 : Int32) := ld_0_215_35 p0 x1 hx1 hc121_30
        refine gob (fun _ k => XS.icmpYes X32.here hx rfl (pc0 := 215) (pc' := 272) rfl (hb hby at_215) rfl (tlt hd36).1 (by decide) (by decide) k) ?_
        show Go _ _ _ _ _ _ _ (T32.setTop (mkF m 272 #[.val (.int p0), .val (.long q1), .second, .val (.long q2), .second, .val (.long q3), .second, .val (.int p4), .val (.int x1), .val (.long (9223372036854775807 : Int64)), .second, .val (.long x2), .second, .val (.long v4), .second, .val (.long v13), .second, .val (.long r21), .second, .val (.long r22), .second, .val (.ref b23), .val (.int (1 : Int32)), .val (.long r31), .second, .val (.long r32), .second, .unset, .unset, .unset, .unset] []))
        refine gob (fun _ k => XS.iload X32.here hx rfl (hb hby at_272) rfl k) ?_
        show Go _ _ _ _ _ _ _ (T32.setTop (mkF m 274 #[.val (.int p0), .val (.long q1), .second, .val (.long q2), .second, .val (.long q3), .second, .val (.int p4), .val (.int x1), .val (.long (9223372036854775807 : Int64)), .second, .val (.long x2), .second, .val (.long v4), .second, .val (.long v13), .second, .val (.long r21), .second, .val (.long r22), .second, .val (.ref b23), .val (.int (1 : Int32)), .val (.long r31), .second, .val (.long r32), .second, .unset, .unset, .unset, .unset] [(.int (1 : Int32))]))
        refine goZ X32 hx hlk (t := .boolean) Bd.returns (by simp) (hb hby at_274) (z' := (1 : Int32)) rfl ?_ (by decide) (by decide)
        show Q0 Z p0 q1 q2 q3 p4 h0 n0 (some (.int (1 : Int32))) T32.heap _
        exact ⟨rfl, N32⟩
      · skip
        refine gob (fun _ k => XS.icmpNo X27.here hx rfl (hb hby at_121) rfl (flt hc121_30).1 k) ?_
        show Go _ _ _ _ _ _ _ (T27.setTop (mkF m 124 #[.val (.int p0), .val (.long q1), .second, .val (.long q2), .second, .val (.long q3), .second, .val (.int p4), .val (.int x1), .val (.long (9223372036854775807 : Int64)), .second, .val (.long x2), .second, .val (.long v4), .second, .val (.long v13), .second, .val (.long r21), .second, .val (.long r22), .second, .val (.ref b23), .val (.int (1 : Int32)), .unset, .unset, .unset, .unset, .unset, .unset, .unset, .unset] []))
        refine gob (fun _ k => XS.aload X27.here hx rfl (hb hby at_124) rfl rfl k) ?_
        show Go _ _ _ _ _ _ _ (T27.setTop (mkF m 126 #[.val (.int p0), .val (.long q1), .second, .val (.long q2), .second, .val (.long q3), .second, .val (.int p4), .val (.int x1), .val (.long (9223372036854775807 : Int64)), .second, .val (.long x2), .second, .val (.long v4), .second, .val (.long v13), .second, .val (.long r21), .second, .val (.long r22), .second, .val (.ref b23), .val (.int (1 : Int32)), .unset, .unset, .unset, .unset, .unset, .unset, .unset, .unset] [(.ref b23)]))
        refine gob (fun _ k => XS.lload X27.here hx rfl (hb hby at_126) rfl k) ?_
        show Go _ _ _ _ _ _ _ (T27.setTop (mkF m 128 #[.val (.int p0), .val (.long q1), .second, .val (.long q2), .second, .val (.long q3), .second, .val (.int p4), .val (.int x1), .val (.long (9223372036854775807 : Int64)), .second, .val (.long x2), .second, .val (.long v4), .second, .val (.long v13), .second, .val (.long r21), .second, .val (.long r22), .second, .val (.ref b23), .val (.int (1 : Int32)), .unset, .unset, .unset, .unset, .unset, .unset, .unset, .unset] [(.long x2), (.ref b23)]))
        obtain ⟨cq37, kq37, q37a, q37b, q37c⟩ := isOf hZ e27 A23
        obtain ⟨_, _, ⟨T37, L37, k37, n37⟩, -, X37, ⟨Lc37, hQ37, l37, y37, z37⟩, st37⟩ := X27.virtualBack hx (y := (⟨"com/example/flomem/flomem/replay/Timeline", "place", "(J)J"⟩ : MethodName)) (z := (⟨"com/example/flomem/flomem/replay/Timeline", "place", "(J)J"⟩ : MethodName)) hown (mvT hZ (hw _ (List.mem_of_getElem? (i := 30) rfl))) (mvT hZ (hw _ (List.mem_of_getElem? (i := 31) rfl))) (notFace_of_selects (args := #[]) (mvT hZ (hw _ (List.mem_of_getElem? (i := 33) rfl)))) (mvT hZ (hw _ (List.mem_of_getElem? (i := 33) rfl))) (mvT hZ (hw _ (List.mem_of_getElem? (i := 32) rfl))) (by decide) (backOf (W := 0) (rm7a l Z a0 hw [] b23 x2 (0 : Int64) (0 : Int64) (0 : Int64) h23 n0 z25 F23_started F23_firstMicros F23_lowestWindow F23_highestWindow A23 g24) hZ (hw _ (List.mem_of_getElem? (i := 34) rfl)) (hw _ (List.mem_of_getElem? (i := 8) rfl)) (by decide) (by decide)) q37a q37c (g := (mkF m 128 #[.val (.int p0), .val (.long q1), .second, .val (.long q2), .second, .val (.long q3), .second, .val (.int p4), .val (.int x1), .val (.long (9223372036854775807 : Int64)), .second, .val (.long x2), .second, .val (.long v4), .second, .val (.long v13), .second, .val (.long r21), .second, .val (.long r22), .second, .val (.ref b23), .val (.int (1 : Int32)), .unset, .unset, .unset, .unset, .unset, .unset, .unset, .unset] [(.long x2), (.ref b23)])) rfl (by rw [hml]; rfl) (Steps.refl _) (argsL := [(.long x2)]) (rest := []) (lenOf pd_1 rfl) rfl (by show 2 * 0 + _ ≤ _; exact Nat.le_of_eq rfl) (hb hby at_128) (fun _ _ => ⟨rfl, e27, (by decide : 1 + 0 ≤ _), (by decide : 4 + 0 ≤ _)⟩)
        dsimp only [Pt.U, Pt.locs, Pt.cells, Pt.slots] at X37 l37 y37 z37 st37 hQ37
        subst l37 y37 z37
        obtain ⟨r38, r39, r40, rfl, Nq37, K37, F41, F42, F43, F44, hi45, hi46, hi47⟩ := hQ37
        have N37 := Fr.app N27 Nq37
        have z48 : n0 ≤ T37.heap.size := Nat.le_trans z25 K37.1
        refine gob (fun _ k => st37.trans k) ?_
        show Go _ _ _ _ _ _ _ (T37.setTop (mkF m 131 #[.val (.int p0), .val (.long q1), .second, .val (.long q2), .second, .val (.long q3), .second, .val (.int p4), .val (.int x1), .val (.long (9223372036854775807 : Int64)), .second, .val (.long x2), .second, .val (.long v4), .second, .val (.long v13), .second, .val (.long r21), .second, .val (.long r22), .second, .val (.ref b23), .val (.int (1 : Int32)), .unset, .unset, .unset, .unset, .unset, .unset, .unset, .unset] [(.long r38)]))
        refine gob (fun _ k => pop2L X37 hx rfl (hb hby at_131) rfl k) ?_
        show Go _ _ _ _ _ _ _ (T37.setTop (mkF m 132 #[.val (.int p0), .val (.long q1), .second, .val (.long q2), .second, .val (.long q3), .second, .val (.int p4), .val (.int x1), .val (.long (9223372036854775807 : Int64)), .second, .val (.long x2), .second, .val (.long v4), .second, .val (.long v13), .second, .val (.long r21), .second, .val (.long r22), .second, .val (.ref b23), .val (.int (1 : Int32)), .unset, .unset, .unset, .unset, .unset, .unset, .unset, .unset] []))
        refine gob (fun _ k => XS.iload X37.here hx rfl (hb hby at_132) rfl k) ?_
        show Go _ _ _ _ _ _ _ (T37.setTop (mkF m 134 #[.val (.int p0), .val (.long q1), .second, .val (.long q2), .second, .val (.long q3), .second, .val (.int p4), .val (.int x1), .val (.long (9223372036854775807 : Int64)), .second, .val (.long x2), .second, .val (.long v4), .second, .val (.long v13), .second, .val (.long r21), .second, .val (.long r22), .second, .val (.ref b23), .val (.int (1 : Int32)), .unset, .unset, .unset, .unset, .unset, .unset, .unset, .unset] [(.int (1 : Int32))]))
        refine gob (fun _ k => XS.ifNo X37.here hx rfl (hb hby at_134) rfl ((if0 _ _).trans (feq (by decide : ¬ ((1 : Int32) = (0 : Int32)))).1) k) ?_
        show Go _ _ _ _ _ _ _ (T37.setTop (mkF m 137 #[.val (.int p0), .val (.long q1), .second, .val (.long q2), .second, .val (.long q3), .second, .val (.int p4), .val (.int x1), .val (.long (9223372036854775807 : Int64)), .second, .val (.long x2), .second, .val (.long v4), .second, .val (.long v13), .second, .val (.long r21), .second, .val (.long r22), .second, .val (.ref b23), .val (.int (1 : Int32)), .unset, .unset, .unset, .unset, .unset, .unset, .unset, .unset] []))
        refine gob (fun _ k => XS.aload X37.here hx rfl (hb hby at_137) rfl rfl k) ?_
        show Go _ _ _ _ _ _ _ (T37.setTop (mkF m 139 #[.val (.int p0), .val (.long q1), .second, .val (.long q2), .second, .val (.long q3), .second, .val (.int p4), .val (.int x1), .val (.long (9223372036854775807 : Int64)), .second, .val (.long x2), .second, .val (.long v4), .second, .val (.long v13), .second, .val (.long r21), .second, .val (.long r22), .second, .val (.ref b23), .val (.int (1 : Int32)), .unset, .unset, .unset, .unset, .unset, .unset, .unset, .unset] [(.ref b23)]))
        have c50 := (A23.keep K37)
        obtain ⟨cq49, kq49, q49a, q49b, q49c⟩ := isOf hZ (rfl : T37.heap = _) c50
        obtain ⟨_, _, ⟨T49, L49, k49, n49⟩, -, X49, ⟨Lc49, hQ49, l49, y49, z49⟩, st49⟩ := X37.virtualBack hx (y := (⟨"com/example/flomem/flomem/replay/Timeline", "windows", "()J"⟩ : MethodName)) (z := (⟨"com/example/flomem/flomem/replay/Timeline", "windows", "()J"⟩ : MethodName)) hown (mvT hZ (hw _ (List.mem_of_getElem? (i := 15) rfl))) (mvT hZ (hw _ (List.mem_of_getElem? (i := 16) rfl))) (notFace_of_selects (args := #[]) (mvT hZ (hw _ (List.mem_of_getElem? (i := 18) rfl)))) (mvT hZ (hw _ (List.mem_of_getElem? (i := 18) rfl))) (mvT hZ (hw _ (List.mem_of_getElem? (i := 17) rfl))) (by decide) (backOf (W := 0) (rm4b l Z a0 hw [] b23 x2 r39 r40 T37.heap n0 z48 F41 F42 F43 F44) hZ (hw _ (List.mem_of_getElem? (i := 19) rfl)) (hw _ (List.mem_of_getElem? (i := 8) rfl)) (by decide) (by decide)) q49a q49c (g := (mkF m 139 #[.val (.int p0), .val (.long q1), .second, .val (.long q2), .second, .val (.long q3), .second, .val (.int p4), .val (.int x1), .val (.long (9223372036854775807 : Int64)), .second, .val (.long x2), .second, .val (.long v4), .second, .val (.long v13), .second, .val (.long r21), .second, .val (.long r22), .second, .val (.ref b23), .val (.int (1 : Int32)), .unset, .unset, .unset, .unset, .unset, .unset, .unset, .unset] [(.ref b23)])) rfl (by rw [hml]; rfl) (Steps.refl _) (argsL := []) (rest := []) (lenOf pd_3 rfl) rfl (by show 2 * 0 + _ ≤ _; exact Nat.le_of_eq rfl) (hb hby at_139) (fun _ _ => ⟨rfl, (rfl : T37.heap = _), (by decide : 1 + 0 ≤ _), (by decide : 4 + 0 ≤ _)⟩)
        dsimp only [Pt.U, Pt.locs, Pt.cells, Pt.slots] at X49 l49 y49 z49 st49 hQ49
        subst l49 y49 z49
        obtain ⟨r49, rfl, hr49, Nq49, e49⟩ := hQ49
        have N49 := Fr.app N37 Nq49
        refine gob (fun _ k => st49.trans k) ?_
        show Go _ _ _ _ _ _ _ (T49.setTop (mkF m 142 #[.val (.int p0), .val (.long q1), .second, .val (.long q2), .second, .val (.long q3), .second, .val (.int p4), .val (.int x1), .val (.long (9223372036854775807 : Int64)), .second, .val (.long x2), .second, .val (.long v4), .second, .val (.long v13), .second, .val (.long r21), .second, .val (.long r22), .second, .val (.ref b23), .val (.int (1 : Int32)), .unset, .unset, .unset, .unset, .unset, .unset, .unset, .unset] [(.long r49)]))
        refine gob (fun _ k => XS.lconst X49.here hx rfl (hb hby at_142) k) ?_
        show Go _ _ _ _ _ _ _ (T49.setTop (mkF m 143 #[.val (.int p0), .val (.long q1), .second, .val (.long q2), .second, .val (.long q3), .second, .val (.int p4), .val (.int x1), .val (.long (9223372036854775807 : Int64)), .second, .val (.long x2), .second, .val (.long v4), .second, .val (.long v13), .second, .val (.long r21), .second, .val (.long r22), .second, .val (.ref b23), .val (.int (1 : Int32)), .unset, .unset, .unset, .unset, .unset, .unset, .unset, .unset] [(.long (1 : Int64)), (.long r49)]))
        refine gob (fun _ k => XS.lcmp X49.here hx rfl (hb hby at_143) rfl k) ?_
        show Go _ _ _ _ _ _ _ (T49.setTop (mkF m 144 #[.val (.int p0), .val (.long q1), .second, .val (.long q2), .second, .val (.long q3), .second, .val (.int p4), .val (.int x1), .val (.long (9223372036854775807 : Int64)), .second, .val (.long x2), .second, .val (.long v4), .second, .val (.long v13), .second, .val (.long r21), .second, .val (.long r22), .second, .val (.ref b23), .val (.int (1 : Int32)), .unset, .unset, .unset, .unset, .unset, .unset, .unset, .unset] [(.int (lcmpW r49 (1 : Int64)))]))
        have hd52 : r49 = (1 : Int64) := ld_0_144_51 q1 x2 r38 r39 r40 r49 hx2 hi45 hi46 hi47 hr49
        refine gob (fun _ k => XS.ifNo X49.here hx rfl (hb hby at_144) rfl ((if0 _ _).trans (teq ((lw_eq _ _).mpr hd52)).2) k) ?_
        show Go _ _ _ _ _ _ _ (T49.setTop (mkF m 147 #[.val (.int p0), .val (.long q1), .second, .val (.long q2), .second, .val (.long q3), .second, .val (.int p4), .val (.int x1), .val (.long (9223372036854775807 : Int64)), .second, .val (.long x2), .second, .val (.long v4), .second, .val (.long v13), .second, .val (.long r21), .second, .val (.long r22), .second, .val (.ref b23), .val (.int (1 : Int32)), .unset, .unset, .unset, .unset, .unset, .unset, .unset, .unset] []))
        refine gob (fun _ k => XS.iconst X49.here hx rfl (hb hby at_147) k) ?_
        show Go _ _ _ _ _ _ _ (T49.setTop (mkF m 148 #[.val (.int p0), .val (.long q1), .second, .val (.long q2), .second, .val (.long q3), .second, .val (.int p4), .val (.int x1), .val (.long (9223372036854775807 : Int64)), .second, .val (.long x2), .second, .val (.long v4), .second, .val (.long v13), .second, .val (.long r21), .second, .val (.long r22), .second, .val (.ref b23), .val (.int (1 : Int32)), .unset, .unset, .unset, .unset, .unset, .unset, .unset, .unset] [(.int (1 : Int32))]))
        refine gob (fun _ k => XS.goto X49.here hx rfl (pc0 := 148) (pc' := 152) rfl (hb hby at_148) (by decide) (by decide) k) ?_
        show Go _ _ _ _ _ _ _ (T49.setTop (mkF m 152 #[.val (.int p0), .val (.long q1), .second, .val (.long q2), .second, .val (.long q3), .second, .val (.int p4), .val (.int x1), .val (.long (9223372036854775807 : Int64)), .second, .val (.long x2), .second, .val (.long v4), .second, .val (.long v13), .second, .val (.long r21), .second, .val (.long r22), .second, .val (.ref b23), .val (.int (1 : Int32)), .unset, .unset, .unset, .unset, .unset, .unset, .unset, .unset] [(.int (1 : Int32))]))
        refine gob (fun _ k => XS.istore X49.here hx rfl (hb hby at_152) rfl (l' := #[.val (.int p0), .val (.long q1), .second, .val (.long q2), .second, .val (.long q3), .second, .val (.int p4), .val (.int x1), .val (.long (9223372036854775807 : Int64)), .second, .val (.long x2), .second, .val (.long v4), .second, .val (.long v13), .second, .val (.long r21), .second, .val (.long r22), .second, .val (.ref b23), .val (.int (1 : Int32)), .unset, .unset, .unset, .unset, .unset, .unset, .unset, .unset]) rfl k) ?_
        show Go _ _ _ _ _ _ _ (T49.setTop (mkF m 154 #[.val (.int p0), .val (.long q1), .second, .val (.long q2), .second, .val (.long q3), .second, .val (.int p4), .val (.int x1), .val (.long (9223372036854775807 : Int64)), .second, .val (.long x2), .second, .val (.long v4), .second, .val (.long v13), .second, .val (.long r21), .second, .val (.long r22), .second, .val (.ref b23), .val (.int (1 : Int32)), .unset, .unset, .unset, .unset, .unset, .unset, .unset, .unset] []))
        refine gob (fun _ k => XS.lconst X49.here hx rfl (hb hby at_154) k) ?_
        show Go _ _ _ _ _ _ _ (T49.setTop (mkF m 155 #[.val (.int p0), .val (.long q1), .second, .val (.long q2), .second, .val (.long q3), .second, .val (.int p4), .val (.int x1), .val (.long (9223372036854775807 : Int64)), .second, .val (.long x2), .second, .val (.long v4), .second, .val (.long v13), .second, .val (.long r21), .second, .val (.long r22), .second, .val (.ref b23), .val (.int (1 : Int32)), .unset, .unset, .unset, .unset, .unset, .unset, .unset, .unset] [(.long (0 : Int64))]))
        refine gob (fun _ k => XS.lload X49.here hx rfl (hb hby at_155) rfl k) ?_
        show Go _ _ _ _ _ _ _ (T49.setTop (mkF m 157 #[.val (.int p0), .val (.long q1), .second, .val (.long q2), .second, .val (.long q3), .second, .val (.int p4), .val (.int x1), .val (.long (9223372036854775807 : Int64)), .second, .val (.long x2), .second, .val (.long v4), .second, .val (.long v13), .second, .val (.long r21), .second, .val (.long r22), .second, .val (.ref b23), .val (.int (1 : Int32)), .unset, .unset, .unset, .unset, .unset, .unset, .unset, .unset] [(.long r21), (.long (0 : Int64))]))
        obtain ⟨_, _, ⟨T53, L53, k53, n53⟩, -, X53, ⟨Lc53, hQ53, l53, y53, z53⟩, st53⟩ := Jvm.LawKit.callS X49 hx (y := (⟨"java/lang/Math", "min", "(JJ)J"⟩ : MethodName)) hown (mvT hZ (hw _ (List.mem_of_getElem? (i := 22) rfl))) (mvT hZ (hw _ (List.mem_of_getElem? (i := 23) rfl))) (mvT hZ (hw _ (List.mem_of_getElem? (i := 24) rfl))) (mvT hZ (hw _ (List.mem_of_getElem? (i := 25) rfl))) (by decide) (backOf (W := 0) (rm5 l Z a0 hw [] (0 : Int64) r21 T37.heap n0 z48 ) hZ (hw _ (List.mem_of_getElem? (i := 25) rfl)) (hw _ (List.mem_of_getElem? (i := 24) rfl)) (by decide) (by decide)) (g := (mkF m 157 #[.val (.int p0), .val (.long q1), .second, .val (.long q2), .second, .val (.long q3), .second, .val (.int p4), .val (.int x1), .val (.long (9223372036854775807 : Int64)), .second, .val (.long x2), .second, .val (.long v4), .second, .val (.long v13), .second, .val (.long r21), .second, .val (.long r22), .second, .val (.ref b23), .val (.int (1 : Int32)), .unset, .unset, .unset, .unset, .unset, .unset, .unset, .unset] [(.long r21), (.long (0 : Int64))])) rfl (by rw [hml]; rfl) (argsL := [(.long (0 : Int64)), (.long r21)]) (rest := []) (lenOf pd_0 rfl) rfl (by show 2 * 0 + _ ≤ _; exact Nat.le_of_eq rfl) (hb hby at_157) (fun _ _ => ⟨rfl, e49, (by decide : 1 + 0 ≤ _), (by decide : 4 + 0 ≤ _)⟩)
        dsimp only [Pt.U, Pt.locs, Pt.cells, Pt.slots] at X53 l53 y53 z53 st53 hQ53
        subst l53 y53 z53
        obtain ⟨r53, rfl, hr53, Nq53, e53⟩ := hQ53
        have N53 := Fr.app N49 Nq53
        refine gob st53 ?_
        show Go _ _ _ _ _ _ _ (T53.setTop (mkF m 160 #[.val (.int p0), .val (.long q1), .second, .val (.long q2), .second, .val (.long q3), .second, .val (.int p4), .val (.int x1), .val (.long (9223372036854775807 : Int64)), .second, .val (.long x2), .second, .val (.long v4), .second, .val (.long v13), .second, .val (.long r21), .second, .val (.long r22), .second, .val (.ref b23), .val (.int (1 : Int32)), .unset, .unset, .unset, .unset, .unset, .unset, .unset, .unset] [(.long r53)]))
        refine gob (fun _ k => XS.lstore X53.here hx rfl (hb hby at_160) rfl (l' := #[.val (.int p0), .val (.long q1), .second, .val (.long q2), .second, .val (.long q3), .second, .val (.int p4), .val (.int x1), .val (.long (9223372036854775807 : Int64)), .second, .val (.long x2), .second, .val (.long v4), .second, .val (.long v13), .second, .val (.long r21), .second, .val (.long r22), .second, .val (.ref b23), .val (.int (1 : Int32)), .val (.long r53), .second, .unset, .unset, .unset, .unset, .unset, .unset]) rfl k) ?_
        show Go _ _ _ _ _ _ _ (T53.setTop (mkF m 162 #[.val (.int p0), .val (.long q1), .second, .val (.long q2), .second, .val (.long q3), .second, .val (.int p4), .val (.int x1), .val (.long (9223372036854775807 : Int64)), .second, .val (.long x2), .second, .val (.long v4), .second, .val (.long v13), .second, .val (.long r21), .second, .val (.long r22), .second, .val (.ref b23), .val (.int (1 : Int32)), .val (.long r53), .second, .unset, .unset, .unset, .unset, .unset, .unset] []))
        refine gob (fun _ k => XS.lconst X53.here hx rfl (hb hby at_162) k) ?_
        show Go _ _ _ _ _ _ _ (T53.setTop (mkF m 163 #[.val (.int p0), .val (.long q1), .second, .val (.long q2), .second, .val (.long q3), .second, .val (.int p4), .val (.int x1), .val (.long (9223372036854775807 : Int64)), .second, .val (.long x2), .second, .val (.long v4), .second, .val (.long v13), .second, .val (.long r21), .second, .val (.long r22), .second, .val (.ref b23), .val (.int (1 : Int32)), .val (.long r53), .second, .unset, .unset, .unset, .unset, .unset, .unset] [(.long (0 : Int64))]))
        refine gob (fun _ k => XS.lload X53.here hx rfl (hb hby at_163) rfl k) ?_
        show Go _ _ _ _ _ _ _ (T53.setTop (mkF m 165 #[.val (.int p0), .val (.long q1), .second, .val (.long q2), .second, .val (.long q3), .second, .val (.int p4), .val (.int x1), .val (.long (9223372036854775807 : Int64)), .second, .val (.long x2), .second, .val (.long v4), .second, .val (.long v13), .second, .val (.long r21), .second, .val (.long r22), .second, .val (.ref b23), .val (.int (1 : Int32)), .val (.long r53), .second, .unset, .unset, .unset, .unset, .unset, .unset] [(.long r21), (.long (0 : Int64))]))
        obtain ⟨_, _, ⟨T54, L54, k54, n54⟩, -, X54, ⟨Lc54, hQ54, l54, y54, z54⟩, st54⟩ := Jvm.LawKit.callS X53 hx (y := (⟨"java/lang/Math", "max", "(JJ)J"⟩ : MethodName)) hown (mvT hZ (hw _ (List.mem_of_getElem? (i := 26) rfl))) (mvT hZ (hw _ (List.mem_of_getElem? (i := 27) rfl))) (mvT hZ (hw _ (List.mem_of_getElem? (i := 24) rfl))) (mvT hZ (hw _ (List.mem_of_getElem? (i := 28) rfl))) (by decide) (backOf (W := 0) (rm6 l Z a0 hw [] (0 : Int64) r21 T37.heap n0 z48 ) hZ (hw _ (List.mem_of_getElem? (i := 28) rfl)) (hw _ (List.mem_of_getElem? (i := 24) rfl)) (by decide) (by decide)) (g := (mkF m 165 #[.val (.int p0), .val (.long q1), .second, .val (.long q2), .second, .val (.long q3), .second, .val (.int p4), .val (.int x1), .val (.long (9223372036854775807 : Int64)), .second, .val (.long x2), .second, .val (.long v4), .second, .val (.long v13), .second, .val (.long r21), .second, .val (.long r22), .second, .val (.ref b23), .val (.int (1 : Int32)), .val (.long r53), .second, .unset, .unset, .unset, .unset, .unset, .unset] [(.long r21), (.long (0 : Int64))])) rfl (by rw [hml]; rfl) (argsL := [(.long (0 : Int64)), (.long r21)]) (rest := []) (lenOf pd_0 rfl) rfl (by show 2 * 0 + _ ≤ _; exact Nat.le_of_eq rfl) (hb hby at_165) (fun _ _ => ⟨rfl, e53, (by decide : 1 + 0 ≤ _), (by decide : 4 + 0 ≤ _)⟩)
        dsimp only [Pt.U, Pt.locs, Pt.cells, Pt.slots] at X54 l54 y54 z54 st54 hQ54
        subst l54 y54 z54
        obtain ⟨r54, rfl, hr54, Nq54, e54⟩ := hQ54
        have N54 := Fr.app N53 Nq54
        refine gob st54 ?_
        show Go _ _ _ _ _ _ _ (T54.setTop (mkF m 168 #[.val (.int p0), .val (.long q1), .second, .val (.long q2), .second, .val (.long q3), .second, .val (.int p4), .val (.int x1), .val (.long (9223372036854775807 : Int64)), .second, .val (.long x2), .second, .val (.long v4), .second, .val (.long v13), .second, .val (.long r21), .second, .val (.long r22), .second, .val (.ref b23), .val (.int (1 : Int32)), .val (.long r53), .second, .unset, .unset, .unset, .unset, .unset, .unset] [(.long r54)]))
        refine gob (fun _ k => XS.lstore X54.here hx rfl (hb hby at_168) rfl (l' := #[.val (.int p0), .val (.long q1), .second, .val (.long q2), .second, .val (.long q3), .second, .val (.int p4), .val (.int x1), .val (.long (9223372036854775807 : Int64)), .second, .val (.long x2), .second, .val (.long v4), .second, .val (.long v13), .second, .val (.long r21), .second, .val (.long r22), .second, .val (.ref b23), .val (.int (1 : Int32)), .val (.long r53), .second, .val (.long r54), .second, .unset, .unset, .unset, .unset]) rfl k) ?_
        show Go _ _ _ _ _ _ _ (T54.setTop (mkF m 170 #[.val (.int p0), .val (.long q1), .second, .val (.long q2), .second, .val (.long q3), .second, .val (.int p4), .val (.int x1), .val (.long (9223372036854775807 : Int64)), .second, .val (.long x2), .second, .val (.long v4), .second, .val (.long v13), .second, .val (.long r21), .second, .val (.long r22), .second, .val (.ref b23), .val (.int (1 : Int32)), .val (.long r53), .second, .val (.long r54), .second, .unset, .unset, .unset, .unset] []))
        refine gob (fun _ k => XS.iload X54.here hx rfl (hb hby at_170) rfl k) ?_
        show Go _ _ _ _ _ _ _ (T54.setTop (mkF m 172 #[.val (.int p0), .val (.long q1), .second, .val (.long q2), .second, .val (.long q3), .second, .val (.int p4), .val (.int x1), .val (.long (9223372036854775807 : Int64)), .second, .val (.long x2), .second, .val (.long v4), .second, .val (.long v13), .second, .val (.long r21), .second, .val (.long r22), .second, .val (.ref b23), .val (.int (1 : Int32)), .val (.long r53), .second, .val (.long r54), .second, .unset, .unset, .unset, .unset] [(.int x1)]))
        refine gob (fun _ k => XS.iconst X54.here hx rfl (hb hby at_172) k) ?_
        show Go _ _ _ _ _ _ _ (T54.setTop (mkF m 173 #[.val (.int p0), .val (.long q1), .second, .val (.long q2), .second, .val (.long q3), .second, .val (.int p4), .val (.int x1), .val (.long (9223372036854775807 : Int64)), .second, .val (.long x2), .second, .val (.long v4), .second, .val (.long v13), .second, .val (.long r21), .second, .val (.long r22), .second, .val (.ref b23), .val (.int (1 : Int32)), .val (.long r53), .second, .val (.long r54), .second, .unset, .unset, .unset, .unset] [(.int (2 : Int32)), (.int x1)]))
        by_cases hc173_55 : x1 < (2 : Int32)
        · skip
          refine gob (fun _ k => XS.icmpYes X54.here hx rfl (pc0 := 173) (pc' := 212) rfl (hb hby at_173) rfl (tlt hc173_55).1 (by decide) (by decide) k) ?_
          show Go _ _ _ _ _ _ _ (T54.setTop (mkF m 212 #[.val (.int p0), .val (.long q1), .second, .val (.long q2), .second, .val (.long q3), .second, .val (.int p4), .val (.int x1), .val (.long (9223372036854775807 : Int64)), .second, .val (.long x2), .second, .val (.long v4), .second, .val (.long v13), .second, .val (.long r21), .second, .val (.long r22), .second, .val (.ref b23), .val (.int (1 : Int32)), .val (.long r53), .second, .val (.long r54), .second, .unset, .unset, .unset, .unset] []))
          refine gob (fun _ k => XS.iload X54.here hx rfl (hb hby at_212) rfl k) ?_
          show Go _ _ _ _ _ _ _ (T54.setTop (mkF m 214 #[.val (.int p0), .val (.long q1), .second, .val (.long q2), .second, .val (.long q3), .second, .val (.int p4), .val (.int x1), .val (.long (9223372036854775807 : Int64)), .second, .val (.long x2), .second, .val (.long v4), .second, .val (.long v13), .second, .val (.long r21), .second, .val (.long r22), .second, .val (.ref b23), .val (.int (1 : Int32)), .val (.long r53), .second, .val (.long r54), .second, .unset, .unset, .unset, .unset] [(.int x1)]))
          refine gob (fun _ k => XS.iconst X54.here hx rfl (hb hby at_214) k) ?_
          show Go _ _ _ _ _ _ _ (T54.setTop (mkF m 215 #[.val (.int p0), .val (.long q1), .second, .val (.long q2), .second, .val (.long q3), .second, .val (.int p4), .val (.int x1), .val (.long (9223372036854775807 : Int64)), .second, .val (.long x2), .second, .val (.long v4), .second, .val (.long v13), .second, .val (.long r21), .second, .val (.long r22), .second, .val (.ref b23), .val (.int (1 : Int32)), .val (.long r53), .second, .val (.long r54), .second, .unset, .unset, .unset, .unset] [(.int (3 : Int32)), (.int x1)]))
          have hd57 : x1 < (3 : Int32) := ld_0_215_56 p0 x1 hx1 hc121_30 hc173_55
          refine gob (fun _ k => XS.icmpYes X54.here hx rfl (pc0 := 215) (pc' := 272) rfl (hb hby at_215) rfl (tlt hd57).1 (by decide) (by decide) k) ?_
          show Go _ _ _ _ _ _ _ (T54.setTop (mkF m 272 #[.val (.int p0), .val (.long q1), .second, .val (.long q2), .second, .val (.long q3), .second, .val (.int p4), .val (.int x1), .val (.long (9223372036854775807 : Int64)), .second, .val (.long x2), .second, .val (.long v4), .second, .val (.long v13), .second, .val (.long r21), .second, .val (.long r22), .second, .val (.ref b23), .val (.int (1 : Int32)), .val (.long r53), .second, .val (.long r54), .second, .unset, .unset, .unset, .unset] []))
          refine gob (fun _ k => XS.iload X54.here hx rfl (hb hby at_272) rfl k) ?_
          show Go _ _ _ _ _ _ _ (T54.setTop (mkF m 274 #[.val (.int p0), .val (.long q1), .second, .val (.long q2), .second, .val (.long q3), .second, .val (.int p4), .val (.int x1), .val (.long (9223372036854775807 : Int64)), .second, .val (.long x2), .second, .val (.long v4), .second, .val (.long v13), .second, .val (.long r21), .second, .val (.long r22), .second, .val (.ref b23), .val (.int (1 : Int32)), .val (.long r53), .second, .val (.long r54), .second, .unset, .unset, .unset, .unset] [(.int (1 : Int32))]))
          refine goZ X54 hx hlk (t := .boolean) Bd.returns (by simp) (hb hby at_274) (z' := (1 : Int32)) rfl ?_ (by decide) (by decide)
          show Q0 Z p0 q1 q2 q3 p4 h0 n0 (some (.int (1 : Int32))) T54.heap _
          exact ⟨rfl, N54⟩
        · skip
          refine gob (fun _ k => XS.icmpNo X54.here hx rfl (hb hby at_173) rfl (flt hc173_55).1 k) ?_
          show Go _ _ _ _ _ _ _ (T54.setTop (mkF m 176 #[.val (.int p0), .val (.long q1), .second, .val (.long q2), .second, .val (.long q3), .second, .val (.int p4), .val (.int x1), .val (.long (9223372036854775807 : Int64)), .second, .val (.long x2), .second, .val (.long v4), .second, .val (.long v13), .second, .val (.long r21), .second, .val (.long r22), .second, .val (.ref b23), .val (.int (1 : Int32)), .val (.long r53), .second, .val (.long r54), .second, .unset, .unset, .unset, .unset] []))
          refine gob (fun _ k => XS.aload X54.here hx rfl (hb hby at_176) rfl rfl k) ?_
          show Go _ _ _ _ _ _ _ (T54.setTop (mkF m 178 #[.val (.int p0), .val (.long q1), .second, .val (.long q2), .second, .val (.long q3), .second, .val (.int p4), .val (.int x1), .val (.long (9223372036854775807 : Int64)), .second, .val (.long x2), .second, .val (.long v4), .second, .val (.long v13), .second, .val (.long r21), .second, .val (.long r22), .second, .val (.ref b23), .val (.int (1 : Int32)), .val (.long r53), .second, .val (.long r54), .second, .unset, .unset, .unset, .unset] [(.ref b23)]))
          refine gob (fun _ k => XS.lload X54.here hx rfl (hb hby at_178) rfl k) ?_
          show Go _ _ _ _ _ _ _ (T54.setTop (mkF m 180 #[.val (.int p0), .val (.long q1), .second, .val (.long q2), .second, .val (.long q3), .second, .val (.int p4), .val (.int x1), .val (.long (9223372036854775807 : Int64)), .second, .val (.long x2), .second, .val (.long v4), .second, .val (.long v13), .second, .val (.long r21), .second, .val (.long r22), .second, .val (.ref b23), .val (.int (1 : Int32)), .val (.long r53), .second, .val (.long r54), .second, .unset, .unset, .unset, .unset] [(.long v4), (.ref b23)]))
          obtain ⟨cq58, kq58, q58a, q58b, q58c⟩ := isOf hZ e54 c50
          obtain ⟨_, _, ⟨T58, L58, k58, n58⟩, -, X58, ⟨Lc58, hQ58, l58, y58, z58⟩, st58⟩ := X54.virtualBack hx (y := (⟨"com/example/flomem/flomem/replay/Timeline", "place", "(J)J"⟩ : MethodName)) (z := (⟨"com/example/flomem/flomem/replay/Timeline", "place", "(J)J"⟩ : MethodName)) hown (mvT hZ (hw _ (List.mem_of_getElem? (i := 30) rfl))) (mvT hZ (hw _ (List.mem_of_getElem? (i := 31) rfl))) (notFace_of_selects (args := #[]) (mvT hZ (hw _ (List.mem_of_getElem? (i := 33) rfl)))) (mvT hZ (hw _ (List.mem_of_getElem? (i := 33) rfl))) (mvT hZ (hw _ (List.mem_of_getElem? (i := 32) rfl))) (by decide) (backOf (W := 0) (rm7b l Z a0 hw [] b23 v4 x2 r39 r40 T37.heap n0 z48 F41 F42 F43 F44 c50 g24) hZ (hw _ (List.mem_of_getElem? (i := 34) rfl)) (hw _ (List.mem_of_getElem? (i := 8) rfl)) (by decide) (by decide)) q58a q58c (g := (mkF m 180 #[.val (.int p0), .val (.long q1), .second, .val (.long q2), .second, .val (.long q3), .second, .val (.int p4), .val (.int x1), .val (.long (9223372036854775807 : Int64)), .second, .val (.long x2), .second, .val (.long v4), .second, .val (.long v13), .second, .val (.long r21), .second, .val (.long r22), .second, .val (.ref b23), .val (.int (1 : Int32)), .val (.long r53), .second, .val (.long r54), .second, .unset, .unset, .unset, .unset] [(.long v4), (.ref b23)])) rfl (by rw [hml]; rfl) (Steps.refl _) (argsL := [(.long v4)]) (rest := []) (lenOf pd_1 rfl) rfl (by show 2 * 0 + _ ≤ _; exact Nat.le_of_eq rfl) (hb hby at_180) (fun _ _ => ⟨rfl, e54, (by decide : 1 + 0 ≤ _), (by decide : 4 + 0 ≤ _)⟩)
          dsimp only [Pt.U, Pt.locs, Pt.cells, Pt.slots] at X58 l58 y58 z58 st58 hQ58
          subst l58 y58 z58
          obtain ⟨r59, r60, r61, rfl, Nq58, K58, F62, F63, F64, F65, hi66, hi67, hi68⟩ := hQ58
          have N58 := Fr.app N54 Nq58
          have z69 : n0 ≤ T58.heap.size := Nat.le_trans z48 K58.1
          refine gob (fun _ k => st58.trans k) ?_
          show Go _ _ _ _ _ _ _ (T58.setTop (mkF m 183 #[.val (.int p0), .val (.long q1), .second, .val (.long q2), .second, .val (.long q3), .second, .val (.int p4), .val (.int x1), .val (.long (9223372036854775807 : Int64)), .second, .val (.long x2), .second, .val (.long v4), .second, .val (.long v13), .second, .val (.long r21), .second, .val (.long r22), .second, .val (.ref b23), .val (.int (1 : Int32)), .val (.long r53), .second, .val (.long r54), .second, .unset, .unset, .unset, .unset] [(.long r59)]))
          refine gob (fun _ k => pop2L X58 hx rfl (hb hby at_183) rfl k) ?_
          show Go _ _ _ _ _ _ _ (T58.setTop (mkF m 184 #[.val (.int p0), .val (.long q1), .second, .val (.long q2), .second, .val (.long q3), .second, .val (.int p4), .val (.int x1), .val (.long (9223372036854775807 : Int64)), .second, .val (.long x2), .second, .val (.long v4), .second, .val (.long v13), .second, .val (.long r21), .second, .val (.long r22), .second, .val (.ref b23), .val (.int (1 : Int32)), .val (.long r53), .second, .val (.long r54), .second, .unset, .unset, .unset, .unset] []))
          refine gob (fun _ k => XS.iload X58.here hx rfl (hb hby at_184) rfl k) ?_
          show Go _ _ _ _ _ _ _ (T58.setTop (mkF m 186 #[.val (.int p0), .val (.long q1), .second, .val (.long q2), .second, .val (.long q3), .second, .val (.int p4), .val (.int x1), .val (.long (9223372036854775807 : Int64)), .second, .val (.long x2), .second, .val (.long v4), .second, .val (.long v13), .second, .val (.long r21), .second, .val (.long r22), .second, .val (.ref b23), .val (.int (1 : Int32)), .val (.long r53), .second, .val (.long r54), .second, .unset, .unset, .unset, .unset] [(.int (1 : Int32))]))
          refine gob (fun _ k => XS.ifNo X58.here hx rfl (hb hby at_186) rfl ((if0 _ _).trans (feq (by decide : ¬ ((1 : Int32) = (0 : Int32)))).1) k) ?_
          show Go _ _ _ _ _ _ _ (T58.setTop (mkF m 189 #[.val (.int p0), .val (.long q1), .second, .val (.long q2), .second, .val (.long q3), .second, .val (.int p4), .val (.int x1), .val (.long (9223372036854775807 : Int64)), .second, .val (.long x2), .second, .val (.long v4), .second, .val (.long v13), .second, .val (.long r21), .second, .val (.long r22), .second, .val (.ref b23), .val (.int (1 : Int32)), .val (.long r53), .second, .val (.long r54), .second, .unset, .unset, .unset, .unset] []))
          refine gob (fun _ k => XS.aload X58.here hx rfl (hb hby at_189) rfl rfl k) ?_
          show Go _ _ _ _ _ _ _ (T58.setTop (mkF m 191 #[.val (.int p0), .val (.long q1), .second, .val (.long q2), .second, .val (.long q3), .second, .val (.int p4), .val (.int x1), .val (.long (9223372036854775807 : Int64)), .second, .val (.long x2), .second, .val (.long v4), .second, .val (.long v13), .second, .val (.long r21), .second, .val (.long r22), .second, .val (.ref b23), .val (.int (1 : Int32)), .val (.long r53), .second, .val (.long r54), .second, .unset, .unset, .unset, .unset] [(.ref b23)]))
          have c71 := (c50.keep K58)
          obtain ⟨cq70, kq70, q70a, q70b, q70c⟩ := isOf hZ (rfl : T58.heap = _) c71
          obtain ⟨_, _, ⟨T70, L70, k70, n70⟩, -, X70, ⟨Lc70, hQ70, l70, y70, z70⟩, st70⟩ := X58.virtualBack hx (y := (⟨"com/example/flomem/flomem/replay/Timeline", "windows", "()J"⟩ : MethodName)) (z := (⟨"com/example/flomem/flomem/replay/Timeline", "windows", "()J"⟩ : MethodName)) hown (mvT hZ (hw _ (List.mem_of_getElem? (i := 15) rfl))) (mvT hZ (hw _ (List.mem_of_getElem? (i := 16) rfl))) (notFace_of_selects (args := #[]) (mvT hZ (hw _ (List.mem_of_getElem? (i := 18) rfl)))) (mvT hZ (hw _ (List.mem_of_getElem? (i := 18) rfl))) (mvT hZ (hw _ (List.mem_of_getElem? (i := 17) rfl))) (by decide) (backOf (W := 0) (rm4b l Z a0 hw [] b23 x2 r60 r61 T58.heap n0 z69 F62 F63 F64 F65) hZ (hw _ (List.mem_of_getElem? (i := 19) rfl)) (hw _ (List.mem_of_getElem? (i := 8) rfl)) (by decide) (by decide)) q70a q70c (g := (mkF m 191 #[.val (.int p0), .val (.long q1), .second, .val (.long q2), .second, .val (.long q3), .second, .val (.int p4), .val (.int x1), .val (.long (9223372036854775807 : Int64)), .second, .val (.long x2), .second, .val (.long v4), .second, .val (.long v13), .second, .val (.long r21), .second, .val (.long r22), .second, .val (.ref b23), .val (.int (1 : Int32)), .val (.long r53), .second, .val (.long r54), .second, .unset, .unset, .unset, .unset] [(.ref b23)])) rfl (by rw [hml]; rfl) (Steps.refl _) (argsL := []) (rest := []) (lenOf pd_3 rfl) rfl (by show 2 * 0 + _ ≤ _; exact Nat.le_of_eq rfl) (hb hby at_191) (fun _ _ => ⟨rfl, (rfl : T58.heap = _), (by decide : 1 + 0 ≤ _), (by decide : 4 + 0 ≤ _)⟩)
          dsimp only [Pt.U, Pt.locs, Pt.cells, Pt.slots] at X70 l70 y70 z70 st70 hQ70
          subst l70 y70 z70
          obtain ⟨r70, rfl, hr70, Nq70, e70⟩ := hQ70
          have N70 := Fr.app N58 Nq70
          refine gob (fun _ k => st70.trans k) ?_
          show Go _ _ _ _ _ _ _ (T70.setTop (mkF m 194 #[.val (.int p0), .val (.long q1), .second, .val (.long q2), .second, .val (.long q3), .second, .val (.int p4), .val (.int x1), .val (.long (9223372036854775807 : Int64)), .second, .val (.long x2), .second, .val (.long v4), .second, .val (.long v13), .second, .val (.long r21), .second, .val (.long r22), .second, .val (.ref b23), .val (.int (1 : Int32)), .val (.long r53), .second, .val (.long r54), .second, .unset, .unset, .unset, .unset] [(.long r70)]))
          refine gob (fun _ k => XS.lload X70.here hx rfl (hb hby at_194) rfl k) ?_
          show Go _ _ _ _ _ _ _ (T70.setTop (mkF m 196 #[.val (.int p0), .val (.long q1), .second, .val (.long q2), .second, .val (.long q3), .second, .val (.int p4), .val (.int x1), .val (.long (9223372036854775807 : Int64)), .second, .val (.long x2), .second, .val (.long v4), .second, .val (.long v13), .second, .val (.long r21), .second, .val (.long r22), .second, .val (.ref b23), .val (.int (1 : Int32)), .val (.long r53), .second, .val (.long r54), .second, .unset, .unset, .unset, .unset] [(.long r54), (.long r70)]))
          refine gob (fun _ k => XS.lload X70.here hx rfl (hb hby at_196) rfl k) ?_
          show Go _ _ _ _ _ _ _ (T70.setTop (mkF m 198 #[.val (.int p0), .val (.long q1), .second, .val (.long q2), .second, .val (.long q3), .second, .val (.int p4), .val (.int x1), .val (.long (9223372036854775807 : Int64)), .second, .val (.long x2), .second, .val (.long v4), .second, .val (.long v13), .second, .val (.long r21), .second, .val (.long r22), .second, .val (.ref b23), .val (.int (1 : Int32)), .val (.long r53), .second, .val (.long r54), .second, .unset, .unset, .unset, .unset] [(.long r53), (.long r54), (.long r70)]))
          refine gob (fun _ k => XS.lsub X70.here hx rfl (hb hby at_198) rfl k) ?_
          show Go _ _ _ _ _ _ _ (T70.setTop (mkF m 199 #[.val (.int p0), .val (.long q1), .second, .val (.long q2), .second, .val (.long q3), .second, .val (.int p4), .val (.int x1), .val (.long (9223372036854775807 : Int64)), .second, .val (.long x2), .second, .val (.long v4), .second, .val (.long v13), .second, .val (.long r21), .second, .val (.long r22), .second, .val (.ref b23), .val (.int (1 : Int32)), .val (.long r53), .second, .val (.long r54), .second, .unset, .unset, .unset, .unset] [(.long (r54 - r53)), (.long r70)]))
          refine gob (fun _ k => XS.lconst X70.here hx rfl (hb hby at_199) k) ?_
          show Go _ _ _ _ _ _ _ (T70.setTop (mkF m 200 #[.val (.int p0), .val (.long q1), .second, .val (.long q2), .second, .val (.long q3), .second, .val (.int p4), .val (.int x1), .val (.long (9223372036854775807 : Int64)), .second, .val (.long x2), .second, .val (.long v4), .second, .val (.long v13), .second, .val (.long r21), .second, .val (.long r22), .second, .val (.ref b23), .val (.int (1 : Int32)), .val (.long r53), .second, .val (.long r54), .second, .unset, .unset, .unset, .unset] [(.long (1 : Int64)), (.long (r54 - r53)), (.long r70)]))
          refine gob (fun _ k => XS.ladd X70.here hx rfl (hb hby at_200) rfl k) ?_
          show Go _ _ _ _ _ _ _ (T70.setTop (mkF m 201 #[.val (.int p0), .val (.long q1), .second, .val (.long q2), .second, .val (.long q3), .second, .val (.int p4), .val (.int x1), .val (.long (9223372036854775807 : Int64)), .second, .val (.long x2), .second, .val (.long v4), .second, .val (.long v13), .second, .val (.long r21), .second, .val (.long r22), .second, .val (.ref b23), .val (.int (1 : Int32)), .val (.long r53), .second, .val (.long r54), .second, .unset, .unset, .unset, .unset] [(.long ((r54 - r53) + (1 : Int64))), (.long r70)]))
          refine gob (fun _ k => XS.lcmp X70.here hx rfl (hb hby at_201) rfl k) ?_
          show Go _ _ _ _ _ _ _ (T70.setTop (mkF m 202 #[.val (.int p0), .val (.long q1), .second, .val (.long q2), .second, .val (.long q3), .second, .val (.int p4), .val (.int x1), .val (.long (9223372036854775807 : Int64)), .second, .val (.long x2), .second, .val (.long v4), .second, .val (.long v13), .second, .val (.long r21), .second, .val (.long r22), .second, .val (.ref b23), .val (.int (1 : Int32)), .val (.long r53), .second, .val (.long r54), .second, .unset, .unset, .unset, .unset] [(.int (lcmpW r70 ((r54 - r53) + (1 : Int64))))]))
          have hd73 : r70 = ((r54 - r53) + (1 : Int64)) := ld_0_202_72 q1 q2 p4 x2 v4 r21 r38 r39 r40 r53 r54 r59 r60 r61 r70 hx2 hj11 hr21 hi45 hi46 hi47 hr53 hr54 hi66 hi67 hi68 hr70
          refine gob (fun _ k => XS.ifNo X70.here hx rfl (hb hby at_202) rfl ((if0 _ _).trans (teq ((lw_eq _ _).mpr hd73)).2) k) ?_
          show Go _ _ _ _ _ _ _ (T70.setTop (mkF m 205 #[.val (.int p0), .val (.long q1), .second, .val (.long q2), .second, .val (.long q3), .second, .val (.int p4), .val (.int x1), .val (.long (9223372036854775807 : Int64)), .second, .val (.long x2), .second, .val (.long v4), .second, .val (.long v13), .second, .val (.long r21), .second, .val (.long r22), .second, .val (.ref b23), .val (.int (1 : Int32)), .val (.long r53), .second, .val (.long r54), .second, .unset, .unset, .unset, .unset] []))
          refine gob (fun _ k => XS.iconst X70.here hx rfl (hb hby at_205) k) ?_
          show Go _ _ _ _ _ _ _ (T70.setTop (mkF m 206 #[.val (.int p0), .val (.long q1), .second, .val (.long q2), .second, .val (.long q3), .second, .val (.int p4), .val (.int x1), .val (.long (9223372036854775807 : Int64)), .second, .val (.long x2), .second, .val (.long v4), .second, .val (.long v13), .second, .val (.long r21), .second, .val (.long r22), .second, .val (.ref b23), .val (.int (1 : Int32)), .val (.long r53), .second, .val (.long r54), .second, .unset, .unset, .unset, .unset] [(.int (1 : Int32))]))
          refine gob (fun _ k => XS.goto X70.here hx rfl (pc0 := 206) (pc' := 210) rfl (hb hby at_206) (by decide) (by decide) k) ?_
          show Go _ _ _ _ _ _ _ (T70.setTop (mkF m 210 #[.val (.int p0), .val (.long q1), .second, .val (.long q2), .second, .val (.long q3), .second, .val (.int p4), .val (.int x1), .val (.long (9223372036854775807 : Int64)), .second, .val (.long x2), .second, .val (.long v4), .second, .val (.long v13), .second, .val (.long r21), .second, .val (.long r22), .second, .val (.ref b23), .val (.int (1 : Int32)), .val (.long r53), .second, .val (.long r54), .second, .unset, .unset, .unset, .unset] [(.int (1 : Int32))]))
          refine gob (fun _ k => XS.istore X70.here hx rfl (hb hby at_210) rfl (l' := #[.val (.int p0), .val (.long q1), .second, .val (.long q2), .second, .val (.long q3), .second, .val (.int p4), .val (.int x1), .val (.long (9223372036854775807 : Int64)), .second, .val (.long x2), .second, .val (.long v4), .second, .val (.long v13), .second, .val (.long r21), .second, .val (.long r22), .second, .val (.ref b23), .val (.int (1 : Int32)), .val (.long r53), .second, .val (.long r54), .second, .unset, .unset, .unset, .unset]) rfl k) ?_
          show Go _ _ _ _ _ _ _ (T70.setTop (mkF m 212 #[.val (.int p0), .val (.long q1), .second, .val (.long q2), .second, .val (.long q3), .second, .val (.int p4), .val (.int x1), .val (.long (9223372036854775807 : Int64)), .second, .val (.long x2), .second, .val (.long v4), .second, .val (.long v13), .second, .val (.long r21), .second, .val (.long r22), .second, .val (.ref b23), .val (.int (1 : Int32)), .val (.long r53), .second, .val (.long r54), .second, .unset, .unset, .unset, .unset] []))
          refine gob (fun _ k => XS.iload X70.here hx rfl (hb hby at_212) rfl k) ?_
          show Go _ _ _ _ _ _ _ (T70.setTop (mkF m 214 #[.val (.int p0), .val (.long q1), .second, .val (.long q2), .second, .val (.long q3), .second, .val (.int p4), .val (.int x1), .val (.long (9223372036854775807 : Int64)), .second, .val (.long x2), .second, .val (.long v4), .second, .val (.long v13), .second, .val (.long r21), .second, .val (.long r22), .second, .val (.ref b23), .val (.int (1 : Int32)), .val (.long r53), .second, .val (.long r54), .second, .unset, .unset, .unset, .unset] [(.int x1)]))
          refine gob (fun _ k => XS.iconst X70.here hx rfl (hb hby at_214) k) ?_
          show Go _ _ _ _ _ _ _ (T70.setTop (mkF m 215 #[.val (.int p0), .val (.long q1), .second, .val (.long q2), .second, .val (.long q3), .second, .val (.int p4), .val (.int x1), .val (.long (9223372036854775807 : Int64)), .second, .val (.long x2), .second, .val (.long v4), .second, .val (.long v13), .second, .val (.long r21), .second, .val (.long r22), .second, .val (.ref b23), .val (.int (1 : Int32)), .val (.long r53), .second, .val (.long r54), .second, .unset, .unset, .unset, .unset] [(.int (3 : Int32)), (.int x1)]))
          by_cases hc215_74 : x1 < (3 : Int32)
          · skip
            refine gob (fun _ k => XS.icmpYes X70.here hx rfl (pc0 := 215) (pc' := 272) rfl (hb hby at_215) rfl (tlt hc215_74).1 (by decide) (by decide) k) ?_
            show Go _ _ _ _ _ _ _ (T70.setTop (mkF m 272 #[.val (.int p0), .val (.long q1), .second, .val (.long q2), .second, .val (.long q3), .second, .val (.int p4), .val (.int x1), .val (.long (9223372036854775807 : Int64)), .second, .val (.long x2), .second, .val (.long v4), .second, .val (.long v13), .second, .val (.long r21), .second, .val (.long r22), .second, .val (.ref b23), .val (.int (1 : Int32)), .val (.long r53), .second, .val (.long r54), .second, .unset, .unset, .unset, .unset] []))
            refine gob (fun _ k => XS.iload X70.here hx rfl (hb hby at_272) rfl k) ?_
            show Go _ _ _ _ _ _ _ (T70.setTop (mkF m 274 #[.val (.int p0), .val (.long q1), .second, .val (.long q2), .second, .val (.long q3), .second, .val (.int p4), .val (.int x1), .val (.long (9223372036854775807 : Int64)), .second, .val (.long x2), .second, .val (.long v4), .second, .val (.long v13), .second, .val (.long r21), .second, .val (.long r22), .second, .val (.ref b23), .val (.int (1 : Int32)), .val (.long r53), .second, .val (.long r54), .second, .unset, .unset, .unset, .unset] [(.int (1 : Int32))]))
            refine goZ X70 hx hlk (t := .boolean) Bd.returns (by simp) (hb hby at_274) (z' := (1 : Int32)) rfl ?_ (by decide) (by decide)
            show Q0 Z p0 q1 q2 q3 p4 h0 n0 (some (.int (1 : Int32))) T70.heap _
            exact ⟨rfl, N70⟩
          · skip
            refine gob (fun _ k => XS.icmpNo X70.here hx rfl (hb hby at_215) rfl (flt hc215_74).1 k) ?_
            show Go _ _ _ _ _ _ _ (T70.setTop (mkF m 218 #[.val (.int p0), .val (.long q1), .second, .val (.long q2), .second, .val (.long q3), .second, .val (.int p4), .val (.int x1), .val (.long (9223372036854775807 : Int64)), .second, .val (.long x2), .second, .val (.long v4), .second, .val (.long v13), .second, .val (.long r21), .second, .val (.long r22), .second, .val (.ref b23), .val (.int (1 : Int32)), .val (.long r53), .second, .val (.long r54), .second, .unset, .unset, .unset, .unset] []))
            refine gob (fun _ k => XS.aload X70.here hx rfl (hb hby at_218) rfl rfl k) ?_
            show Go _ _ _ _ _ _ _ (T70.setTop (mkF m 220 #[.val (.int p0), .val (.long q1), .second, .val (.long q2), .second, .val (.long q3), .second, .val (.int p4), .val (.int x1), .val (.long (9223372036854775807 : Int64)), .second, .val (.long x2), .second, .val (.long v4), .second, .val (.long v13), .second, .val (.long r21), .second, .val (.long r22), .second, .val (.ref b23), .val (.int (1 : Int32)), .val (.long r53), .second, .val (.long r54), .second, .unset, .unset, .unset, .unset] [(.ref b23)]))
            refine gob (fun _ k => XS.lload X70.here hx rfl (hb hby at_220) rfl k) ?_
            show Go _ _ _ _ _ _ _ (T70.setTop (mkF m 222 #[.val (.int p0), .val (.long q1), .second, .val (.long q2), .second, .val (.long q3), .second, .val (.int p4), .val (.int x1), .val (.long (9223372036854775807 : Int64)), .second, .val (.long x2), .second, .val (.long v4), .second, .val (.long v13), .second, .val (.long r21), .second, .val (.long r22), .second, .val (.ref b23), .val (.int (1 : Int32)), .val (.long r53), .second, .val (.long r54), .second, .unset, .unset, .unset, .unset] [(.long v13), (.ref b23)]))
            obtain ⟨cq75, kq75, q75a, q75b, q75c⟩ := isOf hZ e70 c71
            obtain ⟨_, _, ⟨T75, L75, k75, n75⟩, -, X75, ⟨Lc75, hQ75, l75, y75, z75⟩, st75⟩ := X70.virtualBack hx (y := (⟨"com/example/flomem/flomem/replay/Timeline", "place", "(J)J"⟩ : MethodName)) (z := (⟨"com/example/flomem/flomem/replay/Timeline", "place", "(J)J"⟩ : MethodName)) hown (mvT hZ (hw _ (List.mem_of_getElem? (i := 30) rfl))) (mvT hZ (hw _ (List.mem_of_getElem? (i := 31) rfl))) (notFace_of_selects (args := #[]) (mvT hZ (hw _ (List.mem_of_getElem? (i := 33) rfl)))) (mvT hZ (hw _ (List.mem_of_getElem? (i := 33) rfl))) (mvT hZ (hw _ (List.mem_of_getElem? (i := 32) rfl))) (by decide) (backOf (W := 0) (rm7b l Z a0 hw [] b23 v13 x2 r60 r61 T58.heap n0 z69 F62 F63 F64 F65 c71 g24) hZ (hw _ (List.mem_of_getElem? (i := 34) rfl)) (hw _ (List.mem_of_getElem? (i := 8) rfl)) (by decide) (by decide)) q75a q75c (g := (mkF m 222 #[.val (.int p0), .val (.long q1), .second, .val (.long q2), .second, .val (.long q3), .second, .val (.int p4), .val (.int x1), .val (.long (9223372036854775807 : Int64)), .second, .val (.long x2), .second, .val (.long v4), .second, .val (.long v13), .second, .val (.long r21), .second, .val (.long r22), .second, .val (.ref b23), .val (.int (1 : Int32)), .val (.long r53), .second, .val (.long r54), .second, .unset, .unset, .unset, .unset] [(.long v13), (.ref b23)])) rfl (by rw [hml]; rfl) (Steps.refl _) (argsL := [(.long v13)]) (rest := []) (lenOf pd_1 rfl) rfl (by show 2 * 0 + _ ≤ _; exact Nat.le_of_eq rfl) (hb hby at_222) (fun _ _ => ⟨rfl, e70, (by decide : 1 + 0 ≤ _), (by decide : 4 + 0 ≤ _)⟩)
            dsimp only [Pt.U, Pt.locs, Pt.cells, Pt.slots] at X75 l75 y75 z75 st75 hQ75
            subst l75 y75 z75
            obtain ⟨r76, r77, r78, rfl, Nq75, K75, F79, F80, F81, F82, hi83, hi84, hi85⟩ := hQ75
            have N75 := Fr.app N70 Nq75
            have z86 : n0 ≤ T75.heap.size := Nat.le_trans z69 K75.1
            refine gob (fun _ k => st75.trans k) ?_
            show Go _ _ _ _ _ _ _ (T75.setTop (mkF m 225 #[.val (.int p0), .val (.long q1), .second, .val (.long q2), .second, .val (.long q3), .second, .val (.int p4), .val (.int x1), .val (.long (9223372036854775807 : Int64)), .second, .val (.long x2), .second, .val (.long v4), .second, .val (.long v13), .second, .val (.long r21), .second, .val (.long r22), .second, .val (.ref b23), .val (.int (1 : Int32)), .val (.long r53), .second, .val (.long r54), .second, .unset, .unset, .unset, .unset] [(.long r76)]))
            refine gob (fun _ k => pop2L X75 hx rfl (hb hby at_225) rfl k) ?_
            show Go _ _ _ _ _ _ _ (T75.setTop (mkF m 226 #[.val (.int p0), .val (.long q1), .second, .val (.long q2), .second, .val (.long q3), .second, .val (.int p4), .val (.int x1), .val (.long (9223372036854775807 : Int64)), .second, .val (.long x2), .second, .val (.long v4), .second, .val (.long v13), .second, .val (.long r21), .second, .val (.long r22), .second, .val (.ref b23), .val (.int (1 : Int32)), .val (.long r53), .second, .val (.long r54), .second, .unset, .unset, .unset, .unset] []))
            refine gob (fun _ k => XS.lload X75.here hx rfl (hb hby at_226) rfl k) ?_
            show Go _ _ _ _ _ _ _ (T75.setTop (mkF m 228 #[.val (.int p0), .val (.long q1), .second, .val (.long q2), .second, .val (.long q3), .second, .val (.int p4), .val (.int x1), .val (.long (9223372036854775807 : Int64)), .second, .val (.long x2), .second, .val (.long v4), .second, .val (.long v13), .second, .val (.long r21), .second, .val (.long r22), .second, .val (.ref b23), .val (.int (1 : Int32)), .val (.long r53), .second, .val (.long r54), .second, .unset, .unset, .unset, .unset] [(.long r53)]))
            refine gob (fun _ k => XS.lload X75.here hx rfl (hb hby at_228) rfl k) ?_
            show Go _ _ _ _ _ _ _ (T75.setTop (mkF m 230 #[.val (.int p0), .val (.long q1), .second, .val (.long q2), .second, .val (.long q3), .second, .val (.int p4), .val (.int x1), .val (.long (9223372036854775807 : Int64)), .second, .val (.long x2), .second, .val (.long v4), .second, .val (.long v13), .second, .val (.long r21), .second, .val (.long r22), .second, .val (.ref b23), .val (.int (1 : Int32)), .val (.long r53), .second, .val (.long r54), .second, .unset, .unset, .unset, .unset] [(.long r22), (.long r53)]))
            obtain ⟨_, _, ⟨T87, L87, k87, n87⟩, -, X87, ⟨Lc87, hQ87, l87, y87, z87⟩, st87⟩ := Jvm.LawKit.callS X75 hx (y := (⟨"java/lang/Math", "min", "(JJ)J"⟩ : MethodName)) hown (mvT hZ (hw _ (List.mem_of_getElem? (i := 22) rfl))) (mvT hZ (hw _ (List.mem_of_getElem? (i := 23) rfl))) (mvT hZ (hw _ (List.mem_of_getElem? (i := 24) rfl))) (mvT hZ (hw _ (List.mem_of_getElem? (i := 25) rfl))) (by decide) (backOf (W := 0) (rm5 l Z a0 hw [] r53 r22 T75.heap n0 z86 ) hZ (hw _ (List.mem_of_getElem? (i := 25) rfl)) (hw _ (List.mem_of_getElem? (i := 24) rfl)) (by decide) (by decide)) (g := (mkF m 230 #[.val (.int p0), .val (.long q1), .second, .val (.long q2), .second, .val (.long q3), .second, .val (.int p4), .val (.int x1), .val (.long (9223372036854775807 : Int64)), .second, .val (.long x2), .second, .val (.long v4), .second, .val (.long v13), .second, .val (.long r21), .second, .val (.long r22), .second, .val (.ref b23), .val (.int (1 : Int32)), .val (.long r53), .second, .val (.long r54), .second, .unset, .unset, .unset, .unset] [(.long r22), (.long r53)])) rfl (by rw [hml]; rfl) (argsL := [(.long r53), (.long r22)]) (rest := []) (lenOf pd_0 rfl) rfl (by show 2 * 0 + _ ≤ _; exact Nat.le_of_eq rfl) (hb hby at_230) (fun _ _ => ⟨rfl, (rfl : T75.heap = _), (by decide : 1 + 0 ≤ _), (by decide : 4 + 0 ≤ _)⟩)
            dsimp only [Pt.U, Pt.locs, Pt.cells, Pt.slots] at X87 l87 y87 z87 st87 hQ87
            subst l87 y87 z87
            obtain ⟨r87, rfl, hr87, Nq87, e87⟩ := hQ87
            have N87 := Fr.app N75 Nq87
            refine gob st87 ?_
            show Go _ _ _ _ _ _ _ (T87.setTop (mkF m 233 #[.val (.int p0), .val (.long q1), .second, .val (.long q2), .second, .val (.long q3), .second, .val (.int p4), .val (.int x1), .val (.long (9223372036854775807 : Int64)), .second, .val (.long x2), .second, .val (.long v4), .second, .val (.long v13), .second, .val (.long r21), .second, .val (.long r22), .second, .val (.ref b23), .val (.int (1 : Int32)), .val (.long r53), .second, .val (.long r54), .second, .unset, .unset, .unset, .unset] [(.long r87)]))
            refine gob (fun _ k => XS.lstore X87.here hx rfl (hb hby at_233) rfl (l' := #[.val (.int p0), .val (.long q1), .second, .val (.long q2), .second, .val (.long q3), .second, .val (.int p4), .val (.int x1), .val (.long (9223372036854775807 : Int64)), .second, .val (.long x2), .second, .val (.long v4), .second, .val (.long v13), .second, .val (.long r21), .second, .val (.long r22), .second, .val (.ref b23), .val (.int (1 : Int32)), .val (.long r53), .second, .val (.long r54), .second, .val (.long r87), .second, .unset, .unset]) rfl k) ?_
            show Go _ _ _ _ _ _ _ (T87.setTop (mkF m 235 #[.val (.int p0), .val (.long q1), .second, .val (.long q2), .second, .val (.long q3), .second, .val (.int p4), .val (.int x1), .val (.long (9223372036854775807 : Int64)), .second, .val (.long x2), .second, .val (.long v4), .second, .val (.long v13), .second, .val (.long r21), .second, .val (.long r22), .second, .val (.ref b23), .val (.int (1 : Int32)), .val (.long r53), .second, .val (.long r54), .second, .val (.long r87), .second, .unset, .unset] []))
            refine gob (fun _ k => XS.lload X87.here hx rfl (hb hby at_235) rfl k) ?_
            show Go _ _ _ _ _ _ _ (T87.setTop (mkF m 237 #[.val (.int p0), .val (.long q1), .second, .val (.long q2), .second, .val (.long q3), .second, .val (.int p4), .val (.int x1), .val (.long (9223372036854775807 : Int64)), .second, .val (.long x2), .second, .val (.long v4), .second, .val (.long v13), .second, .val (.long r21), .second, .val (.long r22), .second, .val (.ref b23), .val (.int (1 : Int32)), .val (.long r53), .second, .val (.long r54), .second, .val (.long r87), .second, .unset, .unset] [(.long r54)]))
            refine gob (fun _ k => XS.lload X87.here hx rfl (hb hby at_237) rfl k) ?_
            show Go _ _ _ _ _ _ _ (T87.setTop (mkF m 239 #[.val (.int p0), .val (.long q1), .second, .val (.long q2), .second, .val (.long q3), .second, .val (.int p4), .val (.int x1), .val (.long (9223372036854775807 : Int64)), .second, .val (.long x2), .second, .val (.long v4), .second, .val (.long v13), .second, .val (.long r21), .second, .val (.long r22), .second, .val (.ref b23), .val (.int (1 : Int32)), .val (.long r53), .second, .val (.long r54), .second, .val (.long r87), .second, .unset, .unset] [(.long r22), (.long r54)]))
            obtain ⟨_, _, ⟨T88, L88, k88, n88⟩, -, X88, ⟨Lc88, hQ88, l88, y88, z88⟩, st88⟩ := Jvm.LawKit.callS X87 hx (y := (⟨"java/lang/Math", "max", "(JJ)J"⟩ : MethodName)) hown (mvT hZ (hw _ (List.mem_of_getElem? (i := 26) rfl))) (mvT hZ (hw _ (List.mem_of_getElem? (i := 27) rfl))) (mvT hZ (hw _ (List.mem_of_getElem? (i := 24) rfl))) (mvT hZ (hw _ (List.mem_of_getElem? (i := 28) rfl))) (by decide) (backOf (W := 0) (rm6 l Z a0 hw [] r54 r22 T75.heap n0 z86 ) hZ (hw _ (List.mem_of_getElem? (i := 28) rfl)) (hw _ (List.mem_of_getElem? (i := 24) rfl)) (by decide) (by decide)) (g := (mkF m 239 #[.val (.int p0), .val (.long q1), .second, .val (.long q2), .second, .val (.long q3), .second, .val (.int p4), .val (.int x1), .val (.long (9223372036854775807 : Int64)), .second, .val (.long x2), .second, .val (.long v4), .second, .val (.long v13), .second, .val (.long r21), .second, .val (.long r22), .second, .val (.ref b23), .val (.int (1 : Int32)), .val (.long r53), .second, .val (.long r54), .second, .val (.long r87), .second, .unset, .unset] [(.long r22), (.long r54)])) rfl (by rw [hml]; rfl) (argsL := [(.long r54), (.long r22)]) (rest := []) (lenOf pd_0 rfl) rfl (by show 2 * 0 + _ ≤ _; exact Nat.le_of_eq rfl) (hb hby at_239) (fun _ _ => ⟨rfl, e87, (by decide : 1 + 0 ≤ _), (by decide : 4 + 0 ≤ _)⟩)
            dsimp only [Pt.U, Pt.locs, Pt.cells, Pt.slots] at X88 l88 y88 z88 st88 hQ88
            subst l88 y88 z88
            obtain ⟨r88, rfl, hr88, Nq88, e88⟩ := hQ88
            have N88 := Fr.app N87 Nq88
            refine gob st88 ?_
            show Go _ _ _ _ _ _ _ (T88.setTop (mkF m 242 #[.val (.int p0), .val (.long q1), .second, .val (.long q2), .second, .val (.long q3), .second, .val (.int p4), .val (.int x1), .val (.long (9223372036854775807 : Int64)), .second, .val (.long x2), .second, .val (.long v4), .second, .val (.long v13), .second, .val (.long r21), .second, .val (.long r22), .second, .val (.ref b23), .val (.int (1 : Int32)), .val (.long r53), .second, .val (.long r54), .second, .val (.long r87), .second, .unset, .unset] [(.long r88)]))
            refine gob (fun _ k => XS.lstore X88.here hx rfl (hb hby at_242) rfl (l' := #[.val (.int p0), .val (.long q1), .second, .val (.long q2), .second, .val (.long q3), .second, .val (.int p4), .val (.int x1), .val (.long (9223372036854775807 : Int64)), .second, .val (.long x2), .second, .val (.long v4), .second, .val (.long v13), .second, .val (.long r21), .second, .val (.long r22), .second, .val (.ref b23), .val (.int (1 : Int32)), .val (.long r53), .second, .val (.long r54), .second, .val (.long r87), .second, .val (.long r88), .second]) rfl k) ?_
            show Go _ _ _ _ _ _ _ (T88.setTop (mkF m 244 #[.val (.int p0), .val (.long q1), .second, .val (.long q2), .second, .val (.long q3), .second, .val (.int p4), .val (.int x1), .val (.long (9223372036854775807 : Int64)), .second, .val (.long x2), .second, .val (.long v4), .second, .val (.long v13), .second, .val (.long r21), .second, .val (.long r22), .second, .val (.ref b23), .val (.int (1 : Int32)), .val (.long r53), .second, .val (.long r54), .second, .val (.long r87), .second, .val (.long r88), .second] []))
            refine gob (fun _ k => XS.iload X88.here hx rfl (hb hby at_244) rfl k) ?_
            show Go _ _ _ _ _ _ _ (T88.setTop (mkF m 246 #[.val (.int p0), .val (.long q1), .second, .val (.long q2), .second, .val (.long q3), .second, .val (.int p4), .val (.int x1), .val (.long (9223372036854775807 : Int64)), .second, .val (.long x2), .second, .val (.long v4), .second, .val (.long v13), .second, .val (.long r21), .second, .val (.long r22), .second, .val (.ref b23), .val (.int (1 : Int32)), .val (.long r53), .second, .val (.long r54), .second, .val (.long r87), .second, .val (.long r88), .second] [(.int (1 : Int32))]))
            refine gob (fun _ k => XS.ifNo X88.here hx rfl (hb hby at_246) rfl ((if0 _ _).trans (feq (by decide : ¬ ((1 : Int32) = (0 : Int32)))).1) k) ?_
            show Go _ _ _ _ _ _ _ (T88.setTop (mkF m 249 #[.val (.int p0), .val (.long q1), .second, .val (.long q2), .second, .val (.long q3), .second, .val (.int p4), .val (.int x1), .val (.long (9223372036854775807 : Int64)), .second, .val (.long x2), .second, .val (.long v4), .second, .val (.long v13), .second, .val (.long r21), .second, .val (.long r22), .second, .val (.ref b23), .val (.int (1 : Int32)), .val (.long r53), .second, .val (.long r54), .second, .val (.long r87), .second, .val (.long r88), .second] []))
            refine gob (fun _ k => XS.aload X88.here hx rfl (hb hby at_249) rfl rfl k) ?_
            show Go _ _ _ _ _ _ _ (T88.setTop (mkF m 251 #[.val (.int p0), .val (.long q1), .second, .val (.long q2), .second, .val (.long q3), .second, .val (.int p4), .val (.int x1), .val (.long (9223372036854775807 : Int64)), .second, .val (.long x2), .second, .val (.long v4), .second, .val (.long v13), .second, .val (.long r21), .second, .val (.long r22), .second, .val (.ref b23), .val (.int (1 : Int32)), .val (.long r53), .second, .val (.long r54), .second, .val (.long r87), .second, .val (.long r88), .second] [(.ref b23)]))
            have c90 := (c71.keep K75)
            obtain ⟨cq89, kq89, q89a, q89b, q89c⟩ := isOf hZ e88 c90
            obtain ⟨_, _, ⟨T89, L89, k89, n89⟩, -, X89, ⟨Lc89, hQ89, l89, y89, z89⟩, st89⟩ := X88.virtualBack hx (y := (⟨"com/example/flomem/flomem/replay/Timeline", "windows", "()J"⟩ : MethodName)) (z := (⟨"com/example/flomem/flomem/replay/Timeline", "windows", "()J"⟩ : MethodName)) hown (mvT hZ (hw _ (List.mem_of_getElem? (i := 15) rfl))) (mvT hZ (hw _ (List.mem_of_getElem? (i := 16) rfl))) (notFace_of_selects (args := #[]) (mvT hZ (hw _ (List.mem_of_getElem? (i := 18) rfl)))) (mvT hZ (hw _ (List.mem_of_getElem? (i := 18) rfl))) (mvT hZ (hw _ (List.mem_of_getElem? (i := 17) rfl))) (by decide) (backOf (W := 0) (rm4b l Z a0 hw [] b23 x2 r77 r78 T75.heap n0 z86 F79 F80 F81 F82) hZ (hw _ (List.mem_of_getElem? (i := 19) rfl)) (hw _ (List.mem_of_getElem? (i := 8) rfl)) (by decide) (by decide)) q89a q89c (g := (mkF m 251 #[.val (.int p0), .val (.long q1), .second, .val (.long q2), .second, .val (.long q3), .second, .val (.int p4), .val (.int x1), .val (.long (9223372036854775807 : Int64)), .second, .val (.long x2), .second, .val (.long v4), .second, .val (.long v13), .second, .val (.long r21), .second, .val (.long r22), .second, .val (.ref b23), .val (.int (1 : Int32)), .val (.long r53), .second, .val (.long r54), .second, .val (.long r87), .second, .val (.long r88), .second] [(.ref b23)])) rfl (by rw [hml]; rfl) (Steps.refl _) (argsL := []) (rest := []) (lenOf pd_3 rfl) rfl (by show 2 * 0 + _ ≤ _; exact Nat.le_of_eq rfl) (hb hby at_251) (fun _ _ => ⟨rfl, e88, (by decide : 1 + 0 ≤ _), (by decide : 4 + 0 ≤ _)⟩)
            dsimp only [Pt.U, Pt.locs, Pt.cells, Pt.slots] at X89 l89 y89 z89 st89 hQ89
            subst l89 y89 z89
            obtain ⟨r89, rfl, hr89, Nq89, e89⟩ := hQ89
            have N89 := Fr.app N88 Nq89
            refine gob (fun _ k => st89.trans k) ?_
            show Go _ _ _ _ _ _ _ (T89.setTop (mkF m 254 #[.val (.int p0), .val (.long q1), .second, .val (.long q2), .second, .val (.long q3), .second, .val (.int p4), .val (.int x1), .val (.long (9223372036854775807 : Int64)), .second, .val (.long x2), .second, .val (.long v4), .second, .val (.long v13), .second, .val (.long r21), .second, .val (.long r22), .second, .val (.ref b23), .val (.int (1 : Int32)), .val (.long r53), .second, .val (.long r54), .second, .val (.long r87), .second, .val (.long r88), .second] [(.long r89)]))
            refine gob (fun _ k => XS.lload X89.here hx rfl (hb hby at_254) rfl k) ?_
            show Go _ _ _ _ _ _ _ (T89.setTop (mkF m 256 #[.val (.int p0), .val (.long q1), .second, .val (.long q2), .second, .val (.long q3), .second, .val (.int p4), .val (.int x1), .val (.long (9223372036854775807 : Int64)), .second, .val (.long x2), .second, .val (.long v4), .second, .val (.long v13), .second, .val (.long r21), .second, .val (.long r22), .second, .val (.ref b23), .val (.int (1 : Int32)), .val (.long r53), .second, .val (.long r54), .second, .val (.long r87), .second, .val (.long r88), .second] [(.long r88), (.long r89)]))
            refine gob (fun _ k => XS.lload X89.here hx rfl (hb hby at_256) rfl k) ?_
            show Go _ _ _ _ _ _ _ (T89.setTop (mkF m 258 #[.val (.int p0), .val (.long q1), .second, .val (.long q2), .second, .val (.long q3), .second, .val (.int p4), .val (.int x1), .val (.long (9223372036854775807 : Int64)), .second, .val (.long x2), .second, .val (.long v4), .second, .val (.long v13), .second, .val (.long r21), .second, .val (.long r22), .second, .val (.ref b23), .val (.int (1 : Int32)), .val (.long r53), .second, .val (.long r54), .second, .val (.long r87), .second, .val (.long r88), .second] [(.long r87), (.long r88), (.long r89)]))
            refine gob (fun _ k => XS.lsub X89.here hx rfl (hb hby at_258) rfl k) ?_
            show Go _ _ _ _ _ _ _ (T89.setTop (mkF m 259 #[.val (.int p0), .val (.long q1), .second, .val (.long q2), .second, .val (.long q3), .second, .val (.int p4), .val (.int x1), .val (.long (9223372036854775807 : Int64)), .second, .val (.long x2), .second, .val (.long v4), .second, .val (.long v13), .second, .val (.long r21), .second, .val (.long r22), .second, .val (.ref b23), .val (.int (1 : Int32)), .val (.long r53), .second, .val (.long r54), .second, .val (.long r87), .second, .val (.long r88), .second] [(.long (r88 - r87)), (.long r89)]))
            refine gob (fun _ k => XS.lconst X89.here hx rfl (hb hby at_259) k) ?_
            show Go _ _ _ _ _ _ _ (T89.setTop (mkF m 260 #[.val (.int p0), .val (.long q1), .second, .val (.long q2), .second, .val (.long q3), .second, .val (.int p4), .val (.int x1), .val (.long (9223372036854775807 : Int64)), .second, .val (.long x2), .second, .val (.long v4), .second, .val (.long v13), .second, .val (.long r21), .second, .val (.long r22), .second, .val (.ref b23), .val (.int (1 : Int32)), .val (.long r53), .second, .val (.long r54), .second, .val (.long r87), .second, .val (.long r88), .second] [(.long (1 : Int64)), (.long (r88 - r87)), (.long r89)]))
            refine gob (fun _ k => XS.ladd X89.here hx rfl (hb hby at_260) rfl k) ?_
            show Go _ _ _ _ _ _ _ (T89.setTop (mkF m 261 #[.val (.int p0), .val (.long q1), .second, .val (.long q2), .second, .val (.long q3), .second, .val (.int p4), .val (.int x1), .val (.long (9223372036854775807 : Int64)), .second, .val (.long x2), .second, .val (.long v4), .second, .val (.long v13), .second, .val (.long r21), .second, .val (.long r22), .second, .val (.ref b23), .val (.int (1 : Int32)), .val (.long r53), .second, .val (.long r54), .second, .val (.long r87), .second, .val (.long r88), .second] [(.long ((r88 - r87) + (1 : Int64))), (.long r89)]))
            refine gob (fun _ k => XS.lcmp X89.here hx rfl (hb hby at_261) rfl k) ?_
            show Go _ _ _ _ _ _ _ (T89.setTop (mkF m 262 #[.val (.int p0), .val (.long q1), .second, .val (.long q2), .second, .val (.long q3), .second, .val (.int p4), .val (.int x1), .val (.long (9223372036854775807 : Int64)), .second, .val (.long x2), .second, .val (.long v4), .second, .val (.long v13), .second, .val (.long r21), .second, .val (.long r22), .second, .val (.ref b23), .val (.int (1 : Int32)), .val (.long r53), .second, .val (.long r54), .second, .val (.long r87), .second, .val (.long r88), .second] [(.int (lcmpW r89 ((r88 - r87) + (1 : Int64))))]))
            have hd92 : r89 = ((r88 - r87) + (1 : Int64)) := ld_0_262_91 q1 q2 q3 p4 x2 v4 v13 r21 r22 r38 r39 r40 r53 r54 r59 r60 r61 r76 r77 r78 r87 r88 r89 hx2 hj11 hj20 hr21 hr22 hi45 hi46 hi47 hr53 hr54 hi66 hi67 hi68 hi83 hi84 hi85 hr87 hr88 hr89
            refine gob (fun _ k => XS.ifNo X89.here hx rfl (hb hby at_262) rfl ((if0 _ _).trans (teq ((lw_eq _ _).mpr hd92)).2) k) ?_
            show Go _ _ _ _ _ _ _ (T89.setTop (mkF m 265 #[.val (.int p0), .val (.long q1), .second, .val (.long q2), .second, .val (.long q3), .second, .val (.int p4), .val (.int x1), .val (.long (9223372036854775807 : Int64)), .second, .val (.long x2), .second, .val (.long v4), .second, .val (.long v13), .second, .val (.long r21), .second, .val (.long r22), .second, .val (.ref b23), .val (.int (1 : Int32)), .val (.long r53), .second, .val (.long r54), .second, .val (.long r87), .second, .val (.long r88), .second] []))
            refine gob (fun _ k => XS.iconst X89.here hx rfl (hb hby at_265) k) ?_
            show Go _ _ _ _ _ _ _ (T89.setTop (mkF m 266 #[.val (.int p0), .val (.long q1), .second, .val (.long q2), .second, .val (.long q3), .second, .val (.int p4), .val (.int x1), .val (.long (9223372036854775807 : Int64)), .second, .val (.long x2), .second, .val (.long v4), .second, .val (.long v13), .second, .val (.long r21), .second, .val (.long r22), .second, .val (.ref b23), .val (.int (1 : Int32)), .val (.long r53), .second, .val (.long r54), .second, .val (.long r87), .second, .val (.long r88), .second] [(.int (1 : Int32))]))
            refine gob (fun _ k => XS.goto X89.here hx rfl (pc0 := 266) (pc' := 270) rfl (hb hby at_266) (by decide) (by decide) k) ?_
            show Go _ _ _ _ _ _ _ (T89.setTop (mkF m 270 #[.val (.int p0), .val (.long q1), .second, .val (.long q2), .second, .val (.long q3), .second, .val (.int p4), .val (.int x1), .val (.long (9223372036854775807 : Int64)), .second, .val (.long x2), .second, .val (.long v4), .second, .val (.long v13), .second, .val (.long r21), .second, .val (.long r22), .second, .val (.ref b23), .val (.int (1 : Int32)), .val (.long r53), .second, .val (.long r54), .second, .val (.long r87), .second, .val (.long r88), .second] [(.int (1 : Int32))]))
            refine gob (fun _ k => XS.istore X89.here hx rfl (hb hby at_270) rfl (l' := #[.val (.int p0), .val (.long q1), .second, .val (.long q2), .second, .val (.long q3), .second, .val (.int p4), .val (.int x1), .val (.long (9223372036854775807 : Int64)), .second, .val (.long x2), .second, .val (.long v4), .second, .val (.long v13), .second, .val (.long r21), .second, .val (.long r22), .second, .val (.ref b23), .val (.int (1 : Int32)), .val (.long r53), .second, .val (.long r54), .second, .val (.long r87), .second, .val (.long r88), .second]) rfl k) ?_
            show Go _ _ _ _ _ _ _ (T89.setTop (mkF m 272 #[.val (.int p0), .val (.long q1), .second, .val (.long q2), .second, .val (.long q3), .second, .val (.int p4), .val (.int x1), .val (.long (9223372036854775807 : Int64)), .second, .val (.long x2), .second, .val (.long v4), .second, .val (.long v13), .second, .val (.long r21), .second, .val (.long r22), .second, .val (.ref b23), .val (.int (1 : Int32)), .val (.long r53), .second, .val (.long r54), .second, .val (.long r87), .second, .val (.long r88), .second] []))
            refine gob (fun _ k => XS.iload X89.here hx rfl (hb hby at_272) rfl k) ?_
            show Go _ _ _ _ _ _ _ (T89.setTop (mkF m 274 #[.val (.int p0), .val (.long q1), .second, .val (.long q2), .second, .val (.long q3), .second, .val (.int p4), .val (.int x1), .val (.long (9223372036854775807 : Int64)), .second, .val (.long x2), .second, .val (.long v4), .second, .val (.long v13), .second, .val (.long r21), .second, .val (.long r22), .second, .val (.ref b23), .val (.int (1 : Int32)), .val (.long r53), .second, .val (.long r54), .second, .val (.long r87), .second, .val (.long r88), .second] [(.int (1 : Int32))]))
            refine goZ X89 hx hlk (t := .boolean) Bd.returns (by simp) (hb hby at_274) (z' := (1 : Int32)) rfl ?_ (by decide) (by decide)
            show Q0 Z p0 q1 q2 q3 p4 h0 n0 (some (.int (1 : Int32))) T89.heap _
            exact ⟨rfl, N89⟩
    by_cases hc47_93 : (p4 &&& (2 : Int32)) = (0 : Int32)
    · skip
      refine gob (fun _ k => XS.ifYes X8.here hx rfl (pc0 := 47) (pc' := 58) rfl (hb hby at_47) rfl ((if0 _ _).trans (teq hc47_93).1) (by decide) (by decide) k) ?_
      show Go _ _ _ _ _ _ _ (T6.setTop (mkF m 58 #[.val (.int p0), .val (.long q1), .second, .val (.long q2), .second, .val (.long q3), .second, .val (.int p4), .val (.int x1), .val (.long (9223372036854775807 : Int64)), .second, .val (.long x2), .second, .val (.long v4), .second, .unset, .unset, .unset, .unset, .unset, .unset, .unset, .unset, .unset, .unset, .unset, .unset, .unset, .unset, .unset, .unset] []))
      refine gob (fun _ k => XS.lload X8.here hx rfl (hb hby at_58) rfl k) ?_
      show Go _ _ _ _ _ _ _ (T6.setTop (mkF m 60 #[.val (.int p0), .val (.long q1), .second, .val (.long q2), .second, .val (.long q3), .second, .val (.int p4), .val (.int x1), .val (.long (9223372036854775807 : Int64)), .second, .val (.long x2), .second, .val (.long v4), .second, .unset, .unset, .unset, .unset, .unset, .unset, .unset, .unset, .unset, .unset, .unset, .unset, .unset, .unset, .unset, .unset] [(.long x2)]))
      refine gob (fun _ k => XS.lload X8.here hx rfl (hb hby at_60) rfl k) ?_
      show Go _ _ _ _ _ _ _ (T6.setTop (mkF m 62 #[.val (.int p0), .val (.long q1), .second, .val (.long q2), .second, .val (.long q3), .second, .val (.int p4), .val (.int x1), .val (.long (9223372036854775807 : Int64)), .second, .val (.long x2), .second, .val (.long v4), .second, .unset, .unset, .unset, .unset, .unset, .unset, .unset, .unset, .unset, .unset, .unset, .unset, .unset, .unset, .unset, .unset] [(.long q3), (.long x2)]))
      refine gob (X8.ldc2Long hx hown (mvT hZ (hw _ (List.mem_of_getElem? (i := 29) rfl))) (g := (mkF m 62 #[.val (.int p0), .val (.long q1), .second, .val (.long q2), .second, .val (.long q3), .second, .val (.int p4), .val (.int x1), .val (.long (9223372036854775807 : Int64)), .second, .val (.long x2), .second, .val (.long v4), .second, .unset, .unset, .unset, .unset, .unset, .unset, .unset, .unset, .unset, .unset, .unset, .unset, .unset, .unset, .unset, .unset] [(.long q3), (.long x2)])) rfl (hb hby at_62)) ?_
      show Go _ _ _ _ _ _ _ (T6.setTop (mkF m 65 #[.val (.int p0), .val (.long q1), .second, .val (.long q2), .second, .val (.long q3), .second, .val (.int p4), .val (.int x1), .val (.long (9223372036854775807 : Int64)), .second, .val (.long x2), .second, .val (.long v4), .second, .unset, .unset, .unset, .unset, .unset, .unset, .unset, .unset, .unset, .unset, .unset, .unset, .unset, .unset, .unset, .unset] [(.long (1000000 : Int64)), (.long q3), (.long x2)]))
      refine gob (fun _ k => lremM X8 hx rfl (hb hby at_65) rfl (by decide) k) ?_
      show Go _ _ _ _ _ _ _ (T6.setTop (mkF m 66 #[.val (.int p0), .val (.long q1), .second, .val (.long q2), .second, .val (.long q3), .second, .val (.int p4), .val (.int x1), .val (.long (9223372036854775807 : Int64)), .second, .val (.long x2), .second, .val (.long v4), .second, .unset, .unset, .unset, .unset, .unset, .unset, .unset, .unset, .unset, .unset, .unset, .unset, .unset, .unset, .unset, .unset] [(.long (q3 % (1000000 : Int64))), (.long x2)]))
      refine gob (fun _ k => XS.ladd X8.here hx rfl (hb hby at_66) rfl k) ?_
      show Go _ _ _ _ _ _ _ (T6.setTop (mkF m 67 #[.val (.int p0), .val (.long q1), .second, .val (.long q2), .second, .val (.long q3), .second, .val (.int p4), .val (.int x1), .val (.long (9223372036854775807 : Int64)), .second, .val (.long x2), .second, .val (.long v4), .second, .unset, .unset, .unset, .unset, .unset, .unset, .unset, .unset, .unset, .unset, .unset, .unset, .unset, .unset, .unset, .unset] [(.long (x2 + (q3 % (1000000 : Int64))))]))
      refine gob (fun _ k => XS.lload X8.here hx rfl (hb hby at_67) rfl k) ?_
      show Go _ _ _ _ _ _ _ (T6.setTop (mkF m 69 #[.val (.int p0), .val (.long q1), .second, .val (.long q2), .second, .val (.long q3), .second, .val (.int p4), .val (.int x1), .val (.long (9223372036854775807 : Int64)), .second, .val (.long x2), .second, .val (.long v4), .second, .unset, .unset, .unset, .unset, .unset, .unset, .unset, .unset, .unset, .unset, .unset, .unset, .unset, .unset, .unset, .unset] [(.long (9223372036854775807 : Int64)), (.long (x2 + (q3 % (1000000 : Int64))))]))
      refine gob (fun _ k => XS.land X8.here hx rfl (hb hby at_69) rfl k) ?_
      show Go _ _ _ _ _ _ _ (T6.setTop (mkF m 70 #[.val (.int p0), .val (.long q1), .second, .val (.long q2), .second, .val (.long q3), .second, .val (.int p4), .val (.int x1), .val (.long (9223372036854775807 : Int64)), .second, .val (.long x2), .second, .val (.long v4), .second, .unset, .unset, .unset, .unset, .unset, .unset, .unset, .unset, .unset, .unset, .unset, .unset, .unset, .unset, .unset, .unset] [(.long ((x2 + (q3 % (1000000 : Int64))) &&& (9223372036854775807 : Int64)))]))
      exact join70_14 _ _ (((x2 + (q3 % (1000000 : Int64))) &&& (9223372036854775807 : Int64))) X8 e9 N10 (Or.inl ⟨hc47_93, rfl⟩)
    · skip
      refine gob (fun _ k => XS.ifNo X8.here hx rfl (hb hby at_47) rfl ((if0 _ _).trans (feq hc47_93).1) k) ?_
      show Go _ _ _ _ _ _ _ (T6.setTop (mkF m 50 #[.val (.int p0), .val (.long q1), .second, .val (.long q2), .second, .val (.long q3), .second, .val (.int p4), .val (.int x1), .val (.long (9223372036854775807 : Int64)), .second, .val (.long x2), .second, .val (.long v4), .second, .unset, .unset, .unset, .unset, .unset, .unset, .unset, .unset, .unset, .unset, .unset, .unset, .unset, .unset, .unset, .unset] []))
      refine gob (fun _ k => XS.lload X8.here hx rfl (hb hby at_50) rfl k) ?_
      show Go _ _ _ _ _ _ _ (T6.setTop (mkF m 52 #[.val (.int p0), .val (.long q1), .second, .val (.long q2), .second, .val (.long q3), .second, .val (.int p4), .val (.int x1), .val (.long (9223372036854775807 : Int64)), .second, .val (.long x2), .second, .val (.long v4), .second, .unset, .unset, .unset, .unset, .unset, .unset, .unset, .unset, .unset, .unset, .unset, .unset, .unset, .unset, .unset, .unset] [(.long q3)]))
      refine gob (fun _ k => XS.lload X8.here hx rfl (hb hby at_52) rfl k) ?_
      show Go _ _ _ _ _ _ _ (T6.setTop (mkF m 54 #[.val (.int p0), .val (.long q1), .second, .val (.long q2), .second, .val (.long q3), .second, .val (.int p4), .val (.int x1), .val (.long (9223372036854775807 : Int64)), .second, .val (.long x2), .second, .val (.long v4), .second, .unset, .unset, .unset, .unset, .unset, .unset, .unset, .unset, .unset, .unset, .unset, .unset, .unset, .unset, .unset, .unset] [(.long (9223372036854775807 : Int64)), (.long q3)]))
      refine gob (fun _ k => XS.land X8.here hx rfl (hb hby at_54) rfl k) ?_
      show Go _ _ _ _ _ _ _ (T6.setTop (mkF m 55 #[.val (.int p0), .val (.long q1), .second, .val (.long q2), .second, .val (.long q3), .second, .val (.int p4), .val (.int x1), .val (.long (9223372036854775807 : Int64)), .second, .val (.long x2), .second, .val (.long v4), .second, .unset, .unset, .unset, .unset, .unset, .unset, .unset, .unset, .unset, .unset, .unset, .unset, .unset, .unset, .unset, .unset] [(.long (q3 &&& (9223372036854775807 : Int64)))]))
      refine gob (fun _ k => XS.goto X8.here hx rfl (pc0 := 55) (pc' := 70) rfl (hb hby at_55) (by decide) (by decide) k) ?_
      show Go _ _ _ _ _ _ _ (T6.setTop (mkF m 70 #[.val (.int p0), .val (.long q1), .second, .val (.long q2), .second, .val (.long q3), .second, .val (.int p4), .val (.int x1), .val (.long (9223372036854775807 : Int64)), .second, .val (.long x2), .second, .val (.long v4), .second, .unset, .unset, .unset, .unset, .unset, .unset, .unset, .unset, .unset, .unset, .unset, .unset, .unset, .unset, .unset, .unset] [(.long (q3 &&& (9223372036854775807 : Int64)))]))
      exact join70_14 _ _ ((q3 &&& (9223372036854775807 : Int64))) X8 e9 N10 (Or.inr ⟨hc47_93, rfl⟩)
  by_cases hc20_94 : (p4 &&& (1 : Int32)) = (0 : Int32)
  · skip
    refine gob (fun _ k => XS.ifYes X0.here hx rfl (pc0 := 20) (pc' := 30) rfl (hb hby at_20) rfl ((if0 _ _).trans (teq hc20_94).1) (by decide) (by decide) k) ?_
    show Go _ _ _ _ _ _ _ (s₁.setTop (mkF m 30 #[.val (.int p0), .val (.long q1), .second, .val (.long q2), .second, .val (.long q3), .second, .val (.int p4), .val (.int x1), .val (.long (9223372036854775807 : Int64)), .second, .val (.long x2), .second, .unset, .unset, .unset, .unset, .unset, .unset, .unset, .unset, .unset, .unset, .unset, .unset, .unset, .unset, .unset, .unset, .unset, .unset] []))
    refine gob (fun _ k => XS.lload X0.here hx rfl (hb hby at_30) rfl k) ?_
    show Go _ _ _ _ _ _ _ (s₁.setTop (mkF m 32 #[.val (.int p0), .val (.long q1), .second, .val (.long q2), .second, .val (.long q3), .second, .val (.int p4), .val (.int x1), .val (.long (9223372036854775807 : Int64)), .second, .val (.long x2), .second, .unset, .unset, .unset, .unset, .unset, .unset, .unset, .unset, .unset, .unset, .unset, .unset, .unset, .unset, .unset, .unset, .unset, .unset] [(.long x2)]))
    refine gob (fun _ k => XS.lloadN X0.here hx rfl (hb hby at_32) rfl k) ?_
    show Go _ _ _ _ _ _ _ (s₁.setTop (mkF m 33 #[.val (.int p0), .val (.long q1), .second, .val (.long q2), .second, .val (.long q3), .second, .val (.int p4), .val (.int x1), .val (.long (9223372036854775807 : Int64)), .second, .val (.long x2), .second, .unset, .unset, .unset, .unset, .unset, .unset, .unset, .unset, .unset, .unset, .unset, .unset, .unset, .unset, .unset, .unset, .unset, .unset] [(.long q2), (.long x2)]))
    refine gob (X0.ldc2Long hx hown (mvT hZ (hw _ (List.mem_of_getElem? (i := 29) rfl))) (g := (mkF m 33 #[.val (.int p0), .val (.long q1), .second, .val (.long q2), .second, .val (.long q3), .second, .val (.int p4), .val (.int x1), .val (.long (9223372036854775807 : Int64)), .second, .val (.long x2), .second, .unset, .unset, .unset, .unset, .unset, .unset, .unset, .unset, .unset, .unset, .unset, .unset, .unset, .unset, .unset, .unset, .unset, .unset] [(.long q2), (.long x2)])) rfl (hb hby at_33)) ?_
    show Go _ _ _ _ _ _ _ (s₁.setTop (mkF m 36 #[.val (.int p0), .val (.long q1), .second, .val (.long q2), .second, .val (.long q3), .second, .val (.int p4), .val (.int x1), .val (.long (9223372036854775807 : Int64)), .second, .val (.long x2), .second, .unset, .unset, .unset, .unset, .unset, .unset, .unset, .unset, .unset, .unset, .unset, .unset, .unset, .unset, .unset, .unset, .unset, .unset] [(.long (1000000 : Int64)), (.long q2), (.long x2)]))
    refine gob (fun _ k => lremM X0 hx rfl (hb hby at_36) rfl (by decide) k) ?_
    show Go _ _ _ _ _ _ _ (s₁.setTop (mkF m 37 #[.val (.int p0), .val (.long q1), .second, .val (.long q2), .second, .val (.long q3), .second, .val (.int p4), .val (.int x1), .val (.long (9223372036854775807 : Int64)), .second, .val (.long x2), .second, .unset, .unset, .unset, .unset, .unset, .unset, .unset, .unset, .unset, .unset, .unset, .unset, .unset, .unset, .unset, .unset, .unset, .unset] [(.long (q2 % (1000000 : Int64))), (.long x2)]))
    refine gob (fun _ k => XS.ladd X0.here hx rfl (hb hby at_37) rfl k) ?_
    show Go _ _ _ _ _ _ _ (s₁.setTop (mkF m 38 #[.val (.int p0), .val (.long q1), .second, .val (.long q2), .second, .val (.long q3), .second, .val (.int p4), .val (.int x1), .val (.long (9223372036854775807 : Int64)), .second, .val (.long x2), .second, .unset, .unset, .unset, .unset, .unset, .unset, .unset, .unset, .unset, .unset, .unset, .unset, .unset, .unset, .unset, .unset, .unset, .unset] [(.long (x2 + (q2 % (1000000 : Int64))))]))
    refine gob (fun _ k => XS.lload X0.here hx rfl (hb hby at_38) rfl k) ?_
    show Go _ _ _ _ _ _ _ (s₁.setTop (mkF m 40 #[.val (.int p0), .val (.long q1), .second, .val (.long q2), .second, .val (.long q3), .second, .val (.int p4), .val (.int x1), .val (.long (9223372036854775807 : Int64)), .second, .val (.long x2), .second, .unset, .unset, .unset, .unset, .unset, .unset, .unset, .unset, .unset, .unset, .unset, .unset, .unset, .unset, .unset, .unset, .unset, .unset] [(.long (9223372036854775807 : Int64)), (.long (x2 + (q2 % (1000000 : Int64))))]))
    refine gob (fun _ k => XS.land X0.here hx rfl (hb hby at_40) rfl k) ?_
    show Go _ _ _ _ _ _ _ (s₁.setTop (mkF m 41 #[.val (.int p0), .val (.long q1), .second, .val (.long q2), .second, .val (.long q3), .second, .val (.int p4), .val (.int x1), .val (.long (9223372036854775807 : Int64)), .second, .val (.long x2), .second, .unset, .unset, .unset, .unset, .unset, .unset, .unset, .unset, .unset, .unset, .unset, .unset, .unset, .unset, .unset, .unset, .unset, .unset] [(.long ((x2 + (q2 % (1000000 : Int64))) &&& (9223372036854775807 : Int64)))]))
    exact join41_5 _ _ (((x2 + (q2 % (1000000 : Int64))) &&& (9223372036854775807 : Int64))) X0 e0 N0 (Or.inl ⟨hc20_94, rfl⟩)
  · skip
    refine gob (fun _ k => XS.ifNo X0.here hx rfl (hb hby at_20) rfl ((if0 _ _).trans (feq hc20_94).1) k) ?_
    show Go _ _ _ _ _ _ _ (s₁.setTop (mkF m 23 #[.val (.int p0), .val (.long q1), .second, .val (.long q2), .second, .val (.long q3), .second, .val (.int p4), .val (.int x1), .val (.long (9223372036854775807 : Int64)), .second, .val (.long x2), .second, .unset, .unset, .unset, .unset, .unset, .unset, .unset, .unset, .unset, .unset, .unset, .unset, .unset, .unset, .unset, .unset, .unset, .unset] []))
    refine gob (fun _ k => XS.lloadN X0.here hx rfl (hb hby at_23) rfl k) ?_
    show Go _ _ _ _ _ _ _ (s₁.setTop (mkF m 24 #[.val (.int p0), .val (.long q1), .second, .val (.long q2), .second, .val (.long q3), .second, .val (.int p4), .val (.int x1), .val (.long (9223372036854775807 : Int64)), .second, .val (.long x2), .second, .unset, .unset, .unset, .unset, .unset, .unset, .unset, .unset, .unset, .unset, .unset, .unset, .unset, .unset, .unset, .unset, .unset, .unset] [(.long q2)]))
    refine gob (fun _ k => XS.lload X0.here hx rfl (hb hby at_24) rfl k) ?_
    show Go _ _ _ _ _ _ _ (s₁.setTop (mkF m 26 #[.val (.int p0), .val (.long q1), .second, .val (.long q2), .second, .val (.long q3), .second, .val (.int p4), .val (.int x1), .val (.long (9223372036854775807 : Int64)), .second, .val (.long x2), .second, .unset, .unset, .unset, .unset, .unset, .unset, .unset, .unset, .unset, .unset, .unset, .unset, .unset, .unset, .unset, .unset, .unset, .unset] [(.long (9223372036854775807 : Int64)), (.long q2)]))
    refine gob (fun _ k => XS.land X0.here hx rfl (hb hby at_26) rfl k) ?_
    show Go _ _ _ _ _ _ _ (s₁.setTop (mkF m 27 #[.val (.int p0), .val (.long q1), .second, .val (.long q2), .second, .val (.long q3), .second, .val (.int p4), .val (.int x1), .val (.long (9223372036854775807 : Int64)), .second, .val (.long x2), .second, .unset, .unset, .unset, .unset, .unset, .unset, .unset, .unset, .unset, .unset, .unset, .unset, .unset, .unset, .unset, .unset, .unset, .unset] [(.long (q2 &&& (9223372036854775807 : Int64)))]))
    refine gob (fun _ k => XS.goto X0.here hx rfl (pc0 := 27) (pc' := 41) rfl (hb hby at_27) (by decide) (by decide) k) ?_
    show Go _ _ _ _ _ _ _ (s₁.setTop (mkF m 41 #[.val (.int p0), .val (.long q1), .second, .val (.long q2), .second, .val (.long q3), .second, .val (.int p4), .val (.int x1), .val (.long (9223372036854775807 : Int64)), .second, .val (.long x2), .second, .unset, .unset, .unset, .unset, .unset, .unset, .unset, .unset, .unset, .unset, .unset, .unset, .unset, .unset, .unset, .unset, .unset, .unset] [(.long (q2 &&& (9223372036854775807 : Int64)))]))
    exact join41_5 _ _ ((q2 &&& (9223372036854775807 : Int64))) X0 e0 N0 (Or.inr ⟨hc20_94, rfl⟩)
set_option maxRecDepth 65536 in
set_option maxHeartbeats 40000000 in
theorem comes_1 {Post : Tables → Env → Array Value → State → Outcome → State → Prop} (hpost : ∀ tb e args s v u, (limb_1_1.after args s (.returned v) u = true ∧ limb_1_2.after args s (.returned v) u = true ∧ True) → FrameEnd s (.returned v) u (Jvm.fieldLocs frame_1_writes args s ++ Jvm.arrayLocs frame_1_arrays args s ++ Jvm.staticLocs frame_1_statics s) 16 128 → Post tb e args s (.returned v) u) :
    ArmFor flags0 classFile x code maxLocals ret World_1 tables_1 room_1 Calls_1 rest_1 Pre_1 Post := by
  intro l hfl _ _ p e ha hc hk s m args below hf hA hF happ hP
  obtain ⟨hcalls, hrest, hpre⟩ := hP
  obtain ⟨-, -, -, hnamed, -, -, -, hat⟩ := (Spec.applies_iff hf).mp happ
  obtain ⟨hg, hn⟩ := and_e (Cond.before_iff.mp (show (Jvm.Cond.and given_1 narrow_1).before args s = true from hpre))
  obtain ⟨g1, g2⟩ := and_e hg
  obtain ⟨g3, g4⟩ := and_e g2
  obtain ⟨g5, g6⟩ := and_e g4
  obtain ⟨g7, g8⟩ := and_e g6
  obtain ⟨g9, g10⟩ := and_e g8
  obtain ⟨w0, w1, w2, w3, w4, rfl⟩ : ∃ w0 w1 w2 w3 w4 : Value, args = #[w0, w1, w2, w3, w4] := by
    have hs : args.size = 5 := by simpa [Cond.value, given_1] using g1
    obtain ⟨L⟩ := args
    match L, hs with
    | [w0, w1, w2, w3, w4], _ => exact ⟨w0, w1, w2, w3, w4, rfl⟩
  have hw := fun d (hd : d ∈ tables_1) => atoms_spec (ws := Jvm.Cond.code x code maxLocals ret :: tables_1) hat d (List.mem_cons_of_mem _ hd)
  have hfit : Fit s := fun {y c} hc i hi => by
    obtain ⟨ha, rfl⟩ := Array.getElem?_eq_some_iff.mp hc
    have q := List.all_eq_true.mp ((Array.all_eq_true_iff_forall_mem.mp hF) _ (Array.getElem_mem ha)) i (List.mem_range.mpr hi)
    simpa [Array.getElem?_eq_getElem hi] using q
  obtain ⟨i0, ei0⟩ := is_v g3
  obtain rfl : w0 = (.int i0) := Option.some.inj ei0
  obtain ⟨i1, ei1⟩ := isL_v g5
  obtain rfl : w1 = (.long i1) := Option.some.inj ei1
  obtain ⟨i2, ei2⟩ := isL_v g7
  obtain rfl : w2 = (.long i2) := Option.some.inj ei2
  obtain ⟨i3, ei3⟩ := isL_v g9
  obtain rfl : w3 = (.long i3) := Option.some.inj ei3
  obtain ⟨i4, ei4⟩ := is_v g10
  obtain rfl : w4 = (.int i4) := Option.some.inj ei4
  obtain ⟨n, o, h1, h2, h3, _, L, rfl, ⟨rfl, N⟩, hq⟩ := rm0 l s _ hw tables_1 i0 i1 i2 i3 i4 s.heap s.heap.size (Nat.le_refl _)  p e ha hc hk s m _ below hf ((Spec.applies_iff_loose hf).mp happ).1 ⟨rfl, State.Warmed39.refl s, rfl⟩ trivial
  exact ⟨n, _, h1, h2, h3, hpost _ _ _ _ _ _ ⟨Cond.after_iff.mpr rfl, Cond.after_iff.mpr (eq_i res_at (Term.int_eval (1)) rfl), trivial⟩ ⟨hq.1, hq.2.1, (hq.2.2.sift fun y hy => Or.inr (N y hy)).mono (by decide) (by decide)⟩⟩
theorem main_1_1 : Claimed_1_1 := comes_1 fun _ _ _ _ _ _ h hF => ⟨h.1, hF⟩
theorem main_1_2 : Claimed_1_2 := comes_1 fun _ _ _ _ _ _ h hF => ⟨h.2.1, hF⟩
end Jvm.Pilot.@@N@@
namespace Jvm.Pilot.@@N@@
open Jvm Jvm.ClassFile Sem Op Lib Jvm.Free Jvm.Stand Jvm.Pilot.@@N@@.Jvm.D
/-! MADE BY PROGRAM (witnessworld.py) out of the Statement's table words and the real class files: 10 classes; the members and pool entries that the words name. The judged class is class 1, her method 2. -/
namespace start1
open Jvm.ClassFile
def u (s : String) : CpInfo := .utf8 (stringToUtf16 s)
/-- a pool by its gaps: so many unusable entries, then the entry; so many at the end -/
def gap : Nat → List CpInfo → List CpInfo
  | 0, r => r
  | n + 1, r => .unusable :: gap n r
def poolList (es : List (Nat × CpInfo)) (last : Nat) : List CpInfo := es.foldr (fun e r => gap e.1 (e.2 :: r)) (gap last [])
def pool (es : List (Nat × CpInfo)) (last : Nat) : Array CpInfo := ⟨poolList es last⟩
def fileOf (pool : Array CpInfo) (this : Nat) (attrs : Array Attribute := #[]) (ms : Array MethodInfo := #[]) (fl : Nat := 33) (sup : Nat := 0) (ifs : Array Nat := #[]) (fds : Array FieldInfo := #[]) : ClassFile where
  minorVersion := 0
  majorVersion := 65
  constantPool := pool
  accessFlags := fl
  thisClass := this
  superClass := sup
  interfaces := ifs
  fields := fds
  methods := ms
  attributes := attrs
def plain (name : String) (sup : Option ClassId) : Class where
  name := name
  kind := .ordinary
  loader := none
  accessFlags := 33
  super := sup
  interfaces := #[]
  cf := none
  fields := #[]
  methods := #[]
  instanceTypes := #[]
  staticTypes := #[]
  resolved := #[]
  callSites := []
  init := .initialized
  statics := none
  mirror := none

def pool0 : Array CpInfo := pool [(5, u "<init>"), (0, u "()V"), (1, .class_ 10), (1, u "java/lang/Object")] 113

def k0c0 : Code := { maxStack := 0, maxLocals := 1, code := object_method_1_code, exceptionTable := #[], attributes := #[] }
def k0m0 : Method := { name := "<init>", desc := "()V", sig := { parameters := [], returnType := none }, accessFlags := 1, code := some k0c0 }
/-- java/lang/Object -/
def k0 : Class := { plain "java/lang/Object" none with
  accessFlags := 33
  interfaces := #[]
  cf := some (fileOf pool0 8 #[] #[{ accessFlags := 1, nameIndex := 5, descriptorIndex := 6, attributes := #[] }] 33 0 #[] #[])
  fields := #[]
  methods := #[k0m0]
  instanceTypes := #[]
  staticTypes := #[]
  resolved := Array.replicate 124 none
  statics := none }

def pool1 : Array CpInfo := pool [(2, .class_ 4), (0, .nameAndType 5 6), (0, u "java/lang/Object"), (0, u "<init>"), (0, u "()V"), (0, .long 100000), (3, .long 9223372036854775807), (1, .long 1000000), (1, .methodref 16 17), (0, .class_ 18), (0, .nameAndType 19 20), (0, u "com/example/flomem/flomem/replay/TimelineWindowsPinLaw"), (0, u "fl"), (0, u "(J)J"), (0, .class_ 22), (0, u "com/example/flomem/flomem/replay/Timeline"), (0, .methodref 21 3), (0, .methodref 21 25), (0, .nameAndType 26 27), (0, u "windows"), (0, u "()J"), (0, .methodref 21 29), (0, .nameAndType 30 20), (0, u "place"), (0, .methodref 32 33), (0, .class_ 34), (0, .nameAndType 35 36), (0, u "java/lang/Math"), (0, u "min"), (0, u "(JJ)J"), (0, .methodref 32 38), (0, .nameAndType 39 36), (0, u "max"), (3, u "law"), (0, u "(IJJJI)Z")] 2

def k1m0 : Method := { name := "<init>", desc := "()V", sig := { parameters := [], returnType := none }, accessFlags := 1, code := none }
def k1c1 : Code := { maxStack := 4, maxLocals := 4, code := method_2_code, exceptionTable := #[], attributes := #[] }
def k1m1 : Method := { name := "fl", desc := "(J)J", sig := { parameters := [.long], returnType := some .long }, accessFlags := 10, code := some k1c1 }
def k1c2 : Code := { maxStack := 6, maxLocals := 31, code := code, exceptionTable := #[], attributes := #[] }
def k1m2 : Method := { name := "law", desc := "(IJJJI)Z", sig := { parameters := [.int, .long, .long, .long, .int], returnType := some .boolean }, accessFlags := 9, code := some k1c2 }
/-- com/example/flomem/flomem/replay/TimelineWindowsPinLaw -/
def k1 : Class := { plain "com/example/flomem/flomem/replay/TimelineWindowsPinLaw" (some 0) with
  accessFlags := 49
  interfaces := #[]
  cf := some (fileOf pool1 16 #[] #[{ accessFlags := 1, nameIndex := 5, descriptorIndex := 6, attributes := #[] }, { accessFlags := 10, nameIndex := 19, descriptorIndex := 20, attributes := #[] }, { accessFlags := 9, nameIndex := 43, descriptorIndex := 44, attributes := #[] }] 49 2 #[] #[])
  fields := #[]
  methods := #[k1m0, k1m1, k1m2]
  instanceTypes := #[]
  staticTypes := #[]
  resolved := Array.replicate 47 none
  statics := none }

def pool2 : Array CpInfo := pool [(1, .methodref 2 3), (0, .class_ 4), (0, .nameAndType 5 6), (0, u "java/lang/Object"), (0, u "<init>"), (0, u "()V"), (0, .fieldref 8 9), (0, .class_ 10), (0, .nameAndType 11 12), (0, u "com/example/flomem/flomem/replay/Timeline"), (0, u "started"), (0, u "Z"), (0, .fieldref 8 14), (0, .nameAndType 15 16), (0, u "firstMicros"), (0, u "J"), (0, .long 100000), (1, .methodref 20 21), (0, .class_ 22), (0, .nameAndType 23 24), (0, u "java/lang/Math"), (0, u "floorDiv"), (0, u "(JJ)J"), (0, .fieldref 8 26), (0, .nameAndType 27 16), (0, u "lowestWindow"), (0, .methodref 20 29), (0, .nameAndType 30 24), (0, u "min"), (0, .fieldref 8 32), (0, .nameAndType 33 16), (0, u "highestWindow"), (0, .methodref 20 35), (0, .nameAndType 36 24), (0, u "max"), (0, u "WINDOW_MICROS"), (3, u "place"), (0, u "(J)J"), (1, u "windows"), (0, u "()J")] 2

def k2c0 : Code := { maxStack := 1, maxLocals := 1, code := prog_42_method_1_code, exceptionTable := #[], attributes := #[] }
def k2m0 : Method := { name := "<init>", desc := "()V", sig := { parameters := [], returnType := none }, accessFlags := 0, code := some k2c0 }
def k2c1 : Code := { maxStack := 5, maxLocals := 5, code := prog_42_method_2_code, exceptionTable := #[], attributes := #[] }
def k2m1 : Method := { name := "place", desc := "(J)J", sig := { parameters := [.long], returnType := some .long }, accessFlags := 0, code := some k2c1 }
def k2c2 : Code := { maxStack := 4, maxLocals := 1, code := prog_42_method_3_code, exceptionTable := #[], attributes := #[] }
def k2m2 : Method := { name := "windows", desc := "()J", sig := { parameters := [], returnType := some .long }, accessFlags := 0, code := some k2c2 }
/-- com/example/flomem/flomem/replay/Timeline -/
def k2 : Class := { plain "com/example/flomem/flomem/replay/Timeline" (some 0) with
  accessFlags := 48
  interfaces := #[]
  cf := some (fileOf pool2 8 #[] #[{ accessFlags := 0, nameIndex := 5, descriptorIndex := 6, attributes := #[] }, { accessFlags := 0, nameIndex := 41, descriptorIndex := 42, attributes := #[] }, { accessFlags := 0, nameIndex := 44, descriptorIndex := 45, attributes := #[] }] 48 2 #[] #[{ accessFlags := 24, nameIndex := 37, descriptorIndex := 16, attributes := #[] }, { accessFlags := 2, nameIndex := 11, descriptorIndex := 12, attributes := #[] }, { accessFlags := 2, nameIndex := 15, descriptorIndex := 16, attributes := #[] }, { accessFlags := 2, nameIndex := 27, descriptorIndex := 16, attributes := #[] }, { accessFlags := 2, nameIndex := 33, descriptorIndex := 16, attributes := #[] }])
  fields := #[{ name := "WINDOW_MICROS", type := .long, accessFlags := 24, slot := 0, constantValue := 0 }, { name := "started", type := .boolean, accessFlags := 2, slot := 0, constantValue := 0 }, { name := "firstMicros", type := .long, accessFlags := 2, slot := 1, constantValue := 0 }, { name := "lowestWindow", type := .long, accessFlags := 2, slot := 2, constantValue := 0 }, { name := "highestWindow", type := .long, accessFlags := 2, slot := 3, constantValue := 0 }]
  methods := #[k2m0, k2m1, k2m2]
  instanceTypes := #[.boolean, .long, .long, .long]
  staticTypes := #[.long]
  resolved := Array.replicate 48 none
  statics := none }

def pool3 : Array CpInfo := pool [(1, .class_ 2), (0, u "java/lang/Math"), (1, .class_ 6), (1, u "java/lang/Object"), (0, u "<init>"), (0, u "()V"), (89, .class_ 100), (1, u "java/lang/Math$RandomNumberGeneratorHolder"), (20, u "(JJ)J"), (23, u "floorDiv"), (26, u "negativeZeroFloatBits"), (0, u "J"), (2, u "negativeZeroDoubleBits"), (21, u "max"), (2, u "min"), (43, u "$assertionsDisabled"), (0, u "Z"), (91, u "twoToTheDoubleScaleDown"), (0, u "D"), (4, u "twoToTheDoubleScaleUp"), (9, u "E"), (3, u "PI"), (2, u "TAU"), (2, u "DEGREES_TO_RADIANS"), (0, u "RADIANS_TO_DEGREES")] 94

def k3m0 : Method := { name := "<init>", desc := "()V", sig := { parameters := [], returnType := none }, accessFlags := 2, code := none }
def k3c1 : Code := { maxStack := 4, maxLocals := 6, code := jdk_29_method_49_code, exceptionTable := #[], attributes := #[] }
def k3m1 : Method := { name := "floorDiv", desc := "(JJ)J", sig := { parameters := [.long, .long], returnType := some .long }, accessFlags := 9, code := some k3c1 }
def k3c2 : Code := { maxStack := 4, maxLocals := 4, code := jdk_29_method_66_code, exceptionTable := #[], attributes := #[] }
def k3m2 : Method := { name := "max", desc := "(JJ)J", sig := { parameters := [.long, .long], returnType := some .long }, accessFlags := 9, code := some k3c2 }
def k3c3 : Code := { maxStack := 4, maxLocals := 4, code := jdk_29_method_70_code, exceptionTable := #[], attributes := #[] }
def k3m3 : Method := { name := "min", desc := "(JJ)J", sig := { parameters := [.long, .long], returnType := some .long }, accessFlags := 9, code := some k3c3 }
/-- java/lang/Math -/
def k3 : Class := { plain "java/lang/Math" (some 0) with
  accessFlags := 49
  interfaces := #[]
  cf := some (fileOf pool3 1 #[.nestMembers #[98]] #[{ accessFlags := 2, nameIndex := 7, descriptorIndex := 8, attributes := #[] }, { accessFlags := 9, nameIndex := 145, descriptorIndex := 121, attributes := #[] }, { accessFlags := 9, nameIndex := 198, descriptorIndex := 121, attributes := #[] }, { accessFlags := 9, nameIndex := 201, descriptorIndex := 121, attributes := #[] }] 49 4 #[] #[{ accessFlags := 25, nameIndex := 354, descriptorIndex := 339, attributes := #[] }, { accessFlags := 25, nameIndex := 358, descriptorIndex := 339, attributes := #[] }, { accessFlags := 25, nameIndex := 361, descriptorIndex := 339, attributes := #[] }, { accessFlags := 26, nameIndex := 364, descriptorIndex := 339, attributes := #[] }, { accessFlags := 26, nameIndex := 365, descriptorIndex := 339, attributes := #[] }, { accessFlags := 26, nameIndex := 172, descriptorIndex := 173, attributes := #[] }, { accessFlags := 26, nameIndex := 176, descriptorIndex := 173, attributes := #[] }, { accessFlags := 8, nameIndex := 344, descriptorIndex := 339, attributes := #[] }, { accessFlags := 8, nameIndex := 338, descriptorIndex := 339, attributes := #[] }, { accessFlags := 4120, nameIndex := 245, descriptorIndex := 246, attributes := #[] }])
  fields := #[{ name := "E", type := .double, accessFlags := 25, slot := 0, constantValue := 0 }, { name := "PI", type := .double, accessFlags := 25, slot := 1, constantValue := 0 }, { name := "TAU", type := .double, accessFlags := 25, slot := 2, constantValue := 0 }, { name := "DEGREES_TO_RADIANS", type := .double, accessFlags := 26, slot := 3, constantValue := 0 }, { name := "RADIANS_TO_DEGREES", type := .double, accessFlags := 26, slot := 4, constantValue := 0 }, { name := "negativeZeroFloatBits", type := .long, accessFlags := 26, slot := 5, constantValue := 0 }, { name := "negativeZeroDoubleBits", type := .long, accessFlags := 26, slot := 6, constantValue := 0 }, { name := "twoToTheDoubleScaleUp", type := .double, accessFlags := 8, slot := 7, constantValue := 0 }, { name := "twoToTheDoubleScaleDown", type := .double, accessFlags := 8, slot := 8, constantValue := 0 }, { name := "$assertionsDisabled", type := .boolean, accessFlags := 4120, slot := 9, constantValue := 0 }]
  methods := #[k3m0, k3m1, k3m2, k3m3]
  instanceTypes := #[]
  staticTypes := #[.double, .double, .double, .double, .double, .long, .long, .double, .double, .boolean]
  resolved := Array.replicate 460 none
  statics := none }

def pool4 : Array CpInfo := pool [(1, u "java/lang/Cloneable"), (0, .class_ 1), (0, u "java/lang/Object"), (0, .class_ 3)] 3

/-- java/lang/Cloneable -/
def k4 : Class := { plain "java/lang/Cloneable" (some 0) with
  accessFlags := 1537
  interfaces := #[]
  cf := some (fileOf pool4 2 #[] #[] 1537 4 #[] #[])
  fields := #[]
  methods := #[]
  instanceTypes := #[]
  staticTypes := #[]
  resolved := Array.replicate 8 none
  statics := none }

def pool5 : Array CpInfo := pool [(1, u "java/io/Serializable"), (0, .class_ 1), (0, u "java/lang/Object"), (0, .class_ 3)] 3

/-- java/io/Serializable -/
def k5 : Class := { plain "java/io/Serializable" (some 0) with
  accessFlags := 1537
  interfaces := #[]
  cf := some (fileOf pool5 2 #[] #[] 1537 4 #[] #[])
  fields := #[]
  methods := #[]
  instanceTypes := #[]
  staticTypes := #[]
  resolved := Array.replicate 8 none
  statics := none }

/-- the primitive byte -/
def k6 : Class := { plain "byte" none with kind := .primitive 'B', accessFlags := 0x411 }
/-- [B -/
def k7 : Class := { plain "[B" (some 0) with kind := .array 6 .byte, interfaces := #[4, 5], accessFlags := 1041 }

/-- the primitive int -/
def k8 : Class := { plain "int" none with kind := .primitive 'I', accessFlags := 0x411 }
/-- [I -/
def k9 : Class := { plain "[I" (some 0) with kind := .array 8 .int, interfaces := #[4, 5], accessFlags := 1041 }

def heap : Heap := #[]
def classes : Array Class := #[k0, k1, k2, k3, k4, k5, k6, k7, k8, k9]
def interned : List (Array UInt16 × Addr) := []
def slotsUsed : Nat := 0
def theMethod : MethodId := ⟨1, 2⟩
def args0 : Array Value := #[.int 3, .long 5, .long 250000, .long 7, .int 3]
def aboutOver (below : List Frame) : State where
  vm := { classes := classes, interned := interned.toArray }
  heap := heap
  slotsUsed := slotsUsed
  threads := #[{ frames := .invoking theMethod args0 :: below }]
def below0 : List Frame := [.native { method := ⟨0, 0⟩, args := #[] }]
def about1 : State := aboutOver below0
def p0 : Program := .bare "" "" ""
def e0 : Env := launch0.env 0 0 0
theorem w_frames : about1.frames = Frame.invoking theMethod args0 :: below0 := rfl
set_option maxRecDepth 65536 in
theorem w_args : argsFit about1.vm theMethod args0 = true := by decide +kernel
set_option maxRecDepth 65536 in
theorem w_heap : heapFits about1 = true := by decide +kernel
set_option maxRecDepth 65536 in
theorem w_runnable : about1.curStatus? = some .runnable := by decide +kernel
set_option maxRecDepth 65536 in
theorem w_alone : about1.alone = true := by decide +kernel
set_option maxRecDepth 65536 in
theorem w_named : about1.methodNamed? x = some theMethod := by decide +kernel
set_option maxRecDepth 65536 in
theorem w_hears : about1.hears theMethod below0 = true := by decide +kernel
set_option maxRecDepth 65536 in
theorem w_ripe : about1.ripe theMethod args0 below0 = true := by decide +kernel
theorem w_running : about1.status = .running := rfl
set_option maxRecDepth 65536 in
theorem w_room : about1.hasRoom e0.platform room_1 = true :=
  launch0.hasRoom_least _ room_1 (by decide +kernel) (by decide +kernel) (by decide +kernel) (by decide +kernel) (by decide +kernel) (by decide +kernel)
theorem allAtoms_all (ts : List Jvm.Cond) (a : Array Jvm.Value) (st : Jvm.State) : (allAtoms ts).before a st = ts.all (fun c => c.before a st) := by
  induction ts with
  | nil => rfl
  | cons c t ih =>
    show (Jvm.Cond.and c (allAtoms t)).before a st = _
    rw [Jvm.Cond.before_and, ih, List.all_cons]
def words1 : List Jvm.Cond := Jvm.Cond.code x code maxLocals ret :: tables_1
/-- a 'code' word, met by the world's own term for the bytes: nothing is compared byte by byte -/
theorem code_word {y : MethodName} {bytes : ByteArray} {mx : Nat} {rt : Option FieldType} {a : Array Value} {s : State} {m : MethodId} {meth : Method} {c : Code} (h1 : s.methodNamed? y = some m) (h2 : s.vm.method? m = some meth) (h3 : meth.code = some c) (h4 : c.code = bytes)
    (h5 : (c.maxLocals == mx && c.exceptionTable.isEmpty && decide (c.maxStack ≤ mostOperands) && decide (meth.sig.returnType = rt) && !meth.locks && decide (parseMethodDescriptor y.desc = some meth.sig)) = true) : (Jvm.Cond.code y bytes mx rt).before a s = true := by
  simp only [Bool.and_eq_true, beq_iff_eq, Bool.not_eq_true', decide_eq_true_eq] at h5
  obtain ⟨⟨⟨⟨⟨g1, g2⟩, g3⟩, g4⟩, g5⟩, g6⟩ := h5
  simp [Cond.before, Cond.holds, Cond.value, h1, h2, h3, h4, g1, g2, g3, g4, g5, g6]
def isCode : Jvm.Cond → Bool
  | .code _ _ _ _ => true
  | _ => false
theorem all_split {L : List Jvm.Cond} {P : Jvm.Cond → Bool} (h1 : L.all (fun c => isCode c || P c) = true) (h2 : ∀ c ∈ L.filter isCode, P c = true) : L.all P = true := by
  refine List.all_eq_true.mpr fun c hc => ?_
  have h := List.all_eq_true.mp h1 c hc
  rcases Bool.eq_false_or_eq_true (isCode c) with hi | hi
  · exact h2 c (List.mem_filter.mpr ⟨hc, hi⟩)
  · simpa [hi] using h
set_option maxRecDepth 65536 in
theorem w_c0 : (Jvm.Cond.code x code maxLocals ret).before args0 about1 = true := code_word (m := ⟨1, 2⟩) (meth := k1m2) (c := k1c2) (by decide +kernel) rfl rfl rfl (by decide +kernel)
set_option maxRecDepth 65536 in
theorem w_c1 : (Jvm.Cond.code ({ cls := "com/example/flomem/flomem/replay/TimelineWindowsPinLaw", name := "fl", desc := "(J)J" } : Jvm.MethodName) method_2_code (4 : Nat) (Option.some Jvm.ClassFile.FieldType.long)).before args0 about1 = true := code_word (m := ⟨1, 1⟩) (meth := k1m1) (c := k1c1) (by decide +kernel) rfl rfl rfl (by decide +kernel)
set_option maxRecDepth 65536 in
theorem w_c2 : (Jvm.Cond.code ({ cls := "com/example/flomem/flomem/replay/Timeline", name := "<init>", desc := "()V" } : Jvm.MethodName) prog_42_method_1_code (1 : Nat) (Option.none : Option Jvm.ClassFile.FieldType)).before args0 about1 = true := code_word (m := ⟨2, 0⟩) (meth := k2m0) (c := k2c0) (by decide +kernel) rfl rfl rfl (by decide +kernel)
set_option maxRecDepth 65536 in
theorem w_c3 : (Jvm.Cond.code ({ cls := "java/lang/Object", name := "<init>", desc := "()V" } : Jvm.MethodName) object_method_1_code (1 : Nat) (Option.none : Option Jvm.ClassFile.FieldType)).before args0 about1 = true := code_word (m := ⟨0, 0⟩) (meth := k0m0) (c := k0c0) (by decide +kernel) rfl rfl rfl (by decide +kernel)
set_option maxRecDepth 65536 in
theorem w_c4 : (Jvm.Cond.code ({ cls := "com/example/flomem/flomem/replay/Timeline", name := "windows", desc := "()J" } : Jvm.MethodName) prog_42_method_3_code (1 : Nat) (Option.some Jvm.ClassFile.FieldType.long)).before args0 about1 = true := code_word (m := ⟨2, 2⟩) (meth := k2m2) (c := k2c2) (by decide +kernel) rfl rfl rfl (by decide +kernel)
set_option maxRecDepth 65536 in
theorem w_c5 : (Jvm.Cond.code ({ cls := "java/lang/Math", name := "min", desc := "(JJ)J" } : Jvm.MethodName) jdk_29_method_70_code (4 : Nat) (Option.some Jvm.ClassFile.FieldType.long)).before args0 about1 = true := code_word (m := ⟨3, 3⟩) (meth := k3m3) (c := k3c3) (by decide +kernel) rfl rfl rfl (by decide +kernel)
set_option maxRecDepth 65536 in
theorem w_c6 : (Jvm.Cond.code ({ cls := "java/lang/Math", name := "max", desc := "(JJ)J" } : Jvm.MethodName) jdk_29_method_66_code (4 : Nat) (Option.some Jvm.ClassFile.FieldType.long)).before args0 about1 = true := code_word (m := ⟨3, 2⟩) (meth := k3m2) (c := k3c2) (by decide +kernel) rfl rfl rfl (by decide +kernel)
set_option maxRecDepth 65536 in
theorem w_c7 : (Jvm.Cond.code ({ cls := "com/example/flomem/flomem/replay/Timeline", name := "place", desc := "(J)J" } : Jvm.MethodName) prog_42_method_2_code (5 : Nat) (Option.some Jvm.ClassFile.FieldType.long)).before args0 about1 = true := code_word (m := ⟨2, 1⟩) (meth := k2m1) (c := k2c1) (by decide +kernel) rfl rfl rfl (by decide +kernel)
set_option maxRecDepth 65536 in
theorem w_c8 : (Jvm.Cond.code ({ cls := "java/lang/Math", name := "floorDiv", desc := "(JJ)J" } : Jvm.MethodName) jdk_29_method_49_code (6 : Nat) (Option.some Jvm.ClassFile.FieldType.long)).before args0 about1 = true := code_word (m := ⟨3, 1⟩) (meth := k3m1) (c := k3c1) (by decide +kernel) rfl rfl rfl (by decide +kernel)
def codes1 : List Jvm.Cond := [Jvm.Cond.code x code maxLocals ret, Jvm.Cond.code ({ cls := "com/example/flomem/flomem/replay/TimelineWindowsPinLaw", name := "fl", desc := "(J)J" } : Jvm.MethodName) method_2_code (4 : Nat) (Option.some Jvm.ClassFile.FieldType.long), Jvm.Cond.code ({ cls := "com/example/flomem/flomem/replay/Timeline", name := "<init>", desc := "()V" } : Jvm.MethodName) prog_42_method_1_code (1 : Nat) (Option.none : Option Jvm.ClassFile.FieldType), Jvm.Cond.code ({ cls := "java/lang/Object", name := "<init>", desc := "()V" } : Jvm.MethodName) object_method_1_code (1 : Nat) (Option.none : Option Jvm.ClassFile.FieldType), Jvm.Cond.code ({ cls := "com/example/flomem/flomem/replay/Timeline", name := "windows", desc := "()J" } : Jvm.MethodName) prog_42_method_3_code (1 : Nat) (Option.some Jvm.ClassFile.FieldType.long), Jvm.Cond.code ({ cls := "java/lang/Math", name := "min", desc := "(JJ)J" } : Jvm.MethodName) jdk_29_method_70_code (4 : Nat) (Option.some Jvm.ClassFile.FieldType.long), Jvm.Cond.code ({ cls := "java/lang/Math", name := "max", desc := "(JJ)J" } : Jvm.MethodName) jdk_29_method_66_code (4 : Nat) (Option.some Jvm.ClassFile.FieldType.long), Jvm.Cond.code ({ cls := "com/example/flomem/flomem/replay/Timeline", name := "place", desc := "(J)J" } : Jvm.MethodName) prog_42_method_2_code (5 : Nat) (Option.some Jvm.ClassFile.FieldType.long), Jvm.Cond.code ({ cls := "java/lang/Math", name := "floorDiv", desc := "(JJ)J" } : Jvm.MethodName) jdk_29_method_49_code (6 : Nat) (Option.some Jvm.ClassFile.FieldType.long)]
set_option maxRecDepth 65536 in
theorem codes_eq : words1.filter isCode = codes1 := rfl
theorem w_codes : ∀ c ∈ words1.filter isCode, c.before args0 about1 = true := by
  rw [codes_eq]
  intro c hc
  simp only [codes1, List.mem_cons, List.not_mem_nil, or_false] at hc
  rcases hc with rfl | rfl | rfl | rfl | rfl | rfl | rfl | rfl | rfl
  · exact w_c0
  · exact w_c1
  · exact w_c2
  · exact w_c3
  · exact w_c4
  · exact w_c5
  · exact w_c6
  · exact w_c7
  · exact w_c8
set_option maxRecDepth 65536 in
theorem w_t1 : (words1.take 24).all (fun c => isCode c || c.before args0 about1) = true := by decide +kernel
set_option maxRecDepth 65536 in
theorem w_t2 : (words1.drop 24).all (fun c => isCode c || c.before args0 about1) = true := by decide +kernel
theorem w_tables : (allAtoms (Jvm.Cond.code x code maxLocals ret :: tables_1)).before args0 about1 = true := by
  rw [allAtoms_all]
  show words1.all (fun c => c.before args0 about1) = true
  refine all_split ?_ w_codes
  rw [← List.take_append_drop 24 words1, List.all_append, w_t1, w_t2]
  rfl
set_option maxRecDepth 65536 in
theorem w_case : (Jvm.Cond.and given_1 narrow_1).before args0 about1 = true := by decide +kernel
theorem w_applies : (headSpec (Jvm.Cond.code x code maxLocals ret :: tables_1) room_1).applies x e0.platform about1 = true :=
  (Spec.applies_iff w_frames).mpr ⟨w_running, w_runnable, w_alone, w_named, w_hears, w_ripe, w_room, w_tables⟩
theorem atStart : AtStart classFile x code maxLocals ret World_1 tables_1 room_1 Calls_1 rest_1 Pre_1 launch0 p0 e0 about1 theMethod args0 below0 :=
  ⟨lists_1, trivial, launch0.admits_env _ _ _, launch0.least_env, fairChoices_fair.cas, fairChoices_fair.clock, w_frames, w_args, w_heap, w_applies, trivial, trivial, w_case⟩
end start1
theorem witness_1 : WitnessClaimed_1 := ⟨start1.p0, start1.e0, start1.about1, start1.theMethod, start1.args0, start1.below0, start1.atStart⟩
end Jvm.Pilot.@@N@@
