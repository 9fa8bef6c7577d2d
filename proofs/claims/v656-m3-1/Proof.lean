import JvmDerived
import JvmDerived.Pilot.@@N@@Statement
import JvmDerived.Pilot.@@N@@Code
set_option linter.unusedVariables false
set_option linter.unusedSimpArgs false
namespace Jvm.Pilot.@@N@@
open Jvm Jvm.ClassFile Sem Op Lib Jvm.Free Jvm.Stand Jvm.LawKit Jvm.RoadKit Bundle Jvm.Pilot.@@N@@.Jvm.D
/-! A walk as one goal: from the state U the run comes to an end that answers Q. -/
section Kit
def Go (p : Program) (e : Env) (below : List Frame) (s : State) (Q : Option Value → Heap → List Loc → Prop) (C N : Nat) (U : State) : Prop :=
  ∃ s₂ o, Steps p.tables e below U s₂ ∧ s₂.status = .running ∧ Ended s₂ below o ∧ ∃ v L, o = .returned v ∧ Q v s₂.heap L ∧ FrameEnd s o s₂ L C N
variable {p : Program} {l : Launch} {e : Env} {R : Room} {s : State} {m : MethodId} {args : Array Value} {below : List Frame} {meth : Method} {c : Code} {T : State} {locs : List Loc} {cells slots : Nat} {Q : Option Value → Heap → List Loc → Prop} {C N : Nat}
theorem gob {U U' : State} (h : ∀ t, Steps p.tables e below U' t → Steps p.tables e below U t) (k : Go p e below s Q C N U') : Go p e below s Q C N U := by
  obtain ⟨s₂, o, h1, r⟩ := k
  exact ⟨s₂, o, h _ h1, r⟩
theorem goZ (X : Stand p l e R s m args below meth c T locs cells slots) (hx : p.tables.exec = Jvm.exec) (hlk : meth.locks = false) {t : FieldType} {pc : Nat} {Ls : Array Slot} {z z' : Int32} {rest : List Value} (hret : meth.sig.returnType = some t) (ht : t = .boolean ∨ t = .byte ∨ t = .char ∨ t = .short) (hd : decode c.code pc = .ok (.ireturn, 1)) (hz : nar t z = z') (hq : Q (some (.int z')) T.heap locs) (hc : cells ≤ C) (hn : slots ≤ N) :
    Go p e below s Q C N (T.setTop (mkF m pc Ls (.int z :: rest))) := by
  subst hz
  obtain ⟨fs, hr, hrun, hended, hW, hsame⟩ := X.leave (v := some (.int (nar t z))) (fun h => by rw [hret] at h; cases h) hlk
  exact ⟨_, _, retN X hx hret ht hd hr, hrun, hended, _, _, rfl, hq, ⟨_, rfl⟩, hW, hsame.mono hc hn⟩
theorem goI (X : Stand p l e R s m args below meth c T locs cells slots) (hx : p.tables.exec = Jvm.exec) (hlk : meth.locks = false) {pc : Nat} {Ls : Array Slot} {z : Int32} {rest : List Value} (hret : meth.sig.returnType = some .int) (hd : decode c.code pc = .ok (.ireturn, 1)) (hq : Q (some (.int z)) T.heap locs) (hc : cells ≤ C) (hn : slots ≤ N) :
    Go p e below s Q C N (T.setTop (mkF m pc Ls (.int z :: rest))) := by
  obtain ⟨fs, hr, hrun, hended, hW, hsame⟩ := X.leave (v := some (.int z)) (fun h => by rw [hret] at h; cases h) hlk
  exact ⟨_, _, retOut X hx hret rfl (Or.inl ⟨rfl, Or.inl rfl, z, rfl⟩) hd hr, hrun, hended, _, _, rfl, hq, ⟨_, rfl⟩, hW, hsame.mono hc hn⟩
theorem goJ (X : Stand p l e R s m args below meth c T locs cells slots) (hx : p.tables.exec = Jvm.exec) (hlk : meth.locks = false) {pc : Nat} {Ls : Array Slot} {z : Int64} {rest : List Value} (hret : meth.sig.returnType = some .long) (hd : decode c.code pc = .ok (.lreturn, 1)) (hq : Q (some (.long z)) T.heap locs) (hc : cells ≤ C) (hn : slots ≤ N) :
    Go p e below s Q C N (T.setTop (mkF m pc Ls (.long z :: rest))) := by
  obtain ⟨fs, hr, hrun, hended, hW, hsame⟩ := X.leave (v := some (.long z)) (fun h => by rw [hret] at h; cases h) hlk
  exact ⟨_, _, retOut X hx hret rfl (Or.inr (Or.inl ⟨rfl, rfl, z, rfl⟩)) hd hr, hrun, hended, _, _, rfl, hq, ⟨_, rfl⟩, hW, hsame.mono hc hn⟩
theorem goD (X : Stand p l e R s m args below meth c T locs cells slots) (hx : p.tables.exec = Jvm.exec) (hlk : meth.locks = false) {pc : Nat} {Ls : Array Slot} {z : UInt64} {rest : List Value} (hret : meth.sig.returnType = some .double) (hd : decode c.code pc = .ok (.dreturn, 1)) (hq : Q (some (.double z)) T.heap locs) (hc : cells ≤ C) (hn : slots ≤ N) :
    Go p e below s Q C N (T.setTop (mkF m pc Ls (.double z :: rest))) := by
  obtain ⟨fs, hr, hrun, hended, hW, hsame⟩ := X.leave (v := some (.double z)) (fun h => by rw [hret] at h; cases h) hlk
  exact ⟨_, _, retOut X hx hret rfl (Or.inr (Or.inr (Or.inl ⟨rfl, rfl, z, rfl⟩))) hd hr, hrun, hended, _, _, rfl, hq, ⟨_, rfl⟩, hW, hsame.mono hc hn⟩
theorem goA (X : Stand p l e R s m args below meth c T locs cells slots) (hx : p.tables.exec = Jvm.exec) (hlk : meth.locks = false) {t : FieldType} {pc : Nat} {Ls : Array Slot} {z : Value} {rest : List Value} (hret : meth.sig.returnType = some t) (ht : t.isReference = true) (hv : z.isRef = true) (hd : decode c.code pc = .ok (.areturn, 1)) (hq : Q (some z) T.heap locs) (hc : cells ≤ C) (hn : slots ≤ N) :
    Go p e below s Q C N (T.setTop (mkF m pc Ls (z :: rest))) := by
  obtain ⟨fs, hr, hrun, hended, hW, hsame⟩ := X.leave (v := some z) (fun h => by rw [hret] at h; cases h) hlk
  have hnw : narrow t z = z := by cases z <;> cases t <;> first | rfl | (simp [Value.isRef] at hv) | (simp [FieldType.isReference] at ht)
  exact ⟨_, _, retOut X hx hret hnw (Or.inr (Or.inr (Or.inr (Or.inr ⟨rfl, ht, hv⟩)))) hd hr, hrun, hended, _, _, rfl, hq, ⟨_, rfl⟩, hW, hsame.mono hc hn⟩
theorem goV (X : Stand p l e R s m args below meth c T locs cells slots) (hx : p.tables.exec = Jvm.exec) (hlk : meth.locks = false) {pc : Nat} {Ls : Array Slot} (hret : meth.sig.returnType = none) (hd : decode c.code pc = .ok (.return_, 1)) (hq : Q none T.heap locs) (hc : cells ≤ C) (hn : slots ≤ N) :
    Go p e below s Q C N (T.setTop (mkF m pc Ls [])) := by
  obtain ⟨fs, hr, hrun, hended, hW, hsame⟩ := X.leave (v := none) (fun _ => rfl) hlk
  exact ⟨_, _, X.returnOut hx hret hd hr, hrun, hended, _, _, rfl, hq, ⟨_, rfl⟩, hW, hsame.mono hc hn⟩
theorem lremM {g : JFrame} {target : State} (X : Stand p l e R s m args below meth c T locs cells slots) (hx : p.tables.exec = Jvm.exec) (hg : g.method = m) {x y : Int64} {rest : List Value} (hd : decode c.code g.pc = .ok (.lrem, 1)) (hs : g.stack = .long y :: .long x :: rest) (hy : y ≠ 0)
    (hr : Steps p.tables e below (T.setTop { g with pc := g.pc + 1, stack := .long (x % y) :: rest }) target) : Steps p.tables e below (T.setTop g) target :=
  XS.lrem X.here hx hg hd hs hy (by rw [lrem_mod x y]; exact hr)
theorem own_lrem (x y : Int64) (d : Int) (hy : y.toInt = d) : (0 ≤ x.toInt → (x % y).toInt = x.toInt % d) ∧ (x.toInt < 0 → (x % y).toInt = -((-x.toInt) % d)) := by rw [Int64.toInt_mod, hy]; exact tr _ _
theorem own_lxor (x y : Int64) (hy : 0 ≤ y.toInt) : ((x ^^^ y).toInt < 0 ↔ x.toInt < 0) := by
  have h1 : (x ^^^ y).toBitVec.msb = (x.toBitVec.msb ^^ y.toBitVec.msb) := by rw [Int64.toBitVec_xor, BitVec.msb_xor]
  have h2 := BitVec.msb_eq_toInt (x := (x ^^^ y).toBitVec)
  have h3 := BitVec.msb_eq_toInt (x := x.toBitVec)
  have h4 := BitVec.msb_eq_toInt (x := y.toBitVec)
  have e1 : (x ^^^ y).toBitVec.toInt = (x ^^^ y).toInt := rfl
  have e2 : x.toBitVec.toInt = x.toInt := rfl
  have e3 : y.toBitVec.toInt = y.toInt := rfl
  rw [e1] at h2
  rw [e2] at h3
  rw [e3] at h4
  have h5 : ¬ y.toInt < 0 := by omega
  rw [h2, h3, h4, decide_eq_false h5, Bool.xor_false] at h1
  simpa using h1
theorem pop2L {g : JFrame} {target : State} (X : Stand p l e R s m args below meth c T locs cells slots) (hx : p.tables.exec = Jvm.exec) (hg : g.method = m) {x : Int64} {rest : List Value} (hd : decode c.code g.pc = .ok (.pop2, 1)) (hs : g.stack = .long x :: rest)
    (hr : Steps p.tables e below (T.setTop { g with pc := g.pc + 1, stack := rest }) target) : Steps p.tables e below (T.setTop g) target := by
  subst hg
  jvm_step X.here [X.here.top, hx, hd, hs, Value.category]
  exact hr
theorem own_staKeep {Z : State} {h h' : Heap} {C n d : String} {v : Value} {ws : List Addr} (F : Sta Z h C n d v) (K : Keep h h' ws) (hn : ∀ x ∈ ws, ∀ cell : Cell, h[x]? = some cell → cell.vm.isStatics = false) : Sta Z h' C n d v := by
  obtain ⟨cf, i, k, f, st, cell, h1, h2, h3, h4, h5, h6, h7⟩ := F
  exact ⟨cf, i, k, f, st, cell, h1, h2, h3, h4, K.2.1 _ _ h5 (fun q => by have q2 := hn _ q _ h5; rw [h6] at q2; cases q2), h6, h7⟩
theorem own_lmulR (x y : Int64) (d : Int) (hy : y.toInt = d) : ((x * y).toInt - x.toInt * d) % 18446744073709551616 = 0 := by rw [← hy]; exact c_lmul x y
theorem own_lmulL (x y : Int64) (d : Int) (hx : x.toInt = d) : ((x * y).toInt - d * y.toInt) % 18446744073709551616 = 0 := by rw [← hx]; exact c_lmul x y
theorem own_imulR (x y : Int32) (d : Int) (hy : y.toInt = d) : ((x * y).toInt - x.toInt * d) % 4294967296 = 0 := by rw [← hy]; exact c_imul x y
theorem own_imulL (x y : Int32) (d : Int) (hx : x.toInt = d) : ((x * y).toInt - d * y.toInt) % 4294967296 = 0 := by rw [← hx]; exact c_imul x y
end Kit

theorem own_inc (i : Nat) : Int32.ofNat i + (1 : Int32) = Int32.ofNat (i + 1) := by rw [Int32.ofNat_add]; rfl
theorem own_dec (i : Nat) : Int32.ofNat i + (1 : Int32) - (1 : Int32) = Int32.ofNat i := by
  rw [← Int32.toInt_inj]
  have h1 := c_isub (Int32.ofNat i + 1) 1
  have h2 := c_iadd (Int32.ofNat i) 1
  have := rng32 (Int32.ofNat i + (1 : Int32) - (1 : Int32))
  have := rng32 (Int32.ofNat i)
  have : (1 : Int32).toInt = 1 := by decide
  omega
theorem own_shlF : ∀ i : Fin 32, ((1 : Int64) <<< ((Int32.ofNat i.val) &&& 0x3f).toInt64).toInt = 2 ^ i.val := by decide +kernel
theorem own_shl (i : Nat) (h : i ≤ 31) : ((1 : Int64) <<< ((Int32.ofNat i) &&& 0x3f).toInt64).toInt = 2 ^ i := own_shlF ⟨i, by omega⟩
theorem own_toInt (i : Nat) (h : i ≤ 31) : (Int32.ofNat i).toInt = i := by
  have q : ∀ i : Fin 32, (Int32.ofNat i.val).toInt = (i.val : Int) := by decide +kernel
  exact q ⟨i, by omega⟩
theorem own_shl1 (i : Nat) (h : i ≤ 31) (h0 : i ≠ 0) : ((1 : Int64) <<< ((Int32.ofNat i - (1 : Int32)) &&& 0x3f).toInt64).toInt = 2 ^ (i - 1) := by
  obtain ⟨j, rfl⟩ : ∃ j, i = j + 1 := ⟨i - 1, by omega⟩
  rw [← own_inc, own_dec, own_shl j (by omega), Nat.add_sub_cancel]

theorem d1_0 : decode prog_45_method_3_code 0 = .ok (.iload_n 0, 1) := by decide +kernel
theorem d1_1 : decode prog_45_method_3_code 1 = .ok (.bipush 19, 2) := by decide +kernel
theorem d1_3 : decode prog_45_method_3_code 3 = .ok (.iadd, 1) := by decide +kernel
theorem d1_4 : decode prog_45_method_3_code 4 = .ok (.istore_n 1, 1) := by decide +kernel
theorem d1_5 : decode prog_45_method_3_code 5 = .ok (.iconst 0, 1) := by decide +kernel
theorem d1_6 : decode prog_45_method_3_code 6 = .ok (.istore_n 2, 1) := by decide +kernel
theorem d1_7 : decode prog_45_method_3_code 7 = .ok (.lconst 1, 1) := by decide +kernel
theorem d1_8 : decode prog_45_method_3_code 8 = .ok (.iload_n 2, 1) := by decide +kernel
theorem d1_9 : decode prog_45_method_3_code 9 = .ok (.lshl, 1) := by decide +kernel
theorem d1_10 : decode prog_45_method_3_code 10 = .ok (.iload_n 1, 1) := by decide +kernel
theorem d1_11 : decode prog_45_method_3_code 11 = .ok (.i2l, 1) := by decide +kernel
theorem d1_12 : decode prog_45_method_3_code 12 = .ok (.lcmp, 1) := by decide +kernel
theorem d1_13 : decode prog_45_method_3_code 13 = .ok (.ifCond .ge 9, 3) := by decide +kernel
theorem d1_16 : decode prog_45_method_3_code 16 = .ok (.iinc 2 1, 3) := by decide +kernel
theorem d1_19 : decode prog_45_method_3_code 19 = .ok (.goto (-12), 3) := by decide +kernel
theorem d1_22 : decode prog_45_method_3_code 22 = .ok (.iload_n 2, 1) := by decide +kernel
theorem d1_23 : decode prog_45_method_3_code 23 = .ok (.iconst 1, 1) := by decide +kernel
theorem d1_24 : decode prog_45_method_3_code 24 = .ok (.iadd, 1) := by decide +kernel
theorem d1_25 : decode prog_45_method_3_code 25 = .ok (.ireturn, 1) := by decide +kernel
theorem ef_1 (m : MethodId) (x0 : Int32) : entryFrame m #[(.int x0)] 3 = mkF m 0 #[.val (.int x0), .unset, .unset] [] := by first | (simp [entryFrame, mkF, argsToLocals, Value.category]; done) | rfl
def Q1 (Z : State) (p0 : Int32) (h0 : Heap) (n0 : Nat) (v : Option Value) (h : Heap) (L : List Loc) : Prop := ∃ i : Nat, i ≤ 31 ∧ v = some (.int ((Int32.ofNat i) + (1 : Int32))) ∧ p0.toInt + 19 ≤ 2 ^ i ∧ (i = 0 ∨ (2 : Int) ^ (i - 1) < p0.toInt + 19) ∧ Fr n0 L ∧ h = h0
theorem la_1_7_2 (p0 : Int32) (x1 : Int32) (hp1 : 1 ≤ p0.toInt) (hp2 : p0.toInt ≤ 2147483628) (hx1 : (p0 + (19 : Int32)) = x1) : x1.toInt64.toInt = p0.toInt + 19 := by
  have := c_i2l x1
  have := rng32 p0
  have := rng32 x1
  have : (19 : Int32).toInt = 19 := by decide
  have := c_iadd p0 (19 : Int32)
  have := rng32 (p0 + (19 : Int32))
  try (simp only [Int32.lt_iff_toInt_lt, Int32.le_iff_toInt_le, Int64.lt_iff_toInt_lt, Int64.le_iff_toInt_le, ← Int32.toInt_inj, ← Int64.toInt_inj, ne_eq] at *)
  omega
set_option maxRecDepth 65536 in
set_option maxHeartbeats 40000000 in
theorem rm1 (l : Launch) (Z : State) (a0 : Array Value) (hw : ∀ d ∈ tables_1, d.before a0 Z = true) (ws : List Jvm.Cond) (p0 : Int32) (h0 : Heap) (n0 : Nat) (Z0 : n0 ≤ h0.size) (hp1 : 1 ≤ p0.toInt) (hp2 : p0.toInt ≤ 2147483628) :
    MetFree l (⟨"com/example/coevolution/coevolution/learn/Primitives", "defaultDepth", "(I)I"⟩ : MethodName) (head1 (Jvm.Cond.code (⟨"com/example/coevolution/coevolution/learn/Primitives", "defaultDepth", "(I)I"⟩ : MethodName) prog_45_method_3_code 3 (some .int) :: ws) ({ frames := 0, cells := 0, slots := 0, locals := 0 } : Room)) (fun a U => a = #[(.int p0)] ∧ Z.Warmed39 U.vm ∧ U.heap = h0) (fun _ _ _ _ _ => True) (fun _ U o U' => ∃ v L, o = .returned v ∧ Q1 Z p0 h0 n0 v U'.heap L ∧ FrameEnd U o U' L ({ frames := 0, cells := 0, slots := 0, locals := 0 } : Room).cells ({ frames := 0, cells := 0, slots := 0, locals := 0 } : Room).slots) := by
  refine MetFree.of_bodySF (plainFor_of_name (by first | (simp [plainName, overriddenIn]; done) | decide +kernel)) hisR ?_
  intro p e s m args below meth c s₁ Bd hml0 hP hK
  obtain ⟨rfl, hZ, hh⟩ := hP
  have hx := Bd.exec
  have hby := Bd.bytes
  have hml : c.maxLocals = 3 := hml0
  have hown : s.vm.findClass "com/example/coevolution/coevolution/learn/Primitives" = some m.cls := findClass_of_methodNamed Bd.named
  have hnm := (name_of_methodNamed Bd.named Bd.method).1
  have hlk := BodyLoose.notSynchronized Bd
  have X0 : Stand p l e ({ frames := 0, cells := 0, slots := 0, locals := 0 } : Room) s m #[(.int p0)] below meth c s₁ [] 0 0 := Stand.of_body Bd
  have e0 : s₁.heap = h0 := by rw [← hh, Bd.state]; rfl
  have N0 := Fr.nil n0
  show Go p e below s (Q1 Z p0 h0 n0) 0 0 (s₁.setTop (entryFrame m #[(.int p0)] 3))
  rw [ef_1]
  show Go _ _ _ _ _ _ _ (s₁.setTop (mkF m 0 #[.val (.int p0), .unset, .unset] []))
  refine gob (fun _ k => XS.iloadN X0.here hx rfl (hb hby d1_0) rfl k) ?_
  show Go _ _ _ _ _ _ _ (s₁.setTop (mkF m 1 #[.val (.int p0), .unset, .unset] [(.int p0)]))
  refine gob (fun _ k => XS.bipush X0.here hx rfl (hb hby d1_1) k) ?_
  show Go _ _ _ _ _ _ _ (s₁.setTop (mkF m 3 #[.val (.int p0), .unset, .unset] [(.int (19 : Int32)), (.int p0)]))
  refine gob (fun _ k => XS.iadd X0.here hx rfl (hb hby d1_3) rfl k) ?_
  show Go _ _ _ _ _ _ _ (s₁.setTop (mkF m 4 #[.val (.int p0), .unset, .unset] [(.int (p0 + (19 : Int32)))]))
  refine gob (fun _ k => XS.istoreN X0.here hx rfl (hb hby d1_4) rfl (l' := #[.val (.int p0), .val (.int (p0 + (19 : Int32))), .unset]) rfl k) ?_
  show Go _ _ _ _ _ _ _ (s₁.setTop (mkF m 5 #[.val (.int p0), .val (.int (p0 + (19 : Int32))), .unset] []))
  generalize hx1 : (p0 + (19 : Int32)) = x1
  show Go _ _ _ _ _ _ _ (s₁.setTop (mkF m 5 #[.val (.int p0), .val (.int x1), .unset] []))
  refine gob (fun _ k => XS.iconst X0.here hx rfl (hb hby d1_5) k) ?_
  show Go _ _ _ _ _ _ _ (s₁.setTop (mkF m 6 #[.val (.int p0), .val (.int x1), .unset] [(.int (0 : Int32))]))
  refine gob (fun _ k => XS.istoreN X0.here hx rfl (hb hby d1_6) rfl (l' := #[.val (.int p0), .val (.int x1), .val (.int (0 : Int32))]) rfl k) ?_
  show Go _ _ _ _ _ _ _ (s₁.setTop (mkF m 7 #[.val (.int p0), .val (.int x1), .val (.int (0 : Int32))] []))
  have hlv : x1.toInt64.toInt = p0.toInt + 19 := (la_1_7_2 p0 x1 hp1 hp2 hx1)
  have loop : ∀ (k i : Nat), i + k = 31 → (∀ j, j < i → (2 : Int) ^ j < p0.toInt + 19) → Go p e below s (Q1 Z p0 h0 n0) 0 0 (s₁.setTop (mkF m 7 #[.val (.int p0), .val (.int x1), .val (.int (Int32.ofNat i))] [])) := by
    intro k
    induction k with
    | zero =>
      intro i hi hj
      refine gob (fun _ k => XS.lconst X0.here hx rfl (hb hby d1_7) k) ?_
      show Go _ _ _ _ _ _ _ (s₁.setTop (mkF m 8 #[.val (.int p0), .val (.int x1), .val (.int (Int32.ofNat i))] [(.long (1 : Int64))]))
      refine gob (fun _ k => XS.iloadN X0.here hx rfl (hb hby d1_8) rfl k) ?_
      show Go _ _ _ _ _ _ _ (s₁.setTop (mkF m 9 #[.val (.int p0), .val (.int x1), .val (.int (Int32.ofNat i))] [(.int (Int32.ofNat i)), (.long (1 : Int64))]))
      refine gob (fun _ k => XS.lshl X0.here hx rfl (hb hby d1_9) rfl k) ?_
      show Go _ _ _ _ _ _ _ (s₁.setTop (mkF m 10 #[.val (.int p0), .val (.int x1), .val (.int (Int32.ofNat i))] [(.long ((1 : Int64) <<< ((Int32.ofNat i) &&& 0x3f).toInt64))]))
      refine gob (fun _ k => XS.iloadN X0.here hx rfl (hb hby d1_10) rfl k) ?_
      show Go _ _ _ _ _ _ _ (s₁.setTop (mkF m 11 #[.val (.int p0), .val (.int x1), .val (.int (Int32.ofNat i))] [(.int x1), (.long ((1 : Int64) <<< ((Int32.ofNat i) &&& 0x3f).toInt64))]))
      refine gob (fun _ k => XS.i2l X0.here hx rfl (hb hby d1_11) rfl k) ?_
      show Go _ _ _ _ _ _ _ (s₁.setTop (mkF m 12 #[.val (.int p0), .val (.int x1), .val (.int (Int32.ofNat i))] [(.long (x1.toInt64)), (.long ((1 : Int64) <<< ((Int32.ofNat i) &&& 0x3f).toInt64))]))
      refine gob (fun _ k => XS.lcmp X0.here hx rfl (hb hby d1_12) rfl k) ?_
      show Go _ _ _ _ _ _ _ (s₁.setTop (mkF m 13 #[.val (.int p0), .val (.int x1), .val (.int (Int32.ofNat i))] [(.int (lcmpW ((1 : Int64) <<< ((Int32.ofNat i) &&& 0x3f).toInt64) (x1.toInt64)))]))
      have hd13 : ¬ (((1 : Int64) <<< ((Int32.ofNat i) &&& 0x3f).toInt64) < (x1.toInt64)) := by
        intro q
        rw [Int64.lt_iff_toInt_lt, own_shl i (by omega), hlv] at q
        obtain rfl : i = 31 := by omega
        omega
      refine gob (fun _ k => XS.ifYes X0.here hx rfl (pc0 := 13) (pc' := 22) rfl (hb hby d1_13) rfl ((if0 _ _).trans (flt (mt (lw_lt _ _).mp (hd13 : ¬ (((1 : Int64) <<< ((Int32.ofNat i) &&& 0x3f).toInt64) < (x1.toInt64))))).2.1) (by decide) (by decide) k) ?_
      show Go _ _ _ _ _ _ _ (s₁.setTop (mkF m 22 #[.val (.int p0), .val (.int x1), .val (.int (Int32.ofNat i))] []))
      refine gob (fun _ k => XS.iloadN X0.here hx rfl (hb hby d1_22) rfl k) ?_
      show Go _ _ _ _ _ _ _ (s₁.setTop (mkF m 23 #[.val (.int p0), .val (.int x1), .val (.int (Int32.ofNat i))] [(.int (Int32.ofNat i))]))
      refine gob (fun _ k => XS.iconst X0.here hx rfl (hb hby d1_23) k) ?_
      show Go _ _ _ _ _ _ _ (s₁.setTop (mkF m 24 #[.val (.int p0), .val (.int x1), .val (.int (Int32.ofNat i))] [(.int (1 : Int32)), (.int (Int32.ofNat i))]))
      refine gob (fun _ k => XS.iadd X0.here hx rfl (hb hby d1_24) rfl k) ?_
      show Go _ _ _ _ _ _ _ (s₁.setTop (mkF m 25 #[.val (.int p0), .val (.int x1), .val (.int (Int32.ofNat i))] [(.int ((Int32.ofNat i) + (1 : Int32)))]))
      refine goI X0 hx hlk Bd.returns (hb hby d1_25) ?_ (by decide) (by decide)
      show Q1 Z p0 h0 n0 (some (.int ((Int32.ofNat i) + (1 : Int32)))) s₁.heap _
      have q := hd13
      rw [Int64.lt_iff_toInt_lt, own_shl i (by omega), hlv] at q
      refine ⟨i, by omega, rfl, by omega, ?_, N0, e0⟩
      rcases Nat.eq_zero_or_pos i with q0 | q0
      · exact Or.inl q0
      · exact Or.inr (hj (i - 1) (by omega))
    | succ k ih =>
      intro i hi hj
      refine gob (fun _ k => XS.lconst X0.here hx rfl (hb hby d1_7) k) ?_
      show Go _ _ _ _ _ _ _ (s₁.setTop (mkF m 8 #[.val (.int p0), .val (.int x1), .val (.int (Int32.ofNat i))] [(.long (1 : Int64))]))
      refine gob (fun _ k => XS.iloadN X0.here hx rfl (hb hby d1_8) rfl k) ?_
      show Go _ _ _ _ _ _ _ (s₁.setTop (mkF m 9 #[.val (.int p0), .val (.int x1), .val (.int (Int32.ofNat i))] [(.int (Int32.ofNat i)), (.long (1 : Int64))]))
      refine gob (fun _ k => XS.lshl X0.here hx rfl (hb hby d1_9) rfl k) ?_
      show Go _ _ _ _ _ _ _ (s₁.setTop (mkF m 10 #[.val (.int p0), .val (.int x1), .val (.int (Int32.ofNat i))] [(.long ((1 : Int64) <<< ((Int32.ofNat i) &&& 0x3f).toInt64))]))
      refine gob (fun _ k => XS.iloadN X0.here hx rfl (hb hby d1_10) rfl k) ?_
      show Go _ _ _ _ _ _ _ (s₁.setTop (mkF m 11 #[.val (.int p0), .val (.int x1), .val (.int (Int32.ofNat i))] [(.int x1), (.long ((1 : Int64) <<< ((Int32.ofNat i) &&& 0x3f).toInt64))]))
      refine gob (fun _ k => XS.i2l X0.here hx rfl (hb hby d1_11) rfl k) ?_
      show Go _ _ _ _ _ _ _ (s₁.setTop (mkF m 12 #[.val (.int p0), .val (.int x1), .val (.int (Int32.ofNat i))] [(.long (x1.toInt64)), (.long ((1 : Int64) <<< ((Int32.ofNat i) &&& 0x3f).toInt64))]))
      refine gob (fun _ k => XS.lcmp X0.here hx rfl (hb hby d1_12) rfl k) ?_
      show Go _ _ _ _ _ _ _ (s₁.setTop (mkF m 13 #[.val (.int p0), .val (.int x1), .val (.int (Int32.ofNat i))] [(.int (lcmpW ((1 : Int64) <<< ((Int32.ofNat i) &&& 0x3f).toInt64) (x1.toInt64)))]))
      by_cases hc13_3 : ((1 : Int64) <<< ((Int32.ofNat i) &&& 0x3f).toInt64) < (x1.toInt64)
      · skip
        refine gob (fun _ k => XS.ifNo X0.here hx rfl (hb hby d1_13) rfl ((if0 _ _).trans (tlt ((lw_lt _ _).mpr hc13_3)).2.1) k) ?_
        show Go _ _ _ _ _ _ _ (s₁.setTop (mkF m 16 #[.val (.int p0), .val (.int x1), .val (.int (Int32.ofNat i))] []))
        refine gob (fun _ k => XS.iinc X0.here hx rfl (hb hby d1_16) rfl (l' := #[.val (.int p0), .val (.int x1), .val (.int ((Int32.ofNat i) + (1 : Int32)))]) rfl k) ?_
        show Go _ _ _ _ _ _ _ (s₁.setTop (mkF m 19 #[.val (.int p0), .val (.int x1), .val (.int ((Int32.ofNat i) + (1 : Int32)))] []))
        refine gob (fun _ k => XS.goto X0.here hx rfl (pc0 := 19) (pc' := 7) rfl (hb hby d1_19) (by decide) (by decide) k) ?_
        show Go _ _ _ _ _ _ _ (s₁.setTop (mkF m 7 #[.val (.int p0), .val (.int x1), .val (.int ((Int32.ofNat i) + (1 : Int32)))] []))
        rw [own_inc]
        exact ih (i + 1) (by omega) (fun j hj' => by rcases Nat.lt_succ_iff_lt_or_eq.mp hj' with q | q; exact hj j q; subst q; exact (by have q := hc13_3; rw [Int64.lt_iff_toInt_lt, own_shl j (by omega), hlv] at q; exact q))
      · skip
        refine gob (fun _ k => XS.ifYes X0.here hx rfl (pc0 := 13) (pc' := 22) rfl (hb hby d1_13) rfl ((if0 _ _).trans (flt (mt (lw_lt _ _).mp hc13_3)).2.1) (by decide) (by decide) k) ?_
        show Go _ _ _ _ _ _ _ (s₁.setTop (mkF m 22 #[.val (.int p0), .val (.int x1), .val (.int (Int32.ofNat i))] []))
        refine gob (fun _ k => XS.iloadN X0.here hx rfl (hb hby d1_22) rfl k) ?_
        show Go _ _ _ _ _ _ _ (s₁.setTop (mkF m 23 #[.val (.int p0), .val (.int x1), .val (.int (Int32.ofNat i))] [(.int (Int32.ofNat i))]))
        refine gob (fun _ k => XS.iconst X0.here hx rfl (hb hby d1_23) k) ?_
        show Go _ _ _ _ _ _ _ (s₁.setTop (mkF m 24 #[.val (.int p0), .val (.int x1), .val (.int (Int32.ofNat i))] [(.int (1 : Int32)), (.int (Int32.ofNat i))]))
        refine gob (fun _ k => XS.iadd X0.here hx rfl (hb hby d1_24) rfl k) ?_
        show Go _ _ _ _ _ _ _ (s₁.setTop (mkF m 25 #[.val (.int p0), .val (.int x1), .val (.int (Int32.ofNat i))] [(.int ((Int32.ofNat i) + (1 : Int32)))]))
        refine goI X0 hx hlk Bd.returns (hb hby d1_25) ?_ (by decide) (by decide)
        show Q1 Z p0 h0 n0 (some (.int ((Int32.ofNat i) + (1 : Int32)))) s₁.heap _
        have q := hc13_3
        rw [Int64.lt_iff_toInt_lt, own_shl i (by omega), hlv] at q
        refine ⟨i, by omega, rfl, by omega, ?_, N0, e0⟩
        rcases Nat.eq_zero_or_pos i with q0 | q0
        · exact Or.inl q0
        · exact Or.inr (hj (i - 1) (by omega))
  exact loop 31 0 (by omega) (fun j hj => absurd hj (Nat.not_lt_zero j))
theorem pd_0 : parseMethodDescriptor "(I)I" = some ⟨[.int], some .int⟩ := by decide +kernel
theorem ef_0 (m : MethodId) (x0 : Int32) : entryFrame m #[(.int x0)] maxLocals = mkF m 0 #[.val (.int x0), .unset, .unset, .unset, .unset, .unset, .unset, .unset] [] := by first | (simp [entryFrame, mkF, argsToLocals, Value.category, maxLocals]; done) | rfl
def Q0 (Z : State) (p0 : Int32) (h0 : Heap) (n0 : Nat) (v : Option Value) (h : Heap) (L : List Loc) : Prop := v = some (.int 1) ∧ Fr n0 L
theorem la_0_18_2 (p0 : Int32) (n_ : Int32) (hn_ : (((p0 &&& (2147483647 : Int32)) % (2147483628 : Int32)) + (1 : Int32)) = n_) : 1 ≤ n_.toInt := by
  have := rng32 p0
  have := rng32 n_
  have : (1 : Int32).toInt = 1 := by decide
  have : (2147483628 : Int32).toInt = 2147483628 := by decide
  have : (2147483647 : Int32).toInt = 2147483647 := by decide
  have : ((p0 &&& (2147483647 : Int32))).toInt = (p0).toInt % (2 ^ 31 : Nat) := c_mask p0 (2147483647 : Int32) 31 (by decide) (by decide)
  have := c_irem (p0 &&& (2147483647 : Int32)) (2147483628 : Int32) (2147483628) (by decide)
  have := rng32 ((p0 &&& (2147483647 : Int32)) % (2147483628 : Int32))
  have := c_iadd ((p0 &&& (2147483647 : Int32)) % (2147483628 : Int32)) (1 : Int32)
  have := rng32 (((p0 &&& (2147483647 : Int32)) % (2147483628 : Int32)) + (1 : Int32))
  try (simp only [Int32.lt_iff_toInt_lt, Int32.le_iff_toInt_le, Int64.lt_iff_toInt_lt, Int64.le_iff_toInt_le, ← Int32.toInt_inj, ← Int64.toInt_inj, ne_eq] at *)
  omega
theorem la_0_18_3 (p0 : Int32) (n_ : Int32) (hn_ : (((p0 &&& (2147483647 : Int32)) % (2147483628 : Int32)) + (1 : Int32)) = n_) : n_.toInt ≤ 2147483628 := by
  have := rng32 p0
  have := rng32 n_
  have : (1 : Int32).toInt = 1 := by decide
  have : (2147483628 : Int32).toInt = 2147483628 := by decide
  have : (2147483647 : Int32).toInt = 2147483647 := by decide
  have : ((p0 &&& (2147483647 : Int32))).toInt = (p0).toInt % (2 ^ 31 : Nat) := c_mask p0 (2147483647 : Int32) 31 (by decide) (by decide)
  have := c_irem (p0 &&& (2147483647 : Int32)) (2147483628 : Int32) (2147483628) (by decide)
  have := rng32 ((p0 &&& (2147483647 : Int32)) % (2147483628 : Int32))
  have := c_iadd ((p0 &&& (2147483647 : Int32)) % (2147483628 : Int32)) (1 : Int32)
  have := rng32 (((p0 &&& (2147483647 : Int32)) % (2147483628 : Int32)) + (1 : Int32))
  try (simp only [Int32.lt_iff_toInt_lt, Int32.le_iff_toInt_le, Int64.lt_iff_toInt_lt, Int64.le_iff_toInt_le, ← Int32.toInt_inj, ← Int64.toInt_inj, ne_eq] at *)
  omega
theorem ld_0_31_8 (p0 : Int32) (n_ : Int32) (i4 : Nat) (k_ : Int32) (hn_ : (((p0 &&& (2147483647 : Int32)) % (2147483628 : Int32)) + (1 : Int32)) = n_) (hi5 : i4 ≤ 31) (hi6 : n_.toInt + 19 ≤ 2 ^ i4) (hi7 : i4 = 0 ∨ (2 : Int) ^ (i4 - 1) < n_.toInt + 19) (hk_ : (((Int32.ofNat i4) + (1 : Int32)) - (1 : Int32)) = k_) : ¬ (k_ < (0 : Int32)) := by
  rw [own_dec] at hk_
  subst hk_
  rw [Int32.lt_iff_toInt_lt, own_toInt i4 hi5]
  have : (0 : Int32).toInt = 0 := by decide
  omega
theorem ld_0_38_10 (p0 : Int32) (n_ : Int32) (i4 : Nat) (k_ : Int32) (hn_ : (((p0 &&& (2147483647 : Int32)) % (2147483628 : Int32)) + (1 : Int32)) = n_) (hi5 : i4 ≤ 31) (hi6 : n_.toInt + 19 ≤ 2 ^ i4) (hi7 : i4 = 0 ∨ (2 : Int) ^ (i4 - 1) < n_.toInt + 19) (hk_ : (((Int32.ofNat i4) + (1 : Int32)) - (1 : Int32)) = k_) : ¬ ((31 : Int32) < k_) := by
  rw [own_dec] at hk_
  subst hk_
  rw [Int32.lt_iff_toInt_lt, own_toInt i4 hi5]
  have : (31 : Int32).toInt = 31 := by decide
  omega
theorem ld_0_49_12 (p0 : Int32) (n_ : Int32) (lc_ : Int64) (i4 : Nat) (k_ : Int32) (hn_ : (((p0 &&& (2147483647 : Int32)) % (2147483628 : Int32)) + (1 : Int32)) = n_) (hlc_ : ((n_.toInt64) + (19 : Int64)) = lc_) (hi5 : i4 ≤ 31) (hi6 : n_.toInt + 19 ≤ 2 ^ i4) (hi7 : i4 = 0 ∨ (2 : Int) ^ (i4 - 1) < n_.toInt + 19) (hk_ : (((Int32.ofNat i4) + (1 : Int32)) - (1 : Int32)) = k_) : ¬ (((1 : Int64) <<< (k_ &&& 0x3f).toInt64) < lc_) := by
  rw [own_dec] at hk_
  subst hk_
  rw [Int64.lt_iff_toInt_lt, own_shl i4 hi5]
  have := rng32 p0
  have := rng32 n_
  have := rng64 lc_
  have : (1 : Int32).toInt = 1 := by decide
  have : (19 : Int64).toInt = 19 := by decide
  have : (2147483628 : Int32).toInt = 2147483628 := by decide
  have : (2147483647 : Int32).toInt = 2147483647 := by decide
  have : ((p0 &&& (2147483647 : Int32))).toInt = (p0).toInt % (2 ^ 31 : Nat) := c_mask p0 (2147483647 : Int32) 31 (by decide) (by decide)
  have := c_irem (p0 &&& (2147483647 : Int32)) (2147483628 : Int32) (2147483628) (by decide)
  have := rng32 ((p0 &&& (2147483647 : Int32)) % (2147483628 : Int32))
  have := c_iadd ((p0 &&& (2147483647 : Int32)) % (2147483628 : Int32)) (1 : Int32)
  have := rng32 (((p0 &&& (2147483647 : Int32)) % (2147483628 : Int32)) + (1 : Int32))
  have := c_i2l n_
  have := c_ladd (n_.toInt64) (19 : Int64)
  have := rng64 ((n_.toInt64) + (19 : Int64))
  simp only [← Int32.toInt_inj, ← Int64.toInt_inj] at *
  omega
theorem ld_0_72_24 (p0 : Int32) (n_ : Int32) (lc_ : Int64) (i4 : Nat) (k_ : Int32) (hn_ : (((p0 &&& (2147483647 : Int32)) % (2147483628 : Int32)) + (1 : Int32)) = n_) (hlc_ : ((n_.toInt64) + (19 : Int64)) = lc_) (hi5 : i4 ≤ 31) (hi6 : n_.toInt + 19 ≤ 2 ^ i4) (hi7 : i4 = 0 ∨ (2 : Int) ^ (i4 - 1) < n_.toInt + 19) (hk_ : (((Int32.ofNat i4) + (1 : Int32)) - (1 : Int32)) = k_) (hc61_23 : ¬ (k_ = (0 : Int32))) : ((1 : Int64) <<< ((k_ - (1 : Int32)) &&& 0x3f).toInt64) < lc_ := by
  rw [own_dec] at hk_
  subst hk_
  have hz : i4 ≠ 0 := fun q => hc61_23 (by rw [q]; rfl)
  rw [Int64.lt_iff_toInt_lt, own_shl1 i4 hi5 hz]
  have := rng32 p0
  have := rng32 n_
  have := rng64 lc_
  have : (1 : Int32).toInt = 1 := by decide
  have : (19 : Int64).toInt = 19 := by decide
  have : (2147483628 : Int32).toInt = 2147483628 := by decide
  have : (2147483647 : Int32).toInt = 2147483647 := by decide
  have : ((p0 &&& (2147483647 : Int32))).toInt = (p0).toInt % (2 ^ 31 : Nat) := c_mask p0 (2147483647 : Int32) 31 (by decide) (by decide)
  have := c_irem (p0 &&& (2147483647 : Int32)) (2147483628 : Int32) (2147483628) (by decide)
  have := rng32 ((p0 &&& (2147483647 : Int32)) % (2147483628 : Int32))
  have := c_iadd ((p0 &&& (2147483647 : Int32)) % (2147483628 : Int32)) (1 : Int32)
  have := rng32 (((p0 &&& (2147483647 : Int32)) % (2147483628 : Int32)) + (1 : Int32))
  have := c_i2l n_
  have := c_ladd (n_.toInt64) (19 : Int64)
  have := rng64 ((n_.toInt64) + (19 : Int64))
  simp only [← Int32.toInt_inj, ← Int64.toInt_inj] at *
  omega
set_option maxRecDepth 65536 in
set_option maxHeartbeats 40000000 in
theorem rm0 (l : Launch) (Z : State) (a0 : Array Value) (hw : ∀ d ∈ tables_1, d.before a0 Z = true) (ws : List Jvm.Cond) (p0 : Int32) (h0 : Heap) (n0 : Nat) (Z0 : n0 ≤ h0.size) :
    MetFree l x (head1 (Jvm.Cond.code x code maxLocals ret :: ws) room_1) (fun a U => a = #[(.int p0)] ∧ Z.Warmed39 U.vm ∧ U.heap = h0) (fun _ _ _ _ _ => True) (fun _ U o U' => ∃ v L, o = .returned v ∧ Q0 Z p0 h0 n0 v U'.heap L ∧ FrameEnd U o U' L 0 0) := by
  refine MetFree.of_bodySF (plainFor_of_name (by first | (simp [plainName, overriddenIn]; done) | decide +kernel)) hisR ?_
  intro p e s m args below meth c s₁ Bd hml0 hP hK
  obtain ⟨rfl, hZ, hh⟩ := hP
  have hx := Bd.exec
  have hby := Bd.bytes
  have hml : c.maxLocals = 8 := hml0
  have hown : s.vm.findClass "com/example/coevolution/coevolution/learn/PrimitivesDefaultDepthPinLaw" = some m.cls := findClass_of_methodNamed Bd.named
  have hnm := (name_of_methodNamed Bd.named Bd.method).1
  have hlk := BodyLoose.notSynchronized Bd
  have X0 : Stand p l e room_1 s m #[(.int p0)] below meth c s₁ [] 0 0 := Stand.of_body Bd
  have e0 : s₁.heap = h0 := by rw [← hh, Bd.state]; rfl
  have N0 := Fr.nil n0
  show Go p e below s (Q0 Z p0 h0 n0) 0 0 (s₁.setTop (entryFrame m #[(.int p0)] maxLocals))
  rw [ef_0]
  show Go _ _ _ _ _ _ _ (s₁.setTop (mkF m 0 #[.val (.int p0), .unset, .unset, .unset, .unset, .unset, .unset, .unset] []))
  refine gob (fun _ k => XS.iloadN X0.here hx rfl (hb hby at_0) rfl k) ?_
  show Go _ _ _ _ _ _ _ (s₁.setTop (mkF m 1 #[.val (.int p0), .unset, .unset, .unset, .unset, .unset, .unset, .unset] [(.int p0)]))
  refine gob (X0.ldcInt hx hown (mvT hZ (hw _ (List.mem_of_getElem? (i := 0) rfl))) (g := (mkF m 1 #[.val (.int p0), .unset, .unset, .unset, .unset, .unset, .unset, .unset] [(.int p0)])) rfl (hb hby at_1)) ?_
  show Go _ _ _ _ _ _ _ (s₁.setTop (mkF m 3 #[.val (.int p0), .unset, .unset, .unset, .unset, .unset, .unset, .unset] [(.int (2147483647 : Int32)), (.int p0)]))
  refine gob (fun _ k => XS.iand X0.here hx rfl (hb hby at_3) rfl k) ?_
  show Go _ _ _ _ _ _ _ (s₁.setTop (mkF m 4 #[.val (.int p0), .unset, .unset, .unset, .unset, .unset, .unset, .unset] [(.int (p0 &&& (2147483647 : Int32)))]))
  refine gob (X0.ldcInt hx hown (mvT hZ (hw _ (List.mem_of_getElem? (i := 1) rfl))) (g := (mkF m 4 #[.val (.int p0), .unset, .unset, .unset, .unset, .unset, .unset, .unset] [(.int (p0 &&& (2147483647 : Int32)))])) rfl (hb hby at_4)) ?_
  show Go _ _ _ _ _ _ _ (s₁.setTop (mkF m 6 #[.val (.int p0), .unset, .unset, .unset, .unset, .unset, .unset, .unset] [(.int (2147483628 : Int32)), (.int (p0 &&& (2147483647 : Int32)))]))
  refine gob (fun _ k => iremM X0 hx rfl (hb hby at_6) rfl (by decide) k) ?_
  show Go _ _ _ _ _ _ _ (s₁.setTop (mkF m 7 #[.val (.int p0), .unset, .unset, .unset, .unset, .unset, .unset, .unset] [(.int ((p0 &&& (2147483647 : Int32)) % (2147483628 : Int32)))]))
  refine gob (fun _ k => XS.iconst X0.here hx rfl (hb hby at_7) k) ?_
  show Go _ _ _ _ _ _ _ (s₁.setTop (mkF m 8 #[.val (.int p0), .unset, .unset, .unset, .unset, .unset, .unset, .unset] [(.int (1 : Int32)), (.int ((p0 &&& (2147483647 : Int32)) % (2147483628 : Int32)))]))
  refine gob (fun _ k => XS.iadd X0.here hx rfl (hb hby at_8) rfl k) ?_
  show Go _ _ _ _ _ _ _ (s₁.setTop (mkF m 9 #[.val (.int p0), .unset, .unset, .unset, .unset, .unset, .unset, .unset] [(.int (((p0 &&& (2147483647 : Int32)) % (2147483628 : Int32)) + (1 : Int32)))]))
  refine gob (fun _ k => XS.istoreN X0.here hx rfl (hb hby at_9) rfl (l' := #[.val (.int p0), .val (.int (((p0 &&& (2147483647 : Int32)) % (2147483628 : Int32)) + (1 : Int32))), .unset, .unset, .unset, .unset, .unset, .unset]) rfl k) ?_
  show Go _ _ _ _ _ _ _ (s₁.setTop (mkF m 10 #[.val (.int p0), .val (.int (((p0 &&& (2147483647 : Int32)) % (2147483628 : Int32)) + (1 : Int32))), .unset, .unset, .unset, .unset, .unset, .unset] []))
  generalize hn_ : (((p0 &&& (2147483647 : Int32)) % (2147483628 : Int32)) + (1 : Int32)) = n_
  show Go _ _ _ _ _ _ _ (s₁.setTop (mkF m 10 #[.val (.int p0), .val (.int n_), .unset, .unset, .unset, .unset, .unset, .unset] []))
  refine gob (fun _ k => XS.iloadN X0.here hx rfl (hb hby at_10) rfl k) ?_
  show Go _ _ _ _ _ _ _ (s₁.setTop (mkF m 11 #[.val (.int p0), .val (.int n_), .unset, .unset, .unset, .unset, .unset, .unset] [(.int n_)]))
  refine gob (fun _ k => XS.i2l X0.here hx rfl (hb hby at_11) rfl k) ?_
  show Go _ _ _ _ _ _ _ (s₁.setTop (mkF m 12 #[.val (.int p0), .val (.int n_), .unset, .unset, .unset, .unset, .unset, .unset] [(.long (n_.toInt64))]))
  refine gob (X0.ldc2Long hx hown (mvT hZ (hw _ (List.mem_of_getElem? (i := 2) rfl))) (g := (mkF m 12 #[.val (.int p0), .val (.int n_), .unset, .unset, .unset, .unset, .unset, .unset] [(.long (n_.toInt64))])) rfl (hb hby at_12)) ?_
  show Go _ _ _ _ _ _ _ (s₁.setTop (mkF m 15 #[.val (.int p0), .val (.int n_), .unset, .unset, .unset, .unset, .unset, .unset] [(.long (19 : Int64)), (.long (n_.toInt64))]))
  refine gob (fun _ k => XS.ladd X0.here hx rfl (hb hby at_15) rfl k) ?_
  show Go _ _ _ _ _ _ _ (s₁.setTop (mkF m 16 #[.val (.int p0), .val (.int n_), .unset, .unset, .unset, .unset, .unset, .unset] [(.long ((n_.toInt64) + (19 : Int64)))]))
  refine gob (fun _ k => XS.lstoreN X0.here hx rfl (hb hby at_16) rfl (l' := #[.val (.int p0), .val (.int n_), .val (.long ((n_.toInt64) + (19 : Int64))), .second, .unset, .unset, .unset, .unset]) rfl k) ?_
  show Go _ _ _ _ _ _ _ (s₁.setTop (mkF m 17 #[.val (.int p0), .val (.int n_), .val (.long ((n_.toInt64) + (19 : Int64))), .second, .unset, .unset, .unset, .unset] []))
  generalize hlc_ : ((n_.toInt64) + (19 : Int64)) = lc_
  show Go _ _ _ _ _ _ _ (s₁.setTop (mkF m 17 #[.val (.int p0), .val (.int n_), .val (.long lc_), .second, .unset, .unset, .unset, .unset] []))
  refine gob (fun _ k => XS.iloadN X0.here hx rfl (hb hby at_17) rfl k) ?_
  show Go _ _ _ _ _ _ _ (s₁.setTop (mkF m 18 #[.val (.int p0), .val (.int n_), .val (.long lc_), .second, .unset, .unset, .unset, .unset] [(.int n_)]))
  obtain ⟨_, _, ⟨T1, L1, k1, n1⟩, -, X1, ⟨Lc1, hQ1, l1, y1, z1⟩, st1⟩ := Jvm.LawKit.callS X0 hx (y := (⟨"com/example/coevolution/coevolution/learn/Primitives", "defaultDepth", "(I)I"⟩ : MethodName)) hown (mvT hZ (hw _ (List.mem_of_getElem? (i := 3) rfl))) (mvT hZ (hw _ (List.mem_of_getElem? (i := 4) rfl))) (mvT hZ (hw _ (List.mem_of_getElem? (i := 5) rfl))) (mvT hZ (hw _ (List.mem_of_getElem? (i := 6) rfl))) (by decide) (backOf (W := 0) (rm1 l Z a0 hw [] n_ h0 n0 Z0 (la_0_18_2 p0 n_ hn_) (la_0_18_3 p0 n_ hn_)) hZ (hw _ (List.mem_of_getElem? (i := 6) rfl)) (hw _ (List.mem_of_getElem? (i := 5) rfl)) (by decide) (by decide)) (g := (mkF m 18 #[.val (.int p0), .val (.int n_), .val (.long lc_), .second, .unset, .unset, .unset, .unset] [(.int n_)])) rfl (by rw [hml]; rfl) (argsL := [(.int n_)]) (rest := []) (lenOf pd_0 rfl) rfl (by show 2 * 0 + _ ≤ _; exact Nat.le_of_eq rfl) (hb hby at_18) (fun _ _ => ⟨rfl, e0, (by decide : 0 + 0 ≤ _), (by decide : 0 + 0 ≤ _)⟩)
  dsimp only [Pt.U, Pt.locs, Pt.cells, Pt.slots] at X1 l1 y1 z1 st1 hQ1
  subst l1 y1 z1
  obtain ⟨i4, hi5, rfl, hi6, hi7, Nq1, e1⟩ := hQ1
  have N1 := Fr.app N0 Nq1
  refine gob st1 ?_
  show Go _ _ _ _ _ _ _ (T1.setTop (mkF m 21 #[.val (.int p0), .val (.int n_), .val (.long lc_), .second, .unset, .unset, .unset, .unset] [(.int ((Int32.ofNat i4) + (1 : Int32)))]))
  refine gob (fun _ k => XS.istore X1.here hx rfl (hb hby at_21) rfl (l' := #[.val (.int p0), .val (.int n_), .val (.long lc_), .second, .val (.int ((Int32.ofNat i4) + (1 : Int32))), .unset, .unset, .unset]) rfl k) ?_
  show Go _ _ _ _ _ _ _ (T1.setTop (mkF m 23 #[.val (.int p0), .val (.int n_), .val (.long lc_), .second, .val (.int ((Int32.ofNat i4) + (1 : Int32))), .unset, .unset, .unset] []))
  refine gob (fun _ k => XS.iload X1.here hx rfl (hb hby at_23) rfl k) ?_
  show Go _ _ _ _ _ _ _ (T1.setTop (mkF m 25 #[.val (.int p0), .val (.int n_), .val (.long lc_), .second, .val (.int ((Int32.ofNat i4) + (1 : Int32))), .unset, .unset, .unset] [(.int ((Int32.ofNat i4) + (1 : Int32)))]))
  refine gob (fun _ k => XS.iconst X1.here hx rfl (hb hby at_25) k) ?_
  show Go _ _ _ _ _ _ _ (T1.setTop (mkF m 26 #[.val (.int p0), .val (.int n_), .val (.long lc_), .second, .val (.int ((Int32.ofNat i4) + (1 : Int32))), .unset, .unset, .unset] [(.int (1 : Int32)), (.int ((Int32.ofNat i4) + (1 : Int32)))]))
  refine gob (fun _ k => XS.isub X1.here hx rfl (hb hby at_26) rfl k) ?_
  show Go _ _ _ _ _ _ _ (T1.setTop (mkF m 27 #[.val (.int p0), .val (.int n_), .val (.long lc_), .second, .val (.int ((Int32.ofNat i4) + (1 : Int32))), .unset, .unset, .unset] [(.int (((Int32.ofNat i4) + (1 : Int32)) - (1 : Int32)))]))
  refine gob (fun _ k => XS.istore X1.here hx rfl (hb hby at_27) rfl (l' := #[.val (.int p0), .val (.int n_), .val (.long lc_), .second, .val (.int ((Int32.ofNat i4) + (1 : Int32))), .val (.int (((Int32.ofNat i4) + (1 : Int32)) - (1 : Int32))), .unset, .unset]) rfl k) ?_
  show Go _ _ _ _ _ _ _ (T1.setTop (mkF m 29 #[.val (.int p0), .val (.int n_), .val (.long lc_), .second, .val (.int ((Int32.ofNat i4) + (1 : Int32))), .val (.int (((Int32.ofNat i4) + (1 : Int32)) - (1 : Int32))), .unset, .unset] []))
  generalize hk_ : (((Int32.ofNat i4) + (1 : Int32)) - (1 : Int32)) = k_
  show Go _ _ _ _ _ _ _ (T1.setTop (mkF m 29 #[.val (.int p0), .val (.int n_), .val (.long lc_), .second, .val (.int ((Int32.ofNat i4) + (1 : Int32))), .val (.int k_), .unset, .unset] []))
  refine gob (fun _ k => XS.iload X1.here hx rfl (hb hby at_29) rfl k) ?_
  show Go _ _ _ _ _ _ _ (T1.setTop (mkF m 31 #[.val (.int p0), .val (.int n_), .val (.long lc_), .second, .val (.int ((Int32.ofNat i4) + (1 : Int32))), .val (.int k_), .unset, .unset] [(.int k_)]))
  have hd9 : ¬ (k_ < (0 : Int32)) := ld_0_31_8 p0 n_ i4 k_ hn_ hi5 hi6 hi7 hk_
  refine gob (fun _ k => XS.ifNo X1.here hx rfl (hb hby at_31) rfl ((if0 _ _).trans (flt hd9).1) k) ?_
  show Go _ _ _ _ _ _ _ (T1.setTop (mkF m 34 #[.val (.int p0), .val (.int n_), .val (.long lc_), .second, .val (.int ((Int32.ofNat i4) + (1 : Int32))), .val (.int k_), .unset, .unset] []))
  refine gob (fun _ k => XS.iload X1.here hx rfl (hb hby at_34) rfl k) ?_
  show Go _ _ _ _ _ _ _ (T1.setTop (mkF m 36 #[.val (.int p0), .val (.int n_), .val (.long lc_), .second, .val (.int ((Int32.ofNat i4) + (1 : Int32))), .val (.int k_), .unset, .unset] [(.int k_)]))
  refine gob (fun _ k => XS.bipush X1.here hx rfl (hb hby at_36) k) ?_
  show Go _ _ _ _ _ _ _ (T1.setTop (mkF m 38 #[.val (.int p0), .val (.int n_), .val (.long lc_), .second, .val (.int ((Int32.ofNat i4) + (1 : Int32))), .val (.int k_), .unset, .unset] [(.int (31 : Int32)), (.int k_)]))
  have hd11 : ¬ ((31 : Int32) < k_) := ld_0_38_10 p0 n_ i4 k_ hn_ hi5 hi6 hi7 hk_
  refine gob (fun _ k => XS.icmpYes X1.here hx rfl (pc0 := 38) (pc' := 43) rfl (hb hby at_38) rfl (flt hd11).2.2.2 (by decide) (by decide) k) ?_
  show Go _ _ _ _ _ _ _ (T1.setTop (mkF m 43 #[.val (.int p0), .val (.int n_), .val (.long lc_), .second, .val (.int ((Int32.ofNat i4) + (1 : Int32))), .val (.int k_), .unset, .unset] []))
  refine gob (fun _ k => XS.lconst X1.here hx rfl (hb hby at_43) k) ?_
  show Go _ _ _ _ _ _ _ (T1.setTop (mkF m 44 #[.val (.int p0), .val (.int n_), .val (.long lc_), .second, .val (.int ((Int32.ofNat i4) + (1 : Int32))), .val (.int k_), .unset, .unset] [(.long (1 : Int64))]))
  refine gob (fun _ k => XS.iload X1.here hx rfl (hb hby at_44) rfl k) ?_
  show Go _ _ _ _ _ _ _ (T1.setTop (mkF m 46 #[.val (.int p0), .val (.int n_), .val (.long lc_), .second, .val (.int ((Int32.ofNat i4) + (1 : Int32))), .val (.int k_), .unset, .unset] [(.int k_), (.long (1 : Int64))]))
  refine gob (fun _ k => XS.lshl X1.here hx rfl (hb hby at_46) rfl k) ?_
  show Go _ _ _ _ _ _ _ (T1.setTop (mkF m 47 #[.val (.int p0), .val (.int n_), .val (.long lc_), .second, .val (.int ((Int32.ofNat i4) + (1 : Int32))), .val (.int k_), .unset, .unset] [(.long ((1 : Int64) <<< (k_ &&& 0x3f).toInt64))]))
  refine gob (fun _ k => XS.lloadN X1.here hx rfl (hb hby at_47) rfl k) ?_
  show Go _ _ _ _ _ _ _ (T1.setTop (mkF m 48 #[.val (.int p0), .val (.int n_), .val (.long lc_), .second, .val (.int ((Int32.ofNat i4) + (1 : Int32))), .val (.int k_), .unset, .unset] [(.long lc_), (.long ((1 : Int64) <<< (k_ &&& 0x3f).toInt64))]))
  refine gob (fun _ k => XS.lcmp X1.here hx rfl (hb hby at_48) rfl k) ?_
  show Go _ _ _ _ _ _ _ (T1.setTop (mkF m 49 #[.val (.int p0), .val (.int n_), .val (.long lc_), .second, .val (.int ((Int32.ofNat i4) + (1 : Int32))), .val (.int k_), .unset, .unset] [(.int (lcmpW ((1 : Int64) <<< (k_ &&& 0x3f).toInt64) lc_))]))
  have hd13 : ¬ (((1 : Int64) <<< (k_ &&& 0x3f).toInt64) < lc_) := ld_0_49_12 p0 n_ lc_ i4 k_ hn_ hlc_ hi5 hi6 hi7 hk_
  refine gob (fun _ k => XS.ifNo X1.here hx rfl (hb hby at_49) rfl ((if0 _ _).trans (flt (mt (lw_lt _ _).mp hd13)).1) k) ?_
  show Go _ _ _ _ _ _ _ (T1.setTop (mkF m 52 #[.val (.int p0), .val (.int n_), .val (.long lc_), .second, .val (.int ((Int32.ofNat i4) + (1 : Int32))), .val (.int k_), .unset, .unset] []))
  refine gob (fun _ k => XS.iconst X1.here hx rfl (hb hby at_52) k) ?_
  show Go _ _ _ _ _ _ _ (T1.setTop (mkF m 53 #[.val (.int p0), .val (.int n_), .val (.long lc_), .second, .val (.int ((Int32.ofNat i4) + (1 : Int32))), .val (.int k_), .unset, .unset] [(.int (1 : Int32))]))
  refine gob (fun _ k => XS.goto X1.here hx rfl (pc0 := 53) (pc' := 57) rfl (hb hby at_53) (by decide) (by decide) k) ?_
  show Go _ _ _ _ _ _ _ (T1.setTop (mkF m 57 #[.val (.int p0), .val (.int n_), .val (.long lc_), .second, .val (.int ((Int32.ofNat i4) + (1 : Int32))), .val (.int k_), .unset, .unset] [(.int (1 : Int32))]))
  refine gob (fun _ k => XS.istore X1.here hx rfl (hb hby at_57) rfl (l' := #[.val (.int p0), .val (.int n_), .val (.long lc_), .second, .val (.int ((Int32.ofNat i4) + (1 : Int32))), .val (.int k_), .val (.int (1 : Int32)), .unset]) rfl k) ?_
  show Go _ _ _ _ _ _ _ (T1.setTop (mkF m 59 #[.val (.int p0), .val (.int n_), .val (.long lc_), .second, .val (.int ((Int32.ofNat i4) + (1 : Int32))), .val (.int k_), .val (.int (1 : Int32)), .unset] []))
  refine gob (fun _ k => XS.iload X1.here hx rfl (hb hby at_59) rfl k) ?_
  show Go _ _ _ _ _ _ _ (T1.setTop (mkF m 61 #[.val (.int p0), .val (.int n_), .val (.long lc_), .second, .val (.int ((Int32.ofNat i4) + (1 : Int32))), .val (.int k_), .val (.int (1 : Int32)), .unset] [(.int k_)]))
  have join75_17 : ∀ (T18 : State) (lj19 : List Loc) , Stand p l e room_1 s m #[(.int p0)] below meth c T18 lj19 0 0 → T18.heap = h0 → Fr n0 lj19 → Go p e below s (Q0 Z p0 h0 n0) 0 0 (T18.setTop (mkF m 75 #[.val (.int p0), .val (.int n_), .val (.long lc_), .second, .val (.int ((Int32.ofNat i4) + (1 : Int32))), .val (.int k_), .val (.int (1 : Int32)), .unset] [])) := by
    intro T18 lj19  X20 e21 N22 
    show Go _ _ _ _ _ _ _ (T18.setTop (mkF m 75 #[.val (.int p0), .val (.int n_), .val (.long lc_), .second, .val (.int ((Int32.ofNat i4) + (1 : Int32))), .val (.int k_), .val (.int (1 : Int32)), .unset] []))
    refine gob (fun _ k => XS.iconst X20.here hx rfl (hb hby at_75) k) ?_
    show Go _ _ _ _ _ _ _ (T18.setTop (mkF m 76 #[.val (.int p0), .val (.int n_), .val (.long lc_), .second, .val (.int ((Int32.ofNat i4) + (1 : Int32))), .val (.int k_), .val (.int (1 : Int32)), .unset] [(.int (1 : Int32))]))
    refine gob (fun _ k => XS.goto X20.here hx rfl (pc0 := 76) (pc' := 80) rfl (hb hby at_76) (by decide) (by decide) k) ?_
    show Go _ _ _ _ _ _ _ (T18.setTop (mkF m 80 #[.val (.int p0), .val (.int n_), .val (.long lc_), .second, .val (.int ((Int32.ofNat i4) + (1 : Int32))), .val (.int k_), .val (.int (1 : Int32)), .unset] [(.int (1 : Int32))]))
    refine gob (fun _ k => XS.istore X20.here hx rfl (hb hby at_80) rfl (l' := #[.val (.int p0), .val (.int n_), .val (.long lc_), .second, .val (.int ((Int32.ofNat i4) + (1 : Int32))), .val (.int k_), .val (.int (1 : Int32)), .val (.int (1 : Int32))]) rfl k) ?_
    show Go _ _ _ _ _ _ _ (T18.setTop (mkF m 82 #[.val (.int p0), .val (.int n_), .val (.long lc_), .second, .val (.int ((Int32.ofNat i4) + (1 : Int32))), .val (.int k_), .val (.int (1 : Int32)), .val (.int (1 : Int32))] []))
    refine gob (fun _ k => XS.iload X20.here hx rfl (hb hby at_82) rfl k) ?_
    show Go _ _ _ _ _ _ _ (T18.setTop (mkF m 84 #[.val (.int p0), .val (.int n_), .val (.long lc_), .second, .val (.int ((Int32.ofNat i4) + (1 : Int32))), .val (.int k_), .val (.int (1 : Int32)), .val (.int (1 : Int32))] [(.int (1 : Int32))]))
    refine gob (fun _ k => XS.ifNo X20.here hx rfl (hb hby at_84) rfl ((if0 _ _).trans (feq (by decide : ¬ ((1 : Int32) = (0 : Int32)))).1) k) ?_
    show Go _ _ _ _ _ _ _ (T18.setTop (mkF m 87 #[.val (.int p0), .val (.int n_), .val (.long lc_), .second, .val (.int ((Int32.ofNat i4) + (1 : Int32))), .val (.int k_), .val (.int (1 : Int32)), .val (.int (1 : Int32))] []))
    refine gob (fun _ k => XS.iload X20.here hx rfl (hb hby at_87) rfl k) ?_
    show Go _ _ _ _ _ _ _ (T18.setTop (mkF m 89 #[.val (.int p0), .val (.int n_), .val (.long lc_), .second, .val (.int ((Int32.ofNat i4) + (1 : Int32))), .val (.int k_), .val (.int (1 : Int32)), .val (.int (1 : Int32))] [(.int (1 : Int32))]))
    refine gob (fun _ k => XS.ifNo X20.here hx rfl (hb hby at_89) rfl ((if0 _ _).trans (feq (by decide : ¬ ((1 : Int32) = (0 : Int32)))).1) k) ?_
    show Go _ _ _ _ _ _ _ (T18.setTop (mkF m 92 #[.val (.int p0), .val (.int n_), .val (.long lc_), .second, .val (.int ((Int32.ofNat i4) + (1 : Int32))), .val (.int k_), .val (.int (1 : Int32)), .val (.int (1 : Int32))] []))
    refine gob (fun _ k => XS.iconst X20.here hx rfl (hb hby at_92) k) ?_
    show Go _ _ _ _ _ _ _ (T18.setTop (mkF m 93 #[.val (.int p0), .val (.int n_), .val (.long lc_), .second, .val (.int ((Int32.ofNat i4) + (1 : Int32))), .val (.int k_), .val (.int (1 : Int32)), .val (.int (1 : Int32))] [(.int (1 : Int32))]))
    refine gob (fun _ k => XS.goto X20.here hx rfl (pc0 := 93) (pc' := 97) rfl (hb hby at_93) (by decide) (by decide) k) ?_
    show Go _ _ _ _ _ _ _ (T18.setTop (mkF m 97 #[.val (.int p0), .val (.int n_), .val (.long lc_), .second, .val (.int ((Int32.ofNat i4) + (1 : Int32))), .val (.int k_), .val (.int (1 : Int32)), .val (.int (1 : Int32))] [(.int (1 : Int32))]))
    refine goZ X20 hx hlk (t := .boolean) Bd.returns (by simp) (hb hby at_97) (z' := (1 : Int32)) rfl ?_ (by decide) (by decide)
    show Q0 Z p0 h0 n0 (some (.int (1 : Int32))) T18.heap _
    exact ⟨rfl, N22⟩
  by_cases hc61_23 : k_ = (0 : Int32)
  · skip
    refine gob (fun _ k => XS.ifYes X1.here hx rfl (pc0 := 61) (pc' := 75) rfl (hb hby at_61) rfl ((if0 _ _).trans (teq hc61_23).1) (by decide) (by decide) k) ?_
    show Go _ _ _ _ _ _ _ (T1.setTop (mkF m 75 #[.val (.int p0), .val (.int n_), .val (.long lc_), .second, .val (.int ((Int32.ofNat i4) + (1 : Int32))), .val (.int k_), .val (.int (1 : Int32)), .unset] []))
    exact join75_17 _ _  X1 e1 N1 
  · skip
    refine gob (fun _ k => XS.ifNo X1.here hx rfl (hb hby at_61) rfl ((if0 _ _).trans (feq hc61_23).1) k) ?_
    show Go _ _ _ _ _ _ _ (T1.setTop (mkF m 64 #[.val (.int p0), .val (.int n_), .val (.long lc_), .second, .val (.int ((Int32.ofNat i4) + (1 : Int32))), .val (.int k_), .val (.int (1 : Int32)), .unset] []))
    refine gob (fun _ k => XS.lconst X1.here hx rfl (hb hby at_64) k) ?_
    show Go _ _ _ _ _ _ _ (T1.setTop (mkF m 65 #[.val (.int p0), .val (.int n_), .val (.long lc_), .second, .val (.int ((Int32.ofNat i4) + (1 : Int32))), .val (.int k_), .val (.int (1 : Int32)), .unset] [(.long (1 : Int64))]))
    refine gob (fun _ k => XS.iload X1.here hx rfl (hb hby at_65) rfl k) ?_
    show Go _ _ _ _ _ _ _ (T1.setTop (mkF m 67 #[.val (.int p0), .val (.int n_), .val (.long lc_), .second, .val (.int ((Int32.ofNat i4) + (1 : Int32))), .val (.int k_), .val (.int (1 : Int32)), .unset] [(.int k_), (.long (1 : Int64))]))
    refine gob (fun _ k => XS.iconst X1.here hx rfl (hb hby at_67) k) ?_
    show Go _ _ _ _ _ _ _ (T1.setTop (mkF m 68 #[.val (.int p0), .val (.int n_), .val (.long lc_), .second, .val (.int ((Int32.ofNat i4) + (1 : Int32))), .val (.int k_), .val (.int (1 : Int32)), .unset] [(.int (1 : Int32)), (.int k_), (.long (1 : Int64))]))
    refine gob (fun _ k => XS.isub X1.here hx rfl (hb hby at_68) rfl k) ?_
    show Go _ _ _ _ _ _ _ (T1.setTop (mkF m 69 #[.val (.int p0), .val (.int n_), .val (.long lc_), .second, .val (.int ((Int32.ofNat i4) + (1 : Int32))), .val (.int k_), .val (.int (1 : Int32)), .unset] [(.int (k_ - (1 : Int32))), (.long (1 : Int64))]))
    refine gob (fun _ k => XS.lshl X1.here hx rfl (hb hby at_69) rfl k) ?_
    show Go _ _ _ _ _ _ _ (T1.setTop (mkF m 70 #[.val (.int p0), .val (.int n_), .val (.long lc_), .second, .val (.int ((Int32.ofNat i4) + (1 : Int32))), .val (.int k_), .val (.int (1 : Int32)), .unset] [(.long ((1 : Int64) <<< ((k_ - (1 : Int32)) &&& 0x3f).toInt64))]))
    refine gob (fun _ k => XS.lloadN X1.here hx rfl (hb hby at_70) rfl k) ?_
    show Go _ _ _ _ _ _ _ (T1.setTop (mkF m 71 #[.val (.int p0), .val (.int n_), .val (.long lc_), .second, .val (.int ((Int32.ofNat i4) + (1 : Int32))), .val (.int k_), .val (.int (1 : Int32)), .unset] [(.long lc_), (.long ((1 : Int64) <<< ((k_ - (1 : Int32)) &&& 0x3f).toInt64))]))
    refine gob (fun _ k => XS.lcmp X1.here hx rfl (hb hby at_71) rfl k) ?_
    show Go _ _ _ _ _ _ _ (T1.setTop (mkF m 72 #[.val (.int p0), .val (.int n_), .val (.long lc_), .second, .val (.int ((Int32.ofNat i4) + (1 : Int32))), .val (.int k_), .val (.int (1 : Int32)), .unset] [(.int (lcmpW ((1 : Int64) <<< ((k_ - (1 : Int32)) &&& 0x3f).toInt64) lc_))]))
    have hd25 : ((1 : Int64) <<< ((k_ - (1 : Int32)) &&& 0x3f).toInt64) < lc_ := ld_0_72_24 p0 n_ lc_ i4 k_ hn_ hlc_ hi5 hi6 hi7 hk_ hc61_23
    refine gob (fun _ k => XS.ifNo X1.here hx rfl (hb hby at_72) rfl ((if0 _ _).trans (tlt ((lw_lt _ _).mpr hd25)).2.1) k) ?_
    show Go _ _ _ _ _ _ _ (T1.setTop (mkF m 75 #[.val (.int p0), .val (.int n_), .val (.long lc_), .second, .val (.int ((Int32.ofNat i4) + (1 : Int32))), .val (.int k_), .val (.int (1 : Int32)), .unset] []))
    exact join75_17 _ _  X1 e1 N1 
set_option maxRecDepth 65536 in
set_option maxHeartbeats 40000000 in
theorem comes_1 {Post : Tables → Env → Array Value → State → Outcome → State → Prop} (hpost : ∀ tb e args s v u, (limb_1_1.after args s (.returned v) u = true ∧ limb_1_2.after args s (.returned v) u = true ∧ True) → FrameEnd s (.returned v) u (Jvm.fieldLocs frame_1_writes args s ++ Jvm.arrayLocs frame_1_arrays args s ++ Jvm.staticLocs frame_1_statics s) 0 0 → Post tb e args s (.returned v) u) :
    ArmFor flags0 classFile x code maxLocals ret World_1 tables_1 room_1 Calls_1 rest_1 Pre_1 Post := by
  intro l hfl _ _ p e ha hc hk s m args below hf hA hF happ hP
  obtain ⟨hcalls, hrest, hpre⟩ := hP
  obtain ⟨-, -, -, hnamed, -, -, -, hat⟩ := (Spec.applies_iff hf).mp happ
  obtain ⟨hg, hn⟩ := and_e (Cond.before_iff.mp (show (Jvm.Cond.and given_1 narrow_1).before args s = true from hpre))
  obtain ⟨g1, g2⟩ := and_e hg
  obtain ⟨w0, rfl⟩ : ∃ w0 : Value, args = #[w0] := by
    have hs : args.size = 1 := by simpa [Cond.value, given_1] using g1
    obtain ⟨L⟩ := args
    match L, hs with
    | [w0], _ => exact ⟨w0, rfl⟩
  have hw := fun d (hd : d ∈ tables_1) => atoms_spec (ws := Jvm.Cond.code x code maxLocals ret :: tables_1) hat d (List.mem_cons_of_mem _ hd)
  have hfit : Fit s := fun {y c} hc i hi => by
    obtain ⟨ha, rfl⟩ := Array.getElem?_eq_some_iff.mp hc
    have q := List.all_eq_true.mp ((Array.all_eq_true_iff_forall_mem.mp hF) _ (Array.getElem_mem ha)) i (List.mem_range.mpr hi)
    simpa [Array.getElem?_eq_getElem hi] using q
  obtain ⟨i0, ei0⟩ := is_v g2
  obtain rfl : w0 = (.int i0) := Option.some.inj ei0
  obtain ⟨n, o, h1, h2, h3, _, L, rfl, ⟨rfl, N⟩, hq⟩ := rm0 l s _ hw tables_1 i0 s.heap s.heap.size (Nat.le_refl _)  p e ha hc hk s m _ below hf ((Spec.applies_iff_loose hf).mp happ).1 ⟨rfl, State.Warmed39.refl s, rfl⟩ trivial
  exact ⟨n, _, h1, h2, h3, hpost _ _ _ _ _ _ ⟨Cond.after_iff.mpr rfl, Cond.after_iff.mpr (eq_i res_at (Term.int_eval (1)) rfl), trivial⟩ ⟨hq.1, hq.2.1, (hq.2.2.sift fun y hy => Or.inr (N y hy)).mono (by decide) (by decide)⟩⟩
theorem main_1_1 : Claimed_1_1 := comes_1 fun _ _ _ _ _ _ h hF => ⟨h.1, hF⟩
theorem main_1_2 : Claimed_1_2 := comes_1 fun _ _ _ _ _ _ h hF => ⟨h.2.1, hF⟩
end Jvm.Pilot.@@N@@
namespace Jvm.Pilot.@@N@@
open Jvm Jvm.ClassFile Sem Op Lib Jvm.Free Jvm.Stand Jvm.Pilot.@@N@@.Jvm.D
/-! MADE BY PROGRAM (witnessworld.py) out of the Statement's table words and the real class files: 9 classes; the members and pool entries that the words name. The judged class is class 1, her method 1. -/
namespace start1
open Jvm.ClassFile
def u (s : String) : CpInfo := .utf8 (stringToUtf16 s)
/-- a pool by its gaps: so many unusable entries, then the entry; so many at the end -/
def gap : Nat → List CpInfo → List CpInfo
  | 0, r => r
  | n + 1, r => .unusable :: gap n r
def poolList (es : List (Nat × CpInfo)) (last : Nat) : List CpInfo := es.foldr (fun e r => gap e.1 (e.2 :: r)) (gap last [])
def pool (es : List (Nat × CpInfo)) (last : Nat) : Array CpInfo := ⟨poolList es last⟩
def fileOf (pool : Array CpInfo) (this : Nat) (attrs : Array Attribute := #[]) (ms : Array MethodInfo := #[]) (fl : Nat := 33) (sup : Nat := 0) (ifs : Array Nat := #[]) (fds : Array FieldInfo := #[]) : ClassFile where
  minorVersion := 0
  majorVersion := 65
  constantPool := pool
  accessFlags := fl
  thisClass := this
  superClass := sup
  interfaces := ifs
  fields := fds
  methods := ms
  attributes := attrs
def plain (name : String) (sup : Option ClassId) : Class where
  name := name
  kind := .ordinary
  loader := none
  accessFlags := 33
  super := sup
  interfaces := #[]
  cf := none
  fields := #[]
  methods := #[]
  instanceTypes := #[]
  staticTypes := #[]
  resolved := #[]
  callSites := []
  init := .initialized
  statics := none
  mirror := none

def pool0 : Array CpInfo := pool [(5, u "<init>"), (0, u "()V"), (1, .class_ 10), (1, u "java/lang/Object")] 113

def k0m0 : Method := { name := "<init>", desc := "()V", sig := { parameters := [], returnType := none }, accessFlags := 1, code := none }
/-- java/lang/Object -/
def k0 : Class := { plain "java/lang/Object" none with
  accessFlags := 33
  interfaces := #[]
  cf := some (fileOf pool0 8 #[] #[{ accessFlags := 1, nameIndex := 5, descriptorIndex := 6, attributes := #[] }] 33 0 #[] #[])
  fields := #[]
  methods := #[k0m0]
  instanceTypes := #[]
  staticTypes := #[]
  resolved := Array.replicate 124 none
  statics := none }

def pool1 : Array CpInfo := pool [(2, .class_ 4), (1, u "java/lang/Object"), (0, u "<init>"), (0, u "()V"), (0, .integer 2147483647), (2, .integer 2147483628), (0, .long 19), (1, .methodref 14 15), (0, .class_ 16), (0, .nameAndType 17 18), (0, u "com/example/coevolution/coevolution/learn/Primitives"), (0, u "defaultDepth"), (0, u "(I)I"), (0, .class_ 20), (0, u "com/example/coevolution/coevolution/learn/PrimitivesDefaultDepthPinLaw"), (2, u "law"), (0, u "(I)Z")] 3

def k1m0 : Method := { name := "<init>", desc := "()V", sig := { parameters := [], returnType := none }, accessFlags := 2, code := none }
def k1c1 : Code := { maxStack := 4, maxLocals := 8, code := code, exceptionTable := #[], attributes := #[] }
def k1m1 : Method := { name := "law", desc := "(I)Z", sig := { parameters := [.int], returnType := some .boolean }, accessFlags := 9, code := some k1c1 }
/-- com/example/coevolution/coevolution/learn/PrimitivesDefaultDepthPinLaw -/
def k1 : Class := { plain "com/example/coevolution/coevolution/learn/PrimitivesDefaultDepthPinLaw" (some 0) with
  accessFlags := 49
  interfaces := #[]
  cf := some (fileOf pool1 19 #[] #[{ accessFlags := 2, nameIndex := 5, descriptorIndex := 6, attributes := #[] }, { accessFlags := 9, nameIndex := 23, descriptorIndex := 24, attributes := #[] }] 49 2 #[] #[])
  fields := #[]
  methods := #[k1m0, k1m1]
  instanceTypes := #[]
  staticTypes := #[]
  resolved := Array.replicate 28 none
  statics := none }

def pool2 : Array CpInfo := pool [(2, .class_ 4), (1, u "java/lang/Object"), (13, .class_ 19), (0, u "com/example/coevolution/coevolution/learn/Primitives"), (19, u "featureCount"), (0, u "I"), (8, u "leaves"), (0, u "Ljava/util/List;"), (26, u "(I)I"), (8, u "OPERATORS"), (5, u "UNARY"), (2, u "BINARY"), (103, u "MAX_DEPTH"), (4, u "CONSTANT_COUNT"), (1, u "GROW_LEAF_PROBABILITY"), (0, u "D"), (4, u "defaultDepth")] 58

def k2c0 : Code := { maxStack := 4, maxLocals := 3, code := prog_45_method_3_code, exceptionTable := #[], attributes := #[] }
def k2m0 : Method := { name := "defaultDepth", desc := "(I)I", sig := { parameters := [.int], returnType := some .int }, accessFlags := 9, code := some k2c0 }
/-- com/example/coevolution/coevolution/learn/Primitives -/
def k2 : Class := { plain "com/example/coevolution/coevolution/learn/Primitives" (some 0) with
  accessFlags := 49
  interfaces := #[]
  cf := some (fileOf pool2 18 #[] #[{ accessFlags := 9, nameIndex := 212, descriptorIndex := 77, attributes := #[] }] 49 2 #[] #[{ accessFlags := 25, nameIndex := 199, descriptorIndex := 40, attributes := #[] }, { accessFlags := 24, nameIndex := 86, descriptorIndex := 50, attributes := #[] }, { accessFlags := 26, nameIndex := 92, descriptorIndex := 50, attributes := #[] }, { accessFlags := 26, nameIndex := 95, descriptorIndex := 50, attributes := #[] }, { accessFlags := 26, nameIndex := 204, descriptorIndex := 40, attributes := #[] }, { accessFlags := 26, nameIndex := 206, descriptorIndex := 207, attributes := #[] }, { accessFlags := 18, nameIndex := 39, descriptorIndex := 40, attributes := #[] }, { accessFlags := 18, nameIndex := 49, descriptorIndex := 50, attributes := #[] }])
  fields := #[{ name := "MAX_DEPTH", type := .int, accessFlags := 25, slot := 0, constantValue := 0 }, { name := "OPERATORS", type := (.object "java/util/List"), accessFlags := 24, slot := 1, constantValue := 0 }, { name := "UNARY", type := (.object "java/util/List"), accessFlags := 26, slot := 2, constantValue := 0 }, { name := "BINARY", type := (.object "java/util/List"), accessFlags := 26, slot := 3, constantValue := 0 }, { name := "CONSTANT_COUNT", type := .int, accessFlags := 26, slot := 4, constantValue := 0 }, { name := "GROW_LEAF_PROBABILITY", type := .double, accessFlags := 26, slot := 5, constantValue := 0 }, { name := "featureCount", type := .int, accessFlags := 18, slot := 0, constantValue := 0 }, { name := "leaves", type := (.object "java/util/List"), accessFlags := 18, slot := 1, constantValue := 0 }]
  methods := #[k2m0]
  instanceTypes := #[.int, (.object "java/util/List")]
  staticTypes := #[.int, (.object "java/util/List"), (.object "java/util/List"), (.object "java/util/List"), .int, .double]
  resolved := Array.replicate 271 none
  statics := none }

def pool3 : Array CpInfo := pool [(1, u "java/lang/Cloneable"), (0, .class_ 1), (0, u "java/lang/Object"), (0, .class_ 3)] 3

/-- java/lang/Cloneable -/
def k3 : Class := { plain "java/lang/Cloneable" (some 0) with
  accessFlags := 1537
  interfaces := #[]
  cf := some (fileOf pool3 2 #[] #[] 1537 4 #[] #[])
  fields := #[]
  methods := #[]
  instanceTypes := #[]
  staticTypes := #[]
  resolved := Array.replicate 8 none
  statics := none }

def pool4 : Array CpInfo := pool [(1, u "java/io/Serializable"), (0, .class_ 1), (0, u "java/lang/Object"), (0, .class_ 3)] 3

/-- java/io/Serializable -/
def k4 : Class := { plain "java/io/Serializable" (some 0) with
  accessFlags := 1537
  interfaces := #[]
  cf := some (fileOf pool4 2 #[] #[] 1537 4 #[] #[])
  fields := #[]
  methods := #[]
  instanceTypes := #[]
  staticTypes := #[]
  resolved := Array.replicate 8 none
  statics := none }

/-- the primitive byte -/
def k5 : Class := { plain "byte" none with kind := .primitive 'B', accessFlags := 0x411 }
/-- [B -/
def k6 : Class := { plain "[B" (some 0) with kind := .array 5 .byte, interfaces := #[3, 4], accessFlags := 1041 }

/-- the primitive int -/
def k7 : Class := { plain "int" none with kind := .primitive 'I', accessFlags := 0x411 }
/-- [I -/
def k8 : Class := { plain "[I" (some 0) with kind := .array 7 .int, interfaces := #[3, 4], accessFlags := 1041 }

def heap : Heap := #[]
def classes : Array Class := #[k0, k1, k2, k3, k4, k5, k6, k7, k8]
def interned : List (Array UInt16 × Addr) := []
def slotsUsed : Nat := 0
def theMethod : MethodId := ⟨1, 1⟩
def args0 : Array Value := #[.int 5]
def aboutOver (below : List Frame) : State where
  vm := { classes := classes, interned := interned.toArray }
  heap := heap
  slotsUsed := slotsUsed
  threads := #[{ frames := .invoking theMethod args0 :: below }]
def below0 : List Frame := [.native { method := ⟨0, 0⟩, args := #[] }]
def about1 : State := aboutOver below0
def p0 : Program := .bare "" "" ""
def e0 : Env := launch0.env 0 0 0
theorem w_frames : about1.frames = Frame.invoking theMethod args0 :: below0 := rfl
set_option maxRecDepth 65536 in
theorem w_args : argsFit about1.vm theMethod args0 = true := by decide +kernel
set_option maxRecDepth 65536 in
theorem w_heap : heapFits about1 = true := by decide +kernel
set_option maxRecDepth 65536 in
theorem w_runnable : about1.curStatus? = some .runnable := by decide +kernel
set_option maxRecDepth 65536 in
theorem w_alone : about1.alone = true := by decide +kernel
set_option maxRecDepth 65536 in
theorem w_named : about1.methodNamed? x = some theMethod := by decide +kernel
set_option maxRecDepth 65536 in
theorem w_hears : about1.hears theMethod below0 = true := by decide +kernel
set_option maxRecDepth 65536 in
theorem w_ripe : about1.ripe theMethod args0 below0 = true := by decide +kernel
theorem w_running : about1.status = .running := rfl
set_option maxRecDepth 65536 in
theorem w_room : about1.hasRoom e0.platform room_1 = true :=
  launch0.hasRoom_least _ room_1 (by decide +kernel) (by decide +kernel) (by decide +kernel) (by decide +kernel) (by decide +kernel) (by decide +kernel)
theorem allAtoms_all (ts : List Jvm.Cond) (a : Array Jvm.Value) (st : Jvm.State) : (allAtoms ts).before a st = ts.all (fun c => c.before a st) := by
  induction ts with
  | nil => rfl
  | cons c t ih =>
    show (Jvm.Cond.and c (allAtoms t)).before a st = _
    rw [Jvm.Cond.before_and, ih, List.all_cons]
def words1 : List Jvm.Cond := Jvm.Cond.code x code maxLocals ret :: tables_1
/-- a 'code' word, met by the world's own term for the bytes: nothing is compared byte by byte -/
theorem code_word {y : MethodName} {bytes : ByteArray} {mx : Nat} {rt : Option FieldType} {a : Array Value} {s : State} {m : MethodId} {meth : Method} {c : Code} (h1 : s.methodNamed? y = some m) (h2 : s.vm.method? m = some meth) (h3 : meth.code = some c) (h4 : c.code = bytes)
    (h5 : (c.maxLocals == mx && c.exceptionTable.isEmpty && decide (c.maxStack ≤ mostOperands) && decide (meth.sig.returnType = rt) && !meth.locks && decide (parseMethodDescriptor y.desc = some meth.sig)) = true) : (Jvm.Cond.code y bytes mx rt).before a s = true := by
  simp only [Bool.and_eq_true, beq_iff_eq, Bool.not_eq_true', decide_eq_true_eq] at h5
  obtain ⟨⟨⟨⟨⟨g1, g2⟩, g3⟩, g4⟩, g5⟩, g6⟩ := h5
  simp [Cond.before, Cond.holds, Cond.value, h1, h2, h3, h4, g1, g2, g3, g4, g5, g6]
def isCode : Jvm.Cond → Bool
  | .code _ _ _ _ => true
  | _ => false
theorem all_split {L : List Jvm.Cond} {P : Jvm.Cond → Bool} (h1 : L.all (fun c => isCode c || P c) = true) (h2 : ∀ c ∈ L.filter isCode, P c = true) : L.all P = true := by
  refine List.all_eq_true.mpr fun c hc => ?_
  have h := List.all_eq_true.mp h1 c hc
  rcases Bool.eq_false_or_eq_true (isCode c) with hi | hi
  · exact h2 c (List.mem_filter.mpr ⟨hc, hi⟩)
  · simpa [hi] using h
set_option maxRecDepth 65536 in
theorem w_c0 : (Jvm.Cond.code x code maxLocals ret).before args0 about1 = true := code_word (m := ⟨1, 1⟩) (meth := k1m1) (c := k1c1) (by decide +kernel) rfl rfl rfl (by decide +kernel)
set_option maxRecDepth 65536 in
theorem w_c1 : (Jvm.Cond.code ({ cls := "com/example/coevolution/coevolution/learn/Primitives", name := "defaultDepth", desc := "(I)I" } : Jvm.MethodName) prog_45_method_3_code (3 : Nat) (Option.some Jvm.ClassFile.FieldType.int)).before args0 about1 = true := code_word (m := ⟨2, 0⟩) (meth := k2m0) (c := k2c0) (by decide +kernel) rfl rfl rfl (by decide +kernel)
def codes1 : List Jvm.Cond := [Jvm.Cond.code x code maxLocals ret, Jvm.Cond.code ({ cls := "com/example/coevolution/coevolution/learn/Primitives", name := "defaultDepth", desc := "(I)I" } : Jvm.MethodName) prog_45_method_3_code (3 : Nat) (Option.some Jvm.ClassFile.FieldType.int)]
set_option maxRecDepth 65536 in
theorem codes_eq : words1.filter isCode = codes1 := rfl
theorem w_codes : ∀ c ∈ words1.filter isCode, c.before args0 about1 = true := by
  rw [codes_eq]
  intro c hc
  simp only [codes1, List.mem_cons, List.not_mem_nil, or_false] at hc
  rcases hc with rfl | rfl
  · exact w_c0
  · exact w_c1
set_option maxRecDepth 65536 in
theorem w_t1 : words1.all (fun c => isCode c || c.before args0 about1) = true := by decide +kernel
theorem w_tables : (allAtoms (Jvm.Cond.code x code maxLocals ret :: tables_1)).before args0 about1 = true := by
  rw [allAtoms_all]
  show words1.all (fun c => c.before args0 about1) = true
  refine all_split ?_ w_codes
  rw [w_t1]
set_option maxRecDepth 65536 in
theorem w_case : (Jvm.Cond.and given_1 narrow_1).before args0 about1 = true := by decide +kernel
theorem w_applies : (headSpec (Jvm.Cond.code x code maxLocals ret :: tables_1) room_1).applies x e0.platform about1 = true :=
  (Spec.applies_iff w_frames).mpr ⟨w_running, w_runnable, w_alone, w_named, w_hears, w_ripe, w_room, w_tables⟩
theorem atStart : AtStart classFile x code maxLocals ret World_1 tables_1 room_1 Calls_1 rest_1 Pre_1 launch0 p0 e0 about1 theMethod args0 below0 :=
  ⟨lists_1, trivial, launch0.admits_env _ _ _, launch0.least_env, fairChoices_fair.cas, fairChoices_fair.clock, w_frames, w_args, w_heap, w_applies, trivial, trivial, w_case⟩
end start1
theorem witness_1 : WitnessClaimed_1 := ⟨start1.p0, start1.e0, start1.about1, start1.theMethod, start1.args0, start1.below0, start1.atStart⟩
end Jvm.Pilot.@@N@@
