import JvmDerived
import JvmDerived.Pilot.@@N@@Statement
import JvmDerived.Pilot.@@N@@Code
set_option linter.unusedVariables false
set_option linter.unusedSimpArgs false
namespace Jvm.Pilot.@@N@@
open Jvm Jvm.ClassFile Sem Op Lib Jvm.Free Jvm.Stand Jvm.LawKit Jvm.RoadKit Bundle Jvm.Pilot.@@N@@.Jvm.D
/-! A walk as one goal: from the state U the run comes to an end that answers Q. -/
section Kit
def Go (p : Program) (e : Env) (below : List Frame) (s : State) (Q : Option Value → Heap → List Loc → Prop) (C N : Nat) (U : State) : Prop :=
  ∃ s₂ o, Steps p.tables e below U s₂ ∧ s₂.status = .running ∧ Ended s₂ below o ∧ ∃ v L, o = .returned v ∧ Q v s₂.heap L ∧ FrameEnd s o s₂ L C N
variable {p : Program} {l : Launch} {e : Env} {R : Room} {s : State} {m : MethodId} {args : Array Value} {below : List Frame} {meth : Method} {c : Code} {T : State} {locs : List Loc} {cells slots : Nat} {Q : Option Value → Heap → List Loc → Prop} {C N : Nat}
theorem gob {U U' : State} (h : ∀ t, Steps p.tables e below U' t → Steps p.tables e below U t) (k : Go p e below s Q C N U') : Go p e below s Q C N U := by
  obtain ⟨s₂, o, h1, r⟩ := k
  exact ⟨s₂, o, h _ h1, r⟩
theorem goZ (X : Stand p l e R s m args below meth c T locs cells slots) (hx : p.tables.exec = Jvm.exec) (hlk : meth.locks = false) {t : FieldType} {pc : Nat} {Ls : Array Slot} {z z' : Int32} {rest : List Value} (hret : meth.sig.returnType = some t) (ht : t = .boolean ∨ t = .byte ∨ t = .char ∨ t = .short) (hd : decode c.code pc = .ok (.ireturn, 1)) (hz : nar t z = z') (hq : Q (some (.int z')) T.heap locs) (hc : cells ≤ C) (hn : slots ≤ N) :
    Go p e below s Q C N (T.setTop (mkF m pc Ls (.int z :: rest))) := by
  subst hz
  obtain ⟨fs, hr, hrun, hended, hW, hsame⟩ := X.leave (v := some (.int (nar t z))) (fun h => by rw [hret] at h; cases h) hlk
  exact ⟨_, _, retN X hx hret ht hd hr, hrun, hended, _, _, rfl, hq, ⟨_, rfl⟩, hW, hsame.mono hc hn⟩
theorem goI (X : Stand p l e R s m args below meth c T locs cells slots) (hx : p.tables.exec = Jvm.exec) (hlk : meth.locks = false) {pc : Nat} {Ls : Array Slot} {z : Int32} {rest : List Value} (hret : meth.sig.returnType = some .int) (hd : decode c.code pc = .ok (.ireturn, 1)) (hq : Q (some (.int z)) T.heap locs) (hc : cells ≤ C) (hn : slots ≤ N) :
    Go p e below s Q C N (T.setTop (mkF m pc Ls (.int z :: rest))) := by
  obtain ⟨fs, hr, hrun, hended, hW, hsame⟩ := X.leave (v := some (.int z)) (fun h => by rw [hret] at h; cases h) hlk
  exact ⟨_, _, retOut X hx hret rfl (Or.inl ⟨rfl, Or.inl rfl, z, rfl⟩) hd hr, hrun, hended, _, _, rfl, hq, ⟨_, rfl⟩, hW, hsame.mono hc hn⟩
theorem goJ (X : Stand p l e R s m args below meth c T locs cells slots) (hx : p.tables.exec = Jvm.exec) (hlk : meth.locks = false) {pc : Nat} {Ls : Array Slot} {z : Int64} {rest : List Value} (hret : meth.sig.returnType = some .long) (hd : decode c.code pc = .ok (.lreturn, 1)) (hq : Q (some (.long z)) T.heap locs) (hc : cells ≤ C) (hn : slots ≤ N) :
    Go p e below s Q C N (T.setTop (mkF m pc Ls (.long z :: rest))) := by
  obtain ⟨fs, hr, hrun, hended, hW, hsame⟩ := X.leave (v := some (.long z)) (fun h => by rw [hret] at h; cases h) hlk
  exact ⟨_, _, retOut X hx hret rfl (Or.inr (Or.inl ⟨rfl, rfl, z, rfl⟩)) hd hr, hrun, hended, _, _, rfl, hq, ⟨_, rfl⟩, hW, hsame.mono hc hn⟩
theorem goD (X : Stand p l e R s m args below meth c T locs cells slots) (hx : p.tables.exec = Jvm.exec) (hlk : meth.locks = false) {pc : Nat} {Ls : Array Slot} {z : UInt64} {rest : List Value} (hret : meth.sig.returnType = some .double) (hd : decode c.code pc = .ok (.dreturn, 1)) (hq : Q (some (.double z)) T.heap locs) (hc : cells ≤ C) (hn : slots ≤ N) :
    Go p e below s Q C N (T.setTop (mkF m pc Ls (.double z :: rest))) := by
  obtain ⟨fs, hr, hrun, hended, hW, hsame⟩ := X.leave (v := some (.double z)) (fun h => by rw [hret] at h; cases h) hlk
  exact ⟨_, _, retOut X hx hret rfl (Or.inr (Or.inr (Or.inl ⟨rfl, rfl, z, rfl⟩))) hd hr, hrun, hended, _, _, rfl, hq, ⟨_, rfl⟩, hW, hsame.mono hc hn⟩
theorem goA (X : Stand p l e R s m args below meth c T locs cells slots) (hx : p.tables.exec = Jvm.exec) (hlk : meth.locks = false) {t : FieldType} {pc : Nat} {Ls : Array Slot} {z : Value} {rest : List Value} (hret : meth.sig.returnType = some t) (ht : t.isReference = true) (hv : z.isRef = true) (hd : decode c.code pc = .ok (.areturn, 1)) (hq : Q (some z) T.heap locs) (hc : cells ≤ C) (hn : slots ≤ N) :
    Go p e below s Q C N (T.setTop (mkF m pc Ls (z :: rest))) := by
  obtain ⟨fs, hr, hrun, hended, hW, hsame⟩ := X.leave (v := some z) (fun h => by rw [hret] at h; cases h) hlk
  have hnw : narrow t z = z := by cases z <;> cases t <;> first | rfl | (simp [Value.isRef] at hv) | (simp [FieldType.isReference] at ht)
  exact ⟨_, _, retOut X hx hret hnw (Or.inr (Or.inr (Or.inr (Or.inr ⟨rfl, ht, hv⟩)))) hd hr, hrun, hended, _, _, rfl, hq, ⟨_, rfl⟩, hW, hsame.mono hc hn⟩
theorem goV (X : Stand p l e R s m args below meth c T locs cells slots) (hx : p.tables.exec = Jvm.exec) (hlk : meth.locks = false) {pc : Nat} {Ls : Array Slot} (hret : meth.sig.returnType = none) (hd : decode c.code pc = .ok (.return_, 1)) (hq : Q none T.heap locs) (hc : cells ≤ C) (hn : slots ≤ N) :
    Go p e below s Q C N (T.setTop (mkF m pc Ls [])) := by
  obtain ⟨fs, hr, hrun, hended, hW, hsame⟩ := X.leave (v := none) (fun _ => rfl) hlk
  exact ⟨_, _, X.returnOut hx hret hd hr, hrun, hended, _, _, rfl, hq, ⟨_, rfl⟩, hW, hsame.mono hc hn⟩
theorem lremM {g : JFrame} {target : State} (X : Stand p l e R s m args below meth c T locs cells slots) (hx : p.tables.exec = Jvm.exec) (hg : g.method = m) {x y : Int64} {rest : List Value} (hd : decode c.code g.pc = .ok (.lrem, 1)) (hs : g.stack = .long y :: .long x :: rest) (hy : y ≠ 0)
    (hr : Steps p.tables e below (T.setTop { g with pc := g.pc + 1, stack := .long (x % y) :: rest }) target) : Steps p.tables e below (T.setTop g) target :=
  XS.lrem X.here hx hg hd hs hy (by rw [lrem_mod x y]; exact hr)
theorem own_lrem (x y : Int64) (d : Int) (hy : y.toInt = d) : (0 ≤ x.toInt → (x % y).toInt = x.toInt % d) ∧ (x.toInt < 0 → (x % y).toInt = -((-x.toInt) % d)) := by rw [Int64.toInt_mod, hy]; exact tr _ _
theorem own_lxor (x y : Int64) (hy : 0 ≤ y.toInt) : ((x ^^^ y).toInt < 0 ↔ x.toInt < 0) := by
  have h1 : (x ^^^ y).toBitVec.msb = (x.toBitVec.msb ^^ y.toBitVec.msb) := by rw [Int64.toBitVec_xor, BitVec.msb_xor]
  have h2 := BitVec.msb_eq_toInt (x := (x ^^^ y).toBitVec)
  have h3 := BitVec.msb_eq_toInt (x := x.toBitVec)
  have h4 := BitVec.msb_eq_toInt (x := y.toBitVec)
  have e1 : (x ^^^ y).toBitVec.toInt = (x ^^^ y).toInt := rfl
  have e2 : x.toBitVec.toInt = x.toInt := rfl
  have e3 : y.toBitVec.toInt = y.toInt := rfl
  rw [e1] at h2
  rw [e2] at h3
  rw [e3] at h4
  have h5 : ¬ y.toInt < 0 := by omega
  rw [h2, h3, h4, decide_eq_false h5, Bool.xor_false] at h1
  simpa using h1
theorem pop2L {g : JFrame} {target : State} (X : Stand p l e R s m args below meth c T locs cells slots) (hx : p.tables.exec = Jvm.exec) (hg : g.method = m) {x : Int64} {rest : List Value} (hd : decode c.code g.pc = .ok (.pop2, 1)) (hs : g.stack = .long x :: rest)
    (hr : Steps p.tables e below (T.setTop { g with pc := g.pc + 1, stack := rest }) target) : Steps p.tables e below (T.setTop g) target := by
  subst hg
  jvm_step X.here [X.here.top, hx, hd, hs, Value.category]
  exact hr
theorem own_staKeep {Z : State} {h h' : Heap} {C n d : String} {v : Value} {ws : List Addr} (F : Sta Z h C n d v) (K : Keep h h' ws) (hn : ∀ x ∈ ws, ∀ cell : Cell, h[x]? = some cell → cell.vm.isStatics = false) : Sta Z h' C n d v := by
  obtain ⟨cf, i, k, f, st, cell, h1, h2, h3, h4, h5, h6, h7⟩ := F
  exact ⟨cf, i, k, f, st, cell, h1, h2, h3, h4, K.2.1 _ _ h5 (fun q => by have q2 := hn _ q _ h5; rw [h6] at q2; cases q2), h6, h7⟩
end Kit

theorem own_mod (a n : Int32) (hn : 0 < n.toInt) : 0 ≤ ((a &&& 2147483647) % n).toInt ∧ ((a &&& 2147483647) % n).toInt < n.toInt := by
  have h1 : (a &&& 2147483647).toInt = a.toInt % (2 ^ 31 : Nat) := c_mask a 2147483647 31 (by decide) (by decide)
  have h2 := (c_iremV (a &&& 2147483647) n).1 (by rw [h1]; omega) hn
  exact ⟨h2.1, h2.2.1⟩
theorem own_nodes (a : Int32) : 1 ≤ ((1 : Int32) + (a &&& (2147483647 : Int32)) % (2147483647 : Int32)).toInt := by
  have h := own_mod a 2147483647 (by decide)
  have h3 := c_iadd 1 ((a &&& 2147483647) % 2147483647)
  have h4 := rng32 (1 + (a &&& 2147483647) % 2147483647)
  have e1 : (1 : Int32).toInt = 1 := by decide
  have e2 : (2147483647 : Int32).toInt = 2147483647 := by decide
  omega
theorem own_in (b n : Int32) (hn : 1 ≤ n.toInt) : 1 ≤ ((1 : Int32) + (b &&& (2147483647 : Int32)) % n).toInt ∧ ((1 : Int32) + (b &&& (2147483647 : Int32)) % n).toInt ≤ n.toInt := by
  have h := own_mod b n (by omega)
  have h3 := c_iadd 1 ((b &&& 2147483647) % n)
  have h4 := rng32 (1 + (b &&& 2147483647) % n)
  have h5 := rng32 n
  have e1 : (1 : Int32).toInt = 1 := by decide
  omega
theorem own_nz {n : Int32} (h : 1 ≤ n.toInt) : n ≠ 0 := fun q => by
  rw [q] at h
  exact absurd h (by decide)
theorem own_ge {n : Int32} (h : 1 ≤ n.toInt) : ¬ (n < (1 : Int32)) := by
  rw [Int32.lt_iff_toInt_lt]
  have e1 : (1 : Int32).toInt = 1 := by decide
  omega
theorem own_le {x y : Int32} (h : x.toInt ≤ y.toInt) : ¬ (y < x) := by
  rw [Int32.lt_iff_toInt_lt]
  omega

theorem d1_0 : decode prog_16_method_1_code 0 = .ok (.iload_n 1, 1) := by decide +kernel
theorem d1_1 : decode prog_16_method_1_code 1 = .ok (.iconst 1, 1) := by decide +kernel
theorem d1_2 : decode prog_16_method_1_code 2 = .ok (.if_icmp .lt 13, 3) := by decide +kernel
theorem d1_5 : decode prog_16_method_1_code 5 = .ok (.iload_n 0, 1) := by decide +kernel
theorem d1_6 : decode prog_16_method_1_code 6 = .ok (.iconst 1, 1) := by decide +kernel
theorem d1_7 : decode prog_16_method_1_code 7 = .ok (.if_icmp .lt 8, 3) := by decide +kernel
theorem d1_10 : decode prog_16_method_1_code 10 = .ok (.iload_n 0, 1) := by decide +kernel
theorem d1_11 : decode prog_16_method_1_code 11 = .ok (.iload_n 1, 1) := by decide +kernel
theorem d1_12 : decode prog_16_method_1_code 12 = .ok (.if_icmp .le 18, 3) := by decide +kernel
theorem d1_15 : decode prog_16_method_1_code 15 = .ok (.new 1, 3) := by decide +kernel
theorem d1_18 : decode prog_16_method_1_code 18 = .ok (.dup, 1) := by decide +kernel
theorem d1_19 : decode prog_16_method_1_code 19 = .ok (.iload_n 0, 1) := by decide +kernel
theorem d1_20 : decode prog_16_method_1_code 20 = .ok (.iload_n 1, 1) := by decide +kernel
theorem d1_26 : decode prog_16_method_1_code 26 = .ok (.invokespecial 7, 3) := by decide +kernel
theorem d1_29 : decode prog_16_method_1_code 29 = .ok (.athrow, 1) := by decide +kernel
theorem d1_30 : decode prog_16_method_1_code 30 = .ok (.iload_n 2, 1) := by decide +kernel
theorem d1_31 : decode prog_16_method_1_code 31 = .ok (.iconst 1, 1) := by decide +kernel
theorem d1_32 : decode prog_16_method_1_code 32 = .ok (.if_icmp .lt 8, 3) := by decide +kernel
theorem d1_35 : decode prog_16_method_1_code 35 = .ok (.iload_n 2, 1) := by decide +kernel
theorem d1_36 : decode prog_16_method_1_code 36 = .ok (.iload_n 1, 1) := by decide +kernel
theorem d1_37 : decode prog_16_method_1_code 37 = .ok (.if_icmp .le 18, 3) := by decide +kernel
theorem d1_40 : decode prog_16_method_1_code 40 = .ok (.new 1, 3) := by decide +kernel
theorem d1_43 : decode prog_16_method_1_code 43 = .ok (.dup, 1) := by decide +kernel
theorem d1_44 : decode prog_16_method_1_code 44 = .ok (.iload_n 2, 1) := by decide +kernel
theorem d1_45 : decode prog_16_method_1_code 45 = .ok (.iload_n 1, 1) := by decide +kernel
theorem d1_51 : decode prog_16_method_1_code 51 = .ok (.invokespecial 7, 3) := by decide +kernel
theorem d1_54 : decode prog_16_method_1_code 54 = .ok (.athrow, 1) := by decide +kernel
theorem d1_55 : decode prog_16_method_1_code 55 = .ok (.return_, 1) := by decide +kernel
theorem ef_1 (m : MethodId) (x0 : Int32) (x1 : Int32) (x2 : Int32) : entryFrame m #[(.int x0), (.int x1), (.int x2)] 3 = mkF m 0 #[.val (.int x0), .val (.int x1), .val (.int x2)] [] := by first | (simp [entryFrame, mkF, argsToLocals, Value.category]; done) | rfl
def Q1 (Z : State) (p0 : Int32) (p1 : Int32) (p2 : Int32) (h0 : Heap) (n0 : Nat) (v : Option Value) (h : Heap) (L : List Loc) : Prop := v = none ∧ Fr n0 L ∧ h = h0
set_option maxRecDepth 65536 in
set_option maxHeartbeats 40000000 in
theorem rm1 (l : Launch) (Z : State) (a0 : Array Value) (hw : ∀ d ∈ tables_1, d.before a0 Z = true) (ws : List Jvm.Cond) (p0 : Int32) (p1 : Int32) (p2 : Int32) (h0 : Heap) (n0 : Nat) (Z0 : n0 ≤ h0.size) (hf2 : ¬ (p1 < (1 : Int32))) (hf7 : ¬ (p0 < (1 : Int32))) (hf12 : ¬ (p1 < p0)) (hf32 : ¬ (p2 < (1 : Int32))) (hf37 : ¬ (p1 < p2)) :
    MetFree l (⟨"com/example/hot_potato/hotpotato/Member", "checkGroup", "(III)V"⟩ : MethodName) (head1 (Jvm.Cond.code (⟨"com/example/hot_potato/hotpotato/Member", "checkGroup", "(III)V"⟩ : MethodName) prog_16_method_1_code 3 none :: ws) ({ frames := 0, cells := 0, slots := 0, locals := 0 } : Room)) (fun a U => a = #[(.int p0), (.int p1), (.int p2)] ∧ Z.Warmed39 U.vm ∧ U.heap = h0) (fun _ _ _ _ _ => True) (fun _ U o U' => ∃ v L, o = .returned v ∧ Q1 Z p0 p1 p2 h0 n0 v U'.heap L ∧ FrameEnd U o U' L ({ frames := 0, cells := 0, slots := 0, locals := 0 } : Room).cells ({ frames := 0, cells := 0, slots := 0, locals := 0 } : Room).slots) := by
  refine MetFree.of_bodySF (plainFor_of_name (by first | (simp [plainName, overriddenIn]; done) | decide +kernel)) hisR ?_
  intro p e s m args below meth c s₁ Bd hml0 hP hK
  obtain ⟨rfl, hZ, hh⟩ := hP
  have hx := Bd.exec
  have hby := Bd.bytes
  have hml : c.maxLocals = 3 := hml0
  have hown : s.vm.findClass "com/example/hot_potato/hotpotato/Member" = some m.cls := findClass_of_methodNamed Bd.named
  have hnm := (name_of_methodNamed Bd.named Bd.method).1
  have hlk := BodyLoose.notSynchronized Bd
  have X0 : Stand p l e ({ frames := 0, cells := 0, slots := 0, locals := 0 } : Room) s m #[(.int p0), (.int p1), (.int p2)] below meth c s₁ [] 0 0 := Stand.of_body Bd
  have e0 : s₁.heap = h0 := by rw [← hh, Bd.state]; rfl
  have N0 := Fr.nil n0
  show Go p e below s (Q1 Z p0 p1 p2 h0 n0) 0 0 (s₁.setTop (entryFrame m #[(.int p0), (.int p1), (.int p2)] 3))
  rw [ef_1]
  show Go _ _ _ _ _ _ _ (s₁.setTop (mkF m 0 #[.val (.int p0), .val (.int p1), .val (.int p2)] []))
  refine gob (fun _ k => XS.iloadN X0.here hx rfl (hb hby d1_0) rfl k) ?_
  show Go _ _ _ _ _ _ _ (s₁.setTop (mkF m 1 #[.val (.int p0), .val (.int p1), .val (.int p2)] [(.int p1)]))
  refine gob (fun _ k => XS.iconst X0.here hx rfl (hb hby d1_1) k) ?_
  show Go _ _ _ _ _ _ _ (s₁.setTop (mkF m 2 #[.val (.int p0), .val (.int p1), .val (.int p2)] [(.int (1 : Int32)), (.int p1)]))
  refine gob (fun _ k => XS.icmpNo X0.here hx rfl (hb hby d1_2) rfl (flt hf2).1 k) ?_
  show Go _ _ _ _ _ _ _ (s₁.setTop (mkF m 5 #[.val (.int p0), .val (.int p1), .val (.int p2)] []))
  refine gob (fun _ k => XS.iloadN X0.here hx rfl (hb hby d1_5) rfl k) ?_
  show Go _ _ _ _ _ _ _ (s₁.setTop (mkF m 6 #[.val (.int p0), .val (.int p1), .val (.int p2)] [(.int p0)]))
  refine gob (fun _ k => XS.iconst X0.here hx rfl (hb hby d1_6) k) ?_
  show Go _ _ _ _ _ _ _ (s₁.setTop (mkF m 7 #[.val (.int p0), .val (.int p1), .val (.int p2)] [(.int (1 : Int32)), (.int p0)]))
  refine gob (fun _ k => XS.icmpNo X0.here hx rfl (hb hby d1_7) rfl (flt hf7).1 k) ?_
  show Go _ _ _ _ _ _ _ (s₁.setTop (mkF m 10 #[.val (.int p0), .val (.int p1), .val (.int p2)] []))
  refine gob (fun _ k => XS.iloadN X0.here hx rfl (hb hby d1_10) rfl k) ?_
  show Go _ _ _ _ _ _ _ (s₁.setTop (mkF m 11 #[.val (.int p0), .val (.int p1), .val (.int p2)] [(.int p0)]))
  refine gob (fun _ k => XS.iloadN X0.here hx rfl (hb hby d1_11) rfl k) ?_
  show Go _ _ _ _ _ _ _ (s₁.setTop (mkF m 12 #[.val (.int p0), .val (.int p1), .val (.int p2)] [(.int p1), (.int p0)]))
  refine gob (fun _ k => XS.icmpYes X0.here hx rfl (pc0 := 12) (pc' := 30) rfl (hb hby d1_12) rfl (flt hf12).2.2.2 (by decide) (by decide) k) ?_
  show Go _ _ _ _ _ _ _ (s₁.setTop (mkF m 30 #[.val (.int p0), .val (.int p1), .val (.int p2)] []))
  refine gob (fun _ k => XS.iloadN X0.here hx rfl (hb hby d1_30) rfl k) ?_
  show Go _ _ _ _ _ _ _ (s₁.setTop (mkF m 31 #[.val (.int p0), .val (.int p1), .val (.int p2)] [(.int p2)]))
  refine gob (fun _ k => XS.iconst X0.here hx rfl (hb hby d1_31) k) ?_
  show Go _ _ _ _ _ _ _ (s₁.setTop (mkF m 32 #[.val (.int p0), .val (.int p1), .val (.int p2)] [(.int (1 : Int32)), (.int p2)]))
  refine gob (fun _ k => XS.icmpNo X0.here hx rfl (hb hby d1_32) rfl (flt hf32).1 k) ?_
  show Go _ _ _ _ _ _ _ (s₁.setTop (mkF m 35 #[.val (.int p0), .val (.int p1), .val (.int p2)] []))
  refine gob (fun _ k => XS.iloadN X0.here hx rfl (hb hby d1_35) rfl k) ?_
  show Go _ _ _ _ _ _ _ (s₁.setTop (mkF m 36 #[.val (.int p0), .val (.int p1), .val (.int p2)] [(.int p2)]))
  refine gob (fun _ k => XS.iloadN X0.here hx rfl (hb hby d1_36) rfl k) ?_
  show Go _ _ _ _ _ _ _ (s₁.setTop (mkF m 37 #[.val (.int p0), .val (.int p1), .val (.int p2)] [(.int p1), (.int p2)]))
  refine gob (fun _ k => XS.icmpYes X0.here hx rfl (pc0 := 37) (pc' := 55) rfl (hb hby d1_37) rfl (flt hf37).2.2.2 (by decide) (by decide) k) ?_
  show Go _ _ _ _ _ _ _ (s₁.setTop (mkF m 55 #[.val (.int p0), .val (.int p1), .val (.int p2)] []))
  refine goV X0 hx hlk Bd.returns (hb hby d1_55) ?_ (by decide) (by decide)
  show Q1 Z p0 p1 p2 h0 n0 (none) s₁.heap _
  exact ⟨rfl, N0, e0⟩
theorem pd_0 : parseMethodDescriptor "(III)V" = some ⟨[.int, .int, .int], none⟩ := by decide +kernel
theorem ef_0 (m : MethodId) (x0 : Int32) (x1 : Int32) (x2 : Int32) : entryFrame m #[(.int x0), (.int x1), (.int x2)] maxLocals = mkF m 0 #[.val (.int x0), .val (.int x1), .val (.int x2), .unset, .unset, .unset] [] := by first | (simp [entryFrame, mkF, argsToLocals, Value.category, maxLocals]; done) | rfl
def Q0 (Z : State) (p0 : Int32) (p1 : Int32) (p2 : Int32) (h0 : Heap) (n0 : Nat) (v : Option Value) (h : Heap) (L : List Loc) : Prop := v = some (.int 1) ∧ Fr n0 L
set_option maxRecDepth 65536 in
set_option maxHeartbeats 40000000 in
theorem rm0 (l : Launch) (Z : State) (a0 : Array Value) (hw : ∀ d ∈ tables_1, d.before a0 Z = true) (ws : List Jvm.Cond) (p0 : Int32) (p1 : Int32) (p2 : Int32) (h0 : Heap) (n0 : Nat) (Z0 : n0 ≤ h0.size) :
    MetFree l x (head1 (Jvm.Cond.code x code maxLocals ret :: ws) room_1) (fun a U => a = #[(.int p0), (.int p1), (.int p2)] ∧ Z.Warmed39 U.vm ∧ U.heap = h0) (fun _ _ _ _ _ => True) (fun _ U o U' => ∃ v L, o = .returned v ∧ Q0 Z p0 p1 p2 h0 n0 v U'.heap L ∧ FrameEnd U o U' L 0 0) := by
  refine MetFree.of_bodySF (plainFor_of_name (by first | (simp [plainName, overriddenIn]; done) | decide +kernel)) hisR ?_
  intro p e s m args below meth c s₁ Bd hml0 hP hK
  obtain ⟨rfl, hZ, hh⟩ := hP
  have hx := Bd.exec
  have hby := Bd.bytes
  have hml : c.maxLocals = 6 := hml0
  have hown : s.vm.findClass "com/example/hot_potato/hotpotato/MemberCheckGroupPinLaw" = some m.cls := findClass_of_methodNamed Bd.named
  have hnm := (name_of_methodNamed Bd.named Bd.method).1
  have hlk := BodyLoose.notSynchronized Bd
  have X0 : Stand p l e room_1 s m #[(.int p0), (.int p1), (.int p2)] below meth c s₁ [] 0 0 := Stand.of_body Bd
  have e0 : s₁.heap = h0 := by rw [← hh, Bd.state]; rfl
  have N0 := Fr.nil n0
  show Go p e below s (Q0 Z p0 p1 p2 h0 n0) 0 0 (s₁.setTop (entryFrame m #[(.int p0), (.int p1), (.int p2)] maxLocals))
  rw [ef_0]
  show Go _ _ _ _ _ _ _ (s₁.setTop (mkF m 0 #[.val (.int p0), .val (.int p1), .val (.int p2), .unset, .unset, .unset] []))
  refine gob (fun _ k => XS.iconst X0.here hx rfl (hb hby at_0) k) ?_
  show Go _ _ _ _ _ _ _ (s₁.setTop (mkF m 1 #[.val (.int p0), .val (.int p1), .val (.int p2), .unset, .unset, .unset] [(.int (1 : Int32))]))
  refine gob (fun _ k => XS.iloadN X0.here hx rfl (hb hby at_1) rfl k) ?_
  show Go _ _ _ _ _ _ _ (s₁.setTop (mkF m 2 #[.val (.int p0), .val (.int p1), .val (.int p2), .unset, .unset, .unset] [(.int p0), (.int (1 : Int32))]))
  refine gob (X0.ldcInt hx hown (mvT hZ (hw _ (List.mem_of_getElem? (i := 0) rfl))) (g := (mkF m 2 #[.val (.int p0), .val (.int p1), .val (.int p2), .unset, .unset, .unset] [(.int p0), (.int (1 : Int32))])) rfl (hb hby at_2)) ?_
  show Go _ _ _ _ _ _ _ (s₁.setTop (mkF m 4 #[.val (.int p0), .val (.int p1), .val (.int p2), .unset, .unset, .unset] [(.int (2147483647 : Int32)), (.int p0), (.int (1 : Int32))]))
  refine gob (fun _ k => XS.iand X0.here hx rfl (hb hby at_4) rfl k) ?_
  show Go _ _ _ _ _ _ _ (s₁.setTop (mkF m 5 #[.val (.int p0), .val (.int p1), .val (.int p2), .unset, .unset, .unset] [(.int (p0 &&& (2147483647 : Int32))), (.int (1 : Int32))]))
  refine gob (X0.ldcInt hx hown (mvT hZ (hw _ (List.mem_of_getElem? (i := 0) rfl))) (g := (mkF m 5 #[.val (.int p0), .val (.int p1), .val (.int p2), .unset, .unset, .unset] [(.int (p0 &&& (2147483647 : Int32))), (.int (1 : Int32))])) rfl (hb hby at_5)) ?_
  show Go _ _ _ _ _ _ _ (s₁.setTop (mkF m 7 #[.val (.int p0), .val (.int p1), .val (.int p2), .unset, .unset, .unset] [(.int (2147483647 : Int32)), (.int (p0 &&& (2147483647 : Int32))), (.int (1 : Int32))]))
  refine gob (fun _ k => iremM X0 hx rfl (hb hby at_7) rfl (by decide) k) ?_
  show Go _ _ _ _ _ _ _ (s₁.setTop (mkF m 8 #[.val (.int p0), .val (.int p1), .val (.int p2), .unset, .unset, .unset] [(.int ((p0 &&& (2147483647 : Int32)) % (2147483647 : Int32))), (.int (1 : Int32))]))
  refine gob (fun _ k => XS.iadd X0.here hx rfl (hb hby at_8) rfl k) ?_
  show Go _ _ _ _ _ _ _ (s₁.setTop (mkF m 9 #[.val (.int p0), .val (.int p1), .val (.int p2), .unset, .unset, .unset] [(.int ((1 : Int32) + ((p0 &&& (2147483647 : Int32)) % (2147483647 : Int32))))]))
  refine gob (fun _ k => XS.istoreN X0.here hx rfl (hb hby at_9) rfl (l' := #[.val (.int p0), .val (.int p1), .val (.int p2), .val (.int ((1 : Int32) + ((p0 &&& (2147483647 : Int32)) % (2147483647 : Int32)))), .unset, .unset]) rfl k) ?_
  show Go _ _ _ _ _ _ _ (s₁.setTop (mkF m 10 #[.val (.int p0), .val (.int p1), .val (.int p2), .val (.int ((1 : Int32) + ((p0 &&& (2147483647 : Int32)) % (2147483647 : Int32)))), .unset, .unset] []))
  generalize hn0_ : ((1 : Int32) + ((p0 &&& (2147483647 : Int32)) % (2147483647 : Int32))) = n0_
  show Go _ _ _ _ _ _ _ (s₁.setTop (mkF m 10 #[.val (.int p0), .val (.int p1), .val (.int p2), .val (.int n0_), .unset, .unset] []))
  have h_nodes : 1 ≤ n0_.toInt := by rw [← hn0_]; exact own_nodes p0
  refine gob (fun _ k => XS.iconst X0.here hx rfl (hb hby at_10) k) ?_
  show Go _ _ _ _ _ _ _ (s₁.setTop (mkF m 11 #[.val (.int p0), .val (.int p1), .val (.int p2), .val (.int n0_), .unset, .unset] [(.int (1 : Int32))]))
  refine gob (fun _ k => XS.iloadN X0.here hx rfl (hb hby at_11) rfl k) ?_
  show Go _ _ _ _ _ _ _ (s₁.setTop (mkF m 12 #[.val (.int p0), .val (.int p1), .val (.int p2), .val (.int n0_), .unset, .unset] [(.int p1), (.int (1 : Int32))]))
  refine gob (X0.ldcInt hx hown (mvT hZ (hw _ (List.mem_of_getElem? (i := 0) rfl))) (g := (mkF m 12 #[.val (.int p0), .val (.int p1), .val (.int p2), .val (.int n0_), .unset, .unset] [(.int p1), (.int (1 : Int32))])) rfl (hb hby at_12)) ?_
  show Go _ _ _ _ _ _ _ (s₁.setTop (mkF m 14 #[.val (.int p0), .val (.int p1), .val (.int p2), .val (.int n0_), .unset, .unset] [(.int (2147483647 : Int32)), (.int p1), (.int (1 : Int32))]))
  refine gob (fun _ k => XS.iand X0.here hx rfl (hb hby at_14) rfl k) ?_
  show Go _ _ _ _ _ _ _ (s₁.setTop (mkF m 15 #[.val (.int p0), .val (.int p1), .val (.int p2), .val (.int n0_), .unset, .unset] [(.int (p1 &&& (2147483647 : Int32))), (.int (1 : Int32))]))
  refine gob (fun _ k => XS.iloadN X0.here hx rfl (hb hby at_15) rfl k) ?_
  show Go _ _ _ _ _ _ _ (s₁.setTop (mkF m 16 #[.val (.int p0), .val (.int p1), .val (.int p2), .val (.int n0_), .unset, .unset] [(.int n0_), (.int (p1 &&& (2147483647 : Int32))), (.int (1 : Int32))]))
  refine gob (fun _ k => iremM X0 hx rfl (hb hby at_16) rfl (own_nz h_nodes) k) ?_
  show Go _ _ _ _ _ _ _ (s₁.setTop (mkF m 17 #[.val (.int p0), .val (.int p1), .val (.int p2), .val (.int n0_), .unset, .unset] [(.int ((p1 &&& (2147483647 : Int32)) % n0_)), (.int (1 : Int32))]))
  refine gob (fun _ k => XS.iadd X0.here hx rfl (hb hby at_17) rfl k) ?_
  show Go _ _ _ _ _ _ _ (s₁.setTop (mkF m 18 #[.val (.int p0), .val (.int p1), .val (.int p2), .val (.int n0_), .unset, .unset] [(.int ((1 : Int32) + ((p1 &&& (2147483647 : Int32)) % n0_)))]))
  refine gob (fun _ k => XS.istore X0.here hx rfl (hb hby at_18) rfl (l' := #[.val (.int p0), .val (.int p1), .val (.int p2), .val (.int n0_), .val (.int ((1 : Int32) + ((p1 &&& (2147483647 : Int32)) % n0_))), .unset]) rfl k) ?_
  show Go _ _ _ _ _ _ _ (s₁.setTop (mkF m 20 #[.val (.int p0), .val (.int p1), .val (.int p2), .val (.int n0_), .val (.int ((1 : Int32) + ((p1 &&& (2147483647 : Int32)) % n0_))), .unset] []))
  generalize hid_ : ((1 : Int32) + ((p1 &&& (2147483647 : Int32)) % n0_)) = id_
  show Go _ _ _ _ _ _ _ (s₁.setTop (mkF m 20 #[.val (.int p0), .val (.int p1), .val (.int p2), .val (.int n0_), .val (.int id_), .unset] []))
  refine gob (fun _ k => XS.iconst X0.here hx rfl (hb hby at_20) k) ?_
  show Go _ _ _ _ _ _ _ (s₁.setTop (mkF m 21 #[.val (.int p0), .val (.int p1), .val (.int p2), .val (.int n0_), .val (.int id_), .unset] [(.int (1 : Int32))]))
  refine gob (fun _ k => XS.iloadN X0.here hx rfl (hb hby at_21) rfl k) ?_
  show Go _ _ _ _ _ _ _ (s₁.setTop (mkF m 22 #[.val (.int p0), .val (.int p1), .val (.int p2), .val (.int n0_), .val (.int id_), .unset] [(.int p2), (.int (1 : Int32))]))
  refine gob (X0.ldcInt hx hown (mvT hZ (hw _ (List.mem_of_getElem? (i := 0) rfl))) (g := (mkF m 22 #[.val (.int p0), .val (.int p1), .val (.int p2), .val (.int n0_), .val (.int id_), .unset] [(.int p2), (.int (1 : Int32))])) rfl (hb hby at_22)) ?_
  show Go _ _ _ _ _ _ _ (s₁.setTop (mkF m 24 #[.val (.int p0), .val (.int p1), .val (.int p2), .val (.int n0_), .val (.int id_), .unset] [(.int (2147483647 : Int32)), (.int p2), (.int (1 : Int32))]))
  refine gob (fun _ k => XS.iand X0.here hx rfl (hb hby at_24) rfl k) ?_
  show Go _ _ _ _ _ _ _ (s₁.setTop (mkF m 25 #[.val (.int p0), .val (.int p1), .val (.int p2), .val (.int n0_), .val (.int id_), .unset] [(.int (p2 &&& (2147483647 : Int32))), (.int (1 : Int32))]))
  refine gob (fun _ k => XS.iloadN X0.here hx rfl (hb hby at_25) rfl k) ?_
  show Go _ _ _ _ _ _ _ (s₁.setTop (mkF m 26 #[.val (.int p0), .val (.int p1), .val (.int p2), .val (.int n0_), .val (.int id_), .unset] [(.int n0_), (.int (p2 &&& (2147483647 : Int32))), (.int (1 : Int32))]))
  refine gob (fun _ k => iremM X0 hx rfl (hb hby at_26) rfl (own_nz h_nodes) k) ?_
  show Go _ _ _ _ _ _ _ (s₁.setTop (mkF m 27 #[.val (.int p0), .val (.int p1), .val (.int p2), .val (.int n0_), .val (.int id_), .unset] [(.int ((p2 &&& (2147483647 : Int32)) % n0_)), (.int (1 : Int32))]))
  refine gob (fun _ k => XS.iadd X0.here hx rfl (hb hby at_27) rfl k) ?_
  show Go _ _ _ _ _ _ _ (s₁.setTop (mkF m 28 #[.val (.int p0), .val (.int p1), .val (.int p2), .val (.int n0_), .val (.int id_), .unset] [(.int ((1 : Int32) + ((p2 &&& (2147483647 : Int32)) % n0_)))]))
  refine gob (fun _ k => XS.istore X0.here hx rfl (hb hby at_28) rfl (l' := #[.val (.int p0), .val (.int p1), .val (.int p2), .val (.int n0_), .val (.int id_), .val (.int ((1 : Int32) + ((p2 &&& (2147483647 : Int32)) % n0_)))]) rfl k) ?_
  show Go _ _ _ _ _ _ _ (s₁.setTop (mkF m 30 #[.val (.int p0), .val (.int p1), .val (.int p2), .val (.int n0_), .val (.int id_), .val (.int ((1 : Int32) + ((p2 &&& (2147483647 : Int32)) % n0_)))] []))
  generalize htk_ : ((1 : Int32) + ((p2 &&& (2147483647 : Int32)) % n0_)) = tk_
  show Go _ _ _ _ _ _ _ (s₁.setTop (mkF m 30 #[.val (.int p0), .val (.int p1), .val (.int p2), .val (.int n0_), .val (.int id_), .val (.int tk_)] []))
  refine gob (fun _ k => XS.iload X0.here hx rfl (hb hby at_30) rfl k) ?_
  show Go _ _ _ _ _ _ _ (s₁.setTop (mkF m 32 #[.val (.int p0), .val (.int p1), .val (.int p2), .val (.int n0_), .val (.int id_), .val (.int tk_)] [(.int id_)]))
  refine gob (fun _ k => XS.iloadN X0.here hx rfl (hb hby at_32) rfl k) ?_
  show Go _ _ _ _ _ _ _ (s₁.setTop (mkF m 33 #[.val (.int p0), .val (.int p1), .val (.int p2), .val (.int n0_), .val (.int id_), .val (.int tk_)] [(.int n0_), (.int id_)]))
  refine gob (fun _ k => XS.iload X0.here hx rfl (hb hby at_33) rfl k) ?_
  show Go _ _ _ _ _ _ _ (s₁.setTop (mkF m 35 #[.val (.int p0), .val (.int p1), .val (.int p2), .val (.int n0_), .val (.int id_), .val (.int tk_)] [(.int tk_), (.int n0_), (.int id_)]))
  have h_id := own_in p1 n0_ h_nodes
  rw [hid_] at h_id
  have h_tk := own_in p2 n0_ h_nodes
  rw [htk_] at h_tk
  obtain ⟨_, _, ⟨T1, L1, k1, n1⟩, -, X1, ⟨Lc1, hQ1, l1, y1, z1⟩, st1⟩ := Jvm.LawKit.callS X0 hx (y := (⟨"com/example/hot_potato/hotpotato/Member", "checkGroup", "(III)V"⟩ : MethodName)) hown (mvT hZ (hw _ (List.mem_of_getElem? (i := 1) rfl))) (mvT hZ (hw _ (List.mem_of_getElem? (i := 2) rfl))) (mvT hZ (hw _ (List.mem_of_getElem? (i := 3) rfl))) (mvT hZ (hw _ (List.mem_of_getElem? (i := 4) rfl))) (by decide) (backOf (W := 0) (rm1 l Z a0 hw [] id_ n0_ tk_ h0 n0 Z0 (own_ge h_nodes) (own_ge h_id.1) (own_le h_id.2) (own_ge h_tk.1) (own_le h_tk.2)) hZ (hw _ (List.mem_of_getElem? (i := 4) rfl)) (hw _ (List.mem_of_getElem? (i := 3) rfl)) (by decide) (by decide)) (g := (mkF m 35 #[.val (.int p0), .val (.int p1), .val (.int p2), .val (.int n0_), .val (.int id_), .val (.int tk_)] [(.int tk_), (.int n0_), (.int id_)])) rfl (by rw [hml]; rfl) (argsL := [(.int id_), (.int n0_), (.int tk_)]) (rest := []) (lenOf pd_0 rfl) rfl (by show 2 * 0 + _ ≤ _; exact Nat.le_of_eq rfl) (hb hby at_35) (fun _ _ => ⟨rfl, e0, (by decide : 0 + 0 ≤ _), (by decide : 0 + 0 ≤ _)⟩)
  dsimp only [Pt.U, Pt.locs, Pt.cells, Pt.slots] at X1 l1 y1 z1 st1 hQ1
  subst l1 y1 z1
  obtain ⟨rfl, Nq1, e1⟩ := hQ1
  have N1 := Fr.app N0 Nq1
  refine gob st1 ?_
  show Go _ _ _ _ _ _ _ (T1.setTop (mkF m 38 #[.val (.int p0), .val (.int p1), .val (.int p2), .val (.int n0_), .val (.int id_), .val (.int tk_)] []))
  refine gob (fun _ k => XS.iconst X1.here hx rfl (hb hby at_38) k) ?_
  show Go _ _ _ _ _ _ _ (T1.setTop (mkF m 39 #[.val (.int p0), .val (.int p1), .val (.int p2), .val (.int n0_), .val (.int id_), .val (.int tk_)] [(.int (1 : Int32))]))
  refine goZ X1 hx hlk (t := .boolean) Bd.returns (by simp) (hb hby at_39) (z' := (1 : Int32)) rfl ?_ (by decide) (by decide)
  show Q0 Z p0 p1 p2 h0 n0 (some (.int (1 : Int32))) T1.heap _
  exact ⟨rfl, N1⟩
set_option maxRecDepth 65536 in
set_option maxHeartbeats 40000000 in
theorem comes_1 {Post : Tables → Env → Array Value → State → Outcome → State → Prop} (hpost : ∀ tb e args s v u, (limb_1_1.after args s (.returned v) u = true ∧ limb_1_2.after args s (.returned v) u = true ∧ True) → FrameEnd s (.returned v) u (Jvm.fieldLocs frame_1_writes args s ++ Jvm.arrayLocs frame_1_arrays args s ++ Jvm.staticLocs frame_1_statics s) 0 0 → Post tb e args s (.returned v) u) :
    ArmFor flags0 classFile x code maxLocals ret World_1 tables_1 room_1 Calls_1 rest_1 Pre_1 Post := by
  intro l hfl _ _ p e ha hc hk s m args below hf hA hF happ hP
  obtain ⟨hcalls, hrest, hpre⟩ := hP
  obtain ⟨-, -, -, hnamed, -, -, -, hat⟩ := (Spec.applies_iff hf).mp happ
  obtain ⟨hg, hn⟩ := and_e (Cond.before_iff.mp (show (Jvm.Cond.and given_1 narrow_1).before args s = true from hpre))
  obtain ⟨g1, g2⟩ := and_e hg
  obtain ⟨g3, g4⟩ := and_e g2
  obtain ⟨g5, g6⟩ := and_e g4
  obtain ⟨w0, w1, w2, rfl⟩ : ∃ w0 w1 w2 : Value, args = #[w0, w1, w2] := by
    have hs : args.size = 3 := by simpa [Cond.value, given_1] using g1
    obtain ⟨L⟩ := args
    match L, hs with
    | [w0, w1, w2], _ => exact ⟨w0, w1, w2, rfl⟩
  have hw := fun d (hd : d ∈ tables_1) => atoms_spec (ws := Jvm.Cond.code x code maxLocals ret :: tables_1) hat d (List.mem_cons_of_mem _ hd)
  have hfit : Fit s := fun {y c} hc i hi => by
    obtain ⟨ha, rfl⟩ := Array.getElem?_eq_some_iff.mp hc
    have q := List.all_eq_true.mp ((Array.all_eq_true_iff_forall_mem.mp hF) _ (Array.getElem_mem ha)) i (List.mem_range.mpr hi)
    simpa [Array.getElem?_eq_getElem hi] using q
  obtain ⟨i0, ei0⟩ := is_v g3
  obtain rfl : w0 = (.int i0) := Option.some.inj ei0
  obtain ⟨i1, ei1⟩ := is_v g5
  obtain rfl : w1 = (.int i1) := Option.some.inj ei1
  obtain ⟨i2, ei2⟩ := is_v g6
  obtain rfl : w2 = (.int i2) := Option.some.inj ei2
  obtain ⟨n, o, h1, h2, h3, _, L, rfl, ⟨rfl, N⟩, hq⟩ := rm0 l s _ hw tables_1 i0 i1 i2 s.heap s.heap.size (Nat.le_refl _)  p e ha hc hk s m _ below hf ((Spec.applies_iff_loose hf).mp happ).1 ⟨rfl, State.Warmed39.refl s, rfl⟩ trivial
  exact ⟨n, _, h1, h2, h3, hpost _ _ _ _ _ _ ⟨Cond.after_iff.mpr rfl, Cond.after_iff.mpr (eq_i res_at (Term.int_eval (1)) rfl), trivial⟩ ⟨hq.1, hq.2.1, (hq.2.2.sift fun y hy => Or.inr (N y hy)).mono (by decide) (by decide)⟩⟩
theorem main_1_1 : Claimed_1_1 := comes_1 fun _ _ _ _ _ _ h hF => ⟨h.1, hF⟩
theorem main_1_2 : Claimed_1_2 := comes_1 fun _ _ _ _ _ _ h hF => ⟨h.2.1, hF⟩
end Jvm.Pilot.@@N@@
namespace Jvm.Pilot.@@N@@
open Jvm Jvm.ClassFile Sem Op Lib Jvm.Free Jvm.Stand Jvm.Pilot.@@N@@.Jvm.D
/-! MADE BY PROGRAM (witnessworld.py) out of the Statement's table words and the real class files: 9 classes; the members and pool entries that the words name. The judged class is class 1, her method 1. -/
namespace start1
open Jvm.ClassFile
def u (s : String) : CpInfo := .utf8 (stringToUtf16 s)
/-- a pool by its gaps: so many unusable entries, then the entry; so many at the end -/
def gap : Nat → List CpInfo → List CpInfo
  | 0, r => r
  | n + 1, r => .unusable :: gap n r
def poolList (es : List (Nat × CpInfo)) (last : Nat) : List CpInfo := es.foldr (fun e r => gap e.1 (e.2 :: r)) (gap last [])
def pool (es : List (Nat × CpInfo)) (last : Nat) : Array CpInfo := ⟨poolList es last⟩
def fileOf (pool : Array CpInfo) (this : Nat) (attrs : Array Attribute := #[]) (ms : Array MethodInfo := #[]) (fl : Nat := 33) (sup : Nat := 0) (ifs : Array Nat := #[]) (fds : Array FieldInfo := #[]) : ClassFile where
  minorVersion := 0
  majorVersion := 65
  constantPool := pool
  accessFlags := fl
  thisClass := this
  superClass := sup
  interfaces := ifs
  fields := fds
  methods := ms
  attributes := attrs
def plain (name : String) (sup : Option ClassId) : Class where
  name := name
  kind := .ordinary
  loader := none
  accessFlags := 33
  super := sup
  interfaces := #[]
  cf := none
  fields := #[]
  methods := #[]
  instanceTypes := #[]
  staticTypes := #[]
  resolved := #[]
  callSites := []
  init := .initialized
  statics := none
  mirror := none

def pool0 : Array CpInfo := pool [(5, u "<init>"), (0, u "()V"), (1, .class_ 10), (1, u "java/lang/Object")] 113

def k0m0 : Method := { name := "<init>", desc := "()V", sig := { parameters := [], returnType := none }, accessFlags := 1, code := none }
/-- java/lang/Object -/
def k0 : Class := { plain "java/lang/Object" none with
  accessFlags := 33
  interfaces := #[]
  cf := some (fileOf pool0 8 #[] #[{ accessFlags := 1, nameIndex := 5, descriptorIndex := 6, attributes := #[] }] 33 0 #[] #[])
  fields := #[]
  methods := #[k0m0]
  instanceTypes := #[]
  staticTypes := #[]
  resolved := Array.replicate 124 none
  statics := none }

def pool1 : Array CpInfo := pool [(2, .class_ 4), (1, u "java/lang/Object"), (0, u "<init>"), (0, u "()V"), (0, .integer 2147483647), (2, .interfaceMethodref 11 12), (0, .class_ 13), (0, .nameAndType 14 15), (0, u "com/example/hot_potato/hotpotato/Member"), (0, u "checkGroup"), (0, u "(III)V"), (0, .class_ 17), (0, u "com/example/hot_potato/hotpotato/MemberCheckGroupPinLaw"), (2, u "law"), (0, u "(III)Z")] 2

def k1m0 : Method := { name := "<init>", desc := "()V", sig := { parameters := [], returnType := none }, accessFlags := 2, code := none }
def k1c1 : Code := { maxStack := 3, maxLocals := 6, code := code, exceptionTable := #[], attributes := #[] }
def k1m1 : Method := { name := "law", desc := "(III)Z", sig := { parameters := [.int, .int, .int], returnType := some .boolean }, accessFlags := 9, code := some k1c1 }
/-- com/example/hot_potato/hotpotato/MemberCheckGroupPinLaw -/
def k1 : Class := { plain "com/example/hot_potato/hotpotato/MemberCheckGroupPinLaw" (some 0) with
  accessFlags := 49
  interfaces := #[]
  cf := some (fileOf pool1 16 #[] #[{ accessFlags := 2, nameIndex := 5, descriptorIndex := 6, attributes := #[] }, { accessFlags := 9, nameIndex := 20, descriptorIndex := 21, attributes := #[] }] 49 2 #[] #[])
  fields := #[]
  methods := #[k1m0, k1m1]
  instanceTypes := #[]
  staticTypes := #[]
  resolved := Array.replicate 24 none
  statics := none }

def pool2 : Array CpInfo := pool [(12, .class_ 13), (0, u "com/example/hot_potato/hotpotato/Member"), (0, .class_ 15), (0, u "java/lang/Object"), (0, u "NO_TOKEN"), (0, u "I"), (2, u "SUSPICIONS"), (1, u "checkGroup"), (0, u "(III)V"), (15, .class_ 40), (0, u "com/example/hot_potato/hotpotato/Member$Driver")] 18

def k2c0 : Code := { maxStack := 4, maxLocals := 3, code := prog_16_method_1_code, exceptionTable := #[], attributes := #[] }
def k2m0 : Method := { name := "checkGroup", desc := "(III)V", sig := { parameters := [.int, .int, .int], returnType := none }, accessFlags := 9, code := some k2c0 }
/-- com/example/hot_potato/hotpotato/Member -/
def k2 : Class := { plain "com/example/hot_potato/hotpotato/Member" (some 0) with
  accessFlags := 1536
  interfaces := #[]
  cf := some (fileOf pool2 12 #[.nestMembers #[39]] #[{ accessFlags := 9, nameIndex := 22, descriptorIndex := 23, attributes := #[] }] 1536 14 #[] #[{ accessFlags := 25, nameIndex := 16, descriptorIndex := 17, attributes := #[] }, { accessFlags := 25, nameIndex := 20, descriptorIndex := 17, attributes := #[] }])
  fields := #[{ name := "NO_TOKEN", type := .int, accessFlags := 25, slot := 0, constantValue := 0 }, { name := "SUSPICIONS", type := .int, accessFlags := 25, slot := 1, constantValue := 0 }]
  methods := #[k2m0]
  instanceTypes := #[]
  staticTypes := #[.int, .int]
  resolved := Array.replicate 59 none
  statics := none }

def pool3 : Array CpInfo := pool [(1, u "java/lang/Cloneable"), (0, .class_ 1), (0, u "java/lang/Object"), (0, .class_ 3)] 3

/-- java/lang/Cloneable -/
def k3 : Class := { plain "java/lang/Cloneable" (some 0) with
  accessFlags := 1537
  interfaces := #[]
  cf := some (fileOf pool3 2 #[] #[] 1537 4 #[] #[])
  fields := #[]
  methods := #[]
  instanceTypes := #[]
  staticTypes := #[]
  resolved := Array.replicate 8 none
  statics := none }

def pool4 : Array CpInfo := pool [(1, u "java/io/Serializable"), (0, .class_ 1), (0, u "java/lang/Object"), (0, .class_ 3)] 3

/-- java/io/Serializable -/
def k4 : Class := { plain "java/io/Serializable" (some 0) with
  accessFlags := 1537
  interfaces := #[]
  cf := some (fileOf pool4 2 #[] #[] 1537 4 #[] #[])
  fields := #[]
  methods := #[]
  instanceTypes := #[]
  staticTypes := #[]
  resolved := Array.replicate 8 none
  statics := none }

/-- the primitive byte -/
def k5 : Class := { plain "byte" none with kind := .primitive 'B', accessFlags := 0x411 }
/-- [B -/
def k6 : Class := { plain "[B" (some 0) with kind := .array 5 .byte, interfaces := #[3, 4], accessFlags := 1041 }

/-- the primitive int -/
def k7 : Class := { plain "int" none with kind := .primitive 'I', accessFlags := 0x411 }
/-- [I -/
def k8 : Class := { plain "[I" (some 0) with kind := .array 7 .int, interfaces := #[3, 4], accessFlags := 1041 }

def heap : Heap := #[]
def classes : Array Class := #[k0, k1, k2, k3, k4, k5, k6, k7, k8]
def interned : List (Array UInt16 × Addr) := []
def slotsUsed : Nat := 0
def theMethod : MethodId := ⟨1, 1⟩
def args0 : Array Value := #[.int 5, .int 3, .int 7]
def aboutOver (below : List Frame) : State where
  vm := { classes := classes, interned := interned.toArray }
  heap := heap
  slotsUsed := slotsUsed
  threads := #[{ frames := .invoking theMethod args0 :: below }]
def below0 : List Frame := [.native { method := ⟨0, 0⟩, args := #[] }]
def about1 : State := aboutOver below0
def p0 : Program := .bare "" "" ""
def e0 : Env := launch0.env 0 0 0
theorem w_frames : about1.frames = Frame.invoking theMethod args0 :: below0 := rfl
set_option maxRecDepth 65536 in
theorem w_args : argsFit about1.vm theMethod args0 = true := by decide +kernel
set_option maxRecDepth 65536 in
theorem w_heap : heapFits about1 = true := by decide +kernel
set_option maxRecDepth 65536 in
theorem w_runnable : about1.curStatus? = some .runnable := by decide +kernel
set_option maxRecDepth 65536 in
theorem w_alone : about1.alone = true := by decide +kernel
set_option maxRecDepth 65536 in
theorem w_named : about1.methodNamed? x = some theMethod := by decide +kernel
set_option maxRecDepth 65536 in
theorem w_hears : about1.hears theMethod below0 = true := by decide +kernel
set_option maxRecDepth 65536 in
theorem w_ripe : about1.ripe theMethod args0 below0 = true := by decide +kernel
theorem w_running : about1.status = .running := rfl
set_option maxRecDepth 65536 in
theorem w_room : about1.hasRoom e0.platform room_1 = true :=
  launch0.hasRoom_least _ room_1 (by decide +kernel) (by decide +kernel) (by decide +kernel) (by decide +kernel) (by decide +kernel) (by decide +kernel)
theorem allAtoms_all (ts : List Jvm.Cond) (a : Array Jvm.Value) (st : Jvm.State) : (allAtoms ts).before a st = ts.all (fun c => c.before a st) := by
  induction ts with
  | nil => rfl
  | cons c t ih =>
    show (Jvm.Cond.and c (allAtoms t)).before a st = _
    rw [Jvm.Cond.before_and, ih, List.all_cons]
def words1 : List Jvm.Cond := Jvm.Cond.code x code maxLocals ret :: tables_1
/-- a 'code' word, met by the world's own term for the bytes: nothing is compared byte by byte -/
theorem code_word {y : MethodName} {bytes : ByteArray} {mx : Nat} {rt : Option FieldType} {a : Array Value} {s : State} {m : MethodId} {meth : Method} {c : Code} (h1 : s.methodNamed? y = some m) (h2 : s.vm.method? m = some meth) (h3 : meth.code = some c) (h4 : c.code = bytes)
    (h5 : (c.maxLocals == mx && c.exceptionTable.isEmpty && decide (c.maxStack ≤ mostOperands) && decide (meth.sig.returnType = rt) && !meth.locks && decide (parseMethodDescriptor y.desc = some meth.sig)) = true) : (Jvm.Cond.code y bytes mx rt).before a s = true := by
  simp only [Bool.and_eq_true, beq_iff_eq, Bool.not_eq_true', decide_eq_true_eq] at h5
  obtain ⟨⟨⟨⟨⟨g1, g2⟩, g3⟩, g4⟩, g5⟩, g6⟩ := h5
  simp [Cond.before, Cond.holds, Cond.value, h1, h2, h3, h4, g1, g2, g3, g4, g5, g6]
def isCode : Jvm.Cond → Bool
  | .code _ _ _ _ => true
  | _ => false
theorem all_split {L : List Jvm.Cond} {P : Jvm.Cond → Bool} (h1 : L.all (fun c => isCode c || P c) = true) (h2 : ∀ c ∈ L.filter isCode, P c = true) : L.all P = true := by
  refine List.all_eq_true.mpr fun c hc => ?_
  have h := List.all_eq_true.mp h1 c hc
  rcases Bool.eq_false_or_eq_true (isCode c) with hi | hi
  · exact h2 c (List.mem_filter.mpr ⟨hc, hi⟩)
  · simpa [hi] using h
set_option maxRecDepth 65536 in
theorem w_c0 : (Jvm.Cond.code x code maxLocals ret).before args0 about1 = true := code_word (m := ⟨1, 1⟩) (meth := k1m1) (c := k1c1) (by decide +kernel) rfl rfl rfl (by decide +kernel)
set_option maxRecDepth 65536 in
theorem w_c1 : (Jvm.Cond.code ({ cls := "com/example/hot_potato/hotpotato/Member", name := "checkGroup", desc := "(III)V" } : Jvm.MethodName) prog_16_method_1_code (3 : Nat) (Option.none : Option Jvm.ClassFile.FieldType)).before args0 about1 = true := code_word (m := ⟨2, 0⟩) (meth := k2m0) (c := k2c0) (by decide +kernel) rfl rfl rfl (by decide +kernel)
def codes1 : List Jvm.Cond := [Jvm.Cond.code x code maxLocals ret, Jvm.Cond.code ({ cls := "com/example/hot_potato/hotpotato/Member", name := "checkGroup", desc := "(III)V" } : Jvm.MethodName) prog_16_method_1_code (3 : Nat) (Option.none : Option Jvm.ClassFile.FieldType)]
set_option maxRecDepth 65536 in
theorem codes_eq : words1.filter isCode = codes1 := rfl
theorem w_codes : ∀ c ∈ words1.filter isCode, c.before args0 about1 = true := by
  rw [codes_eq]
  intro c hc
  simp only [codes1, List.mem_cons, List.not_mem_nil, or_false] at hc
  rcases hc with rfl | rfl
  · exact w_c0
  · exact w_c1
set_option maxRecDepth 65536 in
theorem w_t1 : words1.all (fun c => isCode c || c.before args0 about1) = true := by decide +kernel
theorem w_tables : (allAtoms (Jvm.Cond.code x code maxLocals ret :: tables_1)).before args0 about1 = true := by
  rw [allAtoms_all]
  show words1.all (fun c => c.before args0 about1) = true
  refine all_split ?_ w_codes
  rw [w_t1]
set_option maxRecDepth 65536 in
theorem w_case : (Jvm.Cond.and given_1 narrow_1).before args0 about1 = true := by decide +kernel
theorem w_applies : (headSpec (Jvm.Cond.code x code maxLocals ret :: tables_1) room_1).applies x e0.platform about1 = true :=
  (Spec.applies_iff w_frames).mpr ⟨w_running, w_runnable, w_alone, w_named, w_hears, w_ripe, w_room, w_tables⟩
theorem atStart : AtStart classFile x code maxLocals ret World_1 tables_1 room_1 Calls_1 rest_1 Pre_1 launch0 p0 e0 about1 theMethod args0 below0 :=
  ⟨lists_1, trivial, launch0.admits_env _ _ _, launch0.least_env, fairChoices_fair.cas, fairChoices_fair.clock, w_frames, w_args, w_heap, w_applies, trivial, trivial, w_case⟩
end start1
theorem witness_1 : WitnessClaimed_1 := ⟨start1.p0, start1.e0, start1.about1, start1.theMethod, start1.args0, start1.below0, start1.atStart⟩
end Jvm.Pilot.@@N@@
