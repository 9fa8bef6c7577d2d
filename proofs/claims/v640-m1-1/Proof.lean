import JvmDerived
import JvmDerived.Pilot.@@N@@Statement
import JvmDerived.Pilot.@@N@@Code
set_option linter.unusedVariables false
set_option linter.unusedSimpArgs false
namespace Jvm.Pilot.@@N@@
open Jvm Jvm.ClassFile Sem Op Lib Jvm.Free Jvm.Stand Jvm.LawKit Jvm.RoadKit Bundle Jvm.Pilot.@@N@@.Jvm.D
/-! A walk as one goal: from the state U the run comes to an end that answers Q. -/
section Kit
def Go (p : Program) (e : Env) (below : List Frame) (s : State) (Q : Option Value → Heap → List Loc → Prop) (C N : Nat) (U : State) : Prop :=
  ∃ s₂ o, Steps p.tables e below U s₂ ∧ s₂.status = .running ∧ Ended s₂ below o ∧ ∃ v L, o = .returned v ∧ Q v s₂.heap L ∧ FrameEnd s o s₂ L C N
variable {p : Program} {l : Launch} {e : Env} {R : Room} {s : State} {m : MethodId} {args : Array Value} {below : List Frame} {meth : Method} {c : Code} {T : State} {locs : List Loc} {cells slots : Nat} {Q : Option Value → Heap → List Loc → Prop} {C N : Nat}
theorem gob {U U' : State} (h : ∀ t, Steps p.tables e below U' t → Steps p.tables e below U t) (k : Go p e below s Q C N U') : Go p e below s Q C N U := by
  obtain ⟨s₂, o, h1, r⟩ := k
  exact ⟨s₂, o, h _ h1, r⟩
theorem goZ (X : Stand p l e R s m args below meth c T locs cells slots) (hx : p.tables.exec = Jvm.exec) (hlk : meth.locks = false) {t : FieldType} {pc : Nat} {Ls : Array Slot} {z z' : Int32} {rest : List Value} (hret : meth.sig.returnType = some t) (ht : t = .boolean ∨ t = .byte ∨ t = .char ∨ t = .short) (hd : decode c.code pc = .ok (.ireturn, 1)) (hz : nar t z = z') (hq : Q (some (.int z')) T.heap locs) (hc : cells ≤ C) (hn : slots ≤ N) :
    Go p e below s Q C N (T.setTop (mkF m pc Ls (.int z :: rest))) := by
  subst hz
  obtain ⟨fs, hr, hrun, hended, hW, hsame⟩ := X.leave (v := some (.int (nar t z))) (fun h => by rw [hret] at h; cases h) hlk
  exact ⟨_, _, retN X hx hret ht hd hr, hrun, hended, _, _, rfl, hq, ⟨_, rfl⟩, hW, hsame.mono hc hn⟩
theorem goI (X : Stand p l e R s m args below meth c T locs cells slots) (hx : p.tables.exec = Jvm.exec) (hlk : meth.locks = false) {pc : Nat} {Ls : Array Slot} {z : Int32} {rest : List Value} (hret : meth.sig.returnType = some .int) (hd : decode c.code pc = .ok (.ireturn, 1)) (hq : Q (some (.int z)) T.heap locs) (hc : cells ≤ C) (hn : slots ≤ N) :
    Go p e below s Q C N (T.setTop (mkF m pc Ls (.int z :: rest))) := by
  obtain ⟨fs, hr, hrun, hended, hW, hsame⟩ := X.leave (v := some (.int z)) (fun h => by rw [hret] at h; cases h) hlk
  exact ⟨_, _, retOut X hx hret rfl (Or.inl ⟨rfl, Or.inl rfl, z, rfl⟩) hd hr, hrun, hended, _, _, rfl, hq, ⟨_, rfl⟩, hW, hsame.mono hc hn⟩
theorem goJ (X : Stand p l e R s m args below meth c T locs cells slots) (hx : p.tables.exec = Jvm.exec) (hlk : meth.locks = false) {pc : Nat} {Ls : Array Slot} {z : Int64} {rest : List Value} (hret : meth.sig.returnType = some .long) (hd : decode c.code pc = .ok (.lreturn, 1)) (hq : Q (some (.long z)) T.heap locs) (hc : cells ≤ C) (hn : slots ≤ N) :
    Go p e below s Q C N (T.setTop (mkF m pc Ls (.long z :: rest))) := by
  obtain ⟨fs, hr, hrun, hended, hW, hsame⟩ := X.leave (v := some (.long z)) (fun h => by rw [hret] at h; cases h) hlk
  exact ⟨_, _, retOut X hx hret rfl (Or.inr (Or.inl ⟨rfl, rfl, z, rfl⟩)) hd hr, hrun, hended, _, _, rfl, hq, ⟨_, rfl⟩, hW, hsame.mono hc hn⟩
theorem goD (X : Stand p l e R s m args below meth c T locs cells slots) (hx : p.tables.exec = Jvm.exec) (hlk : meth.locks = false) {pc : Nat} {Ls : Array Slot} {z : UInt64} {rest : List Value} (hret : meth.sig.returnType = some .double) (hd : decode c.code pc = .ok (.dreturn, 1)) (hq : Q (some (.double z)) T.heap locs) (hc : cells ≤ C) (hn : slots ≤ N) :
    Go p e below s Q C N (T.setTop (mkF m pc Ls (.double z :: rest))) := by
  obtain ⟨fs, hr, hrun, hended, hW, hsame⟩ := X.leave (v := some (.double z)) (fun h => by rw [hret] at h; cases h) hlk
  exact ⟨_, _, retOut X hx hret rfl (Or.inr (Or.inr (Or.inl ⟨rfl, rfl, z, rfl⟩))) hd hr, hrun, hended, _, _, rfl, hq, ⟨_, rfl⟩, hW, hsame.mono hc hn⟩
theorem goA (X : Stand p l e R s m args below meth c T locs cells slots) (hx : p.tables.exec = Jvm.exec) (hlk : meth.locks = false) {t : FieldType} {pc : Nat} {Ls : Array Slot} {z : Value} {rest : List Value} (hret : meth.sig.returnType = some t) (ht : t.isReference = true) (hv : z.isRef = true) (hd : decode c.code pc = .ok (.areturn, 1)) (hq : Q (some z) T.heap locs) (hc : cells ≤ C) (hn : slots ≤ N) :
    Go p e below s Q C N (T.setTop (mkF m pc Ls (z :: rest))) := by
  obtain ⟨fs, hr, hrun, hended, hW, hsame⟩ := X.leave (v := some z) (fun h => by rw [hret] at h; cases h) hlk
  have hnw : narrow t z = z := by cases z <;> cases t <;> first | rfl | (simp [Value.isRef] at hv) | (simp [FieldType.isReference] at ht)
  exact ⟨_, _, retOut X hx hret hnw (Or.inr (Or.inr (Or.inr (Or.inr ⟨rfl, ht, hv⟩)))) hd hr, hrun, hended, _, _, rfl, hq, ⟨_, rfl⟩, hW, hsame.mono hc hn⟩
theorem goV (X : Stand p l e R s m args below meth c T locs cells slots) (hx : p.tables.exec = Jvm.exec) (hlk : meth.locks = false) {pc : Nat} {Ls : Array Slot} (hret : meth.sig.returnType = none) (hd : decode c.code pc = .ok (.return_, 1)) (hq : Q none T.heap locs) (hc : cells ≤ C) (hn : slots ≤ N) :
    Go p e below s Q C N (T.setTop (mkF m pc Ls [])) := by
  obtain ⟨fs, hr, hrun, hended, hW, hsame⟩ := X.leave (v := none) (fun _ => rfl) hlk
  exact ⟨_, _, X.returnOut hx hret hd hr, hrun, hended, _, _, rfl, hq, ⟨_, rfl⟩, hW, hsame.mono hc hn⟩
theorem lremM {g : JFrame} {target : State} (X : Stand p l e R s m args below meth c T locs cells slots) (hx : p.tables.exec = Jvm.exec) (hg : g.method = m) {x y : Int64} {rest : List Value} (hd : decode c.code g.pc = .ok (.lrem, 1)) (hs : g.stack = .long y :: .long x :: rest) (hy : y ≠ 0)
    (hr : Steps p.tables e below (T.setTop { g with pc := g.pc + 1, stack := .long (x % y) :: rest }) target) : Steps p.tables e below (T.setTop g) target :=
  XS.lrem X.here hx hg hd hs hy (by rw [lrem_mod x y]; exact hr)
theorem own_lrem (x y : Int64) (d : Int) (hy : y.toInt = d) : (0 ≤ x.toInt → (x % y).toInt = x.toInt % d) ∧ (x.toInt < 0 → (x % y).toInt = -((-x.toInt) % d)) := by rw [Int64.toInt_mod, hy]; exact tr _ _
theorem own_lxor (x y : Int64) (hy : 0 ≤ y.toInt) : ((x ^^^ y).toInt < 0 ↔ x.toInt < 0) := by
  have h1 : (x ^^^ y).toBitVec.msb = (x.toBitVec.msb ^^ y.toBitVec.msb) := by rw [Int64.toBitVec_xor, BitVec.msb_xor]
  have h2 := BitVec.msb_eq_toInt (x := (x ^^^ y).toBitVec)
  have h3 := BitVec.msb_eq_toInt (x := x.toBitVec)
  have h4 := BitVec.msb_eq_toInt (x := y.toBitVec)
  have e1 : (x ^^^ y).toBitVec.toInt = (x ^^^ y).toInt := rfl
  have e2 : x.toBitVec.toInt = x.toInt := rfl
  have e3 : y.toBitVec.toInt = y.toInt := rfl
  rw [e1] at h2
  rw [e2] at h3
  rw [e3] at h4
  have h5 : ¬ y.toInt < 0 := by omega
  rw [h2, h3, h4, decide_eq_false h5, Bool.xor_false] at h1
  simpa using h1
theorem pop2L {g : JFrame} {target : State} (X : Stand p l e R s m args below meth c T locs cells slots) (hx : p.tables.exec = Jvm.exec) (hg : g.method = m) {x : Int64} {rest : List Value} (hd : decode c.code g.pc = .ok (.pop2, 1)) (hs : g.stack = .long x :: rest)
    (hr : Steps p.tables e below (T.setTop { g with pc := g.pc + 1, stack := rest }) target) : Steps p.tables e below (T.setTop g) target := by
  subst hg
  jvm_step X.here [X.here.top, hx, hd, hs, Value.category]
  exact hr
theorem own_staKeep {Z : State} {h h' : Heap} {C n d : String} {v : Value} {ws : List Addr} (F : Sta Z h C n d v) (K : Keep h h' ws) (hn : ∀ x ∈ ws, ∀ cell : Cell, h[x]? = some cell → cell.vm.isStatics = false) : Sta Z h' C n d v := by
  obtain ⟨cf, i, k, f, st, cell, h1, h2, h3, h4, h5, h6, h7⟩ := F
  exact ⟨cf, i, k, f, st, cell, h1, h2, h3, h4, K.2.1 _ _ h5 (fun q => by have q2 := hn _ q _ h5; rw [h6] at q2; cases q2), h6, h7⟩
end Kit

theorem d2_0 : decode jdk_30_method_1_code 0 = .ok (.aload_n 0, 1) := by decide +kernel
theorem d2_1 : decode jdk_30_method_1_code 1 = .ok (.invokespecial 1, 3) := by decide +kernel
theorem d2_4 : decode jdk_30_method_1_code 4 = .ok (.return_, 1) := by decide +kernel
theorem ef_2 (m : MethodId) (x0 : Addr) : entryFrame m #[(.ref x0)] 1 = mkF m 0 #[.val (.ref x0)] [] := by first | (simp [entryFrame, mkF, argsToLocals, Value.category]; done) | rfl
def Q2 (Z : State) (o0 : Addr) (h0 : Heap) (n0 : Nat) (v : Option Value) (h : Heap) (L : List Loc) : Prop := v = none ∧ Fr n0 L ∧ h = h0
set_option maxRecDepth 65536 in
set_option maxHeartbeats 40000000 in
theorem rm2 (l : Launch) (Z : State) (a0 : Array Value) (hw : ∀ d ∈ tables_1, d.before a0 Z = true) (ws : List Jvm.Cond) (o0 : Addr) (h0 : Heap) (n0 : Nat) (Z0 : n0 ≤ h0.size) :
    MetFree l (⟨"java/lang/Record", "<init>", "()V"⟩ : MethodName) (head1 (Jvm.Cond.code (⟨"java/lang/Record", "<init>", "()V"⟩ : MethodName) jdk_30_method_1_code 1 none :: ws) ({ frames := 1, cells := 0, slots := 0, locals := 12 } : Room)) (fun a U => a = #[(.ref o0)] ∧ Z.Warmed39 U.vm ∧ U.heap = h0) (fun _ _ _ _ _ => True) (fun _ U o U' => ∃ v L, o = .returned v ∧ Q2 Z o0 h0 n0 v U'.heap L ∧ FrameEnd U o U' L ({ frames := 1, cells := 0, slots := 0, locals := 12 } : Room).cells ({ frames := 1, cells := 0, slots := 0, locals := 12 } : Room).slots) := by
  refine MetFree.of_bodySF (plainFor_of_name (by first | (simp [plainName, overriddenIn]; done) | decide +kernel)) hisR ?_
  intro p e s m args below meth c s₁ Bd hml0 hP hK
  obtain ⟨rfl, hZ, hh⟩ := hP
  have hx := Bd.exec
  have hby := Bd.bytes
  have hml : c.maxLocals = 1 := hml0
  have hown : s.vm.findClass "java/lang/Record" = some m.cls := findClass_of_methodNamed Bd.named
  have hnm := (name_of_methodNamed Bd.named Bd.method).1
  have hlk := BodyLoose.notSynchronized Bd
  have X0 : Stand p l e ({ frames := 1, cells := 0, slots := 0, locals := 12 } : Room) s m #[(.ref o0)] below meth c s₁ [] 0 0 := Stand.of_body Bd
  have e0 : s₁.heap = h0 := by rw [← hh, Bd.state]; rfl
  have N0 := Fr.nil n0
  show Go p e below s (Q2 Z o0 h0 n0) 0 0 (s₁.setTop (entryFrame m #[(.ref o0)] 1))
  rw [ef_2]
  show Go _ _ _ _ _ _ _ (s₁.setTop (mkF m 0 #[.val (.ref o0)] []))
  refine gob (fun _ k => XS.aloadN X0.here hx rfl (hb hby d2_0) rfl rfl k) ?_
  show Go _ _ _ _ _ _ _ (s₁.setTop (mkF m 1 #[.val (.ref o0)] [(.ref o0)]))
  obtain ⟨T1, X1, e1, st1⟩ := initO X0 hx hZ hown (hw _ (List.mem_of_getElem? (i := 11) rfl)) (hw _ (List.mem_of_getElem? (i := 12) rfl)) (hw _ (List.mem_of_getElem? (i := 13) rfl)) e0 (g := (mkF m 1 #[.val (.ref o0)] [(.ref o0)])) rfl (by rw [hml]; rfl) rfl (hb hby d2_1) (by decide) (W := 0) (by show 2 * 0 + _ ≤ _; exact Nat.le_of_eq rfl) (by decide)
  refine gob st1 ?_
  show Go _ _ _ _ _ _ _ (T1.setTop (mkF m 4 #[.val (.ref o0)] []))
  refine goV X1 hx hlk Bd.returns (hb hby d2_4) ?_ (by decide) (by decide)
  show Q2 Z o0 h0 n0 (none) T1.heap _
  exact ⟨rfl, N0, e1⟩
theorem d1_0 : decode prog_28_method_1_code 0 = .ok (.aload_n 0, 1) := by decide +kernel
theorem d1_1 : decode prog_28_method_1_code 1 = .ok (.invokespecial 1, 3) := by decide +kernel
theorem d1_4 : decode prog_28_method_1_code 4 = .ok (.aload_n 0, 1) := by decide +kernel
theorem d1_5 : decode prog_28_method_1_code 5 = .ok (.iload_n 1, 1) := by decide +kernel
theorem d1_6 : decode prog_28_method_1_code 6 = .ok (.putfield 7, 3) := by decide +kernel
theorem d1_9 : decode prog_28_method_1_code 9 = .ok (.aload_n 0, 1) := by decide +kernel
theorem d1_10 : decode prog_28_method_1_code 10 = .ok (.lload_n 2, 1) := by decide +kernel
theorem d1_11 : decode prog_28_method_1_code 11 = .ok (.putfield 13, 3) := by decide +kernel
theorem d1_14 : decode prog_28_method_1_code 14 = .ok (.aload_n 0, 1) := by decide +kernel
theorem d1_15 : decode prog_28_method_1_code 15 = .ok (.iload 4, 2) := by decide +kernel
theorem d1_17 : decode prog_28_method_1_code 17 = .ok (.putfield 17, 3) := by decide +kernel
theorem d1_20 : decode prog_28_method_1_code 20 = .ok (.aload_n 0, 1) := by decide +kernel
theorem d1_21 : decode prog_28_method_1_code 21 = .ok (.iload 5, 2) := by decide +kernel
theorem d1_23 : decode prog_28_method_1_code 23 = .ok (.putfield 20, 3) := by decide +kernel
theorem d1_26 : decode prog_28_method_1_code 26 = .ok (.return_, 1) := by decide +kernel
theorem pd_0 : parseMethodDescriptor "()V" = some ⟨[], none⟩ := by decide +kernel
theorem ef_1 (m : MethodId) (x0 : Addr) (x1 : Int32) (x2 : Int64) (x3 : Int32) (x4 : Int32) : entryFrame m #[(.ref x0), (.int x1), (.long x2), (.int x3), (.int x4)] 6 = mkF m 0 #[.val (.ref x0), .val (.int x1), .val (.long x2), .second, .val (.int x3), .val (.int x4)] [] := by first | (simp [entryFrame, mkF, argsToLocals, Value.category]; done) | rfl
def Q1 (Z : State) (o0 : Addr) (p1 : Int32) (q2 : Int64) (p3 : Int32) (p4 : Int32) (h0 : Heap) (n0 : Nat) (v : Option Value) (h : Heap) (L : List Loc) : Prop := v = none ∧ Fr n0 L ∧ Keep h0 h ([o0] : List Addr) ∧ Fld Z h o0 "com/example/hot_potato/hotpotato/Message$Probe$Sighting" "generation" "I" (.int p1) ∧ Fld Z h o0 "com/example/hot_potato/hotpotato/Message$Probe$Sighting" "hop" "J" (.long q2) ∧ Fld Z h o0 "com/example/hot_potato/hotpotato/Message$Probe$Sighting" "at" "I" (.int p3) ∧ Fld Z h o0 "com/example/hot_potato/hotpotato/Message$Probe$Sighting" "passedTo" "I" (.int p4)
set_option maxRecDepth 65536 in
set_option maxHeartbeats 40000000 in
theorem rm1 (l : Launch) (Z : State) (a0 : Array Value) (hw : ∀ d ∈ tables_1, d.before a0 Z = true) (ws : List Jvm.Cond) (o0 : Addr) (p1 : Int32) (q2 : Int64) (p3 : Int32) (p4 : Int32) (h0 : Heap) (n0 : Nat) (Z0 : n0 ≤ h0.size) (E_o0 : Exa Z h0 o0 "com/example/hot_potato/hotpotato/Message$Probe$Sighting") (F_generation_o0 : Fld Z h0 o0 "com/example/hot_potato/hotpotato/Message$Probe$Sighting" "generation" "I" (.int (0 : Int32))) (g_o0 : n0 ≤ o0) (F_hop_o0 : Fld Z h0 o0 "com/example/hot_potato/hotpotato/Message$Probe$Sighting" "hop" "J" (.long (0 : Int64))) (F_at_o0 : Fld Z h0 o0 "com/example/hot_potato/hotpotato/Message$Probe$Sighting" "at" "I" (.int (0 : Int32))) (F_passedTo_o0 : Fld Z h0 o0 "com/example/hot_potato/hotpotato/Message$Probe$Sighting" "passedTo" "I" (.int (0 : Int32))) :
    MetFree l (⟨"com/example/hot_potato/hotpotato/Message$Probe$Sighting", "<init>", "(IJII)V"⟩ : MethodName) (head1 (Jvm.Cond.code (⟨"com/example/hot_potato/hotpotato/Message$Probe$Sighting", "<init>", "(IJII)V"⟩ : MethodName) prog_28_method_1_code 6 none :: ws) ({ frames := 2, cells := 0, slots := 0, locals := 24 } : Room)) (fun a U => a = #[(.ref o0), (.int p1), (.long q2), (.int p3), (.int p4)] ∧ Z.Warmed39 U.vm ∧ U.heap = h0) (fun _ _ _ _ _ => True) (fun _ U o U' => ∃ v L, o = .returned v ∧ Q1 Z o0 p1 q2 p3 p4 h0 n0 v U'.heap L ∧ FrameEnd U o U' L ({ frames := 2, cells := 0, slots := 0, locals := 24 } : Room).cells ({ frames := 2, cells := 0, slots := 0, locals := 24 } : Room).slots) := by
  refine MetFree.of_bodySF (plainFor_of_name (by first | (simp [plainName, overriddenIn]; done) | decide +kernel)) hisR ?_
  intro p e s m args below meth c s₁ Bd hml0 hP hK
  obtain ⟨rfl, hZ, hh⟩ := hP
  have hx := Bd.exec
  have hby := Bd.bytes
  have hml : c.maxLocals = 6 := hml0
  have hown : s.vm.findClass "com/example/hot_potato/hotpotato/Message$Probe$Sighting" = some m.cls := findClass_of_methodNamed Bd.named
  have hnm := (name_of_methodNamed Bd.named Bd.method).1
  have hlk := BodyLoose.notSynchronized Bd
  have X0 : Stand p l e ({ frames := 2, cells := 0, slots := 0, locals := 24 } : Room) s m #[(.ref o0), (.int p1), (.long q2), (.int p3), (.int p4)] below meth c s₁ [] 0 0 := Stand.of_body Bd
  have e0 : s₁.heap = h0 := by rw [← hh, Bd.state]; rfl
  have N0 := Fr.nil n0
  show Go p e below s (Q1 Z o0 p1 q2 p3 p4 h0 n0) 0 0 (s₁.setTop (entryFrame m #[(.ref o0), (.int p1), (.long q2), (.int p3), (.int p4)] 6))
  rw [ef_1]
  show Go _ _ _ _ _ _ _ (s₁.setTop (mkF m 0 #[.val (.ref o0), .val (.int p1), .val (.long q2), .second, .val (.int p3), .val (.int p4)] []))
  refine gob (fun _ k => XS.aloadN X0.here hx rfl (hb hby d1_0) rfl rfl k) ?_
  show Go _ _ _ _ _ _ _ (s₁.setTop (mkF m 1 #[.val (.ref o0), .val (.int p1), .val (.long q2), .second, .val (.int p3), .val (.int p4)] [(.ref o0)]))
  obtain ⟨_, _, ⟨T1, L1, k1, n1⟩, -, X1, ⟨Lc1, hQ1, l1, y1, z1⟩, st1⟩ := X0.specialBack hx (y := (⟨"java/lang/Record", "<init>", "()V"⟩ : MethodName)) rfl hown (mvT hZ (hw _ (List.mem_of_getElem? (i := 6) rfl))) (mvT hZ (hw _ (List.mem_of_getElem? (i := 7) rfl))) (mvT hZ (hw _ (List.mem_of_getElem? (i := 10) rfl))) (by decide) (backOf (W := 0) (rm2 l Z a0 hw [] o0 h0 n0 Z0 ) hZ (hw _ (List.mem_of_getElem? (i := 10) rfl)) (hw _ (List.mem_of_getElem? (i := 9) rfl)) (by decide) (by decide)) (g := (mkF m 1 #[.val (.ref o0), .val (.int p1), .val (.long q2), .second, .val (.int p3), .val (.int p4)] [(.ref o0)])) rfl (by rw [hml]; rfl) (Steps.refl _) (a := o0) (argsL := []) (rest := []) (lenOf pd_0 rfl) rfl (by show 2 * 0 + _ ≤ _; exact Nat.le_of_eq rfl) (hb hby d1_1) (fun _ _ => ⟨rfl, e0, (by decide : 0 + 0 ≤ _), (by decide : 0 + 0 ≤ _)⟩)
  dsimp only [Pt.U, Pt.locs, Pt.cells, Pt.slots] at X1 l1 y1 z1 st1 hQ1
  subst l1 y1 z1
  obtain ⟨rfl, Nq1, e1⟩ := hQ1
  have N1 := Fr.app N0 Nq1
  refine gob (fun _ k => st1.trans k) ?_
  show Go _ _ _ _ _ _ _ (T1.setTop (mkF m 4 #[.val (.ref o0), .val (.int p1), .val (.long q2), .second, .val (.int p3), .val (.int p4)] []))
  refine gob (fun _ k => XS.aloadN X1.here hx rfl (hb hby d1_4) rfl rfl k) ?_
  show Go _ _ _ _ _ _ _ (T1.setTop (mkF m 5 #[.val (.ref o0), .val (.int p1), .val (.long q2), .second, .val (.int p3), .val (.int p4)] [(.ref o0)]))
  refine gob (fun _ k => XS.iloadN X1.here hx rfl (hb hby d1_5) rfl k) ?_
  show Go _ _ _ _ _ _ _ (T1.setTop (mkF m 6 #[.val (.ref o0), .val (.int p1), .val (.long q2), .second, .val (.int p3), .val (.int p4)] [(.int p1), (.ref o0)]))
  obtain ⟨T2, h2, X2, e2, W2, st2⟩ := putF X1 hx hZ hown (host := "") (Or.inl (hw _ (List.mem_of_getElem? (i := 14) rfl))) Via.refl e1 F_generation_o0 E_o0 (Or.inr ⟨(hw _ (List.mem_of_getElem? (i := 15) rfl)), rfl, hnm⟩) (hw _ (List.mem_of_getElem? (i := 1) rfl)) (ty := .int) (by decide) rfl rfl (g := (mkF m 6 #[.val (.ref o0), .val (.int p1), .val (.long q2), .second, .val (.int p3), .val (.int p4)] [(.int p1), (.ref o0)])) rfl rfl (hb hby d1_6)
  refine gob st2 ?_
  have z3 : n0 ≤ h2.size := Nat.le_trans Z0 (Keep.of_wr W2).1
  have N2 := Fr.snoc X2 N1 g_o0
  have K4 : Keep h0 h2 ([o0] : List Addr) := (Keep.refl h0 ([o0] : List Addr)).wr W2 (Or.inl (List.mem_of_getElem? (i := 0) rfl))
  have Fw2 := F_generation_o0.same W2
  show Go _ _ _ _ _ _ _ (T2.setTop (mkF m 9 #[.val (.ref o0), .val (.int p1), .val (.long q2), .second, .val (.int p3), .val (.int p4)] []))
  refine gob (fun _ k => XS.aloadN X2.here hx rfl (hb hby d1_9) rfl rfl k) ?_
  show Go _ _ _ _ _ _ _ (T2.setTop (mkF m 10 #[.val (.ref o0), .val (.int p1), .val (.long q2), .second, .val (.int p3), .val (.int p4)] [(.ref o0)]))
  refine gob (fun _ k => XS.lloadN X2.here hx rfl (hb hby d1_10) rfl k) ?_
  show Go _ _ _ _ _ _ _ (T2.setTop (mkF m 11 #[.val (.ref o0), .val (.int p1), .val (.long q2), .second, .val (.int p3), .val (.int p4)] [(.long q2), (.ref o0)]))
  have c5 := (F_hop_o0.other W2 (Or.inr (slot_ne (Or.inr (hw _ (List.mem_of_getElem? (i := 17) rfl))) (Or.inr (hw _ (List.mem_of_getElem? (i := 15) rfl))) (by decide) (t := .long) (t' := .int) (by decide) (by decide))))
  have c6 := (E_o0.wr W2)
  obtain ⟨T7, h7, X7, e7, W7, st7⟩ := putF X2 hx hZ hown (host := "") (Or.inl (hw _ (List.mem_of_getElem? (i := 16) rfl))) Via.refl e2 c5 c6 (Or.inr ⟨(hw _ (List.mem_of_getElem? (i := 17) rfl)), rfl, hnm⟩) (hw _ (List.mem_of_getElem? (i := 1) rfl)) (ty := .long) (by decide) rfl rfl (g := (mkF m 11 #[.val (.ref o0), .val (.int p1), .val (.long q2), .second, .val (.int p3), .val (.int p4)] [(.long q2), (.ref o0)])) rfl rfl (hb hby d1_11)
  refine gob st7 ?_
  have z8 : n0 ≤ h7.size := Nat.le_trans z3 (Keep.of_wr W7).1
  have N7 := Fr.snoc X7 N2 g_o0
  have K9 : Keep h0 h7 ([o0] : List Addr) := K4.wr W7 (Or.inl (List.mem_of_getElem? (i := 0) rfl))
  have Fw7 := c5.same W7
  show Go _ _ _ _ _ _ _ (T7.setTop (mkF m 14 #[.val (.ref o0), .val (.int p1), .val (.long q2), .second, .val (.int p3), .val (.int p4)] []))
  refine gob (fun _ k => XS.aloadN X7.here hx rfl (hb hby d1_14) rfl rfl k) ?_
  show Go _ _ _ _ _ _ _ (T7.setTop (mkF m 15 #[.val (.ref o0), .val (.int p1), .val (.long q2), .second, .val (.int p3), .val (.int p4)] [(.ref o0)]))
  refine gob (fun _ k => XS.iload X7.here hx rfl (hb hby d1_15) rfl k) ?_
  show Go _ _ _ _ _ _ _ (T7.setTop (mkF m 17 #[.val (.ref o0), .val (.int p1), .val (.long q2), .second, .val (.int p3), .val (.int p4)] [(.int p3), (.ref o0)]))
  have c10 := ((F_at_o0.other W2 (Or.inr (slot_ne (Or.inr (hw _ (List.mem_of_getElem? (i := 19) rfl))) (Or.inr (hw _ (List.mem_of_getElem? (i := 15) rfl))) (by decide) (t := .int) (t' := .int) (by decide) (by decide)))).other W7 (Or.inr (slot_ne (Or.inr (hw _ (List.mem_of_getElem? (i := 19) rfl))) (Or.inr (hw _ (List.mem_of_getElem? (i := 17) rfl))) (by decide) (t := .int) (t' := .long) (by decide) (by decide))))
  have c11 := (c6.wr W7)
  obtain ⟨T12, h12, X12, e12, W12, st12⟩ := putF X7 hx hZ hown (host := "") (Or.inl (hw _ (List.mem_of_getElem? (i := 18) rfl))) Via.refl e7 c10 c11 (Or.inr ⟨(hw _ (List.mem_of_getElem? (i := 19) rfl)), rfl, hnm⟩) (hw _ (List.mem_of_getElem? (i := 1) rfl)) (ty := .int) (by decide) rfl rfl (g := (mkF m 17 #[.val (.ref o0), .val (.int p1), .val (.long q2), .second, .val (.int p3), .val (.int p4)] [(.int p3), (.ref o0)])) rfl rfl (hb hby d1_17)
  refine gob st12 ?_
  have z13 : n0 ≤ h12.size := Nat.le_trans z8 (Keep.of_wr W12).1
  have N12 := Fr.snoc X12 N7 g_o0
  have K14 : Keep h0 h12 ([o0] : List Addr) := K9.wr W12 (Or.inl (List.mem_of_getElem? (i := 0) rfl))
  have Fw12 := c10.same W12
  show Go _ _ _ _ _ _ _ (T12.setTop (mkF m 20 #[.val (.ref o0), .val (.int p1), .val (.long q2), .second, .val (.int p3), .val (.int p4)] []))
  refine gob (fun _ k => XS.aloadN X12.here hx rfl (hb hby d1_20) rfl rfl k) ?_
  show Go _ _ _ _ _ _ _ (T12.setTop (mkF m 21 #[.val (.ref o0), .val (.int p1), .val (.long q2), .second, .val (.int p3), .val (.int p4)] [(.ref o0)]))
  refine gob (fun _ k => XS.iload X12.here hx rfl (hb hby d1_21) rfl k) ?_
  show Go _ _ _ _ _ _ _ (T12.setTop (mkF m 23 #[.val (.ref o0), .val (.int p1), .val (.long q2), .second, .val (.int p3), .val (.int p4)] [(.int p4), (.ref o0)]))
  have c15 := (((F_passedTo_o0.other W2 (Or.inr (slot_ne (Or.inr (hw _ (List.mem_of_getElem? (i := 21) rfl))) (Or.inr (hw _ (List.mem_of_getElem? (i := 15) rfl))) (by decide) (t := .int) (t' := .int) (by decide) (by decide)))).other W7 (Or.inr (slot_ne (Or.inr (hw _ (List.mem_of_getElem? (i := 21) rfl))) (Or.inr (hw _ (List.mem_of_getElem? (i := 17) rfl))) (by decide) (t := .int) (t' := .long) (by decide) (by decide)))).other W12 (Or.inr (slot_ne (Or.inr (hw _ (List.mem_of_getElem? (i := 21) rfl))) (Or.inr (hw _ (List.mem_of_getElem? (i := 19) rfl))) (by decide) (t := .int) (t' := .int) (by decide) (by decide))))
  have c16 := (c11.wr W12)
  obtain ⟨T17, h17, X17, e17, W17, st17⟩ := putF X12 hx hZ hown (host := "") (Or.inl (hw _ (List.mem_of_getElem? (i := 20) rfl))) Via.refl e12 c15 c16 (Or.inr ⟨(hw _ (List.mem_of_getElem? (i := 21) rfl)), rfl, hnm⟩) (hw _ (List.mem_of_getElem? (i := 1) rfl)) (ty := .int) (by decide) rfl rfl (g := (mkF m 23 #[.val (.ref o0), .val (.int p1), .val (.long q2), .second, .val (.int p3), .val (.int p4)] [(.int p4), (.ref o0)])) rfl rfl (hb hby d1_23)
  refine gob st17 ?_
  have z18 : n0 ≤ h17.size := Nat.le_trans z13 (Keep.of_wr W17).1
  have N17 := Fr.snoc X17 N12 g_o0
  have K19 : Keep h0 h17 ([o0] : List Addr) := K14.wr W17 (Or.inl (List.mem_of_getElem? (i := 0) rfl))
  have Fw17 := c15.same W17
  show Go _ _ _ _ _ _ _ (T17.setTop (mkF m 26 #[.val (.ref o0), .val (.int p1), .val (.long q2), .second, .val (.int p3), .val (.int p4)] []))
  refine goV X17 hx hlk Bd.returns (hb hby d1_26) ?_ (by decide) (by decide)
  show Q1 Z o0 p1 q2 p3 p4 h0 n0 (none) T17.heap _
  have c20 := (((Fw2.other W7 (Or.inr (slot_ne (Or.inr (hw _ (List.mem_of_getElem? (i := 15) rfl))) (Or.inr (hw _ (List.mem_of_getElem? (i := 17) rfl))) (by decide) (t := .int) (t' := .long) (by decide) (by decide)))).other W12 (Or.inr (slot_ne (Or.inr (hw _ (List.mem_of_getElem? (i := 15) rfl))) (Or.inr (hw _ (List.mem_of_getElem? (i := 19) rfl))) (by decide) (t := .int) (t' := .int) (by decide) (by decide)))).other W17 (Or.inr (slot_ne (Or.inr (hw _ (List.mem_of_getElem? (i := 15) rfl))) (Or.inr (hw _ (List.mem_of_getElem? (i := 21) rfl))) (by decide) (t := .int) (t' := .int) (by decide) (by decide))))
  have c21 := ((Fw7.other W12 (Or.inr (slot_ne (Or.inr (hw _ (List.mem_of_getElem? (i := 17) rfl))) (Or.inr (hw _ (List.mem_of_getElem? (i := 19) rfl))) (by decide) (t := .long) (t' := .int) (by decide) (by decide)))).other W17 (Or.inr (slot_ne (Or.inr (hw _ (List.mem_of_getElem? (i := 17) rfl))) (Or.inr (hw _ (List.mem_of_getElem? (i := 21) rfl))) (by decide) (t := .long) (t' := .int) (by decide) (by decide))))
  have c22 := (Fw12.other W17 (Or.inr (slot_ne (Or.inr (hw _ (List.mem_of_getElem? (i := 19) rfl))) (Or.inr (hw _ (List.mem_of_getElem? (i := 21) rfl))) (by decide) (t := .int) (t' := .int) (by decide) (by decide))))
  rw [e17]
  exact ⟨rfl, N17, K19, c20, c21, c22, Fw17⟩
theorem d4_0 : decode prog_28_method_2_code 0 = .ok (.aload_n 0, 1) := by decide +kernel
theorem d4_1 : decode prog_28_method_2_code 1 = .ok (.getfield 7, 3) := by decide +kernel
theorem d4_4 : decode prog_28_method_2_code 4 = .ok (.aload_n 1, 1) := by decide +kernel
theorem d4_5 : decode prog_28_method_2_code 5 = .ok (.getfield 7, 3) := by decide +kernel
theorem d4_8 : decode prog_28_method_2_code 8 = .ok (.if_icmp .gt 26, 3) := by decide +kernel
theorem d4_11 : decode prog_28_method_2_code 11 = .ok (.aload_n 0, 1) := by decide +kernel
theorem d4_12 : decode prog_28_method_2_code 12 = .ok (.getfield 7, 3) := by decide +kernel
theorem d4_15 : decode prog_28_method_2_code 15 = .ok (.aload_n 1, 1) := by decide +kernel
theorem d4_16 : decode prog_28_method_2_code 16 = .ok (.getfield 7, 3) := by decide +kernel
theorem d4_19 : decode prog_28_method_2_code 19 = .ok (.if_icmp .ne 19, 3) := by decide +kernel
theorem d4_22 : decode prog_28_method_2_code 22 = .ok (.aload_n 0, 1) := by decide +kernel
theorem d4_23 : decode prog_28_method_2_code 23 = .ok (.getfield 13, 3) := by decide +kernel
theorem d4_26 : decode prog_28_method_2_code 26 = .ok (.aload_n 1, 1) := by decide +kernel
theorem d4_27 : decode prog_28_method_2_code 27 = .ok (.getfield 13, 3) := by decide +kernel
theorem d4_30 : decode prog_28_method_2_code 30 = .ok (.lcmp, 1) := by decide +kernel
theorem d4_31 : decode prog_28_method_2_code 31 = .ok (.ifCond .le 7, 3) := by decide +kernel
theorem d4_34 : decode prog_28_method_2_code 34 = .ok (.iconst 1, 1) := by decide +kernel
theorem d4_35 : decode prog_28_method_2_code 35 = .ok (.goto 4, 3) := by decide +kernel
theorem d4_38 : decode prog_28_method_2_code 38 = .ok (.iconst 0, 1) := by decide +kernel
theorem d4_39 : decode prog_28_method_2_code 39 = .ok (.ireturn, 1) := by decide +kernel
theorem ef_4 (m : MethodId) (x0 : Addr) (x1 : Addr) : entryFrame m #[(.ref x0), (.ref x1)] 2 = mkF m 0 #[.val (.ref x0), .val (.ref x1)] [] := by first | (simp [entryFrame, mkF, argsToLocals, Value.category]; done) | rfl
def Q4 (Z : State) (o0 : Addr) (o1 : Addr) (w1 : Int32) (w3 : Int32) (w9 : Int64) (w11 : Int64) (h0 : Heap) (n0 : Nat) (v : Option Value) (h : Heap) (L : List Loc) : Prop := ∃ r : Int32, v = some (.int r) ∧ ((w3 < w1 ∧ r = (1 : Int32)) ∨ (¬ (w3 < w1) ∧ w1 = w3 ∧ w11 < w9 ∧ r = (1 : Int32)) ∨ (¬ (w3 < w1) ∧ w1 = w3 ∧ ¬ (w11 < w9) ∧ r = (0 : Int32)) ∨ (¬ (w3 < w1) ∧ ¬ (w1 = w3) ∧ r = (0 : Int32))) ∧ Fr n0 L ∧ h = h0
set_option maxRecDepth 65536 in
set_option maxHeartbeats 40000000 in
theorem rm4 (l : Launch) (Z : State) (a0 : Array Value) (hw : ∀ d ∈ tables_1, d.before a0 Z = true) (ws : List Jvm.Cond) (o0 : Addr) (o1 : Addr) (w1 : Int32) (w3 : Int32) (w9 : Int64) (w11 : Int64) (h0 : Heap) (n0 : Nat) (Z0 : n0 ≤ h0.size) (F_generation_o0 : Fld Z h0 o0 "com/example/hot_potato/hotpotato/Message$Probe$Sighting" "generation" "I" (.int w1)) (F_generation_o1 : Fld Z h0 o1 "com/example/hot_potato/hotpotato/Message$Probe$Sighting" "generation" "I" (.int w3)) (F_hop_o0 : Fld Z h0 o0 "com/example/hot_potato/hotpotato/Message$Probe$Sighting" "hop" "J" (.long w9)) (F_hop_o1 : Fld Z h0 o1 "com/example/hot_potato/hotpotato/Message$Probe$Sighting" "hop" "J" (.long w11)) :
    MetFree l (⟨"com/example/hot_potato/hotpotato/Message$Probe$Sighting", "after", "(Lcom/example/hot_potato/hotpotato/Message$Probe$Sighting;)Z"⟩ : MethodName) (head1 (Jvm.Cond.code (⟨"com/example/hot_potato/hotpotato/Message$Probe$Sighting", "after", "(Lcom/example/hot_potato/hotpotato/Message$Probe$Sighting;)Z"⟩ : MethodName) prog_28_method_2_code 2 (some .boolean) :: ws) ({ frames := 0, cells := 0, slots := 0, locals := 0 } : Room)) (fun a U => a = #[(.ref o0), (.ref o1)] ∧ Z.Warmed39 U.vm ∧ U.heap = h0) (fun _ _ _ _ _ => True) (fun _ U o U' => ∃ v L, o = .returned v ∧ Q4 Z o0 o1 w1 w3 w9 w11 h0 n0 v U'.heap L ∧ FrameEnd U o U' L ({ frames := 0, cells := 0, slots := 0, locals := 0 } : Room).cells ({ frames := 0, cells := 0, slots := 0, locals := 0 } : Room).slots) := by
  refine MetFree.of_bodySF (plainFor_of_name (by first | (simp [plainName, overriddenIn]; done) | decide +kernel)) hisR ?_
  intro p e s m args below meth c s₁ Bd hml0 hP hK
  obtain ⟨rfl, hZ, hh⟩ := hP
  have hx := Bd.exec
  have hby := Bd.bytes
  have hml : c.maxLocals = 2 := hml0
  have hown : s.vm.findClass "com/example/hot_potato/hotpotato/Message$Probe$Sighting" = some m.cls := findClass_of_methodNamed Bd.named
  have hnm := (name_of_methodNamed Bd.named Bd.method).1
  have hlk := BodyLoose.notSynchronized Bd
  have X0 : Stand p l e ({ frames := 0, cells := 0, slots := 0, locals := 0 } : Room) s m #[(.ref o0), (.ref o1)] below meth c s₁ [] 0 0 := Stand.of_body Bd
  have e0 : s₁.heap = h0 := by rw [← hh, Bd.state]; rfl
  have N0 := Fr.nil n0
  show Go p e below s (Q4 Z o0 o1 w1 w3 w9 w11 h0 n0) 0 0 (s₁.setTop (entryFrame m #[(.ref o0), (.ref o1)] 2))
  rw [ef_4]
  show Go _ _ _ _ _ _ _ (s₁.setTop (mkF m 0 #[.val (.ref o0), .val (.ref o1)] []))
  refine gob (fun _ k => XS.aloadN X0.here hx rfl (hb hby d4_0) rfl rfl k) ?_
  show Go _ _ _ _ _ _ _ (s₁.setTop (mkF m 1 #[.val (.ref o0), .val (.ref o1)] [(.ref o0)]))
  obtain ⟨T2, X2, e2, st2⟩ := getF X0 hx hZ hown (host := "") (Or.inl (hw _ (List.mem_of_getElem? (i := 14) rfl))) Via.refl e0 F_generation_o0 (g := (mkF m 1 #[.val (.ref o0), .val (.ref o1)] [(.ref o0)])) rfl rfl (hb hby d4_1)
  refine gob st2 ?_
  show Go _ _ _ _ _ _ _ (T2.setTop (mkF m 4 #[.val (.ref o0), .val (.ref o1)] [(.int w1)]))
  refine gob (fun _ k => XS.aloadN X2.here hx rfl (hb hby d4_4) rfl rfl k) ?_
  show Go _ _ _ _ _ _ _ (T2.setTop (mkF m 5 #[.val (.ref o0), .val (.ref o1)] [(.ref o1), (.int w1)]))
  obtain ⟨T4, X4, e4, st4⟩ := getF X2 hx hZ hown (host := "") (Or.inl (hw _ (List.mem_of_getElem? (i := 14) rfl))) Via.refl e2 F_generation_o1 (g := (mkF m 5 #[.val (.ref o0), .val (.ref o1)] [(.ref o1), (.int w1)])) rfl rfl (hb hby d4_5)
  refine gob st4 ?_
  show Go _ _ _ _ _ _ _ (T4.setTop (mkF m 8 #[.val (.ref o0), .val (.ref o1)] [(.int w3), (.int w1)]))
  by_cases hc8_5 : w3 < w1
  · skip
    refine gob (fun _ k => XS.icmpYes X4.here hx rfl (pc0 := 8) (pc' := 34) rfl (hb hby d4_8) rfl (tlt hc8_5).2.2.1 (by decide) (by decide) k) ?_
    show Go _ _ _ _ _ _ _ (T4.setTop (mkF m 34 #[.val (.ref o0), .val (.ref o1)] []))
    refine gob (fun _ k => XS.iconst X4.here hx rfl (hb hby d4_34) k) ?_
    show Go _ _ _ _ _ _ _ (T4.setTop (mkF m 35 #[.val (.ref o0), .val (.ref o1)] [(.int (1 : Int32))]))
    refine gob (fun _ k => XS.goto X4.here hx rfl (pc0 := 35) (pc' := 39) rfl (hb hby d4_35) (by decide) (by decide) k) ?_
    show Go _ _ _ _ _ _ _ (T4.setTop (mkF m 39 #[.val (.ref o0), .val (.ref o1)] [(.int (1 : Int32))]))
    refine goZ X4 hx hlk (t := .boolean) Bd.returns (by simp) (hb hby d4_39) (z' := (1 : Int32)) rfl ?_ (by decide) (by decide)
    show Q4 Z o0 o1 w1 w3 w9 w11 h0 n0 (some (.int (1 : Int32))) T4.heap _
    exact ⟨(1 : Int32), rfl, (Or.inl ⟨hc8_5, rfl⟩), N0, e4⟩
  · skip
    refine gob (fun _ k => XS.icmpNo X4.here hx rfl (hb hby d4_8) rfl (flt hc8_5).2.2.1 k) ?_
    show Go _ _ _ _ _ _ _ (T4.setTop (mkF m 11 #[.val (.ref o0), .val (.ref o1)] []))
    refine gob (fun _ k => XS.aloadN X4.here hx rfl (hb hby d4_11) rfl rfl k) ?_
    show Go _ _ _ _ _ _ _ (T4.setTop (mkF m 12 #[.val (.ref o0), .val (.ref o1)] [(.ref o0)]))
    obtain ⟨T6, X6, e6, st6⟩ := getF X4 hx hZ hown (host := "") (Or.inl (hw _ (List.mem_of_getElem? (i := 14) rfl))) Via.refl e4 F_generation_o0 (g := (mkF m 12 #[.val (.ref o0), .val (.ref o1)] [(.ref o0)])) rfl rfl (hb hby d4_12)
    refine gob st6 ?_
    show Go _ _ _ _ _ _ _ (T6.setTop (mkF m 15 #[.val (.ref o0), .val (.ref o1)] [(.int w1)]))
    refine gob (fun _ k => XS.aloadN X6.here hx rfl (hb hby d4_15) rfl rfl k) ?_
    show Go _ _ _ _ _ _ _ (T6.setTop (mkF m 16 #[.val (.ref o0), .val (.ref o1)] [(.ref o1), (.int w1)]))
    obtain ⟨T7, X7, e7, st7⟩ := getF X6 hx hZ hown (host := "") (Or.inl (hw _ (List.mem_of_getElem? (i := 14) rfl))) Via.refl e6 F_generation_o1 (g := (mkF m 16 #[.val (.ref o0), .val (.ref o1)] [(.ref o1), (.int w1)])) rfl rfl (hb hby d4_16)
    refine gob st7 ?_
    show Go _ _ _ _ _ _ _ (T7.setTop (mkF m 19 #[.val (.ref o0), .val (.ref o1)] [(.int w3), (.int w1)]))
    by_cases hc19_8 : w1 = w3
    · skip
      refine gob (fun _ k => XS.icmpNo X7.here hx rfl (hb hby d4_19) rfl (teq hc19_8).2 k) ?_
      show Go _ _ _ _ _ _ _ (T7.setTop (mkF m 22 #[.val (.ref o0), .val (.ref o1)] []))
      refine gob (fun _ k => XS.aloadN X7.here hx rfl (hb hby d4_22) rfl rfl k) ?_
      show Go _ _ _ _ _ _ _ (T7.setTop (mkF m 23 #[.val (.ref o0), .val (.ref o1)] [(.ref o0)]))
      obtain ⟨T10, X10, e10, st10⟩ := getF X7 hx hZ hown (host := "") (Or.inl (hw _ (List.mem_of_getElem? (i := 16) rfl))) Via.refl e7 F_hop_o0 (g := (mkF m 23 #[.val (.ref o0), .val (.ref o1)] [(.ref o0)])) rfl rfl (hb hby d4_23)
      refine gob st10 ?_
      show Go _ _ _ _ _ _ _ (T10.setTop (mkF m 26 #[.val (.ref o0), .val (.ref o1)] [(.long w9)]))
      refine gob (fun _ k => XS.aloadN X10.here hx rfl (hb hby d4_26) rfl rfl k) ?_
      show Go _ _ _ _ _ _ _ (T10.setTop (mkF m 27 #[.val (.ref o0), .val (.ref o1)] [(.ref o1), (.long w9)]))
      obtain ⟨T12, X12, e12, st12⟩ := getF X10 hx hZ hown (host := "") (Or.inl (hw _ (List.mem_of_getElem? (i := 16) rfl))) Via.refl e10 F_hop_o1 (g := (mkF m 27 #[.val (.ref o0), .val (.ref o1)] [(.ref o1), (.long w9)])) rfl rfl (hb hby d4_27)
      refine gob st12 ?_
      show Go _ _ _ _ _ _ _ (T12.setTop (mkF m 30 #[.val (.ref o0), .val (.ref o1)] [(.long w11), (.long w9)]))
      refine gob (fun _ k => XS.lcmp X12.here hx rfl (hb hby d4_30) rfl k) ?_
      show Go _ _ _ _ _ _ _ (T12.setTop (mkF m 31 #[.val (.ref o0), .val (.ref o1)] [(.int (lcmpW w9 w11))]))
      by_cases hc31_13 : w11 < w9
      · skip
        refine gob (fun _ k => XS.ifNo X12.here hx rfl (hb hby d4_31) rfl ((if0 _ _).trans (tlt ((lw_gt _ _).mpr hc31_13)).2.2.2) k) ?_
        show Go _ _ _ _ _ _ _ (T12.setTop (mkF m 34 #[.val (.ref o0), .val (.ref o1)] []))
        refine gob (fun _ k => XS.iconst X12.here hx rfl (hb hby d4_34) k) ?_
        show Go _ _ _ _ _ _ _ (T12.setTop (mkF m 35 #[.val (.ref o0), .val (.ref o1)] [(.int (1 : Int32))]))
        refine gob (fun _ k => XS.goto X12.here hx rfl (pc0 := 35) (pc' := 39) rfl (hb hby d4_35) (by decide) (by decide) k) ?_
        show Go _ _ _ _ _ _ _ (T12.setTop (mkF m 39 #[.val (.ref o0), .val (.ref o1)] [(.int (1 : Int32))]))
        refine goZ X12 hx hlk (t := .boolean) Bd.returns (by simp) (hb hby d4_39) (z' := (1 : Int32)) rfl ?_ (by decide) (by decide)
        show Q4 Z o0 o1 w1 w3 w9 w11 h0 n0 (some (.int (1 : Int32))) T12.heap _
        exact ⟨(1 : Int32), rfl, (Or.inr (Or.inl ⟨hc8_5, hc19_8, hc31_13, rfl⟩)), N0, e12⟩
      · skip
        refine gob (fun _ k => XS.ifYes X12.here hx rfl (pc0 := 31) (pc' := 38) rfl (hb hby d4_31) rfl ((if0 _ _).trans (flt (mt (lw_gt _ _).mp hc31_13)).2.2.2) (by decide) (by decide) k) ?_
        show Go _ _ _ _ _ _ _ (T12.setTop (mkF m 38 #[.val (.ref o0), .val (.ref o1)] []))
        refine gob (fun _ k => XS.iconst X12.here hx rfl (hb hby d4_38) k) ?_
        show Go _ _ _ _ _ _ _ (T12.setTop (mkF m 39 #[.val (.ref o0), .val (.ref o1)] [(.int (0 : Int32))]))
        refine goZ X12 hx hlk (t := .boolean) Bd.returns (by simp) (hb hby d4_39) (z' := (0 : Int32)) rfl ?_ (by decide) (by decide)
        show Q4 Z o0 o1 w1 w3 w9 w11 h0 n0 (some (.int (0 : Int32))) T12.heap _
        exact ⟨(0 : Int32), rfl, (Or.inr (Or.inr (Or.inl ⟨hc8_5, hc19_8, hc31_13, rfl⟩))), N0, e12⟩
    · skip
      refine gob (fun _ k => XS.icmpYes X7.here hx rfl (pc0 := 19) (pc' := 38) rfl (hb hby d4_19) rfl (feq hc19_8).2 (by decide) (by decide) k) ?_
      show Go _ _ _ _ _ _ _ (T7.setTop (mkF m 38 #[.val (.ref o0), .val (.ref o1)] []))
      refine gob (fun _ k => XS.iconst X7.here hx rfl (hb hby d4_38) k) ?_
      show Go _ _ _ _ _ _ _ (T7.setTop (mkF m 39 #[.val (.ref o0), .val (.ref o1)] [(.int (0 : Int32))]))
      refine goZ X7 hx hlk (t := .boolean) Bd.returns (by simp) (hb hby d4_39) (z' := (0 : Int32)) rfl ?_ (by decide) (by decide)
      show Q4 Z o0 o1 w1 w3 w9 w11 h0 n0 (some (.int (0 : Int32))) T7.heap _
      exact ⟨(0 : Int32), rfl, (Or.inr (Or.inr (Or.inr ⟨hc8_5, hc19_8, rfl⟩))), N0, e7⟩
theorem pd_1 : parseMethodDescriptor "(IJII)V" = some ⟨[.int, .long, .int, .int], none⟩ := by decide +kernel
theorem pd_2 : parseMethodDescriptor "(Lcom/example/hot_potato/hotpotato/Message$Probe$Sighting;)Z" = some ⟨[(.object "com/example/hot_potato/hotpotato/Message$Probe$Sighting")], some .boolean⟩ := by decide +kernel
theorem ef_0 (m : MethodId) (x0 : Int32) (x1 : Int64) (x2 : Int32) (x3 : Int64) (x4 : Int32) (x5 : Int32) : entryFrame m #[(.int x0), (.long x1), (.int x2), (.long x3), (.int x4), (.int x5)] maxLocals = mkF m 0 #[.val (.int x0), .val (.long x1), .second, .val (.int x2), .val (.long x3), .second, .val (.int x4), .val (.int x5), .unset, .unset, .unset, .unset, .unset, .unset, .unset, .unset, .unset, .unset, .unset] [] := by first | (simp [entryFrame, mkF, argsToLocals, Value.category, maxLocals]; done) | rfl
def Q0 (Z : State) (p0 : Int32) (q1 : Int64) (p2 : Int32) (q3 : Int64) (p4 : Int32) (p5 : Int32) (h0 : Heap) (n0 : Nat) (v : Option Value) (h : Heap) (L : List Loc) : Prop := v = some (.int 1) ∧ Fr n0 L
theorem ld_0_184_95 (p0 : Int32) (q1 : Int64) (p2 : Int32) (q3 : Int64) (p4 : Int32) (v2 : Int32) (v11 : Int64) (r39 : Int32) (v49 : Int32) (hj9 : ((p4 &&& (1 : Int32)) = (0 : Int32) ∧ v2 = p2) ∨ (¬ ((p4 &&& (1 : Int32)) = (0 : Int32)) ∧ v2 = p0)) (hj18 : ((p4 &&& (2 : Int32)) = (0 : Int32) ∧ v11 = q3) ∨ (¬ ((p4 &&& (2 : Int32)) = (0 : Int32)) ∧ v11 = q1)) (hr39 : (v2 < p0 ∧ r39 = (1 : Int32)) ∨ (¬ (v2 < p0) ∧ p0 = v2 ∧ v11 < q1 ∧ r39 = (1 : Int32)) ∨ (¬ (v2 < p0) ∧ p0 = v2 ∧ ¬ (v11 < q1) ∧ r39 = (0 : Int32)) ∨ (¬ (v2 < p0) ∧ ¬ (p0 = v2) ∧ r39 = (0 : Int32))) (hj56 : (v2 < p0 ∧ v49 = (1 : Int32)) ∨ (¬ (v2 < p0) ∧ p0 < v2 ∧ v49 = (0 : Int32)) ∨ (¬ (v2 < p0) ∧ ¬ (p0 < v2) ∧ v11 < q1 ∧ v49 = (1 : Int32)) ∨ (¬ (v2 < p0) ∧ ¬ (p0 < v2) ∧ ¬ (v11 < q1) ∧ v49 = (0 : Int32))) : r39 = v49 := by
  have := rng32 p0
  have := rng64 q1
  have := rng32 p2
  have := rng64 q3
  have := rng32 p4
  have := rng32 v2
  have := rng64 v11
  have := rng32 r39
  have := rng32 v49
  have : (0 : Int32).toInt = 0 := by decide
  have : (1 : Int32).toInt = 1 := by decide
  have : (2 : Int32).toInt = 2 := by decide
  have : ((p4 &&& (1 : Int32))).toInt = (p4).toInt % (2 ^ 1 : Nat) := c_mask p4 (1 : Int32) 1 (by decide) (by decide)
  have := c_and p4 (2 : Int32) (by decide)
  try (simp only [Int32.lt_iff_toInt_lt, Int32.le_iff_toInt_le, Int64.lt_iff_toInt_lt, Int64.le_iff_toInt_le, ← Int32.toInt_inj, ← Int64.toInt_inj, ne_eq] at *)
  omega
theorem ld_0_190_97 (p0 : Int32) (q1 : Int64) (p2 : Int32) (q3 : Int64) (p4 : Int32) (v2 : Int32) (v11 : Int64) (r39 : Int32) (r43 : Int32) (v59 : Int32) (v68 : Int32) (v77 : Int32) (v86 : Int32) (x94 : Int32) (hj9 : ((p4 &&& (1 : Int32)) = (0 : Int32) ∧ v2 = p2) ∨ (¬ ((p4 &&& (1 : Int32)) = (0 : Int32)) ∧ v2 = p0)) (hj18 : ((p4 &&& (2 : Int32)) = (0 : Int32) ∧ v11 = q3) ∨ (¬ ((p4 &&& (2 : Int32)) = (0 : Int32)) ∧ v11 = q1)) (hr39 : (v2 < p0 ∧ r39 = (1 : Int32)) ∨ (¬ (v2 < p0) ∧ p0 = v2 ∧ v11 < q1 ∧ r39 = (1 : Int32)) ∨ (¬ (v2 < p0) ∧ p0 = v2 ∧ ¬ (v11 < q1) ∧ r39 = (0 : Int32)) ∨ (¬ (v2 < p0) ∧ ¬ (p0 = v2) ∧ r39 = (0 : Int32))) (hr43 : (p0 < v2 ∧ r43 = (1 : Int32)) ∨ (¬ (p0 < v2) ∧ v2 = p0 ∧ q1 < v11 ∧ r43 = (1 : Int32)) ∨ (¬ (p0 < v2) ∧ v2 = p0 ∧ ¬ (q1 < v11) ∧ r43 = (0 : Int32)) ∨ (¬ (p0 < v2) ∧ ¬ (v2 = p0) ∧ r43 = (0 : Int32))) (hj66 : (p0 = v2 ∧ q1 = v11 ∧ v59 = (1 : Int32)) ∨ (p0 = v2 ∧ ¬ (q1 = v11) ∧ v59 = (0 : Int32)) ∨ (¬ (p0 = v2) ∧ v59 = (0 : Int32))) (hj75 : (r39 = (0 : Int32) ∧ v68 = (0 : Int32)) ∨ (¬ (r39 = (0 : Int32)) ∧ v68 = (1 : Int32))) (hj84 : (r43 = (0 : Int32) ∧ v77 = (0 : Int32)) ∨ (¬ (r43 = (0 : Int32)) ∧ v77 = (1 : Int32))) (hj93 : (v59 = (0 : Int32) ∧ v86 = (0 : Int32)) ∨ (¬ (v59 = (0 : Int32)) ∧ v86 = (1 : Int32))) (hx94 : ((v68 + v77) + v86) = x94) : x94 = (1 : Int32) := by
  have := rng32 p0
  have := rng64 q1
  have := rng32 p2
  have := rng64 q3
  have := rng32 p4
  have := rng32 v2
  have := rng64 v11
  have := rng32 r39
  have := rng32 r43
  have := rng32 v59
  have := rng32 v68
  have := rng32 v77
  have := rng32 v86
  have := rng32 x94
  have : (0 : Int32).toInt = 0 := by decide
  have : (1 : Int32).toInt = 1 := by decide
  have : (2 : Int32).toInt = 2 := by decide
  have : ((p4 &&& (1 : Int32))).toInt = (p4).toInt % (2 ^ 1 : Nat) := c_mask p4 (1 : Int32) 1 (by decide) (by decide)
  have := c_and p4 (2 : Int32) (by decide)
  have := c_iadd v68 v77
  have := rng32 (v68 + v77)
  have := c_iadd (v68 + v77) v86
  have := rng32 ((v68 + v77) + v86)
  try (simp only [Int32.lt_iff_toInt_lt, Int32.le_iff_toInt_le, Int64.lt_iff_toInt_lt, Int64.le_iff_toInt_le, ← Int32.toInt_inj, ← Int64.toInt_inj, ne_eq] at *)
  omega
theorem ld_0_195_99 (p0 : Int32) (q1 : Int64) (r45 : Int32) (hr45 : (p0 < p0 ∧ r45 = (1 : Int32)) ∨ (¬ (p0 < p0) ∧ p0 = p0 ∧ q1 < q1 ∧ r45 = (1 : Int32)) ∨ (¬ (p0 < p0) ∧ p0 = p0 ∧ ¬ (q1 < q1) ∧ r45 = (0 : Int32)) ∨ (¬ (p0 < p0) ∧ ¬ (p0 = p0) ∧ r45 = (0 : Int32))) : r45 = (0 : Int32) := by
  have := rng32 p0
  have := rng64 q1
  have := rng32 r45
  have : (0 : Int32).toInt = 0 := by decide
  have : (1 : Int32).toInt = 1 := by decide
  try (simp only [Int32.lt_iff_toInt_lt, Int32.le_iff_toInt_le, Int64.lt_iff_toInt_lt, Int64.le_iff_toInt_le, ← Int32.toInt_inj, ← Int64.toInt_inj, ne_eq] at *)
  omega
set_option maxRecDepth 65536 in
set_option maxHeartbeats 40000000 in
theorem rm0 (l : Launch) (Z : State) (a0 : Array Value) (hw : ∀ d ∈ tables_1, d.before a0 Z = true) (ws : List Jvm.Cond) (p0 : Int32) (q1 : Int64) (p2 : Int32) (q3 : Int64) (p4 : Int32) (p5 : Int32) (h0 : Heap) (n0 : Nat) (Z0 : n0 ≤ h0.size) :
    MetFree l x (head1 (Jvm.Cond.code x code maxLocals ret :: ws) room_1) (fun a U => a = #[(.int p0), (.long q1), (.int p2), (.long q3), (.int p4), (.int p5)] ∧ Z.Warmed39 U.vm ∧ U.heap = h0) (fun _ _ _ _ _ => True) (fun _ U o U' => ∃ v L, o = .returned v ∧ Q0 Z p0 q1 p2 q3 p4 p5 h0 n0 v U'.heap L ∧ FrameEnd U o U' L 16 128) := by
  refine MetFree.of_bodySF (plainFor_of_name (by first | (simp [plainName, overriddenIn]; done) | decide +kernel)) hisR ?_
  intro p e s m args below meth c s₁ Bd hml0 hP hK
  obtain ⟨rfl, hZ, hh⟩ := hP
  have hx := Bd.exec
  have hby := Bd.bytes
  have hml : c.maxLocals = 19 := hml0
  have hown : s.vm.findClass "com/example/hot_potato/hotpotato/SightingAfterPinLaw" = some m.cls := findClass_of_methodNamed Bd.named
  have hnm := (name_of_methodNamed Bd.named Bd.method).1
  have hlk := BodyLoose.notSynchronized Bd
  have X0 : Stand p l e room_1 s m #[(.int p0), (.long q1), (.int p2), (.long q3), (.int p4), (.int p5)] below meth c s₁ [] 0 0 := Stand.of_body Bd
  have e0 : s₁.heap = h0 := by rw [← hh, Bd.state]; rfl
  have N0 := Fr.nil n0
  show Go p e below s (Q0 Z p0 q1 p2 q3 p4 p5 h0 n0) 16 128 (s₁.setTop (entryFrame m #[(.int p0), (.long q1), (.int p2), (.long q3), (.int p4), (.int p5)] maxLocals))
  rw [ef_0]
  show Go _ _ _ _ _ _ _ (s₁.setTop (mkF m 0 #[.val (.int p0), .val (.long q1), .second, .val (.int p2), .val (.long q3), .second, .val (.int p4), .val (.int p5), .unset, .unset, .unset, .unset, .unset, .unset, .unset, .unset, .unset, .unset, .unset] []))
  refine gob (fun _ k => XS.iload X0.here hx rfl (hb hby at_0) rfl k) ?_
  show Go _ _ _ _ _ _ _ (s₁.setTop (mkF m 2 #[.val (.int p0), .val (.long q1), .second, .val (.int p2), .val (.long q3), .second, .val (.int p4), .val (.int p5), .unset, .unset, .unset, .unset, .unset, .unset, .unset, .unset, .unset, .unset, .unset] [(.int p4)]))
  refine gob (fun _ k => XS.iconst X0.here hx rfl (hb hby at_2) k) ?_
  show Go _ _ _ _ _ _ _ (s₁.setTop (mkF m 3 #[.val (.int p0), .val (.long q1), .second, .val (.int p2), .val (.long q3), .second, .val (.int p4), .val (.int p5), .unset, .unset, .unset, .unset, .unset, .unset, .unset, .unset, .unset, .unset, .unset] [(.int (1 : Int32)), (.int p4)]))
  refine gob (fun _ k => XS.iand X0.here hx rfl (hb hby at_3) rfl k) ?_
  show Go _ _ _ _ _ _ _ (s₁.setTop (mkF m 4 #[.val (.int p0), .val (.long q1), .second, .val (.int p2), .val (.long q3), .second, .val (.int p4), .val (.int p5), .unset, .unset, .unset, .unset, .unset, .unset, .unset, .unset, .unset, .unset, .unset] [(.int (p4 &&& (1 : Int32)))]))
  have join12_3 : ∀ (T4 : State) (lj5 : List Loc) (v2 : Int32), Stand p l e room_1 s m #[(.int p0), (.long q1), (.int p2), (.long q3), (.int p4), (.int p5)] below meth c T4 lj5 0 0 → T4.heap = h0 → Fr n0 lj5 → ((p4 &&& (1 : Int32)) = (0 : Int32) ∧ v2 = p2) ∨ (¬ ((p4 &&& (1 : Int32)) = (0 : Int32)) ∧ v2 = p0) → Go p e below s (Q0 Z p0 q1 p2 q3 p4 p5 h0 n0) 16 128 (T4.setTop (mkF m 12 #[.val (.int p0), .val (.long q1), .second, .val (.int p2), .val (.long q3), .second, .val (.int p4), .val (.int p5), .unset, .unset, .unset, .unset, .unset, .unset, .unset, .unset, .unset, .unset, .unset] [(.int v2)])) := by
    intro T4 lj5 v2 X6 e7 N8 hj9
    show Go _ _ _ _ _ _ _ (T4.setTop (mkF m 12 #[.val (.int p0), .val (.long q1), .second, .val (.int p2), .val (.long q3), .second, .val (.int p4), .val (.int p5), .unset, .unset, .unset, .unset, .unset, .unset, .unset, .unset, .unset, .unset, .unset] [(.int v2)]))
    refine gob (fun _ k => XS.istore X6.here hx rfl (hb hby at_12) rfl (l' := #[.val (.int p0), .val (.long q1), .second, .val (.int p2), .val (.long q3), .second, .val (.int p4), .val (.int p5), .val (.int v2), .unset, .unset, .unset, .unset, .unset, .unset, .unset, .unset, .unset, .unset]) rfl k) ?_
    show Go _ _ _ _ _ _ _ (T4.setTop (mkF m 14 #[.val (.int p0), .val (.long q1), .second, .val (.int p2), .val (.long q3), .second, .val (.int p4), .val (.int p5), .val (.int v2), .unset, .unset, .unset, .unset, .unset, .unset, .unset, .unset, .unset, .unset] []))
    refine gob (fun _ k => XS.iload X6.here hx rfl (hb hby at_14) rfl k) ?_
    show Go _ _ _ _ _ _ _ (T4.setTop (mkF m 16 #[.val (.int p0), .val (.long q1), .second, .val (.int p2), .val (.long q3), .second, .val (.int p4), .val (.int p5), .val (.int v2), .unset, .unset, .unset, .unset, .unset, .unset, .unset, .unset, .unset, .unset] [(.int p4)]))
    refine gob (fun _ k => XS.iconst X6.here hx rfl (hb hby at_16) k) ?_
    show Go _ _ _ _ _ _ _ (T4.setTop (mkF m 17 #[.val (.int p0), .val (.long q1), .second, .val (.int p2), .val (.long q3), .second, .val (.int p4), .val (.int p5), .val (.int v2), .unset, .unset, .unset, .unset, .unset, .unset, .unset, .unset, .unset, .unset] [(.int (2 : Int32)), (.int p4)]))
    refine gob (fun _ k => XS.iand X6.here hx rfl (hb hby at_17) rfl k) ?_
    show Go _ _ _ _ _ _ _ (T4.setTop (mkF m 18 #[.val (.int p0), .val (.long q1), .second, .val (.int p2), .val (.long q3), .second, .val (.int p4), .val (.int p5), .val (.int v2), .unset, .unset, .unset, .unset, .unset, .unset, .unset, .unset, .unset, .unset] [(.int (p4 &&& (2 : Int32)))]))
    have join27_12 : ∀ (T13 : State) (lj14 : List Loc) (v11 : Int64), Stand p l e room_1 s m #[(.int p0), (.long q1), (.int p2), (.long q3), (.int p4), (.int p5)] below meth c T13 lj14 0 0 → T13.heap = h0 → Fr n0 lj14 → ((p4 &&& (2 : Int32)) = (0 : Int32) ∧ v11 = q3) ∨ (¬ ((p4 &&& (2 : Int32)) = (0 : Int32)) ∧ v11 = q1) → Go p e below s (Q0 Z p0 q1 p2 q3 p4 p5 h0 n0) 16 128 (T13.setTop (mkF m 27 #[.val (.int p0), .val (.long q1), .second, .val (.int p2), .val (.long q3), .second, .val (.int p4), .val (.int p5), .val (.int v2), .unset, .unset, .unset, .unset, .unset, .unset, .unset, .unset, .unset, .unset] [(.long v11)])) := by
      intro T13 lj14 v11 X15 e16 N17 hj18
      show Go _ _ _ _ _ _ _ (T13.setTop (mkF m 27 #[.val (.int p0), .val (.long q1), .second, .val (.int p2), .val (.long q3), .second, .val (.int p4), .val (.int p5), .val (.int v2), .unset, .unset, .unset, .unset, .unset, .unset, .unset, .unset, .unset, .unset] [(.long v11)]))
      refine gob (fun _ k => XS.lstore X15.here hx rfl (hb hby at_27) rfl (l' := #[.val (.int p0), .val (.long q1), .second, .val (.int p2), .val (.long q3), .second, .val (.int p4), .val (.int p5), .val (.int v2), .val (.long v11), .second, .unset, .unset, .unset, .unset, .unset, .unset, .unset, .unset]) rfl k) ?_
      show Go _ _ _ _ _ _ _ (T13.setTop (mkF m 29 #[.val (.int p0), .val (.long q1), .second, .val (.int p2), .val (.long q3), .second, .val (.int p4), .val (.int p5), .val (.int v2), .val (.long v11), .second, .unset, .unset, .unset, .unset, .unset, .unset, .unset, .unset] []))
      obtain ⟨T19, h19, X19, e19, E19, A19, D19, -, st19⟩ := newO X15 hx hZ hown (hw _ (List.mem_of_getElem? (i := 0) rfl)) (hw _ (List.mem_of_getElem? (i := 1) rfl)) (hw _ (List.mem_of_getElem? (i := 2) rfl)) e16 (g := (mkF m 29 #[.val (.int p0), .val (.long q1), .second, .val (.int p2), .val (.long q3), .second, .val (.int p4), .val (.int p5), .val (.int v2), .val (.long v11), .second, .unset, .unset, .unset, .unset, .unset, .unset, .unset, .unset] [])) rfl (hb hby at_29) (by decide) (by decide)
      obtain ⟨b19, g19⟩ : ∃ z, z = h0.size := ⟨_, rfl⟩
      rw [← g19] at A19 D19 st19
      have g20 : n0 ≤ b19 := Nat.le_trans Z0 (Nat.le_of_eq g19.symm)
      have z21 : n0 ≤ h19.size := Nat.le_trans Z0 E19.1
      have F19_generation : Fld Z h19 b19 "com/example/hot_potato/hotpotato/Message$Probe$Sighting" "generation" "I" (.int (0 : Int32)) := D19 (Or.inr (hw _ (List.mem_of_getElem? (i := 15) rfl))) (ty := .int) (by decide)
      have F19_hop : Fld Z h19 b19 "com/example/hot_potato/hotpotato/Message$Probe$Sighting" "hop" "J" (.long (0 : Int64)) := D19 (Or.inr (hw _ (List.mem_of_getElem? (i := 17) rfl))) (ty := .long) (by decide)
      have F19_at : Fld Z h19 b19 "com/example/hot_potato/hotpotato/Message$Probe$Sighting" "at" "I" (.int (0 : Int32)) := D19 (Or.inr (hw _ (List.mem_of_getElem? (i := 19) rfl))) (ty := .int) (by decide)
      have F19_passedTo : Fld Z h19 b19 "com/example/hot_potato/hotpotato/Message$Probe$Sighting" "passedTo" "I" (.int (0 : Int32)) := D19 (Or.inr (hw _ (List.mem_of_getElem? (i := 21) rfl))) (ty := .int) (by decide)
      refine gob st19 ?_
      show Go _ _ _ _ _ _ _ (T19.setTop (mkF m 32 #[.val (.int p0), .val (.long q1), .second, .val (.int p2), .val (.long q3), .second, .val (.int p4), .val (.int p5), .val (.int v2), .val (.long v11), .second, .unset, .unset, .unset, .unset, .unset, .unset, .unset, .unset] [(.ref b19)]))
      refine gob (fun _ k => XS.dup X19.here hx rfl (hb hby at_32) rfl rfl k) ?_
      show Go _ _ _ _ _ _ _ (T19.setTop (mkF m 33 #[.val (.int p0), .val (.long q1), .second, .val (.int p2), .val (.long q3), .second, .val (.int p4), .val (.int p5), .val (.int v2), .val (.long v11), .second, .unset, .unset, .unset, .unset, .unset, .unset, .unset, .unset] [(.ref b19), (.ref b19)]))
      refine gob (fun _ k => XS.iloadN X19.here hx rfl (hb hby at_33) rfl k) ?_
      show Go _ _ _ _ _ _ _ (T19.setTop (mkF m 34 #[.val (.int p0), .val (.long q1), .second, .val (.int p2), .val (.long q3), .second, .val (.int p4), .val (.int p5), .val (.int v2), .val (.long v11), .second, .unset, .unset, .unset, .unset, .unset, .unset, .unset, .unset] [(.int p0), (.ref b19), (.ref b19)]))
      refine gob (fun _ k => XS.lloadN X19.here hx rfl (hb hby at_34) rfl k) ?_
      show Go _ _ _ _ _ _ _ (T19.setTop (mkF m 35 #[.val (.int p0), .val (.long q1), .second, .val (.int p2), .val (.long q3), .second, .val (.int p4), .val (.int p5), .val (.int v2), .val (.long v11), .second, .unset, .unset, .unset, .unset, .unset, .unset, .unset, .unset] [(.long q1), (.int p0), (.ref b19), (.ref b19)]))
      refine gob (fun _ k => XS.iload X19.here hx rfl (hb hby at_35) rfl k) ?_
      show Go _ _ _ _ _ _ _ (T19.setTop (mkF m 37 #[.val (.int p0), .val (.long q1), .second, .val (.int p2), .val (.long q3), .second, .val (.int p4), .val (.int p5), .val (.int v2), .val (.long v11), .second, .unset, .unset, .unset, .unset, .unset, .unset, .unset, .unset] [(.int p4), (.long q1), (.int p0), (.ref b19), (.ref b19)]))
      refine gob (fun _ k => XS.iload X19.here hx rfl (hb hby at_37) rfl k) ?_
      show Go _ _ _ _ _ _ _ (T19.setTop (mkF m 39 #[.val (.int p0), .val (.long q1), .second, .val (.int p2), .val (.long q3), .second, .val (.int p4), .val (.int p5), .val (.int v2), .val (.long v11), .second, .unset, .unset, .unset, .unset, .unset, .unset, .unset, .unset] [(.int p5), (.int p4), (.long q1), (.int p0), (.ref b19), (.ref b19)]))
      obtain ⟨_, _, ⟨T22, L22, k22, n22⟩, -, X22, ⟨Lc22, hQ22, l22, y22, z22⟩, st22⟩ := X19.specialBack hx (y := (⟨"com/example/hot_potato/hotpotato/Message$Probe$Sighting", "<init>", "(IJII)V"⟩ : MethodName)) rfl hown (mvT hZ (hw _ (List.mem_of_getElem? (i := 3) rfl))) (mvT hZ (hw _ (List.mem_of_getElem? (i := 4) rfl))) (mvT hZ (hw _ (List.mem_of_getElem? (i := 5) rfl))) (by decide) (backOf (W := 1) (rm1 l Z a0 hw [] b19 p0 q1 p4 p5 h19 n0 z21 A19 F19_generation g20 F19_hop F19_at F19_passedTo) hZ (hw _ (List.mem_of_getElem? (i := 5) rfl)) (hw _ (List.mem_of_getElem? (i := 2) rfl)) (by decide) (by decide)) (g := (mkF m 39 #[.val (.int p0), .val (.long q1), .second, .val (.int p2), .val (.long q3), .second, .val (.int p4), .val (.int p5), .val (.int v2), .val (.long v11), .second, .unset, .unset, .unset, .unset, .unset, .unset, .unset, .unset] [(.int p5), (.int p4), (.long q1), (.int p0), (.ref b19), (.ref b19)])) rfl (by rw [hml]; rfl) (Steps.refl _) (a := b19) (argsL := [(.int p0), (.long q1), (.int p4), (.int p5)]) (rest := [(.ref b19)]) (lenOf pd_1 rfl) rfl (by show 2 * 0 + _ ≤ _; exact Nat.le_of_eq rfl) (hb hby at_39) (fun _ _ => ⟨rfl, e19, (by decide : 1 + 0 ≤ _), (by decide : 4 + 0 ≤ _)⟩)
      dsimp only [Pt.U, Pt.locs, Pt.cells, Pt.slots] at X22 l22 y22 z22 st22 hQ22
      subst l22 y22 z22
      obtain ⟨rfl, Nq22, K22, F23, F24, F25, F26⟩ := hQ22
      have N22 := Fr.app N17 Nq22
      have z27 : n0 ≤ T22.heap.size := Nat.le_trans z21 K22.1
      refine gob (fun _ k => st22.trans k) ?_
      show Go _ _ _ _ _ _ _ (T22.setTop (mkF m 42 #[.val (.int p0), .val (.long q1), .second, .val (.int p2), .val (.long q3), .second, .val (.int p4), .val (.int p5), .val (.int v2), .val (.long v11), .second, .unset, .unset, .unset, .unset, .unset, .unset, .unset, .unset] [(.ref b19)]))
      refine gob (fun _ k => XS.astore X22.here hx rfl (hb hby at_42) rfl rfl (l' := #[.val (.int p0), .val (.long q1), .second, .val (.int p2), .val (.long q3), .second, .val (.int p4), .val (.int p5), .val (.int v2), .val (.long v11), .second, .val (.ref b19), .unset, .unset, .unset, .unset, .unset, .unset, .unset]) rfl k) ?_
      show Go _ _ _ _ _ _ _ (T22.setTop (mkF m 44 #[.val (.int p0), .val (.long q1), .second, .val (.int p2), .val (.long q3), .second, .val (.int p4), .val (.int p5), .val (.int v2), .val (.long v11), .second, .val (.ref b19), .unset, .unset, .unset, .unset, .unset, .unset, .unset] []))
      obtain ⟨T28, h28, X28, e28, E28, A28, D28, -, st28⟩ := newO X22 hx hZ hown (hw _ (List.mem_of_getElem? (i := 0) rfl)) (hw _ (List.mem_of_getElem? (i := 1) rfl)) (hw _ (List.mem_of_getElem? (i := 2) rfl)) (rfl : T22.heap = _) (g := (mkF m 44 #[.val (.int p0), .val (.long q1), .second, .val (.int p2), .val (.long q3), .second, .val (.int p4), .val (.int p5), .val (.int v2), .val (.long v11), .second, .val (.ref b19), .unset, .unset, .unset, .unset, .unset, .unset, .unset] [])) rfl (hb hby at_44) (by decide) (by decide)
      obtain ⟨b28, g28⟩ : ∃ z, z = T22.heap.size := ⟨_, rfl⟩
      rw [← g28] at A28 D28 st28
      have c29 := (A19.keep K22)
      have n30 : b19 ≠ b28 := Nat.ne_of_lt (Nat.lt_of_lt_of_le c29.lt (Nat.le_of_eq g28.symm))
      have g31 : n0 ≤ b28 := Nat.le_trans z27 (Nat.le_of_eq g28.symm)
      have z32 : n0 ≤ h28.size := Nat.le_trans z27 E28.1
      have F28_generation : Fld Z h28 b28 "com/example/hot_potato/hotpotato/Message$Probe$Sighting" "generation" "I" (.int (0 : Int32)) := D28 (Or.inr (hw _ (List.mem_of_getElem? (i := 15) rfl))) (ty := .int) (by decide)
      have F28_hop : Fld Z h28 b28 "com/example/hot_potato/hotpotato/Message$Probe$Sighting" "hop" "J" (.long (0 : Int64)) := D28 (Or.inr (hw _ (List.mem_of_getElem? (i := 17) rfl))) (ty := .long) (by decide)
      have F28_at : Fld Z h28 b28 "com/example/hot_potato/hotpotato/Message$Probe$Sighting" "at" "I" (.int (0 : Int32)) := D28 (Or.inr (hw _ (List.mem_of_getElem? (i := 19) rfl))) (ty := .int) (by decide)
      have F28_passedTo : Fld Z h28 b28 "com/example/hot_potato/hotpotato/Message$Probe$Sighting" "passedTo" "I" (.int (0 : Int32)) := D28 (Or.inr (hw _ (List.mem_of_getElem? (i := 21) rfl))) (ty := .int) (by decide)
      refine gob st28 ?_
      show Go _ _ _ _ _ _ _ (T28.setTop (mkF m 47 #[.val (.int p0), .val (.long q1), .second, .val (.int p2), .val (.long q3), .second, .val (.int p4), .val (.int p5), .val (.int v2), .val (.long v11), .second, .val (.ref b19), .unset, .unset, .unset, .unset, .unset, .unset, .unset] [(.ref b28)]))
      refine gob (fun _ k => XS.dup X28.here hx rfl (hb hby at_47) rfl rfl k) ?_
      show Go _ _ _ _ _ _ _ (T28.setTop (mkF m 48 #[.val (.int p0), .val (.long q1), .second, .val (.int p2), .val (.long q3), .second, .val (.int p4), .val (.int p5), .val (.int v2), .val (.long v11), .second, .val (.ref b19), .unset, .unset, .unset, .unset, .unset, .unset, .unset] [(.ref b28), (.ref b28)]))
      refine gob (fun _ k => XS.iload X28.here hx rfl (hb hby at_48) rfl k) ?_
      show Go _ _ _ _ _ _ _ (T28.setTop (mkF m 50 #[.val (.int p0), .val (.long q1), .second, .val (.int p2), .val (.long q3), .second, .val (.int p4), .val (.int p5), .val (.int v2), .val (.long v11), .second, .val (.ref b19), .unset, .unset, .unset, .unset, .unset, .unset, .unset] [(.int v2), (.ref b28), (.ref b28)]))
      refine gob (fun _ k => XS.lload X28.here hx rfl (hb hby at_50) rfl k) ?_
      show Go _ _ _ _ _ _ _ (T28.setTop (mkF m 52 #[.val (.int p0), .val (.long q1), .second, .val (.int p2), .val (.long q3), .second, .val (.int p4), .val (.int p5), .val (.int v2), .val (.long v11), .second, .val (.ref b19), .unset, .unset, .unset, .unset, .unset, .unset, .unset] [(.long v11), (.int v2), (.ref b28), (.ref b28)]))
      refine gob (fun _ k => XS.iload X28.here hx rfl (hb hby at_52) rfl k) ?_
      show Go _ _ _ _ _ _ _ (T28.setTop (mkF m 54 #[.val (.int p0), .val (.long q1), .second, .val (.int p2), .val (.long q3), .second, .val (.int p4), .val (.int p5), .val (.int v2), .val (.long v11), .second, .val (.ref b19), .unset, .unset, .unset, .unset, .unset, .unset, .unset] [(.int p5), (.long v11), (.int v2), (.ref b28), (.ref b28)]))
      refine gob (fun _ k => XS.iload X28.here hx rfl (hb hby at_54) rfl k) ?_
      show Go _ _ _ _ _ _ _ (T28.setTop (mkF m 56 #[.val (.int p0), .val (.long q1), .second, .val (.int p2), .val (.long q3), .second, .val (.int p4), .val (.int p5), .val (.int v2), .val (.long v11), .second, .val (.ref b19), .unset, .unset, .unset, .unset, .unset, .unset, .unset] [(.int p4), (.int p5), (.long v11), (.int v2), (.ref b28), (.ref b28)]))
      obtain ⟨_, _, ⟨T33, L33, k33, n33⟩, -, X33, ⟨Lc33, hQ33, l33, y33, z33⟩, st33⟩ := X28.specialBack hx (y := (⟨"com/example/hot_potato/hotpotato/Message$Probe$Sighting", "<init>", "(IJII)V"⟩ : MethodName)) rfl hown (mvT hZ (hw _ (List.mem_of_getElem? (i := 3) rfl))) (mvT hZ (hw _ (List.mem_of_getElem? (i := 4) rfl))) (mvT hZ (hw _ (List.mem_of_getElem? (i := 5) rfl))) (by decide) (backOf (W := 1) (rm1 l Z a0 hw [] b28 v2 v11 p5 p4 h28 n0 z32 A28 F28_generation g31 F28_hop F28_at F28_passedTo) hZ (hw _ (List.mem_of_getElem? (i := 5) rfl)) (hw _ (List.mem_of_getElem? (i := 2) rfl)) (by decide) (by decide)) (g := (mkF m 56 #[.val (.int p0), .val (.long q1), .second, .val (.int p2), .val (.long q3), .second, .val (.int p4), .val (.int p5), .val (.int v2), .val (.long v11), .second, .val (.ref b19), .unset, .unset, .unset, .unset, .unset, .unset, .unset] [(.int p4), (.int p5), (.long v11), (.int v2), (.ref b28), (.ref b28)])) rfl (by rw [hml]; rfl) (Steps.refl _) (a := b28) (argsL := [(.int v2), (.long v11), (.int p5), (.int p4)]) (rest := [(.ref b28)]) (lenOf pd_1 rfl) rfl (by show 2 * 0 + _ ≤ _; exact Nat.le_of_eq rfl) (hb hby at_56) (fun _ _ => ⟨rfl, e28, (by decide : 2 + 0 ≤ _), (by decide : 8 + 0 ≤ _)⟩)
      dsimp only [Pt.U, Pt.locs, Pt.cells, Pt.slots] at X33 l33 y33 z33 st33 hQ33
      subst l33 y33 z33
      obtain ⟨rfl, Nq33, K33, F34, F35, F36, F37⟩ := hQ33
      have N33 := Fr.app N22 Nq33
      have z38 : n0 ≤ T33.heap.size := Nat.le_trans z32 K33.1
      refine gob (fun _ k => st33.trans k) ?_
      show Go _ _ _ _ _ _ _ (T33.setTop (mkF m 59 #[.val (.int p0), .val (.long q1), .second, .val (.int p2), .val (.long q3), .second, .val (.int p4), .val (.int p5), .val (.int v2), .val (.long v11), .second, .val (.ref b19), .unset, .unset, .unset, .unset, .unset, .unset, .unset] [(.ref b28)]))
      refine gob (fun _ k => XS.astore X33.here hx rfl (hb hby at_59) rfl rfl (l' := #[.val (.int p0), .val (.long q1), .second, .val (.int p2), .val (.long q3), .second, .val (.int p4), .val (.int p5), .val (.int v2), .val (.long v11), .second, .val (.ref b19), .val (.ref b28), .unset, .unset, .unset, .unset, .unset, .unset]) rfl k) ?_
      show Go _ _ _ _ _ _ _ (T33.setTop (mkF m 61 #[.val (.int p0), .val (.long q1), .second, .val (.int p2), .val (.long q3), .second, .val (.int p4), .val (.int p5), .val (.int v2), .val (.long v11), .second, .val (.ref b19), .val (.ref b28), .unset, .unset, .unset, .unset, .unset, .unset] []))
      refine gob (fun _ k => XS.aload X33.here hx rfl (hb hby at_61) rfl rfl k) ?_
      show Go _ _ _ _ _ _ _ (T33.setTop (mkF m 63 #[.val (.int p0), .val (.long q1), .second, .val (.int p2), .val (.long q3), .second, .val (.int p4), .val (.int p5), .val (.int v2), .val (.long v11), .second, .val (.ref b19), .val (.ref b28), .unset, .unset, .unset, .unset, .unset, .unset] [(.ref b19)]))
      refine gob (fun _ k => XS.aload X33.here hx rfl (hb hby at_63) rfl rfl k) ?_
      show Go _ _ _ _ _ _ _ (T33.setTop (mkF m 65 #[.val (.int p0), .val (.long q1), .second, .val (.int p2), .val (.long q3), .second, .val (.int p4), .val (.int p5), .val (.int v2), .val (.long v11), .second, .val (.ref b19), .val (.ref b28), .unset, .unset, .unset, .unset, .unset, .unset] [(.ref b28), (.ref b19)]))
      have c40 := ((F23.ext E28).keep K33 (ninS n30 nin0))
      have c41 := ((F24.ext E28).keep K33 (ninS n30 nin0))
      have c42 := ((c29.ext E28).keep K33)
      obtain ⟨cq39, kq39, q39a, q39b, q39c⟩ := isOf hZ (rfl : T33.heap = _) c42
      obtain ⟨_, _, ⟨T39, L39, k39, n39⟩, -, X39, ⟨Lc39, hQ39, l39, y39, z39⟩, st39⟩ := X33.virtualBack hx (y := (⟨"com/example/hot_potato/hotpotato/Message$Probe$Sighting", "after", "(Lcom/example/hot_potato/hotpotato/Message$Probe$Sighting;)Z"⟩ : MethodName)) (z := (⟨"com/example/hot_potato/hotpotato/Message$Probe$Sighting", "after", "(Lcom/example/hot_potato/hotpotato/Message$Probe$Sighting;)Z"⟩ : MethodName)) hown (mvT hZ (hw _ (List.mem_of_getElem? (i := 22) rfl))) (mvT hZ (hw _ (List.mem_of_getElem? (i := 23) rfl))) (notFace_of_selects (args := #[]) (mvT hZ (hw _ (List.mem_of_getElem? (i := 25) rfl)))) (mvT hZ (hw _ (List.mem_of_getElem? (i := 25) rfl))) (mvT hZ (hw _ (List.mem_of_getElem? (i := 24) rfl))) (by decide) (backOf (W := 0) (rm4 l Z a0 hw [] b19 b28 p0 v2 q1 v11 T33.heap n0 z38 c40 F34 c41 F35) hZ (hw _ (List.mem_of_getElem? (i := 26) rfl)) (hw _ (List.mem_of_getElem? (i := 2) rfl)) (by decide) (by decide)) q39a q39c (g := (mkF m 65 #[.val (.int p0), .val (.long q1), .second, .val (.int p2), .val (.long q3), .second, .val (.int p4), .val (.int p5), .val (.int v2), .val (.long v11), .second, .val (.ref b19), .val (.ref b28), .unset, .unset, .unset, .unset, .unset, .unset] [(.ref b28), (.ref b19)])) rfl (by rw [hml]; rfl) (Steps.refl _) (argsL := [(.ref b28)]) (rest := []) (lenOf pd_2 rfl) rfl (by show 2 * 0 + _ ≤ _; exact Nat.le_of_eq rfl) (hb hby at_65) (fun _ _ => ⟨rfl, (rfl : T33.heap = _), (by decide : 2 + 0 ≤ _), (by decide : 8 + 0 ≤ _)⟩)
      dsimp only [Pt.U, Pt.locs, Pt.cells, Pt.slots] at X39 l39 y39 z39 st39 hQ39
      subst l39 y39 z39
      obtain ⟨r39, rfl, hr39, Nq39, e39⟩ := hQ39
      have N39 := Fr.app N33 Nq39
      refine gob (fun _ k => st39.trans k) ?_
      show Go _ _ _ _ _ _ _ (T39.setTop (mkF m 68 #[.val (.int p0), .val (.long q1), .second, .val (.int p2), .val (.long q3), .second, .val (.int p4), .val (.int p5), .val (.int v2), .val (.long v11), .second, .val (.ref b19), .val (.ref b28), .unset, .unset, .unset, .unset, .unset, .unset] [(.int r39)]))
      refine gob (fun _ k => XS.istore X39.here hx rfl (hb hby at_68) rfl (l' := #[.val (.int p0), .val (.long q1), .second, .val (.int p2), .val (.long q3), .second, .val (.int p4), .val (.int p5), .val (.int v2), .val (.long v11), .second, .val (.ref b19), .val (.ref b28), .val (.int r39), .unset, .unset, .unset, .unset, .unset]) rfl k) ?_
      show Go _ _ _ _ _ _ _ (T39.setTop (mkF m 70 #[.val (.int p0), .val (.long q1), .second, .val (.int p2), .val (.long q3), .second, .val (.int p4), .val (.int p5), .val (.int v2), .val (.long v11), .second, .val (.ref b19), .val (.ref b28), .val (.int r39), .unset, .unset, .unset, .unset, .unset] []))
      refine gob (fun _ k => XS.aload X39.here hx rfl (hb hby at_70) rfl rfl k) ?_
      show Go _ _ _ _ _ _ _ (T39.setTop (mkF m 72 #[.val (.int p0), .val (.long q1), .second, .val (.int p2), .val (.long q3), .second, .val (.int p4), .val (.int p5), .val (.int v2), .val (.long v11), .second, .val (.ref b19), .val (.ref b28), .val (.int r39), .unset, .unset, .unset, .unset, .unset] [(.ref b28)]))
      refine gob (fun _ k => XS.aload X39.here hx rfl (hb hby at_72) rfl rfl k) ?_
      show Go _ _ _ _ _ _ _ (T39.setTop (mkF m 74 #[.val (.int p0), .val (.long q1), .second, .val (.int p2), .val (.long q3), .second, .val (.int p4), .val (.int p5), .val (.int v2), .val (.long v11), .second, .val (.ref b19), .val (.ref b28), .val (.int r39), .unset, .unset, .unset, .unset, .unset] [(.ref b19), (.ref b28)]))
      have c44 := (A28.keep K33)
      obtain ⟨cq43, kq43, q43a, q43b, q43c⟩ := isOf hZ e39 c44
      obtain ⟨_, _, ⟨T43, L43, k43, n43⟩, -, X43, ⟨Lc43, hQ43, l43, y43, z43⟩, st43⟩ := X39.virtualBack hx (y := (⟨"com/example/hot_potato/hotpotato/Message$Probe$Sighting", "after", "(Lcom/example/hot_potato/hotpotato/Message$Probe$Sighting;)Z"⟩ : MethodName)) (z := (⟨"com/example/hot_potato/hotpotato/Message$Probe$Sighting", "after", "(Lcom/example/hot_potato/hotpotato/Message$Probe$Sighting;)Z"⟩ : MethodName)) hown (mvT hZ (hw _ (List.mem_of_getElem? (i := 22) rfl))) (mvT hZ (hw _ (List.mem_of_getElem? (i := 23) rfl))) (notFace_of_selects (args := #[]) (mvT hZ (hw _ (List.mem_of_getElem? (i := 25) rfl)))) (mvT hZ (hw _ (List.mem_of_getElem? (i := 25) rfl))) (mvT hZ (hw _ (List.mem_of_getElem? (i := 24) rfl))) (by decide) (backOf (W := 0) (rm4 l Z a0 hw [] b28 b19 v2 p0 v11 q1 T33.heap n0 z38 F34 c40 F35 c41) hZ (hw _ (List.mem_of_getElem? (i := 26) rfl)) (hw _ (List.mem_of_getElem? (i := 2) rfl)) (by decide) (by decide)) q43a q43c (g := (mkF m 74 #[.val (.int p0), .val (.long q1), .second, .val (.int p2), .val (.long q3), .second, .val (.int p4), .val (.int p5), .val (.int v2), .val (.long v11), .second, .val (.ref b19), .val (.ref b28), .val (.int r39), .unset, .unset, .unset, .unset, .unset] [(.ref b19), (.ref b28)])) rfl (by rw [hml]; rfl) (Steps.refl _) (argsL := [(.ref b19)]) (rest := []) (lenOf pd_2 rfl) rfl (by show 2 * 0 + _ ≤ _; exact Nat.le_of_eq rfl) (hb hby at_74) (fun _ _ => ⟨rfl, e39, (by decide : 2 + 0 ≤ _), (by decide : 8 + 0 ≤ _)⟩)
      dsimp only [Pt.U, Pt.locs, Pt.cells, Pt.slots] at X43 l43 y43 z43 st43 hQ43
      subst l43 y43 z43
      obtain ⟨r43, rfl, hr43, Nq43, e43⟩ := hQ43
      have N43 := Fr.app N39 Nq43
      refine gob (fun _ k => st43.trans k) ?_
      show Go _ _ _ _ _ _ _ (T43.setTop (mkF m 77 #[.val (.int p0), .val (.long q1), .second, .val (.int p2), .val (.long q3), .second, .val (.int p4), .val (.int p5), .val (.int v2), .val (.long v11), .second, .val (.ref b19), .val (.ref b28), .val (.int r39), .unset, .unset, .unset, .unset, .unset] [(.int r43)]))
      refine gob (fun _ k => XS.istore X43.here hx rfl (hb hby at_77) rfl (l' := #[.val (.int p0), .val (.long q1), .second, .val (.int p2), .val (.long q3), .second, .val (.int p4), .val (.int p5), .val (.int v2), .val (.long v11), .second, .val (.ref b19), .val (.ref b28), .val (.int r39), .val (.int r43), .unset, .unset, .unset, .unset]) rfl k) ?_
      show Go _ _ _ _ _ _ _ (T43.setTop (mkF m 79 #[.val (.int p0), .val (.long q1), .second, .val (.int p2), .val (.long q3), .second, .val (.int p4), .val (.int p5), .val (.int v2), .val (.long v11), .second, .val (.ref b19), .val (.ref b28), .val (.int r39), .val (.int r43), .unset, .unset, .unset, .unset] []))
      refine gob (fun _ k => XS.aload X43.here hx rfl (hb hby at_79) rfl rfl k) ?_
      show Go _ _ _ _ _ _ _ (T43.setTop (mkF m 81 #[.val (.int p0), .val (.long q1), .second, .val (.int p2), .val (.long q3), .second, .val (.int p4), .val (.int p5), .val (.int v2), .val (.long v11), .second, .val (.ref b19), .val (.ref b28), .val (.int r39), .val (.int r43), .unset, .unset, .unset, .unset] [(.ref b19)]))
      refine gob (fun _ k => XS.aload X43.here hx rfl (hb hby at_81) rfl rfl k) ?_
      show Go _ _ _ _ _ _ _ (T43.setTop (mkF m 83 #[.val (.int p0), .val (.long q1), .second, .val (.int p2), .val (.long q3), .second, .val (.int p4), .val (.int p5), .val (.int v2), .val (.long v11), .second, .val (.ref b19), .val (.ref b28), .val (.int r39), .val (.int r43), .unset, .unset, .unset, .unset] [(.ref b19), (.ref b19)]))
      obtain ⟨cq45, kq45, q45a, q45b, q45c⟩ := isOf hZ e43 c42
      obtain ⟨_, _, ⟨T45, L45, k45, n45⟩, -, X45, ⟨Lc45, hQ45, l45, y45, z45⟩, st45⟩ := X43.virtualBack hx (y := (⟨"com/example/hot_potato/hotpotato/Message$Probe$Sighting", "after", "(Lcom/example/hot_potato/hotpotato/Message$Probe$Sighting;)Z"⟩ : MethodName)) (z := (⟨"com/example/hot_potato/hotpotato/Message$Probe$Sighting", "after", "(Lcom/example/hot_potato/hotpotato/Message$Probe$Sighting;)Z"⟩ : MethodName)) hown (mvT hZ (hw _ (List.mem_of_getElem? (i := 22) rfl))) (mvT hZ (hw _ (List.mem_of_getElem? (i := 23) rfl))) (notFace_of_selects (args := #[]) (mvT hZ (hw _ (List.mem_of_getElem? (i := 25) rfl)))) (mvT hZ (hw _ (List.mem_of_getElem? (i := 25) rfl))) (mvT hZ (hw _ (List.mem_of_getElem? (i := 24) rfl))) (by decide) (backOf (W := 0) (rm4 l Z a0 hw [] b19 b19 p0 p0 q1 q1 T33.heap n0 z38 c40 c40 c41 c41) hZ (hw _ (List.mem_of_getElem? (i := 26) rfl)) (hw _ (List.mem_of_getElem? (i := 2) rfl)) (by decide) (by decide)) q45a q45c (g := (mkF m 83 #[.val (.int p0), .val (.long q1), .second, .val (.int p2), .val (.long q3), .second, .val (.int p4), .val (.int p5), .val (.int v2), .val (.long v11), .second, .val (.ref b19), .val (.ref b28), .val (.int r39), .val (.int r43), .unset, .unset, .unset, .unset] [(.ref b19), (.ref b19)])) rfl (by rw [hml]; rfl) (Steps.refl _) (argsL := [(.ref b19)]) (rest := []) (lenOf pd_2 rfl) rfl (by show 2 * 0 + _ ≤ _; exact Nat.le_of_eq rfl) (hb hby at_83) (fun _ _ => ⟨rfl, e43, (by decide : 2 + 0 ≤ _), (by decide : 8 + 0 ≤ _)⟩)
      dsimp only [Pt.U, Pt.locs, Pt.cells, Pt.slots] at X45 l45 y45 z45 st45 hQ45
      subst l45 y45 z45
      obtain ⟨r45, rfl, hr45, Nq45, e45⟩ := hQ45
      have N45 := Fr.app N43 Nq45
      refine gob (fun _ k => st45.trans k) ?_
      show Go _ _ _ _ _ _ _ (T45.setTop (mkF m 86 #[.val (.int p0), .val (.long q1), .second, .val (.int p2), .val (.long q3), .second, .val (.int p4), .val (.int p5), .val (.int v2), .val (.long v11), .second, .val (.ref b19), .val (.ref b28), .val (.int r39), .val (.int r43), .unset, .unset, .unset, .unset] [(.int r45)]))
      refine gob (fun _ k => XS.istore X45.here hx rfl (hb hby at_86) rfl (l' := #[.val (.int p0), .val (.long q1), .second, .val (.int p2), .val (.long q3), .second, .val (.int p4), .val (.int p5), .val (.int v2), .val (.long v11), .second, .val (.ref b19), .val (.ref b28), .val (.int r39), .val (.int r43), .val (.int r45), .unset, .unset, .unset]) rfl k) ?_
      show Go _ _ _ _ _ _ _ (T45.setTop (mkF m 88 #[.val (.int p0), .val (.long q1), .second, .val (.int p2), .val (.long q3), .second, .val (.int p4), .val (.int p5), .val (.int v2), .val (.long v11), .second, .val (.ref b19), .val (.ref b28), .val (.int r39), .val (.int r43), .val (.int r45), .unset, .unset, .unset] []))
      refine gob (fun _ k => XS.iloadN X45.here hx rfl (hb hby at_88) rfl k) ?_
      show Go _ _ _ _ _ _ _ (T45.setTop (mkF m 89 #[.val (.int p0), .val (.long q1), .second, .val (.int p2), .val (.long q3), .second, .val (.int p4), .val (.int p5), .val (.int v2), .val (.long v11), .second, .val (.ref b19), .val (.ref b28), .val (.int r39), .val (.int r43), .val (.int r45), .unset, .unset, .unset] [(.int p0)]))
      refine gob (fun _ k => XS.iload X45.here hx rfl (hb hby at_89) rfl k) ?_
      show Go _ _ _ _ _ _ _ (T45.setTop (mkF m 91 #[.val (.int p0), .val (.long q1), .second, .val (.int p2), .val (.long q3), .second, .val (.int p4), .val (.int p5), .val (.int v2), .val (.long v11), .second, .val (.ref b19), .val (.ref b28), .val (.int r39), .val (.int r43), .val (.int r45), .unset, .unset, .unset] [(.int v2), (.int p0)]))
      have join126_50 : ∀ (T51 : State) (lj52 : List Loc) (v49 : Int32), Stand p l e room_1 s m #[(.int p0), (.long q1), (.int p2), (.long q3), (.int p4), (.int p5)] below meth c T51 lj52 2 8 → T51.heap = T33.heap → Fr n0 lj52 → (v2 < p0 ∧ v49 = (1 : Int32)) ∨ (¬ (v2 < p0) ∧ p0 < v2 ∧ v49 = (0 : Int32)) ∨ (¬ (v2 < p0) ∧ ¬ (p0 < v2) ∧ v11 < q1 ∧ v49 = (1 : Int32)) ∨ (¬ (v2 < p0) ∧ ¬ (p0 < v2) ∧ ¬ (v11 < q1) ∧ v49 = (0 : Int32)) → Go p e below s (Q0 Z p0 q1 p2 q3 p4 p5 h0 n0) 16 128 (T51.setTop (mkF m 126 #[.val (.int p0), .val (.long q1), .second, .val (.int p2), .val (.long q3), .second, .val (.int p4), .val (.int p5), .val (.int v2), .val (.long v11), .second, .val (.ref b19), .val (.ref b28), .val (.int r39), .val (.int r43), .val (.int r45), .val (.int v49), .unset, .unset] [])) := by
        intro T51 lj52 v49 X53 e54 N55 hj56
        show Go _ _ _ _ _ _ _ (T51.setTop (mkF m 126 #[.val (.int p0), .val (.long q1), .second, .val (.int p2), .val (.long q3), .second, .val (.int p4), .val (.int p5), .val (.int v2), .val (.long v11), .second, .val (.ref b19), .val (.ref b28), .val (.int r39), .val (.int r43), .val (.int r45), .val (.int v49), .unset, .unset] []))
        refine gob (fun _ k => XS.iloadN X53.here hx rfl (hb hby at_126) rfl k) ?_
        show Go _ _ _ _ _ _ _ (T51.setTop (mkF m 127 #[.val (.int p0), .val (.long q1), .second, .val (.int p2), .val (.long q3), .second, .val (.int p4), .val (.int p5), .val (.int v2), .val (.long v11), .second, .val (.ref b19), .val (.ref b28), .val (.int r39), .val (.int r43), .val (.int r45), .val (.int v49), .unset, .unset] [(.int p0)]))
        refine gob (fun _ k => XS.iload X53.here hx rfl (hb hby at_127) rfl k) ?_
        show Go _ _ _ _ _ _ _ (T51.setTop (mkF m 129 #[.val (.int p0), .val (.long q1), .second, .val (.int p2), .val (.long q3), .second, .val (.int p4), .val (.int p5), .val (.int v2), .val (.long v11), .second, .val (.ref b19), .val (.ref b28), .val (.int r39), .val (.int r43), .val (.int r45), .val (.int v49), .unset, .unset] [(.int v2), (.int p0)]))
        have join144_60 : ∀ (T61 : State) (lj62 : List Loc) (v59 : Int32), Stand p l e room_1 s m #[(.int p0), (.long q1), (.int p2), (.long q3), (.int p4), (.int p5)] below meth c T61 lj62 2 8 → T61.heap = T33.heap → Fr n0 lj62 → (p0 = v2 ∧ q1 = v11 ∧ v59 = (1 : Int32)) ∨ (p0 = v2 ∧ ¬ (q1 = v11) ∧ v59 = (0 : Int32)) ∨ (¬ (p0 = v2) ∧ v59 = (0 : Int32)) → Go p e below s (Q0 Z p0 q1 p2 q3 p4 p5 h0 n0) 16 128 (T61.setTop (mkF m 144 #[.val (.int p0), .val (.long q1), .second, .val (.int p2), .val (.long q3), .second, .val (.int p4), .val (.int p5), .val (.int v2), .val (.long v11), .second, .val (.ref b19), .val (.ref b28), .val (.int r39), .val (.int r43), .val (.int r45), .val (.int v49), .unset, .unset] [(.int v59)])) := by
          intro T61 lj62 v59 X63 e64 N65 hj66
          show Go _ _ _ _ _ _ _ (T61.setTop (mkF m 144 #[.val (.int p0), .val (.long q1), .second, .val (.int p2), .val (.long q3), .second, .val (.int p4), .val (.int p5), .val (.int v2), .val (.long v11), .second, .val (.ref b19), .val (.ref b28), .val (.int r39), .val (.int r43), .val (.int r45), .val (.int v49), .unset, .unset] [(.int v59)]))
          refine gob (fun _ k => XS.istore X63.here hx rfl (hb hby at_144) rfl (l' := #[.val (.int p0), .val (.long q1), .second, .val (.int p2), .val (.long q3), .second, .val (.int p4), .val (.int p5), .val (.int v2), .val (.long v11), .second, .val (.ref b19), .val (.ref b28), .val (.int r39), .val (.int r43), .val (.int r45), .val (.int v49), .val (.int v59), .unset]) rfl k) ?_
          show Go _ _ _ _ _ _ _ (T61.setTop (mkF m 146 #[.val (.int p0), .val (.long q1), .second, .val (.int p2), .val (.long q3), .second, .val (.int p4), .val (.int p5), .val (.int v2), .val (.long v11), .second, .val (.ref b19), .val (.ref b28), .val (.int r39), .val (.int r43), .val (.int r45), .val (.int v49), .val (.int v59), .unset] []))
          refine gob (fun _ k => XS.iload X63.here hx rfl (hb hby at_146) rfl k) ?_
          show Go _ _ _ _ _ _ _ (T61.setTop (mkF m 148 #[.val (.int p0), .val (.long q1), .second, .val (.int p2), .val (.long q3), .second, .val (.int p4), .val (.int p5), .val (.int v2), .val (.long v11), .second, .val (.ref b19), .val (.ref b28), .val (.int r39), .val (.int r43), .val (.int r45), .val (.int v49), .val (.int v59), .unset] [(.int r39)]))
          have join156_69 : ∀ (T70 : State) (lj71 : List Loc) (v68 : Int32), Stand p l e room_1 s m #[(.int p0), (.long q1), (.int p2), (.long q3), (.int p4), (.int p5)] below meth c T70 lj71 2 8 → T70.heap = T33.heap → Fr n0 lj71 → (r39 = (0 : Int32) ∧ v68 = (0 : Int32)) ∨ (¬ (r39 = (0 : Int32)) ∧ v68 = (1 : Int32)) → Go p e below s (Q0 Z p0 q1 p2 q3 p4 p5 h0 n0) 16 128 (T70.setTop (mkF m 156 #[.val (.int p0), .val (.long q1), .second, .val (.int p2), .val (.long q3), .second, .val (.int p4), .val (.int p5), .val (.int v2), .val (.long v11), .second, .val (.ref b19), .val (.ref b28), .val (.int r39), .val (.int r43), .val (.int r45), .val (.int v49), .val (.int v59), .unset] [(.int v68)])) := by
            intro T70 lj71 v68 X72 e73 N74 hj75
            show Go _ _ _ _ _ _ _ (T70.setTop (mkF m 156 #[.val (.int p0), .val (.long q1), .second, .val (.int p2), .val (.long q3), .second, .val (.int p4), .val (.int p5), .val (.int v2), .val (.long v11), .second, .val (.ref b19), .val (.ref b28), .val (.int r39), .val (.int r43), .val (.int r45), .val (.int v49), .val (.int v59), .unset] [(.int v68)]))
            refine gob (fun _ k => XS.iload X72.here hx rfl (hb hby at_156) rfl k) ?_
            show Go _ _ _ _ _ _ _ (T70.setTop (mkF m 158 #[.val (.int p0), .val (.long q1), .second, .val (.int p2), .val (.long q3), .second, .val (.int p4), .val (.int p5), .val (.int v2), .val (.long v11), .second, .val (.ref b19), .val (.ref b28), .val (.int r39), .val (.int r43), .val (.int r45), .val (.int v49), .val (.int v59), .unset] [(.int r43), (.int v68)]))
            have join166_78 : ∀ (T79 : State) (lj80 : List Loc) (v77 : Int32), Stand p l e room_1 s m #[(.int p0), (.long q1), (.int p2), (.long q3), (.int p4), (.int p5)] below meth c T79 lj80 2 8 → T79.heap = T33.heap → Fr n0 lj80 → (r43 = (0 : Int32) ∧ v77 = (0 : Int32)) ∨ (¬ (r43 = (0 : Int32)) ∧ v77 = (1 : Int32)) → Go p e below s (Q0 Z p0 q1 p2 q3 p4 p5 h0 n0) 16 128 (T79.setTop (mkF m 166 #[.val (.int p0), .val (.long q1), .second, .val (.int p2), .val (.long q3), .second, .val (.int p4), .val (.int p5), .val (.int v2), .val (.long v11), .second, .val (.ref b19), .val (.ref b28), .val (.int r39), .val (.int r43), .val (.int r45), .val (.int v49), .val (.int v59), .unset] [(.int v77), (.int v68)])) := by
              intro T79 lj80 v77 X81 e82 N83 hj84
              show Go _ _ _ _ _ _ _ (T79.setTop (mkF m 166 #[.val (.int p0), .val (.long q1), .second, .val (.int p2), .val (.long q3), .second, .val (.int p4), .val (.int p5), .val (.int v2), .val (.long v11), .second, .val (.ref b19), .val (.ref b28), .val (.int r39), .val (.int r43), .val (.int r45), .val (.int v49), .val (.int v59), .unset] [(.int v77), (.int v68)]))
              refine gob (fun _ k => XS.iadd X81.here hx rfl (hb hby at_166) rfl k) ?_
              show Go _ _ _ _ _ _ _ (T79.setTop (mkF m 167 #[.val (.int p0), .val (.long q1), .second, .val (.int p2), .val (.long q3), .second, .val (.int p4), .val (.int p5), .val (.int v2), .val (.long v11), .second, .val (.ref b19), .val (.ref b28), .val (.int r39), .val (.int r43), .val (.int r45), .val (.int v49), .val (.int v59), .unset] [(.int (v68 + v77))]))
              refine gob (fun _ k => XS.iload X81.here hx rfl (hb hby at_167) rfl k) ?_
              show Go _ _ _ _ _ _ _ (T79.setTop (mkF m 169 #[.val (.int p0), .val (.long q1), .second, .val (.int p2), .val (.long q3), .second, .val (.int p4), .val (.int p5), .val (.int v2), .val (.long v11), .second, .val (.ref b19), .val (.ref b28), .val (.int r39), .val (.int r43), .val (.int r45), .val (.int v49), .val (.int v59), .unset] [(.int v59), (.int (v68 + v77))]))
              have join177_87 : ∀ (T88 : State) (lj89 : List Loc) (v86 : Int32), Stand p l e room_1 s m #[(.int p0), (.long q1), (.int p2), (.long q3), (.int p4), (.int p5)] below meth c T88 lj89 2 8 → T88.heap = T33.heap → Fr n0 lj89 → (v59 = (0 : Int32) ∧ v86 = (0 : Int32)) ∨ (¬ (v59 = (0 : Int32)) ∧ v86 = (1 : Int32)) → Go p e below s (Q0 Z p0 q1 p2 q3 p4 p5 h0 n0) 16 128 (T88.setTop (mkF m 177 #[.val (.int p0), .val (.long q1), .second, .val (.int p2), .val (.long q3), .second, .val (.int p4), .val (.int p5), .val (.int v2), .val (.long v11), .second, .val (.ref b19), .val (.ref b28), .val (.int r39), .val (.int r43), .val (.int r45), .val (.int v49), .val (.int v59), .unset] [(.int v86), (.int (v68 + v77))])) := by
                intro T88 lj89 v86 X90 e91 N92 hj93
                show Go _ _ _ _ _ _ _ (T88.setTop (mkF m 177 #[.val (.int p0), .val (.long q1), .second, .val (.int p2), .val (.long q3), .second, .val (.int p4), .val (.int p5), .val (.int v2), .val (.long v11), .second, .val (.ref b19), .val (.ref b28), .val (.int r39), .val (.int r43), .val (.int r45), .val (.int v49), .val (.int v59), .unset] [(.int v86), (.int (v68 + v77))]))
                refine gob (fun _ k => XS.iadd X90.here hx rfl (hb hby at_177) rfl k) ?_
                show Go _ _ _ _ _ _ _ (T88.setTop (mkF m 178 #[.val (.int p0), .val (.long q1), .second, .val (.int p2), .val (.long q3), .second, .val (.int p4), .val (.int p5), .val (.int v2), .val (.long v11), .second, .val (.ref b19), .val (.ref b28), .val (.int r39), .val (.int r43), .val (.int r45), .val (.int v49), .val (.int v59), .unset] [(.int ((v68 + v77) + v86))]))
                refine gob (fun _ k => XS.istore X90.here hx rfl (hb hby at_178) rfl (l' := #[.val (.int p0), .val (.long q1), .second, .val (.int p2), .val (.long q3), .second, .val (.int p4), .val (.int p5), .val (.int v2), .val (.long v11), .second, .val (.ref b19), .val (.ref b28), .val (.int r39), .val (.int r43), .val (.int r45), .val (.int v49), .val (.int v59), .val (.int ((v68 + v77) + v86))]) rfl k) ?_
                show Go _ _ _ _ _ _ _ (T88.setTop (mkF m 180 #[.val (.int p0), .val (.long q1), .second, .val (.int p2), .val (.long q3), .second, .val (.int p4), .val (.int p5), .val (.int v2), .val (.long v11), .second, .val (.ref b19), .val (.ref b28), .val (.int r39), .val (.int r43), .val (.int r45), .val (.int v49), .val (.int v59), .val (.int ((v68 + v77) + v86))] []))
                generalize hx94 : ((v68 + v77) + v86) = x94
                show Go _ _ _ _ _ _ _ (T88.setTop (mkF m 180 #[.val (.int p0), .val (.long q1), .second, .val (.int p2), .val (.long q3), .second, .val (.int p4), .val (.int p5), .val (.int v2), .val (.long v11), .second, .val (.ref b19), .val (.ref b28), .val (.int r39), .val (.int r43), .val (.int r45), .val (.int v49), .val (.int v59), .val (.int x94)] []))
                refine gob (fun _ k => XS.iload X90.here hx rfl (hb hby at_180) rfl k) ?_
                show Go _ _ _ _ _ _ _ (T88.setTop (mkF m 182 #[.val (.int p0), .val (.long q1), .second, .val (.int p2), .val (.long q3), .second, .val (.int p4), .val (.int p5), .val (.int v2), .val (.long v11), .second, .val (.ref b19), .val (.ref b28), .val (.int r39), .val (.int r43), .val (.int r45), .val (.int v49), .val (.int v59), .val (.int x94)] [(.int r39)]))
                refine gob (fun _ k => XS.iload X90.here hx rfl (hb hby at_182) rfl k) ?_
                show Go _ _ _ _ _ _ _ (T88.setTop (mkF m 184 #[.val (.int p0), .val (.long q1), .second, .val (.int p2), .val (.long q3), .second, .val (.int p4), .val (.int p5), .val (.int v2), .val (.long v11), .second, .val (.ref b19), .val (.ref b28), .val (.int r39), .val (.int r43), .val (.int r45), .val (.int v49), .val (.int v59), .val (.int x94)] [(.int v49), (.int r39)]))
                have hd96 : r39 = v49 := ld_0_184_95 p0 q1 p2 q3 p4 v2 v11 r39 v49 hj9 hj18 hr39 hj56
                refine gob (fun _ k => XS.icmpNo X90.here hx rfl (hb hby at_184) rfl (teq hd96).2 k) ?_
                show Go _ _ _ _ _ _ _ (T88.setTop (mkF m 187 #[.val (.int p0), .val (.long q1), .second, .val (.int p2), .val (.long q3), .second, .val (.int p4), .val (.int p5), .val (.int v2), .val (.long v11), .second, .val (.ref b19), .val (.ref b28), .val (.int r39), .val (.int r43), .val (.int r45), .val (.int v49), .val (.int v59), .val (.int x94)] []))
                refine gob (fun _ k => XS.iload X90.here hx rfl (hb hby at_187) rfl k) ?_
                show Go _ _ _ _ _ _ _ (T88.setTop (mkF m 189 #[.val (.int p0), .val (.long q1), .second, .val (.int p2), .val (.long q3), .second, .val (.int p4), .val (.int p5), .val (.int v2), .val (.long v11), .second, .val (.ref b19), .val (.ref b28), .val (.int r39), .val (.int r43), .val (.int r45), .val (.int v49), .val (.int v59), .val (.int x94)] [(.int x94)]))
                refine gob (fun _ k => XS.iconst X90.here hx rfl (hb hby at_189) k) ?_
                show Go _ _ _ _ _ _ _ (T88.setTop (mkF m 190 #[.val (.int p0), .val (.long q1), .second, .val (.int p2), .val (.long q3), .second, .val (.int p4), .val (.int p5), .val (.int v2), .val (.long v11), .second, .val (.ref b19), .val (.ref b28), .val (.int r39), .val (.int r43), .val (.int r45), .val (.int v49), .val (.int v59), .val (.int x94)] [(.int (1 : Int32)), (.int x94)]))
                have hd98 : x94 = (1 : Int32) := ld_0_190_97 p0 q1 p2 q3 p4 v2 v11 r39 r43 v59 v68 v77 v86 x94 hj9 hj18 hr39 hr43 hj66 hj75 hj84 hj93 hx94
                refine gob (fun _ k => XS.icmpNo X90.here hx rfl (hb hby at_190) rfl (teq hd98).2 k) ?_
                show Go _ _ _ _ _ _ _ (T88.setTop (mkF m 193 #[.val (.int p0), .val (.long q1), .second, .val (.int p2), .val (.long q3), .second, .val (.int p4), .val (.int p5), .val (.int v2), .val (.long v11), .second, .val (.ref b19), .val (.ref b28), .val (.int r39), .val (.int r43), .val (.int r45), .val (.int v49), .val (.int v59), .val (.int x94)] []))
                refine gob (fun _ k => XS.iload X90.here hx rfl (hb hby at_193) rfl k) ?_
                show Go _ _ _ _ _ _ _ (T88.setTop (mkF m 195 #[.val (.int p0), .val (.long q1), .second, .val (.int p2), .val (.long q3), .second, .val (.int p4), .val (.int p5), .val (.int v2), .val (.long v11), .second, .val (.ref b19), .val (.ref b28), .val (.int r39), .val (.int r43), .val (.int r45), .val (.int v49), .val (.int v59), .val (.int x94)] [(.int r45)]))
                have hd100 : r45 = (0 : Int32) := ld_0_195_99 p0 q1 r45 hr45
                refine gob (fun _ k => XS.ifNo X90.here hx rfl (hb hby at_195) rfl ((if0 _ _).trans (teq hd100).2) k) ?_
                show Go _ _ _ _ _ _ _ (T88.setTop (mkF m 198 #[.val (.int p0), .val (.long q1), .second, .val (.int p2), .val (.long q3), .second, .val (.int p4), .val (.int p5), .val (.int v2), .val (.long v11), .second, .val (.ref b19), .val (.ref b28), .val (.int r39), .val (.int r43), .val (.int r45), .val (.int v49), .val (.int v59), .val (.int x94)] []))
                refine gob (fun _ k => XS.iconst X90.here hx rfl (hb hby at_198) k) ?_
                show Go _ _ _ _ _ _ _ (T88.setTop (mkF m 199 #[.val (.int p0), .val (.long q1), .second, .val (.int p2), .val (.long q3), .second, .val (.int p4), .val (.int p5), .val (.int v2), .val (.long v11), .second, .val (.ref b19), .val (.ref b28), .val (.int r39), .val (.int r43), .val (.int r45), .val (.int v49), .val (.int v59), .val (.int x94)] [(.int (1 : Int32))]))
                refine gob (fun _ k => XS.goto X90.here hx rfl (pc0 := 199) (pc' := 203) rfl (hb hby at_199) (by decide) (by decide) k) ?_
                show Go _ _ _ _ _ _ _ (T88.setTop (mkF m 203 #[.val (.int p0), .val (.long q1), .second, .val (.int p2), .val (.long q3), .second, .val (.int p4), .val (.int p5), .val (.int v2), .val (.long v11), .second, .val (.ref b19), .val (.ref b28), .val (.int r39), .val (.int r43), .val (.int r45), .val (.int v49), .val (.int v59), .val (.int x94)] [(.int (1 : Int32))]))
                refine goZ X90 hx hlk (t := .boolean) Bd.returns (by simp) (hb hby at_203) (z' := (1 : Int32)) rfl ?_ (by decide) (by decide)
                show Q0 Z p0 q1 p2 q3 p4 p5 h0 n0 (some (.int (1 : Int32))) T88.heap _
                exact ⟨rfl, N92⟩
              by_cases hc169_101 : v59 = (0 : Int32)
              · skip
                refine gob (fun _ k => XS.ifYes X81.here hx rfl (pc0 := 169) (pc' := 176) rfl (hb hby at_169) rfl ((if0 _ _).trans (teq hc169_101).1) (by decide) (by decide) k) ?_
                show Go _ _ _ _ _ _ _ (T79.setTop (mkF m 176 #[.val (.int p0), .val (.long q1), .second, .val (.int p2), .val (.long q3), .second, .val (.int p4), .val (.int p5), .val (.int v2), .val (.long v11), .second, .val (.ref b19), .val (.ref b28), .val (.int r39), .val (.int r43), .val (.int r45), .val (.int v49), .val (.int v59), .unset] [(.int (v68 + v77))]))
                refine gob (fun _ k => XS.iconst X81.here hx rfl (hb hby at_176) k) ?_
                show Go _ _ _ _ _ _ _ (T79.setTop (mkF m 177 #[.val (.int p0), .val (.long q1), .second, .val (.int p2), .val (.long q3), .second, .val (.int p4), .val (.int p5), .val (.int v2), .val (.long v11), .second, .val (.ref b19), .val (.ref b28), .val (.int r39), .val (.int r43), .val (.int r45), .val (.int v49), .val (.int v59), .unset] [(.int (0 : Int32)), (.int (v68 + v77))]))
                exact join177_87 _ _ ((0 : Int32)) X81 e82 N83 (Or.inl ⟨hc169_101, rfl⟩)
              · skip
                refine gob (fun _ k => XS.ifNo X81.here hx rfl (hb hby at_169) rfl ((if0 _ _).trans (feq hc169_101).1) k) ?_
                show Go _ _ _ _ _ _ _ (T79.setTop (mkF m 172 #[.val (.int p0), .val (.long q1), .second, .val (.int p2), .val (.long q3), .second, .val (.int p4), .val (.int p5), .val (.int v2), .val (.long v11), .second, .val (.ref b19), .val (.ref b28), .val (.int r39), .val (.int r43), .val (.int r45), .val (.int v49), .val (.int v59), .unset] [(.int (v68 + v77))]))
                refine gob (fun _ k => XS.iconst X81.here hx rfl (hb hby at_172) k) ?_
                show Go _ _ _ _ _ _ _ (T79.setTop (mkF m 173 #[.val (.int p0), .val (.long q1), .second, .val (.int p2), .val (.long q3), .second, .val (.int p4), .val (.int p5), .val (.int v2), .val (.long v11), .second, .val (.ref b19), .val (.ref b28), .val (.int r39), .val (.int r43), .val (.int r45), .val (.int v49), .val (.int v59), .unset] [(.int (1 : Int32)), (.int (v68 + v77))]))
                refine gob (fun _ k => XS.goto X81.here hx rfl (pc0 := 173) (pc' := 177) rfl (hb hby at_173) (by decide) (by decide) k) ?_
                show Go _ _ _ _ _ _ _ (T79.setTop (mkF m 177 #[.val (.int p0), .val (.long q1), .second, .val (.int p2), .val (.long q3), .second, .val (.int p4), .val (.int p5), .val (.int v2), .val (.long v11), .second, .val (.ref b19), .val (.ref b28), .val (.int r39), .val (.int r43), .val (.int r45), .val (.int v49), .val (.int v59), .unset] [(.int (1 : Int32)), (.int (v68 + v77))]))
                exact join177_87 _ _ ((1 : Int32)) X81 e82 N83 (Or.inr ⟨hc169_101, rfl⟩)
            by_cases hc158_102 : r43 = (0 : Int32)
            · skip
              refine gob (fun _ k => XS.ifYes X72.here hx rfl (pc0 := 158) (pc' := 165) rfl (hb hby at_158) rfl ((if0 _ _).trans (teq hc158_102).1) (by decide) (by decide) k) ?_
              show Go _ _ _ _ _ _ _ (T70.setTop (mkF m 165 #[.val (.int p0), .val (.long q1), .second, .val (.int p2), .val (.long q3), .second, .val (.int p4), .val (.int p5), .val (.int v2), .val (.long v11), .second, .val (.ref b19), .val (.ref b28), .val (.int r39), .val (.int r43), .val (.int r45), .val (.int v49), .val (.int v59), .unset] [(.int v68)]))
              refine gob (fun _ k => XS.iconst X72.here hx rfl (hb hby at_165) k) ?_
              show Go _ _ _ _ _ _ _ (T70.setTop (mkF m 166 #[.val (.int p0), .val (.long q1), .second, .val (.int p2), .val (.long q3), .second, .val (.int p4), .val (.int p5), .val (.int v2), .val (.long v11), .second, .val (.ref b19), .val (.ref b28), .val (.int r39), .val (.int r43), .val (.int r45), .val (.int v49), .val (.int v59), .unset] [(.int (0 : Int32)), (.int v68)]))
              exact join166_78 _ _ ((0 : Int32)) X72 e73 N74 (Or.inl ⟨hc158_102, rfl⟩)
            · skip
              refine gob (fun _ k => XS.ifNo X72.here hx rfl (hb hby at_158) rfl ((if0 _ _).trans (feq hc158_102).1) k) ?_
              show Go _ _ _ _ _ _ _ (T70.setTop (mkF m 161 #[.val (.int p0), .val (.long q1), .second, .val (.int p2), .val (.long q3), .second, .val (.int p4), .val (.int p5), .val (.int v2), .val (.long v11), .second, .val (.ref b19), .val (.ref b28), .val (.int r39), .val (.int r43), .val (.int r45), .val (.int v49), .val (.int v59), .unset] [(.int v68)]))
              refine gob (fun _ k => XS.iconst X72.here hx rfl (hb hby at_161) k) ?_
              show Go _ _ _ _ _ _ _ (T70.setTop (mkF m 162 #[.val (.int p0), .val (.long q1), .second, .val (.int p2), .val (.long q3), .second, .val (.int p4), .val (.int p5), .val (.int v2), .val (.long v11), .second, .val (.ref b19), .val (.ref b28), .val (.int r39), .val (.int r43), .val (.int r45), .val (.int v49), .val (.int v59), .unset] [(.int (1 : Int32)), (.int v68)]))
              refine gob (fun _ k => XS.goto X72.here hx rfl (pc0 := 162) (pc' := 166) rfl (hb hby at_162) (by decide) (by decide) k) ?_
              show Go _ _ _ _ _ _ _ (T70.setTop (mkF m 166 #[.val (.int p0), .val (.long q1), .second, .val (.int p2), .val (.long q3), .second, .val (.int p4), .val (.int p5), .val (.int v2), .val (.long v11), .second, .val (.ref b19), .val (.ref b28), .val (.int r39), .val (.int r43), .val (.int r45), .val (.int v49), .val (.int v59), .unset] [(.int (1 : Int32)), (.int v68)]))
              exact join166_78 _ _ ((1 : Int32)) X72 e73 N74 (Or.inr ⟨hc158_102, rfl⟩)
          by_cases hc148_103 : r39 = (0 : Int32)
          · skip
            refine gob (fun _ k => XS.ifYes X63.here hx rfl (pc0 := 148) (pc' := 155) rfl (hb hby at_148) rfl ((if0 _ _).trans (teq hc148_103).1) (by decide) (by decide) k) ?_
            show Go _ _ _ _ _ _ _ (T61.setTop (mkF m 155 #[.val (.int p0), .val (.long q1), .second, .val (.int p2), .val (.long q3), .second, .val (.int p4), .val (.int p5), .val (.int v2), .val (.long v11), .second, .val (.ref b19), .val (.ref b28), .val (.int r39), .val (.int r43), .val (.int r45), .val (.int v49), .val (.int v59), .unset] []))
            refine gob (fun _ k => XS.iconst X63.here hx rfl (hb hby at_155) k) ?_
            show Go _ _ _ _ _ _ _ (T61.setTop (mkF m 156 #[.val (.int p0), .val (.long q1), .second, .val (.int p2), .val (.long q3), .second, .val (.int p4), .val (.int p5), .val (.int v2), .val (.long v11), .second, .val (.ref b19), .val (.ref b28), .val (.int r39), .val (.int r43), .val (.int r45), .val (.int v49), .val (.int v59), .unset] [(.int (0 : Int32))]))
            exact join156_69 _ _ ((0 : Int32)) X63 e64 N65 (Or.inl ⟨hc148_103, rfl⟩)
          · skip
            refine gob (fun _ k => XS.ifNo X63.here hx rfl (hb hby at_148) rfl ((if0 _ _).trans (feq hc148_103).1) k) ?_
            show Go _ _ _ _ _ _ _ (T61.setTop (mkF m 151 #[.val (.int p0), .val (.long q1), .second, .val (.int p2), .val (.long q3), .second, .val (.int p4), .val (.int p5), .val (.int v2), .val (.long v11), .second, .val (.ref b19), .val (.ref b28), .val (.int r39), .val (.int r43), .val (.int r45), .val (.int v49), .val (.int v59), .unset] []))
            refine gob (fun _ k => XS.iconst X63.here hx rfl (hb hby at_151) k) ?_
            show Go _ _ _ _ _ _ _ (T61.setTop (mkF m 152 #[.val (.int p0), .val (.long q1), .second, .val (.int p2), .val (.long q3), .second, .val (.int p4), .val (.int p5), .val (.int v2), .val (.long v11), .second, .val (.ref b19), .val (.ref b28), .val (.int r39), .val (.int r43), .val (.int r45), .val (.int v49), .val (.int v59), .unset] [(.int (1 : Int32))]))
            refine gob (fun _ k => XS.goto X63.here hx rfl (pc0 := 152) (pc' := 156) rfl (hb hby at_152) (by decide) (by decide) k) ?_
            show Go _ _ _ _ _ _ _ (T61.setTop (mkF m 156 #[.val (.int p0), .val (.long q1), .second, .val (.int p2), .val (.long q3), .second, .val (.int p4), .val (.int p5), .val (.int v2), .val (.long v11), .second, .val (.ref b19), .val (.ref b28), .val (.int r39), .val (.int r43), .val (.int r45), .val (.int v49), .val (.int v59), .unset] [(.int (1 : Int32))]))
            exact join156_69 _ _ ((1 : Int32)) X63 e64 N65 (Or.inr ⟨hc148_103, rfl⟩)
        by_cases hc129_104 : p0 = v2
        · skip
          refine gob (fun _ k => XS.icmpNo X53.here hx rfl (hb hby at_129) rfl (teq hc129_104).2 k) ?_
          show Go _ _ _ _ _ _ _ (T51.setTop (mkF m 132 #[.val (.int p0), .val (.long q1), .second, .val (.int p2), .val (.long q3), .second, .val (.int p4), .val (.int p5), .val (.int v2), .val (.long v11), .second, .val (.ref b19), .val (.ref b28), .val (.int r39), .val (.int r43), .val (.int r45), .val (.int v49), .unset, .unset] []))
          refine gob (fun _ k => XS.lloadN X53.here hx rfl (hb hby at_132) rfl k) ?_
          show Go _ _ _ _ _ _ _ (T51.setTop (mkF m 133 #[.val (.int p0), .val (.long q1), .second, .val (.int p2), .val (.long q3), .second, .val (.int p4), .val (.int p5), .val (.int v2), .val (.long v11), .second, .val (.ref b19), .val (.ref b28), .val (.int r39), .val (.int r43), .val (.int r45), .val (.int v49), .unset, .unset] [(.long q1)]))
          refine gob (fun _ k => XS.lload X53.here hx rfl (hb hby at_133) rfl k) ?_
          show Go _ _ _ _ _ _ _ (T51.setTop (mkF m 135 #[.val (.int p0), .val (.long q1), .second, .val (.int p2), .val (.long q3), .second, .val (.int p4), .val (.int p5), .val (.int v2), .val (.long v11), .second, .val (.ref b19), .val (.ref b28), .val (.int r39), .val (.int r43), .val (.int r45), .val (.int v49), .unset, .unset] [(.long v11), (.long q1)]))
          refine gob (fun _ k => XS.lcmp X53.here hx rfl (hb hby at_135) rfl k) ?_
          show Go _ _ _ _ _ _ _ (T51.setTop (mkF m 136 #[.val (.int p0), .val (.long q1), .second, .val (.int p2), .val (.long q3), .second, .val (.int p4), .val (.int p5), .val (.int v2), .val (.long v11), .second, .val (.ref b19), .val (.ref b28), .val (.int r39), .val (.int r43), .val (.int r45), .val (.int v49), .unset, .unset] [(.int (lcmpW q1 v11))]))
          by_cases hc136_105 : q1 = v11
          · skip
            refine gob (fun _ k => XS.ifNo X53.here hx rfl (hb hby at_136) rfl ((if0 _ _).trans (teq ((lw_eq _ _).mpr hc136_105)).2) k) ?_
            show Go _ _ _ _ _ _ _ (T51.setTop (mkF m 139 #[.val (.int p0), .val (.long q1), .second, .val (.int p2), .val (.long q3), .second, .val (.int p4), .val (.int p5), .val (.int v2), .val (.long v11), .second, .val (.ref b19), .val (.ref b28), .val (.int r39), .val (.int r43), .val (.int r45), .val (.int v49), .unset, .unset] []))
            refine gob (fun _ k => XS.iconst X53.here hx rfl (hb hby at_139) k) ?_
            show Go _ _ _ _ _ _ _ (T51.setTop (mkF m 140 #[.val (.int p0), .val (.long q1), .second, .val (.int p2), .val (.long q3), .second, .val (.int p4), .val (.int p5), .val (.int v2), .val (.long v11), .second, .val (.ref b19), .val (.ref b28), .val (.int r39), .val (.int r43), .val (.int r45), .val (.int v49), .unset, .unset] [(.int (1 : Int32))]))
            refine gob (fun _ k => XS.goto X53.here hx rfl (pc0 := 140) (pc' := 144) rfl (hb hby at_140) (by decide) (by decide) k) ?_
            show Go _ _ _ _ _ _ _ (T51.setTop (mkF m 144 #[.val (.int p0), .val (.long q1), .second, .val (.int p2), .val (.long q3), .second, .val (.int p4), .val (.int p5), .val (.int v2), .val (.long v11), .second, .val (.ref b19), .val (.ref b28), .val (.int r39), .val (.int r43), .val (.int r45), .val (.int v49), .unset, .unset] [(.int (1 : Int32))]))
            exact join144_60 _ _ ((1 : Int32)) X53 e54 N55 (Or.inl ⟨hc129_104, hc136_105, rfl⟩)
          · skip
            refine gob (fun _ k => XS.ifYes X53.here hx rfl (pc0 := 136) (pc' := 143) rfl (hb hby at_136) rfl ((if0 _ _).trans (feq (mt (lw_eq _ _).mp hc136_105)).2) (by decide) (by decide) k) ?_
            show Go _ _ _ _ _ _ _ (T51.setTop (mkF m 143 #[.val (.int p0), .val (.long q1), .second, .val (.int p2), .val (.long q3), .second, .val (.int p4), .val (.int p5), .val (.int v2), .val (.long v11), .second, .val (.ref b19), .val (.ref b28), .val (.int r39), .val (.int r43), .val (.int r45), .val (.int v49), .unset, .unset] []))
            refine gob (fun _ k => XS.iconst X53.here hx rfl (hb hby at_143) k) ?_
            show Go _ _ _ _ _ _ _ (T51.setTop (mkF m 144 #[.val (.int p0), .val (.long q1), .second, .val (.int p2), .val (.long q3), .second, .val (.int p4), .val (.int p5), .val (.int v2), .val (.long v11), .second, .val (.ref b19), .val (.ref b28), .val (.int r39), .val (.int r43), .val (.int r45), .val (.int v49), .unset, .unset] [(.int (0 : Int32))]))
            exact join144_60 _ _ ((0 : Int32)) X53 e54 N55 (Or.inr (Or.inl ⟨hc129_104, hc136_105, rfl⟩))
        · skip
          refine gob (fun _ k => XS.icmpYes X53.here hx rfl (pc0 := 129) (pc' := 143) rfl (hb hby at_129) rfl (feq hc129_104).2 (by decide) (by decide) k) ?_
          show Go _ _ _ _ _ _ _ (T51.setTop (mkF m 143 #[.val (.int p0), .val (.long q1), .second, .val (.int p2), .val (.long q3), .second, .val (.int p4), .val (.int p5), .val (.int v2), .val (.long v11), .second, .val (.ref b19), .val (.ref b28), .val (.int r39), .val (.int r43), .val (.int r45), .val (.int v49), .unset, .unset] []))
          refine gob (fun _ k => XS.iconst X53.here hx rfl (hb hby at_143) k) ?_
          show Go _ _ _ _ _ _ _ (T51.setTop (mkF m 144 #[.val (.int p0), .val (.long q1), .second, .val (.int p2), .val (.long q3), .second, .val (.int p4), .val (.int p5), .val (.int v2), .val (.long v11), .second, .val (.ref b19), .val (.ref b28), .val (.int r39), .val (.int r43), .val (.int r45), .val (.int v49), .unset, .unset] [(.int (0 : Int32))]))
          exact join144_60 _ _ ((0 : Int32)) X53 e54 N55 (Or.inr (Or.inr ⟨hc129_104, rfl⟩))
      by_cases hc91_106 : v2 < p0
      · skip
        refine gob (fun _ k => XS.icmpNo X45.here hx rfl (hb hby at_91) rfl (tlt hc91_106).2.2.2 k) ?_
        show Go _ _ _ _ _ _ _ (T45.setTop (mkF m 94 #[.val (.int p0), .val (.long q1), .second, .val (.int p2), .val (.long q3), .second, .val (.int p4), .val (.int p5), .val (.int v2), .val (.long v11), .second, .val (.ref b19), .val (.ref b28), .val (.int r39), .val (.int r43), .val (.int r45), .unset, .unset, .unset] []))
        refine gob (fun _ k => XS.iconst X45.here hx rfl (hb hby at_94) k) ?_
        show Go _ _ _ _ _ _ _ (T45.setTop (mkF m 95 #[.val (.int p0), .val (.long q1), .second, .val (.int p2), .val (.long q3), .second, .val (.int p4), .val (.int p5), .val (.int v2), .val (.long v11), .second, .val (.ref b19), .val (.ref b28), .val (.int r39), .val (.int r43), .val (.int r45), .unset, .unset, .unset] [(.int (1 : Int32))]))
        refine gob (fun _ k => XS.istore X45.here hx rfl (hb hby at_95) rfl (l' := #[.val (.int p0), .val (.long q1), .second, .val (.int p2), .val (.long q3), .second, .val (.int p4), .val (.int p5), .val (.int v2), .val (.long v11), .second, .val (.ref b19), .val (.ref b28), .val (.int r39), .val (.int r43), .val (.int r45), .val (.int (1 : Int32)), .unset, .unset]) rfl k) ?_
        show Go _ _ _ _ _ _ _ (T45.setTop (mkF m 97 #[.val (.int p0), .val (.long q1), .second, .val (.int p2), .val (.long q3), .second, .val (.int p4), .val (.int p5), .val (.int v2), .val (.long v11), .second, .val (.ref b19), .val (.ref b28), .val (.int r39), .val (.int r43), .val (.int r45), .val (.int (1 : Int32)), .unset, .unset] []))
        refine gob (fun _ k => XS.goto X45.here hx rfl (pc0 := 97) (pc' := 126) rfl (hb hby at_97) (by decide) (by decide) k) ?_
        show Go _ _ _ _ _ _ _ (T45.setTop (mkF m 126 #[.val (.int p0), .val (.long q1), .second, .val (.int p2), .val (.long q3), .second, .val (.int p4), .val (.int p5), .val (.int v2), .val (.long v11), .second, .val (.ref b19), .val (.ref b28), .val (.int r39), .val (.int r43), .val (.int r45), .val (.int (1 : Int32)), .unset, .unset] []))
        exact join126_50 _ _ ((1 : Int32)) X45 e45 N45 (Or.inl ⟨hc91_106, rfl⟩)
      · skip
        refine gob (fun _ k => XS.icmpYes X45.here hx rfl (pc0 := 91) (pc' := 100) rfl (hb hby at_91) rfl (flt hc91_106).2.2.2 (by decide) (by decide) k) ?_
        show Go _ _ _ _ _ _ _ (T45.setTop (mkF m 100 #[.val (.int p0), .val (.long q1), .second, .val (.int p2), .val (.long q3), .second, .val (.int p4), .val (.int p5), .val (.int v2), .val (.long v11), .second, .val (.ref b19), .val (.ref b28), .val (.int r39), .val (.int r43), .val (.int r45), .unset, .unset, .unset] []))
        refine gob (fun _ k => XS.iloadN X45.here hx rfl (hb hby at_100) rfl k) ?_
        show Go _ _ _ _ _ _ _ (T45.setTop (mkF m 101 #[.val (.int p0), .val (.long q1), .second, .val (.int p2), .val (.long q3), .second, .val (.int p4), .val (.int p5), .val (.int v2), .val (.long v11), .second, .val (.ref b19), .val (.ref b28), .val (.int r39), .val (.int r43), .val (.int r45), .unset, .unset, .unset] [(.int p0)]))
        refine gob (fun _ k => XS.iload X45.here hx rfl (hb hby at_101) rfl k) ?_
        show Go _ _ _ _ _ _ _ (T45.setTop (mkF m 103 #[.val (.int p0), .val (.long q1), .second, .val (.int p2), .val (.long q3), .second, .val (.int p4), .val (.int p5), .val (.int v2), .val (.long v11), .second, .val (.ref b19), .val (.ref b28), .val (.int r39), .val (.int r43), .val (.int r45), .unset, .unset, .unset] [(.int v2), (.int p0)]))
        by_cases hc103_107 : p0 < v2
        · skip
          refine gob (fun _ k => XS.icmpNo X45.here hx rfl (hb hby at_103) rfl (tlt hc103_107).2.1 k) ?_
          show Go _ _ _ _ _ _ _ (T45.setTop (mkF m 106 #[.val (.int p0), .val (.long q1), .second, .val (.int p2), .val (.long q3), .second, .val (.int p4), .val (.int p5), .val (.int v2), .val (.long v11), .second, .val (.ref b19), .val (.ref b28), .val (.int r39), .val (.int r43), .val (.int r45), .unset, .unset, .unset] []))
          refine gob (fun _ k => XS.iconst X45.here hx rfl (hb hby at_106) k) ?_
          show Go _ _ _ _ _ _ _ (T45.setTop (mkF m 107 #[.val (.int p0), .val (.long q1), .second, .val (.int p2), .val (.long q3), .second, .val (.int p4), .val (.int p5), .val (.int v2), .val (.long v11), .second, .val (.ref b19), .val (.ref b28), .val (.int r39), .val (.int r43), .val (.int r45), .unset, .unset, .unset] [(.int (0 : Int32))]))
          refine gob (fun _ k => XS.istore X45.here hx rfl (hb hby at_107) rfl (l' := #[.val (.int p0), .val (.long q1), .second, .val (.int p2), .val (.long q3), .second, .val (.int p4), .val (.int p5), .val (.int v2), .val (.long v11), .second, .val (.ref b19), .val (.ref b28), .val (.int r39), .val (.int r43), .val (.int r45), .val (.int (0 : Int32)), .unset, .unset]) rfl k) ?_
          show Go _ _ _ _ _ _ _ (T45.setTop (mkF m 109 #[.val (.int p0), .val (.long q1), .second, .val (.int p2), .val (.long q3), .second, .val (.int p4), .val (.int p5), .val (.int v2), .val (.long v11), .second, .val (.ref b19), .val (.ref b28), .val (.int r39), .val (.int r43), .val (.int r45), .val (.int (0 : Int32)), .unset, .unset] []))
          refine gob (fun _ k => XS.goto X45.here hx rfl (pc0 := 109) (pc' := 126) rfl (hb hby at_109) (by decide) (by decide) k) ?_
          show Go _ _ _ _ _ _ _ (T45.setTop (mkF m 126 #[.val (.int p0), .val (.long q1), .second, .val (.int p2), .val (.long q3), .second, .val (.int p4), .val (.int p5), .val (.int v2), .val (.long v11), .second, .val (.ref b19), .val (.ref b28), .val (.int r39), .val (.int r43), .val (.int r45), .val (.int (0 : Int32)), .unset, .unset] []))
          exact join126_50 _ _ ((0 : Int32)) X45 e45 N45 (Or.inr (Or.inl ⟨hc91_106, hc103_107, rfl⟩))
        · skip
          refine gob (fun _ k => XS.icmpYes X45.here hx rfl (pc0 := 103) (pc' := 112) rfl (hb hby at_103) rfl (flt hc103_107).2.1 (by decide) (by decide) k) ?_
          show Go _ _ _ _ _ _ _ (T45.setTop (mkF m 112 #[.val (.int p0), .val (.long q1), .second, .val (.int p2), .val (.long q3), .second, .val (.int p4), .val (.int p5), .val (.int v2), .val (.long v11), .second, .val (.ref b19), .val (.ref b28), .val (.int r39), .val (.int r43), .val (.int r45), .unset, .unset, .unset] []))
          refine gob (fun _ k => XS.lloadN X45.here hx rfl (hb hby at_112) rfl k) ?_
          show Go _ _ _ _ _ _ _ (T45.setTop (mkF m 113 #[.val (.int p0), .val (.long q1), .second, .val (.int p2), .val (.long q3), .second, .val (.int p4), .val (.int p5), .val (.int v2), .val (.long v11), .second, .val (.ref b19), .val (.ref b28), .val (.int r39), .val (.int r43), .val (.int r45), .unset, .unset, .unset] [(.long q1)]))
          refine gob (fun _ k => XS.lload X45.here hx rfl (hb hby at_113) rfl k) ?_
          show Go _ _ _ _ _ _ _ (T45.setTop (mkF m 115 #[.val (.int p0), .val (.long q1), .second, .val (.int p2), .val (.long q3), .second, .val (.int p4), .val (.int p5), .val (.int v2), .val (.long v11), .second, .val (.ref b19), .val (.ref b28), .val (.int r39), .val (.int r43), .val (.int r45), .unset, .unset, .unset] [(.long v11), (.long q1)]))
          refine gob (fun _ k => XS.lcmp X45.here hx rfl (hb hby at_115) rfl k) ?_
          show Go _ _ _ _ _ _ _ (T45.setTop (mkF m 116 #[.val (.int p0), .val (.long q1), .second, .val (.int p2), .val (.long q3), .second, .val (.int p4), .val (.int p5), .val (.int v2), .val (.long v11), .second, .val (.ref b19), .val (.ref b28), .val (.int r39), .val (.int r43), .val (.int r45), .unset, .unset, .unset] [(.int (lcmpW q1 v11))]))
          by_cases hc116_108 : v11 < q1
          · skip
            refine gob (fun _ k => XS.ifNo X45.here hx rfl (hb hby at_116) rfl ((if0 _ _).trans (tlt ((lw_gt _ _).mpr hc116_108)).2.2.2) k) ?_
            show Go _ _ _ _ _ _ _ (T45.setTop (mkF m 119 #[.val (.int p0), .val (.long q1), .second, .val (.int p2), .val (.long q3), .second, .val (.int p4), .val (.int p5), .val (.int v2), .val (.long v11), .second, .val (.ref b19), .val (.ref b28), .val (.int r39), .val (.int r43), .val (.int r45), .unset, .unset, .unset] []))
            refine gob (fun _ k => XS.iconst X45.here hx rfl (hb hby at_119) k) ?_
            show Go _ _ _ _ _ _ _ (T45.setTop (mkF m 120 #[.val (.int p0), .val (.long q1), .second, .val (.int p2), .val (.long q3), .second, .val (.int p4), .val (.int p5), .val (.int v2), .val (.long v11), .second, .val (.ref b19), .val (.ref b28), .val (.int r39), .val (.int r43), .val (.int r45), .unset, .unset, .unset] [(.int (1 : Int32))]))
            refine gob (fun _ k => XS.goto X45.here hx rfl (pc0 := 120) (pc' := 124) rfl (hb hby at_120) (by decide) (by decide) k) ?_
            show Go _ _ _ _ _ _ _ (T45.setTop (mkF m 124 #[.val (.int p0), .val (.long q1), .second, .val (.int p2), .val (.long q3), .second, .val (.int p4), .val (.int p5), .val (.int v2), .val (.long v11), .second, .val (.ref b19), .val (.ref b28), .val (.int r39), .val (.int r43), .val (.int r45), .unset, .unset, .unset] [(.int (1 : Int32))]))
            refine gob (fun _ k => XS.istore X45.here hx rfl (hb hby at_124) rfl (l' := #[.val (.int p0), .val (.long q1), .second, .val (.int p2), .val (.long q3), .second, .val (.int p4), .val (.int p5), .val (.int v2), .val (.long v11), .second, .val (.ref b19), .val (.ref b28), .val (.int r39), .val (.int r43), .val (.int r45), .val (.int (1 : Int32)), .unset, .unset]) rfl k) ?_
            show Go _ _ _ _ _ _ _ (T45.setTop (mkF m 126 #[.val (.int p0), .val (.long q1), .second, .val (.int p2), .val (.long q3), .second, .val (.int p4), .val (.int p5), .val (.int v2), .val (.long v11), .second, .val (.ref b19), .val (.ref b28), .val (.int r39), .val (.int r43), .val (.int r45), .val (.int (1 : Int32)), .unset, .unset] []))
            exact join126_50 _ _ ((1 : Int32)) X45 e45 N45 (Or.inr (Or.inr (Or.inl ⟨hc91_106, hc103_107, hc116_108, rfl⟩)))
          · skip
            refine gob (fun _ k => XS.ifYes X45.here hx rfl (pc0 := 116) (pc' := 123) rfl (hb hby at_116) rfl ((if0 _ _).trans (flt (mt (lw_gt _ _).mp hc116_108)).2.2.2) (by decide) (by decide) k) ?_
            show Go _ _ _ _ _ _ _ (T45.setTop (mkF m 123 #[.val (.int p0), .val (.long q1), .second, .val (.int p2), .val (.long q3), .second, .val (.int p4), .val (.int p5), .val (.int v2), .val (.long v11), .second, .val (.ref b19), .val (.ref b28), .val (.int r39), .val (.int r43), .val (.int r45), .unset, .unset, .unset] []))
            refine gob (fun _ k => XS.iconst X45.here hx rfl (hb hby at_123) k) ?_
            show Go _ _ _ _ _ _ _ (T45.setTop (mkF m 124 #[.val (.int p0), .val (.long q1), .second, .val (.int p2), .val (.long q3), .second, .val (.int p4), .val (.int p5), .val (.int v2), .val (.long v11), .second, .val (.ref b19), .val (.ref b28), .val (.int r39), .val (.int r43), .val (.int r45), .unset, .unset, .unset] [(.int (0 : Int32))]))
            refine gob (fun _ k => XS.istore X45.here hx rfl (hb hby at_124) rfl (l' := #[.val (.int p0), .val (.long q1), .second, .val (.int p2), .val (.long q3), .second, .val (.int p4), .val (.int p5), .val (.int v2), .val (.long v11), .second, .val (.ref b19), .val (.ref b28), .val (.int r39), .val (.int r43), .val (.int r45), .val (.int (0 : Int32)), .unset, .unset]) rfl k) ?_
            show Go _ _ _ _ _ _ _ (T45.setTop (mkF m 126 #[.val (.int p0), .val (.long q1), .second, .val (.int p2), .val (.long q3), .second, .val (.int p4), .val (.int p5), .val (.int v2), .val (.long v11), .second, .val (.ref b19), .val (.ref b28), .val (.int r39), .val (.int r43), .val (.int r45), .val (.int (0 : Int32)), .unset, .unset] []))
            exact join126_50 _ _ ((0 : Int32)) X45 e45 N45 (Or.inr (Or.inr (Or.inr ⟨hc91_106, hc103_107, hc116_108, rfl⟩)))
    by_cases hc18_109 : (p4 &&& (2 : Int32)) = (0 : Int32)
    · skip
      refine gob (fun _ k => XS.ifYes X6.here hx rfl (pc0 := 18) (pc' := 25) rfl (hb hby at_18) rfl ((if0 _ _).trans (teq hc18_109).1) (by decide) (by decide) k) ?_
      show Go _ _ _ _ _ _ _ (T4.setTop (mkF m 25 #[.val (.int p0), .val (.long q1), .second, .val (.int p2), .val (.long q3), .second, .val (.int p4), .val (.int p5), .val (.int v2), .unset, .unset, .unset, .unset, .unset, .unset, .unset, .unset, .unset, .unset] []))
      refine gob (fun _ k => XS.lload X6.here hx rfl (hb hby at_25) rfl k) ?_
      show Go _ _ _ _ _ _ _ (T4.setTop (mkF m 27 #[.val (.int p0), .val (.long q1), .second, .val (.int p2), .val (.long q3), .second, .val (.int p4), .val (.int p5), .val (.int v2), .unset, .unset, .unset, .unset, .unset, .unset, .unset, .unset, .unset, .unset] [(.long q3)]))
      exact join27_12 _ _ (q3) X6 e7 N8 (Or.inl ⟨hc18_109, rfl⟩)
    · skip
      refine gob (fun _ k => XS.ifNo X6.here hx rfl (hb hby at_18) rfl ((if0 _ _).trans (feq hc18_109).1) k) ?_
      show Go _ _ _ _ _ _ _ (T4.setTop (mkF m 21 #[.val (.int p0), .val (.long q1), .second, .val (.int p2), .val (.long q3), .second, .val (.int p4), .val (.int p5), .val (.int v2), .unset, .unset, .unset, .unset, .unset, .unset, .unset, .unset, .unset, .unset] []))
      refine gob (fun _ k => XS.lloadN X6.here hx rfl (hb hby at_21) rfl k) ?_
      show Go _ _ _ _ _ _ _ (T4.setTop (mkF m 22 #[.val (.int p0), .val (.long q1), .second, .val (.int p2), .val (.long q3), .second, .val (.int p4), .val (.int p5), .val (.int v2), .unset, .unset, .unset, .unset, .unset, .unset, .unset, .unset, .unset, .unset] [(.long q1)]))
      refine gob (fun _ k => XS.goto X6.here hx rfl (pc0 := 22) (pc' := 27) rfl (hb hby at_22) (by decide) (by decide) k) ?_
      show Go _ _ _ _ _ _ _ (T4.setTop (mkF m 27 #[.val (.int p0), .val (.long q1), .second, .val (.int p2), .val (.long q3), .second, .val (.int p4), .val (.int p5), .val (.int v2), .unset, .unset, .unset, .unset, .unset, .unset, .unset, .unset, .unset, .unset] [(.long q1)]))
      exact join27_12 _ _ (q1) X6 e7 N8 (Or.inr ⟨hc18_109, rfl⟩)
  by_cases hc4_110 : (p4 &&& (1 : Int32)) = (0 : Int32)
  · skip
    refine gob (fun _ k => XS.ifYes X0.here hx rfl (pc0 := 4) (pc' := 11) rfl (hb hby at_4) rfl ((if0 _ _).trans (teq hc4_110).1) (by decide) (by decide) k) ?_
    show Go _ _ _ _ _ _ _ (s₁.setTop (mkF m 11 #[.val (.int p0), .val (.long q1), .second, .val (.int p2), .val (.long q3), .second, .val (.int p4), .val (.int p5), .unset, .unset, .unset, .unset, .unset, .unset, .unset, .unset, .unset, .unset, .unset] []))
    refine gob (fun _ k => XS.iloadN X0.here hx rfl (hb hby at_11) rfl k) ?_
    show Go _ _ _ _ _ _ _ (s₁.setTop (mkF m 12 #[.val (.int p0), .val (.long q1), .second, .val (.int p2), .val (.long q3), .second, .val (.int p4), .val (.int p5), .unset, .unset, .unset, .unset, .unset, .unset, .unset, .unset, .unset, .unset, .unset] [(.int p2)]))
    exact join12_3 _ _ (p2) X0 e0 N0 (Or.inl ⟨hc4_110, rfl⟩)
  · skip
    refine gob (fun _ k => XS.ifNo X0.here hx rfl (hb hby at_4) rfl ((if0 _ _).trans (feq hc4_110).1) k) ?_
    show Go _ _ _ _ _ _ _ (s₁.setTop (mkF m 7 #[.val (.int p0), .val (.long q1), .second, .val (.int p2), .val (.long q3), .second, .val (.int p4), .val (.int p5), .unset, .unset, .unset, .unset, .unset, .unset, .unset, .unset, .unset, .unset, .unset] []))
    refine gob (fun _ k => XS.iloadN X0.here hx rfl (hb hby at_7) rfl k) ?_
    show Go _ _ _ _ _ _ _ (s₁.setTop (mkF m 8 #[.val (.int p0), .val (.long q1), .second, .val (.int p2), .val (.long q3), .second, .val (.int p4), .val (.int p5), .unset, .unset, .unset, .unset, .unset, .unset, .unset, .unset, .unset, .unset, .unset] [(.int p0)]))
    refine gob (fun _ k => XS.goto X0.here hx rfl (pc0 := 8) (pc' := 12) rfl (hb hby at_8) (by decide) (by decide) k) ?_
    show Go _ _ _ _ _ _ _ (s₁.setTop (mkF m 12 #[.val (.int p0), .val (.long q1), .second, .val (.int p2), .val (.long q3), .second, .val (.int p4), .val (.int p5), .unset, .unset, .unset, .unset, .unset, .unset, .unset, .unset, .unset, .unset, .unset] [(.int p0)]))
    exact join12_3 _ _ (p0) X0 e0 N0 (Or.inr ⟨hc4_110, rfl⟩)
set_option maxRecDepth 65536 in
set_option maxHeartbeats 40000000 in
theorem comes_1 {Post : Tables → Env → Array Value → State → Outcome → State → Prop} (hpost : ∀ tb e args s v u, (limb_1_1.after args s (.returned v) u = true ∧ limb_1_2.after args s (.returned v) u = true ∧ True) → FrameEnd s (.returned v) u (Jvm.fieldLocs frame_1_writes args s ++ Jvm.arrayLocs frame_1_arrays args s ++ Jvm.staticLocs frame_1_statics s) 16 128 → Post tb e args s (.returned v) u) :
    ArmFor flags0 classFile x code maxLocals ret World_1 tables_1 room_1 Calls_1 rest_1 Pre_1 Post := by
  intro l hfl _ _ p e ha hc hk s m args below hf hA hF happ hP
  obtain ⟨hcalls, hrest, hpre⟩ := hP
  obtain ⟨-, -, -, hnamed, -, -, -, hat⟩ := (Spec.applies_iff hf).mp happ
  obtain ⟨hg, hn⟩ := and_e (Cond.before_iff.mp (show (Jvm.Cond.and given_1 narrow_1).before args s = true from hpre))
  obtain ⟨g1, g2⟩ := and_e hg
  obtain ⟨g3, g4⟩ := and_e g2
  obtain ⟨g5, g6⟩ := and_e g4
  obtain ⟨g7, g8⟩ := and_e g6
  obtain ⟨g9, g10⟩ := and_e g8
  obtain ⟨g11, g12⟩ := and_e g10
  obtain ⟨w0, w1, w2, w3, w4, w5, rfl⟩ : ∃ w0 w1 w2 w3 w4 w5 : Value, args = #[w0, w1, w2, w3, w4, w5] := by
    have hs : args.size = 6 := by simpa [Cond.value, given_1] using g1
    obtain ⟨L⟩ := args
    match L, hs with
    | [w0, w1, w2, w3, w4, w5], _ => exact ⟨w0, w1, w2, w3, w4, w5, rfl⟩
  have hw := fun d (hd : d ∈ tables_1) => atoms_spec (ws := Jvm.Cond.code x code maxLocals ret :: tables_1) hat d (List.mem_cons_of_mem _ hd)
  have hfit : Fit s := fun {y c} hc i hi => by
    obtain ⟨ha, rfl⟩ := Array.getElem?_eq_some_iff.mp hc
    have q := List.all_eq_true.mp ((Array.all_eq_true_iff_forall_mem.mp hF) _ (Array.getElem_mem ha)) i (List.mem_range.mpr hi)
    simpa [Array.getElem?_eq_getElem hi] using q
  obtain ⟨i0, ei0⟩ := is_v g3
  obtain rfl : w0 = (.int i0) := Option.some.inj ei0
  obtain ⟨i1, ei1⟩ := isL_v g5
  obtain rfl : w1 = (.long i1) := Option.some.inj ei1
  obtain ⟨i2, ei2⟩ := is_v g7
  obtain rfl : w2 = (.int i2) := Option.some.inj ei2
  obtain ⟨i3, ei3⟩ := isL_v g9
  obtain rfl : w3 = (.long i3) := Option.some.inj ei3
  obtain ⟨i4, ei4⟩ := is_v g11
  obtain rfl : w4 = (.int i4) := Option.some.inj ei4
  obtain ⟨i5, ei5⟩ := is_v g12
  obtain rfl : w5 = (.int i5) := Option.some.inj ei5
  obtain ⟨n, o, h1, h2, h3, _, L, rfl, ⟨rfl, N⟩, hq⟩ := rm0 l s _ hw tables_1 i0 i1 i2 i3 i4 i5 s.heap s.heap.size (Nat.le_refl _)  p e ha hc hk s m _ below hf ((Spec.applies_iff_loose hf).mp happ).1 ⟨rfl, State.Warmed39.refl s, rfl⟩ trivial
  exact ⟨n, _, h1, h2, h3, hpost _ _ _ _ _ _ ⟨Cond.after_iff.mpr rfl, Cond.after_iff.mpr (eq_i res_at (Term.int_eval (1)) rfl), trivial⟩ ⟨hq.1, hq.2.1, (hq.2.2.sift fun y hy => Or.inr (N y hy)).mono (by decide) (by decide)⟩⟩
theorem main_1_1 : Claimed_1_1 := comes_1 fun _ _ _ _ _ _ h hF => ⟨h.1, hF⟩
theorem main_1_2 : Claimed_1_2 := comes_1 fun _ _ _ _ _ _ h hF => ⟨h.2.1, hF⟩
end Jvm.Pilot.@@N@@
namespace Jvm.Pilot.@@N@@
open Jvm Jvm.ClassFile Sem Op Lib Jvm.Free Jvm.Stand Jvm.Pilot.@@N@@.Jvm.D
/-! MADE BY PROGRAM (witnessworld.py) out of the Statement's table words and the real class files: 10 classes; the members and pool entries that the words name. The judged class is class 1, her method 1. -/
namespace start1
open Jvm.ClassFile
def u (s : String) : CpInfo := .utf8 (stringToUtf16 s)
/-- a pool by its gaps: so many unusable entries, then the entry; so many at the end -/
def gap : Nat → List CpInfo → List CpInfo
  | 0, r => r
  | n + 1, r => .unusable :: gap n r
def poolList (es : List (Nat × CpInfo)) (last : Nat) : List CpInfo := es.foldr (fun e r => gap e.1 (e.2 :: r)) (gap last [])
def pool (es : List (Nat × CpInfo)) (last : Nat) : Array CpInfo := ⟨poolList es last⟩
def fileOf (pool : Array CpInfo) (this : Nat) (attrs : Array Attribute := #[]) (ms : Array MethodInfo := #[]) (fl : Nat := 33) (sup : Nat := 0) (ifs : Array Nat := #[]) (fds : Array FieldInfo := #[]) : ClassFile where
  minorVersion := 0
  majorVersion := 65
  constantPool := pool
  accessFlags := fl
  thisClass := this
  superClass := sup
  interfaces := ifs
  fields := fds
  methods := ms
  attributes := attrs
def plain (name : String) (sup : Option ClassId) : Class where
  name := name
  kind := .ordinary
  loader := none
  accessFlags := 33
  super := sup
  interfaces := #[]
  cf := none
  fields := #[]
  methods := #[]
  instanceTypes := #[]
  staticTypes := #[]
  resolved := #[]
  callSites := []
  init := .initialized
  statics := none
  mirror := none

def pool0 : Array CpInfo := pool [(5, u "<init>"), (0, u "()V"), (1, .class_ 10), (1, u "java/lang/Object")] 113

def k0c0 : Code := { maxStack := 0, maxLocals := 1, code := object_method_1_code, exceptionTable := #[], attributes := #[] }
def k0m0 : Method := { name := "<init>", desc := "()V", sig := { parameters := [], returnType := none }, accessFlags := 1, code := some k0c0 }
/-- java/lang/Object -/
def k0 : Class := { plain "java/lang/Object" none with
  accessFlags := 33
  interfaces := #[]
  cf := some (fileOf pool0 8 #[] #[{ accessFlags := 1, nameIndex := 5, descriptorIndex := 6, attributes := #[] }] 33 0 #[] #[])
  fields := #[]
  methods := #[k0m0]
  instanceTypes := #[]
  staticTypes := #[]
  resolved := Array.replicate 124 none
  statics := none }

def pool1 : Array CpInfo := pool [(2, .class_ 4), (1, u "java/lang/Object"), (0, u "<init>"), (0, u "()V"), (0, .class_ 8), (0, u "com/example/hot_potato/hotpotato/Message$Probe$Sighting"), (0, .methodref 7 10), (0, .nameAndType 5 11), (0, u "(IJII)V"), (0, .methodref 7 13), (0, .nameAndType 14 15), (0, u "after"), (0, u "(Lcom/example/hot_potato/hotpotato/Message$Probe$Sighting;)Z"), (0, .class_ 17), (0, u "com/example/hot_potato/hotpotato/SightingAfterPinLaw"), (2, u "law"), (0, u "(IJIJII)Z")] 10

def k1m0 : Method := { name := "<init>", desc := "()V", sig := { parameters := [], returnType := none }, accessFlags := 2, code := none }
def k1c1 : Code := { maxStack := 7, maxLocals := 19, code := code, exceptionTable := #[], attributes := #[] }
def k1m1 : Method := { name := "law", desc := "(IJIJII)Z", sig := { parameters := [.int, .long, .int, .long, .int, .int], returnType := some .boolean }, accessFlags := 9, code := some k1c1 }
/-- com/example/hot_potato/hotpotato/SightingAfterPinLaw -/
def k1 : Class := { plain "com/example/hot_potato/hotpotato/SightingAfterPinLaw" (some 0) with
  accessFlags := 49
  interfaces := #[]
  cf := some (fileOf pool1 16 #[] #[{ accessFlags := 2, nameIndex := 5, descriptorIndex := 6, attributes := #[] }, { accessFlags := 9, nameIndex := 20, descriptorIndex := 21, attributes := #[] }] 49 2 #[] #[])
  fields := #[]
  methods := #[k1m0, k1m1]
  instanceTypes := #[]
  staticTypes := #[]
  resolved := Array.replicate 32 none
  statics := none }

def pool2 : Array CpInfo := pool [(1, .methodref 2 3), (0, .class_ 4), (0, .nameAndType 5 6), (0, u "java/lang/Object"), (0, u "<init>"), (0, u "()V"), (0, .class_ 8), (0, u "java/lang/Record")] 13

def k2c0 : Code := { maxStack := 1, maxLocals := 1, code := jdk_30_method_1_code, exceptionTable := #[], attributes := #[] }
def k2m0 : Method := { name := "<init>", desc := "()V", sig := { parameters := [], returnType := none }, accessFlags := 4, code := some k2c0 }
/-- java/lang/Record -/
def k2 : Class := { plain "java/lang/Record" (some 0) with
  accessFlags := 1057
  interfaces := #[]
  cf := some (fileOf pool2 7 #[] #[{ accessFlags := 4, nameIndex := 5, descriptorIndex := 6, attributes := #[] }] 1057 2 #[] #[])
  fields := #[]
  methods := #[k2m0]
  instanceTypes := #[]
  staticTypes := #[]
  resolved := Array.replicate 22 none
  statics := none }

def pool3 : Array CpInfo := pool [(1, .methodref 2 3), (0, .class_ 4), (0, .nameAndType 5 6), (0, u "java/lang/Record"), (0, u "<init>"), (0, u "()V"), (0, .fieldref 8 9), (0, .class_ 10), (0, .nameAndType 11 12), (0, u "com/example/hot_potato/hotpotato/Message$Probe$Sighting"), (0, u "generation"), (0, u "I"), (0, .fieldref 8 14), (0, .nameAndType 15 16), (0, u "hop"), (0, u "J"), (0, .fieldref 8 18), (0, .nameAndType 19 12), (0, u "at"), (0, .fieldref 8 21), (0, .nameAndType 22 12), (0, u "passedTo"), (12, u "UNSEEN"), (2, u "(IJII)V"), (3, u "after"), (0, u "(Lcom/example/hot_potato/hotpotato/Message$Probe$Sighting;)Z"), (8, .class_ 53), (0, u "com/example/hot_potato/hotpotato/Message")] 25

def k3c0 : Code := { maxStack := 3, maxLocals := 6, code := prog_28_method_1_code, exceptionTable := #[], attributes := #[] }
def k3m0 : Method := { name := "<init>", desc := "(IJII)V", sig := { parameters := [.int, .long, .int, .int], returnType := none }, accessFlags := 0, code := some k3c0 }
def k3c1 : Code := { maxStack := 4, maxLocals := 2, code := prog_28_method_2_code, exceptionTable := #[], attributes := #[] }
def k3m1 : Method := { name := "after", desc := "(Lcom/example/hot_potato/hotpotato/Message$Probe$Sighting;)Z", sig := { parameters := [(.object "com/example/hot_potato/hotpotato/Message$Probe$Sighting")], returnType := some .boolean }, accessFlags := 0, code := some k3c1 }
/-- com/example/hot_potato/hotpotato/Message$Probe$Sighting -/
def k3 : Class := { plain "com/example/hot_potato/hotpotato/Message$Probe$Sighting" (some 2) with
  accessFlags := 48
  interfaces := #[]
  cf := some (fileOf pool3 8 #[.nestHost 52] #[{ accessFlags := 0, nameIndex := 5, descriptorIndex := 38, attributes := #[] }, { accessFlags := 0, nameIndex := 42, descriptorIndex := 43, attributes := #[] }] 48 2 #[] #[{ accessFlags := 18, nameIndex := 11, descriptorIndex := 12, attributes := #[] }, { accessFlags := 18, nameIndex := 15, descriptorIndex := 16, attributes := #[] }, { accessFlags := 18, nameIndex := 19, descriptorIndex := 12, attributes := #[] }, { accessFlags := 18, nameIndex := 22, descriptorIndex := 12, attributes := #[] }, { accessFlags := 24, nameIndex := 35, descriptorIndex := 12, attributes := #[] }])
  fields := #[{ name := "generation", type := .int, accessFlags := 18, slot := 0, constantValue := 0 }, { name := "hop", type := .long, accessFlags := 18, slot := 1, constantValue := 0 }, { name := "at", type := .int, accessFlags := 18, slot := 2, constantValue := 0 }, { name := "passedTo", type := .int, accessFlags := 18, slot := 3, constantValue := 0 }, { name := "UNSEEN", type := .int, accessFlags := 24, slot := 0, constantValue := 0 }]
  methods := #[k3m0, k3m1]
  instanceTypes := #[.int, .long, .int, .int]
  staticTypes := #[.int]
  resolved := Array.replicate 79 none
  statics := none }

def pool4 : Array CpInfo := pool [(1, u "java/lang/Cloneable"), (0, .class_ 1), (0, u "java/lang/Object"), (0, .class_ 3)] 3

/-- java/lang/Cloneable -/
def k4 : Class := { plain "java/lang/Cloneable" (some 0) with
  accessFlags := 1537
  interfaces := #[]
  cf := some (fileOf pool4 2 #[] #[] 1537 4 #[] #[])
  fields := #[]
  methods := #[]
  instanceTypes := #[]
  staticTypes := #[]
  resolved := Array.replicate 8 none
  statics := none }

def pool5 : Array CpInfo := pool [(1, u "java/io/Serializable"), (0, .class_ 1), (0, u "java/lang/Object"), (0, .class_ 3)] 3

/-- java/io/Serializable -/
def k5 : Class := { plain "java/io/Serializable" (some 0) with
  accessFlags := 1537
  interfaces := #[]
  cf := some (fileOf pool5 2 #[] #[] 1537 4 #[] #[])
  fields := #[]
  methods := #[]
  instanceTypes := #[]
  staticTypes := #[]
  resolved := Array.replicate 8 none
  statics := none }

/-- the primitive byte -/
def k6 : Class := { plain "byte" none with kind := .primitive 'B', accessFlags := 0x411 }
/-- [B -/
def k7 : Class := { plain "[B" (some 0) with kind := .array 6 .byte, interfaces := #[4, 5], accessFlags := 1041 }

/-- the primitive int -/
def k8 : Class := { plain "int" none with kind := .primitive 'I', accessFlags := 0x411 }
/-- [I -/
def k9 : Class := { plain "[I" (some 0) with kind := .array 8 .int, interfaces := #[4, 5], accessFlags := 1041 }

def heap : Heap := #[]
def classes : Array Class := #[k0, k1, k2, k3, k4, k5, k6, k7, k8, k9]
def interned : List (Array UInt16 × Addr) := []
def slotsUsed : Nat := 0
def theMethod : MethodId := ⟨1, 1⟩
def args0 : Array Value := #[.int 5, .long 9, .int 7, .long 3, .int 1, .int 2]
def aboutOver (below : List Frame) : State where
  vm := { classes := classes, interned := interned.toArray }
  heap := heap
  slotsUsed := slotsUsed
  threads := #[{ frames := .invoking theMethod args0 :: below }]
def below0 : List Frame := [.native { method := ⟨0, 0⟩, args := #[] }]
def about1 : State := aboutOver below0
def p0 : Program := .bare "" "" ""
def e0 : Env := launch0.env 0 0 0
theorem w_frames : about1.frames = Frame.invoking theMethod args0 :: below0 := rfl
set_option maxRecDepth 65536 in
theorem w_args : argsFit about1.vm theMethod args0 = true := by decide +kernel
set_option maxRecDepth 65536 in
theorem w_heap : heapFits about1 = true := by decide +kernel
set_option maxRecDepth 65536 in
theorem w_runnable : about1.curStatus? = some .runnable := by decide +kernel
set_option maxRecDepth 65536 in
theorem w_alone : about1.alone = true := by decide +kernel
set_option maxRecDepth 65536 in
theorem w_named : about1.methodNamed? x = some theMethod := by decide +kernel
set_option maxRecDepth 65536 in
theorem w_hears : about1.hears theMethod below0 = true := by decide +kernel
set_option maxRecDepth 65536 in
theorem w_ripe : about1.ripe theMethod args0 below0 = true := by decide +kernel
theorem w_running : about1.status = .running := rfl
set_option maxRecDepth 65536 in
theorem w_room : about1.hasRoom e0.platform room_1 = true :=
  launch0.hasRoom_least _ room_1 (by decide +kernel) (by decide +kernel) (by decide +kernel) (by decide +kernel) (by decide +kernel) (by decide +kernel)
theorem allAtoms_all (ts : List Jvm.Cond) (a : Array Jvm.Value) (st : Jvm.State) : (allAtoms ts).before a st = ts.all (fun c => c.before a st) := by
  induction ts with
  | nil => rfl
  | cons c t ih =>
    show (Jvm.Cond.and c (allAtoms t)).before a st = _
    rw [Jvm.Cond.before_and, ih, List.all_cons]
def words1 : List Jvm.Cond := Jvm.Cond.code x code maxLocals ret :: tables_1
/-- a 'code' word, met by the world's own term for the bytes: nothing is compared byte by byte -/
theorem code_word {y : MethodName} {bytes : ByteArray} {mx : Nat} {rt : Option FieldType} {a : Array Value} {s : State} {m : MethodId} {meth : Method} {c : Code} (h1 : s.methodNamed? y = some m) (h2 : s.vm.method? m = some meth) (h3 : meth.code = some c) (h4 : c.code = bytes)
    (h5 : (c.maxLocals == mx && c.exceptionTable.isEmpty && decide (c.maxStack ≤ mostOperands) && decide (meth.sig.returnType = rt) && !meth.locks && decide (parseMethodDescriptor y.desc = some meth.sig)) = true) : (Jvm.Cond.code y bytes mx rt).before a s = true := by
  simp only [Bool.and_eq_true, beq_iff_eq, Bool.not_eq_true', decide_eq_true_eq] at h5
  obtain ⟨⟨⟨⟨⟨g1, g2⟩, g3⟩, g4⟩, g5⟩, g6⟩ := h5
  simp [Cond.before, Cond.holds, Cond.value, h1, h2, h3, h4, g1, g2, g3, g4, g5, g6]
def isCode : Jvm.Cond → Bool
  | .code _ _ _ _ => true
  | _ => false
theorem all_split {L : List Jvm.Cond} {P : Jvm.Cond → Bool} (h1 : L.all (fun c => isCode c || P c) = true) (h2 : ∀ c ∈ L.filter isCode, P c = true) : L.all P = true := by
  refine List.all_eq_true.mpr fun c hc => ?_
  have h := List.all_eq_true.mp h1 c hc
  rcases Bool.eq_false_or_eq_true (isCode c) with hi | hi
  · exact h2 c (List.mem_filter.mpr ⟨hc, hi⟩)
  · simpa [hi] using h
set_option maxRecDepth 65536 in
theorem w_c0 : (Jvm.Cond.code x code maxLocals ret).before args0 about1 = true := code_word (m := ⟨1, 1⟩) (meth := k1m1) (c := k1c1) (by decide +kernel) rfl rfl rfl (by decide +kernel)
set_option maxRecDepth 65536 in
theorem w_c1 : (Jvm.Cond.code ({ cls := "com/example/hot_potato/hotpotato/Message$Probe$Sighting", name := "<init>", desc := "(IJII)V" } : Jvm.MethodName) prog_28_method_1_code (6 : Nat) (Option.none : Option Jvm.ClassFile.FieldType)).before args0 about1 = true := code_word (m := ⟨3, 0⟩) (meth := k3m0) (c := k3c0) (by decide +kernel) rfl rfl rfl (by decide +kernel)
set_option maxRecDepth 65536 in
theorem w_c2 : (Jvm.Cond.code ({ cls := "java/lang/Record", name := "<init>", desc := "()V" } : Jvm.MethodName) jdk_30_method_1_code (1 : Nat) (Option.none : Option Jvm.ClassFile.FieldType)).before args0 about1 = true := code_word (m := ⟨2, 0⟩) (meth := k2m0) (c := k2c0) (by decide +kernel) rfl rfl rfl (by decide +kernel)
set_option maxRecDepth 65536 in
theorem w_c3 : (Jvm.Cond.code ({ cls := "java/lang/Object", name := "<init>", desc := "()V" } : Jvm.MethodName) object_method_1_code (1 : Nat) (Option.none : Option Jvm.ClassFile.FieldType)).before args0 about1 = true := code_word (m := ⟨0, 0⟩) (meth := k0m0) (c := k0c0) (by decide +kernel) rfl rfl rfl (by decide +kernel)
set_option maxRecDepth 65536 in
theorem w_c4 : (Jvm.Cond.code ({ cls := "com/example/hot_potato/hotpotato/Message$Probe$Sighting", name := "after", desc := "(Lcom/example/hot_potato/hotpotato/Message$Probe$Sighting;)Z" } : Jvm.MethodName) prog_28_method_2_code (2 : Nat) (Option.some Jvm.ClassFile.FieldType.boolean)).before args0 about1 = true := code_word (m := ⟨3, 1⟩) (meth := k3m1) (c := k3c1) (by decide +kernel) rfl rfl rfl (by decide +kernel)
def codes1 : List Jvm.Cond := [Jvm.Cond.code x code maxLocals ret, Jvm.Cond.code ({ cls := "com/example/hot_potato/hotpotato/Message$Probe$Sighting", name := "<init>", desc := "(IJII)V" } : Jvm.MethodName) prog_28_method_1_code (6 : Nat) (Option.none : Option Jvm.ClassFile.FieldType), Jvm.Cond.code ({ cls := "java/lang/Record", name := "<init>", desc := "()V" } : Jvm.MethodName) jdk_30_method_1_code (1 : Nat) (Option.none : Option Jvm.ClassFile.FieldType), Jvm.Cond.code ({ cls := "java/lang/Object", name := "<init>", desc := "()V" } : Jvm.MethodName) object_method_1_code (1 : Nat) (Option.none : Option Jvm.ClassFile.FieldType), Jvm.Cond.code ({ cls := "com/example/hot_potato/hotpotato/Message$Probe$Sighting", name := "after", desc := "(Lcom/example/hot_potato/hotpotato/Message$Probe$Sighting;)Z" } : Jvm.MethodName) prog_28_method_2_code (2 : Nat) (Option.some Jvm.ClassFile.FieldType.boolean)]
set_option maxRecDepth 65536 in
theorem codes_eq : words1.filter isCode = codes1 := rfl
theorem w_codes : ∀ c ∈ words1.filter isCode, c.before args0 about1 = true := by
  rw [codes_eq]
  intro c hc
  simp only [codes1, List.mem_cons, List.not_mem_nil, or_false] at hc
  rcases hc with rfl | rfl | rfl | rfl | rfl
  · exact w_c0
  · exact w_c1
  · exact w_c2
  · exact w_c3
  · exact w_c4
set_option maxRecDepth 65536 in
theorem w_t1 : (words1.take 24).all (fun c => isCode c || c.before args0 about1) = true := by decide +kernel
set_option maxRecDepth 65536 in
theorem w_t2 : (words1.drop 24).all (fun c => isCode c || c.before args0 about1) = true := by decide +kernel
theorem w_tables : (allAtoms (Jvm.Cond.code x code maxLocals ret :: tables_1)).before args0 about1 = true := by
  rw [allAtoms_all]
  show words1.all (fun c => c.before args0 about1) = true
  refine all_split ?_ w_codes
  rw [← List.take_append_drop 24 words1, List.all_append, w_t1, w_t2]
  rfl
set_option maxRecDepth 65536 in
theorem w_case : (Jvm.Cond.and given_1 narrow_1).before args0 about1 = true := by decide +kernel
theorem w_applies : (headSpec (Jvm.Cond.code x code maxLocals ret :: tables_1) room_1).applies x e0.platform about1 = true :=
  (Spec.applies_iff w_frames).mpr ⟨w_running, w_runnable, w_alone, w_named, w_hears, w_ripe, w_room, w_tables⟩
theorem atStart : AtStart classFile x code maxLocals ret World_1 tables_1 room_1 Calls_1 rest_1 Pre_1 launch0 p0 e0 about1 theMethod args0 below0 :=
  ⟨lists_1, trivial, launch0.admits_env _ _ _, launch0.least_env, fairChoices_fair.cas, fairChoices_fair.clock, w_frames, w_args, w_heap, w_applies, trivial, trivial, w_case⟩
end start1
theorem witness_1 : WitnessClaimed_1 := ⟨start1.p0, start1.e0, start1.about1, start1.theMethod, start1.args0, start1.below0, start1.atStart⟩
end Jvm.Pilot.@@N@@
