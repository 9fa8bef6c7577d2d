import JvmDerived
import JvmDerived.Pilot.@@N@@Statement
import JvmDerived.Pilot.@@N@@Code
set_option linter.unusedVariables false
set_option linter.unusedSimpArgs false
namespace Jvm.Pilot.@@N@@
open Jvm Jvm.ClassFile Sem Op Lib Jvm.Free Jvm.Stand Jvm.LawKit Jvm.RoadKit Bundle Jvm.Pilot.@@N@@.Jvm.D
/-! A walk as one goal: from the state U the run comes to an end that answers Q. -/
section Kit
def Go (p : Program) (e : Env) (below : List Frame) (s : State) (Q : Option Value → Heap → List Loc → Prop) (C N : Nat) (U : State) : Prop :=
  ∃ s₂ o, Steps p.tables e below U s₂ ∧ s₂.status = .running ∧ Ended s₂ below o ∧ ∃ v L, o = .returned v ∧ Q v s₂.heap L ∧ FrameEnd s o s₂ L C N
variable {p : Program} {l : Launch} {e : Env} {R : Room} {s : State} {m : MethodId} {args : Array Value} {below : List Frame} {meth : Method} {c : Code} {T : State} {locs : List Loc} {cells slots : Nat} {Q : Option Value → Heap → List Loc → Prop} {C N : Nat}
theorem gob {U U' : State} (h : ∀ t, Steps p.tables e below U' t → Steps p.tables e below U t) (k : Go p e below s Q C N U') : Go p e below s Q C N U := by
  obtain ⟨s₂, o, h1, r⟩ := k
  exact ⟨s₂, o, h _ h1, r⟩
theorem goZ (X : Stand p l e R s m args below meth c T locs cells slots) (hx : p.tables.exec = Jvm.exec) (hlk : meth.locks = false) {t : FieldType} {pc : Nat} {Ls : Array Slot} {z z' : Int32} {rest : List Value} (hret : meth.sig.returnType = some t) (ht : t = .boolean ∨ t = .byte ∨ t = .char ∨ t = .short) (hd : decode c.code pc = .ok (.ireturn, 1)) (hz : nar t z = z') (hq : Q (some (.int z')) T.heap locs) (hc : cells ≤ C) (hn : slots ≤ N) :
    Go p e below s Q C N (T.setTop (mkF m pc Ls (.int z :: rest))) := by
  subst hz
  obtain ⟨fs, hr, hrun, hended, hW, hsame⟩ := X.leave (v := some (.int (nar t z))) (fun h => by rw [hret] at h; cases h) hlk
  exact ⟨_, _, retN X hx hret ht hd hr, hrun, hended, _, _, rfl, hq, ⟨_, rfl⟩, hW, hsame.mono hc hn⟩
theorem goI (X : Stand p l e R s m args below meth c T locs cells slots) (hx : p.tables.exec = Jvm.exec) (hlk : meth.locks = false) {pc : Nat} {Ls : Array Slot} {z : Int32} {rest : List Value} (hret : meth.sig.returnType = some .int) (hd : decode c.code pc = .ok (.ireturn, 1)) (hq : Q (some (.int z)) T.heap locs) (hc : cells ≤ C) (hn : slots ≤ N) :
    Go p e below s Q C N (T.setTop (mkF m pc Ls (.int z :: rest))) := by
  obtain ⟨fs, hr, hrun, hended, hW, hsame⟩ := X.leave (v := some (.int z)) (fun h => by rw [hret] at h; cases h) hlk
  exact ⟨_, _, retOut X hx hret rfl (Or.inl ⟨rfl, Or.inl rfl, z, rfl⟩) hd hr, hrun, hended, _, _, rfl, hq, ⟨_, rfl⟩, hW, hsame.mono hc hn⟩
theorem goJ (X : Stand p l e R s m args below meth c T locs cells slots) (hx : p.tables.exec = Jvm.exec) (hlk : meth.locks = false) {pc : Nat} {Ls : Array Slot} {z : Int64} {rest : List Value} (hret : meth.sig.returnType = some .long) (hd : decode c.code pc = .ok (.lreturn, 1)) (hq : Q (some (.long z)) T.heap locs) (hc : cells ≤ C) (hn : slots ≤ N) :
    Go p e below s Q C N (T.setTop (mkF m pc Ls (.long z :: rest))) := by
  obtain ⟨fs, hr, hrun, hended, hW, hsame⟩ := X.leave (v := some (.long z)) (fun h => by rw [hret] at h; cases h) hlk
  exact ⟨_, _, retOut X hx hret rfl (Or.inr (Or.inl ⟨rfl, rfl, z, rfl⟩)) hd hr, hrun, hended, _, _, rfl, hq, ⟨_, rfl⟩, hW, hsame.mono hc hn⟩
theorem goD (X : Stand p l e R s m args below meth c T locs cells slots) (hx : p.tables.exec = Jvm.exec) (hlk : meth.locks = false) {pc : Nat} {Ls : Array Slot} {z : UInt64} {rest : List Value} (hret : meth.sig.returnType = some .double) (hd : decode c.code pc = .ok (.dreturn, 1)) (hq : Q (some (.double z)) T.heap locs) (hc : cells ≤ C) (hn : slots ≤ N) :
    Go p e below s Q C N (T.setTop (mkF m pc Ls (.double z :: rest))) := by
  obtain ⟨fs, hr, hrun, hended, hW, hsame⟩ := X.leave (v := some (.double z)) (fun h => by rw [hret] at h; cases h) hlk
  exact ⟨_, _, retOut X hx hret rfl (Or.inr (Or.inr (Or.inl ⟨rfl, rfl, z, rfl⟩))) hd hr, hrun, hended, _, _, rfl, hq, ⟨_, rfl⟩, hW, hsame.mono hc hn⟩
theorem goA (X : Stand p l e R s m args below meth c T locs cells slots) (hx : p.tables.exec = Jvm.exec) (hlk : meth.locks = false) {t : FieldType} {pc : Nat} {Ls : Array Slot} {z : Value} {rest : List Value} (hret : meth.sig.returnType = some t) (ht : t.isReference = true) (hv : z.isRef = true) (hd : decode c.code pc = .ok (.areturn, 1)) (hq : Q (some z) T.heap locs) (hc : cells ≤ C) (hn : slots ≤ N) :
    Go p e below s Q C N (T.setTop (mkF m pc Ls (z :: rest))) := by
  obtain ⟨fs, hr, hrun, hended, hW, hsame⟩ := X.leave (v := some z) (fun h => by rw [hret] at h; cases h) hlk
  have hnw : narrow t z = z := by cases z <;> cases t <;> first | rfl | (simp [Value.isRef] at hv) | (simp [FieldType.isReference] at ht)
  exact ⟨_, _, retOut X hx hret hnw (Or.inr (Or.inr (Or.inr (Or.inr ⟨rfl, ht, hv⟩)))) hd hr, hrun, hended, _, _, rfl, hq, ⟨_, rfl⟩, hW, hsame.mono hc hn⟩
theorem goV (X : Stand p l e R s m args below meth c T locs cells slots) (hx : p.tables.exec = Jvm.exec) (hlk : meth.locks = false) {pc : Nat} {Ls : Array Slot} (hret : meth.sig.returnType = none) (hd : decode c.code pc = .ok (.return_, 1)) (hq : Q none T.heap locs) (hc : cells ≤ C) (hn : slots ≤ N) :
    Go p e below s Q C N (T.setTop (mkF m pc Ls [])) := by
  obtain ⟨fs, hr, hrun, hended, hW, hsame⟩ := X.leave (v := none) (fun _ => rfl) hlk
  exact ⟨_, _, X.returnOut hx hret hd hr, hrun, hended, _, _, rfl, hq, ⟨_, rfl⟩, hW, hsame.mono hc hn⟩
theorem lremM {g : JFrame} {target : State} (X : Stand p l e R s m args below meth c T locs cells slots) (hx : p.tables.exec = Jvm.exec) (hg : g.method = m) {x y : Int64} {rest : List Value} (hd : decode c.code g.pc = .ok (.lrem, 1)) (hs : g.stack = .long y :: .long x :: rest) (hy : y ≠ 0)
    (hr : Steps p.tables e below (T.setTop { g with pc := g.pc + 1, stack := .long (x % y) :: rest }) target) : Steps p.tables e below (T.setTop g) target :=
  XS.lrem X.here hx hg hd hs hy (by rw [lrem_mod x y]; exact hr)
theorem own_lrem (x y : Int64) (d : Int) (hy : y.toInt = d) : (0 ≤ x.toInt → (x % y).toInt = x.toInt % d) ∧ (x.toInt < 0 → (x % y).toInt = -((-x.toInt) % d)) := by rw [Int64.toInt_mod, hy]; exact tr _ _
theorem own_lxor (x y : Int64) (hy : 0 ≤ y.toInt) : ((x ^^^ y).toInt < 0 ↔ x.toInt < 0) := by
  have h1 : (x ^^^ y).toBitVec.msb = (x.toBitVec.msb ^^ y.toBitVec.msb) := by rw [Int64.toBitVec_xor, BitVec.msb_xor]
  have h2 := BitVec.msb_eq_toInt (x := (x ^^^ y).toBitVec)
  have h3 := BitVec.msb_eq_toInt (x := x.toBitVec)
  have h4 := BitVec.msb_eq_toInt (x := y.toBitVec)
  have e1 : (x ^^^ y).toBitVec.toInt = (x ^^^ y).toInt := rfl
  have e2 : x.toBitVec.toInt = x.toInt := rfl
  have e3 : y.toBitVec.toInt = y.toInt := rfl
  rw [e1] at h2
  rw [e2] at h3
  rw [e3] at h4
  have h5 : ¬ y.toInt < 0 := by omega
  rw [h2, h3, h4, decide_eq_false h5, Bool.xor_false] at h1
  simpa using h1
theorem pop2L {g : JFrame} {target : State} (X : Stand p l e R s m args below meth c T locs cells slots) (hx : p.tables.exec = Jvm.exec) (hg : g.method = m) {x : Int64} {rest : List Value} (hd : decode c.code g.pc = .ok (.pop2, 1)) (hs : g.stack = .long x :: rest)
    (hr : Steps p.tables e below (T.setTop { g with pc := g.pc + 1, stack := rest }) target) : Steps p.tables e below (T.setTop g) target := by
  subst hg
  jvm_step X.here [X.here.top, hx, hd, hs, Value.category]
  exact hr
theorem own_staKeep {Z : State} {h h' : Heap} {C n d : String} {v : Value} {ws : List Addr} (F : Sta Z h C n d v) (K : Keep h h' ws) (hn : ∀ x ∈ ws, ∀ cell : Cell, h[x]? = some cell → cell.vm.isStatics = false) : Sta Z h' C n d v := by
  obtain ⟨cf, i, k, f, st, cell, h1, h2, h3, h4, h5, h6, h7⟩ := F
  exact ⟨cf, i, k, f, st, cell, h1, h2, h3, h4, K.2.1 _ _ h5 (fun q => by have q2 := hn _ q _ h5; rw [h6] at q2; cases q2), h6, h7⟩
end Kit

theorem d2_0 : decode jdk_30_method_1_code 0 = .ok (.aload_n 0, 1) := by decide +kernel
theorem d2_1 : decode jdk_30_method_1_code 1 = .ok (.invokespecial 1, 3) := by decide +kernel
theorem d2_4 : decode jdk_30_method_1_code 4 = .ok (.return_, 1) := by decide +kernel
theorem ef_2 (m : MethodId) (x0 : Addr) : entryFrame m #[(.ref x0)] 1 = mkF m 0 #[.val (.ref x0)] [] := by first | (simp [entryFrame, mkF, argsToLocals, Value.category]; done) | rfl
def Q2 (Z : State) (o0 : Addr) (h0 : Heap) (n0 : Nat) (v : Option Value) (h : Heap) (L : List Loc) : Prop := v = none ∧ Fr n0 L ∧ h = h0
set_option maxRecDepth 65536 in
set_option maxHeartbeats 40000000 in
theorem rm2 (l : Launch) (Z : State) (a0 : Array Value) (hw : ∀ d ∈ tables_1, d.before a0 Z = true) (ws : List Jvm.Cond) (o0 : Addr) (h0 : Heap) (n0 : Nat) (Z0 : n0 ≤ h0.size) :
    MetFree l (⟨"java/lang/Record", "<init>", "()V"⟩ : MethodName) (head1 (Jvm.Cond.code (⟨"java/lang/Record", "<init>", "()V"⟩ : MethodName) jdk_30_method_1_code 1 none :: ws) ({ frames := 1, cells := 0, slots := 0, locals := 12 } : Room)) (fun a U => a = #[(.ref o0)] ∧ Z.Warmed39 U.vm ∧ U.heap = h0) (fun _ _ _ _ _ => True) (fun _ U o U' => ∃ v L, o = .returned v ∧ Q2 Z o0 h0 n0 v U'.heap L ∧ FrameEnd U o U' L ({ frames := 1, cells := 0, slots := 0, locals := 12 } : Room).cells ({ frames := 1, cells := 0, slots := 0, locals := 12 } : Room).slots) := by
  refine MetFree.of_bodySF (plainFor_of_name (by first | (simp [plainName, overriddenIn]; done) | decide +kernel)) hisR ?_
  intro p e s m args below meth c s₁ Bd hml0 hP hK
  obtain ⟨rfl, hZ, hh⟩ := hP
  have hx := Bd.exec
  have hby := Bd.bytes
  have hml : c.maxLocals = 1 := hml0
  have hown : s.vm.findClass "java/lang/Record" = some m.cls := findClass_of_methodNamed Bd.named
  have hnm := (name_of_methodNamed Bd.named Bd.method).1
  have hlk := BodyLoose.notSynchronized Bd
  have X0 : Stand p l e ({ frames := 1, cells := 0, slots := 0, locals := 12 } : Room) s m #[(.ref o0)] below meth c s₁ [] 0 0 := Stand.of_body Bd
  have e0 : s₁.heap = h0 := by rw [← hh, Bd.state]; rfl
  have N0 := Fr.nil n0
  show Go p e below s (Q2 Z o0 h0 n0) 0 0 (s₁.setTop (entryFrame m #[(.ref o0)] 1))
  rw [ef_2]
  show Go _ _ _ _ _ _ _ (s₁.setTop (mkF m 0 #[.val (.ref o0)] []))
  refine gob (fun _ k => XS.aloadN X0.here hx rfl (hb hby d2_0) rfl rfl k) ?_
  show Go _ _ _ _ _ _ _ (s₁.setTop (mkF m 1 #[.val (.ref o0)] [(.ref o0)]))
  obtain ⟨T1, X1, e1, st1⟩ := initO X0 hx hZ hown (hw _ (List.mem_of_getElem? (i := 12) rfl)) (hw _ (List.mem_of_getElem? (i := 13) rfl)) (hw _ (List.mem_of_getElem? (i := 14) rfl)) e0 (g := (mkF m 1 #[.val (.ref o0)] [(.ref o0)])) rfl (by rw [hml]; rfl) rfl (hb hby d2_1) (by decide) (W := 0) (by show 2 * 0 + _ ≤ _; exact Nat.le_of_eq rfl) (by decide)
  refine gob st1 ?_
  show Go _ _ _ _ _ _ _ (T1.setTop (mkF m 4 #[.val (.ref o0)] []))
  refine goV X1 hx hlk Bd.returns (hb hby d2_4) ?_ (by decide) (by decide)
  show Q2 Z o0 h0 n0 (none) T1.heap _
  exact ⟨rfl, N0, e1⟩
theorem d1_0 : decode prog_35_method_1_code 0 = .ok (.aload_n 0, 1) := by decide +kernel
theorem d1_1 : decode prog_35_method_1_code 1 = .ok (.invokespecial 1, 3) := by decide +kernel
theorem d1_4 : decode prog_35_method_1_code 4 = .ok (.aload_n 0, 1) := by decide +kernel
theorem d1_5 : decode prog_35_method_1_code 5 = .ok (.iload_n 1, 1) := by decide +kernel
theorem d1_6 : decode prog_35_method_1_code 6 = .ok (.putfield 7, 3) := by decide +kernel
theorem d1_9 : decode prog_35_method_1_code 9 = .ok (.aload_n 0, 1) := by decide +kernel
theorem d1_10 : decode prog_35_method_1_code 10 = .ok (.iload_n 2, 1) := by decide +kernel
theorem d1_11 : decode prog_35_method_1_code 11 = .ok (.putfield 13, 3) := by decide +kernel
theorem d1_14 : decode prog_35_method_1_code 14 = .ok (.return_, 1) := by decide +kernel
theorem pd_0 : parseMethodDescriptor "()V" = some ⟨[], none⟩ := by decide +kernel
theorem ef_1 (m : MethodId) (x0 : Addr) (x1 : Int32) (x2 : Int32) : entryFrame m #[(.ref x0), (.int x1), (.int x2)] 3 = mkF m 0 #[.val (.ref x0), .val (.int x1), .val (.int x2)] [] := by first | (simp [entryFrame, mkF, argsToLocals, Value.category]; done) | rfl
def Q1 (Z : State) (o0 : Addr) (p1 : Int32) (p2 : Int32) (h0 : Heap) (n0 : Nat) (v : Option Value) (h : Heap) (L : List Loc) : Prop := v = none ∧ Fr n0 L ∧ Keep h0 h ([o0] : List Addr) ∧ Fld Z h o0 "com/example/coevolution/coevolution/learn/BCellAlgorithm$Stretch" "first" "I" (.int p1) ∧ Fld Z h o0 "com/example/coevolution/coevolution/learn/BCellAlgorithm$Stretch" "length" "I" (.int p2)
set_option maxRecDepth 65536 in
set_option maxHeartbeats 40000000 in
theorem rm1 (l : Launch) (Z : State) (a0 : Array Value) (hw : ∀ d ∈ tables_1, d.before a0 Z = true) (ws : List Jvm.Cond) (o0 : Addr) (p1 : Int32) (p2 : Int32) (h0 : Heap) (n0 : Nat) (Z0 : n0 ≤ h0.size) (E_o0 : Exa Z h0 o0 "com/example/coevolution/coevolution/learn/BCellAlgorithm$Stretch") (F_first_o0 : Fld Z h0 o0 "com/example/coevolution/coevolution/learn/BCellAlgorithm$Stretch" "first" "I" (.int (0 : Int32))) (g_o0 : n0 ≤ o0) (F_length_o0 : Fld Z h0 o0 "com/example/coevolution/coevolution/learn/BCellAlgorithm$Stretch" "length" "I" (.int (0 : Int32))) :
    MetFree l (⟨"com/example/coevolution/coevolution/learn/BCellAlgorithm$Stretch", "<init>", "(II)V"⟩ : MethodName) (head1 (Jvm.Cond.code (⟨"com/example/coevolution/coevolution/learn/BCellAlgorithm$Stretch", "<init>", "(II)V"⟩ : MethodName) prog_35_method_1_code 3 none :: ws) ({ frames := 2, cells := 0, slots := 0, locals := 24 } : Room)) (fun a U => a = #[(.ref o0), (.int p1), (.int p2)] ∧ Z.Warmed39 U.vm ∧ U.heap = h0) (fun _ _ _ _ _ => True) (fun _ U o U' => ∃ v L, o = .returned v ∧ Q1 Z o0 p1 p2 h0 n0 v U'.heap L ∧ FrameEnd U o U' L ({ frames := 2, cells := 0, slots := 0, locals := 24 } : Room).cells ({ frames := 2, cells := 0, slots := 0, locals := 24 } : Room).slots) := by
  refine MetFree.of_bodySF (plainFor_of_name (by first | (simp [plainName, overriddenIn]; done) | decide +kernel)) hisR ?_
  intro p e s m args below meth c s₁ Bd hml0 hP hK
  obtain ⟨rfl, hZ, hh⟩ := hP
  have hx := Bd.exec
  have hby := Bd.bytes
  have hml : c.maxLocals = 3 := hml0
  have hown : s.vm.findClass "com/example/coevolution/coevolution/learn/BCellAlgorithm$Stretch" = some m.cls := findClass_of_methodNamed Bd.named
  have hnm := (name_of_methodNamed Bd.named Bd.method).1
  have hlk := BodyLoose.notSynchronized Bd
  have X0 : Stand p l e ({ frames := 2, cells := 0, slots := 0, locals := 24 } : Room) s m #[(.ref o0), (.int p1), (.int p2)] below meth c s₁ [] 0 0 := Stand.of_body Bd
  have e0 : s₁.heap = h0 := by rw [← hh, Bd.state]; rfl
  have N0 := Fr.nil n0
  show Go p e below s (Q1 Z o0 p1 p2 h0 n0) 0 0 (s₁.setTop (entryFrame m #[(.ref o0), (.int p1), (.int p2)] 3))
  rw [ef_1]
  show Go _ _ _ _ _ _ _ (s₁.setTop (mkF m 0 #[.val (.ref o0), .val (.int p1), .val (.int p2)] []))
  refine gob (fun _ k => XS.aloadN X0.here hx rfl (hb hby d1_0) rfl rfl k) ?_
  show Go _ _ _ _ _ _ _ (s₁.setTop (mkF m 1 #[.val (.ref o0), .val (.int p1), .val (.int p2)] [(.ref o0)]))
  obtain ⟨_, _, ⟨T1, L1, k1, n1⟩, -, X1, ⟨Lc1, hQ1, l1, y1, z1⟩, st1⟩ := X0.specialBack hx (y := (⟨"java/lang/Record", "<init>", "()V"⟩ : MethodName)) rfl hown (mvT hZ (hw _ (List.mem_of_getElem? (i := 7) rfl))) (mvT hZ (hw _ (List.mem_of_getElem? (i := 8) rfl))) (mvT hZ (hw _ (List.mem_of_getElem? (i := 11) rfl))) (by decide) (backOf (W := 0) (rm2 l Z a0 hw [] o0 h0 n0 Z0 ) hZ (hw _ (List.mem_of_getElem? (i := 11) rfl)) (hw _ (List.mem_of_getElem? (i := 10) rfl)) (by decide) (by decide)) (g := (mkF m 1 #[.val (.ref o0), .val (.int p1), .val (.int p2)] [(.ref o0)])) rfl (by rw [hml]; rfl) (Steps.refl _) (a := o0) (argsL := []) (rest := []) (lenOf pd_0 rfl) rfl (by show 2 * 0 + _ ≤ _; exact Nat.le_of_eq rfl) (hb hby d1_1) (fun _ _ => ⟨rfl, e0, (by decide : 0 + 0 ≤ _), (by decide : 0 + 0 ≤ _)⟩)
  dsimp only [Pt.U, Pt.locs, Pt.cells, Pt.slots] at X1 l1 y1 z1 st1 hQ1
  subst l1 y1 z1
  obtain ⟨rfl, Nq1, e1⟩ := hQ1
  have N1 := Fr.app N0 Nq1
  refine gob (fun _ k => st1.trans k) ?_
  show Go _ _ _ _ _ _ _ (T1.setTop (mkF m 4 #[.val (.ref o0), .val (.int p1), .val (.int p2)] []))
  refine gob (fun _ k => XS.aloadN X1.here hx rfl (hb hby d1_4) rfl rfl k) ?_
  show Go _ _ _ _ _ _ _ (T1.setTop (mkF m 5 #[.val (.ref o0), .val (.int p1), .val (.int p2)] [(.ref o0)]))
  refine gob (fun _ k => XS.iloadN X1.here hx rfl (hb hby d1_5) rfl k) ?_
  show Go _ _ _ _ _ _ _ (T1.setTop (mkF m 6 #[.val (.ref o0), .val (.int p1), .val (.int p2)] [(.int p1), (.ref o0)]))
  obtain ⟨T2, h2, X2, e2, W2, st2⟩ := putF X1 hx hZ hown (host := "") (Or.inl (hw _ (List.mem_of_getElem? (i := 15) rfl))) Via.refl e1 F_first_o0 E_o0 (Or.inr ⟨(hw _ (List.mem_of_getElem? (i := 16) rfl)), rfl, hnm⟩) (hw _ (List.mem_of_getElem? (i := 2) rfl)) (ty := .int) (by decide) rfl rfl (g := (mkF m 6 #[.val (.ref o0), .val (.int p1), .val (.int p2)] [(.int p1), (.ref o0)])) rfl rfl (hb hby d1_6)
  refine gob st2 ?_
  have z3 : n0 ≤ h2.size := Nat.le_trans Z0 (Keep.of_wr W2).1
  have N2 := Fr.snoc X2 N1 g_o0
  have K4 : Keep h0 h2 ([o0] : List Addr) := (Keep.refl h0 ([o0] : List Addr)).wr W2 (Or.inl (List.mem_of_getElem? (i := 0) rfl))
  have Fw2 := F_first_o0.same W2
  show Go _ _ _ _ _ _ _ (T2.setTop (mkF m 9 #[.val (.ref o0), .val (.int p1), .val (.int p2)] []))
  refine gob (fun _ k => XS.aloadN X2.here hx rfl (hb hby d1_9) rfl rfl k) ?_
  show Go _ _ _ _ _ _ _ (T2.setTop (mkF m 10 #[.val (.ref o0), .val (.int p1), .val (.int p2)] [(.ref o0)]))
  refine gob (fun _ k => XS.iloadN X2.here hx rfl (hb hby d1_10) rfl k) ?_
  show Go _ _ _ _ _ _ _ (T2.setTop (mkF m 11 #[.val (.ref o0), .val (.int p1), .val (.int p2)] [(.int p2), (.ref o0)]))
  have c5 := (F_length_o0.other W2 (Or.inr (slot_ne (Or.inr (hw _ (List.mem_of_getElem? (i := 18) rfl))) (Or.inr (hw _ (List.mem_of_getElem? (i := 16) rfl))) (by decide) (t := .int) (t' := .int) (by decide) (by decide))))
  have c6 := (E_o0.wr W2)
  obtain ⟨T7, h7, X7, e7, W7, st7⟩ := putF X2 hx hZ hown (host := "") (Or.inl (hw _ (List.mem_of_getElem? (i := 17) rfl))) Via.refl e2 c5 c6 (Or.inr ⟨(hw _ (List.mem_of_getElem? (i := 18) rfl)), rfl, hnm⟩) (hw _ (List.mem_of_getElem? (i := 2) rfl)) (ty := .int) (by decide) rfl rfl (g := (mkF m 11 #[.val (.ref o0), .val (.int p1), .val (.int p2)] [(.int p2), (.ref o0)])) rfl rfl (hb hby d1_11)
  refine gob st7 ?_
  have z8 : n0 ≤ h7.size := Nat.le_trans z3 (Keep.of_wr W7).1
  have N7 := Fr.snoc X7 N2 g_o0
  have K9 : Keep h0 h7 ([o0] : List Addr) := K4.wr W7 (Or.inl (List.mem_of_getElem? (i := 0) rfl))
  have Fw7 := c5.same W7
  show Go _ _ _ _ _ _ _ (T7.setTop (mkF m 14 #[.val (.ref o0), .val (.int p1), .val (.int p2)] []))
  refine goV X7 hx hlk Bd.returns (hb hby d1_14) ?_ (by decide) (by decide)
  show Q1 Z o0 p1 p2 h0 n0 (none) T7.heap _
  have c10 := (Fw2.other W7 (Or.inr (slot_ne (Or.inr (hw _ (List.mem_of_getElem? (i := 16) rfl))) (Or.inr (hw _ (List.mem_of_getElem? (i := 18) rfl))) (by decide) (t := .int) (t' := .int) (by decide) (by decide))))
  rw [e7]
  exact ⟨rfl, N7, K9, c10, Fw7⟩
theorem d4_0 : decode prog_35_method_2_code 0 = .ok (.iload_n 1, 1) := by decide +kernel
theorem d4_1 : decode prog_35_method_2_code 1 = .ok (.aload_n 0, 1) := by decide +kernel
theorem d4_2 : decode prog_35_method_2_code 2 = .ok (.getfield 7, 3) := by decide +kernel
theorem d4_5 : decode prog_35_method_2_code 5 = .ok (.if_icmp .lt 20, 3) := by decide +kernel
theorem d4_8 : decode prog_35_method_2_code 8 = .ok (.iload_n 1, 1) := by decide +kernel
theorem d4_9 : decode prog_35_method_2_code 9 = .ok (.aload_n 0, 1) := by decide +kernel
theorem d4_10 : decode prog_35_method_2_code 10 = .ok (.getfield 7, 3) := by decide +kernel
theorem d4_13 : decode prog_35_method_2_code 13 = .ok (.aload_n 0, 1) := by decide +kernel
theorem d4_14 : decode prog_35_method_2_code 14 = .ok (.getfield 13, 3) := by decide +kernel
theorem d4_17 : decode prog_35_method_2_code 17 = .ok (.iadd, 1) := by decide +kernel
theorem d4_18 : decode prog_35_method_2_code 18 = .ok (.if_icmp .ge 7, 3) := by decide +kernel
theorem d4_21 : decode prog_35_method_2_code 21 = .ok (.iconst 1, 1) := by decide +kernel
theorem d4_22 : decode prog_35_method_2_code 22 = .ok (.goto 4, 3) := by decide +kernel
theorem d4_25 : decode prog_35_method_2_code 25 = .ok (.iconst 0, 1) := by decide +kernel
theorem d4_26 : decode prog_35_method_2_code 26 = .ok (.ireturn, 1) := by decide +kernel
theorem ef_4 (m : MethodId) (x0 : Addr) (x1 : Int32) : entryFrame m #[(.ref x0), (.int x1)] 2 = mkF m 0 #[.val (.ref x0), .val (.int x1)] [] := by first | (simp [entryFrame, mkF, argsToLocals, Value.category]; done) | rfl
def Q4 (Z : State) (o0 : Addr) (p1 : Int32) (w1 : Int32) (w5 : Int32) (h0 : Heap) (n0 : Nat) (v : Option Value) (h : Heap) (L : List Loc) : Prop := ∃ r : Int32, v = some (.int r) ∧ ((p1 < w1 ∧ r = (0 : Int32)) ∨ (¬ (p1 < w1) ∧ p1 < (w1 + w5) ∧ r = (1 : Int32)) ∨ (¬ (p1 < w1) ∧ ¬ (p1 < (w1 + w5)) ∧ r = (0 : Int32))) ∧ Fr n0 L ∧ h = h0
set_option maxRecDepth 65536 in
set_option maxHeartbeats 40000000 in
theorem rm4 (l : Launch) (Z : State) (a0 : Array Value) (hw : ∀ d ∈ tables_1, d.before a0 Z = true) (ws : List Jvm.Cond) (o0 : Addr) (p1 : Int32) (w1 : Int32) (w5 : Int32) (h0 : Heap) (n0 : Nat) (Z0 : n0 ≤ h0.size) (F_first_o0 : Fld Z h0 o0 "com/example/coevolution/coevolution/learn/BCellAlgorithm$Stretch" "first" "I" (.int w1)) (F_length_o0 : Fld Z h0 o0 "com/example/coevolution/coevolution/learn/BCellAlgorithm$Stretch" "length" "I" (.int w5)) :
    MetFree l (⟨"com/example/coevolution/coevolution/learn/BCellAlgorithm$Stretch", "contains", "(I)Z"⟩ : MethodName) (head1 (Jvm.Cond.code (⟨"com/example/coevolution/coevolution/learn/BCellAlgorithm$Stretch", "contains", "(I)Z"⟩ : MethodName) prog_35_method_2_code 2 (some .boolean) :: ws) ({ frames := 0, cells := 0, slots := 0, locals := 0 } : Room)) (fun a U => a = #[(.ref o0), (.int p1)] ∧ Z.Warmed39 U.vm ∧ U.heap = h0) (fun _ _ _ _ _ => True) (fun _ U o U' => ∃ v L, o = .returned v ∧ Q4 Z o0 p1 w1 w5 h0 n0 v U'.heap L ∧ FrameEnd U o U' L ({ frames := 0, cells := 0, slots := 0, locals := 0 } : Room).cells ({ frames := 0, cells := 0, slots := 0, locals := 0 } : Room).slots) := by
  refine MetFree.of_bodySF (plainFor_of_name (by first | (simp [plainName, overriddenIn]; done) | decide +kernel)) hisR ?_
  intro p e s m args below meth c s₁ Bd hml0 hP hK
  obtain ⟨rfl, hZ, hh⟩ := hP
  have hx := Bd.exec
  have hby := Bd.bytes
  have hml : c.maxLocals = 2 := hml0
  have hown : s.vm.findClass "com/example/coevolution/coevolution/learn/BCellAlgorithm$Stretch" = some m.cls := findClass_of_methodNamed Bd.named
  have hnm := (name_of_methodNamed Bd.named Bd.method).1
  have hlk := BodyLoose.notSynchronized Bd
  have X0 : Stand p l e ({ frames := 0, cells := 0, slots := 0, locals := 0 } : Room) s m #[(.ref o0), (.int p1)] below meth c s₁ [] 0 0 := Stand.of_body Bd
  have e0 : s₁.heap = h0 := by rw [← hh, Bd.state]; rfl
  have N0 := Fr.nil n0
  show Go p e below s (Q4 Z o0 p1 w1 w5 h0 n0) 0 0 (s₁.setTop (entryFrame m #[(.ref o0), (.int p1)] 2))
  rw [ef_4]
  show Go _ _ _ _ _ _ _ (s₁.setTop (mkF m 0 #[.val (.ref o0), .val (.int p1)] []))
  refine gob (fun _ k => XS.iloadN X0.here hx rfl (hb hby d4_0) rfl k) ?_
  show Go _ _ _ _ _ _ _ (s₁.setTop (mkF m 1 #[.val (.ref o0), .val (.int p1)] [(.int p1)]))
  refine gob (fun _ k => XS.aloadN X0.here hx rfl (hb hby d4_1) rfl rfl k) ?_
  show Go _ _ _ _ _ _ _ (s₁.setTop (mkF m 2 #[.val (.ref o0), .val (.int p1)] [(.ref o0), (.int p1)]))
  obtain ⟨T2, X2, e2, st2⟩ := getF X0 hx hZ hown (host := "") (Or.inl (hw _ (List.mem_of_getElem? (i := 15) rfl))) Via.refl e0 F_first_o0 (g := (mkF m 2 #[.val (.ref o0), .val (.int p1)] [(.ref o0), (.int p1)])) rfl rfl (hb hby d4_2)
  refine gob st2 ?_
  show Go _ _ _ _ _ _ _ (T2.setTop (mkF m 5 #[.val (.ref o0), .val (.int p1)] [(.int w1), (.int p1)]))
  by_cases hc5_3 : p1 < w1
  · skip
    refine gob (fun _ k => XS.icmpYes X2.here hx rfl (pc0 := 5) (pc' := 25) rfl (hb hby d4_5) rfl (tlt hc5_3).1 (by decide) (by decide) k) ?_
    show Go _ _ _ _ _ _ _ (T2.setTop (mkF m 25 #[.val (.ref o0), .val (.int p1)] []))
    refine gob (fun _ k => XS.iconst X2.here hx rfl (hb hby d4_25) k) ?_
    show Go _ _ _ _ _ _ _ (T2.setTop (mkF m 26 #[.val (.ref o0), .val (.int p1)] [(.int (0 : Int32))]))
    refine goZ X2 hx hlk (t := .boolean) Bd.returns (by simp) (hb hby d4_26) (z' := (0 : Int32)) rfl ?_ (by decide) (by decide)
    show Q4 Z o0 p1 w1 w5 h0 n0 (some (.int (0 : Int32))) T2.heap _
    exact ⟨(0 : Int32), rfl, (Or.inl ⟨hc5_3, rfl⟩), N0, e2⟩
  · skip
    refine gob (fun _ k => XS.icmpNo X2.here hx rfl (hb hby d4_5) rfl (flt hc5_3).1 k) ?_
    show Go _ _ _ _ _ _ _ (T2.setTop (mkF m 8 #[.val (.ref o0), .val (.int p1)] []))
    refine gob (fun _ k => XS.iloadN X2.here hx rfl (hb hby d4_8) rfl k) ?_
    show Go _ _ _ _ _ _ _ (T2.setTop (mkF m 9 #[.val (.ref o0), .val (.int p1)] [(.int p1)]))
    refine gob (fun _ k => XS.aloadN X2.here hx rfl (hb hby d4_9) rfl rfl k) ?_
    show Go _ _ _ _ _ _ _ (T2.setTop (mkF m 10 #[.val (.ref o0), .val (.int p1)] [(.ref o0), (.int p1)]))
    obtain ⟨T4, X4, e4, st4⟩ := getF X2 hx hZ hown (host := "") (Or.inl (hw _ (List.mem_of_getElem? (i := 15) rfl))) Via.refl e2 F_first_o0 (g := (mkF m 10 #[.val (.ref o0), .val (.int p1)] [(.ref o0), (.int p1)])) rfl rfl (hb hby d4_10)
    refine gob st4 ?_
    show Go _ _ _ _ _ _ _ (T4.setTop (mkF m 13 #[.val (.ref o0), .val (.int p1)] [(.int w1), (.int p1)]))
    refine gob (fun _ k => XS.aloadN X4.here hx rfl (hb hby d4_13) rfl rfl k) ?_
    show Go _ _ _ _ _ _ _ (T4.setTop (mkF m 14 #[.val (.ref o0), .val (.int p1)] [(.ref o0), (.int w1), (.int p1)]))
    obtain ⟨T6, X6, e6, st6⟩ := getF X4 hx hZ hown (host := "") (Or.inl (hw _ (List.mem_of_getElem? (i := 17) rfl))) Via.refl e4 F_length_o0 (g := (mkF m 14 #[.val (.ref o0), .val (.int p1)] [(.ref o0), (.int w1), (.int p1)])) rfl rfl (hb hby d4_14)
    refine gob st6 ?_
    show Go _ _ _ _ _ _ _ (T6.setTop (mkF m 17 #[.val (.ref o0), .val (.int p1)] [(.int w5), (.int w1), (.int p1)]))
    refine gob (fun _ k => XS.iadd X6.here hx rfl (hb hby d4_17) rfl k) ?_
    show Go _ _ _ _ _ _ _ (T6.setTop (mkF m 18 #[.val (.ref o0), .val (.int p1)] [(.int (w1 + w5)), (.int p1)]))
    by_cases hc18_7 : p1 < (w1 + w5)
    · skip
      refine gob (fun _ k => XS.icmpNo X6.here hx rfl (hb hby d4_18) rfl (tlt hc18_7).2.1 k) ?_
      show Go _ _ _ _ _ _ _ (T6.setTop (mkF m 21 #[.val (.ref o0), .val (.int p1)] []))
      refine gob (fun _ k => XS.iconst X6.here hx rfl (hb hby d4_21) k) ?_
      show Go _ _ _ _ _ _ _ (T6.setTop (mkF m 22 #[.val (.ref o0), .val (.int p1)] [(.int (1 : Int32))]))
      refine gob (fun _ k => XS.goto X6.here hx rfl (pc0 := 22) (pc' := 26) rfl (hb hby d4_22) (by decide) (by decide) k) ?_
      show Go _ _ _ _ _ _ _ (T6.setTop (mkF m 26 #[.val (.ref o0), .val (.int p1)] [(.int (1 : Int32))]))
      refine goZ X6 hx hlk (t := .boolean) Bd.returns (by simp) (hb hby d4_26) (z' := (1 : Int32)) rfl ?_ (by decide) (by decide)
      show Q4 Z o0 p1 w1 w5 h0 n0 (some (.int (1 : Int32))) T6.heap _
      exact ⟨(1 : Int32), rfl, (Or.inr (Or.inl ⟨hc5_3, hc18_7, rfl⟩)), N0, e6⟩
    · skip
      refine gob (fun _ k => XS.icmpYes X6.here hx rfl (pc0 := 18) (pc' := 25) rfl (hb hby d4_18) rfl (flt hc18_7).2.1 (by decide) (by decide) k) ?_
      show Go _ _ _ _ _ _ _ (T6.setTop (mkF m 25 #[.val (.ref o0), .val (.int p1)] []))
      refine gob (fun _ k => XS.iconst X6.here hx rfl (hb hby d4_25) k) ?_
      show Go _ _ _ _ _ _ _ (T6.setTop (mkF m 26 #[.val (.ref o0), .val (.int p1)] [(.int (0 : Int32))]))
      refine goZ X6 hx hlk (t := .boolean) Bd.returns (by simp) (hb hby d4_26) (z' := (0 : Int32)) rfl ?_ (by decide) (by decide)
      show Q4 Z o0 p1 w1 w5 h0 n0 (some (.int (0 : Int32))) T6.heap _
      exact ⟨(0 : Int32), rfl, (Or.inr (Or.inr ⟨hc5_3, hc18_7, rfl⟩)), N0, e6⟩
theorem d5_0 : decode method_2_code 0 = .ok (.iload_n 2, 1) := by decide +kernel
theorem d5_1 : decode method_2_code 1 = .ok (.i2l, 1) := by decide +kernel
theorem d5_2 : decode method_2_code 2 = .ok (.iload_n 0, 1) := by decide +kernel
theorem d5_3 : decode method_2_code 3 = .ok (.i2l, 1) := by decide +kernel
theorem d5_4 : decode method_2_code 4 = .ok (.lsub, 1) := by decide +kernel
theorem d5_5 : decode method_2_code 5 = .ok (.lstore_n 3, 1) := by decide +kernel
theorem d5_6 : decode method_2_code 6 = .ok (.lload_n 3, 1) := by decide +kernel
theorem d5_7 : decode method_2_code 7 = .ok (.lconst 0, 1) := by decide +kernel
theorem d5_8 : decode method_2_code 8 = .ok (.lcmp, 1) := by decide +kernel
theorem d5_9 : decode method_2_code 9 = .ok (.ifCond .lt 14, 3) := by decide +kernel
theorem d5_12 : decode method_2_code 12 = .ok (.lload_n 3, 1) := by decide +kernel
theorem d5_13 : decode method_2_code 13 = .ok (.iload_n 1, 1) := by decide +kernel
theorem d5_14 : decode method_2_code 14 = .ok (.i2l, 1) := by decide +kernel
theorem d5_15 : decode method_2_code 15 = .ok (.lcmp, 1) := by decide +kernel
theorem d5_16 : decode method_2_code 16 = .ok (.ifCond .ge 7, 3) := by decide +kernel
theorem d5_19 : decode method_2_code 19 = .ok (.iconst 1, 1) := by decide +kernel
theorem d5_20 : decode method_2_code 20 = .ok (.goto 4, 3) := by decide +kernel
theorem d5_23 : decode method_2_code 23 = .ok (.iconst 0, 1) := by decide +kernel
theorem d5_24 : decode method_2_code 24 = .ok (.ireturn, 1) := by decide +kernel
theorem ef_5 (m : MethodId) (x0 : Int32) (x1 : Int32) (x2 : Int32) : entryFrame m #[(.int x0), (.int x1), (.int x2)] 5 = mkF m 0 #[.val (.int x0), .val (.int x1), .val (.int x2), .unset, .unset] [] := by first | (simp [entryFrame, mkF, argsToLocals, Value.category]; done) | rfl
def Q5 (Z : State) (p0 : Int32) (p1 : Int32) (p2 : Int32) (h0 : Heap) (n0 : Nat) (v : Option Value) (h : Heap) (L : List Loc) : Prop := ∃ r : Int32, v = some (.int r) ∧ ((((p2.toInt64) - (p0.toInt64)) < (0 : Int64) ∧ r = (0 : Int32)) ∨ (¬ (((p2.toInt64) - (p0.toInt64)) < (0 : Int64)) ∧ ((p2.toInt64) - (p0.toInt64)) < (p1.toInt64) ∧ r = (1 : Int32)) ∨ (¬ (((p2.toInt64) - (p0.toInt64)) < (0 : Int64)) ∧ ¬ (((p2.toInt64) - (p0.toInt64)) < (p1.toInt64)) ∧ r = (0 : Int32))) ∧ Fr n0 L ∧ h = h0
set_option maxRecDepth 65536 in
set_option maxHeartbeats 40000000 in
theorem rm5 (l : Launch) (Z : State) (a0 : Array Value) (hw : ∀ d ∈ tables_1, d.before a0 Z = true) (ws : List Jvm.Cond) (p0 : Int32) (p1 : Int32) (p2 : Int32) (h0 : Heap) (n0 : Nat) (Z0 : n0 ≤ h0.size) :
    MetFree l (⟨"com/example/coevolution/coevolution/learn/BCellAlgorithmContainsPinLaw", "inside", "(III)Z"⟩ : MethodName) (head1 (Jvm.Cond.code (⟨"com/example/coevolution/coevolution/learn/BCellAlgorithmContainsPinLaw", "inside", "(III)Z"⟩ : MethodName) method_2_code 5 (some .boolean) :: ws) ({ frames := 0, cells := 0, slots := 0, locals := 0 } : Room)) (fun a U => a = #[(.int p0), (.int p1), (.int p2)] ∧ Z.Warmed39 U.vm ∧ U.heap = h0) (fun _ _ _ _ _ => True) (fun _ U o U' => ∃ v L, o = .returned v ∧ Q5 Z p0 p1 p2 h0 n0 v U'.heap L ∧ FrameEnd U o U' L ({ frames := 0, cells := 0, slots := 0, locals := 0 } : Room).cells ({ frames := 0, cells := 0, slots := 0, locals := 0 } : Room).slots) := by
  refine MetFree.of_bodySF (plainFor_of_name (by first | (simp [plainName, overriddenIn]; done) | decide +kernel)) hisR ?_
  intro p e s m args below meth c s₁ Bd hml0 hP hK
  obtain ⟨rfl, hZ, hh⟩ := hP
  have hx := Bd.exec
  have hby := Bd.bytes
  have hml : c.maxLocals = 5 := hml0
  have hown : s.vm.findClass "com/example/coevolution/coevolution/learn/BCellAlgorithmContainsPinLaw" = some m.cls := findClass_of_methodNamed Bd.named
  have hnm := (name_of_methodNamed Bd.named Bd.method).1
  have hlk := BodyLoose.notSynchronized Bd
  have X0 : Stand p l e ({ frames := 0, cells := 0, slots := 0, locals := 0 } : Room) s m #[(.int p0), (.int p1), (.int p2)] below meth c s₁ [] 0 0 := Stand.of_body Bd
  have e0 : s₁.heap = h0 := by rw [← hh, Bd.state]; rfl
  have N0 := Fr.nil n0
  show Go p e below s (Q5 Z p0 p1 p2 h0 n0) 0 0 (s₁.setTop (entryFrame m #[(.int p0), (.int p1), (.int p2)] 5))
  rw [ef_5]
  show Go _ _ _ _ _ _ _ (s₁.setTop (mkF m 0 #[.val (.int p0), .val (.int p1), .val (.int p2), .unset, .unset] []))
  refine gob (fun _ k => XS.iloadN X0.here hx rfl (hb hby d5_0) rfl k) ?_
  show Go _ _ _ _ _ _ _ (s₁.setTop (mkF m 1 #[.val (.int p0), .val (.int p1), .val (.int p2), .unset, .unset] [(.int p2)]))
  refine gob (fun _ k => XS.i2l X0.here hx rfl (hb hby d5_1) rfl k) ?_
  show Go _ _ _ _ _ _ _ (s₁.setTop (mkF m 2 #[.val (.int p0), .val (.int p1), .val (.int p2), .unset, .unset] [(.long (p2.toInt64))]))
  refine gob (fun _ k => XS.iloadN X0.here hx rfl (hb hby d5_2) rfl k) ?_
  show Go _ _ _ _ _ _ _ (s₁.setTop (mkF m 3 #[.val (.int p0), .val (.int p1), .val (.int p2), .unset, .unset] [(.int p0), (.long (p2.toInt64))]))
  refine gob (fun _ k => XS.i2l X0.here hx rfl (hb hby d5_3) rfl k) ?_
  show Go _ _ _ _ _ _ _ (s₁.setTop (mkF m 4 #[.val (.int p0), .val (.int p1), .val (.int p2), .unset, .unset] [(.long (p0.toInt64)), (.long (p2.toInt64))]))
  refine gob (fun _ k => XS.lsub X0.here hx rfl (hb hby d5_4) rfl k) ?_
  show Go _ _ _ _ _ _ _ (s₁.setTop (mkF m 5 #[.val (.int p0), .val (.int p1), .val (.int p2), .unset, .unset] [(.long ((p2.toInt64) - (p0.toInt64)))]))
  refine gob (fun _ k => XS.lstoreN X0.here hx rfl (hb hby d5_5) rfl (l' := #[.val (.int p0), .val (.int p1), .val (.int p2), .val (.long ((p2.toInt64) - (p0.toInt64))), .second]) rfl k) ?_
  show Go _ _ _ _ _ _ _ (s₁.setTop (mkF m 6 #[.val (.int p0), .val (.int p1), .val (.int p2), .val (.long ((p2.toInt64) - (p0.toInt64))), .second] []))
  refine gob (fun _ k => XS.lloadN X0.here hx rfl (hb hby d5_6) rfl k) ?_
  show Go _ _ _ _ _ _ _ (s₁.setTop (mkF m 7 #[.val (.int p0), .val (.int p1), .val (.int p2), .val (.long ((p2.toInt64) - (p0.toInt64))), .second] [(.long ((p2.toInt64) - (p0.toInt64)))]))
  refine gob (fun _ k => XS.lconst X0.here hx rfl (hb hby d5_7) k) ?_
  show Go _ _ _ _ _ _ _ (s₁.setTop (mkF m 8 #[.val (.int p0), .val (.int p1), .val (.int p2), .val (.long ((p2.toInt64) - (p0.toInt64))), .second] [(.long (0 : Int64)), (.long ((p2.toInt64) - (p0.toInt64)))]))
  refine gob (fun _ k => XS.lcmp X0.here hx rfl (hb hby d5_8) rfl k) ?_
  show Go _ _ _ _ _ _ _ (s₁.setTop (mkF m 9 #[.val (.int p0), .val (.int p1), .val (.int p2), .val (.long ((p2.toInt64) - (p0.toInt64))), .second] [(.int (lcmpW ((p2.toInt64) - (p0.toInt64)) (0 : Int64)))]))
  by_cases hc9_1 : ((p2.toInt64) - (p0.toInt64)) < (0 : Int64)
  · skip
    refine gob (fun _ k => XS.ifYes X0.here hx rfl (pc0 := 9) (pc' := 23) rfl (hb hby d5_9) rfl ((if0 _ _).trans (tlt ((lw_lt _ _).mpr hc9_1)).1) (by decide) (by decide) k) ?_
    show Go _ _ _ _ _ _ _ (s₁.setTop (mkF m 23 #[.val (.int p0), .val (.int p1), .val (.int p2), .val (.long ((p2.toInt64) - (p0.toInt64))), .second] []))
    refine gob (fun _ k => XS.iconst X0.here hx rfl (hb hby d5_23) k) ?_
    show Go _ _ _ _ _ _ _ (s₁.setTop (mkF m 24 #[.val (.int p0), .val (.int p1), .val (.int p2), .val (.long ((p2.toInt64) - (p0.toInt64))), .second] [(.int (0 : Int32))]))
    refine goZ X0 hx hlk (t := .boolean) Bd.returns (by simp) (hb hby d5_24) (z' := (0 : Int32)) rfl ?_ (by decide) (by decide)
    show Q5 Z p0 p1 p2 h0 n0 (some (.int (0 : Int32))) s₁.heap _
    exact ⟨(0 : Int32), rfl, (Or.inl ⟨hc9_1, rfl⟩), N0, e0⟩
  · skip
    refine gob (fun _ k => XS.ifNo X0.here hx rfl (hb hby d5_9) rfl ((if0 _ _).trans (flt (mt (lw_lt _ _).mp hc9_1)).1) k) ?_
    show Go _ _ _ _ _ _ _ (s₁.setTop (mkF m 12 #[.val (.int p0), .val (.int p1), .val (.int p2), .val (.long ((p2.toInt64) - (p0.toInt64))), .second] []))
    refine gob (fun _ k => XS.lloadN X0.here hx rfl (hb hby d5_12) rfl k) ?_
    show Go _ _ _ _ _ _ _ (s₁.setTop (mkF m 13 #[.val (.int p0), .val (.int p1), .val (.int p2), .val (.long ((p2.toInt64) - (p0.toInt64))), .second] [(.long ((p2.toInt64) - (p0.toInt64)))]))
    refine gob (fun _ k => XS.iloadN X0.here hx rfl (hb hby d5_13) rfl k) ?_
    show Go _ _ _ _ _ _ _ (s₁.setTop (mkF m 14 #[.val (.int p0), .val (.int p1), .val (.int p2), .val (.long ((p2.toInt64) - (p0.toInt64))), .second] [(.int p1), (.long ((p2.toInt64) - (p0.toInt64)))]))
    refine gob (fun _ k => XS.i2l X0.here hx rfl (hb hby d5_14) rfl k) ?_
    show Go _ _ _ _ _ _ _ (s₁.setTop (mkF m 15 #[.val (.int p0), .val (.int p1), .val (.int p2), .val (.long ((p2.toInt64) - (p0.toInt64))), .second] [(.long (p1.toInt64)), (.long ((p2.toInt64) - (p0.toInt64)))]))
    refine gob (fun _ k => XS.lcmp X0.here hx rfl (hb hby d5_15) rfl k) ?_
    show Go _ _ _ _ _ _ _ (s₁.setTop (mkF m 16 #[.val (.int p0), .val (.int p1), .val (.int p2), .val (.long ((p2.toInt64) - (p0.toInt64))), .second] [(.int (lcmpW ((p2.toInt64) - (p0.toInt64)) (p1.toInt64)))]))
    by_cases hc16_2 : ((p2.toInt64) - (p0.toInt64)) < (p1.toInt64)
    · skip
      refine gob (fun _ k => XS.ifNo X0.here hx rfl (hb hby d5_16) rfl ((if0 _ _).trans (tlt ((lw_lt _ _).mpr hc16_2)).2.1) k) ?_
      show Go _ _ _ _ _ _ _ (s₁.setTop (mkF m 19 #[.val (.int p0), .val (.int p1), .val (.int p2), .val (.long ((p2.toInt64) - (p0.toInt64))), .second] []))
      refine gob (fun _ k => XS.iconst X0.here hx rfl (hb hby d5_19) k) ?_
      show Go _ _ _ _ _ _ _ (s₁.setTop (mkF m 20 #[.val (.int p0), .val (.int p1), .val (.int p2), .val (.long ((p2.toInt64) - (p0.toInt64))), .second] [(.int (1 : Int32))]))
      refine gob (fun _ k => XS.goto X0.here hx rfl (pc0 := 20) (pc' := 24) rfl (hb hby d5_20) (by decide) (by decide) k) ?_
      show Go _ _ _ _ _ _ _ (s₁.setTop (mkF m 24 #[.val (.int p0), .val (.int p1), .val (.int p2), .val (.long ((p2.toInt64) - (p0.toInt64))), .second] [(.int (1 : Int32))]))
      refine goZ X0 hx hlk (t := .boolean) Bd.returns (by simp) (hb hby d5_24) (z' := (1 : Int32)) rfl ?_ (by decide) (by decide)
      show Q5 Z p0 p1 p2 h0 n0 (some (.int (1 : Int32))) s₁.heap _
      exact ⟨(1 : Int32), rfl, (Or.inr (Or.inl ⟨hc9_1, hc16_2, rfl⟩)), N0, e0⟩
    · skip
      refine gob (fun _ k => XS.ifYes X0.here hx rfl (pc0 := 16) (pc' := 23) rfl (hb hby d5_16) rfl ((if0 _ _).trans (flt (mt (lw_lt _ _).mp hc16_2)).2.1) (by decide) (by decide) k) ?_
      show Go _ _ _ _ _ _ _ (s₁.setTop (mkF m 23 #[.val (.int p0), .val (.int p1), .val (.int p2), .val (.long ((p2.toInt64) - (p0.toInt64))), .second] []))
      refine gob (fun _ k => XS.iconst X0.here hx rfl (hb hby d5_23) k) ?_
      show Go _ _ _ _ _ _ _ (s₁.setTop (mkF m 24 #[.val (.int p0), .val (.int p1), .val (.int p2), .val (.long ((p2.toInt64) - (p0.toInt64))), .second] [(.int (0 : Int32))]))
      refine goZ X0 hx hlk (t := .boolean) Bd.returns (by simp) (hb hby d5_24) (z' := (0 : Int32)) rfl ?_ (by decide) (by decide)
      show Q5 Z p0 p1 p2 h0 n0 (some (.int (0 : Int32))) s₁.heap _
      exact ⟨(0 : Int32), rfl, (Or.inr (Or.inr ⟨hc9_1, hc16_2, rfl⟩)), N0, e0⟩
theorem pd_1 : parseMethodDescriptor "(II)V" = some ⟨[.int, .int], none⟩ := by decide +kernel
theorem pd_2 : parseMethodDescriptor "(I)Z" = some ⟨[.int], some .boolean⟩ := by decide +kernel
theorem pd_3 : parseMethodDescriptor "(III)Z" = some ⟨[.int, .int, .int], some .boolean⟩ := by decide +kernel
theorem ef_0 (m : MethodId) (x0 : Int32) (x1 : Int32) (x2 : Int32) (x3 : Int32) : entryFrame m #[(.int x0), (.int x1), (.int x2), (.int x3)] maxLocals = mkF m 0 #[.val (.int x0), .val (.int x1), .val (.int x2), .val (.int x3), .unset, .unset, .unset, .unset, .unset, .unset, .unset] [] := by first | (simp [entryFrame, mkF, argsToLocals, Value.category, maxLocals]; done) | rfl
def Q0 (Z : State) (p0 : Int32) (p1 : Int32) (p2 : Int32) (p3 : Int32) (h0 : Heap) (n0 : Nat) (v : Option Value) (h : Heap) (L : List Loc) : Prop := v = some (.int 1) ∧ Fr n0 L
theorem ld_0_43_13 (p0 : Int32) (p1 : Int32) (x1 : Int32) (x2 : Int32) (r11 : Int32) (hx1 : (p0 &&& (1073741823 : Int32)) = x1) (hx2 : ((1 : Int32) + (p1 &&& (1073741823 : Int32))) = x2) (hr11 : (x1 < x1 ∧ r11 = (0 : Int32)) ∨ (¬ (x1 < x1) ∧ x1 < (x1 + x2) ∧ r11 = (1 : Int32)) ∨ (¬ (x1 < x1) ∧ ¬ (x1 < (x1 + x2)) ∧ r11 = (0 : Int32))) : ¬ (r11 = (0 : Int32)) := by
  have := rng32 p0
  have := rng32 p1
  have := rng32 x1
  have := rng32 x2
  have := rng32 r11
  have : (0 : Int32).toInt = 0 := by decide
  have : (1 : Int32).toInt = 1 := by decide
  have : (1073741823 : Int32).toInt = 1073741823 := by decide
  have : ((p0 &&& (1073741823 : Int32))).toInt = (p0).toInt % (2 ^ 30 : Nat) := c_mask p0 (1073741823 : Int32) 30 (by decide) (by decide)
  have : ((p1 &&& (1073741823 : Int32))).toInt = (p1).toInt % (2 ^ 30 : Nat) := c_mask p1 (1073741823 : Int32) 30 (by decide) (by decide)
  have := c_iadd (1 : Int32) (p1 &&& (1073741823 : Int32))
  have := rng32 ((1 : Int32) + (p1 &&& (1073741823 : Int32)))
  have := c_iadd x1 x2
  have := rng32 (x1 + x2)
  try (simp only [Int32.lt_iff_toInt_lt, Int32.le_iff_toInt_le, Int64.lt_iff_toInt_lt, Int64.le_iff_toInt_le, ← Int32.toInt_inj, ← Int64.toInt_inj, ne_eq] at *)
  omega
theorem ld_0_58_16 (p0 : Int32) (p1 : Int32) (x1 : Int32) (x2 : Int32) (r15 : Int32) (hx1 : (p0 &&& (1073741823 : Int32)) = x1) (hx2 : ((1 : Int32) + (p1 &&& (1073741823 : Int32))) = x2) (hr15 : (((x1 + x2) - (1 : Int32)) < x1 ∧ r15 = (0 : Int32)) ∨ (¬ (((x1 + x2) - (1 : Int32)) < x1) ∧ ((x1 + x2) - (1 : Int32)) < (x1 + x2) ∧ r15 = (1 : Int32)) ∨ (¬ (((x1 + x2) - (1 : Int32)) < x1) ∧ ¬ (((x1 + x2) - (1 : Int32)) < (x1 + x2)) ∧ r15 = (0 : Int32))) : ¬ (r15 = (0 : Int32)) := by
  have := rng32 p0
  have := rng32 p1
  have := rng32 x1
  have := rng32 x2
  have := rng32 r15
  have : (0 : Int32).toInt = 0 := by decide
  have : (1 : Int32).toInt = 1 := by decide
  have : (1073741823 : Int32).toInt = 1073741823 := by decide
  have : ((p0 &&& (1073741823 : Int32))).toInt = (p0).toInt % (2 ^ 30 : Nat) := c_mask p0 (1073741823 : Int32) 30 (by decide) (by decide)
  have : ((p1 &&& (1073741823 : Int32))).toInt = (p1).toInt % (2 ^ 30 : Nat) := c_mask p1 (1073741823 : Int32) 30 (by decide) (by decide)
  have := c_iadd (1 : Int32) (p1 &&& (1073741823 : Int32))
  have := rng32 ((1 : Int32) + (p1 &&& (1073741823 : Int32)))
  have := c_iadd x1 x2
  have := rng32 (x1 + x2)
  have := c_isub (x1 + x2) (1 : Int32)
  have := rng32 ((x1 + x2) - (1 : Int32))
  try (simp only [Int32.lt_iff_toInt_lt, Int32.le_iff_toInt_le, Int64.lt_iff_toInt_lt, Int64.le_iff_toInt_le, ← Int32.toInt_inj, ← Int64.toInt_inj, ne_eq] at *)
  omega
theorem ld_0_70_19 (p0 : Int32) (p1 : Int32) (x1 : Int32) (x2 : Int32) (r18 : Int32) (hx1 : (p0 &&& (1073741823 : Int32)) = x1) (hx2 : ((1 : Int32) + (p1 &&& (1073741823 : Int32))) = x2) (hr18 : ((x1 - (1 : Int32)) < x1 ∧ r18 = (0 : Int32)) ∨ (¬ ((x1 - (1 : Int32)) < x1) ∧ (x1 - (1 : Int32)) < (x1 + x2) ∧ r18 = (1 : Int32)) ∨ (¬ ((x1 - (1 : Int32)) < x1) ∧ ¬ ((x1 - (1 : Int32)) < (x1 + x2)) ∧ r18 = (0 : Int32))) : r18 = (0 : Int32) := by
  have := rng32 p0
  have := rng32 p1
  have := rng32 x1
  have := rng32 x2
  have := rng32 r18
  have : (0 : Int32).toInt = 0 := by decide
  have : (1 : Int32).toInt = 1 := by decide
  have : (1073741823 : Int32).toInt = 1073741823 := by decide
  have : ((p0 &&& (1073741823 : Int32))).toInt = (p0).toInt % (2 ^ 30 : Nat) := c_mask p0 (1073741823 : Int32) 30 (by decide) (by decide)
  have : ((p1 &&& (1073741823 : Int32))).toInt = (p1).toInt % (2 ^ 30 : Nat) := c_mask p1 (1073741823 : Int32) 30 (by decide) (by decide)
  have := c_iadd (1 : Int32) (p1 &&& (1073741823 : Int32))
  have := rng32 ((1 : Int32) + (p1 &&& (1073741823 : Int32)))
  have := c_iadd x1 x2
  have := rng32 (x1 + x2)
  have := c_isub x1 (1 : Int32)
  have := rng32 (x1 - (1 : Int32))
  try (simp only [Int32.lt_iff_toInt_lt, Int32.le_iff_toInt_le, Int64.lt_iff_toInt_lt, Int64.le_iff_toInt_le, ← Int32.toInt_inj, ← Int64.toInt_inj, ne_eq] at *)
  omega
theorem ld_0_83_22 (p0 : Int32) (p1 : Int32) (x1 : Int32) (x2 : Int32) (r21 : Int32) (hx1 : (p0 &&& (1073741823 : Int32)) = x1) (hx2 : ((1 : Int32) + (p1 &&& (1073741823 : Int32))) = x2) (hr21 : ((x1 + x2) < x1 ∧ r21 = (0 : Int32)) ∨ (¬ ((x1 + x2) < x1) ∧ (x1 + x2) < (x1 + x2) ∧ r21 = (1 : Int32)) ∨ (¬ ((x1 + x2) < x1) ∧ ¬ ((x1 + x2) < (x1 + x2)) ∧ r21 = (0 : Int32))) : r21 = (0 : Int32) := by
  have := rng32 p0
  have := rng32 p1
  have := rng32 x1
  have := rng32 x2
  have := rng32 r21
  have : (0 : Int32).toInt = 0 := by decide
  have : (1 : Int32).toInt = 1 := by decide
  have : (1073741823 : Int32).toInt = 1073741823 := by decide
  have : ((p0 &&& (1073741823 : Int32))).toInt = (p0).toInt % (2 ^ 30 : Nat) := c_mask p0 (1073741823 : Int32) 30 (by decide) (by decide)
  have : ((p1 &&& (1073741823 : Int32))).toInt = (p1).toInt % (2 ^ 30 : Nat) := c_mask p1 (1073741823 : Int32) 30 (by decide) (by decide)
  have := c_iadd (1 : Int32) (p1 &&& (1073741823 : Int32))
  have := rng32 ((1 : Int32) + (p1 &&& (1073741823 : Int32)))
  have := c_iadd x1 x2
  have := rng32 (x1 + x2)
  try (simp only [Int32.lt_iff_toInt_lt, Int32.le_iff_toInt_le, Int64.lt_iff_toInt_lt, Int64.le_iff_toInt_le, ← Int32.toInt_inj, ← Int64.toInt_inj, ne_eq] at *)
  omega
theorem ld_0_107_26 (p0 : Int32) (p1 : Int32) (p2 : Int32) (x1 : Int32) (x2 : Int32) (r24 : Int32) (r25 : Int32) (hx1 : (p0 &&& (1073741823 : Int32)) = x1) (hx2 : ((1 : Int32) + (p1 &&& (1073741823 : Int32))) = x2) (hr24 : (p2 < x1 ∧ r24 = (0 : Int32)) ∨ (¬ (p2 < x1) ∧ p2 < (x1 + x2) ∧ r24 = (1 : Int32)) ∨ (¬ (p2 < x1) ∧ ¬ (p2 < (x1 + x2)) ∧ r24 = (0 : Int32))) (hr25 : (((p2.toInt64) - (x1.toInt64)) < (0 : Int64) ∧ r25 = (0 : Int32)) ∨ (¬ (((p2.toInt64) - (x1.toInt64)) < (0 : Int64)) ∧ ((p2.toInt64) - (x1.toInt64)) < (x2.toInt64) ∧ r25 = (1 : Int32)) ∨ (¬ (((p2.toInt64) - (x1.toInt64)) < (0 : Int64)) ∧ ¬ (((p2.toInt64) - (x1.toInt64)) < (x2.toInt64)) ∧ r25 = (0 : Int32))) : r24 = r25 := by
  have := rng32 p0
  have := rng32 p1
  have := rng32 p2
  have := rng32 x1
  have := rng32 x2
  have := rng32 r24
  have := rng32 r25
  have : (0 : Int32).toInt = 0 := by decide
  have : (0 : Int64).toInt = 0 := by decide
  have : (1 : Int32).toInt = 1 := by decide
  have : (1073741823 : Int32).toInt = 1073741823 := by decide
  have := c_i2l p2
  have : ((p0 &&& (1073741823 : Int32))).toInt = (p0).toInt % (2 ^ 30 : Nat) := c_mask p0 (1073741823 : Int32) 30 (by decide) (by decide)
  have : ((p1 &&& (1073741823 : Int32))).toInt = (p1).toInt % (2 ^ 30 : Nat) := c_mask p1 (1073741823 : Int32) 30 (by decide) (by decide)
  have := c_iadd (1 : Int32) (p1 &&& (1073741823 : Int32))
  have := rng32 ((1 : Int32) + (p1 &&& (1073741823 : Int32)))
  have := c_iadd x1 x2
  have := rng32 (x1 + x2)
  have := c_i2l x1
  have := c_lsub (p2.toInt64) (x1.toInt64)
  have := rng64 ((p2.toInt64) - (x1.toInt64))
  have := c_i2l x2
  try (simp only [Int32.lt_iff_toInt_lt, Int32.le_iff_toInt_le, Int64.lt_iff_toInt_lt, Int64.le_iff_toInt_le, ← Int32.toInt_inj, ← Int64.toInt_inj, ne_eq] at *)
  omega
theorem ld_0_133_30 (p0 : Int32) (p1 : Int32) (p3 : Int32) (x1 : Int32) (x2 : Int32) (x10 : Int32) (r28 : Int32) (r29 : Int32) (hx1 : (p0 &&& (1073741823 : Int32)) = x1) (hx2 : ((1 : Int32) + (p1 &&& (1073741823 : Int32))) = x2) (hx10 : (x1 + (p3 % (64 : Int32))) = x10) (hr28 : (x10 < x1 ∧ r28 = (0 : Int32)) ∨ (¬ (x10 < x1) ∧ x10 < (x1 + x2) ∧ r28 = (1 : Int32)) ∨ (¬ (x10 < x1) ∧ ¬ (x10 < (x1 + x2)) ∧ r28 = (0 : Int32))) (hr29 : (((x10.toInt64) - (x1.toInt64)) < (0 : Int64) ∧ r29 = (0 : Int32)) ∨ (¬ (((x10.toInt64) - (x1.toInt64)) < (0 : Int64)) ∧ ((x10.toInt64) - (x1.toInt64)) < (x2.toInt64) ∧ r29 = (1 : Int32)) ∨ (¬ (((x10.toInt64) - (x1.toInt64)) < (0 : Int64)) ∧ ¬ (((x10.toInt64) - (x1.toInt64)) < (x2.toInt64)) ∧ r29 = (0 : Int32))) : r28 = r29 := by
  have := rng32 p0
  have := rng32 p1
  have := rng32 p3
  have := rng32 x1
  have := rng32 x2
  have := rng32 x10
  have := rng32 r28
  have := rng32 r29
  have : (0 : Int32).toInt = 0 := by decide
  have : (0 : Int64).toInt = 0 := by decide
  have : (1 : Int32).toInt = 1 := by decide
  have : (1073741823 : Int32).toInt = 1073741823 := by decide
  have : (64 : Int32).toInt = 64 := by decide
  have : ((p0 &&& (1073741823 : Int32))).toInt = (p0).toInt % (2 ^ 30 : Nat) := c_mask p0 (1073741823 : Int32) 30 (by decide) (by decide)
  have : ((p1 &&& (1073741823 : Int32))).toInt = (p1).toInt % (2 ^ 30 : Nat) := c_mask p1 (1073741823 : Int32) 30 (by decide) (by decide)
  have := c_iadd (1 : Int32) (p1 &&& (1073741823 : Int32))
  have := rng32 ((1 : Int32) + (p1 &&& (1073741823 : Int32)))
  have := c_irem p3 (64 : Int32) (64) (by decide)
  have := rng32 (p3 % (64 : Int32))
  have := c_iadd x1 (p3 % (64 : Int32))
  have := rng32 (x1 + (p3 % (64 : Int32)))
  have := c_iadd x1 x2
  have := rng32 (x1 + x2)
  have := c_i2l x1
  have := c_i2l x2
  have := c_i2l x10
  have := c_lsub (x10.toInt64) (x1.toInt64)
  have := rng64 ((x10.toInt64) - (x1.toInt64))
  try (simp only [Int32.lt_iff_toInt_lt, Int32.le_iff_toInt_le, Int64.lt_iff_toInt_lt, Int64.le_iff_toInt_le, ← Int32.toInt_inj, ← Int64.toInt_inj, ne_eq] at *)
  omega
set_option maxRecDepth 65536 in
set_option maxHeartbeats 40000000 in
theorem rm0 (l : Launch) (Z : State) (a0 : Array Value) (hw : ∀ d ∈ tables_1, d.before a0 Z = true) (ws : List Jvm.Cond) (p0 : Int32) (p1 : Int32) (p2 : Int32) (p3 : Int32) (h0 : Heap) (n0 : Nat) (Z0 : n0 ≤ h0.size) :
    MetFree l x (head1 (Jvm.Cond.code x code maxLocals ret :: ws) room_1) (fun a U => a = #[(.int p0), (.int p1), (.int p2), (.int p3)] ∧ Z.Warmed39 U.vm ∧ U.heap = h0) (fun _ _ _ _ _ => True) (fun _ U o U' => ∃ v L, o = .returned v ∧ Q0 Z p0 p1 p2 p3 h0 n0 v U'.heap L ∧ FrameEnd U o U' L 16 128) := by
  refine MetFree.of_bodySF (plainFor_of_name (by first | (simp [plainName, overriddenIn]; done) | decide +kernel)) hisR ?_
  intro p e s m args below meth c s₁ Bd hml0 hP hK
  obtain ⟨rfl, hZ, hh⟩ := hP
  have hx := Bd.exec
  have hby := Bd.bytes
  have hml : c.maxLocals = 11 := hml0
  have hown : s.vm.findClass "com/example/coevolution/coevolution/learn/BCellAlgorithmContainsPinLaw" = some m.cls := findClass_of_methodNamed Bd.named
  have hnm := (name_of_methodNamed Bd.named Bd.method).1
  have hlk := BodyLoose.notSynchronized Bd
  have X0 : Stand p l e room_1 s m #[(.int p0), (.int p1), (.int p2), (.int p3)] below meth c s₁ [] 0 0 := Stand.of_body Bd
  have e0 : s₁.heap = h0 := by rw [← hh, Bd.state]; rfl
  have N0 := Fr.nil n0
  show Go p e below s (Q0 Z p0 p1 p2 p3 h0 n0) 16 128 (s₁.setTop (entryFrame m #[(.int p0), (.int p1), (.int p2), (.int p3)] maxLocals))
  rw [ef_0]
  show Go _ _ _ _ _ _ _ (s₁.setTop (mkF m 0 #[.val (.int p0), .val (.int p1), .val (.int p2), .val (.int p3), .unset, .unset, .unset, .unset, .unset, .unset, .unset] []))
  refine gob (fun _ k => XS.iloadN X0.here hx rfl (hb hby at_0) rfl k) ?_
  show Go _ _ _ _ _ _ _ (s₁.setTop (mkF m 1 #[.val (.int p0), .val (.int p1), .val (.int p2), .val (.int p3), .unset, .unset, .unset, .unset, .unset, .unset, .unset] [(.int p0)]))
  refine gob (X0.ldcInt hx hown (mvT hZ (hw _ (List.mem_of_getElem? (i := 0) rfl))) (g := (mkF m 1 #[.val (.int p0), .val (.int p1), .val (.int p2), .val (.int p3), .unset, .unset, .unset, .unset, .unset, .unset, .unset] [(.int p0)])) rfl (hb hby at_1)) ?_
  show Go _ _ _ _ _ _ _ (s₁.setTop (mkF m 3 #[.val (.int p0), .val (.int p1), .val (.int p2), .val (.int p3), .unset, .unset, .unset, .unset, .unset, .unset, .unset] [(.int (1073741823 : Int32)), (.int p0)]))
  refine gob (fun _ k => XS.iand X0.here hx rfl (hb hby at_3) rfl k) ?_
  show Go _ _ _ _ _ _ _ (s₁.setTop (mkF m 4 #[.val (.int p0), .val (.int p1), .val (.int p2), .val (.int p3), .unset, .unset, .unset, .unset, .unset, .unset, .unset] [(.int (p0 &&& (1073741823 : Int32)))]))
  refine gob (fun _ k => XS.istore X0.here hx rfl (hb hby at_4) rfl (l' := #[.val (.int p0), .val (.int p1), .val (.int p2), .val (.int p3), .val (.int (p0 &&& (1073741823 : Int32))), .unset, .unset, .unset, .unset, .unset, .unset]) rfl k) ?_
  show Go _ _ _ _ _ _ _ (s₁.setTop (mkF m 6 #[.val (.int p0), .val (.int p1), .val (.int p2), .val (.int p3), .val (.int (p0 &&& (1073741823 : Int32))), .unset, .unset, .unset, .unset, .unset, .unset] []))
  generalize hx1 : (p0 &&& (1073741823 : Int32)) = x1
  show Go _ _ _ _ _ _ _ (s₁.setTop (mkF m 6 #[.val (.int p0), .val (.int p1), .val (.int p2), .val (.int p3), .val (.int x1), .unset, .unset, .unset, .unset, .unset, .unset] []))
  refine gob (fun _ k => XS.iconst X0.here hx rfl (hb hby at_6) k) ?_
  show Go _ _ _ _ _ _ _ (s₁.setTop (mkF m 7 #[.val (.int p0), .val (.int p1), .val (.int p2), .val (.int p3), .val (.int x1), .unset, .unset, .unset, .unset, .unset, .unset] [(.int (1 : Int32))]))
  refine gob (fun _ k => XS.iloadN X0.here hx rfl (hb hby at_7) rfl k) ?_
  show Go _ _ _ _ _ _ _ (s₁.setTop (mkF m 8 #[.val (.int p0), .val (.int p1), .val (.int p2), .val (.int p3), .val (.int x1), .unset, .unset, .unset, .unset, .unset, .unset] [(.int p1), (.int (1 : Int32))]))
  refine gob (X0.ldcInt hx hown (mvT hZ (hw _ (List.mem_of_getElem? (i := 0) rfl))) (g := (mkF m 8 #[.val (.int p0), .val (.int p1), .val (.int p2), .val (.int p3), .val (.int x1), .unset, .unset, .unset, .unset, .unset, .unset] [(.int p1), (.int (1 : Int32))])) rfl (hb hby at_8)) ?_
  show Go _ _ _ _ _ _ _ (s₁.setTop (mkF m 10 #[.val (.int p0), .val (.int p1), .val (.int p2), .val (.int p3), .val (.int x1), .unset, .unset, .unset, .unset, .unset, .unset] [(.int (1073741823 : Int32)), (.int p1), (.int (1 : Int32))]))
  refine gob (fun _ k => XS.iand X0.here hx rfl (hb hby at_10) rfl k) ?_
  show Go _ _ _ _ _ _ _ (s₁.setTop (mkF m 11 #[.val (.int p0), .val (.int p1), .val (.int p2), .val (.int p3), .val (.int x1), .unset, .unset, .unset, .unset, .unset, .unset] [(.int (p1 &&& (1073741823 : Int32))), (.int (1 : Int32))]))
  refine gob (fun _ k => XS.iadd X0.here hx rfl (hb hby at_11) rfl k) ?_
  show Go _ _ _ _ _ _ _ (s₁.setTop (mkF m 12 #[.val (.int p0), .val (.int p1), .val (.int p2), .val (.int p3), .val (.int x1), .unset, .unset, .unset, .unset, .unset, .unset] [(.int ((1 : Int32) + (p1 &&& (1073741823 : Int32))))]))
  refine gob (fun _ k => XS.istore X0.here hx rfl (hb hby at_12) rfl (l' := #[.val (.int p0), .val (.int p1), .val (.int p2), .val (.int p3), .val (.int x1), .val (.int ((1 : Int32) + (p1 &&& (1073741823 : Int32)))), .unset, .unset, .unset, .unset, .unset]) rfl k) ?_
  show Go _ _ _ _ _ _ _ (s₁.setTop (mkF m 14 #[.val (.int p0), .val (.int p1), .val (.int p2), .val (.int p3), .val (.int x1), .val (.int ((1 : Int32) + (p1 &&& (1073741823 : Int32)))), .unset, .unset, .unset, .unset, .unset] []))
  generalize hx2 : ((1 : Int32) + (p1 &&& (1073741823 : Int32))) = x2
  show Go _ _ _ _ _ _ _ (s₁.setTop (mkF m 14 #[.val (.int p0), .val (.int p1), .val (.int p2), .val (.int p3), .val (.int x1), .val (.int x2), .unset, .unset, .unset, .unset, .unset] []))
  obtain ⟨T3, h3, X3, e3, E3, A3, D3, -, st3⟩ := newO X0 hx hZ hown (hw _ (List.mem_of_getElem? (i := 1) rfl)) (hw _ (List.mem_of_getElem? (i := 2) rfl)) (hw _ (List.mem_of_getElem? (i := 3) rfl)) e0 (g := (mkF m 14 #[.val (.int p0), .val (.int p1), .val (.int p2), .val (.int p3), .val (.int x1), .val (.int x2), .unset, .unset, .unset, .unset, .unset] [])) rfl (hb hby at_14) (by decide) (by decide)
  obtain ⟨b3, g3⟩ : ∃ z, z = h0.size := ⟨_, rfl⟩
  rw [← g3] at A3 D3 st3
  have g4 : n0 ≤ b3 := Nat.le_trans Z0 (Nat.le_of_eq g3.symm)
  have z5 : n0 ≤ h3.size := Nat.le_trans Z0 E3.1
  have F3_first : Fld Z h3 b3 "com/example/coevolution/coevolution/learn/BCellAlgorithm$Stretch" "first" "I" (.int (0 : Int32)) := D3 (Or.inr (hw _ (List.mem_of_getElem? (i := 16) rfl))) (ty := .int) (by decide)
  have F3_length : Fld Z h3 b3 "com/example/coevolution/coevolution/learn/BCellAlgorithm$Stretch" "length" "I" (.int (0 : Int32)) := D3 (Or.inr (hw _ (List.mem_of_getElem? (i := 18) rfl))) (ty := .int) (by decide)
  refine gob st3 ?_
  show Go _ _ _ _ _ _ _ (T3.setTop (mkF m 17 #[.val (.int p0), .val (.int p1), .val (.int p2), .val (.int p3), .val (.int x1), .val (.int x2), .unset, .unset, .unset, .unset, .unset] [(.ref b3)]))
  refine gob (fun _ k => XS.dup X3.here hx rfl (hb hby at_17) rfl rfl k) ?_
  show Go _ _ _ _ _ _ _ (T3.setTop (mkF m 18 #[.val (.int p0), .val (.int p1), .val (.int p2), .val (.int p3), .val (.int x1), .val (.int x2), .unset, .unset, .unset, .unset, .unset] [(.ref b3), (.ref b3)]))
  refine gob (fun _ k => XS.iload X3.here hx rfl (hb hby at_18) rfl k) ?_
  show Go _ _ _ _ _ _ _ (T3.setTop (mkF m 20 #[.val (.int p0), .val (.int p1), .val (.int p2), .val (.int p3), .val (.int x1), .val (.int x2), .unset, .unset, .unset, .unset, .unset] [(.int x1), (.ref b3), (.ref b3)]))
  refine gob (fun _ k => XS.iload X3.here hx rfl (hb hby at_20) rfl k) ?_
  show Go _ _ _ _ _ _ _ (T3.setTop (mkF m 22 #[.val (.int p0), .val (.int p1), .val (.int p2), .val (.int p3), .val (.int x1), .val (.int x2), .unset, .unset, .unset, .unset, .unset] [(.int x2), (.int x1), (.ref b3), (.ref b3)]))
  obtain ⟨_, _, ⟨T6, L6, k6, n6⟩, -, X6, ⟨Lc6, hQ6, l6, y6, z6⟩, st6⟩ := X3.specialBack hx (y := (⟨"com/example/coevolution/coevolution/learn/BCellAlgorithm$Stretch", "<init>", "(II)V"⟩ : MethodName)) rfl hown (mvT hZ (hw _ (List.mem_of_getElem? (i := 4) rfl))) (mvT hZ (hw _ (List.mem_of_getElem? (i := 5) rfl))) (mvT hZ (hw _ (List.mem_of_getElem? (i := 6) rfl))) (by decide) (backOf (W := 1) (rm1 l Z a0 hw [] b3 x1 x2 h3 n0 z5 A3 F3_first g4 F3_length) hZ (hw _ (List.mem_of_getElem? (i := 6) rfl)) (hw _ (List.mem_of_getElem? (i := 3) rfl)) (by decide) (by decide)) (g := (mkF m 22 #[.val (.int p0), .val (.int p1), .val (.int p2), .val (.int p3), .val (.int x1), .val (.int x2), .unset, .unset, .unset, .unset, .unset] [(.int x2), (.int x1), (.ref b3), (.ref b3)])) rfl (by rw [hml]; rfl) (Steps.refl _) (a := b3) (argsL := [(.int x1), (.int x2)]) (rest := [(.ref b3)]) (lenOf pd_1 rfl) rfl (by show 2 * 0 + _ ≤ _; exact Nat.le_of_eq rfl) (hb hby at_22) (fun _ _ => ⟨rfl, e3, (by decide : 1 + 0 ≤ _), (by decide : 2 + 0 ≤ _)⟩)
  dsimp only [Pt.U, Pt.locs, Pt.cells, Pt.slots] at X6 l6 y6 z6 st6 hQ6
  subst l6 y6 z6
  obtain ⟨rfl, Nq6, K6, F7, F8⟩ := hQ6
  have N6 := Fr.app N0 Nq6
  have z9 : n0 ≤ T6.heap.size := Nat.le_trans z5 K6.1
  refine gob (fun _ k => st6.trans k) ?_
  show Go _ _ _ _ _ _ _ (T6.setTop (mkF m 25 #[.val (.int p0), .val (.int p1), .val (.int p2), .val (.int p3), .val (.int x1), .val (.int x2), .unset, .unset, .unset, .unset, .unset] [(.ref b3)]))
  refine gob (fun _ k => XS.astore X6.here hx rfl (hb hby at_25) rfl rfl (l' := #[.val (.int p0), .val (.int p1), .val (.int p2), .val (.int p3), .val (.int x1), .val (.int x2), .val (.ref b3), .unset, .unset, .unset, .unset]) rfl k) ?_
  show Go _ _ _ _ _ _ _ (T6.setTop (mkF m 27 #[.val (.int p0), .val (.int p1), .val (.int p2), .val (.int p3), .val (.int x1), .val (.int x2), .val (.ref b3), .unset, .unset, .unset, .unset] []))
  refine gob (fun _ k => XS.iload X6.here hx rfl (hb hby at_27) rfl k) ?_
  show Go _ _ _ _ _ _ _ (T6.setTop (mkF m 29 #[.val (.int p0), .val (.int p1), .val (.int p2), .val (.int p3), .val (.int x1), .val (.int x2), .val (.ref b3), .unset, .unset, .unset, .unset] [(.int x1)]))
  refine gob (fun _ k => XS.iloadN X6.here hx rfl (hb hby at_29) rfl k) ?_
  show Go _ _ _ _ _ _ _ (T6.setTop (mkF m 30 #[.val (.int p0), .val (.int p1), .val (.int p2), .val (.int p3), .val (.int x1), .val (.int x2), .val (.ref b3), .unset, .unset, .unset, .unset] [(.int p3), (.int x1)]))
  refine gob (fun _ k => XS.bipush X6.here hx rfl (hb hby at_30) k) ?_
  show Go _ _ _ _ _ _ _ (T6.setTop (mkF m 32 #[.val (.int p0), .val (.int p1), .val (.int p2), .val (.int p3), .val (.int x1), .val (.int x2), .val (.ref b3), .unset, .unset, .unset, .unset] [(.int (64 : Int32)), (.int p3), (.int x1)]))
  refine gob (fun _ k => iremM X6 hx rfl (hb hby at_32) rfl (by decide) k) ?_
  show Go _ _ _ _ _ _ _ (T6.setTop (mkF m 33 #[.val (.int p0), .val (.int p1), .val (.int p2), .val (.int p3), .val (.int x1), .val (.int x2), .val (.ref b3), .unset, .unset, .unset, .unset] [(.int (p3 % (64 : Int32))), (.int x1)]))
  refine gob (fun _ k => XS.iadd X6.here hx rfl (hb hby at_33) rfl k) ?_
  show Go _ _ _ _ _ _ _ (T6.setTop (mkF m 34 #[.val (.int p0), .val (.int p1), .val (.int p2), .val (.int p3), .val (.int x1), .val (.int x2), .val (.ref b3), .unset, .unset, .unset, .unset] [(.int (x1 + (p3 % (64 : Int32))))]))
  refine gob (fun _ k => XS.istore X6.here hx rfl (hb hby at_34) rfl (l' := #[.val (.int p0), .val (.int p1), .val (.int p2), .val (.int p3), .val (.int x1), .val (.int x2), .val (.ref b3), .val (.int (x1 + (p3 % (64 : Int32)))), .unset, .unset, .unset]) rfl k) ?_
  show Go _ _ _ _ _ _ _ (T6.setTop (mkF m 36 #[.val (.int p0), .val (.int p1), .val (.int p2), .val (.int p3), .val (.int x1), .val (.int x2), .val (.ref b3), .val (.int (x1 + (p3 % (64 : Int32)))), .unset, .unset, .unset] []))
  generalize hx10 : (x1 + (p3 % (64 : Int32))) = x10
  show Go _ _ _ _ _ _ _ (T6.setTop (mkF m 36 #[.val (.int p0), .val (.int p1), .val (.int p2), .val (.int p3), .val (.int x1), .val (.int x2), .val (.ref b3), .val (.int x10), .unset, .unset, .unset] []))
  refine gob (fun _ k => XS.aload X6.here hx rfl (hb hby at_36) rfl rfl k) ?_
  show Go _ _ _ _ _ _ _ (T6.setTop (mkF m 38 #[.val (.int p0), .val (.int p1), .val (.int p2), .val (.int p3), .val (.int x1), .val (.int x2), .val (.ref b3), .val (.int x10), .unset, .unset, .unset] [(.ref b3)]))
  refine gob (fun _ k => XS.iload X6.here hx rfl (hb hby at_38) rfl k) ?_
  show Go _ _ _ _ _ _ _ (T6.setTop (mkF m 40 #[.val (.int p0), .val (.int p1), .val (.int p2), .val (.int p3), .val (.int x1), .val (.int x2), .val (.ref b3), .val (.int x10), .unset, .unset, .unset] [(.int x1), (.ref b3)]))
  have c12 := (A3.keep K6)
  obtain ⟨cq11, kq11, q11a, q11b, q11c⟩ := isOf hZ (rfl : T6.heap = _) c12
  obtain ⟨_, _, ⟨T11, L11, k11, n11⟩, -, X11, ⟨Lc11, hQ11, l11, y11, z11⟩, st11⟩ := X6.virtualBack hx (y := (⟨"com/example/coevolution/coevolution/learn/BCellAlgorithm$Stretch", "contains", "(I)Z"⟩ : MethodName)) (z := (⟨"com/example/coevolution/coevolution/learn/BCellAlgorithm$Stretch", "contains", "(I)Z"⟩ : MethodName)) hown (mvT hZ (hw _ (List.mem_of_getElem? (i := 19) rfl))) (mvT hZ (hw _ (List.mem_of_getElem? (i := 20) rfl))) (notFace_of_selects (args := #[]) (mvT hZ (hw _ (List.mem_of_getElem? (i := 22) rfl)))) (mvT hZ (hw _ (List.mem_of_getElem? (i := 22) rfl))) (mvT hZ (hw _ (List.mem_of_getElem? (i := 21) rfl))) (by decide) (backOf (W := 0) (rm4 l Z a0 hw [] b3 x1 x1 x2 T6.heap n0 z9 F7 F8) hZ (hw _ (List.mem_of_getElem? (i := 23) rfl)) (hw _ (List.mem_of_getElem? (i := 3) rfl)) (by decide) (by decide)) q11a q11c (g := (mkF m 40 #[.val (.int p0), .val (.int p1), .val (.int p2), .val (.int p3), .val (.int x1), .val (.int x2), .val (.ref b3), .val (.int x10), .unset, .unset, .unset] [(.int x1), (.ref b3)])) rfl (by rw [hml]; rfl) (Steps.refl _) (argsL := [(.int x1)]) (rest := []) (lenOf pd_2 rfl) rfl (by show 2 * 0 + _ ≤ _; exact Nat.le_of_eq rfl) (hb hby at_40) (fun _ _ => ⟨rfl, (rfl : T6.heap = _), (by decide : 1 + 0 ≤ _), (by decide : 2 + 0 ≤ _)⟩)
  dsimp only [Pt.U, Pt.locs, Pt.cells, Pt.slots] at X11 l11 y11 z11 st11 hQ11
  subst l11 y11 z11
  obtain ⟨r11, rfl, hr11, Nq11, e11⟩ := hQ11
  have N11 := Fr.app N6 Nq11
  refine gob (fun _ k => st11.trans k) ?_
  show Go _ _ _ _ _ _ _ (T11.setTop (mkF m 43 #[.val (.int p0), .val (.int p1), .val (.int p2), .val (.int p3), .val (.int x1), .val (.int x2), .val (.ref b3), .val (.int x10), .unset, .unset, .unset] [(.int r11)]))
  have hd14 : ¬ (r11 = (0 : Int32)) := ld_0_43_13 p0 p1 x1 x2 r11 hx1 hx2 hr11
  refine gob (fun _ k => XS.ifNo X11.here hx rfl (hb hby at_43) rfl ((if0 _ _).trans (feq hd14).1) k) ?_
  show Go _ _ _ _ _ _ _ (T11.setTop (mkF m 46 #[.val (.int p0), .val (.int p1), .val (.int p2), .val (.int p3), .val (.int x1), .val (.int x2), .val (.ref b3), .val (.int x10), .unset, .unset, .unset] []))
  refine gob (fun _ k => XS.aload X11.here hx rfl (hb hby at_46) rfl rfl k) ?_
  show Go _ _ _ _ _ _ _ (T11.setTop (mkF m 48 #[.val (.int p0), .val (.int p1), .val (.int p2), .val (.int p3), .val (.int x1), .val (.int x2), .val (.ref b3), .val (.int x10), .unset, .unset, .unset] [(.ref b3)]))
  refine gob (fun _ k => XS.iload X11.here hx rfl (hb hby at_48) rfl k) ?_
  show Go _ _ _ _ _ _ _ (T11.setTop (mkF m 50 #[.val (.int p0), .val (.int p1), .val (.int p2), .val (.int p3), .val (.int x1), .val (.int x2), .val (.ref b3), .val (.int x10), .unset, .unset, .unset] [(.int x1), (.ref b3)]))
  refine gob (fun _ k => XS.iload X11.here hx rfl (hb hby at_50) rfl k) ?_
  show Go _ _ _ _ _ _ _ (T11.setTop (mkF m 52 #[.val (.int p0), .val (.int p1), .val (.int p2), .val (.int p3), .val (.int x1), .val (.int x2), .val (.ref b3), .val (.int x10), .unset, .unset, .unset] [(.int x2), (.int x1), (.ref b3)]))
  refine gob (fun _ k => XS.iadd X11.here hx rfl (hb hby at_52) rfl k) ?_
  show Go _ _ _ _ _ _ _ (T11.setTop (mkF m 53 #[.val (.int p0), .val (.int p1), .val (.int p2), .val (.int p3), .val (.int x1), .val (.int x2), .val (.ref b3), .val (.int x10), .unset, .unset, .unset] [(.int (x1 + x2)), (.ref b3)]))
  refine gob (fun _ k => XS.iconst X11.here hx rfl (hb hby at_53) k) ?_
  show Go _ _ _ _ _ _ _ (T11.setTop (mkF m 54 #[.val (.int p0), .val (.int p1), .val (.int p2), .val (.int p3), .val (.int x1), .val (.int x2), .val (.ref b3), .val (.int x10), .unset, .unset, .unset] [(.int (1 : Int32)), (.int (x1 + x2)), (.ref b3)]))
  refine gob (fun _ k => XS.isub X11.here hx rfl (hb hby at_54) rfl k) ?_
  show Go _ _ _ _ _ _ _ (T11.setTop (mkF m 55 #[.val (.int p0), .val (.int p1), .val (.int p2), .val (.int p3), .val (.int x1), .val (.int x2), .val (.ref b3), .val (.int x10), .unset, .unset, .unset] [(.int ((x1 + x2) - (1 : Int32))), (.ref b3)]))
  obtain ⟨cq15, kq15, q15a, q15b, q15c⟩ := isOf hZ e11 c12
  obtain ⟨_, _, ⟨T15, L15, k15, n15⟩, -, X15, ⟨Lc15, hQ15, l15, y15, z15⟩, st15⟩ := X11.virtualBack hx (y := (⟨"com/example/coevolution/coevolution/learn/BCellAlgorithm$Stretch", "contains", "(I)Z"⟩ : MethodName)) (z := (⟨"com/example/coevolution/coevolution/learn/BCellAlgorithm$Stretch", "contains", "(I)Z"⟩ : MethodName)) hown (mvT hZ (hw _ (List.mem_of_getElem? (i := 19) rfl))) (mvT hZ (hw _ (List.mem_of_getElem? (i := 20) rfl))) (notFace_of_selects (args := #[]) (mvT hZ (hw _ (List.mem_of_getElem? (i := 22) rfl)))) (mvT hZ (hw _ (List.mem_of_getElem? (i := 22) rfl))) (mvT hZ (hw _ (List.mem_of_getElem? (i := 21) rfl))) (by decide) (backOf (W := 0) (rm4 l Z a0 hw [] b3 ((x1 + x2) - (1 : Int32)) x1 x2 T6.heap n0 z9 F7 F8) hZ (hw _ (List.mem_of_getElem? (i := 23) rfl)) (hw _ (List.mem_of_getElem? (i := 3) rfl)) (by decide) (by decide)) q15a q15c (g := (mkF m 55 #[.val (.int p0), .val (.int p1), .val (.int p2), .val (.int p3), .val (.int x1), .val (.int x2), .val (.ref b3), .val (.int x10), .unset, .unset, .unset] [(.int ((x1 + x2) - (1 : Int32))), (.ref b3)])) rfl (by rw [hml]; rfl) (Steps.refl _) (argsL := [(.int ((x1 + x2) - (1 : Int32)))]) (rest := []) (lenOf pd_2 rfl) rfl (by show 2 * 0 + _ ≤ _; exact Nat.le_of_eq rfl) (hb hby at_55) (fun _ _ => ⟨rfl, e11, (by decide : 1 + 0 ≤ _), (by decide : 2 + 0 ≤ _)⟩)
  dsimp only [Pt.U, Pt.locs, Pt.cells, Pt.slots] at X15 l15 y15 z15 st15 hQ15
  subst l15 y15 z15
  obtain ⟨r15, rfl, hr15, Nq15, e15⟩ := hQ15
  have N15 := Fr.app N11 Nq15
  refine gob (fun _ k => st15.trans k) ?_
  show Go _ _ _ _ _ _ _ (T15.setTop (mkF m 58 #[.val (.int p0), .val (.int p1), .val (.int p2), .val (.int p3), .val (.int x1), .val (.int x2), .val (.ref b3), .val (.int x10), .unset, .unset, .unset] [(.int r15)]))
  have hd17 : ¬ (r15 = (0 : Int32)) := ld_0_58_16 p0 p1 x1 x2 r15 hx1 hx2 hr15
  refine gob (fun _ k => XS.ifNo X15.here hx rfl (hb hby at_58) rfl ((if0 _ _).trans (feq hd17).1) k) ?_
  show Go _ _ _ _ _ _ _ (T15.setTop (mkF m 61 #[.val (.int p0), .val (.int p1), .val (.int p2), .val (.int p3), .val (.int x1), .val (.int x2), .val (.ref b3), .val (.int x10), .unset, .unset, .unset] []))
  refine gob (fun _ k => XS.aload X15.here hx rfl (hb hby at_61) rfl rfl k) ?_
  show Go _ _ _ _ _ _ _ (T15.setTop (mkF m 63 #[.val (.int p0), .val (.int p1), .val (.int p2), .val (.int p3), .val (.int x1), .val (.int x2), .val (.ref b3), .val (.int x10), .unset, .unset, .unset] [(.ref b3)]))
  refine gob (fun _ k => XS.iload X15.here hx rfl (hb hby at_63) rfl k) ?_
  show Go _ _ _ _ _ _ _ (T15.setTop (mkF m 65 #[.val (.int p0), .val (.int p1), .val (.int p2), .val (.int p3), .val (.int x1), .val (.int x2), .val (.ref b3), .val (.int x10), .unset, .unset, .unset] [(.int x1), (.ref b3)]))
  refine gob (fun _ k => XS.iconst X15.here hx rfl (hb hby at_65) k) ?_
  show Go _ _ _ _ _ _ _ (T15.setTop (mkF m 66 #[.val (.int p0), .val (.int p1), .val (.int p2), .val (.int p3), .val (.int x1), .val (.int x2), .val (.ref b3), .val (.int x10), .unset, .unset, .unset] [(.int (1 : Int32)), (.int x1), (.ref b3)]))
  refine gob (fun _ k => XS.isub X15.here hx rfl (hb hby at_66) rfl k) ?_
  show Go _ _ _ _ _ _ _ (T15.setTop (mkF m 67 #[.val (.int p0), .val (.int p1), .val (.int p2), .val (.int p3), .val (.int x1), .val (.int x2), .val (.ref b3), .val (.int x10), .unset, .unset, .unset] [(.int (x1 - (1 : Int32))), (.ref b3)]))
  obtain ⟨cq18, kq18, q18a, q18b, q18c⟩ := isOf hZ e15 c12
  obtain ⟨_, _, ⟨T18, L18, k18, n18⟩, -, X18, ⟨Lc18, hQ18, l18, y18, z18⟩, st18⟩ := X15.virtualBack hx (y := (⟨"com/example/coevolution/coevolution/learn/BCellAlgorithm$Stretch", "contains", "(I)Z"⟩ : MethodName)) (z := (⟨"com/example/coevolution/coevolution/learn/BCellAlgorithm$Stretch", "contains", "(I)Z"⟩ : MethodName)) hown (mvT hZ (hw _ (List.mem_of_getElem? (i := 19) rfl))) (mvT hZ (hw _ (List.mem_of_getElem? (i := 20) rfl))) (notFace_of_selects (args := #[]) (mvT hZ (hw _ (List.mem_of_getElem? (i := 22) rfl)))) (mvT hZ (hw _ (List.mem_of_getElem? (i := 22) rfl))) (mvT hZ (hw _ (List.mem_of_getElem? (i := 21) rfl))) (by decide) (backOf (W := 0) (rm4 l Z a0 hw [] b3 (x1 - (1 : Int32)) x1 x2 T6.heap n0 z9 F7 F8) hZ (hw _ (List.mem_of_getElem? (i := 23) rfl)) (hw _ (List.mem_of_getElem? (i := 3) rfl)) (by decide) (by decide)) q18a q18c (g := (mkF m 67 #[.val (.int p0), .val (.int p1), .val (.int p2), .val (.int p3), .val (.int x1), .val (.int x2), .val (.ref b3), .val (.int x10), .unset, .unset, .unset] [(.int (x1 - (1 : Int32))), (.ref b3)])) rfl (by rw [hml]; rfl) (Steps.refl _) (argsL := [(.int (x1 - (1 : Int32)))]) (rest := []) (lenOf pd_2 rfl) rfl (by show 2 * 0 + _ ≤ _; exact Nat.le_of_eq rfl) (hb hby at_67) (fun _ _ => ⟨rfl, e15, (by decide : 1 + 0 ≤ _), (by decide : 2 + 0 ≤ _)⟩)
  dsimp only [Pt.U, Pt.locs, Pt.cells, Pt.slots] at X18 l18 y18 z18 st18 hQ18
  subst l18 y18 z18
  obtain ⟨r18, rfl, hr18, Nq18, e18⟩ := hQ18
  have N18 := Fr.app N15 Nq18
  refine gob (fun _ k => st18.trans k) ?_
  show Go _ _ _ _ _ _ _ (T18.setTop (mkF m 70 #[.val (.int p0), .val (.int p1), .val (.int p2), .val (.int p3), .val (.int x1), .val (.int x2), .val (.ref b3), .val (.int x10), .unset, .unset, .unset] [(.int r18)]))
  have hd20 : r18 = (0 : Int32) := ld_0_70_19 p0 p1 x1 x2 r18 hx1 hx2 hr18
  refine gob (fun _ k => XS.ifNo X18.here hx rfl (hb hby at_70) rfl ((if0 _ _).trans (teq hd20).2) k) ?_
  show Go _ _ _ _ _ _ _ (T18.setTop (mkF m 73 #[.val (.int p0), .val (.int p1), .val (.int p2), .val (.int p3), .val (.int x1), .val (.int x2), .val (.ref b3), .val (.int x10), .unset, .unset, .unset] []))
  refine gob (fun _ k => XS.aload X18.here hx rfl (hb hby at_73) rfl rfl k) ?_
  show Go _ _ _ _ _ _ _ (T18.setTop (mkF m 75 #[.val (.int p0), .val (.int p1), .val (.int p2), .val (.int p3), .val (.int x1), .val (.int x2), .val (.ref b3), .val (.int x10), .unset, .unset, .unset] [(.ref b3)]))
  refine gob (fun _ k => XS.iload X18.here hx rfl (hb hby at_75) rfl k) ?_
  show Go _ _ _ _ _ _ _ (T18.setTop (mkF m 77 #[.val (.int p0), .val (.int p1), .val (.int p2), .val (.int p3), .val (.int x1), .val (.int x2), .val (.ref b3), .val (.int x10), .unset, .unset, .unset] [(.int x1), (.ref b3)]))
  refine gob (fun _ k => XS.iload X18.here hx rfl (hb hby at_77) rfl k) ?_
  show Go _ _ _ _ _ _ _ (T18.setTop (mkF m 79 #[.val (.int p0), .val (.int p1), .val (.int p2), .val (.int p3), .val (.int x1), .val (.int x2), .val (.ref b3), .val (.int x10), .unset, .unset, .unset] [(.int x2), (.int x1), (.ref b3)]))
  refine gob (fun _ k => XS.iadd X18.here hx rfl (hb hby at_79) rfl k) ?_
  show Go _ _ _ _ _ _ _ (T18.setTop (mkF m 80 #[.val (.int p0), .val (.int p1), .val (.int p2), .val (.int p3), .val (.int x1), .val (.int x2), .val (.ref b3), .val (.int x10), .unset, .unset, .unset] [(.int (x1 + x2)), (.ref b3)]))
  obtain ⟨cq21, kq21, q21a, q21b, q21c⟩ := isOf hZ e18 c12
  obtain ⟨_, _, ⟨T21, L21, k21, n21⟩, -, X21, ⟨Lc21, hQ21, l21, y21, z21⟩, st21⟩ := X18.virtualBack hx (y := (⟨"com/example/coevolution/coevolution/learn/BCellAlgorithm$Stretch", "contains", "(I)Z"⟩ : MethodName)) (z := (⟨"com/example/coevolution/coevolution/learn/BCellAlgorithm$Stretch", "contains", "(I)Z"⟩ : MethodName)) hown (mvT hZ (hw _ (List.mem_of_getElem? (i := 19) rfl))) (mvT hZ (hw _ (List.mem_of_getElem? (i := 20) rfl))) (notFace_of_selects (args := #[]) (mvT hZ (hw _ (List.mem_of_getElem? (i := 22) rfl)))) (mvT hZ (hw _ (List.mem_of_getElem? (i := 22) rfl))) (mvT hZ (hw _ (List.mem_of_getElem? (i := 21) rfl))) (by decide) (backOf (W := 0) (rm4 l Z a0 hw [] b3 (x1 + x2) x1 x2 T6.heap n0 z9 F7 F8) hZ (hw _ (List.mem_of_getElem? (i := 23) rfl)) (hw _ (List.mem_of_getElem? (i := 3) rfl)) (by decide) (by decide)) q21a q21c (g := (mkF m 80 #[.val (.int p0), .val (.int p1), .val (.int p2), .val (.int p3), .val (.int x1), .val (.int x2), .val (.ref b3), .val (.int x10), .unset, .unset, .unset] [(.int (x1 + x2)), (.ref b3)])) rfl (by rw [hml]; rfl) (Steps.refl _) (argsL := [(.int (x1 + x2))]) (rest := []) (lenOf pd_2 rfl) rfl (by show 2 * 0 + _ ≤ _; exact Nat.le_of_eq rfl) (hb hby at_80) (fun _ _ => ⟨rfl, e18, (by decide : 1 + 0 ≤ _), (by decide : 2 + 0 ≤ _)⟩)
  dsimp only [Pt.U, Pt.locs, Pt.cells, Pt.slots] at X21 l21 y21 z21 st21 hQ21
  subst l21 y21 z21
  obtain ⟨r21, rfl, hr21, Nq21, e21⟩ := hQ21
  have N21 := Fr.app N18 Nq21
  refine gob (fun _ k => st21.trans k) ?_
  show Go _ _ _ _ _ _ _ (T21.setTop (mkF m 83 #[.val (.int p0), .val (.int p1), .val (.int p2), .val (.int p3), .val (.int x1), .val (.int x2), .val (.ref b3), .val (.int x10), .unset, .unset, .unset] [(.int r21)]))
  have hd23 : r21 = (0 : Int32) := ld_0_83_22 p0 p1 x1 x2 r21 hx1 hx2 hr21
  refine gob (fun _ k => XS.ifNo X21.here hx rfl (hb hby at_83) rfl ((if0 _ _).trans (teq hd23).2) k) ?_
  show Go _ _ _ _ _ _ _ (T21.setTop (mkF m 86 #[.val (.int p0), .val (.int p1), .val (.int p2), .val (.int p3), .val (.int x1), .val (.int x2), .val (.ref b3), .val (.int x10), .unset, .unset, .unset] []))
  refine gob (fun _ k => XS.iconst X21.here hx rfl (hb hby at_86) k) ?_
  show Go _ _ _ _ _ _ _ (T21.setTop (mkF m 87 #[.val (.int p0), .val (.int p1), .val (.int p2), .val (.int p3), .val (.int x1), .val (.int x2), .val (.ref b3), .val (.int x10), .unset, .unset, .unset] [(.int (1 : Int32))]))
  refine gob (fun _ k => XS.goto X21.here hx rfl (pc0 := 87) (pc' := 91) rfl (hb hby at_87) (by decide) (by decide) k) ?_
  show Go _ _ _ _ _ _ _ (T21.setTop (mkF m 91 #[.val (.int p0), .val (.int p1), .val (.int p2), .val (.int p3), .val (.int x1), .val (.int x2), .val (.ref b3), .val (.int x10), .unset, .unset, .unset] [(.int (1 : Int32))]))
  refine gob (fun _ k => XS.istore X21.here hx rfl (hb hby at_91) rfl (l' := #[.val (.int p0), .val (.int p1), .val (.int p2), .val (.int p3), .val (.int x1), .val (.int x2), .val (.ref b3), .val (.int x10), .val (.int (1 : Int32)), .unset, .unset]) rfl k) ?_
  show Go _ _ _ _ _ _ _ (T21.setTop (mkF m 93 #[.val (.int p0), .val (.int p1), .val (.int p2), .val (.int p3), .val (.int x1), .val (.int x2), .val (.ref b3), .val (.int x10), .val (.int (1 : Int32)), .unset, .unset] []))
  refine gob (fun _ k => XS.aload X21.here hx rfl (hb hby at_93) rfl rfl k) ?_
  show Go _ _ _ _ _ _ _ (T21.setTop (mkF m 95 #[.val (.int p0), .val (.int p1), .val (.int p2), .val (.int p3), .val (.int x1), .val (.int x2), .val (.ref b3), .val (.int x10), .val (.int (1 : Int32)), .unset, .unset] [(.ref b3)]))
  refine gob (fun _ k => XS.iloadN X21.here hx rfl (hb hby at_95) rfl k) ?_
  show Go _ _ _ _ _ _ _ (T21.setTop (mkF m 96 #[.val (.int p0), .val (.int p1), .val (.int p2), .val (.int p3), .val (.int x1), .val (.int x2), .val (.ref b3), .val (.int x10), .val (.int (1 : Int32)), .unset, .unset] [(.int p2), (.ref b3)]))
  obtain ⟨cq24, kq24, q24a, q24b, q24c⟩ := isOf hZ e21 c12
  obtain ⟨_, _, ⟨T24, L24, k24, n24⟩, -, X24, ⟨Lc24, hQ24, l24, y24, z24⟩, st24⟩ := X21.virtualBack hx (y := (⟨"com/example/coevolution/coevolution/learn/BCellAlgorithm$Stretch", "contains", "(I)Z"⟩ : MethodName)) (z := (⟨"com/example/coevolution/coevolution/learn/BCellAlgorithm$Stretch", "contains", "(I)Z"⟩ : MethodName)) hown (mvT hZ (hw _ (List.mem_of_getElem? (i := 19) rfl))) (mvT hZ (hw _ (List.mem_of_getElem? (i := 20) rfl))) (notFace_of_selects (args := #[]) (mvT hZ (hw _ (List.mem_of_getElem? (i := 22) rfl)))) (mvT hZ (hw _ (List.mem_of_getElem? (i := 22) rfl))) (mvT hZ (hw _ (List.mem_of_getElem? (i := 21) rfl))) (by decide) (backOf (W := 0) (rm4 l Z a0 hw [] b3 p2 x1 x2 T6.heap n0 z9 F7 F8) hZ (hw _ (List.mem_of_getElem? (i := 23) rfl)) (hw _ (List.mem_of_getElem? (i := 3) rfl)) (by decide) (by decide)) q24a q24c (g := (mkF m 96 #[.val (.int p0), .val (.int p1), .val (.int p2), .val (.int p3), .val (.int x1), .val (.int x2), .val (.ref b3), .val (.int x10), .val (.int (1 : Int32)), .unset, .unset] [(.int p2), (.ref b3)])) rfl (by rw [hml]; rfl) (Steps.refl _) (argsL := [(.int p2)]) (rest := []) (lenOf pd_2 rfl) rfl (by show 2 * 0 + _ ≤ _; exact Nat.le_of_eq rfl) (hb hby at_96) (fun _ _ => ⟨rfl, e21, (by decide : 1 + 0 ≤ _), (by decide : 2 + 0 ≤ _)⟩)
  dsimp only [Pt.U, Pt.locs, Pt.cells, Pt.slots] at X24 l24 y24 z24 st24 hQ24
  subst l24 y24 z24
  obtain ⟨r24, rfl, hr24, Nq24, e24⟩ := hQ24
  have N24 := Fr.app N21 Nq24
  refine gob (fun _ k => st24.trans k) ?_
  show Go _ _ _ _ _ _ _ (T24.setTop (mkF m 99 #[.val (.int p0), .val (.int p1), .val (.int p2), .val (.int p3), .val (.int x1), .val (.int x2), .val (.ref b3), .val (.int x10), .val (.int (1 : Int32)), .unset, .unset] [(.int r24)]))
  refine gob (fun _ k => XS.iload X24.here hx rfl (hb hby at_99) rfl k) ?_
  show Go _ _ _ _ _ _ _ (T24.setTop (mkF m 101 #[.val (.int p0), .val (.int p1), .val (.int p2), .val (.int p3), .val (.int x1), .val (.int x2), .val (.ref b3), .val (.int x10), .val (.int (1 : Int32)), .unset, .unset] [(.int x1), (.int r24)]))
  refine gob (fun _ k => XS.iload X24.here hx rfl (hb hby at_101) rfl k) ?_
  show Go _ _ _ _ _ _ _ (T24.setTop (mkF m 103 #[.val (.int p0), .val (.int p1), .val (.int p2), .val (.int p3), .val (.int x1), .val (.int x2), .val (.ref b3), .val (.int x10), .val (.int (1 : Int32)), .unset, .unset] [(.int x2), (.int x1), (.int r24)]))
  refine gob (fun _ k => XS.iloadN X24.here hx rfl (hb hby at_103) rfl k) ?_
  show Go _ _ _ _ _ _ _ (T24.setTop (mkF m 104 #[.val (.int p0), .val (.int p1), .val (.int p2), .val (.int p3), .val (.int x1), .val (.int x2), .val (.ref b3), .val (.int x10), .val (.int (1 : Int32)), .unset, .unset] [(.int p2), (.int x2), (.int x1), (.int r24)]))
  obtain ⟨_, _, ⟨T25, L25, k25, n25⟩, -, X25, ⟨Lc25, hQ25, l25, y25, z25⟩, st25⟩ := Jvm.LawKit.callS X24 hx (y := (⟨"com/example/coevolution/coevolution/learn/BCellAlgorithmContainsPinLaw", "inside", "(III)Z"⟩ : MethodName)) hown (mvT hZ (hw _ (List.mem_of_getElem? (i := 24) rfl))) (mvT hZ (hw _ (List.mem_of_getElem? (i := 25) rfl))) (mvT hZ (hw _ (List.mem_of_getElem? (i := 26) rfl))) (mvT hZ (hw _ (List.mem_of_getElem? (i := 27) rfl))) (by decide) (backOf (W := 1) (rm5 l Z a0 hw [] x1 x2 p2 T6.heap n0 z9 ) hZ (hw _ (List.mem_of_getElem? (i := 27) rfl)) (hw _ (List.mem_of_getElem? (i := 26) rfl)) (by decide) (by decide)) (g := (mkF m 104 #[.val (.int p0), .val (.int p1), .val (.int p2), .val (.int p3), .val (.int x1), .val (.int x2), .val (.ref b3), .val (.int x10), .val (.int (1 : Int32)), .unset, .unset] [(.int p2), (.int x2), (.int x1), (.int r24)])) rfl (by rw [hml]; rfl) (argsL := [(.int x1), (.int x2), (.int p2)]) (rest := [(.int r24)]) (lenOf pd_3 rfl) rfl (by show 2 * 0 + _ ≤ _; exact Nat.le_of_eq rfl) (hb hby at_104) (fun _ _ => ⟨rfl, e24, (by decide : 1 + 0 ≤ _), (by decide : 2 + 0 ≤ _)⟩)
  dsimp only [Pt.U, Pt.locs, Pt.cells, Pt.slots] at X25 l25 y25 z25 st25 hQ25
  subst l25 y25 z25
  obtain ⟨r25, rfl, hr25, Nq25, e25⟩ := hQ25
  have N25 := Fr.app N24 Nq25
  refine gob st25 ?_
  show Go _ _ _ _ _ _ _ (T25.setTop (mkF m 107 #[.val (.int p0), .val (.int p1), .val (.int p2), .val (.int p3), .val (.int x1), .val (.int x2), .val (.ref b3), .val (.int x10), .val (.int (1 : Int32)), .unset, .unset] [(.int r25), (.int r24)]))
  have hd27 : r24 = r25 := ld_0_107_26 p0 p1 p2 x1 x2 r24 r25 hx1 hx2 hr24 hr25
  refine gob (fun _ k => XS.icmpNo X25.here hx rfl (hb hby at_107) rfl (teq hd27).2 k) ?_
  show Go _ _ _ _ _ _ _ (T25.setTop (mkF m 110 #[.val (.int p0), .val (.int p1), .val (.int p2), .val (.int p3), .val (.int x1), .val (.int x2), .val (.ref b3), .val (.int x10), .val (.int (1 : Int32)), .unset, .unset] []))
  refine gob (fun _ k => XS.iconst X25.here hx rfl (hb hby at_110) k) ?_
  show Go _ _ _ _ _ _ _ (T25.setTop (mkF m 111 #[.val (.int p0), .val (.int p1), .val (.int p2), .val (.int p3), .val (.int x1), .val (.int x2), .val (.ref b3), .val (.int x10), .val (.int (1 : Int32)), .unset, .unset] [(.int (1 : Int32))]))
  refine gob (fun _ k => XS.goto X25.here hx rfl (pc0 := 111) (pc' := 115) rfl (hb hby at_111) (by decide) (by decide) k) ?_
  show Go _ _ _ _ _ _ _ (T25.setTop (mkF m 115 #[.val (.int p0), .val (.int p1), .val (.int p2), .val (.int p3), .val (.int x1), .val (.int x2), .val (.ref b3), .val (.int x10), .val (.int (1 : Int32)), .unset, .unset] [(.int (1 : Int32))]))
  refine gob (fun _ k => XS.istore X25.here hx rfl (hb hby at_115) rfl (l' := #[.val (.int p0), .val (.int p1), .val (.int p2), .val (.int p3), .val (.int x1), .val (.int x2), .val (.ref b3), .val (.int x10), .val (.int (1 : Int32)), .val (.int (1 : Int32)), .unset]) rfl k) ?_
  show Go _ _ _ _ _ _ _ (T25.setTop (mkF m 117 #[.val (.int p0), .val (.int p1), .val (.int p2), .val (.int p3), .val (.int x1), .val (.int x2), .val (.ref b3), .val (.int x10), .val (.int (1 : Int32)), .val (.int (1 : Int32)), .unset] []))
  refine gob (fun _ k => XS.aload X25.here hx rfl (hb hby at_117) rfl rfl k) ?_
  show Go _ _ _ _ _ _ _ (T25.setTop (mkF m 119 #[.val (.int p0), .val (.int p1), .val (.int p2), .val (.int p3), .val (.int x1), .val (.int x2), .val (.ref b3), .val (.int x10), .val (.int (1 : Int32)), .val (.int (1 : Int32)), .unset] [(.ref b3)]))
  refine gob (fun _ k => XS.iload X25.here hx rfl (hb hby at_119) rfl k) ?_
  show Go _ _ _ _ _ _ _ (T25.setTop (mkF m 121 #[.val (.int p0), .val (.int p1), .val (.int p2), .val (.int p3), .val (.int x1), .val (.int x2), .val (.ref b3), .val (.int x10), .val (.int (1 : Int32)), .val (.int (1 : Int32)), .unset] [(.int x10), (.ref b3)]))
  obtain ⟨cq28, kq28, q28a, q28b, q28c⟩ := isOf hZ e25 c12
  obtain ⟨_, _, ⟨T28, L28, k28, n28⟩, -, X28, ⟨Lc28, hQ28, l28, y28, z28⟩, st28⟩ := X25.virtualBack hx (y := (⟨"com/example/coevolution/coevolution/learn/BCellAlgorithm$Stretch", "contains", "(I)Z"⟩ : MethodName)) (z := (⟨"com/example/coevolution/coevolution/learn/BCellAlgorithm$Stretch", "contains", "(I)Z"⟩ : MethodName)) hown (mvT hZ (hw _ (List.mem_of_getElem? (i := 19) rfl))) (mvT hZ (hw _ (List.mem_of_getElem? (i := 20) rfl))) (notFace_of_selects (args := #[]) (mvT hZ (hw _ (List.mem_of_getElem? (i := 22) rfl)))) (mvT hZ (hw _ (List.mem_of_getElem? (i := 22) rfl))) (mvT hZ (hw _ (List.mem_of_getElem? (i := 21) rfl))) (by decide) (backOf (W := 0) (rm4 l Z a0 hw [] b3 x10 x1 x2 T6.heap n0 z9 F7 F8) hZ (hw _ (List.mem_of_getElem? (i := 23) rfl)) (hw _ (List.mem_of_getElem? (i := 3) rfl)) (by decide) (by decide)) q28a q28c (g := (mkF m 121 #[.val (.int p0), .val (.int p1), .val (.int p2), .val (.int p3), .val (.int x1), .val (.int x2), .val (.ref b3), .val (.int x10), .val (.int (1 : Int32)), .val (.int (1 : Int32)), .unset] [(.int x10), (.ref b3)])) rfl (by rw [hml]; rfl) (Steps.refl _) (argsL := [(.int x10)]) (rest := []) (lenOf pd_2 rfl) rfl (by show 2 * 0 + _ ≤ _; exact Nat.le_of_eq rfl) (hb hby at_121) (fun _ _ => ⟨rfl, e25, (by decide : 1 + 0 ≤ _), (by decide : 2 + 0 ≤ _)⟩)
  dsimp only [Pt.U, Pt.locs, Pt.cells, Pt.slots] at X28 l28 y28 z28 st28 hQ28
  subst l28 y28 z28
  obtain ⟨r28, rfl, hr28, Nq28, e28⟩ := hQ28
  have N28 := Fr.app N25 Nq28
  refine gob (fun _ k => st28.trans k) ?_
  show Go _ _ _ _ _ _ _ (T28.setTop (mkF m 124 #[.val (.int p0), .val (.int p1), .val (.int p2), .val (.int p3), .val (.int x1), .val (.int x2), .val (.ref b3), .val (.int x10), .val (.int (1 : Int32)), .val (.int (1 : Int32)), .unset] [(.int r28)]))
  refine gob (fun _ k => XS.iload X28.here hx rfl (hb hby at_124) rfl k) ?_
  show Go _ _ _ _ _ _ _ (T28.setTop (mkF m 126 #[.val (.int p0), .val (.int p1), .val (.int p2), .val (.int p3), .val (.int x1), .val (.int x2), .val (.ref b3), .val (.int x10), .val (.int (1 : Int32)), .val (.int (1 : Int32)), .unset] [(.int x1), (.int r28)]))
  refine gob (fun _ k => XS.iload X28.here hx rfl (hb hby at_126) rfl k) ?_
  show Go _ _ _ _ _ _ _ (T28.setTop (mkF m 128 #[.val (.int p0), .val (.int p1), .val (.int p2), .val (.int p3), .val (.int x1), .val (.int x2), .val (.ref b3), .val (.int x10), .val (.int (1 : Int32)), .val (.int (1 : Int32)), .unset] [(.int x2), (.int x1), (.int r28)]))
  refine gob (fun _ k => XS.iload X28.here hx rfl (hb hby at_128) rfl k) ?_
  show Go _ _ _ _ _ _ _ (T28.setTop (mkF m 130 #[.val (.int p0), .val (.int p1), .val (.int p2), .val (.int p3), .val (.int x1), .val (.int x2), .val (.ref b3), .val (.int x10), .val (.int (1 : Int32)), .val (.int (1 : Int32)), .unset] [(.int x10), (.int x2), (.int x1), (.int r28)]))
  obtain ⟨_, _, ⟨T29, L29, k29, n29⟩, -, X29, ⟨Lc29, hQ29, l29, y29, z29⟩, st29⟩ := Jvm.LawKit.callS X28 hx (y := (⟨"com/example/coevolution/coevolution/learn/BCellAlgorithmContainsPinLaw", "inside", "(III)Z"⟩ : MethodName)) hown (mvT hZ (hw _ (List.mem_of_getElem? (i := 24) rfl))) (mvT hZ (hw _ (List.mem_of_getElem? (i := 25) rfl))) (mvT hZ (hw _ (List.mem_of_getElem? (i := 26) rfl))) (mvT hZ (hw _ (List.mem_of_getElem? (i := 27) rfl))) (by decide) (backOf (W := 1) (rm5 l Z a0 hw [] x1 x2 x10 T6.heap n0 z9 ) hZ (hw _ (List.mem_of_getElem? (i := 27) rfl)) (hw _ (List.mem_of_getElem? (i := 26) rfl)) (by decide) (by decide)) (g := (mkF m 130 #[.val (.int p0), .val (.int p1), .val (.int p2), .val (.int p3), .val (.int x1), .val (.int x2), .val (.ref b3), .val (.int x10), .val (.int (1 : Int32)), .val (.int (1 : Int32)), .unset] [(.int x10), (.int x2), (.int x1), (.int r28)])) rfl (by rw [hml]; rfl) (argsL := [(.int x1), (.int x2), (.int x10)]) (rest := [(.int r28)]) (lenOf pd_3 rfl) rfl (by show 2 * 0 + _ ≤ _; exact Nat.le_of_eq rfl) (hb hby at_130) (fun _ _ => ⟨rfl, e28, (by decide : 1 + 0 ≤ _), (by decide : 2 + 0 ≤ _)⟩)
  dsimp only [Pt.U, Pt.locs, Pt.cells, Pt.slots] at X29 l29 y29 z29 st29 hQ29
  subst l29 y29 z29
  obtain ⟨r29, rfl, hr29, Nq29, e29⟩ := hQ29
  have N29 := Fr.app N28 Nq29
  refine gob st29 ?_
  show Go _ _ _ _ _ _ _ (T29.setTop (mkF m 133 #[.val (.int p0), .val (.int p1), .val (.int p2), .val (.int p3), .val (.int x1), .val (.int x2), .val (.ref b3), .val (.int x10), .val (.int (1 : Int32)), .val (.int (1 : Int32)), .unset] [(.int r29), (.int r28)]))
  have hd31 : r28 = r29 := ld_0_133_30 p0 p1 p3 x1 x2 x10 r28 r29 hx1 hx2 hx10 hr28 hr29
  refine gob (fun _ k => XS.icmpNo X29.here hx rfl (hb hby at_133) rfl (teq hd31).2 k) ?_
  show Go _ _ _ _ _ _ _ (T29.setTop (mkF m 136 #[.val (.int p0), .val (.int p1), .val (.int p2), .val (.int p3), .val (.int x1), .val (.int x2), .val (.ref b3), .val (.int x10), .val (.int (1 : Int32)), .val (.int (1 : Int32)), .unset] []))
  refine gob (fun _ k => XS.iconst X29.here hx rfl (hb hby at_136) k) ?_
  show Go _ _ _ _ _ _ _ (T29.setTop (mkF m 137 #[.val (.int p0), .val (.int p1), .val (.int p2), .val (.int p3), .val (.int x1), .val (.int x2), .val (.ref b3), .val (.int x10), .val (.int (1 : Int32)), .val (.int (1 : Int32)), .unset] [(.int (1 : Int32))]))
  refine gob (fun _ k => XS.goto X29.here hx rfl (pc0 := 137) (pc' := 141) rfl (hb hby at_137) (by decide) (by decide) k) ?_
  show Go _ _ _ _ _ _ _ (T29.setTop (mkF m 141 #[.val (.int p0), .val (.int p1), .val (.int p2), .val (.int p3), .val (.int x1), .val (.int x2), .val (.ref b3), .val (.int x10), .val (.int (1 : Int32)), .val (.int (1 : Int32)), .unset] [(.int (1 : Int32))]))
  refine gob (fun _ k => XS.istore X29.here hx rfl (hb hby at_141) rfl (l' := #[.val (.int p0), .val (.int p1), .val (.int p2), .val (.int p3), .val (.int x1), .val (.int x2), .val (.ref b3), .val (.int x10), .val (.int (1 : Int32)), .val (.int (1 : Int32)), .val (.int (1 : Int32))]) rfl k) ?_
  show Go _ _ _ _ _ _ _ (T29.setTop (mkF m 143 #[.val (.int p0), .val (.int p1), .val (.int p2), .val (.int p3), .val (.int x1), .val (.int x2), .val (.ref b3), .val (.int x10), .val (.int (1 : Int32)), .val (.int (1 : Int32)), .val (.int (1 : Int32))] []))
  refine gob (fun _ k => XS.iload X29.here hx rfl (hb hby at_143) rfl k) ?_
  show Go _ _ _ _ _ _ _ (T29.setTop (mkF m 145 #[.val (.int p0), .val (.int p1), .val (.int p2), .val (.int p3), .val (.int x1), .val (.int x2), .val (.ref b3), .val (.int x10), .val (.int (1 : Int32)), .val (.int (1 : Int32)), .val (.int (1 : Int32))] [(.int (1 : Int32))]))
  refine gob (fun _ k => XS.ifNo X29.here hx rfl (hb hby at_145) rfl ((if0 _ _).trans (feq (by decide : ¬ ((1 : Int32) = (0 : Int32)))).1) k) ?_
  show Go _ _ _ _ _ _ _ (T29.setTop (mkF m 148 #[.val (.int p0), .val (.int p1), .val (.int p2), .val (.int p3), .val (.int x1), .val (.int x2), .val (.ref b3), .val (.int x10), .val (.int (1 : Int32)), .val (.int (1 : Int32)), .val (.int (1 : Int32))] []))
  refine gob (fun _ k => XS.iload X29.here hx rfl (hb hby at_148) rfl k) ?_
  show Go _ _ _ _ _ _ _ (T29.setTop (mkF m 150 #[.val (.int p0), .val (.int p1), .val (.int p2), .val (.int p3), .val (.int x1), .val (.int x2), .val (.ref b3), .val (.int x10), .val (.int (1 : Int32)), .val (.int (1 : Int32)), .val (.int (1 : Int32))] [(.int (1 : Int32))]))
  refine gob (fun _ k => XS.ifNo X29.here hx rfl (hb hby at_150) rfl ((if0 _ _).trans (feq (by decide : ¬ ((1 : Int32) = (0 : Int32)))).1) k) ?_
  show Go _ _ _ _ _ _ _ (T29.setTop (mkF m 153 #[.val (.int p0), .val (.int p1), .val (.int p2), .val (.int p3), .val (.int x1), .val (.int x2), .val (.ref b3), .val (.int x10), .val (.int (1 : Int32)), .val (.int (1 : Int32)), .val (.int (1 : Int32))] []))
  refine gob (fun _ k => XS.iload X29.here hx rfl (hb hby at_153) rfl k) ?_
  show Go _ _ _ _ _ _ _ (T29.setTop (mkF m 155 #[.val (.int p0), .val (.int p1), .val (.int p2), .val (.int p3), .val (.int x1), .val (.int x2), .val (.ref b3), .val (.int x10), .val (.int (1 : Int32)), .val (.int (1 : Int32)), .val (.int (1 : Int32))] [(.int (1 : Int32))]))
  refine gob (fun _ k => XS.ifNo X29.here hx rfl (hb hby at_155) rfl ((if0 _ _).trans (feq (by decide : ¬ ((1 : Int32) = (0 : Int32)))).1) k) ?_
  show Go _ _ _ _ _ _ _ (T29.setTop (mkF m 158 #[.val (.int p0), .val (.int p1), .val (.int p2), .val (.int p3), .val (.int x1), .val (.int x2), .val (.ref b3), .val (.int x10), .val (.int (1 : Int32)), .val (.int (1 : Int32)), .val (.int (1 : Int32))] []))
  refine gob (fun _ k => XS.iconst X29.here hx rfl (hb hby at_158) k) ?_
  show Go _ _ _ _ _ _ _ (T29.setTop (mkF m 159 #[.val (.int p0), .val (.int p1), .val (.int p2), .val (.int p3), .val (.int x1), .val (.int x2), .val (.ref b3), .val (.int x10), .val (.int (1 : Int32)), .val (.int (1 : Int32)), .val (.int (1 : Int32))] [(.int (1 : Int32))]))
  refine gob (fun _ k => XS.goto X29.here hx rfl (pc0 := 159) (pc' := 163) rfl (hb hby at_159) (by decide) (by decide) k) ?_
  show Go _ _ _ _ _ _ _ (T29.setTop (mkF m 163 #[.val (.int p0), .val (.int p1), .val (.int p2), .val (.int p3), .val (.int x1), .val (.int x2), .val (.ref b3), .val (.int x10), .val (.int (1 : Int32)), .val (.int (1 : Int32)), .val (.int (1 : Int32))] [(.int (1 : Int32))]))
  refine goZ X29 hx hlk (t := .boolean) Bd.returns (by simp) (hb hby at_163) (z' := (1 : Int32)) rfl ?_ (by decide) (by decide)
  show Q0 Z p0 p1 p2 p3 h0 n0 (some (.int (1 : Int32))) T29.heap _
  exact ⟨rfl, N29⟩
set_option maxRecDepth 65536 in
set_option maxHeartbeats 40000000 in
theorem comes_1 {Post : Tables → Env → Array Value → State → Outcome → State → Prop} (hpost : ∀ tb e args s v u, (limb_1_1.after args s (.returned v) u = true ∧ limb_1_2.after args s (.returned v) u = true ∧ True) → FrameEnd s (.returned v) u (Jvm.fieldLocs frame_1_writes args s ++ Jvm.arrayLocs frame_1_arrays args s ++ Jvm.staticLocs frame_1_statics s) 16 128 → Post tb e args s (.returned v) u) :
    ArmFor flags0 classFile x code maxLocals ret World_1 tables_1 room_1 Calls_1 rest_1 Pre_1 Post := by
  intro l hfl _ _ p e ha hc hk s m args below hf hA hF happ hP
  obtain ⟨hcalls, hrest, hpre⟩ := hP
  obtain ⟨-, -, -, hnamed, -, -, -, hat⟩ := (Spec.applies_iff hf).mp happ
  obtain ⟨hg, hn⟩ := and_e (Cond.before_iff.mp (show (Jvm.Cond.and given_1 narrow_1).before args s = true from hpre))
  obtain ⟨g1, g2⟩ := and_e hg
  obtain ⟨g3, g4⟩ := and_e g2
  obtain ⟨g5, g6⟩ := and_e g4
  obtain ⟨g7, g8⟩ := and_e g6
  obtain ⟨w0, w1, w2, w3, rfl⟩ : ∃ w0 w1 w2 w3 : Value, args = #[w0, w1, w2, w3] := by
    have hs : args.size = 4 := by simpa [Cond.value, given_1] using g1
    obtain ⟨L⟩ := args
    match L, hs with
    | [w0, w1, w2, w3], _ => exact ⟨w0, w1, w2, w3, rfl⟩
  have hw := fun d (hd : d ∈ tables_1) => atoms_spec (ws := Jvm.Cond.code x code maxLocals ret :: tables_1) hat d (List.mem_cons_of_mem _ hd)
  have hfit : Fit s := fun {y c} hc i hi => by
    obtain ⟨ha, rfl⟩ := Array.getElem?_eq_some_iff.mp hc
    have q := List.all_eq_true.mp ((Array.all_eq_true_iff_forall_mem.mp hF) _ (Array.getElem_mem ha)) i (List.mem_range.mpr hi)
    simpa [Array.getElem?_eq_getElem hi] using q
  obtain ⟨i0, ei0⟩ := is_v g3
  obtain rfl : w0 = (.int i0) := Option.some.inj ei0
  obtain ⟨i1, ei1⟩ := is_v g5
  obtain rfl : w1 = (.int i1) := Option.some.inj ei1
  obtain ⟨i2, ei2⟩ := is_v g7
  obtain rfl : w2 = (.int i2) := Option.some.inj ei2
  obtain ⟨i3, ei3⟩ := is_v g8
  obtain rfl : w3 = (.int i3) := Option.some.inj ei3
  obtain ⟨n, o, h1, h2, h3, _, L, rfl, ⟨rfl, N⟩, hq⟩ := rm0 l s _ hw tables_1 i0 i1 i2 i3 s.heap s.heap.size (Nat.le_refl _)  p e ha hc hk s m _ below hf ((Spec.applies_iff_loose hf).mp happ).1 ⟨rfl, State.Warmed39.refl s, rfl⟩ trivial
  exact ⟨n, _, h1, h2, h3, hpost _ _ _ _ _ _ ⟨Cond.after_iff.mpr rfl, Cond.after_iff.mpr (eq_i res_at (Term.int_eval (1)) rfl), trivial⟩ ⟨hq.1, hq.2.1, (hq.2.2.sift fun y hy => Or.inr (N y hy)).mono (by decide) (by decide)⟩⟩
theorem main_1_1 : Claimed_1_1 := comes_1 fun _ _ _ _ _ _ h hF => ⟨h.1, hF⟩
theorem main_1_2 : Claimed_1_2 := comes_1 fun _ _ _ _ _ _ h hF => ⟨h.2.1, hF⟩
end Jvm.Pilot.@@N@@
namespace Jvm.Pilot.@@N@@
open Jvm Jvm.ClassFile Sem Op Lib Jvm.Free Jvm.Stand Jvm.Pilot.@@N@@.Jvm.D
/-! MADE BY PROGRAM (witnessworld.py) out of the Statement's table words and the real class files: 10 classes; the members and pool entries that the words name. The judged class is class 1, her method 2. -/
namespace start1
open Jvm.ClassFile
def u (s : String) : CpInfo := .utf8 (stringToUtf16 s)
/-- a pool by its gaps: so many unusable entries, then the entry; so many at the end -/
def gap : Nat → List CpInfo → List CpInfo
  | 0, r => r
  | n + 1, r => .unusable :: gap n r
def poolList (es : List (Nat × CpInfo)) (last : Nat) : List CpInfo := es.foldr (fun e r => gap e.1 (e.2 :: r)) (gap last [])
def pool (es : List (Nat × CpInfo)) (last : Nat) : Array CpInfo := ⟨poolList es last⟩
def fileOf (pool : Array CpInfo) (this : Nat) (attrs : Array Attribute := #[]) (ms : Array MethodInfo := #[]) (fl : Nat := 33) (sup : Nat := 0) (ifs : Array Nat := #[]) (fds : Array FieldInfo := #[]) : ClassFile where
  minorVersion := 0
  majorVersion := 65
  constantPool := pool
  accessFlags := fl
  thisClass := this
  superClass := sup
  interfaces := ifs
  fields := fds
  methods := ms
  attributes := attrs
def plain (name : String) (sup : Option ClassId) : Class where
  name := name
  kind := .ordinary
  loader := none
  accessFlags := 33
  super := sup
  interfaces := #[]
  cf := none
  fields := #[]
  methods := #[]
  instanceTypes := #[]
  staticTypes := #[]
  resolved := #[]
  callSites := []
  init := .initialized
  statics := none
  mirror := none

def pool0 : Array CpInfo := pool [(5, u "<init>"), (0, u "()V"), (1, .class_ 10), (1, u "java/lang/Object")] 113

def k0c0 : Code := { maxStack := 0, maxLocals := 1, code := object_method_1_code, exceptionTable := #[], attributes := #[] }
def k0m0 : Method := { name := "<init>", desc := "()V", sig := { parameters := [], returnType := none }, accessFlags := 1, code := some k0c0 }
/-- java/lang/Object -/
def k0 : Class := { plain "java/lang/Object" none with
  accessFlags := 33
  interfaces := #[]
  cf := some (fileOf pool0 8 #[] #[{ accessFlags := 1, nameIndex := 5, descriptorIndex := 6, attributes := #[] }] 33 0 #[] #[])
  fields := #[]
  methods := #[k0m0]
  instanceTypes := #[]
  staticTypes := #[]
  resolved := Array.replicate 124 none
  statics := none }

def pool1 : Array CpInfo := pool [(2, .class_ 4), (1, u "java/lang/Object"), (0, u "<init>"), (0, u "()V"), (0, .integer 1073741823), (0, .class_ 9), (0, u "com/example/coevolution/coevolution/learn/BCellAlgorithm$Stretch"), (0, .methodref 8 11), (0, .nameAndType 5 12), (0, u "(II)V"), (0, .methodref 8 14), (0, .nameAndType 15 16), (0, u "contains"), (0, u "(I)Z"), (0, .methodref 18 19), (0, .class_ 20), (0, .nameAndType 21 22), (0, u "com/example/coevolution/coevolution/learn/BCellAlgorithmContainsPinLaw"), (0, u "inside"), (0, u "(III)Z"), (3, u "law"), (0, u "(IIII)Z")] 6

def k1m0 : Method := { name := "<init>", desc := "()V", sig := { parameters := [], returnType := none }, accessFlags := 2, code := none }
def k1c1 : Code := { maxStack := 4, maxLocals := 5, code := method_2_code, exceptionTable := #[], attributes := #[] }
def k1m1 : Method := { name := "inside", desc := "(III)Z", sig := { parameters := [.int, .int, .int], returnType := some .boolean }, accessFlags := 10, code := some k1c1 }
def k1c2 : Code := { maxStack := 4, maxLocals := 11, code := code, exceptionTable := #[], attributes := #[] }
def k1m2 : Method := { name := "law", desc := "(IIII)Z", sig := { parameters := [.int, .int, .int, .int], returnType := some .boolean }, accessFlags := 9, code := some k1c2 }
/-- com/example/coevolution/coevolution/learn/BCellAlgorithmContainsPinLaw -/
def k1 : Class := { plain "com/example/coevolution/coevolution/learn/BCellAlgorithmContainsPinLaw" (some 0) with
  accessFlags := 49
  interfaces := #[]
  cf := some (fileOf pool1 18 #[] #[{ accessFlags := 2, nameIndex := 5, descriptorIndex := 6, attributes := #[] }, { accessFlags := 10, nameIndex := 21, descriptorIndex := 22, attributes := #[] }, { accessFlags := 9, nameIndex := 26, descriptorIndex := 27, attributes := #[] }] 49 2 #[] #[])
  fields := #[]
  methods := #[k1m0, k1m1, k1m2]
  instanceTypes := #[]
  staticTypes := #[]
  resolved := Array.replicate 34 none
  statics := none }

def pool2 : Array CpInfo := pool [(1, .methodref 2 3), (0, .class_ 4), (0, .nameAndType 5 6), (0, u "java/lang/Object"), (0, u "<init>"), (0, u "()V"), (0, .class_ 8), (0, u "java/lang/Record")] 13

def k2c0 : Code := { maxStack := 1, maxLocals := 1, code := jdk_30_method_1_code, exceptionTable := #[], attributes := #[] }
def k2m0 : Method := { name := "<init>", desc := "()V", sig := { parameters := [], returnType := none }, accessFlags := 4, code := some k2c0 }
/-- java/lang/Record -/
def k2 : Class := { plain "java/lang/Record" (some 0) with
  accessFlags := 1057
  interfaces := #[]
  cf := some (fileOf pool2 7 #[] #[{ accessFlags := 4, nameIndex := 5, descriptorIndex := 6, attributes := #[] }] 1057 2 #[] #[])
  fields := #[]
  methods := #[k2m0]
  instanceTypes := #[]
  staticTypes := #[]
  resolved := Array.replicate 22 none
  statics := none }

def pool3 : Array CpInfo := pool [(1, .methodref 2 3), (0, .class_ 4), (0, .nameAndType 5 6), (0, u "java/lang/Record"), (0, u "<init>"), (0, u "()V"), (0, .fieldref 8 9), (0, .class_ 10), (0, .nameAndType 11 12), (0, u "com/example/coevolution/coevolution/learn/BCellAlgorithm$Stretch"), (0, u "first"), (0, u "I"), (0, .fieldref 8 14), (0, .nameAndType 15 12), (0, u "length"), (12, u "(II)V"), (3, u "contains"), (0, u "(I)Z"), (7, .class_ 42), (0, u "com/example/coevolution/coevolution/learn/BCellAlgorithm")] 20

def k3c0 : Code := { maxStack := 2, maxLocals := 3, code := prog_35_method_1_code, exceptionTable := #[], attributes := #[] }
def k3m0 : Method := { name := "<init>", desc := "(II)V", sig := { parameters := [.int, .int], returnType := none }, accessFlags := 0, code := some k3c0 }
def k3c1 : Code := { maxStack := 3, maxLocals := 2, code := prog_35_method_2_code, exceptionTable := #[], attributes := #[] }
def k3m1 : Method := { name := "contains", desc := "(I)Z", sig := { parameters := [.int], returnType := some .boolean }, accessFlags := 0, code := some k3c1 }
/-- com/example/coevolution/coevolution/learn/BCellAlgorithm$Stretch -/
def k3 : Class := { plain "com/example/coevolution/coevolution/learn/BCellAlgorithm$Stretch" (some 2) with
  accessFlags := 48
  interfaces := #[]
  cf := some (fileOf pool3 8 #[.nestHost 41] #[{ accessFlags := 0, nameIndex := 5, descriptorIndex := 28, attributes := #[] }, { accessFlags := 0, nameIndex := 32, descriptorIndex := 33, attributes := #[] }] 48 2 #[] #[{ accessFlags := 18, nameIndex := 11, descriptorIndex := 12, attributes := #[] }, { accessFlags := 18, nameIndex := 15, descriptorIndex := 12, attributes := #[] }])
  fields := #[{ name := "first", type := .int, accessFlags := 18, slot := 0, constantValue := 0 }, { name := "length", type := .int, accessFlags := 18, slot := 1, constantValue := 0 }]
  methods := #[k3m0, k3m1]
  instanceTypes := #[.int, .int]
  staticTypes := #[]
  resolved := Array.replicate 63 none
  statics := none }

def pool4 : Array CpInfo := pool [(1, u "java/lang/Cloneable"), (0, .class_ 1), (0, u "java/lang/Object"), (0, .class_ 3)] 3

/-- java/lang/Cloneable -/
def k4 : Class := { plain "java/lang/Cloneable" (some 0) with
  accessFlags := 1537
  interfaces := #[]
  cf := some (fileOf pool4 2 #[] #[] 1537 4 #[] #[])
  fields := #[]
  methods := #[]
  instanceTypes := #[]
  staticTypes := #[]
  resolved := Array.replicate 8 none
  statics := none }

def pool5 : Array CpInfo := pool [(1, u "java/io/Serializable"), (0, .class_ 1), (0, u "java/lang/Object"), (0, .class_ 3)] 3

/-- java/io/Serializable -/
def k5 : Class := { plain "java/io/Serializable" (some 0) with
  accessFlags := 1537
  interfaces := #[]
  cf := some (fileOf pool5 2 #[] #[] 1537 4 #[] #[])
  fields := #[]
  methods := #[]
  instanceTypes := #[]
  staticTypes := #[]
  resolved := Array.replicate 8 none
  statics := none }

/-- the primitive byte -/
def k6 : Class := { plain "byte" none with kind := .primitive 'B', accessFlags := 0x411 }
/-- [B -/
def k7 : Class := { plain "[B" (some 0) with kind := .array 6 .byte, interfaces := #[4, 5], accessFlags := 1041 }

/-- the primitive int -/
def k8 : Class := { plain "int" none with kind := .primitive 'I', accessFlags := 0x411 }
/-- [I -/
def k9 : Class := { plain "[I" (some 0) with kind := .array 8 .int, interfaces := #[4, 5], accessFlags := 1041 }

def heap : Heap := #[]
def classes : Array Class := #[k0, k1, k2, k3, k4, k5, k6, k7, k8, k9]
def interned : List (Array UInt16 × Addr) := []
def slotsUsed : Nat := 0
def theMethod : MethodId := ⟨1, 2⟩
def args0 : Array Value := #[.int 5, .int 9, .int 7, .int 3]
def aboutOver (below : List Frame) : State where
  vm := { classes := classes, interned := interned.toArray }
  heap := heap
  slotsUsed := slotsUsed
  threads := #[{ frames := .invoking theMethod args0 :: below }]
def below0 : List Frame := [.native { method := ⟨0, 0⟩, args := #[] }]
def about1 : State := aboutOver below0
def p0 : Program := .bare "" "" ""
def e0 : Env := launch0.env 0 0 0
theorem w_frames : about1.frames = Frame.invoking theMethod args0 :: below0 := rfl
set_option maxRecDepth 65536 in
theorem w_args : argsFit about1.vm theMethod args0 = true := by decide +kernel
set_option maxRecDepth 65536 in
theorem w_heap : heapFits about1 = true := by decide +kernel
set_option maxRecDepth 65536 in
theorem w_runnable : about1.curStatus? = some .runnable := by decide +kernel
set_option maxRecDepth 65536 in
theorem w_alone : about1.alone = true := by decide +kernel
set_option maxRecDepth 65536 in
theorem w_named : about1.methodNamed? x = some theMethod := by decide +kernel
set_option maxRecDepth 65536 in
theorem w_hears : about1.hears theMethod below0 = true := by decide +kernel
set_option maxRecDepth 65536 in
theorem w_ripe : about1.ripe theMethod args0 below0 = true := by decide +kernel
theorem w_running : about1.status = .running := rfl
set_option maxRecDepth 65536 in
theorem w_room : about1.hasRoom e0.platform room_1 = true :=
  launch0.hasRoom_least _ room_1 (by decide +kernel) (by decide +kernel) (by decide +kernel) (by decide +kernel) (by decide +kernel) (by decide +kernel)
theorem allAtoms_all (ts : List Jvm.Cond) (a : Array Jvm.Value) (st : Jvm.State) : (allAtoms ts).before a st = ts.all (fun c => c.before a st) := by
  induction ts with
  | nil => rfl
  | cons c t ih =>
    show (Jvm.Cond.and c (allAtoms t)).before a st = _
    rw [Jvm.Cond.before_and, ih, List.all_cons]
def words1 : List Jvm.Cond := Jvm.Cond.code x code maxLocals ret :: tables_1
/-- a 'code' word, met by the world's own term for the bytes: nothing is compared byte by byte -/
theorem code_word {y : MethodName} {bytes : ByteArray} {mx : Nat} {rt : Option FieldType} {a : Array Value} {s : State} {m : MethodId} {meth : Method} {c : Code} (h1 : s.methodNamed? y = some m) (h2 : s.vm.method? m = some meth) (h3 : meth.code = some c) (h4 : c.code = bytes)
    (h5 : (c.maxLocals == mx && c.exceptionTable.isEmpty && decide (c.maxStack ≤ mostOperands) && decide (meth.sig.returnType = rt) && !meth.locks && decide (parseMethodDescriptor y.desc = some meth.sig)) = true) : (Jvm.Cond.code y bytes mx rt).before a s = true := by
  simp only [Bool.and_eq_true, beq_iff_eq, Bool.not_eq_true', decide_eq_true_eq] at h5
  obtain ⟨⟨⟨⟨⟨g1, g2⟩, g3⟩, g4⟩, g5⟩, g6⟩ := h5
  simp [Cond.before, Cond.holds, Cond.value, h1, h2, h3, h4, g1, g2, g3, g4, g5, g6]
def isCode : Jvm.Cond → Bool
  | .code _ _ _ _ => true
  | _ => false
theorem all_split {L : List Jvm.Cond} {P : Jvm.Cond → Bool} (h1 : L.all (fun c => isCode c || P c) = true) (h2 : ∀ c ∈ L.filter isCode, P c = true) : L.all P = true := by
  refine List.all_eq_true.mpr fun c hc => ?_
  have h := List.all_eq_true.mp h1 c hc
  rcases Bool.eq_false_or_eq_true (isCode c) with hi | hi
  · exact h2 c (List.mem_filter.mpr ⟨hc, hi⟩)
  · simpa [hi] using h
set_option maxRecDepth 65536 in
theorem w_c0 : (Jvm.Cond.code x code maxLocals ret).before args0 about1 = true := code_word (m := ⟨1, 2⟩) (meth := k1m2) (c := k1c2) (by decide +kernel) rfl rfl rfl (by decide +kernel)
set_option maxRecDepth 65536 in
theorem w_c1 : (Jvm.Cond.code ({ cls := "com/example/coevolution/coevolution/learn/BCellAlgorithm$Stretch", name := "<init>", desc := "(II)V" } : Jvm.MethodName) prog_35_method_1_code (3 : Nat) (Option.none : Option Jvm.ClassFile.FieldType)).before args0 about1 = true := code_word (m := ⟨3, 0⟩) (meth := k3m0) (c := k3c0) (by decide +kernel) rfl rfl rfl (by decide +kernel)
set_option maxRecDepth 65536 in
theorem w_c2 : (Jvm.Cond.code ({ cls := "java/lang/Record", name := "<init>", desc := "()V" } : Jvm.MethodName) jdk_30_method_1_code (1 : Nat) (Option.none : Option Jvm.ClassFile.FieldType)).before args0 about1 = true := code_word (m := ⟨2, 0⟩) (meth := k2m0) (c := k2c0) (by decide +kernel) rfl rfl rfl (by decide +kernel)
set_option maxRecDepth 65536 in
theorem w_c3 : (Jvm.Cond.code ({ cls := "java/lang/Object", name := "<init>", desc := "()V" } : Jvm.MethodName) object_method_1_code (1 : Nat) (Option.none : Option Jvm.ClassFile.FieldType)).before args0 about1 = true := code_word (m := ⟨0, 0⟩) (meth := k0m0) (c := k0c0) (by decide +kernel) rfl rfl rfl (by decide +kernel)
set_option maxRecDepth 65536 in
theorem w_c4 : (Jvm.Cond.code ({ cls := "com/example/coevolution/coevolution/learn/BCellAlgorithm$Stretch", name := "contains", desc := "(I)Z" } : Jvm.MethodName) prog_35_method_2_code (2 : Nat) (Option.some Jvm.ClassFile.FieldType.boolean)).before args0 about1 = true := code_word (m := ⟨3, 1⟩) (meth := k3m1) (c := k3c1) (by decide +kernel) rfl rfl rfl (by decide +kernel)
set_option maxRecDepth 65536 in
theorem w_c5 : (Jvm.Cond.code ({ cls := "com/example/coevolution/coevolution/learn/BCellAlgorithmContainsPinLaw", name := "inside", desc := "(III)Z" } : Jvm.MethodName) method_2_code (5 : Nat) (Option.some Jvm.ClassFile.FieldType.boolean)).before args0 about1 = true := code_word (m := ⟨1, 1⟩) (meth := k1m1) (c := k1c1) (by decide +kernel) rfl rfl rfl (by decide +kernel)
def codes1 : List Jvm.Cond := [Jvm.Cond.code x code maxLocals ret, Jvm.Cond.code ({ cls := "com/example/coevolution/coevolution/learn/BCellAlgorithm$Stretch", name := "<init>", desc := "(II)V" } : Jvm.MethodName) prog_35_method_1_code (3 : Nat) (Option.none : Option Jvm.ClassFile.FieldType), Jvm.Cond.code ({ cls := "java/lang/Record", name := "<init>", desc := "()V" } : Jvm.MethodName) jdk_30_method_1_code (1 : Nat) (Option.none : Option Jvm.ClassFile.FieldType), Jvm.Cond.code ({ cls := "java/lang/Object", name := "<init>", desc := "()V" } : Jvm.MethodName) object_method_1_code (1 : Nat) (Option.none : Option Jvm.ClassFile.FieldType), Jvm.Cond.code ({ cls := "com/example/coevolution/coevolution/learn/BCellAlgorithm$Stretch", name := "contains", desc := "(I)Z" } : Jvm.MethodName) prog_35_method_2_code (2 : Nat) (Option.some Jvm.ClassFile.FieldType.boolean), Jvm.Cond.code ({ cls := "com/example/coevolution/coevolution/learn/BCellAlgorithmContainsPinLaw", name := "inside", desc := "(III)Z" } : Jvm.MethodName) method_2_code (5 : Nat) (Option.some Jvm.ClassFile.FieldType.boolean)]
set_option maxRecDepth 65536 in
theorem codes_eq : words1.filter isCode = codes1 := rfl
theorem w_codes : ∀ c ∈ words1.filter isCode, c.before args0 about1 = true := by
  rw [codes_eq]
  intro c hc
  simp only [codes1, List.mem_cons, List.not_mem_nil, or_false] at hc
  rcases hc with rfl | rfl | rfl | rfl | rfl | rfl
  · exact w_c0
  · exact w_c1
  · exact w_c2
  · exact w_c3
  · exact w_c4
  · exact w_c5
set_option maxRecDepth 65536 in
theorem w_t1 : (words1.take 24).all (fun c => isCode c || c.before args0 about1) = true := by decide +kernel
set_option maxRecDepth 65536 in
theorem w_t2 : (words1.drop 24).all (fun c => isCode c || c.before args0 about1) = true := by decide +kernel
theorem w_tables : (allAtoms (Jvm.Cond.code x code maxLocals ret :: tables_1)).before args0 about1 = true := by
  rw [allAtoms_all]
  show words1.all (fun c => c.before args0 about1) = true
  refine all_split ?_ w_codes
  rw [← List.take_append_drop 24 words1, List.all_append, w_t1, w_t2]
  rfl
set_option maxRecDepth 65536 in
theorem w_case : (Jvm.Cond.and given_1 narrow_1).before args0 about1 = true := by decide +kernel
theorem w_applies : (headSpec (Jvm.Cond.code x code maxLocals ret :: tables_1) room_1).applies x e0.platform about1 = true :=
  (Spec.applies_iff w_frames).mpr ⟨w_running, w_runnable, w_alone, w_named, w_hears, w_ripe, w_room, w_tables⟩
theorem atStart : AtStart classFile x code maxLocals ret World_1 tables_1 room_1 Calls_1 rest_1 Pre_1 launch0 p0 e0 about1 theMethod args0 below0 :=
  ⟨lists_1, trivial, launch0.admits_env _ _ _, launch0.least_env, fairChoices_fair.cas, fairChoices_fair.clock, w_frames, w_args, w_heap, w_applies, trivial, trivial, w_case⟩
end start1
theorem witness_1 : WitnessClaimed_1 := ⟨start1.p0, start1.e0, start1.about1, start1.theMethod, start1.args0, start1.below0, start1.atStart⟩
end Jvm.Pilot.@@N@@
