import JvmDerived
import JvmDerived.Pilot.@@N@@Statement
import JvmDerived.Pilot.@@N@@Code
set_option linter.unusedVariables false
set_option linter.unusedSimpArgs false
namespace Jvm.Pilot.@@N@@
open Jvm Jvm.ClassFile Sem Op Lib Jvm.Free Jvm.Stand Jvm.LawKit Jvm.RoadKit Bundle Jvm.Pilot.@@N@@.Jvm.D
/-! A walk as one goal: from the state U the run comes to an end that answers Q. -/
section Kit
def Go (p : Program) (e : Env) (below : List Frame) (s : State) (Q : Option Value → Heap → List Loc → Prop) (C N : Nat) (U : State) : Prop :=
  ∃ s₂ o, Steps p.tables e below U s₂ ∧ s₂.status = .running ∧ Ended s₂ below o ∧ ∃ v L, o = .returned v ∧ Q v s₂.heap L ∧ FrameEnd s o s₂ L C N
variable {p : Program} {l : Launch} {e : Env} {R : Room} {s : State} {m : MethodId} {args : Array Value} {below : List Frame} {meth : Method} {c : Code} {T : State} {locs : List Loc} {cells slots : Nat} {Q : Option Value → Heap → List Loc → Prop} {C N : Nat}
theorem gob {U U' : State} (h : ∀ t, Steps p.tables e below U' t → Steps p.tables e below U t) (k : Go p e below s Q C N U') : Go p e below s Q C N U := by
  obtain ⟨s₂, o, h1, r⟩ := k
  exact ⟨s₂, o, h _ h1, r⟩
theorem goZ (X : Stand p l e R s m args below meth c T locs cells slots) (hx : p.tables.exec = Jvm.exec) (hlk : meth.locks = false) {t : FieldType} {pc : Nat} {Ls : Array Slot} {z z' : Int32} {rest : List Value} (hret : meth.sig.returnType = some t) (ht : t = .boolean ∨ t = .byte ∨ t = .char ∨ t = .short) (hd : decode c.code pc = .ok (.ireturn, 1)) (hz : nar t z = z') (hq : Q (some (.int z')) T.heap locs) (hc : cells ≤ C) (hn : slots ≤ N) :
    Go p e below s Q C N (T.setTop (mkF m pc Ls (.int z :: rest))) := by
  subst hz
  obtain ⟨fs, hr, hrun, hended, hW, hsame⟩ := X.leave (v := some (.int (nar t z))) (fun h => by rw [hret] at h; cases h) hlk
  exact ⟨_, _, retN X hx hret ht hd hr, hrun, hended, _, _, rfl, hq, ⟨_, rfl⟩, hW, hsame.mono hc hn⟩
theorem goI (X : Stand p l e R s m args below meth c T locs cells slots) (hx : p.tables.exec = Jvm.exec) (hlk : meth.locks = false) {pc : Nat} {Ls : Array Slot} {z : Int32} {rest : List Value} (hret : meth.sig.returnType = some .int) (hd : decode c.code pc = .ok (.ireturn, 1)) (hq : Q (some (.int z)) T.heap locs) (hc : cells ≤ C) (hn : slots ≤ N) :
    Go p e below s Q C N (T.setTop (mkF m pc Ls (.int z :: rest))) := by
  obtain ⟨fs, hr, hrun, hended, hW, hsame⟩ := X.leave (v := some (.int z)) (fun h => by rw [hret] at h; cases h) hlk
  exact ⟨_, _, retOut X hx hret rfl (Or.inl ⟨rfl, Or.inl rfl, z, rfl⟩) hd hr, hrun, hended, _, _, rfl, hq, ⟨_, rfl⟩, hW, hsame.mono hc hn⟩
theorem goJ (X : Stand p l e R s m args below meth c T locs cells slots) (hx : p.tables.exec = Jvm.exec) (hlk : meth.locks = false) {pc : Nat} {Ls : Array Slot} {z : Int64} {rest : List Value} (hret : meth.sig.returnType = some .long) (hd : decode c.code pc = .ok (.lreturn, 1)) (hq : Q (some (.long z)) T.heap locs) (hc : cells ≤ C) (hn : slots ≤ N) :
    Go p e below s Q C N (T.setTop (mkF m pc Ls (.long z :: rest))) := by
  obtain ⟨fs, hr, hrun, hended, hW, hsame⟩ := X.leave (v := some (.long z)) (fun h => by rw [hret] at h; cases h) hlk
  exact ⟨_, _, retOut X hx hret rfl (Or.inr (Or.inl ⟨rfl, rfl, z, rfl⟩)) hd hr, hrun, hended, _, _, rfl, hq, ⟨_, rfl⟩, hW, hsame.mono hc hn⟩
theorem goD (X : Stand p l e R s m args below meth c T locs cells slots) (hx : p.tables.exec = Jvm.exec) (hlk : meth.locks = false) {pc : Nat} {Ls : Array Slot} {z : UInt64} {rest : List Value} (hret : meth.sig.returnType = some .double) (hd : decode c.code pc = .ok (.dreturn, 1)) (hq : Q (some (.double z)) T.heap locs) (hc : cells ≤ C) (hn : slots ≤ N) :
    Go p e below s Q C N (T.setTop (mkF m pc Ls (.double z :: rest))) := by
  obtain ⟨fs, hr, hrun, hended, hW, hsame⟩ := X.leave (v := some (.double z)) (fun h => by rw [hret] at h; cases h) hlk
  exact ⟨_, _, retOut X hx hret rfl (Or.inr (Or.inr (Or.inl ⟨rfl, rfl, z, rfl⟩))) hd hr, hrun, hended, _, _, rfl, hq, ⟨_, rfl⟩, hW, hsame.mono hc hn⟩
theorem goA (X : Stand p l e R s m args below meth c T locs cells slots) (hx : p.tables.exec = Jvm.exec) (hlk : meth.locks = false) {t : FieldType} {pc : Nat} {Ls : Array Slot} {z : Value} {rest : List Value} (hret : meth.sig.returnType = some t) (ht : t.isReference = true) (hv : z.isRef = true) (hd : decode c.code pc = .ok (.areturn, 1)) (hq : Q (some z) T.heap locs) (hc : cells ≤ C) (hn : slots ≤ N) :
    Go p e below s Q C N (T.setTop (mkF m pc Ls (z :: rest))) := by
  obtain ⟨fs, hr, hrun, hended, hW, hsame⟩ := X.leave (v := some z) (fun h => by rw [hret] at h; cases h) hlk
  have hnw : narrow t z = z := by cases z <;> cases t <;> first | rfl | (simp [Value.isRef] at hv) | (simp [FieldType.isReference] at ht)
  exact ⟨_, _, retOut X hx hret hnw (Or.inr (Or.inr (Or.inr (Or.inr ⟨rfl, ht, hv⟩)))) hd hr, hrun, hended, _, _, rfl, hq, ⟨_, rfl⟩, hW, hsame.mono hc hn⟩
theorem goV (X : Stand p l e R s m args below meth c T locs cells slots) (hx : p.tables.exec = Jvm.exec) (hlk : meth.locks = false) {pc : Nat} {Ls : Array Slot} (hret : meth.sig.returnType = none) (hd : decode c.code pc = .ok (.return_, 1)) (hq : Q none T.heap locs) (hc : cells ≤ C) (hn : slots ≤ N) :
    Go p e below s Q C N (T.setTop (mkF m pc Ls [])) := by
  obtain ⟨fs, hr, hrun, hended, hW, hsame⟩ := X.leave (v := none) (fun _ => rfl) hlk
  exact ⟨_, _, X.returnOut hx hret hd hr, hrun, hended, _, _, rfl, hq, ⟨_, rfl⟩, hW, hsame.mono hc hn⟩
theorem lremM {g : JFrame} {target : State} (X : Stand p l e R s m args below meth c T locs cells slots) (hx : p.tables.exec = Jvm.exec) (hg : g.method = m) {x y : Int64} {rest : List Value} (hd : decode c.code g.pc = .ok (.lrem, 1)) (hs : g.stack = .long y :: .long x :: rest) (hy : y ≠ 0)
    (hr : Steps p.tables e below (T.setTop { g with pc := g.pc + 1, stack := .long (x % y) :: rest }) target) : Steps p.tables e below (T.setTop g) target :=
  XS.lrem X.here hx hg hd hs hy (by rw [lrem_mod x y]; exact hr)
theorem own_lrem (x y : Int64) (d : Int) (hy : y.toInt = d) : (0 ≤ x.toInt → (x % y).toInt = x.toInt % d) ∧ (x.toInt < 0 → (x % y).toInt = -((-x.toInt) % d)) := by rw [Int64.toInt_mod, hy]; exact tr _ _
theorem own_lxor (x y : Int64) (hy : 0 ≤ y.toInt) : ((x ^^^ y).toInt < 0 ↔ x.toInt < 0) := by
  have h1 : (x ^^^ y).toBitVec.msb = (x.toBitVec.msb ^^ y.toBitVec.msb) := by rw [Int64.toBitVec_xor, BitVec.msb_xor]
  have h2 := BitVec.msb_eq_toInt (x := (x ^^^ y).toBitVec)
  have h3 := BitVec.msb_eq_toInt (x := x.toBitVec)
  have h4 := BitVec.msb_eq_toInt (x := y.toBitVec)
  have e1 : (x ^^^ y).toBitVec.toInt = (x ^^^ y).toInt := rfl
  have e2 : x.toBitVec.toInt = x.toInt := rfl
  have e3 : y.toBitVec.toInt = y.toInt := rfl
  rw [e1] at h2
  rw [e2] at h3
  rw [e3] at h4
  have h5 : ¬ y.toInt < 0 := by omega
  rw [h2, h3, h4, decide_eq_false h5, Bool.xor_false] at h1
  simpa using h1
theorem pop2L {g : JFrame} {target : State} (X : Stand p l e R s m args below meth c T locs cells slots) (hx : p.tables.exec = Jvm.exec) (hg : g.method = m) {x : Int64} {rest : List Value} (hd : decode c.code g.pc = .ok (.pop2, 1)) (hs : g.stack = .long x :: rest)
    (hr : Steps p.tables e below (T.setTop { g with pc := g.pc + 1, stack := rest }) target) : Steps p.tables e below (T.setTop g) target := by
  subst hg
  jvm_step X.here [X.here.top, hx, hd, hs, Value.category]
  exact hr
theorem own_staKeep {Z : State} {h h' : Heap} {C n d : String} {v : Value} {ws : List Addr} (F : Sta Z h C n d v) (K : Keep h h' ws) (hn : ∀ x ∈ ws, ∀ cell : Cell, h[x]? = some cell → cell.vm.isStatics = false) : Sta Z h' C n d v := by
  obtain ⟨cf, i, k, f, st, cell, h1, h2, h3, h4, h5, h6, h7⟩ := F
  exact ⟨cf, i, k, f, st, cell, h1, h2, h3, h4, K.2.1 _ _ h5 (fun q => by have q2 := hn _ q _ h5; rw [h6] at q2; cases q2), h6, h7⟩
theorem own_lmulR (x y : Int64) (d : Int) (hy : y.toInt = d) : ((x * y).toInt - x.toInt * d) % 18446744073709551616 = 0 := by rw [← hy]; exact c_lmul x y
theorem own_lmulL (x y : Int64) (d : Int) (hx : x.toInt = d) : ((x * y).toInt - d * y.toInt) % 18446744073709551616 = 0 := by rw [← hx]; exact c_lmul x y
theorem own_imulR (x y : Int32) (d : Int) (hy : y.toInt = d) : ((x * y).toInt - x.toInt * d) % 4294967296 = 0 := by rw [← hy]; exact c_imul x y
theorem own_imulL (x y : Int32) (d : Int) (hx : x.toInt = d) : ((x * y).toInt - d * y.toInt) % 4294967296 = 0 := by rw [← hx]; exact c_imul x y
end Kit

theorem own_cap {j : Int32} (h0 : 0 ≤ j.toInt) (h : j.toInt ≤ 5) : j.toNatClampNeg ≤ 5 := by
  have q : ¬ j < 0 := by
    rw [Int32.lt_iff_toInt_lt]
    have : (0 : Int32).toInt = 0 := by decide
    omega
  have := nat_of q
  omega
theorem own_nn {j : Int32} (h0 : 0 ≤ j.toInt) : ¬ j < 0 := by
  rw [Int32.lt_iff_toInt_lt]
  have : (0 : Int32).toInt = 0 := by decide
  omega

theorem d1_0 : decode prog_66_method_1_code 0 = .ok (.aload_n 0, 1) := by decide +kernel
theorem d1_1 : decode prog_66_method_1_code 1 = .ok (.invokespecial 1, 3) := by decide +kernel
theorem d1_4 : decode prog_66_method_1_code 4 = .ok (.aload_n 0, 1) := by decide +kernel
theorem d1_5 : decode prog_66_method_1_code 5 = .ok (.aload_n 1, 1) := by decide +kernel
theorem d1_6 : decode prog_66_method_1_code 6 = .ok (.putfield 7, 3) := by decide +kernel
theorem d1_9 : decode prog_66_method_1_code 9 = .ok (.aload_n 0, 1) := by decide +kernel
theorem d1_10 : decode prog_66_method_1_code 10 = .ok (.aload_n 2, 1) := by decide +kernel
theorem d1_11 : decode prog_66_method_1_code 11 = .ok (.putfield 13, 3) := by decide +kernel
theorem d1_14 : decode prog_66_method_1_code 14 = .ok (.aload_n 0, 1) := by decide +kernel
theorem d1_15 : decode prog_66_method_1_code 15 = .ok (.aload_n 3, 1) := by decide +kernel
theorem d1_16 : decode prog_66_method_1_code 16 = .ok (.putfield 16, 3) := by decide +kernel
theorem d1_19 : decode prog_66_method_1_code 19 = .ok (.aload_n 0, 1) := by decide +kernel
theorem d1_20 : decode prog_66_method_1_code 20 = .ok (.aload 4, 2) := by decide +kernel
theorem d1_22 : decode prog_66_method_1_code 22 = .ok (.putfield 19, 3) := by decide +kernel
theorem d1_25 : decode prog_66_method_1_code 25 = .ok (.return_, 1) := by decide +kernel
theorem ef_1 (m : MethodId) (x0 : Addr) (x1 : Addr) (x2 : Addr) (x3 : Addr) (x4 : Addr) : entryFrame m #[(.ref x0), (.ref x1), (.ref x2), (.ref x3), (.ref x4)] 5 = mkF m 0 #[.val (.ref x0), .val (.ref x1), .val (.ref x2), .val (.ref x3), .val (.ref x4)] [] := by first | (simp [entryFrame, mkF, argsToLocals, Value.category]; done) | rfl
def Q1 (Z : State) (o0 : Addr) (o1 : Addr) (o2 : Addr) (o3 : Addr) (o4 : Addr) (h0 : Heap) (n0 : Nat) (v : Option Value) (h : Heap) (L : List Loc) : Prop := v = none ∧ Fr n0 L ∧ Keep h0 h ([o0] : List Addr) ∧ Fld Z h o0 "com/example/fenda/fenda/linalg/Graph" "start" "[I" (.ref o1) ∧ Fld Z h o0 "com/example/fenda/fenda/linalg/Graph" "adjacent" "[I" (.ref o2) ∧ Fld Z h o0 "com/example/fenda/fenda/linalg/Graph" "edgeWeights" "[I" (.ref o3) ∧ Fld Z h o0 "com/example/fenda/fenda/linalg/Graph" "weights" "[I" (.ref o4)
set_option maxRecDepth 65536 in
set_option maxHeartbeats 40000000 in
theorem rm1 (l : Launch) (Z : State) (a0 : Array Value) (hw : ∀ d ∈ tables_1, d.before a0 Z = true) (ws : List Jvm.Cond) (o0 : Addr) (o1 : Addr) (o2 : Addr) (o3 : Addr) (o4 : Addr) (h0 : Heap) (n0 : Nat) (Z0 : n0 ≤ h0.size) (E_o0 : Exa Z h0 o0 "com/example/fenda/fenda/linalg/Graph") (F_start_o0 : Fld Z h0 o0 "com/example/fenda/fenda/linalg/Graph" "start" "[I" .null) (g_o0 : n0 ≤ o0) (F_adjacent_o0 : Fld Z h0 o0 "com/example/fenda/fenda/linalg/Graph" "adjacent" "[I" .null) (F_edgeWeights_o0 : Fld Z h0 o0 "com/example/fenda/fenda/linalg/Graph" "edgeWeights" "[I" .null) (F_weights_o0 : Fld Z h0 o0 "com/example/fenda/fenda/linalg/Graph" "weights" "[I" .null) :
    MetFree l (⟨"com/example/fenda/fenda/linalg/Graph", "<init>", "([I[I[I[I)V"⟩ : MethodName) (head1 (Jvm.Cond.code (⟨"com/example/fenda/fenda/linalg/Graph", "<init>", "([I[I[I[I)V"⟩ : MethodName) prog_66_method_1_code 5 none :: ws) ({ frames := 1, cells := 0, slots := 0, locals := 12 } : Room)) (fun a U => a = #[(.ref o0), (.ref o1), (.ref o2), (.ref o3), (.ref o4)] ∧ Z.Warmed39 U.vm ∧ U.heap = h0) (fun _ _ _ _ _ => True) (fun _ U o U' => ∃ v L, o = .returned v ∧ Q1 Z o0 o1 o2 o3 o4 h0 n0 v U'.heap L ∧ FrameEnd U o U' L ({ frames := 1, cells := 0, slots := 0, locals := 12 } : Room).cells ({ frames := 1, cells := 0, slots := 0, locals := 12 } : Room).slots) := by
  refine MetFree.of_bodySF (plainFor_of_name (by first | (simp [plainName, overriddenIn]; done) | decide +kernel)) hisR ?_
  intro p e s m args below meth c s₁ Bd hml0 hP hK
  obtain ⟨rfl, hZ, hh⟩ := hP
  have hx := Bd.exec
  have hby := Bd.bytes
  have hml : c.maxLocals = 5 := hml0
  have hown : s.vm.findClass "com/example/fenda/fenda/linalg/Graph" = some m.cls := findClass_of_methodNamed Bd.named
  have hnm := (name_of_methodNamed Bd.named Bd.method).1
  have hlk := BodyLoose.notSynchronized Bd
  have X0 : Stand p l e ({ frames := 1, cells := 0, slots := 0, locals := 12 } : Room) s m #[(.ref o0), (.ref o1), (.ref o2), (.ref o3), (.ref o4)] below meth c s₁ [] 0 0 := Stand.of_body Bd
  have e0 : s₁.heap = h0 := by rw [← hh, Bd.state]; rfl
  have N0 := Fr.nil n0
  show Go p e below s (Q1 Z o0 o1 o2 o3 o4 h0 n0) 0 0 (s₁.setTop (entryFrame m #[(.ref o0), (.ref o1), (.ref o2), (.ref o3), (.ref o4)] 5))
  rw [ef_1]
  show Go _ _ _ _ _ _ _ (s₁.setTop (mkF m 0 #[.val (.ref o0), .val (.ref o1), .val (.ref o2), .val (.ref o3), .val (.ref o4)] []))
  refine gob (fun _ k => XS.aloadN X0.here hx rfl (hb hby d1_0) rfl rfl k) ?_
  show Go _ _ _ _ _ _ _ (s₁.setTop (mkF m 1 #[.val (.ref o0), .val (.ref o1), .val (.ref o2), .val (.ref o3), .val (.ref o4)] [(.ref o0)]))
  obtain ⟨T1, X1, e1, st1⟩ := initO X0 hx hZ hown (hw _ (List.mem_of_getElem? (i := 8) rfl)) (hw _ (List.mem_of_getElem? (i := 9) rfl)) (hw _ (List.mem_of_getElem? (i := 10) rfl)) e0 (g := (mkF m 1 #[.val (.ref o0), .val (.ref o1), .val (.ref o2), .val (.ref o3), .val (.ref o4)] [(.ref o0)])) rfl (by rw [hml]; rfl) rfl (hb hby d1_1) (by decide) (W := 0) (by show 2 * 0 + _ ≤ _; exact Nat.le_of_eq rfl) (by decide)
  refine gob st1 ?_
  show Go _ _ _ _ _ _ _ (T1.setTop (mkF m 4 #[.val (.ref o0), .val (.ref o1), .val (.ref o2), .val (.ref o3), .val (.ref o4)] []))
  refine gob (fun _ k => XS.aloadN X1.here hx rfl (hb hby d1_4) rfl rfl k) ?_
  show Go _ _ _ _ _ _ _ (T1.setTop (mkF m 5 #[.val (.ref o0), .val (.ref o1), .val (.ref o2), .val (.ref o3), .val (.ref o4)] [(.ref o0)]))
  refine gob (fun _ k => XS.aloadN X1.here hx rfl (hb hby d1_5) rfl rfl k) ?_
  show Go _ _ _ _ _ _ _ (T1.setTop (mkF m 6 #[.val (.ref o0), .val (.ref o1), .val (.ref o2), .val (.ref o3), .val (.ref o4)] [(.ref o1), (.ref o0)]))
  obtain ⟨T2, h2, X2, e2, W2, st2⟩ := putF X1 hx hZ hown (host := "") (Or.inl (hw _ (List.mem_of_getElem? (i := 11) rfl))) Via.refl e1 F_start_o0 E_o0 (Or.inr ⟨(hw _ (List.mem_of_getElem? (i := 12) rfl)), rfl, hnm⟩) (hw _ (List.mem_of_getElem? (i := 3) rfl)) (ty := (.array .int)) (by decide) rfl rfl (g := (mkF m 6 #[.val (.ref o0), .val (.ref o1), .val (.ref o2), .val (.ref o3), .val (.ref o4)] [(.ref o1), (.ref o0)])) rfl rfl (hb hby d1_6)
  refine gob st2 ?_
  have z3 : n0 ≤ h2.size := Nat.le_trans Z0 (Keep.of_wr W2).1
  have N2 := Fr.snoc X2 N0 g_o0
  have K4 : Keep h0 h2 ([o0] : List Addr) := (Keep.refl h0 ([o0] : List Addr)).wr W2 (Or.inl (List.mem_of_getElem? (i := 0) rfl))
  have Fw2 := F_start_o0.same W2
  show Go _ _ _ _ _ _ _ (T2.setTop (mkF m 9 #[.val (.ref o0), .val (.ref o1), .val (.ref o2), .val (.ref o3), .val (.ref o4)] []))
  refine gob (fun _ k => XS.aloadN X2.here hx rfl (hb hby d1_9) rfl rfl k) ?_
  show Go _ _ _ _ _ _ _ (T2.setTop (mkF m 10 #[.val (.ref o0), .val (.ref o1), .val (.ref o2), .val (.ref o3), .val (.ref o4)] [(.ref o0)]))
  refine gob (fun _ k => XS.aloadN X2.here hx rfl (hb hby d1_10) rfl rfl k) ?_
  show Go _ _ _ _ _ _ _ (T2.setTop (mkF m 11 #[.val (.ref o0), .val (.ref o1), .val (.ref o2), .val (.ref o3), .val (.ref o4)] [(.ref o2), (.ref o0)]))
  have c5 := (F_adjacent_o0.other W2 (Or.inr (slot_ne (Or.inr (hw _ (List.mem_of_getElem? (i := 14) rfl))) (Or.inr (hw _ (List.mem_of_getElem? (i := 12) rfl))) (by decide) (t := (.array .int)) (t' := (.array .int)) (by decide) (by decide))))
  have c6 := (E_o0.wr W2)
  obtain ⟨T7, h7, X7, e7, W7, st7⟩ := putF X2 hx hZ hown (host := "") (Or.inl (hw _ (List.mem_of_getElem? (i := 13) rfl))) Via.refl e2 c5 c6 (Or.inr ⟨(hw _ (List.mem_of_getElem? (i := 14) rfl)), rfl, hnm⟩) (hw _ (List.mem_of_getElem? (i := 3) rfl)) (ty := (.array .int)) (by decide) rfl rfl (g := (mkF m 11 #[.val (.ref o0), .val (.ref o1), .val (.ref o2), .val (.ref o3), .val (.ref o4)] [(.ref o2), (.ref o0)])) rfl rfl (hb hby d1_11)
  refine gob st7 ?_
  have z8 : n0 ≤ h7.size := Nat.le_trans z3 (Keep.of_wr W7).1
  have N7 := Fr.snoc X7 N2 g_o0
  have K9 : Keep h0 h7 ([o0] : List Addr) := K4.wr W7 (Or.inl (List.mem_of_getElem? (i := 0) rfl))
  have Fw7 := c5.same W7
  show Go _ _ _ _ _ _ _ (T7.setTop (mkF m 14 #[.val (.ref o0), .val (.ref o1), .val (.ref o2), .val (.ref o3), .val (.ref o4)] []))
  refine gob (fun _ k => XS.aloadN X7.here hx rfl (hb hby d1_14) rfl rfl k) ?_
  show Go _ _ _ _ _ _ _ (T7.setTop (mkF m 15 #[.val (.ref o0), .val (.ref o1), .val (.ref o2), .val (.ref o3), .val (.ref o4)] [(.ref o0)]))
  refine gob (fun _ k => XS.aloadN X7.here hx rfl (hb hby d1_15) rfl rfl k) ?_
  show Go _ _ _ _ _ _ _ (T7.setTop (mkF m 16 #[.val (.ref o0), .val (.ref o1), .val (.ref o2), .val (.ref o3), .val (.ref o4)] [(.ref o3), (.ref o0)]))
  have c10 := ((F_edgeWeights_o0.other W2 (Or.inr (slot_ne (Or.inr (hw _ (List.mem_of_getElem? (i := 16) rfl))) (Or.inr (hw _ (List.mem_of_getElem? (i := 12) rfl))) (by decide) (t := (.array .int)) (t' := (.array .int)) (by decide) (by decide)))).other W7 (Or.inr (slot_ne (Or.inr (hw _ (List.mem_of_getElem? (i := 16) rfl))) (Or.inr (hw _ (List.mem_of_getElem? (i := 14) rfl))) (by decide) (t := (.array .int)) (t' := (.array .int)) (by decide) (by decide))))
  have c11 := (c6.wr W7)
  obtain ⟨T12, h12, X12, e12, W12, st12⟩ := putF X7 hx hZ hown (host := "") (Or.inl (hw _ (List.mem_of_getElem? (i := 15) rfl))) Via.refl e7 c10 c11 (Or.inr ⟨(hw _ (List.mem_of_getElem? (i := 16) rfl)), rfl, hnm⟩) (hw _ (List.mem_of_getElem? (i := 3) rfl)) (ty := (.array .int)) (by decide) rfl rfl (g := (mkF m 16 #[.val (.ref o0), .val (.ref o1), .val (.ref o2), .val (.ref o3), .val (.ref o4)] [(.ref o3), (.ref o0)])) rfl rfl (hb hby d1_16)
  refine gob st12 ?_
  have z13 : n0 ≤ h12.size := Nat.le_trans z8 (Keep.of_wr W12).1
  have N12 := Fr.snoc X12 N7 g_o0
  have K14 : Keep h0 h12 ([o0] : List Addr) := K9.wr W12 (Or.inl (List.mem_of_getElem? (i := 0) rfl))
  have Fw12 := c10.same W12
  show Go _ _ _ _ _ _ _ (T12.setTop (mkF m 19 #[.val (.ref o0), .val (.ref o1), .val (.ref o2), .val (.ref o3), .val (.ref o4)] []))
  refine gob (fun _ k => XS.aloadN X12.here hx rfl (hb hby d1_19) rfl rfl k) ?_
  show Go _ _ _ _ _ _ _ (T12.setTop (mkF m 20 #[.val (.ref o0), .val (.ref o1), .val (.ref o2), .val (.ref o3), .val (.ref o4)] [(.ref o0)]))
  refine gob (fun _ k => XS.aload X12.here hx rfl (hb hby d1_20) rfl rfl k) ?_
  show Go _ _ _ _ _ _ _ (T12.setTop (mkF m 22 #[.val (.ref o0), .val (.ref o1), .val (.ref o2), .val (.ref o3), .val (.ref o4)] [(.ref o4), (.ref o0)]))
  have c15 := (((F_weights_o0.other W2 (Or.inr (slot_ne (Or.inr (hw _ (List.mem_of_getElem? (i := 18) rfl))) (Or.inr (hw _ (List.mem_of_getElem? (i := 12) rfl))) (by decide) (t := (.array .int)) (t' := (.array .int)) (by decide) (by decide)))).other W7 (Or.inr (slot_ne (Or.inr (hw _ (List.mem_of_getElem? (i := 18) rfl))) (Or.inr (hw _ (List.mem_of_getElem? (i := 14) rfl))) (by decide) (t := (.array .int)) (t' := (.array .int)) (by decide) (by decide)))).other W12 (Or.inr (slot_ne (Or.inr (hw _ (List.mem_of_getElem? (i := 18) rfl))) (Or.inr (hw _ (List.mem_of_getElem? (i := 16) rfl))) (by decide) (t := (.array .int)) (t' := (.array .int)) (by decide) (by decide))))
  have c16 := (c11.wr W12)
  obtain ⟨T17, h17, X17, e17, W17, st17⟩ := putF X12 hx hZ hown (host := "") (Or.inl (hw _ (List.mem_of_getElem? (i := 17) rfl))) Via.refl e12 c15 c16 (Or.inr ⟨(hw _ (List.mem_of_getElem? (i := 18) rfl)), rfl, hnm⟩) (hw _ (List.mem_of_getElem? (i := 3) rfl)) (ty := (.array .int)) (by decide) rfl rfl (g := (mkF m 22 #[.val (.ref o0), .val (.ref o1), .val (.ref o2), .val (.ref o3), .val (.ref o4)] [(.ref o4), (.ref o0)])) rfl rfl (hb hby d1_22)
  refine gob st17 ?_
  have z18 : n0 ≤ h17.size := Nat.le_trans z13 (Keep.of_wr W17).1
  have N17 := Fr.snoc X17 N12 g_o0
  have K19 : Keep h0 h17 ([o0] : List Addr) := K14.wr W17 (Or.inl (List.mem_of_getElem? (i := 0) rfl))
  have Fw17 := c15.same W17
  show Go _ _ _ _ _ _ _ (T17.setTop (mkF m 25 #[.val (.ref o0), .val (.ref o1), .val (.ref o2), .val (.ref o3), .val (.ref o4)] []))
  refine goV X17 hx hlk Bd.returns (hb hby d1_25) ?_ (by decide) (by decide)
  show Q1 Z o0 o1 o2 o3 o4 h0 n0 (none) T17.heap _
  have c20 := (((Fw2.other W7 (Or.inr (slot_ne (Or.inr (hw _ (List.mem_of_getElem? (i := 12) rfl))) (Or.inr (hw _ (List.mem_of_getElem? (i := 14) rfl))) (by decide) (t := (.array .int)) (t' := (.array .int)) (by decide) (by decide)))).other W12 (Or.inr (slot_ne (Or.inr (hw _ (List.mem_of_getElem? (i := 12) rfl))) (Or.inr (hw _ (List.mem_of_getElem? (i := 16) rfl))) (by decide) (t := (.array .int)) (t' := (.array .int)) (by decide) (by decide)))).other W17 (Or.inr (slot_ne (Or.inr (hw _ (List.mem_of_getElem? (i := 12) rfl))) (Or.inr (hw _ (List.mem_of_getElem? (i := 18) rfl))) (by decide) (t := (.array .int)) (t' := (.array .int)) (by decide) (by decide))))
  have c21 := ((Fw7.other W12 (Or.inr (slot_ne (Or.inr (hw _ (List.mem_of_getElem? (i := 14) rfl))) (Or.inr (hw _ (List.mem_of_getElem? (i := 16) rfl))) (by decide) (t := (.array .int)) (t' := (.array .int)) (by decide) (by decide)))).other W17 (Or.inr (slot_ne (Or.inr (hw _ (List.mem_of_getElem? (i := 14) rfl))) (Or.inr (hw _ (List.mem_of_getElem? (i := 18) rfl))) (by decide) (t := (.array .int)) (t' := (.array .int)) (by decide) (by decide))))
  have c22 := (Fw12.other W17 (Or.inr (slot_ne (Or.inr (hw _ (List.mem_of_getElem? (i := 16) rfl))) (Or.inr (hw _ (List.mem_of_getElem? (i := 18) rfl))) (by decide) (t := (.array .int)) (t' := (.array .int)) (by decide) (by decide))))
  rw [e17]
  exact ⟨rfl, N17, K19, c20, c21, c22, Fw17⟩
theorem d3_0 : decode prog_66_method_4_code 0 = .ok (.lconst 0, 1) := by decide +kernel
theorem d3_1 : decode prog_66_method_4_code 1 = .ok (.lstore_n 1, 1) := by decide +kernel
theorem d3_2 : decode prog_66_method_4_code 2 = .ok (.aload_n 0, 1) := by decide +kernel
theorem d3_3 : decode prog_66_method_4_code 3 = .ok (.getfield 19, 3) := by decide +kernel
theorem d3_6 : decode prog_66_method_4_code 6 = .ok (.astore_n 3, 1) := by decide +kernel
theorem d3_7 : decode prog_66_method_4_code 7 = .ok (.aload_n 3, 1) := by decide +kernel
theorem d3_8 : decode prog_66_method_4_code 8 = .ok (.arraylength, 1) := by decide +kernel
theorem d3_9 : decode prog_66_method_4_code 9 = .ok (.istore 4, 2) := by decide +kernel
theorem d3_11 : decode prog_66_method_4_code 11 = .ok (.iconst 0, 1) := by decide +kernel
theorem d3_12 : decode prog_66_method_4_code 12 = .ok (.istore 5, 2) := by decide +kernel
theorem d3_14 : decode prog_66_method_4_code 14 = .ok (.iload 5, 2) := by decide +kernel
theorem d3_16 : decode prog_66_method_4_code 16 = .ok (.iload 4, 2) := by decide +kernel
theorem d3_18 : decode prog_66_method_4_code 18 = .ok (.if_icmp .ge 21, 3) := by decide +kernel
theorem d3_21 : decode prog_66_method_4_code 21 = .ok (.aload_n 3, 1) := by decide +kernel
theorem d3_22 : decode prog_66_method_4_code 22 = .ok (.iload 5, 2) := by decide +kernel
theorem d3_24 : decode prog_66_method_4_code 24 = .ok (.iaload, 1) := by decide +kernel
theorem d3_25 : decode prog_66_method_4_code 25 = .ok (.istore 6, 2) := by decide +kernel
theorem d3_27 : decode prog_66_method_4_code 27 = .ok (.lload_n 1, 1) := by decide +kernel
theorem d3_28 : decode prog_66_method_4_code 28 = .ok (.iload 6, 2) := by decide +kernel
theorem d3_30 : decode prog_66_method_4_code 30 = .ok (.i2l, 1) := by decide +kernel
theorem d3_31 : decode prog_66_method_4_code 31 = .ok (.ladd, 1) := by decide +kernel
theorem d3_32 : decode prog_66_method_4_code 32 = .ok (.lstore_n 1, 1) := by decide +kernel
theorem d3_33 : decode prog_66_method_4_code 33 = .ok (.iinc 5 1, 3) := by decide +kernel
theorem d3_36 : decode prog_66_method_4_code 36 = .ok (.goto (-22), 3) := by decide +kernel
theorem d3_39 : decode prog_66_method_4_code 39 = .ok (.lload_n 1, 1) := by decide +kernel
theorem d3_40 : decode prog_66_method_4_code 40 = .ok (.lreturn, 1) := by decide +kernel
theorem ef_3_0 (m : MethodId) (x0 : Addr) : entryFrame m #[(.ref x0)] 7 = mkF m 0 #[.val (.ref x0), .unset, .unset, .unset, .unset, .unset, .unset] [] := by first | (simp [entryFrame, mkF, argsToLocals, Value.category]; done) | rfl
def Q3_0 (Z : State) (o0 : Addr) (w_w : Addr) (k_w : ClassId) (h0 : Heap) (n0 : Nat) (v : Option Value) (h : Heap) (L : List Loc) : Prop := ∃ r : Int64, v = some (.long r) ∧ ((r = (0 : Int64))) ∧ Fr n0 L ∧ h = h0
set_option maxRecDepth 65536 in
set_option maxHeartbeats 40000000 in
theorem rm3_0 (l : Launch) (Z : State) (a0 : Array Value) (hw : ∀ d ∈ tables_1, d.before a0 Z = true) (ws : List Jvm.Cond) (o0 : Addr) (w_w : Addr) (k_w : ClassId) (h0 : Heap) (n0 : Nat) (Z0 : n0 ≤ h0.size) (F_weights : Fld Z h0 o0 "com/example/fenda/fenda/linalg/Graph" "weights" "[I" (.ref w_w)) (V_w : Arv Z h0 w_w k_w .int (0 : Int32) [] (.int (0 : Int32))) :
    MetFree l (⟨"com/example/fenda/fenda/linalg/Graph", "totalWeight", "()J"⟩ : MethodName) (head1 (Jvm.Cond.code (⟨"com/example/fenda/fenda/linalg/Graph", "totalWeight", "()J"⟩ : MethodName) prog_66_method_4_code 7 (some .long) :: ws) ({ frames := 0, cells := 0, slots := 0, locals := 0 } : Room)) (fun a U => a = #[(.ref o0)] ∧ Z.Warmed39 U.vm ∧ U.heap = h0) (fun _ _ _ _ _ => True) (fun _ U o U' => ∃ v L, o = .returned v ∧ Q3_0 Z o0 w_w k_w h0 n0 v U'.heap L ∧ FrameEnd U o U' L ({ frames := 0, cells := 0, slots := 0, locals := 0 } : Room).cells ({ frames := 0, cells := 0, slots := 0, locals := 0 } : Room).slots) := by
  refine MetFree.of_bodySF (plainFor_of_name (by first | (simp [plainName, overriddenIn]; done) | decide +kernel)) hisR ?_
  intro p e s m args below meth c s₁ Bd hml0 hP hK
  obtain ⟨rfl, hZ, hh⟩ := hP
  have hx := Bd.exec
  have hby := Bd.bytes
  have hml : c.maxLocals = 7 := hml0
  have hown : s.vm.findClass "com/example/fenda/fenda/linalg/Graph" = some m.cls := findClass_of_methodNamed Bd.named
  have hnm := (name_of_methodNamed Bd.named Bd.method).1
  have hlk := BodyLoose.notSynchronized Bd
  have X0 : Stand p l e ({ frames := 0, cells := 0, slots := 0, locals := 0 } : Room) s m #[(.ref o0)] below meth c s₁ [] 0 0 := Stand.of_body Bd
  have e0 : s₁.heap = h0 := by rw [← hh, Bd.state]; rfl
  have N0 := Fr.nil n0
  show Go p e below s (Q3_0 Z o0 w_w k_w h0 n0) 0 0 (s₁.setTop (entryFrame m #[(.ref o0)] 7))
  rw [ef_3_0]
  show Go _ _ _ _ _ _ _ (s₁.setTop (mkF m 0 #[.val (.ref o0), .unset, .unset, .unset, .unset, .unset, .unset] []))
  refine gob (fun _ k => XS.lconst X0.here hx rfl (hb hby d3_0) k) ?_
  show Go _ _ _ _ _ _ _ (s₁.setTop (mkF m 1 #[.val (.ref o0), .unset, .unset, .unset, .unset, .unset, .unset] [(.long (0 : Int64))]))
  refine gob (fun _ k => XS.lstoreN X0.here hx rfl (hb hby d3_1) rfl (l' := #[.val (.ref o0), .val (.long (0 : Int64)), .second, .unset, .unset, .unset, .unset]) rfl k) ?_
  show Go _ _ _ _ _ _ _ (s₁.setTop (mkF m 2 #[.val (.ref o0), .val (.long (0 : Int64)), .second, .unset, .unset, .unset, .unset] []))
  refine gob (fun _ k => XS.aloadN X0.here hx rfl (hb hby d3_2) rfl rfl k) ?_
  show Go _ _ _ _ _ _ _ (s₁.setTop (mkF m 3 #[.val (.ref o0), .val (.long (0 : Int64)), .second, .unset, .unset, .unset, .unset] [(.ref o0)]))
  obtain ⟨T1, X1, e1, st1⟩ := getF X0 hx hZ hown (host := "") (Or.inl (hw _ (List.mem_of_getElem? (i := 17) rfl))) Via.refl e0 F_weights (g := (mkF m 3 #[.val (.ref o0), .val (.long (0 : Int64)), .second, .unset, .unset, .unset, .unset] [(.ref o0)])) rfl rfl (hb hby d3_3)
  refine gob st1 ?_
  show Go _ _ _ _ _ _ _ (T1.setTop (mkF m 6 #[.val (.ref o0), .val (.long (0 : Int64)), .second, .unset, .unset, .unset, .unset] [(.ref w_w)]))
  refine gob (fun _ k => XS.astoreN X1.here hx rfl (hb hby d3_6) rfl rfl (l' := #[.val (.ref o0), .val (.long (0 : Int64)), .second, .val (.ref w_w), .unset, .unset, .unset]) rfl k) ?_
  show Go _ _ _ _ _ _ _ (T1.setTop (mkF m 7 #[.val (.ref o0), .val (.long (0 : Int64)), .second, .val (.ref w_w), .unset, .unset, .unset] []))
  refine gob (fun _ k => XS.aloadN X1.here hx rfl (hb hby d3_7) rfl rfl k) ?_
  show Go _ _ _ _ _ _ _ (T1.setTop (mkF m 8 #[.val (.ref o0), .val (.long (0 : Int64)), .second, .val (.ref w_w), .unset, .unset, .unset] [(.ref w_w)]))
  obtain ⟨cl2, Ar2, q2, S2, N2, H2, G2⟩ := id V_w
  refine gob (X1.arraylength hx (by rw [e1]; exact Ar2.1) (State.isArrayOf_alike hZ.alike Ar2.2.1) (g := (mkF m 8 #[.val (.ref o0), .val (.long (0 : Int64)), .second, .val (.ref w_w), .unset, .unset, .unset] [(.ref w_w)])) rfl rfl (hb hby d3_8)) ?_
  rw [len_of S2 N2]
  show Go _ _ _ _ _ _ _ (T1.setTop (mkF m 9 #[.val (.ref o0), .val (.long (0 : Int64)), .second, .val (.ref w_w), .unset, .unset, .unset] [(.int (0 : Int32))]))
  refine gob (fun _ k => XS.istore X1.here hx rfl (hb hby d3_9) rfl (l' := #[.val (.ref o0), .val (.long (0 : Int64)), .second, .val (.ref w_w), .val (.int (0 : Int32)), .unset, .unset]) rfl k) ?_
  show Go _ _ _ _ _ _ _ (T1.setTop (mkF m 11 #[.val (.ref o0), .val (.long (0 : Int64)), .second, .val (.ref w_w), .val (.int (0 : Int32)), .unset, .unset] []))
  refine gob (fun _ k => XS.iconst X1.here hx rfl (hb hby d3_11) k) ?_
  show Go _ _ _ _ _ _ _ (T1.setTop (mkF m 12 #[.val (.ref o0), .val (.long (0 : Int64)), .second, .val (.ref w_w), .val (.int (0 : Int32)), .unset, .unset] [(.int (0 : Int32))]))
  refine gob (fun _ k => XS.istore X1.here hx rfl (hb hby d3_12) rfl (l' := #[.val (.ref o0), .val (.long (0 : Int64)), .second, .val (.ref w_w), .val (.int (0 : Int32)), .val (.int (0 : Int32)), .unset]) rfl k) ?_
  show Go _ _ _ _ _ _ _ (T1.setTop (mkF m 14 #[.val (.ref o0), .val (.long (0 : Int64)), .second, .val (.ref w_w), .val (.int (0 : Int32)), .val (.int (0 : Int32)), .unset] []))
  refine gob (fun _ k => XS.iload X1.here hx rfl (hb hby d3_14) rfl k) ?_
  show Go _ _ _ _ _ _ _ (T1.setTop (mkF m 16 #[.val (.ref o0), .val (.long (0 : Int64)), .second, .val (.ref w_w), .val (.int (0 : Int32)), .val (.int (0 : Int32)), .unset] [(.int (0 : Int32))]))
  refine gob (fun _ k => XS.iload X1.here hx rfl (hb hby d3_16) rfl k) ?_
  show Go _ _ _ _ _ _ _ (T1.setTop (mkF m 18 #[.val (.ref o0), .val (.long (0 : Int64)), .second, .val (.ref w_w), .val (.int (0 : Int32)), .val (.int (0 : Int32)), .unset] [(.int (0 : Int32)), (.int (0 : Int32))]))
  refine gob (fun _ k => XS.icmpYes X1.here hx rfl (pc0 := 18) (pc' := 39) rfl (hb hby d3_18) rfl (flt (by decide : ¬ ((0 : Int32) < (0 : Int32)))).2.1 (by decide) (by decide) k) ?_
  show Go _ _ _ _ _ _ _ (T1.setTop (mkF m 39 #[.val (.ref o0), .val (.long (0 : Int64)), .second, .val (.ref w_w), .val (.int (0 : Int32)), .val (.int (0 : Int32)), .unset] []))
  refine gob (fun _ k => XS.lloadN X1.here hx rfl (hb hby d3_39) rfl k) ?_
  show Go _ _ _ _ _ _ _ (T1.setTop (mkF m 40 #[.val (.ref o0), .val (.long (0 : Int64)), .second, .val (.ref w_w), .val (.int (0 : Int32)), .val (.int (0 : Int32)), .unset] [(.long (0 : Int64))]))
  refine goJ X1 hx hlk Bd.returns (hb hby d3_40) ?_ (by decide) (by decide)
  show Q3_0 Z o0 w_w k_w h0 n0 (some (.long (0 : Int64))) T1.heap _
  exact ⟨(0 : Int64), rfl, rfl, N0, e1⟩
theorem ef_3_1 (m : MethodId) (x0 : Addr) : entryFrame m #[(.ref x0)] 7 = mkF m 0 #[.val (.ref x0), .unset, .unset, .unset, .unset, .unset, .unset] [] := by first | (simp [entryFrame, mkF, argsToLocals, Value.category]; done) | rfl
def Q3_1 (Z : State) (o0 : Addr) (w_w : Addr) (k_w : ClassId) (e_0 : Int32) (h0 : Heap) (n0 : Nat) (v : Option Value) (h : Heap) (L : List Loc) : Prop := ∃ r : Int64, v = some (.long r) ∧ ((r = ((0 : Int64) + (e_0.toInt64)))) ∧ Fr n0 L ∧ h = h0
set_option maxRecDepth 65536 in
set_option maxHeartbeats 40000000 in
theorem rm3_1 (l : Launch) (Z : State) (a0 : Array Value) (hw : ∀ d ∈ tables_1, d.before a0 Z = true) (ws : List Jvm.Cond) (o0 : Addr) (w_w : Addr) (k_w : ClassId) (e_0 : Int32) (h0 : Heap) (n0 : Nat) (Z0 : n0 ≤ h0.size) (F_weights : Fld Z h0 o0 "com/example/fenda/fenda/linalg/Graph" "weights" "[I" (.ref w_w)) (V_w : Arv Z h0 w_w k_w .int (1 : Int32) [(.int e_0)] (.int (0 : Int32))) :
    MetFree l (⟨"com/example/fenda/fenda/linalg/Graph", "totalWeight", "()J"⟩ : MethodName) (head1 (Jvm.Cond.code (⟨"com/example/fenda/fenda/linalg/Graph", "totalWeight", "()J"⟩ : MethodName) prog_66_method_4_code 7 (some .long) :: ws) ({ frames := 0, cells := 0, slots := 0, locals := 0 } : Room)) (fun a U => a = #[(.ref o0)] ∧ Z.Warmed39 U.vm ∧ U.heap = h0) (fun _ _ _ _ _ => True) (fun _ U o U' => ∃ v L, o = .returned v ∧ Q3_1 Z o0 w_w k_w e_0 h0 n0 v U'.heap L ∧ FrameEnd U o U' L ({ frames := 0, cells := 0, slots := 0, locals := 0 } : Room).cells ({ frames := 0, cells := 0, slots := 0, locals := 0 } : Room).slots) := by
  refine MetFree.of_bodySF (plainFor_of_name (by first | (simp [plainName, overriddenIn]; done) | decide +kernel)) hisR ?_
  intro p e s m args below meth c s₁ Bd hml0 hP hK
  obtain ⟨rfl, hZ, hh⟩ := hP
  have hx := Bd.exec
  have hby := Bd.bytes
  have hml : c.maxLocals = 7 := hml0
  have hown : s.vm.findClass "com/example/fenda/fenda/linalg/Graph" = some m.cls := findClass_of_methodNamed Bd.named
  have hnm := (name_of_methodNamed Bd.named Bd.method).1
  have hlk := BodyLoose.notSynchronized Bd
  have X0 : Stand p l e ({ frames := 0, cells := 0, slots := 0, locals := 0 } : Room) s m #[(.ref o0)] below meth c s₁ [] 0 0 := Stand.of_body Bd
  have e0 : s₁.heap = h0 := by rw [← hh, Bd.state]; rfl
  have N0 := Fr.nil n0
  show Go p e below s (Q3_1 Z o0 w_w k_w e_0 h0 n0) 0 0 (s₁.setTop (entryFrame m #[(.ref o0)] 7))
  rw [ef_3_1]
  show Go _ _ _ _ _ _ _ (s₁.setTop (mkF m 0 #[.val (.ref o0), .unset, .unset, .unset, .unset, .unset, .unset] []))
  refine gob (fun _ k => XS.lconst X0.here hx rfl (hb hby d3_0) k) ?_
  show Go _ _ _ _ _ _ _ (s₁.setTop (mkF m 1 #[.val (.ref o0), .unset, .unset, .unset, .unset, .unset, .unset] [(.long (0 : Int64))]))
  refine gob (fun _ k => XS.lstoreN X0.here hx rfl (hb hby d3_1) rfl (l' := #[.val (.ref o0), .val (.long (0 : Int64)), .second, .unset, .unset, .unset, .unset]) rfl k) ?_
  show Go _ _ _ _ _ _ _ (s₁.setTop (mkF m 2 #[.val (.ref o0), .val (.long (0 : Int64)), .second, .unset, .unset, .unset, .unset] []))
  refine gob (fun _ k => XS.aloadN X0.here hx rfl (hb hby d3_2) rfl rfl k) ?_
  show Go _ _ _ _ _ _ _ (s₁.setTop (mkF m 3 #[.val (.ref o0), .val (.long (0 : Int64)), .second, .unset, .unset, .unset, .unset] [(.ref o0)]))
  obtain ⟨T1, X1, e1, st1⟩ := getF X0 hx hZ hown (host := "") (Or.inl (hw _ (List.mem_of_getElem? (i := 17) rfl))) Via.refl e0 F_weights (g := (mkF m 3 #[.val (.ref o0), .val (.long (0 : Int64)), .second, .unset, .unset, .unset, .unset] [(.ref o0)])) rfl rfl (hb hby d3_3)
  refine gob st1 ?_
  show Go _ _ _ _ _ _ _ (T1.setTop (mkF m 6 #[.val (.ref o0), .val (.long (0 : Int64)), .second, .unset, .unset, .unset, .unset] [(.ref w_w)]))
  refine gob (fun _ k => XS.astoreN X1.here hx rfl (hb hby d3_6) rfl rfl (l' := #[.val (.ref o0), .val (.long (0 : Int64)), .second, .val (.ref w_w), .unset, .unset, .unset]) rfl k) ?_
  show Go _ _ _ _ _ _ _ (T1.setTop (mkF m 7 #[.val (.ref o0), .val (.long (0 : Int64)), .second, .val (.ref w_w), .unset, .unset, .unset] []))
  refine gob (fun _ k => XS.aloadN X1.here hx rfl (hb hby d3_7) rfl rfl k) ?_
  show Go _ _ _ _ _ _ _ (T1.setTop (mkF m 8 #[.val (.ref o0), .val (.long (0 : Int64)), .second, .val (.ref w_w), .unset, .unset, .unset] [(.ref w_w)]))
  obtain ⟨cl2, Ar2, q2, S2, N2, H2, G2⟩ := id V_w
  refine gob (X1.arraylength hx (by rw [e1]; exact Ar2.1) (State.isArrayOf_alike hZ.alike Ar2.2.1) (g := (mkF m 8 #[.val (.ref o0), .val (.long (0 : Int64)), .second, .val (.ref w_w), .unset, .unset, .unset] [(.ref w_w)])) rfl rfl (hb hby d3_8)) ?_
  rw [len_of S2 N2]
  show Go _ _ _ _ _ _ _ (T1.setTop (mkF m 9 #[.val (.ref o0), .val (.long (0 : Int64)), .second, .val (.ref w_w), .unset, .unset, .unset] [(.int (1 : Int32))]))
  refine gob (fun _ k => XS.istore X1.here hx rfl (hb hby d3_9) rfl (l' := #[.val (.ref o0), .val (.long (0 : Int64)), .second, .val (.ref w_w), .val (.int (1 : Int32)), .unset, .unset]) rfl k) ?_
  show Go _ _ _ _ _ _ _ (T1.setTop (mkF m 11 #[.val (.ref o0), .val (.long (0 : Int64)), .second, .val (.ref w_w), .val (.int (1 : Int32)), .unset, .unset] []))
  refine gob (fun _ k => XS.iconst X1.here hx rfl (hb hby d3_11) k) ?_
  show Go _ _ _ _ _ _ _ (T1.setTop (mkF m 12 #[.val (.ref o0), .val (.long (0 : Int64)), .second, .val (.ref w_w), .val (.int (1 : Int32)), .unset, .unset] [(.int (0 : Int32))]))
  refine gob (fun _ k => XS.istore X1.here hx rfl (hb hby d3_12) rfl (l' := #[.val (.ref o0), .val (.long (0 : Int64)), .second, .val (.ref w_w), .val (.int (1 : Int32)), .val (.int (0 : Int32)), .unset]) rfl k) ?_
  show Go _ _ _ _ _ _ _ (T1.setTop (mkF m 14 #[.val (.ref o0), .val (.long (0 : Int64)), .second, .val (.ref w_w), .val (.int (1 : Int32)), .val (.int (0 : Int32)), .unset] []))
  refine gob (fun _ k => XS.iload X1.here hx rfl (hb hby d3_14) rfl k) ?_
  show Go _ _ _ _ _ _ _ (T1.setTop (mkF m 16 #[.val (.ref o0), .val (.long (0 : Int64)), .second, .val (.ref w_w), .val (.int (1 : Int32)), .val (.int (0 : Int32)), .unset] [(.int (0 : Int32))]))
  refine gob (fun _ k => XS.iload X1.here hx rfl (hb hby d3_16) rfl k) ?_
  show Go _ _ _ _ _ _ _ (T1.setTop (mkF m 18 #[.val (.ref o0), .val (.long (0 : Int64)), .second, .val (.ref w_w), .val (.int (1 : Int32)), .val (.int (0 : Int32)), .unset] [(.int (1 : Int32)), (.int (0 : Int32))]))
  refine gob (fun _ k => XS.icmpNo X1.here hx rfl (hb hby d3_18) rfl (tlt (by decide : (0 : Int32) < (1 : Int32))).2.1 k) ?_
  show Go _ _ _ _ _ _ _ (T1.setTop (mkF m 21 #[.val (.ref o0), .val (.long (0 : Int64)), .second, .val (.ref w_w), .val (.int (1 : Int32)), .val (.int (0 : Int32)), .unset] []))
  refine gob (fun _ k => XS.aloadN X1.here hx rfl (hb hby d3_21) rfl rfl k) ?_
  show Go _ _ _ _ _ _ _ (T1.setTop (mkF m 22 #[.val (.ref o0), .val (.long (0 : Int64)), .second, .val (.ref w_w), .val (.int (1 : Int32)), .val (.int (0 : Int32)), .unset] [(.ref w_w)]))
  refine gob (fun _ k => XS.iload X1.here hx rfl (hb hby d3_22) rfl k) ?_
  show Go _ _ _ _ _ _ _ (T1.setTop (mkF m 24 #[.val (.ref o0), .val (.long (0 : Int64)), .second, .val (.ref w_w), .val (.int (1 : Int32)), .val (.int (0 : Int32)), .unset] [(.int (0 : Int32)), (.ref w_w)]))
  obtain ⟨cl3, Ar3, q3, S3, N3, H3, G3⟩ := id V_w
  have hin3 : ¬ ((0 : Int32) < 0 ∨ cl3.slots.size ≤ ((0 : Int32)).toNatClampNeg) := inb_of S3 ⟨by decide, by decide⟩
  refine gob (X1.iaload hx (j := (0 : Int32)) (v := (.int e_0)) (by rw [e1]; exact Ar3.1) (State.isArrayOf_alike hZ.alike Ar3.2.1) Ar3.2.2 hin3 (Has.at H3 hin3 rfl) (g := (mkF m 24 #[.val (.ref o0), .val (.long (0 : Int64)), .second, .val (.ref w_w), .val (.int (1 : Int32)), .val (.int (0 : Int32)), .unset] [(.int (0 : Int32)), (.ref w_w)])) rfl rfl (hb hby d3_24)) ?_
  show Go _ _ _ _ _ _ _ (T1.setTop (mkF m 25 #[.val (.ref o0), .val (.long (0 : Int64)), .second, .val (.ref w_w), .val (.int (1 : Int32)), .val (.int (0 : Int32)), .unset] [(.int e_0)]))
  refine gob (fun _ k => XS.istore X1.here hx rfl (hb hby d3_25) rfl (l' := #[.val (.ref o0), .val (.long (0 : Int64)), .second, .val (.ref w_w), .val (.int (1 : Int32)), .val (.int (0 : Int32)), .val (.int e_0)]) rfl k) ?_
  show Go _ _ _ _ _ _ _ (T1.setTop (mkF m 27 #[.val (.ref o0), .val (.long (0 : Int64)), .second, .val (.ref w_w), .val (.int (1 : Int32)), .val (.int (0 : Int32)), .val (.int e_0)] []))
  refine gob (fun _ k => XS.lloadN X1.here hx rfl (hb hby d3_27) rfl k) ?_
  show Go _ _ _ _ _ _ _ (T1.setTop (mkF m 28 #[.val (.ref o0), .val (.long (0 : Int64)), .second, .val (.ref w_w), .val (.int (1 : Int32)), .val (.int (0 : Int32)), .val (.int e_0)] [(.long (0 : Int64))]))
  refine gob (fun _ k => XS.iload X1.here hx rfl (hb hby d3_28) rfl k) ?_
  show Go _ _ _ _ _ _ _ (T1.setTop (mkF m 30 #[.val (.ref o0), .val (.long (0 : Int64)), .second, .val (.ref w_w), .val (.int (1 : Int32)), .val (.int (0 : Int32)), .val (.int e_0)] [(.int e_0), (.long (0 : Int64))]))
  refine gob (fun _ k => XS.i2l X1.here hx rfl (hb hby d3_30) rfl k) ?_
  show Go _ _ _ _ _ _ _ (T1.setTop (mkF m 31 #[.val (.ref o0), .val (.long (0 : Int64)), .second, .val (.ref w_w), .val (.int (1 : Int32)), .val (.int (0 : Int32)), .val (.int e_0)] [(.long (e_0.toInt64)), (.long (0 : Int64))]))
  refine gob (fun _ k => XS.ladd X1.here hx rfl (hb hby d3_31) rfl k) ?_
  show Go _ _ _ _ _ _ _ (T1.setTop (mkF m 32 #[.val (.ref o0), .val (.long (0 : Int64)), .second, .val (.ref w_w), .val (.int (1 : Int32)), .val (.int (0 : Int32)), .val (.int e_0)] [(.long ((0 : Int64) + (e_0.toInt64)))]))
  refine gob (fun _ k => XS.lstoreN X1.here hx rfl (hb hby d3_32) rfl (l' := #[.val (.ref o0), .val (.long ((0 : Int64) + (e_0.toInt64))), .second, .val (.ref w_w), .val (.int (1 : Int32)), .val (.int (0 : Int32)), .val (.int e_0)]) rfl k) ?_
  show Go _ _ _ _ _ _ _ (T1.setTop (mkF m 33 #[.val (.ref o0), .val (.long ((0 : Int64) + (e_0.toInt64))), .second, .val (.ref w_w), .val (.int (1 : Int32)), .val (.int (0 : Int32)), .val (.int e_0)] []))
  refine gob (fun _ k => XS.iinc X1.here hx rfl (hb hby d3_33) rfl (l' := #[.val (.ref o0), .val (.long ((0 : Int64) + (e_0.toInt64))), .second, .val (.ref w_w), .val (.int (1 : Int32)), .val (.int (1 : Int32)), .val (.int e_0)]) rfl k) ?_
  show Go _ _ _ _ _ _ _ (T1.setTop (mkF m 36 #[.val (.ref o0), .val (.long ((0 : Int64) + (e_0.toInt64))), .second, .val (.ref w_w), .val (.int (1 : Int32)), .val (.int (1 : Int32)), .val (.int e_0)] []))
  refine gob (fun _ k => XS.goto X1.here hx rfl (pc0 := 36) (pc' := 14) rfl (hb hby d3_36) (by decide) (by decide) k) ?_
  show Go _ _ _ _ _ _ _ (T1.setTop (mkF m 14 #[.val (.ref o0), .val (.long ((0 : Int64) + (e_0.toInt64))), .second, .val (.ref w_w), .val (.int (1 : Int32)), .val (.int (1 : Int32)), .val (.int e_0)] []))
  refine gob (fun _ k => XS.iload X1.here hx rfl (hb hby d3_14) rfl k) ?_
  show Go _ _ _ _ _ _ _ (T1.setTop (mkF m 16 #[.val (.ref o0), .val (.long ((0 : Int64) + (e_0.toInt64))), .second, .val (.ref w_w), .val (.int (1 : Int32)), .val (.int (1 : Int32)), .val (.int e_0)] [(.int (1 : Int32))]))
  refine gob (fun _ k => XS.iload X1.here hx rfl (hb hby d3_16) rfl k) ?_
  show Go _ _ _ _ _ _ _ (T1.setTop (mkF m 18 #[.val (.ref o0), .val (.long ((0 : Int64) + (e_0.toInt64))), .second, .val (.ref w_w), .val (.int (1 : Int32)), .val (.int (1 : Int32)), .val (.int e_0)] [(.int (1 : Int32)), (.int (1 : Int32))]))
  refine gob (fun _ k => XS.icmpYes X1.here hx rfl (pc0 := 18) (pc' := 39) rfl (hb hby d3_18) rfl (flt (by decide : ¬ ((1 : Int32) < (1 : Int32)))).2.1 (by decide) (by decide) k) ?_
  show Go _ _ _ _ _ _ _ (T1.setTop (mkF m 39 #[.val (.ref o0), .val (.long ((0 : Int64) + (e_0.toInt64))), .second, .val (.ref w_w), .val (.int (1 : Int32)), .val (.int (1 : Int32)), .val (.int e_0)] []))
  refine gob (fun _ k => XS.lloadN X1.here hx rfl (hb hby d3_39) rfl k) ?_
  show Go _ _ _ _ _ _ _ (T1.setTop (mkF m 40 #[.val (.ref o0), .val (.long ((0 : Int64) + (e_0.toInt64))), .second, .val (.ref w_w), .val (.int (1 : Int32)), .val (.int (1 : Int32)), .val (.int e_0)] [(.long ((0 : Int64) + (e_0.toInt64)))]))
  refine goJ X1 hx hlk Bd.returns (hb hby d3_40) ?_ (by decide) (by decide)
  show Q3_1 Z o0 w_w k_w e_0 h0 n0 (some (.long ((0 : Int64) + (e_0.toInt64)))) T1.heap _
  exact ⟨((0 : Int64) + (e_0.toInt64)), rfl, rfl, N0, e1⟩
theorem ef_3_2 (m : MethodId) (x0 : Addr) : entryFrame m #[(.ref x0)] 7 = mkF m 0 #[.val (.ref x0), .unset, .unset, .unset, .unset, .unset, .unset] [] := by first | (simp [entryFrame, mkF, argsToLocals, Value.category]; done) | rfl
def Q3_2 (Z : State) (o0 : Addr) (w_w : Addr) (k_w : ClassId) (e_0 : Int32) (e_1 : Int32) (h0 : Heap) (n0 : Nat) (v : Option Value) (h : Heap) (L : List Loc) : Prop := ∃ r : Int64, v = some (.long r) ∧ ((r = (((0 : Int64) + (e_0.toInt64)) + (e_1.toInt64)))) ∧ Fr n0 L ∧ h = h0
set_option maxRecDepth 65536 in
set_option maxHeartbeats 40000000 in
theorem rm3_2 (l : Launch) (Z : State) (a0 : Array Value) (hw : ∀ d ∈ tables_1, d.before a0 Z = true) (ws : List Jvm.Cond) (o0 : Addr) (w_w : Addr) (k_w : ClassId) (e_0 : Int32) (e_1 : Int32) (h0 : Heap) (n0 : Nat) (Z0 : n0 ≤ h0.size) (F_weights : Fld Z h0 o0 "com/example/fenda/fenda/linalg/Graph" "weights" "[I" (.ref w_w)) (V_w : Arv Z h0 w_w k_w .int (2 : Int32) [(.int e_0), (.int e_1)] (.int (0 : Int32))) :
    MetFree l (⟨"com/example/fenda/fenda/linalg/Graph", "totalWeight", "()J"⟩ : MethodName) (head1 (Jvm.Cond.code (⟨"com/example/fenda/fenda/linalg/Graph", "totalWeight", "()J"⟩ : MethodName) prog_66_method_4_code 7 (some .long) :: ws) ({ frames := 0, cells := 0, slots := 0, locals := 0 } : Room)) (fun a U => a = #[(.ref o0)] ∧ Z.Warmed39 U.vm ∧ U.heap = h0) (fun _ _ _ _ _ => True) (fun _ U o U' => ∃ v L, o = .returned v ∧ Q3_2 Z o0 w_w k_w e_0 e_1 h0 n0 v U'.heap L ∧ FrameEnd U o U' L ({ frames := 0, cells := 0, slots := 0, locals := 0 } : Room).cells ({ frames := 0, cells := 0, slots := 0, locals := 0 } : Room).slots) := by
  refine MetFree.of_bodySF (plainFor_of_name (by first | (simp [plainName, overriddenIn]; done) | decide +kernel)) hisR ?_
  intro p e s m args below meth c s₁ Bd hml0 hP hK
  obtain ⟨rfl, hZ, hh⟩ := hP
  have hx := Bd.exec
  have hby := Bd.bytes
  have hml : c.maxLocals = 7 := hml0
  have hown : s.vm.findClass "com/example/fenda/fenda/linalg/Graph" = some m.cls := findClass_of_methodNamed Bd.named
  have hnm := (name_of_methodNamed Bd.named Bd.method).1
  have hlk := BodyLoose.notSynchronized Bd
  have X0 : Stand p l e ({ frames := 0, cells := 0, slots := 0, locals := 0 } : Room) s m #[(.ref o0)] below meth c s₁ [] 0 0 := Stand.of_body Bd
  have e0 : s₁.heap = h0 := by rw [← hh, Bd.state]; rfl
  have N0 := Fr.nil n0
  show Go p e below s (Q3_2 Z o0 w_w k_w e_0 e_1 h0 n0) 0 0 (s₁.setTop (entryFrame m #[(.ref o0)] 7))
  rw [ef_3_2]
  show Go _ _ _ _ _ _ _ (s₁.setTop (mkF m 0 #[.val (.ref o0), .unset, .unset, .unset, .unset, .unset, .unset] []))
  refine gob (fun _ k => XS.lconst X0.here hx rfl (hb hby d3_0) k) ?_
  show Go _ _ _ _ _ _ _ (s₁.setTop (mkF m 1 #[.val (.ref o0), .unset, .unset, .unset, .unset, .unset, .unset] [(.long (0 : Int64))]))
  refine gob (fun _ k => XS.lstoreN X0.here hx rfl (hb hby d3_1) rfl (l' := #[.val (.ref o0), .val (.long (0 : Int64)), .second, .unset, .unset, .unset, .unset]) rfl k) ?_
  show Go _ _ _ _ _ _ _ (s₁.setTop (mkF m 2 #[.val (.ref o0), .val (.long (0 : Int64)), .second, .unset, .unset, .unset, .unset] []))
  refine gob (fun _ k => XS.aloadN X0.here hx rfl (hb hby d3_2) rfl rfl k) ?_
  show Go _ _ _ _ _ _ _ (s₁.setTop (mkF m 3 #[.val (.ref o0), .val (.long (0 : Int64)), .second, .unset, .unset, .unset, .unset] [(.ref o0)]))
  obtain ⟨T1, X1, e1, st1⟩ := getF X0 hx hZ hown (host := "") (Or.inl (hw _ (List.mem_of_getElem? (i := 17) rfl))) Via.refl e0 F_weights (g := (mkF m 3 #[.val (.ref o0), .val (.long (0 : Int64)), .second, .unset, .unset, .unset, .unset] [(.ref o0)])) rfl rfl (hb hby d3_3)
  refine gob st1 ?_
  show Go _ _ _ _ _ _ _ (T1.setTop (mkF m 6 #[.val (.ref o0), .val (.long (0 : Int64)), .second, .unset, .unset, .unset, .unset] [(.ref w_w)]))
  refine gob (fun _ k => XS.astoreN X1.here hx rfl (hb hby d3_6) rfl rfl (l' := #[.val (.ref o0), .val (.long (0 : Int64)), .second, .val (.ref w_w), .unset, .unset, .unset]) rfl k) ?_
  show Go _ _ _ _ _ _ _ (T1.setTop (mkF m 7 #[.val (.ref o0), .val (.long (0 : Int64)), .second, .val (.ref w_w), .unset, .unset, .unset] []))
  refine gob (fun _ k => XS.aloadN X1.here hx rfl (hb hby d3_7) rfl rfl k) ?_
  show Go _ _ _ _ _ _ _ (T1.setTop (mkF m 8 #[.val (.ref o0), .val (.long (0 : Int64)), .second, .val (.ref w_w), .unset, .unset, .unset] [(.ref w_w)]))
  obtain ⟨cl2, Ar2, q2, S2, N2, H2, G2⟩ := id V_w
  refine gob (X1.arraylength hx (by rw [e1]; exact Ar2.1) (State.isArrayOf_alike hZ.alike Ar2.2.1) (g := (mkF m 8 #[.val (.ref o0), .val (.long (0 : Int64)), .second, .val (.ref w_w), .unset, .unset, .unset] [(.ref w_w)])) rfl rfl (hb hby d3_8)) ?_
  rw [len_of S2 N2]
  show Go _ _ _ _ _ _ _ (T1.setTop (mkF m 9 #[.val (.ref o0), .val (.long (0 : Int64)), .second, .val (.ref w_w), .unset, .unset, .unset] [(.int (2 : Int32))]))
  refine gob (fun _ k => XS.istore X1.here hx rfl (hb hby d3_9) rfl (l' := #[.val (.ref o0), .val (.long (0 : Int64)), .second, .val (.ref w_w), .val (.int (2 : Int32)), .unset, .unset]) rfl k) ?_
  show Go _ _ _ _ _ _ _ (T1.setTop (mkF m 11 #[.val (.ref o0), .val (.long (0 : Int64)), .second, .val (.ref w_w), .val (.int (2 : Int32)), .unset, .unset] []))
  refine gob (fun _ k => XS.iconst X1.here hx rfl (hb hby d3_11) k) ?_
  show Go _ _ _ _ _ _ _ (T1.setTop (mkF m 12 #[.val (.ref o0), .val (.long (0 : Int64)), .second, .val (.ref w_w), .val (.int (2 : Int32)), .unset, .unset] [(.int (0 : Int32))]))
  refine gob (fun _ k => XS.istore X1.here hx rfl (hb hby d3_12) rfl (l' := #[.val (.ref o0), .val (.long (0 : Int64)), .second, .val (.ref w_w), .val (.int (2 : Int32)), .val (.int (0 : Int32)), .unset]) rfl k) ?_
  show Go _ _ _ _ _ _ _ (T1.setTop (mkF m 14 #[.val (.ref o0), .val (.long (0 : Int64)), .second, .val (.ref w_w), .val (.int (2 : Int32)), .val (.int (0 : Int32)), .unset] []))
  refine gob (fun _ k => XS.iload X1.here hx rfl (hb hby d3_14) rfl k) ?_
  show Go _ _ _ _ _ _ _ (T1.setTop (mkF m 16 #[.val (.ref o0), .val (.long (0 : Int64)), .second, .val (.ref w_w), .val (.int (2 : Int32)), .val (.int (0 : Int32)), .unset] [(.int (0 : Int32))]))
  refine gob (fun _ k => XS.iload X1.here hx rfl (hb hby d3_16) rfl k) ?_
  show Go _ _ _ _ _ _ _ (T1.setTop (mkF m 18 #[.val (.ref o0), .val (.long (0 : Int64)), .second, .val (.ref w_w), .val (.int (2 : Int32)), .val (.int (0 : Int32)), .unset] [(.int (2 : Int32)), (.int (0 : Int32))]))
  refine gob (fun _ k => XS.icmpNo X1.here hx rfl (hb hby d3_18) rfl (tlt (by decide : (0 : Int32) < (2 : Int32))).2.1 k) ?_
  show Go _ _ _ _ _ _ _ (T1.setTop (mkF m 21 #[.val (.ref o0), .val (.long (0 : Int64)), .second, .val (.ref w_w), .val (.int (2 : Int32)), .val (.int (0 : Int32)), .unset] []))
  refine gob (fun _ k => XS.aloadN X1.here hx rfl (hb hby d3_21) rfl rfl k) ?_
  show Go _ _ _ _ _ _ _ (T1.setTop (mkF m 22 #[.val (.ref o0), .val (.long (0 : Int64)), .second, .val (.ref w_w), .val (.int (2 : Int32)), .val (.int (0 : Int32)), .unset] [(.ref w_w)]))
  refine gob (fun _ k => XS.iload X1.here hx rfl (hb hby d3_22) rfl k) ?_
  show Go _ _ _ _ _ _ _ (T1.setTop (mkF m 24 #[.val (.ref o0), .val (.long (0 : Int64)), .second, .val (.ref w_w), .val (.int (2 : Int32)), .val (.int (0 : Int32)), .unset] [(.int (0 : Int32)), (.ref w_w)]))
  obtain ⟨cl3, Ar3, q3, S3, N3, H3, G3⟩ := id V_w
  have hin3 : ¬ ((0 : Int32) < 0 ∨ cl3.slots.size ≤ ((0 : Int32)).toNatClampNeg) := inb_of S3 ⟨by decide, by decide⟩
  refine gob (X1.iaload hx (j := (0 : Int32)) (v := (.int e_0)) (by rw [e1]; exact Ar3.1) (State.isArrayOf_alike hZ.alike Ar3.2.1) Ar3.2.2 hin3 (Has.at H3 hin3 rfl) (g := (mkF m 24 #[.val (.ref o0), .val (.long (0 : Int64)), .second, .val (.ref w_w), .val (.int (2 : Int32)), .val (.int (0 : Int32)), .unset] [(.int (0 : Int32)), (.ref w_w)])) rfl rfl (hb hby d3_24)) ?_
  show Go _ _ _ _ _ _ _ (T1.setTop (mkF m 25 #[.val (.ref o0), .val (.long (0 : Int64)), .second, .val (.ref w_w), .val (.int (2 : Int32)), .val (.int (0 : Int32)), .unset] [(.int e_0)]))
  refine gob (fun _ k => XS.istore X1.here hx rfl (hb hby d3_25) rfl (l' := #[.val (.ref o0), .val (.long (0 : Int64)), .second, .val (.ref w_w), .val (.int (2 : Int32)), .val (.int (0 : Int32)), .val (.int e_0)]) rfl k) ?_
  show Go _ _ _ _ _ _ _ (T1.setTop (mkF m 27 #[.val (.ref o0), .val (.long (0 : Int64)), .second, .val (.ref w_w), .val (.int (2 : Int32)), .val (.int (0 : Int32)), .val (.int e_0)] []))
  refine gob (fun _ k => XS.lloadN X1.here hx rfl (hb hby d3_27) rfl k) ?_
  show Go _ _ _ _ _ _ _ (T1.setTop (mkF m 28 #[.val (.ref o0), .val (.long (0 : Int64)), .second, .val (.ref w_w), .val (.int (2 : Int32)), .val (.int (0 : Int32)), .val (.int e_0)] [(.long (0 : Int64))]))
  refine gob (fun _ k => XS.iload X1.here hx rfl (hb hby d3_28) rfl k) ?_
  show Go _ _ _ _ _ _ _ (T1.setTop (mkF m 30 #[.val (.ref o0), .val (.long (0 : Int64)), .second, .val (.ref w_w), .val (.int (2 : Int32)), .val (.int (0 : Int32)), .val (.int e_0)] [(.int e_0), (.long (0 : Int64))]))
  refine gob (fun _ k => XS.i2l X1.here hx rfl (hb hby d3_30) rfl k) ?_
  show Go _ _ _ _ _ _ _ (T1.setTop (mkF m 31 #[.val (.ref o0), .val (.long (0 : Int64)), .second, .val (.ref w_w), .val (.int (2 : Int32)), .val (.int (0 : Int32)), .val (.int e_0)] [(.long (e_0.toInt64)), (.long (0 : Int64))]))
  refine gob (fun _ k => XS.ladd X1.here hx rfl (hb hby d3_31) rfl k) ?_
  show Go _ _ _ _ _ _ _ (T1.setTop (mkF m 32 #[.val (.ref o0), .val (.long (0 : Int64)), .second, .val (.ref w_w), .val (.int (2 : Int32)), .val (.int (0 : Int32)), .val (.int e_0)] [(.long ((0 : Int64) + (e_0.toInt64)))]))
  refine gob (fun _ k => XS.lstoreN X1.here hx rfl (hb hby d3_32) rfl (l' := #[.val (.ref o0), .val (.long ((0 : Int64) + (e_0.toInt64))), .second, .val (.ref w_w), .val (.int (2 : Int32)), .val (.int (0 : Int32)), .val (.int e_0)]) rfl k) ?_
  show Go _ _ _ _ _ _ _ (T1.setTop (mkF m 33 #[.val (.ref o0), .val (.long ((0 : Int64) + (e_0.toInt64))), .second, .val (.ref w_w), .val (.int (2 : Int32)), .val (.int (0 : Int32)), .val (.int e_0)] []))
  refine gob (fun _ k => XS.iinc X1.here hx rfl (hb hby d3_33) rfl (l' := #[.val (.ref o0), .val (.long ((0 : Int64) + (e_0.toInt64))), .second, .val (.ref w_w), .val (.int (2 : Int32)), .val (.int (1 : Int32)), .val (.int e_0)]) rfl k) ?_
  show Go _ _ _ _ _ _ _ (T1.setTop (mkF m 36 #[.val (.ref o0), .val (.long ((0 : Int64) + (e_0.toInt64))), .second, .val (.ref w_w), .val (.int (2 : Int32)), .val (.int (1 : Int32)), .val (.int e_0)] []))
  refine gob (fun _ k => XS.goto X1.here hx rfl (pc0 := 36) (pc' := 14) rfl (hb hby d3_36) (by decide) (by decide) k) ?_
  show Go _ _ _ _ _ _ _ (T1.setTop (mkF m 14 #[.val (.ref o0), .val (.long ((0 : Int64) + (e_0.toInt64))), .second, .val (.ref w_w), .val (.int (2 : Int32)), .val (.int (1 : Int32)), .val (.int e_0)] []))
  refine gob (fun _ k => XS.iload X1.here hx rfl (hb hby d3_14) rfl k) ?_
  show Go _ _ _ _ _ _ _ (T1.setTop (mkF m 16 #[.val (.ref o0), .val (.long ((0 : Int64) + (e_0.toInt64))), .second, .val (.ref w_w), .val (.int (2 : Int32)), .val (.int (1 : Int32)), .val (.int e_0)] [(.int (1 : Int32))]))
  refine gob (fun _ k => XS.iload X1.here hx rfl (hb hby d3_16) rfl k) ?_
  show Go _ _ _ _ _ _ _ (T1.setTop (mkF m 18 #[.val (.ref o0), .val (.long ((0 : Int64) + (e_0.toInt64))), .second, .val (.ref w_w), .val (.int (2 : Int32)), .val (.int (1 : Int32)), .val (.int e_0)] [(.int (2 : Int32)), (.int (1 : Int32))]))
  refine gob (fun _ k => XS.icmpNo X1.here hx rfl (hb hby d3_18) rfl (tlt (by decide : (1 : Int32) < (2 : Int32))).2.1 k) ?_
  show Go _ _ _ _ _ _ _ (T1.setTop (mkF m 21 #[.val (.ref o0), .val (.long ((0 : Int64) + (e_0.toInt64))), .second, .val (.ref w_w), .val (.int (2 : Int32)), .val (.int (1 : Int32)), .val (.int e_0)] []))
  refine gob (fun _ k => XS.aloadN X1.here hx rfl (hb hby d3_21) rfl rfl k) ?_
  show Go _ _ _ _ _ _ _ (T1.setTop (mkF m 22 #[.val (.ref o0), .val (.long ((0 : Int64) + (e_0.toInt64))), .second, .val (.ref w_w), .val (.int (2 : Int32)), .val (.int (1 : Int32)), .val (.int e_0)] [(.ref w_w)]))
  refine gob (fun _ k => XS.iload X1.here hx rfl (hb hby d3_22) rfl k) ?_
  show Go _ _ _ _ _ _ _ (T1.setTop (mkF m 24 #[.val (.ref o0), .val (.long ((0 : Int64) + (e_0.toInt64))), .second, .val (.ref w_w), .val (.int (2 : Int32)), .val (.int (1 : Int32)), .val (.int e_0)] [(.int (1 : Int32)), (.ref w_w)]))
  obtain ⟨cl4, Ar4, q4, S4, N4, H4, G4⟩ := id V_w
  have hin4 : ¬ ((1 : Int32) < 0 ∨ cl4.slots.size ≤ ((1 : Int32)).toNatClampNeg) := inb_of S4 ⟨by decide, by decide⟩
  refine gob (X1.iaload hx (j := (1 : Int32)) (v := (.int e_1)) (by rw [e1]; exact Ar4.1) (State.isArrayOf_alike hZ.alike Ar4.2.1) Ar4.2.2 hin4 (Has.at H4 hin4 rfl) (g := (mkF m 24 #[.val (.ref o0), .val (.long ((0 : Int64) + (e_0.toInt64))), .second, .val (.ref w_w), .val (.int (2 : Int32)), .val (.int (1 : Int32)), .val (.int e_0)] [(.int (1 : Int32)), (.ref w_w)])) rfl rfl (hb hby d3_24)) ?_
  show Go _ _ _ _ _ _ _ (T1.setTop (mkF m 25 #[.val (.ref o0), .val (.long ((0 : Int64) + (e_0.toInt64))), .second, .val (.ref w_w), .val (.int (2 : Int32)), .val (.int (1 : Int32)), .val (.int e_0)] [(.int e_1)]))
  refine gob (fun _ k => XS.istore X1.here hx rfl (hb hby d3_25) rfl (l' := #[.val (.ref o0), .val (.long ((0 : Int64) + (e_0.toInt64))), .second, .val (.ref w_w), .val (.int (2 : Int32)), .val (.int (1 : Int32)), .val (.int e_1)]) rfl k) ?_
  show Go _ _ _ _ _ _ _ (T1.setTop (mkF m 27 #[.val (.ref o0), .val (.long ((0 : Int64) + (e_0.toInt64))), .second, .val (.ref w_w), .val (.int (2 : Int32)), .val (.int (1 : Int32)), .val (.int e_1)] []))
  refine gob (fun _ k => XS.lloadN X1.here hx rfl (hb hby d3_27) rfl k) ?_
  show Go _ _ _ _ _ _ _ (T1.setTop (mkF m 28 #[.val (.ref o0), .val (.long ((0 : Int64) + (e_0.toInt64))), .second, .val (.ref w_w), .val (.int (2 : Int32)), .val (.int (1 : Int32)), .val (.int e_1)] [(.long ((0 : Int64) + (e_0.toInt64)))]))
  refine gob (fun _ k => XS.iload X1.here hx rfl (hb hby d3_28) rfl k) ?_
  show Go _ _ _ _ _ _ _ (T1.setTop (mkF m 30 #[.val (.ref o0), .val (.long ((0 : Int64) + (e_0.toInt64))), .second, .val (.ref w_w), .val (.int (2 : Int32)), .val (.int (1 : Int32)), .val (.int e_1)] [(.int e_1), (.long ((0 : Int64) + (e_0.toInt64)))]))
  refine gob (fun _ k => XS.i2l X1.here hx rfl (hb hby d3_30) rfl k) ?_
  show Go _ _ _ _ _ _ _ (T1.setTop (mkF m 31 #[.val (.ref o0), .val (.long ((0 : Int64) + (e_0.toInt64))), .second, .val (.ref w_w), .val (.int (2 : Int32)), .val (.int (1 : Int32)), .val (.int e_1)] [(.long (e_1.toInt64)), (.long ((0 : Int64) + (e_0.toInt64)))]))
  refine gob (fun _ k => XS.ladd X1.here hx rfl (hb hby d3_31) rfl k) ?_
  show Go _ _ _ _ _ _ _ (T1.setTop (mkF m 32 #[.val (.ref o0), .val (.long ((0 : Int64) + (e_0.toInt64))), .second, .val (.ref w_w), .val (.int (2 : Int32)), .val (.int (1 : Int32)), .val (.int e_1)] [(.long (((0 : Int64) + (e_0.toInt64)) + (e_1.toInt64)))]))
  refine gob (fun _ k => XS.lstoreN X1.here hx rfl (hb hby d3_32) rfl (l' := #[.val (.ref o0), .val (.long (((0 : Int64) + (e_0.toInt64)) + (e_1.toInt64))), .second, .val (.ref w_w), .val (.int (2 : Int32)), .val (.int (1 : Int32)), .val (.int e_1)]) rfl k) ?_
  show Go _ _ _ _ _ _ _ (T1.setTop (mkF m 33 #[.val (.ref o0), .val (.long (((0 : Int64) + (e_0.toInt64)) + (e_1.toInt64))), .second, .val (.ref w_w), .val (.int (2 : Int32)), .val (.int (1 : Int32)), .val (.int e_1)] []))
  refine gob (fun _ k => XS.iinc X1.here hx rfl (hb hby d3_33) rfl (l' := #[.val (.ref o0), .val (.long (((0 : Int64) + (e_0.toInt64)) + (e_1.toInt64))), .second, .val (.ref w_w), .val (.int (2 : Int32)), .val (.int (2 : Int32)), .val (.int e_1)]) rfl k) ?_
  show Go _ _ _ _ _ _ _ (T1.setTop (mkF m 36 #[.val (.ref o0), .val (.long (((0 : Int64) + (e_0.toInt64)) + (e_1.toInt64))), .second, .val (.ref w_w), .val (.int (2 : Int32)), .val (.int (2 : Int32)), .val (.int e_1)] []))
  refine gob (fun _ k => XS.goto X1.here hx rfl (pc0 := 36) (pc' := 14) rfl (hb hby d3_36) (by decide) (by decide) k) ?_
  show Go _ _ _ _ _ _ _ (T1.setTop (mkF m 14 #[.val (.ref o0), .val (.long (((0 : Int64) + (e_0.toInt64)) + (e_1.toInt64))), .second, .val (.ref w_w), .val (.int (2 : Int32)), .val (.int (2 : Int32)), .val (.int e_1)] []))
  refine gob (fun _ k => XS.iload X1.here hx rfl (hb hby d3_14) rfl k) ?_
  show Go _ _ _ _ _ _ _ (T1.setTop (mkF m 16 #[.val (.ref o0), .val (.long (((0 : Int64) + (e_0.toInt64)) + (e_1.toInt64))), .second, .val (.ref w_w), .val (.int (2 : Int32)), .val (.int (2 : Int32)), .val (.int e_1)] [(.int (2 : Int32))]))
  refine gob (fun _ k => XS.iload X1.here hx rfl (hb hby d3_16) rfl k) ?_
  show Go _ _ _ _ _ _ _ (T1.setTop (mkF m 18 #[.val (.ref o0), .val (.long (((0 : Int64) + (e_0.toInt64)) + (e_1.toInt64))), .second, .val (.ref w_w), .val (.int (2 : Int32)), .val (.int (2 : Int32)), .val (.int e_1)] [(.int (2 : Int32)), (.int (2 : Int32))]))
  refine gob (fun _ k => XS.icmpYes X1.here hx rfl (pc0 := 18) (pc' := 39) rfl (hb hby d3_18) rfl (flt (by decide : ¬ ((2 : Int32) < (2 : Int32)))).2.1 (by decide) (by decide) k) ?_
  show Go _ _ _ _ _ _ _ (T1.setTop (mkF m 39 #[.val (.ref o0), .val (.long (((0 : Int64) + (e_0.toInt64)) + (e_1.toInt64))), .second, .val (.ref w_w), .val (.int (2 : Int32)), .val (.int (2 : Int32)), .val (.int e_1)] []))
  refine gob (fun _ k => XS.lloadN X1.here hx rfl (hb hby d3_39) rfl k) ?_
  show Go _ _ _ _ _ _ _ (T1.setTop (mkF m 40 #[.val (.ref o0), .val (.long (((0 : Int64) + (e_0.toInt64)) + (e_1.toInt64))), .second, .val (.ref w_w), .val (.int (2 : Int32)), .val (.int (2 : Int32)), .val (.int e_1)] [(.long (((0 : Int64) + (e_0.toInt64)) + (e_1.toInt64)))]))
  refine goJ X1 hx hlk Bd.returns (hb hby d3_40) ?_ (by decide) (by decide)
  show Q3_2 Z o0 w_w k_w e_0 e_1 h0 n0 (some (.long (((0 : Int64) + (e_0.toInt64)) + (e_1.toInt64)))) T1.heap _
  exact ⟨(((0 : Int64) + (e_0.toInt64)) + (e_1.toInt64)), rfl, rfl, N0, e1⟩
theorem ef_3_3 (m : MethodId) (x0 : Addr) : entryFrame m #[(.ref x0)] 7 = mkF m 0 #[.val (.ref x0), .unset, .unset, .unset, .unset, .unset, .unset] [] := by first | (simp [entryFrame, mkF, argsToLocals, Value.category]; done) | rfl
def Q3_3 (Z : State) (o0 : Addr) (w_w : Addr) (k_w : ClassId) (e_0 : Int32) (e_1 : Int32) (e_2 : Int32) (h0 : Heap) (n0 : Nat) (v : Option Value) (h : Heap) (L : List Loc) : Prop := ∃ r : Int64, v = some (.long r) ∧ ((r = ((((0 : Int64) + (e_0.toInt64)) + (e_1.toInt64)) + (e_2.toInt64)))) ∧ Fr n0 L ∧ h = h0
set_option maxRecDepth 65536 in
set_option maxHeartbeats 40000000 in
theorem rm3_3 (l : Launch) (Z : State) (a0 : Array Value) (hw : ∀ d ∈ tables_1, d.before a0 Z = true) (ws : List Jvm.Cond) (o0 : Addr) (w_w : Addr) (k_w : ClassId) (e_0 : Int32) (e_1 : Int32) (e_2 : Int32) (h0 : Heap) (n0 : Nat) (Z0 : n0 ≤ h0.size) (F_weights : Fld Z h0 o0 "com/example/fenda/fenda/linalg/Graph" "weights" "[I" (.ref w_w)) (V_w : Arv Z h0 w_w k_w .int (3 : Int32) [(.int e_0), (.int e_1), (.int e_2)] (.int (0 : Int32))) :
    MetFree l (⟨"com/example/fenda/fenda/linalg/Graph", "totalWeight", "()J"⟩ : MethodName) (head1 (Jvm.Cond.code (⟨"com/example/fenda/fenda/linalg/Graph", "totalWeight", "()J"⟩ : MethodName) prog_66_method_4_code 7 (some .long) :: ws) ({ frames := 0, cells := 0, slots := 0, locals := 0 } : Room)) (fun a U => a = #[(.ref o0)] ∧ Z.Warmed39 U.vm ∧ U.heap = h0) (fun _ _ _ _ _ => True) (fun _ U o U' => ∃ v L, o = .returned v ∧ Q3_3 Z o0 w_w k_w e_0 e_1 e_2 h0 n0 v U'.heap L ∧ FrameEnd U o U' L ({ frames := 0, cells := 0, slots := 0, locals := 0 } : Room).cells ({ frames := 0, cells := 0, slots := 0, locals := 0 } : Room).slots) := by
  refine MetFree.of_bodySF (plainFor_of_name (by first | (simp [plainName, overriddenIn]; done) | decide +kernel)) hisR ?_
  intro p e s m args below meth c s₁ Bd hml0 hP hK
  obtain ⟨rfl, hZ, hh⟩ := hP
  have hx := Bd.exec
  have hby := Bd.bytes
  have hml : c.maxLocals = 7 := hml0
  have hown : s.vm.findClass "com/example/fenda/fenda/linalg/Graph" = some m.cls := findClass_of_methodNamed Bd.named
  have hnm := (name_of_methodNamed Bd.named Bd.method).1
  have hlk := BodyLoose.notSynchronized Bd
  have X0 : Stand p l e ({ frames := 0, cells := 0, slots := 0, locals := 0 } : Room) s m #[(.ref o0)] below meth c s₁ [] 0 0 := Stand.of_body Bd
  have e0 : s₁.heap = h0 := by rw [← hh, Bd.state]; rfl
  have N0 := Fr.nil n0
  show Go p e below s (Q3_3 Z o0 w_w k_w e_0 e_1 e_2 h0 n0) 0 0 (s₁.setTop (entryFrame m #[(.ref o0)] 7))
  rw [ef_3_3]
  show Go _ _ _ _ _ _ _ (s₁.setTop (mkF m 0 #[.val (.ref o0), .unset, .unset, .unset, .unset, .unset, .unset] []))
  refine gob (fun _ k => XS.lconst X0.here hx rfl (hb hby d3_0) k) ?_
  show Go _ _ _ _ _ _ _ (s₁.setTop (mkF m 1 #[.val (.ref o0), .unset, .unset, .unset, .unset, .unset, .unset] [(.long (0 : Int64))]))
  refine gob (fun _ k => XS.lstoreN X0.here hx rfl (hb hby d3_1) rfl (l' := #[.val (.ref o0), .val (.long (0 : Int64)), .second, .unset, .unset, .unset, .unset]) rfl k) ?_
  show Go _ _ _ _ _ _ _ (s₁.setTop (mkF m 2 #[.val (.ref o0), .val (.long (0 : Int64)), .second, .unset, .unset, .unset, .unset] []))
  refine gob (fun _ k => XS.aloadN X0.here hx rfl (hb hby d3_2) rfl rfl k) ?_
  show Go _ _ _ _ _ _ _ (s₁.setTop (mkF m 3 #[.val (.ref o0), .val (.long (0 : Int64)), .second, .unset, .unset, .unset, .unset] [(.ref o0)]))
  obtain ⟨T1, X1, e1, st1⟩ := getF X0 hx hZ hown (host := "") (Or.inl (hw _ (List.mem_of_getElem? (i := 17) rfl))) Via.refl e0 F_weights (g := (mkF m 3 #[.val (.ref o0), .val (.long (0 : Int64)), .second, .unset, .unset, .unset, .unset] [(.ref o0)])) rfl rfl (hb hby d3_3)
  refine gob st1 ?_
  show Go _ _ _ _ _ _ _ (T1.setTop (mkF m 6 #[.val (.ref o0), .val (.long (0 : Int64)), .second, .unset, .unset, .unset, .unset] [(.ref w_w)]))
  refine gob (fun _ k => XS.astoreN X1.here hx rfl (hb hby d3_6) rfl rfl (l' := #[.val (.ref o0), .val (.long (0 : Int64)), .second, .val (.ref w_w), .unset, .unset, .unset]) rfl k) ?_
  show Go _ _ _ _ _ _ _ (T1.setTop (mkF m 7 #[.val (.ref o0), .val (.long (0 : Int64)), .second, .val (.ref w_w), .unset, .unset, .unset] []))
  refine gob (fun _ k => XS.aloadN X1.here hx rfl (hb hby d3_7) rfl rfl k) ?_
  show Go _ _ _ _ _ _ _ (T1.setTop (mkF m 8 #[.val (.ref o0), .val (.long (0 : Int64)), .second, .val (.ref w_w), .unset, .unset, .unset] [(.ref w_w)]))
  obtain ⟨cl2, Ar2, q2, S2, N2, H2, G2⟩ := id V_w
  refine gob (X1.arraylength hx (by rw [e1]; exact Ar2.1) (State.isArrayOf_alike hZ.alike Ar2.2.1) (g := (mkF m 8 #[.val (.ref o0), .val (.long (0 : Int64)), .second, .val (.ref w_w), .unset, .unset, .unset] [(.ref w_w)])) rfl rfl (hb hby d3_8)) ?_
  rw [len_of S2 N2]
  show Go _ _ _ _ _ _ _ (T1.setTop (mkF m 9 #[.val (.ref o0), .val (.long (0 : Int64)), .second, .val (.ref w_w), .unset, .unset, .unset] [(.int (3 : Int32))]))
  refine gob (fun _ k => XS.istore X1.here hx rfl (hb hby d3_9) rfl (l' := #[.val (.ref o0), .val (.long (0 : Int64)), .second, .val (.ref w_w), .val (.int (3 : Int32)), .unset, .unset]) rfl k) ?_
  show Go _ _ _ _ _ _ _ (T1.setTop (mkF m 11 #[.val (.ref o0), .val (.long (0 : Int64)), .second, .val (.ref w_w), .val (.int (3 : Int32)), .unset, .unset] []))
  refine gob (fun _ k => XS.iconst X1.here hx rfl (hb hby d3_11) k) ?_
  show Go _ _ _ _ _ _ _ (T1.setTop (mkF m 12 #[.val (.ref o0), .val (.long (0 : Int64)), .second, .val (.ref w_w), .val (.int (3 : Int32)), .unset, .unset] [(.int (0 : Int32))]))
  refine gob (fun _ k => XS.istore X1.here hx rfl (hb hby d3_12) rfl (l' := #[.val (.ref o0), .val (.long (0 : Int64)), .second, .val (.ref w_w), .val (.int (3 : Int32)), .val (.int (0 : Int32)), .unset]) rfl k) ?_
  show Go _ _ _ _ _ _ _ (T1.setTop (mkF m 14 #[.val (.ref o0), .val (.long (0 : Int64)), .second, .val (.ref w_w), .val (.int (3 : Int32)), .val (.int (0 : Int32)), .unset] []))
  refine gob (fun _ k => XS.iload X1.here hx rfl (hb hby d3_14) rfl k) ?_
  show Go _ _ _ _ _ _ _ (T1.setTop (mkF m 16 #[.val (.ref o0), .val (.long (0 : Int64)), .second, .val (.ref w_w), .val (.int (3 : Int32)), .val (.int (0 : Int32)), .unset] [(.int (0 : Int32))]))
  refine gob (fun _ k => XS.iload X1.here hx rfl (hb hby d3_16) rfl k) ?_
  show Go _ _ _ _ _ _ _ (T1.setTop (mkF m 18 #[.val (.ref o0), .val (.long (0 : Int64)), .second, .val (.ref w_w), .val (.int (3 : Int32)), .val (.int (0 : Int32)), .unset] [(.int (3 : Int32)), (.int (0 : Int32))]))
  refine gob (fun _ k => XS.icmpNo X1.here hx rfl (hb hby d3_18) rfl (tlt (by decide : (0 : Int32) < (3 : Int32))).2.1 k) ?_
  show Go _ _ _ _ _ _ _ (T1.setTop (mkF m 21 #[.val (.ref o0), .val (.long (0 : Int64)), .second, .val (.ref w_w), .val (.int (3 : Int32)), .val (.int (0 : Int32)), .unset] []))
  refine gob (fun _ k => XS.aloadN X1.here hx rfl (hb hby d3_21) rfl rfl k) ?_
  show Go _ _ _ _ _ _ _ (T1.setTop (mkF m 22 #[.val (.ref o0), .val (.long (0 : Int64)), .second, .val (.ref w_w), .val (.int (3 : Int32)), .val (.int (0 : Int32)), .unset] [(.ref w_w)]))
  refine gob (fun _ k => XS.iload X1.here hx rfl (hb hby d3_22) rfl k) ?_
  show Go _ _ _ _ _ _ _ (T1.setTop (mkF m 24 #[.val (.ref o0), .val (.long (0 : Int64)), .second, .val (.ref w_w), .val (.int (3 : Int32)), .val (.int (0 : Int32)), .unset] [(.int (0 : Int32)), (.ref w_w)]))
  obtain ⟨cl3, Ar3, q3, S3, N3, H3, G3⟩ := id V_w
  have hin3 : ¬ ((0 : Int32) < 0 ∨ cl3.slots.size ≤ ((0 : Int32)).toNatClampNeg) := inb_of S3 ⟨by decide, by decide⟩
  refine gob (X1.iaload hx (j := (0 : Int32)) (v := (.int e_0)) (by rw [e1]; exact Ar3.1) (State.isArrayOf_alike hZ.alike Ar3.2.1) Ar3.2.2 hin3 (Has.at H3 hin3 rfl) (g := (mkF m 24 #[.val (.ref o0), .val (.long (0 : Int64)), .second, .val (.ref w_w), .val (.int (3 : Int32)), .val (.int (0 : Int32)), .unset] [(.int (0 : Int32)), (.ref w_w)])) rfl rfl (hb hby d3_24)) ?_
  show Go _ _ _ _ _ _ _ (T1.setTop (mkF m 25 #[.val (.ref o0), .val (.long (0 : Int64)), .second, .val (.ref w_w), .val (.int (3 : Int32)), .val (.int (0 : Int32)), .unset] [(.int e_0)]))
  refine gob (fun _ k => XS.istore X1.here hx rfl (hb hby d3_25) rfl (l' := #[.val (.ref o0), .val (.long (0 : Int64)), .second, .val (.ref w_w), .val (.int (3 : Int32)), .val (.int (0 : Int32)), .val (.int e_0)]) rfl k) ?_
  show Go _ _ _ _ _ _ _ (T1.setTop (mkF m 27 #[.val (.ref o0), .val (.long (0 : Int64)), .second, .val (.ref w_w), .val (.int (3 : Int32)), .val (.int (0 : Int32)), .val (.int e_0)] []))
  refine gob (fun _ k => XS.lloadN X1.here hx rfl (hb hby d3_27) rfl k) ?_
  show Go _ _ _ _ _ _ _ (T1.setTop (mkF m 28 #[.val (.ref o0), .val (.long (0 : Int64)), .second, .val (.ref w_w), .val (.int (3 : Int32)), .val (.int (0 : Int32)), .val (.int e_0)] [(.long (0 : Int64))]))
  refine gob (fun _ k => XS.iload X1.here hx rfl (hb hby d3_28) rfl k) ?_
  show Go _ _ _ _ _ _ _ (T1.setTop (mkF m 30 #[.val (.ref o0), .val (.long (0 : Int64)), .second, .val (.ref w_w), .val (.int (3 : Int32)), .val (.int (0 : Int32)), .val (.int e_0)] [(.int e_0), (.long (0 : Int64))]))
  refine gob (fun _ k => XS.i2l X1.here hx rfl (hb hby d3_30) rfl k) ?_
  show Go _ _ _ _ _ _ _ (T1.setTop (mkF m 31 #[.val (.ref o0), .val (.long (0 : Int64)), .second, .val (.ref w_w), .val (.int (3 : Int32)), .val (.int (0 : Int32)), .val (.int e_0)] [(.long (e_0.toInt64)), (.long (0 : Int64))]))
  refine gob (fun _ k => XS.ladd X1.here hx rfl (hb hby d3_31) rfl k) ?_
  show Go _ _ _ _ _ _ _ (T1.setTop (mkF m 32 #[.val (.ref o0), .val (.long (0 : Int64)), .second, .val (.ref w_w), .val (.int (3 : Int32)), .val (.int (0 : Int32)), .val (.int e_0)] [(.long ((0 : Int64) + (e_0.toInt64)))]))
  refine gob (fun _ k => XS.lstoreN X1.here hx rfl (hb hby d3_32) rfl (l' := #[.val (.ref o0), .val (.long ((0 : Int64) + (e_0.toInt64))), .second, .val (.ref w_w), .val (.int (3 : Int32)), .val (.int (0 : Int32)), .val (.int e_0)]) rfl k) ?_
  show Go _ _ _ _ _ _ _ (T1.setTop (mkF m 33 #[.val (.ref o0), .val (.long ((0 : Int64) + (e_0.toInt64))), .second, .val (.ref w_w), .val (.int (3 : Int32)), .val (.int (0 : Int32)), .val (.int e_0)] []))
  refine gob (fun _ k => XS.iinc X1.here hx rfl (hb hby d3_33) rfl (l' := #[.val (.ref o0), .val (.long ((0 : Int64) + (e_0.toInt64))), .second, .val (.ref w_w), .val (.int (3 : Int32)), .val (.int (1 : Int32)), .val (.int e_0)]) rfl k) ?_
  show Go _ _ _ _ _ _ _ (T1.setTop (mkF m 36 #[.val (.ref o0), .val (.long ((0 : Int64) + (e_0.toInt64))), .second, .val (.ref w_w), .val (.int (3 : Int32)), .val (.int (1 : Int32)), .val (.int e_0)] []))
  refine gob (fun _ k => XS.goto X1.here hx rfl (pc0 := 36) (pc' := 14) rfl (hb hby d3_36) (by decide) (by decide) k) ?_
  show Go _ _ _ _ _ _ _ (T1.setTop (mkF m 14 #[.val (.ref o0), .val (.long ((0 : Int64) + (e_0.toInt64))), .second, .val (.ref w_w), .val (.int (3 : Int32)), .val (.int (1 : Int32)), .val (.int e_0)] []))
  refine gob (fun _ k => XS.iload X1.here hx rfl (hb hby d3_14) rfl k) ?_
  show Go _ _ _ _ _ _ _ (T1.setTop (mkF m 16 #[.val (.ref o0), .val (.long ((0 : Int64) + (e_0.toInt64))), .second, .val (.ref w_w), .val (.int (3 : Int32)), .val (.int (1 : Int32)), .val (.int e_0)] [(.int (1 : Int32))]))
  refine gob (fun _ k => XS.iload X1.here hx rfl (hb hby d3_16) rfl k) ?_
  show Go _ _ _ _ _ _ _ (T1.setTop (mkF m 18 #[.val (.ref o0), .val (.long ((0 : Int64) + (e_0.toInt64))), .second, .val (.ref w_w), .val (.int (3 : Int32)), .val (.int (1 : Int32)), .val (.int e_0)] [(.int (3 : Int32)), (.int (1 : Int32))]))
  refine gob (fun _ k => XS.icmpNo X1.here hx rfl (hb hby d3_18) rfl (tlt (by decide : (1 : Int32) < (3 : Int32))).2.1 k) ?_
  show Go _ _ _ _ _ _ _ (T1.setTop (mkF m 21 #[.val (.ref o0), .val (.long ((0 : Int64) + (e_0.toInt64))), .second, .val (.ref w_w), .val (.int (3 : Int32)), .val (.int (1 : Int32)), .val (.int e_0)] []))
  refine gob (fun _ k => XS.aloadN X1.here hx rfl (hb hby d3_21) rfl rfl k) ?_
  show Go _ _ _ _ _ _ _ (T1.setTop (mkF m 22 #[.val (.ref o0), .val (.long ((0 : Int64) + (e_0.toInt64))), .second, .val (.ref w_w), .val (.int (3 : Int32)), .val (.int (1 : Int32)), .val (.int e_0)] [(.ref w_w)]))
  refine gob (fun _ k => XS.iload X1.here hx rfl (hb hby d3_22) rfl k) ?_
  show Go _ _ _ _ _ _ _ (T1.setTop (mkF m 24 #[.val (.ref o0), .val (.long ((0 : Int64) + (e_0.toInt64))), .second, .val (.ref w_w), .val (.int (3 : Int32)), .val (.int (1 : Int32)), .val (.int e_0)] [(.int (1 : Int32)), (.ref w_w)]))
  obtain ⟨cl4, Ar4, q4, S4, N4, H4, G4⟩ := id V_w
  have hin4 : ¬ ((1 : Int32) < 0 ∨ cl4.slots.size ≤ ((1 : Int32)).toNatClampNeg) := inb_of S4 ⟨by decide, by decide⟩
  refine gob (X1.iaload hx (j := (1 : Int32)) (v := (.int e_1)) (by rw [e1]; exact Ar4.1) (State.isArrayOf_alike hZ.alike Ar4.2.1) Ar4.2.2 hin4 (Has.at H4 hin4 rfl) (g := (mkF m 24 #[.val (.ref o0), .val (.long ((0 : Int64) + (e_0.toInt64))), .second, .val (.ref w_w), .val (.int (3 : Int32)), .val (.int (1 : Int32)), .val (.int e_0)] [(.int (1 : Int32)), (.ref w_w)])) rfl rfl (hb hby d3_24)) ?_
  show Go _ _ _ _ _ _ _ (T1.setTop (mkF m 25 #[.val (.ref o0), .val (.long ((0 : Int64) + (e_0.toInt64))), .second, .val (.ref w_w), .val (.int (3 : Int32)), .val (.int (1 : Int32)), .val (.int e_0)] [(.int e_1)]))
  refine gob (fun _ k => XS.istore X1.here hx rfl (hb hby d3_25) rfl (l' := #[.val (.ref o0), .val (.long ((0 : Int64) + (e_0.toInt64))), .second, .val (.ref w_w), .val (.int (3 : Int32)), .val (.int (1 : Int32)), .val (.int e_1)]) rfl k) ?_
  show Go _ _ _ _ _ _ _ (T1.setTop (mkF m 27 #[.val (.ref o0), .val (.long ((0 : Int64) + (e_0.toInt64))), .second, .val (.ref w_w), .val (.int (3 : Int32)), .val (.int (1 : Int32)), .val (.int e_1)] []))
  refine gob (fun _ k => XS.lloadN X1.here hx rfl (hb hby d3_27) rfl k) ?_
  show Go _ _ _ _ _ _ _ (T1.setTop (mkF m 28 #[.val (.ref o0), .val (.long ((0 : Int64) + (e_0.toInt64))), .second, .val (.ref w_w), .val (.int (3 : Int32)), .val (.int (1 : Int32)), .val (.int e_1)] [(.long ((0 : Int64) + (e_0.toInt64)))]))
  refine gob (fun _ k => XS.iload X1.here hx rfl (hb hby d3_28) rfl k) ?_
  show Go _ _ _ _ _ _ _ (T1.setTop (mkF m 30 #[.val (.ref o0), .val (.long ((0 : Int64) + (e_0.toInt64))), .second, .val (.ref w_w), .val (.int (3 : Int32)), .val (.int (1 : Int32)), .val (.int e_1)] [(.int e_1), (.long ((0 : Int64) + (e_0.toInt64)))]))
  refine gob (fun _ k => XS.i2l X1.here hx rfl (hb hby d3_30) rfl k) ?_
  show Go _ _ _ _ _ _ _ (T1.setTop (mkF m 31 #[.val (.ref o0), .val (.long ((0 : Int64) + (e_0.toInt64))), .second, .val (.ref w_w), .val (.int (3 : Int32)), .val (.int (1 : Int32)), .val (.int e_1)] [(.long (e_1.toInt64)), (.long ((0 : Int64) + (e_0.toInt64)))]))
  refine gob (fun _ k => XS.ladd X1.here hx rfl (hb hby d3_31) rfl k) ?_
  show Go _ _ _ _ _ _ _ (T1.setTop (mkF m 32 #[.val (.ref o0), .val (.long ((0 : Int64) + (e_0.toInt64))), .second, .val (.ref w_w), .val (.int (3 : Int32)), .val (.int (1 : Int32)), .val (.int e_1)] [(.long (((0 : Int64) + (e_0.toInt64)) + (e_1.toInt64)))]))
  refine gob (fun _ k => XS.lstoreN X1.here hx rfl (hb hby d3_32) rfl (l' := #[.val (.ref o0), .val (.long (((0 : Int64) + (e_0.toInt64)) + (e_1.toInt64))), .second, .val (.ref w_w), .val (.int (3 : Int32)), .val (.int (1 : Int32)), .val (.int e_1)]) rfl k) ?_
  show Go _ _ _ _ _ _ _ (T1.setTop (mkF m 33 #[.val (.ref o0), .val (.long (((0 : Int64) + (e_0.toInt64)) + (e_1.toInt64))), .second, .val (.ref w_w), .val (.int (3 : Int32)), .val (.int (1 : Int32)), .val (.int e_1)] []))
  refine gob (fun _ k => XS.iinc X1.here hx rfl (hb hby d3_33) rfl (l' := #[.val (.ref o0), .val (.long (((0 : Int64) + (e_0.toInt64)) + (e_1.toInt64))), .second, .val (.ref w_w), .val (.int (3 : Int32)), .val (.int (2 : Int32)), .val (.int e_1)]) rfl k) ?_
  show Go _ _ _ _ _ _ _ (T1.setTop (mkF m 36 #[.val (.ref o0), .val (.long (((0 : Int64) + (e_0.toInt64)) + (e_1.toInt64))), .second, .val (.ref w_w), .val (.int (3 : Int32)), .val (.int (2 : Int32)), .val (.int e_1)] []))
  refine gob (fun _ k => XS.goto X1.here hx rfl (pc0 := 36) (pc' := 14) rfl (hb hby d3_36) (by decide) (by decide) k) ?_
  show Go _ _ _ _ _ _ _ (T1.setTop (mkF m 14 #[.val (.ref o0), .val (.long (((0 : Int64) + (e_0.toInt64)) + (e_1.toInt64))), .second, .val (.ref w_w), .val (.int (3 : Int32)), .val (.int (2 : Int32)), .val (.int e_1)] []))
  refine gob (fun _ k => XS.iload X1.here hx rfl (hb hby d3_14) rfl k) ?_
  show Go _ _ _ _ _ _ _ (T1.setTop (mkF m 16 #[.val (.ref o0), .val (.long (((0 : Int64) + (e_0.toInt64)) + (e_1.toInt64))), .second, .val (.ref w_w), .val (.int (3 : Int32)), .val (.int (2 : Int32)), .val (.int e_1)] [(.int (2 : Int32))]))
  refine gob (fun _ k => XS.iload X1.here hx rfl (hb hby d3_16) rfl k) ?_
  show Go _ _ _ _ _ _ _ (T1.setTop (mkF m 18 #[.val (.ref o0), .val (.long (((0 : Int64) + (e_0.toInt64)) + (e_1.toInt64))), .second, .val (.ref w_w), .val (.int (3 : Int32)), .val (.int (2 : Int32)), .val (.int e_1)] [(.int (3 : Int32)), (.int (2 : Int32))]))
  refine gob (fun _ k => XS.icmpNo X1.here hx rfl (hb hby d3_18) rfl (tlt (by decide : (2 : Int32) < (3 : Int32))).2.1 k) ?_
  show Go _ _ _ _ _ _ _ (T1.setTop (mkF m 21 #[.val (.ref o0), .val (.long (((0 : Int64) + (e_0.toInt64)) + (e_1.toInt64))), .second, .val (.ref w_w), .val (.int (3 : Int32)), .val (.int (2 : Int32)), .val (.int e_1)] []))
  refine gob (fun _ k => XS.aloadN X1.here hx rfl (hb hby d3_21) rfl rfl k) ?_
  show Go _ _ _ _ _ _ _ (T1.setTop (mkF m 22 #[.val (.ref o0), .val (.long (((0 : Int64) + (e_0.toInt64)) + (e_1.toInt64))), .second, .val (.ref w_w), .val (.int (3 : Int32)), .val (.int (2 : Int32)), .val (.int e_1)] [(.ref w_w)]))
  refine gob (fun _ k => XS.iload X1.here hx rfl (hb hby d3_22) rfl k) ?_
  show Go _ _ _ _ _ _ _ (T1.setTop (mkF m 24 #[.val (.ref o0), .val (.long (((0 : Int64) + (e_0.toInt64)) + (e_1.toInt64))), .second, .val (.ref w_w), .val (.int (3 : Int32)), .val (.int (2 : Int32)), .val (.int e_1)] [(.int (2 : Int32)), (.ref w_w)]))
  obtain ⟨cl5, Ar5, q5, S5, N5, H5, G5⟩ := id V_w
  have hin5 : ¬ ((2 : Int32) < 0 ∨ cl5.slots.size ≤ ((2 : Int32)).toNatClampNeg) := inb_of S5 ⟨by decide, by decide⟩
  refine gob (X1.iaload hx (j := (2 : Int32)) (v := (.int e_2)) (by rw [e1]; exact Ar5.1) (State.isArrayOf_alike hZ.alike Ar5.2.1) Ar5.2.2 hin5 (Has.at H5 hin5 rfl) (g := (mkF m 24 #[.val (.ref o0), .val (.long (((0 : Int64) + (e_0.toInt64)) + (e_1.toInt64))), .second, .val (.ref w_w), .val (.int (3 : Int32)), .val (.int (2 : Int32)), .val (.int e_1)] [(.int (2 : Int32)), (.ref w_w)])) rfl rfl (hb hby d3_24)) ?_
  show Go _ _ _ _ _ _ _ (T1.setTop (mkF m 25 #[.val (.ref o0), .val (.long (((0 : Int64) + (e_0.toInt64)) + (e_1.toInt64))), .second, .val (.ref w_w), .val (.int (3 : Int32)), .val (.int (2 : Int32)), .val (.int e_1)] [(.int e_2)]))
  refine gob (fun _ k => XS.istore X1.here hx rfl (hb hby d3_25) rfl (l' := #[.val (.ref o0), .val (.long (((0 : Int64) + (e_0.toInt64)) + (e_1.toInt64))), .second, .val (.ref w_w), .val (.int (3 : Int32)), .val (.int (2 : Int32)), .val (.int e_2)]) rfl k) ?_
  show Go _ _ _ _ _ _ _ (T1.setTop (mkF m 27 #[.val (.ref o0), .val (.long (((0 : Int64) + (e_0.toInt64)) + (e_1.toInt64))), .second, .val (.ref w_w), .val (.int (3 : Int32)), .val (.int (2 : Int32)), .val (.int e_2)] []))
  refine gob (fun _ k => XS.lloadN X1.here hx rfl (hb hby d3_27) rfl k) ?_
  show Go _ _ _ _ _ _ _ (T1.setTop (mkF m 28 #[.val (.ref o0), .val (.long (((0 : Int64) + (e_0.toInt64)) + (e_1.toInt64))), .second, .val (.ref w_w), .val (.int (3 : Int32)), .val (.int (2 : Int32)), .val (.int e_2)] [(.long (((0 : Int64) + (e_0.toInt64)) + (e_1.toInt64)))]))
  refine gob (fun _ k => XS.iload X1.here hx rfl (hb hby d3_28) rfl k) ?_
  show Go _ _ _ _ _ _ _ (T1.setTop (mkF m 30 #[.val (.ref o0), .val (.long (((0 : Int64) + (e_0.toInt64)) + (e_1.toInt64))), .second, .val (.ref w_w), .val (.int (3 : Int32)), .val (.int (2 : Int32)), .val (.int e_2)] [(.int e_2), (.long (((0 : Int64) + (e_0.toInt64)) + (e_1.toInt64)))]))
  refine gob (fun _ k => XS.i2l X1.here hx rfl (hb hby d3_30) rfl k) ?_
  show Go _ _ _ _ _ _ _ (T1.setTop (mkF m 31 #[.val (.ref o0), .val (.long (((0 : Int64) + (e_0.toInt64)) + (e_1.toInt64))), .second, .val (.ref w_w), .val (.int (3 : Int32)), .val (.int (2 : Int32)), .val (.int e_2)] [(.long (e_2.toInt64)), (.long (((0 : Int64) + (e_0.toInt64)) + (e_1.toInt64)))]))
  refine gob (fun _ k => XS.ladd X1.here hx rfl (hb hby d3_31) rfl k) ?_
  show Go _ _ _ _ _ _ _ (T1.setTop (mkF m 32 #[.val (.ref o0), .val (.long (((0 : Int64) + (e_0.toInt64)) + (e_1.toInt64))), .second, .val (.ref w_w), .val (.int (3 : Int32)), .val (.int (2 : Int32)), .val (.int e_2)] [(.long ((((0 : Int64) + (e_0.toInt64)) + (e_1.toInt64)) + (e_2.toInt64)))]))
  refine gob (fun _ k => XS.lstoreN X1.here hx rfl (hb hby d3_32) rfl (l' := #[.val (.ref o0), .val (.long ((((0 : Int64) + (e_0.toInt64)) + (e_1.toInt64)) + (e_2.toInt64))), .second, .val (.ref w_w), .val (.int (3 : Int32)), .val (.int (2 : Int32)), .val (.int e_2)]) rfl k) ?_
  show Go _ _ _ _ _ _ _ (T1.setTop (mkF m 33 #[.val (.ref o0), .val (.long ((((0 : Int64) + (e_0.toInt64)) + (e_1.toInt64)) + (e_2.toInt64))), .second, .val (.ref w_w), .val (.int (3 : Int32)), .val (.int (2 : Int32)), .val (.int e_2)] []))
  refine gob (fun _ k => XS.iinc X1.here hx rfl (hb hby d3_33) rfl (l' := #[.val (.ref o0), .val (.long ((((0 : Int64) + (e_0.toInt64)) + (e_1.toInt64)) + (e_2.toInt64))), .second, .val (.ref w_w), .val (.int (3 : Int32)), .val (.int (3 : Int32)), .val (.int e_2)]) rfl k) ?_
  show Go _ _ _ _ _ _ _ (T1.setTop (mkF m 36 #[.val (.ref o0), .val (.long ((((0 : Int64) + (e_0.toInt64)) + (e_1.toInt64)) + (e_2.toInt64))), .second, .val (.ref w_w), .val (.int (3 : Int32)), .val (.int (3 : Int32)), .val (.int e_2)] []))
  refine gob (fun _ k => XS.goto X1.here hx rfl (pc0 := 36) (pc' := 14) rfl (hb hby d3_36) (by decide) (by decide) k) ?_
  show Go _ _ _ _ _ _ _ (T1.setTop (mkF m 14 #[.val (.ref o0), .val (.long ((((0 : Int64) + (e_0.toInt64)) + (e_1.toInt64)) + (e_2.toInt64))), .second, .val (.ref w_w), .val (.int (3 : Int32)), .val (.int (3 : Int32)), .val (.int e_2)] []))
  refine gob (fun _ k => XS.iload X1.here hx rfl (hb hby d3_14) rfl k) ?_
  show Go _ _ _ _ _ _ _ (T1.setTop (mkF m 16 #[.val (.ref o0), .val (.long ((((0 : Int64) + (e_0.toInt64)) + (e_1.toInt64)) + (e_2.toInt64))), .second, .val (.ref w_w), .val (.int (3 : Int32)), .val (.int (3 : Int32)), .val (.int e_2)] [(.int (3 : Int32))]))
  refine gob (fun _ k => XS.iload X1.here hx rfl (hb hby d3_16) rfl k) ?_
  show Go _ _ _ _ _ _ _ (T1.setTop (mkF m 18 #[.val (.ref o0), .val (.long ((((0 : Int64) + (e_0.toInt64)) + (e_1.toInt64)) + (e_2.toInt64))), .second, .val (.ref w_w), .val (.int (3 : Int32)), .val (.int (3 : Int32)), .val (.int e_2)] [(.int (3 : Int32)), (.int (3 : Int32))]))
  refine gob (fun _ k => XS.icmpYes X1.here hx rfl (pc0 := 18) (pc' := 39) rfl (hb hby d3_18) rfl (flt (by decide : ¬ ((3 : Int32) < (3 : Int32)))).2.1 (by decide) (by decide) k) ?_
  show Go _ _ _ _ _ _ _ (T1.setTop (mkF m 39 #[.val (.ref o0), .val (.long ((((0 : Int64) + (e_0.toInt64)) + (e_1.toInt64)) + (e_2.toInt64))), .second, .val (.ref w_w), .val (.int (3 : Int32)), .val (.int (3 : Int32)), .val (.int e_2)] []))
  refine gob (fun _ k => XS.lloadN X1.here hx rfl (hb hby d3_39) rfl k) ?_
  show Go _ _ _ _ _ _ _ (T1.setTop (mkF m 40 #[.val (.ref o0), .val (.long ((((0 : Int64) + (e_0.toInt64)) + (e_1.toInt64)) + (e_2.toInt64))), .second, .val (.ref w_w), .val (.int (3 : Int32)), .val (.int (3 : Int32)), .val (.int e_2)] [(.long ((((0 : Int64) + (e_0.toInt64)) + (e_1.toInt64)) + (e_2.toInt64)))]))
  refine goJ X1 hx hlk Bd.returns (hb hby d3_40) ?_ (by decide) (by decide)
  show Q3_3 Z o0 w_w k_w e_0 e_1 e_2 h0 n0 (some (.long ((((0 : Int64) + (e_0.toInt64)) + (e_1.toInt64)) + (e_2.toInt64)))) T1.heap _
  exact ⟨((((0 : Int64) + (e_0.toInt64)) + (e_1.toInt64)) + (e_2.toInt64)), rfl, rfl, N0, e1⟩
theorem ef_3_4 (m : MethodId) (x0 : Addr) : entryFrame m #[(.ref x0)] 7 = mkF m 0 #[.val (.ref x0), .unset, .unset, .unset, .unset, .unset, .unset] [] := by first | (simp [entryFrame, mkF, argsToLocals, Value.category]; done) | rfl
def Q3_4 (Z : State) (o0 : Addr) (w_w : Addr) (k_w : ClassId) (e_0 : Int32) (e_1 : Int32) (e_2 : Int32) (e_3 : Int32) (h0 : Heap) (n0 : Nat) (v : Option Value) (h : Heap) (L : List Loc) : Prop := ∃ r : Int64, v = some (.long r) ∧ ((r = (((((0 : Int64) + (e_0.toInt64)) + (e_1.toInt64)) + (e_2.toInt64)) + (e_3.toInt64)))) ∧ Fr n0 L ∧ h = h0
set_option maxRecDepth 65536 in
set_option maxHeartbeats 40000000 in
theorem rm3_4 (l : Launch) (Z : State) (a0 : Array Value) (hw : ∀ d ∈ tables_1, d.before a0 Z = true) (ws : List Jvm.Cond) (o0 : Addr) (w_w : Addr) (k_w : ClassId) (e_0 : Int32) (e_1 : Int32) (e_2 : Int32) (e_3 : Int32) (h0 : Heap) (n0 : Nat) (Z0 : n0 ≤ h0.size) (F_weights : Fld Z h0 o0 "com/example/fenda/fenda/linalg/Graph" "weights" "[I" (.ref w_w)) (V_w : Arv Z h0 w_w k_w .int (4 : Int32) [(.int e_0), (.int e_1), (.int e_2), (.int e_3)] (.int (0 : Int32))) :
    MetFree l (⟨"com/example/fenda/fenda/linalg/Graph", "totalWeight", "()J"⟩ : MethodName) (head1 (Jvm.Cond.code (⟨"com/example/fenda/fenda/linalg/Graph", "totalWeight", "()J"⟩ : MethodName) prog_66_method_4_code 7 (some .long) :: ws) ({ frames := 0, cells := 0, slots := 0, locals := 0 } : Room)) (fun a U => a = #[(.ref o0)] ∧ Z.Warmed39 U.vm ∧ U.heap = h0) (fun _ _ _ _ _ => True) (fun _ U o U' => ∃ v L, o = .returned v ∧ Q3_4 Z o0 w_w k_w e_0 e_1 e_2 e_3 h0 n0 v U'.heap L ∧ FrameEnd U o U' L ({ frames := 0, cells := 0, slots := 0, locals := 0 } : Room).cells ({ frames := 0, cells := 0, slots := 0, locals := 0 } : Room).slots) := by
  refine MetFree.of_bodySF (plainFor_of_name (by first | (simp [plainName, overriddenIn]; done) | decide +kernel)) hisR ?_
  intro p e s m args below meth c s₁ Bd hml0 hP hK
  obtain ⟨rfl, hZ, hh⟩ := hP
  have hx := Bd.exec
  have hby := Bd.bytes
  have hml : c.maxLocals = 7 := hml0
  have hown : s.vm.findClass "com/example/fenda/fenda/linalg/Graph" = some m.cls := findClass_of_methodNamed Bd.named
  have hnm := (name_of_methodNamed Bd.named Bd.method).1
  have hlk := BodyLoose.notSynchronized Bd
  have X0 : Stand p l e ({ frames := 0, cells := 0, slots := 0, locals := 0 } : Room) s m #[(.ref o0)] below meth c s₁ [] 0 0 := Stand.of_body Bd
  have e0 : s₁.heap = h0 := by rw [← hh, Bd.state]; rfl
  have N0 := Fr.nil n0
  show Go p e below s (Q3_4 Z o0 w_w k_w e_0 e_1 e_2 e_3 h0 n0) 0 0 (s₁.setTop (entryFrame m #[(.ref o0)] 7))
  rw [ef_3_4]
  show Go _ _ _ _ _ _ _ (s₁.setTop (mkF m 0 #[.val (.ref o0), .unset, .unset, .unset, .unset, .unset, .unset] []))
  refine gob (fun _ k => XS.lconst X0.here hx rfl (hb hby d3_0) k) ?_
  show Go _ _ _ _ _ _ _ (s₁.setTop (mkF m 1 #[.val (.ref o0), .unset, .unset, .unset, .unset, .unset, .unset] [(.long (0 : Int64))]))
  refine gob (fun _ k => XS.lstoreN X0.here hx rfl (hb hby d3_1) rfl (l' := #[.val (.ref o0), .val (.long (0 : Int64)), .second, .unset, .unset, .unset, .unset]) rfl k) ?_
  show Go _ _ _ _ _ _ _ (s₁.setTop (mkF m 2 #[.val (.ref o0), .val (.long (0 : Int64)), .second, .unset, .unset, .unset, .unset] []))
  refine gob (fun _ k => XS.aloadN X0.here hx rfl (hb hby d3_2) rfl rfl k) ?_
  show Go _ _ _ _ _ _ _ (s₁.setTop (mkF m 3 #[.val (.ref o0), .val (.long (0 : Int64)), .second, .unset, .unset, .unset, .unset] [(.ref o0)]))
  obtain ⟨T1, X1, e1, st1⟩ := getF X0 hx hZ hown (host := "") (Or.inl (hw _ (List.mem_of_getElem? (i := 17) rfl))) Via.refl e0 F_weights (g := (mkF m 3 #[.val (.ref o0), .val (.long (0 : Int64)), .second, .unset, .unset, .unset, .unset] [(.ref o0)])) rfl rfl (hb hby d3_3)
  refine gob st1 ?_
  show Go _ _ _ _ _ _ _ (T1.setTop (mkF m 6 #[.val (.ref o0), .val (.long (0 : Int64)), .second, .unset, .unset, .unset, .unset] [(.ref w_w)]))
  refine gob (fun _ k => XS.astoreN X1.here hx rfl (hb hby d3_6) rfl rfl (l' := #[.val (.ref o0), .val (.long (0 : Int64)), .second, .val (.ref w_w), .unset, .unset, .unset]) rfl k) ?_
  show Go _ _ _ _ _ _ _ (T1.setTop (mkF m 7 #[.val (.ref o0), .val (.long (0 : Int64)), .second, .val (.ref w_w), .unset, .unset, .unset] []))
  refine gob (fun _ k => XS.aloadN X1.here hx rfl (hb hby d3_7) rfl rfl k) ?_
  show Go _ _ _ _ _ _ _ (T1.setTop (mkF m 8 #[.val (.ref o0), .val (.long (0 : Int64)), .second, .val (.ref w_w), .unset, .unset, .unset] [(.ref w_w)]))
  obtain ⟨cl2, Ar2, q2, S2, N2, H2, G2⟩ := id V_w
  refine gob (X1.arraylength hx (by rw [e1]; exact Ar2.1) (State.isArrayOf_alike hZ.alike Ar2.2.1) (g := (mkF m 8 #[.val (.ref o0), .val (.long (0 : Int64)), .second, .val (.ref w_w), .unset, .unset, .unset] [(.ref w_w)])) rfl rfl (hb hby d3_8)) ?_
  rw [len_of S2 N2]
  show Go _ _ _ _ _ _ _ (T1.setTop (mkF m 9 #[.val (.ref o0), .val (.long (0 : Int64)), .second, .val (.ref w_w), .unset, .unset, .unset] [(.int (4 : Int32))]))
  refine gob (fun _ k => XS.istore X1.here hx rfl (hb hby d3_9) rfl (l' := #[.val (.ref o0), .val (.long (0 : Int64)), .second, .val (.ref w_w), .val (.int (4 : Int32)), .unset, .unset]) rfl k) ?_
  show Go _ _ _ _ _ _ _ (T1.setTop (mkF m 11 #[.val (.ref o0), .val (.long (0 : Int64)), .second, .val (.ref w_w), .val (.int (4 : Int32)), .unset, .unset] []))
  refine gob (fun _ k => XS.iconst X1.here hx rfl (hb hby d3_11) k) ?_
  show Go _ _ _ _ _ _ _ (T1.setTop (mkF m 12 #[.val (.ref o0), .val (.long (0 : Int64)), .second, .val (.ref w_w), .val (.int (4 : Int32)), .unset, .unset] [(.int (0 : Int32))]))
  refine gob (fun _ k => XS.istore X1.here hx rfl (hb hby d3_12) rfl (l' := #[.val (.ref o0), .val (.long (0 : Int64)), .second, .val (.ref w_w), .val (.int (4 : Int32)), .val (.int (0 : Int32)), .unset]) rfl k) ?_
  show Go _ _ _ _ _ _ _ (T1.setTop (mkF m 14 #[.val (.ref o0), .val (.long (0 : Int64)), .second, .val (.ref w_w), .val (.int (4 : Int32)), .val (.int (0 : Int32)), .unset] []))
  refine gob (fun _ k => XS.iload X1.here hx rfl (hb hby d3_14) rfl k) ?_
  show Go _ _ _ _ _ _ _ (T1.setTop (mkF m 16 #[.val (.ref o0), .val (.long (0 : Int64)), .second, .val (.ref w_w), .val (.int (4 : Int32)), .val (.int (0 : Int32)), .unset] [(.int (0 : Int32))]))
  refine gob (fun _ k => XS.iload X1.here hx rfl (hb hby d3_16) rfl k) ?_
  show Go _ _ _ _ _ _ _ (T1.setTop (mkF m 18 #[.val (.ref o0), .val (.long (0 : Int64)), .second, .val (.ref w_w), .val (.int (4 : Int32)), .val (.int (0 : Int32)), .unset] [(.int (4 : Int32)), (.int (0 : Int32))]))
  refine gob (fun _ k => XS.icmpNo X1.here hx rfl (hb hby d3_18) rfl (tlt (by decide : (0 : Int32) < (4 : Int32))).2.1 k) ?_
  show Go _ _ _ _ _ _ _ (T1.setTop (mkF m 21 #[.val (.ref o0), .val (.long (0 : Int64)), .second, .val (.ref w_w), .val (.int (4 : Int32)), .val (.int (0 : Int32)), .unset] []))
  refine gob (fun _ k => XS.aloadN X1.here hx rfl (hb hby d3_21) rfl rfl k) ?_
  show Go _ _ _ _ _ _ _ (T1.setTop (mkF m 22 #[.val (.ref o0), .val (.long (0 : Int64)), .second, .val (.ref w_w), .val (.int (4 : Int32)), .val (.int (0 : Int32)), .unset] [(.ref w_w)]))
  refine gob (fun _ k => XS.iload X1.here hx rfl (hb hby d3_22) rfl k) ?_
  show Go _ _ _ _ _ _ _ (T1.setTop (mkF m 24 #[.val (.ref o0), .val (.long (0 : Int64)), .second, .val (.ref w_w), .val (.int (4 : Int32)), .val (.int (0 : Int32)), .unset] [(.int (0 : Int32)), (.ref w_w)]))
  obtain ⟨cl3, Ar3, q3, S3, N3, H3, G3⟩ := id V_w
  have hin3 : ¬ ((0 : Int32) < 0 ∨ cl3.slots.size ≤ ((0 : Int32)).toNatClampNeg) := inb_of S3 ⟨by decide, by decide⟩
  refine gob (X1.iaload hx (j := (0 : Int32)) (v := (.int e_0)) (by rw [e1]; exact Ar3.1) (State.isArrayOf_alike hZ.alike Ar3.2.1) Ar3.2.2 hin3 (Has.at H3 hin3 rfl) (g := (mkF m 24 #[.val (.ref o0), .val (.long (0 : Int64)), .second, .val (.ref w_w), .val (.int (4 : Int32)), .val (.int (0 : Int32)), .unset] [(.int (0 : Int32)), (.ref w_w)])) rfl rfl (hb hby d3_24)) ?_
  show Go _ _ _ _ _ _ _ (T1.setTop (mkF m 25 #[.val (.ref o0), .val (.long (0 : Int64)), .second, .val (.ref w_w), .val (.int (4 : Int32)), .val (.int (0 : Int32)), .unset] [(.int e_0)]))
  refine gob (fun _ k => XS.istore X1.here hx rfl (hb hby d3_25) rfl (l' := #[.val (.ref o0), .val (.long (0 : Int64)), .second, .val (.ref w_w), .val (.int (4 : Int32)), .val (.int (0 : Int32)), .val (.int e_0)]) rfl k) ?_
  show Go _ _ _ _ _ _ _ (T1.setTop (mkF m 27 #[.val (.ref o0), .val (.long (0 : Int64)), .second, .val (.ref w_w), .val (.int (4 : Int32)), .val (.int (0 : Int32)), .val (.int e_0)] []))
  refine gob (fun _ k => XS.lloadN X1.here hx rfl (hb hby d3_27) rfl k) ?_
  show Go _ _ _ _ _ _ _ (T1.setTop (mkF m 28 #[.val (.ref o0), .val (.long (0 : Int64)), .second, .val (.ref w_w), .val (.int (4 : Int32)), .val (.int (0 : Int32)), .val (.int e_0)] [(.long (0 : Int64))]))
  refine gob (fun _ k => XS.iload X1.here hx rfl (hb hby d3_28) rfl k) ?_
  show Go _ _ _ _ _ _ _ (T1.setTop (mkF m 30 #[.val (.ref o0), .val (.long (0 : Int64)), .second, .val (.ref w_w), .val (.int (4 : Int32)), .val (.int (0 : Int32)), .val (.int e_0)] [(.int e_0), (.long (0 : Int64))]))
  refine gob (fun _ k => XS.i2l X1.here hx rfl (hb hby d3_30) rfl k) ?_
  show Go _ _ _ _ _ _ _ (T1.setTop (mkF m 31 #[.val (.ref o0), .val (.long (0 : Int64)), .second, .val (.ref w_w), .val (.int (4 : Int32)), .val (.int (0 : Int32)), .val (.int e_0)] [(.long (e_0.toInt64)), (.long (0 : Int64))]))
  refine gob (fun _ k => XS.ladd X1.here hx rfl (hb hby d3_31) rfl k) ?_
  show Go _ _ _ _ _ _ _ (T1.setTop (mkF m 32 #[.val (.ref o0), .val (.long (0 : Int64)), .second, .val (.ref w_w), .val (.int (4 : Int32)), .val (.int (0 : Int32)), .val (.int e_0)] [(.long ((0 : Int64) + (e_0.toInt64)))]))
  refine gob (fun _ k => XS.lstoreN X1.here hx rfl (hb hby d3_32) rfl (l' := #[.val (.ref o0), .val (.long ((0 : Int64) + (e_0.toInt64))), .second, .val (.ref w_w), .val (.int (4 : Int32)), .val (.int (0 : Int32)), .val (.int e_0)]) rfl k) ?_
  show Go _ _ _ _ _ _ _ (T1.setTop (mkF m 33 #[.val (.ref o0), .val (.long ((0 : Int64) + (e_0.toInt64))), .second, .val (.ref w_w), .val (.int (4 : Int32)), .val (.int (0 : Int32)), .val (.int e_0)] []))
  refine gob (fun _ k => XS.iinc X1.here hx rfl (hb hby d3_33) rfl (l' := #[.val (.ref o0), .val (.long ((0 : Int64) + (e_0.toInt64))), .second, .val (.ref w_w), .val (.int (4 : Int32)), .val (.int (1 : Int32)), .val (.int e_0)]) rfl k) ?_
  show Go _ _ _ _ _ _ _ (T1.setTop (mkF m 36 #[.val (.ref o0), .val (.long ((0 : Int64) + (e_0.toInt64))), .second, .val (.ref w_w), .val (.int (4 : Int32)), .val (.int (1 : Int32)), .val (.int e_0)] []))
  refine gob (fun _ k => XS.goto X1.here hx rfl (pc0 := 36) (pc' := 14) rfl (hb hby d3_36) (by decide) (by decide) k) ?_
  show Go _ _ _ _ _ _ _ (T1.setTop (mkF m 14 #[.val (.ref o0), .val (.long ((0 : Int64) + (e_0.toInt64))), .second, .val (.ref w_w), .val (.int (4 : Int32)), .val (.int (1 : Int32)), .val (.int e_0)] []))
  refine gob (fun _ k => XS.iload X1.here hx rfl (hb hby d3_14) rfl k) ?_
  show Go _ _ _ _ _ _ _ (T1.setTop (mkF m 16 #[.val (.ref o0), .val (.long ((0 : Int64) + (e_0.toInt64))), .second, .val (.ref w_w), .val (.int (4 : Int32)), .val (.int (1 : Int32)), .val (.int e_0)] [(.int (1 : Int32))]))
  refine gob (fun _ k => XS.iload X1.here hx rfl (hb hby d3_16) rfl k) ?_
  show Go _ _ _ _ _ _ _ (T1.setTop (mkF m 18 #[.val (.ref o0), .val (.long ((0 : Int64) + (e_0.toInt64))), .second, .val (.ref w_w), .val (.int (4 : Int32)), .val (.int (1 : Int32)), .val (.int e_0)] [(.int (4 : Int32)), (.int (1 : Int32))]))
  refine gob (fun _ k => XS.icmpNo X1.here hx rfl (hb hby d3_18) rfl (tlt (by decide : (1 : Int32) < (4 : Int32))).2.1 k) ?_
  show Go _ _ _ _ _ _ _ (T1.setTop (mkF m 21 #[.val (.ref o0), .val (.long ((0 : Int64) + (e_0.toInt64))), .second, .val (.ref w_w), .val (.int (4 : Int32)), .val (.int (1 : Int32)), .val (.int e_0)] []))
  refine gob (fun _ k => XS.aloadN X1.here hx rfl (hb hby d3_21) rfl rfl k) ?_
  show Go _ _ _ _ _ _ _ (T1.setTop (mkF m 22 #[.val (.ref o0), .val (.long ((0 : Int64) + (e_0.toInt64))), .second, .val (.ref w_w), .val (.int (4 : Int32)), .val (.int (1 : Int32)), .val (.int e_0)] [(.ref w_w)]))
  refine gob (fun _ k => XS.iload X1.here hx rfl (hb hby d3_22) rfl k) ?_
  show Go _ _ _ _ _ _ _ (T1.setTop (mkF m 24 #[.val (.ref o0), .val (.long ((0 : Int64) + (e_0.toInt64))), .second, .val (.ref w_w), .val (.int (4 : Int32)), .val (.int (1 : Int32)), .val (.int e_0)] [(.int (1 : Int32)), (.ref w_w)]))
  obtain ⟨cl4, Ar4, q4, S4, N4, H4, G4⟩ := id V_w
  have hin4 : ¬ ((1 : Int32) < 0 ∨ cl4.slots.size ≤ ((1 : Int32)).toNatClampNeg) := inb_of S4 ⟨by decide, by decide⟩
  refine gob (X1.iaload hx (j := (1 : Int32)) (v := (.int e_1)) (by rw [e1]; exact Ar4.1) (State.isArrayOf_alike hZ.alike Ar4.2.1) Ar4.2.2 hin4 (Has.at H4 hin4 rfl) (g := (mkF m 24 #[.val (.ref o0), .val (.long ((0 : Int64) + (e_0.toInt64))), .second, .val (.ref w_w), .val (.int (4 : Int32)), .val (.int (1 : Int32)), .val (.int e_0)] [(.int (1 : Int32)), (.ref w_w)])) rfl rfl (hb hby d3_24)) ?_
  show Go _ _ _ _ _ _ _ (T1.setTop (mkF m 25 #[.val (.ref o0), .val (.long ((0 : Int64) + (e_0.toInt64))), .second, .val (.ref w_w), .val (.int (4 : Int32)), .val (.int (1 : Int32)), .val (.int e_0)] [(.int e_1)]))
  refine gob (fun _ k => XS.istore X1.here hx rfl (hb hby d3_25) rfl (l' := #[.val (.ref o0), .val (.long ((0 : Int64) + (e_0.toInt64))), .second, .val (.ref w_w), .val (.int (4 : Int32)), .val (.int (1 : Int32)), .val (.int e_1)]) rfl k) ?_
  show Go _ _ _ _ _ _ _ (T1.setTop (mkF m 27 #[.val (.ref o0), .val (.long ((0 : Int64) + (e_0.toInt64))), .second, .val (.ref w_w), .val (.int (4 : Int32)), .val (.int (1 : Int32)), .val (.int e_1)] []))
  refine gob (fun _ k => XS.lloadN X1.here hx rfl (hb hby d3_27) rfl k) ?_
  show Go _ _ _ _ _ _ _ (T1.setTop (mkF m 28 #[.val (.ref o0), .val (.long ((0 : Int64) + (e_0.toInt64))), .second, .val (.ref w_w), .val (.int (4 : Int32)), .val (.int (1 : Int32)), .val (.int e_1)] [(.long ((0 : Int64) + (e_0.toInt64)))]))
  refine gob (fun _ k => XS.iload X1.here hx rfl (hb hby d3_28) rfl k) ?_
  show Go _ _ _ _ _ _ _ (T1.setTop (mkF m 30 #[.val (.ref o0), .val (.long ((0 : Int64) + (e_0.toInt64))), .second, .val (.ref w_w), .val (.int (4 : Int32)), .val (.int (1 : Int32)), .val (.int e_1)] [(.int e_1), (.long ((0 : Int64) + (e_0.toInt64)))]))
  refine gob (fun _ k => XS.i2l X1.here hx rfl (hb hby d3_30) rfl k) ?_
  show Go _ _ _ _ _ _ _ (T1.setTop (mkF m 31 #[.val (.ref o0), .val (.long ((0 : Int64) + (e_0.toInt64))), .second, .val (.ref w_w), .val (.int (4 : Int32)), .val (.int (1 : Int32)), .val (.int e_1)] [(.long (e_1.toInt64)), (.long ((0 : Int64) + (e_0.toInt64)))]))
  refine gob (fun _ k => XS.ladd X1.here hx rfl (hb hby d3_31) rfl k) ?_
  show Go _ _ _ _ _ _ _ (T1.setTop (mkF m 32 #[.val (.ref o0), .val (.long ((0 : Int64) + (e_0.toInt64))), .second, .val (.ref w_w), .val (.int (4 : Int32)), .val (.int (1 : Int32)), .val (.int e_1)] [(.long (((0 : Int64) + (e_0.toInt64)) + (e_1.toInt64)))]))
  refine gob (fun _ k => XS.lstoreN X1.here hx rfl (hb hby d3_32) rfl (l' := #[.val (.ref o0), .val (.long (((0 : Int64) + (e_0.toInt64)) + (e_1.toInt64))), .second, .val (.ref w_w), .val (.int (4 : Int32)), .val (.int (1 : Int32)), .val (.int e_1)]) rfl k) ?_
  show Go _ _ _ _ _ _ _ (T1.setTop (mkF m 33 #[.val (.ref o0), .val (.long (((0 : Int64) + (e_0.toInt64)) + (e_1.toInt64))), .second, .val (.ref w_w), .val (.int (4 : Int32)), .val (.int (1 : Int32)), .val (.int e_1)] []))
  refine gob (fun _ k => XS.iinc X1.here hx rfl (hb hby d3_33) rfl (l' := #[.val (.ref o0), .val (.long (((0 : Int64) + (e_0.toInt64)) + (e_1.toInt64))), .second, .val (.ref w_w), .val (.int (4 : Int32)), .val (.int (2 : Int32)), .val (.int e_1)]) rfl k) ?_
  show Go _ _ _ _ _ _ _ (T1.setTop (mkF m 36 #[.val (.ref o0), .val (.long (((0 : Int64) + (e_0.toInt64)) + (e_1.toInt64))), .second, .val (.ref w_w), .val (.int (4 : Int32)), .val (.int (2 : Int32)), .val (.int e_1)] []))
  refine gob (fun _ k => XS.goto X1.here hx rfl (pc0 := 36) (pc' := 14) rfl (hb hby d3_36) (by decide) (by decide) k) ?_
  show Go _ _ _ _ _ _ _ (T1.setTop (mkF m 14 #[.val (.ref o0), .val (.long (((0 : Int64) + (e_0.toInt64)) + (e_1.toInt64))), .second, .val (.ref w_w), .val (.int (4 : Int32)), .val (.int (2 : Int32)), .val (.int e_1)] []))
  refine gob (fun _ k => XS.iload X1.here hx rfl (hb hby d3_14) rfl k) ?_
  show Go _ _ _ _ _ _ _ (T1.setTop (mkF m 16 #[.val (.ref o0), .val (.long (((0 : Int64) + (e_0.toInt64)) + (e_1.toInt64))), .second, .val (.ref w_w), .val (.int (4 : Int32)), .val (.int (2 : Int32)), .val (.int e_1)] [(.int (2 : Int32))]))
  refine gob (fun _ k => XS.iload X1.here hx rfl (hb hby d3_16) rfl k) ?_
  show Go _ _ _ _ _ _ _ (T1.setTop (mkF m 18 #[.val (.ref o0), .val (.long (((0 : Int64) + (e_0.toInt64)) + (e_1.toInt64))), .second, .val (.ref w_w), .val (.int (4 : Int32)), .val (.int (2 : Int32)), .val (.int e_1)] [(.int (4 : Int32)), (.int (2 : Int32))]))
  refine gob (fun _ k => XS.icmpNo X1.here hx rfl (hb hby d3_18) rfl (tlt (by decide : (2 : Int32) < (4 : Int32))).2.1 k) ?_
  show Go _ _ _ _ _ _ _ (T1.setTop (mkF m 21 #[.val (.ref o0), .val (.long (((0 : Int64) + (e_0.toInt64)) + (e_1.toInt64))), .second, .val (.ref w_w), .val (.int (4 : Int32)), .val (.int (2 : Int32)), .val (.int e_1)] []))
  refine gob (fun _ k => XS.aloadN X1.here hx rfl (hb hby d3_21) rfl rfl k) ?_
  show Go _ _ _ _ _ _ _ (T1.setTop (mkF m 22 #[.val (.ref o0), .val (.long (((0 : Int64) + (e_0.toInt64)) + (e_1.toInt64))), .second, .val (.ref w_w), .val (.int (4 : Int32)), .val (.int (2 : Int32)), .val (.int e_1)] [(.ref w_w)]))
  refine gob (fun _ k => XS.iload X1.here hx rfl (hb hby d3_22) rfl k) ?_
  show Go _ _ _ _ _ _ _ (T1.setTop (mkF m 24 #[.val (.ref o0), .val (.long (((0 : Int64) + (e_0.toInt64)) + (e_1.toInt64))), .second, .val (.ref w_w), .val (.int (4 : Int32)), .val (.int (2 : Int32)), .val (.int e_1)] [(.int (2 : Int32)), (.ref w_w)]))
  obtain ⟨cl5, Ar5, q5, S5, N5, H5, G5⟩ := id V_w
  have hin5 : ¬ ((2 : Int32) < 0 ∨ cl5.slots.size ≤ ((2 : Int32)).toNatClampNeg) := inb_of S5 ⟨by decide, by decide⟩
  refine gob (X1.iaload hx (j := (2 : Int32)) (v := (.int e_2)) (by rw [e1]; exact Ar5.1) (State.isArrayOf_alike hZ.alike Ar5.2.1) Ar5.2.2 hin5 (Has.at H5 hin5 rfl) (g := (mkF m 24 #[.val (.ref o0), .val (.long (((0 : Int64) + (e_0.toInt64)) + (e_1.toInt64))), .second, .val (.ref w_w), .val (.int (4 : Int32)), .val (.int (2 : Int32)), .val (.int e_1)] [(.int (2 : Int32)), (.ref w_w)])) rfl rfl (hb hby d3_24)) ?_
  show Go _ _ _ _ _ _ _ (T1.setTop (mkF m 25 #[.val (.ref o0), .val (.long (((0 : Int64) + (e_0.toInt64)) + (e_1.toInt64))), .second, .val (.ref w_w), .val (.int (4 : Int32)), .val (.int (2 : Int32)), .val (.int e_1)] [(.int e_2)]))
  refine gob (fun _ k => XS.istore X1.here hx rfl (hb hby d3_25) rfl (l' := #[.val (.ref o0), .val (.long (((0 : Int64) + (e_0.toInt64)) + (e_1.toInt64))), .second, .val (.ref w_w), .val (.int (4 : Int32)), .val (.int (2 : Int32)), .val (.int e_2)]) rfl k) ?_
  show Go _ _ _ _ _ _ _ (T1.setTop (mkF m 27 #[.val (.ref o0), .val (.long (((0 : Int64) + (e_0.toInt64)) + (e_1.toInt64))), .second, .val (.ref w_w), .val (.int (4 : Int32)), .val (.int (2 : Int32)), .val (.int e_2)] []))
  refine gob (fun _ k => XS.lloadN X1.here hx rfl (hb hby d3_27) rfl k) ?_
  show Go _ _ _ _ _ _ _ (T1.setTop (mkF m 28 #[.val (.ref o0), .val (.long (((0 : Int64) + (e_0.toInt64)) + (e_1.toInt64))), .second, .val (.ref w_w), .val (.int (4 : Int32)), .val (.int (2 : Int32)), .val (.int e_2)] [(.long (((0 : Int64) + (e_0.toInt64)) + (e_1.toInt64)))]))
  refine gob (fun _ k => XS.iload X1.here hx rfl (hb hby d3_28) rfl k) ?_
  show Go _ _ _ _ _ _ _ (T1.setTop (mkF m 30 #[.val (.ref o0), .val (.long (((0 : Int64) + (e_0.toInt64)) + (e_1.toInt64))), .second, .val (.ref w_w), .val (.int (4 : Int32)), .val (.int (2 : Int32)), .val (.int e_2)] [(.int e_2), (.long (((0 : Int64) + (e_0.toInt64)) + (e_1.toInt64)))]))
  refine gob (fun _ k => XS.i2l X1.here hx rfl (hb hby d3_30) rfl k) ?_
  show Go _ _ _ _ _ _ _ (T1.setTop (mkF m 31 #[.val (.ref o0), .val (.long (((0 : Int64) + (e_0.toInt64)) + (e_1.toInt64))), .second, .val (.ref w_w), .val (.int (4 : Int32)), .val (.int (2 : Int32)), .val (.int e_2)] [(.long (e_2.toInt64)), (.long (((0 : Int64) + (e_0.toInt64)) + (e_1.toInt64)))]))
  refine gob (fun _ k => XS.ladd X1.here hx rfl (hb hby d3_31) rfl k) ?_
  show Go _ _ _ _ _ _ _ (T1.setTop (mkF m 32 #[.val (.ref o0), .val (.long (((0 : Int64) + (e_0.toInt64)) + (e_1.toInt64))), .second, .val (.ref w_w), .val (.int (4 : Int32)), .val (.int (2 : Int32)), .val (.int e_2)] [(.long ((((0 : Int64) + (e_0.toInt64)) + (e_1.toInt64)) + (e_2.toInt64)))]))
  refine gob (fun _ k => XS.lstoreN X1.here hx rfl (hb hby d3_32) rfl (l' := #[.val (.ref o0), .val (.long ((((0 : Int64) + (e_0.toInt64)) + (e_1.toInt64)) + (e_2.toInt64))), .second, .val (.ref w_w), .val (.int (4 : Int32)), .val (.int (2 : Int32)), .val (.int e_2)]) rfl k) ?_
  show Go _ _ _ _ _ _ _ (T1.setTop (mkF m 33 #[.val (.ref o0), .val (.long ((((0 : Int64) + (e_0.toInt64)) + (e_1.toInt64)) + (e_2.toInt64))), .second, .val (.ref w_w), .val (.int (4 : Int32)), .val (.int (2 : Int32)), .val (.int e_2)] []))
  refine gob (fun _ k => XS.iinc X1.here hx rfl (hb hby d3_33) rfl (l' := #[.val (.ref o0), .val (.long ((((0 : Int64) + (e_0.toInt64)) + (e_1.toInt64)) + (e_2.toInt64))), .second, .val (.ref w_w), .val (.int (4 : Int32)), .val (.int (3 : Int32)), .val (.int e_2)]) rfl k) ?_
  show Go _ _ _ _ _ _ _ (T1.setTop (mkF m 36 #[.val (.ref o0), .val (.long ((((0 : Int64) + (e_0.toInt64)) + (e_1.toInt64)) + (e_2.toInt64))), .second, .val (.ref w_w), .val (.int (4 : Int32)), .val (.int (3 : Int32)), .val (.int e_2)] []))
  refine gob (fun _ k => XS.goto X1.here hx rfl (pc0 := 36) (pc' := 14) rfl (hb hby d3_36) (by decide) (by decide) k) ?_
  show Go _ _ _ _ _ _ _ (T1.setTop (mkF m 14 #[.val (.ref o0), .val (.long ((((0 : Int64) + (e_0.toInt64)) + (e_1.toInt64)) + (e_2.toInt64))), .second, .val (.ref w_w), .val (.int (4 : Int32)), .val (.int (3 : Int32)), .val (.int e_2)] []))
  refine gob (fun _ k => XS.iload X1.here hx rfl (hb hby d3_14) rfl k) ?_
  show Go _ _ _ _ _ _ _ (T1.setTop (mkF m 16 #[.val (.ref o0), .val (.long ((((0 : Int64) + (e_0.toInt64)) + (e_1.toInt64)) + (e_2.toInt64))), .second, .val (.ref w_w), .val (.int (4 : Int32)), .val (.int (3 : Int32)), .val (.int e_2)] [(.int (3 : Int32))]))
  refine gob (fun _ k => XS.iload X1.here hx rfl (hb hby d3_16) rfl k) ?_
  show Go _ _ _ _ _ _ _ (T1.setTop (mkF m 18 #[.val (.ref o0), .val (.long ((((0 : Int64) + (e_0.toInt64)) + (e_1.toInt64)) + (e_2.toInt64))), .second, .val (.ref w_w), .val (.int (4 : Int32)), .val (.int (3 : Int32)), .val (.int e_2)] [(.int (4 : Int32)), (.int (3 : Int32))]))
  refine gob (fun _ k => XS.icmpNo X1.here hx rfl (hb hby d3_18) rfl (tlt (by decide : (3 : Int32) < (4 : Int32))).2.1 k) ?_
  show Go _ _ _ _ _ _ _ (T1.setTop (mkF m 21 #[.val (.ref o0), .val (.long ((((0 : Int64) + (e_0.toInt64)) + (e_1.toInt64)) + (e_2.toInt64))), .second, .val (.ref w_w), .val (.int (4 : Int32)), .val (.int (3 : Int32)), .val (.int e_2)] []))
  refine gob (fun _ k => XS.aloadN X1.here hx rfl (hb hby d3_21) rfl rfl k) ?_
  show Go _ _ _ _ _ _ _ (T1.setTop (mkF m 22 #[.val (.ref o0), .val (.long ((((0 : Int64) + (e_0.toInt64)) + (e_1.toInt64)) + (e_2.toInt64))), .second, .val (.ref w_w), .val (.int (4 : Int32)), .val (.int (3 : Int32)), .val (.int e_2)] [(.ref w_w)]))
  refine gob (fun _ k => XS.iload X1.here hx rfl (hb hby d3_22) rfl k) ?_
  show Go _ _ _ _ _ _ _ (T1.setTop (mkF m 24 #[.val (.ref o0), .val (.long ((((0 : Int64) + (e_0.toInt64)) + (e_1.toInt64)) + (e_2.toInt64))), .second, .val (.ref w_w), .val (.int (4 : Int32)), .val (.int (3 : Int32)), .val (.int e_2)] [(.int (3 : Int32)), (.ref w_w)]))
  obtain ⟨cl6, Ar6, q6, S6, N6, H6, G6⟩ := id V_w
  have hin6 : ¬ ((3 : Int32) < 0 ∨ cl6.slots.size ≤ ((3 : Int32)).toNatClampNeg) := inb_of S6 ⟨by decide, by decide⟩
  refine gob (X1.iaload hx (j := (3 : Int32)) (v := (.int e_3)) (by rw [e1]; exact Ar6.1) (State.isArrayOf_alike hZ.alike Ar6.2.1) Ar6.2.2 hin6 (Has.at H6 hin6 rfl) (g := (mkF m 24 #[.val (.ref o0), .val (.long ((((0 : Int64) + (e_0.toInt64)) + (e_1.toInt64)) + (e_2.toInt64))), .second, .val (.ref w_w), .val (.int (4 : Int32)), .val (.int (3 : Int32)), .val (.int e_2)] [(.int (3 : Int32)), (.ref w_w)])) rfl rfl (hb hby d3_24)) ?_
  show Go _ _ _ _ _ _ _ (T1.setTop (mkF m 25 #[.val (.ref o0), .val (.long ((((0 : Int64) + (e_0.toInt64)) + (e_1.toInt64)) + (e_2.toInt64))), .second, .val (.ref w_w), .val (.int (4 : Int32)), .val (.int (3 : Int32)), .val (.int e_2)] [(.int e_3)]))
  refine gob (fun _ k => XS.istore X1.here hx rfl (hb hby d3_25) rfl (l' := #[.val (.ref o0), .val (.long ((((0 : Int64) + (e_0.toInt64)) + (e_1.toInt64)) + (e_2.toInt64))), .second, .val (.ref w_w), .val (.int (4 : Int32)), .val (.int (3 : Int32)), .val (.int e_3)]) rfl k) ?_
  show Go _ _ _ _ _ _ _ (T1.setTop (mkF m 27 #[.val (.ref o0), .val (.long ((((0 : Int64) + (e_0.toInt64)) + (e_1.toInt64)) + (e_2.toInt64))), .second, .val (.ref w_w), .val (.int (4 : Int32)), .val (.int (3 : Int32)), .val (.int e_3)] []))
  refine gob (fun _ k => XS.lloadN X1.here hx rfl (hb hby d3_27) rfl k) ?_
  show Go _ _ _ _ _ _ _ (T1.setTop (mkF m 28 #[.val (.ref o0), .val (.long ((((0 : Int64) + (e_0.toInt64)) + (e_1.toInt64)) + (e_2.toInt64))), .second, .val (.ref w_w), .val (.int (4 : Int32)), .val (.int (3 : Int32)), .val (.int e_3)] [(.long ((((0 : Int64) + (e_0.toInt64)) + (e_1.toInt64)) + (e_2.toInt64)))]))
  refine gob (fun _ k => XS.iload X1.here hx rfl (hb hby d3_28) rfl k) ?_
  show Go _ _ _ _ _ _ _ (T1.setTop (mkF m 30 #[.val (.ref o0), .val (.long ((((0 : Int64) + (e_0.toInt64)) + (e_1.toInt64)) + (e_2.toInt64))), .second, .val (.ref w_w), .val (.int (4 : Int32)), .val (.int (3 : Int32)), .val (.int e_3)] [(.int e_3), (.long ((((0 : Int64) + (e_0.toInt64)) + (e_1.toInt64)) + (e_2.toInt64)))]))
  refine gob (fun _ k => XS.i2l X1.here hx rfl (hb hby d3_30) rfl k) ?_
  show Go _ _ _ _ _ _ _ (T1.setTop (mkF m 31 #[.val (.ref o0), .val (.long ((((0 : Int64) + (e_0.toInt64)) + (e_1.toInt64)) + (e_2.toInt64))), .second, .val (.ref w_w), .val (.int (4 : Int32)), .val (.int (3 : Int32)), .val (.int e_3)] [(.long (e_3.toInt64)), (.long ((((0 : Int64) + (e_0.toInt64)) + (e_1.toInt64)) + (e_2.toInt64)))]))
  refine gob (fun _ k => XS.ladd X1.here hx rfl (hb hby d3_31) rfl k) ?_
  show Go _ _ _ _ _ _ _ (T1.setTop (mkF m 32 #[.val (.ref o0), .val (.long ((((0 : Int64) + (e_0.toInt64)) + (e_1.toInt64)) + (e_2.toInt64))), .second, .val (.ref w_w), .val (.int (4 : Int32)), .val (.int (3 : Int32)), .val (.int e_3)] [(.long (((((0 : Int64) + (e_0.toInt64)) + (e_1.toInt64)) + (e_2.toInt64)) + (e_3.toInt64)))]))
  refine gob (fun _ k => XS.lstoreN X1.here hx rfl (hb hby d3_32) rfl (l' := #[.val (.ref o0), .val (.long (((((0 : Int64) + (e_0.toInt64)) + (e_1.toInt64)) + (e_2.toInt64)) + (e_3.toInt64))), .second, .val (.ref w_w), .val (.int (4 : Int32)), .val (.int (3 : Int32)), .val (.int e_3)]) rfl k) ?_
  show Go _ _ _ _ _ _ _ (T1.setTop (mkF m 33 #[.val (.ref o0), .val (.long (((((0 : Int64) + (e_0.toInt64)) + (e_1.toInt64)) + (e_2.toInt64)) + (e_3.toInt64))), .second, .val (.ref w_w), .val (.int (4 : Int32)), .val (.int (3 : Int32)), .val (.int e_3)] []))
  refine gob (fun _ k => XS.iinc X1.here hx rfl (hb hby d3_33) rfl (l' := #[.val (.ref o0), .val (.long (((((0 : Int64) + (e_0.toInt64)) + (e_1.toInt64)) + (e_2.toInt64)) + (e_3.toInt64))), .second, .val (.ref w_w), .val (.int (4 : Int32)), .val (.int (4 : Int32)), .val (.int e_3)]) rfl k) ?_
  show Go _ _ _ _ _ _ _ (T1.setTop (mkF m 36 #[.val (.ref o0), .val (.long (((((0 : Int64) + (e_0.toInt64)) + (e_1.toInt64)) + (e_2.toInt64)) + (e_3.toInt64))), .second, .val (.ref w_w), .val (.int (4 : Int32)), .val (.int (4 : Int32)), .val (.int e_3)] []))
  refine gob (fun _ k => XS.goto X1.here hx rfl (pc0 := 36) (pc' := 14) rfl (hb hby d3_36) (by decide) (by decide) k) ?_
  show Go _ _ _ _ _ _ _ (T1.setTop (mkF m 14 #[.val (.ref o0), .val (.long (((((0 : Int64) + (e_0.toInt64)) + (e_1.toInt64)) + (e_2.toInt64)) + (e_3.toInt64))), .second, .val (.ref w_w), .val (.int (4 : Int32)), .val (.int (4 : Int32)), .val (.int e_3)] []))
  refine gob (fun _ k => XS.iload X1.here hx rfl (hb hby d3_14) rfl k) ?_
  show Go _ _ _ _ _ _ _ (T1.setTop (mkF m 16 #[.val (.ref o0), .val (.long (((((0 : Int64) + (e_0.toInt64)) + (e_1.toInt64)) + (e_2.toInt64)) + (e_3.toInt64))), .second, .val (.ref w_w), .val (.int (4 : Int32)), .val (.int (4 : Int32)), .val (.int e_3)] [(.int (4 : Int32))]))
  refine gob (fun _ k => XS.iload X1.here hx rfl (hb hby d3_16) rfl k) ?_
  show Go _ _ _ _ _ _ _ (T1.setTop (mkF m 18 #[.val (.ref o0), .val (.long (((((0 : Int64) + (e_0.toInt64)) + (e_1.toInt64)) + (e_2.toInt64)) + (e_3.toInt64))), .second, .val (.ref w_w), .val (.int (4 : Int32)), .val (.int (4 : Int32)), .val (.int e_3)] [(.int (4 : Int32)), (.int (4 : Int32))]))
  refine gob (fun _ k => XS.icmpYes X1.here hx rfl (pc0 := 18) (pc' := 39) rfl (hb hby d3_18) rfl (flt (by decide : ¬ ((4 : Int32) < (4 : Int32)))).2.1 (by decide) (by decide) k) ?_
  show Go _ _ _ _ _ _ _ (T1.setTop (mkF m 39 #[.val (.ref o0), .val (.long (((((0 : Int64) + (e_0.toInt64)) + (e_1.toInt64)) + (e_2.toInt64)) + (e_3.toInt64))), .second, .val (.ref w_w), .val (.int (4 : Int32)), .val (.int (4 : Int32)), .val (.int e_3)] []))
  refine gob (fun _ k => XS.lloadN X1.here hx rfl (hb hby d3_39) rfl k) ?_
  show Go _ _ _ _ _ _ _ (T1.setTop (mkF m 40 #[.val (.ref o0), .val (.long (((((0 : Int64) + (e_0.toInt64)) + (e_1.toInt64)) + (e_2.toInt64)) + (e_3.toInt64))), .second, .val (.ref w_w), .val (.int (4 : Int32)), .val (.int (4 : Int32)), .val (.int e_3)] [(.long (((((0 : Int64) + (e_0.toInt64)) + (e_1.toInt64)) + (e_2.toInt64)) + (e_3.toInt64)))]))
  refine goJ X1 hx hlk Bd.returns (hb hby d3_40) ?_ (by decide) (by decide)
  show Q3_4 Z o0 w_w k_w e_0 e_1 e_2 e_3 h0 n0 (some (.long (((((0 : Int64) + (e_0.toInt64)) + (e_1.toInt64)) + (e_2.toInt64)) + (e_3.toInt64)))) T1.heap _
  exact ⟨(((((0 : Int64) + (e_0.toInt64)) + (e_1.toInt64)) + (e_2.toInt64)) + (e_3.toInt64)), rfl, rfl, N0, e1⟩
theorem pd_0 : parseMethodDescriptor "([I[I[I[I)V" = some ⟨[(.array .int), (.array .int), (.array .int), (.array .int)], none⟩ := by decide +kernel
theorem pd_1 : parseMethodDescriptor "()J" = some ⟨[], some .long⟩ := by decide +kernel
theorem ef_0 (m : MethodId) (x0 : Int32) (x1 : Int32) (x2 : Int32) (x3 : Int32) (x4 : Int32) : entryFrame m #[(.int x0), (.int x1), (.int x2), (.int x3), (.int x4)] maxLocals = mkF m 0 #[.val (.int x0), .val (.int x1), .val (.int x2), .val (.int x3), .val (.int x4), .unset, .unset, .unset, .unset, .unset, .unset] [] := by first | (simp [entryFrame, mkF, argsToLocals, Value.category, maxLocals]; done) | rfl
def Q0 (Z : State) (p0 : Int32) (p1 : Int32) (p2 : Int32) (p3 : Int32) (p4 : Int32) (h0 : Heap) (n0 : Nat) (v : Option Value) (h : Heap) (L : List Loc) : Prop := v = some (.int 1) ∧ Fr n0 L
theorem la_0_150_8 (p4 : Int32) (x1 : Int32) (hx1 : ((p4 &&& (2147483647 : Int32)) % (5 : Int32)) = x1) (hc11_2 : x1 = (0 : Int32)) : 0 ≤ (x1 + (1 : Int32)).toInt ∧ (x1 + (1 : Int32)).toInt ≤ 5 := by
  have := rng32 p4
  have := rng32 x1
  have : (0 : Int32).toInt = 0 := by decide
  have : (1 : Int32).toInt = 1 := by decide
  have : (2147483647 : Int32).toInt = 2147483647 := by decide
  have : (5 : Int32).toInt = 5 := by decide
  have : ((p4 &&& (2147483647 : Int32))).toInt = (p4).toInt % (2 ^ 31 : Nat) := c_mask p4 (2147483647 : Int32) 31 (by decide) (by decide)
  have := c_irem (p4 &&& (2147483647 : Int32)) (5 : Int32) (5) (by decide)
  have := rng32 ((p4 &&& (2147483647 : Int32)) % (5 : Int32))
  have := c_iadd x1 (1 : Int32)
  have := rng32 (x1 + (1 : Int32))
  try (simp only [Int32.lt_iff_toInt_lt, Int32.le_iff_toInt_le, Int64.lt_iff_toInt_lt, Int64.le_iff_toInt_le, ← Int32.toInt_inj, ← Int64.toInt_inj, ne_eq] at *)
  omega
theorem ld_0_181_50 (r47 : Int64) (hr47 : (r47 = (0 : Int64))) : r47 = (0 : Int64) := by
  have := rng64 r47
  have : (0 : Int64).toInt = 0 := by decide
  try (simp only [Int32.lt_iff_toInt_lt, Int32.le_iff_toInt_le, Int64.lt_iff_toInt_lt, Int64.le_iff_toInt_le, ← Int32.toInt_inj, ← Int64.toInt_inj, ne_eq] at *)
  omega
theorem la_0_150_62 (p4 : Int32) (x1 : Int32) (hx1 : ((p4 &&& (2147483647 : Int32)) % (5 : Int32)) = x1) (hc11_2 : ¬ (x1 = (0 : Int32))) (hc28_52 : x1 = (1 : Int32)) : 0 ≤ (x1 + (1 : Int32)).toInt ∧ (x1 + (1 : Int32)).toInt ≤ 5 := by
  have := rng32 p4
  have := rng32 x1
  have : (0 : Int32).toInt = 0 := by decide
  have : (1 : Int32).toInt = 1 := by decide
  have : (2147483647 : Int32).toInt = 2147483647 := by decide
  have : (5 : Int32).toInt = 5 := by decide
  have : ((p4 &&& (2147483647 : Int32))).toInt = (p4).toInt % (2 ^ 31 : Nat) := c_mask p4 (2147483647 : Int32) 31 (by decide) (by decide)
  have := c_irem (p4 &&& (2147483647 : Int32)) (5 : Int32) (5) (by decide)
  have := rng32 ((p4 &&& (2147483647 : Int32)) % (5 : Int32))
  have := c_iadd x1 (1 : Int32)
  have := rng32 (x1 + (1 : Int32))
  try (simp only [Int32.lt_iff_toInt_lt, Int32.le_iff_toInt_le, Int64.lt_iff_toInt_lt, Int64.le_iff_toInt_le, ← Int32.toInt_inj, ← Int64.toInt_inj, ne_eq] at *)
  omega
theorem ld_0_181_104 (p0 : Int32) (x59 : Int64) (r101 : Int64) (hx59 : (p0.toInt64) = x59) (hr101 : (r101 = ((0 : Int64) + (p0.toInt64)))) : r101 = x59 := by
  have := rng32 p0
  have := rng64 x59
  have := rng64 r101
  have : (0 : Int64).toInt = 0 := by decide
  have := c_i2l p0
  have := c_ladd (0 : Int64) (p0.toInt64)
  have := rng64 ((0 : Int64) + (p0.toInt64))
  try (simp only [Int32.lt_iff_toInt_lt, Int32.le_iff_toInt_le, Int64.lt_iff_toInt_lt, Int64.le_iff_toInt_le, ← Int32.toInt_inj, ← Int64.toInt_inj, ne_eq] at *)
  omega
theorem la_0_150_119 (p4 : Int32) (x1 : Int32) (hx1 : ((p4 &&& (2147483647 : Int32)) % (5 : Int32)) = x1) (hc11_2 : ¬ (x1 = (0 : Int32))) (hc28_52 : ¬ (x1 = (1 : Int32))) (hc50_106 : x1 = (2 : Int32)) : 0 ≤ (x1 + (1 : Int32)).toInt ∧ (x1 + (1 : Int32)).toInt ≤ 5 := by
  have := rng32 p4
  have := rng32 x1
  have : (0 : Int32).toInt = 0 := by decide
  have : (1 : Int32).toInt = 1 := by decide
  have : (2 : Int32).toInt = 2 := by decide
  have : (2147483647 : Int32).toInt = 2147483647 := by decide
  have : (5 : Int32).toInt = 5 := by decide
  have : ((p4 &&& (2147483647 : Int32))).toInt = (p4).toInt % (2 ^ 31 : Nat) := c_mask p4 (2147483647 : Int32) 31 (by decide) (by decide)
  have := c_irem (p4 &&& (2147483647 : Int32)) (5 : Int32) (5) (by decide)
  have := rng32 ((p4 &&& (2147483647 : Int32)) % (5 : Int32))
  have := c_iadd x1 (1 : Int32)
  have := rng32 (x1 + (1 : Int32))
  try (simp only [Int32.lt_iff_toInt_lt, Int32.le_iff_toInt_le, Int64.lt_iff_toInt_lt, Int64.le_iff_toInt_le, ← Int32.toInt_inj, ← Int64.toInt_inj, ne_eq] at *)
  omega
theorem ld_0_181_161 (p0 : Int32) (p1 : Int32) (x116 : Int64) (r158 : Int64) (hx116 : ((p0.toInt64) + (p1.toInt64)) = x116) (hr158 : (r158 = (((0 : Int64) + (p0.toInt64)) + (p1.toInt64)))) : r158 = x116 := by
  have := rng32 p0
  have := rng32 p1
  have := rng64 x116
  have := rng64 r158
  have : (0 : Int64).toInt = 0 := by decide
  have := c_i2l p0
  have := c_ladd (0 : Int64) (p0.toInt64)
  have := rng64 ((0 : Int64) + (p0.toInt64))
  have := c_i2l p1
  have := c_ladd (p0.toInt64) (p1.toInt64)
  have := rng64 ((p0.toInt64) + (p1.toInt64))
  have := c_ladd ((0 : Int64) + (p0.toInt64)) (p1.toInt64)
  have := rng64 (((0 : Int64) + (p0.toInt64)) + (p1.toInt64))
  try (simp only [Int32.lt_iff_toInt_lt, Int32.le_iff_toInt_le, Int64.lt_iff_toInt_lt, Int64.le_iff_toInt_le, ← Int32.toInt_inj, ← Int64.toInt_inj, ne_eq] at *)
  omega
theorem la_0_150_179 (p4 : Int32) (x1 : Int32) (hx1 : ((p4 &&& (2147483647 : Int32)) % (5 : Int32)) = x1) (hc11_2 : ¬ (x1 = (0 : Int32))) (hc28_52 : ¬ (x1 = (1 : Int32))) (hc50_106 : ¬ (x1 = (2 : Int32))) (hc79_163 : x1 = (3 : Int32)) : 0 ≤ (x1 + (1 : Int32)).toInt ∧ (x1 + (1 : Int32)).toInt ≤ 5 := by
  have := rng32 p4
  have := rng32 x1
  have : (0 : Int32).toInt = 0 := by decide
  have : (1 : Int32).toInt = 1 := by decide
  have : (2 : Int32).toInt = 2 := by decide
  have : (2147483647 : Int32).toInt = 2147483647 := by decide
  have : (3 : Int32).toInt = 3 := by decide
  have : (5 : Int32).toInt = 5 := by decide
  have : ((p4 &&& (2147483647 : Int32))).toInt = (p4).toInt % (2 ^ 31 : Nat) := c_mask p4 (2147483647 : Int32) 31 (by decide) (by decide)
  have := c_irem (p4 &&& (2147483647 : Int32)) (5 : Int32) (5) (by decide)
  have := rng32 ((p4 &&& (2147483647 : Int32)) % (5 : Int32))
  have := c_iadd x1 (1 : Int32)
  have := rng32 (x1 + (1 : Int32))
  try (simp only [Int32.lt_iff_toInt_lt, Int32.le_iff_toInt_le, Int64.lt_iff_toInt_lt, Int64.le_iff_toInt_le, ← Int32.toInt_inj, ← Int64.toInt_inj, ne_eq] at *)
  omega
theorem ld_0_181_221 (p0 : Int32) (p1 : Int32) (p2 : Int32) (x176 : Int64) (r218 : Int64) (hx176 : (((p0.toInt64) + (p1.toInt64)) + (p2.toInt64)) = x176) (hr218 : (r218 = ((((0 : Int64) + (p0.toInt64)) + (p1.toInt64)) + (p2.toInt64)))) : r218 = x176 := by
  have := rng32 p0
  have := rng32 p1
  have := rng32 p2
  have := rng64 x176
  have := rng64 r218
  have : (0 : Int64).toInt = 0 := by decide
  have := c_i2l p0
  have := c_ladd (0 : Int64) (p0.toInt64)
  have := rng64 ((0 : Int64) + (p0.toInt64))
  have := c_i2l p1
  have := c_ladd (p0.toInt64) (p1.toInt64)
  have := rng64 ((p0.toInt64) + (p1.toInt64))
  have := c_ladd ((0 : Int64) + (p0.toInt64)) (p1.toInt64)
  have := rng64 (((0 : Int64) + (p0.toInt64)) + (p1.toInt64))
  have := c_i2l p2
  have := c_ladd ((p0.toInt64) + (p1.toInt64)) (p2.toInt64)
  have := rng64 (((p0.toInt64) + (p1.toInt64)) + (p2.toInt64))
  have := c_ladd (((0 : Int64) + (p0.toInt64)) + (p1.toInt64)) (p2.toInt64)
  have := rng64 ((((0 : Int64) + (p0.toInt64)) + (p1.toInt64)) + (p2.toInt64))
  try (simp only [Int32.lt_iff_toInt_lt, Int32.le_iff_toInt_le, Int64.lt_iff_toInt_lt, Int64.le_iff_toInt_le, ← Int32.toInt_inj, ← Int64.toInt_inj, ne_eq] at *)
  omega
theorem la_0_150_241 (p4 : Int32) (x1 : Int32) (hx1 : ((p4 &&& (2147483647 : Int32)) % (5 : Int32)) = x1) (hc11_2 : ¬ (x1 = (0 : Int32))) (hc28_52 : ¬ (x1 = (1 : Int32))) (hc50_106 : ¬ (x1 = (2 : Int32))) (hc79_163 : ¬ (x1 = (3 : Int32))) : 0 ≤ (x1 + (1 : Int32)).toInt ∧ (x1 + (1 : Int32)).toInt ≤ 5 := by
  have := rng32 p4
  have := rng32 x1
  have : (0 : Int32).toInt = 0 := by decide
  have : (1 : Int32).toInt = 1 := by decide
  have : (2 : Int32).toInt = 2 := by decide
  have : (2147483647 : Int32).toInt = 2147483647 := by decide
  have : (3 : Int32).toInt = 3 := by decide
  have : (5 : Int32).toInt = 5 := by decide
  have : ((p4 &&& (2147483647 : Int32))).toInt = (p4).toInt % (2 ^ 31 : Nat) := c_mask p4 (2147483647 : Int32) 31 (by decide) (by decide)
  have := c_irem (p4 &&& (2147483647 : Int32)) (5 : Int32) (5) (by decide)
  have := rng32 ((p4 &&& (2147483647 : Int32)) % (5 : Int32))
  have := c_iadd x1 (1 : Int32)
  have := rng32 (x1 + (1 : Int32))
  try (simp only [Int32.lt_iff_toInt_lt, Int32.le_iff_toInt_le, Int64.lt_iff_toInt_lt, Int64.le_iff_toInt_le, ← Int32.toInt_inj, ← Int64.toInt_inj, ne_eq] at *)
  omega
theorem ld_0_181_283 (p0 : Int32) (p1 : Int32) (p2 : Int32) (p3 : Int32) (x238 : Int64) (r280 : Int64) (hx238 : ((((p0.toInt64) + (p1.toInt64)) + (p2.toInt64)) + (p3.toInt64)) = x238) (hr280 : (r280 = (((((0 : Int64) + (p0.toInt64)) + (p1.toInt64)) + (p2.toInt64)) + (p3.toInt64)))) : r280 = x238 := by
  have := rng32 p0
  have := rng32 p1
  have := rng32 p2
  have := rng32 p3
  have := rng64 x238
  have := rng64 r280
  have : (0 : Int64).toInt = 0 := by decide
  have := c_i2l p0
  have := c_ladd (0 : Int64) (p0.toInt64)
  have := rng64 ((0 : Int64) + (p0.toInt64))
  have := c_i2l p1
  have := c_ladd (p0.toInt64) (p1.toInt64)
  have := rng64 ((p0.toInt64) + (p1.toInt64))
  have := c_ladd ((0 : Int64) + (p0.toInt64)) (p1.toInt64)
  have := rng64 (((0 : Int64) + (p0.toInt64)) + (p1.toInt64))
  have := c_i2l p2
  have := c_ladd ((p0.toInt64) + (p1.toInt64)) (p2.toInt64)
  have := rng64 (((p0.toInt64) + (p1.toInt64)) + (p2.toInt64))
  have := c_ladd (((0 : Int64) + (p0.toInt64)) + (p1.toInt64)) (p2.toInt64)
  have := rng64 ((((0 : Int64) + (p0.toInt64)) + (p1.toInt64)) + (p2.toInt64))
  have := c_i2l p3
  have := c_ladd (((p0.toInt64) + (p1.toInt64)) + (p2.toInt64)) (p3.toInt64)
  have := rng64 ((((p0.toInt64) + (p1.toInt64)) + (p2.toInt64)) + (p3.toInt64))
  have := c_ladd ((((0 : Int64) + (p0.toInt64)) + (p1.toInt64)) + (p2.toInt64)) (p3.toInt64)
  have := rng64 (((((0 : Int64) + (p0.toInt64)) + (p1.toInt64)) + (p2.toInt64)) + (p3.toInt64))
  try (simp only [Int32.lt_iff_toInt_lt, Int32.le_iff_toInt_le, Int64.lt_iff_toInt_lt, Int64.le_iff_toInt_le, ← Int32.toInt_inj, ← Int64.toInt_inj, ne_eq] at *)
  omega
set_option maxRecDepth 65536 in
set_option maxHeartbeats 40000000 in
theorem rm0 (l : Launch) (Z : State) (a0 : Array Value) (hw : ∀ d ∈ tables_1, d.before a0 Z = true) (ws : List Jvm.Cond) (p0 : Int32) (p1 : Int32) (p2 : Int32) (p3 : Int32) (p4 : Int32) (h0 : Heap) (n0 : Nat) (Z0 : n0 ≤ h0.size) :
    MetFree l x (head1 (Jvm.Cond.code x code maxLocals ret :: ws) room_1) (fun a U => a = #[(.int p0), (.int p1), (.int p2), (.int p3), (.int p4)] ∧ Z.Warmed39 U.vm ∧ U.heap = h0) (fun _ _ _ _ _ => True) (fun _ U o U' => ∃ v L, o = .returned v ∧ Q0 Z p0 p1 p2 p3 p4 h0 n0 v U'.heap L ∧ FrameEnd U o U' L 24 128) := by
  refine MetFree.of_bodySF (plainFor_of_name (by first | (simp [plainName, overriddenIn]; done) | decide +kernel)) hisR ?_
  intro p e s m args below meth c s₁ Bd hml0 hP hK
  obtain ⟨rfl, hZ, hh⟩ := hP
  have hx := Bd.exec
  have hby := Bd.bytes
  have hml : c.maxLocals = 11 := hml0
  have hown : s.vm.findClass "com/example/fenda/fenda/linalg/GraphTotalWeightPinLaw" = some m.cls := findClass_of_methodNamed Bd.named
  have hnm := (name_of_methodNamed Bd.named Bd.method).1
  have hlk := BodyLoose.notSynchronized Bd
  have X0 : Stand p l e room_1 s m #[(.int p0), (.int p1), (.int p2), (.int p3), (.int p4)] below meth c s₁ [] 0 0 := Stand.of_body Bd
  have e0 : s₁.heap = h0 := by rw [← hh, Bd.state]; rfl
  have N0 := Fr.nil n0
  show Go p e below s (Q0 Z p0 p1 p2 p3 p4 h0 n0) 24 128 (s₁.setTop (entryFrame m #[(.int p0), (.int p1), (.int p2), (.int p3), (.int p4)] maxLocals))
  rw [ef_0]
  show Go _ _ _ _ _ _ _ (s₁.setTop (mkF m 0 #[.val (.int p0), .val (.int p1), .val (.int p2), .val (.int p3), .val (.int p4), .unset, .unset, .unset, .unset, .unset, .unset] []))
  refine gob (fun _ k => XS.iload X0.here hx rfl (hb hby at_0) rfl k) ?_
  show Go _ _ _ _ _ _ _ (s₁.setTop (mkF m 2 #[.val (.int p0), .val (.int p1), .val (.int p2), .val (.int p3), .val (.int p4), .unset, .unset, .unset, .unset, .unset, .unset] [(.int p4)]))
  refine gob (X0.ldcInt hx hown (mvT hZ (hw _ (List.mem_of_getElem? (i := 0) rfl))) (g := (mkF m 2 #[.val (.int p0), .val (.int p1), .val (.int p2), .val (.int p3), .val (.int p4), .unset, .unset, .unset, .unset, .unset, .unset] [(.int p4)])) rfl (hb hby at_2)) ?_
  show Go _ _ _ _ _ _ _ (s₁.setTop (mkF m 4 #[.val (.int p0), .val (.int p1), .val (.int p2), .val (.int p3), .val (.int p4), .unset, .unset, .unset, .unset, .unset, .unset] [(.int (2147483647 : Int32)), (.int p4)]))
  refine gob (fun _ k => XS.iand X0.here hx rfl (hb hby at_4) rfl k) ?_
  show Go _ _ _ _ _ _ _ (s₁.setTop (mkF m 5 #[.val (.int p0), .val (.int p1), .val (.int p2), .val (.int p3), .val (.int p4), .unset, .unset, .unset, .unset, .unset, .unset] [(.int (p4 &&& (2147483647 : Int32)))]))
  refine gob (fun _ k => XS.iconst X0.here hx rfl (hb hby at_5) k) ?_
  show Go _ _ _ _ _ _ _ (s₁.setTop (mkF m 6 #[.val (.int p0), .val (.int p1), .val (.int p2), .val (.int p3), .val (.int p4), .unset, .unset, .unset, .unset, .unset, .unset] [(.int (5 : Int32)), (.int (p4 &&& (2147483647 : Int32)))]))
  refine gob (fun _ k => iremM X0 hx rfl (hb hby at_6) rfl (by decide) k) ?_
  show Go _ _ _ _ _ _ _ (s₁.setTop (mkF m 7 #[.val (.int p0), .val (.int p1), .val (.int p2), .val (.int p3), .val (.int p4), .unset, .unset, .unset, .unset, .unset, .unset] [(.int ((p4 &&& (2147483647 : Int32)) % (5 : Int32)))]))
  refine gob (fun _ k => XS.istore X0.here hx rfl (hb hby at_7) rfl (l' := #[.val (.int p0), .val (.int p1), .val (.int p2), .val (.int p3), .val (.int p4), .val (.int ((p4 &&& (2147483647 : Int32)) % (5 : Int32))), .unset, .unset, .unset, .unset, .unset]) rfl k) ?_
  show Go _ _ _ _ _ _ _ (s₁.setTop (mkF m 9 #[.val (.int p0), .val (.int p1), .val (.int p2), .val (.int p3), .val (.int p4), .val (.int ((p4 &&& (2147483647 : Int32)) % (5 : Int32))), .unset, .unset, .unset, .unset, .unset] []))
  generalize hx1 : ((p4 &&& (2147483647 : Int32)) % (5 : Int32)) = x1
  show Go _ _ _ _ _ _ _ (s₁.setTop (mkF m 9 #[.val (.int p0), .val (.int p1), .val (.int p2), .val (.int p3), .val (.int p4), .val (.int x1), .unset, .unset, .unset, .unset, .unset] []))
  refine gob (fun _ k => XS.iload X0.here hx rfl (hb hby at_9) rfl k) ?_
  show Go _ _ _ _ _ _ _ (s₁.setTop (mkF m 11 #[.val (.int p0), .val (.int p1), .val (.int p2), .val (.int p3), .val (.int p4), .val (.int x1), .unset, .unset, .unset, .unset, .unset] [(.int x1)]))
  by_cases hc11_2 : x1 = (0 : Int32)
  · skip
    refine gob (fun _ k => XS.ifNo X0.here hx rfl (hb hby at_11) rfl ((if0 _ _).trans (teq hc11_2).2) k) ?_
    show Go _ _ _ _ _ _ _ (s₁.setTop (mkF m 14 #[.val (.int p0), .val (.int p1), .val (.int p2), .val (.int p3), .val (.int p4), .val (.int x1), .unset, .unset, .unset, .unset, .unset] []))
    refine gob (fun _ k => XS.iconst X0.here hx rfl (hb hby at_14) k) ?_
    show Go _ _ _ _ _ _ _ (s₁.setTop (mkF m 15 #[.val (.int p0), .val (.int p1), .val (.int p2), .val (.int p3), .val (.int p4), .val (.int x1), .unset, .unset, .unset, .unset, .unset] [(.int (0 : Int32))]))
    obtain ⟨T3, h3, k3, X3, e3, E3, A3, st3⟩ := newP X0 hx hZ (hw _ (List.mem_of_getElem? (i := 1) rfl)) e0 (g := (mkF m 15 #[.val (.int p0), .val (.int p1), .val (.int p2), .val (.int p3), .val (.int p4), .val (.int x1), .unset, .unset, .unset, .unset, .unset] [(.int (0 : Int32))])) rfl (hb hby at_15) rfl (by decide) (cap := 0) (by decide) (by decide) (by decide) (by decide)
    obtain ⟨b3, g3⟩ : ∃ z, z = h0.size := ⟨_, rfl⟩
    rw [← g3] at A3 st3
    have g4 : n0 ≤ b3 := Nat.le_trans Z0 (Nat.le_of_eq g3.symm)
    have z5 : n0 ≤ h3.size := Nat.le_trans Z0 E3.1
    have V3 : Arv Z h3 b3 k3 .int (0 : Int32) [] (.int (0 : Int32)) := Arv.new A3 (by decide)
    refine gob st3 ?_
    show Go _ _ _ _ _ _ _ (T3.setTop (mkF m 17 #[.val (.int p0), .val (.int p1), .val (.int p2), .val (.int p3), .val (.int p4), .val (.int x1), .unset, .unset, .unset, .unset, .unset] [(.ref b3)]))
    refine gob (fun _ k => XS.astore X3.here hx rfl (hb hby at_17) rfl rfl (l' := #[.val (.int p0), .val (.int p1), .val (.int p2), .val (.int p3), .val (.int p4), .val (.int x1), .val (.ref b3), .unset, .unset, .unset, .unset]) rfl k) ?_
    show Go _ _ _ _ _ _ _ (T3.setTop (mkF m 19 #[.val (.int p0), .val (.int p1), .val (.int p2), .val (.int p3), .val (.int p4), .val (.int x1), .val (.ref b3), .unset, .unset, .unset, .unset] []))
    refine gob (fun _ k => XS.lconst X3.here hx rfl (hb hby at_19) k) ?_
    show Go _ _ _ _ _ _ _ (T3.setTop (mkF m 20 #[.val (.int p0), .val (.int p1), .val (.int p2), .val (.int p3), .val (.int p4), .val (.int x1), .val (.ref b3), .unset, .unset, .unset, .unset] [(.long (0 : Int64))]))
    refine gob (fun _ k => XS.lstore X3.here hx rfl (hb hby at_20) rfl (l' := #[.val (.int p0), .val (.int p1), .val (.int p2), .val (.int p3), .val (.int p4), .val (.int x1), .val (.ref b3), .val (.long (0 : Int64)), .second, .unset, .unset]) rfl k) ?_
    show Go _ _ _ _ _ _ _ (T3.setTop (mkF m 22 #[.val (.int p0), .val (.int p1), .val (.int p2), .val (.int p3), .val (.int p4), .val (.int x1), .val (.ref b3), .val (.long (0 : Int64)), .second, .unset, .unset] []))
    refine gob (fun _ k => XS.goto X3.here hx rfl (pc0 := 22) (pc' := 146) rfl (hb hby at_22) (by decide) (by decide) k) ?_
    show Go _ _ _ _ _ _ _ (T3.setTop (mkF m 146 #[.val (.int p0), .val (.int p1), .val (.int p2), .val (.int p3), .val (.int p4), .val (.int x1), .val (.ref b3), .val (.long (0 : Int64)), .second, .unset, .unset] []))
    refine gob (fun _ k => XS.iload X3.here hx rfl (hb hby at_146) rfl k) ?_
    show Go _ _ _ _ _ _ _ (T3.setTop (mkF m 148 #[.val (.int p0), .val (.int p1), .val (.int p2), .val (.int p3), .val (.int p4), .val (.int x1), .val (.ref b3), .val (.long (0 : Int64)), .second, .unset, .unset] [(.int x1)]))
    refine gob (fun _ k => XS.iconst X3.here hx rfl (hb hby at_148) k) ?_
    show Go _ _ _ _ _ _ _ (T3.setTop (mkF m 149 #[.val (.int p0), .val (.int p1), .val (.int p2), .val (.int p3), .val (.int p4), .val (.int x1), .val (.ref b3), .val (.long (0 : Int64)), .second, .unset, .unset] [(.int (1 : Int32)), (.int x1)]))
    refine gob (fun _ k => XS.iadd X3.here hx rfl (hb hby at_149) rfl k) ?_
    show Go _ _ _ _ _ _ _ (T3.setTop (mkF m 150 #[.val (.int p0), .val (.int p1), .val (.int p2), .val (.int p3), .val (.int p4), .val (.int x1), .val (.ref b3), .val (.long (0 : Int64)), .second, .unset, .unset] [(.int (x1 + (1 : Int32)))]))
    have ha7 : 0 ≤ (x1 + (1 : Int32)).toInt ∧ (x1 + (1 : Int32)).toInt ≤ 5 := (la_0_150_8 p4 x1 hx1 hc11_2)
    obtain ⟨T6, h6, k6, X6, e6, E6, A6, st6⟩ := newP X3 hx hZ (hw _ (List.mem_of_getElem? (i := 1) rfl)) e3 (g := (mkF m 150 #[.val (.int p0), .val (.int p1), .val (.int p2), .val (.int p3), .val (.int p4), .val (.int x1), .val (.ref b3), .val (.long (0 : Int64)), .second, .unset, .unset] [(.int (x1 + (1 : Int32)))])) rfl (hb hby at_150) rfl (own_nn ha7.1) (cap := 5) (own_cap ha7.1 ha7.2) (by decide) (by decide) (by decide)
    obtain ⟨b6, g6⟩ : ∃ z, z = h3.size := ⟨_, rfl⟩
    rw [← g6] at A6 st6
    have n9 : b3 ≠ b6 := Nat.ne_of_lt (Nat.lt_of_lt_of_le V3.lt (Nat.le_of_eq g6.symm))
    have g10 : n0 ≤ b6 := Nat.le_trans z5 (Nat.le_of_eq g6.symm)
    have z11 : n0 ≤ h6.size := Nat.le_trans z5 E6.1
    have V6 : Arv Z h6 b6 k6 .int (x1 + (1 : Int32)) [] (.int (0 : Int32)) := Arv.new A6 (own_nn ha7.1)
    refine gob st6 ?_
    show Go _ _ _ _ _ _ _ (T6.setTop (mkF m 152 #[.val (.int p0), .val (.int p1), .val (.int p2), .val (.int p3), .val (.int p4), .val (.int x1), .val (.ref b3), .val (.long (0 : Int64)), .second, .unset, .unset] [(.ref b6)]))
    refine gob (fun _ k => XS.astore X6.here hx rfl (hb hby at_152) rfl rfl (l' := #[.val (.int p0), .val (.int p1), .val (.int p2), .val (.int p3), .val (.int p4), .val (.int x1), .val (.ref b3), .val (.long (0 : Int64)), .second, .val (.ref b6), .unset]) rfl k) ?_
    show Go _ _ _ _ _ _ _ (T6.setTop (mkF m 154 #[.val (.int p0), .val (.int p1), .val (.int p2), .val (.int p3), .val (.int p4), .val (.int x1), .val (.ref b3), .val (.long (0 : Int64)), .second, .val (.ref b6), .unset] []))
    obtain ⟨T12, h12, X12, e12, E12, A12, D12, -, st12⟩ := newO X6 hx hZ hown (hw _ (List.mem_of_getElem? (i := 2) rfl)) (hw _ (List.mem_of_getElem? (i := 3) rfl)) (hw _ (List.mem_of_getElem? (i := 4) rfl)) e6 (g := (mkF m 154 #[.val (.int p0), .val (.int p1), .val (.int p2), .val (.int p3), .val (.int p4), .val (.int x1), .val (.ref b3), .val (.long (0 : Int64)), .second, .val (.ref b6), .unset] [])) rfl (hb hby at_154) (by decide) (by decide)
    obtain ⟨b12, g12⟩ : ∃ z, z = h6.size := ⟨_, rfl⟩
    rw [← g12] at A12 D12 st12
    have c13 := (V3.ext E6)
    have n14 : b3 ≠ b12 := Nat.ne_of_lt (Nat.lt_of_lt_of_le c13.lt (Nat.le_of_eq g12.symm))
    have n15 : b6 ≠ b12 := Nat.ne_of_lt (Nat.lt_of_lt_of_le V6.lt (Nat.le_of_eq g12.symm))
    have g16 : n0 ≤ b12 := Nat.le_trans z11 (Nat.le_of_eq g12.symm)
    have z17 : n0 ≤ h12.size := Nat.le_trans z11 E12.1
    have F12_start : Fld Z h12 b12 "com/example/fenda/fenda/linalg/Graph" "start" "[I" .null := D12 (Or.inr (hw _ (List.mem_of_getElem? (i := 12) rfl))) (ty := (.array .int)) (by decide)
    have F12_adjacent : Fld Z h12 b12 "com/example/fenda/fenda/linalg/Graph" "adjacent" "[I" .null := D12 (Or.inr (hw _ (List.mem_of_getElem? (i := 14) rfl))) (ty := (.array .int)) (by decide)
    have F12_edgeWeights : Fld Z h12 b12 "com/example/fenda/fenda/linalg/Graph" "edgeWeights" "[I" .null := D12 (Or.inr (hw _ (List.mem_of_getElem? (i := 16) rfl))) (ty := (.array .int)) (by decide)
    have F12_weights : Fld Z h12 b12 "com/example/fenda/fenda/linalg/Graph" "weights" "[I" .null := D12 (Or.inr (hw _ (List.mem_of_getElem? (i := 18) rfl))) (ty := (.array .int)) (by decide)
    refine gob st12 ?_
    show Go _ _ _ _ _ _ _ (T12.setTop (mkF m 157 #[.val (.int p0), .val (.int p1), .val (.int p2), .val (.int p3), .val (.int p4), .val (.int x1), .val (.ref b3), .val (.long (0 : Int64)), .second, .val (.ref b6), .unset] [(.ref b12)]))
    refine gob (fun _ k => XS.dup X12.here hx rfl (hb hby at_157) rfl rfl k) ?_
    show Go _ _ _ _ _ _ _ (T12.setTop (mkF m 158 #[.val (.int p0), .val (.int p1), .val (.int p2), .val (.int p3), .val (.int p4), .val (.int x1), .val (.ref b3), .val (.long (0 : Int64)), .second, .val (.ref b6), .unset] [(.ref b12), (.ref b12)]))
    refine gob (fun _ k => XS.aload X12.here hx rfl (hb hby at_158) rfl rfl k) ?_
    show Go _ _ _ _ _ _ _ (T12.setTop (mkF m 160 #[.val (.int p0), .val (.int p1), .val (.int p2), .val (.int p3), .val (.int p4), .val (.int x1), .val (.ref b3), .val (.long (0 : Int64)), .second, .val (.ref b6), .unset] [(.ref b6), (.ref b12), (.ref b12)]))
    refine gob (fun _ k => XS.iconst X12.here hx rfl (hb hby at_160) k) ?_
    show Go _ _ _ _ _ _ _ (T12.setTop (mkF m 161 #[.val (.int p0), .val (.int p1), .val (.int p2), .val (.int p3), .val (.int p4), .val (.int x1), .val (.ref b3), .val (.long (0 : Int64)), .second, .val (.ref b6), .unset] [(.int (0 : Int32)), (.ref b6), (.ref b12), (.ref b12)]))
    obtain ⟨T18, h18, k18, X18, e18, E18, A18, st18⟩ := newP X12 hx hZ (hw _ (List.mem_of_getElem? (i := 1) rfl)) e12 (g := (mkF m 161 #[.val (.int p0), .val (.int p1), .val (.int p2), .val (.int p3), .val (.int p4), .val (.int x1), .val (.ref b3), .val (.long (0 : Int64)), .second, .val (.ref b6), .unset] [(.int (0 : Int32)), (.ref b6), (.ref b12), (.ref b12)])) rfl (hb hby at_161) rfl (by decide) (cap := 0) (by decide) (by decide) (by decide) (by decide)
    obtain ⟨b18, g18⟩ : ∃ z, z = h12.size := ⟨_, rfl⟩
    rw [← g18] at A18 st18
    have c19 := (c13.ext E12)
    have n20 : b3 ≠ b18 := Nat.ne_of_lt (Nat.lt_of_lt_of_le c19.lt (Nat.le_of_eq g18.symm))
    have c21 := (V6.ext E12)
    have n22 : b6 ≠ b18 := Nat.ne_of_lt (Nat.lt_of_lt_of_le c21.lt (Nat.le_of_eq g18.symm))
    have n23 : b12 ≠ b18 := Nat.ne_of_lt (Nat.lt_of_lt_of_le A12.lt (Nat.le_of_eq g18.symm))
    have g24 : n0 ≤ b18 := Nat.le_trans z17 (Nat.le_of_eq g18.symm)
    have z25 : n0 ≤ h18.size := Nat.le_trans z17 E18.1
    have V18 : Arv Z h18 b18 k18 .int (0 : Int32) [] (.int (0 : Int32)) := Arv.new A18 (by decide)
    refine gob st18 ?_
    show Go _ _ _ _ _ _ _ (T18.setTop (mkF m 163 #[.val (.int p0), .val (.int p1), .val (.int p2), .val (.int p3), .val (.int p4), .val (.int x1), .val (.ref b3), .val (.long (0 : Int64)), .second, .val (.ref b6), .unset] [(.ref b18), (.ref b6), (.ref b12), (.ref b12)]))
    refine gob (fun _ k => XS.iconst X18.here hx rfl (hb hby at_163) k) ?_
    show Go _ _ _ _ _ _ _ (T18.setTop (mkF m 164 #[.val (.int p0), .val (.int p1), .val (.int p2), .val (.int p3), .val (.int p4), .val (.int x1), .val (.ref b3), .val (.long (0 : Int64)), .second, .val (.ref b6), .unset] [(.int (0 : Int32)), (.ref b18), (.ref b6), (.ref b12), (.ref b12)]))
    obtain ⟨T26, h26, k26, X26, e26, E26, A26, st26⟩ := newP X18 hx hZ (hw _ (List.mem_of_getElem? (i := 1) rfl)) e18 (g := (mkF m 164 #[.val (.int p0), .val (.int p1), .val (.int p2), .val (.int p3), .val (.int p4), .val (.int x1), .val (.ref b3), .val (.long (0 : Int64)), .second, .val (.ref b6), .unset] [(.int (0 : Int32)), (.ref b18), (.ref b6), (.ref b12), (.ref b12)])) rfl (hb hby at_164) rfl (by decide) (cap := 0) (by decide) (by decide) (by decide) (by decide)
    obtain ⟨b26, g26⟩ : ∃ z, z = h18.size := ⟨_, rfl⟩
    rw [← g26] at A26 st26
    have c27 := (c19.ext E18)
    have n28 : b3 ≠ b26 := Nat.ne_of_lt (Nat.lt_of_lt_of_le c27.lt (Nat.le_of_eq g26.symm))
    have c29 := (c21.ext E18)
    have n30 : b6 ≠ b26 := Nat.ne_of_lt (Nat.lt_of_lt_of_le c29.lt (Nat.le_of_eq g26.symm))
    have c31 := (A12.ext E18)
    have n32 : b12 ≠ b26 := Nat.ne_of_lt (Nat.lt_of_lt_of_le c31.lt (Nat.le_of_eq g26.symm))
    have n33 : b18 ≠ b26 := Nat.ne_of_lt (Nat.lt_of_lt_of_le V18.lt (Nat.le_of_eq g26.symm))
    have g34 : n0 ≤ b26 := Nat.le_trans z25 (Nat.le_of_eq g26.symm)
    have z35 : n0 ≤ h26.size := Nat.le_trans z25 E26.1
    have V26 : Arv Z h26 b26 k26 .int (0 : Int32) [] (.int (0 : Int32)) := Arv.new A26 (by decide)
    refine gob st26 ?_
    show Go _ _ _ _ _ _ _ (T26.setTop (mkF m 166 #[.val (.int p0), .val (.int p1), .val (.int p2), .val (.int p3), .val (.int p4), .val (.int x1), .val (.ref b3), .val (.long (0 : Int64)), .second, .val (.ref b6), .unset] [(.ref b26), (.ref b18), (.ref b6), (.ref b12), (.ref b12)]))
    refine gob (fun _ k => XS.aload X26.here hx rfl (hb hby at_166) rfl rfl k) ?_
    show Go _ _ _ _ _ _ _ (T26.setTop (mkF m 168 #[.val (.int p0), .val (.int p1), .val (.int p2), .val (.int p3), .val (.int p4), .val (.int x1), .val (.ref b3), .val (.long (0 : Int64)), .second, .val (.ref b6), .unset] [(.ref b3), (.ref b26), (.ref b18), (.ref b6), (.ref b12), (.ref b12)]))
    have c37 := (c31.ext E26)
    have c38 := ((F12_start.ext E18).ext E26)
    have c39 := ((F12_adjacent.ext E18).ext E26)
    have c40 := ((F12_edgeWeights.ext E18).ext E26)
    have c41 := ((F12_weights.ext E18).ext E26)
    obtain ⟨_, _, ⟨T36, L36, k36, n36⟩, -, X36, ⟨Lc36, hQ36, l36, y36, z36⟩, st36⟩ := X26.specialBack hx (y := (⟨"com/example/fenda/fenda/linalg/Graph", "<init>", "([I[I[I[I)V"⟩ : MethodName)) rfl hown (mvT hZ (hw _ (List.mem_of_getElem? (i := 5) rfl))) (mvT hZ (hw _ (List.mem_of_getElem? (i := 6) rfl))) (mvT hZ (hw _ (List.mem_of_getElem? (i := 7) rfl))) (by decide) (backOf (W := 1) (rm1 l Z a0 hw [] b12 b6 b18 b26 b3 h26 n0 z35 c37 c38 g16 c39 c40 c41) hZ (hw _ (List.mem_of_getElem? (i := 7) rfl)) (hw _ (List.mem_of_getElem? (i := 4) rfl)) (by decide) (by decide)) (g := (mkF m 168 #[.val (.int p0), .val (.int p1), .val (.int p2), .val (.int p3), .val (.int p4), .val (.int x1), .val (.ref b3), .val (.long (0 : Int64)), .second, .val (.ref b6), .unset] [(.ref b3), (.ref b26), (.ref b18), (.ref b6), (.ref b12), (.ref b12)])) rfl (by rw [hml]; rfl) (Steps.refl _) (a := b12) (argsL := [(.ref b6), (.ref b18), (.ref b26), (.ref b3)]) (rest := [(.ref b12)]) (lenOf pd_0 rfl) rfl (by show 2 * 0 + _ ≤ _; exact Nat.le_of_eq rfl) (hb hby at_168) (fun _ _ => ⟨rfl, e26, (by decide : 5 + 0 ≤ _), (by decide : 9 + 0 ≤ _)⟩)
    dsimp only [Pt.U, Pt.locs, Pt.cells, Pt.slots] at X36 l36 y36 z36 st36 hQ36
    subst l36 y36 z36
    obtain ⟨rfl, Nq36, K36, F42, F43, F44, F45⟩ := hQ36
    have N36 := Fr.app N0 Nq36
    have z46 : n0 ≤ T36.heap.size := Nat.le_trans z35 K36.1
    refine gob (fun _ k => st36.trans k) ?_
    show Go _ _ _ _ _ _ _ (T36.setTop (mkF m 171 #[.val (.int p0), .val (.int p1), .val (.int p2), .val (.int p3), .val (.int p4), .val (.int x1), .val (.ref b3), .val (.long (0 : Int64)), .second, .val (.ref b6), .unset] [(.ref b12)]))
    refine gob (fun _ k => XS.astore X36.here hx rfl (hb hby at_171) rfl rfl (l' := #[.val (.int p0), .val (.int p1), .val (.int p2), .val (.int p3), .val (.int p4), .val (.int x1), .val (.ref b3), .val (.long (0 : Int64)), .second, .val (.ref b6), .val (.ref b12)]) rfl k) ?_
    show Go _ _ _ _ _ _ _ (T36.setTop (mkF m 173 #[.val (.int p0), .val (.int p1), .val (.int p2), .val (.int p3), .val (.int p4), .val (.int x1), .val (.ref b3), .val (.long (0 : Int64)), .second, .val (.ref b6), .val (.ref b12)] []))
    refine gob (fun _ k => XS.aload X36.here hx rfl (hb hby at_173) rfl rfl k) ?_
    show Go _ _ _ _ _ _ _ (T36.setTop (mkF m 175 #[.val (.int p0), .val (.int p1), .val (.int p2), .val (.int p3), .val (.int p4), .val (.int x1), .val (.ref b3), .val (.long (0 : Int64)), .second, .val (.ref b6), .val (.ref b12)] [(.ref b12)]))
    have c48 := ((c27.ext E26).keep K36 (ninS n14 nin0))
    have c49 := (c37.keep K36)
    obtain ⟨cq47, kq47, q47a, q47b, q47c⟩ := isOf hZ (rfl : T36.heap = _) c49
    obtain ⟨_, _, ⟨T47, L47, k47, n47⟩, -, X47, ⟨Lc47, hQ47, l47, y47, z47⟩, st47⟩ := X36.virtualBack hx (y := (⟨"com/example/fenda/fenda/linalg/Graph", "totalWeight", "()J"⟩ : MethodName)) (z := (⟨"com/example/fenda/fenda/linalg/Graph", "totalWeight", "()J"⟩ : MethodName)) hown (mvT hZ (hw _ (List.mem_of_getElem? (i := 19) rfl))) (mvT hZ (hw _ (List.mem_of_getElem? (i := 20) rfl))) (notFace_of_selects (args := #[]) (mvT hZ (hw _ (List.mem_of_getElem? (i := 22) rfl)))) (mvT hZ (hw _ (List.mem_of_getElem? (i := 22) rfl))) (mvT hZ (hw _ (List.mem_of_getElem? (i := 21) rfl))) (by decide) (backOf (W := 0) (rm3_0 l Z a0 hw [] b12 b3 k3 T36.heap n0 z46 F45 c48) hZ (hw _ (List.mem_of_getElem? (i := 23) rfl)) (hw _ (List.mem_of_getElem? (i := 4) rfl)) (by decide) (by decide)) q47a q47c (g := (mkF m 175 #[.val (.int p0), .val (.int p1), .val (.int p2), .val (.int p3), .val (.int p4), .val (.int x1), .val (.ref b3), .val (.long (0 : Int64)), .second, .val (.ref b6), .val (.ref b12)] [(.ref b12)])) rfl (by rw [hml]; rfl) (Steps.refl _) (argsL := []) (rest := []) (lenOf pd_1 rfl) rfl (by show 2 * 0 + _ ≤ _; exact Nat.le_of_eq rfl) (hb hby at_175) (fun _ _ => ⟨rfl, (rfl : T36.heap = _), (by decide : 5 + 0 ≤ _), (by decide : 9 + 0 ≤ _)⟩)
    dsimp only [Pt.U, Pt.locs, Pt.cells, Pt.slots] at X47 l47 y47 z47 st47 hQ47
    subst l47 y47 z47
    obtain ⟨r47, rfl, hr47, Nq47, e47⟩ := hQ47
    have N47 := Fr.app N36 Nq47
    refine gob (fun _ k => st47.trans k) ?_
    show Go _ _ _ _ _ _ _ (T47.setTop (mkF m 178 #[.val (.int p0), .val (.int p1), .val (.int p2), .val (.int p3), .val (.int p4), .val (.int x1), .val (.ref b3), .val (.long (0 : Int64)), .second, .val (.ref b6), .val (.ref b12)] [(.long r47)]))
    refine gob (fun _ k => XS.lload X47.here hx rfl (hb hby at_178) rfl k) ?_
    show Go _ _ _ _ _ _ _ (T47.setTop (mkF m 180 #[.val (.int p0), .val (.int p1), .val (.int p2), .val (.int p3), .val (.int p4), .val (.int x1), .val (.ref b3), .val (.long (0 : Int64)), .second, .val (.ref b6), .val (.ref b12)] [(.long (0 : Int64)), (.long r47)]))
    refine gob (fun _ k => XS.lcmp X47.here hx rfl (hb hby at_180) rfl k) ?_
    show Go _ _ _ _ _ _ _ (T47.setTop (mkF m 181 #[.val (.int p0), .val (.int p1), .val (.int p2), .val (.int p3), .val (.int p4), .val (.int x1), .val (.ref b3), .val (.long (0 : Int64)), .second, .val (.ref b6), .val (.ref b12)] [(.int (lcmpW r47 (0 : Int64)))]))
    have hd51 : r47 = (0 : Int64) := ld_0_181_50 r47 hr47
    refine gob (fun _ k => XS.ifNo X47.here hx rfl (hb hby at_181) rfl ((if0 _ _).trans (teq ((lw_eq _ _).mpr hd51)).2) k) ?_
    show Go _ _ _ _ _ _ _ (T47.setTop (mkF m 184 #[.val (.int p0), .val (.int p1), .val (.int p2), .val (.int p3), .val (.int p4), .val (.int x1), .val (.ref b3), .val (.long (0 : Int64)), .second, .val (.ref b6), .val (.ref b12)] []))
    refine gob (fun _ k => XS.iconst X47.here hx rfl (hb hby at_184) k) ?_
    show Go _ _ _ _ _ _ _ (T47.setTop (mkF m 185 #[.val (.int p0), .val (.int p1), .val (.int p2), .val (.int p3), .val (.int p4), .val (.int x1), .val (.ref b3), .val (.long (0 : Int64)), .second, .val (.ref b6), .val (.ref b12)] [(.int (1 : Int32))]))
    refine gob (fun _ k => XS.goto X47.here hx rfl (pc0 := 185) (pc' := 189) rfl (hb hby at_185) (by decide) (by decide) k) ?_
    show Go _ _ _ _ _ _ _ (T47.setTop (mkF m 189 #[.val (.int p0), .val (.int p1), .val (.int p2), .val (.int p3), .val (.int p4), .val (.int x1), .val (.ref b3), .val (.long (0 : Int64)), .second, .val (.ref b6), .val (.ref b12)] [(.int (1 : Int32))]))
    refine goZ X47 hx hlk (t := .boolean) Bd.returns (by simp) (hb hby at_189) (z' := (1 : Int32)) rfl ?_ (by decide) (by decide)
    show Q0 Z p0 p1 p2 p3 p4 h0 n0 (some (.int (1 : Int32))) T47.heap _
    exact ⟨rfl, N47⟩
  · skip
    refine gob (fun _ k => XS.ifYes X0.here hx rfl (pc0 := 11) (pc' := 25) rfl (hb hby at_11) rfl ((if0 _ _).trans (feq hc11_2).2) (by decide) (by decide) k) ?_
    show Go _ _ _ _ _ _ _ (s₁.setTop (mkF m 25 #[.val (.int p0), .val (.int p1), .val (.int p2), .val (.int p3), .val (.int p4), .val (.int x1), .unset, .unset, .unset, .unset, .unset] []))
    refine gob (fun _ k => XS.iload X0.here hx rfl (hb hby at_25) rfl k) ?_
    show Go _ _ _ _ _ _ _ (s₁.setTop (mkF m 27 #[.val (.int p0), .val (.int p1), .val (.int p2), .val (.int p3), .val (.int p4), .val (.int x1), .unset, .unset, .unset, .unset, .unset] [(.int x1)]))
    refine gob (fun _ k => XS.iconst X0.here hx rfl (hb hby at_27) k) ?_
    show Go _ _ _ _ _ _ _ (s₁.setTop (mkF m 28 #[.val (.int p0), .val (.int p1), .val (.int p2), .val (.int p3), .val (.int p4), .val (.int x1), .unset, .unset, .unset, .unset, .unset] [(.int (1 : Int32)), (.int x1)]))
    by_cases hc28_52 : x1 = (1 : Int32)
    · skip
      refine gob (fun _ k => XS.icmpNo X0.here hx rfl (hb hby at_28) rfl (teq hc28_52).2 k) ?_
      show Go _ _ _ _ _ _ _ (s₁.setTop (mkF m 31 #[.val (.int p0), .val (.int p1), .val (.int p2), .val (.int p3), .val (.int p4), .val (.int x1), .unset, .unset, .unset, .unset, .unset] []))
      refine gob (fun _ k => XS.iconst X0.here hx rfl (hb hby at_31) k) ?_
      show Go _ _ _ _ _ _ _ (s₁.setTop (mkF m 32 #[.val (.int p0), .val (.int p1), .val (.int p2), .val (.int p3), .val (.int p4), .val (.int x1), .unset, .unset, .unset, .unset, .unset] [(.int (1 : Int32))]))
      obtain ⟨T53, h53, k53, X53, e53, E53, A53, st53⟩ := newP X0 hx hZ (hw _ (List.mem_of_getElem? (i := 1) rfl)) e0 (g := (mkF m 32 #[.val (.int p0), .val (.int p1), .val (.int p2), .val (.int p3), .val (.int p4), .val (.int x1), .unset, .unset, .unset, .unset, .unset] [(.int (1 : Int32))])) rfl (hb hby at_32) rfl (by decide) (cap := 1) (by decide) (by decide) (by decide) (by decide)
      obtain ⟨b53, g53⟩ : ∃ z, z = h0.size := ⟨_, rfl⟩
      rw [← g53] at A53 st53
      have g54 : n0 ≤ b53 := Nat.le_trans Z0 (Nat.le_of_eq g53.symm)
      have z55 : n0 ≤ h53.size := Nat.le_trans Z0 E53.1
      have V53 : Arv Z h53 b53 k53 .int (1 : Int32) [(.int (0 : Int32))] (.int (0 : Int32)) := (Arv.new A53 (by decide)).pad (pad_rep [] (.int (0 : Int32)) 1)
      refine gob st53 ?_
      show Go _ _ _ _ _ _ _ (T53.setTop (mkF m 34 #[.val (.int p0), .val (.int p1), .val (.int p2), .val (.int p3), .val (.int p4), .val (.int x1), .unset, .unset, .unset, .unset, .unset] [(.ref b53)]))
      refine gob (fun _ k => XS.dup X53.here hx rfl (hb hby at_34) rfl rfl k) ?_
      show Go _ _ _ _ _ _ _ (T53.setTop (mkF m 35 #[.val (.int p0), .val (.int p1), .val (.int p2), .val (.int p3), .val (.int p4), .val (.int x1), .unset, .unset, .unset, .unset, .unset] [(.ref b53), (.ref b53)]))
      refine gob (fun _ k => XS.iconst X53.here hx rfl (hb hby at_35) k) ?_
      show Go _ _ _ _ _ _ _ (T53.setTop (mkF m 36 #[.val (.int p0), .val (.int p1), .val (.int p2), .val (.int p3), .val (.int p4), .val (.int x1), .unset, .unset, .unset, .unset, .unset] [(.int (0 : Int32)), (.ref b53), (.ref b53)]))
      refine gob (fun _ k => XS.iloadN X53.here hx rfl (hb hby at_36) rfl k) ?_
      show Go _ _ _ _ _ _ _ (T53.setTop (mkF m 37 #[.val (.int p0), .val (.int p1), .val (.int p2), .val (.int p3), .val (.int p4), .val (.int x1), .unset, .unset, .unset, .unset, .unset] [(.int p0), (.int (0 : Int32)), (.ref b53), (.ref b53)]))
      obtain ⟨cl56, Ar56, q56, S56, N56, H56, G56⟩ := id V53
      have hin56 : ¬ ((0 : Int32) < 0 ∨ cl56.slots.size ≤ ((0 : Int32)).toNatClampNeg) := inb_of S56 ⟨by decide, by decide⟩
      obtain ⟨T57, h57, X57, e57, W57, st57⟩ := stI X53 hx hZ e53 Ar56 (j := (0 : Int32)) hin56 (g := (mkF m 37 #[.val (.int p0), .val (.int p1), .val (.int p2), .val (.int p3), .val (.int p4), .val (.int x1), .unset, .unset, .unset, .unset, .unset] [(.int p0), (.int (0 : Int32)), (.ref b53), (.ref b53)])) rfl rfl (hb hby at_37)
      refine gob st57 ?_
      have z58 : n0 ≤ h57.size := Nat.le_trans z55 (Keep.of_wr W57).1
      have N57 := Fr.snoc X57 N0 g54
      have V57 : Arv Z h57 b53 k53 .int (1 : Int32) [(.int p0)] (.int (0 : Int32)) := Arv.set Ar56 q56 S56 N56 H56 G56 rfl W57 0 rfl (Nat.le_of_ble_eq_true rfl)
      show Go _ _ _ _ _ _ _ (T57.setTop (mkF m 38 #[.val (.int p0), .val (.int p1), .val (.int p2), .val (.int p3), .val (.int p4), .val (.int x1), .unset, .unset, .unset, .unset, .unset] [(.ref b53)]))
      refine gob (fun _ k => XS.astore X57.here hx rfl (hb hby at_38) rfl rfl (l' := #[.val (.int p0), .val (.int p1), .val (.int p2), .val (.int p3), .val (.int p4), .val (.int x1), .val (.ref b53), .unset, .unset, .unset, .unset]) rfl k) ?_
      show Go _ _ _ _ _ _ _ (T57.setTop (mkF m 40 #[.val (.int p0), .val (.int p1), .val (.int p2), .val (.int p3), .val (.int p4), .val (.int x1), .val (.ref b53), .unset, .unset, .unset, .unset] []))
      refine gob (fun _ k => XS.iloadN X57.here hx rfl (hb hby at_40) rfl k) ?_
      show Go _ _ _ _ _ _ _ (T57.setTop (mkF m 41 #[.val (.int p0), .val (.int p1), .val (.int p2), .val (.int p3), .val (.int p4), .val (.int x1), .val (.ref b53), .unset, .unset, .unset, .unset] [(.int p0)]))
      refine gob (fun _ k => XS.i2l X57.here hx rfl (hb hby at_41) rfl k) ?_
      show Go _ _ _ _ _ _ _ (T57.setTop (mkF m 42 #[.val (.int p0), .val (.int p1), .val (.int p2), .val (.int p3), .val (.int p4), .val (.int x1), .val (.ref b53), .unset, .unset, .unset, .unset] [(.long (p0.toInt64))]))
      refine gob (fun _ k => XS.lstore X57.here hx rfl (hb hby at_42) rfl (l' := #[.val (.int p0), .val (.int p1), .val (.int p2), .val (.int p3), .val (.int p4), .val (.int x1), .val (.ref b53), .val (.long (p0.toInt64)), .second, .unset, .unset]) rfl k) ?_
      show Go _ _ _ _ _ _ _ (T57.setTop (mkF m 44 #[.val (.int p0), .val (.int p1), .val (.int p2), .val (.int p3), .val (.int p4), .val (.int x1), .val (.ref b53), .val (.long (p0.toInt64)), .second, .unset, .unset] []))
      generalize hx59 : (p0.toInt64) = x59
      show Go _ _ _ _ _ _ _ (T57.setTop (mkF m 44 #[.val (.int p0), .val (.int p1), .val (.int p2), .val (.int p3), .val (.int p4), .val (.int x1), .val (.ref b53), .val (.long x59), .second, .unset, .unset] []))
      refine gob (fun _ k => XS.goto X57.here hx rfl (pc0 := 44) (pc' := 146) rfl (hb hby at_44) (by decide) (by decide) k) ?_
      show Go _ _ _ _ _ _ _ (T57.setTop (mkF m 146 #[.val (.int p0), .val (.int p1), .val (.int p2), .val (.int p3), .val (.int p4), .val (.int x1), .val (.ref b53), .val (.long x59), .second, .unset, .unset] []))
      refine gob (fun _ k => XS.iload X57.here hx rfl (hb hby at_146) rfl k) ?_
      show Go _ _ _ _ _ _ _ (T57.setTop (mkF m 148 #[.val (.int p0), .val (.int p1), .val (.int p2), .val (.int p3), .val (.int p4), .val (.int x1), .val (.ref b53), .val (.long x59), .second, .unset, .unset] [(.int x1)]))
      refine gob (fun _ k => XS.iconst X57.here hx rfl (hb hby at_148) k) ?_
      show Go _ _ _ _ _ _ _ (T57.setTop (mkF m 149 #[.val (.int p0), .val (.int p1), .val (.int p2), .val (.int p3), .val (.int p4), .val (.int x1), .val (.ref b53), .val (.long x59), .second, .unset, .unset] [(.int (1 : Int32)), (.int x1)]))
      refine gob (fun _ k => XS.iadd X57.here hx rfl (hb hby at_149) rfl k) ?_
      show Go _ _ _ _ _ _ _ (T57.setTop (mkF m 150 #[.val (.int p0), .val (.int p1), .val (.int p2), .val (.int p3), .val (.int p4), .val (.int x1), .val (.ref b53), .val (.long x59), .second, .unset, .unset] [(.int (x1 + (1 : Int32)))]))
      have ha61 : 0 ≤ (x1 + (1 : Int32)).toInt ∧ (x1 + (1 : Int32)).toInt ≤ 5 := (la_0_150_62 p4 x1 hx1 hc11_2 hc28_52)
      obtain ⟨T60, h60, k60, X60, e60, E60, A60, st60⟩ := newP X57 hx hZ (hw _ (List.mem_of_getElem? (i := 1) rfl)) e57 (g := (mkF m 150 #[.val (.int p0), .val (.int p1), .val (.int p2), .val (.int p3), .val (.int p4), .val (.int x1), .val (.ref b53), .val (.long x59), .second, .unset, .unset] [(.int (x1 + (1 : Int32)))])) rfl (hb hby at_150) rfl (own_nn ha61.1) (cap := 5) (own_cap ha61.1 ha61.2) (by decide) (by decide) (by decide)
      obtain ⟨b60, g60⟩ : ∃ z, z = h57.size := ⟨_, rfl⟩
      rw [← g60] at A60 st60
      have n63 : b53 ≠ b60 := Nat.ne_of_lt (Nat.lt_of_lt_of_le V57.lt (Nat.le_of_eq g60.symm))
      have g64 : n0 ≤ b60 := Nat.le_trans z58 (Nat.le_of_eq g60.symm)
      have z65 : n0 ≤ h60.size := Nat.le_trans z58 E60.1
      have V60 : Arv Z h60 b60 k60 .int (x1 + (1 : Int32)) [] (.int (0 : Int32)) := Arv.new A60 (own_nn ha61.1)
      refine gob st60 ?_
      show Go _ _ _ _ _ _ _ (T60.setTop (mkF m 152 #[.val (.int p0), .val (.int p1), .val (.int p2), .val (.int p3), .val (.int p4), .val (.int x1), .val (.ref b53), .val (.long x59), .second, .unset, .unset] [(.ref b60)]))
      refine gob (fun _ k => XS.astore X60.here hx rfl (hb hby at_152) rfl rfl (l' := #[.val (.int p0), .val (.int p1), .val (.int p2), .val (.int p3), .val (.int p4), .val (.int x1), .val (.ref b53), .val (.long x59), .second, .val (.ref b60), .unset]) rfl k) ?_
      show Go _ _ _ _ _ _ _ (T60.setTop (mkF m 154 #[.val (.int p0), .val (.int p1), .val (.int p2), .val (.int p3), .val (.int p4), .val (.int x1), .val (.ref b53), .val (.long x59), .second, .val (.ref b60), .unset] []))
      obtain ⟨T66, h66, X66, e66, E66, A66, D66, -, st66⟩ := newO X60 hx hZ hown (hw _ (List.mem_of_getElem? (i := 2) rfl)) (hw _ (List.mem_of_getElem? (i := 3) rfl)) (hw _ (List.mem_of_getElem? (i := 4) rfl)) e60 (g := (mkF m 154 #[.val (.int p0), .val (.int p1), .val (.int p2), .val (.int p3), .val (.int p4), .val (.int x1), .val (.ref b53), .val (.long x59), .second, .val (.ref b60), .unset] [])) rfl (hb hby at_154) (by decide) (by decide)
      obtain ⟨b66, g66⟩ : ∃ z, z = h60.size := ⟨_, rfl⟩
      rw [← g66] at A66 D66 st66
      have c67 := (V57.ext E60)
      have n68 : b53 ≠ b66 := Nat.ne_of_lt (Nat.lt_of_lt_of_le c67.lt (Nat.le_of_eq g66.symm))
      have n69 : b60 ≠ b66 := Nat.ne_of_lt (Nat.lt_of_lt_of_le V60.lt (Nat.le_of_eq g66.symm))
      have g70 : n0 ≤ b66 := Nat.le_trans z65 (Nat.le_of_eq g66.symm)
      have z71 : n0 ≤ h66.size := Nat.le_trans z65 E66.1
      have F66_start : Fld Z h66 b66 "com/example/fenda/fenda/linalg/Graph" "start" "[I" .null := D66 (Or.inr (hw _ (List.mem_of_getElem? (i := 12) rfl))) (ty := (.array .int)) (by decide)
      have F66_adjacent : Fld Z h66 b66 "com/example/fenda/fenda/linalg/Graph" "adjacent" "[I" .null := D66 (Or.inr (hw _ (List.mem_of_getElem? (i := 14) rfl))) (ty := (.array .int)) (by decide)
      have F66_edgeWeights : Fld Z h66 b66 "com/example/fenda/fenda/linalg/Graph" "edgeWeights" "[I" .null := D66 (Or.inr (hw _ (List.mem_of_getElem? (i := 16) rfl))) (ty := (.array .int)) (by decide)
      have F66_weights : Fld Z h66 b66 "com/example/fenda/fenda/linalg/Graph" "weights" "[I" .null := D66 (Or.inr (hw _ (List.mem_of_getElem? (i := 18) rfl))) (ty := (.array .int)) (by decide)
      refine gob st66 ?_
      show Go _ _ _ _ _ _ _ (T66.setTop (mkF m 157 #[.val (.int p0), .val (.int p1), .val (.int p2), .val (.int p3), .val (.int p4), .val (.int x1), .val (.ref b53), .val (.long x59), .second, .val (.ref b60), .unset] [(.ref b66)]))
      refine gob (fun _ k => XS.dup X66.here hx rfl (hb hby at_157) rfl rfl k) ?_
      show Go _ _ _ _ _ _ _ (T66.setTop (mkF m 158 #[.val (.int p0), .val (.int p1), .val (.int p2), .val (.int p3), .val (.int p4), .val (.int x1), .val (.ref b53), .val (.long x59), .second, .val (.ref b60), .unset] [(.ref b66), (.ref b66)]))
      refine gob (fun _ k => XS.aload X66.here hx rfl (hb hby at_158) rfl rfl k) ?_
      show Go _ _ _ _ _ _ _ (T66.setTop (mkF m 160 #[.val (.int p0), .val (.int p1), .val (.int p2), .val (.int p3), .val (.int p4), .val (.int x1), .val (.ref b53), .val (.long x59), .second, .val (.ref b60), .unset] [(.ref b60), (.ref b66), (.ref b66)]))
      refine gob (fun _ k => XS.iconst X66.here hx rfl (hb hby at_160) k) ?_
      show Go _ _ _ _ _ _ _ (T66.setTop (mkF m 161 #[.val (.int p0), .val (.int p1), .val (.int p2), .val (.int p3), .val (.int p4), .val (.int x1), .val (.ref b53), .val (.long x59), .second, .val (.ref b60), .unset] [(.int (0 : Int32)), (.ref b60), (.ref b66), (.ref b66)]))
      obtain ⟨T72, h72, k72, X72, e72, E72, A72, st72⟩ := newP X66 hx hZ (hw _ (List.mem_of_getElem? (i := 1) rfl)) e66 (g := (mkF m 161 #[.val (.int p0), .val (.int p1), .val (.int p2), .val (.int p3), .val (.int p4), .val (.int x1), .val (.ref b53), .val (.long x59), .second, .val (.ref b60), .unset] [(.int (0 : Int32)), (.ref b60), (.ref b66), (.ref b66)])) rfl (hb hby at_161) rfl (by decide) (cap := 0) (by decide) (by decide) (by decide) (by decide)
      obtain ⟨b72, g72⟩ : ∃ z, z = h66.size := ⟨_, rfl⟩
      rw [← g72] at A72 st72
      have c73 := (c67.ext E66)
      have n74 : b53 ≠ b72 := Nat.ne_of_lt (Nat.lt_of_lt_of_le c73.lt (Nat.le_of_eq g72.symm))
      have c75 := (V60.ext E66)
      have n76 : b60 ≠ b72 := Nat.ne_of_lt (Nat.lt_of_lt_of_le c75.lt (Nat.le_of_eq g72.symm))
      have n77 : b66 ≠ b72 := Nat.ne_of_lt (Nat.lt_of_lt_of_le A66.lt (Nat.le_of_eq g72.symm))
      have g78 : n0 ≤ b72 := Nat.le_trans z71 (Nat.le_of_eq g72.symm)
      have z79 : n0 ≤ h72.size := Nat.le_trans z71 E72.1
      have V72 : Arv Z h72 b72 k72 .int (0 : Int32) [] (.int (0 : Int32)) := Arv.new A72 (by decide)
      refine gob st72 ?_
      show Go _ _ _ _ _ _ _ (T72.setTop (mkF m 163 #[.val (.int p0), .val (.int p1), .val (.int p2), .val (.int p3), .val (.int p4), .val (.int x1), .val (.ref b53), .val (.long x59), .second, .val (.ref b60), .unset] [(.ref b72), (.ref b60), (.ref b66), (.ref b66)]))
      refine gob (fun _ k => XS.iconst X72.here hx rfl (hb hby at_163) k) ?_
      show Go _ _ _ _ _ _ _ (T72.setTop (mkF m 164 #[.val (.int p0), .val (.int p1), .val (.int p2), .val (.int p3), .val (.int p4), .val (.int x1), .val (.ref b53), .val (.long x59), .second, .val (.ref b60), .unset] [(.int (0 : Int32)), (.ref b72), (.ref b60), (.ref b66), (.ref b66)]))
      obtain ⟨T80, h80, k80, X80, e80, E80, A80, st80⟩ := newP X72 hx hZ (hw _ (List.mem_of_getElem? (i := 1) rfl)) e72 (g := (mkF m 164 #[.val (.int p0), .val (.int p1), .val (.int p2), .val (.int p3), .val (.int p4), .val (.int x1), .val (.ref b53), .val (.long x59), .second, .val (.ref b60), .unset] [(.int (0 : Int32)), (.ref b72), (.ref b60), (.ref b66), (.ref b66)])) rfl (hb hby at_164) rfl (by decide) (cap := 0) (by decide) (by decide) (by decide) (by decide)
      obtain ⟨b80, g80⟩ : ∃ z, z = h72.size := ⟨_, rfl⟩
      rw [← g80] at A80 st80
      have c81 := (c73.ext E72)
      have n82 : b53 ≠ b80 := Nat.ne_of_lt (Nat.lt_of_lt_of_le c81.lt (Nat.le_of_eq g80.symm))
      have c83 := (c75.ext E72)
      have n84 : b60 ≠ b80 := Nat.ne_of_lt (Nat.lt_of_lt_of_le c83.lt (Nat.le_of_eq g80.symm))
      have c85 := (A66.ext E72)
      have n86 : b66 ≠ b80 := Nat.ne_of_lt (Nat.lt_of_lt_of_le c85.lt (Nat.le_of_eq g80.symm))
      have n87 : b72 ≠ b80 := Nat.ne_of_lt (Nat.lt_of_lt_of_le V72.lt (Nat.le_of_eq g80.symm))
      have g88 : n0 ≤ b80 := Nat.le_trans z79 (Nat.le_of_eq g80.symm)
      have z89 : n0 ≤ h80.size := Nat.le_trans z79 E80.1
      have V80 : Arv Z h80 b80 k80 .int (0 : Int32) [] (.int (0 : Int32)) := Arv.new A80 (by decide)
      refine gob st80 ?_
      show Go _ _ _ _ _ _ _ (T80.setTop (mkF m 166 #[.val (.int p0), .val (.int p1), .val (.int p2), .val (.int p3), .val (.int p4), .val (.int x1), .val (.ref b53), .val (.long x59), .second, .val (.ref b60), .unset] [(.ref b80), (.ref b72), (.ref b60), (.ref b66), (.ref b66)]))
      refine gob (fun _ k => XS.aload X80.here hx rfl (hb hby at_166) rfl rfl k) ?_
      show Go _ _ _ _ _ _ _ (T80.setTop (mkF m 168 #[.val (.int p0), .val (.int p1), .val (.int p2), .val (.int p3), .val (.int p4), .val (.int x1), .val (.ref b53), .val (.long x59), .second, .val (.ref b60), .unset] [(.ref b53), (.ref b80), (.ref b72), (.ref b60), (.ref b66), (.ref b66)]))
      have c91 := (c85.ext E80)
      have c92 := ((F66_start.ext E72).ext E80)
      have c93 := ((F66_adjacent.ext E72).ext E80)
      have c94 := ((F66_edgeWeights.ext E72).ext E80)
      have c95 := ((F66_weights.ext E72).ext E80)
      obtain ⟨_, _, ⟨T90, L90, k90, n90⟩, -, X90, ⟨Lc90, hQ90, l90, y90, z90⟩, st90⟩ := X80.specialBack hx (y := (⟨"com/example/fenda/fenda/linalg/Graph", "<init>", "([I[I[I[I)V"⟩ : MethodName)) rfl hown (mvT hZ (hw _ (List.mem_of_getElem? (i := 5) rfl))) (mvT hZ (hw _ (List.mem_of_getElem? (i := 6) rfl))) (mvT hZ (hw _ (List.mem_of_getElem? (i := 7) rfl))) (by decide) (backOf (W := 1) (rm1 l Z a0 hw [] b66 b60 b72 b80 b53 h80 n0 z89 c91 c92 g70 c93 c94 c95) hZ (hw _ (List.mem_of_getElem? (i := 7) rfl)) (hw _ (List.mem_of_getElem? (i := 4) rfl)) (by decide) (by decide)) (g := (mkF m 168 #[.val (.int p0), .val (.int p1), .val (.int p2), .val (.int p3), .val (.int p4), .val (.int x1), .val (.ref b53), .val (.long x59), .second, .val (.ref b60), .unset] [(.ref b53), (.ref b80), (.ref b72), (.ref b60), (.ref b66), (.ref b66)])) rfl (by rw [hml]; rfl) (Steps.refl _) (a := b66) (argsL := [(.ref b60), (.ref b72), (.ref b80), (.ref b53)]) (rest := [(.ref b66)]) (lenOf pd_0 rfl) rfl (by show 2 * 0 + _ ≤ _; exact Nat.le_of_eq rfl) (hb hby at_168) (fun _ _ => ⟨rfl, e80, (by decide : 5 + 0 ≤ _), (by decide : 10 + 0 ≤ _)⟩)
      dsimp only [Pt.U, Pt.locs, Pt.cells, Pt.slots] at X90 l90 y90 z90 st90 hQ90
      subst l90 y90 z90
      obtain ⟨rfl, Nq90, K90, F96, F97, F98, F99⟩ := hQ90
      have N90 := Fr.app N57 Nq90
      have z100 : n0 ≤ T90.heap.size := Nat.le_trans z89 K90.1
      refine gob (fun _ k => st90.trans k) ?_
      show Go _ _ _ _ _ _ _ (T90.setTop (mkF m 171 #[.val (.int p0), .val (.int p1), .val (.int p2), .val (.int p3), .val (.int p4), .val (.int x1), .val (.ref b53), .val (.long x59), .second, .val (.ref b60), .unset] [(.ref b66)]))
      refine gob (fun _ k => XS.astore X90.here hx rfl (hb hby at_171) rfl rfl (l' := #[.val (.int p0), .val (.int p1), .val (.int p2), .val (.int p3), .val (.int p4), .val (.int x1), .val (.ref b53), .val (.long x59), .second, .val (.ref b60), .val (.ref b66)]) rfl k) ?_
      show Go _ _ _ _ _ _ _ (T90.setTop (mkF m 173 #[.val (.int p0), .val (.int p1), .val (.int p2), .val (.int p3), .val (.int p4), .val (.int x1), .val (.ref b53), .val (.long x59), .second, .val (.ref b60), .val (.ref b66)] []))
      refine gob (fun _ k => XS.aload X90.here hx rfl (hb hby at_173) rfl rfl k) ?_
      show Go _ _ _ _ _ _ _ (T90.setTop (mkF m 175 #[.val (.int p0), .val (.int p1), .val (.int p2), .val (.int p3), .val (.int p4), .val (.int x1), .val (.ref b53), .val (.long x59), .second, .val (.ref b60), .val (.ref b66)] [(.ref b66)]))
      have c102 := ((c81.ext E80).keep K90 (ninS n68 nin0))
      have c103 := (c91.keep K90)
      obtain ⟨cq101, kq101, q101a, q101b, q101c⟩ := isOf hZ (rfl : T90.heap = _) c103
      obtain ⟨_, _, ⟨T101, L101, k101, n101⟩, -, X101, ⟨Lc101, hQ101, l101, y101, z101⟩, st101⟩ := X90.virtualBack hx (y := (⟨"com/example/fenda/fenda/linalg/Graph", "totalWeight", "()J"⟩ : MethodName)) (z := (⟨"com/example/fenda/fenda/linalg/Graph", "totalWeight", "()J"⟩ : MethodName)) hown (mvT hZ (hw _ (List.mem_of_getElem? (i := 19) rfl))) (mvT hZ (hw _ (List.mem_of_getElem? (i := 20) rfl))) (notFace_of_selects (args := #[]) (mvT hZ (hw _ (List.mem_of_getElem? (i := 22) rfl)))) (mvT hZ (hw _ (List.mem_of_getElem? (i := 22) rfl))) (mvT hZ (hw _ (List.mem_of_getElem? (i := 21) rfl))) (by decide) (backOf (W := 0) (rm3_1 l Z a0 hw [] b66 b53 k53 p0 T90.heap n0 z100 F99 c102) hZ (hw _ (List.mem_of_getElem? (i := 23) rfl)) (hw _ (List.mem_of_getElem? (i := 4) rfl)) (by decide) (by decide)) q101a q101c (g := (mkF m 175 #[.val (.int p0), .val (.int p1), .val (.int p2), .val (.int p3), .val (.int p4), .val (.int x1), .val (.ref b53), .val (.long x59), .second, .val (.ref b60), .val (.ref b66)] [(.ref b66)])) rfl (by rw [hml]; rfl) (Steps.refl _) (argsL := []) (rest := []) (lenOf pd_1 rfl) rfl (by show 2 * 0 + _ ≤ _; exact Nat.le_of_eq rfl) (hb hby at_175) (fun _ _ => ⟨rfl, (rfl : T90.heap = _), (by decide : 5 + 0 ≤ _), (by decide : 10 + 0 ≤ _)⟩)
      dsimp only [Pt.U, Pt.locs, Pt.cells, Pt.slots] at X101 l101 y101 z101 st101 hQ101
      subst l101 y101 z101
      obtain ⟨r101, rfl, hr101, Nq101, e101⟩ := hQ101
      have N101 := Fr.app N90 Nq101
      refine gob (fun _ k => st101.trans k) ?_
      show Go _ _ _ _ _ _ _ (T101.setTop (mkF m 178 #[.val (.int p0), .val (.int p1), .val (.int p2), .val (.int p3), .val (.int p4), .val (.int x1), .val (.ref b53), .val (.long x59), .second, .val (.ref b60), .val (.ref b66)] [(.long r101)]))
      refine gob (fun _ k => XS.lload X101.here hx rfl (hb hby at_178) rfl k) ?_
      show Go _ _ _ _ _ _ _ (T101.setTop (mkF m 180 #[.val (.int p0), .val (.int p1), .val (.int p2), .val (.int p3), .val (.int p4), .val (.int x1), .val (.ref b53), .val (.long x59), .second, .val (.ref b60), .val (.ref b66)] [(.long x59), (.long r101)]))
      refine gob (fun _ k => XS.lcmp X101.here hx rfl (hb hby at_180) rfl k) ?_
      show Go _ _ _ _ _ _ _ (T101.setTop (mkF m 181 #[.val (.int p0), .val (.int p1), .val (.int p2), .val (.int p3), .val (.int p4), .val (.int x1), .val (.ref b53), .val (.long x59), .second, .val (.ref b60), .val (.ref b66)] [(.int (lcmpW r101 x59))]))
      have hd105 : r101 = x59 := ld_0_181_104 p0 x59 r101 hx59 hr101
      refine gob (fun _ k => XS.ifNo X101.here hx rfl (hb hby at_181) rfl ((if0 _ _).trans (teq ((lw_eq _ _).mpr hd105)).2) k) ?_
      show Go _ _ _ _ _ _ _ (T101.setTop (mkF m 184 #[.val (.int p0), .val (.int p1), .val (.int p2), .val (.int p3), .val (.int p4), .val (.int x1), .val (.ref b53), .val (.long x59), .second, .val (.ref b60), .val (.ref b66)] []))
      refine gob (fun _ k => XS.iconst X101.here hx rfl (hb hby at_184) k) ?_
      show Go _ _ _ _ _ _ _ (T101.setTop (mkF m 185 #[.val (.int p0), .val (.int p1), .val (.int p2), .val (.int p3), .val (.int p4), .val (.int x1), .val (.ref b53), .val (.long x59), .second, .val (.ref b60), .val (.ref b66)] [(.int (1 : Int32))]))
      refine gob (fun _ k => XS.goto X101.here hx rfl (pc0 := 185) (pc' := 189) rfl (hb hby at_185) (by decide) (by decide) k) ?_
      show Go _ _ _ _ _ _ _ (T101.setTop (mkF m 189 #[.val (.int p0), .val (.int p1), .val (.int p2), .val (.int p3), .val (.int p4), .val (.int x1), .val (.ref b53), .val (.long x59), .second, .val (.ref b60), .val (.ref b66)] [(.int (1 : Int32))]))
      refine goZ X101 hx hlk (t := .boolean) Bd.returns (by simp) (hb hby at_189) (z' := (1 : Int32)) rfl ?_ (by decide) (by decide)
      show Q0 Z p0 p1 p2 p3 p4 h0 n0 (some (.int (1 : Int32))) T101.heap _
      exact ⟨rfl, N101⟩
    · skip
      refine gob (fun _ k => XS.icmpYes X0.here hx rfl (pc0 := 28) (pc' := 47) rfl (hb hby at_28) rfl (feq hc28_52).2 (by decide) (by decide) k) ?_
      show Go _ _ _ _ _ _ _ (s₁.setTop (mkF m 47 #[.val (.int p0), .val (.int p1), .val (.int p2), .val (.int p3), .val (.int p4), .val (.int x1), .unset, .unset, .unset, .unset, .unset] []))
      refine gob (fun _ k => XS.iload X0.here hx rfl (hb hby at_47) rfl k) ?_
      show Go _ _ _ _ _ _ _ (s₁.setTop (mkF m 49 #[.val (.int p0), .val (.int p1), .val (.int p2), .val (.int p3), .val (.int p4), .val (.int x1), .unset, .unset, .unset, .unset, .unset] [(.int x1)]))
      refine gob (fun _ k => XS.iconst X0.here hx rfl (hb hby at_49) k) ?_
      show Go _ _ _ _ _ _ _ (s₁.setTop (mkF m 50 #[.val (.int p0), .val (.int p1), .val (.int p2), .val (.int p3), .val (.int p4), .val (.int x1), .unset, .unset, .unset, .unset, .unset] [(.int (2 : Int32)), (.int x1)]))
      by_cases hc50_106 : x1 = (2 : Int32)
      · skip
        refine gob (fun _ k => XS.icmpNo X0.here hx rfl (hb hby at_50) rfl (teq hc50_106).2 k) ?_
        show Go _ _ _ _ _ _ _ (s₁.setTop (mkF m 53 #[.val (.int p0), .val (.int p1), .val (.int p2), .val (.int p3), .val (.int p4), .val (.int x1), .unset, .unset, .unset, .unset, .unset] []))
        refine gob (fun _ k => XS.iconst X0.here hx rfl (hb hby at_53) k) ?_
        show Go _ _ _ _ _ _ _ (s₁.setTop (mkF m 54 #[.val (.int p0), .val (.int p1), .val (.int p2), .val (.int p3), .val (.int p4), .val (.int x1), .unset, .unset, .unset, .unset, .unset] [(.int (2 : Int32))]))
        obtain ⟨T107, h107, k107, X107, e107, E107, A107, st107⟩ := newP X0 hx hZ (hw _ (List.mem_of_getElem? (i := 1) rfl)) e0 (g := (mkF m 54 #[.val (.int p0), .val (.int p1), .val (.int p2), .val (.int p3), .val (.int p4), .val (.int x1), .unset, .unset, .unset, .unset, .unset] [(.int (2 : Int32))])) rfl (hb hby at_54) rfl (by decide) (cap := 2) (by decide) (by decide) (by decide) (by decide)
        obtain ⟨b107, g107⟩ : ∃ z, z = h0.size := ⟨_, rfl⟩
        rw [← g107] at A107 st107
        have g108 : n0 ≤ b107 := Nat.le_trans Z0 (Nat.le_of_eq g107.symm)
        have z109 : n0 ≤ h107.size := Nat.le_trans Z0 E107.1
        have V107 : Arv Z h107 b107 k107 .int (2 : Int32) [(.int (0 : Int32)), (.int (0 : Int32))] (.int (0 : Int32)) := (Arv.new A107 (by decide)).pad (pad_rep [] (.int (0 : Int32)) 2)
        refine gob st107 ?_
        show Go _ _ _ _ _ _ _ (T107.setTop (mkF m 56 #[.val (.int p0), .val (.int p1), .val (.int p2), .val (.int p3), .val (.int p4), .val (.int x1), .unset, .unset, .unset, .unset, .unset] [(.ref b107)]))
        refine gob (fun _ k => XS.dup X107.here hx rfl (hb hby at_56) rfl rfl k) ?_
        show Go _ _ _ _ _ _ _ (T107.setTop (mkF m 57 #[.val (.int p0), .val (.int p1), .val (.int p2), .val (.int p3), .val (.int p4), .val (.int x1), .unset, .unset, .unset, .unset, .unset] [(.ref b107), (.ref b107)]))
        refine gob (fun _ k => XS.iconst X107.here hx rfl (hb hby at_57) k) ?_
        show Go _ _ _ _ _ _ _ (T107.setTop (mkF m 58 #[.val (.int p0), .val (.int p1), .val (.int p2), .val (.int p3), .val (.int p4), .val (.int x1), .unset, .unset, .unset, .unset, .unset] [(.int (0 : Int32)), (.ref b107), (.ref b107)]))
        refine gob (fun _ k => XS.iloadN X107.here hx rfl (hb hby at_58) rfl k) ?_
        show Go _ _ _ _ _ _ _ (T107.setTop (mkF m 59 #[.val (.int p0), .val (.int p1), .val (.int p2), .val (.int p3), .val (.int p4), .val (.int x1), .unset, .unset, .unset, .unset, .unset] [(.int p0), (.int (0 : Int32)), (.ref b107), (.ref b107)]))
        obtain ⟨cl110, Ar110, q110, S110, N110, H110, G110⟩ := id V107
        have hin110 : ¬ ((0 : Int32) < 0 ∨ cl110.slots.size ≤ ((0 : Int32)).toNatClampNeg) := inb_of S110 ⟨by decide, by decide⟩
        obtain ⟨T111, h111, X111, e111, W111, st111⟩ := stI X107 hx hZ e107 Ar110 (j := (0 : Int32)) hin110 (g := (mkF m 59 #[.val (.int p0), .val (.int p1), .val (.int p2), .val (.int p3), .val (.int p4), .val (.int x1), .unset, .unset, .unset, .unset, .unset] [(.int p0), (.int (0 : Int32)), (.ref b107), (.ref b107)])) rfl rfl (hb hby at_59)
        refine gob st111 ?_
        have z112 : n0 ≤ h111.size := Nat.le_trans z109 (Keep.of_wr W111).1
        have N111 := Fr.snoc X111 N0 g108
        have V111 : Arv Z h111 b107 k107 .int (2 : Int32) [(.int p0), (.int (0 : Int32))] (.int (0 : Int32)) := Arv.set Ar110 q110 S110 N110 H110 G110 rfl W111 0 rfl (Nat.le_of_ble_eq_true rfl)
        show Go _ _ _ _ _ _ _ (T111.setTop (mkF m 60 #[.val (.int p0), .val (.int p1), .val (.int p2), .val (.int p3), .val (.int p4), .val (.int x1), .unset, .unset, .unset, .unset, .unset] [(.ref b107)]))
        refine gob (fun _ k => XS.dup X111.here hx rfl (hb hby at_60) rfl rfl k) ?_
        show Go _ _ _ _ _ _ _ (T111.setTop (mkF m 61 #[.val (.int p0), .val (.int p1), .val (.int p2), .val (.int p3), .val (.int p4), .val (.int x1), .unset, .unset, .unset, .unset, .unset] [(.ref b107), (.ref b107)]))
        refine gob (fun _ k => XS.iconst X111.here hx rfl (hb hby at_61) k) ?_
        show Go _ _ _ _ _ _ _ (T111.setTop (mkF m 62 #[.val (.int p0), .val (.int p1), .val (.int p2), .val (.int p3), .val (.int p4), .val (.int x1), .unset, .unset, .unset, .unset, .unset] [(.int (1 : Int32)), (.ref b107), (.ref b107)]))
        refine gob (fun _ k => XS.iloadN X111.here hx rfl (hb hby at_62) rfl k) ?_
        show Go _ _ _ _ _ _ _ (T111.setTop (mkF m 63 #[.val (.int p0), .val (.int p1), .val (.int p2), .val (.int p3), .val (.int p4), .val (.int x1), .unset, .unset, .unset, .unset, .unset] [(.int p1), (.int (1 : Int32)), (.ref b107), (.ref b107)]))
        obtain ⟨cl113, Ar113, q113, S113, N113, H113, G113⟩ := id V111
        have hin113 : ¬ ((1 : Int32) < 0 ∨ cl113.slots.size ≤ ((1 : Int32)).toNatClampNeg) := inb_of S113 ⟨by decide, by decide⟩
        obtain ⟨T114, h114, X114, e114, W114, st114⟩ := stI X111 hx hZ e111 Ar113 (j := (1 : Int32)) hin113 (g := (mkF m 63 #[.val (.int p0), .val (.int p1), .val (.int p2), .val (.int p3), .val (.int p4), .val (.int x1), .unset, .unset, .unset, .unset, .unset] [(.int p1), (.int (1 : Int32)), (.ref b107), (.ref b107)])) rfl rfl (hb hby at_63)
        refine gob st114 ?_
        have z115 : n0 ≤ h114.size := Nat.le_trans z112 (Keep.of_wr W114).1
        have N114 := Fr.snoc X114 N111 g108
        have V114 : Arv Z h114 b107 k107 .int (2 : Int32) [(.int p0), (.int p1)] (.int (0 : Int32)) := Arv.set Ar113 q113 S113 N113 H113 G113 rfl W114 1 rfl (Nat.le_of_ble_eq_true rfl)
        show Go _ _ _ _ _ _ _ (T114.setTop (mkF m 64 #[.val (.int p0), .val (.int p1), .val (.int p2), .val (.int p3), .val (.int p4), .val (.int x1), .unset, .unset, .unset, .unset, .unset] [(.ref b107)]))
        refine gob (fun _ k => XS.astore X114.here hx rfl (hb hby at_64) rfl rfl (l' := #[.val (.int p0), .val (.int p1), .val (.int p2), .val (.int p3), .val (.int p4), .val (.int x1), .val (.ref b107), .unset, .unset, .unset, .unset]) rfl k) ?_
        show Go _ _ _ _ _ _ _ (T114.setTop (mkF m 66 #[.val (.int p0), .val (.int p1), .val (.int p2), .val (.int p3), .val (.int p4), .val (.int x1), .val (.ref b107), .unset, .unset, .unset, .unset] []))
        refine gob (fun _ k => XS.iloadN X114.here hx rfl (hb hby at_66) rfl k) ?_
        show Go _ _ _ _ _ _ _ (T114.setTop (mkF m 67 #[.val (.int p0), .val (.int p1), .val (.int p2), .val (.int p3), .val (.int p4), .val (.int x1), .val (.ref b107), .unset, .unset, .unset, .unset] [(.int p0)]))
        refine gob (fun _ k => XS.i2l X114.here hx rfl (hb hby at_67) rfl k) ?_
        show Go _ _ _ _ _ _ _ (T114.setTop (mkF m 68 #[.val (.int p0), .val (.int p1), .val (.int p2), .val (.int p3), .val (.int p4), .val (.int x1), .val (.ref b107), .unset, .unset, .unset, .unset] [(.long (p0.toInt64))]))
        refine gob (fun _ k => XS.iloadN X114.here hx rfl (hb hby at_68) rfl k) ?_
        show Go _ _ _ _ _ _ _ (T114.setTop (mkF m 69 #[.val (.int p0), .val (.int p1), .val (.int p2), .val (.int p3), .val (.int p4), .val (.int x1), .val (.ref b107), .unset, .unset, .unset, .unset] [(.int p1), (.long (p0.toInt64))]))
        refine gob (fun _ k => XS.i2l X114.here hx rfl (hb hby at_69) rfl k) ?_
        show Go _ _ _ _ _ _ _ (T114.setTop (mkF m 70 #[.val (.int p0), .val (.int p1), .val (.int p2), .val (.int p3), .val (.int p4), .val (.int x1), .val (.ref b107), .unset, .unset, .unset, .unset] [(.long (p1.toInt64)), (.long (p0.toInt64))]))
        refine gob (fun _ k => XS.ladd X114.here hx rfl (hb hby at_70) rfl k) ?_
        show Go _ _ _ _ _ _ _ (T114.setTop (mkF m 71 #[.val (.int p0), .val (.int p1), .val (.int p2), .val (.int p3), .val (.int p4), .val (.int x1), .val (.ref b107), .unset, .unset, .unset, .unset] [(.long ((p0.toInt64) + (p1.toInt64)))]))
        refine gob (fun _ k => XS.lstore X114.here hx rfl (hb hby at_71) rfl (l' := #[.val (.int p0), .val (.int p1), .val (.int p2), .val (.int p3), .val (.int p4), .val (.int x1), .val (.ref b107), .val (.long ((p0.toInt64) + (p1.toInt64))), .second, .unset, .unset]) rfl k) ?_
        show Go _ _ _ _ _ _ _ (T114.setTop (mkF m 73 #[.val (.int p0), .val (.int p1), .val (.int p2), .val (.int p3), .val (.int p4), .val (.int x1), .val (.ref b107), .val (.long ((p0.toInt64) + (p1.toInt64))), .second, .unset, .unset] []))
        generalize hx116 : ((p0.toInt64) + (p1.toInt64)) = x116
        show Go _ _ _ _ _ _ _ (T114.setTop (mkF m 73 #[.val (.int p0), .val (.int p1), .val (.int p2), .val (.int p3), .val (.int p4), .val (.int x1), .val (.ref b107), .val (.long x116), .second, .unset, .unset] []))
        refine gob (fun _ k => XS.goto X114.here hx rfl (pc0 := 73) (pc' := 146) rfl (hb hby at_73) (by decide) (by decide) k) ?_
        show Go _ _ _ _ _ _ _ (T114.setTop (mkF m 146 #[.val (.int p0), .val (.int p1), .val (.int p2), .val (.int p3), .val (.int p4), .val (.int x1), .val (.ref b107), .val (.long x116), .second, .unset, .unset] []))
        refine gob (fun _ k => XS.iload X114.here hx rfl (hb hby at_146) rfl k) ?_
        show Go _ _ _ _ _ _ _ (T114.setTop (mkF m 148 #[.val (.int p0), .val (.int p1), .val (.int p2), .val (.int p3), .val (.int p4), .val (.int x1), .val (.ref b107), .val (.long x116), .second, .unset, .unset] [(.int x1)]))
        refine gob (fun _ k => XS.iconst X114.here hx rfl (hb hby at_148) k) ?_
        show Go _ _ _ _ _ _ _ (T114.setTop (mkF m 149 #[.val (.int p0), .val (.int p1), .val (.int p2), .val (.int p3), .val (.int p4), .val (.int x1), .val (.ref b107), .val (.long x116), .second, .unset, .unset] [(.int (1 : Int32)), (.int x1)]))
        refine gob (fun _ k => XS.iadd X114.here hx rfl (hb hby at_149) rfl k) ?_
        show Go _ _ _ _ _ _ _ (T114.setTop (mkF m 150 #[.val (.int p0), .val (.int p1), .val (.int p2), .val (.int p3), .val (.int p4), .val (.int x1), .val (.ref b107), .val (.long x116), .second, .unset, .unset] [(.int (x1 + (1 : Int32)))]))
        have ha118 : 0 ≤ (x1 + (1 : Int32)).toInt ∧ (x1 + (1 : Int32)).toInt ≤ 5 := (la_0_150_119 p4 x1 hx1 hc11_2 hc28_52 hc50_106)
        obtain ⟨T117, h117, k117, X117, e117, E117, A117, st117⟩ := newP X114 hx hZ (hw _ (List.mem_of_getElem? (i := 1) rfl)) e114 (g := (mkF m 150 #[.val (.int p0), .val (.int p1), .val (.int p2), .val (.int p3), .val (.int p4), .val (.int x1), .val (.ref b107), .val (.long x116), .second, .unset, .unset] [(.int (x1 + (1 : Int32)))])) rfl (hb hby at_150) rfl (own_nn ha118.1) (cap := 5) (own_cap ha118.1 ha118.2) (by decide) (by decide) (by decide)
        obtain ⟨b117, g117⟩ : ∃ z, z = h114.size := ⟨_, rfl⟩
        rw [← g117] at A117 st117
        have n120 : b107 ≠ b117 := Nat.ne_of_lt (Nat.lt_of_lt_of_le V114.lt (Nat.le_of_eq g117.symm))
        have g121 : n0 ≤ b117 := Nat.le_trans z115 (Nat.le_of_eq g117.symm)
        have z122 : n0 ≤ h117.size := Nat.le_trans z115 E117.1
        have V117 : Arv Z h117 b117 k117 .int (x1 + (1 : Int32)) [] (.int (0 : Int32)) := Arv.new A117 (own_nn ha118.1)
        refine gob st117 ?_
        show Go _ _ _ _ _ _ _ (T117.setTop (mkF m 152 #[.val (.int p0), .val (.int p1), .val (.int p2), .val (.int p3), .val (.int p4), .val (.int x1), .val (.ref b107), .val (.long x116), .second, .unset, .unset] [(.ref b117)]))
        refine gob (fun _ k => XS.astore X117.here hx rfl (hb hby at_152) rfl rfl (l' := #[.val (.int p0), .val (.int p1), .val (.int p2), .val (.int p3), .val (.int p4), .val (.int x1), .val (.ref b107), .val (.long x116), .second, .val (.ref b117), .unset]) rfl k) ?_
        show Go _ _ _ _ _ _ _ (T117.setTop (mkF m 154 #[.val (.int p0), .val (.int p1), .val (.int p2), .val (.int p3), .val (.int p4), .val (.int x1), .val (.ref b107), .val (.long x116), .second, .val (.ref b117), .unset] []))
        obtain ⟨T123, h123, X123, e123, E123, A123, D123, -, st123⟩ := newO X117 hx hZ hown (hw _ (List.mem_of_getElem? (i := 2) rfl)) (hw _ (List.mem_of_getElem? (i := 3) rfl)) (hw _ (List.mem_of_getElem? (i := 4) rfl)) e117 (g := (mkF m 154 #[.val (.int p0), .val (.int p1), .val (.int p2), .val (.int p3), .val (.int p4), .val (.int x1), .val (.ref b107), .val (.long x116), .second, .val (.ref b117), .unset] [])) rfl (hb hby at_154) (by decide) (by decide)
        obtain ⟨b123, g123⟩ : ∃ z, z = h117.size := ⟨_, rfl⟩
        rw [← g123] at A123 D123 st123
        have c124 := (V114.ext E117)
        have n125 : b107 ≠ b123 := Nat.ne_of_lt (Nat.lt_of_lt_of_le c124.lt (Nat.le_of_eq g123.symm))
        have n126 : b117 ≠ b123 := Nat.ne_of_lt (Nat.lt_of_lt_of_le V117.lt (Nat.le_of_eq g123.symm))
        have g127 : n0 ≤ b123 := Nat.le_trans z122 (Nat.le_of_eq g123.symm)
        have z128 : n0 ≤ h123.size := Nat.le_trans z122 E123.1
        have F123_start : Fld Z h123 b123 "com/example/fenda/fenda/linalg/Graph" "start" "[I" .null := D123 (Or.inr (hw _ (List.mem_of_getElem? (i := 12) rfl))) (ty := (.array .int)) (by decide)
        have F123_adjacent : Fld Z h123 b123 "com/example/fenda/fenda/linalg/Graph" "adjacent" "[I" .null := D123 (Or.inr (hw _ (List.mem_of_getElem? (i := 14) rfl))) (ty := (.array .int)) (by decide)
        have F123_edgeWeights : Fld Z h123 b123 "com/example/fenda/fenda/linalg/Graph" "edgeWeights" "[I" .null := D123 (Or.inr (hw _ (List.mem_of_getElem? (i := 16) rfl))) (ty := (.array .int)) (by decide)
        have F123_weights : Fld Z h123 b123 "com/example/fenda/fenda/linalg/Graph" "weights" "[I" .null := D123 (Or.inr (hw _ (List.mem_of_getElem? (i := 18) rfl))) (ty := (.array .int)) (by decide)
        refine gob st123 ?_
        show Go _ _ _ _ _ _ _ (T123.setTop (mkF m 157 #[.val (.int p0), .val (.int p1), .val (.int p2), .val (.int p3), .val (.int p4), .val (.int x1), .val (.ref b107), .val (.long x116), .second, .val (.ref b117), .unset] [(.ref b123)]))
        refine gob (fun _ k => XS.dup X123.here hx rfl (hb hby at_157) rfl rfl k) ?_
        show Go _ _ _ _ _ _ _ (T123.setTop (mkF m 158 #[.val (.int p0), .val (.int p1), .val (.int p2), .val (.int p3), .val (.int p4), .val (.int x1), .val (.ref b107), .val (.long x116), .second, .val (.ref b117), .unset] [(.ref b123), (.ref b123)]))
        refine gob (fun _ k => XS.aload X123.here hx rfl (hb hby at_158) rfl rfl k) ?_
        show Go _ _ _ _ _ _ _ (T123.setTop (mkF m 160 #[.val (.int p0), .val (.int p1), .val (.int p2), .val (.int p3), .val (.int p4), .val (.int x1), .val (.ref b107), .val (.long x116), .second, .val (.ref b117), .unset] [(.ref b117), (.ref b123), (.ref b123)]))
        refine gob (fun _ k => XS.iconst X123.here hx rfl (hb hby at_160) k) ?_
        show Go _ _ _ _ _ _ _ (T123.setTop (mkF m 161 #[.val (.int p0), .val (.int p1), .val (.int p2), .val (.int p3), .val (.int p4), .val (.int x1), .val (.ref b107), .val (.long x116), .second, .val (.ref b117), .unset] [(.int (0 : Int32)), (.ref b117), (.ref b123), (.ref b123)]))
        obtain ⟨T129, h129, k129, X129, e129, E129, A129, st129⟩ := newP X123 hx hZ (hw _ (List.mem_of_getElem? (i := 1) rfl)) e123 (g := (mkF m 161 #[.val (.int p0), .val (.int p1), .val (.int p2), .val (.int p3), .val (.int p4), .val (.int x1), .val (.ref b107), .val (.long x116), .second, .val (.ref b117), .unset] [(.int (0 : Int32)), (.ref b117), (.ref b123), (.ref b123)])) rfl (hb hby at_161) rfl (by decide) (cap := 0) (by decide) (by decide) (by decide) (by decide)
        obtain ⟨b129, g129⟩ : ∃ z, z = h123.size := ⟨_, rfl⟩
        rw [← g129] at A129 st129
        have c130 := (c124.ext E123)
        have n131 : b107 ≠ b129 := Nat.ne_of_lt (Nat.lt_of_lt_of_le c130.lt (Nat.le_of_eq g129.symm))
        have c132 := (V117.ext E123)
        have n133 : b117 ≠ b129 := Nat.ne_of_lt (Nat.lt_of_lt_of_le c132.lt (Nat.le_of_eq g129.symm))
        have n134 : b123 ≠ b129 := Nat.ne_of_lt (Nat.lt_of_lt_of_le A123.lt (Nat.le_of_eq g129.symm))
        have g135 : n0 ≤ b129 := Nat.le_trans z128 (Nat.le_of_eq g129.symm)
        have z136 : n0 ≤ h129.size := Nat.le_trans z128 E129.1
        have V129 : Arv Z h129 b129 k129 .int (0 : Int32) [] (.int (0 : Int32)) := Arv.new A129 (by decide)
        refine gob st129 ?_
        show Go _ _ _ _ _ _ _ (T129.setTop (mkF m 163 #[.val (.int p0), .val (.int p1), .val (.int p2), .val (.int p3), .val (.int p4), .val (.int x1), .val (.ref b107), .val (.long x116), .second, .val (.ref b117), .unset] [(.ref b129), (.ref b117), (.ref b123), (.ref b123)]))
        refine gob (fun _ k => XS.iconst X129.here hx rfl (hb hby at_163) k) ?_
        show Go _ _ _ _ _ _ _ (T129.setTop (mkF m 164 #[.val (.int p0), .val (.int p1), .val (.int p2), .val (.int p3), .val (.int p4), .val (.int x1), .val (.ref b107), .val (.long x116), .second, .val (.ref b117), .unset] [(.int (0 : Int32)), (.ref b129), (.ref b117), (.ref b123), (.ref b123)]))
        obtain ⟨T137, h137, k137, X137, e137, E137, A137, st137⟩ := newP X129 hx hZ (hw _ (List.mem_of_getElem? (i := 1) rfl)) e129 (g := (mkF m 164 #[.val (.int p0), .val (.int p1), .val (.int p2), .val (.int p3), .val (.int p4), .val (.int x1), .val (.ref b107), .val (.long x116), .second, .val (.ref b117), .unset] [(.int (0 : Int32)), (.ref b129), (.ref b117), (.ref b123), (.ref b123)])) rfl (hb hby at_164) rfl (by decide) (cap := 0) (by decide) (by decide) (by decide) (by decide)
        obtain ⟨b137, g137⟩ : ∃ z, z = h129.size := ⟨_, rfl⟩
        rw [← g137] at A137 st137
        have c138 := (c130.ext E129)
        have n139 : b107 ≠ b137 := Nat.ne_of_lt (Nat.lt_of_lt_of_le c138.lt (Nat.le_of_eq g137.symm))
        have c140 := (c132.ext E129)
        have n141 : b117 ≠ b137 := Nat.ne_of_lt (Nat.lt_of_lt_of_le c140.lt (Nat.le_of_eq g137.symm))
        have c142 := (A123.ext E129)
        have n143 : b123 ≠ b137 := Nat.ne_of_lt (Nat.lt_of_lt_of_le c142.lt (Nat.le_of_eq g137.symm))
        have n144 : b129 ≠ b137 := Nat.ne_of_lt (Nat.lt_of_lt_of_le V129.lt (Nat.le_of_eq g137.symm))
        have g145 : n0 ≤ b137 := Nat.le_trans z136 (Nat.le_of_eq g137.symm)
        have z146 : n0 ≤ h137.size := Nat.le_trans z136 E137.1
        have V137 : Arv Z h137 b137 k137 .int (0 : Int32) [] (.int (0 : Int32)) := Arv.new A137 (by decide)
        refine gob st137 ?_
        show Go _ _ _ _ _ _ _ (T137.setTop (mkF m 166 #[.val (.int p0), .val (.int p1), .val (.int p2), .val (.int p3), .val (.int p4), .val (.int x1), .val (.ref b107), .val (.long x116), .second, .val (.ref b117), .unset] [(.ref b137), (.ref b129), (.ref b117), (.ref b123), (.ref b123)]))
        refine gob (fun _ k => XS.aload X137.here hx rfl (hb hby at_166) rfl rfl k) ?_
        show Go _ _ _ _ _ _ _ (T137.setTop (mkF m 168 #[.val (.int p0), .val (.int p1), .val (.int p2), .val (.int p3), .val (.int p4), .val (.int x1), .val (.ref b107), .val (.long x116), .second, .val (.ref b117), .unset] [(.ref b107), (.ref b137), (.ref b129), (.ref b117), (.ref b123), (.ref b123)]))
        have c148 := (c142.ext E137)
        have c149 := ((F123_start.ext E129).ext E137)
        have c150 := ((F123_adjacent.ext E129).ext E137)
        have c151 := ((F123_edgeWeights.ext E129).ext E137)
        have c152 := ((F123_weights.ext E129).ext E137)
        obtain ⟨_, _, ⟨T147, L147, k147, n147⟩, -, X147, ⟨Lc147, hQ147, l147, y147, z147⟩, st147⟩ := X137.specialBack hx (y := (⟨"com/example/fenda/fenda/linalg/Graph", "<init>", "([I[I[I[I)V"⟩ : MethodName)) rfl hown (mvT hZ (hw _ (List.mem_of_getElem? (i := 5) rfl))) (mvT hZ (hw _ (List.mem_of_getElem? (i := 6) rfl))) (mvT hZ (hw _ (List.mem_of_getElem? (i := 7) rfl))) (by decide) (backOf (W := 1) (rm1 l Z a0 hw [] b123 b117 b129 b137 b107 h137 n0 z146 c148 c149 g127 c150 c151 c152) hZ (hw _ (List.mem_of_getElem? (i := 7) rfl)) (hw _ (List.mem_of_getElem? (i := 4) rfl)) (by decide) (by decide)) (g := (mkF m 168 #[.val (.int p0), .val (.int p1), .val (.int p2), .val (.int p3), .val (.int p4), .val (.int x1), .val (.ref b107), .val (.long x116), .second, .val (.ref b117), .unset] [(.ref b107), (.ref b137), (.ref b129), (.ref b117), (.ref b123), (.ref b123)])) rfl (by rw [hml]; rfl) (Steps.refl _) (a := b123) (argsL := [(.ref b117), (.ref b129), (.ref b137), (.ref b107)]) (rest := [(.ref b123)]) (lenOf pd_0 rfl) rfl (by show 2 * 0 + _ ≤ _; exact Nat.le_of_eq rfl) (hb hby at_168) (fun _ _ => ⟨rfl, e137, (by decide : 5 + 0 ≤ _), (by decide : 11 + 0 ≤ _)⟩)
        dsimp only [Pt.U, Pt.locs, Pt.cells, Pt.slots] at X147 l147 y147 z147 st147 hQ147
        subst l147 y147 z147
        obtain ⟨rfl, Nq147, K147, F153, F154, F155, F156⟩ := hQ147
        have N147 := Fr.app N114 Nq147
        have z157 : n0 ≤ T147.heap.size := Nat.le_trans z146 K147.1
        refine gob (fun _ k => st147.trans k) ?_
        show Go _ _ _ _ _ _ _ (T147.setTop (mkF m 171 #[.val (.int p0), .val (.int p1), .val (.int p2), .val (.int p3), .val (.int p4), .val (.int x1), .val (.ref b107), .val (.long x116), .second, .val (.ref b117), .unset] [(.ref b123)]))
        refine gob (fun _ k => XS.astore X147.here hx rfl (hb hby at_171) rfl rfl (l' := #[.val (.int p0), .val (.int p1), .val (.int p2), .val (.int p3), .val (.int p4), .val (.int x1), .val (.ref b107), .val (.long x116), .second, .val (.ref b117), .val (.ref b123)]) rfl k) ?_
        show Go _ _ _ _ _ _ _ (T147.setTop (mkF m 173 #[.val (.int p0), .val (.int p1), .val (.int p2), .val (.int p3), .val (.int p4), .val (.int x1), .val (.ref b107), .val (.long x116), .second, .val (.ref b117), .val (.ref b123)] []))
        refine gob (fun _ k => XS.aload X147.here hx rfl (hb hby at_173) rfl rfl k) ?_
        show Go _ _ _ _ _ _ _ (T147.setTop (mkF m 175 #[.val (.int p0), .val (.int p1), .val (.int p2), .val (.int p3), .val (.int p4), .val (.int x1), .val (.ref b107), .val (.long x116), .second, .val (.ref b117), .val (.ref b123)] [(.ref b123)]))
        have c159 := ((c138.ext E137).keep K147 (ninS n125 nin0))
        have c160 := (c148.keep K147)
        obtain ⟨cq158, kq158, q158a, q158b, q158c⟩ := isOf hZ (rfl : T147.heap = _) c160
        obtain ⟨_, _, ⟨T158, L158, k158, n158⟩, -, X158, ⟨Lc158, hQ158, l158, y158, z158⟩, st158⟩ := X147.virtualBack hx (y := (⟨"com/example/fenda/fenda/linalg/Graph", "totalWeight", "()J"⟩ : MethodName)) (z := (⟨"com/example/fenda/fenda/linalg/Graph", "totalWeight", "()J"⟩ : MethodName)) hown (mvT hZ (hw _ (List.mem_of_getElem? (i := 19) rfl))) (mvT hZ (hw _ (List.mem_of_getElem? (i := 20) rfl))) (notFace_of_selects (args := #[]) (mvT hZ (hw _ (List.mem_of_getElem? (i := 22) rfl)))) (mvT hZ (hw _ (List.mem_of_getElem? (i := 22) rfl))) (mvT hZ (hw _ (List.mem_of_getElem? (i := 21) rfl))) (by decide) (backOf (W := 0) (rm3_2 l Z a0 hw [] b123 b107 k107 p0 p1 T147.heap n0 z157 F156 c159) hZ (hw _ (List.mem_of_getElem? (i := 23) rfl)) (hw _ (List.mem_of_getElem? (i := 4) rfl)) (by decide) (by decide)) q158a q158c (g := (mkF m 175 #[.val (.int p0), .val (.int p1), .val (.int p2), .val (.int p3), .val (.int p4), .val (.int x1), .val (.ref b107), .val (.long x116), .second, .val (.ref b117), .val (.ref b123)] [(.ref b123)])) rfl (by rw [hml]; rfl) (Steps.refl _) (argsL := []) (rest := []) (lenOf pd_1 rfl) rfl (by show 2 * 0 + _ ≤ _; exact Nat.le_of_eq rfl) (hb hby at_175) (fun _ _ => ⟨rfl, (rfl : T147.heap = _), (by decide : 5 + 0 ≤ _), (by decide : 11 + 0 ≤ _)⟩)
        dsimp only [Pt.U, Pt.locs, Pt.cells, Pt.slots] at X158 l158 y158 z158 st158 hQ158
        subst l158 y158 z158
        obtain ⟨r158, rfl, hr158, Nq158, e158⟩ := hQ158
        have N158 := Fr.app N147 Nq158
        refine gob (fun _ k => st158.trans k) ?_
        show Go _ _ _ _ _ _ _ (T158.setTop (mkF m 178 #[.val (.int p0), .val (.int p1), .val (.int p2), .val (.int p3), .val (.int p4), .val (.int x1), .val (.ref b107), .val (.long x116), .second, .val (.ref b117), .val (.ref b123)] [(.long r158)]))
        refine gob (fun _ k => XS.lload X158.here hx rfl (hb hby at_178) rfl k) ?_
        show Go _ _ _ _ _ _ _ (T158.setTop (mkF m 180 #[.val (.int p0), .val (.int p1), .val (.int p2), .val (.int p3), .val (.int p4), .val (.int x1), .val (.ref b107), .val (.long x116), .second, .val (.ref b117), .val (.ref b123)] [(.long x116), (.long r158)]))
        refine gob (fun _ k => XS.lcmp X158.here hx rfl (hb hby at_180) rfl k) ?_
        show Go _ _ _ _ _ _ _ (T158.setTop (mkF m 181 #[.val (.int p0), .val (.int p1), .val (.int p2), .val (.int p3), .val (.int p4), .val (.int x1), .val (.ref b107), .val (.long x116), .second, .val (.ref b117), .val (.ref b123)] [(.int (lcmpW r158 x116))]))
        have hd162 : r158 = x116 := ld_0_181_161 p0 p1 x116 r158 hx116 hr158
        refine gob (fun _ k => XS.ifNo X158.here hx rfl (hb hby at_181) rfl ((if0 _ _).trans (teq ((lw_eq _ _).mpr hd162)).2) k) ?_
        show Go _ _ _ _ _ _ _ (T158.setTop (mkF m 184 #[.val (.int p0), .val (.int p1), .val (.int p2), .val (.int p3), .val (.int p4), .val (.int x1), .val (.ref b107), .val (.long x116), .second, .val (.ref b117), .val (.ref b123)] []))
        refine gob (fun _ k => XS.iconst X158.here hx rfl (hb hby at_184) k) ?_
        show Go _ _ _ _ _ _ _ (T158.setTop (mkF m 185 #[.val (.int p0), .val (.int p1), .val (.int p2), .val (.int p3), .val (.int p4), .val (.int x1), .val (.ref b107), .val (.long x116), .second, .val (.ref b117), .val (.ref b123)] [(.int (1 : Int32))]))
        refine gob (fun _ k => XS.goto X158.here hx rfl (pc0 := 185) (pc' := 189) rfl (hb hby at_185) (by decide) (by decide) k) ?_
        show Go _ _ _ _ _ _ _ (T158.setTop (mkF m 189 #[.val (.int p0), .val (.int p1), .val (.int p2), .val (.int p3), .val (.int p4), .val (.int x1), .val (.ref b107), .val (.long x116), .second, .val (.ref b117), .val (.ref b123)] [(.int (1 : Int32))]))
        refine goZ X158 hx hlk (t := .boolean) Bd.returns (by simp) (hb hby at_189) (z' := (1 : Int32)) rfl ?_ (by decide) (by decide)
        show Q0 Z p0 p1 p2 p3 p4 h0 n0 (some (.int (1 : Int32))) T158.heap _
        exact ⟨rfl, N158⟩
      · skip
        refine gob (fun _ k => XS.icmpYes X0.here hx rfl (pc0 := 50) (pc' := 76) rfl (hb hby at_50) rfl (feq hc50_106).2 (by decide) (by decide) k) ?_
        show Go _ _ _ _ _ _ _ (s₁.setTop (mkF m 76 #[.val (.int p0), .val (.int p1), .val (.int p2), .val (.int p3), .val (.int p4), .val (.int x1), .unset, .unset, .unset, .unset, .unset] []))
        refine gob (fun _ k => XS.iload X0.here hx rfl (hb hby at_76) rfl k) ?_
        show Go _ _ _ _ _ _ _ (s₁.setTop (mkF m 78 #[.val (.int p0), .val (.int p1), .val (.int p2), .val (.int p3), .val (.int p4), .val (.int x1), .unset, .unset, .unset, .unset, .unset] [(.int x1)]))
        refine gob (fun _ k => XS.iconst X0.here hx rfl (hb hby at_78) k) ?_
        show Go _ _ _ _ _ _ _ (s₁.setTop (mkF m 79 #[.val (.int p0), .val (.int p1), .val (.int p2), .val (.int p3), .val (.int p4), .val (.int x1), .unset, .unset, .unset, .unset, .unset] [(.int (3 : Int32)), (.int x1)]))
        by_cases hc79_163 : x1 = (3 : Int32)
        · skip
          refine gob (fun _ k => XS.icmpNo X0.here hx rfl (hb hby at_79) rfl (teq hc79_163).2 k) ?_
          show Go _ _ _ _ _ _ _ (s₁.setTop (mkF m 82 #[.val (.int p0), .val (.int p1), .val (.int p2), .val (.int p3), .val (.int p4), .val (.int x1), .unset, .unset, .unset, .unset, .unset] []))
          refine gob (fun _ k => XS.iconst X0.here hx rfl (hb hby at_82) k) ?_
          show Go _ _ _ _ _ _ _ (s₁.setTop (mkF m 83 #[.val (.int p0), .val (.int p1), .val (.int p2), .val (.int p3), .val (.int p4), .val (.int x1), .unset, .unset, .unset, .unset, .unset] [(.int (3 : Int32))]))
          obtain ⟨T164, h164, k164, X164, e164, E164, A164, st164⟩ := newP X0 hx hZ (hw _ (List.mem_of_getElem? (i := 1) rfl)) e0 (g := (mkF m 83 #[.val (.int p0), .val (.int p1), .val (.int p2), .val (.int p3), .val (.int p4), .val (.int x1), .unset, .unset, .unset, .unset, .unset] [(.int (3 : Int32))])) rfl (hb hby at_83) rfl (by decide) (cap := 3) (by decide) (by decide) (by decide) (by decide)
          obtain ⟨b164, g164⟩ : ∃ z, z = h0.size := ⟨_, rfl⟩
          rw [← g164] at A164 st164
          have g165 : n0 ≤ b164 := Nat.le_trans Z0 (Nat.le_of_eq g164.symm)
          have z166 : n0 ≤ h164.size := Nat.le_trans Z0 E164.1
          have V164 : Arv Z h164 b164 k164 .int (3 : Int32) [(.int (0 : Int32)), (.int (0 : Int32)), (.int (0 : Int32))] (.int (0 : Int32)) := (Arv.new A164 (by decide)).pad (pad_rep [] (.int (0 : Int32)) 3)
          refine gob st164 ?_
          show Go _ _ _ _ _ _ _ (T164.setTop (mkF m 85 #[.val (.int p0), .val (.int p1), .val (.int p2), .val (.int p3), .val (.int p4), .val (.int x1), .unset, .unset, .unset, .unset, .unset] [(.ref b164)]))
          refine gob (fun _ k => XS.dup X164.here hx rfl (hb hby at_85) rfl rfl k) ?_
          show Go _ _ _ _ _ _ _ (T164.setTop (mkF m 86 #[.val (.int p0), .val (.int p1), .val (.int p2), .val (.int p3), .val (.int p4), .val (.int x1), .unset, .unset, .unset, .unset, .unset] [(.ref b164), (.ref b164)]))
          refine gob (fun _ k => XS.iconst X164.here hx rfl (hb hby at_86) k) ?_
          show Go _ _ _ _ _ _ _ (T164.setTop (mkF m 87 #[.val (.int p0), .val (.int p1), .val (.int p2), .val (.int p3), .val (.int p4), .val (.int x1), .unset, .unset, .unset, .unset, .unset] [(.int (0 : Int32)), (.ref b164), (.ref b164)]))
          refine gob (fun _ k => XS.iloadN X164.here hx rfl (hb hby at_87) rfl k) ?_
          show Go _ _ _ _ _ _ _ (T164.setTop (mkF m 88 #[.val (.int p0), .val (.int p1), .val (.int p2), .val (.int p3), .val (.int p4), .val (.int x1), .unset, .unset, .unset, .unset, .unset] [(.int p0), (.int (0 : Int32)), (.ref b164), (.ref b164)]))
          obtain ⟨cl167, Ar167, q167, S167, N167, H167, G167⟩ := id V164
          have hin167 : ¬ ((0 : Int32) < 0 ∨ cl167.slots.size ≤ ((0 : Int32)).toNatClampNeg) := inb_of S167 ⟨by decide, by decide⟩
          obtain ⟨T168, h168, X168, e168, W168, st168⟩ := stI X164 hx hZ e164 Ar167 (j := (0 : Int32)) hin167 (g := (mkF m 88 #[.val (.int p0), .val (.int p1), .val (.int p2), .val (.int p3), .val (.int p4), .val (.int x1), .unset, .unset, .unset, .unset, .unset] [(.int p0), (.int (0 : Int32)), (.ref b164), (.ref b164)])) rfl rfl (hb hby at_88)
          refine gob st168 ?_
          have z169 : n0 ≤ h168.size := Nat.le_trans z166 (Keep.of_wr W168).1
          have N168 := Fr.snoc X168 N0 g165
          have V168 : Arv Z h168 b164 k164 .int (3 : Int32) [(.int p0), (.int (0 : Int32)), (.int (0 : Int32))] (.int (0 : Int32)) := Arv.set Ar167 q167 S167 N167 H167 G167 rfl W168 0 rfl (Nat.le_of_ble_eq_true rfl)
          show Go _ _ _ _ _ _ _ (T168.setTop (mkF m 89 #[.val (.int p0), .val (.int p1), .val (.int p2), .val (.int p3), .val (.int p4), .val (.int x1), .unset, .unset, .unset, .unset, .unset] [(.ref b164)]))
          refine gob (fun _ k => XS.dup X168.here hx rfl (hb hby at_89) rfl rfl k) ?_
          show Go _ _ _ _ _ _ _ (T168.setTop (mkF m 90 #[.val (.int p0), .val (.int p1), .val (.int p2), .val (.int p3), .val (.int p4), .val (.int x1), .unset, .unset, .unset, .unset, .unset] [(.ref b164), (.ref b164)]))
          refine gob (fun _ k => XS.iconst X168.here hx rfl (hb hby at_90) k) ?_
          show Go _ _ _ _ _ _ _ (T168.setTop (mkF m 91 #[.val (.int p0), .val (.int p1), .val (.int p2), .val (.int p3), .val (.int p4), .val (.int x1), .unset, .unset, .unset, .unset, .unset] [(.int (1 : Int32)), (.ref b164), (.ref b164)]))
          refine gob (fun _ k => XS.iloadN X168.here hx rfl (hb hby at_91) rfl k) ?_
          show Go _ _ _ _ _ _ _ (T168.setTop (mkF m 92 #[.val (.int p0), .val (.int p1), .val (.int p2), .val (.int p3), .val (.int p4), .val (.int x1), .unset, .unset, .unset, .unset, .unset] [(.int p1), (.int (1 : Int32)), (.ref b164), (.ref b164)]))
          obtain ⟨cl170, Ar170, q170, S170, N170, H170, G170⟩ := id V168
          have hin170 : ¬ ((1 : Int32) < 0 ∨ cl170.slots.size ≤ ((1 : Int32)).toNatClampNeg) := inb_of S170 ⟨by decide, by decide⟩
          obtain ⟨T171, h171, X171, e171, W171, st171⟩ := stI X168 hx hZ e168 Ar170 (j := (1 : Int32)) hin170 (g := (mkF m 92 #[.val (.int p0), .val (.int p1), .val (.int p2), .val (.int p3), .val (.int p4), .val (.int x1), .unset, .unset, .unset, .unset, .unset] [(.int p1), (.int (1 : Int32)), (.ref b164), (.ref b164)])) rfl rfl (hb hby at_92)
          refine gob st171 ?_
          have z172 : n0 ≤ h171.size := Nat.le_trans z169 (Keep.of_wr W171).1
          have N171 := Fr.snoc X171 N168 g165
          have V171 : Arv Z h171 b164 k164 .int (3 : Int32) [(.int p0), (.int p1), (.int (0 : Int32))] (.int (0 : Int32)) := Arv.set Ar170 q170 S170 N170 H170 G170 rfl W171 1 rfl (Nat.le_of_ble_eq_true rfl)
          show Go _ _ _ _ _ _ _ (T171.setTop (mkF m 93 #[.val (.int p0), .val (.int p1), .val (.int p2), .val (.int p3), .val (.int p4), .val (.int x1), .unset, .unset, .unset, .unset, .unset] [(.ref b164)]))
          refine gob (fun _ k => XS.dup X171.here hx rfl (hb hby at_93) rfl rfl k) ?_
          show Go _ _ _ _ _ _ _ (T171.setTop (mkF m 94 #[.val (.int p0), .val (.int p1), .val (.int p2), .val (.int p3), .val (.int p4), .val (.int x1), .unset, .unset, .unset, .unset, .unset] [(.ref b164), (.ref b164)]))
          refine gob (fun _ k => XS.iconst X171.here hx rfl (hb hby at_94) k) ?_
          show Go _ _ _ _ _ _ _ (T171.setTop (mkF m 95 #[.val (.int p0), .val (.int p1), .val (.int p2), .val (.int p3), .val (.int p4), .val (.int x1), .unset, .unset, .unset, .unset, .unset] [(.int (2 : Int32)), (.ref b164), (.ref b164)]))
          refine gob (fun _ k => XS.iloadN X171.here hx rfl (hb hby at_95) rfl k) ?_
          show Go _ _ _ _ _ _ _ (T171.setTop (mkF m 96 #[.val (.int p0), .val (.int p1), .val (.int p2), .val (.int p3), .val (.int p4), .val (.int x1), .unset, .unset, .unset, .unset, .unset] [(.int p2), (.int (2 : Int32)), (.ref b164), (.ref b164)]))
          obtain ⟨cl173, Ar173, q173, S173, N173, H173, G173⟩ := id V171
          have hin173 : ¬ ((2 : Int32) < 0 ∨ cl173.slots.size ≤ ((2 : Int32)).toNatClampNeg) := inb_of S173 ⟨by decide, by decide⟩
          obtain ⟨T174, h174, X174, e174, W174, st174⟩ := stI X171 hx hZ e171 Ar173 (j := (2 : Int32)) hin173 (g := (mkF m 96 #[.val (.int p0), .val (.int p1), .val (.int p2), .val (.int p3), .val (.int p4), .val (.int x1), .unset, .unset, .unset, .unset, .unset] [(.int p2), (.int (2 : Int32)), (.ref b164), (.ref b164)])) rfl rfl (hb hby at_96)
          refine gob st174 ?_
          have z175 : n0 ≤ h174.size := Nat.le_trans z172 (Keep.of_wr W174).1
          have N174 := Fr.snoc X174 N171 g165
          have V174 : Arv Z h174 b164 k164 .int (3 : Int32) [(.int p0), (.int p1), (.int p2)] (.int (0 : Int32)) := Arv.set Ar173 q173 S173 N173 H173 G173 rfl W174 2 rfl (Nat.le_of_ble_eq_true rfl)
          show Go _ _ _ _ _ _ _ (T174.setTop (mkF m 97 #[.val (.int p0), .val (.int p1), .val (.int p2), .val (.int p3), .val (.int p4), .val (.int x1), .unset, .unset, .unset, .unset, .unset] [(.ref b164)]))
          refine gob (fun _ k => XS.astore X174.here hx rfl (hb hby at_97) rfl rfl (l' := #[.val (.int p0), .val (.int p1), .val (.int p2), .val (.int p3), .val (.int p4), .val (.int x1), .val (.ref b164), .unset, .unset, .unset, .unset]) rfl k) ?_
          show Go _ _ _ _ _ _ _ (T174.setTop (mkF m 99 #[.val (.int p0), .val (.int p1), .val (.int p2), .val (.int p3), .val (.int p4), .val (.int x1), .val (.ref b164), .unset, .unset, .unset, .unset] []))
          refine gob (fun _ k => XS.iloadN X174.here hx rfl (hb hby at_99) rfl k) ?_
          show Go _ _ _ _ _ _ _ (T174.setTop (mkF m 100 #[.val (.int p0), .val (.int p1), .val (.int p2), .val (.int p3), .val (.int p4), .val (.int x1), .val (.ref b164), .unset, .unset, .unset, .unset] [(.int p0)]))
          refine gob (fun _ k => XS.i2l X174.here hx rfl (hb hby at_100) rfl k) ?_
          show Go _ _ _ _ _ _ _ (T174.setTop (mkF m 101 #[.val (.int p0), .val (.int p1), .val (.int p2), .val (.int p3), .val (.int p4), .val (.int x1), .val (.ref b164), .unset, .unset, .unset, .unset] [(.long (p0.toInt64))]))
          refine gob (fun _ k => XS.iloadN X174.here hx rfl (hb hby at_101) rfl k) ?_
          show Go _ _ _ _ _ _ _ (T174.setTop (mkF m 102 #[.val (.int p0), .val (.int p1), .val (.int p2), .val (.int p3), .val (.int p4), .val (.int x1), .val (.ref b164), .unset, .unset, .unset, .unset] [(.int p1), (.long (p0.toInt64))]))
          refine gob (fun _ k => XS.i2l X174.here hx rfl (hb hby at_102) rfl k) ?_
          show Go _ _ _ _ _ _ _ (T174.setTop (mkF m 103 #[.val (.int p0), .val (.int p1), .val (.int p2), .val (.int p3), .val (.int p4), .val (.int x1), .val (.ref b164), .unset, .unset, .unset, .unset] [(.long (p1.toInt64)), (.long (p0.toInt64))]))
          refine gob (fun _ k => XS.ladd X174.here hx rfl (hb hby at_103) rfl k) ?_
          show Go _ _ _ _ _ _ _ (T174.setTop (mkF m 104 #[.val (.int p0), .val (.int p1), .val (.int p2), .val (.int p3), .val (.int p4), .val (.int x1), .val (.ref b164), .unset, .unset, .unset, .unset] [(.long ((p0.toInt64) + (p1.toInt64)))]))
          refine gob (fun _ k => XS.iloadN X174.here hx rfl (hb hby at_104) rfl k) ?_
          show Go _ _ _ _ _ _ _ (T174.setTop (mkF m 105 #[.val (.int p0), .val (.int p1), .val (.int p2), .val (.int p3), .val (.int p4), .val (.int x1), .val (.ref b164), .unset, .unset, .unset, .unset] [(.int p2), (.long ((p0.toInt64) + (p1.toInt64)))]))
          refine gob (fun _ k => XS.i2l X174.here hx rfl (hb hby at_105) rfl k) ?_
          show Go _ _ _ _ _ _ _ (T174.setTop (mkF m 106 #[.val (.int p0), .val (.int p1), .val (.int p2), .val (.int p3), .val (.int p4), .val (.int x1), .val (.ref b164), .unset, .unset, .unset, .unset] [(.long (p2.toInt64)), (.long ((p0.toInt64) + (p1.toInt64)))]))
          refine gob (fun _ k => XS.ladd X174.here hx rfl (hb hby at_106) rfl k) ?_
          show Go _ _ _ _ _ _ _ (T174.setTop (mkF m 107 #[.val (.int p0), .val (.int p1), .val (.int p2), .val (.int p3), .val (.int p4), .val (.int x1), .val (.ref b164), .unset, .unset, .unset, .unset] [(.long (((p0.toInt64) + (p1.toInt64)) + (p2.toInt64)))]))
          refine gob (fun _ k => XS.lstore X174.here hx rfl (hb hby at_107) rfl (l' := #[.val (.int p0), .val (.int p1), .val (.int p2), .val (.int p3), .val (.int p4), .val (.int x1), .val (.ref b164), .val (.long (((p0.toInt64) + (p1.toInt64)) + (p2.toInt64))), .second, .unset, .unset]) rfl k) ?_
          show Go _ _ _ _ _ _ _ (T174.setTop (mkF m 109 #[.val (.int p0), .val (.int p1), .val (.int p2), .val (.int p3), .val (.int p4), .val (.int x1), .val (.ref b164), .val (.long (((p0.toInt64) + (p1.toInt64)) + (p2.toInt64))), .second, .unset, .unset] []))
          generalize hx176 : (((p0.toInt64) + (p1.toInt64)) + (p2.toInt64)) = x176
          show Go _ _ _ _ _ _ _ (T174.setTop (mkF m 109 #[.val (.int p0), .val (.int p1), .val (.int p2), .val (.int p3), .val (.int p4), .val (.int x1), .val (.ref b164), .val (.long x176), .second, .unset, .unset] []))
          refine gob (fun _ k => XS.goto X174.here hx rfl (pc0 := 109) (pc' := 146) rfl (hb hby at_109) (by decide) (by decide) k) ?_
          show Go _ _ _ _ _ _ _ (T174.setTop (mkF m 146 #[.val (.int p0), .val (.int p1), .val (.int p2), .val (.int p3), .val (.int p4), .val (.int x1), .val (.ref b164), .val (.long x176), .second, .unset, .unset] []))
          refine gob (fun _ k => XS.iload X174.here hx rfl (hb hby at_146) rfl k) ?_
          show Go _ _ _ _ _ _ _ (T174.setTop (mkF m 148 #[.val (.int p0), .val (.int p1), .val (.int p2), .val (.int p3), .val (.int p4), .val (.int x1), .val (.ref b164), .val (.long x176), .second, .unset, .unset] [(.int x1)]))
          refine gob (fun _ k => XS.iconst X174.here hx rfl (hb hby at_148) k) ?_
          show Go _ _ _ _ _ _ _ (T174.setTop (mkF m 149 #[.val (.int p0), .val (.int p1), .val (.int p2), .val (.int p3), .val (.int p4), .val (.int x1), .val (.ref b164), .val (.long x176), .second, .unset, .unset] [(.int (1 : Int32)), (.int x1)]))
          refine gob (fun _ k => XS.iadd X174.here hx rfl (hb hby at_149) rfl k) ?_
          show Go _ _ _ _ _ _ _ (T174.setTop (mkF m 150 #[.val (.int p0), .val (.int p1), .val (.int p2), .val (.int p3), .val (.int p4), .val (.int x1), .val (.ref b164), .val (.long x176), .second, .unset, .unset] [(.int (x1 + (1 : Int32)))]))
          have ha178 : 0 ≤ (x1 + (1 : Int32)).toInt ∧ (x1 + (1 : Int32)).toInt ≤ 5 := (la_0_150_179 p4 x1 hx1 hc11_2 hc28_52 hc50_106 hc79_163)
          obtain ⟨T177, h177, k177, X177, e177, E177, A177, st177⟩ := newP X174 hx hZ (hw _ (List.mem_of_getElem? (i := 1) rfl)) e174 (g := (mkF m 150 #[.val (.int p0), .val (.int p1), .val (.int p2), .val (.int p3), .val (.int p4), .val (.int x1), .val (.ref b164), .val (.long x176), .second, .unset, .unset] [(.int (x1 + (1 : Int32)))])) rfl (hb hby at_150) rfl (own_nn ha178.1) (cap := 5) (own_cap ha178.1 ha178.2) (by decide) (by decide) (by decide)
          obtain ⟨b177, g177⟩ : ∃ z, z = h174.size := ⟨_, rfl⟩
          rw [← g177] at A177 st177
          have n180 : b164 ≠ b177 := Nat.ne_of_lt (Nat.lt_of_lt_of_le V174.lt (Nat.le_of_eq g177.symm))
          have g181 : n0 ≤ b177 := Nat.le_trans z175 (Nat.le_of_eq g177.symm)
          have z182 : n0 ≤ h177.size := Nat.le_trans z175 E177.1
          have V177 : Arv Z h177 b177 k177 .int (x1 + (1 : Int32)) [] (.int (0 : Int32)) := Arv.new A177 (own_nn ha178.1)
          refine gob st177 ?_
          show Go _ _ _ _ _ _ _ (T177.setTop (mkF m 152 #[.val (.int p0), .val (.int p1), .val (.int p2), .val (.int p3), .val (.int p4), .val (.int x1), .val (.ref b164), .val (.long x176), .second, .unset, .unset] [(.ref b177)]))
          refine gob (fun _ k => XS.astore X177.here hx rfl (hb hby at_152) rfl rfl (l' := #[.val (.int p0), .val (.int p1), .val (.int p2), .val (.int p3), .val (.int p4), .val (.int x1), .val (.ref b164), .val (.long x176), .second, .val (.ref b177), .unset]) rfl k) ?_
          show Go _ _ _ _ _ _ _ (T177.setTop (mkF m 154 #[.val (.int p0), .val (.int p1), .val (.int p2), .val (.int p3), .val (.int p4), .val (.int x1), .val (.ref b164), .val (.long x176), .second, .val (.ref b177), .unset] []))
          obtain ⟨T183, h183, X183, e183, E183, A183, D183, -, st183⟩ := newO X177 hx hZ hown (hw _ (List.mem_of_getElem? (i := 2) rfl)) (hw _ (List.mem_of_getElem? (i := 3) rfl)) (hw _ (List.mem_of_getElem? (i := 4) rfl)) e177 (g := (mkF m 154 #[.val (.int p0), .val (.int p1), .val (.int p2), .val (.int p3), .val (.int p4), .val (.int x1), .val (.ref b164), .val (.long x176), .second, .val (.ref b177), .unset] [])) rfl (hb hby at_154) (by decide) (by decide)
          obtain ⟨b183, g183⟩ : ∃ z, z = h177.size := ⟨_, rfl⟩
          rw [← g183] at A183 D183 st183
          have c184 := (V174.ext E177)
          have n185 : b164 ≠ b183 := Nat.ne_of_lt (Nat.lt_of_lt_of_le c184.lt (Nat.le_of_eq g183.symm))
          have n186 : b177 ≠ b183 := Nat.ne_of_lt (Nat.lt_of_lt_of_le V177.lt (Nat.le_of_eq g183.symm))
          have g187 : n0 ≤ b183 := Nat.le_trans z182 (Nat.le_of_eq g183.symm)
          have z188 : n0 ≤ h183.size := Nat.le_trans z182 E183.1
          have F183_start : Fld Z h183 b183 "com/example/fenda/fenda/linalg/Graph" "start" "[I" .null := D183 (Or.inr (hw _ (List.mem_of_getElem? (i := 12) rfl))) (ty := (.array .int)) (by decide)
          have F183_adjacent : Fld Z h183 b183 "com/example/fenda/fenda/linalg/Graph" "adjacent" "[I" .null := D183 (Or.inr (hw _ (List.mem_of_getElem? (i := 14) rfl))) (ty := (.array .int)) (by decide)
          have F183_edgeWeights : Fld Z h183 b183 "com/example/fenda/fenda/linalg/Graph" "edgeWeights" "[I" .null := D183 (Or.inr (hw _ (List.mem_of_getElem? (i := 16) rfl))) (ty := (.array .int)) (by decide)
          have F183_weights : Fld Z h183 b183 "com/example/fenda/fenda/linalg/Graph" "weights" "[I" .null := D183 (Or.inr (hw _ (List.mem_of_getElem? (i := 18) rfl))) (ty := (.array .int)) (by decide)
          refine gob st183 ?_
          show Go _ _ _ _ _ _ _ (T183.setTop (mkF m 157 #[.val (.int p0), .val (.int p1), .val (.int p2), .val (.int p3), .val (.int p4), .val (.int x1), .val (.ref b164), .val (.long x176), .second, .val (.ref b177), .unset] [(.ref b183)]))
          refine gob (fun _ k => XS.dup X183.here hx rfl (hb hby at_157) rfl rfl k) ?_
          show Go _ _ _ _ _ _ _ (T183.setTop (mkF m 158 #[.val (.int p0), .val (.int p1), .val (.int p2), .val (.int p3), .val (.int p4), .val (.int x1), .val (.ref b164), .val (.long x176), .second, .val (.ref b177), .unset] [(.ref b183), (.ref b183)]))
          refine gob (fun _ k => XS.aload X183.here hx rfl (hb hby at_158) rfl rfl k) ?_
          show Go _ _ _ _ _ _ _ (T183.setTop (mkF m 160 #[.val (.int p0), .val (.int p1), .val (.int p2), .val (.int p3), .val (.int p4), .val (.int x1), .val (.ref b164), .val (.long x176), .second, .val (.ref b177), .unset] [(.ref b177), (.ref b183), (.ref b183)]))
          refine gob (fun _ k => XS.iconst X183.here hx rfl (hb hby at_160) k) ?_
          show Go _ _ _ _ _ _ _ (T183.setTop (mkF m 161 #[.val (.int p0), .val (.int p1), .val (.int p2), .val (.int p3), .val (.int p4), .val (.int x1), .val (.ref b164), .val (.long x176), .second, .val (.ref b177), .unset] [(.int (0 : Int32)), (.ref b177), (.ref b183), (.ref b183)]))
          obtain ⟨T189, h189, k189, X189, e189, E189, A189, st189⟩ := newP X183 hx hZ (hw _ (List.mem_of_getElem? (i := 1) rfl)) e183 (g := (mkF m 161 #[.val (.int p0), .val (.int p1), .val (.int p2), .val (.int p3), .val (.int p4), .val (.int x1), .val (.ref b164), .val (.long x176), .second, .val (.ref b177), .unset] [(.int (0 : Int32)), (.ref b177), (.ref b183), (.ref b183)])) rfl (hb hby at_161) rfl (by decide) (cap := 0) (by decide) (by decide) (by decide) (by decide)
          obtain ⟨b189, g189⟩ : ∃ z, z = h183.size := ⟨_, rfl⟩
          rw [← g189] at A189 st189
          have c190 := (c184.ext E183)
          have n191 : b164 ≠ b189 := Nat.ne_of_lt (Nat.lt_of_lt_of_le c190.lt (Nat.le_of_eq g189.symm))
          have c192 := (V177.ext E183)
          have n193 : b177 ≠ b189 := Nat.ne_of_lt (Nat.lt_of_lt_of_le c192.lt (Nat.le_of_eq g189.symm))
          have n194 : b183 ≠ b189 := Nat.ne_of_lt (Nat.lt_of_lt_of_le A183.lt (Nat.le_of_eq g189.symm))
          have g195 : n0 ≤ b189 := Nat.le_trans z188 (Nat.le_of_eq g189.symm)
          have z196 : n0 ≤ h189.size := Nat.le_trans z188 E189.1
          have V189 : Arv Z h189 b189 k189 .int (0 : Int32) [] (.int (0 : Int32)) := Arv.new A189 (by decide)
          refine gob st189 ?_
          show Go _ _ _ _ _ _ _ (T189.setTop (mkF m 163 #[.val (.int p0), .val (.int p1), .val (.int p2), .val (.int p3), .val (.int p4), .val (.int x1), .val (.ref b164), .val (.long x176), .second, .val (.ref b177), .unset] [(.ref b189), (.ref b177), (.ref b183), (.ref b183)]))
          refine gob (fun _ k => XS.iconst X189.here hx rfl (hb hby at_163) k) ?_
          show Go _ _ _ _ _ _ _ (T189.setTop (mkF m 164 #[.val (.int p0), .val (.int p1), .val (.int p2), .val (.int p3), .val (.int p4), .val (.int x1), .val (.ref b164), .val (.long x176), .second, .val (.ref b177), .unset] [(.int (0 : Int32)), (.ref b189), (.ref b177), (.ref b183), (.ref b183)]))
          obtain ⟨T197, h197, k197, X197, e197, E197, A197, st197⟩ := newP X189 hx hZ (hw _ (List.mem_of_getElem? (i := 1) rfl)) e189 (g := (mkF m 164 #[.val (.int p0), .val (.int p1), .val (.int p2), .val (.int p3), .val (.int p4), .val (.int x1), .val (.ref b164), .val (.long x176), .second, .val (.ref b177), .unset] [(.int (0 : Int32)), (.ref b189), (.ref b177), (.ref b183), (.ref b183)])) rfl (hb hby at_164) rfl (by decide) (cap := 0) (by decide) (by decide) (by decide) (by decide)
          obtain ⟨b197, g197⟩ : ∃ z, z = h189.size := ⟨_, rfl⟩
          rw [← g197] at A197 st197
          have c198 := (c190.ext E189)
          have n199 : b164 ≠ b197 := Nat.ne_of_lt (Nat.lt_of_lt_of_le c198.lt (Nat.le_of_eq g197.symm))
          have c200 := (c192.ext E189)
          have n201 : b177 ≠ b197 := Nat.ne_of_lt (Nat.lt_of_lt_of_le c200.lt (Nat.le_of_eq g197.symm))
          have c202 := (A183.ext E189)
          have n203 : b183 ≠ b197 := Nat.ne_of_lt (Nat.lt_of_lt_of_le c202.lt (Nat.le_of_eq g197.symm))
          have n204 : b189 ≠ b197 := Nat.ne_of_lt (Nat.lt_of_lt_of_le V189.lt (Nat.le_of_eq g197.symm))
          have g205 : n0 ≤ b197 := Nat.le_trans z196 (Nat.le_of_eq g197.symm)
          have z206 : n0 ≤ h197.size := Nat.le_trans z196 E197.1
          have V197 : Arv Z h197 b197 k197 .int (0 : Int32) [] (.int (0 : Int32)) := Arv.new A197 (by decide)
          refine gob st197 ?_
          show Go _ _ _ _ _ _ _ (T197.setTop (mkF m 166 #[.val (.int p0), .val (.int p1), .val (.int p2), .val (.int p3), .val (.int p4), .val (.int x1), .val (.ref b164), .val (.long x176), .second, .val (.ref b177), .unset] [(.ref b197), (.ref b189), (.ref b177), (.ref b183), (.ref b183)]))
          refine gob (fun _ k => XS.aload X197.here hx rfl (hb hby at_166) rfl rfl k) ?_
          show Go _ _ _ _ _ _ _ (T197.setTop (mkF m 168 #[.val (.int p0), .val (.int p1), .val (.int p2), .val (.int p3), .val (.int p4), .val (.int x1), .val (.ref b164), .val (.long x176), .second, .val (.ref b177), .unset] [(.ref b164), (.ref b197), (.ref b189), (.ref b177), (.ref b183), (.ref b183)]))
          have c208 := (c202.ext E197)
          have c209 := ((F183_start.ext E189).ext E197)
          have c210 := ((F183_adjacent.ext E189).ext E197)
          have c211 := ((F183_edgeWeights.ext E189).ext E197)
          have c212 := ((F183_weights.ext E189).ext E197)
          obtain ⟨_, _, ⟨T207, L207, k207, n207⟩, -, X207, ⟨Lc207, hQ207, l207, y207, z207⟩, st207⟩ := X197.specialBack hx (y := (⟨"com/example/fenda/fenda/linalg/Graph", "<init>", "([I[I[I[I)V"⟩ : MethodName)) rfl hown (mvT hZ (hw _ (List.mem_of_getElem? (i := 5) rfl))) (mvT hZ (hw _ (List.mem_of_getElem? (i := 6) rfl))) (mvT hZ (hw _ (List.mem_of_getElem? (i := 7) rfl))) (by decide) (backOf (W := 1) (rm1 l Z a0 hw [] b183 b177 b189 b197 b164 h197 n0 z206 c208 c209 g187 c210 c211 c212) hZ (hw _ (List.mem_of_getElem? (i := 7) rfl)) (hw _ (List.mem_of_getElem? (i := 4) rfl)) (by decide) (by decide)) (g := (mkF m 168 #[.val (.int p0), .val (.int p1), .val (.int p2), .val (.int p3), .val (.int p4), .val (.int x1), .val (.ref b164), .val (.long x176), .second, .val (.ref b177), .unset] [(.ref b164), (.ref b197), (.ref b189), (.ref b177), (.ref b183), (.ref b183)])) rfl (by rw [hml]; rfl) (Steps.refl _) (a := b183) (argsL := [(.ref b177), (.ref b189), (.ref b197), (.ref b164)]) (rest := [(.ref b183)]) (lenOf pd_0 rfl) rfl (by show 2 * 0 + _ ≤ _; exact Nat.le_of_eq rfl) (hb hby at_168) (fun _ _ => ⟨rfl, e197, (by decide : 5 + 0 ≤ _), (by decide : 12 + 0 ≤ _)⟩)
          dsimp only [Pt.U, Pt.locs, Pt.cells, Pt.slots] at X207 l207 y207 z207 st207 hQ207
          subst l207 y207 z207
          obtain ⟨rfl, Nq207, K207, F213, F214, F215, F216⟩ := hQ207
          have N207 := Fr.app N174 Nq207
          have z217 : n0 ≤ T207.heap.size := Nat.le_trans z206 K207.1
          refine gob (fun _ k => st207.trans k) ?_
          show Go _ _ _ _ _ _ _ (T207.setTop (mkF m 171 #[.val (.int p0), .val (.int p1), .val (.int p2), .val (.int p3), .val (.int p4), .val (.int x1), .val (.ref b164), .val (.long x176), .second, .val (.ref b177), .unset] [(.ref b183)]))
          refine gob (fun _ k => XS.astore X207.here hx rfl (hb hby at_171) rfl rfl (l' := #[.val (.int p0), .val (.int p1), .val (.int p2), .val (.int p3), .val (.int p4), .val (.int x1), .val (.ref b164), .val (.long x176), .second, .val (.ref b177), .val (.ref b183)]) rfl k) ?_
          show Go _ _ _ _ _ _ _ (T207.setTop (mkF m 173 #[.val (.int p0), .val (.int p1), .val (.int p2), .val (.int p3), .val (.int p4), .val (.int x1), .val (.ref b164), .val (.long x176), .second, .val (.ref b177), .val (.ref b183)] []))
          refine gob (fun _ k => XS.aload X207.here hx rfl (hb hby at_173) rfl rfl k) ?_
          show Go _ _ _ _ _ _ _ (T207.setTop (mkF m 175 #[.val (.int p0), .val (.int p1), .val (.int p2), .val (.int p3), .val (.int p4), .val (.int x1), .val (.ref b164), .val (.long x176), .second, .val (.ref b177), .val (.ref b183)] [(.ref b183)]))
          have c219 := ((c198.ext E197).keep K207 (ninS n185 nin0))
          have c220 := (c208.keep K207)
          obtain ⟨cq218, kq218, q218a, q218b, q218c⟩ := isOf hZ (rfl : T207.heap = _) c220
          obtain ⟨_, _, ⟨T218, L218, k218, n218⟩, -, X218, ⟨Lc218, hQ218, l218, y218, z218⟩, st218⟩ := X207.virtualBack hx (y := (⟨"com/example/fenda/fenda/linalg/Graph", "totalWeight", "()J"⟩ : MethodName)) (z := (⟨"com/example/fenda/fenda/linalg/Graph", "totalWeight", "()J"⟩ : MethodName)) hown (mvT hZ (hw _ (List.mem_of_getElem? (i := 19) rfl))) (mvT hZ (hw _ (List.mem_of_getElem? (i := 20) rfl))) (notFace_of_selects (args := #[]) (mvT hZ (hw _ (List.mem_of_getElem? (i := 22) rfl)))) (mvT hZ (hw _ (List.mem_of_getElem? (i := 22) rfl))) (mvT hZ (hw _ (List.mem_of_getElem? (i := 21) rfl))) (by decide) (backOf (W := 0) (rm3_3 l Z a0 hw [] b183 b164 k164 p0 p1 p2 T207.heap n0 z217 F216 c219) hZ (hw _ (List.mem_of_getElem? (i := 23) rfl)) (hw _ (List.mem_of_getElem? (i := 4) rfl)) (by decide) (by decide)) q218a q218c (g := (mkF m 175 #[.val (.int p0), .val (.int p1), .val (.int p2), .val (.int p3), .val (.int p4), .val (.int x1), .val (.ref b164), .val (.long x176), .second, .val (.ref b177), .val (.ref b183)] [(.ref b183)])) rfl (by rw [hml]; rfl) (Steps.refl _) (argsL := []) (rest := []) (lenOf pd_1 rfl) rfl (by show 2 * 0 + _ ≤ _; exact Nat.le_of_eq rfl) (hb hby at_175) (fun _ _ => ⟨rfl, (rfl : T207.heap = _), (by decide : 5 + 0 ≤ _), (by decide : 12 + 0 ≤ _)⟩)
          dsimp only [Pt.U, Pt.locs, Pt.cells, Pt.slots] at X218 l218 y218 z218 st218 hQ218
          subst l218 y218 z218
          obtain ⟨r218, rfl, hr218, Nq218, e218⟩ := hQ218
          have N218 := Fr.app N207 Nq218
          refine gob (fun _ k => st218.trans k) ?_
          show Go _ _ _ _ _ _ _ (T218.setTop (mkF m 178 #[.val (.int p0), .val (.int p1), .val (.int p2), .val (.int p3), .val (.int p4), .val (.int x1), .val (.ref b164), .val (.long x176), .second, .val (.ref b177), .val (.ref b183)] [(.long r218)]))
          refine gob (fun _ k => XS.lload X218.here hx rfl (hb hby at_178) rfl k) ?_
          show Go _ _ _ _ _ _ _ (T218.setTop (mkF m 180 #[.val (.int p0), .val (.int p1), .val (.int p2), .val (.int p3), .val (.int p4), .val (.int x1), .val (.ref b164), .val (.long x176), .second, .val (.ref b177), .val (.ref b183)] [(.long x176), (.long r218)]))
          refine gob (fun _ k => XS.lcmp X218.here hx rfl (hb hby at_180) rfl k) ?_
          show Go _ _ _ _ _ _ _ (T218.setTop (mkF m 181 #[.val (.int p0), .val (.int p1), .val (.int p2), .val (.int p3), .val (.int p4), .val (.int x1), .val (.ref b164), .val (.long x176), .second, .val (.ref b177), .val (.ref b183)] [(.int (lcmpW r218 x176))]))
          have hd222 : r218 = x176 := ld_0_181_221 p0 p1 p2 x176 r218 hx176 hr218
          refine gob (fun _ k => XS.ifNo X218.here hx rfl (hb hby at_181) rfl ((if0 _ _).trans (teq ((lw_eq _ _).mpr hd222)).2) k) ?_
          show Go _ _ _ _ _ _ _ (T218.setTop (mkF m 184 #[.val (.int p0), .val (.int p1), .val (.int p2), .val (.int p3), .val (.int p4), .val (.int x1), .val (.ref b164), .val (.long x176), .second, .val (.ref b177), .val (.ref b183)] []))
          refine gob (fun _ k => XS.iconst X218.here hx rfl (hb hby at_184) k) ?_
          show Go _ _ _ _ _ _ _ (T218.setTop (mkF m 185 #[.val (.int p0), .val (.int p1), .val (.int p2), .val (.int p3), .val (.int p4), .val (.int x1), .val (.ref b164), .val (.long x176), .second, .val (.ref b177), .val (.ref b183)] [(.int (1 : Int32))]))
          refine gob (fun _ k => XS.goto X218.here hx rfl (pc0 := 185) (pc' := 189) rfl (hb hby at_185) (by decide) (by decide) k) ?_
          show Go _ _ _ _ _ _ _ (T218.setTop (mkF m 189 #[.val (.int p0), .val (.int p1), .val (.int p2), .val (.int p3), .val (.int p4), .val (.int x1), .val (.ref b164), .val (.long x176), .second, .val (.ref b177), .val (.ref b183)] [(.int (1 : Int32))]))
          refine goZ X218 hx hlk (t := .boolean) Bd.returns (by simp) (hb hby at_189) (z' := (1 : Int32)) rfl ?_ (by decide) (by decide)
          show Q0 Z p0 p1 p2 p3 p4 h0 n0 (some (.int (1 : Int32))) T218.heap _
          exact ⟨rfl, N218⟩
        · skip
          refine gob (fun _ k => XS.icmpYes X0.here hx rfl (pc0 := 79) (pc' := 112) rfl (hb hby at_79) rfl (feq hc79_163).2 (by decide) (by decide) k) ?_
          show Go _ _ _ _ _ _ _ (s₁.setTop (mkF m 112 #[.val (.int p0), .val (.int p1), .val (.int p2), .val (.int p3), .val (.int p4), .val (.int x1), .unset, .unset, .unset, .unset, .unset] []))
          refine gob (fun _ k => XS.iconst X0.here hx rfl (hb hby at_112) k) ?_
          show Go _ _ _ _ _ _ _ (s₁.setTop (mkF m 113 #[.val (.int p0), .val (.int p1), .val (.int p2), .val (.int p3), .val (.int p4), .val (.int x1), .unset, .unset, .unset, .unset, .unset] [(.int (4 : Int32))]))
          obtain ⟨T223, h223, k223, X223, e223, E223, A223, st223⟩ := newP X0 hx hZ (hw _ (List.mem_of_getElem? (i := 1) rfl)) e0 (g := (mkF m 113 #[.val (.int p0), .val (.int p1), .val (.int p2), .val (.int p3), .val (.int p4), .val (.int x1), .unset, .unset, .unset, .unset, .unset] [(.int (4 : Int32))])) rfl (hb hby at_113) rfl (by decide) (cap := 4) (by decide) (by decide) (by decide) (by decide)
          obtain ⟨b223, g223⟩ : ∃ z, z = h0.size := ⟨_, rfl⟩
          rw [← g223] at A223 st223
          have g224 : n0 ≤ b223 := Nat.le_trans Z0 (Nat.le_of_eq g223.symm)
          have z225 : n0 ≤ h223.size := Nat.le_trans Z0 E223.1
          have V223 : Arv Z h223 b223 k223 .int (4 : Int32) [(.int (0 : Int32)), (.int (0 : Int32)), (.int (0 : Int32)), (.int (0 : Int32))] (.int (0 : Int32)) := (Arv.new A223 (by decide)).pad (pad_rep [] (.int (0 : Int32)) 4)
          refine gob st223 ?_
          show Go _ _ _ _ _ _ _ (T223.setTop (mkF m 115 #[.val (.int p0), .val (.int p1), .val (.int p2), .val (.int p3), .val (.int p4), .val (.int x1), .unset, .unset, .unset, .unset, .unset] [(.ref b223)]))
          refine gob (fun _ k => XS.dup X223.here hx rfl (hb hby at_115) rfl rfl k) ?_
          show Go _ _ _ _ _ _ _ (T223.setTop (mkF m 116 #[.val (.int p0), .val (.int p1), .val (.int p2), .val (.int p3), .val (.int p4), .val (.int x1), .unset, .unset, .unset, .unset, .unset] [(.ref b223), (.ref b223)]))
          refine gob (fun _ k => XS.iconst X223.here hx rfl (hb hby at_116) k) ?_
          show Go _ _ _ _ _ _ _ (T223.setTop (mkF m 117 #[.val (.int p0), .val (.int p1), .val (.int p2), .val (.int p3), .val (.int p4), .val (.int x1), .unset, .unset, .unset, .unset, .unset] [(.int (0 : Int32)), (.ref b223), (.ref b223)]))
          refine gob (fun _ k => XS.iloadN X223.here hx rfl (hb hby at_117) rfl k) ?_
          show Go _ _ _ _ _ _ _ (T223.setTop (mkF m 118 #[.val (.int p0), .val (.int p1), .val (.int p2), .val (.int p3), .val (.int p4), .val (.int x1), .unset, .unset, .unset, .unset, .unset] [(.int p0), (.int (0 : Int32)), (.ref b223), (.ref b223)]))
          obtain ⟨cl226, Ar226, q226, S226, N226, H226, G226⟩ := id V223
          have hin226 : ¬ ((0 : Int32) < 0 ∨ cl226.slots.size ≤ ((0 : Int32)).toNatClampNeg) := inb_of S226 ⟨by decide, by decide⟩
          obtain ⟨T227, h227, X227, e227, W227, st227⟩ := stI X223 hx hZ e223 Ar226 (j := (0 : Int32)) hin226 (g := (mkF m 118 #[.val (.int p0), .val (.int p1), .val (.int p2), .val (.int p3), .val (.int p4), .val (.int x1), .unset, .unset, .unset, .unset, .unset] [(.int p0), (.int (0 : Int32)), (.ref b223), (.ref b223)])) rfl rfl (hb hby at_118)
          refine gob st227 ?_
          have z228 : n0 ≤ h227.size := Nat.le_trans z225 (Keep.of_wr W227).1
          have N227 := Fr.snoc X227 N0 g224
          have V227 : Arv Z h227 b223 k223 .int (4 : Int32) [(.int p0), (.int (0 : Int32)), (.int (0 : Int32)), (.int (0 : Int32))] (.int (0 : Int32)) := Arv.set Ar226 q226 S226 N226 H226 G226 rfl W227 0 rfl (Nat.le_of_ble_eq_true rfl)
          show Go _ _ _ _ _ _ _ (T227.setTop (mkF m 119 #[.val (.int p0), .val (.int p1), .val (.int p2), .val (.int p3), .val (.int p4), .val (.int x1), .unset, .unset, .unset, .unset, .unset] [(.ref b223)]))
          refine gob (fun _ k => XS.dup X227.here hx rfl (hb hby at_119) rfl rfl k) ?_
          show Go _ _ _ _ _ _ _ (T227.setTop (mkF m 120 #[.val (.int p0), .val (.int p1), .val (.int p2), .val (.int p3), .val (.int p4), .val (.int x1), .unset, .unset, .unset, .unset, .unset] [(.ref b223), (.ref b223)]))
          refine gob (fun _ k => XS.iconst X227.here hx rfl (hb hby at_120) k) ?_
          show Go _ _ _ _ _ _ _ (T227.setTop (mkF m 121 #[.val (.int p0), .val (.int p1), .val (.int p2), .val (.int p3), .val (.int p4), .val (.int x1), .unset, .unset, .unset, .unset, .unset] [(.int (1 : Int32)), (.ref b223), (.ref b223)]))
          refine gob (fun _ k => XS.iloadN X227.here hx rfl (hb hby at_121) rfl k) ?_
          show Go _ _ _ _ _ _ _ (T227.setTop (mkF m 122 #[.val (.int p0), .val (.int p1), .val (.int p2), .val (.int p3), .val (.int p4), .val (.int x1), .unset, .unset, .unset, .unset, .unset] [(.int p1), (.int (1 : Int32)), (.ref b223), (.ref b223)]))
          obtain ⟨cl229, Ar229, q229, S229, N229, H229, G229⟩ := id V227
          have hin229 : ¬ ((1 : Int32) < 0 ∨ cl229.slots.size ≤ ((1 : Int32)).toNatClampNeg) := inb_of S229 ⟨by decide, by decide⟩
          obtain ⟨T230, h230, X230, e230, W230, st230⟩ := stI X227 hx hZ e227 Ar229 (j := (1 : Int32)) hin229 (g := (mkF m 122 #[.val (.int p0), .val (.int p1), .val (.int p2), .val (.int p3), .val (.int p4), .val (.int x1), .unset, .unset, .unset, .unset, .unset] [(.int p1), (.int (1 : Int32)), (.ref b223), (.ref b223)])) rfl rfl (hb hby at_122)
          refine gob st230 ?_
          have z231 : n0 ≤ h230.size := Nat.le_trans z228 (Keep.of_wr W230).1
          have N230 := Fr.snoc X230 N227 g224
          have V230 : Arv Z h230 b223 k223 .int (4 : Int32) [(.int p0), (.int p1), (.int (0 : Int32)), (.int (0 : Int32))] (.int (0 : Int32)) := Arv.set Ar229 q229 S229 N229 H229 G229 rfl W230 1 rfl (Nat.le_of_ble_eq_true rfl)
          show Go _ _ _ _ _ _ _ (T230.setTop (mkF m 123 #[.val (.int p0), .val (.int p1), .val (.int p2), .val (.int p3), .val (.int p4), .val (.int x1), .unset, .unset, .unset, .unset, .unset] [(.ref b223)]))
          refine gob (fun _ k => XS.dup X230.here hx rfl (hb hby at_123) rfl rfl k) ?_
          show Go _ _ _ _ _ _ _ (T230.setTop (mkF m 124 #[.val (.int p0), .val (.int p1), .val (.int p2), .val (.int p3), .val (.int p4), .val (.int x1), .unset, .unset, .unset, .unset, .unset] [(.ref b223), (.ref b223)]))
          refine gob (fun _ k => XS.iconst X230.here hx rfl (hb hby at_124) k) ?_
          show Go _ _ _ _ _ _ _ (T230.setTop (mkF m 125 #[.val (.int p0), .val (.int p1), .val (.int p2), .val (.int p3), .val (.int p4), .val (.int x1), .unset, .unset, .unset, .unset, .unset] [(.int (2 : Int32)), (.ref b223), (.ref b223)]))
          refine gob (fun _ k => XS.iloadN X230.here hx rfl (hb hby at_125) rfl k) ?_
          show Go _ _ _ _ _ _ _ (T230.setTop (mkF m 126 #[.val (.int p0), .val (.int p1), .val (.int p2), .val (.int p3), .val (.int p4), .val (.int x1), .unset, .unset, .unset, .unset, .unset] [(.int p2), (.int (2 : Int32)), (.ref b223), (.ref b223)]))
          obtain ⟨cl232, Ar232, q232, S232, N232, H232, G232⟩ := id V230
          have hin232 : ¬ ((2 : Int32) < 0 ∨ cl232.slots.size ≤ ((2 : Int32)).toNatClampNeg) := inb_of S232 ⟨by decide, by decide⟩
          obtain ⟨T233, h233, X233, e233, W233, st233⟩ := stI X230 hx hZ e230 Ar232 (j := (2 : Int32)) hin232 (g := (mkF m 126 #[.val (.int p0), .val (.int p1), .val (.int p2), .val (.int p3), .val (.int p4), .val (.int x1), .unset, .unset, .unset, .unset, .unset] [(.int p2), (.int (2 : Int32)), (.ref b223), (.ref b223)])) rfl rfl (hb hby at_126)
          refine gob st233 ?_
          have z234 : n0 ≤ h233.size := Nat.le_trans z231 (Keep.of_wr W233).1
          have N233 := Fr.snoc X233 N230 g224
          have V233 : Arv Z h233 b223 k223 .int (4 : Int32) [(.int p0), (.int p1), (.int p2), (.int (0 : Int32))] (.int (0 : Int32)) := Arv.set Ar232 q232 S232 N232 H232 G232 rfl W233 2 rfl (Nat.le_of_ble_eq_true rfl)
          show Go _ _ _ _ _ _ _ (T233.setTop (mkF m 127 #[.val (.int p0), .val (.int p1), .val (.int p2), .val (.int p3), .val (.int p4), .val (.int x1), .unset, .unset, .unset, .unset, .unset] [(.ref b223)]))
          refine gob (fun _ k => XS.dup X233.here hx rfl (hb hby at_127) rfl rfl k) ?_
          show Go _ _ _ _ _ _ _ (T233.setTop (mkF m 128 #[.val (.int p0), .val (.int p1), .val (.int p2), .val (.int p3), .val (.int p4), .val (.int x1), .unset, .unset, .unset, .unset, .unset] [(.ref b223), (.ref b223)]))
          refine gob (fun _ k => XS.iconst X233.here hx rfl (hb hby at_128) k) ?_
          show Go _ _ _ _ _ _ _ (T233.setTop (mkF m 129 #[.val (.int p0), .val (.int p1), .val (.int p2), .val (.int p3), .val (.int p4), .val (.int x1), .unset, .unset, .unset, .unset, .unset] [(.int (3 : Int32)), (.ref b223), (.ref b223)]))
          refine gob (fun _ k => XS.iloadN X233.here hx rfl (hb hby at_129) rfl k) ?_
          show Go _ _ _ _ _ _ _ (T233.setTop (mkF m 130 #[.val (.int p0), .val (.int p1), .val (.int p2), .val (.int p3), .val (.int p4), .val (.int x1), .unset, .unset, .unset, .unset, .unset] [(.int p3), (.int (3 : Int32)), (.ref b223), (.ref b223)]))
          obtain ⟨cl235, Ar235, q235, S235, N235, H235, G235⟩ := id V233
          have hin235 : ¬ ((3 : Int32) < 0 ∨ cl235.slots.size ≤ ((3 : Int32)).toNatClampNeg) := inb_of S235 ⟨by decide, by decide⟩
          obtain ⟨T236, h236, X236, e236, W236, st236⟩ := stI X233 hx hZ e233 Ar235 (j := (3 : Int32)) hin235 (g := (mkF m 130 #[.val (.int p0), .val (.int p1), .val (.int p2), .val (.int p3), .val (.int p4), .val (.int x1), .unset, .unset, .unset, .unset, .unset] [(.int p3), (.int (3 : Int32)), (.ref b223), (.ref b223)])) rfl rfl (hb hby at_130)
          refine gob st236 ?_
          have z237 : n0 ≤ h236.size := Nat.le_trans z234 (Keep.of_wr W236).1
          have N236 := Fr.snoc X236 N233 g224
          have V236 : Arv Z h236 b223 k223 .int (4 : Int32) [(.int p0), (.int p1), (.int p2), (.int p3)] (.int (0 : Int32)) := Arv.set Ar235 q235 S235 N235 H235 G235 rfl W236 3 rfl (Nat.le_of_ble_eq_true rfl)
          show Go _ _ _ _ _ _ _ (T236.setTop (mkF m 131 #[.val (.int p0), .val (.int p1), .val (.int p2), .val (.int p3), .val (.int p4), .val (.int x1), .unset, .unset, .unset, .unset, .unset] [(.ref b223)]))
          refine gob (fun _ k => XS.astore X236.here hx rfl (hb hby at_131) rfl rfl (l' := #[.val (.int p0), .val (.int p1), .val (.int p2), .val (.int p3), .val (.int p4), .val (.int x1), .val (.ref b223), .unset, .unset, .unset, .unset]) rfl k) ?_
          show Go _ _ _ _ _ _ _ (T236.setTop (mkF m 133 #[.val (.int p0), .val (.int p1), .val (.int p2), .val (.int p3), .val (.int p4), .val (.int x1), .val (.ref b223), .unset, .unset, .unset, .unset] []))
          refine gob (fun _ k => XS.iloadN X236.here hx rfl (hb hby at_133) rfl k) ?_
          show Go _ _ _ _ _ _ _ (T236.setTop (mkF m 134 #[.val (.int p0), .val (.int p1), .val (.int p2), .val (.int p3), .val (.int p4), .val (.int x1), .val (.ref b223), .unset, .unset, .unset, .unset] [(.int p0)]))
          refine gob (fun _ k => XS.i2l X236.here hx rfl (hb hby at_134) rfl k) ?_
          show Go _ _ _ _ _ _ _ (T236.setTop (mkF m 135 #[.val (.int p0), .val (.int p1), .val (.int p2), .val (.int p3), .val (.int p4), .val (.int x1), .val (.ref b223), .unset, .unset, .unset, .unset] [(.long (p0.toInt64))]))
          refine gob (fun _ k => XS.iloadN X236.here hx rfl (hb hby at_135) rfl k) ?_
          show Go _ _ _ _ _ _ _ (T236.setTop (mkF m 136 #[.val (.int p0), .val (.int p1), .val (.int p2), .val (.int p3), .val (.int p4), .val (.int x1), .val (.ref b223), .unset, .unset, .unset, .unset] [(.int p1), (.long (p0.toInt64))]))
          refine gob (fun _ k => XS.i2l X236.here hx rfl (hb hby at_136) rfl k) ?_
          show Go _ _ _ _ _ _ _ (T236.setTop (mkF m 137 #[.val (.int p0), .val (.int p1), .val (.int p2), .val (.int p3), .val (.int p4), .val (.int x1), .val (.ref b223), .unset, .unset, .unset, .unset] [(.long (p1.toInt64)), (.long (p0.toInt64))]))
          refine gob (fun _ k => XS.ladd X236.here hx rfl (hb hby at_137) rfl k) ?_
          show Go _ _ _ _ _ _ _ (T236.setTop (mkF m 138 #[.val (.int p0), .val (.int p1), .val (.int p2), .val (.int p3), .val (.int p4), .val (.int x1), .val (.ref b223), .unset, .unset, .unset, .unset] [(.long ((p0.toInt64) + (p1.toInt64)))]))
          refine gob (fun _ k => XS.iloadN X236.here hx rfl (hb hby at_138) rfl k) ?_
          show Go _ _ _ _ _ _ _ (T236.setTop (mkF m 139 #[.val (.int p0), .val (.int p1), .val (.int p2), .val (.int p3), .val (.int p4), .val (.int x1), .val (.ref b223), .unset, .unset, .unset, .unset] [(.int p2), (.long ((p0.toInt64) + (p1.toInt64)))]))
          refine gob (fun _ k => XS.i2l X236.here hx rfl (hb hby at_139) rfl k) ?_
          show Go _ _ _ _ _ _ _ (T236.setTop (mkF m 140 #[.val (.int p0), .val (.int p1), .val (.int p2), .val (.int p3), .val (.int p4), .val (.int x1), .val (.ref b223), .unset, .unset, .unset, .unset] [(.long (p2.toInt64)), (.long ((p0.toInt64) + (p1.toInt64)))]))
          refine gob (fun _ k => XS.ladd X236.here hx rfl (hb hby at_140) rfl k) ?_
          show Go _ _ _ _ _ _ _ (T236.setTop (mkF m 141 #[.val (.int p0), .val (.int p1), .val (.int p2), .val (.int p3), .val (.int p4), .val (.int x1), .val (.ref b223), .unset, .unset, .unset, .unset] [(.long (((p0.toInt64) + (p1.toInt64)) + (p2.toInt64)))]))
          refine gob (fun _ k => XS.iloadN X236.here hx rfl (hb hby at_141) rfl k) ?_
          show Go _ _ _ _ _ _ _ (T236.setTop (mkF m 142 #[.val (.int p0), .val (.int p1), .val (.int p2), .val (.int p3), .val (.int p4), .val (.int x1), .val (.ref b223), .unset, .unset, .unset, .unset] [(.int p3), (.long (((p0.toInt64) + (p1.toInt64)) + (p2.toInt64)))]))
          refine gob (fun _ k => XS.i2l X236.here hx rfl (hb hby at_142) rfl k) ?_
          show Go _ _ _ _ _ _ _ (T236.setTop (mkF m 143 #[.val (.int p0), .val (.int p1), .val (.int p2), .val (.int p3), .val (.int p4), .val (.int x1), .val (.ref b223), .unset, .unset, .unset, .unset] [(.long (p3.toInt64)), (.long (((p0.toInt64) + (p1.toInt64)) + (p2.toInt64)))]))
          refine gob (fun _ k => XS.ladd X236.here hx rfl (hb hby at_143) rfl k) ?_
          show Go _ _ _ _ _ _ _ (T236.setTop (mkF m 144 #[.val (.int p0), .val (.int p1), .val (.int p2), .val (.int p3), .val (.int p4), .val (.int x1), .val (.ref b223), .unset, .unset, .unset, .unset] [(.long ((((p0.toInt64) + (p1.toInt64)) + (p2.toInt64)) + (p3.toInt64)))]))
          refine gob (fun _ k => XS.lstore X236.here hx rfl (hb hby at_144) rfl (l' := #[.val (.int p0), .val (.int p1), .val (.int p2), .val (.int p3), .val (.int p4), .val (.int x1), .val (.ref b223), .val (.long ((((p0.toInt64) + (p1.toInt64)) + (p2.toInt64)) + (p3.toInt64))), .second, .unset, .unset]) rfl k) ?_
          show Go _ _ _ _ _ _ _ (T236.setTop (mkF m 146 #[.val (.int p0), .val (.int p1), .val (.int p2), .val (.int p3), .val (.int p4), .val (.int x1), .val (.ref b223), .val (.long ((((p0.toInt64) + (p1.toInt64)) + (p2.toInt64)) + (p3.toInt64))), .second, .unset, .unset] []))
          generalize hx238 : ((((p0.toInt64) + (p1.toInt64)) + (p2.toInt64)) + (p3.toInt64)) = x238
          show Go _ _ _ _ _ _ _ (T236.setTop (mkF m 146 #[.val (.int p0), .val (.int p1), .val (.int p2), .val (.int p3), .val (.int p4), .val (.int x1), .val (.ref b223), .val (.long x238), .second, .unset, .unset] []))
          refine gob (fun _ k => XS.iload X236.here hx rfl (hb hby at_146) rfl k) ?_
          show Go _ _ _ _ _ _ _ (T236.setTop (mkF m 148 #[.val (.int p0), .val (.int p1), .val (.int p2), .val (.int p3), .val (.int p4), .val (.int x1), .val (.ref b223), .val (.long x238), .second, .unset, .unset] [(.int x1)]))
          refine gob (fun _ k => XS.iconst X236.here hx rfl (hb hby at_148) k) ?_
          show Go _ _ _ _ _ _ _ (T236.setTop (mkF m 149 #[.val (.int p0), .val (.int p1), .val (.int p2), .val (.int p3), .val (.int p4), .val (.int x1), .val (.ref b223), .val (.long x238), .second, .unset, .unset] [(.int (1 : Int32)), (.int x1)]))
          refine gob (fun _ k => XS.iadd X236.here hx rfl (hb hby at_149) rfl k) ?_
          show Go _ _ _ _ _ _ _ (T236.setTop (mkF m 150 #[.val (.int p0), .val (.int p1), .val (.int p2), .val (.int p3), .val (.int p4), .val (.int x1), .val (.ref b223), .val (.long x238), .second, .unset, .unset] [(.int (x1 + (1 : Int32)))]))
          have ha240 : 0 ≤ (x1 + (1 : Int32)).toInt ∧ (x1 + (1 : Int32)).toInt ≤ 5 := (la_0_150_241 p4 x1 hx1 hc11_2 hc28_52 hc50_106 hc79_163)
          obtain ⟨T239, h239, k239, X239, e239, E239, A239, st239⟩ := newP X236 hx hZ (hw _ (List.mem_of_getElem? (i := 1) rfl)) e236 (g := (mkF m 150 #[.val (.int p0), .val (.int p1), .val (.int p2), .val (.int p3), .val (.int p4), .val (.int x1), .val (.ref b223), .val (.long x238), .second, .unset, .unset] [(.int (x1 + (1 : Int32)))])) rfl (hb hby at_150) rfl (own_nn ha240.1) (cap := 5) (own_cap ha240.1 ha240.2) (by decide) (by decide) (by decide)
          obtain ⟨b239, g239⟩ : ∃ z, z = h236.size := ⟨_, rfl⟩
          rw [← g239] at A239 st239
          have n242 : b223 ≠ b239 := Nat.ne_of_lt (Nat.lt_of_lt_of_le V236.lt (Nat.le_of_eq g239.symm))
          have g243 : n0 ≤ b239 := Nat.le_trans z237 (Nat.le_of_eq g239.symm)
          have z244 : n0 ≤ h239.size := Nat.le_trans z237 E239.1
          have V239 : Arv Z h239 b239 k239 .int (x1 + (1 : Int32)) [] (.int (0 : Int32)) := Arv.new A239 (own_nn ha240.1)
          refine gob st239 ?_
          show Go _ _ _ _ _ _ _ (T239.setTop (mkF m 152 #[.val (.int p0), .val (.int p1), .val (.int p2), .val (.int p3), .val (.int p4), .val (.int x1), .val (.ref b223), .val (.long x238), .second, .unset, .unset] [(.ref b239)]))
          refine gob (fun _ k => XS.astore X239.here hx rfl (hb hby at_152) rfl rfl (l' := #[.val (.int p0), .val (.int p1), .val (.int p2), .val (.int p3), .val (.int p4), .val (.int x1), .val (.ref b223), .val (.long x238), .second, .val (.ref b239), .unset]) rfl k) ?_
          show Go _ _ _ _ _ _ _ (T239.setTop (mkF m 154 #[.val (.int p0), .val (.int p1), .val (.int p2), .val (.int p3), .val (.int p4), .val (.int x1), .val (.ref b223), .val (.long x238), .second, .val (.ref b239), .unset] []))
          obtain ⟨T245, h245, X245, e245, E245, A245, D245, -, st245⟩ := newO X239 hx hZ hown (hw _ (List.mem_of_getElem? (i := 2) rfl)) (hw _ (List.mem_of_getElem? (i := 3) rfl)) (hw _ (List.mem_of_getElem? (i := 4) rfl)) e239 (g := (mkF m 154 #[.val (.int p0), .val (.int p1), .val (.int p2), .val (.int p3), .val (.int p4), .val (.int x1), .val (.ref b223), .val (.long x238), .second, .val (.ref b239), .unset] [])) rfl (hb hby at_154) (by decide) (by decide)
          obtain ⟨b245, g245⟩ : ∃ z, z = h239.size := ⟨_, rfl⟩
          rw [← g245] at A245 D245 st245
          have c246 := (V236.ext E239)
          have n247 : b223 ≠ b245 := Nat.ne_of_lt (Nat.lt_of_lt_of_le c246.lt (Nat.le_of_eq g245.symm))
          have n248 : b239 ≠ b245 := Nat.ne_of_lt (Nat.lt_of_lt_of_le V239.lt (Nat.le_of_eq g245.symm))
          have g249 : n0 ≤ b245 := Nat.le_trans z244 (Nat.le_of_eq g245.symm)
          have z250 : n0 ≤ h245.size := Nat.le_trans z244 E245.1
          have F245_start : Fld Z h245 b245 "com/example/fenda/fenda/linalg/Graph" "start" "[I" .null := D245 (Or.inr (hw _ (List.mem_of_getElem? (i := 12) rfl))) (ty := (.array .int)) (by decide)
          have F245_adjacent : Fld Z h245 b245 "com/example/fenda/fenda/linalg/Graph" "adjacent" "[I" .null := D245 (Or.inr (hw _ (List.mem_of_getElem? (i := 14) rfl))) (ty := (.array .int)) (by decide)
          have F245_edgeWeights : Fld Z h245 b245 "com/example/fenda/fenda/linalg/Graph" "edgeWeights" "[I" .null := D245 (Or.inr (hw _ (List.mem_of_getElem? (i := 16) rfl))) (ty := (.array .int)) (by decide)
          have F245_weights : Fld Z h245 b245 "com/example/fenda/fenda/linalg/Graph" "weights" "[I" .null := D245 (Or.inr (hw _ (List.mem_of_getElem? (i := 18) rfl))) (ty := (.array .int)) (by decide)
          refine gob st245 ?_
          show Go _ _ _ _ _ _ _ (T245.setTop (mkF m 157 #[.val (.int p0), .val (.int p1), .val (.int p2), .val (.int p3), .val (.int p4), .val (.int x1), .val (.ref b223), .val (.long x238), .second, .val (.ref b239), .unset] [(.ref b245)]))
          refine gob (fun _ k => XS.dup X245.here hx rfl (hb hby at_157) rfl rfl k) ?_
          show Go _ _ _ _ _ _ _ (T245.setTop (mkF m 158 #[.val (.int p0), .val (.int p1), .val (.int p2), .val (.int p3), .val (.int p4), .val (.int x1), .val (.ref b223), .val (.long x238), .second, .val (.ref b239), .unset] [(.ref b245), (.ref b245)]))
          refine gob (fun _ k => XS.aload X245.here hx rfl (hb hby at_158) rfl rfl k) ?_
          show Go _ _ _ _ _ _ _ (T245.setTop (mkF m 160 #[.val (.int p0), .val (.int p1), .val (.int p2), .val (.int p3), .val (.int p4), .val (.int x1), .val (.ref b223), .val (.long x238), .second, .val (.ref b239), .unset] [(.ref b239), (.ref b245), (.ref b245)]))
          refine gob (fun _ k => XS.iconst X245.here hx rfl (hb hby at_160) k) ?_
          show Go _ _ _ _ _ _ _ (T245.setTop (mkF m 161 #[.val (.int p0), .val (.int p1), .val (.int p2), .val (.int p3), .val (.int p4), .val (.int x1), .val (.ref b223), .val (.long x238), .second, .val (.ref b239), .unset] [(.int (0 : Int32)), (.ref b239), (.ref b245), (.ref b245)]))
          obtain ⟨T251, h251, k251, X251, e251, E251, A251, st251⟩ := newP X245 hx hZ (hw _ (List.mem_of_getElem? (i := 1) rfl)) e245 (g := (mkF m 161 #[.val (.int p0), .val (.int p1), .val (.int p2), .val (.int p3), .val (.int p4), .val (.int x1), .val (.ref b223), .val (.long x238), .second, .val (.ref b239), .unset] [(.int (0 : Int32)), (.ref b239), (.ref b245), (.ref b245)])) rfl (hb hby at_161) rfl (by decide) (cap := 0) (by decide) (by decide) (by decide) (by decide)
          obtain ⟨b251, g251⟩ : ∃ z, z = h245.size := ⟨_, rfl⟩
          rw [← g251] at A251 st251
          have c252 := (c246.ext E245)
          have n253 : b223 ≠ b251 := Nat.ne_of_lt (Nat.lt_of_lt_of_le c252.lt (Nat.le_of_eq g251.symm))
          have c254 := (V239.ext E245)
          have n255 : b239 ≠ b251 := Nat.ne_of_lt (Nat.lt_of_lt_of_le c254.lt (Nat.le_of_eq g251.symm))
          have n256 : b245 ≠ b251 := Nat.ne_of_lt (Nat.lt_of_lt_of_le A245.lt (Nat.le_of_eq g251.symm))
          have g257 : n0 ≤ b251 := Nat.le_trans z250 (Nat.le_of_eq g251.symm)
          have z258 : n0 ≤ h251.size := Nat.le_trans z250 E251.1
          have V251 : Arv Z h251 b251 k251 .int (0 : Int32) [] (.int (0 : Int32)) := Arv.new A251 (by decide)
          refine gob st251 ?_
          show Go _ _ _ _ _ _ _ (T251.setTop (mkF m 163 #[.val (.int p0), .val (.int p1), .val (.int p2), .val (.int p3), .val (.int p4), .val (.int x1), .val (.ref b223), .val (.long x238), .second, .val (.ref b239), .unset] [(.ref b251), (.ref b239), (.ref b245), (.ref b245)]))
          refine gob (fun _ k => XS.iconst X251.here hx rfl (hb hby at_163) k) ?_
          show Go _ _ _ _ _ _ _ (T251.setTop (mkF m 164 #[.val (.int p0), .val (.int p1), .val (.int p2), .val (.int p3), .val (.int p4), .val (.int x1), .val (.ref b223), .val (.long x238), .second, .val (.ref b239), .unset] [(.int (0 : Int32)), (.ref b251), (.ref b239), (.ref b245), (.ref b245)]))
          obtain ⟨T259, h259, k259, X259, e259, E259, A259, st259⟩ := newP X251 hx hZ (hw _ (List.mem_of_getElem? (i := 1) rfl)) e251 (g := (mkF m 164 #[.val (.int p0), .val (.int p1), .val (.int p2), .val (.int p3), .val (.int p4), .val (.int x1), .val (.ref b223), .val (.long x238), .second, .val (.ref b239), .unset] [(.int (0 : Int32)), (.ref b251), (.ref b239), (.ref b245), (.ref b245)])) rfl (hb hby at_164) rfl (by decide) (cap := 0) (by decide) (by decide) (by decide) (by decide)
          obtain ⟨b259, g259⟩ : ∃ z, z = h251.size := ⟨_, rfl⟩
          rw [← g259] at A259 st259
          have c260 := (c252.ext E251)
          have n261 : b223 ≠ b259 := Nat.ne_of_lt (Nat.lt_of_lt_of_le c260.lt (Nat.le_of_eq g259.symm))
          have c262 := (c254.ext E251)
          have n263 : b239 ≠ b259 := Nat.ne_of_lt (Nat.lt_of_lt_of_le c262.lt (Nat.le_of_eq g259.symm))
          have c264 := (A245.ext E251)
          have n265 : b245 ≠ b259 := Nat.ne_of_lt (Nat.lt_of_lt_of_le c264.lt (Nat.le_of_eq g259.symm))
          have n266 : b251 ≠ b259 := Nat.ne_of_lt (Nat.lt_of_lt_of_le V251.lt (Nat.le_of_eq g259.symm))
          have g267 : n0 ≤ b259 := Nat.le_trans z258 (Nat.le_of_eq g259.symm)
          have z268 : n0 ≤ h259.size := Nat.le_trans z258 E259.1
          have V259 : Arv Z h259 b259 k259 .int (0 : Int32) [] (.int (0 : Int32)) := Arv.new A259 (by decide)
          refine gob st259 ?_
          show Go _ _ _ _ _ _ _ (T259.setTop (mkF m 166 #[.val (.int p0), .val (.int p1), .val (.int p2), .val (.int p3), .val (.int p4), .val (.int x1), .val (.ref b223), .val (.long x238), .second, .val (.ref b239), .unset] [(.ref b259), (.ref b251), (.ref b239), (.ref b245), (.ref b245)]))
          refine gob (fun _ k => XS.aload X259.here hx rfl (hb hby at_166) rfl rfl k) ?_
          show Go _ _ _ _ _ _ _ (T259.setTop (mkF m 168 #[.val (.int p0), .val (.int p1), .val (.int p2), .val (.int p3), .val (.int p4), .val (.int x1), .val (.ref b223), .val (.long x238), .second, .val (.ref b239), .unset] [(.ref b223), (.ref b259), (.ref b251), (.ref b239), (.ref b245), (.ref b245)]))
          have c270 := (c264.ext E259)
          have c271 := ((F245_start.ext E251).ext E259)
          have c272 := ((F245_adjacent.ext E251).ext E259)
          have c273 := ((F245_edgeWeights.ext E251).ext E259)
          have c274 := ((F245_weights.ext E251).ext E259)
          obtain ⟨_, _, ⟨T269, L269, k269, n269⟩, -, X269, ⟨Lc269, hQ269, l269, y269, z269⟩, st269⟩ := X259.specialBack hx (y := (⟨"com/example/fenda/fenda/linalg/Graph", "<init>", "([I[I[I[I)V"⟩ : MethodName)) rfl hown (mvT hZ (hw _ (List.mem_of_getElem? (i := 5) rfl))) (mvT hZ (hw _ (List.mem_of_getElem? (i := 6) rfl))) (mvT hZ (hw _ (List.mem_of_getElem? (i := 7) rfl))) (by decide) (backOf (W := 1) (rm1 l Z a0 hw [] b245 b239 b251 b259 b223 h259 n0 z268 c270 c271 g249 c272 c273 c274) hZ (hw _ (List.mem_of_getElem? (i := 7) rfl)) (hw _ (List.mem_of_getElem? (i := 4) rfl)) (by decide) (by decide)) (g := (mkF m 168 #[.val (.int p0), .val (.int p1), .val (.int p2), .val (.int p3), .val (.int p4), .val (.int x1), .val (.ref b223), .val (.long x238), .second, .val (.ref b239), .unset] [(.ref b223), (.ref b259), (.ref b251), (.ref b239), (.ref b245), (.ref b245)])) rfl (by rw [hml]; rfl) (Steps.refl _) (a := b245) (argsL := [(.ref b239), (.ref b251), (.ref b259), (.ref b223)]) (rest := [(.ref b245)]) (lenOf pd_0 rfl) rfl (by show 2 * 0 + _ ≤ _; exact Nat.le_of_eq rfl) (hb hby at_168) (fun _ _ => ⟨rfl, e259, (by decide : 5 + 0 ≤ _), (by decide : 13 + 0 ≤ _)⟩)
          dsimp only [Pt.U, Pt.locs, Pt.cells, Pt.slots] at X269 l269 y269 z269 st269 hQ269
          subst l269 y269 z269
          obtain ⟨rfl, Nq269, K269, F275, F276, F277, F278⟩ := hQ269
          have N269 := Fr.app N236 Nq269
          have z279 : n0 ≤ T269.heap.size := Nat.le_trans z268 K269.1
          refine gob (fun _ k => st269.trans k) ?_
          show Go _ _ _ _ _ _ _ (T269.setTop (mkF m 171 #[.val (.int p0), .val (.int p1), .val (.int p2), .val (.int p3), .val (.int p4), .val (.int x1), .val (.ref b223), .val (.long x238), .second, .val (.ref b239), .unset] [(.ref b245)]))
          refine gob (fun _ k => XS.astore X269.here hx rfl (hb hby at_171) rfl rfl (l' := #[.val (.int p0), .val (.int p1), .val (.int p2), .val (.int p3), .val (.int p4), .val (.int x1), .val (.ref b223), .val (.long x238), .second, .val (.ref b239), .val (.ref b245)]) rfl k) ?_
          show Go _ _ _ _ _ _ _ (T269.setTop (mkF m 173 #[.val (.int p0), .val (.int p1), .val (.int p2), .val (.int p3), .val (.int p4), .val (.int x1), .val (.ref b223), .val (.long x238), .second, .val (.ref b239), .val (.ref b245)] []))
          refine gob (fun _ k => XS.aload X269.here hx rfl (hb hby at_173) rfl rfl k) ?_
          show Go _ _ _ _ _ _ _ (T269.setTop (mkF m 175 #[.val (.int p0), .val (.int p1), .val (.int p2), .val (.int p3), .val (.int p4), .val (.int x1), .val (.ref b223), .val (.long x238), .second, .val (.ref b239), .val (.ref b245)] [(.ref b245)]))
          have c281 := ((c260.ext E259).keep K269 (ninS n247 nin0))
          have c282 := (c270.keep K269)
          obtain ⟨cq280, kq280, q280a, q280b, q280c⟩ := isOf hZ (rfl : T269.heap = _) c282
          obtain ⟨_, _, ⟨T280, L280, k280, n280⟩, -, X280, ⟨Lc280, hQ280, l280, y280, z280⟩, st280⟩ := X269.virtualBack hx (y := (⟨"com/example/fenda/fenda/linalg/Graph", "totalWeight", "()J"⟩ : MethodName)) (z := (⟨"com/example/fenda/fenda/linalg/Graph", "totalWeight", "()J"⟩ : MethodName)) hown (mvT hZ (hw _ (List.mem_of_getElem? (i := 19) rfl))) (mvT hZ (hw _ (List.mem_of_getElem? (i := 20) rfl))) (notFace_of_selects (args := #[]) (mvT hZ (hw _ (List.mem_of_getElem? (i := 22) rfl)))) (mvT hZ (hw _ (List.mem_of_getElem? (i := 22) rfl))) (mvT hZ (hw _ (List.mem_of_getElem? (i := 21) rfl))) (by decide) (backOf (W := 0) (rm3_4 l Z a0 hw [] b245 b223 k223 p0 p1 p2 p3 T269.heap n0 z279 F278 c281) hZ (hw _ (List.mem_of_getElem? (i := 23) rfl)) (hw _ (List.mem_of_getElem? (i := 4) rfl)) (by decide) (by decide)) q280a q280c (g := (mkF m 175 #[.val (.int p0), .val (.int p1), .val (.int p2), .val (.int p3), .val (.int p4), .val (.int x1), .val (.ref b223), .val (.long x238), .second, .val (.ref b239), .val (.ref b245)] [(.ref b245)])) rfl (by rw [hml]; rfl) (Steps.refl _) (argsL := []) (rest := []) (lenOf pd_1 rfl) rfl (by show 2 * 0 + _ ≤ _; exact Nat.le_of_eq rfl) (hb hby at_175) (fun _ _ => ⟨rfl, (rfl : T269.heap = _), (by decide : 5 + 0 ≤ _), (by decide : 13 + 0 ≤ _)⟩)
          dsimp only [Pt.U, Pt.locs, Pt.cells, Pt.slots] at X280 l280 y280 z280 st280 hQ280
          subst l280 y280 z280
          obtain ⟨r280, rfl, hr280, Nq280, e280⟩ := hQ280
          have N280 := Fr.app N269 Nq280
          refine gob (fun _ k => st280.trans k) ?_
          show Go _ _ _ _ _ _ _ (T280.setTop (mkF m 178 #[.val (.int p0), .val (.int p1), .val (.int p2), .val (.int p3), .val (.int p4), .val (.int x1), .val (.ref b223), .val (.long x238), .second, .val (.ref b239), .val (.ref b245)] [(.long r280)]))
          refine gob (fun _ k => XS.lload X280.here hx rfl (hb hby at_178) rfl k) ?_
          show Go _ _ _ _ _ _ _ (T280.setTop (mkF m 180 #[.val (.int p0), .val (.int p1), .val (.int p2), .val (.int p3), .val (.int p4), .val (.int x1), .val (.ref b223), .val (.long x238), .second, .val (.ref b239), .val (.ref b245)] [(.long x238), (.long r280)]))
          refine gob (fun _ k => XS.lcmp X280.here hx rfl (hb hby at_180) rfl k) ?_
          show Go _ _ _ _ _ _ _ (T280.setTop (mkF m 181 #[.val (.int p0), .val (.int p1), .val (.int p2), .val (.int p3), .val (.int p4), .val (.int x1), .val (.ref b223), .val (.long x238), .second, .val (.ref b239), .val (.ref b245)] [(.int (lcmpW r280 x238))]))
          have hd284 : r280 = x238 := ld_0_181_283 p0 p1 p2 p3 x238 r280 hx238 hr280
          refine gob (fun _ k => XS.ifNo X280.here hx rfl (hb hby at_181) rfl ((if0 _ _).trans (teq ((lw_eq _ _).mpr hd284)).2) k) ?_
          show Go _ _ _ _ _ _ _ (T280.setTop (mkF m 184 #[.val (.int p0), .val (.int p1), .val (.int p2), .val (.int p3), .val (.int p4), .val (.int x1), .val (.ref b223), .val (.long x238), .second, .val (.ref b239), .val (.ref b245)] []))
          refine gob (fun _ k => XS.iconst X280.here hx rfl (hb hby at_184) k) ?_
          show Go _ _ _ _ _ _ _ (T280.setTop (mkF m 185 #[.val (.int p0), .val (.int p1), .val (.int p2), .val (.int p3), .val (.int p4), .val (.int x1), .val (.ref b223), .val (.long x238), .second, .val (.ref b239), .val (.ref b245)] [(.int (1 : Int32))]))
          refine gob (fun _ k => XS.goto X280.here hx rfl (pc0 := 185) (pc' := 189) rfl (hb hby at_185) (by decide) (by decide) k) ?_
          show Go _ _ _ _ _ _ _ (T280.setTop (mkF m 189 #[.val (.int p0), .val (.int p1), .val (.int p2), .val (.int p3), .val (.int p4), .val (.int x1), .val (.ref b223), .val (.long x238), .second, .val (.ref b239), .val (.ref b245)] [(.int (1 : Int32))]))
          refine goZ X280 hx hlk (t := .boolean) Bd.returns (by simp) (hb hby at_189) (z' := (1 : Int32)) rfl ?_ (by decide) (by decide)
          show Q0 Z p0 p1 p2 p3 p4 h0 n0 (some (.int (1 : Int32))) T280.heap _
          exact ⟨rfl, N280⟩
set_option maxRecDepth 65536 in
set_option maxHeartbeats 40000000 in
theorem comes_1 {Post : Tables → Env → Array Value → State → Outcome → State → Prop} (hpost : ∀ tb e args s v u, (limb_1_1.after args s (.returned v) u = true ∧ limb_1_2.after args s (.returned v) u = true ∧ True) → FrameEnd s (.returned v) u (Jvm.fieldLocs frame_1_writes args s ++ Jvm.arrayLocs frame_1_arrays args s ++ Jvm.staticLocs frame_1_statics s) 24 128 → Post tb e args s (.returned v) u) :
    ArmFor flags0 classFile x code maxLocals ret World_1 tables_1 room_1 Calls_1 rest_1 Pre_1 Post := by
  intro l hfl _ _ p e ha hc hk s m args below hf hA hF happ hP
  obtain ⟨hcalls, hrest, hpre⟩ := hP
  obtain ⟨-, -, -, hnamed, -, -, -, hat⟩ := (Spec.applies_iff hf).mp happ
  obtain ⟨hg, hn⟩ := and_e (Cond.before_iff.mp (show (Jvm.Cond.and given_1 narrow_1).before args s = true from hpre))
  obtain ⟨g1, g2⟩ := and_e hg
  obtain ⟨g3, g4⟩ := and_e g2
  obtain ⟨g5, g6⟩ := and_e g4
  obtain ⟨g7, g8⟩ := and_e g6
  obtain ⟨g9, g10⟩ := and_e g8
  obtain ⟨w0, w1, w2, w3, w4, rfl⟩ : ∃ w0 w1 w2 w3 w4 : Value, args = #[w0, w1, w2, w3, w4] := by
    have hs : args.size = 5 := by simpa [Cond.value, given_1] using g1
    obtain ⟨L⟩ := args
    match L, hs with
    | [w0, w1, w2, w3, w4], _ => exact ⟨w0, w1, w2, w3, w4, rfl⟩
  have hw := fun d (hd : d ∈ tables_1) => atoms_spec (ws := Jvm.Cond.code x code maxLocals ret :: tables_1) hat d (List.mem_cons_of_mem _ hd)
  have hfit : Fit s := fun {y c} hc i hi => by
    obtain ⟨ha, rfl⟩ := Array.getElem?_eq_some_iff.mp hc
    have q := List.all_eq_true.mp ((Array.all_eq_true_iff_forall_mem.mp hF) _ (Array.getElem_mem ha)) i (List.mem_range.mpr hi)
    simpa [Array.getElem?_eq_getElem hi] using q
  obtain ⟨i0, ei0⟩ := is_v g3
  obtain rfl : w0 = (.int i0) := Option.some.inj ei0
  obtain ⟨i1, ei1⟩ := is_v g5
  obtain rfl : w1 = (.int i1) := Option.some.inj ei1
  obtain ⟨i2, ei2⟩ := is_v g7
  obtain rfl : w2 = (.int i2) := Option.some.inj ei2
  obtain ⟨i3, ei3⟩ := is_v g9
  obtain rfl : w3 = (.int i3) := Option.some.inj ei3
  obtain ⟨i4, ei4⟩ := is_v g10
  obtain rfl : w4 = (.int i4) := Option.some.inj ei4
  obtain ⟨n, o, h1, h2, h3, _, L, rfl, ⟨rfl, N⟩, hq⟩ := rm0 l s _ hw tables_1 i0 i1 i2 i3 i4 s.heap s.heap.size (Nat.le_refl _)  p e ha hc hk s m _ below hf ((Spec.applies_iff_loose hf).mp happ).1 ⟨rfl, State.Warmed39.refl s, rfl⟩ trivial
  exact ⟨n, _, h1, h2, h3, hpost _ _ _ _ _ _ ⟨Cond.after_iff.mpr rfl, Cond.after_iff.mpr (eq_i res_at (Term.int_eval (1)) rfl), trivial⟩ ⟨hq.1, hq.2.1, (hq.2.2.sift fun y hy => Or.inr (N y hy)).mono (by decide) (by decide)⟩⟩
theorem main_1_1 : Claimed_1_1 := comes_1 fun _ _ _ _ _ _ h hF => ⟨h.1, hF⟩
theorem main_1_2 : Claimed_1_2 := comes_1 fun _ _ _ _ _ _ h hF => ⟨h.2.1, hF⟩
end Jvm.Pilot.@@N@@
namespace Jvm.Pilot.@@N@@
open Jvm Jvm.ClassFile Sem Op Lib Jvm.Free Jvm.Stand Jvm.Pilot.@@N@@.Jvm.D
/-! MADE BY PROGRAM (witnessworld.py) out of the Statement's table words and the real class files: 9 classes; the members and pool entries that the words name. The judged class is class 1, her method 1. -/
namespace start1
open Jvm.ClassFile
def u (s : String) : CpInfo := .utf8 (stringToUtf16 s)
/-- a pool by its gaps: so many unusable entries, then the entry; so many at the end -/
def gap : Nat → List CpInfo → List CpInfo
  | 0, r => r
  | n + 1, r => .unusable :: gap n r
def poolList (es : List (Nat × CpInfo)) (last : Nat) : List CpInfo := es.foldr (fun e r => gap e.1 (e.2 :: r)) (gap last [])
def pool (es : List (Nat × CpInfo)) (last : Nat) : Array CpInfo := ⟨poolList es last⟩
def fileOf (pool : Array CpInfo) (this : Nat) (attrs : Array Attribute := #[]) (ms : Array MethodInfo := #[]) (fl : Nat := 33) (sup : Nat := 0) (ifs : Array Nat := #[]) (fds : Array FieldInfo := #[]) : ClassFile where
  minorVersion := 0
  majorVersion := 65
  constantPool := pool
  accessFlags := fl
  thisClass := this
  superClass := sup
  interfaces := ifs
  fields := fds
  methods := ms
  attributes := attrs
def plain (name : String) (sup : Option ClassId) : Class where
  name := name
  kind := .ordinary
  loader := none
  accessFlags := 33
  super := sup
  interfaces := #[]
  cf := none
  fields := #[]
  methods := #[]
  instanceTypes := #[]
  staticTypes := #[]
  resolved := #[]
  callSites := []
  init := .initialized
  statics := none
  mirror := none

def pool0 : Array CpInfo := pool [(5, u "<init>"), (0, u "()V"), (1, .class_ 10), (1, u "java/lang/Object")] 113

def k0c0 : Code := { maxStack := 0, maxLocals := 1, code := object_method_1_code, exceptionTable := #[], attributes := #[] }
def k0m0 : Method := { name := "<init>", desc := "()V", sig := { parameters := [], returnType := none }, accessFlags := 1, code := some k0c0 }
/-- java/lang/Object -/
def k0 : Class := { plain "java/lang/Object" none with
  accessFlags := 33
  interfaces := #[]
  cf := some (fileOf pool0 8 #[] #[{ accessFlags := 1, nameIndex := 5, descriptorIndex := 6, attributes := #[] }] 33 0 #[] #[])
  fields := #[]
  methods := #[k0m0]
  instanceTypes := #[]
  staticTypes := #[]
  resolved := Array.replicate 124 none
  statics := none }

def pool1 : Array CpInfo := pool [(2, .class_ 4), (1, u "java/lang/Object"), (0, u "<init>"), (0, u "()V"), (0, .integer 2147483647), (0, .class_ 9), (0, u "com/example/fenda/fenda/linalg/Graph"), (0, .methodref 8 11), (0, .nameAndType 5 12), (0, u "([I[I[I[I)V"), (0, .methodref 8 14), (0, .nameAndType 15 16), (0, u "totalWeight"), (0, u "()J"), (0, .class_ 18), (0, u "com/example/fenda/fenda/linalg/GraphTotalWeightPinLaw"), (2, u "law"), (0, u "(IIIII)Z")] 5

def k1m0 : Method := { name := "<init>", desc := "()V", sig := { parameters := [], returnType := none }, accessFlags := 1, code := none }
def k1c1 : Code := { maxStack := 6, maxLocals := 11, code := code, exceptionTable := #[], attributes := #[] }
def k1m1 : Method := { name := "law", desc := "(IIIII)Z", sig := { parameters := [.int, .int, .int, .int, .int], returnType := some .boolean }, accessFlags := 9, code := some k1c1 }
/-- com/example/fenda/fenda/linalg/GraphTotalWeightPinLaw -/
def k1 : Class := { plain "com/example/fenda/fenda/linalg/GraphTotalWeightPinLaw" (some 0) with
  accessFlags := 49
  interfaces := #[]
  cf := some (fileOf pool1 17 #[] #[{ accessFlags := 1, nameIndex := 5, descriptorIndex := 6, attributes := #[] }, { accessFlags := 9, nameIndex := 21, descriptorIndex := 22, attributes := #[] }] 49 2 #[] #[])
  fields := #[]
  methods := #[k1m0, k1m1]
  instanceTypes := #[]
  staticTypes := #[]
  resolved := Array.replicate 28 none
  statics := none }

def pool2 : Array CpInfo := pool [(1, .methodref 2 3), (0, .class_ 4), (0, .nameAndType 5 6), (0, u "java/lang/Object"), (0, u "<init>"), (0, u "()V"), (0, .fieldref 8 9), (0, .class_ 10), (0, .nameAndType 11 12), (0, u "com/example/fenda/fenda/linalg/Graph"), (0, u "start"), (0, u "[I"), (0, .fieldref 8 14), (0, .nameAndType 15 12), (0, u "adjacent"), (0, .fieldref 8 17), (0, .nameAndType 18 12), (0, u "edgeWeights"), (0, .fieldref 8 20), (0, .nameAndType 21 12), (0, u "weights"), (19, u "([I[I[I[I)V"), (13, u "totalWeight"), (0, u "()J")] 6

def k2c0 : Code := { maxStack := 2, maxLocals := 5, code := prog_66_method_1_code, exceptionTable := #[], attributes := #[] }
def k2m0 : Method := { name := "<init>", desc := "([I[I[I[I)V", sig := { parameters := [(.array .int), (.array .int), (.array .int), (.array .int)], returnType := none }, accessFlags := 0, code := some k2c0 }
def k2c1 : Code := { maxStack := 4, maxLocals := 7, code := prog_66_method_4_code, exceptionTable := #[], attributes := #[] }
def k2m1 : Method := { name := "totalWeight", desc := "()J", sig := { parameters := [], returnType := some .long }, accessFlags := 0, code := some k2c1 }
/-- com/example/fenda/fenda/linalg/Graph -/
def k2 : Class := { plain "com/example/fenda/fenda/linalg/Graph" (some 0) with
  accessFlags := 48
  interfaces := #[]
  cf := some (fileOf pool2 8 #[] #[{ accessFlags := 0, nameIndex := 5, descriptorIndex := 41, attributes := #[] }, { accessFlags := 0, nameIndex := 55, descriptorIndex := 56, attributes := #[] }] 48 2 #[] #[{ accessFlags := 16, nameIndex := 11, descriptorIndex := 12, attributes := #[] }, { accessFlags := 16, nameIndex := 15, descriptorIndex := 12, attributes := #[] }, { accessFlags := 16, nameIndex := 18, descriptorIndex := 12, attributes := #[] }, { accessFlags := 16, nameIndex := 21, descriptorIndex := 12, attributes := #[] }])
  fields := #[{ name := "start", type := (.array .int), accessFlags := 16, slot := 0, constantValue := 0 }, { name := "adjacent", type := (.array .int), accessFlags := 16, slot := 1, constantValue := 0 }, { name := "edgeWeights", type := (.array .int), accessFlags := 16, slot := 2, constantValue := 0 }, { name := "weights", type := (.array .int), accessFlags := 16, slot := 3, constantValue := 0 }]
  methods := #[k2m0, k2m1]
  instanceTypes := #[(.array .int), (.array .int), (.array .int), (.array .int)]
  staticTypes := #[]
  resolved := Array.replicate 63 none
  statics := none }

def pool3 : Array CpInfo := pool [(1, u "java/lang/Cloneable"), (0, .class_ 1), (0, u "java/lang/Object"), (0, .class_ 3)] 3

/-- java/lang/Cloneable -/
def k3 : Class := { plain "java/lang/Cloneable" (some 0) with
  accessFlags := 1537
  interfaces := #[]
  cf := some (fileOf pool3 2 #[] #[] 1537 4 #[] #[])
  fields := #[]
  methods := #[]
  instanceTypes := #[]
  staticTypes := #[]
  resolved := Array.replicate 8 none
  statics := none }

def pool4 : Array CpInfo := pool [(1, u "java/io/Serializable"), (0, .class_ 1), (0, u "java/lang/Object"), (0, .class_ 3)] 3

/-- java/io/Serializable -/
def k4 : Class := { plain "java/io/Serializable" (some 0) with
  accessFlags := 1537
  interfaces := #[]
  cf := some (fileOf pool4 2 #[] #[] 1537 4 #[] #[])
  fields := #[]
  methods := #[]
  instanceTypes := #[]
  staticTypes := #[]
  resolved := Array.replicate 8 none
  statics := none }

/-- the primitive byte -/
def k5 : Class := { plain "byte" none with kind := .primitive 'B', accessFlags := 0x411 }
/-- [B -/
def k6 : Class := { plain "[B" (some 0) with kind := .array 5 .byte, interfaces := #[3, 4], accessFlags := 1041 }

/-- the primitive int -/
def k7 : Class := { plain "int" none with kind := .primitive 'I', accessFlags := 0x411 }
/-- [I -/
def k8 : Class := { plain "[I" (some 0) with kind := .array 7 .int, interfaces := #[3, 4], accessFlags := 1041 }

def heap : Heap := #[]
def classes : Array Class := #[k0, k1, k2, k3, k4, k5, k6, k7, k8]
def interned : List (Array UInt16 × Addr) := []
def slotsUsed : Nat := 0
def theMethod : MethodId := ⟨1, 1⟩
def args0 : Array Value := #[.int 5, .int 6, .int 7, .int 8, .int 3]
def aboutOver (below : List Frame) : State where
  vm := { classes := classes, interned := interned.toArray }
  heap := heap
  slotsUsed := slotsUsed
  threads := #[{ frames := .invoking theMethod args0 :: below }]
def below0 : List Frame := [.native { method := ⟨0, 0⟩, args := #[] }]
def about1 : State := aboutOver below0
def p0 : Program := .bare "" "" ""
def e0 : Env := launch0.env 0 0 0
theorem w_frames : about1.frames = Frame.invoking theMethod args0 :: below0 := rfl
set_option maxRecDepth 65536 in
theorem w_args : argsFit about1.vm theMethod args0 = true := by decide +kernel
set_option maxRecDepth 65536 in
theorem w_heap : heapFits about1 = true := by decide +kernel
set_option maxRecDepth 65536 in
theorem w_runnable : about1.curStatus? = some .runnable := by decide +kernel
set_option maxRecDepth 65536 in
theorem w_alone : about1.alone = true := by decide +kernel
set_option maxRecDepth 65536 in
theorem w_named : about1.methodNamed? x = some theMethod := by decide +kernel
set_option maxRecDepth 65536 in
theorem w_hears : about1.hears theMethod below0 = true := by decide +kernel
set_option maxRecDepth 65536 in
theorem w_ripe : about1.ripe theMethod args0 below0 = true := by decide +kernel
theorem w_running : about1.status = .running := rfl
set_option maxRecDepth 65536 in
theorem w_room : about1.hasRoom e0.platform room_1 = true :=
  launch0.hasRoom_least _ room_1 (by decide +kernel) (by decide +kernel) (by decide +kernel) (by decide +kernel) (by decide +kernel) (by decide +kernel)
theorem allAtoms_all (ts : List Jvm.Cond) (a : Array Jvm.Value) (st : Jvm.State) : (allAtoms ts).before a st = ts.all (fun c => c.before a st) := by
  induction ts with
  | nil => rfl
  | cons c t ih =>
    show (Jvm.Cond.and c (allAtoms t)).before a st = _
    rw [Jvm.Cond.before_and, ih, List.all_cons]
def words1 : List Jvm.Cond := Jvm.Cond.code x code maxLocals ret :: tables_1
/-- a 'code' word, met by the world's own term for the bytes: nothing is compared byte by byte -/
theorem code_word {y : MethodName} {bytes : ByteArray} {mx : Nat} {rt : Option FieldType} {a : Array Value} {s : State} {m : MethodId} {meth : Method} {c : Code} (h1 : s.methodNamed? y = some m) (h2 : s.vm.method? m = some meth) (h3 : meth.code = some c) (h4 : c.code = bytes)
    (h5 : (c.maxLocals == mx && c.exceptionTable.isEmpty && decide (c.maxStack ≤ mostOperands) && decide (meth.sig.returnType = rt) && !meth.locks && decide (parseMethodDescriptor y.desc = some meth.sig)) = true) : (Jvm.Cond.code y bytes mx rt).before a s = true := by
  simp only [Bool.and_eq_true, beq_iff_eq, Bool.not_eq_true', decide_eq_true_eq] at h5
  obtain ⟨⟨⟨⟨⟨g1, g2⟩, g3⟩, g4⟩, g5⟩, g6⟩ := h5
  simp [Cond.before, Cond.holds, Cond.value, h1, h2, h3, h4, g1, g2, g3, g4, g5, g6]
def isCode : Jvm.Cond → Bool
  | .code _ _ _ _ => true
  | _ => false
theorem all_split {L : List Jvm.Cond} {P : Jvm.Cond → Bool} (h1 : L.all (fun c => isCode c || P c) = true) (h2 : ∀ c ∈ L.filter isCode, P c = true) : L.all P = true := by
  refine List.all_eq_true.mpr fun c hc => ?_
  have h := List.all_eq_true.mp h1 c hc
  rcases Bool.eq_false_or_eq_true (isCode c) with hi | hi
  · exact h2 c (List.mem_filter.mpr ⟨hc, hi⟩)
  · simpa [hi] using h
set_option maxRecDepth 65536 in
theorem w_c0 : (Jvm.Cond.code x code maxLocals ret).before args0 about1 = true := code_word (m := ⟨1, 1⟩) (meth := k1m1) (c := k1c1) (by decide +kernel) rfl rfl rfl (by decide +kernel)
set_option maxRecDepth 65536 in
theorem w_c1 : (Jvm.Cond.code ({ cls := "com/example/fenda/fenda/linalg/Graph", name := "<init>", desc := "([I[I[I[I)V" } : Jvm.MethodName) prog_66_method_1_code (5 : Nat) (Option.none : Option Jvm.ClassFile.FieldType)).before args0 about1 = true := code_word (m := ⟨2, 0⟩) (meth := k2m0) (c := k2c0) (by decide +kernel) rfl rfl rfl (by decide +kernel)
set_option maxRecDepth 65536 in
theorem w_c2 : (Jvm.Cond.code ({ cls := "java/lang/Object", name := "<init>", desc := "()V" } : Jvm.MethodName) object_method_1_code (1 : Nat) (Option.none : Option Jvm.ClassFile.FieldType)).before args0 about1 = true := code_word (m := ⟨0, 0⟩) (meth := k0m0) (c := k0c0) (by decide +kernel) rfl rfl rfl (by decide +kernel)
set_option maxRecDepth 65536 in
theorem w_c3 : (Jvm.Cond.code ({ cls := "com/example/fenda/fenda/linalg/Graph", name := "totalWeight", desc := "()J" } : Jvm.MethodName) prog_66_method_4_code (7 : Nat) (Option.some Jvm.ClassFile.FieldType.long)).before args0 about1 = true := code_word (m := ⟨2, 1⟩) (meth := k2m1) (c := k2c1) (by decide +kernel) rfl rfl rfl (by decide +kernel)
def codes1 : List Jvm.Cond := [Jvm.Cond.code x code maxLocals ret, Jvm.Cond.code ({ cls := "com/example/fenda/fenda/linalg/Graph", name := "<init>", desc := "([I[I[I[I)V" } : Jvm.MethodName) prog_66_method_1_code (5 : Nat) (Option.none : Option Jvm.ClassFile.FieldType), Jvm.Cond.code ({ cls := "java/lang/Object", name := "<init>", desc := "()V" } : Jvm.MethodName) object_method_1_code (1 : Nat) (Option.none : Option Jvm.ClassFile.FieldType), Jvm.Cond.code ({ cls := "com/example/fenda/fenda/linalg/Graph", name := "totalWeight", desc := "()J" } : Jvm.MethodName) prog_66_method_4_code (7 : Nat) (Option.some Jvm.ClassFile.FieldType.long)]
set_option maxRecDepth 65536 in
theorem codes_eq : words1.filter isCode = codes1 := rfl
theorem w_codes : ∀ c ∈ words1.filter isCode, c.before args0 about1 = true := by
  rw [codes_eq]
  intro c hc
  simp only [codes1, List.mem_cons, List.not_mem_nil, or_false] at hc
  rcases hc with rfl | rfl | rfl | rfl
  · exact w_c0
  · exact w_c1
  · exact w_c2
  · exact w_c3
set_option maxRecDepth 65536 in
theorem w_t1 : (words1.take 24).all (fun c => isCode c || c.before args0 about1) = true := by decide +kernel
set_option maxRecDepth 65536 in
theorem w_t2 : (words1.drop 24).all (fun c => isCode c || c.before args0 about1) = true := by decide +kernel
theorem w_tables : (allAtoms (Jvm.Cond.code x code maxLocals ret :: tables_1)).before args0 about1 = true := by
  rw [allAtoms_all]
  show words1.all (fun c => c.before args0 about1) = true
  refine all_split ?_ w_codes
  rw [← List.take_append_drop 24 words1, List.all_append, w_t1, w_t2]
  rfl
set_option maxRecDepth 65536 in
theorem w_case : (Jvm.Cond.and given_1 narrow_1).before args0 about1 = true := by decide +kernel
theorem w_applies : (headSpec (Jvm.Cond.code x code maxLocals ret :: tables_1) room_1).applies x e0.platform about1 = true :=
  (Spec.applies_iff w_frames).mpr ⟨w_running, w_runnable, w_alone, w_named, w_hears, w_ripe, w_room, w_tables⟩
theorem atStart : AtStart classFile x code maxLocals ret World_1 tables_1 room_1 Calls_1 rest_1 Pre_1 launch0 p0 e0 about1 theMethod args0 below0 :=
  ⟨lists_1, trivial, launch0.admits_env _ _ _, launch0.least_env, fairChoices_fair.cas, fairChoices_fair.clock, w_frames, w_args, w_heap, w_applies, trivial, trivial, w_case⟩
end start1
theorem witness_1 : WitnessClaimed_1 := ⟨start1.p0, start1.e0, start1.about1, start1.theMethod, start1.args0, start1.below0, start1.atStart⟩
end Jvm.Pilot.@@N@@
