import JvmDerived
import JvmDerived.Pilot.@@N@@Statement
import JvmDerived.Pilot.@@N@@Code
set_option linter.unusedVariables false
set_option linter.unusedSimpArgs false
namespace Jvm.Pilot.@@N@@
open Jvm Jvm.ClassFile Sem Op Lib Jvm.Free Jvm.Stand Jvm.LawKit Jvm.RoadKit Bundle Jvm.Pilot.@@N@@.Jvm.D
/-! A walk as one goal: from the state U the run comes to an end that answers Q. -/
section Kit
def Go (p : Program) (e : Env) (below : List Frame) (s : State) (Q : Option Value → Heap → List Loc → Prop) (C N : Nat) (U : State) : Prop :=
  ∃ s₂ o, Steps p.tables e below U s₂ ∧ s₂.status = .running ∧ Ended s₂ below o ∧ ∃ v L, o = .returned v ∧ Q v s₂.heap L ∧ FrameEnd s o s₂ L C N
variable {p : Program} {l : Launch} {e : Env} {R : Room} {s : State} {m : MethodId} {args : Array Value} {below : List Frame} {meth : Method} {c : Code} {T : State} {locs : List Loc} {cells slots : Nat} {Q : Option Value → Heap → List Loc → Prop} {C N : Nat}
theorem gob {U U' : State} (h : ∀ t, Steps p.tables e below U' t → Steps p.tables e below U t) (k : Go p e below s Q C N U') : Go p e below s Q C N U := by
  obtain ⟨s₂, o, h1, r⟩ := k
  exact ⟨s₂, o, h _ h1, r⟩
theorem goZ (X : Stand p l e R s m args below meth c T locs cells slots) (hx : p.tables.exec = Jvm.exec) (hlk : meth.locks = false) {t : FieldType} {pc : Nat} {Ls : Array Slot} {z z' : Int32} {rest : List Value} (hret : meth.sig.returnType = some t) (ht : t = .boolean ∨ t = .byte ∨ t = .char ∨ t = .short) (hd : decode c.code pc = .ok (.ireturn, 1)) (hz : nar t z = z') (hq : Q (some (.int z')) T.heap locs) (hc : cells ≤ C) (hn : slots ≤ N) :
    Go p e below s Q C N (T.setTop (mkF m pc Ls (.int z :: rest))) := by
  subst hz
  obtain ⟨fs, hr, hrun, hended, hW, hsame⟩ := X.leave (v := some (.int (nar t z))) (fun h => by rw [hret] at h; cases h) hlk
  exact ⟨_, _, retN X hx hret ht hd hr, hrun, hended, _, _, rfl, hq, ⟨_, rfl⟩, hW, hsame.mono hc hn⟩
theorem goI (X : Stand p l e R s m args below meth c T locs cells slots) (hx : p.tables.exec = Jvm.exec) (hlk : meth.locks = false) {pc : Nat} {Ls : Array Slot} {z : Int32} {rest : List Value} (hret : meth.sig.returnType = some .int) (hd : decode c.code pc = .ok (.ireturn, 1)) (hq : Q (some (.int z)) T.heap locs) (hc : cells ≤ C) (hn : slots ≤ N) :
    Go p e below s Q C N (T.setTop (mkF m pc Ls (.int z :: rest))) := by
  obtain ⟨fs, hr, hrun, hended, hW, hsame⟩ := X.leave (v := some (.int z)) (fun h => by rw [hret] at h; cases h) hlk
  exact ⟨_, _, retOut X hx hret rfl (Or.inl ⟨rfl, Or.inl rfl, z, rfl⟩) hd hr, hrun, hended, _, _, rfl, hq, ⟨_, rfl⟩, hW, hsame.mono hc hn⟩
theorem goJ (X : Stand p l e R s m args below meth c T locs cells slots) (hx : p.tables.exec = Jvm.exec) (hlk : meth.locks = false) {pc : Nat} {Ls : Array Slot} {z : Int64} {rest : List Value} (hret : meth.sig.returnType = some .long) (hd : decode c.code pc = .ok (.lreturn, 1)) (hq : Q (some (.long z)) T.heap locs) (hc : cells ≤ C) (hn : slots ≤ N) :
    Go p e below s Q C N (T.setTop (mkF m pc Ls (.long z :: rest))) := by
  obtain ⟨fs, hr, hrun, hended, hW, hsame⟩ := X.leave (v := some (.long z)) (fun h => by rw [hret] at h; cases h) hlk
  exact ⟨_, _, retOut X hx hret rfl (Or.inr (Or.inl ⟨rfl, rfl, z, rfl⟩)) hd hr, hrun, hended, _, _, rfl, hq, ⟨_, rfl⟩, hW, hsame.mono hc hn⟩
theorem goD (X : Stand p l e R s m args below meth c T locs cells slots) (hx : p.tables.exec = Jvm.exec) (hlk : meth.locks = false) {pc : Nat} {Ls : Array Slot} {z : UInt64} {rest : List Value} (hret : meth.sig.returnType = some .double) (hd : decode c.code pc = .ok (.dreturn, 1)) (hq : Q (some (.double z)) T.heap locs) (hc : cells ≤ C) (hn : slots ≤ N) :
    Go p e below s Q C N (T.setTop (mkF m pc Ls (.double z :: rest))) := by
  obtain ⟨fs, hr, hrun, hended, hW, hsame⟩ := X.leave (v := some (.double z)) (fun h => by rw [hret] at h; cases h) hlk
  exact ⟨_, _, retOut X hx hret rfl (Or.inr (Or.inr (Or.inl ⟨rfl, rfl, z, rfl⟩))) hd hr, hrun, hended, _, _, rfl, hq, ⟨_, rfl⟩, hW, hsame.mono hc hn⟩
theorem goA (X : Stand p l e R s m args below meth c T locs cells slots) (hx : p.tables.exec = Jvm.exec) (hlk : meth.locks = false) {t : FieldType} {pc : Nat} {Ls : Array Slot} {z : Value} {rest : List Value} (hret : meth.sig.returnType = some t) (ht : t.isReference = true) (hv : z.isRef = true) (hd : decode c.code pc = .ok (.areturn, 1)) (hq : Q (some z) T.heap locs) (hc : cells ≤ C) (hn : slots ≤ N) :
    Go p e below s Q C N (T.setTop (mkF m pc Ls (z :: rest))) := by
  obtain ⟨fs, hr, hrun, hended, hW, hsame⟩ := X.leave (v := some z) (fun h => by rw [hret] at h; cases h) hlk
  have hnw : narrow t z = z := by cases z <;> cases t <;> first | rfl | (simp [Value.isRef] at hv) | (simp [FieldType.isReference] at ht)
  exact ⟨_, _, retOut X hx hret hnw (Or.inr (Or.inr (Or.inr (Or.inr ⟨rfl, ht, hv⟩)))) hd hr, hrun, hended, _, _, rfl, hq, ⟨_, rfl⟩, hW, hsame.mono hc hn⟩
theorem goV (X : Stand p l e R s m args below meth c T locs cells slots) (hx : p.tables.exec = Jvm.exec) (hlk : meth.locks = false) {pc : Nat} {Ls : Array Slot} (hret : meth.sig.returnType = none) (hd : decode c.code pc = .ok (.return_, 1)) (hq : Q none T.heap locs) (hc : cells ≤ C) (hn : slots ≤ N) :
    Go p e below s Q C N (T.setTop (mkF m pc Ls [])) := by
  obtain ⟨fs, hr, hrun, hended, hW, hsame⟩ := X.leave (v := none) (fun _ => rfl) hlk
  exact ⟨_, _, X.returnOut hx hret hd hr, hrun, hended, _, _, rfl, hq, ⟨_, rfl⟩, hW, hsame.mono hc hn⟩
theorem lremM {g : JFrame} {target : State} (X : Stand p l e R s m args below meth c T locs cells slots) (hx : p.tables.exec = Jvm.exec) (hg : g.method = m) {x y : Int64} {rest : List Value} (hd : decode c.code g.pc = .ok (.lrem, 1)) (hs : g.stack = .long y :: .long x :: rest) (hy : y ≠ 0)
    (hr : Steps p.tables e below (T.setTop { g with pc := g.pc + 1, stack := .long (x % y) :: rest }) target) : Steps p.tables e below (T.setTop g) target :=
  XS.lrem X.here hx hg hd hs hy (by rw [lrem_mod x y]; exact hr)
theorem own_lrem (x y : Int64) (d : Int) (hy : y.toInt = d) : (0 ≤ x.toInt → (x % y).toInt = x.toInt % d) ∧ (x.toInt < 0 → (x % y).toInt = -((-x.toInt) % d)) := by rw [Int64.toInt_mod, hy]; exact tr _ _
theorem own_lxor (x y : Int64) (hy : 0 ≤ y.toInt) : ((x ^^^ y).toInt < 0 ↔ x.toInt < 0) := by
  have h1 : (x ^^^ y).toBitVec.msb = (x.toBitVec.msb ^^ y.toBitVec.msb) := by rw [Int64.toBitVec_xor, BitVec.msb_xor]
  have h2 := BitVec.msb_eq_toInt (x := (x ^^^ y).toBitVec)
  have h3 := BitVec.msb_eq_toInt (x := x.toBitVec)
  have h4 := BitVec.msb_eq_toInt (x := y.toBitVec)
  have e1 : (x ^^^ y).toBitVec.toInt = (x ^^^ y).toInt := rfl
  have e2 : x.toBitVec.toInt = x.toInt := rfl
  have e3 : y.toBitVec.toInt = y.toInt := rfl
  rw [e1] at h2
  rw [e2] at h3
  rw [e3] at h4
  have h5 : ¬ y.toInt < 0 := by omega
  rw [h2, h3, h4, decide_eq_false h5, Bool.xor_false] at h1
  simpa using h1
theorem pop2L {g : JFrame} {target : State} (X : Stand p l e R s m args below meth c T locs cells slots) (hx : p.tables.exec = Jvm.exec) (hg : g.method = m) {x : Int64} {rest : List Value} (hd : decode c.code g.pc = .ok (.pop2, 1)) (hs : g.stack = .long x :: rest)
    (hr : Steps p.tables e below (T.setTop { g with pc := g.pc + 1, stack := rest }) target) : Steps p.tables e below (T.setTop g) target := by
  subst hg
  jvm_step X.here [X.here.top, hx, hd, hs, Value.category]
  exact hr
theorem own_staKeep {Z : State} {h h' : Heap} {C n d : String} {v : Value} {ws : List Addr} (F : Sta Z h C n d v) (K : Keep h h' ws) (hn : ∀ x ∈ ws, ∀ cell : Cell, h[x]? = some cell → cell.vm.isStatics = false) : Sta Z h' C n d v := by
  obtain ⟨cf, i, k, f, st, cell, h1, h2, h3, h4, h5, h6, h7⟩ := F
  exact ⟨cf, i, k, f, st, cell, h1, h2, h3, h4, K.2.1 _ _ h5 (fun q => by have q2 := hn _ q _ h5; rw [h6] at q2; cases q2), h6, h7⟩
theorem own_lmulR (x y : Int64) (d : Int) (hy : y.toInt = d) : ((x * y).toInt - x.toInt * d) % 18446744073709551616 = 0 := by rw [← hy]; exact c_lmul x y
theorem own_lmulL (x y : Int64) (d : Int) (hx : x.toInt = d) : ((x * y).toInt - d * y.toInt) % 18446744073709551616 = 0 := by rw [← hx]; exact c_lmul x y
theorem own_imulR (x y : Int32) (d : Int) (hy : y.toInt = d) : ((x * y).toInt - x.toInt * d) % 4294967296 = 0 := by rw [← hy]; exact c_imul x y
theorem own_imulL (x y : Int32) (d : Int) (hx : x.toInt = d) : ((x * y).toInt - d * y.toInt) % 4294967296 = 0 := by rw [← hx]; exact c_imul x y
end Kit

theorem own_feq {s : State} {args : Array Value} {t : Term} {C n d : String} {k : Int32} {a : Addr} (ht : t.eval args s none [] s = some (.ref a)) (h : (Jvm.Cond.eq (.field t C n d) (.int k)).value args s none s [] = some true) : Fld s s.heap a C n d (.int k) := by
  obtain ⟨x, y, e1, e2, -, -⟩ := cmp_v (Or.inl h)
  have e3 : y = .int k := by
    have q : (Term.int k).eval args s none [] s = some (.int k) := rfl
    rw [q] at e2
    exact (Option.some.inj e2).symm
  subst e3
  have q : (Term.int k).eval args s none [] s = some (.int k) := rfl
  have e4 : x = .int k := by
    cases x <;> simp [Cond.value, e1, q] at h
    rw [h]
  subst e4
  rw [fld_at ht] at e1
  exact Fld.start e1

theorem d1_0 : decode prog_18_method_3_code 0 = .ok (.aload_n 0, 1) := by decide +kernel
theorem d1_1 : decode prog_18_method_3_code 1 = .ok (.getstatic 3, 3) := by decide +kernel
theorem d1_4 : decode prog_18_method_3_code 4 = .ok (.if_acmp .eq 17, 3) := by decide +kernel
theorem d1_7 : decode prog_18_method_3_code 7 = .ok (.aload_n 0, 1) := by decide +kernel
theorem d1_8 : decode prog_18_method_3_code 8 = .ok (.getstatic 7, 3) := by decide +kernel
theorem d1_11 : decode prog_18_method_3_code 11 = .ok (.if_acmp .eq 10, 3) := by decide +kernel
theorem d1_14 : decode prog_18_method_3_code 14 = .ok (.aload_n 0, 1) := by decide +kernel
theorem d1_15 : decode prog_18_method_3_code 15 = .ok (.getstatic 10, 3) := by decide +kernel
theorem d1_18 : decode prog_18_method_3_code 18 = .ok (.if_acmp .ne 7, 3) := by decide +kernel
theorem d1_21 : decode prog_18_method_3_code 21 = .ok (.iconst 1, 1) := by decide +kernel
theorem d1_22 : decode prog_18_method_3_code 22 = .ok (.goto 4, 3) := by decide +kernel
theorem d1_25 : decode prog_18_method_3_code 25 = .ok (.iconst 0, 1) := by decide +kernel
theorem d1_26 : decode prog_18_method_3_code 26 = .ok (.ireturn, 1) := by decide +kernel
theorem ef_1_DTM (m : MethodId) (x0 : Addr) : entryFrame m #[(.ref x0)] 1 = mkF m 0 #[.val (.ref x0)] [] := by first | (simp [entryFrame, mkF, argsToLocals, Value.category]; done) | rfl
def Q1_DTM (Z : State) (o0 : Addr) (w_TS : Addr) (w_TS_Z : Addr) (h0 : Heap) (n0 : Nat) (v : Option Value) (h : Heap) (L : List Loc) : Prop := ∃ r : Int32, v = some (.int r) ∧ ((r = (1 : Int32))) ∧ Fr n0 L ∧ h = h0
set_option maxRecDepth 65536 in
set_option maxHeartbeats 40000000 in
theorem rm1_DTM (l : Launch) (Z : State) (a0 : Array Value) (hw : ∀ d ∈ tables_1, d.before a0 Z = true) (ws : List Jvm.Cond) (o0 : Addr) (w_TS : Addr) (w_TS_Z : Addr) (h0 : Heap) (n0 : Nat) (Z0 : n0 ≤ h0.size) (S_DTM : Sta Z h0 "com/example/segmentry/segmentry/DataType$Kind" "DTM" "Lcom/example/segmentry/segmentry/DataType$Kind;" (.ref o0)) (S_TS : Sta Z h0 "com/example/segmentry/segmentry/DataType$Kind" "TS" "Lcom/example/segmentry/segmentry/DataType$Kind;" (.ref w_TS)) (ne_TS : o0 ≠ w_TS) (S_TS_Z : Sta Z h0 "com/example/segmentry/segmentry/DataType$Kind" "TS_Z" "Lcom/example/segmentry/segmentry/DataType$Kind;" (.ref w_TS_Z)) (ne_TS_Z : o0 ≠ w_TS_Z) :
    MetFree l (⟨"com/example/segmentry/segmentry/DataType$Kind", "holdsDateTime", "()Z"⟩ : MethodName) (head1 (Jvm.Cond.code (⟨"com/example/segmentry/segmentry/DataType$Kind", "holdsDateTime", "()Z"⟩ : MethodName) prog_18_method_3_code 1 (some .boolean) :: ws) ({ frames := 0, cells := 0, slots := 0, locals := 0 } : Room)) (fun a U => a = #[(.ref o0)] ∧ Z.Warmed39 U.vm ∧ U.heap = h0) (fun _ _ _ _ _ => True) (fun _ U o U' => ∃ v L, o = .returned v ∧ Q1_DTM Z o0 w_TS w_TS_Z h0 n0 v U'.heap L ∧ FrameEnd U o U' L ({ frames := 0, cells := 0, slots := 0, locals := 0 } : Room).cells ({ frames := 0, cells := 0, slots := 0, locals := 0 } : Room).slots) := by
  refine MetFree.of_bodySF (plainFor_of_name (by first | (simp [plainName, overriddenIn]; done) | decide +kernel)) hisR ?_
  intro p e s m args below meth c s₁ Bd hml0 hP hK
  obtain ⟨rfl, hZ, hh⟩ := hP
  have hx := Bd.exec
  have hby := Bd.bytes
  have hml : c.maxLocals = 1 := hml0
  have hown : s.vm.findClass "com/example/segmentry/segmentry/DataType$Kind" = some m.cls := findClass_of_methodNamed Bd.named
  have hnm := (name_of_methodNamed Bd.named Bd.method).1
  have hlk := BodyLoose.notSynchronized Bd
  have X0 : Stand p l e ({ frames := 0, cells := 0, slots := 0, locals := 0 } : Room) s m #[(.ref o0)] below meth c s₁ [] 0 0 := Stand.of_body Bd
  have e0 : s₁.heap = h0 := by rw [← hh, Bd.state]; rfl
  have N0 := Fr.nil n0
  show Go p e below s (Q1_DTM Z o0 w_TS w_TS_Z h0 n0) 0 0 (s₁.setTop (entryFrame m #[(.ref o0)] 1))
  rw [ef_1_DTM]
  show Go _ _ _ _ _ _ _ (s₁.setTop (mkF m 0 #[.val (.ref o0)] []))
  refine gob (fun _ k => XS.aloadN X0.here hx rfl (hb hby d1_0) rfl rfl k) ?_
  show Go _ _ _ _ _ _ _ (s₁.setTop (mkF m 1 #[.val (.ref o0)] [(.ref o0)]))
  obtain ⟨T1, X1, e1, st1⟩ := getS2 X0 hx hZ hown (host := "") (Or.inl (hw _ (List.mem_of_getElem? (i := 9) rfl))) Via.refl e0 S_DTM (g := (mkF m 1 #[.val (.ref o0)] [(.ref o0)])) rfl (hb hby d1_1)
  refine gob st1 ?_
  show Go _ _ _ _ _ _ _ (T1.setTop (mkF m 4 #[.val (.ref o0)] [(.ref o0), (.ref o0)]))
  refine gob (fun _ k => Jvm.RoadKit.acmp (g := (mkF m 4 #[.val (.ref o0)] [(.ref o0), (.ref o0)])) X1 hx rfl rfl rfl (pc0 := 4) (pc' := 21) (same := true) rfl (hb hby d1_4) rfl (decide_eq_true rfl) (by decide) (by decide) k) ?_
  show Go _ _ _ _ _ _ _ (T1.setTop (mkF m 21 #[.val (.ref o0)] []))
  show Go _ _ _ _ _ _ _ (T1.setTop (mkF m 21 #[.val (.ref o0)] []))
  refine gob (fun _ k => XS.iconst X1.here hx rfl (hb hby d1_21) k) ?_
  show Go _ _ _ _ _ _ _ (T1.setTop (mkF m 22 #[.val (.ref o0)] [(.int (1 : Int32))]))
  refine gob (fun _ k => XS.goto X1.here hx rfl (pc0 := 22) (pc' := 26) rfl (hb hby d1_22) (by decide) (by decide) k) ?_
  show Go _ _ _ _ _ _ _ (T1.setTop (mkF m 26 #[.val (.ref o0)] [(.int (1 : Int32))]))
  refine goZ X1 hx hlk (t := .boolean) Bd.returns (by simp) (hb hby d1_26) (z' := (1 : Int32)) rfl ?_ (by decide) (by decide)
  show Q1_DTM Z o0 w_TS w_TS_Z h0 n0 (some (.int (1 : Int32))) T1.heap _
  exact ⟨(1 : Int32), rfl, rfl, N0, e1⟩
theorem ef_1_TS (m : MethodId) (x0 : Addr) : entryFrame m #[(.ref x0)] 1 = mkF m 0 #[.val (.ref x0)] [] := by first | (simp [entryFrame, mkF, argsToLocals, Value.category]; done) | rfl
def Q1_TS (Z : State) (o0 : Addr) (w_DTM : Addr) (w_TS_Z : Addr) (h0 : Heap) (n0 : Nat) (v : Option Value) (h : Heap) (L : List Loc) : Prop := ∃ r : Int32, v = some (.int r) ∧ ((r = (1 : Int32))) ∧ Fr n0 L ∧ h = h0
set_option maxRecDepth 65536 in
set_option maxHeartbeats 40000000 in
theorem rm1_TS (l : Launch) (Z : State) (a0 : Array Value) (hw : ∀ d ∈ tables_1, d.before a0 Z = true) (ws : List Jvm.Cond) (o0 : Addr) (w_DTM : Addr) (w_TS_Z : Addr) (h0 : Heap) (n0 : Nat) (Z0 : n0 ≤ h0.size) (S_DTM : Sta Z h0 "com/example/segmentry/segmentry/DataType$Kind" "DTM" "Lcom/example/segmentry/segmentry/DataType$Kind;" (.ref w_DTM)) (ne_DTM : o0 ≠ w_DTM) (S_TS : Sta Z h0 "com/example/segmentry/segmentry/DataType$Kind" "TS" "Lcom/example/segmentry/segmentry/DataType$Kind;" (.ref o0)) (S_TS_Z : Sta Z h0 "com/example/segmentry/segmentry/DataType$Kind" "TS_Z" "Lcom/example/segmentry/segmentry/DataType$Kind;" (.ref w_TS_Z)) (ne_TS_Z : o0 ≠ w_TS_Z) :
    MetFree l (⟨"com/example/segmentry/segmentry/DataType$Kind", "holdsDateTime", "()Z"⟩ : MethodName) (head1 (Jvm.Cond.code (⟨"com/example/segmentry/segmentry/DataType$Kind", "holdsDateTime", "()Z"⟩ : MethodName) prog_18_method_3_code 1 (some .boolean) :: ws) ({ frames := 0, cells := 0, slots := 0, locals := 0 } : Room)) (fun a U => a = #[(.ref o0)] ∧ Z.Warmed39 U.vm ∧ U.heap = h0) (fun _ _ _ _ _ => True) (fun _ U o U' => ∃ v L, o = .returned v ∧ Q1_TS Z o0 w_DTM w_TS_Z h0 n0 v U'.heap L ∧ FrameEnd U o U' L ({ frames := 0, cells := 0, slots := 0, locals := 0 } : Room).cells ({ frames := 0, cells := 0, slots := 0, locals := 0 } : Room).slots) := by
  refine MetFree.of_bodySF (plainFor_of_name (by first | (simp [plainName, overriddenIn]; done) | decide +kernel)) hisR ?_
  intro p e s m args below meth c s₁ Bd hml0 hP hK
  obtain ⟨rfl, hZ, hh⟩ := hP
  have hx := Bd.exec
  have hby := Bd.bytes
  have hml : c.maxLocals = 1 := hml0
  have hown : s.vm.findClass "com/example/segmentry/segmentry/DataType$Kind" = some m.cls := findClass_of_methodNamed Bd.named
  have hnm := (name_of_methodNamed Bd.named Bd.method).1
  have hlk := BodyLoose.notSynchronized Bd
  have X0 : Stand p l e ({ frames := 0, cells := 0, slots := 0, locals := 0 } : Room) s m #[(.ref o0)] below meth c s₁ [] 0 0 := Stand.of_body Bd
  have e0 : s₁.heap = h0 := by rw [← hh, Bd.state]; rfl
  have N0 := Fr.nil n0
  show Go p e below s (Q1_TS Z o0 w_DTM w_TS_Z h0 n0) 0 0 (s₁.setTop (entryFrame m #[(.ref o0)] 1))
  rw [ef_1_TS]
  show Go _ _ _ _ _ _ _ (s₁.setTop (mkF m 0 #[.val (.ref o0)] []))
  refine gob (fun _ k => XS.aloadN X0.here hx rfl (hb hby d1_0) rfl rfl k) ?_
  show Go _ _ _ _ _ _ _ (s₁.setTop (mkF m 1 #[.val (.ref o0)] [(.ref o0)]))
  obtain ⟨T1, X1, e1, st1⟩ := getS2 X0 hx hZ hown (host := "") (Or.inl (hw _ (List.mem_of_getElem? (i := 9) rfl))) Via.refl e0 S_DTM (g := (mkF m 1 #[.val (.ref o0)] [(.ref o0)])) rfl (hb hby d1_1)
  refine gob st1 ?_
  show Go _ _ _ _ _ _ _ (T1.setTop (mkF m 4 #[.val (.ref o0)] [(.ref w_DTM), (.ref o0)]))
  refine gob (fun _ k => Jvm.RoadKit.acmp (g := (mkF m 4 #[.val (.ref o0)] [(.ref w_DTM), (.ref o0)])) X1 hx rfl rfl rfl (pc0 := 4) (pc' := 7) (same := false) rfl (hb hby d1_4) rfl (decide_eq_false fun q => ne_DTM (Value.ref.inj q)) (by decide) (by decide) k) ?_
  show Go _ _ _ _ _ _ _ (T1.setTop (mkF m 7 #[.val (.ref o0)] []))
  show Go _ _ _ _ _ _ _ (T1.setTop (mkF m 7 #[.val (.ref o0)] []))
  refine gob (fun _ k => XS.aloadN X1.here hx rfl (hb hby d1_7) rfl rfl k) ?_
  show Go _ _ _ _ _ _ _ (T1.setTop (mkF m 8 #[.val (.ref o0)] [(.ref o0)]))
  obtain ⟨T2, X2, e2, st2⟩ := getS2 X1 hx hZ hown (host := "") (Or.inl (hw _ (List.mem_of_getElem? (i := 12) rfl))) Via.refl e1 S_TS (g := (mkF m 8 #[.val (.ref o0)] [(.ref o0)])) rfl (hb hby d1_8)
  refine gob st2 ?_
  show Go _ _ _ _ _ _ _ (T2.setTop (mkF m 11 #[.val (.ref o0)] [(.ref o0), (.ref o0)]))
  refine gob (fun _ k => Jvm.RoadKit.acmp (g := (mkF m 11 #[.val (.ref o0)] [(.ref o0), (.ref o0)])) X2 hx rfl rfl rfl (pc0 := 11) (pc' := 21) (same := true) rfl (hb hby d1_11) rfl (decide_eq_true rfl) (by decide) (by decide) k) ?_
  show Go _ _ _ _ _ _ _ (T2.setTop (mkF m 21 #[.val (.ref o0)] []))
  show Go _ _ _ _ _ _ _ (T2.setTop (mkF m 21 #[.val (.ref o0)] []))
  refine gob (fun _ k => XS.iconst X2.here hx rfl (hb hby d1_21) k) ?_
  show Go _ _ _ _ _ _ _ (T2.setTop (mkF m 22 #[.val (.ref o0)] [(.int (1 : Int32))]))
  refine gob (fun _ k => XS.goto X2.here hx rfl (pc0 := 22) (pc' := 26) rfl (hb hby d1_22) (by decide) (by decide) k) ?_
  show Go _ _ _ _ _ _ _ (T2.setTop (mkF m 26 #[.val (.ref o0)] [(.int (1 : Int32))]))
  refine goZ X2 hx hlk (t := .boolean) Bd.returns (by simp) (hb hby d1_26) (z' := (1 : Int32)) rfl ?_ (by decide) (by decide)
  show Q1_TS Z o0 w_DTM w_TS_Z h0 n0 (some (.int (1 : Int32))) T2.heap _
  exact ⟨(1 : Int32), rfl, rfl, N0, e2⟩
theorem ef_1_TS_Z (m : MethodId) (x0 : Addr) : entryFrame m #[(.ref x0)] 1 = mkF m 0 #[.val (.ref x0)] [] := by first | (simp [entryFrame, mkF, argsToLocals, Value.category]; done) | rfl
def Q1_TS_Z (Z : State) (o0 : Addr) (w_DTM : Addr) (w_TS : Addr) (h0 : Heap) (n0 : Nat) (v : Option Value) (h : Heap) (L : List Loc) : Prop := ∃ r : Int32, v = some (.int r) ∧ ((r = (1 : Int32))) ∧ Fr n0 L ∧ h = h0
set_option maxRecDepth 65536 in
set_option maxHeartbeats 40000000 in
theorem rm1_TS_Z (l : Launch) (Z : State) (a0 : Array Value) (hw : ∀ d ∈ tables_1, d.before a0 Z = true) (ws : List Jvm.Cond) (o0 : Addr) (w_DTM : Addr) (w_TS : Addr) (h0 : Heap) (n0 : Nat) (Z0 : n0 ≤ h0.size) (S_DTM : Sta Z h0 "com/example/segmentry/segmentry/DataType$Kind" "DTM" "Lcom/example/segmentry/segmentry/DataType$Kind;" (.ref w_DTM)) (ne_DTM : o0 ≠ w_DTM) (S_TS : Sta Z h0 "com/example/segmentry/segmentry/DataType$Kind" "TS" "Lcom/example/segmentry/segmentry/DataType$Kind;" (.ref w_TS)) (ne_TS : o0 ≠ w_TS) (S_TS_Z : Sta Z h0 "com/example/segmentry/segmentry/DataType$Kind" "TS_Z" "Lcom/example/segmentry/segmentry/DataType$Kind;" (.ref o0)) :
    MetFree l (⟨"com/example/segmentry/segmentry/DataType$Kind", "holdsDateTime", "()Z"⟩ : MethodName) (head1 (Jvm.Cond.code (⟨"com/example/segmentry/segmentry/DataType$Kind", "holdsDateTime", "()Z"⟩ : MethodName) prog_18_method_3_code 1 (some .boolean) :: ws) ({ frames := 0, cells := 0, slots := 0, locals := 0 } : Room)) (fun a U => a = #[(.ref o0)] ∧ Z.Warmed39 U.vm ∧ U.heap = h0) (fun _ _ _ _ _ => True) (fun _ U o U' => ∃ v L, o = .returned v ∧ Q1_TS_Z Z o0 w_DTM w_TS h0 n0 v U'.heap L ∧ FrameEnd U o U' L ({ frames := 0, cells := 0, slots := 0, locals := 0 } : Room).cells ({ frames := 0, cells := 0, slots := 0, locals := 0 } : Room).slots) := by
  refine MetFree.of_bodySF (plainFor_of_name (by first | (simp [plainName, overriddenIn]; done) | decide +kernel)) hisR ?_
  intro p e s m args below meth c s₁ Bd hml0 hP hK
  obtain ⟨rfl, hZ, hh⟩ := hP
  have hx := Bd.exec
  have hby := Bd.bytes
  have hml : c.maxLocals = 1 := hml0
  have hown : s.vm.findClass "com/example/segmentry/segmentry/DataType$Kind" = some m.cls := findClass_of_methodNamed Bd.named
  have hnm := (name_of_methodNamed Bd.named Bd.method).1
  have hlk := BodyLoose.notSynchronized Bd
  have X0 : Stand p l e ({ frames := 0, cells := 0, slots := 0, locals := 0 } : Room) s m #[(.ref o0)] below meth c s₁ [] 0 0 := Stand.of_body Bd
  have e0 : s₁.heap = h0 := by rw [← hh, Bd.state]; rfl
  have N0 := Fr.nil n0
  show Go p e below s (Q1_TS_Z Z o0 w_DTM w_TS h0 n0) 0 0 (s₁.setTop (entryFrame m #[(.ref o0)] 1))
  rw [ef_1_TS_Z]
  show Go _ _ _ _ _ _ _ (s₁.setTop (mkF m 0 #[.val (.ref o0)] []))
  refine gob (fun _ k => XS.aloadN X0.here hx rfl (hb hby d1_0) rfl rfl k) ?_
  show Go _ _ _ _ _ _ _ (s₁.setTop (mkF m 1 #[.val (.ref o0)] [(.ref o0)]))
  obtain ⟨T1, X1, e1, st1⟩ := getS2 X0 hx hZ hown (host := "") (Or.inl (hw _ (List.mem_of_getElem? (i := 9) rfl))) Via.refl e0 S_DTM (g := (mkF m 1 #[.val (.ref o0)] [(.ref o0)])) rfl (hb hby d1_1)
  refine gob st1 ?_
  show Go _ _ _ _ _ _ _ (T1.setTop (mkF m 4 #[.val (.ref o0)] [(.ref w_DTM), (.ref o0)]))
  refine gob (fun _ k => Jvm.RoadKit.acmp (g := (mkF m 4 #[.val (.ref o0)] [(.ref w_DTM), (.ref o0)])) X1 hx rfl rfl rfl (pc0 := 4) (pc' := 7) (same := false) rfl (hb hby d1_4) rfl (decide_eq_false fun q => ne_DTM (Value.ref.inj q)) (by decide) (by decide) k) ?_
  show Go _ _ _ _ _ _ _ (T1.setTop (mkF m 7 #[.val (.ref o0)] []))
  show Go _ _ _ _ _ _ _ (T1.setTop (mkF m 7 #[.val (.ref o0)] []))
  refine gob (fun _ k => XS.aloadN X1.here hx rfl (hb hby d1_7) rfl rfl k) ?_
  show Go _ _ _ _ _ _ _ (T1.setTop (mkF m 8 #[.val (.ref o0)] [(.ref o0)]))
  obtain ⟨T2, X2, e2, st2⟩ := getS2 X1 hx hZ hown (host := "") (Or.inl (hw _ (List.mem_of_getElem? (i := 12) rfl))) Via.refl e1 S_TS (g := (mkF m 8 #[.val (.ref o0)] [(.ref o0)])) rfl (hb hby d1_8)
  refine gob st2 ?_
  show Go _ _ _ _ _ _ _ (T2.setTop (mkF m 11 #[.val (.ref o0)] [(.ref w_TS), (.ref o0)]))
  refine gob (fun _ k => Jvm.RoadKit.acmp (g := (mkF m 11 #[.val (.ref o0)] [(.ref w_TS), (.ref o0)])) X2 hx rfl rfl rfl (pc0 := 11) (pc' := 14) (same := false) rfl (hb hby d1_11) rfl (decide_eq_false fun q => ne_TS (Value.ref.inj q)) (by decide) (by decide) k) ?_
  show Go _ _ _ _ _ _ _ (T2.setTop (mkF m 14 #[.val (.ref o0)] []))
  show Go _ _ _ _ _ _ _ (T2.setTop (mkF m 14 #[.val (.ref o0)] []))
  refine gob (fun _ k => XS.aloadN X2.here hx rfl (hb hby d1_14) rfl rfl k) ?_
  show Go _ _ _ _ _ _ _ (T2.setTop (mkF m 15 #[.val (.ref o0)] [(.ref o0)]))
  obtain ⟨T3, X3, e3, st3⟩ := getS2 X2 hx hZ hown (host := "") (Or.inl (hw _ (List.mem_of_getElem? (i := 14) rfl))) Via.refl e2 S_TS_Z (g := (mkF m 15 #[.val (.ref o0)] [(.ref o0)])) rfl (hb hby d1_15)
  refine gob st3 ?_
  show Go _ _ _ _ _ _ _ (T3.setTop (mkF m 18 #[.val (.ref o0)] [(.ref o0), (.ref o0)]))
  refine gob (fun _ k => Jvm.RoadKit.acmp (g := (mkF m 18 #[.val (.ref o0)] [(.ref o0), (.ref o0)])) X3 hx rfl rfl rfl (pc0 := 18) (pc' := 21) (same := true) rfl (hb hby d1_18) rfl (decide_eq_true rfl) (by decide) (by decide) k) ?_
  show Go _ _ _ _ _ _ _ (T3.setTop (mkF m 21 #[.val (.ref o0)] []))
  show Go _ _ _ _ _ _ _ (T3.setTop (mkF m 21 #[.val (.ref o0)] []))
  refine gob (fun _ k => XS.iconst X3.here hx rfl (hb hby d1_21) k) ?_
  show Go _ _ _ _ _ _ _ (T3.setTop (mkF m 22 #[.val (.ref o0)] [(.int (1 : Int32))]))
  refine gob (fun _ k => XS.goto X3.here hx rfl (pc0 := 22) (pc' := 26) rfl (hb hby d1_22) (by decide) (by decide) k) ?_
  show Go _ _ _ _ _ _ _ (T3.setTop (mkF m 26 #[.val (.ref o0)] [(.int (1 : Int32))]))
  refine goZ X3 hx hlk (t := .boolean) Bd.returns (by simp) (hb hby d1_26) (z' := (1 : Int32)) rfl ?_ (by decide) (by decide)
  show Q1_TS_Z Z o0 w_DTM w_TS h0 n0 (some (.int (1 : Int32))) T3.heap _
  exact ⟨(1 : Int32), rfl, rfl, N0, e3⟩
theorem ef_1_NM (m : MethodId) (x0 : Addr) : entryFrame m #[(.ref x0)] 1 = mkF m 0 #[.val (.ref x0)] [] := by first | (simp [entryFrame, mkF, argsToLocals, Value.category]; done) | rfl
def Q1_NM (Z : State) (o0 : Addr) (w_DTM : Addr) (w_TS : Addr) (w_TS_Z : Addr) (h0 : Heap) (n0 : Nat) (v : Option Value) (h : Heap) (L : List Loc) : Prop := ∃ r : Int32, v = some (.int r) ∧ ((r = (0 : Int32))) ∧ Fr n0 L ∧ h = h0
set_option maxRecDepth 65536 in
set_option maxHeartbeats 40000000 in
theorem rm1_NM (l : Launch) (Z : State) (a0 : Array Value) (hw : ∀ d ∈ tables_1, d.before a0 Z = true) (ws : List Jvm.Cond) (o0 : Addr) (w_DTM : Addr) (w_TS : Addr) (w_TS_Z : Addr) (h0 : Heap) (n0 : Nat) (Z0 : n0 ≤ h0.size) (S_DTM : Sta Z h0 "com/example/segmentry/segmentry/DataType$Kind" "DTM" "Lcom/example/segmentry/segmentry/DataType$Kind;" (.ref w_DTM)) (ne_DTM : o0 ≠ w_DTM) (S_TS : Sta Z h0 "com/example/segmentry/segmentry/DataType$Kind" "TS" "Lcom/example/segmentry/segmentry/DataType$Kind;" (.ref w_TS)) (ne_TS : o0 ≠ w_TS) (S_TS_Z : Sta Z h0 "com/example/segmentry/segmentry/DataType$Kind" "TS_Z" "Lcom/example/segmentry/segmentry/DataType$Kind;" (.ref w_TS_Z)) (ne_TS_Z : o0 ≠ w_TS_Z) :
    MetFree l (⟨"com/example/segmentry/segmentry/DataType$Kind", "holdsDateTime", "()Z"⟩ : MethodName) (head1 (Jvm.Cond.code (⟨"com/example/segmentry/segmentry/DataType$Kind", "holdsDateTime", "()Z"⟩ : MethodName) prog_18_method_3_code 1 (some .boolean) :: ws) ({ frames := 0, cells := 0, slots := 0, locals := 0 } : Room)) (fun a U => a = #[(.ref o0)] ∧ Z.Warmed39 U.vm ∧ U.heap = h0) (fun _ _ _ _ _ => True) (fun _ U o U' => ∃ v L, o = .returned v ∧ Q1_NM Z o0 w_DTM w_TS w_TS_Z h0 n0 v U'.heap L ∧ FrameEnd U o U' L ({ frames := 0, cells := 0, slots := 0, locals := 0 } : Room).cells ({ frames := 0, cells := 0, slots := 0, locals := 0 } : Room).slots) := by
  refine MetFree.of_bodySF (plainFor_of_name (by first | (simp [plainName, overriddenIn]; done) | decide +kernel)) hisR ?_
  intro p e s m args below meth c s₁ Bd hml0 hP hK
  obtain ⟨rfl, hZ, hh⟩ := hP
  have hx := Bd.exec
  have hby := Bd.bytes
  have hml : c.maxLocals = 1 := hml0
  have hown : s.vm.findClass "com/example/segmentry/segmentry/DataType$Kind" = some m.cls := findClass_of_methodNamed Bd.named
  have hnm := (name_of_methodNamed Bd.named Bd.method).1
  have hlk := BodyLoose.notSynchronized Bd
  have X0 : Stand p l e ({ frames := 0, cells := 0, slots := 0, locals := 0 } : Room) s m #[(.ref o0)] below meth c s₁ [] 0 0 := Stand.of_body Bd
  have e0 : s₁.heap = h0 := by rw [← hh, Bd.state]; rfl
  have N0 := Fr.nil n0
  show Go p e below s (Q1_NM Z o0 w_DTM w_TS w_TS_Z h0 n0) 0 0 (s₁.setTop (entryFrame m #[(.ref o0)] 1))
  rw [ef_1_NM]
  show Go _ _ _ _ _ _ _ (s₁.setTop (mkF m 0 #[.val (.ref o0)] []))
  refine gob (fun _ k => XS.aloadN X0.here hx rfl (hb hby d1_0) rfl rfl k) ?_
  show Go _ _ _ _ _ _ _ (s₁.setTop (mkF m 1 #[.val (.ref o0)] [(.ref o0)]))
  obtain ⟨T1, X1, e1, st1⟩ := getS2 X0 hx hZ hown (host := "") (Or.inl (hw _ (List.mem_of_getElem? (i := 9) rfl))) Via.refl e0 S_DTM (g := (mkF m 1 #[.val (.ref o0)] [(.ref o0)])) rfl (hb hby d1_1)
  refine gob st1 ?_
  show Go _ _ _ _ _ _ _ (T1.setTop (mkF m 4 #[.val (.ref o0)] [(.ref w_DTM), (.ref o0)]))
  refine gob (fun _ k => Jvm.RoadKit.acmp (g := (mkF m 4 #[.val (.ref o0)] [(.ref w_DTM), (.ref o0)])) X1 hx rfl rfl rfl (pc0 := 4) (pc' := 7) (same := false) rfl (hb hby d1_4) rfl (decide_eq_false fun q => ne_DTM (Value.ref.inj q)) (by decide) (by decide) k) ?_
  show Go _ _ _ _ _ _ _ (T1.setTop (mkF m 7 #[.val (.ref o0)] []))
  show Go _ _ _ _ _ _ _ (T1.setTop (mkF m 7 #[.val (.ref o0)] []))
  refine gob (fun _ k => XS.aloadN X1.here hx rfl (hb hby d1_7) rfl rfl k) ?_
  show Go _ _ _ _ _ _ _ (T1.setTop (mkF m 8 #[.val (.ref o0)] [(.ref o0)]))
  obtain ⟨T2, X2, e2, st2⟩ := getS2 X1 hx hZ hown (host := "") (Or.inl (hw _ (List.mem_of_getElem? (i := 12) rfl))) Via.refl e1 S_TS (g := (mkF m 8 #[.val (.ref o0)] [(.ref o0)])) rfl (hb hby d1_8)
  refine gob st2 ?_
  show Go _ _ _ _ _ _ _ (T2.setTop (mkF m 11 #[.val (.ref o0)] [(.ref w_TS), (.ref o0)]))
  refine gob (fun _ k => Jvm.RoadKit.acmp (g := (mkF m 11 #[.val (.ref o0)] [(.ref w_TS), (.ref o0)])) X2 hx rfl rfl rfl (pc0 := 11) (pc' := 14) (same := false) rfl (hb hby d1_11) rfl (decide_eq_false fun q => ne_TS (Value.ref.inj q)) (by decide) (by decide) k) ?_
  show Go _ _ _ _ _ _ _ (T2.setTop (mkF m 14 #[.val (.ref o0)] []))
  show Go _ _ _ _ _ _ _ (T2.setTop (mkF m 14 #[.val (.ref o0)] []))
  refine gob (fun _ k => XS.aloadN X2.here hx rfl (hb hby d1_14) rfl rfl k) ?_
  show Go _ _ _ _ _ _ _ (T2.setTop (mkF m 15 #[.val (.ref o0)] [(.ref o0)]))
  obtain ⟨T3, X3, e3, st3⟩ := getS2 X2 hx hZ hown (host := "") (Or.inl (hw _ (List.mem_of_getElem? (i := 14) rfl))) Via.refl e2 S_TS_Z (g := (mkF m 15 #[.val (.ref o0)] [(.ref o0)])) rfl (hb hby d1_15)
  refine gob st3 ?_
  show Go _ _ _ _ _ _ _ (T3.setTop (mkF m 18 #[.val (.ref o0)] [(.ref w_TS_Z), (.ref o0)]))
  refine gob (fun _ k => Jvm.RoadKit.acmp (g := (mkF m 18 #[.val (.ref o0)] [(.ref w_TS_Z), (.ref o0)])) X3 hx rfl rfl rfl (pc0 := 18) (pc' := 25) (same := false) rfl (hb hby d1_18) rfl (decide_eq_false fun q => ne_TS_Z (Value.ref.inj q)) (by decide) (by decide) k) ?_
  show Go _ _ _ _ _ _ _ (T3.setTop (mkF m 25 #[.val (.ref o0)] []))
  show Go _ _ _ _ _ _ _ (T3.setTop (mkF m 25 #[.val (.ref o0)] []))
  refine gob (fun _ k => XS.iconst X3.here hx rfl (hb hby d1_25) k) ?_
  show Go _ _ _ _ _ _ _ (T3.setTop (mkF m 26 #[.val (.ref o0)] [(.int (0 : Int32))]))
  refine goZ X3 hx hlk (t := .boolean) Bd.returns (by simp) (hb hby d1_26) (z' := (0 : Int32)) rfl ?_ (by decide) (by decide)
  show Q1_NM Z o0 w_DTM w_TS w_TS_Z h0 n0 (some (.int (0 : Int32))) T3.heap _
  exact ⟨(0 : Int32), rfl, rfl, N0, e3⟩
theorem ef_1_SI (m : MethodId) (x0 : Addr) : entryFrame m #[(.ref x0)] 1 = mkF m 0 #[.val (.ref x0)] [] := by first | (simp [entryFrame, mkF, argsToLocals, Value.category]; done) | rfl
def Q1_SI (Z : State) (o0 : Addr) (w_DTM : Addr) (w_TS : Addr) (w_TS_Z : Addr) (h0 : Heap) (n0 : Nat) (v : Option Value) (h : Heap) (L : List Loc) : Prop := ∃ r : Int32, v = some (.int r) ∧ ((r = (0 : Int32))) ∧ Fr n0 L ∧ h = h0
set_option maxRecDepth 65536 in
set_option maxHeartbeats 40000000 in
theorem rm1_SI (l : Launch) (Z : State) (a0 : Array Value) (hw : ∀ d ∈ tables_1, d.before a0 Z = true) (ws : List Jvm.Cond) (o0 : Addr) (w_DTM : Addr) (w_TS : Addr) (w_TS_Z : Addr) (h0 : Heap) (n0 : Nat) (Z0 : n0 ≤ h0.size) (S_DTM : Sta Z h0 "com/example/segmentry/segmentry/DataType$Kind" "DTM" "Lcom/example/segmentry/segmentry/DataType$Kind;" (.ref w_DTM)) (ne_DTM : o0 ≠ w_DTM) (S_TS : Sta Z h0 "com/example/segmentry/segmentry/DataType$Kind" "TS" "Lcom/example/segmentry/segmentry/DataType$Kind;" (.ref w_TS)) (ne_TS : o0 ≠ w_TS) (S_TS_Z : Sta Z h0 "com/example/segmentry/segmentry/DataType$Kind" "TS_Z" "Lcom/example/segmentry/segmentry/DataType$Kind;" (.ref w_TS_Z)) (ne_TS_Z : o0 ≠ w_TS_Z) :
    MetFree l (⟨"com/example/segmentry/segmentry/DataType$Kind", "holdsDateTime", "()Z"⟩ : MethodName) (head1 (Jvm.Cond.code (⟨"com/example/segmentry/segmentry/DataType$Kind", "holdsDateTime", "()Z"⟩ : MethodName) prog_18_method_3_code 1 (some .boolean) :: ws) ({ frames := 0, cells := 0, slots := 0, locals := 0 } : Room)) (fun a U => a = #[(.ref o0)] ∧ Z.Warmed39 U.vm ∧ U.heap = h0) (fun _ _ _ _ _ => True) (fun _ U o U' => ∃ v L, o = .returned v ∧ Q1_SI Z o0 w_DTM w_TS w_TS_Z h0 n0 v U'.heap L ∧ FrameEnd U o U' L ({ frames := 0, cells := 0, slots := 0, locals := 0 } : Room).cells ({ frames := 0, cells := 0, slots := 0, locals := 0 } : Room).slots) := by
  refine MetFree.of_bodySF (plainFor_of_name (by first | (simp [plainName, overriddenIn]; done) | decide +kernel)) hisR ?_
  intro p e s m args below meth c s₁ Bd hml0 hP hK
  obtain ⟨rfl, hZ, hh⟩ := hP
  have hx := Bd.exec
  have hby := Bd.bytes
  have hml : c.maxLocals = 1 := hml0
  have hown : s.vm.findClass "com/example/segmentry/segmentry/DataType$Kind" = some m.cls := findClass_of_methodNamed Bd.named
  have hnm := (name_of_methodNamed Bd.named Bd.method).1
  have hlk := BodyLoose.notSynchronized Bd
  have X0 : Stand p l e ({ frames := 0, cells := 0, slots := 0, locals := 0 } : Room) s m #[(.ref o0)] below meth c s₁ [] 0 0 := Stand.of_body Bd
  have e0 : s₁.heap = h0 := by rw [← hh, Bd.state]; rfl
  have N0 := Fr.nil n0
  show Go p e below s (Q1_SI Z o0 w_DTM w_TS w_TS_Z h0 n0) 0 0 (s₁.setTop (entryFrame m #[(.ref o0)] 1))
  rw [ef_1_SI]
  show Go _ _ _ _ _ _ _ (s₁.setTop (mkF m 0 #[.val (.ref o0)] []))
  refine gob (fun _ k => XS.aloadN X0.here hx rfl (hb hby d1_0) rfl rfl k) ?_
  show Go _ _ _ _ _ _ _ (s₁.setTop (mkF m 1 #[.val (.ref o0)] [(.ref o0)]))
  obtain ⟨T1, X1, e1, st1⟩ := getS2 X0 hx hZ hown (host := "") (Or.inl (hw _ (List.mem_of_getElem? (i := 9) rfl))) Via.refl e0 S_DTM (g := (mkF m 1 #[.val (.ref o0)] [(.ref o0)])) rfl (hb hby d1_1)
  refine gob st1 ?_
  show Go _ _ _ _ _ _ _ (T1.setTop (mkF m 4 #[.val (.ref o0)] [(.ref w_DTM), (.ref o0)]))
  refine gob (fun _ k => Jvm.RoadKit.acmp (g := (mkF m 4 #[.val (.ref o0)] [(.ref w_DTM), (.ref o0)])) X1 hx rfl rfl rfl (pc0 := 4) (pc' := 7) (same := false) rfl (hb hby d1_4) rfl (decide_eq_false fun q => ne_DTM (Value.ref.inj q)) (by decide) (by decide) k) ?_
  show Go _ _ _ _ _ _ _ (T1.setTop (mkF m 7 #[.val (.ref o0)] []))
  show Go _ _ _ _ _ _ _ (T1.setTop (mkF m 7 #[.val (.ref o0)] []))
  refine gob (fun _ k => XS.aloadN X1.here hx rfl (hb hby d1_7) rfl rfl k) ?_
  show Go _ _ _ _ _ _ _ (T1.setTop (mkF m 8 #[.val (.ref o0)] [(.ref o0)]))
  obtain ⟨T2, X2, e2, st2⟩ := getS2 X1 hx hZ hown (host := "") (Or.inl (hw _ (List.mem_of_getElem? (i := 12) rfl))) Via.refl e1 S_TS (g := (mkF m 8 #[.val (.ref o0)] [(.ref o0)])) rfl (hb hby d1_8)
  refine gob st2 ?_
  show Go _ _ _ _ _ _ _ (T2.setTop (mkF m 11 #[.val (.ref o0)] [(.ref w_TS), (.ref o0)]))
  refine gob (fun _ k => Jvm.RoadKit.acmp (g := (mkF m 11 #[.val (.ref o0)] [(.ref w_TS), (.ref o0)])) X2 hx rfl rfl rfl (pc0 := 11) (pc' := 14) (same := false) rfl (hb hby d1_11) rfl (decide_eq_false fun q => ne_TS (Value.ref.inj q)) (by decide) (by decide) k) ?_
  show Go _ _ _ _ _ _ _ (T2.setTop (mkF m 14 #[.val (.ref o0)] []))
  show Go _ _ _ _ _ _ _ (T2.setTop (mkF m 14 #[.val (.ref o0)] []))
  refine gob (fun _ k => XS.aloadN X2.here hx rfl (hb hby d1_14) rfl rfl k) ?_
  show Go _ _ _ _ _ _ _ (T2.setTop (mkF m 15 #[.val (.ref o0)] [(.ref o0)]))
  obtain ⟨T3, X3, e3, st3⟩ := getS2 X2 hx hZ hown (host := "") (Or.inl (hw _ (List.mem_of_getElem? (i := 14) rfl))) Via.refl e2 S_TS_Z (g := (mkF m 15 #[.val (.ref o0)] [(.ref o0)])) rfl (hb hby d1_15)
  refine gob st3 ?_
  show Go _ _ _ _ _ _ _ (T3.setTop (mkF m 18 #[.val (.ref o0)] [(.ref w_TS_Z), (.ref o0)]))
  refine gob (fun _ k => Jvm.RoadKit.acmp (g := (mkF m 18 #[.val (.ref o0)] [(.ref w_TS_Z), (.ref o0)])) X3 hx rfl rfl rfl (pc0 := 18) (pc' := 25) (same := false) rfl (hb hby d1_18) rfl (decide_eq_false fun q => ne_TS_Z (Value.ref.inj q)) (by decide) (by decide) k) ?_
  show Go _ _ _ _ _ _ _ (T3.setTop (mkF m 25 #[.val (.ref o0)] []))
  show Go _ _ _ _ _ _ _ (T3.setTop (mkF m 25 #[.val (.ref o0)] []))
  refine gob (fun _ k => XS.iconst X3.here hx rfl (hb hby d1_25) k) ?_
  show Go _ _ _ _ _ _ _ (T3.setTop (mkF m 26 #[.val (.ref o0)] [(.int (0 : Int32))]))
  refine goZ X3 hx hlk (t := .boolean) Bd.returns (by simp) (hb hby d1_26) (z' := (0 : Int32)) rfl ?_ (by decide) (by decide)
  show Q1_SI Z o0 w_DTM w_TS w_TS_Z h0 n0 (some (.int (0 : Int32))) T3.heap _
  exact ⟨(0 : Int32), rfl, rfl, N0, e3⟩
theorem ef_1_POSITIVE_INTEGER (m : MethodId) (x0 : Addr) : entryFrame m #[(.ref x0)] 1 = mkF m 0 #[.val (.ref x0)] [] := by first | (simp [entryFrame, mkF, argsToLocals, Value.category]; done) | rfl
def Q1_POSITIVE_INTEGER (Z : State) (o0 : Addr) (w_DTM : Addr) (w_TS : Addr) (w_TS_Z : Addr) (h0 : Heap) (n0 : Nat) (v : Option Value) (h : Heap) (L : List Loc) : Prop := ∃ r : Int32, v = some (.int r) ∧ ((r = (0 : Int32))) ∧ Fr n0 L ∧ h = h0
set_option maxRecDepth 65536 in
set_option maxHeartbeats 40000000 in
theorem rm1_POSITIVE_INTEGER (l : Launch) (Z : State) (a0 : Array Value) (hw : ∀ d ∈ tables_1, d.before a0 Z = true) (ws : List Jvm.Cond) (o0 : Addr) (w_DTM : Addr) (w_TS : Addr) (w_TS_Z : Addr) (h0 : Heap) (n0 : Nat) (Z0 : n0 ≤ h0.size) (S_DTM : Sta Z h0 "com/example/segmentry/segmentry/DataType$Kind" "DTM" "Lcom/example/segmentry/segmentry/DataType$Kind;" (.ref w_DTM)) (ne_DTM : o0 ≠ w_DTM) (S_TS : Sta Z h0 "com/example/segmentry/segmentry/DataType$Kind" "TS" "Lcom/example/segmentry/segmentry/DataType$Kind;" (.ref w_TS)) (ne_TS : o0 ≠ w_TS) (S_TS_Z : Sta Z h0 "com/example/segmentry/segmentry/DataType$Kind" "TS_Z" "Lcom/example/segmentry/segmentry/DataType$Kind;" (.ref w_TS_Z)) (ne_TS_Z : o0 ≠ w_TS_Z) :
    MetFree l (⟨"com/example/segmentry/segmentry/DataType$Kind", "holdsDateTime", "()Z"⟩ : MethodName) (head1 (Jvm.Cond.code (⟨"com/example/segmentry/segmentry/DataType$Kind", "holdsDateTime", "()Z"⟩ : MethodName) prog_18_method_3_code 1 (some .boolean) :: ws) ({ frames := 0, cells := 0, slots := 0, locals := 0 } : Room)) (fun a U => a = #[(.ref o0)] ∧ Z.Warmed39 U.vm ∧ U.heap = h0) (fun _ _ _ _ _ => True) (fun _ U o U' => ∃ v L, o = .returned v ∧ Q1_POSITIVE_INTEGER Z o0 w_DTM w_TS w_TS_Z h0 n0 v U'.heap L ∧ FrameEnd U o U' L ({ frames := 0, cells := 0, slots := 0, locals := 0 } : Room).cells ({ frames := 0, cells := 0, slots := 0, locals := 0 } : Room).slots) := by
  refine MetFree.of_bodySF (plainFor_of_name (by first | (simp [plainName, overriddenIn]; done) | decide +kernel)) hisR ?_
  intro p e s m args below meth c s₁ Bd hml0 hP hK
  obtain ⟨rfl, hZ, hh⟩ := hP
  have hx := Bd.exec
  have hby := Bd.bytes
  have hml : c.maxLocals = 1 := hml0
  have hown : s.vm.findClass "com/example/segmentry/segmentry/DataType$Kind" = some m.cls := findClass_of_methodNamed Bd.named
  have hnm := (name_of_methodNamed Bd.named Bd.method).1
  have hlk := BodyLoose.notSynchronized Bd
  have X0 : Stand p l e ({ frames := 0, cells := 0, slots := 0, locals := 0 } : Room) s m #[(.ref o0)] below meth c s₁ [] 0 0 := Stand.of_body Bd
  have e0 : s₁.heap = h0 := by rw [← hh, Bd.state]; rfl
  have N0 := Fr.nil n0
  show Go p e below s (Q1_POSITIVE_INTEGER Z o0 w_DTM w_TS w_TS_Z h0 n0) 0 0 (s₁.setTop (entryFrame m #[(.ref o0)] 1))
  rw [ef_1_POSITIVE_INTEGER]
  show Go _ _ _ _ _ _ _ (s₁.setTop (mkF m 0 #[.val (.ref o0)] []))
  refine gob (fun _ k => XS.aloadN X0.here hx rfl (hb hby d1_0) rfl rfl k) ?_
  show Go _ _ _ _ _ _ _ (s₁.setTop (mkF m 1 #[.val (.ref o0)] [(.ref o0)]))
  obtain ⟨T1, X1, e1, st1⟩ := getS2 X0 hx hZ hown (host := "") (Or.inl (hw _ (List.mem_of_getElem? (i := 9) rfl))) Via.refl e0 S_DTM (g := (mkF m 1 #[.val (.ref o0)] [(.ref o0)])) rfl (hb hby d1_1)
  refine gob st1 ?_
  show Go _ _ _ _ _ _ _ (T1.setTop (mkF m 4 #[.val (.ref o0)] [(.ref w_DTM), (.ref o0)]))
  refine gob (fun _ k => Jvm.RoadKit.acmp (g := (mkF m 4 #[.val (.ref o0)] [(.ref w_DTM), (.ref o0)])) X1 hx rfl rfl rfl (pc0 := 4) (pc' := 7) (same := false) rfl (hb hby d1_4) rfl (decide_eq_false fun q => ne_DTM (Value.ref.inj q)) (by decide) (by decide) k) ?_
  show Go _ _ _ _ _ _ _ (T1.setTop (mkF m 7 #[.val (.ref o0)] []))
  show Go _ _ _ _ _ _ _ (T1.setTop (mkF m 7 #[.val (.ref o0)] []))
  refine gob (fun _ k => XS.aloadN X1.here hx rfl (hb hby d1_7) rfl rfl k) ?_
  show Go _ _ _ _ _ _ _ (T1.setTop (mkF m 8 #[.val (.ref o0)] [(.ref o0)]))
  obtain ⟨T2, X2, e2, st2⟩ := getS2 X1 hx hZ hown (host := "") (Or.inl (hw _ (List.mem_of_getElem? (i := 12) rfl))) Via.refl e1 S_TS (g := (mkF m 8 #[.val (.ref o0)] [(.ref o0)])) rfl (hb hby d1_8)
  refine gob st2 ?_
  show Go _ _ _ _ _ _ _ (T2.setTop (mkF m 11 #[.val (.ref o0)] [(.ref w_TS), (.ref o0)]))
  refine gob (fun _ k => Jvm.RoadKit.acmp (g := (mkF m 11 #[.val (.ref o0)] [(.ref w_TS), (.ref o0)])) X2 hx rfl rfl rfl (pc0 := 11) (pc' := 14) (same := false) rfl (hb hby d1_11) rfl (decide_eq_false fun q => ne_TS (Value.ref.inj q)) (by decide) (by decide) k) ?_
  show Go _ _ _ _ _ _ _ (T2.setTop (mkF m 14 #[.val (.ref o0)] []))
  show Go _ _ _ _ _ _ _ (T2.setTop (mkF m 14 #[.val (.ref o0)] []))
  refine gob (fun _ k => XS.aloadN X2.here hx rfl (hb hby d1_14) rfl rfl k) ?_
  show Go _ _ _ _ _ _ _ (T2.setTop (mkF m 15 #[.val (.ref o0)] [(.ref o0)]))
  obtain ⟨T3, X3, e3, st3⟩ := getS2 X2 hx hZ hown (host := "") (Or.inl (hw _ (List.mem_of_getElem? (i := 14) rfl))) Via.refl e2 S_TS_Z (g := (mkF m 15 #[.val (.ref o0)] [(.ref o0)])) rfl (hb hby d1_15)
  refine gob st3 ?_
  show Go _ _ _ _ _ _ _ (T3.setTop (mkF m 18 #[.val (.ref o0)] [(.ref w_TS_Z), (.ref o0)]))
  refine gob (fun _ k => Jvm.RoadKit.acmp (g := (mkF m 18 #[.val (.ref o0)] [(.ref w_TS_Z), (.ref o0)])) X3 hx rfl rfl rfl (pc0 := 18) (pc' := 25) (same := false) rfl (hb hby d1_18) rfl (decide_eq_false fun q => ne_TS_Z (Value.ref.inj q)) (by decide) (by decide) k) ?_
  show Go _ _ _ _ _ _ _ (T3.setTop (mkF m 25 #[.val (.ref o0)] []))
  show Go _ _ _ _ _ _ _ (T3.setTop (mkF m 25 #[.val (.ref o0)] []))
  refine gob (fun _ k => XS.iconst X3.here hx rfl (hb hby d1_25) k) ?_
  show Go _ _ _ _ _ _ _ (T3.setTop (mkF m 26 #[.val (.ref o0)] [(.int (0 : Int32))]))
  refine goZ X3 hx hlk (t := .boolean) Bd.returns (by simp) (hb hby d1_26) (z' := (0 : Int32)) rfl ?_ (by decide) (by decide)
  show Q1_POSITIVE_INTEGER Z o0 w_DTM w_TS w_TS_Z h0 n0 (some (.int (0 : Int32))) T3.heap _
  exact ⟨(0 : Int32), rfl, rfl, N0, e3⟩
theorem ef_1_DIGITS (m : MethodId) (x0 : Addr) : entryFrame m #[(.ref x0)] 1 = mkF m 0 #[.val (.ref x0)] [] := by first | (simp [entryFrame, mkF, argsToLocals, Value.category]; done) | rfl
def Q1_DIGITS (Z : State) (o0 : Addr) (w_DTM : Addr) (w_TS : Addr) (w_TS_Z : Addr) (h0 : Heap) (n0 : Nat) (v : Option Value) (h : Heap) (L : List Loc) : Prop := ∃ r : Int32, v = some (.int r) ∧ ((r = (0 : Int32))) ∧ Fr n0 L ∧ h = h0
set_option maxRecDepth 65536 in
set_option maxHeartbeats 40000000 in
theorem rm1_DIGITS (l : Launch) (Z : State) (a0 : Array Value) (hw : ∀ d ∈ tables_1, d.before a0 Z = true) (ws : List Jvm.Cond) (o0 : Addr) (w_DTM : Addr) (w_TS : Addr) (w_TS_Z : Addr) (h0 : Heap) (n0 : Nat) (Z0 : n0 ≤ h0.size) (S_DTM : Sta Z h0 "com/example/segmentry/segmentry/DataType$Kind" "DTM" "Lcom/example/segmentry/segmentry/DataType$Kind;" (.ref w_DTM)) (ne_DTM : o0 ≠ w_DTM) (S_TS : Sta Z h0 "com/example/segmentry/segmentry/DataType$Kind" "TS" "Lcom/example/segmentry/segmentry/DataType$Kind;" (.ref w_TS)) (ne_TS : o0 ≠ w_TS) (S_TS_Z : Sta Z h0 "com/example/segmentry/segmentry/DataType$Kind" "TS_Z" "Lcom/example/segmentry/segmentry/DataType$Kind;" (.ref w_TS_Z)) (ne_TS_Z : o0 ≠ w_TS_Z) :
    MetFree l (⟨"com/example/segmentry/segmentry/DataType$Kind", "holdsDateTime", "()Z"⟩ : MethodName) (head1 (Jvm.Cond.code (⟨"com/example/segmentry/segmentry/DataType$Kind", "holdsDateTime", "()Z"⟩ : MethodName) prog_18_method_3_code 1 (some .boolean) :: ws) ({ frames := 0, cells := 0, slots := 0, locals := 0 } : Room)) (fun a U => a = #[(.ref o0)] ∧ Z.Warmed39 U.vm ∧ U.heap = h0) (fun _ _ _ _ _ => True) (fun _ U o U' => ∃ v L, o = .returned v ∧ Q1_DIGITS Z o0 w_DTM w_TS w_TS_Z h0 n0 v U'.heap L ∧ FrameEnd U o U' L ({ frames := 0, cells := 0, slots := 0, locals := 0 } : Room).cells ({ frames := 0, cells := 0, slots := 0, locals := 0 } : Room).slots) := by
  refine MetFree.of_bodySF (plainFor_of_name (by first | (simp [plainName, overriddenIn]; done) | decide +kernel)) hisR ?_
  intro p e s m args below meth c s₁ Bd hml0 hP hK
  obtain ⟨rfl, hZ, hh⟩ := hP
  have hx := Bd.exec
  have hby := Bd.bytes
  have hml : c.maxLocals = 1 := hml0
  have hown : s.vm.findClass "com/example/segmentry/segmentry/DataType$Kind" = some m.cls := findClass_of_methodNamed Bd.named
  have hnm := (name_of_methodNamed Bd.named Bd.method).1
  have hlk := BodyLoose.notSynchronized Bd
  have X0 : Stand p l e ({ frames := 0, cells := 0, slots := 0, locals := 0 } : Room) s m #[(.ref o0)] below meth c s₁ [] 0 0 := Stand.of_body Bd
  have e0 : s₁.heap = h0 := by rw [← hh, Bd.state]; rfl
  have N0 := Fr.nil n0
  show Go p e below s (Q1_DIGITS Z o0 w_DTM w_TS w_TS_Z h0 n0) 0 0 (s₁.setTop (entryFrame m #[(.ref o0)] 1))
  rw [ef_1_DIGITS]
  show Go _ _ _ _ _ _ _ (s₁.setTop (mkF m 0 #[.val (.ref o0)] []))
  refine gob (fun _ k => XS.aloadN X0.here hx rfl (hb hby d1_0) rfl rfl k) ?_
  show Go _ _ _ _ _ _ _ (s₁.setTop (mkF m 1 #[.val (.ref o0)] [(.ref o0)]))
  obtain ⟨T1, X1, e1, st1⟩ := getS2 X0 hx hZ hown (host := "") (Or.inl (hw _ (List.mem_of_getElem? (i := 9) rfl))) Via.refl e0 S_DTM (g := (mkF m 1 #[.val (.ref o0)] [(.ref o0)])) rfl (hb hby d1_1)
  refine gob st1 ?_
  show Go _ _ _ _ _ _ _ (T1.setTop (mkF m 4 #[.val (.ref o0)] [(.ref w_DTM), (.ref o0)]))
  refine gob (fun _ k => Jvm.RoadKit.acmp (g := (mkF m 4 #[.val (.ref o0)] [(.ref w_DTM), (.ref o0)])) X1 hx rfl rfl rfl (pc0 := 4) (pc' := 7) (same := false) rfl (hb hby d1_4) rfl (decide_eq_false fun q => ne_DTM (Value.ref.inj q)) (by decide) (by decide) k) ?_
  show Go _ _ _ _ _ _ _ (T1.setTop (mkF m 7 #[.val (.ref o0)] []))
  show Go _ _ _ _ _ _ _ (T1.setTop (mkF m 7 #[.val (.ref o0)] []))
  refine gob (fun _ k => XS.aloadN X1.here hx rfl (hb hby d1_7) rfl rfl k) ?_
  show Go _ _ _ _ _ _ _ (T1.setTop (mkF m 8 #[.val (.ref o0)] [(.ref o0)]))
  obtain ⟨T2, X2, e2, st2⟩ := getS2 X1 hx hZ hown (host := "") (Or.inl (hw _ (List.mem_of_getElem? (i := 12) rfl))) Via.refl e1 S_TS (g := (mkF m 8 #[.val (.ref o0)] [(.ref o0)])) rfl (hb hby d1_8)
  refine gob st2 ?_
  show Go _ _ _ _ _ _ _ (T2.setTop (mkF m 11 #[.val (.ref o0)] [(.ref w_TS), (.ref o0)]))
  refine gob (fun _ k => Jvm.RoadKit.acmp (g := (mkF m 11 #[.val (.ref o0)] [(.ref w_TS), (.ref o0)])) X2 hx rfl rfl rfl (pc0 := 11) (pc' := 14) (same := false) rfl (hb hby d1_11) rfl (decide_eq_false fun q => ne_TS (Value.ref.inj q)) (by decide) (by decide) k) ?_
  show Go _ _ _ _ _ _ _ (T2.setTop (mkF m 14 #[.val (.ref o0)] []))
  show Go _ _ _ _ _ _ _ (T2.setTop (mkF m 14 #[.val (.ref o0)] []))
  refine gob (fun _ k => XS.aloadN X2.here hx rfl (hb hby d1_14) rfl rfl k) ?_
  show Go _ _ _ _ _ _ _ (T2.setTop (mkF m 15 #[.val (.ref o0)] [(.ref o0)]))
  obtain ⟨T3, X3, e3, st3⟩ := getS2 X2 hx hZ hown (host := "") (Or.inl (hw _ (List.mem_of_getElem? (i := 14) rfl))) Via.refl e2 S_TS_Z (g := (mkF m 15 #[.val (.ref o0)] [(.ref o0)])) rfl (hb hby d1_15)
  refine gob st3 ?_
  show Go _ _ _ _ _ _ _ (T3.setTop (mkF m 18 #[.val (.ref o0)] [(.ref w_TS_Z), (.ref o0)]))
  refine gob (fun _ k => Jvm.RoadKit.acmp (g := (mkF m 18 #[.val (.ref o0)] [(.ref w_TS_Z), (.ref o0)])) X3 hx rfl rfl rfl (pc0 := 18) (pc' := 25) (same := false) rfl (hb hby d1_18) rfl (decide_eq_false fun q => ne_TS_Z (Value.ref.inj q)) (by decide) (by decide) k) ?_
  show Go _ _ _ _ _ _ _ (T3.setTop (mkF m 25 #[.val (.ref o0)] []))
  show Go _ _ _ _ _ _ _ (T3.setTop (mkF m 25 #[.val (.ref o0)] []))
  refine gob (fun _ k => XS.iconst X3.here hx rfl (hb hby d1_25) k) ?_
  show Go _ _ _ _ _ _ _ (T3.setTop (mkF m 26 #[.val (.ref o0)] [(.int (0 : Int32))]))
  refine goZ X3 hx hlk (t := .boolean) Bd.returns (by simp) (hb hby d1_26) (z' := (0 : Int32)) rfl ?_ (by decide) (by decide)
  show Q1_DIGITS Z o0 w_DTM w_TS w_TS_Z h0 n0 (some (.int (0 : Int32))) T3.heap _
  exact ⟨(0 : Int32), rfl, rfl, N0, e3⟩
theorem pd_0 : parseMethodDescriptor "()Z" = some ⟨[], some .boolean⟩ := by decide +kernel
theorem ef_0 (m : MethodId) (x0 : Int32) : entryFrame m #[(.int x0)] maxLocals = mkF m 0 #[.val (.int x0), .unset, .unset, .unset] [] := by first | (simp [entryFrame, mkF, argsToLocals, Value.category, maxLocals]; done) | rfl
def Q0 (Z : State) (p0 : Int32) (w_DTM : Addr) (w_TS : Addr) (w_TS_Z : Addr) (w_NM : Addr) (w_SI : Addr) (w_POSITIVE_INTEGER : Addr) (w_DIGITS : Addr) (h0 : Heap) (n0 : Nat) (v : Option Value) (h : Heap) (L : List Loc) : Prop := v = some (.int 1) ∧ Fr n0 L
theorem ld_0_102_5 (r4 : Int32) (hr4 : (r4 = (1 : Int32))) : r4 = (1 : Int32) := by
  have := rng32 r4
  have : (1 : Int32).toInt = 1 := by decide
  try (simp only [Int32.lt_iff_toInt_lt, Int32.le_iff_toInt_le, Int64.lt_iff_toInt_lt, Int64.le_iff_toInt_le, ← Int32.toInt_inj, ← Int64.toInt_inj, ne_eq] at *)
  omega
theorem ld_0_102_10 (r9 : Int32) (hr9 : (r9 = (1 : Int32))) : r9 = (1 : Int32) := by
  have := rng32 r9
  have : (1 : Int32).toInt = 1 := by decide
  try (simp only [Int32.lt_iff_toInt_lt, Int32.le_iff_toInt_le, Int64.lt_iff_toInt_lt, Int64.le_iff_toInt_le, ← Int32.toInt_inj, ← Int64.toInt_inj, ne_eq] at *)
  omega
theorem ld_0_102_15 (r14 : Int32) (hr14 : (r14 = (1 : Int32))) : r14 = (1 : Int32) := by
  have := rng32 r14
  have : (1 : Int32).toInt = 1 := by decide
  try (simp only [Int32.lt_iff_toInt_lt, Int32.le_iff_toInt_le, Int64.lt_iff_toInt_lt, Int64.le_iff_toInt_le, ← Int32.toInt_inj, ← Int64.toInt_inj, ne_eq] at *)
  omega
theorem ld_0_102_20 (r19 : Int32) (hr19 : (r19 = (0 : Int32))) : r19 = (0 : Int32) := by
  have := rng32 r19
  have : (0 : Int32).toInt = 0 := by decide
  try (simp only [Int32.lt_iff_toInt_lt, Int32.le_iff_toInt_le, Int64.lt_iff_toInt_lt, Int64.le_iff_toInt_le, ← Int32.toInt_inj, ← Int64.toInt_inj, ne_eq] at *)
  omega
theorem ld_0_102_25 (r24 : Int32) (hr24 : (r24 = (0 : Int32))) : r24 = (0 : Int32) := by
  have := rng32 r24
  have : (0 : Int32).toInt = 0 := by decide
  try (simp only [Int32.lt_iff_toInt_lt, Int32.le_iff_toInt_le, Int64.lt_iff_toInt_lt, Int64.le_iff_toInt_le, ← Int32.toInt_inj, ← Int64.toInt_inj, ne_eq] at *)
  omega
theorem ld_0_102_30 (r29 : Int32) (hr29 : (r29 = (0 : Int32))) : r29 = (0 : Int32) := by
  have := rng32 r29
  have : (0 : Int32).toInt = 0 := by decide
  try (simp only [Int32.lt_iff_toInt_lt, Int32.le_iff_toInt_le, Int64.lt_iff_toInt_lt, Int64.le_iff_toInt_le, ← Int32.toInt_inj, ← Int64.toInt_inj, ne_eq] at *)
  omega
theorem ld_0_102_34 (r33 : Int32) (hr33 : (r33 = (0 : Int32))) : r33 = (0 : Int32) := by
  have := rng32 r33
  have : (0 : Int32).toInt = 0 := by decide
  try (simp only [Int32.lt_iff_toInt_lt, Int32.le_iff_toInt_le, Int64.lt_iff_toInt_lt, Int64.le_iff_toInt_le, ← Int32.toInt_inj, ← Int64.toInt_inj, ne_eq] at *)
  omega
set_option maxRecDepth 65536 in
set_option maxHeartbeats 40000000 in
theorem rm0 (l : Launch) (Z : State) (a0 : Array Value) (hw : ∀ d ∈ tables_1, d.before a0 Z = true) (ws : List Jvm.Cond) (p0 : Int32) (w_DTM : Addr) (w_TS : Addr) (w_TS_Z : Addr) (w_NM : Addr) (w_SI : Addr) (w_POSITIVE_INTEGER : Addr) (w_DIGITS : Addr) (h0 : Heap) (n0 : Nat) (Z0 : n0 ≤ h0.size) (S_DTM : Sta Z h0 "com/example/segmentry/segmentry/DataType$Kind" "DTM" "Lcom/example/segmentry/segmentry/DataType$Kind;" (.ref w_DTM)) (E_DTM : Exa Z h0 w_DTM "com/example/segmentry/segmentry/DataType$Kind") (S_TS : Sta Z h0 "com/example/segmentry/segmentry/DataType$Kind" "TS" "Lcom/example/segmentry/segmentry/DataType$Kind;" (.ref w_TS)) (E_TS : Exa Z h0 w_TS "com/example/segmentry/segmentry/DataType$Kind") (S_TS_Z : Sta Z h0 "com/example/segmentry/segmentry/DataType$Kind" "TS_Z" "Lcom/example/segmentry/segmentry/DataType$Kind;" (.ref w_TS_Z)) (E_TS_Z : Exa Z h0 w_TS_Z "com/example/segmentry/segmentry/DataType$Kind") (S_NM : Sta Z h0 "com/example/segmentry/segmentry/DataType$Kind" "NM" "Lcom/example/segmentry/segmentry/DataType$Kind;" (.ref w_NM)) (E_NM : Exa Z h0 w_NM "com/example/segmentry/segmentry/DataType$Kind") (S_SI : Sta Z h0 "com/example/segmentry/segmentry/DataType$Kind" "SI" "Lcom/example/segmentry/segmentry/DataType$Kind;" (.ref w_SI)) (E_SI : Exa Z h0 w_SI "com/example/segmentry/segmentry/DataType$Kind") (S_POSITIVE_INTEGER : Sta Z h0 "com/example/segmentry/segmentry/DataType$Kind" "POSITIVE_INTEGER" "Lcom/example/segmentry/segmentry/DataType$Kind;" (.ref w_POSITIVE_INTEGER)) (E_POSITIVE_INTEGER : Exa Z h0 w_POSITIVE_INTEGER "com/example/segmentry/segmentry/DataType$Kind") (S_DIGITS : Sta Z h0 "com/example/segmentry/segmentry/DataType$Kind" "DIGITS" "Lcom/example/segmentry/segmentry/DataType$Kind;" (.ref w_DIGITS)) (E_DIGITS : Exa Z h0 w_DIGITS "com/example/segmentry/segmentry/DataType$Kind") (ne_DTM_TS : w_DTM ≠ w_TS) (ne_DTM_TS_Z : w_DTM ≠ w_TS_Z) (ne_TS_DTM : w_TS ≠ w_DTM) (ne_TS_TS_Z : w_TS ≠ w_TS_Z) (ne_TS_Z_DTM : w_TS_Z ≠ w_DTM) (ne_TS_Z_TS : w_TS_Z ≠ w_TS) (ne_NM_DTM : w_NM ≠ w_DTM) (ne_NM_TS : w_NM ≠ w_TS) (ne_NM_TS_Z : w_NM ≠ w_TS_Z) (ne_SI_DTM : w_SI ≠ w_DTM) (ne_SI_TS : w_SI ≠ w_TS) (ne_SI_TS_Z : w_SI ≠ w_TS_Z) (ne_POSITIVE_INTEGER_DTM : w_POSITIVE_INTEGER ≠ w_DTM) (ne_POSITIVE_INTEGER_TS : w_POSITIVE_INTEGER ≠ w_TS) (ne_POSITIVE_INTEGER_TS_Z : w_POSITIVE_INTEGER ≠ w_TS_Z) (ne_DIGITS_DTM : w_DIGITS ≠ w_DTM) (ne_DIGITS_TS : w_DIGITS ≠ w_TS) (ne_DIGITS_TS_Z : w_DIGITS ≠ w_TS_Z) :
    MetFree l x (head1 (Jvm.Cond.code x code maxLocals ret :: ws) room_1) (fun a U => a = #[(.int p0)] ∧ Z.Warmed39 U.vm ∧ U.heap = h0) (fun _ _ _ _ _ => True) (fun _ U o U' => ∃ v L, o = .returned v ∧ Q0 Z p0 w_DTM w_TS w_TS_Z w_NM w_SI w_POSITIVE_INTEGER w_DIGITS h0 n0 v U'.heap L ∧ FrameEnd U o U' L 0 0) := by
  refine MetFree.of_bodySF (plainFor_of_name (by first | (simp [plainName, overriddenIn]; done) | decide +kernel)) hisR ?_
  intro p e s m args below meth c s₁ Bd hml0 hP hK
  obtain ⟨rfl, hZ, hh⟩ := hP
  have hx := Bd.exec
  have hby := Bd.bytes
  have hml : c.maxLocals = 4 := hml0
  have hown : s.vm.findClass "com/example/segmentry/segmentry/KindHoldsDateTimePinLaw" = some m.cls := findClass_of_methodNamed Bd.named
  have hnm := (name_of_methodNamed Bd.named Bd.method).1
  have hlk := BodyLoose.notSynchronized Bd
  have X0 : Stand p l e room_1 s m #[(.int p0)] below meth c s₁ [] 0 0 := Stand.of_body Bd
  have e0 : s₁.heap = h0 := by rw [← hh, Bd.state]; rfl
  have N0 := Fr.nil n0
  show Go p e below s (Q0 Z p0 w_DTM w_TS w_TS_Z w_NM w_SI w_POSITIVE_INTEGER w_DIGITS h0 n0) 0 0 (s₁.setTop (entryFrame m #[(.int p0)] maxLocals))
  rw [ef_0]
  show Go _ _ _ _ _ _ _ (s₁.setTop (mkF m 0 #[.val (.int p0), .unset, .unset, .unset] []))
  refine gob (fun _ k => XS.iloadN X0.here hx rfl (hb hby at_0) rfl k) ?_
  show Go _ _ _ _ _ _ _ (s₁.setTop (mkF m 1 #[.val (.int p0), .unset, .unset, .unset] [(.int p0)]))
  refine gob (X0.ldcInt hx hown (mvT hZ (hw _ (List.mem_of_getElem? (i := 0) rfl))) (g := (mkF m 1 #[.val (.int p0), .unset, .unset, .unset] [(.int p0)])) rfl (hb hby at_1)) ?_
  show Go _ _ _ _ _ _ _ (s₁.setTop (mkF m 3 #[.val (.int p0), .unset, .unset, .unset] [(.int (2147483647 : Int32)), (.int p0)]))
  refine gob (fun _ k => XS.iand X0.here hx rfl (hb hby at_3) rfl k) ?_
  show Go _ _ _ _ _ _ _ (s₁.setTop (mkF m 4 #[.val (.int p0), .unset, .unset, .unset] [(.int (p0 &&& (2147483647 : Int32)))]))
  refine gob (fun _ k => XS.bipush X0.here hx rfl (hb hby at_4) k) ?_
  show Go _ _ _ _ _ _ _ (s₁.setTop (mkF m 6 #[.val (.int p0), .unset, .unset, .unset] [(.int (7 : Int32)), (.int (p0 &&& (2147483647 : Int32)))]))
  refine gob (fun _ k => iremM X0 hx rfl (hb hby at_6) rfl (by decide) k) ?_
  show Go _ _ _ _ _ _ _ (s₁.setTop (mkF m 7 #[.val (.int p0), .unset, .unset, .unset] [(.int ((p0 &&& (2147483647 : Int32)) % (7 : Int32)))]))
  refine gob (fun _ k => XS.istoreN X0.here hx rfl (hb hby at_7) rfl (l' := #[.val (.int p0), .val (.int ((p0 &&& (2147483647 : Int32)) % (7 : Int32))), .unset, .unset]) rfl k) ?_
  show Go _ _ _ _ _ _ _ (s₁.setTop (mkF m 8 #[.val (.int p0), .val (.int ((p0 &&& (2147483647 : Int32)) % (7 : Int32))), .unset, .unset] []))
  generalize hx1 : ((p0 &&& (2147483647 : Int32)) % (7 : Int32)) = x1
  show Go _ _ _ _ _ _ _ (s₁.setTop (mkF m 8 #[.val (.int p0), .val (.int x1), .unset, .unset] []))
  refine gob (fun _ k => XS.iloadN X0.here hx rfl (hb hby at_8) rfl k) ?_
  show Go _ _ _ _ _ _ _ (s₁.setTop (mkF m 9 #[.val (.int p0), .val (.int x1), .unset, .unset] [(.int x1)]))
  by_cases hc9_2 : x1 = (0 : Int32)
  · skip
    refine gob (fun _ k => XS.ifNo X0.here hx rfl (hb hby at_9) rfl ((if0 _ _).trans (teq hc9_2).2) k) ?_
    show Go _ _ _ _ _ _ _ (s₁.setTop (mkF m 12 #[.val (.int p0), .val (.int x1), .unset, .unset] []))
    obtain ⟨T3, X3, e3, st3⟩ := getS2 X0 hx hZ hown (host := "") (Or.inl (hw _ (List.mem_of_getElem? (i := 1) rfl))) Via.refl e0 S_DTM (g := (mkF m 12 #[.val (.int p0), .val (.int x1), .unset, .unset] [])) rfl (hb hby at_12)
    refine gob st3 ?_
    show Go _ _ _ _ _ _ _ (T3.setTop (mkF m 15 #[.val (.int p0), .val (.int x1), .unset, .unset] [(.ref w_DTM)]))
    refine gob (fun _ k => XS.astoreN X3.here hx rfl (hb hby at_15) rfl rfl (l' := #[.val (.int p0), .val (.int x1), .val (.ref w_DTM), .unset]) rfl k) ?_
    show Go _ _ _ _ _ _ _ (T3.setTop (mkF m 16 #[.val (.int p0), .val (.int x1), .val (.ref w_DTM), .unset] []))
    refine gob (fun _ k => XS.iconst X3.here hx rfl (hb hby at_16) k) ?_
    show Go _ _ _ _ _ _ _ (T3.setTop (mkF m 17 #[.val (.int p0), .val (.int x1), .val (.ref w_DTM), .unset] [(.int (1 : Int32))]))
    refine gob (fun _ k => XS.istoreN X3.here hx rfl (hb hby at_17) rfl (l' := #[.val (.int p0), .val (.int x1), .val (.ref w_DTM), .val (.int (1 : Int32))]) rfl k) ?_
    show Go _ _ _ _ _ _ _ (T3.setTop (mkF m 18 #[.val (.int p0), .val (.int x1), .val (.ref w_DTM), .val (.int (1 : Int32))] []))
    refine gob (fun _ k => XS.goto X3.here hx rfl (pc0 := 18) (pc' := 97) rfl (hb hby at_18) (by decide) (by decide) k) ?_
    show Go _ _ _ _ _ _ _ (T3.setTop (mkF m 97 #[.val (.int p0), .val (.int x1), .val (.ref w_DTM), .val (.int (1 : Int32))] []))
    refine gob (fun _ k => XS.aloadN X3.here hx rfl (hb hby at_97) rfl rfl k) ?_
    show Go _ _ _ _ _ _ _ (T3.setTop (mkF m 98 #[.val (.int p0), .val (.int x1), .val (.ref w_DTM), .val (.int (1 : Int32))] [(.ref w_DTM)]))
    obtain ⟨cq4, kq4, q4a, q4b, q4c⟩ := isOf hZ e3 E_DTM
    obtain ⟨_, _, ⟨T4, L4, k4, n4⟩, -, X4, ⟨Lc4, hQ4, l4, y4, z4⟩, st4⟩ := X3.virtualBack hx (y := (⟨"com/example/segmentry/segmentry/DataType$Kind", "holdsDateTime", "()Z"⟩ : MethodName)) (z := (⟨"com/example/segmentry/segmentry/DataType$Kind", "holdsDateTime", "()Z"⟩ : MethodName)) hown (mvT hZ (hw _ (List.mem_of_getElem? (i := 4) rfl))) (mvT hZ (hw _ (List.mem_of_getElem? (i := 5) rfl))) (notFace_of_selects (args := #[]) (mvT hZ (hw _ (List.mem_of_getElem? (i := 7) rfl)))) (mvT hZ (hw _ (List.mem_of_getElem? (i := 7) rfl))) (mvT hZ (hw _ (List.mem_of_getElem? (i := 6) rfl))) (by decide) (backOf (W := 0) (rm1_DTM l Z a0 hw [] w_DTM w_TS w_TS_Z h0 n0 Z0 S_DTM S_TS ne_DTM_TS S_TS_Z ne_DTM_TS_Z) hZ (hw _ (List.mem_of_getElem? (i := 8) rfl)) (hw _ (List.mem_of_getElem? (i := 2) rfl)) (by decide) (by decide)) q4a q4c (g := (mkF m 98 #[.val (.int p0), .val (.int x1), .val (.ref w_DTM), .val (.int (1 : Int32))] [(.ref w_DTM)])) rfl (by rw [hml]; rfl) (Steps.refl _) (argsL := []) (rest := []) (lenOf pd_0 rfl) rfl (by show 2 * 0 + _ ≤ _; exact Nat.le_of_eq rfl) (hb hby at_98) (fun _ _ => ⟨rfl, e3, (by decide : 0 + 0 ≤ _), (by decide : 0 + 0 ≤ _)⟩)
    dsimp only [Pt.U, Pt.locs, Pt.cells, Pt.slots] at X4 l4 y4 z4 st4 hQ4
    subst l4 y4 z4
    obtain ⟨r4, rfl, hr4, Nq4, e4⟩ := hQ4
    have N4 := Fr.app N0 Nq4
    refine gob (fun _ k => st4.trans k) ?_
    show Go _ _ _ _ _ _ _ (T4.setTop (mkF m 101 #[.val (.int p0), .val (.int x1), .val (.ref w_DTM), .val (.int (1 : Int32))] [(.int r4)]))
    refine gob (fun _ k => XS.iloadN X4.here hx rfl (hb hby at_101) rfl k) ?_
    show Go _ _ _ _ _ _ _ (T4.setTop (mkF m 102 #[.val (.int p0), .val (.int x1), .val (.ref w_DTM), .val (.int (1 : Int32))] [(.int (1 : Int32)), (.int r4)]))
    have hd6 : r4 = (1 : Int32) := ld_0_102_5 r4 hr4
    refine gob (fun _ k => XS.icmpNo X4.here hx rfl (hb hby at_102) rfl (teq hd6).2 k) ?_
    show Go _ _ _ _ _ _ _ (T4.setTop (mkF m 105 #[.val (.int p0), .val (.int x1), .val (.ref w_DTM), .val (.int (1 : Int32))] []))
    refine gob (fun _ k => XS.iconst X4.here hx rfl (hb hby at_105) k) ?_
    show Go _ _ _ _ _ _ _ (T4.setTop (mkF m 106 #[.val (.int p0), .val (.int x1), .val (.ref w_DTM), .val (.int (1 : Int32))] [(.int (1 : Int32))]))
    refine gob (fun _ k => XS.goto X4.here hx rfl (pc0 := 106) (pc' := 110) rfl (hb hby at_106) (by decide) (by decide) k) ?_
    show Go _ _ _ _ _ _ _ (T4.setTop (mkF m 110 #[.val (.int p0), .val (.int x1), .val (.ref w_DTM), .val (.int (1 : Int32))] [(.int (1 : Int32))]))
    refine goZ X4 hx hlk (t := .boolean) Bd.returns (by simp) (hb hby at_110) (z' := (1 : Int32)) rfl ?_ (by decide) (by decide)
    show Q0 Z p0 w_DTM w_TS w_TS_Z w_NM w_SI w_POSITIVE_INTEGER w_DIGITS h0 n0 (some (.int (1 : Int32))) T4.heap _
    exact ⟨rfl, N4⟩
  · skip
    refine gob (fun _ k => XS.ifYes X0.here hx rfl (pc0 := 9) (pc' := 21) rfl (hb hby at_9) rfl ((if0 _ _).trans (feq hc9_2).2) (by decide) (by decide) k) ?_
    show Go _ _ _ _ _ _ _ (s₁.setTop (mkF m 21 #[.val (.int p0), .val (.int x1), .unset, .unset] []))
    refine gob (fun _ k => XS.iloadN X0.here hx rfl (hb hby at_21) rfl k) ?_
    show Go _ _ _ _ _ _ _ (s₁.setTop (mkF m 22 #[.val (.int p0), .val (.int x1), .unset, .unset] [(.int x1)]))
    refine gob (fun _ k => XS.iconst X0.here hx rfl (hb hby at_22) k) ?_
    show Go _ _ _ _ _ _ _ (s₁.setTop (mkF m 23 #[.val (.int p0), .val (.int x1), .unset, .unset] [(.int (1 : Int32)), (.int x1)]))
    by_cases hc23_7 : x1 = (1 : Int32)
    · skip
      refine gob (fun _ k => XS.icmpNo X0.here hx rfl (hb hby at_23) rfl (teq hc23_7).2 k) ?_
      show Go _ _ _ _ _ _ _ (s₁.setTop (mkF m 26 #[.val (.int p0), .val (.int x1), .unset, .unset] []))
      obtain ⟨T8, X8, e8, st8⟩ := getS2 X0 hx hZ hown (host := "") (Or.inl (hw _ (List.mem_of_getElem? (i := 23) rfl))) Via.refl e0 S_TS (g := (mkF m 26 #[.val (.int p0), .val (.int x1), .unset, .unset] [])) rfl (hb hby at_26)
      refine gob st8 ?_
      show Go _ _ _ _ _ _ _ (T8.setTop (mkF m 29 #[.val (.int p0), .val (.int x1), .unset, .unset] [(.ref w_TS)]))
      refine gob (fun _ k => XS.astoreN X8.here hx rfl (hb hby at_29) rfl rfl (l' := #[.val (.int p0), .val (.int x1), .val (.ref w_TS), .unset]) rfl k) ?_
      show Go _ _ _ _ _ _ _ (T8.setTop (mkF m 30 #[.val (.int p0), .val (.int x1), .val (.ref w_TS), .unset] []))
      refine gob (fun _ k => XS.iconst X8.here hx rfl (hb hby at_30) k) ?_
      show Go _ _ _ _ _ _ _ (T8.setTop (mkF m 31 #[.val (.int p0), .val (.int x1), .val (.ref w_TS), .unset] [(.int (1 : Int32))]))
      refine gob (fun _ k => XS.istoreN X8.here hx rfl (hb hby at_31) rfl (l' := #[.val (.int p0), .val (.int x1), .val (.ref w_TS), .val (.int (1 : Int32))]) rfl k) ?_
      show Go _ _ _ _ _ _ _ (T8.setTop (mkF m 32 #[.val (.int p0), .val (.int x1), .val (.ref w_TS), .val (.int (1 : Int32))] []))
      refine gob (fun _ k => XS.goto X8.here hx rfl (pc0 := 32) (pc' := 97) rfl (hb hby at_32) (by decide) (by decide) k) ?_
      show Go _ _ _ _ _ _ _ (T8.setTop (mkF m 97 #[.val (.int p0), .val (.int x1), .val (.ref w_TS), .val (.int (1 : Int32))] []))
      refine gob (fun _ k => XS.aloadN X8.here hx rfl (hb hby at_97) rfl rfl k) ?_
      show Go _ _ _ _ _ _ _ (T8.setTop (mkF m 98 #[.val (.int p0), .val (.int x1), .val (.ref w_TS), .val (.int (1 : Int32))] [(.ref w_TS)]))
      obtain ⟨cq9, kq9, q9a, q9b, q9c⟩ := isOf hZ e8 E_TS
      obtain ⟨_, _, ⟨T9, L9, k9, n9⟩, -, X9, ⟨Lc9, hQ9, l9, y9, z9⟩, st9⟩ := X8.virtualBack hx (y := (⟨"com/example/segmentry/segmentry/DataType$Kind", "holdsDateTime", "()Z"⟩ : MethodName)) (z := (⟨"com/example/segmentry/segmentry/DataType$Kind", "holdsDateTime", "()Z"⟩ : MethodName)) hown (mvT hZ (hw _ (List.mem_of_getElem? (i := 4) rfl))) (mvT hZ (hw _ (List.mem_of_getElem? (i := 5) rfl))) (notFace_of_selects (args := #[]) (mvT hZ (hw _ (List.mem_of_getElem? (i := 7) rfl)))) (mvT hZ (hw _ (List.mem_of_getElem? (i := 7) rfl))) (mvT hZ (hw _ (List.mem_of_getElem? (i := 6) rfl))) (by decide) (backOf (W := 0) (rm1_TS l Z a0 hw [] w_TS w_DTM w_TS_Z h0 n0 Z0 S_DTM ne_TS_DTM S_TS S_TS_Z ne_TS_TS_Z) hZ (hw _ (List.mem_of_getElem? (i := 8) rfl)) (hw _ (List.mem_of_getElem? (i := 2) rfl)) (by decide) (by decide)) q9a q9c (g := (mkF m 98 #[.val (.int p0), .val (.int x1), .val (.ref w_TS), .val (.int (1 : Int32))] [(.ref w_TS)])) rfl (by rw [hml]; rfl) (Steps.refl _) (argsL := []) (rest := []) (lenOf pd_0 rfl) rfl (by show 2 * 0 + _ ≤ _; exact Nat.le_of_eq rfl) (hb hby at_98) (fun _ _ => ⟨rfl, e8, (by decide : 0 + 0 ≤ _), (by decide : 0 + 0 ≤ _)⟩)
      dsimp only [Pt.U, Pt.locs, Pt.cells, Pt.slots] at X9 l9 y9 z9 st9 hQ9
      subst l9 y9 z9
      obtain ⟨r9, rfl, hr9, Nq9, e9⟩ := hQ9
      have N9 := Fr.app N0 Nq9
      refine gob (fun _ k => st9.trans k) ?_
      show Go _ _ _ _ _ _ _ (T9.setTop (mkF m 101 #[.val (.int p0), .val (.int x1), .val (.ref w_TS), .val (.int (1 : Int32))] [(.int r9)]))
      refine gob (fun _ k => XS.iloadN X9.here hx rfl (hb hby at_101) rfl k) ?_
      show Go _ _ _ _ _ _ _ (T9.setTop (mkF m 102 #[.val (.int p0), .val (.int x1), .val (.ref w_TS), .val (.int (1 : Int32))] [(.int (1 : Int32)), (.int r9)]))
      have hd11 : r9 = (1 : Int32) := ld_0_102_10 r9 hr9
      refine gob (fun _ k => XS.icmpNo X9.here hx rfl (hb hby at_102) rfl (teq hd11).2 k) ?_
      show Go _ _ _ _ _ _ _ (T9.setTop (mkF m 105 #[.val (.int p0), .val (.int x1), .val (.ref w_TS), .val (.int (1 : Int32))] []))
      refine gob (fun _ k => XS.iconst X9.here hx rfl (hb hby at_105) k) ?_
      show Go _ _ _ _ _ _ _ (T9.setTop (mkF m 106 #[.val (.int p0), .val (.int x1), .val (.ref w_TS), .val (.int (1 : Int32))] [(.int (1 : Int32))]))
      refine gob (fun _ k => XS.goto X9.here hx rfl (pc0 := 106) (pc' := 110) rfl (hb hby at_106) (by decide) (by decide) k) ?_
      show Go _ _ _ _ _ _ _ (T9.setTop (mkF m 110 #[.val (.int p0), .val (.int x1), .val (.ref w_TS), .val (.int (1 : Int32))] [(.int (1 : Int32))]))
      refine goZ X9 hx hlk (t := .boolean) Bd.returns (by simp) (hb hby at_110) (z' := (1 : Int32)) rfl ?_ (by decide) (by decide)
      show Q0 Z p0 w_DTM w_TS w_TS_Z w_NM w_SI w_POSITIVE_INTEGER w_DIGITS h0 n0 (some (.int (1 : Int32))) T9.heap _
      exact ⟨rfl, N9⟩
    · skip
      refine gob (fun _ k => XS.icmpYes X0.here hx rfl (pc0 := 23) (pc' := 35) rfl (hb hby at_23) rfl (feq hc23_7).2 (by decide) (by decide) k) ?_
      show Go _ _ _ _ _ _ _ (s₁.setTop (mkF m 35 #[.val (.int p0), .val (.int x1), .unset, .unset] []))
      refine gob (fun _ k => XS.iloadN X0.here hx rfl (hb hby at_35) rfl k) ?_
      show Go _ _ _ _ _ _ _ (s₁.setTop (mkF m 36 #[.val (.int p0), .val (.int x1), .unset, .unset] [(.int x1)]))
      refine gob (fun _ k => XS.iconst X0.here hx rfl (hb hby at_36) k) ?_
      show Go _ _ _ _ _ _ _ (s₁.setTop (mkF m 37 #[.val (.int p0), .val (.int x1), .unset, .unset] [(.int (2 : Int32)), (.int x1)]))
      by_cases hc37_12 : x1 = (2 : Int32)
      · skip
        refine gob (fun _ k => XS.icmpNo X0.here hx rfl (hb hby at_37) rfl (teq hc37_12).2 k) ?_
        show Go _ _ _ _ _ _ _ (s₁.setTop (mkF m 40 #[.val (.int p0), .val (.int x1), .unset, .unset] []))
        obtain ⟨T13, X13, e13, st13⟩ := getS2 X0 hx hZ hown (host := "") (Or.inl (hw _ (List.mem_of_getElem? (i := 22) rfl))) Via.refl e0 S_TS_Z (g := (mkF m 40 #[.val (.int p0), .val (.int x1), .unset, .unset] [])) rfl (hb hby at_40)
        refine gob st13 ?_
        show Go _ _ _ _ _ _ _ (T13.setTop (mkF m 43 #[.val (.int p0), .val (.int x1), .unset, .unset] [(.ref w_TS_Z)]))
        refine gob (fun _ k => XS.astoreN X13.here hx rfl (hb hby at_43) rfl rfl (l' := #[.val (.int p0), .val (.int x1), .val (.ref w_TS_Z), .unset]) rfl k) ?_
        show Go _ _ _ _ _ _ _ (T13.setTop (mkF m 44 #[.val (.int p0), .val (.int x1), .val (.ref w_TS_Z), .unset] []))
        refine gob (fun _ k => XS.iconst X13.here hx rfl (hb hby at_44) k) ?_
        show Go _ _ _ _ _ _ _ (T13.setTop (mkF m 45 #[.val (.int p0), .val (.int x1), .val (.ref w_TS_Z), .unset] [(.int (1 : Int32))]))
        refine gob (fun _ k => XS.istoreN X13.here hx rfl (hb hby at_45) rfl (l' := #[.val (.int p0), .val (.int x1), .val (.ref w_TS_Z), .val (.int (1 : Int32))]) rfl k) ?_
        show Go _ _ _ _ _ _ _ (T13.setTop (mkF m 46 #[.val (.int p0), .val (.int x1), .val (.ref w_TS_Z), .val (.int (1 : Int32))] []))
        refine gob (fun _ k => XS.goto X13.here hx rfl (pc0 := 46) (pc' := 97) rfl (hb hby at_46) (by decide) (by decide) k) ?_
        show Go _ _ _ _ _ _ _ (T13.setTop (mkF m 97 #[.val (.int p0), .val (.int x1), .val (.ref w_TS_Z), .val (.int (1 : Int32))] []))
        refine gob (fun _ k => XS.aloadN X13.here hx rfl (hb hby at_97) rfl rfl k) ?_
        show Go _ _ _ _ _ _ _ (T13.setTop (mkF m 98 #[.val (.int p0), .val (.int x1), .val (.ref w_TS_Z), .val (.int (1 : Int32))] [(.ref w_TS_Z)]))
        obtain ⟨cq14, kq14, q14a, q14b, q14c⟩ := isOf hZ e13 E_TS_Z
        obtain ⟨_, _, ⟨T14, L14, k14, n14⟩, -, X14, ⟨Lc14, hQ14, l14, y14, z14⟩, st14⟩ := X13.virtualBack hx (y := (⟨"com/example/segmentry/segmentry/DataType$Kind", "holdsDateTime", "()Z"⟩ : MethodName)) (z := (⟨"com/example/segmentry/segmentry/DataType$Kind", "holdsDateTime", "()Z"⟩ : MethodName)) hown (mvT hZ (hw _ (List.mem_of_getElem? (i := 4) rfl))) (mvT hZ (hw _ (List.mem_of_getElem? (i := 5) rfl))) (notFace_of_selects (args := #[]) (mvT hZ (hw _ (List.mem_of_getElem? (i := 7) rfl)))) (mvT hZ (hw _ (List.mem_of_getElem? (i := 7) rfl))) (mvT hZ (hw _ (List.mem_of_getElem? (i := 6) rfl))) (by decide) (backOf (W := 0) (rm1_TS_Z l Z a0 hw [] w_TS_Z w_DTM w_TS h0 n0 Z0 S_DTM ne_TS_Z_DTM S_TS ne_TS_Z_TS S_TS_Z) hZ (hw _ (List.mem_of_getElem? (i := 8) rfl)) (hw _ (List.mem_of_getElem? (i := 2) rfl)) (by decide) (by decide)) q14a q14c (g := (mkF m 98 #[.val (.int p0), .val (.int x1), .val (.ref w_TS_Z), .val (.int (1 : Int32))] [(.ref w_TS_Z)])) rfl (by rw [hml]; rfl) (Steps.refl _) (argsL := []) (rest := []) (lenOf pd_0 rfl) rfl (by show 2 * 0 + _ ≤ _; exact Nat.le_of_eq rfl) (hb hby at_98) (fun _ _ => ⟨rfl, e13, (by decide : 0 + 0 ≤ _), (by decide : 0 + 0 ≤ _)⟩)
        dsimp only [Pt.U, Pt.locs, Pt.cells, Pt.slots] at X14 l14 y14 z14 st14 hQ14
        subst l14 y14 z14
        obtain ⟨r14, rfl, hr14, Nq14, e14⟩ := hQ14
        have N14 := Fr.app N0 Nq14
        refine gob (fun _ k => st14.trans k) ?_
        show Go _ _ _ _ _ _ _ (T14.setTop (mkF m 101 #[.val (.int p0), .val (.int x1), .val (.ref w_TS_Z), .val (.int (1 : Int32))] [(.int r14)]))
        refine gob (fun _ k => XS.iloadN X14.here hx rfl (hb hby at_101) rfl k) ?_
        show Go _ _ _ _ _ _ _ (T14.setTop (mkF m 102 #[.val (.int p0), .val (.int x1), .val (.ref w_TS_Z), .val (.int (1 : Int32))] [(.int (1 : Int32)), (.int r14)]))
        have hd16 : r14 = (1 : Int32) := ld_0_102_15 r14 hr14
        refine gob (fun _ k => XS.icmpNo X14.here hx rfl (hb hby at_102) rfl (teq hd16).2 k) ?_
        show Go _ _ _ _ _ _ _ (T14.setTop (mkF m 105 #[.val (.int p0), .val (.int x1), .val (.ref w_TS_Z), .val (.int (1 : Int32))] []))
        refine gob (fun _ k => XS.iconst X14.here hx rfl (hb hby at_105) k) ?_
        show Go _ _ _ _ _ _ _ (T14.setTop (mkF m 106 #[.val (.int p0), .val (.int x1), .val (.ref w_TS_Z), .val (.int (1 : Int32))] [(.int (1 : Int32))]))
        refine gob (fun _ k => XS.goto X14.here hx rfl (pc0 := 106) (pc' := 110) rfl (hb hby at_106) (by decide) (by decide) k) ?_
        show Go _ _ _ _ _ _ _ (T14.setTop (mkF m 110 #[.val (.int p0), .val (.int x1), .val (.ref w_TS_Z), .val (.int (1 : Int32))] [(.int (1 : Int32))]))
        refine goZ X14 hx hlk (t := .boolean) Bd.returns (by simp) (hb hby at_110) (z' := (1 : Int32)) rfl ?_ (by decide) (by decide)
        show Q0 Z p0 w_DTM w_TS w_TS_Z w_NM w_SI w_POSITIVE_INTEGER w_DIGITS h0 n0 (some (.int (1 : Int32))) T14.heap _
        exact ⟨rfl, N14⟩
      · skip
        refine gob (fun _ k => XS.icmpYes X0.here hx rfl (pc0 := 37) (pc' := 49) rfl (hb hby at_37) rfl (feq hc37_12).2 (by decide) (by decide) k) ?_
        show Go _ _ _ _ _ _ _ (s₁.setTop (mkF m 49 #[.val (.int p0), .val (.int x1), .unset, .unset] []))
        refine gob (fun _ k => XS.iloadN X0.here hx rfl (hb hby at_49) rfl k) ?_
        show Go _ _ _ _ _ _ _ (s₁.setTop (mkF m 50 #[.val (.int p0), .val (.int x1), .unset, .unset] [(.int x1)]))
        refine gob (fun _ k => XS.iconst X0.here hx rfl (hb hby at_50) k) ?_
        show Go _ _ _ _ _ _ _ (s₁.setTop (mkF m 51 #[.val (.int p0), .val (.int x1), .unset, .unset] [(.int (3 : Int32)), (.int x1)]))
        by_cases hc51_17 : x1 = (3 : Int32)
        · skip
          refine gob (fun _ k => XS.icmpNo X0.here hx rfl (hb hby at_51) rfl (teq hc51_17).2 k) ?_
          show Go _ _ _ _ _ _ _ (s₁.setTop (mkF m 54 #[.val (.int p0), .val (.int x1), .unset, .unset] []))
          obtain ⟨T18, X18, e18, st18⟩ := getS2 X0 hx hZ hown (host := "") (Or.inl (hw _ (List.mem_of_getElem? (i := 10) rfl))) Via.refl e0 S_NM (g := (mkF m 54 #[.val (.int p0), .val (.int x1), .unset, .unset] [])) rfl (hb hby at_54)
          refine gob st18 ?_
          show Go _ _ _ _ _ _ _ (T18.setTop (mkF m 57 #[.val (.int p0), .val (.int x1), .unset, .unset] [(.ref w_NM)]))
          refine gob (fun _ k => XS.astoreN X18.here hx rfl (hb hby at_57) rfl rfl (l' := #[.val (.int p0), .val (.int x1), .val (.ref w_NM), .unset]) rfl k) ?_
          show Go _ _ _ _ _ _ _ (T18.setTop (mkF m 58 #[.val (.int p0), .val (.int x1), .val (.ref w_NM), .unset] []))
          refine gob (fun _ k => XS.iconst X18.here hx rfl (hb hby at_58) k) ?_
          show Go _ _ _ _ _ _ _ (T18.setTop (mkF m 59 #[.val (.int p0), .val (.int x1), .val (.ref w_NM), .unset] [(.int (0 : Int32))]))
          refine gob (fun _ k => XS.istoreN X18.here hx rfl (hb hby at_59) rfl (l' := #[.val (.int p0), .val (.int x1), .val (.ref w_NM), .val (.int (0 : Int32))]) rfl k) ?_
          show Go _ _ _ _ _ _ _ (T18.setTop (mkF m 60 #[.val (.int p0), .val (.int x1), .val (.ref w_NM), .val (.int (0 : Int32))] []))
          refine gob (fun _ k => XS.goto X18.here hx rfl (pc0 := 60) (pc' := 97) rfl (hb hby at_60) (by decide) (by decide) k) ?_
          show Go _ _ _ _ _ _ _ (T18.setTop (mkF m 97 #[.val (.int p0), .val (.int x1), .val (.ref w_NM), .val (.int (0 : Int32))] []))
          refine gob (fun _ k => XS.aloadN X18.here hx rfl (hb hby at_97) rfl rfl k) ?_
          show Go _ _ _ _ _ _ _ (T18.setTop (mkF m 98 #[.val (.int p0), .val (.int x1), .val (.ref w_NM), .val (.int (0 : Int32))] [(.ref w_NM)]))
          obtain ⟨cq19, kq19, q19a, q19b, q19c⟩ := isOf hZ e18 E_NM
          obtain ⟨_, _, ⟨T19, L19, k19, n19⟩, -, X19, ⟨Lc19, hQ19, l19, y19, z19⟩, st19⟩ := X18.virtualBack hx (y := (⟨"com/example/segmentry/segmentry/DataType$Kind", "holdsDateTime", "()Z"⟩ : MethodName)) (z := (⟨"com/example/segmentry/segmentry/DataType$Kind", "holdsDateTime", "()Z"⟩ : MethodName)) hown (mvT hZ (hw _ (List.mem_of_getElem? (i := 4) rfl))) (mvT hZ (hw _ (List.mem_of_getElem? (i := 5) rfl))) (notFace_of_selects (args := #[]) (mvT hZ (hw _ (List.mem_of_getElem? (i := 7) rfl)))) (mvT hZ (hw _ (List.mem_of_getElem? (i := 7) rfl))) (mvT hZ (hw _ (List.mem_of_getElem? (i := 6) rfl))) (by decide) (backOf (W := 0) (rm1_NM l Z a0 hw [] w_NM w_DTM w_TS w_TS_Z h0 n0 Z0 S_DTM ne_NM_DTM S_TS ne_NM_TS S_TS_Z ne_NM_TS_Z) hZ (hw _ (List.mem_of_getElem? (i := 8) rfl)) (hw _ (List.mem_of_getElem? (i := 2) rfl)) (by decide) (by decide)) q19a q19c (g := (mkF m 98 #[.val (.int p0), .val (.int x1), .val (.ref w_NM), .val (.int (0 : Int32))] [(.ref w_NM)])) rfl (by rw [hml]; rfl) (Steps.refl _) (argsL := []) (rest := []) (lenOf pd_0 rfl) rfl (by show 2 * 0 + _ ≤ _; exact Nat.le_of_eq rfl) (hb hby at_98) (fun _ _ => ⟨rfl, e18, (by decide : 0 + 0 ≤ _), (by decide : 0 + 0 ≤ _)⟩)
          dsimp only [Pt.U, Pt.locs, Pt.cells, Pt.slots] at X19 l19 y19 z19 st19 hQ19
          subst l19 y19 z19
          obtain ⟨r19, rfl, hr19, Nq19, e19⟩ := hQ19
          have N19 := Fr.app N0 Nq19
          refine gob (fun _ k => st19.trans k) ?_
          show Go _ _ _ _ _ _ _ (T19.setTop (mkF m 101 #[.val (.int p0), .val (.int x1), .val (.ref w_NM), .val (.int (0 : Int32))] [(.int r19)]))
          refine gob (fun _ k => XS.iloadN X19.here hx rfl (hb hby at_101) rfl k) ?_
          show Go _ _ _ _ _ _ _ (T19.setTop (mkF m 102 #[.val (.int p0), .val (.int x1), .val (.ref w_NM), .val (.int (0 : Int32))] [(.int (0 : Int32)), (.int r19)]))
          have hd21 : r19 = (0 : Int32) := ld_0_102_20 r19 hr19
          refine gob (fun _ k => XS.icmpNo X19.here hx rfl (hb hby at_102) rfl (teq hd21).2 k) ?_
          show Go _ _ _ _ _ _ _ (T19.setTop (mkF m 105 #[.val (.int p0), .val (.int x1), .val (.ref w_NM), .val (.int (0 : Int32))] []))
          refine gob (fun _ k => XS.iconst X19.here hx rfl (hb hby at_105) k) ?_
          show Go _ _ _ _ _ _ _ (T19.setTop (mkF m 106 #[.val (.int p0), .val (.int x1), .val (.ref w_NM), .val (.int (0 : Int32))] [(.int (1 : Int32))]))
          refine gob (fun _ k => XS.goto X19.here hx rfl (pc0 := 106) (pc' := 110) rfl (hb hby at_106) (by decide) (by decide) k) ?_
          show Go _ _ _ _ _ _ _ (T19.setTop (mkF m 110 #[.val (.int p0), .val (.int x1), .val (.ref w_NM), .val (.int (0 : Int32))] [(.int (1 : Int32))]))
          refine goZ X19 hx hlk (t := .boolean) Bd.returns (by simp) (hb hby at_110) (z' := (1 : Int32)) rfl ?_ (by decide) (by decide)
          show Q0 Z p0 w_DTM w_TS w_TS_Z w_NM w_SI w_POSITIVE_INTEGER w_DIGITS h0 n0 (some (.int (1 : Int32))) T19.heap _
          exact ⟨rfl, N19⟩
        · skip
          refine gob (fun _ k => XS.icmpYes X0.here hx rfl (pc0 := 51) (pc' := 63) rfl (hb hby at_51) rfl (feq hc51_17).2 (by decide) (by decide) k) ?_
          show Go _ _ _ _ _ _ _ (s₁.setTop (mkF m 63 #[.val (.int p0), .val (.int x1), .unset, .unset] []))
          refine gob (fun _ k => XS.iloadN X0.here hx rfl (hb hby at_63) rfl k) ?_
          show Go _ _ _ _ _ _ _ (s₁.setTop (mkF m 64 #[.val (.int p0), .val (.int x1), .unset, .unset] [(.int x1)]))
          refine gob (fun _ k => XS.iconst X0.here hx rfl (hb hby at_64) k) ?_
          show Go _ _ _ _ _ _ _ (s₁.setTop (mkF m 65 #[.val (.int p0), .val (.int x1), .unset, .unset] [(.int (4 : Int32)), (.int x1)]))
          by_cases hc65_22 : x1 = (4 : Int32)
          · skip
            refine gob (fun _ k => XS.icmpNo X0.here hx rfl (hb hby at_65) rfl (teq hc65_22).2 k) ?_
            show Go _ _ _ _ _ _ _ (s₁.setTop (mkF m 68 #[.val (.int p0), .val (.int x1), .unset, .unset] []))
            obtain ⟨T23, X23, e23, st23⟩ := getS2 X0 hx hZ hown (host := "") (Or.inl (hw _ (List.mem_of_getElem? (i := 20) rfl))) Via.refl e0 S_SI (g := (mkF m 68 #[.val (.int p0), .val (.int x1), .unset, .unset] [])) rfl (hb hby at_68)
            refine gob st23 ?_
            show Go _ _ _ _ _ _ _ (T23.setTop (mkF m 71 #[.val (.int p0), .val (.int x1), .unset, .unset] [(.ref w_SI)]))
            refine gob (fun _ k => XS.astoreN X23.here hx rfl (hb hby at_71) rfl rfl (l' := #[.val (.int p0), .val (.int x1), .val (.ref w_SI), .unset]) rfl k) ?_
            show Go _ _ _ _ _ _ _ (T23.setTop (mkF m 72 #[.val (.int p0), .val (.int x1), .val (.ref w_SI), .unset] []))
            refine gob (fun _ k => XS.iconst X23.here hx rfl (hb hby at_72) k) ?_
            show Go _ _ _ _ _ _ _ (T23.setTop (mkF m 73 #[.val (.int p0), .val (.int x1), .val (.ref w_SI), .unset] [(.int (0 : Int32))]))
            refine gob (fun _ k => XS.istoreN X23.here hx rfl (hb hby at_73) rfl (l' := #[.val (.int p0), .val (.int x1), .val (.ref w_SI), .val (.int (0 : Int32))]) rfl k) ?_
            show Go _ _ _ _ _ _ _ (T23.setTop (mkF m 74 #[.val (.int p0), .val (.int x1), .val (.ref w_SI), .val (.int (0 : Int32))] []))
            refine gob (fun _ k => XS.goto X23.here hx rfl (pc0 := 74) (pc' := 97) rfl (hb hby at_74) (by decide) (by decide) k) ?_
            show Go _ _ _ _ _ _ _ (T23.setTop (mkF m 97 #[.val (.int p0), .val (.int x1), .val (.ref w_SI), .val (.int (0 : Int32))] []))
            refine gob (fun _ k => XS.aloadN X23.here hx rfl (hb hby at_97) rfl rfl k) ?_
            show Go _ _ _ _ _ _ _ (T23.setTop (mkF m 98 #[.val (.int p0), .val (.int x1), .val (.ref w_SI), .val (.int (0 : Int32))] [(.ref w_SI)]))
            obtain ⟨cq24, kq24, q24a, q24b, q24c⟩ := isOf hZ e23 E_SI
            obtain ⟨_, _, ⟨T24, L24, k24, n24⟩, -, X24, ⟨Lc24, hQ24, l24, y24, z24⟩, st24⟩ := X23.virtualBack hx (y := (⟨"com/example/segmentry/segmentry/DataType$Kind", "holdsDateTime", "()Z"⟩ : MethodName)) (z := (⟨"com/example/segmentry/segmentry/DataType$Kind", "holdsDateTime", "()Z"⟩ : MethodName)) hown (mvT hZ (hw _ (List.mem_of_getElem? (i := 4) rfl))) (mvT hZ (hw _ (List.mem_of_getElem? (i := 5) rfl))) (notFace_of_selects (args := #[]) (mvT hZ (hw _ (List.mem_of_getElem? (i := 7) rfl)))) (mvT hZ (hw _ (List.mem_of_getElem? (i := 7) rfl))) (mvT hZ (hw _ (List.mem_of_getElem? (i := 6) rfl))) (by decide) (backOf (W := 0) (rm1_SI l Z a0 hw [] w_SI w_DTM w_TS w_TS_Z h0 n0 Z0 S_DTM ne_SI_DTM S_TS ne_SI_TS S_TS_Z ne_SI_TS_Z) hZ (hw _ (List.mem_of_getElem? (i := 8) rfl)) (hw _ (List.mem_of_getElem? (i := 2) rfl)) (by decide) (by decide)) q24a q24c (g := (mkF m 98 #[.val (.int p0), .val (.int x1), .val (.ref w_SI), .val (.int (0 : Int32))] [(.ref w_SI)])) rfl (by rw [hml]; rfl) (Steps.refl _) (argsL := []) (rest := []) (lenOf pd_0 rfl) rfl (by show 2 * 0 + _ ≤ _; exact Nat.le_of_eq rfl) (hb hby at_98) (fun _ _ => ⟨rfl, e23, (by decide : 0 + 0 ≤ _), (by decide : 0 + 0 ≤ _)⟩)
            dsimp only [Pt.U, Pt.locs, Pt.cells, Pt.slots] at X24 l24 y24 z24 st24 hQ24
            subst l24 y24 z24
            obtain ⟨r24, rfl, hr24, Nq24, e24⟩ := hQ24
            have N24 := Fr.app N0 Nq24
            refine gob (fun _ k => st24.trans k) ?_
            show Go _ _ _ _ _ _ _ (T24.setTop (mkF m 101 #[.val (.int p0), .val (.int x1), .val (.ref w_SI), .val (.int (0 : Int32))] [(.int r24)]))
            refine gob (fun _ k => XS.iloadN X24.here hx rfl (hb hby at_101) rfl k) ?_
            show Go _ _ _ _ _ _ _ (T24.setTop (mkF m 102 #[.val (.int p0), .val (.int x1), .val (.ref w_SI), .val (.int (0 : Int32))] [(.int (0 : Int32)), (.int r24)]))
            have hd26 : r24 = (0 : Int32) := ld_0_102_25 r24 hr24
            refine gob (fun _ k => XS.icmpNo X24.here hx rfl (hb hby at_102) rfl (teq hd26).2 k) ?_
            show Go _ _ _ _ _ _ _ (T24.setTop (mkF m 105 #[.val (.int p0), .val (.int x1), .val (.ref w_SI), .val (.int (0 : Int32))] []))
            refine gob (fun _ k => XS.iconst X24.here hx rfl (hb hby at_105) k) ?_
            show Go _ _ _ _ _ _ _ (T24.setTop (mkF m 106 #[.val (.int p0), .val (.int x1), .val (.ref w_SI), .val (.int (0 : Int32))] [(.int (1 : Int32))]))
            refine gob (fun _ k => XS.goto X24.here hx rfl (pc0 := 106) (pc' := 110) rfl (hb hby at_106) (by decide) (by decide) k) ?_
            show Go _ _ _ _ _ _ _ (T24.setTop (mkF m 110 #[.val (.int p0), .val (.int x1), .val (.ref w_SI), .val (.int (0 : Int32))] [(.int (1 : Int32))]))
            refine goZ X24 hx hlk (t := .boolean) Bd.returns (by simp) (hb hby at_110) (z' := (1 : Int32)) rfl ?_ (by decide) (by decide)
            show Q0 Z p0 w_DTM w_TS w_TS_Z w_NM w_SI w_POSITIVE_INTEGER w_DIGITS h0 n0 (some (.int (1 : Int32))) T24.heap _
            exact ⟨rfl, N24⟩
          · skip
            refine gob (fun _ k => XS.icmpYes X0.here hx rfl (pc0 := 65) (pc' := 77) rfl (hb hby at_65) rfl (feq hc65_22).2 (by decide) (by decide) k) ?_
            show Go _ _ _ _ _ _ _ (s₁.setTop (mkF m 77 #[.val (.int p0), .val (.int x1), .unset, .unset] []))
            refine gob (fun _ k => XS.iloadN X0.here hx rfl (hb hby at_77) rfl k) ?_
            show Go _ _ _ _ _ _ _ (s₁.setTop (mkF m 78 #[.val (.int p0), .val (.int x1), .unset, .unset] [(.int x1)]))
            refine gob (fun _ k => XS.iconst X0.here hx rfl (hb hby at_78) k) ?_
            show Go _ _ _ _ _ _ _ (s₁.setTop (mkF m 79 #[.val (.int p0), .val (.int x1), .unset, .unset] [(.int (5 : Int32)), (.int x1)]))
            by_cases hc79_27 : x1 = (5 : Int32)
            · skip
              refine gob (fun _ k => XS.icmpNo X0.here hx rfl (hb hby at_79) rfl (teq hc79_27).2 k) ?_
              show Go _ _ _ _ _ _ _ (s₁.setTop (mkF m 82 #[.val (.int p0), .val (.int x1), .unset, .unset] []))
              obtain ⟨T28, X28, e28, st28⟩ := getS2 X0 hx hZ hown (host := "") (Or.inl (hw _ (List.mem_of_getElem? (i := 16) rfl))) Via.refl e0 S_POSITIVE_INTEGER (g := (mkF m 82 #[.val (.int p0), .val (.int x1), .unset, .unset] [])) rfl (hb hby at_82)
              refine gob st28 ?_
              show Go _ _ _ _ _ _ _ (T28.setTop (mkF m 85 #[.val (.int p0), .val (.int x1), .unset, .unset] [(.ref w_POSITIVE_INTEGER)]))
              refine gob (fun _ k => XS.astoreN X28.here hx rfl (hb hby at_85) rfl rfl (l' := #[.val (.int p0), .val (.int x1), .val (.ref w_POSITIVE_INTEGER), .unset]) rfl k) ?_
              show Go _ _ _ _ _ _ _ (T28.setTop (mkF m 86 #[.val (.int p0), .val (.int x1), .val (.ref w_POSITIVE_INTEGER), .unset] []))
              refine gob (fun _ k => XS.iconst X28.here hx rfl (hb hby at_86) k) ?_
              show Go _ _ _ _ _ _ _ (T28.setTop (mkF m 87 #[.val (.int p0), .val (.int x1), .val (.ref w_POSITIVE_INTEGER), .unset] [(.int (0 : Int32))]))
              refine gob (fun _ k => XS.istoreN X28.here hx rfl (hb hby at_87) rfl (l' := #[.val (.int p0), .val (.int x1), .val (.ref w_POSITIVE_INTEGER), .val (.int (0 : Int32))]) rfl k) ?_
              show Go _ _ _ _ _ _ _ (T28.setTop (mkF m 88 #[.val (.int p0), .val (.int x1), .val (.ref w_POSITIVE_INTEGER), .val (.int (0 : Int32))] []))
              refine gob (fun _ k => XS.goto X28.here hx rfl (pc0 := 88) (pc' := 97) rfl (hb hby at_88) (by decide) (by decide) k) ?_
              show Go _ _ _ _ _ _ _ (T28.setTop (mkF m 97 #[.val (.int p0), .val (.int x1), .val (.ref w_POSITIVE_INTEGER), .val (.int (0 : Int32))] []))
              refine gob (fun _ k => XS.aloadN X28.here hx rfl (hb hby at_97) rfl rfl k) ?_
              show Go _ _ _ _ _ _ _ (T28.setTop (mkF m 98 #[.val (.int p0), .val (.int x1), .val (.ref w_POSITIVE_INTEGER), .val (.int (0 : Int32))] [(.ref w_POSITIVE_INTEGER)]))
              obtain ⟨cq29, kq29, q29a, q29b, q29c⟩ := isOf hZ e28 E_POSITIVE_INTEGER
              obtain ⟨_, _, ⟨T29, L29, k29, n29⟩, -, X29, ⟨Lc29, hQ29, l29, y29, z29⟩, st29⟩ := X28.virtualBack hx (y := (⟨"com/example/segmentry/segmentry/DataType$Kind", "holdsDateTime", "()Z"⟩ : MethodName)) (z := (⟨"com/example/segmentry/segmentry/DataType$Kind", "holdsDateTime", "()Z"⟩ : MethodName)) hown (mvT hZ (hw _ (List.mem_of_getElem? (i := 4) rfl))) (mvT hZ (hw _ (List.mem_of_getElem? (i := 5) rfl))) (notFace_of_selects (args := #[]) (mvT hZ (hw _ (List.mem_of_getElem? (i := 7) rfl)))) (mvT hZ (hw _ (List.mem_of_getElem? (i := 7) rfl))) (mvT hZ (hw _ (List.mem_of_getElem? (i := 6) rfl))) (by decide) (backOf (W := 0) (rm1_POSITIVE_INTEGER l Z a0 hw [] w_POSITIVE_INTEGER w_DTM w_TS w_TS_Z h0 n0 Z0 S_DTM ne_POSITIVE_INTEGER_DTM S_TS ne_POSITIVE_INTEGER_TS S_TS_Z ne_POSITIVE_INTEGER_TS_Z) hZ (hw _ (List.mem_of_getElem? (i := 8) rfl)) (hw _ (List.mem_of_getElem? (i := 2) rfl)) (by decide) (by decide)) q29a q29c (g := (mkF m 98 #[.val (.int p0), .val (.int x1), .val (.ref w_POSITIVE_INTEGER), .val (.int (0 : Int32))] [(.ref w_POSITIVE_INTEGER)])) rfl (by rw [hml]; rfl) (Steps.refl _) (argsL := []) (rest := []) (lenOf pd_0 rfl) rfl (by show 2 * 0 + _ ≤ _; exact Nat.le_of_eq rfl) (hb hby at_98) (fun _ _ => ⟨rfl, e28, (by decide : 0 + 0 ≤ _), (by decide : 0 + 0 ≤ _)⟩)
              dsimp only [Pt.U, Pt.locs, Pt.cells, Pt.slots] at X29 l29 y29 z29 st29 hQ29
              subst l29 y29 z29
              obtain ⟨r29, rfl, hr29, Nq29, e29⟩ := hQ29
              have N29 := Fr.app N0 Nq29
              refine gob (fun _ k => st29.trans k) ?_
              show Go _ _ _ _ _ _ _ (T29.setTop (mkF m 101 #[.val (.int p0), .val (.int x1), .val (.ref w_POSITIVE_INTEGER), .val (.int (0 : Int32))] [(.int r29)]))
              refine gob (fun _ k => XS.iloadN X29.here hx rfl (hb hby at_101) rfl k) ?_
              show Go _ _ _ _ _ _ _ (T29.setTop (mkF m 102 #[.val (.int p0), .val (.int x1), .val (.ref w_POSITIVE_INTEGER), .val (.int (0 : Int32))] [(.int (0 : Int32)), (.int r29)]))
              have hd31 : r29 = (0 : Int32) := ld_0_102_30 r29 hr29
              refine gob (fun _ k => XS.icmpNo X29.here hx rfl (hb hby at_102) rfl (teq hd31).2 k) ?_
              show Go _ _ _ _ _ _ _ (T29.setTop (mkF m 105 #[.val (.int p0), .val (.int x1), .val (.ref w_POSITIVE_INTEGER), .val (.int (0 : Int32))] []))
              refine gob (fun _ k => XS.iconst X29.here hx rfl (hb hby at_105) k) ?_
              show Go _ _ _ _ _ _ _ (T29.setTop (mkF m 106 #[.val (.int p0), .val (.int x1), .val (.ref w_POSITIVE_INTEGER), .val (.int (0 : Int32))] [(.int (1 : Int32))]))
              refine gob (fun _ k => XS.goto X29.here hx rfl (pc0 := 106) (pc' := 110) rfl (hb hby at_106) (by decide) (by decide) k) ?_
              show Go _ _ _ _ _ _ _ (T29.setTop (mkF m 110 #[.val (.int p0), .val (.int x1), .val (.ref w_POSITIVE_INTEGER), .val (.int (0 : Int32))] [(.int (1 : Int32))]))
              refine goZ X29 hx hlk (t := .boolean) Bd.returns (by simp) (hb hby at_110) (z' := (1 : Int32)) rfl ?_ (by decide) (by decide)
              show Q0 Z p0 w_DTM w_TS w_TS_Z w_NM w_SI w_POSITIVE_INTEGER w_DIGITS h0 n0 (some (.int (1 : Int32))) T29.heap _
              exact ⟨rfl, N29⟩
            · skip
              refine gob (fun _ k => XS.icmpYes X0.here hx rfl (pc0 := 79) (pc' := 91) rfl (hb hby at_79) rfl (feq hc79_27).2 (by decide) (by decide) k) ?_
              show Go _ _ _ _ _ _ _ (s₁.setTop (mkF m 91 #[.val (.int p0), .val (.int x1), .unset, .unset] []))
              obtain ⟨T32, X32, e32, st32⟩ := getS2 X0 hx hZ hown (host := "") (Or.inl (hw _ (List.mem_of_getElem? (i := 18) rfl))) Via.refl e0 S_DIGITS (g := (mkF m 91 #[.val (.int p0), .val (.int x1), .unset, .unset] [])) rfl (hb hby at_91)
              refine gob st32 ?_
              show Go _ _ _ _ _ _ _ (T32.setTop (mkF m 94 #[.val (.int p0), .val (.int x1), .unset, .unset] [(.ref w_DIGITS)]))
              refine gob (fun _ k => XS.astoreN X32.here hx rfl (hb hby at_94) rfl rfl (l' := #[.val (.int p0), .val (.int x1), .val (.ref w_DIGITS), .unset]) rfl k) ?_
              show Go _ _ _ _ _ _ _ (T32.setTop (mkF m 95 #[.val (.int p0), .val (.int x1), .val (.ref w_DIGITS), .unset] []))
              refine gob (fun _ k => XS.iconst X32.here hx rfl (hb hby at_95) k) ?_
              show Go _ _ _ _ _ _ _ (T32.setTop (mkF m 96 #[.val (.int p0), .val (.int x1), .val (.ref w_DIGITS), .unset] [(.int (0 : Int32))]))
              refine gob (fun _ k => XS.istoreN X32.here hx rfl (hb hby at_96) rfl (l' := #[.val (.int p0), .val (.int x1), .val (.ref w_DIGITS), .val (.int (0 : Int32))]) rfl k) ?_
              show Go _ _ _ _ _ _ _ (T32.setTop (mkF m 97 #[.val (.int p0), .val (.int x1), .val (.ref w_DIGITS), .val (.int (0 : Int32))] []))
              refine gob (fun _ k => XS.aloadN X32.here hx rfl (hb hby at_97) rfl rfl k) ?_
              show Go _ _ _ _ _ _ _ (T32.setTop (mkF m 98 #[.val (.int p0), .val (.int x1), .val (.ref w_DIGITS), .val (.int (0 : Int32))] [(.ref w_DIGITS)]))
              obtain ⟨cq33, kq33, q33a, q33b, q33c⟩ := isOf hZ e32 E_DIGITS
              obtain ⟨_, _, ⟨T33, L33, k33, n33⟩, -, X33, ⟨Lc33, hQ33, l33, y33, z33⟩, st33⟩ := X32.virtualBack hx (y := (⟨"com/example/segmentry/segmentry/DataType$Kind", "holdsDateTime", "()Z"⟩ : MethodName)) (z := (⟨"com/example/segmentry/segmentry/DataType$Kind", "holdsDateTime", "()Z"⟩ : MethodName)) hown (mvT hZ (hw _ (List.mem_of_getElem? (i := 4) rfl))) (mvT hZ (hw _ (List.mem_of_getElem? (i := 5) rfl))) (notFace_of_selects (args := #[]) (mvT hZ (hw _ (List.mem_of_getElem? (i := 7) rfl)))) (mvT hZ (hw _ (List.mem_of_getElem? (i := 7) rfl))) (mvT hZ (hw _ (List.mem_of_getElem? (i := 6) rfl))) (by decide) (backOf (W := 0) (rm1_DIGITS l Z a0 hw [] w_DIGITS w_DTM w_TS w_TS_Z h0 n0 Z0 S_DTM ne_DIGITS_DTM S_TS ne_DIGITS_TS S_TS_Z ne_DIGITS_TS_Z) hZ (hw _ (List.mem_of_getElem? (i := 8) rfl)) (hw _ (List.mem_of_getElem? (i := 2) rfl)) (by decide) (by decide)) q33a q33c (g := (mkF m 98 #[.val (.int p0), .val (.int x1), .val (.ref w_DIGITS), .val (.int (0 : Int32))] [(.ref w_DIGITS)])) rfl (by rw [hml]; rfl) (Steps.refl _) (argsL := []) (rest := []) (lenOf pd_0 rfl) rfl (by show 2 * 0 + _ ≤ _; exact Nat.le_of_eq rfl) (hb hby at_98) (fun _ _ => ⟨rfl, e32, (by decide : 0 + 0 ≤ _), (by decide : 0 + 0 ≤ _)⟩)
              dsimp only [Pt.U, Pt.locs, Pt.cells, Pt.slots] at X33 l33 y33 z33 st33 hQ33
              subst l33 y33 z33
              obtain ⟨r33, rfl, hr33, Nq33, e33⟩ := hQ33
              have N33 := Fr.app N0 Nq33
              refine gob (fun _ k => st33.trans k) ?_
              show Go _ _ _ _ _ _ _ (T33.setTop (mkF m 101 #[.val (.int p0), .val (.int x1), .val (.ref w_DIGITS), .val (.int (0 : Int32))] [(.int r33)]))
              refine gob (fun _ k => XS.iloadN X33.here hx rfl (hb hby at_101) rfl k) ?_
              show Go _ _ _ _ _ _ _ (T33.setTop (mkF m 102 #[.val (.int p0), .val (.int x1), .val (.ref w_DIGITS), .val (.int (0 : Int32))] [(.int (0 : Int32)), (.int r33)]))
              have hd35 : r33 = (0 : Int32) := ld_0_102_34 r33 hr33
              refine gob (fun _ k => XS.icmpNo X33.here hx rfl (hb hby at_102) rfl (teq hd35).2 k) ?_
              show Go _ _ _ _ _ _ _ (T33.setTop (mkF m 105 #[.val (.int p0), .val (.int x1), .val (.ref w_DIGITS), .val (.int (0 : Int32))] []))
              refine gob (fun _ k => XS.iconst X33.here hx rfl (hb hby at_105) k) ?_
              show Go _ _ _ _ _ _ _ (T33.setTop (mkF m 106 #[.val (.int p0), .val (.int x1), .val (.ref w_DIGITS), .val (.int (0 : Int32))] [(.int (1 : Int32))]))
              refine gob (fun _ k => XS.goto X33.here hx rfl (pc0 := 106) (pc' := 110) rfl (hb hby at_106) (by decide) (by decide) k) ?_
              show Go _ _ _ _ _ _ _ (T33.setTop (mkF m 110 #[.val (.int p0), .val (.int x1), .val (.ref w_DIGITS), .val (.int (0 : Int32))] [(.int (1 : Int32))]))
              refine goZ X33 hx hlk (t := .boolean) Bd.returns (by simp) (hb hby at_110) (z' := (1 : Int32)) rfl ?_ (by decide) (by decide)
              show Q0 Z p0 w_DTM w_TS w_TS_Z w_NM w_SI w_POSITIVE_INTEGER w_DIGITS h0 n0 (some (.int (1 : Int32))) T33.heap _
              exact ⟨rfl, N33⟩
set_option maxRecDepth 65536 in
set_option maxHeartbeats 40000000 in
theorem comes_1 {Post : Tables → Env → Array Value → State → Outcome → State → Prop} (hpost : ∀ tb e args s v u, (limb_1_1.after args s (.returned v) u = true ∧ limb_1_2.after args s (.returned v) u = true ∧ True) → FrameEnd s (.returned v) u (Jvm.fieldLocs frame_1_writes args s ++ Jvm.arrayLocs frame_1_arrays args s ++ Jvm.staticLocs frame_1_statics s) 0 0 → Post tb e args s (.returned v) u) :
    ArmFor flags0 classFile x code maxLocals ret World_1 tables_1 room_1 Calls_1 rest_1 Pre_1 Post := by
  intro l hfl _ _ p e ha hc hk s m args below hf hA hF happ hP
  obtain ⟨hcalls, hrest, hpre⟩ := hP
  obtain ⟨-, -, -, hnamed, -, -, -, hat⟩ := (Spec.applies_iff hf).mp happ
  obtain ⟨hg, hn⟩ := and_e (Cond.before_iff.mp (show (Jvm.Cond.and given_1 narrow_1).before args s = true from hpre))
  obtain ⟨g1, g2⟩ := and_e hg
  obtain ⟨w0, rfl⟩ : ∃ w0 : Value, args = #[w0] := by
    have hs : args.size = 1 := by simpa [Cond.value, given_1] using g1
    obtain ⟨L⟩ := args
    match L, hs with
    | [w0], _ => exact ⟨w0, rfl⟩
  have hw := fun d (hd : d ∈ tables_1) => atoms_spec (ws := Jvm.Cond.code x code maxLocals ret :: tables_1) hat d (List.mem_cons_of_mem _ hd)
  have hfit : Fit s := fun {y c} hc i hi => by
    obtain ⟨ha, rfl⟩ := Array.getElem?_eq_some_iff.mp hc
    have q := List.all_eq_true.mp ((Array.all_eq_true_iff_forall_mem.mp hF) _ (Array.getElem_mem ha)) i (List.mem_range.mpr hi)
    simpa [Array.getElem?_eq_getElem hi] using q
  obtain ⟨i0, ei0⟩ := is_v g2
  obtain rfl : w0 = (.int i0) := Option.some.inj ei0
  obtain ⟨g3, g4⟩ := and_e hn
  obtain ⟨g5, g6⟩ := and_e g4
  obtain ⟨g7, g8⟩ := and_e g6
  obtain ⟨g9, g10⟩ := and_e g8
  obtain ⟨g11, g12⟩ := and_e g10
  obtain ⟨g13, g14⟩ := and_e g12
  obtain ⟨g15, g16⟩ := and_e g14
  obtain ⟨g17, g18⟩ := and_e g16
  obtain ⟨g19, g20⟩ := and_e g18
  obtain ⟨g21, g22⟩ := and_e g20
  obtain ⟨g23, g24⟩ := and_e g22
  obtain ⟨g25, g26⟩ := and_e g24
  obtain ⟨g27, g28⟩ := and_e g26
  obtain ⟨w_DTM, ev_DTM⟩ := exa_v g3
  have E_DTM := Exa.start ev_DTM g3
  have S_DTM : Sta s s.heap "com/example/segmentry/segmentry/DataType$Kind" "DTM" "Lcom/example/segmentry/segmentry/DataType$Kind;" (.ref w_DTM) := Sta.start ev_DTM (Or.inr ⟨(hw _ (List.mem_of_getElem? (i := 2) rfl)), (hw _ (List.mem_of_getElem? (i := 3) rfl))⟩)
  have O_DTM := own_feq ev_DTM g9
  obtain ⟨w_TS, ev_TS⟩ := exa_v g11
  have E_TS := Exa.start ev_TS g11
  have S_TS : Sta s s.heap "com/example/segmentry/segmentry/DataType$Kind" "TS" "Lcom/example/segmentry/segmentry/DataType$Kind;" (.ref w_TS) := Sta.start ev_TS (Or.inr ⟨(hw _ (List.mem_of_getElem? (i := 2) rfl)), (hw _ (List.mem_of_getElem? (i := 13) rfl))⟩)
  have O_TS := own_feq ev_TS g13
  obtain ⟨w_TS_Z, ev_TS_Z⟩ := exa_v g15
  have E_TS_Z := Exa.start ev_TS_Z g15
  have S_TS_Z : Sta s s.heap "com/example/segmentry/segmentry/DataType$Kind" "TS_Z" "Lcom/example/segmentry/segmentry/DataType$Kind;" (.ref w_TS_Z) := Sta.start ev_TS_Z (Or.inr ⟨(hw _ (List.mem_of_getElem? (i := 2) rfl)), (hw _ (List.mem_of_getElem? (i := 15) rfl))⟩)
  have O_TS_Z := own_feq ev_TS_Z g17
  obtain ⟨w_NM, ev_NM⟩ := exa_v g5
  have E_NM := Exa.start ev_NM g5
  have S_NM : Sta s s.heap "com/example/segmentry/segmentry/DataType$Kind" "NM" "Lcom/example/segmentry/segmentry/DataType$Kind;" (.ref w_NM) := Sta.start ev_NM (Or.inr ⟨(hw _ (List.mem_of_getElem? (i := 2) rfl)), (hw _ (List.mem_of_getElem? (i := 11) rfl))⟩)
  have O_NM := own_feq ev_NM g7
  obtain ⟨w_SI, ev_SI⟩ := exa_v g27
  have E_SI := Exa.start ev_SI g27
  have S_SI : Sta s s.heap "com/example/segmentry/segmentry/DataType$Kind" "SI" "Lcom/example/segmentry/segmentry/DataType$Kind;" (.ref w_SI) := Sta.start ev_SI (Or.inr ⟨(hw _ (List.mem_of_getElem? (i := 2) rfl)), (hw _ (List.mem_of_getElem? (i := 21) rfl))⟩)
  have O_SI := own_feq ev_SI g28
  obtain ⟨w_POSITIVE_INTEGER, ev_POSITIVE_INTEGER⟩ := exa_v g19
  have E_POSITIVE_INTEGER := Exa.start ev_POSITIVE_INTEGER g19
  have S_POSITIVE_INTEGER : Sta s s.heap "com/example/segmentry/segmentry/DataType$Kind" "POSITIVE_INTEGER" "Lcom/example/segmentry/segmentry/DataType$Kind;" (.ref w_POSITIVE_INTEGER) := Sta.start ev_POSITIVE_INTEGER (Or.inr ⟨(hw _ (List.mem_of_getElem? (i := 2) rfl)), (hw _ (List.mem_of_getElem? (i := 17) rfl))⟩)
  have O_POSITIVE_INTEGER := own_feq ev_POSITIVE_INTEGER g21
  obtain ⟨w_DIGITS, ev_DIGITS⟩ := exa_v g23
  have E_DIGITS := Exa.start ev_DIGITS g23
  have S_DIGITS : Sta s s.heap "com/example/segmentry/segmentry/DataType$Kind" "DIGITS" "Lcom/example/segmentry/segmentry/DataType$Kind;" (.ref w_DIGITS) := Sta.start ev_DIGITS (Or.inr ⟨(hw _ (List.mem_of_getElem? (i := 2) rfl)), (hw _ (List.mem_of_getElem? (i := 19) rfl))⟩)
  have O_DIGITS := own_feq ev_DIGITS g25
  obtain ⟨n, o, h1, h2, h3, _, L, rfl, ⟨rfl, N⟩, hq⟩ := rm0 l s _ hw tables_1 i0 w_DTM w_TS w_TS_Z w_NM w_SI w_POSITIVE_INTEGER w_DIGITS s.heap s.heap.size (Nat.le_refl _) S_DTM E_DTM S_TS E_TS S_TS_Z E_TS_Z S_NM E_NM S_SI E_SI S_POSITIVE_INTEGER E_POSITIVE_INTEGER S_DIGITS E_DIGITS (O_DTM.ne O_TS (by decide)) (O_DTM.ne O_TS_Z (by decide)) (O_TS.ne O_DTM (by decide)) (O_TS.ne O_TS_Z (by decide)) (O_TS_Z.ne O_DTM (by decide)) (O_TS_Z.ne O_TS (by decide)) (O_NM.ne O_DTM (by decide)) (O_NM.ne O_TS (by decide)) (O_NM.ne O_TS_Z (by decide)) (O_SI.ne O_DTM (by decide)) (O_SI.ne O_TS (by decide)) (O_SI.ne O_TS_Z (by decide)) (O_POSITIVE_INTEGER.ne O_DTM (by decide)) (O_POSITIVE_INTEGER.ne O_TS (by decide)) (O_POSITIVE_INTEGER.ne O_TS_Z (by decide)) (O_DIGITS.ne O_DTM (by decide)) (O_DIGITS.ne O_TS (by decide)) (O_DIGITS.ne O_TS_Z (by decide)) p e ha hc hk s m _ below hf ((Spec.applies_iff_loose hf).mp happ).1 ⟨rfl, State.Warmed39.refl s, rfl⟩ trivial
  exact ⟨n, _, h1, h2, h3, hpost _ _ _ _ _ _ ⟨Cond.after_iff.mpr rfl, Cond.after_iff.mpr (eq_i res_at (Term.int_eval (1)) rfl), trivial⟩ ⟨hq.1, hq.2.1, (hq.2.2.sift fun y hy => Or.inr (N y hy)).mono (by decide) (by decide)⟩⟩
theorem main_1_1 : Claimed_1_1 := comes_1 fun _ _ _ _ _ _ h hF => ⟨h.1, hF⟩
theorem main_1_2 : Claimed_1_2 := comes_1 fun _ _ _ _ _ _ h hF => ⟨h.2.1, hF⟩
end Jvm.Pilot.@@N@@
namespace Jvm.Pilot.@@N@@
open Jvm Jvm.ClassFile Sem Op Lib Jvm.Free Jvm.Stand Jvm.Pilot.@@N@@.Jvm.D
/-! MADE BY PROGRAM (witnessworld.py) out of the Statement's table words and the real class files: 12 classes; the members and pool entries that the words name. The judged class is class 1, her method 1. -/
namespace start1
open Jvm.ClassFile
def u (s : String) : CpInfo := .utf8 (stringToUtf16 s)
/-- a pool by its gaps: so many unusable entries, then the entry; so many at the end -/
def gap : Nat → List CpInfo → List CpInfo
  | 0, r => r
  | n + 1, r => .unusable :: gap n r
def poolList (es : List (Nat × CpInfo)) (last : Nat) : List CpInfo := es.foldr (fun e r => gap e.1 (e.2 :: r)) (gap last [])
def pool (es : List (Nat × CpInfo)) (last : Nat) : Array CpInfo := ⟨poolList es last⟩
def fileOf (pool : Array CpInfo) (this : Nat) (attrs : Array Attribute := #[]) (ms : Array MethodInfo := #[]) (fl : Nat := 33) (sup : Nat := 0) (ifs : Array Nat := #[]) (fds : Array FieldInfo := #[]) : ClassFile where
  minorVersion := 0
  majorVersion := 65
  constantPool := pool
  accessFlags := fl
  thisClass := this
  superClass := sup
  interfaces := ifs
  fields := fds
  methods := ms
  attributes := attrs
def plain (name : String) (sup : Option ClassId) : Class where
  name := name
  kind := .ordinary
  loader := none
  accessFlags := 33
  super := sup
  interfaces := #[]
  cf := none
  fields := #[]
  methods := #[]
  instanceTypes := #[]
  staticTypes := #[]
  resolved := #[]
  callSites := []
  init := .initialized
  statics := none
  mirror := none

def pool0 : Array CpInfo := pool [(5, u "<init>"), (0, u "()V"), (1, .class_ 10), (1, u "java/lang/Object")] 113

def k0m0 : Method := { name := "<init>", desc := "()V", sig := { parameters := [], returnType := none }, accessFlags := 1, code := none }
/-- java/lang/Object -/
def k0 : Class := { plain "java/lang/Object" none with
  accessFlags := 33
  interfaces := #[]
  cf := some (fileOf pool0 8 #[] #[{ accessFlags := 1, nameIndex := 5, descriptorIndex := 6, attributes := #[] }] 33 0 #[] #[])
  fields := #[]
  methods := #[k0m0]
  instanceTypes := #[]
  staticTypes := #[]
  resolved := Array.replicate 124 none
  statics := none }

def pool1 : Array CpInfo := pool [(2, .class_ 4), (1, u "java/lang/Object"), (0, u "<init>"), (0, u "()V"), (0, .integer 2147483647), (0, .fieldref 9 10), (0, .class_ 11), (0, .nameAndType 12 13), (0, u "com/example/segmentry/segmentry/DataType$Kind"), (0, u "DTM"), (0, u "Lcom/example/segmentry/segmentry/DataType$Kind;"), (0, .fieldref 9 15), (0, .nameAndType 16 13), (0, u "TS"), (0, .fieldref 9 18), (0, .nameAndType 19 13), (0, u "TS_Z"), (0, .fieldref 9 21), (0, .nameAndType 22 13), (0, u "NM"), (0, .fieldref 9 24), (0, .nameAndType 25 13), (0, u "SI"), (0, .fieldref 9 27), (0, .nameAndType 28 13), (0, u "POSITIVE_INTEGER"), (0, .fieldref 9 30), (0, .nameAndType 31 13), (0, u "DIGITS"), (0, .methodref 9 33), (0, .nameAndType 34 35), (0, u "holdsDateTime"), (0, u "()Z"), (0, .class_ 37), (0, u "com/example/segmentry/segmentry/KindHoldsDateTimePinLaw"), (2, u "law"), (0, u "(I)Z")] 7

def k1m0 : Method := { name := "<init>", desc := "()V", sig := { parameters := [], returnType := none }, accessFlags := 2, code := none }
def k1c1 : Code := { maxStack := 2, maxLocals := 4, code := code, exceptionTable := #[], attributes := #[] }
def k1m1 : Method := { name := "law", desc := "(I)Z", sig := { parameters := [.int], returnType := some .boolean }, accessFlags := 9, code := some k1c1 }
/-- com/example/segmentry/segmentry/KindHoldsDateTimePinLaw -/
def k1 : Class := { plain "com/example/segmentry/segmentry/KindHoldsDateTimePinLaw" (some 0) with
  accessFlags := 49
  interfaces := #[]
  cf := some (fileOf pool1 36 #[] #[{ accessFlags := 2, nameIndex := 5, descriptorIndex := 6, attributes := #[] }, { accessFlags := 9, nameIndex := 40, descriptorIndex := 41, attributes := #[] }] 49 2 #[] #[])
  fields := #[]
  methods := #[k1m0, k1m1]
  instanceTypes := #[]
  staticTypes := #[]
  resolved := Array.replicate 49 none
  statics := none }

def pool2 : Array CpInfo := pool [(1, .class_ 2), (0, u "java/lang/constant/Constable"), (0, .class_ 4), (0, u "java/lang/Object")] 6

/-- java/lang/constant/Constable -/
def k2 : Class := { plain "java/lang/constant/Constable" (some 0) with
  accessFlags := 1537
  interfaces := #[]
  cf := some (fileOf pool2 1 #[] #[] 1537 3 #[] #[])
  fields := #[]
  methods := #[]
  instanceTypes := #[]
  staticTypes := #[]
  resolved := Array.replicate 11 none
  statics := none }

def pool3 : Array CpInfo := pool [(1, .class_ 2), (0, u "java/lang/Comparable"), (0, .class_ 4), (0, u "java/lang/Object")] 7

/-- java/lang/Comparable -/
def k3 : Class := { plain "java/lang/Comparable" (some 0) with
  accessFlags := 1537
  interfaces := #[]
  cf := some (fileOf pool3 1 #[] #[] 1537 3 #[] #[])
  fields := #[]
  methods := #[]
  instanceTypes := #[]
  staticTypes := #[]
  resolved := Array.replicate 12 none
  statics := none }

def pool4 : Array CpInfo := pool [(1, .class_ 2), (0, u "java/io/Serializable"), (0, .class_ 4), (0, u "java/lang/Object")] 2

/-- java/io/Serializable -/
def k4 : Class := { plain "java/io/Serializable" (some 0) with
  accessFlags := 1537
  interfaces := #[]
  cf := some (fileOf pool4 1 #[] #[] 1537 3 #[] #[])
  fields := #[]
  methods := #[]
  instanceTypes := #[]
  staticTypes := #[]
  resolved := Array.replicate 7 none
  statics := none }

def pool5 : Array CpInfo := pool [(2, .class_ 4), (1, u "java/lang/Enum"), (0, u "name"), (0, u "Ljava/lang/String;"), (2, u "ordinal"), (0, u "I"), (1, .class_ 14), (1, u "java/lang/Object"), (4, u "hash"), (86, .class_ 108), (1, u "java/lang/Enum$EnumDesc"), (2, .class_ 112), (0, u "java/lang/constant/Constable"), (0, .class_ 114), (0, u "java/lang/Comparable"), (0, .class_ 116), (0, u "java/io/Serializable")] 87

/-- java/lang/Enum -/
def k5 : Class := { plain "java/lang/Enum" (some 0) with
  accessFlags := 1057
  interfaces := #[2, 3, 4]
  cf := some (fileOf pool5 2 #[.nestMembers #[106]] #[] 1057 12 #[111, 113, 115] #[{ accessFlags := 18, nameIndex := 5, descriptorIndex := 6, attributes := #[] }, { accessFlags := 18, nameIndex := 9, descriptorIndex := 10, attributes := #[] }, { accessFlags := 2, nameIndex := 19, descriptorIndex := 10, attributes := #[] }])
  fields := #[{ name := "name", type := (.object "java/lang/String"), accessFlags := 18, slot := 0, constantValue := 0 }, { name := "ordinal", type := .int, accessFlags := 18, slot := 1, constantValue := 0 }, { name := "hash", type := .int, accessFlags := 2, slot := 2, constantValue := 0 }]
  methods := #[]
  instanceTypes := #[(.object "java/lang/String"), .int, .int]
  staticTypes := #[]
  resolved := Array.replicate 204 none
  statics := none }

def pool6 : Array CpInfo := pool [(1, .class_ 2), (0, u "com/example/segmentry/segmentry/DataType$Kind"), (0, .fieldref 1 4), (0, .nameAndType 5 6), (0, u "DTM"), (0, u "Lcom/example/segmentry/segmentry/DataType$Kind;"), (0, .fieldref 1 8), (0, .nameAndType 9 6), (0, u "TS"), (0, .fieldref 1 11), (0, .nameAndType 12 6), (0, u "TS_Z"), (2, u "NM"), (2, u "SI"), (2, u "POSITIVE_INTEGER"), (2, u "DIGITS"), (2, u "$VALUES"), (0, u "[Lcom/example/segmentry/segmentry/DataType$Kind;"), (6, .class_ 37), (1, u "java/lang/Enum"), (8, u "format"), (0, u "Lcom/example/segmentry/segmentry/DataType$Kind$Format;"), (20, .class_ 70), (1, u "com/example/segmentry/segmentry/DataType"), (46, u "holdsDateTime"), (0, u "()Z")] 57

def k6c0 : Code := { maxStack := 2, maxLocals := 1, code := prog_18_method_3_code, exceptionTable := #[], attributes := #[] }
def k6m0 : Method := { name := "holdsDateTime", desc := "()Z", sig := { parameters := [], returnType := some .boolean }, accessFlags := 0, code := some k6c0 }
/-- com/example/segmentry/segmentry/DataType$Kind -/
def k6 : Class := { plain "com/example/segmentry/segmentry/DataType$Kind" (some 5) with
  accessFlags := 16432
  interfaces := #[]
  cf := some (fileOf pool6 1 #[.nestHost 68] #[{ accessFlags := 0, nameIndex := 117, descriptorIndex := 118, attributes := #[] }] 16432 35 #[] #[{ accessFlags := 16409, nameIndex := 5, descriptorIndex := 6, attributes := #[] }, { accessFlags := 16409, nameIndex := 9, descriptorIndex := 6, attributes := #[] }, { accessFlags := 16409, nameIndex := 12, descriptorIndex := 6, attributes := #[] }, { accessFlags := 16409, nameIndex := 15, descriptorIndex := 6, attributes := #[] }, { accessFlags := 16409, nameIndex := 18, descriptorIndex := 6, attributes := #[] }, { accessFlags := 16409, nameIndex := 21, descriptorIndex := 6, attributes := #[] }, { accessFlags := 16409, nameIndex := 24, descriptorIndex := 6, attributes := #[] }, { accessFlags := 18, nameIndex := 46, descriptorIndex := 47, attributes := #[] }, { accessFlags := 4122, nameIndex := 27, descriptorIndex := 28, attributes := #[] }])
  fields := #[{ name := "DTM", type := (.object "com/example/segmentry/segmentry/DataType$Kind"), accessFlags := 16409, slot := 0, constantValue := 0 }, { name := "TS", type := (.object "com/example/segmentry/segmentry/DataType$Kind"), accessFlags := 16409, slot := 1, constantValue := 0 }, { name := "TS_Z", type := (.object "com/example/segmentry/segmentry/DataType$Kind"), accessFlags := 16409, slot := 2, constantValue := 0 }, { name := "NM", type := (.object "com/example/segmentry/segmentry/DataType$Kind"), accessFlags := 16409, slot := 3, constantValue := 0 }, { name := "SI", type := (.object "com/example/segmentry/segmentry/DataType$Kind"), accessFlags := 16409, slot := 4, constantValue := 0 }, { name := "POSITIVE_INTEGER", type := (.object "com/example/segmentry/segmentry/DataType$Kind"), accessFlags := 16409, slot := 5, constantValue := 0 }, { name := "DIGITS", type := (.object "com/example/segmentry/segmentry/DataType$Kind"), accessFlags := 16409, slot := 6, constantValue := 0 }, { name := "format", type := (.object "com/example/segmentry/segmentry/DataType$Kind$Format"), accessFlags := 18, slot := 3, constantValue := 0 }, { name := "$VALUES", type := (.array (.object "com/example/segmentry/segmentry/DataType$Kind")), accessFlags := 4122, slot := 7, constantValue := 0 }]
  methods := #[k6m0]
  instanceTypes := #[(.object "java/lang/String"), .int, .int, (.object "com/example/segmentry/segmentry/DataType$Kind$Format")]
  staticTypes := #[(.object "com/example/segmentry/segmentry/DataType$Kind"), (.object "com/example/segmentry/segmentry/DataType$Kind"), (.object "com/example/segmentry/segmentry/DataType$Kind"), (.object "com/example/segmentry/segmentry/DataType$Kind"), (.object "com/example/segmentry/segmentry/DataType$Kind"), (.object "com/example/segmentry/segmentry/DataType$Kind"), (.object "com/example/segmentry/segmentry/DataType$Kind"), (.array (.object "com/example/segmentry/segmentry/DataType$Kind"))]
  resolved := Array.replicate 176 none
  statics := some 0 }

def pool7 : Array CpInfo := pool [(1, u "java/lang/Cloneable"), (0, .class_ 1), (0, u "java/lang/Object"), (0, .class_ 3)] 3

/-- java/lang/Cloneable -/
def k7 : Class := { plain "java/lang/Cloneable" (some 0) with
  accessFlags := 1537
  interfaces := #[]
  cf := some (fileOf pool7 2 #[] #[] 1537 4 #[] #[])
  fields := #[]
  methods := #[]
  instanceTypes := #[]
  staticTypes := #[]
  resolved := Array.replicate 8 none
  statics := none }

/-- the primitive byte -/
def k8 : Class := { plain "byte" none with kind := .primitive 'B', accessFlags := 0x411 }
/-- [B -/
def k9 : Class := { plain "[B" (some 0) with kind := .array 8 .byte, interfaces := #[7, 4], accessFlags := 1041 }

/-- the primitive int -/
def k10 : Class := { plain "int" none with kind := .primitive 'I', accessFlags := 0x411 }
/-- [I -/
def k11 : Class := { plain "[I" (some 0) with kind := .array 10 .int, interfaces := #[7, 4], accessFlags := 1041 }

def heap : Heap := #[{ cls := 6, slots := #[.ref 1, .ref 2, .ref 3, .ref 4, .ref 5, .ref 6, .ref 7, .null], vm := .statics 6 },
  { cls := 6, slots := #[.null, .int 0, .int 0, .null], vm := .none },
  { cls := 6, slots := #[.null, .int 1, .int 0, .null], vm := .none },
  { cls := 6, slots := #[.null, .int 2, .int 0, .null], vm := .none },
  { cls := 6, slots := #[.null, .int 3, .int 0, .null], vm := .none },
  { cls := 6, slots := #[.null, .int 4, .int 0, .null], vm := .none },
  { cls := 6, slots := #[.null, .int 5, .int 0, .null], vm := .none },
  { cls := 6, slots := #[.null, .int 6, .int 0, .null], vm := .none }]
def classes : Array Class := #[k0, k1, k2, k3, k4, k5, k6, k7, k8, k9, k10, k11]
def interned : List (Array UInt16 × Addr) := []
def slotsUsed : Nat := 36
def theMethod : MethodId := ⟨1, 1⟩
def args0 : Array Value := #[.int 5]
def aboutOver (below : List Frame) : State where
  vm := { classes := classes, interned := interned.toArray }
  heap := heap
  slotsUsed := slotsUsed
  threads := #[{ frames := .invoking theMethod args0 :: below }]
def below0 : List Frame := [.native { method := ⟨0, 0⟩, args := #[] }]
def about1 : State := aboutOver below0
def p0 : Program := .bare "" "" ""
def e0 : Env := launch0.env 0 0 0
theorem w_frames : about1.frames = Frame.invoking theMethod args0 :: below0 := rfl
set_option maxRecDepth 65536 in
theorem w_args : argsFit about1.vm theMethod args0 = true := by decide +kernel
set_option maxRecDepth 65536 in
theorem w_heap : heapFits about1 = true := by decide +kernel
set_option maxRecDepth 65536 in
theorem w_runnable : about1.curStatus? = some .runnable := by decide +kernel
set_option maxRecDepth 65536 in
theorem w_alone : about1.alone = true := by decide +kernel
set_option maxRecDepth 65536 in
theorem w_named : about1.methodNamed? x = some theMethod := by decide +kernel
set_option maxRecDepth 65536 in
theorem w_hears : about1.hears theMethod below0 = true := by decide +kernel
set_option maxRecDepth 65536 in
theorem w_ripe : about1.ripe theMethod args0 below0 = true := by decide +kernel
theorem w_running : about1.status = .running := rfl
set_option maxRecDepth 65536 in
theorem w_room : about1.hasRoom e0.platform room_1 = true :=
  launch0.hasRoom_least _ room_1 (by decide +kernel) (by decide +kernel) (by decide +kernel) (by decide +kernel) (by decide +kernel) (by decide +kernel)
theorem allAtoms_all (ts : List Jvm.Cond) (a : Array Jvm.Value) (st : Jvm.State) : (allAtoms ts).before a st = ts.all (fun c => c.before a st) := by
  induction ts with
  | nil => rfl
  | cons c t ih =>
    show (Jvm.Cond.and c (allAtoms t)).before a st = _
    rw [Jvm.Cond.before_and, ih, List.all_cons]
def words1 : List Jvm.Cond := Jvm.Cond.code x code maxLocals ret :: tables_1
/-- a 'code' word, met by the world's own term for the bytes: nothing is compared byte by byte -/
theorem code_word {y : MethodName} {bytes : ByteArray} {mx : Nat} {rt : Option FieldType} {a : Array Value} {s : State} {m : MethodId} {meth : Method} {c : Code} (h1 : s.methodNamed? y = some m) (h2 : s.vm.method? m = some meth) (h3 : meth.code = some c) (h4 : c.code = bytes)
    (h5 : (c.maxLocals == mx && c.exceptionTable.isEmpty && decide (c.maxStack ≤ mostOperands) && decide (meth.sig.returnType = rt) && !meth.locks && decide (parseMethodDescriptor y.desc = some meth.sig)) = true) : (Jvm.Cond.code y bytes mx rt).before a s = true := by
  simp only [Bool.and_eq_true, beq_iff_eq, Bool.not_eq_true', decide_eq_true_eq] at h5
  obtain ⟨⟨⟨⟨⟨g1, g2⟩, g3⟩, g4⟩, g5⟩, g6⟩ := h5
  simp [Cond.before, Cond.holds, Cond.value, h1, h2, h3, h4, g1, g2, g3, g4, g5, g6]
def isCode : Jvm.Cond → Bool
  | .code _ _ _ _ => true
  | _ => false
theorem all_split {L : List Jvm.Cond} {P : Jvm.Cond → Bool} (h1 : L.all (fun c => isCode c || P c) = true) (h2 : ∀ c ∈ L.filter isCode, P c = true) : L.all P = true := by
  refine List.all_eq_true.mpr fun c hc => ?_
  have h := List.all_eq_true.mp h1 c hc
  rcases Bool.eq_false_or_eq_true (isCode c) with hi | hi
  · exact h2 c (List.mem_filter.mpr ⟨hc, hi⟩)
  · simpa [hi] using h
set_option maxRecDepth 65536 in
theorem w_c0 : (Jvm.Cond.code x code maxLocals ret).before args0 about1 = true := code_word (m := ⟨1, 1⟩) (meth := k1m1) (c := k1c1) (by decide +kernel) rfl rfl rfl (by decide +kernel)
set_option maxRecDepth 65536 in
theorem w_c1 : (Jvm.Cond.code ({ cls := "com/example/segmentry/segmentry/DataType$Kind", name := "holdsDateTime", desc := "()Z" } : Jvm.MethodName) prog_18_method_3_code (1 : Nat) (Option.some Jvm.ClassFile.FieldType.boolean)).before args0 about1 = true := code_word (m := ⟨6, 0⟩) (meth := k6m0) (c := k6c0) (by decide +kernel) rfl rfl rfl (by decide +kernel)
def codes1 : List Jvm.Cond := [Jvm.Cond.code x code maxLocals ret, Jvm.Cond.code ({ cls := "com/example/segmentry/segmentry/DataType$Kind", name := "holdsDateTime", desc := "()Z" } : Jvm.MethodName) prog_18_method_3_code (1 : Nat) (Option.some Jvm.ClassFile.FieldType.boolean)]
set_option maxRecDepth 65536 in
theorem codes_eq : words1.filter isCode = codes1 := rfl
theorem w_codes : ∀ c ∈ words1.filter isCode, c.before args0 about1 = true := by
  rw [codes_eq]
  intro c hc
  simp only [codes1, List.mem_cons, List.not_mem_nil, or_false] at hc
  rcases hc with rfl | rfl
  · exact w_c0
  · exact w_c1
set_option maxRecDepth 65536 in
theorem w_t1 : (words1.take 24).all (fun c => isCode c || c.before args0 about1) = true := by decide +kernel
set_option maxRecDepth 65536 in
theorem w_t2 : (words1.drop 24).all (fun c => isCode c || c.before args0 about1) = true := by decide +kernel
theorem w_tables : (allAtoms (Jvm.Cond.code x code maxLocals ret :: tables_1)).before args0 about1 = true := by
  rw [allAtoms_all]
  show words1.all (fun c => c.before args0 about1) = true
  refine all_split ?_ w_codes
  rw [← List.take_append_drop 24 words1, List.all_append, w_t1, w_t2]
  rfl
set_option maxRecDepth 65536 in
theorem w_case : (Jvm.Cond.and given_1 narrow_1).before args0 about1 = true := by decide +kernel
theorem w_applies : (headSpec (Jvm.Cond.code x code maxLocals ret :: tables_1) room_1).applies x e0.platform about1 = true :=
  (Spec.applies_iff w_frames).mpr ⟨w_running, w_runnable, w_alone, w_named, w_hears, w_ripe, w_room, w_tables⟩
theorem atStart : AtStart classFile x code maxLocals ret World_1 tables_1 room_1 Calls_1 rest_1 Pre_1 launch0 p0 e0 about1 theMethod args0 below0 :=
  ⟨lists_1, trivial, launch0.admits_env _ _ _, launch0.least_env, fairChoices_fair.cas, fairChoices_fair.clock, w_frames, w_args, w_heap, w_applies, trivial, trivial, w_case⟩
end start1
theorem witness_1 : WitnessClaimed_1 := ⟨start1.p0, start1.e0, start1.about1, start1.theMethod, start1.args0, start1.below0, start1.atStart⟩
end Jvm.Pilot.@@N@@
