import JvmDerived
import JvmDerived.Pilot.@@N@@Statement
import JvmDerived.Pilot.@@N@@Code
set_option linter.unusedVariables false
set_option linter.unusedSimpArgs false
namespace Jvm.Pilot.@@N@@
open Jvm Jvm.ClassFile Sem Op Lib Jvm.Free Jvm.Stand Jvm.LawKit Jvm.RoadKit Bundle Jvm.Pilot.@@N@@.Jvm.D
/-! A walk as one goal: from the state U the run comes to an end that answers Q. -/
section Kit
def Go (p : Program) (e : Env) (below : List Frame) (s : State) (Q : Option Value → Heap → List Loc → Prop) (C N : Nat) (U : State) : Prop :=
  ∃ s₂ o, Steps p.tables e below U s₂ ∧ s₂.status = .running ∧ Ended s₂ below o ∧ ∃ v L, o = .returned v ∧ Q v s₂.heap L ∧ FrameEnd s o s₂ L C N
variable {p : Program} {l : Launch} {e : Env} {R : Room} {s : State} {m : MethodId} {args : Array Value} {below : List Frame} {meth : Method} {c : Code} {T : State} {locs : List Loc} {cells slots : Nat} {Q : Option Value → Heap → List Loc → Prop} {C N : Nat}
abbrev gO {p : Program} {e : Env} {below : List Frame} {s : State} {Q : Option Value → Heap → List Loc → Prop} {C N : Nat} (U : State) : Prop := Go p e below s Q C N U
abbrev tF (T : State) (m : MethodId) (pc : Nat) (ls : Array Slot) (st : List Value) : State := T.setTop (mkF m pc ls st)
theorem gob {U U' : State} (h : ∀ t, Steps p.tables e below U' t → Steps p.tables e below U t) (k : Go p e below s Q C N U') : Go p e below s Q C N U := by
  obtain ⟨s₂, o, h1, r⟩ := k
  exact ⟨s₂, o, h _ h1, r⟩
theorem goZ (X : Stand p l e R s m args below meth c T locs cells slots) (hx : p.tables.exec = Jvm.exec) (hlk : meth.locks = false) {t : FieldType} {pc : Nat} {Ls : Array Slot} {z z' : Int32} {rest : List Value} (hret : meth.sig.returnType = some t) (ht : t = .boolean ∨ t = .byte ∨ t = .char ∨ t = .short) (hd : decode c.code pc = .ok (.ireturn, 1)) (hz : nar t z = z') (hq : Q (some (.int z')) T.heap locs) (hc : cells ≤ C) (hn : slots ≤ N) :
    Go p e below s Q C N (T.setTop (mkF m pc Ls (.int z :: rest))) := by
  subst hz
  obtain ⟨fs, hr, hrun, hended, hW, hsame⟩ := X.leave (v := some (.int (nar t z))) (fun h => by rw [hret] at h; cases h) hlk
  exact ⟨_, _, retN X hx hret ht hd hr, hrun, hended, _, _, rfl, hq, ⟨_, rfl⟩, hW, hsame.mono hc hn⟩
theorem goI (X : Stand p l e R s m args below meth c T locs cells slots) (hx : p.tables.exec = Jvm.exec) (hlk : meth.locks = false) {pc : Nat} {Ls : Array Slot} {z : Int32} {rest : List Value} (hret : meth.sig.returnType = some .int) (hd : decode c.code pc = .ok (.ireturn, 1)) (hq : Q (some (.int z)) T.heap locs) (hc : cells ≤ C) (hn : slots ≤ N) :
    Go p e below s Q C N (T.setTop (mkF m pc Ls (.int z :: rest))) := by
  obtain ⟨fs, hr, hrun, hended, hW, hsame⟩ := X.leave (v := some (.int z)) (fun h => by rw [hret] at h; cases h) hlk
  exact ⟨_, _, retOut X hx hret rfl (Or.inl ⟨rfl, Or.inl rfl, z, rfl⟩) hd hr, hrun, hended, _, _, rfl, hq, ⟨_, rfl⟩, hW, hsame.mono hc hn⟩
theorem goJ (X : Stand p l e R s m args below meth c T locs cells slots) (hx : p.tables.exec = Jvm.exec) (hlk : meth.locks = false) {pc : Nat} {Ls : Array Slot} {z : Int64} {rest : List Value} (hret : meth.sig.returnType = some .long) (hd : decode c.code pc = .ok (.lreturn, 1)) (hq : Q (some (.long z)) T.heap locs) (hc : cells ≤ C) (hn : slots ≤ N) :
    Go p e below s Q C N (T.setTop (mkF m pc Ls (.long z :: rest))) := by
  obtain ⟨fs, hr, hrun, hended, hW, hsame⟩ := X.leave (v := some (.long z)) (fun h => by rw [hret] at h; cases h) hlk
  exact ⟨_, _, retOut X hx hret rfl (Or.inr (Or.inl ⟨rfl, rfl, z, rfl⟩)) hd hr, hrun, hended, _, _, rfl, hq, ⟨_, rfl⟩, hW, hsame.mono hc hn⟩
theorem goD (X : Stand p l e R s m args below meth c T locs cells slots) (hx : p.tables.exec = Jvm.exec) (hlk : meth.locks = false) {pc : Nat} {Ls : Array Slot} {z : UInt64} {rest : List Value} (hret : meth.sig.returnType = some .double) (hd : decode c.code pc = .ok (.dreturn, 1)) (hq : Q (some (.double z)) T.heap locs) (hc : cells ≤ C) (hn : slots ≤ N) :
    Go p e below s Q C N (T.setTop (mkF m pc Ls (.double z :: rest))) := by
  obtain ⟨fs, hr, hrun, hended, hW, hsame⟩ := X.leave (v := some (.double z)) (fun h => by rw [hret] at h; cases h) hlk
  exact ⟨_, _, retOut X hx hret rfl (Or.inr (Or.inr (Or.inl ⟨rfl, rfl, z, rfl⟩))) hd hr, hrun, hended, _, _, rfl, hq, ⟨_, rfl⟩, hW, hsame.mono hc hn⟩
theorem goA (X : Stand p l e R s m args below meth c T locs cells slots) (hx : p.tables.exec = Jvm.exec) (hlk : meth.locks = false) {t : FieldType} {pc : Nat} {Ls : Array Slot} {z : Value} {rest : List Value} (hret : meth.sig.returnType = some t) (ht : t.isReference = true) (hv : z.isRef = true) (hd : decode c.code pc = .ok (.areturn, 1)) (hq : Q (some z) T.heap locs) (hc : cells ≤ C) (hn : slots ≤ N) :
    Go p e below s Q C N (T.setTop (mkF m pc Ls (z :: rest))) := by
  obtain ⟨fs, hr, hrun, hended, hW, hsame⟩ := X.leave (v := some z) (fun h => by rw [hret] at h; cases h) hlk
  have hnw : narrow t z = z := by cases z <;> cases t <;> first | rfl | (simp [Value.isRef] at hv) | (simp [FieldType.isReference] at ht)
  exact ⟨_, _, retOut X hx hret hnw (Or.inr (Or.inr (Or.inr (Or.inr ⟨rfl, ht, hv⟩)))) hd hr, hrun, hended, _, _, rfl, hq, ⟨_, rfl⟩, hW, hsame.mono hc hn⟩
theorem goV (X : Stand p l e R s m args below meth c T locs cells slots) (hx : p.tables.exec = Jvm.exec) (hlk : meth.locks = false) {pc : Nat} {Ls : Array Slot} (hret : meth.sig.returnType = none) (hd : decode c.code pc = .ok (.return_, 1)) (hq : Q none T.heap locs) (hc : cells ≤ C) (hn : slots ≤ N) :
    Go p e below s Q C N (T.setTop (mkF m pc Ls [])) := by
  obtain ⟨fs, hr, hrun, hended, hW, hsame⟩ := X.leave (v := none) (fun _ => rfl) hlk
  exact ⟨_, _, X.returnOut hx hret hd hr, hrun, hended, _, _, rfl, hq, ⟨_, rfl⟩, hW, hsame.mono hc hn⟩
theorem lremM {g : JFrame} {target : State} (X : Stand p l e R s m args below meth c T locs cells slots) (hx : p.tables.exec = Jvm.exec) (hg : g.method = m) {x y : Int64} {rest : List Value} (hd : decode c.code g.pc = .ok (.lrem, 1)) (hs : g.stack = .long y :: .long x :: rest) (hy : y ≠ 0)
    (hr : Steps p.tables e below (T.setTop { g with pc := g.pc + 1, stack := .long (x % y) :: rest }) target) : Steps p.tables e below (T.setTop g) target :=
  XS.lrem X.here hx hg hd hs hy (by rw [lrem_mod x y]; exact hr)
theorem own_lrem (x y : Int64) (d : Int) (hy : y.toInt = d) : (0 ≤ x.toInt → (x % y).toInt = x.toInt % d) ∧ (x.toInt < 0 → (x % y).toInt = -((-x.toInt) % d)) := by rw [Int64.toInt_mod, hy]; exact tr _ _
theorem own_lxor (x y : Int64) (hy : 0 ≤ y.toInt) : ((x ^^^ y).toInt < 0 ↔ x.toInt < 0) := by
  have h1 : (x ^^^ y).toBitVec.msb = (x.toBitVec.msb ^^ y.toBitVec.msb) := by rw [Int64.toBitVec_xor, BitVec.msb_xor]
  have h2 := BitVec.msb_eq_toInt (x := (x ^^^ y).toBitVec)
  have h3 := BitVec.msb_eq_toInt (x := x.toBitVec)
  have h4 := BitVec.msb_eq_toInt (x := y.toBitVec)
  have e1 : (x ^^^ y).toBitVec.toInt = (x ^^^ y).toInt := rfl
  have e2 : x.toBitVec.toInt = x.toInt := rfl
  have e3 : y.toBitVec.toInt = y.toInt := rfl
  rw [e1] at h2
  rw [e2] at h3
  rw [e3] at h4
  have h5 : ¬ y.toInt < 0 := by omega
  rw [h2, h3, h4, decide_eq_false h5, Bool.xor_false] at h1
  simpa using h1
theorem pop2L {g : JFrame} {target : State} (X : Stand p l e R s m args below meth c T locs cells slots) (hx : p.tables.exec = Jvm.exec) (hg : g.method = m) {x : Int64} {rest : List Value} (hd : decode c.code g.pc = .ok (.pop2, 1)) (hs : g.stack = .long x :: rest)
    (hr : Steps p.tables e below (T.setTop { g with pc := g.pc + 1, stack := rest }) target) : Steps p.tables e below (T.setTop g) target := by
  subst hg
  jvm_step X.here [X.here.top, hx, hd, hs, Value.category]
  exact hr
theorem own_staKeep {Z : State} {h h' : Heap} {C n d : String} {v : Value} {ws : List Addr} (F : Sta Z h C n d v) (K : Keep h h' ws) (hn : ∀ x ∈ ws, ∀ cell : Cell, h[x]? = some cell → cell.vm.isStatics = false) : Sta Z h' C n d v := by
  obtain ⟨cf, i, k, f, st, cell, h1, h2, h3, h4, h5, h6, h7⟩ := F
  exact ⟨cf, i, k, f, st, cell, h1, h2, h3, h4, K.2.1 _ _ h5 (fun q => by have q2 := hn _ q _ h5; rw [h6] at q2; cases q2), h6, h7⟩
theorem own_lmulR (x y : Int64) (d : Int) (hy : y.toInt = d) : ((x * y).toInt - x.toInt * d) % 18446744073709551616 = 0 := by rw [← hy]; exact c_lmul x y
theorem own_lmulL (x y : Int64) (d : Int) (hx : x.toInt = d) : ((x * y).toInt - d * y.toInt) % 18446744073709551616 = 0 := by rw [← hx]; exact c_lmul x y
theorem own_imulR (x y : Int32) (d : Int) (hy : y.toInt = d) : ((x * y).toInt - x.toInt * d) % 4294967296 = 0 := by rw [← hy]; exact c_imul x y
theorem own_imulL (x y : Int32) (d : Int) (hx : x.toInt = d) : ((x * y).toInt - d * y.toInt) % 4294967296 = 0 := by rw [← hx]; exact c_imul x y
theorem castX {k' n' : Nat} (X : Stand p l e R s m args below meth c T locs cells slots) (h1 : cells = k') (h2 : slots = n') : Stand p l e R s m args below meth c T locs k' n' := by
  subst h1
  subst h2
  exact X
theorem hW {Z : State} {a0 : Array Value} (hw : ∀ d ∈ tables_1, d.before a0 Z = true) (i : Nat) {d : Jvm.Cond} (h : tables_1[i]? = some d) : d.before a0 Z = true := hw _ (List.mem_of_getElem? h)
end Kit

def GoW (p : Program) (e : Env) (below : List Frame) (s : State) (Q : Option Value → Heap → List Loc → Prop) (C N : Nat) (U : State) : Prop :=
  ∃ s₂ o, Steps p.tables e below U s₂ ∧ s₂.status = .running ∧ Ended s₂ below o ∧ ∃ v L, o = .returned v ∧ Q v s₂.heap L ∧ ReturnedEndW s o s₂ L C N
section Wide
variable {p : Program} {l : Launch} {e : Env} {R : Room} {s : State} {m : MethodId} {args : Array Value} {below : List Frame} {meth : Method} {c : Code} {T : State} {locs : List Loc} {cells slots : Nat} {Q : Option Value → Heap → List Loc → Prop} {C N : Nat}
theorem gobW {U U' : State} (h : ∀ t, Steps p.tables e below U' t → Steps p.tables e below U t) (k : GoW p e below s Q C N U') : GoW p e below s Q C N U := by
  obtain ⟨s₂, o, h1, r⟩ := k
  exact ⟨s₂, o, h _ h1, r⟩
theorem leH {h : Heap} {k : Nat} (e : T.heap = h) (q : k ≤ h.size) : k ≤ T.heap.size := by rw [e]; exact q
theorem castW (X : Stand p l e R s m args below meth c T locs cells slots) : Stand p l e R (s.setVm s.vm) m args below meth c T locs cells slots := X
theorem goVW {vm1 : Vm} {k : Nat} (X : Stand p l e R (s.setVm vm1) m args below meth c T locs cells slots) (hx : p.tables.exec = Jvm.exec) (hlk : meth.locks = false) (hS : s.Since vm1 k) (hk : k ≤ T.heap.size) {pc : Nat} {Ls : Array Slot} (hret : meth.sig.returnType = none) (hd : decode c.code pc = .ok (.return_, 1)) (hq : Q none T.heap locs) (hc : cells ≤ C) (hn : slots ≤ N) :
    GoW p e below s Q C N (T.setTop (mkF m pc Ls [])) := by
  obtain ⟨fs, hr, hrun, hended, e1, e2, e3, e4⟩ := X.leaveW hS hk (v := none) (fun _ => rfl) hlk
  exact ⟨_, _, X.returnOut hx hret hd hr, hrun, hended, _, _, rfl, hq, e1, e2, e3, e4.mono hc hn⟩
theorem goZW {vm1 : Vm} {k : Nat} (X : Stand p l e R (s.setVm vm1) m args below meth c T locs cells slots) (hx : p.tables.exec = Jvm.exec) (hlk : meth.locks = false) (hS : s.Since vm1 k) (hk : k ≤ T.heap.size) {t : FieldType} {pc : Nat} {Ls : Array Slot} {z z' : Int32} {rest : List Value} (hret : meth.sig.returnType = some t) (ht : t = .boolean ∨ t = .byte ∨ t = .char ∨ t = .short) (hd : decode c.code pc = .ok (.ireturn, 1)) (hz : nar t z = z') (hq : Q (some (.int z')) T.heap locs) (hc : cells ≤ C) (hn : slots ≤ N) :
    GoW p e below s Q C N (T.setTop (mkF m pc Ls (.int z :: rest))) := by
  subst hz
  obtain ⟨fs, hr, hrun, hended, e1, e2, e3, e4⟩ := X.leaveW hS hk (v := some (.int (nar t z))) (fun h => by rw [hret] at h; cases h) hlk
  exact ⟨_, _, retN X hx hret ht hd hr, hrun, hended, _, _, rfl, hq, e1, e2, e3, e4.mono hc hn⟩
end Wide
theorem own_str {Z : State} {a0 : Array Value} (hw : ∀ d ∈ tables_1, d.before a0 Z = true) : ∀ a ∈ Bundle.stringAtoms, a.before a0 Z = true := fun a ha => by
  simp only [Bundle.stringAtoms, List.mem_cons, List.not_mem_nil, or_false] at ha
  rcases ha with rfl | rfl | rfl | rfl | rfl | rfl | rfl
  · first | exact (hw _ (List.mem_of_getElem? (i := 0) rfl)) | exact (hw _ (List.mem_of_getElem? (i := 12) rfl)) | exact (hw _ (List.mem_of_getElem? (i := 13) rfl)) | exact (hw _ (List.mem_of_getElem? (i := 14) rfl)) | exact (hw _ (List.mem_of_getElem? (i := 15) rfl)) | exact (hw _ (List.mem_of_getElem? (i := 16) rfl)) | exact (hw _ (List.mem_of_getElem? (i := 17) rfl))
  · first | exact (hw _ (List.mem_of_getElem? (i := 0) rfl)) | exact (hw _ (List.mem_of_getElem? (i := 12) rfl)) | exact (hw _ (List.mem_of_getElem? (i := 13) rfl)) | exact (hw _ (List.mem_of_getElem? (i := 14) rfl)) | exact (hw _ (List.mem_of_getElem? (i := 15) rfl)) | exact (hw _ (List.mem_of_getElem? (i := 16) rfl)) | exact (hw _ (List.mem_of_getElem? (i := 17) rfl))
  · first | exact (hw _ (List.mem_of_getElem? (i := 0) rfl)) | exact (hw _ (List.mem_of_getElem? (i := 12) rfl)) | exact (hw _ (List.mem_of_getElem? (i := 13) rfl)) | exact (hw _ (List.mem_of_getElem? (i := 14) rfl)) | exact (hw _ (List.mem_of_getElem? (i := 15) rfl)) | exact (hw _ (List.mem_of_getElem? (i := 16) rfl)) | exact (hw _ (List.mem_of_getElem? (i := 17) rfl))
  · first | exact (hw _ (List.mem_of_getElem? (i := 0) rfl)) | exact (hw _ (List.mem_of_getElem? (i := 12) rfl)) | exact (hw _ (List.mem_of_getElem? (i := 13) rfl)) | exact (hw _ (List.mem_of_getElem? (i := 14) rfl)) | exact (hw _ (List.mem_of_getElem? (i := 15) rfl)) | exact (hw _ (List.mem_of_getElem? (i := 16) rfl)) | exact (hw _ (List.mem_of_getElem? (i := 17) rfl))
  · first | exact (hw _ (List.mem_of_getElem? (i := 0) rfl)) | exact (hw _ (List.mem_of_getElem? (i := 12) rfl)) | exact (hw _ (List.mem_of_getElem? (i := 13) rfl)) | exact (hw _ (List.mem_of_getElem? (i := 14) rfl)) | exact (hw _ (List.mem_of_getElem? (i := 15) rfl)) | exact (hw _ (List.mem_of_getElem? (i := 16) rfl)) | exact (hw _ (List.mem_of_getElem? (i := 17) rfl))
  · first | exact (hw _ (List.mem_of_getElem? (i := 0) rfl)) | exact (hw _ (List.mem_of_getElem? (i := 12) rfl)) | exact (hw _ (List.mem_of_getElem? (i := 13) rfl)) | exact (hw _ (List.mem_of_getElem? (i := 14) rfl)) | exact (hw _ (List.mem_of_getElem? (i := 15) rfl)) | exact (hw _ (List.mem_of_getElem? (i := 16) rfl)) | exact (hw _ (List.mem_of_getElem? (i := 17) rfl))
  · first | exact (hw _ (List.mem_of_getElem? (i := 0) rfl)) | exact (hw _ (List.mem_of_getElem? (i := 12) rfl)) | exact (hw _ (List.mem_of_getElem? (i := 13) rfl)) | exact (hw _ (List.mem_of_getElem? (i := 14) rfl)) | exact (hw _ (List.mem_of_getElem? (i := 15) rfl)) | exact (hw _ (List.mem_of_getElem? (i := 16) rfl)) | exact (hw _ (List.mem_of_getElem? (i := 17) rfl))

theorem d3_0 : decode jdk_31_method_11_code 0 = .ok (.aload_n 0, 1) := by decide +kernel
theorem d3_1 : decode jdk_31_method_11_code 1 = .ok (.ifnonnull 12, 3) := by decide +kernel
theorem d3_4 : decode jdk_31_method_11_code 4 = .ok (.new 84, 3) := by decide +kernel
theorem d3_7 : decode jdk_31_method_11_code 7 = .ok (.dup, 1) := by decide +kernel
theorem d3_8 : decode jdk_31_method_11_code 8 = .ok (.aload_n 1, 1) := by decide +kernel
theorem d3_9 : decode jdk_31_method_11_code 9 = .ok (.invokespecial 87, 3) := by decide +kernel
theorem d3_12 : decode jdk_31_method_11_code 12 = .ok (.athrow, 1) := by decide +kernel
theorem d3_13 : decode jdk_31_method_11_code 13 = .ok (.aload_n 0, 1) := by decide +kernel
theorem d3_14 : decode jdk_31_method_11_code 14 = .ok (.areturn, 1) := by decide +kernel
theorem ef_3 (m : MethodId) (x0 : Addr) (x1 : Addr) : entryFrame m #[(.ref x0), (.ref x1)] 2 = mkF m 0 #[.val (.ref x0), .val (.ref x1)] [] := by first | (simp [entryFrame, mkF, argsToLocals, Value.category]; done) | rfl
def Q3 (Z : State) (o0 : Addr) (o1 : Addr) (h0 : Heap) (n0 : Nat) (v : Option Value) (h : Heap) (L : List Loc) : Prop := v = some (.ref o0) ∧ Fr n0 L ∧ Keep h0 h ([] : List Addr)
set_option maxRecDepth 65536 in
set_option maxHeartbeats 40000000 in
theorem rm3 (l : Launch) (Z : State) (a0 : Array Value) (hw : ∀ d ∈ tables_1, d.before a0 Z = true) (ws : List Jvm.Cond) (o0 : Addr) (o1 : Addr) (h0 : Heap) (n0 : Nat) (Z0 : n0 ≤ h0.size) :
    MetFree l (⟨"java/util/Objects", "requireNonNull", "(Ljava/lang/Object;Ljava/lang/String;)Ljava/lang/Object;"⟩ : MethodName) (head1 (Jvm.Cond.code (⟨"java/util/Objects", "requireNonNull", "(Ljava/lang/Object;Ljava/lang/String;)Ljava/lang/Object;"⟩ : MethodName) jdk_31_method_11_code 2 (some (.object "java/lang/Object")) :: ws) ({ frames := 0, cells := 0, slots := 0, locals := 0 } : Room)) (fun a U => a = #[(.ref o0), (.ref o1)] ∧ Z.Warmed39 U.vm ∧ U.heap = h0) (fun _ _ _ _ _ => True) (fun _ U o U' => ∃ v L, o = .returned v ∧ Q3 Z o0 o1 h0 n0 v U'.heap L ∧ FrameEnd U o U' L ({ frames := 0, cells := 0, slots := 0, locals := 0 } : Room).cells ({ frames := 0, cells := 0, slots := 0, locals := 0 } : Room).slots) := by
  refine MetFree.of_bodySF (plainFor_of_name (by first | (simp [plainName, overriddenIn]; done) | decide +kernel)) hisR ?_
  intro p e s m args below meth c s₁ Bd hml0 hP hK
  obtain ⟨rfl, hZ, hh⟩ := hP
  have hx := Bd.exec
  have hby := Bd.bytes
  have hml : c.maxLocals = 2 := hml0
  have hown : s.vm.findClass "java/util/Objects" = some m.cls := findClass_of_methodNamed Bd.named
  have hnm := (name_of_methodNamed Bd.named Bd.method).1
  have hlk := BodyLoose.notSynchronized Bd
  have X0 : Stand p l e ({ frames := 0, cells := 0, slots := 0, locals := 0 } : Room) s m #[(.ref o0), (.ref o1)] below meth c s₁ [] 0 0 := Stand.of_body Bd
  have e0 : s₁.heap = h0 := by rw [← hh, Bd.state]; rfl
  have N0 := Fr.nil n0
  show Go p e below s (Q3 Z o0 o1 h0 n0) 0 0 (s₁.setTop (entryFrame m #[(.ref o0), (.ref o1)] 2))
  rw [ef_3]
  show Go _ _ _ _ _ _ _ (s₁.setTop (mkF m 0 #[.val (.ref o0), .val (.ref o1)] []))
  refine gob (fun _ k => XS.aloadN X0.here hx rfl (hb hby d3_0) rfl rfl k) ?_
  show Go _ _ _ _ _ _ _ (s₁.setTop (mkF m 1 #[.val (.ref o0), .val (.ref o1)] [(.ref o0)]))
  refine gob (fun _ k => XS.ifnonnullYes X0.here hx rfl (pc0 := 1) (pc' := 13) rfl (hb hby d3_1) rfl (by decide) (by decide) k) ?_
  show Go _ _ _ _ _ _ _ (s₁.setTop (mkF m 13 #[.val (.ref o0), .val (.ref o1)] []))
  refine gob (fun _ k => XS.aloadN X0.here hx rfl (hb hby d3_13) rfl rfl k) ?_
  show Go _ _ _ _ _ _ _ (s₁.setTop (mkF m 14 #[.val (.ref o0), .val (.ref o1)] [(.ref o0)]))
  refine goA X0 hx hlk Bd.returns rfl rfl (hb hby d3_14) ?_ (by decide) (by decide)
  show Q3 Z o0 o1 h0 n0 (some (.ref o0)) s₁.heap _
  rw [e0]
  exact ⟨rfl, N0, (Keep.refl h0 ([] : List Addr))⟩
theorem d4_0 : decode prog_32_method_17_code 0 = .ok (.iload_n 1, 1) := by decide +kernel
theorem d4_1 : decode prog_32_method_17_code 1 = .ok (.ifCond .lt 8, 3) := by decide +kernel
theorem d4_4 : decode prog_32_method_17_code 4 = .ok (.iload_n 1, 1) := by decide +kernel
theorem d4_5 : decode prog_32_method_17_code 5 = .ok (.iload_n 2, 1) := by decide +kernel
theorem d4_6 : decode prog_32_method_17_code 6 = .ok (.if_icmp .le 19, 3) := by decide +kernel
theorem d4_9 : decode prog_32_method_17_code 9 = .ok (.new 19, 3) := by decide +kernel
theorem d4_12 : decode prog_32_method_17_code 12 = .ok (.dup, 1) := by decide +kernel
theorem d4_13 : decode prog_32_method_17_code 13 = .ok (.aload_n 0, 1) := by decide +kernel
theorem d4_14 : decode prog_32_method_17_code 14 = .ok (.iload_n 2, 1) := by decide +kernel
theorem d4_15 : decode prog_32_method_17_code 15 = .ok (.iload_n 1, 1) := by decide +kernel
theorem d4_21 : decode prog_32_method_17_code 21 = .ok (.invokespecial 25, 3) := by decide +kernel
theorem d4_24 : decode prog_32_method_17_code 24 = .ok (.athrow, 1) := by decide +kernel
theorem d4_25 : decode prog_32_method_17_code 25 = .ok (.return_, 1) := by decide +kernel
theorem ef_4 (m : MethodId) (x0 : Addr) (x1 : Int32) (x2 : Int32) : entryFrame m #[(.ref x0), (.int x1), (.int x2)] 3 = mkF m 0 #[.val (.ref x0), .val (.int x1), .val (.int x2)] [] := by first | (simp [entryFrame, mkF, argsToLocals, Value.category]; done) | rfl
def Q4 (Z : State) (o0 : Addr) (p1 : Int32) (p2 : Int32) (h0 : Heap) (n0 : Nat) (v : Option Value) (h : Heap) (L : List Loc) : Prop := v = none ∧ Fr n0 L ∧ h = h0
set_option maxRecDepth 65536 in
set_option maxHeartbeats 40000000 in
theorem rm4 (l : Launch) (Z : State) (a0 : Array Value) (hw : ∀ d ∈ tables_1, d.before a0 Z = true) (ws : List Jvm.Cond) (o0 : Addr) (p1 : Int32) (p2 : Int32) (h0 : Heap) (n0 : Nat) (Z0 : n0 ≤ h0.size) (hf1 : ¬ (p1 < (0 : Int32))) (hf6 : ¬ (p2 < p1)) :
    MetFree l (⟨"com/example/flomem/flomem/core/FlowKey", "checkRange", "(Ljava/lang/String;II)V"⟩ : MethodName) (head1 (Jvm.Cond.code (⟨"com/example/flomem/flomem/core/FlowKey", "checkRange", "(Ljava/lang/String;II)V"⟩ : MethodName) prog_32_method_17_code 3 none :: ws) ({ frames := 0, cells := 0, slots := 0, locals := 0 } : Room)) (fun a U => a = #[(.ref o0), (.int p1), (.int p2)] ∧ Z.Warmed39 U.vm ∧ U.heap = h0) (fun _ _ _ _ _ => True) (fun _ U o U' => ∃ v L, o = .returned v ∧ Q4 Z o0 p1 p2 h0 n0 v U'.heap L ∧ FrameEnd U o U' L ({ frames := 0, cells := 0, slots := 0, locals := 0 } : Room).cells ({ frames := 0, cells := 0, slots := 0, locals := 0 } : Room).slots) := by
  refine MetFree.of_bodySF (plainFor_of_name (by first | (simp [plainName, overriddenIn]; done) | decide +kernel)) hisR ?_
  intro p e s m args below meth c s₁ Bd hml0 hP hK
  obtain ⟨rfl, hZ, hh⟩ := hP
  have hx := Bd.exec
  have hby := Bd.bytes
  have hml : c.maxLocals = 3 := hml0
  have hown : s.vm.findClass "com/example/flomem/flomem/core/FlowKey" = some m.cls := findClass_of_methodNamed Bd.named
  have hnm := (name_of_methodNamed Bd.named Bd.method).1
  have hlk := BodyLoose.notSynchronized Bd
  have X0 : Stand p l e ({ frames := 0, cells := 0, slots := 0, locals := 0 } : Room) s m #[(.ref o0), (.int p1), (.int p2)] below meth c s₁ [] 0 0 := Stand.of_body Bd
  have e0 : s₁.heap = h0 := by rw [← hh, Bd.state]; rfl
  have N0 := Fr.nil n0
  show Go p e below s (Q4 Z o0 p1 p2 h0 n0) 0 0 (s₁.setTop (entryFrame m #[(.ref o0), (.int p1), (.int p2)] 3))
  rw [ef_4]
  show Go _ _ _ _ _ _ _ (s₁.setTop (mkF m 0 #[.val (.ref o0), .val (.int p1), .val (.int p2)] []))
  refine gob (fun _ k => XS.iloadN X0.here hx rfl (hb hby d4_0) rfl k) ?_
  show Go _ _ _ _ _ _ _ (s₁.setTop (mkF m 1 #[.val (.ref o0), .val (.int p1), .val (.int p2)] [(.int p1)]))
  refine gob (fun _ k => XS.ifNo X0.here hx rfl (hb hby d4_1) rfl ((if0 _ _).trans (flt hf1).1) k) ?_
  show Go _ _ _ _ _ _ _ (s₁.setTop (mkF m 4 #[.val (.ref o0), .val (.int p1), .val (.int p2)] []))
  refine gob (fun _ k => XS.iloadN X0.here hx rfl (hb hby d4_4) rfl k) ?_
  show Go _ _ _ _ _ _ _ (s₁.setTop (mkF m 5 #[.val (.ref o0), .val (.int p1), .val (.int p2)] [(.int p1)]))
  refine gob (fun _ k => XS.iloadN X0.here hx rfl (hb hby d4_5) rfl k) ?_
  show Go _ _ _ _ _ _ _ (s₁.setTop (mkF m 6 #[.val (.ref o0), .val (.int p1), .val (.int p2)] [(.int p2), (.int p1)]))
  refine gob (fun _ k => XS.icmpYes X0.here hx rfl (pc0 := 6) (pc' := 25) rfl (hb hby d4_6) rfl (flt hf6).2.2.2 (by decide) (by decide) k) ?_
  show Go _ _ _ _ _ _ _ (s₁.setTop (mkF m 25 #[.val (.ref o0), .val (.int p1), .val (.int p2)] []))
  refine goV X0 hx hlk Bd.returns (hb hby d4_25) ?_ (by decide) (by decide)
  show Q4 Z o0 p1 p2 h0 n0 (none) s₁.heap _
  exact ⟨rfl, N0, e0⟩
theorem d5_0 : decode prog_32_method_16_code 0 = .ok (.aload_n 0, 1) := by decide +kernel
theorem d5_1 : decode prog_32_method_16_code 1 = .ok (.iload_n 1, 1) := by decide +kernel
theorem d5_2 : decode prog_32_method_16_code 2 = .ok (.iload_n 2, 1) := by decide +kernel
theorem d5_3 : decode prog_32_method_16_code 3 = .ok (.bipush 8, 2) := by decide +kernel
theorem d5_5 : decode prog_32_method_16_code 5 = .ok (.iushr, 1) := by decide +kernel
theorem d5_6 : decode prog_32_method_16_code 6 = .ok (.i2b, 1) := by decide +kernel
theorem d5_7 : decode prog_32_method_16_code 7 = .ok (.bastore, 1) := by decide +kernel
theorem d5_8 : decode prog_32_method_16_code 8 = .ok (.aload_n 0, 1) := by decide +kernel
theorem d5_9 : decode prog_32_method_16_code 9 = .ok (.iload_n 1, 1) := by decide +kernel
theorem d5_10 : decode prog_32_method_16_code 10 = .ok (.iconst 1, 1) := by decide +kernel
theorem d5_11 : decode prog_32_method_16_code 11 = .ok (.iadd, 1) := by decide +kernel
theorem d5_12 : decode prog_32_method_16_code 12 = .ok (.iload_n 2, 1) := by decide +kernel
theorem d5_13 : decode prog_32_method_16_code 13 = .ok (.i2b, 1) := by decide +kernel
theorem d5_14 : decode prog_32_method_16_code 14 = .ok (.bastore, 1) := by decide +kernel
theorem d5_15 : decode prog_32_method_16_code 15 = .ok (.return_, 1) := by decide +kernel
theorem ef_5_4_1 (m : MethodId) (x0 : Addr) (x2 : Int32) : entryFrame m #[(.ref x0), (.int (9 : Int32)), (.int x2)] 3 = mkF m 0 #[.val (.ref x0), .val (.int (9 : Int32)), .val (.int x2)] [] := by first | (simp [entryFrame, mkF, argsToLocals, Value.category]; done) | rfl
def Q5_4_1 (Z : State) (o0 : Addr) (p2 : Int32) (k_o0 : ClassId) (u0 : Int32) (u1 : Int32) (u2 : Int32) (u3 : Int32) (u4 : Int32) (u5 : Int32) (u6 : Int32) (u7 : Int32) (u8 : Int32) (u9 : Int32) (u10 : Int32) (u11 : Int32) (u12 : Int32) (h0 : Heap) (n0 : Nat) (v : Option Value) (h : Heap) (L : List Loc) : Prop := v = none ∧ Fr n0 L ∧ Keep h0 h ([o0] : List Addr) ∧ Arv Z h o0 k_o0 .byte (13 : Int32) [(.int u0), (.int u1), (.int u2), (.int u3), (.int u4), (.int u5), (.int u6), (.int u7), (.int u8), (.int (nar .byte (((p2.toUInt32 >>> ((8 : Int32) &&& 31).toUInt32).toInt32).toInt8.toInt32))), (.int (nar .byte (p2.toInt8.toInt32))), (.int u11), (.int u12)] (.int (0 : Int32))
set_option maxRecDepth 65536 in
set_option maxHeartbeats 40000000 in
theorem rm5_4_1 (l : Launch) (Z : State) (a0 : Array Value) (hw : ∀ d ∈ tables_1, d.before a0 Z = true) (ws : List Jvm.Cond) (o0 : Addr) (p2 : Int32) (k_o0 : ClassId) (u0 : Int32) (u1 : Int32) (u2 : Int32) (u3 : Int32) (u4 : Int32) (u5 : Int32) (u6 : Int32) (u7 : Int32) (u8 : Int32) (u9 : Int32) (u10 : Int32) (u11 : Int32) (u12 : Int32) (h0 : Heap) (n0 : Nat) (Z0 : n0 ≤ h0.size) (V_o0 : Arv Z h0 o0 k_o0 .byte (13 : Int32) [(.int u0), (.int u1), (.int u2), (.int u3), (.int u4), (.int u5), (.int u6), (.int u7), (.int u8), (.int u9), (.int u10), (.int u11), (.int u12)] (.int (0 : Int32))) (g_o0 : n0 ≤ o0) :
    MetFree l (⟨"com/example/flomem/flomem/core/FlowKey", "putPort", "([BII)V"⟩ : MethodName) (head1 (Jvm.Cond.code (⟨"com/example/flomem/flomem/core/FlowKey", "putPort", "([BII)V"⟩ : MethodName) prog_32_method_16_code 3 none :: ws) ({ frames := 0, cells := 0, slots := 0, locals := 0 } : Room)) (fun a U => a = #[(.ref o0), (.int (9 : Int32)), (.int p2)] ∧ Z.Warmed39 U.vm ∧ U.heap = h0) (fun _ _ _ _ _ => True) (fun _ U o U' => ∃ v L, o = .returned v ∧ Q5_4_1 Z o0 p2 k_o0 u0 u1 u2 u3 u4 u5 u6 u7 u8 u9 u10 u11 u12 h0 n0 v U'.heap L ∧ FrameEnd U o U' L ({ frames := 0, cells := 0, slots := 0, locals := 0 } : Room).cells ({ frames := 0, cells := 0, slots := 0, locals := 0 } : Room).slots) := by
  refine MetFree.of_bodySF (plainFor_of_name (by first | (simp [plainName, overriddenIn]; done) | decide +kernel)) hisR ?_
  intro p e s m args below meth c s₁ Bd hml0 hP hK
  obtain ⟨rfl, hZ, hh⟩ := hP
  have hx := Bd.exec
  have hby := Bd.bytes
  have hml : c.maxLocals = 3 := hml0
  have hown : s.vm.findClass "com/example/flomem/flomem/core/FlowKey" = some m.cls := findClass_of_methodNamed Bd.named
  have hnm := (name_of_methodNamed Bd.named Bd.method).1
  have hlk := BodyLoose.notSynchronized Bd
  have X0 : Stand p l e ({ frames := 0, cells := 0, slots := 0, locals := 0 } : Room) s m #[(.ref o0), (.int (9 : Int32)), (.int p2)] below meth c s₁ [] 0 0 := Stand.of_body Bd
  have e0 : s₁.heap = h0 := by rw [← hh, Bd.state]; rfl
  have N0 := Fr.nil n0
  show Go p e below s (Q5_4_1 Z o0 p2 k_o0 u0 u1 u2 u3 u4 u5 u6 u7 u8 u9 u10 u11 u12 h0 n0) 0 0 (s₁.setTop (entryFrame m #[(.ref o0), (.int (9 : Int32)), (.int p2)] 3))
  rw [ef_5_4_1]
  show Go _ _ _ _ _ _ _ (s₁.setTop (mkF m 0 #[.val (.ref o0), .val (.int (9 : Int32)), .val (.int p2)] []))
  refine gob (fun _ k => XS.aloadN X0.here hx rfl (hb hby d5_0) rfl rfl k) ?_
  show Go _ _ _ _ _ _ _ (s₁.setTop (mkF m 1 #[.val (.ref o0), .val (.int (9 : Int32)), .val (.int p2)] [(.ref o0)]))
  refine gob (fun _ k => XS.iloadN X0.here hx rfl (hb hby d5_1) rfl k) ?_
  show Go _ _ _ _ _ _ _ (s₁.setTop (mkF m 2 #[.val (.ref o0), .val (.int (9 : Int32)), .val (.int p2)] [(.int (9 : Int32)), (.ref o0)]))
  refine gob (fun _ k => XS.iloadN X0.here hx rfl (hb hby d5_2) rfl k) ?_
  show Go _ _ _ _ _ _ _ (s₁.setTop (mkF m 3 #[.val (.ref o0), .val (.int (9 : Int32)), .val (.int p2)] [(.int p2), (.int (9 : Int32)), (.ref o0)]))
  refine gob (fun _ k => XS.bipush X0.here hx rfl (hb hby d5_3) k) ?_
  show Go _ _ _ _ _ _ _ (s₁.setTop (mkF m 5 #[.val (.ref o0), .val (.int (9 : Int32)), .val (.int p2)] [(.int (8 : Int32)), (.int p2), (.int (9 : Int32)), (.ref o0)]))
  refine gob (fun _ k => XS.iushr X0.here hx rfl (hb hby d5_5) rfl k) ?_
  show Go _ _ _ _ _ _ _ (s₁.setTop (mkF m 6 #[.val (.ref o0), .val (.int (9 : Int32)), .val (.int p2)] [(.int ((p2.toUInt32 >>> ((8 : Int32) &&& 31).toUInt32).toInt32)), (.int (9 : Int32)), (.ref o0)]))
  refine gob (fun _ k => XS.i2b X0.here hx rfl (hb hby d5_6) rfl k) ?_
  show Go _ _ _ _ _ _ _ (s₁.setTop (mkF m 7 #[.val (.ref o0), .val (.int (9 : Int32)), .val (.int p2)] [(.int (((p2.toUInt32 >>> ((8 : Int32) &&& 31).toUInt32).toInt32).toInt8.toInt32)), (.int (9 : Int32)), (.ref o0)]))
  obtain ⟨cl1, Ar1, aq1, S1, N1, H1, G1⟩ := id V_o0
  have hin1 : ¬ ((9 : Int32) < 0 ∨ cl1.slots.size ≤ ((9 : Int32)).toNatClampNeg) := inb_of S1 ⟨by decide, by decide⟩
  obtain ⟨T2, h2, X2, e2, W2, st2⟩ := stB X0 hx hZ e0 Ar1 (j := (9 : Int32)) hin1 (g := (mkF m 7 #[.val (.ref o0), .val (.int (9 : Int32)), .val (.int p2)] [(.int (((p2.toUInt32 >>> ((8 : Int32) &&& 31).toUInt32).toInt32).toInt8.toInt32)), (.int (9 : Int32)), (.ref o0)])) rfl rfl (hb hby d5_7)
  refine gob st2 ?_
  have z3 : n0 ≤ h2.size := Nat.le_trans Z0 (Keep.of_wr W2).1
  have N2 := Fr.snoc X2 N0 g_o0
  have K4 : Keep h0 h2 ([o0] : List Addr) := (Keep.refl h0 ([o0] : List Addr)).wr W2 (Or.inl (List.mem_of_getElem? (i := 0) rfl))
  have V2 : Arv Z h2 o0 k_o0 .byte (13 : Int32) [(.int u0), (.int u1), (.int u2), (.int u3), (.int u4), (.int u5), (.int u6), (.int u7), (.int u8), (.int (nar .byte (((p2.toUInt32 >>> ((8 : Int32) &&& 31).toUInt32).toInt32).toInt8.toInt32))), (.int u10), (.int u11), (.int u12)] (.int (0 : Int32)) := Arv.set Ar1 aq1 S1 N1 H1 G1 (fits_nar_byte _) W2 9 rfl (Nat.le_of_ble_eq_true rfl)
  show Go _ _ _ _ _ _ _ (T2.setTop (mkF m 8 #[.val (.ref o0), .val (.int (9 : Int32)), .val (.int p2)] []))
  refine gob (fun _ k => XS.aloadN X2.here hx rfl (hb hby d5_8) rfl rfl k) ?_
  show Go _ _ _ _ _ _ _ (T2.setTop (mkF m 9 #[.val (.ref o0), .val (.int (9 : Int32)), .val (.int p2)] [(.ref o0)]))
  refine gob (fun _ k => XS.iloadN X2.here hx rfl (hb hby d5_9) rfl k) ?_
  show Go _ _ _ _ _ _ _ (T2.setTop (mkF m 10 #[.val (.ref o0), .val (.int (9 : Int32)), .val (.int p2)] [(.int (9 : Int32)), (.ref o0)]))
  refine gob (fun _ k => XS.iconst X2.here hx rfl (hb hby d5_10) k) ?_
  show Go _ _ _ _ _ _ _ (T2.setTop (mkF m 11 #[.val (.ref o0), .val (.int (9 : Int32)), .val (.int p2)] [(.int (1 : Int32)), (.int (9 : Int32)), (.ref o0)]))
  refine gob (fun _ k => XS.iadd X2.here hx rfl (hb hby d5_11) rfl k) ?_
  show Go _ _ _ _ _ _ _ (T2.setTop (mkF m 12 #[.val (.ref o0), .val (.int (9 : Int32)), .val (.int p2)] [(.int (10 : Int32)), (.ref o0)]))
  refine gob (fun _ k => XS.iloadN X2.here hx rfl (hb hby d5_12) rfl k) ?_
  show Go _ _ _ _ _ _ _ (T2.setTop (mkF m 13 #[.val (.ref o0), .val (.int (9 : Int32)), .val (.int p2)] [(.int p2), (.int (10 : Int32)), (.ref o0)]))
  refine gob (fun _ k => XS.i2b X2.here hx rfl (hb hby d5_13) rfl k) ?_
  show Go _ _ _ _ _ _ _ (T2.setTop (mkF m 14 #[.val (.ref o0), .val (.int (9 : Int32)), .val (.int p2)] [(.int (p2.toInt8.toInt32)), (.int (10 : Int32)), (.ref o0)]))
  obtain ⟨cl5, Ar5, aq5, S5, N5, H5, G5⟩ := id V2
  have hin5 : ¬ ((10 : Int32) < 0 ∨ cl5.slots.size ≤ ((10 : Int32)).toNatClampNeg) := inb_of S5 ⟨by decide, by decide⟩
  obtain ⟨T6, h6, X6, e6, W6, st6⟩ := stB X2 hx hZ e2 Ar5 (j := (10 : Int32)) hin5 (g := (mkF m 14 #[.val (.ref o0), .val (.int (9 : Int32)), .val (.int p2)] [(.int (p2.toInt8.toInt32)), (.int (10 : Int32)), (.ref o0)])) rfl rfl (hb hby d5_14)
  refine gob st6 ?_
  have z7 : n0 ≤ h6.size := Nat.le_trans z3 (Keep.of_wr W6).1
  have N6 := Fr.snoc X6 N2 g_o0
  have K8 : Keep h0 h6 ([o0] : List Addr) := K4.wr W6 (Or.inl (List.mem_of_getElem? (i := 0) rfl))
  have V6 : Arv Z h6 o0 k_o0 .byte (13 : Int32) [(.int u0), (.int u1), (.int u2), (.int u3), (.int u4), (.int u5), (.int u6), (.int u7), (.int u8), (.int (nar .byte (((p2.toUInt32 >>> ((8 : Int32) &&& 31).toUInt32).toInt32).toInt8.toInt32))), (.int (nar .byte (p2.toInt8.toInt32))), (.int u11), (.int u12)] (.int (0 : Int32)) := Arv.set Ar5 aq5 S5 N5 H5 G5 (fits_nar_byte _) W6 10 rfl (Nat.le_of_ble_eq_true rfl)
  show Go _ _ _ _ _ _ _ (T6.setTop (mkF m 15 #[.val (.ref o0), .val (.int (9 : Int32)), .val (.int p2)] []))
  refine goV X6 hx hlk Bd.returns (hb hby d5_15) ?_ (by decide) (by decide)
  show Q5_4_1 Z o0 p2 k_o0 u0 u1 u2 u3 u4 u5 u6 u7 u8 u9 u10 u11 u12 h0 n0 (none) T6.heap _
  rw [e6]
  exact ⟨rfl, N6, K8, V6⟩
theorem ef_5_4_3 (m : MethodId) (x0 : Addr) (x2 : Int32) : entryFrame m #[(.ref x0), (.int (11 : Int32)), (.int x2)] 3 = mkF m 0 #[.val (.ref x0), .val (.int (11 : Int32)), .val (.int x2)] [] := by first | (simp [entryFrame, mkF, argsToLocals, Value.category]; done) | rfl
def Q5_4_3 (Z : State) (o0 : Addr) (p2 : Int32) (k_o0 : ClassId) (u0 : Int32) (u1 : Int32) (u2 : Int32) (u3 : Int32) (u4 : Int32) (u5 : Int32) (u6 : Int32) (u7 : Int32) (u8 : Int32) (u9 : Int32) (u10 : Int32) (u11 : Int32) (u12 : Int32) (h0 : Heap) (n0 : Nat) (v : Option Value) (h : Heap) (L : List Loc) : Prop := v = none ∧ Fr n0 L ∧ Keep h0 h ([o0] : List Addr) ∧ Arv Z h o0 k_o0 .byte (13 : Int32) [(.int u0), (.int u1), (.int u2), (.int u3), (.int u4), (.int u5), (.int u6), (.int u7), (.int u8), (.int u9), (.int u10), (.int (nar .byte (((p2.toUInt32 >>> ((8 : Int32) &&& 31).toUInt32).toInt32).toInt8.toInt32))), (.int (nar .byte (p2.toInt8.toInt32)))] (.int (0 : Int32))
set_option maxRecDepth 65536 in
set_option maxHeartbeats 40000000 in
theorem rm5_4_3 (l : Launch) (Z : State) (a0 : Array Value) (hw : ∀ d ∈ tables_1, d.before a0 Z = true) (ws : List Jvm.Cond) (o0 : Addr) (p2 : Int32) (k_o0 : ClassId) (u0 : Int32) (u1 : Int32) (u2 : Int32) (u3 : Int32) (u4 : Int32) (u5 : Int32) (u6 : Int32) (u7 : Int32) (u8 : Int32) (u9 : Int32) (u10 : Int32) (u11 : Int32) (u12 : Int32) (h0 : Heap) (n0 : Nat) (Z0 : n0 ≤ h0.size) (V_o0 : Arv Z h0 o0 k_o0 .byte (13 : Int32) [(.int u0), (.int u1), (.int u2), (.int u3), (.int u4), (.int u5), (.int u6), (.int u7), (.int u8), (.int u9), (.int u10), (.int u11), (.int u12)] (.int (0 : Int32))) (g_o0 : n0 ≤ o0) :
    MetFree l (⟨"com/example/flomem/flomem/core/FlowKey", "putPort", "([BII)V"⟩ : MethodName) (head1 (Jvm.Cond.code (⟨"com/example/flomem/flomem/core/FlowKey", "putPort", "([BII)V"⟩ : MethodName) prog_32_method_16_code 3 none :: ws) ({ frames := 0, cells := 0, slots := 0, locals := 0 } : Room)) (fun a U => a = #[(.ref o0), (.int (11 : Int32)), (.int p2)] ∧ Z.Warmed39 U.vm ∧ U.heap = h0) (fun _ _ _ _ _ => True) (fun _ U o U' => ∃ v L, o = .returned v ∧ Q5_4_3 Z o0 p2 k_o0 u0 u1 u2 u3 u4 u5 u6 u7 u8 u9 u10 u11 u12 h0 n0 v U'.heap L ∧ FrameEnd U o U' L ({ frames := 0, cells := 0, slots := 0, locals := 0 } : Room).cells ({ frames := 0, cells := 0, slots := 0, locals := 0 } : Room).slots) := by
  refine MetFree.of_bodySF (plainFor_of_name (by first | (simp [plainName, overriddenIn]; done) | decide +kernel)) hisR ?_
  intro p e s m args below meth c s₁ Bd hml0 hP hK
  obtain ⟨rfl, hZ, hh⟩ := hP
  have hx := Bd.exec
  have hby := Bd.bytes
  have hml : c.maxLocals = 3 := hml0
  have hown : s.vm.findClass "com/example/flomem/flomem/core/FlowKey" = some m.cls := findClass_of_methodNamed Bd.named
  have hnm := (name_of_methodNamed Bd.named Bd.method).1
  have hlk := BodyLoose.notSynchronized Bd
  have X0 : Stand p l e ({ frames := 0, cells := 0, slots := 0, locals := 0 } : Room) s m #[(.ref o0), (.int (11 : Int32)), (.int p2)] below meth c s₁ [] 0 0 := Stand.of_body Bd
  have e0 : s₁.heap = h0 := by rw [← hh, Bd.state]; rfl
  have N0 := Fr.nil n0
  show Go p e below s (Q5_4_3 Z o0 p2 k_o0 u0 u1 u2 u3 u4 u5 u6 u7 u8 u9 u10 u11 u12 h0 n0) 0 0 (s₁.setTop (entryFrame m #[(.ref o0), (.int (11 : Int32)), (.int p2)] 3))
  rw [ef_5_4_3]
  show Go _ _ _ _ _ _ _ (s₁.setTop (mkF m 0 #[.val (.ref o0), .val (.int (11 : Int32)), .val (.int p2)] []))
  refine gob (fun _ k => XS.aloadN X0.here hx rfl (hb hby d5_0) rfl rfl k) ?_
  show Go _ _ _ _ _ _ _ (s₁.setTop (mkF m 1 #[.val (.ref o0), .val (.int (11 : Int32)), .val (.int p2)] [(.ref o0)]))
  refine gob (fun _ k => XS.iloadN X0.here hx rfl (hb hby d5_1) rfl k) ?_
  show Go _ _ _ _ _ _ _ (s₁.setTop (mkF m 2 #[.val (.ref o0), .val (.int (11 : Int32)), .val (.int p2)] [(.int (11 : Int32)), (.ref o0)]))
  refine gob (fun _ k => XS.iloadN X0.here hx rfl (hb hby d5_2) rfl k) ?_
  show Go _ _ _ _ _ _ _ (s₁.setTop (mkF m 3 #[.val (.ref o0), .val (.int (11 : Int32)), .val (.int p2)] [(.int p2), (.int (11 : Int32)), (.ref o0)]))
  refine gob (fun _ k => XS.bipush X0.here hx rfl (hb hby d5_3) k) ?_
  show Go _ _ _ _ _ _ _ (s₁.setTop (mkF m 5 #[.val (.ref o0), .val (.int (11 : Int32)), .val (.int p2)] [(.int (8 : Int32)), (.int p2), (.int (11 : Int32)), (.ref o0)]))
  refine gob (fun _ k => XS.iushr X0.here hx rfl (hb hby d5_5) rfl k) ?_
  show Go _ _ _ _ _ _ _ (s₁.setTop (mkF m 6 #[.val (.ref o0), .val (.int (11 : Int32)), .val (.int p2)] [(.int ((p2.toUInt32 >>> ((8 : Int32) &&& 31).toUInt32).toInt32)), (.int (11 : Int32)), (.ref o0)]))
  refine gob (fun _ k => XS.i2b X0.here hx rfl (hb hby d5_6) rfl k) ?_
  show Go _ _ _ _ _ _ _ (s₁.setTop (mkF m 7 #[.val (.ref o0), .val (.int (11 : Int32)), .val (.int p2)] [(.int (((p2.toUInt32 >>> ((8 : Int32) &&& 31).toUInt32).toInt32).toInt8.toInt32)), (.int (11 : Int32)), (.ref o0)]))
  obtain ⟨cl1, Ar1, aq1, S1, N1, H1, G1⟩ := id V_o0
  have hin1 : ¬ ((11 : Int32) < 0 ∨ cl1.slots.size ≤ ((11 : Int32)).toNatClampNeg) := inb_of S1 ⟨by decide, by decide⟩
  obtain ⟨T2, h2, X2, e2, W2, st2⟩ := stB X0 hx hZ e0 Ar1 (j := (11 : Int32)) hin1 (g := (mkF m 7 #[.val (.ref o0), .val (.int (11 : Int32)), .val (.int p2)] [(.int (((p2.toUInt32 >>> ((8 : Int32) &&& 31).toUInt32).toInt32).toInt8.toInt32)), (.int (11 : Int32)), (.ref o0)])) rfl rfl (hb hby d5_7)
  refine gob st2 ?_
  have z3 : n0 ≤ h2.size := Nat.le_trans Z0 (Keep.of_wr W2).1
  have N2 := Fr.snoc X2 N0 g_o0
  have K4 : Keep h0 h2 ([o0] : List Addr) := (Keep.refl h0 ([o0] : List Addr)).wr W2 (Or.inl (List.mem_of_getElem? (i := 0) rfl))
  have V2 : Arv Z h2 o0 k_o0 .byte (13 : Int32) [(.int u0), (.int u1), (.int u2), (.int u3), (.int u4), (.int u5), (.int u6), (.int u7), (.int u8), (.int u9), (.int u10), (.int (nar .byte (((p2.toUInt32 >>> ((8 : Int32) &&& 31).toUInt32).toInt32).toInt8.toInt32))), (.int u12)] (.int (0 : Int32)) := Arv.set Ar1 aq1 S1 N1 H1 G1 (fits_nar_byte _) W2 11 rfl (Nat.le_of_ble_eq_true rfl)
  show Go _ _ _ _ _ _ _ (T2.setTop (mkF m 8 #[.val (.ref o0), .val (.int (11 : Int32)), .val (.int p2)] []))
  refine gob (fun _ k => XS.aloadN X2.here hx rfl (hb hby d5_8) rfl rfl k) ?_
  show Go _ _ _ _ _ _ _ (T2.setTop (mkF m 9 #[.val (.ref o0), .val (.int (11 : Int32)), .val (.int p2)] [(.ref o0)]))
  refine gob (fun _ k => XS.iloadN X2.here hx rfl (hb hby d5_9) rfl k) ?_
  show Go _ _ _ _ _ _ _ (T2.setTop (mkF m 10 #[.val (.ref o0), .val (.int (11 : Int32)), .val (.int p2)] [(.int (11 : Int32)), (.ref o0)]))
  refine gob (fun _ k => XS.iconst X2.here hx rfl (hb hby d5_10) k) ?_
  show Go _ _ _ _ _ _ _ (T2.setTop (mkF m 11 #[.val (.ref o0), .val (.int (11 : Int32)), .val (.int p2)] [(.int (1 : Int32)), (.int (11 : Int32)), (.ref o0)]))
  refine gob (fun _ k => XS.iadd X2.here hx rfl (hb hby d5_11) rfl k) ?_
  show Go _ _ _ _ _ _ _ (T2.setTop (mkF m 12 #[.val (.ref o0), .val (.int (11 : Int32)), .val (.int p2)] [(.int (12 : Int32)), (.ref o0)]))
  refine gob (fun _ k => XS.iloadN X2.here hx rfl (hb hby d5_12) rfl k) ?_
  show Go _ _ _ _ _ _ _ (T2.setTop (mkF m 13 #[.val (.ref o0), .val (.int (11 : Int32)), .val (.int p2)] [(.int p2), (.int (12 : Int32)), (.ref o0)]))
  refine gob (fun _ k => XS.i2b X2.here hx rfl (hb hby d5_13) rfl k) ?_
  show Go _ _ _ _ _ _ _ (T2.setTop (mkF m 14 #[.val (.ref o0), .val (.int (11 : Int32)), .val (.int p2)] [(.int (p2.toInt8.toInt32)), (.int (12 : Int32)), (.ref o0)]))
  obtain ⟨cl5, Ar5, aq5, S5, N5, H5, G5⟩ := id V2
  have hin5 : ¬ ((12 : Int32) < 0 ∨ cl5.slots.size ≤ ((12 : Int32)).toNatClampNeg) := inb_of S5 ⟨by decide, by decide⟩
  obtain ⟨T6, h6, X6, e6, W6, st6⟩ := stB X2 hx hZ e2 Ar5 (j := (12 : Int32)) hin5 (g := (mkF m 14 #[.val (.ref o0), .val (.int (11 : Int32)), .val (.int p2)] [(.int (p2.toInt8.toInt32)), (.int (12 : Int32)), (.ref o0)])) rfl rfl (hb hby d5_14)
  refine gob st6 ?_
  have z7 : n0 ≤ h6.size := Nat.le_trans z3 (Keep.of_wr W6).1
  have N6 := Fr.snoc X6 N2 g_o0
  have K8 : Keep h0 h6 ([o0] : List Addr) := K4.wr W6 (Or.inl (List.mem_of_getElem? (i := 0) rfl))
  have V6 : Arv Z h6 o0 k_o0 .byte (13 : Int32) [(.int u0), (.int u1), (.int u2), (.int u3), (.int u4), (.int u5), (.int u6), (.int u7), (.int u8), (.int u9), (.int u10), (.int (nar .byte (((p2.toUInt32 >>> ((8 : Int32) &&& 31).toUInt32).toInt32).toInt8.toInt32))), (.int (nar .byte (p2.toInt8.toInt32)))] (.int (0 : Int32)) := Arv.set Ar5 aq5 S5 N5 H5 G5 (fits_nar_byte _) W6 12 rfl (Nat.le_of_ble_eq_true rfl)
  show Go _ _ _ _ _ _ _ (T6.setTop (mkF m 15 #[.val (.ref o0), .val (.int (11 : Int32)), .val (.int p2)] []))
  refine goV X6 hx hlk Bd.returns (hb hby d5_15) ?_ (by decide) (by decide)
  show Q5_4_3 Z o0 p2 k_o0 u0 u1 u2 u3 u4 u5 u6 u7 u8 u9 u10 u11 u12 h0 n0 (none) T6.heap _
  rw [e6]
  exact ⟨rfl, N6, K8, V6⟩
theorem ef_5_16_1 (m : MethodId) (x0 : Addr) (x2 : Int32) : entryFrame m #[(.ref x0), (.int (33 : Int32)), (.int x2)] 3 = mkF m 0 #[.val (.ref x0), .val (.int (33 : Int32)), .val (.int x2)] [] := by first | (simp [entryFrame, mkF, argsToLocals, Value.category]; done) | rfl
def Q5_16_1 (Z : State) (o0 : Addr) (p2 : Int32) (k_o0 : ClassId) (u0 : Int32) (u1 : Int32) (u2 : Int32) (u3 : Int32) (u4 : Int32) (u5 : Int32) (u6 : Int32) (u7 : Int32) (u8 : Int32) (u9 : Int32) (u10 : Int32) (u11 : Int32) (u12 : Int32) (u13 : Int32) (u14 : Int32) (u15 : Int32) (u16 : Int32) (u17 : Int32) (u18 : Int32) (u19 : Int32) (u20 : Int32) (u21 : Int32) (u22 : Int32) (u23 : Int32) (u24 : Int32) (u25 : Int32) (u26 : Int32) (u27 : Int32) (u28 : Int32) (u29 : Int32) (u30 : Int32) (u31 : Int32) (u32 : Int32) (u33 : Int32) (u34 : Int32) (u35 : Int32) (u36 : Int32) (h0 : Heap) (n0 : Nat) (v : Option Value) (h : Heap) (L : List Loc) : Prop := v = none ∧ Fr n0 L ∧ Keep h0 h ([o0] : List Addr) ∧ Arv Z h o0 k_o0 .byte (37 : Int32) [(.int u0), (.int u1), (.int u2), (.int u3), (.int u4), (.int u5), (.int u6), (.int u7), (.int u8), (.int u9), (.int u10), (.int u11), (.int u12), (.int u13), (.int u14), (.int u15), (.int u16), (.int u17), (.int u18), (.int u19), (.int u20), (.int u21), (.int u22), (.int u23), (.int u24), (.int u25), (.int u26), (.int u27), (.int u28), (.int u29), (.int u30), (.int u31), (.int u32), (.int (nar .byte (((p2.toUInt32 >>> ((8 : Int32) &&& 31).toUInt32).toInt32).toInt8.toInt32))), (.int (nar .byte (p2.toInt8.toInt32))), (.int u35), (.int u36)] (.int (0 : Int32))
set_option maxRecDepth 65536 in
set_option maxHeartbeats 40000000 in
theorem rm5_16_1 (l : Launch) (Z : State) (a0 : Array Value) (hw : ∀ d ∈ tables_1, d.before a0 Z = true) (ws : List Jvm.Cond) (o0 : Addr) (p2 : Int32) (k_o0 : ClassId) (u0 : Int32) (u1 : Int32) (u2 : Int32) (u3 : Int32) (u4 : Int32) (u5 : Int32) (u6 : Int32) (u7 : Int32) (u8 : Int32) (u9 : Int32) (u10 : Int32) (u11 : Int32) (u12 : Int32) (u13 : Int32) (u14 : Int32) (u15 : Int32) (u16 : Int32) (u17 : Int32) (u18 : Int32) (u19 : Int32) (u20 : Int32) (u21 : Int32) (u22 : Int32) (u23 : Int32) (u24 : Int32) (u25 : Int32) (u26 : Int32) (u27 : Int32) (u28 : Int32) (u29 : Int32) (u30 : Int32) (u31 : Int32) (u32 : Int32) (u33 : Int32) (u34 : Int32) (u35 : Int32) (u36 : Int32) (h0 : Heap) (n0 : Nat) (Z0 : n0 ≤ h0.size) (V_o0 : Arv Z h0 o0 k_o0 .byte (37 : Int32) [(.int u0), (.int u1), (.int u2), (.int u3), (.int u4), (.int u5), (.int u6), (.int u7), (.int u8), (.int u9), (.int u10), (.int u11), (.int u12), (.int u13), (.int u14), (.int u15), (.int u16), (.int u17), (.int u18), (.int u19), (.int u20), (.int u21), (.int u22), (.int u23), (.int u24), (.int u25), (.int u26), (.int u27), (.int u28), (.int u29), (.int u30), (.int u31), (.int u32), (.int u33), (.int u34), (.int u35), (.int u36)] (.int (0 : Int32))) (g_o0 : n0 ≤ o0) :
    MetFree l (⟨"com/example/flomem/flomem/core/FlowKey", "putPort", "([BII)V"⟩ : MethodName) (head1 (Jvm.Cond.code (⟨"com/example/flomem/flomem/core/FlowKey", "putPort", "([BII)V"⟩ : MethodName) prog_32_method_16_code 3 none :: ws) ({ frames := 0, cells := 0, slots := 0, locals := 0 } : Room)) (fun a U => a = #[(.ref o0), (.int (33 : Int32)), (.int p2)] ∧ Z.Warmed39 U.vm ∧ U.heap = h0) (fun _ _ _ _ _ => True) (fun _ U o U' => ∃ v L, o = .returned v ∧ Q5_16_1 Z o0 p2 k_o0 u0 u1 u2 u3 u4 u5 u6 u7 u8 u9 u10 u11 u12 u13 u14 u15 u16 u17 u18 u19 u20 u21 u22 u23 u24 u25 u26 u27 u28 u29 u30 u31 u32 u33 u34 u35 u36 h0 n0 v U'.heap L ∧ FrameEnd U o U' L ({ frames := 0, cells := 0, slots := 0, locals := 0 } : Room).cells ({ frames := 0, cells := 0, slots := 0, locals := 0 } : Room).slots) := by
  refine MetFree.of_bodySF (plainFor_of_name (by first | (simp [plainName, overriddenIn]; done) | decide +kernel)) hisR ?_
  intro p e s m args below meth c s₁ Bd hml0 hP hK
  obtain ⟨rfl, hZ, hh⟩ := hP
  have hx := Bd.exec
  have hby := Bd.bytes
  have hml : c.maxLocals = 3 := hml0
  have hown : s.vm.findClass "com/example/flomem/flomem/core/FlowKey" = some m.cls := findClass_of_methodNamed Bd.named
  have hnm := (name_of_methodNamed Bd.named Bd.method).1
  have hlk := BodyLoose.notSynchronized Bd
  have X0 : Stand p l e ({ frames := 0, cells := 0, slots := 0, locals := 0 } : Room) s m #[(.ref o0), (.int (33 : Int32)), (.int p2)] below meth c s₁ [] 0 0 := Stand.of_body Bd
  have e0 : s₁.heap = h0 := by rw [← hh, Bd.state]; rfl
  have N0 := Fr.nil n0
  show Go p e below s (Q5_16_1 Z o0 p2 k_o0 u0 u1 u2 u3 u4 u5 u6 u7 u8 u9 u10 u11 u12 u13 u14 u15 u16 u17 u18 u19 u20 u21 u22 u23 u24 u25 u26 u27 u28 u29 u30 u31 u32 u33 u34 u35 u36 h0 n0) 0 0 (s₁.setTop (entryFrame m #[(.ref o0), (.int (33 : Int32)), (.int p2)] 3))
  rw [ef_5_16_1]
  show Go _ _ _ _ _ _ _ (s₁.setTop (mkF m 0 #[.val (.ref o0), .val (.int (33 : Int32)), .val (.int p2)] []))
  refine gob (fun _ k => XS.aloadN X0.here hx rfl (hb hby d5_0) rfl rfl k) ?_
  show Go _ _ _ _ _ _ _ (s₁.setTop (mkF m 1 #[.val (.ref o0), .val (.int (33 : Int32)), .val (.int p2)] [(.ref o0)]))
  refine gob (fun _ k => XS.iloadN X0.here hx rfl (hb hby d5_1) rfl k) ?_
  show Go _ _ _ _ _ _ _ (s₁.setTop (mkF m 2 #[.val (.ref o0), .val (.int (33 : Int32)), .val (.int p2)] [(.int (33 : Int32)), (.ref o0)]))
  refine gob (fun _ k => XS.iloadN X0.here hx rfl (hb hby d5_2) rfl k) ?_
  show Go _ _ _ _ _ _ _ (s₁.setTop (mkF m 3 #[.val (.ref o0), .val (.int (33 : Int32)), .val (.int p2)] [(.int p2), (.int (33 : Int32)), (.ref o0)]))
  refine gob (fun _ k => XS.bipush X0.here hx rfl (hb hby d5_3) k) ?_
  show Go _ _ _ _ _ _ _ (s₁.setTop (mkF m 5 #[.val (.ref o0), .val (.int (33 : Int32)), .val (.int p2)] [(.int (8 : Int32)), (.int p2), (.int (33 : Int32)), (.ref o0)]))
  refine gob (fun _ k => XS.iushr X0.here hx rfl (hb hby d5_5) rfl k) ?_
  show Go _ _ _ _ _ _ _ (s₁.setTop (mkF m 6 #[.val (.ref o0), .val (.int (33 : Int32)), .val (.int p2)] [(.int ((p2.toUInt32 >>> ((8 : Int32) &&& 31).toUInt32).toInt32)), (.int (33 : Int32)), (.ref o0)]))
  refine gob (fun _ k => XS.i2b X0.here hx rfl (hb hby d5_6) rfl k) ?_
  show Go _ _ _ _ _ _ _ (s₁.setTop (mkF m 7 #[.val (.ref o0), .val (.int (33 : Int32)), .val (.int p2)] [(.int (((p2.toUInt32 >>> ((8 : Int32) &&& 31).toUInt32).toInt32).toInt8.toInt32)), (.int (33 : Int32)), (.ref o0)]))
  obtain ⟨cl1, Ar1, aq1, S1, N1, H1, G1⟩ := id V_o0
  have hin1 : ¬ ((33 : Int32) < 0 ∨ cl1.slots.size ≤ ((33 : Int32)).toNatClampNeg) := inb_of S1 ⟨by decide, by decide⟩
  obtain ⟨T2, h2, X2, e2, W2, st2⟩ := stB X0 hx hZ e0 Ar1 (j := (33 : Int32)) hin1 (g := (mkF m 7 #[.val (.ref o0), .val (.int (33 : Int32)), .val (.int p2)] [(.int (((p2.toUInt32 >>> ((8 : Int32) &&& 31).toUInt32).toInt32).toInt8.toInt32)), (.int (33 : Int32)), (.ref o0)])) rfl rfl (hb hby d5_7)
  refine gob st2 ?_
  have z3 : n0 ≤ h2.size := Nat.le_trans Z0 (Keep.of_wr W2).1
  have N2 := Fr.snoc X2 N0 g_o0
  have K4 : Keep h0 h2 ([o0] : List Addr) := (Keep.refl h0 ([o0] : List Addr)).wr W2 (Or.inl (List.mem_of_getElem? (i := 0) rfl))
  have V2 : Arv Z h2 o0 k_o0 .byte (37 : Int32) [(.int u0), (.int u1), (.int u2), (.int u3), (.int u4), (.int u5), (.int u6), (.int u7), (.int u8), (.int u9), (.int u10), (.int u11), (.int u12), (.int u13), (.int u14), (.int u15), (.int u16), (.int u17), (.int u18), (.int u19), (.int u20), (.int u21), (.int u22), (.int u23), (.int u24), (.int u25), (.int u26), (.int u27), (.int u28), (.int u29), (.int u30), (.int u31), (.int u32), (.int (nar .byte (((p2.toUInt32 >>> ((8 : Int32) &&& 31).toUInt32).toInt32).toInt8.toInt32))), (.int u34), (.int u35), (.int u36)] (.int (0 : Int32)) := Arv.set Ar1 aq1 S1 N1 H1 G1 (fits_nar_byte _) W2 33 rfl (Nat.le_of_ble_eq_true rfl)
  show Go _ _ _ _ _ _ _ (T2.setTop (mkF m 8 #[.val (.ref o0), .val (.int (33 : Int32)), .val (.int p2)] []))
  refine gob (fun _ k => XS.aloadN X2.here hx rfl (hb hby d5_8) rfl rfl k) ?_
  show Go _ _ _ _ _ _ _ (T2.setTop (mkF m 9 #[.val (.ref o0), .val (.int (33 : Int32)), .val (.int p2)] [(.ref o0)]))
  refine gob (fun _ k => XS.iloadN X2.here hx rfl (hb hby d5_9) rfl k) ?_
  show Go _ _ _ _ _ _ _ (T2.setTop (mkF m 10 #[.val (.ref o0), .val (.int (33 : Int32)), .val (.int p2)] [(.int (33 : Int32)), (.ref o0)]))
  refine gob (fun _ k => XS.iconst X2.here hx rfl (hb hby d5_10) k) ?_
  show Go _ _ _ _ _ _ _ (T2.setTop (mkF m 11 #[.val (.ref o0), .val (.int (33 : Int32)), .val (.int p2)] [(.int (1 : Int32)), (.int (33 : Int32)), (.ref o0)]))
  refine gob (fun _ k => XS.iadd X2.here hx rfl (hb hby d5_11) rfl k) ?_
  show Go _ _ _ _ _ _ _ (T2.setTop (mkF m 12 #[.val (.ref o0), .val (.int (33 : Int32)), .val (.int p2)] [(.int (34 : Int32)), (.ref o0)]))
  refine gob (fun _ k => XS.iloadN X2.here hx rfl (hb hby d5_12) rfl k) ?_
  show Go _ _ _ _ _ _ _ (T2.setTop (mkF m 13 #[.val (.ref o0), .val (.int (33 : Int32)), .val (.int p2)] [(.int p2), (.int (34 : Int32)), (.ref o0)]))
  refine gob (fun _ k => XS.i2b X2.here hx rfl (hb hby d5_13) rfl k) ?_
  show Go _ _ _ _ _ _ _ (T2.setTop (mkF m 14 #[.val (.ref o0), .val (.int (33 : Int32)), .val (.int p2)] [(.int (p2.toInt8.toInt32)), (.int (34 : Int32)), (.ref o0)]))
  obtain ⟨cl5, Ar5, aq5, S5, N5, H5, G5⟩ := id V2
  have hin5 : ¬ ((34 : Int32) < 0 ∨ cl5.slots.size ≤ ((34 : Int32)).toNatClampNeg) := inb_of S5 ⟨by decide, by decide⟩
  obtain ⟨T6, h6, X6, e6, W6, st6⟩ := stB X2 hx hZ e2 Ar5 (j := (34 : Int32)) hin5 (g := (mkF m 14 #[.val (.ref o0), .val (.int (33 : Int32)), .val (.int p2)] [(.int (p2.toInt8.toInt32)), (.int (34 : Int32)), (.ref o0)])) rfl rfl (hb hby d5_14)
  refine gob st6 ?_
  have z7 : n0 ≤ h6.size := Nat.le_trans z3 (Keep.of_wr W6).1
  have N6 := Fr.snoc X6 N2 g_o0
  have K8 : Keep h0 h6 ([o0] : List Addr) := K4.wr W6 (Or.inl (List.mem_of_getElem? (i := 0) rfl))
  have V6 : Arv Z h6 o0 k_o0 .byte (37 : Int32) [(.int u0), (.int u1), (.int u2), (.int u3), (.int u4), (.int u5), (.int u6), (.int u7), (.int u8), (.int u9), (.int u10), (.int u11), (.int u12), (.int u13), (.int u14), (.int u15), (.int u16), (.int u17), (.int u18), (.int u19), (.int u20), (.int u21), (.int u22), (.int u23), (.int u24), (.int u25), (.int u26), (.int u27), (.int u28), (.int u29), (.int u30), (.int u31), (.int u32), (.int (nar .byte (((p2.toUInt32 >>> ((8 : Int32) &&& 31).toUInt32).toInt32).toInt8.toInt32))), (.int (nar .byte (p2.toInt8.toInt32))), (.int u35), (.int u36)] (.int (0 : Int32)) := Arv.set Ar5 aq5 S5 N5 H5 G5 (fits_nar_byte _) W6 34 rfl (Nat.le_of_ble_eq_true rfl)
  show Go _ _ _ _ _ _ _ (T6.setTop (mkF m 15 #[.val (.ref o0), .val (.int (33 : Int32)), .val (.int p2)] []))
  refine goV X6 hx hlk Bd.returns (hb hby d5_15) ?_ (by decide) (by decide)
  show Q5_16_1 Z o0 p2 k_o0 u0 u1 u2 u3 u4 u5 u6 u7 u8 u9 u10 u11 u12 u13 u14 u15 u16 u17 u18 u19 u20 u21 u22 u23 u24 u25 u26 u27 u28 u29 u30 u31 u32 u33 u34 u35 u36 h0 n0 (none) T6.heap _
  rw [e6]
  exact ⟨rfl, N6, K8, V6⟩
theorem ef_5_16_3 (m : MethodId) (x0 : Addr) (x2 : Int32) : entryFrame m #[(.ref x0), (.int (35 : Int32)), (.int x2)] 3 = mkF m 0 #[.val (.ref x0), .val (.int (35 : Int32)), .val (.int x2)] [] := by first | (simp [entryFrame, mkF, argsToLocals, Value.category]; done) | rfl
def Q5_16_3 (Z : State) (o0 : Addr) (p2 : Int32) (k_o0 : ClassId) (u0 : Int32) (u1 : Int32) (u2 : Int32) (u3 : Int32) (u4 : Int32) (u5 : Int32) (u6 : Int32) (u7 : Int32) (u8 : Int32) (u9 : Int32) (u10 : Int32) (u11 : Int32) (u12 : Int32) (u13 : Int32) (u14 : Int32) (u15 : Int32) (u16 : Int32) (u17 : Int32) (u18 : Int32) (u19 : Int32) (u20 : Int32) (u21 : Int32) (u22 : Int32) (u23 : Int32) (u24 : Int32) (u25 : Int32) (u26 : Int32) (u27 : Int32) (u28 : Int32) (u29 : Int32) (u30 : Int32) (u31 : Int32) (u32 : Int32) (u33 : Int32) (u34 : Int32) (u35 : Int32) (u36 : Int32) (h0 : Heap) (n0 : Nat) (v : Option Value) (h : Heap) (L : List Loc) : Prop := v = none ∧ Fr n0 L ∧ Keep h0 h ([o0] : List Addr) ∧ Arv Z h o0 k_o0 .byte (37 : Int32) [(.int u0), (.int u1), (.int u2), (.int u3), (.int u4), (.int u5), (.int u6), (.int u7), (.int u8), (.int u9), (.int u10), (.int u11), (.int u12), (.int u13), (.int u14), (.int u15), (.int u16), (.int u17), (.int u18), (.int u19), (.int u20), (.int u21), (.int u22), (.int u23), (.int u24), (.int u25), (.int u26), (.int u27), (.int u28), (.int u29), (.int u30), (.int u31), (.int u32), (.int u33), (.int u34), (.int (nar .byte (((p2.toUInt32 >>> ((8 : Int32) &&& 31).toUInt32).toInt32).toInt8.toInt32))), (.int (nar .byte (p2.toInt8.toInt32)))] (.int (0 : Int32))
set_option maxRecDepth 65536 in
set_option maxHeartbeats 40000000 in
theorem rm5_16_3 (l : Launch) (Z : State) (a0 : Array Value) (hw : ∀ d ∈ tables_1, d.before a0 Z = true) (ws : List Jvm.Cond) (o0 : Addr) (p2 : Int32) (k_o0 : ClassId) (u0 : Int32) (u1 : Int32) (u2 : Int32) (u3 : Int32) (u4 : Int32) (u5 : Int32) (u6 : Int32) (u7 : Int32) (u8 : Int32) (u9 : Int32) (u10 : Int32) (u11 : Int32) (u12 : Int32) (u13 : Int32) (u14 : Int32) (u15 : Int32) (u16 : Int32) (u17 : Int32) (u18 : Int32) (u19 : Int32) (u20 : Int32) (u21 : Int32) (u22 : Int32) (u23 : Int32) (u24 : Int32) (u25 : Int32) (u26 : Int32) (u27 : Int32) (u28 : Int32) (u29 : Int32) (u30 : Int32) (u31 : Int32) (u32 : Int32) (u33 : Int32) (u34 : Int32) (u35 : Int32) (u36 : Int32) (h0 : Heap) (n0 : Nat) (Z0 : n0 ≤ h0.size) (V_o0 : Arv Z h0 o0 k_o0 .byte (37 : Int32) [(.int u0), (.int u1), (.int u2), (.int u3), (.int u4), (.int u5), (.int u6), (.int u7), (.int u8), (.int u9), (.int u10), (.int u11), (.int u12), (.int u13), (.int u14), (.int u15), (.int u16), (.int u17), (.int u18), (.int u19), (.int u20), (.int u21), (.int u22), (.int u23), (.int u24), (.int u25), (.int u26), (.int u27), (.int u28), (.int u29), (.int u30), (.int u31), (.int u32), (.int u33), (.int u34), (.int u35), (.int u36)] (.int (0 : Int32))) (g_o0 : n0 ≤ o0) :
    MetFree l (⟨"com/example/flomem/flomem/core/FlowKey", "putPort", "([BII)V"⟩ : MethodName) (head1 (Jvm.Cond.code (⟨"com/example/flomem/flomem/core/FlowKey", "putPort", "([BII)V"⟩ : MethodName) prog_32_method_16_code 3 none :: ws) ({ frames := 0, cells := 0, slots := 0, locals := 0 } : Room)) (fun a U => a = #[(.ref o0), (.int (35 : Int32)), (.int p2)] ∧ Z.Warmed39 U.vm ∧ U.heap = h0) (fun _ _ _ _ _ => True) (fun _ U o U' => ∃ v L, o = .returned v ∧ Q5_16_3 Z o0 p2 k_o0 u0 u1 u2 u3 u4 u5 u6 u7 u8 u9 u10 u11 u12 u13 u14 u15 u16 u17 u18 u19 u20 u21 u22 u23 u24 u25 u26 u27 u28 u29 u30 u31 u32 u33 u34 u35 u36 h0 n0 v U'.heap L ∧ FrameEnd U o U' L ({ frames := 0, cells := 0, slots := 0, locals := 0 } : Room).cells ({ frames := 0, cells := 0, slots := 0, locals := 0 } : Room).slots) := by
  refine MetFree.of_bodySF (plainFor_of_name (by first | (simp [plainName, overriddenIn]; done) | decide +kernel)) hisR ?_
  intro p e s m args below meth c s₁ Bd hml0 hP hK
  obtain ⟨rfl, hZ, hh⟩ := hP
  have hx := Bd.exec
  have hby := Bd.bytes
  have hml : c.maxLocals = 3 := hml0
  have hown : s.vm.findClass "com/example/flomem/flomem/core/FlowKey" = some m.cls := findClass_of_methodNamed Bd.named
  have hnm := (name_of_methodNamed Bd.named Bd.method).1
  have hlk := BodyLoose.notSynchronized Bd
  have X0 : Stand p l e ({ frames := 0, cells := 0, slots := 0, locals := 0 } : Room) s m #[(.ref o0), (.int (35 : Int32)), (.int p2)] below meth c s₁ [] 0 0 := Stand.of_body Bd
  have e0 : s₁.heap = h0 := by rw [← hh, Bd.state]; rfl
  have N0 := Fr.nil n0
  show Go p e below s (Q5_16_3 Z o0 p2 k_o0 u0 u1 u2 u3 u4 u5 u6 u7 u8 u9 u10 u11 u12 u13 u14 u15 u16 u17 u18 u19 u20 u21 u22 u23 u24 u25 u26 u27 u28 u29 u30 u31 u32 u33 u34 u35 u36 h0 n0) 0 0 (s₁.setTop (entryFrame m #[(.ref o0), (.int (35 : Int32)), (.int p2)] 3))
  rw [ef_5_16_3]
  show Go _ _ _ _ _ _ _ (s₁.setTop (mkF m 0 #[.val (.ref o0), .val (.int (35 : Int32)), .val (.int p2)] []))
  refine gob (fun _ k => XS.aloadN X0.here hx rfl (hb hby d5_0) rfl rfl k) ?_
  show Go _ _ _ _ _ _ _ (s₁.setTop (mkF m 1 #[.val (.ref o0), .val (.int (35 : Int32)), .val (.int p2)] [(.ref o0)]))
  refine gob (fun _ k => XS.iloadN X0.here hx rfl (hb hby d5_1) rfl k) ?_
  show Go _ _ _ _ _ _ _ (s₁.setTop (mkF m 2 #[.val (.ref o0), .val (.int (35 : Int32)), .val (.int p2)] [(.int (35 : Int32)), (.ref o0)]))
  refine gob (fun _ k => XS.iloadN X0.here hx rfl (hb hby d5_2) rfl k) ?_
  show Go _ _ _ _ _ _ _ (s₁.setTop (mkF m 3 #[.val (.ref o0), .val (.int (35 : Int32)), .val (.int p2)] [(.int p2), (.int (35 : Int32)), (.ref o0)]))
  refine gob (fun _ k => XS.bipush X0.here hx rfl (hb hby d5_3) k) ?_
  show Go _ _ _ _ _ _ _ (s₁.setTop (mkF m 5 #[.val (.ref o0), .val (.int (35 : Int32)), .val (.int p2)] [(.int (8 : Int32)), (.int p2), (.int (35 : Int32)), (.ref o0)]))
  refine gob (fun _ k => XS.iushr X0.here hx rfl (hb hby d5_5) rfl k) ?_
  show Go _ _ _ _ _ _ _ (s₁.setTop (mkF m 6 #[.val (.ref o0), .val (.int (35 : Int32)), .val (.int p2)] [(.int ((p2.toUInt32 >>> ((8 : Int32) &&& 31).toUInt32).toInt32)), (.int (35 : Int32)), (.ref o0)]))
  refine gob (fun _ k => XS.i2b X0.here hx rfl (hb hby d5_6) rfl k) ?_
  show Go _ _ _ _ _ _ _ (s₁.setTop (mkF m 7 #[.val (.ref o0), .val (.int (35 : Int32)), .val (.int p2)] [(.int (((p2.toUInt32 >>> ((8 : Int32) &&& 31).toUInt32).toInt32).toInt8.toInt32)), (.int (35 : Int32)), (.ref o0)]))
  obtain ⟨cl1, Ar1, aq1, S1, N1, H1, G1⟩ := id V_o0
  have hin1 : ¬ ((35 : Int32) < 0 ∨ cl1.slots.size ≤ ((35 : Int32)).toNatClampNeg) := inb_of S1 ⟨by decide, by decide⟩
  obtain ⟨T2, h2, X2, e2, W2, st2⟩ := stB X0 hx hZ e0 Ar1 (j := (35 : Int32)) hin1 (g := (mkF m 7 #[.val (.ref o0), .val (.int (35 : Int32)), .val (.int p2)] [(.int (((p2.toUInt32 >>> ((8 : Int32) &&& 31).toUInt32).toInt32).toInt8.toInt32)), (.int (35 : Int32)), (.ref o0)])) rfl rfl (hb hby d5_7)
  refine gob st2 ?_
  have z3 : n0 ≤ h2.size := Nat.le_trans Z0 (Keep.of_wr W2).1
  have N2 := Fr.snoc X2 N0 g_o0
  have K4 : Keep h0 h2 ([o0] : List Addr) := (Keep.refl h0 ([o0] : List Addr)).wr W2 (Or.inl (List.mem_of_getElem? (i := 0) rfl))
  have V2 : Arv Z h2 o0 k_o0 .byte (37 : Int32) [(.int u0), (.int u1), (.int u2), (.int u3), (.int u4), (.int u5), (.int u6), (.int u7), (.int u8), (.int u9), (.int u10), (.int u11), (.int u12), (.int u13), (.int u14), (.int u15), (.int u16), (.int u17), (.int u18), (.int u19), (.int u20), (.int u21), (.int u22), (.int u23), (.int u24), (.int u25), (.int u26), (.int u27), (.int u28), (.int u29), (.int u30), (.int u31), (.int u32), (.int u33), (.int u34), (.int (nar .byte (((p2.toUInt32 >>> ((8 : Int32) &&& 31).toUInt32).toInt32).toInt8.toInt32))), (.int u36)] (.int (0 : Int32)) := Arv.set Ar1 aq1 S1 N1 H1 G1 (fits_nar_byte _) W2 35 rfl (Nat.le_of_ble_eq_true rfl)
  show Go _ _ _ _ _ _ _ (T2.setTop (mkF m 8 #[.val (.ref o0), .val (.int (35 : Int32)), .val (.int p2)] []))
  refine gob (fun _ k => XS.aloadN X2.here hx rfl (hb hby d5_8) rfl rfl k) ?_
  show Go _ _ _ _ _ _ _ (T2.setTop (mkF m 9 #[.val (.ref o0), .val (.int (35 : Int32)), .val (.int p2)] [(.ref o0)]))
  refine gob (fun _ k => XS.iloadN X2.here hx rfl (hb hby d5_9) rfl k) ?_
  show Go _ _ _ _ _ _ _ (T2.setTop (mkF m 10 #[.val (.ref o0), .val (.int (35 : Int32)), .val (.int p2)] [(.int (35 : Int32)), (.ref o0)]))
  refine gob (fun _ k => XS.iconst X2.here hx rfl (hb hby d5_10) k) ?_
  show Go _ _ _ _ _ _ _ (T2.setTop (mkF m 11 #[.val (.ref o0), .val (.int (35 : Int32)), .val (.int p2)] [(.int (1 : Int32)), (.int (35 : Int32)), (.ref o0)]))
  refine gob (fun _ k => XS.iadd X2.here hx rfl (hb hby d5_11) rfl k) ?_
  show Go _ _ _ _ _ _ _ (T2.setTop (mkF m 12 #[.val (.ref o0), .val (.int (35 : Int32)), .val (.int p2)] [(.int (36 : Int32)), (.ref o0)]))
  refine gob (fun _ k => XS.iloadN X2.here hx rfl (hb hby d5_12) rfl k) ?_
  show Go _ _ _ _ _ _ _ (T2.setTop (mkF m 13 #[.val (.ref o0), .val (.int (35 : Int32)), .val (.int p2)] [(.int p2), (.int (36 : Int32)), (.ref o0)]))
  refine gob (fun _ k => XS.i2b X2.here hx rfl (hb hby d5_13) rfl k) ?_
  show Go _ _ _ _ _ _ _ (T2.setTop (mkF m 14 #[.val (.ref o0), .val (.int (35 : Int32)), .val (.int p2)] [(.int (p2.toInt8.toInt32)), (.int (36 : Int32)), (.ref o0)]))
  obtain ⟨cl5, Ar5, aq5, S5, N5, H5, G5⟩ := id V2
  have hin5 : ¬ ((36 : Int32) < 0 ∨ cl5.slots.size ≤ ((36 : Int32)).toNatClampNeg) := inb_of S5 ⟨by decide, by decide⟩
  obtain ⟨T6, h6, X6, e6, W6, st6⟩ := stB X2 hx hZ e2 Ar5 (j := (36 : Int32)) hin5 (g := (mkF m 14 #[.val (.ref o0), .val (.int (35 : Int32)), .val (.int p2)] [(.int (p2.toInt8.toInt32)), (.int (36 : Int32)), (.ref o0)])) rfl rfl (hb hby d5_14)
  refine gob st6 ?_
  have z7 : n0 ≤ h6.size := Nat.le_trans z3 (Keep.of_wr W6).1
  have N6 := Fr.snoc X6 N2 g_o0
  have K8 : Keep h0 h6 ([o0] : List Addr) := K4.wr W6 (Or.inl (List.mem_of_getElem? (i := 0) rfl))
  have V6 : Arv Z h6 o0 k_o0 .byte (37 : Int32) [(.int u0), (.int u1), (.int u2), (.int u3), (.int u4), (.int u5), (.int u6), (.int u7), (.int u8), (.int u9), (.int u10), (.int u11), (.int u12), (.int u13), (.int u14), (.int u15), (.int u16), (.int u17), (.int u18), (.int u19), (.int u20), (.int u21), (.int u22), (.int u23), (.int u24), (.int u25), (.int u26), (.int u27), (.int u28), (.int u29), (.int u30), (.int u31), (.int u32), (.int u33), (.int u34), (.int (nar .byte (((p2.toUInt32 >>> ((8 : Int32) &&& 31).toUInt32).toInt32).toInt8.toInt32))), (.int (nar .byte (p2.toInt8.toInt32)))] (.int (0 : Int32)) := Arv.set Ar5 aq5 S5 N5 H5 G5 (fits_nar_byte _) W6 36 rfl (Nat.le_of_ble_eq_true rfl)
  show Go _ _ _ _ _ _ _ (T6.setTop (mkF m 15 #[.val (.ref o0), .val (.int (35 : Int32)), .val (.int p2)] []))
  refine goV X6 hx hlk Bd.returns (hb hby d5_15) ?_ (by decide) (by decide)
  show Q5_16_3 Z o0 p2 k_o0 u0 u1 u2 u3 u4 u5 u6 u7 u8 u9 u10 u11 u12 u13 u14 u15 u16 u17 u18 u19 u20 u21 u22 u23 u24 u25 u26 u27 u28 u29 u30 u31 u32 u33 u34 u35 u36 h0 n0 (none) T6.heap _
  rw [e6]
  exact ⟨rfl, N6, K8, V6⟩
theorem d1_0 : decode prog_32_method_1_code 0 = .ok (.aload_n 0, 1) := by decide +kernel
theorem d1_1 : decode prog_32_method_1_code 1 = .ok (.invokespecial 1, 3) := by decide +kernel
theorem d1_4 : decode prog_32_method_1_code 4 = .ok (.aload_n 1, 1) := by decide +kernel
theorem d1_5 : decode prog_32_method_1_code 5 = .ok (.ldc 7, 2) := by decide +kernel
theorem d1_7 : decode prog_32_method_1_code 7 = .ok (.invokestatic 9, 3) := by decide +kernel
theorem d1_10 : decode prog_32_method_1_code 10 = .ok (.pop, 1) := by decide +kernel
theorem d1_11 : decode prog_32_method_1_code 11 = .ok (.aload_n 2, 1) := by decide +kernel
theorem d1_12 : decode prog_32_method_1_code 12 = .ok (.ldc 15, 2) := by decide +kernel
theorem d1_14 : decode prog_32_method_1_code 14 = .ok (.invokestatic 9, 3) := by decide +kernel
theorem d1_17 : decode prog_32_method_1_code 17 = .ok (.pop, 1) := by decide +kernel
theorem d1_18 : decode prog_32_method_1_code 18 = .ok (.aload_n 1, 1) := by decide +kernel
theorem d1_19 : decode prog_32_method_1_code 19 = .ok (.arraylength, 1) := by decide +kernel
theorem d1_20 : decode prog_32_method_1_code 20 = .ok (.istore 6, 2) := by decide +kernel
theorem d1_22 : decode prog_32_method_1_code 22 = .ok (.iload 6, 2) := by decide +kernel
theorem d1_24 : decode prog_32_method_1_code 24 = .ok (.iconst 4, 1) := by decide +kernel
theorem d1_25 : decode prog_32_method_1_code 25 = .ok (.if_icmp .eq 25, 3) := by decide +kernel
theorem d1_28 : decode prog_32_method_1_code 28 = .ok (.iload 6, 2) := by decide +kernel
theorem d1_30 : decode prog_32_method_1_code 30 = .ok (.bipush 16, 2) := by decide +kernel
theorem d1_32 : decode prog_32_method_1_code 32 = .ok (.if_icmp .eq 18, 3) := by decide +kernel
theorem d1_35 : decode prog_32_method_1_code 35 = .ok (.new 19, 3) := by decide +kernel
theorem d1_38 : decode prog_32_method_1_code 38 = .ok (.dup, 1) := by decide +kernel
theorem d1_39 : decode prog_32_method_1_code 39 = .ok (.iload 6, 2) := by decide +kernel
theorem d1_46 : decode prog_32_method_1_code 46 = .ok (.invokespecial 25, 3) := by decide +kernel
theorem d1_49 : decode prog_32_method_1_code 49 = .ok (.athrow, 1) := by decide +kernel
theorem d1_50 : decode prog_32_method_1_code 50 = .ok (.aload_n 2, 1) := by decide +kernel
theorem d1_51 : decode prog_32_method_1_code 51 = .ok (.arraylength, 1) := by decide +kernel
theorem d1_52 : decode prog_32_method_1_code 52 = .ok (.iload 6, 2) := by decide +kernel
theorem d1_54 : decode prog_32_method_1_code 54 = .ok (.if_icmp .eq 20, 3) := by decide +kernel
theorem d1_57 : decode prog_32_method_1_code 57 = .ok (.new 19, 3) := by decide +kernel
theorem d1_60 : decode prog_32_method_1_code 60 = .ok (.dup, 1) := by decide +kernel
theorem d1_61 : decode prog_32_method_1_code 61 = .ok (.aload_n 2, 1) := by decide +kernel
theorem d1_62 : decode prog_32_method_1_code 62 = .ok (.arraylength, 1) := by decide +kernel
theorem d1_63 : decode prog_32_method_1_code 63 = .ok (.iload 6, 2) := by decide +kernel
theorem d1_70 : decode prog_32_method_1_code 70 = .ok (.invokespecial 25, 3) := by decide +kernel
theorem d1_73 : decode prog_32_method_1_code 73 = .ok (.athrow, 1) := by decide +kernel
theorem d1_74 : decode prog_32_method_1_code 74 = .ok (.ldc 31, 2) := by decide +kernel
theorem d1_76 : decode prog_32_method_1_code 76 = .ok (.iload_n 3, 1) := by decide +kernel
theorem d1_77 : decode prog_32_method_1_code 77 = .ok (.sipush 255, 3) := by decide +kernel
theorem d1_80 : decode prog_32_method_1_code 80 = .ok (.invokestatic 33, 3) := by decide +kernel
theorem d1_83 : decode prog_32_method_1_code 83 = .ok (.ldc 37, 2) := by decide +kernel
theorem d1_85 : decode prog_32_method_1_code 85 = .ok (.iload 4, 2) := by decide +kernel
theorem d1_87 : decode prog_32_method_1_code 87 = .ok (.ldc 39, 2) := by decide +kernel
theorem d1_89 : decode prog_32_method_1_code 89 = .ok (.invokestatic 33, 3) := by decide +kernel
theorem d1_92 : decode prog_32_method_1_code 92 = .ok (.ldc 40, 2) := by decide +kernel
theorem d1_94 : decode prog_32_method_1_code 94 = .ok (.iload 5, 2) := by decide +kernel
theorem d1_96 : decode prog_32_method_1_code 96 = .ok (.ldc 39, 2) := by decide +kernel
theorem d1_98 : decode prog_32_method_1_code 98 = .ok (.invokestatic 33, 3) := by decide +kernel
theorem d1_101 : decode prog_32_method_1_code 101 = .ok (.iconst 2, 1) := by decide +kernel
theorem d1_102 : decode prog_32_method_1_code 102 = .ok (.iload 6, 2) := by decide +kernel
theorem d1_104 : decode prog_32_method_1_code 104 = .ok (.imul, 1) := by decide +kernel
theorem d1_105 : decode prog_32_method_1_code 105 = .ok (.iconst 5, 1) := by decide +kernel
theorem d1_106 : decode prog_32_method_1_code 106 = .ok (.iadd, 1) := by decide +kernel
theorem d1_107 : decode prog_32_method_1_code 107 = .ok (.newarray .byte, 2) := by decide +kernel
theorem d1_109 : decode prog_32_method_1_code 109 = .ok (.astore 7, 2) := by decide +kernel
theorem d1_111 : decode prog_32_method_1_code 111 = .ok (.aload_n 1, 1) := by decide +kernel
theorem d1_112 : decode prog_32_method_1_code 112 = .ok (.iconst 0, 1) := by decide +kernel
theorem d1_113 : decode prog_32_method_1_code 113 = .ok (.aload 7, 2) := by decide +kernel
theorem d1_115 : decode prog_32_method_1_code 115 = .ok (.iconst 0, 1) := by decide +kernel
theorem d1_116 : decode prog_32_method_1_code 116 = .ok (.iload 6, 2) := by decide +kernel
theorem d1_118 : decode prog_32_method_1_code 118 = .ok (.invokestatic 42, 3) := by decide +kernel
theorem d1_121 : decode prog_32_method_1_code 121 = .ok (.aload_n 2, 1) := by decide +kernel
theorem d1_122 : decode prog_32_method_1_code 122 = .ok (.iconst 0, 1) := by decide +kernel
theorem d1_123 : decode prog_32_method_1_code 123 = .ok (.aload 7, 2) := by decide +kernel
theorem d1_125 : decode prog_32_method_1_code 125 = .ok (.iload 6, 2) := by decide +kernel
theorem d1_127 : decode prog_32_method_1_code 127 = .ok (.iload 6, 2) := by decide +kernel
theorem d1_129 : decode prog_32_method_1_code 129 = .ok (.invokestatic 42, 3) := by decide +kernel
theorem d1_132 : decode prog_32_method_1_code 132 = .ok (.iconst 2, 1) := by decide +kernel
theorem d1_133 : decode prog_32_method_1_code 133 = .ok (.iload 6, 2) := by decide +kernel
theorem d1_135 : decode prog_32_method_1_code 135 = .ok (.imul, 1) := by decide +kernel
theorem d1_136 : decode prog_32_method_1_code 136 = .ok (.istore 8, 2) := by decide +kernel
theorem d1_138 : decode prog_32_method_1_code 138 = .ok (.aload 7, 2) := by decide +kernel
theorem d1_140 : decode prog_32_method_1_code 140 = .ok (.iload 8, 2) := by decide +kernel
theorem d1_142 : decode prog_32_method_1_code 142 = .ok (.iconst 0, 1) := by decide +kernel
theorem d1_143 : decode prog_32_method_1_code 143 = .ok (.iadd, 1) := by decide +kernel
theorem d1_144 : decode prog_32_method_1_code 144 = .ok (.iload_n 3, 1) := by decide +kernel
theorem d1_145 : decode prog_32_method_1_code 145 = .ok (.i2b, 1) := by decide +kernel
theorem d1_146 : decode prog_32_method_1_code 146 = .ok (.bastore, 1) := by decide +kernel
theorem d1_147 : decode prog_32_method_1_code 147 = .ok (.aload 7, 2) := by decide +kernel
theorem d1_149 : decode prog_32_method_1_code 149 = .ok (.iload 8, 2) := by decide +kernel
theorem d1_151 : decode prog_32_method_1_code 151 = .ok (.iconst 1, 1) := by decide +kernel
theorem d1_152 : decode prog_32_method_1_code 152 = .ok (.iadd, 1) := by decide +kernel
theorem d1_153 : decode prog_32_method_1_code 153 = .ok (.iload 4, 2) := by decide +kernel
theorem d1_155 : decode prog_32_method_1_code 155 = .ok (.invokestatic 48, 3) := by decide +kernel
theorem d1_158 : decode prog_32_method_1_code 158 = .ok (.aload 7, 2) := by decide +kernel
theorem d1_160 : decode prog_32_method_1_code 160 = .ok (.iload 8, 2) := by decide +kernel
theorem d1_162 : decode prog_32_method_1_code 162 = .ok (.iconst 3, 1) := by decide +kernel
theorem d1_163 : decode prog_32_method_1_code 163 = .ok (.iadd, 1) := by decide +kernel
theorem d1_164 : decode prog_32_method_1_code 164 = .ok (.iload 5, 2) := by decide +kernel
theorem d1_166 : decode prog_32_method_1_code 166 = .ok (.invokestatic 48, 3) := by decide +kernel
theorem d1_169 : decode prog_32_method_1_code 169 = .ok (.aload_n 0, 1) := by decide +kernel
theorem d1_170 : decode prog_32_method_1_code 170 = .ok (.aload 7, 2) := by decide +kernel
theorem d1_172 : decode prog_32_method_1_code 172 = .ok (.putfield 52, 3) := by decide +kernel
theorem d1_175 : decode prog_32_method_1_code 175 = .ok (.return_, 1) := by decide +kernel
theorem pd_0 : parseMethodDescriptor "(Ljava/lang/Object;Ljava/lang/String;)Ljava/lang/Object;" = some ⟨[(.object "java/lang/Object"), (.object "java/lang/String")], some (.object "java/lang/Object")⟩ := by decide +kernel
theorem pd_1 : parseMethodDescriptor "(Ljava/lang/String;II)V" = some ⟨[(.object "java/lang/String"), .int, .int], none⟩ := by decide +kernel
theorem pd_2 : parseMethodDescriptor "([BII)V" = some ⟨[(.array .byte), .int, .int], none⟩ := by decide +kernel
theorem ef_1_4 (m : MethodId) (x0 : Addr) (x1 : Addr) (x2 : Addr) (x3 : Int32) (x4 : Int32) (x5 : Int32) : entryFrame m #[(.ref x0), (.ref x1), (.ref x2), (.int x3), (.int x4), (.int x5)] 9 = mkF m 0 #[.val (.ref x0), .val (.ref x1), .val (.ref x2), .val (.int x3), .val (.int x4), .val (.int x5), .unset, .unset, .unset] [] := by first | (simp [entryFrame, mkF, argsToLocals, Value.category]; done) | rfl
def Q1_4 (Z : State) (o0 : Addr) (o1 : Addr) (o2 : Addr) (p3 : Int32) (p4 : Int32) (p5 : Int32) (k_o1 : ClassId) (u0 : Int32) (u1 : Int32) (u2 : Int32) (u3 : Int32) (k_o2 : ClassId) (w0 : Int32) (w1 : Int32) (w2 : Int32) (w3 : Int32) (h0 : Heap) (n0 : Nat) (v : Option Value) (h : Heap) (L : List Loc) : Prop := ∃ b32 : Addr, ∃ k32 : ClassId, v = none ∧ Fr n0 L ∧ Keep h0 h ([o0] : List Addr) ∧ h0.size ≤ b32 ∧ Arv Z h b32 k32 .byte (13 : Int32) [(.int u0), (.int u1), (.int u2), (.int u3), (.int w0), (.int w1), (.int w2), (.int w3), (.int (nar .byte (p3.toInt8.toInt32))), (.int (nar .byte (((p4.toUInt32 >>> ((8 : Int32) &&& 31).toUInt32).toInt32).toInt8.toInt32))), (.int (nar .byte (p4.toInt8.toInt32))), (.int (nar .byte (((p5.toUInt32 >>> ((8 : Int32) &&& 31).toUInt32).toInt32).toInt8.toInt32))), (.int (nar .byte (p5.toInt8.toInt32)))] (.int (0 : Int32)) ∧ Fld Z h o0 "com/example/flomem/flomem/core/FlowKey" "encoded" "[B" (.ref b32)
set_option maxRecDepth 65536 in
set_option maxHeartbeats 40000000 in
theorem rm1_4 (l : Launch) (Z : State) (a0 : Array Value) (hw : ∀ d ∈ tables_1, d.before a0 Z = true) (ws : List Jvm.Cond) (o0 : Addr) (o1 : Addr) (o2 : Addr) (p3 : Int32) (p4 : Int32) (p5 : Int32) (k_o1 : ClassId) (u0 : Int32) (u1 : Int32) (u2 : Int32) (u3 : Int32) (k_o2 : ClassId) (w0 : Int32) (w1 : Int32) (w2 : Int32) (w3 : Int32) (h0 : Heap) (n0 : Nat) (Z0 : n0 ≤ h0.size) (E_o0 : Exa Z h0 o0 "com/example/flomem/flomem/core/FlowKey") (V_o1 : Arv Z h0 o1 k_o1 .byte (4 : Int32) [(.int u0), (.int u1), (.int u2), (.int u3)] (.int (0 : Int32))) (V_o2 : Arv Z h0 o2 k_o2 .byte (4 : Int32) [(.int w0), (.int w1), (.int w2), (.int w3)] (.int (0 : Int32))) (hp80_hf1 : ¬ (p3 < (0 : Int32))) (hp80_hf6 : ¬ ((255 : Int32) < p3)) (hp89_hf1 : ¬ (p4 < (0 : Int32))) (hp89_hf6 : ¬ ((65535 : Int32) < p4)) (hp98_hf1 : ¬ (p5 < (0 : Int32))) (hp98_hf6 : ¬ ((65535 : Int32) < p5)) (F_encoded_o0 : Fld Z h0 o0 "com/example/flomem/flomem/core/FlowKey" "encoded" "[B" .null) (g_o0 : n0 ≤ o0) :
    MetFree l (⟨"com/example/flomem/flomem/core/FlowKey", "<init>", "([B[BIII)V"⟩ : MethodName) (head1 (Jvm.Cond.code (⟨"com/example/flomem/flomem/core/FlowKey", "<init>", "([B[BIII)V"⟩ : MethodName) prog_32_method_1_code 9 none :: ws) ({ frames := 1, cells := 11, slots := 297, locals := 18 } : Room)) (fun a U => a = #[(.ref o0), (.ref o1), (.ref o2), (.int p3), (.int p4), (.int p5)] ∧ Z.Warmed39 U.vm ∧ U.heap = h0) (fun _ _ _ _ _ => True) (fun _ U o U' => ∃ v L, o = .returned v ∧ Q1_4 Z o0 o1 o2 p3 p4 p5 k_o1 u0 u1 u2 u3 k_o2 w0 w1 w2 w3 h0 n0 v U'.heap L ∧ ReturnedEndW U o U' L ({ frames := 1, cells := 11, slots := 297, locals := 18 } : Room).cells ({ frames := 1, cells := 11, slots := 297, locals := 18 } : Room).slots) := by
  refine MetFree.of_bodySF (plainFor_of_name (by first | (simp [plainName, overriddenIn]; done) | decide +kernel)) hisR ?_
  intro p e s m args below meth c s₁ Bd hml0 hP hK
  obtain ⟨rfl, hZ, hh⟩ := hP
  have hx := Bd.exec
  have hby := Bd.bytes
  have hml : c.maxLocals = 9 := hml0
  have hown : s.vm.findClass "com/example/flomem/flomem/core/FlowKey" = some m.cls := findClass_of_methodNamed Bd.named
  have hnm := (name_of_methodNamed Bd.named Bd.method).1
  have hlk := BodyLoose.notSynchronized Bd
  have X0 : Stand p l e ({ frames := 1, cells := 11, slots := 297, locals := 18 } : Room) s m #[(.ref o0), (.ref o1), (.ref o2), (.int p3), (.int p4), (.int p5)] below meth c s₁ [] 0 0 := Stand.of_body Bd
  have e0 : s₁.heap = h0 := by rw [← hh, Bd.state]; rfl
  have N0 := Fr.nil n0
  show GoW p e below s (Q1_4 Z o0 o1 o2 p3 p4 p5 k_o1 u0 u1 u2 u3 k_o2 w0 w1 w2 w3 h0 n0) 11 297 (s₁.setTop (entryFrame m #[(.ref o0), (.ref o1), (.ref o2), (.int p3), (.int p4), (.int p5)] 9))
  rw [ef_1_4]
  show GoW _ _ _ _ _ _ _ (s₁.setTop (mkF m 0 #[.val (.ref o0), .val (.ref o1), .val (.ref o2), .val (.int p3), .val (.int p4), .val (.int p5), .unset, .unset, .unset] []))
  refine gobW (fun _ k => XS.aloadN X0.here hx rfl (hb hby d1_0) rfl rfl k) ?_
  show GoW _ _ _ _ _ _ _ (s₁.setTop (mkF m 1 #[.val (.ref o0), .val (.ref o1), .val (.ref o2), .val (.int p3), .val (.int p4), .val (.int p5), .unset, .unset, .unset] [(.ref o0)]))
  obtain ⟨T1, X1, e1, st1⟩ := initO X0 hx hZ hown (hw _ (List.mem_of_getElem? (i := 8) rfl)) (hw _ (List.mem_of_getElem? (i := 9) rfl)) (hw _ (List.mem_of_getElem? (i := 10) rfl)) e0 (g := (mkF m 1 #[.val (.ref o0), .val (.ref o1), .val (.ref o2), .val (.int p3), .val (.int p4), .val (.int p5), .unset, .unset, .unset] [(.ref o0)])) rfl (by rw [hml]; rfl) rfl (hb hby d1_1) (by decide) (W := 0) (by show 2 * 0 + _ ≤ _; exact Nat.le_of_eq rfl) (by decide)
  refine gobW st1 ?_
  show GoW _ _ _ _ _ _ _ (T1.setTop (mkF m 4 #[.val (.ref o0), .val (.ref o1), .val (.ref o2), .val (.int p3), .val (.int p4), .val (.int p5), .unset, .unset, .unset] []))
  refine gobW (fun _ k => XS.aloadN X1.here hx rfl (hb hby d1_4) rfl rfl k) ?_
  show GoW _ _ _ _ _ _ _ (T1.setTop (mkF m 5 #[.val (.ref o0), .val (.ref o1), .val (.ref o2), .val (.int p3), .val (.int p4), .val (.int p5), .unset, .unset, .unset] [(.ref o1)]))
  have hS : s.Since s.vm h0.size := (State.WarmedH.refl s).since _
  obtain ⟨a2, T2, h2, kk2, X2, e2, E2, hS, hk2, hZ, hown, st2⟩ := ldcS (castW X1) hx hZ hown (hw _ (List.mem_of_getElem? (i := 11) rfl)) (own_str hw) e1 hS (Nat.le_refl _) (g := (mkF m 5 #[.val (.ref o0), .val (.ref o1), .val (.ref o2), .val (.int p3), .val (.int p4), .val (.int p5), .unset, .unset, .unset] [(.ref o1)])) rfl (hb hby d1_5) (n := 52) (by decide) (by decide) (by decide) (by decide)
  have z3 : n0 ≤ h2.size := Nat.le_trans Z0 E2.1
  have K4 : Keep h0 h2 ([o0] : List Addr) := (Keep.refl h0 ([o0] : List Addr)).ext E2
  replace X2 := castX X2 (rfl : _ = 2) (rfl : _ = 56)
  refine gobW st2 ?_
  show GoW _ _ _ _ _ _ _ (T2.setTop (mkF m 7 #[.val (.ref o0), .val (.ref o1), .val (.ref o2), .val (.int p3), .val (.int p4), .val (.int p5), .unset, .unset, .unset] [(.ref a2), (.ref o1)]))
  obtain ⟨_, _, ⟨T5, L5, k5, n5⟩, -, X5, ⟨Lc5, hQ5, l5, y5, z5⟩, st5⟩ := Jvm.LawKit.callS X2 hx (y := (⟨"java/util/Objects", "requireNonNull", "(Ljava/lang/Object;Ljava/lang/String;)Ljava/lang/Object;"⟩ : MethodName)) hown (mvT hZ (hw _ (List.mem_of_getElem? (i := 18) rfl))) (mvT hZ (hw _ (List.mem_of_getElem? (i := 19) rfl))) (mvT hZ (hw _ (List.mem_of_getElem? (i := 20) rfl))) (mvT hZ (hw _ (List.mem_of_getElem? (i := 21) rfl))) (by decide) (backOf (W := 0) (rm3 l Z a0 hw [] o1 a2 h2 n0 z3 ) hZ (hw _ (List.mem_of_getElem? (i := 21) rfl)) (hw _ (List.mem_of_getElem? (i := 20) rfl)) (by decide) (by decide)) (g := (mkF m 7 #[.val (.ref o0), .val (.ref o1), .val (.ref o2), .val (.int p3), .val (.int p4), .val (.int p5), .unset, .unset, .unset] [(.ref a2), (.ref o1)])) rfl (by rw [hml]; rfl) (argsL := [(.ref o1), (.ref a2)]) (rest := []) (lenOf pd_0 rfl) rfl (by show 2 * 0 + _ ≤ _; exact Nat.le_of_eq rfl) (hb hby d1_7) (fun _ _ => ⟨rfl, e2, (by decide : 2 + 0 ≤ _), (by decide : 56 + 0 ≤ _)⟩)
  dsimp only [Pt.U, Pt.locs, Pt.cells, Pt.slots] at X5 l5 y5 z5 st5 hQ5
  replace X5 := castX X5 (y5.trans (rfl : _ = 2)) (z5.trans (rfl : _ = 56))
  obtain ⟨rfl, Nq5, K5⟩ := hQ5
  have N5 : Fr n0 L5 := l5 ▸ Fr.app N0 Nq5
  have z6 : n0 ≤ T5.heap.size := Nat.le_trans z3 K5.1
  have kz7 : kk2 ≤ T5.heap.size := Nat.le_trans hk2 K5.1
  have K8 : Keep h0 T5.heap ([o0] : List Addr) := K4.trans K5 all0
  refine gobW st5 ?_
  show GoW _ _ _ _ _ _ _ (T5.setTop (mkF m 10 #[.val (.ref o0), .val (.ref o1), .val (.ref o2), .val (.int p3), .val (.int p4), .val (.int p5), .unset, .unset, .unset] [(.ref o1)]))
  refine gobW (fun _ k => XS.pop X5.here hx rfl (hb hby d1_10) rfl rfl k) ?_
  show GoW _ _ _ _ _ _ _ (T5.setTop (mkF m 11 #[.val (.ref o0), .val (.ref o1), .val (.ref o2), .val (.int p3), .val (.int p4), .val (.int p5), .unset, .unset, .unset] []))
  refine gobW (fun _ k => XS.aloadN X5.here hx rfl (hb hby d1_11) rfl rfl k) ?_
  show GoW _ _ _ _ _ _ _ (T5.setTop (mkF m 12 #[.val (.ref o0), .val (.ref o1), .val (.ref o2), .val (.int p3), .val (.int p4), .val (.int p5), .unset, .unset, .unset] [(.ref o2)]))
  obtain ⟨a9, T9, h9, kk9, X9, e9, E9, hS, hk9, hZ, hown, st9⟩ := ldcS X5 hx hZ hown (hw _ (List.mem_of_getElem? (i := 22) rfl)) (own_str hw) (rfl : T5.heap = _) hS kz7 (g := (mkF m 12 #[.val (.ref o0), .val (.ref o1), .val (.ref o2), .val (.int p3), .val (.int p4), .val (.int p5), .unset, .unset, .unset] [(.ref o2)])) rfl (hb hby d1_12) (n := 72) (by decide) (by decide) (by decide) (by decide)
  have z10 : n0 ≤ h9.size := Nat.le_trans z6 E9.1
  have K11 : Keep h0 h9 ([o0] : List Addr) := K8.ext E9
  replace X9 := castX X9 (rfl : _ = 4) (rfl : _ = 132)
  refine gobW st9 ?_
  show GoW _ _ _ _ _ _ _ (T9.setTop (mkF m 14 #[.val (.ref o0), .val (.ref o1), .val (.ref o2), .val (.int p3), .val (.int p4), .val (.int p5), .unset, .unset, .unset] [(.ref a9), (.ref o2)]))
  obtain ⟨_, _, ⟨T12, L12, k12, n12⟩, -, X12, ⟨Lc12, hQ12, l12, y12, z12⟩, st12⟩ := Jvm.LawKit.callS X9 hx (y := (⟨"java/util/Objects", "requireNonNull", "(Ljava/lang/Object;Ljava/lang/String;)Ljava/lang/Object;"⟩ : MethodName)) hown (mvT hZ (hw _ (List.mem_of_getElem? (i := 18) rfl))) (mvT hZ (hw _ (List.mem_of_getElem? (i := 19) rfl))) (mvT hZ (hw _ (List.mem_of_getElem? (i := 20) rfl))) (mvT hZ (hw _ (List.mem_of_getElem? (i := 21) rfl))) (by decide) (backOf (W := 0) (rm3 l Z a0 hw [] o2 a9 h9 n0 z10 ) hZ (hw _ (List.mem_of_getElem? (i := 21) rfl)) (hw _ (List.mem_of_getElem? (i := 20) rfl)) (by decide) (by decide)) (g := (mkF m 14 #[.val (.ref o0), .val (.ref o1), .val (.ref o2), .val (.int p3), .val (.int p4), .val (.int p5), .unset, .unset, .unset] [(.ref a9), (.ref o2)])) rfl (by rw [hml]; rfl) (argsL := [(.ref o2), (.ref a9)]) (rest := []) (lenOf pd_0 rfl) rfl (by show 2 * 0 + _ ≤ _; exact Nat.le_of_eq rfl) (hb hby d1_14) (fun _ _ => ⟨rfl, e9, (by decide : 4 + 0 ≤ _), (by decide : 132 + 0 ≤ _)⟩)
  dsimp only [Pt.U, Pt.locs, Pt.cells, Pt.slots] at X12 l12 y12 z12 st12 hQ12
  replace X12 := castX X12 (y12.trans (rfl : _ = 4)) (z12.trans (rfl : _ = 132))
  obtain ⟨rfl, Nq12, K12⟩ := hQ12
  have N12 : Fr n0 L12 := l12 ▸ Fr.app N5 Nq12
  have z13 : n0 ≤ T12.heap.size := Nat.le_trans z10 K12.1
  have kz14 : kk9 ≤ T12.heap.size := Nat.le_trans hk9 K12.1
  have K15 : Keep h0 T12.heap ([o0] : List Addr) := K11.trans K12 all0
  refine gobW st12 ?_
  show GoW _ _ _ _ _ _ _ (T12.setTop (mkF m 17 #[.val (.ref o0), .val (.ref o1), .val (.ref o2), .val (.int p3), .val (.int p4), .val (.int p5), .unset, .unset, .unset] [(.ref o2)]))
  refine gobW (fun _ k => XS.pop X12.here hx rfl (hb hby d1_17) rfl rfl k) ?_
  show GoW _ _ _ _ _ _ _ (T12.setTop (mkF m 18 #[.val (.ref o0), .val (.ref o1), .val (.ref o2), .val (.int p3), .val (.int p4), .val (.int p5), .unset, .unset, .unset] []))
  refine gobW (fun _ k => XS.aloadN X12.here hx rfl (hb hby d1_18) rfl rfl k) ?_
  show GoW _ _ _ _ _ _ _ (T12.setTop (mkF m 19 #[.val (.ref o0), .val (.ref o1), .val (.ref o2), .val (.int p3), .val (.int p4), .val (.int p5), .unset, .unset, .unset] [(.ref o1)]))
  have c17 := ((((V_o1.ext E2).keep K5 nin0).ext E9).keep K12 nin0)
  obtain ⟨cl16, Ar16, aq16, S16, N16, H16, G16⟩ := id c17
  refine gobW (X12.arraylength hx (by rw [(rfl : T12.heap = _)]; exact Ar16.1) (State.isArrayOf_alike hZ.alike Ar16.2.1) (g := (mkF m 19 #[.val (.ref o0), .val (.ref o1), .val (.ref o2), .val (.int p3), .val (.int p4), .val (.int p5), .unset, .unset, .unset] [(.ref o1)])) rfl rfl (hb hby d1_19)) ?_
  rw [len_of S16 N16]
  show GoW _ _ _ _ _ _ _ (T12.setTop (mkF m 20 #[.val (.ref o0), .val (.ref o1), .val (.ref o2), .val (.int p3), .val (.int p4), .val (.int p5), .unset, .unset, .unset] [(.int (4 : Int32))]))
  refine gobW (fun _ k => XS.istore X12.here hx rfl (hb hby d1_20) rfl (l' := #[.val (.ref o0), .val (.ref o1), .val (.ref o2), .val (.int p3), .val (.int p4), .val (.int p5), .val (.int (4 : Int32)), .unset, .unset]) rfl k) ?_
  show GoW _ _ _ _ _ _ _ (T12.setTop (mkF m 22 #[.val (.ref o0), .val (.ref o1), .val (.ref o2), .val (.int p3), .val (.int p4), .val (.int p5), .val (.int (4 : Int32)), .unset, .unset] []))
  refine gobW (fun _ k => XS.iload X12.here hx rfl (hb hby d1_22) rfl k) ?_
  show GoW _ _ _ _ _ _ _ (T12.setTop (mkF m 24 #[.val (.ref o0), .val (.ref o1), .val (.ref o2), .val (.int p3), .val (.int p4), .val (.int p5), .val (.int (4 : Int32)), .unset, .unset] [(.int (4 : Int32))]))
  refine gobW (fun _ k => XS.iconst X12.here hx rfl (hb hby d1_24) k) ?_
  show GoW _ _ _ _ _ _ _ (T12.setTop (mkF m 25 #[.val (.ref o0), .val (.ref o1), .val (.ref o2), .val (.int p3), .val (.int p4), .val (.int p5), .val (.int (4 : Int32)), .unset, .unset] [(.int (4 : Int32)), (.int (4 : Int32))]))
  refine gobW (fun _ k => XS.icmpYes X12.here hx rfl (pc0 := 25) (pc' := 50) rfl (hb hby d1_25) rfl (teq (by decide : (4 : Int32) = (4 : Int32))).1 (by decide) (by decide) k) ?_
  show GoW _ _ _ _ _ _ _ (T12.setTop (mkF m 50 #[.val (.ref o0), .val (.ref o1), .val (.ref o2), .val (.int p3), .val (.int p4), .val (.int p5), .val (.int (4 : Int32)), .unset, .unset] []))
  refine gobW (fun _ k => XS.aloadN X12.here hx rfl (hb hby d1_50) rfl rfl k) ?_
  show GoW _ _ _ _ _ _ _ (T12.setTop (mkF m 51 #[.val (.ref o0), .val (.ref o1), .val (.ref o2), .val (.int p3), .val (.int p4), .val (.int p5), .val (.int (4 : Int32)), .unset, .unset] [(.ref o2)]))
  have c19 := ((((V_o2.ext E2).keep K5 nin0).ext E9).keep K12 nin0)
  obtain ⟨cl18, Ar18, aq18, S18, N18, H18, G18⟩ := id c19
  refine gobW (X12.arraylength hx (by rw [(rfl : T12.heap = _)]; exact Ar18.1) (State.isArrayOf_alike hZ.alike Ar18.2.1) (g := (mkF m 51 #[.val (.ref o0), .val (.ref o1), .val (.ref o2), .val (.int p3), .val (.int p4), .val (.int p5), .val (.int (4 : Int32)), .unset, .unset] [(.ref o2)])) rfl rfl (hb hby d1_51)) ?_
  rw [len_of S18 N18]
  show GoW _ _ _ _ _ _ _ (T12.setTop (mkF m 52 #[.val (.ref o0), .val (.ref o1), .val (.ref o2), .val (.int p3), .val (.int p4), .val (.int p5), .val (.int (4 : Int32)), .unset, .unset] [(.int (4 : Int32))]))
  refine gobW (fun _ k => XS.iload X12.here hx rfl (hb hby d1_52) rfl k) ?_
  show GoW _ _ _ _ _ _ _ (T12.setTop (mkF m 54 #[.val (.ref o0), .val (.ref o1), .val (.ref o2), .val (.int p3), .val (.int p4), .val (.int p5), .val (.int (4 : Int32)), .unset, .unset] [(.int (4 : Int32)), (.int (4 : Int32))]))
  refine gobW (fun _ k => XS.icmpYes X12.here hx rfl (pc0 := 54) (pc' := 74) rfl (hb hby d1_54) rfl (teq (by decide : (4 : Int32) = (4 : Int32))).1 (by decide) (by decide) k) ?_
  show GoW _ _ _ _ _ _ _ (T12.setTop (mkF m 74 #[.val (.ref o0), .val (.ref o1), .val (.ref o2), .val (.int p3), .val (.int p4), .val (.int p5), .val (.int (4 : Int32)), .unset, .unset] []))
  obtain ⟨a20, T20, h20, kk20, X20, e20, E20, hS, hk20, hZ, hown, st20⟩ := ldcS X12 hx hZ hown (hw _ (List.mem_of_getElem? (i := 23) rfl)) (own_str hw) (rfl : T12.heap = _) hS kz14 (g := (mkF m 74 #[.val (.ref o0), .val (.ref o1), .val (.ref o2), .val (.int p3), .val (.int p4), .val (.int p5), .val (.int (4 : Int32)), .unset, .unset] [])) rfl (hb hby d1_74) (n := 32) (by decide) (by decide) (by decide) (by decide)
  have z21 : n0 ≤ h20.size := Nat.le_trans z13 E20.1
  have K22 : Keep h0 h20 ([o0] : List Addr) := K15.ext E20
  replace X20 := castX X20 (rfl : _ = 6) (rfl : _ = 168)
  refine gobW st20 ?_
  show GoW _ _ _ _ _ _ _ (T20.setTop (mkF m 76 #[.val (.ref o0), .val (.ref o1), .val (.ref o2), .val (.int p3), .val (.int p4), .val (.int p5), .val (.int (4 : Int32)), .unset, .unset] [(.ref a20)]))
  refine gobW (fun _ k => XS.iloadN X20.here hx rfl (hb hby d1_76) rfl k) ?_
  show GoW _ _ _ _ _ _ _ (T20.setTop (mkF m 77 #[.val (.ref o0), .val (.ref o1), .val (.ref o2), .val (.int p3), .val (.int p4), .val (.int p5), .val (.int (4 : Int32)), .unset, .unset] [(.int p3), (.ref a20)]))
  refine gobW (fun _ k => XS.sipush X20.here hx rfl (hb hby d1_77) k) ?_
  show GoW _ _ _ _ _ _ _ (T20.setTop (mkF m 80 #[.val (.ref o0), .val (.ref o1), .val (.ref o2), .val (.int p3), .val (.int p4), .val (.int p5), .val (.int (4 : Int32)), .unset, .unset] [(.int (255 : Int32)), (.int p3), (.ref a20)]))
  obtain ⟨_, _, ⟨T23, L23, k23, n23⟩, -, X23, ⟨Lc23, hQ23, l23, y23, z23⟩, st23⟩ := Jvm.LawKit.callS X20 hx (y := (⟨"com/example/flomem/flomem/core/FlowKey", "checkRange", "(Ljava/lang/String;II)V"⟩ : MethodName)) hown (mvT hZ (hw _ (List.mem_of_getElem? (i := 24) rfl))) (mvT hZ (hw _ (List.mem_of_getElem? (i := 25) rfl))) (mvT hZ (hw _ (List.mem_of_getElem? (i := 3) rfl))) (mvT hZ (hw _ (List.mem_of_getElem? (i := 26) rfl))) (by decide) (backOf (W := 0) (rm4 l Z a0 hw [] a20 p3 (255 : Int32) h20 n0 z21 hp80_hf1 hp80_hf6) hZ (hw _ (List.mem_of_getElem? (i := 26) rfl)) (hw _ (List.mem_of_getElem? (i := 3) rfl)) (by decide) (by decide)) (g := (mkF m 80 #[.val (.ref o0), .val (.ref o1), .val (.ref o2), .val (.int p3), .val (.int p4), .val (.int p5), .val (.int (4 : Int32)), .unset, .unset] [(.int (255 : Int32)), (.int p3), (.ref a20)])) rfl (by rw [hml]; rfl) (argsL := [(.ref a20), (.int p3), (.int (255 : Int32))]) (rest := []) (lenOf pd_1 rfl) rfl (by show 2 * 0 + _ ≤ _; exact Nat.le_of_eq rfl) (hb hby d1_80) (fun _ _ => ⟨rfl, e20, (by decide : 6 + 0 ≤ _), (by decide : 168 + 0 ≤ _)⟩)
  dsimp only [Pt.U, Pt.locs, Pt.cells, Pt.slots] at X23 l23 y23 z23 st23 hQ23
  replace X23 := castX X23 (y23.trans (rfl : _ = 6)) (z23.trans (rfl : _ = 168))
  obtain ⟨rfl, Nq23, e23⟩ := hQ23
  have N23 : Fr n0 L23 := l23 ▸ Fr.app N12 Nq23
  refine gobW st23 ?_
  show GoW _ _ _ _ _ _ _ (T23.setTop (mkF m 83 #[.val (.ref o0), .val (.ref o1), .val (.ref o2), .val (.int p3), .val (.int p4), .val (.int p5), .val (.int (4 : Int32)), .unset, .unset] []))
  obtain ⟨a24, T24, h24, kk24, X24, e24, E24, hS, hk24, hZ, hown, st24⟩ := ldcS X23 hx hZ hown (hw _ (List.mem_of_getElem? (i := 27) rfl)) (own_str hw) e23 hS hk20 (g := (mkF m 83 #[.val (.ref o0), .val (.ref o1), .val (.ref o2), .val (.int p3), .val (.int p4), .val (.int p5), .val (.int (4 : Int32)), .unset, .unset] [])) rfl (hb hby d1_83) (n := 44) (by decide) (by decide) (by decide) (by decide)
  have z25 : n0 ≤ h24.size := Nat.le_trans z21 E24.1
  have K26 : Keep h0 h24 ([o0] : List Addr) := K22.ext E24
  replace X24 := castX X24 (rfl : _ = 8) (rfl : _ = 216)
  refine gobW st24 ?_
  show GoW _ _ _ _ _ _ _ (T24.setTop (mkF m 85 #[.val (.ref o0), .val (.ref o1), .val (.ref o2), .val (.int p3), .val (.int p4), .val (.int p5), .val (.int (4 : Int32)), .unset, .unset] [(.ref a24)]))
  refine gobW (fun _ k => XS.iload X24.here hx rfl (hb hby d1_85) rfl k) ?_
  show GoW _ _ _ _ _ _ _ (T24.setTop (mkF m 87 #[.val (.ref o0), .val (.ref o1), .val (.ref o2), .val (.int p3), .val (.int p4), .val (.int p5), .val (.int (4 : Int32)), .unset, .unset] [(.int p4), (.ref a24)]))
  refine gobW (X24.ldcInt hx hown (mvT hZ (hw _ (List.mem_of_getElem? (i := 28) rfl))) (g := (mkF m 87 #[.val (.ref o0), .val (.ref o1), .val (.ref o2), .val (.int p3), .val (.int p4), .val (.int p5), .val (.int (4 : Int32)), .unset, .unset] [(.int p4), (.ref a24)])) rfl (hb hby d1_87)) ?_
  show GoW _ _ _ _ _ _ _ (T24.setTop (mkF m 89 #[.val (.ref o0), .val (.ref o1), .val (.ref o2), .val (.int p3), .val (.int p4), .val (.int p5), .val (.int (4 : Int32)), .unset, .unset] [(.int (65535 : Int32)), (.int p4), (.ref a24)]))
  obtain ⟨_, _, ⟨T27, L27, k27, n27⟩, -, X27, ⟨Lc27, hQ27, l27, y27, z27⟩, st27⟩ := Jvm.LawKit.callS X24 hx (y := (⟨"com/example/flomem/flomem/core/FlowKey", "checkRange", "(Ljava/lang/String;II)V"⟩ : MethodName)) hown (mvT hZ (hw _ (List.mem_of_getElem? (i := 24) rfl))) (mvT hZ (hw _ (List.mem_of_getElem? (i := 25) rfl))) (mvT hZ (hw _ (List.mem_of_getElem? (i := 3) rfl))) (mvT hZ (hw _ (List.mem_of_getElem? (i := 26) rfl))) (by decide) (backOf (W := 0) (rm4 l Z a0 hw [] a24 p4 (65535 : Int32) h24 n0 z25 hp89_hf1 hp89_hf6) hZ (hw _ (List.mem_of_getElem? (i := 26) rfl)) (hw _ (List.mem_of_getElem? (i := 3) rfl)) (by decide) (by decide)) (g := (mkF m 89 #[.val (.ref o0), .val (.ref o1), .val (.ref o2), .val (.int p3), .val (.int p4), .val (.int p5), .val (.int (4 : Int32)), .unset, .unset] [(.int (65535 : Int32)), (.int p4), (.ref a24)])) rfl (by rw [hml]; rfl) (argsL := [(.ref a24), (.int p4), (.int (65535 : Int32))]) (rest := []) (lenOf pd_1 rfl) rfl (by show 2 * 0 + _ ≤ _; exact Nat.le_of_eq rfl) (hb hby d1_89) (fun _ _ => ⟨rfl, e24, (by decide : 8 + 0 ≤ _), (by decide : 216 + 0 ≤ _)⟩)
  dsimp only [Pt.U, Pt.locs, Pt.cells, Pt.slots] at X27 l27 y27 z27 st27 hQ27
  replace X27 := castX X27 (y27.trans (rfl : _ = 8)) (z27.trans (rfl : _ = 216))
  obtain ⟨rfl, Nq27, e27⟩ := hQ27
  have N27 : Fr n0 L27 := l27 ▸ Fr.app N23 Nq27
  refine gobW st27 ?_
  show GoW _ _ _ _ _ _ _ (T27.setTop (mkF m 92 #[.val (.ref o0), .val (.ref o1), .val (.ref o2), .val (.int p3), .val (.int p4), .val (.int p5), .val (.int (4 : Int32)), .unset, .unset] []))
  obtain ⟨a28, T28, h28, kk28, X28, e28, E28, hS, hk28, hZ, hown, st28⟩ := ldcS X27 hx hZ hown (hw _ (List.mem_of_getElem? (i := 29) rfl)) (own_str hw) e27 hS hk24 (g := (mkF m 92 #[.val (.ref o0), .val (.ref o1), .val (.ref o2), .val (.int p3), .val (.int p4), .val (.int p5), .val (.int (4 : Int32)), .unset, .unset] [])) rfl (hb hby d1_92) (n := 64) (by decide) (by decide) (by decide) (by decide)
  have z29 : n0 ≤ h28.size := Nat.le_trans z25 E28.1
  have K30 : Keep h0 h28 ([o0] : List Addr) := K26.ext E28
  replace X28 := castX X28 (rfl : _ = 10) (rfl : _ = 284)
  refine gobW st28 ?_
  show GoW _ _ _ _ _ _ _ (T28.setTop (mkF m 94 #[.val (.ref o0), .val (.ref o1), .val (.ref o2), .val (.int p3), .val (.int p4), .val (.int p5), .val (.int (4 : Int32)), .unset, .unset] [(.ref a28)]))
  refine gobW (fun _ k => XS.iload X28.here hx rfl (hb hby d1_94) rfl k) ?_
  show GoW _ _ _ _ _ _ _ (T28.setTop (mkF m 96 #[.val (.ref o0), .val (.ref o1), .val (.ref o2), .val (.int p3), .val (.int p4), .val (.int p5), .val (.int (4 : Int32)), .unset, .unset] [(.int p5), (.ref a28)]))
  refine gobW (X28.ldcInt hx hown (mvT hZ (hw _ (List.mem_of_getElem? (i := 28) rfl))) (g := (mkF m 96 #[.val (.ref o0), .val (.ref o1), .val (.ref o2), .val (.int p3), .val (.int p4), .val (.int p5), .val (.int (4 : Int32)), .unset, .unset] [(.int p5), (.ref a28)])) rfl (hb hby d1_96)) ?_
  show GoW _ _ _ _ _ _ _ (T28.setTop (mkF m 98 #[.val (.ref o0), .val (.ref o1), .val (.ref o2), .val (.int p3), .val (.int p4), .val (.int p5), .val (.int (4 : Int32)), .unset, .unset] [(.int (65535 : Int32)), (.int p5), (.ref a28)]))
  obtain ⟨_, _, ⟨T31, L31, k31, n31⟩, -, X31, ⟨Lc31, hQ31, l31, y31, z31⟩, st31⟩ := Jvm.LawKit.callS X28 hx (y := (⟨"com/example/flomem/flomem/core/FlowKey", "checkRange", "(Ljava/lang/String;II)V"⟩ : MethodName)) hown (mvT hZ (hw _ (List.mem_of_getElem? (i := 24) rfl))) (mvT hZ (hw _ (List.mem_of_getElem? (i := 25) rfl))) (mvT hZ (hw _ (List.mem_of_getElem? (i := 3) rfl))) (mvT hZ (hw _ (List.mem_of_getElem? (i := 26) rfl))) (by decide) (backOf (W := 0) (rm4 l Z a0 hw [] a28 p5 (65535 : Int32) h28 n0 z29 hp98_hf1 hp98_hf6) hZ (hw _ (List.mem_of_getElem? (i := 26) rfl)) (hw _ (List.mem_of_getElem? (i := 3) rfl)) (by decide) (by decide)) (g := (mkF m 98 #[.val (.ref o0), .val (.ref o1), .val (.ref o2), .val (.int p3), .val (.int p4), .val (.int p5), .val (.int (4 : Int32)), .unset, .unset] [(.int (65535 : Int32)), (.int p5), (.ref a28)])) rfl (by rw [hml]; rfl) (argsL := [(.ref a28), (.int p5), (.int (65535 : Int32))]) (rest := []) (lenOf pd_1 rfl) rfl (by show 2 * 0 + _ ≤ _; exact Nat.le_of_eq rfl) (hb hby d1_98) (fun _ _ => ⟨rfl, e28, (by decide : 10 + 0 ≤ _), (by decide : 284 + 0 ≤ _)⟩)
  dsimp only [Pt.U, Pt.locs, Pt.cells, Pt.slots] at X31 l31 y31 z31 st31 hQ31
  replace X31 := castX X31 (y31.trans (rfl : _ = 10)) (z31.trans (rfl : _ = 284))
  obtain ⟨rfl, Nq31, e31⟩ := hQ31
  have N31 : Fr n0 L31 := l31 ▸ Fr.app N27 Nq31
  refine gobW st31 ?_
  show GoW _ _ _ _ _ _ _ (T31.setTop (mkF m 101 #[.val (.ref o0), .val (.ref o1), .val (.ref o2), .val (.int p3), .val (.int p4), .val (.int p5), .val (.int (4 : Int32)), .unset, .unset] []))
  refine gobW (fun _ k => XS.iconst X31.here hx rfl (hb hby d1_101) k) ?_
  show GoW _ _ _ _ _ _ _ (T31.setTop (mkF m 102 #[.val (.ref o0), .val (.ref o1), .val (.ref o2), .val (.int p3), .val (.int p4), .val (.int p5), .val (.int (4 : Int32)), .unset, .unset] [(.int (2 : Int32))]))
  refine gobW (fun _ k => XS.iload X31.here hx rfl (hb hby d1_102) rfl k) ?_
  show GoW _ _ _ _ _ _ _ (T31.setTop (mkF m 104 #[.val (.ref o0), .val (.ref o1), .val (.ref o2), .val (.int p3), .val (.int p4), .val (.int p5), .val (.int (4 : Int32)), .unset, .unset] [(.int (4 : Int32)), (.int (2 : Int32))]))
  refine gobW (fun _ k => XS.imul X31.here hx rfl (hb hby d1_104) rfl k) ?_
  show GoW _ _ _ _ _ _ _ (T31.setTop (mkF m 105 #[.val (.ref o0), .val (.ref o1), .val (.ref o2), .val (.int p3), .val (.int p4), .val (.int p5), .val (.int (4 : Int32)), .unset, .unset] [(.int (8 : Int32))]))
  refine gobW (fun _ k => XS.iconst X31.here hx rfl (hb hby d1_105) k) ?_
  show GoW _ _ _ _ _ _ _ (T31.setTop (mkF m 106 #[.val (.ref o0), .val (.ref o1), .val (.ref o2), .val (.int p3), .val (.int p4), .val (.int p5), .val (.int (4 : Int32)), .unset, .unset] [(.int (5 : Int32)), (.int (8 : Int32))]))
  refine gobW (fun _ k => XS.iadd X31.here hx rfl (hb hby d1_106) rfl k) ?_
  show GoW _ _ _ _ _ _ _ (T31.setTop (mkF m 107 #[.val (.ref o0), .val (.ref o1), .val (.ref o2), .val (.int p3), .val (.int p4), .val (.int p5), .val (.int (4 : Int32)), .unset, .unset] [(.int (13 : Int32))]))
  obtain ⟨T32, h32, k32, X32, e32, E32, A32, st32⟩ := newP X31 hx hZ (hw _ (List.mem_of_getElem? (i := 0) rfl)) e31 (g := (mkF m 107 #[.val (.ref o0), .val (.ref o1), .val (.ref o2), .val (.int p3), .val (.int p4), .val (.int p5), .val (.int (4 : Int32)), .unset, .unset] [(.int (13 : Int32))])) rfl (hb hby d1_107) rfl (by decide) (cap := 13) (by decide) (by decide) (by decide) (by decide)
  obtain ⟨b32, g32⟩ : ∃ z, z = h28.size := ⟨_, rfl⟩
  rw [← g32] at A32 st32
  have c33 := (((((((E_o0.ext E2).keep K5).ext E9).keep K12).ext E20).ext E24).ext E28)
  have n34 : o0 ≠ b32 := Nat.ne_of_lt (Nat.lt_of_lt_of_le c33.lt (Nat.le_of_eq g32.symm))
  have c35 := (((c17.ext E20).ext E24).ext E28)
  have n36 : o1 ≠ b32 := Nat.ne_of_lt (Nat.lt_of_lt_of_le c35.lt (Nat.le_of_eq g32.symm))
  have c37 := (((c19.ext E20).ext E24).ext E28)
  have n38 : o2 ≠ b32 := Nat.ne_of_lt (Nat.lt_of_lt_of_le c37.lt (Nat.le_of_eq g32.symm))
  have g39 : n0 ≤ b32 := Nat.le_trans z29 (Nat.le_of_eq g32.symm)
  have sz_b32 : h0.size ≤ b32 := Nat.le_trans K30.1 (Nat.le_of_eq g32.symm)
  have z40 : n0 ≤ h32.size := Nat.le_trans z29 E32.1
  have kz41 : kk28 ≤ h32.size := Nat.le_trans hk28 E32.1
  have K42 : Keep h0 h32 ([o0] : List Addr) := K30.ext E32
  have V32 : Arv Z h32 b32 k32 .byte (13 : Int32) [(.int (0 : Int32)), (.int (0 : Int32)), (.int (0 : Int32)), (.int (0 : Int32)), (.int (0 : Int32)), (.int (0 : Int32)), (.int (0 : Int32)), (.int (0 : Int32)), (.int (0 : Int32)), (.int (0 : Int32)), (.int (0 : Int32)), (.int (0 : Int32)), (.int (0 : Int32))] (.int (0 : Int32)) := (Arv.new A32 (by decide)).pad (pad_rep [] (.int (0 : Int32)) 13)
  refine gobW st32 ?_
  replace X32 := castX X32 (rfl : _ = 11) (rfl : _ = 297)
  show GoW _ _ _ _ _ _ _ (T32.setTop (mkF m 109 #[.val (.ref o0), .val (.ref o1), .val (.ref o2), .val (.int p3), .val (.int p4), .val (.int p5), .val (.int (4 : Int32)), .unset, .unset] [(.ref b32)]))
  refine gobW (fun _ k => XS.astore X32.here hx rfl (hb hby d1_109) rfl rfl (l' := #[.val (.ref o0), .val (.ref o1), .val (.ref o2), .val (.int p3), .val (.int p4), .val (.int p5), .val (.int (4 : Int32)), .val (.ref b32), .unset]) rfl k) ?_
  show GoW _ _ _ _ _ _ _ (T32.setTop (mkF m 111 #[.val (.ref o0), .val (.ref o1), .val (.ref o2), .val (.int p3), .val (.int p4), .val (.int p5), .val (.int (4 : Int32)), .val (.ref b32), .unset] []))
  refine gobW (fun _ k => XS.aloadN X32.here hx rfl (hb hby d1_111) rfl rfl k) ?_
  show GoW _ _ _ _ _ _ _ (T32.setTop (mkF m 112 #[.val (.ref o0), .val (.ref o1), .val (.ref o2), .val (.int p3), .val (.int p4), .val (.int p5), .val (.int (4 : Int32)), .val (.ref b32), .unset] [(.ref o1)]))
  refine gobW (fun _ k => XS.iconst X32.here hx rfl (hb hby d1_112) k) ?_
  show GoW _ _ _ _ _ _ _ (T32.setTop (mkF m 113 #[.val (.ref o0), .val (.ref o1), .val (.ref o2), .val (.int p3), .val (.int p4), .val (.int p5), .val (.int (4 : Int32)), .val (.ref b32), .unset] [(.int (0 : Int32)), (.ref o1)]))
  refine gobW (fun _ k => XS.aload X32.here hx rfl (hb hby d1_113) rfl rfl k) ?_
  show GoW _ _ _ _ _ _ _ (T32.setTop (mkF m 115 #[.val (.ref o0), .val (.ref o1), .val (.ref o2), .val (.int p3), .val (.int p4), .val (.int p5), .val (.int (4 : Int32)), .val (.ref b32), .unset] [(.ref b32), (.int (0 : Int32)), (.ref o1)]))
  refine gobW (fun _ k => XS.iconst X32.here hx rfl (hb hby d1_115) k) ?_
  show GoW _ _ _ _ _ _ _ (T32.setTop (mkF m 116 #[.val (.ref o0), .val (.ref o1), .val (.ref o2), .val (.int p3), .val (.int p4), .val (.int p5), .val (.int (4 : Int32)), .val (.ref b32), .unset] [(.int (0 : Int32)), (.ref b32), (.int (0 : Int32)), (.ref o1)]))
  refine gobW (fun _ k => XS.iload X32.here hx rfl (hb hby d1_116) rfl k) ?_
  show GoW _ _ _ _ _ _ _ (T32.setTop (mkF m 118 #[.val (.ref o0), .val (.ref o1), .val (.ref o2), .val (.int p3), .val (.int p4), .val (.int p5), .val (.int (4 : Int32)), .val (.ref b32), .unset] [(.int (4 : Int32)), (.int (0 : Int32)), (.ref b32), (.int (0 : Int32)), (.ref o1)]))
  have c44 := (c35.ext E32)
  obtain ⟨T43, h43, L43, X43, e43, N43, K43, A43, st43⟩ := cpA X32 hx hZ hown (hw _ (List.mem_of_getElem? (i := 30) rfl)) (hw _ (List.mem_of_getElem? (i := 33) rfl)) (hw _ (List.mem_of_getElem? (i := 31) rfl)) (hw _ (List.mem_of_getElem? (i := 32) rfl)) e32 c44 V32 (Or.inl ⟨rfl, rfl⟩) (sp := (0 : Int32)) (dp := (0 : Int32)) (nn := (4 : Int32)) (us := [(.int u0), (.int u1), (.int u2), (.int u3)]) (by decide) (by decide) (by decide) (by decide) (by decide) rfl (Nat.le_of_ble_eq_true rfl) N31 g39 (g := (mkF m 118 #[.val (.ref o0), .val (.ref o1), .val (.ref o2), .val (.int p3), .val (.int p4), .val (.int p5), .val (.int (4 : Int32)), .val (.ref b32), .unset] [(.int (4 : Int32)), (.int (0 : Int32)), (.ref b32), (.int (0 : Int32)), (.ref o1)])) rfl (by rw [hml]; rfl) rfl (hb hby d1_118) (by decide) (W := 0) (by show 2 * 0 + _ ≤ _; exact Nat.le_of_eq rfl) (by decide)
  have z45 : n0 ≤ h43.size := Nat.le_trans z40 K43.1
  have kz46 : kk28 ≤ h43.size := Nat.le_trans kz41 K43.1
  have K47 : Keep h0 h43 ([o0] : List Addr) := K42.trans K43 (allS (Or.inr sz_b32) all0)
  have V43 : Arv Z h43 b32 k32 .byte (13 : Int32) [(.int u0), (.int u1), (.int u2), (.int u3), (.int (0 : Int32)), (.int (0 : Int32)), (.int (0 : Int32)), (.int (0 : Int32)), (.int (0 : Int32)), (.int (0 : Int32)), (.int (0 : Int32)), (.int (0 : Int32)), (.int (0 : Int32))] (.int (0 : Int32)) := A43
  refine gobW st43 ?_
  show GoW _ _ _ _ _ _ _ (T43.setTop (mkF m 121 #[.val (.ref o0), .val (.ref o1), .val (.ref o2), .val (.int p3), .val (.int p4), .val (.int p5), .val (.int (4 : Int32)), .val (.ref b32), .unset] []))
  refine gobW (fun _ k => XS.aloadN X43.here hx rfl (hb hby d1_121) rfl rfl k) ?_
  show GoW _ _ _ _ _ _ _ (T43.setTop (mkF m 122 #[.val (.ref o0), .val (.ref o1), .val (.ref o2), .val (.int p3), .val (.int p4), .val (.int p5), .val (.int (4 : Int32)), .val (.ref b32), .unset] [(.ref o2)]))
  refine gobW (fun _ k => XS.iconst X43.here hx rfl (hb hby d1_122) k) ?_
  show GoW _ _ _ _ _ _ _ (T43.setTop (mkF m 123 #[.val (.ref o0), .val (.ref o1), .val (.ref o2), .val (.int p3), .val (.int p4), .val (.int p5), .val (.int (4 : Int32)), .val (.ref b32), .unset] [(.int (0 : Int32)), (.ref o2)]))
  refine gobW (fun _ k => XS.aload X43.here hx rfl (hb hby d1_123) rfl rfl k) ?_
  show GoW _ _ _ _ _ _ _ (T43.setTop (mkF m 125 #[.val (.ref o0), .val (.ref o1), .val (.ref o2), .val (.int p3), .val (.int p4), .val (.int p5), .val (.int (4 : Int32)), .val (.ref b32), .unset] [(.ref b32), (.int (0 : Int32)), (.ref o2)]))
  refine gobW (fun _ k => XS.iload X43.here hx rfl (hb hby d1_125) rfl k) ?_
  show GoW _ _ _ _ _ _ _ (T43.setTop (mkF m 127 #[.val (.ref o0), .val (.ref o1), .val (.ref o2), .val (.int p3), .val (.int p4), .val (.int p5), .val (.int (4 : Int32)), .val (.ref b32), .unset] [(.int (4 : Int32)), (.ref b32), (.int (0 : Int32)), (.ref o2)]))
  refine gobW (fun _ k => XS.iload X43.here hx rfl (hb hby d1_127) rfl k) ?_
  show GoW _ _ _ _ _ _ _ (T43.setTop (mkF m 129 #[.val (.ref o0), .val (.ref o1), .val (.ref o2), .val (.int p3), .val (.int p4), .val (.int p5), .val (.int (4 : Int32)), .val (.ref b32), .unset] [(.int (4 : Int32)), (.int (4 : Int32)), (.ref b32), (.int (0 : Int32)), (.ref o2)]))
  have c49 := ((c37.ext E32).keep K43 (ninS n38 nin0))
  obtain ⟨T48, h48, L48, X48, e48, N48, K48, A48, st48⟩ := cpA X43 hx hZ hown (hw _ (List.mem_of_getElem? (i := 30) rfl)) (hw _ (List.mem_of_getElem? (i := 33) rfl)) (hw _ (List.mem_of_getElem? (i := 31) rfl)) (hw _ (List.mem_of_getElem? (i := 32) rfl)) e43 c49 V43 (Or.inl ⟨rfl, rfl⟩) (sp := (0 : Int32)) (dp := (4 : Int32)) (nn := (4 : Int32)) (us := [(.int w0), (.int w1), (.int w2), (.int w3)]) (by decide) (by decide) (by decide) (by decide) (by decide) rfl (Nat.le_of_ble_eq_true rfl) N43 g39 (g := (mkF m 129 #[.val (.ref o0), .val (.ref o1), .val (.ref o2), .val (.int p3), .val (.int p4), .val (.int p5), .val (.int (4 : Int32)), .val (.ref b32), .unset] [(.int (4 : Int32)), (.int (4 : Int32)), (.ref b32), (.int (0 : Int32)), (.ref o2)])) rfl (by rw [hml]; rfl) rfl (hb hby d1_129) (by decide) (W := 0) (by show 2 * 0 + _ ≤ _; exact Nat.le_of_eq rfl) (by decide)
  have z50 : n0 ≤ h48.size := Nat.le_trans z45 K48.1
  have kz51 : kk28 ≤ h48.size := Nat.le_trans kz46 K48.1
  have K52 : Keep h0 h48 ([o0] : List Addr) := K47.trans K48 (allS (Or.inr sz_b32) all0)
  have V48 : Arv Z h48 b32 k32 .byte (13 : Int32) [(.int u0), (.int u1), (.int u2), (.int u3), (.int w0), (.int w1), (.int w2), (.int w3), (.int (0 : Int32)), (.int (0 : Int32)), (.int (0 : Int32)), (.int (0 : Int32)), (.int (0 : Int32))] (.int (0 : Int32)) := A48
  refine gobW st48 ?_
  show GoW _ _ _ _ _ _ _ (T48.setTop (mkF m 132 #[.val (.ref o0), .val (.ref o1), .val (.ref o2), .val (.int p3), .val (.int p4), .val (.int p5), .val (.int (4 : Int32)), .val (.ref b32), .unset] []))
  refine gobW (fun _ k => XS.iconst X48.here hx rfl (hb hby d1_132) k) ?_
  show GoW _ _ _ _ _ _ _ (T48.setTop (mkF m 133 #[.val (.ref o0), .val (.ref o1), .val (.ref o2), .val (.int p3), .val (.int p4), .val (.int p5), .val (.int (4 : Int32)), .val (.ref b32), .unset] [(.int (2 : Int32))]))
  refine gobW (fun _ k => XS.iload X48.here hx rfl (hb hby d1_133) rfl k) ?_
  show GoW _ _ _ _ _ _ _ (T48.setTop (mkF m 135 #[.val (.ref o0), .val (.ref o1), .val (.ref o2), .val (.int p3), .val (.int p4), .val (.int p5), .val (.int (4 : Int32)), .val (.ref b32), .unset] [(.int (4 : Int32)), (.int (2 : Int32))]))
  refine gobW (fun _ k => XS.imul X48.here hx rfl (hb hby d1_135) rfl k) ?_
  show GoW _ _ _ _ _ _ _ (T48.setTop (mkF m 136 #[.val (.ref o0), .val (.ref o1), .val (.ref o2), .val (.int p3), .val (.int p4), .val (.int p5), .val (.int (4 : Int32)), .val (.ref b32), .unset] [(.int (8 : Int32))]))
  refine gobW (fun _ k => XS.istore X48.here hx rfl (hb hby d1_136) rfl (l' := #[.val (.ref o0), .val (.ref o1), .val (.ref o2), .val (.int p3), .val (.int p4), .val (.int p5), .val (.int (4 : Int32)), .val (.ref b32), .val (.int (8 : Int32))]) rfl k) ?_
  show GoW _ _ _ _ _ _ _ (T48.setTop (mkF m 138 #[.val (.ref o0), .val (.ref o1), .val (.ref o2), .val (.int p3), .val (.int p4), .val (.int p5), .val (.int (4 : Int32)), .val (.ref b32), .val (.int (8 : Int32))] []))
  refine gobW (fun _ k => XS.aload X48.here hx rfl (hb hby d1_138) rfl rfl k) ?_
  show GoW _ _ _ _ _ _ _ (T48.setTop (mkF m 140 #[.val (.ref o0), .val (.ref o1), .val (.ref o2), .val (.int p3), .val (.int p4), .val (.int p5), .val (.int (4 : Int32)), .val (.ref b32), .val (.int (8 : Int32))] [(.ref b32)]))
  refine gobW (fun _ k => XS.iload X48.here hx rfl (hb hby d1_140) rfl k) ?_
  show GoW _ _ _ _ _ _ _ (T48.setTop (mkF m 142 #[.val (.ref o0), .val (.ref o1), .val (.ref o2), .val (.int p3), .val (.int p4), .val (.int p5), .val (.int (4 : Int32)), .val (.ref b32), .val (.int (8 : Int32))] [(.int (8 : Int32)), (.ref b32)]))
  refine gobW (fun _ k => XS.iconst X48.here hx rfl (hb hby d1_142) k) ?_
  show GoW _ _ _ _ _ _ _ (T48.setTop (mkF m 143 #[.val (.ref o0), .val (.ref o1), .val (.ref o2), .val (.int p3), .val (.int p4), .val (.int p5), .val (.int (4 : Int32)), .val (.ref b32), .val (.int (8 : Int32))] [(.int (0 : Int32)), (.int (8 : Int32)), (.ref b32)]))
  refine gobW (fun _ k => XS.iadd X48.here hx rfl (hb hby d1_143) rfl k) ?_
  show GoW _ _ _ _ _ _ _ (T48.setTop (mkF m 144 #[.val (.ref o0), .val (.ref o1), .val (.ref o2), .val (.int p3), .val (.int p4), .val (.int p5), .val (.int (4 : Int32)), .val (.ref b32), .val (.int (8 : Int32))] [(.int (8 : Int32)), (.ref b32)]))
  refine gobW (fun _ k => XS.iloadN X48.here hx rfl (hb hby d1_144) rfl k) ?_
  show GoW _ _ _ _ _ _ _ (T48.setTop (mkF m 145 #[.val (.ref o0), .val (.ref o1), .val (.ref o2), .val (.int p3), .val (.int p4), .val (.int p5), .val (.int (4 : Int32)), .val (.ref b32), .val (.int (8 : Int32))] [(.int p3), (.int (8 : Int32)), (.ref b32)]))
  refine gobW (fun _ k => XS.i2b X48.here hx rfl (hb hby d1_145) rfl k) ?_
  show GoW _ _ _ _ _ _ _ (T48.setTop (mkF m 146 #[.val (.ref o0), .val (.ref o1), .val (.ref o2), .val (.int p3), .val (.int p4), .val (.int p5), .val (.int (4 : Int32)), .val (.ref b32), .val (.int (8 : Int32))] [(.int (p3.toInt8.toInt32)), (.int (8 : Int32)), (.ref b32)]))
  obtain ⟨cl53, Ar53, aq53, S53, N53, H53, G53⟩ := id V48
  have hin53 : ¬ ((8 : Int32) < 0 ∨ cl53.slots.size ≤ ((8 : Int32)).toNatClampNeg) := inb_of S53 ⟨by decide, by decide⟩
  obtain ⟨T54, h54, X54, e54, W54, st54⟩ := stB X48 hx hZ e48 Ar53 (j := (8 : Int32)) hin53 (g := (mkF m 146 #[.val (.ref o0), .val (.ref o1), .val (.ref o2), .val (.int p3), .val (.int p4), .val (.int p5), .val (.int (4 : Int32)), .val (.ref b32), .val (.int (8 : Int32))] [(.int (p3.toInt8.toInt32)), (.int (8 : Int32)), (.ref b32)])) rfl rfl (hb hby d1_146)
  refine gobW st54 ?_
  have z55 : n0 ≤ h54.size := Nat.le_trans z50 (Keep.of_wr W54).1
  have kz56 : kk28 ≤ h54.size := Nat.le_trans kz51 (Keep.of_wr W54).1
  have N54 := Fr.snoc X54 N48 g39
  have K57 : Keep h0 h54 ([o0] : List Addr) := K52.wr W54 (Or.inr sz_b32)
  have V54 : Arv Z h54 b32 k32 .byte (13 : Int32) [(.int u0), (.int u1), (.int u2), (.int u3), (.int w0), (.int w1), (.int w2), (.int w3), (.int (nar .byte (p3.toInt8.toInt32))), (.int (0 : Int32)), (.int (0 : Int32)), (.int (0 : Int32)), (.int (0 : Int32))] (.int (0 : Int32)) := Arv.set Ar53 aq53 S53 N53 H53 G53 (fits_nar_byte _) W54 8 rfl (Nat.le_of_ble_eq_true rfl)
  show GoW _ _ _ _ _ _ _ (T54.setTop (mkF m 147 #[.val (.ref o0), .val (.ref o1), .val (.ref o2), .val (.int p3), .val (.int p4), .val (.int p5), .val (.int (4 : Int32)), .val (.ref b32), .val (.int (8 : Int32))] []))
  refine gobW (fun _ k => XS.aload X54.here hx rfl (hb hby d1_147) rfl rfl k) ?_
  show GoW _ _ _ _ _ _ _ (T54.setTop (mkF m 149 #[.val (.ref o0), .val (.ref o1), .val (.ref o2), .val (.int p3), .val (.int p4), .val (.int p5), .val (.int (4 : Int32)), .val (.ref b32), .val (.int (8 : Int32))] [(.ref b32)]))
  refine gobW (fun _ k => XS.iload X54.here hx rfl (hb hby d1_149) rfl k) ?_
  show GoW _ _ _ _ _ _ _ (T54.setTop (mkF m 151 #[.val (.ref o0), .val (.ref o1), .val (.ref o2), .val (.int p3), .val (.int p4), .val (.int p5), .val (.int (4 : Int32)), .val (.ref b32), .val (.int (8 : Int32))] [(.int (8 : Int32)), (.ref b32)]))
  refine gobW (fun _ k => XS.iconst X54.here hx rfl (hb hby d1_151) k) ?_
  show GoW _ _ _ _ _ _ _ (T54.setTop (mkF m 152 #[.val (.ref o0), .val (.ref o1), .val (.ref o2), .val (.int p3), .val (.int p4), .val (.int p5), .val (.int (4 : Int32)), .val (.ref b32), .val (.int (8 : Int32))] [(.int (1 : Int32)), (.int (8 : Int32)), (.ref b32)]))
  refine gobW (fun _ k => XS.iadd X54.here hx rfl (hb hby d1_152) rfl k) ?_
  show GoW _ _ _ _ _ _ _ (T54.setTop (mkF m 153 #[.val (.ref o0), .val (.ref o1), .val (.ref o2), .val (.int p3), .val (.int p4), .val (.int p5), .val (.int (4 : Int32)), .val (.ref b32), .val (.int (8 : Int32))] [(.int (9 : Int32)), (.ref b32)]))
  refine gobW (fun _ k => XS.iload X54.here hx rfl (hb hby d1_153) rfl k) ?_
  show GoW _ _ _ _ _ _ _ (T54.setTop (mkF m 155 #[.val (.ref o0), .val (.ref o1), .val (.ref o2), .val (.int p3), .val (.int p4), .val (.int p5), .val (.int (4 : Int32)), .val (.ref b32), .val (.int (8 : Int32))] [(.int p4), (.int (9 : Int32)), (.ref b32)]))
  obtain ⟨_, _, ⟨T58, L58, k58, n58⟩, -, X58, ⟨Lc58, hQ58, l58, y58, z58⟩, st58⟩ := Jvm.LawKit.callS X54 hx (y := (⟨"com/example/flomem/flomem/core/FlowKey", "putPort", "([BII)V"⟩ : MethodName)) hown (mvT hZ (hw _ (List.mem_of_getElem? (i := 34) rfl))) (mvT hZ (hw _ (List.mem_of_getElem? (i := 35) rfl))) (mvT hZ (hw _ (List.mem_of_getElem? (i := 3) rfl))) (mvT hZ (hw _ (List.mem_of_getElem? (i := 36) rfl))) (by decide) (backOf (W := 0) (rm5_4_1 l Z a0 hw [] b32 p4 k32 u0 u1 u2 u3 w0 w1 w2 w3 (nar .byte (p3.toInt8.toInt32)) (0 : Int32) (0 : Int32) (0 : Int32) (0 : Int32) h54 n0 z55 V54 g39) hZ (hw _ (List.mem_of_getElem? (i := 36) rfl)) (hw _ (List.mem_of_getElem? (i := 3) rfl)) (by decide) (by decide)) (g := (mkF m 155 #[.val (.ref o0), .val (.ref o1), .val (.ref o2), .val (.int p3), .val (.int p4), .val (.int p5), .val (.int (4 : Int32)), .val (.ref b32), .val (.int (8 : Int32))] [(.int p4), (.int (9 : Int32)), (.ref b32)])) rfl (by rw [hml]; rfl) (argsL := [(.ref b32), (.int (9 : Int32)), (.int p4)]) (rest := []) (lenOf pd_2 rfl) rfl (by show 2 * 0 + _ ≤ _; exact Nat.le_of_eq rfl) (hb hby d1_155) (fun _ _ => ⟨rfl, e54, (by decide : 11 + 0 ≤ _), (by decide : 297 + 0 ≤ _)⟩)
  dsimp only [Pt.U, Pt.locs, Pt.cells, Pt.slots] at X58 l58 y58 z58 st58 hQ58
  replace X58 := castX X58 (y58.trans (rfl : _ = 11)) (z58.trans (rfl : _ = 297))
  obtain ⟨rfl, Nq58, K58, F59⟩ := hQ58
  have N58 : Fr n0 L58 := l58 ▸ Fr.app N54 Nq58
  have z60 : n0 ≤ T58.heap.size := Nat.le_trans z55 K58.1
  have kz61 : kk28 ≤ T58.heap.size := Nat.le_trans kz56 K58.1
  have K62 : Keep h0 T58.heap ([o0] : List Addr) := K57.trans K58 (allS (Or.inr sz_b32) all0)
  refine gobW st58 ?_
  show GoW _ _ _ _ _ _ _ (T58.setTop (mkF m 158 #[.val (.ref o0), .val (.ref o1), .val (.ref o2), .val (.int p3), .val (.int p4), .val (.int p5), .val (.int (4 : Int32)), .val (.ref b32), .val (.int (8 : Int32))] []))
  refine gobW (fun _ k => XS.aload X58.here hx rfl (hb hby d1_158) rfl rfl k) ?_
  show GoW _ _ _ _ _ _ _ (T58.setTop (mkF m 160 #[.val (.ref o0), .val (.ref o1), .val (.ref o2), .val (.int p3), .val (.int p4), .val (.int p5), .val (.int (4 : Int32)), .val (.ref b32), .val (.int (8 : Int32))] [(.ref b32)]))
  refine gobW (fun _ k => XS.iload X58.here hx rfl (hb hby d1_160) rfl k) ?_
  show GoW _ _ _ _ _ _ _ (T58.setTop (mkF m 162 #[.val (.ref o0), .val (.ref o1), .val (.ref o2), .val (.int p3), .val (.int p4), .val (.int p5), .val (.int (4 : Int32)), .val (.ref b32), .val (.int (8 : Int32))] [(.int (8 : Int32)), (.ref b32)]))
  refine gobW (fun _ k => XS.iconst X58.here hx rfl (hb hby d1_162) k) ?_
  show GoW _ _ _ _ _ _ _ (T58.setTop (mkF m 163 #[.val (.ref o0), .val (.ref o1), .val (.ref o2), .val (.int p3), .val (.int p4), .val (.int p5), .val (.int (4 : Int32)), .val (.ref b32), .val (.int (8 : Int32))] [(.int (3 : Int32)), (.int (8 : Int32)), (.ref b32)]))
  refine gobW (fun _ k => XS.iadd X58.here hx rfl (hb hby d1_163) rfl k) ?_
  show GoW _ _ _ _ _ _ _ (T58.setTop (mkF m 164 #[.val (.ref o0), .val (.ref o1), .val (.ref o2), .val (.int p3), .val (.int p4), .val (.int p5), .val (.int (4 : Int32)), .val (.ref b32), .val (.int (8 : Int32))] [(.int (11 : Int32)), (.ref b32)]))
  refine gobW (fun _ k => XS.iload X58.here hx rfl (hb hby d1_164) rfl k) ?_
  show GoW _ _ _ _ _ _ _ (T58.setTop (mkF m 166 #[.val (.ref o0), .val (.ref o1), .val (.ref o2), .val (.int p3), .val (.int p4), .val (.int p5), .val (.int (4 : Int32)), .val (.ref b32), .val (.int (8 : Int32))] [(.int p5), (.int (11 : Int32)), (.ref b32)]))
  obtain ⟨_, _, ⟨T63, L63, k63, n63⟩, -, X63, ⟨Lc63, hQ63, l63, y63, z63⟩, st63⟩ := Jvm.LawKit.callS X58 hx (y := (⟨"com/example/flomem/flomem/core/FlowKey", "putPort", "([BII)V"⟩ : MethodName)) hown (mvT hZ (hw _ (List.mem_of_getElem? (i := 34) rfl))) (mvT hZ (hw _ (List.mem_of_getElem? (i := 35) rfl))) (mvT hZ (hw _ (List.mem_of_getElem? (i := 3) rfl))) (mvT hZ (hw _ (List.mem_of_getElem? (i := 36) rfl))) (by decide) (backOf (W := 0) (rm5_4_3 l Z a0 hw [] b32 p5 k32 u0 u1 u2 u3 w0 w1 w2 w3 (nar .byte (p3.toInt8.toInt32)) (nar .byte (((p4.toUInt32 >>> ((8 : Int32) &&& 31).toUInt32).toInt32).toInt8.toInt32)) (nar .byte (p4.toInt8.toInt32)) (0 : Int32) (0 : Int32) T58.heap n0 z60 F59 g39) hZ (hw _ (List.mem_of_getElem? (i := 36) rfl)) (hw _ (List.mem_of_getElem? (i := 3) rfl)) (by decide) (by decide)) (g := (mkF m 166 #[.val (.ref o0), .val (.ref o1), .val (.ref o2), .val (.int p3), .val (.int p4), .val (.int p5), .val (.int (4 : Int32)), .val (.ref b32), .val (.int (8 : Int32))] [(.int p5), (.int (11 : Int32)), (.ref b32)])) rfl (by rw [hml]; rfl) (argsL := [(.ref b32), (.int (11 : Int32)), (.int p5)]) (rest := []) (lenOf pd_2 rfl) rfl (by show 2 * 0 + _ ≤ _; exact Nat.le_of_eq rfl) (hb hby d1_166) (fun _ _ => ⟨rfl, (rfl : T58.heap = _), (by decide : 11 + 0 ≤ _), (by decide : 297 + 0 ≤ _)⟩)
  dsimp only [Pt.U, Pt.locs, Pt.cells, Pt.slots] at X63 l63 y63 z63 st63 hQ63
  replace X63 := castX X63 (y63.trans (rfl : _ = 11)) (z63.trans (rfl : _ = 297))
  obtain ⟨rfl, Nq63, K63, F64⟩ := hQ63
  have N63 : Fr n0 L63 := l63 ▸ Fr.app N58 Nq63
  have z65 : n0 ≤ T63.heap.size := Nat.le_trans z60 K63.1
  have kz66 : kk28 ≤ T63.heap.size := Nat.le_trans kz61 K63.1
  have K67 : Keep h0 T63.heap ([o0] : List Addr) := K62.trans K63 (allS (Or.inr sz_b32) all0)
  refine gobW st63 ?_
  show GoW _ _ _ _ _ _ _ (T63.setTop (mkF m 169 #[.val (.ref o0), .val (.ref o1), .val (.ref o2), .val (.int p3), .val (.int p4), .val (.int p5), .val (.int (4 : Int32)), .val (.ref b32), .val (.int (8 : Int32))] []))
  refine gobW (fun _ k => XS.aloadN X63.here hx rfl (hb hby d1_169) rfl rfl k) ?_
  show GoW _ _ _ _ _ _ _ (T63.setTop (mkF m 170 #[.val (.ref o0), .val (.ref o1), .val (.ref o2), .val (.int p3), .val (.int p4), .val (.int p5), .val (.int (4 : Int32)), .val (.ref b32), .val (.int (8 : Int32))] [(.ref o0)]))
  refine gobW (fun _ k => XS.aload X63.here hx rfl (hb hby d1_170) rfl rfl k) ?_
  show GoW _ _ _ _ _ _ _ (T63.setTop (mkF m 172 #[.val (.ref o0), .val (.ref o1), .val (.ref o2), .val (.int p3), .val (.int p4), .val (.int p5), .val (.int (4 : Int32)), .val (.ref b32), .val (.int (8 : Int32))] [(.ref b32), (.ref o0)]))
  have c68 := (((((((((((((F_encoded_o0.ext E2).keep K5 nin0).ext E9).keep K12 nin0).ext E20).ext E24).ext E28).ext E32).keep K43 (ninS n34 nin0)).keep K48 (ninS n34 nin0)).other W54 (Or.inl n34)).keep K58 (ninS n34 nin0)).keep K63 (ninS n34 nin0))
  have c69 := ((((((c33.ext E32).keep K43).keep K48).wr W54).keep K58).keep K63)
  obtain ⟨T70, h70, X70, e70, W70, st70⟩ := putF X63 hx hZ hown (host := "") (Or.inl (hw _ (List.mem_of_getElem? (i := 37) rfl))) Via.refl (rfl : T63.heap = _) c68 c69 (Or.inr ⟨(hw _ (List.mem_of_getElem? (i := 38) rfl)), rfl, hnm⟩) (hw _ (List.mem_of_getElem? (i := 2) rfl)) (ty := (.array .byte)) (by decide) rfl rfl (g := (mkF m 172 #[.val (.ref o0), .val (.ref o1), .val (.ref o2), .val (.int p3), .val (.int p4), .val (.int p5), .val (.int (4 : Int32)), .val (.ref b32), .val (.int (8 : Int32))] [(.ref b32), (.ref o0)])) rfl rfl (hb hby d1_172)
  refine gobW st70 ?_
  have z71 : n0 ≤ h70.size := Nat.le_trans z65 (Keep.of_wr W70).1
  have kz72 : kk28 ≤ h70.size := Nat.le_trans kz66 (Keep.of_wr W70).1
  have N70 := Fr.snoc X70 N63 g_o0
  have K73 : Keep h0 h70 ([o0] : List Addr) := K67.wr W70 (Or.inl (List.mem_of_getElem? (i := 0) rfl))
  have Fw70 := c68.same W70
  show GoW _ _ _ _ _ _ _ (T70.setTop (mkF m 175 #[.val (.ref o0), .val (.ref o1), .val (.ref o2), .val (.int p3), .val (.int p4), .val (.int p5), .val (.int (4 : Int32)), .val (.ref b32), .val (.int (8 : Int32))] []))
  refine goVW X70 hx hlk hS (leH e70 kz72) Bd.returns (hb hby d1_175) ?_ (by decide) (by decide)
  show Q1_4 Z o0 o1 o2 p3 p4 p5 k_o1 u0 u1 u2 u3 k_o2 w0 w1 w2 w3 h0 n0 (none) T70.heap _
  have c74 := (F64.other W70 (Ne.symm n34))
  rw [e70]
  exact ⟨b32, k32, rfl, N70, K73, sz_b32, c74, Fw70⟩
theorem ef_1_16 (m : MethodId) (x0 : Addr) (x1 : Addr) (x2 : Addr) (x3 : Int32) (x4 : Int32) (x5 : Int32) : entryFrame m #[(.ref x0), (.ref x1), (.ref x2), (.int x3), (.int x4), (.int x5)] 9 = mkF m 0 #[.val (.ref x0), .val (.ref x1), .val (.ref x2), .val (.int x3), .val (.int x4), .val (.int x5), .unset, .unset, .unset] [] := by first | (simp [entryFrame, mkF, argsToLocals, Value.category]; done) | rfl
def Q1_16 (Z : State) (o0 : Addr) (o1 : Addr) (o2 : Addr) (p3 : Int32) (p4 : Int32) (p5 : Int32) (k_o1 : ClassId) (u0 : Int32) (u1 : Int32) (u2 : Int32) (u3 : Int32) (u4 : Int32) (u5 : Int32) (u6 : Int32) (u7 : Int32) (u8 : Int32) (u9 : Int32) (u10 : Int32) (u11 : Int32) (u12 : Int32) (u13 : Int32) (u14 : Int32) (u15 : Int32) (k_o2 : ClassId) (w0 : Int32) (w1 : Int32) (w2 : Int32) (w3 : Int32) (w4 : Int32) (w5 : Int32) (w6 : Int32) (w7 : Int32) (w8 : Int32) (w9 : Int32) (w10 : Int32) (w11 : Int32) (w12 : Int32) (w13 : Int32) (w14 : Int32) (w15 : Int32) (h0 : Heap) (n0 : Nat) (v : Option Value) (h : Heap) (L : List Loc) : Prop := ∃ b32 : Addr, ∃ k32 : ClassId, v = none ∧ Fr n0 L ∧ Keep h0 h ([o0] : List Addr) ∧ h0.size ≤ b32 ∧ Arv Z h b32 k32 .byte (37 : Int32) [(.int u0), (.int u1), (.int u2), (.int u3), (.int u4), (.int u5), (.int u6), (.int u7), (.int u8), (.int u9), (.int u10), (.int u11), (.int u12), (.int u13), (.int u14), (.int u15), (.int w0), (.int w1), (.int w2), (.int w3), (.int w4), (.int w5), (.int w6), (.int w7), (.int w8), (.int w9), (.int w10), (.int w11), (.int w12), (.int w13), (.int w14), (.int w15), (.int (nar .byte (p3.toInt8.toInt32))), (.int (nar .byte (((p4.toUInt32 >>> ((8 : Int32) &&& 31).toUInt32).toInt32).toInt8.toInt32))), (.int (nar .byte (p4.toInt8.toInt32))), (.int (nar .byte (((p5.toUInt32 >>> ((8 : Int32) &&& 31).toUInt32).toInt32).toInt8.toInt32))), (.int (nar .byte (p5.toInt8.toInt32)))] (.int (0 : Int32)) ∧ Fld Z h o0 "com/example/flomem/flomem/core/FlowKey" "encoded" "[B" (.ref b32)
set_option maxRecDepth 65536 in
set_option maxHeartbeats 40000000 in
theorem rm1_16 (l : Launch) (Z : State) (a0 : Array Value) (hw : ∀ d ∈ tables_1, d.before a0 Z = true) (ws : List Jvm.Cond) (o0 : Addr) (o1 : Addr) (o2 : Addr) (p3 : Int32) (p4 : Int32) (p5 : Int32) (k_o1 : ClassId) (u0 : Int32) (u1 : Int32) (u2 : Int32) (u3 : Int32) (u4 : Int32) (u5 : Int32) (u6 : Int32) (u7 : Int32) (u8 : Int32) (u9 : Int32) (u10 : Int32) (u11 : Int32) (u12 : Int32) (u13 : Int32) (u14 : Int32) (u15 : Int32) (k_o2 : ClassId) (w0 : Int32) (w1 : Int32) (w2 : Int32) (w3 : Int32) (w4 : Int32) (w5 : Int32) (w6 : Int32) (w7 : Int32) (w8 : Int32) (w9 : Int32) (w10 : Int32) (w11 : Int32) (w12 : Int32) (w13 : Int32) (w14 : Int32) (w15 : Int32) (h0 : Heap) (n0 : Nat) (Z0 : n0 ≤ h0.size) (E_o0 : Exa Z h0 o0 "com/example/flomem/flomem/core/FlowKey") (V_o1 : Arv Z h0 o1 k_o1 .byte (16 : Int32) [(.int u0), (.int u1), (.int u2), (.int u3), (.int u4), (.int u5), (.int u6), (.int u7), (.int u8), (.int u9), (.int u10), (.int u11), (.int u12), (.int u13), (.int u14), (.int u15)] (.int (0 : Int32))) (V_o2 : Arv Z h0 o2 k_o2 .byte (16 : Int32) [(.int w0), (.int w1), (.int w2), (.int w3), (.int w4), (.int w5), (.int w6), (.int w7), (.int w8), (.int w9), (.int w10), (.int w11), (.int w12), (.int w13), (.int w14), (.int w15)] (.int (0 : Int32))) (hp80_hf1 : ¬ (p3 < (0 : Int32))) (hp80_hf6 : ¬ ((255 : Int32) < p3)) (hp89_hf1 : ¬ (p4 < (0 : Int32))) (hp89_hf6 : ¬ ((65535 : Int32) < p4)) (hp98_hf1 : ¬ (p5 < (0 : Int32))) (hp98_hf6 : ¬ ((65535 : Int32) < p5)) (F_encoded_o0 : Fld Z h0 o0 "com/example/flomem/flomem/core/FlowKey" "encoded" "[B" .null) (g_o0 : n0 ≤ o0) :
    MetFree l (⟨"com/example/flomem/flomem/core/FlowKey", "<init>", "([B[BIII)V"⟩ : MethodName) (head1 (Jvm.Cond.code (⟨"com/example/flomem/flomem/core/FlowKey", "<init>", "([B[BIII)V"⟩ : MethodName) prog_32_method_1_code 9 none :: ws) ({ frames := 1, cells := 11, slots := 321, locals := 18 } : Room)) (fun a U => a = #[(.ref o0), (.ref o1), (.ref o2), (.int p3), (.int p4), (.int p5)] ∧ Z.Warmed39 U.vm ∧ U.heap = h0) (fun _ _ _ _ _ => True) (fun _ U o U' => ∃ v L, o = .returned v ∧ Q1_16 Z o0 o1 o2 p3 p4 p5 k_o1 u0 u1 u2 u3 u4 u5 u6 u7 u8 u9 u10 u11 u12 u13 u14 u15 k_o2 w0 w1 w2 w3 w4 w5 w6 w7 w8 w9 w10 w11 w12 w13 w14 w15 h0 n0 v U'.heap L ∧ ReturnedEndW U o U' L ({ frames := 1, cells := 11, slots := 321, locals := 18 } : Room).cells ({ frames := 1, cells := 11, slots := 321, locals := 18 } : Room).slots) := by
  refine MetFree.of_bodySF (plainFor_of_name (by first | (simp [plainName, overriddenIn]; done) | decide +kernel)) hisR ?_
  intro p e s m args below meth c s₁ Bd hml0 hP hK
  obtain ⟨rfl, hZ, hh⟩ := hP
  have hx := Bd.exec
  have hby := Bd.bytes
  have hml : c.maxLocals = 9 := hml0
  have hown : s.vm.findClass "com/example/flomem/flomem/core/FlowKey" = some m.cls := findClass_of_methodNamed Bd.named
  have hnm := (name_of_methodNamed Bd.named Bd.method).1
  have hlk := BodyLoose.notSynchronized Bd
  have X0 : Stand p l e ({ frames := 1, cells := 11, slots := 321, locals := 18 } : Room) s m #[(.ref o0), (.ref o1), (.ref o2), (.int p3), (.int p4), (.int p5)] below meth c s₁ [] 0 0 := Stand.of_body Bd
  have e0 : s₁.heap = h0 := by rw [← hh, Bd.state]; rfl
  have N0 := Fr.nil n0
  show GoW p e below s (Q1_16 Z o0 o1 o2 p3 p4 p5 k_o1 u0 u1 u2 u3 u4 u5 u6 u7 u8 u9 u10 u11 u12 u13 u14 u15 k_o2 w0 w1 w2 w3 w4 w5 w6 w7 w8 w9 w10 w11 w12 w13 w14 w15 h0 n0) 11 321 (s₁.setTop (entryFrame m #[(.ref o0), (.ref o1), (.ref o2), (.int p3), (.int p4), (.int p5)] 9))
  rw [ef_1_16]
  show GoW _ _ _ _ _ _ _ (s₁.setTop (mkF m 0 #[.val (.ref o0), .val (.ref o1), .val (.ref o2), .val (.int p3), .val (.int p4), .val (.int p5), .unset, .unset, .unset] []))
  refine gobW (fun _ k => XS.aloadN X0.here hx rfl (hb hby d1_0) rfl rfl k) ?_
  show GoW _ _ _ _ _ _ _ (s₁.setTop (mkF m 1 #[.val (.ref o0), .val (.ref o1), .val (.ref o2), .val (.int p3), .val (.int p4), .val (.int p5), .unset, .unset, .unset] [(.ref o0)]))
  obtain ⟨T1, X1, e1, st1⟩ := initO X0 hx hZ hown (hw _ (List.mem_of_getElem? (i := 8) rfl)) (hw _ (List.mem_of_getElem? (i := 9) rfl)) (hw _ (List.mem_of_getElem? (i := 10) rfl)) e0 (g := (mkF m 1 #[.val (.ref o0), .val (.ref o1), .val (.ref o2), .val (.int p3), .val (.int p4), .val (.int p5), .unset, .unset, .unset] [(.ref o0)])) rfl (by rw [hml]; rfl) rfl (hb hby d1_1) (by decide) (W := 0) (by show 2 * 0 + _ ≤ _; exact Nat.le_of_eq rfl) (by decide)
  refine gobW st1 ?_
  show GoW _ _ _ _ _ _ _ (T1.setTop (mkF m 4 #[.val (.ref o0), .val (.ref o1), .val (.ref o2), .val (.int p3), .val (.int p4), .val (.int p5), .unset, .unset, .unset] []))
  refine gobW (fun _ k => XS.aloadN X1.here hx rfl (hb hby d1_4) rfl rfl k) ?_
  show GoW _ _ _ _ _ _ _ (T1.setTop (mkF m 5 #[.val (.ref o0), .val (.ref o1), .val (.ref o2), .val (.int p3), .val (.int p4), .val (.int p5), .unset, .unset, .unset] [(.ref o1)]))
  have hS : s.Since s.vm h0.size := (State.WarmedH.refl s).since _
  obtain ⟨a2, T2, h2, kk2, X2, e2, E2, hS, hk2, hZ, hown, st2⟩ := ldcS (castW X1) hx hZ hown (hw _ (List.mem_of_getElem? (i := 11) rfl)) (own_str hw) e1 hS (Nat.le_refl _) (g := (mkF m 5 #[.val (.ref o0), .val (.ref o1), .val (.ref o2), .val (.int p3), .val (.int p4), .val (.int p5), .unset, .unset, .unset] [(.ref o1)])) rfl (hb hby d1_5) (n := 52) (by decide) (by decide) (by decide) (by decide)
  have z3 : n0 ≤ h2.size := Nat.le_trans Z0 E2.1
  have K4 : Keep h0 h2 ([o0] : List Addr) := (Keep.refl h0 ([o0] : List Addr)).ext E2
  replace X2 := castX X2 (rfl : _ = 2) (rfl : _ = 56)
  refine gobW st2 ?_
  show GoW _ _ _ _ _ _ _ (T2.setTop (mkF m 7 #[.val (.ref o0), .val (.ref o1), .val (.ref o2), .val (.int p3), .val (.int p4), .val (.int p5), .unset, .unset, .unset] [(.ref a2), (.ref o1)]))
  obtain ⟨_, _, ⟨T5, L5, k5, n5⟩, -, X5, ⟨Lc5, hQ5, l5, y5, z5⟩, st5⟩ := Jvm.LawKit.callS X2 hx (y := (⟨"java/util/Objects", "requireNonNull", "(Ljava/lang/Object;Ljava/lang/String;)Ljava/lang/Object;"⟩ : MethodName)) hown (mvT hZ (hw _ (List.mem_of_getElem? (i := 18) rfl))) (mvT hZ (hw _ (List.mem_of_getElem? (i := 19) rfl))) (mvT hZ (hw _ (List.mem_of_getElem? (i := 20) rfl))) (mvT hZ (hw _ (List.mem_of_getElem? (i := 21) rfl))) (by decide) (backOf (W := 0) (rm3 l Z a0 hw [] o1 a2 h2 n0 z3 ) hZ (hw _ (List.mem_of_getElem? (i := 21) rfl)) (hw _ (List.mem_of_getElem? (i := 20) rfl)) (by decide) (by decide)) (g := (mkF m 7 #[.val (.ref o0), .val (.ref o1), .val (.ref o2), .val (.int p3), .val (.int p4), .val (.int p5), .unset, .unset, .unset] [(.ref a2), (.ref o1)])) rfl (by rw [hml]; rfl) (argsL := [(.ref o1), (.ref a2)]) (rest := []) (lenOf pd_0 rfl) rfl (by show 2 * 0 + _ ≤ _; exact Nat.le_of_eq rfl) (hb hby d1_7) (fun _ _ => ⟨rfl, e2, (by decide : 2 + 0 ≤ _), (by decide : 56 + 0 ≤ _)⟩)
  dsimp only [Pt.U, Pt.locs, Pt.cells, Pt.slots] at X5 l5 y5 z5 st5 hQ5
  replace X5 := castX X5 (y5.trans (rfl : _ = 2)) (z5.trans (rfl : _ = 56))
  obtain ⟨rfl, Nq5, K5⟩ := hQ5
  have N5 : Fr n0 L5 := l5 ▸ Fr.app N0 Nq5
  have z6 : n0 ≤ T5.heap.size := Nat.le_trans z3 K5.1
  have kz7 : kk2 ≤ T5.heap.size := Nat.le_trans hk2 K5.1
  have K8 : Keep h0 T5.heap ([o0] : List Addr) := K4.trans K5 all0
  refine gobW st5 ?_
  show GoW _ _ _ _ _ _ _ (T5.setTop (mkF m 10 #[.val (.ref o0), .val (.ref o1), .val (.ref o2), .val (.int p3), .val (.int p4), .val (.int p5), .unset, .unset, .unset] [(.ref o1)]))
  refine gobW (fun _ k => XS.pop X5.here hx rfl (hb hby d1_10) rfl rfl k) ?_
  show GoW _ _ _ _ _ _ _ (T5.setTop (mkF m 11 #[.val (.ref o0), .val (.ref o1), .val (.ref o2), .val (.int p3), .val (.int p4), .val (.int p5), .unset, .unset, .unset] []))
  refine gobW (fun _ k => XS.aloadN X5.here hx rfl (hb hby d1_11) rfl rfl k) ?_
  show GoW _ _ _ _ _ _ _ (T5.setTop (mkF m 12 #[.val (.ref o0), .val (.ref o1), .val (.ref o2), .val (.int p3), .val (.int p4), .val (.int p5), .unset, .unset, .unset] [(.ref o2)]))
  obtain ⟨a9, T9, h9, kk9, X9, e9, E9, hS, hk9, hZ, hown, st9⟩ := ldcS X5 hx hZ hown (hw _ (List.mem_of_getElem? (i := 22) rfl)) (own_str hw) (rfl : T5.heap = _) hS kz7 (g := (mkF m 12 #[.val (.ref o0), .val (.ref o1), .val (.ref o2), .val (.int p3), .val (.int p4), .val (.int p5), .unset, .unset, .unset] [(.ref o2)])) rfl (hb hby d1_12) (n := 72) (by decide) (by decide) (by decide) (by decide)
  have z10 : n0 ≤ h9.size := Nat.le_trans z6 E9.1
  have K11 : Keep h0 h9 ([o0] : List Addr) := K8.ext E9
  replace X9 := castX X9 (rfl : _ = 4) (rfl : _ = 132)
  refine gobW st9 ?_
  show GoW _ _ _ _ _ _ _ (T9.setTop (mkF m 14 #[.val (.ref o0), .val (.ref o1), .val (.ref o2), .val (.int p3), .val (.int p4), .val (.int p5), .unset, .unset, .unset] [(.ref a9), (.ref o2)]))
  obtain ⟨_, _, ⟨T12, L12, k12, n12⟩, -, X12, ⟨Lc12, hQ12, l12, y12, z12⟩, st12⟩ := Jvm.LawKit.callS X9 hx (y := (⟨"java/util/Objects", "requireNonNull", "(Ljava/lang/Object;Ljava/lang/String;)Ljava/lang/Object;"⟩ : MethodName)) hown (mvT hZ (hw _ (List.mem_of_getElem? (i := 18) rfl))) (mvT hZ (hw _ (List.mem_of_getElem? (i := 19) rfl))) (mvT hZ (hw _ (List.mem_of_getElem? (i := 20) rfl))) (mvT hZ (hw _ (List.mem_of_getElem? (i := 21) rfl))) (by decide) (backOf (W := 0) (rm3 l Z a0 hw [] o2 a9 h9 n0 z10 ) hZ (hw _ (List.mem_of_getElem? (i := 21) rfl)) (hw _ (List.mem_of_getElem? (i := 20) rfl)) (by decide) (by decide)) (g := (mkF m 14 #[.val (.ref o0), .val (.ref o1), .val (.ref o2), .val (.int p3), .val (.int p4), .val (.int p5), .unset, .unset, .unset] [(.ref a9), (.ref o2)])) rfl (by rw [hml]; rfl) (argsL := [(.ref o2), (.ref a9)]) (rest := []) (lenOf pd_0 rfl) rfl (by show 2 * 0 + _ ≤ _; exact Nat.le_of_eq rfl) (hb hby d1_14) (fun _ _ => ⟨rfl, e9, (by decide : 4 + 0 ≤ _), (by decide : 132 + 0 ≤ _)⟩)
  dsimp only [Pt.U, Pt.locs, Pt.cells, Pt.slots] at X12 l12 y12 z12 st12 hQ12
  replace X12 := castX X12 (y12.trans (rfl : _ = 4)) (z12.trans (rfl : _ = 132))
  obtain ⟨rfl, Nq12, K12⟩ := hQ12
  have N12 : Fr n0 L12 := l12 ▸ Fr.app N5 Nq12
  have z13 : n0 ≤ T12.heap.size := Nat.le_trans z10 K12.1
  have kz14 : kk9 ≤ T12.heap.size := Nat.le_trans hk9 K12.1
  have K15 : Keep h0 T12.heap ([o0] : List Addr) := K11.trans K12 all0
  refine gobW st12 ?_
  show GoW _ _ _ _ _ _ _ (T12.setTop (mkF m 17 #[.val (.ref o0), .val (.ref o1), .val (.ref o2), .val (.int p3), .val (.int p4), .val (.int p5), .unset, .unset, .unset] [(.ref o2)]))
  refine gobW (fun _ k => XS.pop X12.here hx rfl (hb hby d1_17) rfl rfl k) ?_
  show GoW _ _ _ _ _ _ _ (T12.setTop (mkF m 18 #[.val (.ref o0), .val (.ref o1), .val (.ref o2), .val (.int p3), .val (.int p4), .val (.int p5), .unset, .unset, .unset] []))
  refine gobW (fun _ k => XS.aloadN X12.here hx rfl (hb hby d1_18) rfl rfl k) ?_
  show GoW _ _ _ _ _ _ _ (T12.setTop (mkF m 19 #[.val (.ref o0), .val (.ref o1), .val (.ref o2), .val (.int p3), .val (.int p4), .val (.int p5), .unset, .unset, .unset] [(.ref o1)]))
  have c17 := ((((V_o1.ext E2).keep K5 nin0).ext E9).keep K12 nin0)
  obtain ⟨cl16, Ar16, aq16, S16, N16, H16, G16⟩ := id c17
  refine gobW (X12.arraylength hx (by rw [(rfl : T12.heap = _)]; exact Ar16.1) (State.isArrayOf_alike hZ.alike Ar16.2.1) (g := (mkF m 19 #[.val (.ref o0), .val (.ref o1), .val (.ref o2), .val (.int p3), .val (.int p4), .val (.int p5), .unset, .unset, .unset] [(.ref o1)])) rfl rfl (hb hby d1_19)) ?_
  rw [len_of S16 N16]
  show GoW _ _ _ _ _ _ _ (T12.setTop (mkF m 20 #[.val (.ref o0), .val (.ref o1), .val (.ref o2), .val (.int p3), .val (.int p4), .val (.int p5), .unset, .unset, .unset] [(.int (16 : Int32))]))
  refine gobW (fun _ k => XS.istore X12.here hx rfl (hb hby d1_20) rfl (l' := #[.val (.ref o0), .val (.ref o1), .val (.ref o2), .val (.int p3), .val (.int p4), .val (.int p5), .val (.int (16 : Int32)), .unset, .unset]) rfl k) ?_
  show GoW _ _ _ _ _ _ _ (T12.setTop (mkF m 22 #[.val (.ref o0), .val (.ref o1), .val (.ref o2), .val (.int p3), .val (.int p4), .val (.int p5), .val (.int (16 : Int32)), .unset, .unset] []))
  refine gobW (fun _ k => XS.iload X12.here hx rfl (hb hby d1_22) rfl k) ?_
  show GoW _ _ _ _ _ _ _ (T12.setTop (mkF m 24 #[.val (.ref o0), .val (.ref o1), .val (.ref o2), .val (.int p3), .val (.int p4), .val (.int p5), .val (.int (16 : Int32)), .unset, .unset] [(.int (16 : Int32))]))
  refine gobW (fun _ k => XS.iconst X12.here hx rfl (hb hby d1_24) k) ?_
  show GoW _ _ _ _ _ _ _ (T12.setTop (mkF m 25 #[.val (.ref o0), .val (.ref o1), .val (.ref o2), .val (.int p3), .val (.int p4), .val (.int p5), .val (.int (16 : Int32)), .unset, .unset] [(.int (4 : Int32)), (.int (16 : Int32))]))
  refine gobW (fun _ k => XS.icmpNo X12.here hx rfl (hb hby d1_25) rfl (feq (by decide : ¬ ((16 : Int32) = (4 : Int32)))).1 k) ?_
  show GoW _ _ _ _ _ _ _ (T12.setTop (mkF m 28 #[.val (.ref o0), .val (.ref o1), .val (.ref o2), .val (.int p3), .val (.int p4), .val (.int p5), .val (.int (16 : Int32)), .unset, .unset] []))
  refine gobW (fun _ k => XS.iload X12.here hx rfl (hb hby d1_28) rfl k) ?_
  show GoW _ _ _ _ _ _ _ (T12.setTop (mkF m 30 #[.val (.ref o0), .val (.ref o1), .val (.ref o2), .val (.int p3), .val (.int p4), .val (.int p5), .val (.int (16 : Int32)), .unset, .unset] [(.int (16 : Int32))]))
  refine gobW (fun _ k => XS.bipush X12.here hx rfl (hb hby d1_30) k) ?_
  show GoW _ _ _ _ _ _ _ (T12.setTop (mkF m 32 #[.val (.ref o0), .val (.ref o1), .val (.ref o2), .val (.int p3), .val (.int p4), .val (.int p5), .val (.int (16 : Int32)), .unset, .unset] [(.int (16 : Int32)), (.int (16 : Int32))]))
  refine gobW (fun _ k => XS.icmpYes X12.here hx rfl (pc0 := 32) (pc' := 50) rfl (hb hby d1_32) rfl (teq (by decide : (16 : Int32) = (16 : Int32))).1 (by decide) (by decide) k) ?_
  show GoW _ _ _ _ _ _ _ (T12.setTop (mkF m 50 #[.val (.ref o0), .val (.ref o1), .val (.ref o2), .val (.int p3), .val (.int p4), .val (.int p5), .val (.int (16 : Int32)), .unset, .unset] []))
  refine gobW (fun _ k => XS.aloadN X12.here hx rfl (hb hby d1_50) rfl rfl k) ?_
  show GoW _ _ _ _ _ _ _ (T12.setTop (mkF m 51 #[.val (.ref o0), .val (.ref o1), .val (.ref o2), .val (.int p3), .val (.int p4), .val (.int p5), .val (.int (16 : Int32)), .unset, .unset] [(.ref o2)]))
  have c19 := ((((V_o2.ext E2).keep K5 nin0).ext E9).keep K12 nin0)
  obtain ⟨cl18, Ar18, aq18, S18, N18, H18, G18⟩ := id c19
  refine gobW (X12.arraylength hx (by rw [(rfl : T12.heap = _)]; exact Ar18.1) (State.isArrayOf_alike hZ.alike Ar18.2.1) (g := (mkF m 51 #[.val (.ref o0), .val (.ref o1), .val (.ref o2), .val (.int p3), .val (.int p4), .val (.int p5), .val (.int (16 : Int32)), .unset, .unset] [(.ref o2)])) rfl rfl (hb hby d1_51)) ?_
  rw [len_of S18 N18]
  show GoW _ _ _ _ _ _ _ (T12.setTop (mkF m 52 #[.val (.ref o0), .val (.ref o1), .val (.ref o2), .val (.int p3), .val (.int p4), .val (.int p5), .val (.int (16 : Int32)), .unset, .unset] [(.int (16 : Int32))]))
  refine gobW (fun _ k => XS.iload X12.here hx rfl (hb hby d1_52) rfl k) ?_
  show GoW _ _ _ _ _ _ _ (T12.setTop (mkF m 54 #[.val (.ref o0), .val (.ref o1), .val (.ref o2), .val (.int p3), .val (.int p4), .val (.int p5), .val (.int (16 : Int32)), .unset, .unset] [(.int (16 : Int32)), (.int (16 : Int32))]))
  refine gobW (fun _ k => XS.icmpYes X12.here hx rfl (pc0 := 54) (pc' := 74) rfl (hb hby d1_54) rfl (teq (by decide : (16 : Int32) = (16 : Int32))).1 (by decide) (by decide) k) ?_
  show GoW _ _ _ _ _ _ _ (T12.setTop (mkF m 74 #[.val (.ref o0), .val (.ref o1), .val (.ref o2), .val (.int p3), .val (.int p4), .val (.int p5), .val (.int (16 : Int32)), .unset, .unset] []))
  obtain ⟨a20, T20, h20, kk20, X20, e20, E20, hS, hk20, hZ, hown, st20⟩ := ldcS X12 hx hZ hown (hw _ (List.mem_of_getElem? (i := 23) rfl)) (own_str hw) (rfl : T12.heap = _) hS kz14 (g := (mkF m 74 #[.val (.ref o0), .val (.ref o1), .val (.ref o2), .val (.int p3), .val (.int p4), .val (.int p5), .val (.int (16 : Int32)), .unset, .unset] [])) rfl (hb hby d1_74) (n := 32) (by decide) (by decide) (by decide) (by decide)
  have z21 : n0 ≤ h20.size := Nat.le_trans z13 E20.1
  have K22 : Keep h0 h20 ([o0] : List Addr) := K15.ext E20
  replace X20 := castX X20 (rfl : _ = 6) (rfl : _ = 168)
  refine gobW st20 ?_
  show GoW _ _ _ _ _ _ _ (T20.setTop (mkF m 76 #[.val (.ref o0), .val (.ref o1), .val (.ref o2), .val (.int p3), .val (.int p4), .val (.int p5), .val (.int (16 : Int32)), .unset, .unset] [(.ref a20)]))
  refine gobW (fun _ k => XS.iloadN X20.here hx rfl (hb hby d1_76) rfl k) ?_
  show GoW _ _ _ _ _ _ _ (T20.setTop (mkF m 77 #[.val (.ref o0), .val (.ref o1), .val (.ref o2), .val (.int p3), .val (.int p4), .val (.int p5), .val (.int (16 : Int32)), .unset, .unset] [(.int p3), (.ref a20)]))
  refine gobW (fun _ k => XS.sipush X20.here hx rfl (hb hby d1_77) k) ?_
  show GoW _ _ _ _ _ _ _ (T20.setTop (mkF m 80 #[.val (.ref o0), .val (.ref o1), .val (.ref o2), .val (.int p3), .val (.int p4), .val (.int p5), .val (.int (16 : Int32)), .unset, .unset] [(.int (255 : Int32)), (.int p3), (.ref a20)]))
  obtain ⟨_, _, ⟨T23, L23, k23, n23⟩, -, X23, ⟨Lc23, hQ23, l23, y23, z23⟩, st23⟩ := Jvm.LawKit.callS X20 hx (y := (⟨"com/example/flomem/flomem/core/FlowKey", "checkRange", "(Ljava/lang/String;II)V"⟩ : MethodName)) hown (mvT hZ (hw _ (List.mem_of_getElem? (i := 24) rfl))) (mvT hZ (hw _ (List.mem_of_getElem? (i := 25) rfl))) (mvT hZ (hw _ (List.mem_of_getElem? (i := 3) rfl))) (mvT hZ (hw _ (List.mem_of_getElem? (i := 26) rfl))) (by decide) (backOf (W := 0) (rm4 l Z a0 hw [] a20 p3 (255 : Int32) h20 n0 z21 hp80_hf1 hp80_hf6) hZ (hw _ (List.mem_of_getElem? (i := 26) rfl)) (hw _ (List.mem_of_getElem? (i := 3) rfl)) (by decide) (by decide)) (g := (mkF m 80 #[.val (.ref o0), .val (.ref o1), .val (.ref o2), .val (.int p3), .val (.int p4), .val (.int p5), .val (.int (16 : Int32)), .unset, .unset] [(.int (255 : Int32)), (.int p3), (.ref a20)])) rfl (by rw [hml]; rfl) (argsL := [(.ref a20), (.int p3), (.int (255 : Int32))]) (rest := []) (lenOf pd_1 rfl) rfl (by show 2 * 0 + _ ≤ _; exact Nat.le_of_eq rfl) (hb hby d1_80) (fun _ _ => ⟨rfl, e20, (by decide : 6 + 0 ≤ _), (by decide : 168 + 0 ≤ _)⟩)
  dsimp only [Pt.U, Pt.locs, Pt.cells, Pt.slots] at X23 l23 y23 z23 st23 hQ23
  replace X23 := castX X23 (y23.trans (rfl : _ = 6)) (z23.trans (rfl : _ = 168))
  obtain ⟨rfl, Nq23, e23⟩ := hQ23
  have N23 : Fr n0 L23 := l23 ▸ Fr.app N12 Nq23
  refine gobW st23 ?_
  show GoW _ _ _ _ _ _ _ (T23.setTop (mkF m 83 #[.val (.ref o0), .val (.ref o1), .val (.ref o2), .val (.int p3), .val (.int p4), .val (.int p5), .val (.int (16 : Int32)), .unset, .unset] []))
  obtain ⟨a24, T24, h24, kk24, X24, e24, E24, hS, hk24, hZ, hown, st24⟩ := ldcS X23 hx hZ hown (hw _ (List.mem_of_getElem? (i := 27) rfl)) (own_str hw) e23 hS hk20 (g := (mkF m 83 #[.val (.ref o0), .val (.ref o1), .val (.ref o2), .val (.int p3), .val (.int p4), .val (.int p5), .val (.int (16 : Int32)), .unset, .unset] [])) rfl (hb hby d1_83) (n := 44) (by decide) (by decide) (by decide) (by decide)
  have z25 : n0 ≤ h24.size := Nat.le_trans z21 E24.1
  have K26 : Keep h0 h24 ([o0] : List Addr) := K22.ext E24
  replace X24 := castX X24 (rfl : _ = 8) (rfl : _ = 216)
  refine gobW st24 ?_
  show GoW _ _ _ _ _ _ _ (T24.setTop (mkF m 85 #[.val (.ref o0), .val (.ref o1), .val (.ref o2), .val (.int p3), .val (.int p4), .val (.int p5), .val (.int (16 : Int32)), .unset, .unset] [(.ref a24)]))
  refine gobW (fun _ k => XS.iload X24.here hx rfl (hb hby d1_85) rfl k) ?_
  show GoW _ _ _ _ _ _ _ (T24.setTop (mkF m 87 #[.val (.ref o0), .val (.ref o1), .val (.ref o2), .val (.int p3), .val (.int p4), .val (.int p5), .val (.int (16 : Int32)), .unset, .unset] [(.int p4), (.ref a24)]))
  refine gobW (X24.ldcInt hx hown (mvT hZ (hw _ (List.mem_of_getElem? (i := 28) rfl))) (g := (mkF m 87 #[.val (.ref o0), .val (.ref o1), .val (.ref o2), .val (.int p3), .val (.int p4), .val (.int p5), .val (.int (16 : Int32)), .unset, .unset] [(.int p4), (.ref a24)])) rfl (hb hby d1_87)) ?_
  show GoW _ _ _ _ _ _ _ (T24.setTop (mkF m 89 #[.val (.ref o0), .val (.ref o1), .val (.ref o2), .val (.int p3), .val (.int p4), .val (.int p5), .val (.int (16 : Int32)), .unset, .unset] [(.int (65535 : Int32)), (.int p4), (.ref a24)]))
  obtain ⟨_, _, ⟨T27, L27, k27, n27⟩, -, X27, ⟨Lc27, hQ27, l27, y27, z27⟩, st27⟩ := Jvm.LawKit.callS X24 hx (y := (⟨"com/example/flomem/flomem/core/FlowKey", "checkRange", "(Ljava/lang/String;II)V"⟩ : MethodName)) hown (mvT hZ (hw _ (List.mem_of_getElem? (i := 24) rfl))) (mvT hZ (hw _ (List.mem_of_getElem? (i := 25) rfl))) (mvT hZ (hw _ (List.mem_of_getElem? (i := 3) rfl))) (mvT hZ (hw _ (List.mem_of_getElem? (i := 26) rfl))) (by decide) (backOf (W := 0) (rm4 l Z a0 hw [] a24 p4 (65535 : Int32) h24 n0 z25 hp89_hf1 hp89_hf6) hZ (hw _ (List.mem_of_getElem? (i := 26) rfl)) (hw _ (List.mem_of_getElem? (i := 3) rfl)) (by decide) (by decide)) (g := (mkF m 89 #[.val (.ref o0), .val (.ref o1), .val (.ref o2), .val (.int p3), .val (.int p4), .val (.int p5), .val (.int (16 : Int32)), .unset, .unset] [(.int (65535 : Int32)), (.int p4), (.ref a24)])) rfl (by rw [hml]; rfl) (argsL := [(.ref a24), (.int p4), (.int (65535 : Int32))]) (rest := []) (lenOf pd_1 rfl) rfl (by show 2 * 0 + _ ≤ _; exact Nat.le_of_eq rfl) (hb hby d1_89) (fun _ _ => ⟨rfl, e24, (by decide : 8 + 0 ≤ _), (by decide : 216 + 0 ≤ _)⟩)
  dsimp only [Pt.U, Pt.locs, Pt.cells, Pt.slots] at X27 l27 y27 z27 st27 hQ27
  replace X27 := castX X27 (y27.trans (rfl : _ = 8)) (z27.trans (rfl : _ = 216))
  obtain ⟨rfl, Nq27, e27⟩ := hQ27
  have N27 : Fr n0 L27 := l27 ▸ Fr.app N23 Nq27
  refine gobW st27 ?_
  show GoW _ _ _ _ _ _ _ (T27.setTop (mkF m 92 #[.val (.ref o0), .val (.ref o1), .val (.ref o2), .val (.int p3), .val (.int p4), .val (.int p5), .val (.int (16 : Int32)), .unset, .unset] []))
  obtain ⟨a28, T28, h28, kk28, X28, e28, E28, hS, hk28, hZ, hown, st28⟩ := ldcS X27 hx hZ hown (hw _ (List.mem_of_getElem? (i := 29) rfl)) (own_str hw) e27 hS hk24 (g := (mkF m 92 #[.val (.ref o0), .val (.ref o1), .val (.ref o2), .val (.int p3), .val (.int p4), .val (.int p5), .val (.int (16 : Int32)), .unset, .unset] [])) rfl (hb hby d1_92) (n := 64) (by decide) (by decide) (by decide) (by decide)
  have z29 : n0 ≤ h28.size := Nat.le_trans z25 E28.1
  have K30 : Keep h0 h28 ([o0] : List Addr) := K26.ext E28
  replace X28 := castX X28 (rfl : _ = 10) (rfl : _ = 284)
  refine gobW st28 ?_
  show GoW _ _ _ _ _ _ _ (T28.setTop (mkF m 94 #[.val (.ref o0), .val (.ref o1), .val (.ref o2), .val (.int p3), .val (.int p4), .val (.int p5), .val (.int (16 : Int32)), .unset, .unset] [(.ref a28)]))
  refine gobW (fun _ k => XS.iload X28.here hx rfl (hb hby d1_94) rfl k) ?_
  show GoW _ _ _ _ _ _ _ (T28.setTop (mkF m 96 #[.val (.ref o0), .val (.ref o1), .val (.ref o2), .val (.int p3), .val (.int p4), .val (.int p5), .val (.int (16 : Int32)), .unset, .unset] [(.int p5), (.ref a28)]))
  refine gobW (X28.ldcInt hx hown (mvT hZ (hw _ (List.mem_of_getElem? (i := 28) rfl))) (g := (mkF m 96 #[.val (.ref o0), .val (.ref o1), .val (.ref o2), .val (.int p3), .val (.int p4), .val (.int p5), .val (.int (16 : Int32)), .unset, .unset] [(.int p5), (.ref a28)])) rfl (hb hby d1_96)) ?_
  show GoW _ _ _ _ _ _ _ (T28.setTop (mkF m 98 #[.val (.ref o0), .val (.ref o1), .val (.ref o2), .val (.int p3), .val (.int p4), .val (.int p5), .val (.int (16 : Int32)), .unset, .unset] [(.int (65535 : Int32)), (.int p5), (.ref a28)]))
  obtain ⟨_, _, ⟨T31, L31, k31, n31⟩, -, X31, ⟨Lc31, hQ31, l31, y31, z31⟩, st31⟩ := Jvm.LawKit.callS X28 hx (y := (⟨"com/example/flomem/flomem/core/FlowKey", "checkRange", "(Ljava/lang/String;II)V"⟩ : MethodName)) hown (mvT hZ (hw _ (List.mem_of_getElem? (i := 24) rfl))) (mvT hZ (hw _ (List.mem_of_getElem? (i := 25) rfl))) (mvT hZ (hw _ (List.mem_of_getElem? (i := 3) rfl))) (mvT hZ (hw _ (List.mem_of_getElem? (i := 26) rfl))) (by decide) (backOf (W := 0) (rm4 l Z a0 hw [] a28 p5 (65535 : Int32) h28 n0 z29 hp98_hf1 hp98_hf6) hZ (hw _ (List.mem_of_getElem? (i := 26) rfl)) (hw _ (List.mem_of_getElem? (i := 3) rfl)) (by decide) (by decide)) (g := (mkF m 98 #[.val (.ref o0), .val (.ref o1), .val (.ref o2), .val (.int p3), .val (.int p4), .val (.int p5), .val (.int (16 : Int32)), .unset, .unset] [(.int (65535 : Int32)), (.int p5), (.ref a28)])) rfl (by rw [hml]; rfl) (argsL := [(.ref a28), (.int p5), (.int (65535 : Int32))]) (rest := []) (lenOf pd_1 rfl) rfl (by show 2 * 0 + _ ≤ _; exact Nat.le_of_eq rfl) (hb hby d1_98) (fun _ _ => ⟨rfl, e28, (by decide : 10 + 0 ≤ _), (by decide : 284 + 0 ≤ _)⟩)
  dsimp only [Pt.U, Pt.locs, Pt.cells, Pt.slots] at X31 l31 y31 z31 st31 hQ31
  replace X31 := castX X31 (y31.trans (rfl : _ = 10)) (z31.trans (rfl : _ = 284))
  obtain ⟨rfl, Nq31, e31⟩ := hQ31
  have N31 : Fr n0 L31 := l31 ▸ Fr.app N27 Nq31
  refine gobW st31 ?_
  show GoW _ _ _ _ _ _ _ (T31.setTop (mkF m 101 #[.val (.ref o0), .val (.ref o1), .val (.ref o2), .val (.int p3), .val (.int p4), .val (.int p5), .val (.int (16 : Int32)), .unset, .unset] []))
  refine gobW (fun _ k => XS.iconst X31.here hx rfl (hb hby d1_101) k) ?_
  show GoW _ _ _ _ _ _ _ (T31.setTop (mkF m 102 #[.val (.ref o0), .val (.ref o1), .val (.ref o2), .val (.int p3), .val (.int p4), .val (.int p5), .val (.int (16 : Int32)), .unset, .unset] [(.int (2 : Int32))]))
  refine gobW (fun _ k => XS.iload X31.here hx rfl (hb hby d1_102) rfl k) ?_
  show GoW _ _ _ _ _ _ _ (T31.setTop (mkF m 104 #[.val (.ref o0), .val (.ref o1), .val (.ref o2), .val (.int p3), .val (.int p4), .val (.int p5), .val (.int (16 : Int32)), .unset, .unset] [(.int (16 : Int32)), (.int (2 : Int32))]))
  refine gobW (fun _ k => XS.imul X31.here hx rfl (hb hby d1_104) rfl k) ?_
  show GoW _ _ _ _ _ _ _ (T31.setTop (mkF m 105 #[.val (.ref o0), .val (.ref o1), .val (.ref o2), .val (.int p3), .val (.int p4), .val (.int p5), .val (.int (16 : Int32)), .unset, .unset] [(.int (32 : Int32))]))
  refine gobW (fun _ k => XS.iconst X31.here hx rfl (hb hby d1_105) k) ?_
  show GoW _ _ _ _ _ _ _ (T31.setTop (mkF m 106 #[.val (.ref o0), .val (.ref o1), .val (.ref o2), .val (.int p3), .val (.int p4), .val (.int p5), .val (.int (16 : Int32)), .unset, .unset] [(.int (5 : Int32)), (.int (32 : Int32))]))
  refine gobW (fun _ k => XS.iadd X31.here hx rfl (hb hby d1_106) rfl k) ?_
  show GoW _ _ _ _ _ _ _ (T31.setTop (mkF m 107 #[.val (.ref o0), .val (.ref o1), .val (.ref o2), .val (.int p3), .val (.int p4), .val (.int p5), .val (.int (16 : Int32)), .unset, .unset] [(.int (37 : Int32))]))
  obtain ⟨T32, h32, k32, X32, e32, E32, A32, st32⟩ := newP X31 hx hZ (hw _ (List.mem_of_getElem? (i := 0) rfl)) e31 (g := (mkF m 107 #[.val (.ref o0), .val (.ref o1), .val (.ref o2), .val (.int p3), .val (.int p4), .val (.int p5), .val (.int (16 : Int32)), .unset, .unset] [(.int (37 : Int32))])) rfl (hb hby d1_107) rfl (by decide) (cap := 37) (by decide) (by decide) (by decide) (by decide)
  obtain ⟨b32, g32⟩ : ∃ z, z = h28.size := ⟨_, rfl⟩
  rw [← g32] at A32 st32
  have c33 := (((((((E_o0.ext E2).keep K5).ext E9).keep K12).ext E20).ext E24).ext E28)
  have n34 : o0 ≠ b32 := Nat.ne_of_lt (Nat.lt_of_lt_of_le c33.lt (Nat.le_of_eq g32.symm))
  have c35 := (((c17.ext E20).ext E24).ext E28)
  have n36 : o1 ≠ b32 := Nat.ne_of_lt (Nat.lt_of_lt_of_le c35.lt (Nat.le_of_eq g32.symm))
  have c37 := (((c19.ext E20).ext E24).ext E28)
  have n38 : o2 ≠ b32 := Nat.ne_of_lt (Nat.lt_of_lt_of_le c37.lt (Nat.le_of_eq g32.symm))
  have g39 : n0 ≤ b32 := Nat.le_trans z29 (Nat.le_of_eq g32.symm)
  have sz_b32 : h0.size ≤ b32 := Nat.le_trans K30.1 (Nat.le_of_eq g32.symm)
  have z40 : n0 ≤ h32.size := Nat.le_trans z29 E32.1
  have kz41 : kk28 ≤ h32.size := Nat.le_trans hk28 E32.1
  have K42 : Keep h0 h32 ([o0] : List Addr) := K30.ext E32
  have V32 : Arv Z h32 b32 k32 .byte (37 : Int32) [(.int (0 : Int32)), (.int (0 : Int32)), (.int (0 : Int32)), (.int (0 : Int32)), (.int (0 : Int32)), (.int (0 : Int32)), (.int (0 : Int32)), (.int (0 : Int32)), (.int (0 : Int32)), (.int (0 : Int32)), (.int (0 : Int32)), (.int (0 : Int32)), (.int (0 : Int32)), (.int (0 : Int32)), (.int (0 : Int32)), (.int (0 : Int32)), (.int (0 : Int32)), (.int (0 : Int32)), (.int (0 : Int32)), (.int (0 : Int32)), (.int (0 : Int32)), (.int (0 : Int32)), (.int (0 : Int32)), (.int (0 : Int32)), (.int (0 : Int32)), (.int (0 : Int32)), (.int (0 : Int32)), (.int (0 : Int32)), (.int (0 : Int32)), (.int (0 : Int32)), (.int (0 : Int32)), (.int (0 : Int32)), (.int (0 : Int32)), (.int (0 : Int32)), (.int (0 : Int32)), (.int (0 : Int32)), (.int (0 : Int32))] (.int (0 : Int32)) := (Arv.new A32 (by decide)).pad (pad_rep [] (.int (0 : Int32)) 37)
  refine gobW st32 ?_
  replace X32 := castX X32 (rfl : _ = 11) (rfl : _ = 321)
  show GoW _ _ _ _ _ _ _ (T32.setTop (mkF m 109 #[.val (.ref o0), .val (.ref o1), .val (.ref o2), .val (.int p3), .val (.int p4), .val (.int p5), .val (.int (16 : Int32)), .unset, .unset] [(.ref b32)]))
  refine gobW (fun _ k => XS.astore X32.here hx rfl (hb hby d1_109) rfl rfl (l' := #[.val (.ref o0), .val (.ref o1), .val (.ref o2), .val (.int p3), .val (.int p4), .val (.int p5), .val (.int (16 : Int32)), .val (.ref b32), .unset]) rfl k) ?_
  show GoW _ _ _ _ _ _ _ (T32.setTop (mkF m 111 #[.val (.ref o0), .val (.ref o1), .val (.ref o2), .val (.int p3), .val (.int p4), .val (.int p5), .val (.int (16 : Int32)), .val (.ref b32), .unset] []))
  refine gobW (fun _ k => XS.aloadN X32.here hx rfl (hb hby d1_111) rfl rfl k) ?_
  show GoW _ _ _ _ _ _ _ (T32.setTop (mkF m 112 #[.val (.ref o0), .val (.ref o1), .val (.ref o2), .val (.int p3), .val (.int p4), .val (.int p5), .val (.int (16 : Int32)), .val (.ref b32), .unset] [(.ref o1)]))
  refine gobW (fun _ k => XS.iconst X32.here hx rfl (hb hby d1_112) k) ?_
  show GoW _ _ _ _ _ _ _ (T32.setTop (mkF m 113 #[.val (.ref o0), .val (.ref o1), .val (.ref o2), .val (.int p3), .val (.int p4), .val (.int p5), .val (.int (16 : Int32)), .val (.ref b32), .unset] [(.int (0 : Int32)), (.ref o1)]))
  refine gobW (fun _ k => XS.aload X32.here hx rfl (hb hby d1_113) rfl rfl k) ?_
  show GoW _ _ _ _ _ _ _ (T32.setTop (mkF m 115 #[.val (.ref o0), .val (.ref o1), .val (.ref o2), .val (.int p3), .val (.int p4), .val (.int p5), .val (.int (16 : Int32)), .val (.ref b32), .unset] [(.ref b32), (.int (0 : Int32)), (.ref o1)]))
  refine gobW (fun _ k => XS.iconst X32.here hx rfl (hb hby d1_115) k) ?_
  show GoW _ _ _ _ _ _ _ (T32.setTop (mkF m 116 #[.val (.ref o0), .val (.ref o1), .val (.ref o2), .val (.int p3), .val (.int p4), .val (.int p5), .val (.int (16 : Int32)), .val (.ref b32), .unset] [(.int (0 : Int32)), (.ref b32), (.int (0 : Int32)), (.ref o1)]))
  refine gobW (fun _ k => XS.iload X32.here hx rfl (hb hby d1_116) rfl k) ?_
  show GoW _ _ _ _ _ _ _ (T32.setTop (mkF m 118 #[.val (.ref o0), .val (.ref o1), .val (.ref o2), .val (.int p3), .val (.int p4), .val (.int p5), .val (.int (16 : Int32)), .val (.ref b32), .unset] [(.int (16 : Int32)), (.int (0 : Int32)), (.ref b32), (.int (0 : Int32)), (.ref o1)]))
  have c44 := (c35.ext E32)
  obtain ⟨T43, h43, L43, X43, e43, N43, K43, A43, st43⟩ := cpA X32 hx hZ hown (hw _ (List.mem_of_getElem? (i := 30) rfl)) (hw _ (List.mem_of_getElem? (i := 33) rfl)) (hw _ (List.mem_of_getElem? (i := 31) rfl)) (hw _ (List.mem_of_getElem? (i := 32) rfl)) e32 c44 V32 (Or.inl ⟨rfl, rfl⟩) (sp := (0 : Int32)) (dp := (0 : Int32)) (nn := (16 : Int32)) (us := [(.int u0), (.int u1), (.int u2), (.int u3), (.int u4), (.int u5), (.int u6), (.int u7), (.int u8), (.int u9), (.int u10), (.int u11), (.int u12), (.int u13), (.int u14), (.int u15)]) (by decide) (by decide) (by decide) (by decide) (by decide) rfl (Nat.le_of_ble_eq_true rfl) N31 g39 (g := (mkF m 118 #[.val (.ref o0), .val (.ref o1), .val (.ref o2), .val (.int p3), .val (.int p4), .val (.int p5), .val (.int (16 : Int32)), .val (.ref b32), .unset] [(.int (16 : Int32)), (.int (0 : Int32)), (.ref b32), (.int (0 : Int32)), (.ref o1)])) rfl (by rw [hml]; rfl) rfl (hb hby d1_118) (by decide) (W := 0) (by show 2 * 0 + _ ≤ _; exact Nat.le_of_eq rfl) (by decide)
  have z45 : n0 ≤ h43.size := Nat.le_trans z40 K43.1
  have kz46 : kk28 ≤ h43.size := Nat.le_trans kz41 K43.1
  have K47 : Keep h0 h43 ([o0] : List Addr) := K42.trans K43 (allS (Or.inr sz_b32) all0)
  have V43 : Arv Z h43 b32 k32 .byte (37 : Int32) [(.int u0), (.int u1), (.int u2), (.int u3), (.int u4), (.int u5), (.int u6), (.int u7), (.int u8), (.int u9), (.int u10), (.int u11), (.int u12), (.int u13), (.int u14), (.int u15), (.int (0 : Int32)), (.int (0 : Int32)), (.int (0 : Int32)), (.int (0 : Int32)), (.int (0 : Int32)), (.int (0 : Int32)), (.int (0 : Int32)), (.int (0 : Int32)), (.int (0 : Int32)), (.int (0 : Int32)), (.int (0 : Int32)), (.int (0 : Int32)), (.int (0 : Int32)), (.int (0 : Int32)), (.int (0 : Int32)), (.int (0 : Int32)), (.int (0 : Int32)), (.int (0 : Int32)), (.int (0 : Int32)), (.int (0 : Int32)), (.int (0 : Int32))] (.int (0 : Int32)) := A43
  refine gobW st43 ?_
  show GoW _ _ _ _ _ _ _ (T43.setTop (mkF m 121 #[.val (.ref o0), .val (.ref o1), .val (.ref o2), .val (.int p3), .val (.int p4), .val (.int p5), .val (.int (16 : Int32)), .val (.ref b32), .unset] []))
  refine gobW (fun _ k => XS.aloadN X43.here hx rfl (hb hby d1_121) rfl rfl k) ?_
  show GoW _ _ _ _ _ _ _ (T43.setTop (mkF m 122 #[.val (.ref o0), .val (.ref o1), .val (.ref o2), .val (.int p3), .val (.int p4), .val (.int p5), .val (.int (16 : Int32)), .val (.ref b32), .unset] [(.ref o2)]))
  refine gobW (fun _ k => XS.iconst X43.here hx rfl (hb hby d1_122) k) ?_
  show GoW _ _ _ _ _ _ _ (T43.setTop (mkF m 123 #[.val (.ref o0), .val (.ref o1), .val (.ref o2), .val (.int p3), .val (.int p4), .val (.int p5), .val (.int (16 : Int32)), .val (.ref b32), .unset] [(.int (0 : Int32)), (.ref o2)]))
  refine gobW (fun _ k => XS.aload X43.here hx rfl (hb hby d1_123) rfl rfl k) ?_
  show GoW _ _ _ _ _ _ _ (T43.setTop (mkF m 125 #[.val (.ref o0), .val (.ref o1), .val (.ref o2), .val (.int p3), .val (.int p4), .val (.int p5), .val (.int (16 : Int32)), .val (.ref b32), .unset] [(.ref b32), (.int (0 : Int32)), (.ref o2)]))
  refine gobW (fun _ k => XS.iload X43.here hx rfl (hb hby d1_125) rfl k) ?_
  show GoW _ _ _ _ _ _ _ (T43.setTop (mkF m 127 #[.val (.ref o0), .val (.ref o1), .val (.ref o2), .val (.int p3), .val (.int p4), .val (.int p5), .val (.int (16 : Int32)), .val (.ref b32), .unset] [(.int (16 : Int32)), (.ref b32), (.int (0 : Int32)), (.ref o2)]))
  refine gobW (fun _ k => XS.iload X43.here hx rfl (hb hby d1_127) rfl k) ?_
  show GoW _ _ _ _ _ _ _ (T43.setTop (mkF m 129 #[.val (.ref o0), .val (.ref o1), .val (.ref o2), .val (.int p3), .val (.int p4), .val (.int p5), .val (.int (16 : Int32)), .val (.ref b32), .unset] [(.int (16 : Int32)), (.int (16 : Int32)), (.ref b32), (.int (0 : Int32)), (.ref o2)]))
  have c49 := ((c37.ext E32).keep K43 (ninS n38 nin0))
  obtain ⟨T48, h48, L48, X48, e48, N48, K48, A48, st48⟩ := cpA X43 hx hZ hown (hw _ (List.mem_of_getElem? (i := 30) rfl)) (hw _ (List.mem_of_getElem? (i := 33) rfl)) (hw _ (List.mem_of_getElem? (i := 31) rfl)) (hw _ (List.mem_of_getElem? (i := 32) rfl)) e43 c49 V43 (Or.inl ⟨rfl, rfl⟩) (sp := (0 : Int32)) (dp := (16 : Int32)) (nn := (16 : Int32)) (us := [(.int w0), (.int w1), (.int w2), (.int w3), (.int w4), (.int w5), (.int w6), (.int w7), (.int w8), (.int w9), (.int w10), (.int w11), (.int w12), (.int w13), (.int w14), (.int w15)]) (by decide) (by decide) (by decide) (by decide) (by decide) rfl (Nat.le_of_ble_eq_true rfl) N43 g39 (g := (mkF m 129 #[.val (.ref o0), .val (.ref o1), .val (.ref o2), .val (.int p3), .val (.int p4), .val (.int p5), .val (.int (16 : Int32)), .val (.ref b32), .unset] [(.int (16 : Int32)), (.int (16 : Int32)), (.ref b32), (.int (0 : Int32)), (.ref o2)])) rfl (by rw [hml]; rfl) rfl (hb hby d1_129) (by decide) (W := 0) (by show 2 * 0 + _ ≤ _; exact Nat.le_of_eq rfl) (by decide)
  have z50 : n0 ≤ h48.size := Nat.le_trans z45 K48.1
  have kz51 : kk28 ≤ h48.size := Nat.le_trans kz46 K48.1
  have K52 : Keep h0 h48 ([o0] : List Addr) := K47.trans K48 (allS (Or.inr sz_b32) all0)
  have V48 : Arv Z h48 b32 k32 .byte (37 : Int32) [(.int u0), (.int u1), (.int u2), (.int u3), (.int u4), (.int u5), (.int u6), (.int u7), (.int u8), (.int u9), (.int u10), (.int u11), (.int u12), (.int u13), (.int u14), (.int u15), (.int w0), (.int w1), (.int w2), (.int w3), (.int w4), (.int w5), (.int w6), (.int w7), (.int w8), (.int w9), (.int w10), (.int w11), (.int w12), (.int w13), (.int w14), (.int w15), (.int (0 : Int32)), (.int (0 : Int32)), (.int (0 : Int32)), (.int (0 : Int32)), (.int (0 : Int32))] (.int (0 : Int32)) := A48
  refine gobW st48 ?_
  show GoW _ _ _ _ _ _ _ (T48.setTop (mkF m 132 #[.val (.ref o0), .val (.ref o1), .val (.ref o2), .val (.int p3), .val (.int p4), .val (.int p5), .val (.int (16 : Int32)), .val (.ref b32), .unset] []))
  refine gobW (fun _ k => XS.iconst X48.here hx rfl (hb hby d1_132) k) ?_
  show GoW _ _ _ _ _ _ _ (T48.setTop (mkF m 133 #[.val (.ref o0), .val (.ref o1), .val (.ref o2), .val (.int p3), .val (.int p4), .val (.int p5), .val (.int (16 : Int32)), .val (.ref b32), .unset] [(.int (2 : Int32))]))
  refine gobW (fun _ k => XS.iload X48.here hx rfl (hb hby d1_133) rfl k) ?_
  show GoW _ _ _ _ _ _ _ (T48.setTop (mkF m 135 #[.val (.ref o0), .val (.ref o1), .val (.ref o2), .val (.int p3), .val (.int p4), .val (.int p5), .val (.int (16 : Int32)), .val (.ref b32), .unset] [(.int (16 : Int32)), (.int (2 : Int32))]))
  refine gobW (fun _ k => XS.imul X48.here hx rfl (hb hby d1_135) rfl k) ?_
  show GoW _ _ _ _ _ _ _ (T48.setTop (mkF m 136 #[.val (.ref o0), .val (.ref o1), .val (.ref o2), .val (.int p3), .val (.int p4), .val (.int p5), .val (.int (16 : Int32)), .val (.ref b32), .unset] [(.int (32 : Int32))]))
  refine gobW (fun _ k => XS.istore X48.here hx rfl (hb hby d1_136) rfl (l' := #[.val (.ref o0), .val (.ref o1), .val (.ref o2), .val (.int p3), .val (.int p4), .val (.int p5), .val (.int (16 : Int32)), .val (.ref b32), .val (.int (32 : Int32))]) rfl k) ?_
  show GoW _ _ _ _ _ _ _ (T48.setTop (mkF m 138 #[.val (.ref o0), .val (.ref o1), .val (.ref o2), .val (.int p3), .val (.int p4), .val (.int p5), .val (.int (16 : Int32)), .val (.ref b32), .val (.int (32 : Int32))] []))
  refine gobW (fun _ k => XS.aload X48.here hx rfl (hb hby d1_138) rfl rfl k) ?_
  show GoW _ _ _ _ _ _ _ (T48.setTop (mkF m 140 #[.val (.ref o0), .val (.ref o1), .val (.ref o2), .val (.int p3), .val (.int p4), .val (.int p5), .val (.int (16 : Int32)), .val (.ref b32), .val (.int (32 : Int32))] [(.ref b32)]))
  refine gobW (fun _ k => XS.iload X48.here hx rfl (hb hby d1_140) rfl k) ?_
  show GoW _ _ _ _ _ _ _ (T48.setTop (mkF m 142 #[.val (.ref o0), .val (.ref o1), .val (.ref o2), .val (.int p3), .val (.int p4), .val (.int p5), .val (.int (16 : Int32)), .val (.ref b32), .val (.int (32 : Int32))] [(.int (32 : Int32)), (.ref b32)]))
  refine gobW (fun _ k => XS.iconst X48.here hx rfl (hb hby d1_142) k) ?_
  show GoW _ _ _ _ _ _ _ (T48.setTop (mkF m 143 #[.val (.ref o0), .val (.ref o1), .val (.ref o2), .val (.int p3), .val (.int p4), .val (.int p5), .val (.int (16 : Int32)), .val (.ref b32), .val (.int (32 : Int32))] [(.int (0 : Int32)), (.int (32 : Int32)), (.ref b32)]))
  refine gobW (fun _ k => XS.iadd X48.here hx rfl (hb hby d1_143) rfl k) ?_
  show GoW _ _ _ _ _ _ _ (T48.setTop (mkF m 144 #[.val (.ref o0), .val (.ref o1), .val (.ref o2), .val (.int p3), .val (.int p4), .val (.int p5), .val (.int (16 : Int32)), .val (.ref b32), .val (.int (32 : Int32))] [(.int (32 : Int32)), (.ref b32)]))
  refine gobW (fun _ k => XS.iloadN X48.here hx rfl (hb hby d1_144) rfl k) ?_
  show GoW _ _ _ _ _ _ _ (T48.setTop (mkF m 145 #[.val (.ref o0), .val (.ref o1), .val (.ref o2), .val (.int p3), .val (.int p4), .val (.int p5), .val (.int (16 : Int32)), .val (.ref b32), .val (.int (32 : Int32))] [(.int p3), (.int (32 : Int32)), (.ref b32)]))
  refine gobW (fun _ k => XS.i2b X48.here hx rfl (hb hby d1_145) rfl k) ?_
  show GoW _ _ _ _ _ _ _ (T48.setTop (mkF m 146 #[.val (.ref o0), .val (.ref o1), .val (.ref o2), .val (.int p3), .val (.int p4), .val (.int p5), .val (.int (16 : Int32)), .val (.ref b32), .val (.int (32 : Int32))] [(.int (p3.toInt8.toInt32)), (.int (32 : Int32)), (.ref b32)]))
  obtain ⟨cl53, Ar53, aq53, S53, N53, H53, G53⟩ := id V48
  have hin53 : ¬ ((32 : Int32) < 0 ∨ cl53.slots.size ≤ ((32 : Int32)).toNatClampNeg) := inb_of S53 ⟨by decide, by decide⟩
  obtain ⟨T54, h54, X54, e54, W54, st54⟩ := stB X48 hx hZ e48 Ar53 (j := (32 : Int32)) hin53 (g := (mkF m 146 #[.val (.ref o0), .val (.ref o1), .val (.ref o2), .val (.int p3), .val (.int p4), .val (.int p5), .val (.int (16 : Int32)), .val (.ref b32), .val (.int (32 : Int32))] [(.int (p3.toInt8.toInt32)), (.int (32 : Int32)), (.ref b32)])) rfl rfl (hb hby d1_146)
  refine gobW st54 ?_
  have z55 : n0 ≤ h54.size := Nat.le_trans z50 (Keep.of_wr W54).1
  have kz56 : kk28 ≤ h54.size := Nat.le_trans kz51 (Keep.of_wr W54).1
  have N54 := Fr.snoc X54 N48 g39
  have K57 : Keep h0 h54 ([o0] : List Addr) := K52.wr W54 (Or.inr sz_b32)
  have V54 : Arv Z h54 b32 k32 .byte (37 : Int32) [(.int u0), (.int u1), (.int u2), (.int u3), (.int u4), (.int u5), (.int u6), (.int u7), (.int u8), (.int u9), (.int u10), (.int u11), (.int u12), (.int u13), (.int u14), (.int u15), (.int w0), (.int w1), (.int w2), (.int w3), (.int w4), (.int w5), (.int w6), (.int w7), (.int w8), (.int w9), (.int w10), (.int w11), (.int w12), (.int w13), (.int w14), (.int w15), (.int (nar .byte (p3.toInt8.toInt32))), (.int (0 : Int32)), (.int (0 : Int32)), (.int (0 : Int32)), (.int (0 : Int32))] (.int (0 : Int32)) := Arv.set Ar53 aq53 S53 N53 H53 G53 (fits_nar_byte _) W54 32 rfl (Nat.le_of_ble_eq_true rfl)
  show GoW _ _ _ _ _ _ _ (T54.setTop (mkF m 147 #[.val (.ref o0), .val (.ref o1), .val (.ref o2), .val (.int p3), .val (.int p4), .val (.int p5), .val (.int (16 : Int32)), .val (.ref b32), .val (.int (32 : Int32))] []))
  refine gobW (fun _ k => XS.aload X54.here hx rfl (hb hby d1_147) rfl rfl k) ?_
  show GoW _ _ _ _ _ _ _ (T54.setTop (mkF m 149 #[.val (.ref o0), .val (.ref o1), .val (.ref o2), .val (.int p3), .val (.int p4), .val (.int p5), .val (.int (16 : Int32)), .val (.ref b32), .val (.int (32 : Int32))] [(.ref b32)]))
  refine gobW (fun _ k => XS.iload X54.here hx rfl (hb hby d1_149) rfl k) ?_
  show GoW _ _ _ _ _ _ _ (T54.setTop (mkF m 151 #[.val (.ref o0), .val (.ref o1), .val (.ref o2), .val (.int p3), .val (.int p4), .val (.int p5), .val (.int (16 : Int32)), .val (.ref b32), .val (.int (32 : Int32))] [(.int (32 : Int32)), (.ref b32)]))
  refine gobW (fun _ k => XS.iconst X54.here hx rfl (hb hby d1_151) k) ?_
  show GoW _ _ _ _ _ _ _ (T54.setTop (mkF m 152 #[.val (.ref o0), .val (.ref o1), .val (.ref o2), .val (.int p3), .val (.int p4), .val (.int p5), .val (.int (16 : Int32)), .val (.ref b32), .val (.int (32 : Int32))] [(.int (1 : Int32)), (.int (32 : Int32)), (.ref b32)]))
  refine gobW (fun _ k => XS.iadd X54.here hx rfl (hb hby d1_152) rfl k) ?_
  show GoW _ _ _ _ _ _ _ (T54.setTop (mkF m 153 #[.val (.ref o0), .val (.ref o1), .val (.ref o2), .val (.int p3), .val (.int p4), .val (.int p5), .val (.int (16 : Int32)), .val (.ref b32), .val (.int (32 : Int32))] [(.int (33 : Int32)), (.ref b32)]))
  refine gobW (fun _ k => XS.iload X54.here hx rfl (hb hby d1_153) rfl k) ?_
  show GoW _ _ _ _ _ _ _ (T54.setTop (mkF m 155 #[.val (.ref o0), .val (.ref o1), .val (.ref o2), .val (.int p3), .val (.int p4), .val (.int p5), .val (.int (16 : Int32)), .val (.ref b32), .val (.int (32 : Int32))] [(.int p4), (.int (33 : Int32)), (.ref b32)]))
  obtain ⟨_, _, ⟨T58, L58, k58, n58⟩, -, X58, ⟨Lc58, hQ58, l58, y58, z58⟩, st58⟩ := Jvm.LawKit.callS X54 hx (y := (⟨"com/example/flomem/flomem/core/FlowKey", "putPort", "([BII)V"⟩ : MethodName)) hown (mvT hZ (hw _ (List.mem_of_getElem? (i := 34) rfl))) (mvT hZ (hw _ (List.mem_of_getElem? (i := 35) rfl))) (mvT hZ (hw _ (List.mem_of_getElem? (i := 3) rfl))) (mvT hZ (hw _ (List.mem_of_getElem? (i := 36) rfl))) (by decide) (backOf (W := 0) (rm5_16_1 l Z a0 hw [] b32 p4 k32 u0 u1 u2 u3 u4 u5 u6 u7 u8 u9 u10 u11 u12 u13 u14 u15 w0 w1 w2 w3 w4 w5 w6 w7 w8 w9 w10 w11 w12 w13 w14 w15 (nar .byte (p3.toInt8.toInt32)) (0 : Int32) (0 : Int32) (0 : Int32) (0 : Int32) h54 n0 z55 V54 g39) hZ (hw _ (List.mem_of_getElem? (i := 36) rfl)) (hw _ (List.mem_of_getElem? (i := 3) rfl)) (by decide) (by decide)) (g := (mkF m 155 #[.val (.ref o0), .val (.ref o1), .val (.ref o2), .val (.int p3), .val (.int p4), .val (.int p5), .val (.int (16 : Int32)), .val (.ref b32), .val (.int (32 : Int32))] [(.int p4), (.int (33 : Int32)), (.ref b32)])) rfl (by rw [hml]; rfl) (argsL := [(.ref b32), (.int (33 : Int32)), (.int p4)]) (rest := []) (lenOf pd_2 rfl) rfl (by show 2 * 0 + _ ≤ _; exact Nat.le_of_eq rfl) (hb hby d1_155) (fun _ _ => ⟨rfl, e54, (by decide : 11 + 0 ≤ _), (by decide : 321 + 0 ≤ _)⟩)
  dsimp only [Pt.U, Pt.locs, Pt.cells, Pt.slots] at X58 l58 y58 z58 st58 hQ58
  replace X58 := castX X58 (y58.trans (rfl : _ = 11)) (z58.trans (rfl : _ = 321))
  obtain ⟨rfl, Nq58, K58, F59⟩ := hQ58
  have N58 : Fr n0 L58 := l58 ▸ Fr.app N54 Nq58
  have z60 : n0 ≤ T58.heap.size := Nat.le_trans z55 K58.1
  have kz61 : kk28 ≤ T58.heap.size := Nat.le_trans kz56 K58.1
  have K62 : Keep h0 T58.heap ([o0] : List Addr) := K57.trans K58 (allS (Or.inr sz_b32) all0)
  refine gobW st58 ?_
  show GoW _ _ _ _ _ _ _ (T58.setTop (mkF m 158 #[.val (.ref o0), .val (.ref o1), .val (.ref o2), .val (.int p3), .val (.int p4), .val (.int p5), .val (.int (16 : Int32)), .val (.ref b32), .val (.int (32 : Int32))] []))
  refine gobW (fun _ k => XS.aload X58.here hx rfl (hb hby d1_158) rfl rfl k) ?_
  show GoW _ _ _ _ _ _ _ (T58.setTop (mkF m 160 #[.val (.ref o0), .val (.ref o1), .val (.ref o2), .val (.int p3), .val (.int p4), .val (.int p5), .val (.int (16 : Int32)), .val (.ref b32), .val (.int (32 : Int32))] [(.ref b32)]))
  refine gobW (fun _ k => XS.iload X58.here hx rfl (hb hby d1_160) rfl k) ?_
  show GoW _ _ _ _ _ _ _ (T58.setTop (mkF m 162 #[.val (.ref o0), .val (.ref o1), .val (.ref o2), .val (.int p3), .val (.int p4), .val (.int p5), .val (.int (16 : Int32)), .val (.ref b32), .val (.int (32 : Int32))] [(.int (32 : Int32)), (.ref b32)]))
  refine gobW (fun _ k => XS.iconst X58.here hx rfl (hb hby d1_162) k) ?_
  show GoW _ _ _ _ _ _ _ (T58.setTop (mkF m 163 #[.val (.ref o0), .val (.ref o1), .val (.ref o2), .val (.int p3), .val (.int p4), .val (.int p5), .val (.int (16 : Int32)), .val (.ref b32), .val (.int (32 : Int32))] [(.int (3 : Int32)), (.int (32 : Int32)), (.ref b32)]))
  refine gobW (fun _ k => XS.iadd X58.here hx rfl (hb hby d1_163) rfl k) ?_
  show GoW _ _ _ _ _ _ _ (T58.setTop (mkF m 164 #[.val (.ref o0), .val (.ref o1), .val (.ref o2), .val (.int p3), .val (.int p4), .val (.int p5), .val (.int (16 : Int32)), .val (.ref b32), .val (.int (32 : Int32))] [(.int (35 : Int32)), (.ref b32)]))
  refine gobW (fun _ k => XS.iload X58.here hx rfl (hb hby d1_164) rfl k) ?_
  show GoW _ _ _ _ _ _ _ (T58.setTop (mkF m 166 #[.val (.ref o0), .val (.ref o1), .val (.ref o2), .val (.int p3), .val (.int p4), .val (.int p5), .val (.int (16 : Int32)), .val (.ref b32), .val (.int (32 : Int32))] [(.int p5), (.int (35 : Int32)), (.ref b32)]))
  obtain ⟨_, _, ⟨T63, L63, k63, n63⟩, -, X63, ⟨Lc63, hQ63, l63, y63, z63⟩, st63⟩ := Jvm.LawKit.callS X58 hx (y := (⟨"com/example/flomem/flomem/core/FlowKey", "putPort", "([BII)V"⟩ : MethodName)) hown (mvT hZ (hw _ (List.mem_of_getElem? (i := 34) rfl))) (mvT hZ (hw _ (List.mem_of_getElem? (i := 35) rfl))) (mvT hZ (hw _ (List.mem_of_getElem? (i := 3) rfl))) (mvT hZ (hw _ (List.mem_of_getElem? (i := 36) rfl))) (by decide) (backOf (W := 0) (rm5_16_3 l Z a0 hw [] b32 p5 k32 u0 u1 u2 u3 u4 u5 u6 u7 u8 u9 u10 u11 u12 u13 u14 u15 w0 w1 w2 w3 w4 w5 w6 w7 w8 w9 w10 w11 w12 w13 w14 w15 (nar .byte (p3.toInt8.toInt32)) (nar .byte (((p4.toUInt32 >>> ((8 : Int32) &&& 31).toUInt32).toInt32).toInt8.toInt32)) (nar .byte (p4.toInt8.toInt32)) (0 : Int32) (0 : Int32) T58.heap n0 z60 F59 g39) hZ (hw _ (List.mem_of_getElem? (i := 36) rfl)) (hw _ (List.mem_of_getElem? (i := 3) rfl)) (by decide) (by decide)) (g := (mkF m 166 #[.val (.ref o0), .val (.ref o1), .val (.ref o2), .val (.int p3), .val (.int p4), .val (.int p5), .val (.int (16 : Int32)), .val (.ref b32), .val (.int (32 : Int32))] [(.int p5), (.int (35 : Int32)), (.ref b32)])) rfl (by rw [hml]; rfl) (argsL := [(.ref b32), (.int (35 : Int32)), (.int p5)]) (rest := []) (lenOf pd_2 rfl) rfl (by show 2 * 0 + _ ≤ _; exact Nat.le_of_eq rfl) (hb hby d1_166) (fun _ _ => ⟨rfl, (rfl : T58.heap = _), (by decide : 11 + 0 ≤ _), (by decide : 321 + 0 ≤ _)⟩)
  dsimp only [Pt.U, Pt.locs, Pt.cells, Pt.slots] at X63 l63 y63 z63 st63 hQ63
  replace X63 := castX X63 (y63.trans (rfl : _ = 11)) (z63.trans (rfl : _ = 321))
  obtain ⟨rfl, Nq63, K63, F64⟩ := hQ63
  have N63 : Fr n0 L63 := l63 ▸ Fr.app N58 Nq63
  have z65 : n0 ≤ T63.heap.size := Nat.le_trans z60 K63.1
  have kz66 : kk28 ≤ T63.heap.size := Nat.le_trans kz61 K63.1
  have K67 : Keep h0 T63.heap ([o0] : List Addr) := K62.trans K63 (allS (Or.inr sz_b32) all0)
  refine gobW st63 ?_
  show GoW _ _ _ _ _ _ _ (T63.setTop (mkF m 169 #[.val (.ref o0), .val (.ref o1), .val (.ref o2), .val (.int p3), .val (.int p4), .val (.int p5), .val (.int (16 : Int32)), .val (.ref b32), .val (.int (32 : Int32))] []))
  refine gobW (fun _ k => XS.aloadN X63.here hx rfl (hb hby d1_169) rfl rfl k) ?_
  show GoW _ _ _ _ _ _ _ (T63.setTop (mkF m 170 #[.val (.ref o0), .val (.ref o1), .val (.ref o2), .val (.int p3), .val (.int p4), .val (.int p5), .val (.int (16 : Int32)), .val (.ref b32), .val (.int (32 : Int32))] [(.ref o0)]))
  refine gobW (fun _ k => XS.aload X63.here hx rfl (hb hby d1_170) rfl rfl k) ?_
  show GoW _ _ _ _ _ _ _ (T63.setTop (mkF m 172 #[.val (.ref o0), .val (.ref o1), .val (.ref o2), .val (.int p3), .val (.int p4), .val (.int p5), .val (.int (16 : Int32)), .val (.ref b32), .val (.int (32 : Int32))] [(.ref b32), (.ref o0)]))
  have c68 := (((((((((((((F_encoded_o0.ext E2).keep K5 nin0).ext E9).keep K12 nin0).ext E20).ext E24).ext E28).ext E32).keep K43 (ninS n34 nin0)).keep K48 (ninS n34 nin0)).other W54 (Or.inl n34)).keep K58 (ninS n34 nin0)).keep K63 (ninS n34 nin0))
  have c69 := ((((((c33.ext E32).keep K43).keep K48).wr W54).keep K58).keep K63)
  obtain ⟨T70, h70, X70, e70, W70, st70⟩ := putF X63 hx hZ hown (host := "") (Or.inl (hw _ (List.mem_of_getElem? (i := 37) rfl))) Via.refl (rfl : T63.heap = _) c68 c69 (Or.inr ⟨(hw _ (List.mem_of_getElem? (i := 38) rfl)), rfl, hnm⟩) (hw _ (List.mem_of_getElem? (i := 2) rfl)) (ty := (.array .byte)) (by decide) rfl rfl (g := (mkF m 172 #[.val (.ref o0), .val (.ref o1), .val (.ref o2), .val (.int p3), .val (.int p4), .val (.int p5), .val (.int (16 : Int32)), .val (.ref b32), .val (.int (32 : Int32))] [(.ref b32), (.ref o0)])) rfl rfl (hb hby d1_172)
  refine gobW st70 ?_
  have z71 : n0 ≤ h70.size := Nat.le_trans z65 (Keep.of_wr W70).1
  have kz72 : kk28 ≤ h70.size := Nat.le_trans kz66 (Keep.of_wr W70).1
  have N70 := Fr.snoc X70 N63 g_o0
  have K73 : Keep h0 h70 ([o0] : List Addr) := K67.wr W70 (Or.inl (List.mem_of_getElem? (i := 0) rfl))
  have Fw70 := c68.same W70
  show GoW _ _ _ _ _ _ _ (T70.setTop (mkF m 175 #[.val (.ref o0), .val (.ref o1), .val (.ref o2), .val (.int p3), .val (.int p4), .val (.int p5), .val (.int (16 : Int32)), .val (.ref b32), .val (.int (32 : Int32))] []))
  refine goVW X70 hx hlk hS (leH e70 kz72) Bd.returns (hb hby d1_175) ?_ (by decide) (by decide)
  show Q1_16 Z o0 o1 o2 p3 p4 p5 k_o1 u0 u1 u2 u3 u4 u5 u6 u7 u8 u9 u10 u11 u12 u13 u14 u15 k_o2 w0 w1 w2 w3 w4 w5 w6 w7 w8 w9 w10 w11 w12 w13 w14 w15 h0 n0 (none) T70.heap _
  have c74 := (F64.other W70 (Ne.symm n34))
  rw [e70]
  exact ⟨b32, k32, rfl, N70, K73, sz_b32, c74, Fw70⟩
theorem d6_0 : decode prog_32_method_2_code 0 = .ok (.aload_n 0, 1) := by decide +kernel
theorem d6_1 : decode prog_32_method_2_code 1 = .ok (.getfield 52, 3) := by decide +kernel
theorem d6_4 : decode prog_32_method_2_code 4 = .ok (.arraylength, 1) := by decide +kernel
theorem d6_5 : decode prog_32_method_2_code 5 = .ok (.bipush 37, 2) := by decide +kernel
theorem d6_7 : decode prog_32_method_2_code 7 = .ok (.if_icmp .ne 7, 3) := by decide +kernel
theorem d6_10 : decode prog_32_method_2_code 10 = .ok (.iconst 1, 1) := by decide +kernel
theorem d6_11 : decode prog_32_method_2_code 11 = .ok (.goto 4, 3) := by decide +kernel
theorem d6_14 : decode prog_32_method_2_code 14 = .ok (.iconst 0, 1) := by decide +kernel
theorem d6_15 : decode prog_32_method_2_code 15 = .ok (.ireturn, 1) := by decide +kernel
theorem ef_6_13 (m : MethodId) (x0 : Addr) : entryFrame m #[(.ref x0)] 1 = mkF m 0 #[.val (.ref x0)] [] := by first | (simp [entryFrame, mkF, argsToLocals, Value.category]; done) | rfl
def Q6_13 (Z : State) (o0 : Addr) (w_e : Addr) (k_e : ClassId) (vs_ : List Value) (h0 : Heap) (n0 : Nat) (v : Option Value) (h : Heap) (L : List Loc) : Prop := v = some (.int (0 : Int32)) ∧ Fr n0 L ∧ h = h0
set_option maxRecDepth 65536 in
set_option maxHeartbeats 40000000 in
theorem rm6_13 (l : Launch) (Z : State) (a0 : Array Value) (hw : ∀ d ∈ tables_1, d.before a0 Z = true) (ws : List Jvm.Cond) (o0 : Addr) (w_e : Addr) (k_e : ClassId) (vs_ : List Value) (h0 : Heap) (n0 : Nat) (Z0 : n0 ≤ h0.size) (F_e : Fld Z h0 o0 "com/example/flomem/flomem/core/FlowKey" "encoded" "[B" (.ref w_e)) (V_e : Arv Z h0 w_e k_e .byte (13 : Int32) vs_ (.int (0 : Int32))) :
    MetFree l (⟨"com/example/flomem/flomem/core/FlowKey", "isIpv6", "()Z"⟩ : MethodName) (head1 (Jvm.Cond.code (⟨"com/example/flomem/flomem/core/FlowKey", "isIpv6", "()Z"⟩ : MethodName) prog_32_method_2_code 1 (some .boolean) :: ws) ({ frames := 0, cells := 0, slots := 0, locals := 0 } : Room)) (fun a U => a = #[(.ref o0)] ∧ Z.Warmed39 U.vm ∧ U.heap = h0) (fun _ _ _ _ _ => True) (fun _ U o U' => ∃ v L, o = .returned v ∧ Q6_13 Z o0 w_e k_e vs_ h0 n0 v U'.heap L ∧ FrameEnd U o U' L ({ frames := 0, cells := 0, slots := 0, locals := 0 } : Room).cells ({ frames := 0, cells := 0, slots := 0, locals := 0 } : Room).slots) := by
  refine MetFree.of_bodySF (plainFor_of_name (by first | (simp [plainName, overriddenIn]; done) | decide +kernel)) hisR ?_
  intro p e s m args below meth c s₁ Bd hml0 hP hK
  obtain ⟨rfl, hZ, hh⟩ := hP
  have hx := Bd.exec
  have hby := Bd.bytes
  have hml : c.maxLocals = 1 := hml0
  have hown : s.vm.findClass "com/example/flomem/flomem/core/FlowKey" = some m.cls := findClass_of_methodNamed Bd.named
  have hnm := (name_of_methodNamed Bd.named Bd.method).1
  have hlk := BodyLoose.notSynchronized Bd
  have X0 : Stand p l e ({ frames := 0, cells := 0, slots := 0, locals := 0 } : Room) s m #[(.ref o0)] below meth c s₁ [] 0 0 := Stand.of_body Bd
  have e0 : s₁.heap = h0 := by rw [← hh, Bd.state]; rfl
  have N0 := Fr.nil n0
  show Go p e below s (Q6_13 Z o0 w_e k_e vs_ h0 n0) 0 0 (s₁.setTop (entryFrame m #[(.ref o0)] 1))
  rw [ef_6_13]
  show Go _ _ _ _ _ _ _ (s₁.setTop (mkF m 0 #[.val (.ref o0)] []))
  refine gob (fun _ k => XS.aloadN X0.here hx rfl (hb hby d6_0) rfl rfl k) ?_
  show Go _ _ _ _ _ _ _ (s₁.setTop (mkF m 1 #[.val (.ref o0)] [(.ref o0)]))
  obtain ⟨T1, X1, e1, st1⟩ := getF X0 hx hZ hown (host := "") (Or.inl (hw _ (List.mem_of_getElem? (i := 37) rfl))) Via.refl e0 F_e (g := (mkF m 1 #[.val (.ref o0)] [(.ref o0)])) rfl rfl (hb hby d6_1)
  refine gob st1 ?_
  show Go _ _ _ _ _ _ _ (T1.setTop (mkF m 4 #[.val (.ref o0)] [(.ref w_e)]))
  obtain ⟨cl2, Ar2, aq2, S2, N2, H2, G2⟩ := id V_e
  refine gob (X1.arraylength hx (by rw [e1]; exact Ar2.1) (State.isArrayOf_alike hZ.alike Ar2.2.1) (g := (mkF m 4 #[.val (.ref o0)] [(.ref w_e)])) rfl rfl (hb hby d6_4)) ?_
  rw [len_of S2 N2]
  show Go _ _ _ _ _ _ _ (T1.setTop (mkF m 5 #[.val (.ref o0)] [(.int (13 : Int32))]))
  refine gob (fun _ k => XS.bipush X1.here hx rfl (hb hby d6_5) k) ?_
  show Go _ _ _ _ _ _ _ (T1.setTop (mkF m 7 #[.val (.ref o0)] [(.int (37 : Int32)), (.int (13 : Int32))]))
  refine gob (fun _ k => XS.icmpYes X1.here hx rfl (pc0 := 7) (pc' := 14) rfl (hb hby d6_7) rfl (feq (by decide : ¬ ((13 : Int32) = (37 : Int32)))).2 (by decide) (by decide) k) ?_
  show Go _ _ _ _ _ _ _ (T1.setTop (mkF m 14 #[.val (.ref o0)] []))
  refine gob (fun _ k => XS.iconst X1.here hx rfl (hb hby d6_14) k) ?_
  show Go _ _ _ _ _ _ _ (T1.setTop (mkF m 15 #[.val (.ref o0)] [(.int (0 : Int32))]))
  refine goZ X1 hx hlk (t := .boolean) Bd.returns (by simp) (hb hby d6_15) (z' := (0 : Int32)) rfl ?_ (by decide) (by decide)
  show Q6_13 Z o0 w_e k_e vs_ h0 n0 (some (.int (0 : Int32))) T1.heap _
  exact ⟨rfl, N0, e1⟩
theorem ef_6_37 (m : MethodId) (x0 : Addr) : entryFrame m #[(.ref x0)] 1 = mkF m 0 #[.val (.ref x0)] [] := by first | (simp [entryFrame, mkF, argsToLocals, Value.category]; done) | rfl
def Q6_37 (Z : State) (o0 : Addr) (w_e : Addr) (k_e : ClassId) (vs_ : List Value) (h0 : Heap) (n0 : Nat) (v : Option Value) (h : Heap) (L : List Loc) : Prop := v = some (.int (1 : Int32)) ∧ Fr n0 L ∧ h = h0
set_option maxRecDepth 65536 in
set_option maxHeartbeats 40000000 in
theorem rm6_37 (l : Launch) (Z : State) (a0 : Array Value) (hw : ∀ d ∈ tables_1, d.before a0 Z = true) (ws : List Jvm.Cond) (o0 : Addr) (w_e : Addr) (k_e : ClassId) (vs_ : List Value) (h0 : Heap) (n0 : Nat) (Z0 : n0 ≤ h0.size) (F_e : Fld Z h0 o0 "com/example/flomem/flomem/core/FlowKey" "encoded" "[B" (.ref w_e)) (V_e : Arv Z h0 w_e k_e .byte (37 : Int32) vs_ (.int (0 : Int32))) :
    MetFree l (⟨"com/example/flomem/flomem/core/FlowKey", "isIpv6", "()Z"⟩ : MethodName) (head1 (Jvm.Cond.code (⟨"com/example/flomem/flomem/core/FlowKey", "isIpv6", "()Z"⟩ : MethodName) prog_32_method_2_code 1 (some .boolean) :: ws) ({ frames := 0, cells := 0, slots := 0, locals := 0 } : Room)) (fun a U => a = #[(.ref o0)] ∧ Z.Warmed39 U.vm ∧ U.heap = h0) (fun _ _ _ _ _ => True) (fun _ U o U' => ∃ v L, o = .returned v ∧ Q6_37 Z o0 w_e k_e vs_ h0 n0 v U'.heap L ∧ FrameEnd U o U' L ({ frames := 0, cells := 0, slots := 0, locals := 0 } : Room).cells ({ frames := 0, cells := 0, slots := 0, locals := 0 } : Room).slots) := by
  refine MetFree.of_bodySF (plainFor_of_name (by first | (simp [plainName, overriddenIn]; done) | decide +kernel)) hisR ?_
  intro p e s m args below meth c s₁ Bd hml0 hP hK
  obtain ⟨rfl, hZ, hh⟩ := hP
  have hx := Bd.exec
  have hby := Bd.bytes
  have hml : c.maxLocals = 1 := hml0
  have hown : s.vm.findClass "com/example/flomem/flomem/core/FlowKey" = some m.cls := findClass_of_methodNamed Bd.named
  have hnm := (name_of_methodNamed Bd.named Bd.method).1
  have hlk := BodyLoose.notSynchronized Bd
  have X0 : Stand p l e ({ frames := 0, cells := 0, slots := 0, locals := 0 } : Room) s m #[(.ref o0)] below meth c s₁ [] 0 0 := Stand.of_body Bd
  have e0 : s₁.heap = h0 := by rw [← hh, Bd.state]; rfl
  have N0 := Fr.nil n0
  show Go p e below s (Q6_37 Z o0 w_e k_e vs_ h0 n0) 0 0 (s₁.setTop (entryFrame m #[(.ref o0)] 1))
  rw [ef_6_37]
  show Go _ _ _ _ _ _ _ (s₁.setTop (mkF m 0 #[.val (.ref o0)] []))
  refine gob (fun _ k => XS.aloadN X0.here hx rfl (hb hby d6_0) rfl rfl k) ?_
  show Go _ _ _ _ _ _ _ (s₁.setTop (mkF m 1 #[.val (.ref o0)] [(.ref o0)]))
  obtain ⟨T1, X1, e1, st1⟩ := getF X0 hx hZ hown (host := "") (Or.inl (hw _ (List.mem_of_getElem? (i := 37) rfl))) Via.refl e0 F_e (g := (mkF m 1 #[.val (.ref o0)] [(.ref o0)])) rfl rfl (hb hby d6_1)
  refine gob st1 ?_
  show Go _ _ _ _ _ _ _ (T1.setTop (mkF m 4 #[.val (.ref o0)] [(.ref w_e)]))
  obtain ⟨cl2, Ar2, aq2, S2, N2, H2, G2⟩ := id V_e
  refine gob (X1.arraylength hx (by rw [e1]; exact Ar2.1) (State.isArrayOf_alike hZ.alike Ar2.2.1) (g := (mkF m 4 #[.val (.ref o0)] [(.ref w_e)])) rfl rfl (hb hby d6_4)) ?_
  rw [len_of S2 N2]
  show Go _ _ _ _ _ _ _ (T1.setTop (mkF m 5 #[.val (.ref o0)] [(.int (37 : Int32))]))
  refine gob (fun _ k => XS.bipush X1.here hx rfl (hb hby d6_5) k) ?_
  show Go _ _ _ _ _ _ _ (T1.setTop (mkF m 7 #[.val (.ref o0)] [(.int (37 : Int32)), (.int (37 : Int32))]))
  refine gob (fun _ k => XS.icmpNo X1.here hx rfl (hb hby d6_7) rfl (teq (by decide : (37 : Int32) = (37 : Int32))).2 k) ?_
  show Go _ _ _ _ _ _ _ (T1.setTop (mkF m 10 #[.val (.ref o0)] []))
  refine gob (fun _ k => XS.iconst X1.here hx rfl (hb hby d6_10) k) ?_
  show Go _ _ _ _ _ _ _ (T1.setTop (mkF m 11 #[.val (.ref o0)] [(.int (1 : Int32))]))
  refine gob (fun _ k => XS.goto X1.here hx rfl (pc0 := 11) (pc' := 15) rfl (hb hby d6_11) (by decide) (by decide) k) ?_
  show Go _ _ _ _ _ _ _ (T1.setTop (mkF m 15 #[.val (.ref o0)] [(.int (1 : Int32))]))
  refine goZ X1 hx hlk (t := .boolean) Bd.returns (by simp) (hb hby d6_15) (z' := (1 : Int32)) rfl ?_ (by decide) (by decide)
  show Q6_37 Z o0 w_e k_e vs_ h0 n0 (some (.int (1 : Int32))) T1.heap _
  exact ⟨rfl, N0, e1⟩
theorem pd_3 : parseMethodDescriptor "([B[BIII)V" = some ⟨[(.array .byte), (.array .byte), .int, .int, .int], none⟩ := by decide +kernel
theorem pd_4 : parseMethodDescriptor "()Z" = some ⟨[], some .boolean⟩ := by decide +kernel
theorem ef_0 (m : MethodId) (x0 : Int32) (x1 : Int32) (x2 : Int32) (x3 : Int32) (x4 : Int32) (x5 : Int32) : entryFrame m #[(.int x0), (.int x1), (.int x2), (.int x3), (.int x4), (.int x5)] maxLocals = mkF m 0 #[.val (.int x0), .val (.int x1), .val (.int x2), .val (.int x3), .val (.int x4), .val (.int x5), .unset, .unset, .unset, .unset, .unset, .unset, .unset, .unset, .unset] [] := by first | (simp [entryFrame, mkF, argsToLocals, Value.category, maxLocals]; done) | rfl
def Q0 (Z : State) (p0 : Int32) (p1 : Int32) (p2 : Int32) (p3 : Int32) (p4 : Int32) (p5 : Int32) (h0 : Heap) (n0 : Nat) (v : Option Value) (h : Heap) (L : List Loc) : Prop := v = some (.int 1) ∧ Fr n0 L
theorem la_0_143_57 (p3 : Int32)  : ¬ ((p3 &&& (255 : Int32)) < (0 : Int32)) := by
  have := rng32 p3
  have : (0 : Int32).toInt = 0 := by decide
  have : (255 : Int32).toInt = 255 := by decide
  have : ((p3 &&& (255 : Int32))).toInt = (p3).toInt % (2 ^ 8 : Nat) := c_mask p3 (255 : Int32) 8 (by decide) (by decide)
  try (simp only [Int32.lt_iff_toInt_lt, Int32.le_iff_toInt_le, Int64.lt_iff_toInt_lt, Int64.le_iff_toInt_le, ← Int32.toInt_inj, ← Int64.toInt_inj, ne_eq] at *)
  omega
theorem la_0_143_58 (p3 : Int32)  : ¬ ((255 : Int32) < (p3 &&& (255 : Int32))) := by
  have := rng32 p3
  have : (255 : Int32).toInt = 255 := by decide
  have : ((p3 &&& (255 : Int32))).toInt = (p3).toInt % (2 ^ 8 : Nat) := c_mask p3 (255 : Int32) 8 (by decide) (by decide)
  try (simp only [Int32.lt_iff_toInt_lt, Int32.le_iff_toInt_le, Int64.lt_iff_toInt_lt, Int64.le_iff_toInt_le, ← Int32.toInt_inj, ← Int64.toInt_inj, ne_eq] at *)
  omega
theorem la_0_143_59 (p4 : Int32)  : ¬ ((p4 &&& (65535 : Int32)) < (0 : Int32)) := by
  have := rng32 p4
  have : (0 : Int32).toInt = 0 := by decide
  have : (65535 : Int32).toInt = 65535 := by decide
  have : ((p4 &&& (65535 : Int32))).toInt = (p4).toInt % (2 ^ 16 : Nat) := c_mask p4 (65535 : Int32) 16 (by decide) (by decide)
  try (simp only [Int32.lt_iff_toInt_lt, Int32.le_iff_toInt_le, Int64.lt_iff_toInt_lt, Int64.le_iff_toInt_le, ← Int32.toInt_inj, ← Int64.toInt_inj, ne_eq] at *)
  omega
theorem la_0_143_60 (p4 : Int32)  : ¬ ((65535 : Int32) < (p4 &&& (65535 : Int32))) := by
  have := rng32 p4
  have : (65535 : Int32).toInt = 65535 := by decide
  have : ((p4 &&& (65535 : Int32))).toInt = (p4).toInt % (2 ^ 16 : Nat) := c_mask p4 (65535 : Int32) 16 (by decide) (by decide)
  try (simp only [Int32.lt_iff_toInt_lt, Int32.le_iff_toInt_le, Int64.lt_iff_toInt_lt, Int64.le_iff_toInt_le, ← Int32.toInt_inj, ← Int64.toInt_inj, ne_eq] at *)
  omega
theorem la_0_143_61 (p5 : Int32)  : ¬ ((p5 &&& (65535 : Int32)) < (0 : Int32)) := by
  have := rng32 p5
  have : (0 : Int32).toInt = 0 := by decide
  have : (65535 : Int32).toInt = 65535 := by decide
  have : ((p5 &&& (65535 : Int32))).toInt = (p5).toInt % (2 ^ 16 : Nat) := c_mask p5 (65535 : Int32) 16 (by decide) (by decide)
  try (simp only [Int32.lt_iff_toInt_lt, Int32.le_iff_toInt_le, Int64.lt_iff_toInt_lt, Int64.le_iff_toInt_le, ← Int32.toInt_inj, ← Int64.toInt_inj, ne_eq] at *)
  omega
theorem la_0_143_62 (p5 : Int32)  : ¬ ((65535 : Int32) < (p5 &&& (65535 : Int32))) := by
  have := rng32 p5
  have : (65535 : Int32).toInt = 65535 := by decide
  have : ((p5 &&& (65535 : Int32))).toInt = (p5).toInt % (2 ^ 16 : Nat) := c_mask p5 (65535 : Int32) 16 (by decide) (by decide)
  try (simp only [Int32.lt_iff_toInt_lt, Int32.le_iff_toInt_le, Int64.lt_iff_toInt_lt, Int64.le_iff_toInt_le, ← Int32.toInt_inj, ← Int64.toInt_inj, ne_eq] at *)
  omega
theorem la_0_143_134 (p3 : Int32)  : ¬ ((p3 &&& (255 : Int32)) < (0 : Int32)) := by
  have := rng32 p3
  have : (0 : Int32).toInt = 0 := by decide
  have : (255 : Int32).toInt = 255 := by decide
  have : ((p3 &&& (255 : Int32))).toInt = (p3).toInt % (2 ^ 8 : Nat) := c_mask p3 (255 : Int32) 8 (by decide) (by decide)
  try (simp only [Int32.lt_iff_toInt_lt, Int32.le_iff_toInt_le, Int64.lt_iff_toInt_lt, Int64.le_iff_toInt_le, ← Int32.toInt_inj, ← Int64.toInt_inj, ne_eq] at *)
  omega
theorem la_0_143_135 (p3 : Int32)  : ¬ ((255 : Int32) < (p3 &&& (255 : Int32))) := by
  have := rng32 p3
  have : (255 : Int32).toInt = 255 := by decide
  have : ((p3 &&& (255 : Int32))).toInt = (p3).toInt % (2 ^ 8 : Nat) := c_mask p3 (255 : Int32) 8 (by decide) (by decide)
  try (simp only [Int32.lt_iff_toInt_lt, Int32.le_iff_toInt_le, Int64.lt_iff_toInt_lt, Int64.le_iff_toInt_le, ← Int32.toInt_inj, ← Int64.toInt_inj, ne_eq] at *)
  omega
theorem la_0_143_136 (p4 : Int32)  : ¬ ((p4 &&& (65535 : Int32)) < (0 : Int32)) := by
  have := rng32 p4
  have : (0 : Int32).toInt = 0 := by decide
  have : (65535 : Int32).toInt = 65535 := by decide
  have : ((p4 &&& (65535 : Int32))).toInt = (p4).toInt % (2 ^ 16 : Nat) := c_mask p4 (65535 : Int32) 16 (by decide) (by decide)
  try (simp only [Int32.lt_iff_toInt_lt, Int32.le_iff_toInt_le, Int64.lt_iff_toInt_lt, Int64.le_iff_toInt_le, ← Int32.toInt_inj, ← Int64.toInt_inj, ne_eq] at *)
  omega
theorem la_0_143_137 (p4 : Int32)  : ¬ ((65535 : Int32) < (p4 &&& (65535 : Int32))) := by
  have := rng32 p4
  have : (65535 : Int32).toInt = 65535 := by decide
  have : ((p4 &&& (65535 : Int32))).toInt = (p4).toInt % (2 ^ 16 : Nat) := c_mask p4 (65535 : Int32) 16 (by decide) (by decide)
  try (simp only [Int32.lt_iff_toInt_lt, Int32.le_iff_toInt_le, Int64.lt_iff_toInt_lt, Int64.le_iff_toInt_le, ← Int32.toInt_inj, ← Int64.toInt_inj, ne_eq] at *)
  omega
theorem la_0_143_138 (p5 : Int32)  : ¬ ((p5 &&& (65535 : Int32)) < (0 : Int32)) := by
  have := rng32 p5
  have : (0 : Int32).toInt = 0 := by decide
  have : (65535 : Int32).toInt = 65535 := by decide
  have : ((p5 &&& (65535 : Int32))).toInt = (p5).toInt % (2 ^ 16 : Nat) := c_mask p5 (65535 : Int32) 16 (by decide) (by decide)
  try (simp only [Int32.lt_iff_toInt_lt, Int32.le_iff_toInt_le, Int64.lt_iff_toInt_lt, Int64.le_iff_toInt_le, ← Int32.toInt_inj, ← Int64.toInt_inj, ne_eq] at *)
  omega
theorem la_0_143_139 (p5 : Int32)  : ¬ ((65535 : Int32) < (p5 &&& (65535 : Int32))) := by
  have := rng32 p5
  have : (65535 : Int32).toInt = 65535 := by decide
  have : ((p5 &&& (65535 : Int32))).toInt = (p5).toInt % (2 ^ 16 : Nat) := c_mask p5 (65535 : Int32) 16 (by decide) (by decide)
  try (simp only [Int32.lt_iff_toInt_lt, Int32.le_iff_toInt_le, Int64.lt_iff_toInt_lt, Int64.le_iff_toInt_le, ← Int32.toInt_inj, ← Int64.toInt_inj, ne_eq] at *)
  omega
set_option maxRecDepth 65536 in
set_option maxHeartbeats 40000000 in
theorem rm0 (l : Launch) (Z : State) (a0 : Array Value) (hw : ∀ d ∈ tables_1, d.before a0 Z = true) (ws : List Jvm.Cond) (p0 : Int32) (p1 : Int32) (p2 : Int32) (p3 : Int32) (p4 : Int32) (p5 : Int32) (h0 : Heap) (n0 : Nat) (Z0 : n0 ≤ h0.size) :
    MetFree l x (head1 (Jvm.Cond.code x code maxLocals ret :: ws) room_1) (fun a U => a = #[(.int p0), (.int p1), (.int p2), (.int p3), (.int p4), (.int p5)] ∧ Z.Warmed39 U.vm ∧ U.heap = h0) (fun _ _ _ _ _ => True) (fun _ U o U' => ∃ v L, o = .returned v ∧ Q0 Z p0 p1 p2 p3 p4 p5 h0 n0 v U'.heap L ∧ ReturnedEndW U o U' L 32 5376) := by
  refine MetFree.of_bodySF (plainFor_of_name (by first | (simp [plainName, overriddenIn]; done) | decide +kernel)) hisR ?_
  intro p e s m args below meth c s₁ Bd hml0 hP hK
  obtain ⟨rfl, hZ, hh⟩ := hP
  have hx := Bd.exec
  have hby := Bd.bytes
  have hml : c.maxLocals = 15 := hml0
  have hown : s.vm.findClass "com/example/flomem/flomem/core/FlowKeyIsIpv6PinLaw" = some m.cls := findClass_of_methodNamed Bd.named
  have hnm := (name_of_methodNamed Bd.named Bd.method).1
  have hlk := BodyLoose.notSynchronized Bd
  have X0 : Stand p l e room_1 s m #[(.int p0), (.int p1), (.int p2), (.int p3), (.int p4), (.int p5)] below meth c s₁ [] 0 0 := Stand.of_body Bd
  have e0 : s₁.heap = h0 := by rw [← hh, Bd.state]; rfl
  have N0 := Fr.nil n0
  show GoW p e below s (Q0 Z p0 p1 p2 p3 p4 p5 h0 n0) 32 5376 (s₁.setTop (entryFrame m #[(.int p0), (.int p1), (.int p2), (.int p3), (.int p4), (.int p5)] maxLocals))
  rw [ef_0]
  show GoW _ _ _ _ _ _ _ (s₁.setTop (mkF m 0 #[.val (.int p0), .val (.int p1), .val (.int p2), .val (.int p3), .val (.int p4), .val (.int p5), .unset, .unset, .unset, .unset, .unset, .unset, .unset, .unset, .unset] []))
  refine gobW (fun _ k => XS.iloadN X0.here hx rfl (hb hby at_0) rfl k) ?_
  show GoW _ _ _ _ _ _ _ (s₁.setTop (mkF m 1 #[.val (.int p0), .val (.int p1), .val (.int p2), .val (.int p3), .val (.int p4), .val (.int p5), .unset, .unset, .unset, .unset, .unset, .unset, .unset, .unset, .unset] [(.int p0)]))
  refine gobW (fun _ k => XS.iconst X0.here hx rfl (hb hby at_1) k) ?_
  show GoW _ _ _ _ _ _ _ (s₁.setTop (mkF m 2 #[.val (.int p0), .val (.int p1), .val (.int p2), .val (.int p3), .val (.int p4), .val (.int p5), .unset, .unset, .unset, .unset, .unset, .unset, .unset, .unset, .unset] [(.int (1 : Int32)), (.int p0)]))
  refine gobW (fun _ k => XS.iand X0.here hx rfl (hb hby at_2) rfl k) ?_
  show GoW _ _ _ _ _ _ _ (s₁.setTop (mkF m 3 #[.val (.int p0), .val (.int p1), .val (.int p2), .val (.int p3), .val (.int p4), .val (.int p5), .unset, .unset, .unset, .unset, .unset, .unset, .unset, .unset, .unset] [(.int (p0 &&& (1 : Int32)))]))
  by_cases hc3_1 : (p0 &&& (1 : Int32)) = (0 : Int32)
  · skip
    refine gobW (fun _ k => XS.ifYes X0.here hx rfl (pc0 := 3) (pc' := 10) rfl (hb hby at_3) rfl ((if0 _ _).trans (teq hc3_1).1) (by decide) (by decide) k) ?_
    show GoW _ _ _ _ _ _ _ (s₁.setTop (mkF m 10 #[.val (.int p0), .val (.int p1), .val (.int p2), .val (.int p3), .val (.int p4), .val (.int p5), .unset, .unset, .unset, .unset, .unset, .unset, .unset, .unset, .unset] []))
    refine gobW (fun _ k => XS.iconst X0.here hx rfl (hb hby at_10) k) ?_
    show GoW _ _ _ _ _ _ _ (s₁.setTop (mkF m 11 #[.val (.int p0), .val (.int p1), .val (.int p2), .val (.int p3), .val (.int p4), .val (.int p5), .unset, .unset, .unset, .unset, .unset, .unset, .unset, .unset, .unset] [(.int (0 : Int32))]))
    refine gobW (fun _ k => XS.istore X0.here hx rfl (hb hby at_11) rfl (l' := #[.val (.int p0), .val (.int p1), .val (.int p2), .val (.int p3), .val (.int p4), .val (.int p5), .val (.int (0 : Int32)), .unset, .unset, .unset, .unset, .unset, .unset, .unset, .unset]) rfl k) ?_
    show GoW _ _ _ _ _ _ _ (s₁.setTop (mkF m 13 #[.val (.int p0), .val (.int p1), .val (.int p2), .val (.int p3), .val (.int p4), .val (.int p5), .val (.int (0 : Int32)), .unset, .unset, .unset, .unset, .unset, .unset, .unset, .unset] []))
    refine gobW (fun _ k => XS.iconst X0.here hx rfl (hb hby at_13) k) ?_
    show GoW _ _ _ _ _ _ _ (s₁.setTop (mkF m 14 #[.val (.int p0), .val (.int p1), .val (.int p2), .val (.int p3), .val (.int p4), .val (.int p5), .val (.int (0 : Int32)), .unset, .unset, .unset, .unset, .unset, .unset, .unset, .unset] [(.int (4 : Int32))]))
    obtain ⟨T2, h2, k2, X2, e2, E2, A2, st2⟩ := newP X0 hx hZ (hw _ (List.mem_of_getElem? (i := 0) rfl)) e0 (g := (mkF m 14 #[.val (.int p0), .val (.int p1), .val (.int p2), .val (.int p3), .val (.int p4), .val (.int p5), .val (.int (0 : Int32)), .unset, .unset, .unset, .unset, .unset, .unset, .unset, .unset] [(.int (4 : Int32))])) rfl (hb hby at_14) rfl (by decide) (cap := 4) (by decide) (by decide) (by decide) (by decide)
    obtain ⟨b2, g2⟩ : ∃ z, z = h0.size := ⟨_, rfl⟩
    rw [← g2] at A2 st2
    have g3 : n0 ≤ b2 := Nat.le_trans Z0 (Nat.le_of_eq g2.symm)
    have z4 : n0 ≤ h2.size := Nat.le_trans Z0 E2.1
    have V2 : Arv Z h2 b2 k2 .byte (4 : Int32) [(.int (0 : Int32)), (.int (0 : Int32)), (.int (0 : Int32)), (.int (0 : Int32))] (.int (0 : Int32)) := (Arv.new A2 (by decide)).pad (pad_rep [] (.int (0 : Int32)) 4)
    refine gobW st2 ?_
    replace X2 := castX X2 (rfl : _ = 1) (rfl : _ = 4)
    show GoW _ _ _ _ _ _ _ (T2.setTop (mkF m 16 #[.val (.int p0), .val (.int p1), .val (.int p2), .val (.int p3), .val (.int p4), .val (.int p5), .val (.int (0 : Int32)), .unset, .unset, .unset, .unset, .unset, .unset, .unset, .unset] [(.ref b2)]))
    refine gobW (fun _ k => XS.astore X2.here hx rfl (hb hby at_16) rfl rfl (l' := #[.val (.int p0), .val (.int p1), .val (.int p2), .val (.int p3), .val (.int p4), .val (.int p5), .val (.int (0 : Int32)), .val (.ref b2), .unset, .unset, .unset, .unset, .unset, .unset, .unset]) rfl k) ?_
    show GoW _ _ _ _ _ _ _ (T2.setTop (mkF m 18 #[.val (.int p0), .val (.int p1), .val (.int p2), .val (.int p3), .val (.int p4), .val (.int p5), .val (.int (0 : Int32)), .val (.ref b2), .unset, .unset, .unset, .unset, .unset, .unset, .unset] []))
    refine gobW (fun _ k => XS.iconst X2.here hx rfl (hb hby at_18) k) ?_
    show GoW _ _ _ _ _ _ _ (T2.setTop (mkF m 19 #[.val (.int p0), .val (.int p1), .val (.int p2), .val (.int p3), .val (.int p4), .val (.int p5), .val (.int (0 : Int32)), .val (.ref b2), .unset, .unset, .unset, .unset, .unset, .unset, .unset] [(.int (4 : Int32))]))
    obtain ⟨T5, h5, k5, X5, e5, E5, A5, st5⟩ := newP X2 hx hZ (hw _ (List.mem_of_getElem? (i := 0) rfl)) e2 (g := (mkF m 19 #[.val (.int p0), .val (.int p1), .val (.int p2), .val (.int p3), .val (.int p4), .val (.int p5), .val (.int (0 : Int32)), .val (.ref b2), .unset, .unset, .unset, .unset, .unset, .unset, .unset] [(.int (4 : Int32))])) rfl (hb hby at_19) rfl (by decide) (cap := 4) (by decide) (by decide) (by decide) (by decide)
    obtain ⟨b5, g5⟩ : ∃ z, z = h2.size := ⟨_, rfl⟩
    rw [← g5] at A5 st5
    have n6 : b2 ≠ b5 := Nat.ne_of_lt (Nat.lt_of_lt_of_le V2.lt (Nat.le_of_eq g5.symm))
    have g7 : n0 ≤ b5 := Nat.le_trans z4 (Nat.le_of_eq g5.symm)
    have z8 : n0 ≤ h5.size := Nat.le_trans z4 E5.1
    have V5 : Arv Z h5 b5 k5 .byte (4 : Int32) [(.int (0 : Int32)), (.int (0 : Int32)), (.int (0 : Int32)), (.int (0 : Int32))] (.int (0 : Int32)) := (Arv.new A5 (by decide)).pad (pad_rep [] (.int (0 : Int32)) 4)
    refine gobW st5 ?_
    replace X5 := castX X5 (rfl : _ = 2) (rfl : _ = 8)
    show GoW _ _ _ _ _ _ _ (T5.setTop (mkF m 21 #[.val (.int p0), .val (.int p1), .val (.int p2), .val (.int p3), .val (.int p4), .val (.int p5), .val (.int (0 : Int32)), .val (.ref b2), .unset, .unset, .unset, .unset, .unset, .unset, .unset] [(.ref b5)]))
    refine gobW (fun _ k => XS.astore X5.here hx rfl (hb hby at_21) rfl rfl (l' := #[.val (.int p0), .val (.int p1), .val (.int p2), .val (.int p3), .val (.int p4), .val (.int p5), .val (.int (0 : Int32)), .val (.ref b2), .val (.ref b5), .unset, .unset, .unset, .unset, .unset, .unset]) rfl k) ?_
    show GoW _ _ _ _ _ _ _ (T5.setTop (mkF m 23 #[.val (.int p0), .val (.int p1), .val (.int p2), .val (.int p3), .val (.int p4), .val (.int p5), .val (.int (0 : Int32)), .val (.ref b2), .val (.ref b5), .unset, .unset, .unset, .unset, .unset, .unset] []))
    refine gobW (fun _ k => XS.bipush X5.here hx rfl (hb hby at_23) k) ?_
    show GoW _ _ _ _ _ _ _ (T5.setTop (mkF m 25 #[.val (.int p0), .val (.int p1), .val (.int p2), .val (.int p3), .val (.int p4), .val (.int p5), .val (.int (0 : Int32)), .val (.ref b2), .val (.ref b5), .unset, .unset, .unset, .unset, .unset, .unset] [(.int (16 : Int32))]))
    obtain ⟨T9, h9, k9, X9, e9, E9, A9, st9⟩ := newP X5 hx hZ (hw _ (List.mem_of_getElem? (i := 0) rfl)) e5 (g := (mkF m 25 #[.val (.int p0), .val (.int p1), .val (.int p2), .val (.int p3), .val (.int p4), .val (.int p5), .val (.int (0 : Int32)), .val (.ref b2), .val (.ref b5), .unset, .unset, .unset, .unset, .unset, .unset] [(.int (16 : Int32))])) rfl (hb hby at_25) rfl (by decide) (cap := 16) (by decide) (by decide) (by decide) (by decide)
    obtain ⟨b9, g9⟩ : ∃ z, z = h5.size := ⟨_, rfl⟩
    rw [← g9] at A9 st9
    have c10 := (V2.ext E5)
    have n11 : b2 ≠ b9 := Nat.ne_of_lt (Nat.lt_of_lt_of_le c10.lt (Nat.le_of_eq g9.symm))
    have n12 : b5 ≠ b9 := Nat.ne_of_lt (Nat.lt_of_lt_of_le V5.lt (Nat.le_of_eq g9.symm))
    have g13 : n0 ≤ b9 := Nat.le_trans z8 (Nat.le_of_eq g9.symm)
    have z14 : n0 ≤ h9.size := Nat.le_trans z8 E9.1
    have V9 : Arv Z h9 b9 k9 .byte (16 : Int32) [(.int (0 : Int32)), (.int (0 : Int32)), (.int (0 : Int32)), (.int (0 : Int32)), (.int (0 : Int32)), (.int (0 : Int32)), (.int (0 : Int32)), (.int (0 : Int32)), (.int (0 : Int32)), (.int (0 : Int32)), (.int (0 : Int32)), (.int (0 : Int32)), (.int (0 : Int32)), (.int (0 : Int32)), (.int (0 : Int32)), (.int (0 : Int32))] (.int (0 : Int32)) := (Arv.new A9 (by decide)).pad (pad_rep [] (.int (0 : Int32)) 16)
    refine gobW st9 ?_
    replace X9 := castX X9 (rfl : _ = 3) (rfl : _ = 24)
    show GoW _ _ _ _ _ _ _ (T9.setTop (mkF m 27 #[.val (.int p0), .val (.int p1), .val (.int p2), .val (.int p3), .val (.int p4), .val (.int p5), .val (.int (0 : Int32)), .val (.ref b2), .val (.ref b5), .unset, .unset, .unset, .unset, .unset, .unset] [(.ref b9)]))
    refine gobW (fun _ k => XS.astore X9.here hx rfl (hb hby at_27) rfl rfl (l' := #[.val (.int p0), .val (.int p1), .val (.int p2), .val (.int p3), .val (.int p4), .val (.int p5), .val (.int (0 : Int32)), .val (.ref b2), .val (.ref b5), .val (.ref b9), .unset, .unset, .unset, .unset, .unset]) rfl k) ?_
    show GoW _ _ _ _ _ _ _ (T9.setTop (mkF m 29 #[.val (.int p0), .val (.int p1), .val (.int p2), .val (.int p3), .val (.int p4), .val (.int p5), .val (.int (0 : Int32)), .val (.ref b2), .val (.ref b5), .val (.ref b9), .unset, .unset, .unset, .unset, .unset] []))
    refine gobW (fun _ k => XS.bipush X9.here hx rfl (hb hby at_29) k) ?_
    show GoW _ _ _ _ _ _ _ (T9.setTop (mkF m 31 #[.val (.int p0), .val (.int p1), .val (.int p2), .val (.int p3), .val (.int p4), .val (.int p5), .val (.int (0 : Int32)), .val (.ref b2), .val (.ref b5), .val (.ref b9), .unset, .unset, .unset, .unset, .unset] [(.int (16 : Int32))]))
    obtain ⟨T15, h15, k15, X15, e15, E15, A15, st15⟩ := newP X9 hx hZ (hw _ (List.mem_of_getElem? (i := 0) rfl)) e9 (g := (mkF m 31 #[.val (.int p0), .val (.int p1), .val (.int p2), .val (.int p3), .val (.int p4), .val (.int p5), .val (.int (0 : Int32)), .val (.ref b2), .val (.ref b5), .val (.ref b9), .unset, .unset, .unset, .unset, .unset] [(.int (16 : Int32))])) rfl (hb hby at_31) rfl (by decide) (cap := 16) (by decide) (by decide) (by decide) (by decide)
    obtain ⟨b15, g15⟩ : ∃ z, z = h9.size := ⟨_, rfl⟩
    rw [← g15] at A15 st15
    have c16 := (c10.ext E9)
    have n17 : b2 ≠ b15 := Nat.ne_of_lt (Nat.lt_of_lt_of_le c16.lt (Nat.le_of_eq g15.symm))
    have c18 := (V5.ext E9)
    have n19 : b5 ≠ b15 := Nat.ne_of_lt (Nat.lt_of_lt_of_le c18.lt (Nat.le_of_eq g15.symm))
    have n20 : b9 ≠ b15 := Nat.ne_of_lt (Nat.lt_of_lt_of_le V9.lt (Nat.le_of_eq g15.symm))
    have g21 : n0 ≤ b15 := Nat.le_trans z14 (Nat.le_of_eq g15.symm)
    have z22 : n0 ≤ h15.size := Nat.le_trans z14 E15.1
    have V15 : Arv Z h15 b15 k15 .byte (16 : Int32) [(.int (0 : Int32)), (.int (0 : Int32)), (.int (0 : Int32)), (.int (0 : Int32)), (.int (0 : Int32)), (.int (0 : Int32)), (.int (0 : Int32)), (.int (0 : Int32)), (.int (0 : Int32)), (.int (0 : Int32)), (.int (0 : Int32)), (.int (0 : Int32)), (.int (0 : Int32)), (.int (0 : Int32)), (.int (0 : Int32)), (.int (0 : Int32))] (.int (0 : Int32)) := (Arv.new A15 (by decide)).pad (pad_rep [] (.int (0 : Int32)) 16)
    refine gobW st15 ?_
    replace X15 := castX X15 (rfl : _ = 4) (rfl : _ = 40)
    show GoW _ _ _ _ _ _ _ (T15.setTop (mkF m 33 #[.val (.int p0), .val (.int p1), .val (.int p2), .val (.int p3), .val (.int p4), .val (.int p5), .val (.int (0 : Int32)), .val (.ref b2), .val (.ref b5), .val (.ref b9), .unset, .unset, .unset, .unset, .unset] [(.ref b15)]))
    refine gobW (fun _ k => XS.astore X15.here hx rfl (hb hby at_33) rfl rfl (l' := #[.val (.int p0), .val (.int p1), .val (.int p2), .val (.int p3), .val (.int p4), .val (.int p5), .val (.int (0 : Int32)), .val (.ref b2), .val (.ref b5), .val (.ref b9), .val (.ref b15), .unset, .unset, .unset, .unset]) rfl k) ?_
    show GoW _ _ _ _ _ _ _ (T15.setTop (mkF m 35 #[.val (.int p0), .val (.int p1), .val (.int p2), .val (.int p3), .val (.int p4), .val (.int p5), .val (.int (0 : Int32)), .val (.ref b2), .val (.ref b5), .val (.ref b9), .val (.ref b15), .unset, .unset, .unset, .unset] []))
    refine gobW (fun _ k => XS.iload X15.here hx rfl (hb hby at_35) rfl k) ?_
    show GoW _ _ _ _ _ _ _ (T15.setTop (mkF m 37 #[.val (.int p0), .val (.int p1), .val (.int p2), .val (.int p3), .val (.int p4), .val (.int p5), .val (.int (0 : Int32)), .val (.ref b2), .val (.ref b5), .val (.ref b9), .val (.ref b15), .unset, .unset, .unset, .unset] [(.int (0 : Int32))]))
    refine gobW (fun _ k => XS.ifYes X15.here hx rfl (pc0 := 37) (pc' := 45) rfl (hb hby at_37) rfl ((if0 _ _).trans (teq (by decide : (0 : Int32) = (0 : Int32))).1) (by decide) (by decide) k) ?_
    show GoW _ _ _ _ _ _ _ (T15.setTop (mkF m 45 #[.val (.int p0), .val (.int p1), .val (.int p2), .val (.int p3), .val (.int p4), .val (.int p5), .val (.int (0 : Int32)), .val (.ref b2), .val (.ref b5), .val (.ref b9), .val (.ref b15), .unset, .unset, .unset, .unset] []))
    refine gobW (fun _ k => XS.aload X15.here hx rfl (hb hby at_45) rfl rfl k) ?_
    show GoW _ _ _ _ _ _ _ (T15.setTop (mkF m 47 #[.val (.int p0), .val (.int p1), .val (.int p2), .val (.int p3), .val (.int p4), .val (.int p5), .val (.int (0 : Int32)), .val (.ref b2), .val (.ref b5), .val (.ref b9), .val (.ref b15), .unset, .unset, .unset, .unset] [(.ref b2)]))
    refine gobW (fun _ k => XS.astore X15.here hx rfl (hb hby at_47) rfl rfl (l' := #[.val (.int p0), .val (.int p1), .val (.int p2), .val (.int p3), .val (.int p4), .val (.int p5), .val (.int (0 : Int32)), .val (.ref b2), .val (.ref b5), .val (.ref b9), .val (.ref b15), .val (.ref b2), .unset, .unset, .unset]) rfl k) ?_
    show GoW _ _ _ _ _ _ _ (T15.setTop (mkF m 49 #[.val (.int p0), .val (.int p1), .val (.int p2), .val (.int p3), .val (.int p4), .val (.int p5), .val (.int (0 : Int32)), .val (.ref b2), .val (.ref b5), .val (.ref b9), .val (.ref b15), .val (.ref b2), .unset, .unset, .unset] []))
    refine gobW (fun _ k => XS.iload X15.here hx rfl (hb hby at_49) rfl k) ?_
    show GoW _ _ _ _ _ _ _ (T15.setTop (mkF m 51 #[.val (.int p0), .val (.int p1), .val (.int p2), .val (.int p3), .val (.int p4), .val (.int p5), .val (.int (0 : Int32)), .val (.ref b2), .val (.ref b5), .val (.ref b9), .val (.ref b15), .val (.ref b2), .unset, .unset, .unset] [(.int (0 : Int32))]))
    refine gobW (fun _ k => XS.ifYes X15.here hx rfl (pc0 := 51) (pc' := 59) rfl (hb hby at_51) rfl ((if0 _ _).trans (teq (by decide : (0 : Int32) = (0 : Int32))).1) (by decide) (by decide) k) ?_
    show GoW _ _ _ _ _ _ _ (T15.setTop (mkF m 59 #[.val (.int p0), .val (.int p1), .val (.int p2), .val (.int p3), .val (.int p4), .val (.int p5), .val (.int (0 : Int32)), .val (.ref b2), .val (.ref b5), .val (.ref b9), .val (.ref b15), .val (.ref b2), .unset, .unset, .unset] []))
    refine gobW (fun _ k => XS.aload X15.here hx rfl (hb hby at_59) rfl rfl k) ?_
    show GoW _ _ _ _ _ _ _ (T15.setTop (mkF m 61 #[.val (.int p0), .val (.int p1), .val (.int p2), .val (.int p3), .val (.int p4), .val (.int p5), .val (.int (0 : Int32)), .val (.ref b2), .val (.ref b5), .val (.ref b9), .val (.ref b15), .val (.ref b2), .unset, .unset, .unset] [(.ref b5)]))
    refine gobW (fun _ k => XS.astore X15.here hx rfl (hb hby at_61) rfl rfl (l' := #[.val (.int p0), .val (.int p1), .val (.int p2), .val (.int p3), .val (.int p4), .val (.int p5), .val (.int (0 : Int32)), .val (.ref b2), .val (.ref b5), .val (.ref b9), .val (.ref b15), .val (.ref b2), .val (.ref b5), .unset, .unset]) rfl k) ?_
    show GoW _ _ _ _ _ _ _ (T15.setTop (mkF m 63 #[.val (.int p0), .val (.int p1), .val (.int p2), .val (.int p3), .val (.int p4), .val (.int p5), .val (.int (0 : Int32)), .val (.ref b2), .val (.ref b5), .val (.ref b9), .val (.ref b15), .val (.ref b2), .val (.ref b5), .unset, .unset] []))
    refine gobW (fun _ k => XS.aload X15.here hx rfl (hb hby at_63) rfl rfl k) ?_
    show GoW _ _ _ _ _ _ _ (T15.setTop (mkF m 65 #[.val (.int p0), .val (.int p1), .val (.int p2), .val (.int p3), .val (.int p4), .val (.int p5), .val (.int (0 : Int32)), .val (.ref b2), .val (.ref b5), .val (.ref b9), .val (.ref b15), .val (.ref b2), .val (.ref b5), .unset, .unset] [(.ref b2)]))
    have c24 := (c16.ext E15)
    obtain ⟨cl23, Ar23, aq23, S23, N23, H23, G23⟩ := id c24
    refine gobW (X15.arraylength hx (by rw [e15]; exact Ar23.1) (State.isArrayOf_alike hZ.alike Ar23.2.1) (g := (mkF m 65 #[.val (.int p0), .val (.int p1), .val (.int p2), .val (.int p3), .val (.int p4), .val (.int p5), .val (.int (0 : Int32)), .val (.ref b2), .val (.ref b5), .val (.ref b9), .val (.ref b15), .val (.ref b2), .val (.ref b5), .unset, .unset] [(.ref b2)])) rfl rfl (hb hby at_65)) ?_
    rw [len_of S23 N23]
    show GoW _ _ _ _ _ _ _ (T15.setTop (mkF m 66 #[.val (.int p0), .val (.int p1), .val (.int p2), .val (.int p3), .val (.int p4), .val (.int p5), .val (.int (0 : Int32)), .val (.ref b2), .val (.ref b5), .val (.ref b9), .val (.ref b15), .val (.ref b2), .val (.ref b5), .unset, .unset] [(.int (4 : Int32))]))
    refine gobW (fun _ k => XS.iconst X15.here hx rfl (hb hby at_66) k) ?_
    show GoW _ _ _ _ _ _ _ (T15.setTop (mkF m 67 #[.val (.int p0), .val (.int p1), .val (.int p2), .val (.int p3), .val (.int p4), .val (.int p5), .val (.int (0 : Int32)), .val (.ref b2), .val (.ref b5), .val (.ref b9), .val (.ref b15), .val (.ref b2), .val (.ref b5), .unset, .unset] [(.int (1 : Int32)), (.int (4 : Int32))]))
    refine gobW (fun _ k => XS.isub X15.here hx rfl (hb hby at_67) rfl k) ?_
    show GoW _ _ _ _ _ _ _ (T15.setTop (mkF m 68 #[.val (.int p0), .val (.int p1), .val (.int p2), .val (.int p3), .val (.int p4), .val (.int p5), .val (.int (0 : Int32)), .val (.ref b2), .val (.ref b5), .val (.ref b9), .val (.ref b15), .val (.ref b2), .val (.ref b5), .unset, .unset] [(.int (3 : Int32))]))
    refine gobW (fun _ k => XS.istore X15.here hx rfl (hb hby at_68) rfl (l' := #[.val (.int p0), .val (.int p1), .val (.int p2), .val (.int p3), .val (.int p4), .val (.int p5), .val (.int (0 : Int32)), .val (.ref b2), .val (.ref b5), .val (.ref b9), .val (.ref b15), .val (.ref b2), .val (.ref b5), .val (.int (3 : Int32)), .unset]) rfl k) ?_
    show GoW _ _ _ _ _ _ _ (T15.setTop (mkF m 70 #[.val (.int p0), .val (.int p1), .val (.int p2), .val (.int p3), .val (.int p4), .val (.int p5), .val (.int (0 : Int32)), .val (.ref b2), .val (.ref b5), .val (.ref b9), .val (.ref b15), .val (.ref b2), .val (.ref b5), .val (.int (3 : Int32)), .unset] []))
    refine gobW (fun _ k => XS.aload X15.here hx rfl (hb hby at_70) rfl rfl k) ?_
    show GoW _ _ _ _ _ _ _ (T15.setTop (mkF m 72 #[.val (.int p0), .val (.int p1), .val (.int p2), .val (.int p3), .val (.int p4), .val (.int p5), .val (.int (0 : Int32)), .val (.ref b2), .val (.ref b5), .val (.ref b9), .val (.ref b15), .val (.ref b2), .val (.ref b5), .val (.int (3 : Int32)), .unset] [(.ref b2)]))
    refine gobW (fun _ k => XS.iconst X15.here hx rfl (hb hby at_72) k) ?_
    show GoW _ _ _ _ _ _ _ (T15.setTop (mkF m 73 #[.val (.int p0), .val (.int p1), .val (.int p2), .val (.int p3), .val (.int p4), .val (.int p5), .val (.int (0 : Int32)), .val (.ref b2), .val (.ref b5), .val (.ref b9), .val (.ref b15), .val (.ref b2), .val (.ref b5), .val (.int (3 : Int32)), .unset] [(.int (0 : Int32)), (.ref b2)]))
    refine gobW (fun _ k => XS.iloadN X15.here hx rfl (hb hby at_73) rfl k) ?_
    show GoW _ _ _ _ _ _ _ (T15.setTop (mkF m 74 #[.val (.int p0), .val (.int p1), .val (.int p2), .val (.int p3), .val (.int p4), .val (.int p5), .val (.int (0 : Int32)), .val (.ref b2), .val (.ref b5), .val (.ref b9), .val (.ref b15), .val (.ref b2), .val (.ref b5), .val (.int (3 : Int32)), .unset] [(.int p1), (.int (0 : Int32)), (.ref b2)]))
    refine gobW (fun _ k => XS.i2b X15.here hx rfl (hb hby at_74) rfl k) ?_
    show GoW _ _ _ _ _ _ _ (T15.setTop (mkF m 75 #[.val (.int p0), .val (.int p1), .val (.int p2), .val (.int p3), .val (.int p4), .val (.int p5), .val (.int (0 : Int32)), .val (.ref b2), .val (.ref b5), .val (.ref b9), .val (.ref b15), .val (.ref b2), .val (.ref b5), .val (.int (3 : Int32)), .unset] [(.int (p1.toInt8.toInt32)), (.int (0 : Int32)), (.ref b2)]))
    obtain ⟨cl25, Ar25, aq25, S25, N25, H25, G25⟩ := id c24
    have hin25 : ¬ ((0 : Int32) < 0 ∨ cl25.slots.size ≤ ((0 : Int32)).toNatClampNeg) := inb_of S25 ⟨by decide, by decide⟩
    obtain ⟨T26, h26, X26, e26, W26, st26⟩ := stB X15 hx hZ e15 Ar25 (j := (0 : Int32)) hin25 (g := (mkF m 75 #[.val (.int p0), .val (.int p1), .val (.int p2), .val (.int p3), .val (.int p4), .val (.int p5), .val (.int (0 : Int32)), .val (.ref b2), .val (.ref b5), .val (.ref b9), .val (.ref b15), .val (.ref b2), .val (.ref b5), .val (.int (3 : Int32)), .unset] [(.int (p1.toInt8.toInt32)), (.int (0 : Int32)), (.ref b2)])) rfl rfl (hb hby at_75)
    refine gobW st26 ?_
    have z27 : n0 ≤ h26.size := Nat.le_trans z22 (Keep.of_wr W26).1
    have N26 := Fr.snoc X26 N0 g3
    have V26 : Arv Z h26 b2 k2 .byte (4 : Int32) [(.int (nar .byte (p1.toInt8.toInt32))), (.int (0 : Int32)), (.int (0 : Int32)), (.int (0 : Int32))] (.int (0 : Int32)) := Arv.set Ar25 aq25 S25 N25 H25 G25 (fits_nar_byte _) W26 0 rfl (Nat.le_of_ble_eq_true rfl)
    show GoW _ _ _ _ _ _ _ (T26.setTop (mkF m 76 #[.val (.int p0), .val (.int p1), .val (.int p2), .val (.int p3), .val (.int p4), .val (.int p5), .val (.int (0 : Int32)), .val (.ref b2), .val (.ref b5), .val (.ref b9), .val (.ref b15), .val (.ref b2), .val (.ref b5), .val (.int (3 : Int32)), .unset] []))
    refine gobW (fun _ k => XS.aload X26.here hx rfl (hb hby at_76) rfl rfl k) ?_
    show GoW _ _ _ _ _ _ _ (T26.setTop (mkF m 78 #[.val (.int p0), .val (.int p1), .val (.int p2), .val (.int p3), .val (.int p4), .val (.int p5), .val (.int (0 : Int32)), .val (.ref b2), .val (.ref b5), .val (.ref b9), .val (.ref b15), .val (.ref b2), .val (.ref b5), .val (.int (3 : Int32)), .unset] [(.ref b2)]))
    refine gobW (fun _ k => XS.iload X26.here hx rfl (hb hby at_78) rfl k) ?_
    show GoW _ _ _ _ _ _ _ (T26.setTop (mkF m 80 #[.val (.int p0), .val (.int p1), .val (.int p2), .val (.int p3), .val (.int p4), .val (.int p5), .val (.int (0 : Int32)), .val (.ref b2), .val (.ref b5), .val (.ref b9), .val (.ref b15), .val (.ref b2), .val (.ref b5), .val (.int (3 : Int32)), .unset] [(.int (3 : Int32)), (.ref b2)]))
    refine gobW (fun _ k => XS.iloadN X26.here hx rfl (hb hby at_80) rfl k) ?_
    show GoW _ _ _ _ _ _ _ (T26.setTop (mkF m 81 #[.val (.int p0), .val (.int p1), .val (.int p2), .val (.int p3), .val (.int p4), .val (.int p5), .val (.int (0 : Int32)), .val (.ref b2), .val (.ref b5), .val (.ref b9), .val (.ref b15), .val (.ref b2), .val (.ref b5), .val (.int (3 : Int32)), .unset] [(.int p1), (.int (3 : Int32)), (.ref b2)]))
    refine gobW (fun _ k => XS.bipush X26.here hx rfl (hb hby at_81) k) ?_
    show GoW _ _ _ _ _ _ _ (T26.setTop (mkF m 83 #[.val (.int p0), .val (.int p1), .val (.int p2), .val (.int p3), .val (.int p4), .val (.int p5), .val (.int (0 : Int32)), .val (.ref b2), .val (.ref b5), .val (.ref b9), .val (.ref b15), .val (.ref b2), .val (.ref b5), .val (.int (3 : Int32)), .unset] [(.int (8 : Int32)), (.int p1), (.int (3 : Int32)), (.ref b2)]))
    refine gobW (fun _ k => XS.iushr X26.here hx rfl (hb hby at_83) rfl k) ?_
    show GoW _ _ _ _ _ _ _ (T26.setTop (mkF m 84 #[.val (.int p0), .val (.int p1), .val (.int p2), .val (.int p3), .val (.int p4), .val (.int p5), .val (.int (0 : Int32)), .val (.ref b2), .val (.ref b5), .val (.ref b9), .val (.ref b15), .val (.ref b2), .val (.ref b5), .val (.int (3 : Int32)), .unset] [(.int ((p1.toUInt32 >>> ((8 : Int32) &&& 31).toUInt32).toInt32)), (.int (3 : Int32)), (.ref b2)]))
    refine gobW (fun _ k => XS.i2b X26.here hx rfl (hb hby at_84) rfl k) ?_
    show GoW _ _ _ _ _ _ _ (T26.setTop (mkF m 85 #[.val (.int p0), .val (.int p1), .val (.int p2), .val (.int p3), .val (.int p4), .val (.int p5), .val (.int (0 : Int32)), .val (.ref b2), .val (.ref b5), .val (.ref b9), .val (.ref b15), .val (.ref b2), .val (.ref b5), .val (.int (3 : Int32)), .unset] [(.int (((p1.toUInt32 >>> ((8 : Int32) &&& 31).toUInt32).toInt32).toInt8.toInt32)), (.int (3 : Int32)), (.ref b2)]))
    obtain ⟨cl28, Ar28, aq28, S28, N28, H28, G28⟩ := id V26
    have hin28 : ¬ ((3 : Int32) < 0 ∨ cl28.slots.size ≤ ((3 : Int32)).toNatClampNeg) := inb_of S28 ⟨by decide, by decide⟩
    obtain ⟨T29, h29, X29, e29, W29, st29⟩ := stB X26 hx hZ e26 Ar28 (j := (3 : Int32)) hin28 (g := (mkF m 85 #[.val (.int p0), .val (.int p1), .val (.int p2), .val (.int p3), .val (.int p4), .val (.int p5), .val (.int (0 : Int32)), .val (.ref b2), .val (.ref b5), .val (.ref b9), .val (.ref b15), .val (.ref b2), .val (.ref b5), .val (.int (3 : Int32)), .unset] [(.int (((p1.toUInt32 >>> ((8 : Int32) &&& 31).toUInt32).toInt32).toInt8.toInt32)), (.int (3 : Int32)), (.ref b2)])) rfl rfl (hb hby at_85)
    refine gobW st29 ?_
    have z30 : n0 ≤ h29.size := Nat.le_trans z27 (Keep.of_wr W29).1
    have N29 := Fr.snoc X29 N26 g3
    have V29 : Arv Z h29 b2 k2 .byte (4 : Int32) [(.int (nar .byte (p1.toInt8.toInt32))), (.int (0 : Int32)), (.int (0 : Int32)), (.int (nar .byte (((p1.toUInt32 >>> ((8 : Int32) &&& 31).toUInt32).toInt32).toInt8.toInt32)))] (.int (0 : Int32)) := Arv.set Ar28 aq28 S28 N28 H28 G28 (fits_nar_byte _) W29 3 rfl (Nat.le_of_ble_eq_true rfl)
    show GoW _ _ _ _ _ _ _ (T29.setTop (mkF m 86 #[.val (.int p0), .val (.int p1), .val (.int p2), .val (.int p3), .val (.int p4), .val (.int p5), .val (.int (0 : Int32)), .val (.ref b2), .val (.ref b5), .val (.ref b9), .val (.ref b15), .val (.ref b2), .val (.ref b5), .val (.int (3 : Int32)), .unset] []))
    refine gobW (fun _ k => XS.aload X29.here hx rfl (hb hby at_86) rfl rfl k) ?_
    show GoW _ _ _ _ _ _ _ (T29.setTop (mkF m 88 #[.val (.int p0), .val (.int p1), .val (.int p2), .val (.int p3), .val (.int p4), .val (.int p5), .val (.int (0 : Int32)), .val (.ref b2), .val (.ref b5), .val (.ref b9), .val (.ref b15), .val (.ref b2), .val (.ref b5), .val (.int (3 : Int32)), .unset] [(.ref b2)]))
    refine gobW (fun _ k => XS.iconst X29.here hx rfl (hb hby at_88) k) ?_
    show GoW _ _ _ _ _ _ _ (T29.setTop (mkF m 89 #[.val (.int p0), .val (.int p1), .val (.int p2), .val (.int p3), .val (.int p4), .val (.int p5), .val (.int (0 : Int32)), .val (.ref b2), .val (.ref b5), .val (.ref b9), .val (.ref b15), .val (.ref b2), .val (.ref b5), .val (.int (3 : Int32)), .unset] [(.int (1 : Int32)), (.ref b2)]))
    refine gobW (fun _ k => XS.iloadN X29.here hx rfl (hb hby at_89) rfl k) ?_
    show GoW _ _ _ _ _ _ _ (T29.setTop (mkF m 90 #[.val (.int p0), .val (.int p1), .val (.int p2), .val (.int p3), .val (.int p4), .val (.int p5), .val (.int (0 : Int32)), .val (.ref b2), .val (.ref b5), .val (.ref b9), .val (.ref b15), .val (.ref b2), .val (.ref b5), .val (.int (3 : Int32)), .unset] [(.int p1), (.int (1 : Int32)), (.ref b2)]))
    refine gobW (fun _ k => XS.bipush X29.here hx rfl (hb hby at_90) k) ?_
    show GoW _ _ _ _ _ _ _ (T29.setTop (mkF m 92 #[.val (.int p0), .val (.int p1), .val (.int p2), .val (.int p3), .val (.int p4), .val (.int p5), .val (.int (0 : Int32)), .val (.ref b2), .val (.ref b5), .val (.ref b9), .val (.ref b15), .val (.ref b2), .val (.ref b5), .val (.int (3 : Int32)), .unset] [(.int (16 : Int32)), (.int p1), (.int (1 : Int32)), (.ref b2)]))
    refine gobW (fun _ k => XS.iushr X29.here hx rfl (hb hby at_92) rfl k) ?_
    show GoW _ _ _ _ _ _ _ (T29.setTop (mkF m 93 #[.val (.int p0), .val (.int p1), .val (.int p2), .val (.int p3), .val (.int p4), .val (.int p5), .val (.int (0 : Int32)), .val (.ref b2), .val (.ref b5), .val (.ref b9), .val (.ref b15), .val (.ref b2), .val (.ref b5), .val (.int (3 : Int32)), .unset] [(.int ((p1.toUInt32 >>> ((16 : Int32) &&& 31).toUInt32).toInt32)), (.int (1 : Int32)), (.ref b2)]))
    refine gobW (fun _ k => XS.i2b X29.here hx rfl (hb hby at_93) rfl k) ?_
    show GoW _ _ _ _ _ _ _ (T29.setTop (mkF m 94 #[.val (.int p0), .val (.int p1), .val (.int p2), .val (.int p3), .val (.int p4), .val (.int p5), .val (.int (0 : Int32)), .val (.ref b2), .val (.ref b5), .val (.ref b9), .val (.ref b15), .val (.ref b2), .val (.ref b5), .val (.int (3 : Int32)), .unset] [(.int (((p1.toUInt32 >>> ((16 : Int32) &&& 31).toUInt32).toInt32).toInt8.toInt32)), (.int (1 : Int32)), (.ref b2)]))
    obtain ⟨cl31, Ar31, aq31, S31, N31, H31, G31⟩ := id V29
    have hin31 : ¬ ((1 : Int32) < 0 ∨ cl31.slots.size ≤ ((1 : Int32)).toNatClampNeg) := inb_of S31 ⟨by decide, by decide⟩
    obtain ⟨T32, h32, X32, e32, W32, st32⟩ := stB X29 hx hZ e29 Ar31 (j := (1 : Int32)) hin31 (g := (mkF m 94 #[.val (.int p0), .val (.int p1), .val (.int p2), .val (.int p3), .val (.int p4), .val (.int p5), .val (.int (0 : Int32)), .val (.ref b2), .val (.ref b5), .val (.ref b9), .val (.ref b15), .val (.ref b2), .val (.ref b5), .val (.int (3 : Int32)), .unset] [(.int (((p1.toUInt32 >>> ((16 : Int32) &&& 31).toUInt32).toInt32).toInt8.toInt32)), (.int (1 : Int32)), (.ref b2)])) rfl rfl (hb hby at_94)
    refine gobW st32 ?_
    have z33 : n0 ≤ h32.size := Nat.le_trans z30 (Keep.of_wr W32).1
    have N32 := Fr.snoc X32 N29 g3
    have V32 : Arv Z h32 b2 k2 .byte (4 : Int32) [(.int (nar .byte (p1.toInt8.toInt32))), (.int (nar .byte (((p1.toUInt32 >>> ((16 : Int32) &&& 31).toUInt32).toInt32).toInt8.toInt32))), (.int (0 : Int32)), (.int (nar .byte (((p1.toUInt32 >>> ((8 : Int32) &&& 31).toUInt32).toInt32).toInt8.toInt32)))] (.int (0 : Int32)) := Arv.set Ar31 aq31 S31 N31 H31 G31 (fits_nar_byte _) W32 1 rfl (Nat.le_of_ble_eq_true rfl)
    show GoW _ _ _ _ _ _ _ (T32.setTop (mkF m 95 #[.val (.int p0), .val (.int p1), .val (.int p2), .val (.int p3), .val (.int p4), .val (.int p5), .val (.int (0 : Int32)), .val (.ref b2), .val (.ref b5), .val (.ref b9), .val (.ref b15), .val (.ref b2), .val (.ref b5), .val (.int (3 : Int32)), .unset] []))
    refine gobW (fun _ k => XS.aload X32.here hx rfl (hb hby at_95) rfl rfl k) ?_
    show GoW _ _ _ _ _ _ _ (T32.setTop (mkF m 97 #[.val (.int p0), .val (.int p1), .val (.int p2), .val (.int p3), .val (.int p4), .val (.int p5), .val (.int (0 : Int32)), .val (.ref b2), .val (.ref b5), .val (.ref b9), .val (.ref b15), .val (.ref b2), .val (.ref b5), .val (.int (3 : Int32)), .unset] [(.ref b5)]))
    refine gobW (fun _ k => XS.iconst X32.here hx rfl (hb hby at_97) k) ?_
    show GoW _ _ _ _ _ _ _ (T32.setTop (mkF m 98 #[.val (.int p0), .val (.int p1), .val (.int p2), .val (.int p3), .val (.int p4), .val (.int p5), .val (.int (0 : Int32)), .val (.ref b2), .val (.ref b5), .val (.ref b9), .val (.ref b15), .val (.ref b2), .val (.ref b5), .val (.int (3 : Int32)), .unset] [(.int (0 : Int32)), (.ref b5)]))
    refine gobW (fun _ k => XS.iloadN X32.here hx rfl (hb hby at_98) rfl k) ?_
    show GoW _ _ _ _ _ _ _ (T32.setTop (mkF m 99 #[.val (.int p0), .val (.int p1), .val (.int p2), .val (.int p3), .val (.int p4), .val (.int p5), .val (.int (0 : Int32)), .val (.ref b2), .val (.ref b5), .val (.ref b9), .val (.ref b15), .val (.ref b2), .val (.ref b5), .val (.int (3 : Int32)), .unset] [(.int p2), (.int (0 : Int32)), (.ref b5)]))
    refine gobW (fun _ k => XS.i2b X32.here hx rfl (hb hby at_99) rfl k) ?_
    show GoW _ _ _ _ _ _ _ (T32.setTop (mkF m 100 #[.val (.int p0), .val (.int p1), .val (.int p2), .val (.int p3), .val (.int p4), .val (.int p5), .val (.int (0 : Int32)), .val (.ref b2), .val (.ref b5), .val (.ref b9), .val (.ref b15), .val (.ref b2), .val (.ref b5), .val (.int (3 : Int32)), .unset] [(.int (p2.toInt8.toInt32)), (.int (0 : Int32)), (.ref b5)]))
    have c35 := ((((c18.ext E15).other W26 (Ne.symm n6)).other W29 (Ne.symm n6)).other W32 (Ne.symm n6))
    obtain ⟨cl34, Ar34, aq34, S34, N34, H34, G34⟩ := id c35
    have hin34 : ¬ ((0 : Int32) < 0 ∨ cl34.slots.size ≤ ((0 : Int32)).toNatClampNeg) := inb_of S34 ⟨by decide, by decide⟩
    obtain ⟨T36, h36, X36, e36, W36, st36⟩ := stB X32 hx hZ e32 Ar34 (j := (0 : Int32)) hin34 (g := (mkF m 100 #[.val (.int p0), .val (.int p1), .val (.int p2), .val (.int p3), .val (.int p4), .val (.int p5), .val (.int (0 : Int32)), .val (.ref b2), .val (.ref b5), .val (.ref b9), .val (.ref b15), .val (.ref b2), .val (.ref b5), .val (.int (3 : Int32)), .unset] [(.int (p2.toInt8.toInt32)), (.int (0 : Int32)), (.ref b5)])) rfl rfl (hb hby at_100)
    refine gobW st36 ?_
    have z37 : n0 ≤ h36.size := Nat.le_trans z33 (Keep.of_wr W36).1
    have N36 := Fr.snoc X36 N32 g7
    have V36 : Arv Z h36 b5 k5 .byte (4 : Int32) [(.int (nar .byte (p2.toInt8.toInt32))), (.int (0 : Int32)), (.int (0 : Int32)), (.int (0 : Int32))] (.int (0 : Int32)) := Arv.set Ar34 aq34 S34 N34 H34 G34 (fits_nar_byte _) W36 0 rfl (Nat.le_of_ble_eq_true rfl)
    show GoW _ _ _ _ _ _ _ (T36.setTop (mkF m 101 #[.val (.int p0), .val (.int p1), .val (.int p2), .val (.int p3), .val (.int p4), .val (.int p5), .val (.int (0 : Int32)), .val (.ref b2), .val (.ref b5), .val (.ref b9), .val (.ref b15), .val (.ref b2), .val (.ref b5), .val (.int (3 : Int32)), .unset] []))
    refine gobW (fun _ k => XS.aload X36.here hx rfl (hb hby at_101) rfl rfl k) ?_
    show GoW _ _ _ _ _ _ _ (T36.setTop (mkF m 103 #[.val (.int p0), .val (.int p1), .val (.int p2), .val (.int p3), .val (.int p4), .val (.int p5), .val (.int (0 : Int32)), .val (.ref b2), .val (.ref b5), .val (.ref b9), .val (.ref b15), .val (.ref b2), .val (.ref b5), .val (.int (3 : Int32)), .unset] [(.ref b5)]))
    refine gobW (fun _ k => XS.iload X36.here hx rfl (hb hby at_103) rfl k) ?_
    show GoW _ _ _ _ _ _ _ (T36.setTop (mkF m 105 #[.val (.int p0), .val (.int p1), .val (.int p2), .val (.int p3), .val (.int p4), .val (.int p5), .val (.int (0 : Int32)), .val (.ref b2), .val (.ref b5), .val (.ref b9), .val (.ref b15), .val (.ref b2), .val (.ref b5), .val (.int (3 : Int32)), .unset] [(.int (3 : Int32)), (.ref b5)]))
    refine gobW (fun _ k => XS.iloadN X36.here hx rfl (hb hby at_105) rfl k) ?_
    show GoW _ _ _ _ _ _ _ (T36.setTop (mkF m 106 #[.val (.int p0), .val (.int p1), .val (.int p2), .val (.int p3), .val (.int p4), .val (.int p5), .val (.int (0 : Int32)), .val (.ref b2), .val (.ref b5), .val (.ref b9), .val (.ref b15), .val (.ref b2), .val (.ref b5), .val (.int (3 : Int32)), .unset] [(.int p2), (.int (3 : Int32)), (.ref b5)]))
    refine gobW (fun _ k => XS.bipush X36.here hx rfl (hb hby at_106) k) ?_
    show GoW _ _ _ _ _ _ _ (T36.setTop (mkF m 108 #[.val (.int p0), .val (.int p1), .val (.int p2), .val (.int p3), .val (.int p4), .val (.int p5), .val (.int (0 : Int32)), .val (.ref b2), .val (.ref b5), .val (.ref b9), .val (.ref b15), .val (.ref b2), .val (.ref b5), .val (.int (3 : Int32)), .unset] [(.int (8 : Int32)), (.int p2), (.int (3 : Int32)), (.ref b5)]))
    refine gobW (fun _ k => XS.iushr X36.here hx rfl (hb hby at_108) rfl k) ?_
    show GoW _ _ _ _ _ _ _ (T36.setTop (mkF m 109 #[.val (.int p0), .val (.int p1), .val (.int p2), .val (.int p3), .val (.int p4), .val (.int p5), .val (.int (0 : Int32)), .val (.ref b2), .val (.ref b5), .val (.ref b9), .val (.ref b15), .val (.ref b2), .val (.ref b5), .val (.int (3 : Int32)), .unset] [(.int ((p2.toUInt32 >>> ((8 : Int32) &&& 31).toUInt32).toInt32)), (.int (3 : Int32)), (.ref b5)]))
    refine gobW (fun _ k => XS.i2b X36.here hx rfl (hb hby at_109) rfl k) ?_
    show GoW _ _ _ _ _ _ _ (T36.setTop (mkF m 110 #[.val (.int p0), .val (.int p1), .val (.int p2), .val (.int p3), .val (.int p4), .val (.int p5), .val (.int (0 : Int32)), .val (.ref b2), .val (.ref b5), .val (.ref b9), .val (.ref b15), .val (.ref b2), .val (.ref b5), .val (.int (3 : Int32)), .unset] [(.int (((p2.toUInt32 >>> ((8 : Int32) &&& 31).toUInt32).toInt32).toInt8.toInt32)), (.int (3 : Int32)), (.ref b5)]))
    obtain ⟨cl38, Ar38, aq38, S38, N38, H38, G38⟩ := id V36
    have hin38 : ¬ ((3 : Int32) < 0 ∨ cl38.slots.size ≤ ((3 : Int32)).toNatClampNeg) := inb_of S38 ⟨by decide, by decide⟩
    obtain ⟨T39, h39, X39, e39, W39, st39⟩ := stB X36 hx hZ e36 Ar38 (j := (3 : Int32)) hin38 (g := (mkF m 110 #[.val (.int p0), .val (.int p1), .val (.int p2), .val (.int p3), .val (.int p4), .val (.int p5), .val (.int (0 : Int32)), .val (.ref b2), .val (.ref b5), .val (.ref b9), .val (.ref b15), .val (.ref b2), .val (.ref b5), .val (.int (3 : Int32)), .unset] [(.int (((p2.toUInt32 >>> ((8 : Int32) &&& 31).toUInt32).toInt32).toInt8.toInt32)), (.int (3 : Int32)), (.ref b5)])) rfl rfl (hb hby at_110)
    refine gobW st39 ?_
    have z40 : n0 ≤ h39.size := Nat.le_trans z37 (Keep.of_wr W39).1
    have N39 := Fr.snoc X39 N36 g7
    have V39 : Arv Z h39 b5 k5 .byte (4 : Int32) [(.int (nar .byte (p2.toInt8.toInt32))), (.int (0 : Int32)), (.int (0 : Int32)), (.int (nar .byte (((p2.toUInt32 >>> ((8 : Int32) &&& 31).toUInt32).toInt32).toInt8.toInt32)))] (.int (0 : Int32)) := Arv.set Ar38 aq38 S38 N38 H38 G38 (fits_nar_byte _) W39 3 rfl (Nat.le_of_ble_eq_true rfl)
    show GoW _ _ _ _ _ _ _ (T39.setTop (mkF m 111 #[.val (.int p0), .val (.int p1), .val (.int p2), .val (.int p3), .val (.int p4), .val (.int p5), .val (.int (0 : Int32)), .val (.ref b2), .val (.ref b5), .val (.ref b9), .val (.ref b15), .val (.ref b2), .val (.ref b5), .val (.int (3 : Int32)), .unset] []))
    refine gobW (fun _ k => XS.aload X39.here hx rfl (hb hby at_111) rfl rfl k) ?_
    show GoW _ _ _ _ _ _ _ (T39.setTop (mkF m 113 #[.val (.int p0), .val (.int p1), .val (.int p2), .val (.int p3), .val (.int p4), .val (.int p5), .val (.int (0 : Int32)), .val (.ref b2), .val (.ref b5), .val (.ref b9), .val (.ref b15), .val (.ref b2), .val (.ref b5), .val (.int (3 : Int32)), .unset] [(.ref b5)]))
    refine gobW (fun _ k => XS.iconst X39.here hx rfl (hb hby at_113) k) ?_
    show GoW _ _ _ _ _ _ _ (T39.setTop (mkF m 114 #[.val (.int p0), .val (.int p1), .val (.int p2), .val (.int p3), .val (.int p4), .val (.int p5), .val (.int (0 : Int32)), .val (.ref b2), .val (.ref b5), .val (.ref b9), .val (.ref b15), .val (.ref b2), .val (.ref b5), .val (.int (3 : Int32)), .unset] [(.int (1 : Int32)), (.ref b5)]))
    refine gobW (fun _ k => XS.iloadN X39.here hx rfl (hb hby at_114) rfl k) ?_
    show GoW _ _ _ _ _ _ _ (T39.setTop (mkF m 115 #[.val (.int p0), .val (.int p1), .val (.int p2), .val (.int p3), .val (.int p4), .val (.int p5), .val (.int (0 : Int32)), .val (.ref b2), .val (.ref b5), .val (.ref b9), .val (.ref b15), .val (.ref b2), .val (.ref b5), .val (.int (3 : Int32)), .unset] [(.int p2), (.int (1 : Int32)), (.ref b5)]))
    refine gobW (fun _ k => XS.bipush X39.here hx rfl (hb hby at_115) k) ?_
    show GoW _ _ _ _ _ _ _ (T39.setTop (mkF m 117 #[.val (.int p0), .val (.int p1), .val (.int p2), .val (.int p3), .val (.int p4), .val (.int p5), .val (.int (0 : Int32)), .val (.ref b2), .val (.ref b5), .val (.ref b9), .val (.ref b15), .val (.ref b2), .val (.ref b5), .val (.int (3 : Int32)), .unset] [(.int (16 : Int32)), (.int p2), (.int (1 : Int32)), (.ref b5)]))
    refine gobW (fun _ k => XS.iushr X39.here hx rfl (hb hby at_117) rfl k) ?_
    show GoW _ _ _ _ _ _ _ (T39.setTop (mkF m 118 #[.val (.int p0), .val (.int p1), .val (.int p2), .val (.int p3), .val (.int p4), .val (.int p5), .val (.int (0 : Int32)), .val (.ref b2), .val (.ref b5), .val (.ref b9), .val (.ref b15), .val (.ref b2), .val (.ref b5), .val (.int (3 : Int32)), .unset] [(.int ((p2.toUInt32 >>> ((16 : Int32) &&& 31).toUInt32).toInt32)), (.int (1 : Int32)), (.ref b5)]))
    refine gobW (fun _ k => XS.i2b X39.here hx rfl (hb hby at_118) rfl k) ?_
    show GoW _ _ _ _ _ _ _ (T39.setTop (mkF m 119 #[.val (.int p0), .val (.int p1), .val (.int p2), .val (.int p3), .val (.int p4), .val (.int p5), .val (.int (0 : Int32)), .val (.ref b2), .val (.ref b5), .val (.ref b9), .val (.ref b15), .val (.ref b2), .val (.ref b5), .val (.int (3 : Int32)), .unset] [(.int (((p2.toUInt32 >>> ((16 : Int32) &&& 31).toUInt32).toInt32).toInt8.toInt32)), (.int (1 : Int32)), (.ref b5)]))
    obtain ⟨cl41, Ar41, aq41, S41, N41, H41, G41⟩ := id V39
    have hin41 : ¬ ((1 : Int32) < 0 ∨ cl41.slots.size ≤ ((1 : Int32)).toNatClampNeg) := inb_of S41 ⟨by decide, by decide⟩
    obtain ⟨T42, h42, X42, e42, W42, st42⟩ := stB X39 hx hZ e39 Ar41 (j := (1 : Int32)) hin41 (g := (mkF m 119 #[.val (.int p0), .val (.int p1), .val (.int p2), .val (.int p3), .val (.int p4), .val (.int p5), .val (.int (0 : Int32)), .val (.ref b2), .val (.ref b5), .val (.ref b9), .val (.ref b15), .val (.ref b2), .val (.ref b5), .val (.int (3 : Int32)), .unset] [(.int (((p2.toUInt32 >>> ((16 : Int32) &&& 31).toUInt32).toInt32).toInt8.toInt32)), (.int (1 : Int32)), (.ref b5)])) rfl rfl (hb hby at_119)
    refine gobW st42 ?_
    have z43 : n0 ≤ h42.size := Nat.le_trans z40 (Keep.of_wr W42).1
    have N42 := Fr.snoc X42 N39 g7
    have V42 : Arv Z h42 b5 k5 .byte (4 : Int32) [(.int (nar .byte (p2.toInt8.toInt32))), (.int (nar .byte (((p2.toUInt32 >>> ((16 : Int32) &&& 31).toUInt32).toInt32).toInt8.toInt32))), (.int (0 : Int32)), (.int (nar .byte (((p2.toUInt32 >>> ((8 : Int32) &&& 31).toUInt32).toInt32).toInt8.toInt32)))] (.int (0 : Int32)) := Arv.set Ar41 aq41 S41 N41 H41 G41 (fits_nar_byte _) W42 1 rfl (Nat.le_of_ble_eq_true rfl)
    show GoW _ _ _ _ _ _ _ (T42.setTop (mkF m 120 #[.val (.int p0), .val (.int p1), .val (.int p2), .val (.int p3), .val (.int p4), .val (.int p5), .val (.int (0 : Int32)), .val (.ref b2), .val (.ref b5), .val (.ref b9), .val (.ref b15), .val (.ref b2), .val (.ref b5), .val (.int (3 : Int32)), .unset] []))
    obtain ⟨T44, h44, X44, e44, E44, A44, D44, -, st44⟩ := newO X42 hx hZ hown (hw _ (List.mem_of_getElem? (i := 1) rfl)) (hw _ (List.mem_of_getElem? (i := 2) rfl)) (hw _ (List.mem_of_getElem? (i := 3) rfl)) e42 (g := (mkF m 120 #[.val (.int p0), .val (.int p1), .val (.int p2), .val (.int p3), .val (.int p4), .val (.int p5), .val (.int (0 : Int32)), .val (.ref b2), .val (.ref b5), .val (.ref b9), .val (.ref b15), .val (.ref b2), .val (.ref b5), .val (.int (3 : Int32)), .unset] [])) rfl (hb hby at_120) (by decide) (by decide)
    obtain ⟨b44, g44⟩ : ∃ z, z = h42.size := ⟨_, rfl⟩
    rw [← g44] at A44 D44 st44
    have c45 := (((V32.other W36 n6).other W39 n6).other W42 n6)
    have n46 : b2 ≠ b44 := Nat.ne_of_lt (Nat.lt_of_lt_of_le c45.lt (Nat.le_of_eq g44.symm))
    have n47 : b5 ≠ b44 := Nat.ne_of_lt (Nat.lt_of_lt_of_le V42.lt (Nat.le_of_eq g44.symm))
    have c48 := (((((((V9.ext E15).other W26 (Ne.symm n11)).other W29 (Ne.symm n11)).other W32 (Ne.symm n11)).other W36 (Ne.symm n12)).other W39 (Ne.symm n12)).other W42 (Ne.symm n12))
    have n49 : b9 ≠ b44 := Nat.ne_of_lt (Nat.lt_of_lt_of_le c48.lt (Nat.le_of_eq g44.symm))
    have c50 := ((((((V15.other W26 (Ne.symm n17)).other W29 (Ne.symm n17)).other W32 (Ne.symm n17)).other W36 (Ne.symm n19)).other W39 (Ne.symm n19)).other W42 (Ne.symm n19))
    have n51 : b15 ≠ b44 := Nat.ne_of_lt (Nat.lt_of_lt_of_le c50.lt (Nat.le_of_eq g44.symm))
    have g52 : n0 ≤ b44 := Nat.le_trans z43 (Nat.le_of_eq g44.symm)
    have z53 : n0 ≤ h44.size := Nat.le_trans z43 E44.1
    have F44_encoded : Fld Z h44 b44 "com/example/flomem/flomem/core/FlowKey" "encoded" "[B" .null := D44 (Or.inr (hw _ (List.mem_of_getElem? (i := 38) rfl))) (ty := (.array .byte)) (by decide)
    refine gobW st44 ?_
    replace X44 := castX X44 (rfl : _ = 5) (rfl : _ = 41)
    show GoW _ _ _ _ _ _ _ (T44.setTop (mkF m 123 #[.val (.int p0), .val (.int p1), .val (.int p2), .val (.int p3), .val (.int p4), .val (.int p5), .val (.int (0 : Int32)), .val (.ref b2), .val (.ref b5), .val (.ref b9), .val (.ref b15), .val (.ref b2), .val (.ref b5), .val (.int (3 : Int32)), .unset] [(.ref b44)]))
    refine gobW (fun _ k => XS.dup X44.here hx rfl (hb hby at_123) rfl rfl k) ?_
    show GoW _ _ _ _ _ _ _ (T44.setTop (mkF m 124 #[.val (.int p0), .val (.int p1), .val (.int p2), .val (.int p3), .val (.int p4), .val (.int p5), .val (.int (0 : Int32)), .val (.ref b2), .val (.ref b5), .val (.ref b9), .val (.ref b15), .val (.ref b2), .val (.ref b5), .val (.int (3 : Int32)), .unset] [(.ref b44), (.ref b44)]))
    refine gobW (fun _ k => XS.aload X44.here hx rfl (hb hby at_124) rfl rfl k) ?_
    show GoW _ _ _ _ _ _ _ (T44.setTop (mkF m 126 #[.val (.int p0), .val (.int p1), .val (.int p2), .val (.int p3), .val (.int p4), .val (.int p5), .val (.int (0 : Int32)), .val (.ref b2), .val (.ref b5), .val (.ref b9), .val (.ref b15), .val (.ref b2), .val (.ref b5), .val (.int (3 : Int32)), .unset] [(.ref b2), (.ref b44), (.ref b44)]))
    refine gobW (fun _ k => XS.aload X44.here hx rfl (hb hby at_126) rfl rfl k) ?_
    show GoW _ _ _ _ _ _ _ (T44.setTop (mkF m 128 #[.val (.int p0), .val (.int p1), .val (.int p2), .val (.int p3), .val (.int p4), .val (.int p5), .val (.int (0 : Int32)), .val (.ref b2), .val (.ref b5), .val (.ref b9), .val (.ref b15), .val (.ref b2), .val (.ref b5), .val (.int (3 : Int32)), .unset] [(.ref b5), (.ref b2), (.ref b44), (.ref b44)]))
    refine gobW (fun _ k => XS.iloadN X44.here hx rfl (hb hby at_128) rfl k) ?_
    show GoW _ _ _ _ _ _ _ (T44.setTop (mkF m 129 #[.val (.int p0), .val (.int p1), .val (.int p2), .val (.int p3), .val (.int p4), .val (.int p5), .val (.int (0 : Int32)), .val (.ref b2), .val (.ref b5), .val (.ref b9), .val (.ref b15), .val (.ref b2), .val (.ref b5), .val (.int (3 : Int32)), .unset] [(.int p3), (.ref b5), (.ref b2), (.ref b44), (.ref b44)]))
    refine gobW (fun _ k => XS.sipush X44.here hx rfl (hb hby at_129) k) ?_
    show GoW _ _ _ _ _ _ _ (T44.setTop (mkF m 132 #[.val (.int p0), .val (.int p1), .val (.int p2), .val (.int p3), .val (.int p4), .val (.int p5), .val (.int (0 : Int32)), .val (.ref b2), .val (.ref b5), .val (.ref b9), .val (.ref b15), .val (.ref b2), .val (.ref b5), .val (.int (3 : Int32)), .unset] [(.int (255 : Int32)), (.int p3), (.ref b5), (.ref b2), (.ref b44), (.ref b44)]))
    refine gobW (fun _ k => XS.iand X44.here hx rfl (hb hby at_132) rfl k) ?_
    show GoW _ _ _ _ _ _ _ (T44.setTop (mkF m 133 #[.val (.int p0), .val (.int p1), .val (.int p2), .val (.int p3), .val (.int p4), .val (.int p5), .val (.int (0 : Int32)), .val (.ref b2), .val (.ref b5), .val (.ref b9), .val (.ref b15), .val (.ref b2), .val (.ref b5), .val (.int (3 : Int32)), .unset] [(.int (p3 &&& (255 : Int32))), (.ref b5), (.ref b2), (.ref b44), (.ref b44)]))
    refine gobW (fun _ k => XS.iload X44.here hx rfl (hb hby at_133) rfl k) ?_
    show GoW _ _ _ _ _ _ _ (T44.setTop (mkF m 135 #[.val (.int p0), .val (.int p1), .val (.int p2), .val (.int p3), .val (.int p4), .val (.int p5), .val (.int (0 : Int32)), .val (.ref b2), .val (.ref b5), .val (.ref b9), .val (.ref b15), .val (.ref b2), .val (.ref b5), .val (.int (3 : Int32)), .unset] [(.int p4), (.int (p3 &&& (255 : Int32))), (.ref b5), (.ref b2), (.ref b44), (.ref b44)]))
    refine gobW (X44.ldcInt hx hown (mvT hZ (hw _ (List.mem_of_getElem? (i := 4) rfl))) (g := (mkF m 135 #[.val (.int p0), .val (.int p1), .val (.int p2), .val (.int p3), .val (.int p4), .val (.int p5), .val (.int (0 : Int32)), .val (.ref b2), .val (.ref b5), .val (.ref b9), .val (.ref b15), .val (.ref b2), .val (.ref b5), .val (.int (3 : Int32)), .unset] [(.int p4), (.int (p3 &&& (255 : Int32))), (.ref b5), (.ref b2), (.ref b44), (.ref b44)])) rfl (hb hby at_135)) ?_
    show GoW _ _ _ _ _ _ _ (T44.setTop (mkF m 137 #[.val (.int p0), .val (.int p1), .val (.int p2), .val (.int p3), .val (.int p4), .val (.int p5), .val (.int (0 : Int32)), .val (.ref b2), .val (.ref b5), .val (.ref b9), .val (.ref b15), .val (.ref b2), .val (.ref b5), .val (.int (3 : Int32)), .unset] [(.int (65535 : Int32)), (.int p4), (.int (p3 &&& (255 : Int32))), (.ref b5), (.ref b2), (.ref b44), (.ref b44)]))
    refine gobW (fun _ k => XS.iand X44.here hx rfl (hb hby at_137) rfl k) ?_
    show GoW _ _ _ _ _ _ _ (T44.setTop (mkF m 138 #[.val (.int p0), .val (.int p1), .val (.int p2), .val (.int p3), .val (.int p4), .val (.int p5), .val (.int (0 : Int32)), .val (.ref b2), .val (.ref b5), .val (.ref b9), .val (.ref b15), .val (.ref b2), .val (.ref b5), .val (.int (3 : Int32)), .unset] [(.int (p4 &&& (65535 : Int32))), (.int (p3 &&& (255 : Int32))), (.ref b5), (.ref b2), (.ref b44), (.ref b44)]))
    refine gobW (fun _ k => XS.iload X44.here hx rfl (hb hby at_138) rfl k) ?_
    show GoW _ _ _ _ _ _ _ (T44.setTop (mkF m 140 #[.val (.int p0), .val (.int p1), .val (.int p2), .val (.int p3), .val (.int p4), .val (.int p5), .val (.int (0 : Int32)), .val (.ref b2), .val (.ref b5), .val (.ref b9), .val (.ref b15), .val (.ref b2), .val (.ref b5), .val (.int (3 : Int32)), .unset] [(.int p5), (.int (p4 &&& (65535 : Int32))), (.int (p3 &&& (255 : Int32))), (.ref b5), (.ref b2), (.ref b44), (.ref b44)]))
    refine gobW (X44.ldcInt hx hown (mvT hZ (hw _ (List.mem_of_getElem? (i := 4) rfl))) (g := (mkF m 140 #[.val (.int p0), .val (.int p1), .val (.int p2), .val (.int p3), .val (.int p4), .val (.int p5), .val (.int (0 : Int32)), .val (.ref b2), .val (.ref b5), .val (.ref b9), .val (.ref b15), .val (.ref b2), .val (.ref b5), .val (.int (3 : Int32)), .unset] [(.int p5), (.int (p4 &&& (65535 : Int32))), (.int (p3 &&& (255 : Int32))), (.ref b5), (.ref b2), (.ref b44), (.ref b44)])) rfl (hb hby at_140)) ?_
    show GoW _ _ _ _ _ _ _ (T44.setTop (mkF m 142 #[.val (.int p0), .val (.int p1), .val (.int p2), .val (.int p3), .val (.int p4), .val (.int p5), .val (.int (0 : Int32)), .val (.ref b2), .val (.ref b5), .val (.ref b9), .val (.ref b15), .val (.ref b2), .val (.ref b5), .val (.int (3 : Int32)), .unset] [(.int (65535 : Int32)), (.int p5), (.int (p4 &&& (65535 : Int32))), (.int (p3 &&& (255 : Int32))), (.ref b5), (.ref b2), (.ref b44), (.ref b44)]))
    refine gobW (fun _ k => XS.iand X44.here hx rfl (hb hby at_142) rfl k) ?_
    show GoW _ _ _ _ _ _ _ (T44.setTop (mkF m 143 #[.val (.int p0), .val (.int p1), .val (.int p2), .val (.int p3), .val (.int p4), .val (.int p5), .val (.int (0 : Int32)), .val (.ref b2), .val (.ref b5), .val (.ref b9), .val (.ref b15), .val (.ref b2), .val (.ref b5), .val (.int (3 : Int32)), .unset] [(.int (p5 &&& (65535 : Int32))), (.int (p4 &&& (65535 : Int32))), (.int (p3 &&& (255 : Int32))), (.ref b5), (.ref b2), (.ref b44), (.ref b44)]))
    have c55 := (c45.ext E44)
    have c56 := (V42.ext E44)
    obtain ⟨_, _, ⟨T54, L54, k54, n54⟩, -, X54, hS, -, ⟨Lc54, hQ54, l54, y54, z54⟩, st54⟩ := X44.specialBackS hx (y := (⟨"com/example/flomem/flomem/core/FlowKey", "<init>", "([B[BIII)V"⟩ : MethodName)) rfl hown (mvT hZ (hw _ (List.mem_of_getElem? (i := 5) rfl))) (mvT hZ (hw _ (List.mem_of_getElem? (i := 6) rfl))) (mvT hZ (hw _ (List.mem_of_getElem? (i := 7) rfl))) (by decide) (backOfS (W := 1) (rm1_4 l Z a0 hw [] b44 b2 b5 (p3 &&& (255 : Int32)) (p4 &&& (65535 : Int32)) (p5 &&& (65535 : Int32)) k2 (nar .byte (p1.toInt8.toInt32)) (nar .byte (((p1.toUInt32 >>> ((16 : Int32) &&& 31).toUInt32).toInt32).toInt8.toInt32)) (0 : Int32) (nar .byte (((p1.toUInt32 >>> ((8 : Int32) &&& 31).toUInt32).toInt32).toInt8.toInt32)) k5 (nar .byte (p2.toInt8.toInt32)) (nar .byte (((p2.toUInt32 >>> ((16 : Int32) &&& 31).toUInt32).toInt32).toInt8.toInt32)) (0 : Int32) (nar .byte (((p2.toUInt32 >>> ((8 : Int32) &&& 31).toUInt32).toInt32).toInt8.toInt32)) h44 n0 z53 A44 c55 c56 (la_0_143_57 p3 ) (la_0_143_58 p3 ) (la_0_143_59 p4 ) (la_0_143_60 p4 ) (la_0_143_61 p5 ) (la_0_143_62 p5 ) F44_encoded g52) hZ (hw _ (List.mem_of_getElem? (i := 7) rfl)) (hw _ (List.mem_of_getElem? (i := 3) rfl)) (by decide) (by decide)) (g := (mkF m 143 #[.val (.int p0), .val (.int p1), .val (.int p2), .val (.int p3), .val (.int p4), .val (.int p5), .val (.int (0 : Int32)), .val (.ref b2), .val (.ref b5), .val (.ref b9), .val (.ref b15), .val (.ref b2), .val (.ref b5), .val (.int (3 : Int32)), .unset] [(.int (p5 &&& (65535 : Int32))), (.int (p4 &&& (65535 : Int32))), (.int (p3 &&& (255 : Int32))), (.ref b5), (.ref b2), (.ref b44), (.ref b44)])) rfl (by rw [hml]; rfl) (Steps.refl _) (a := b44) (argsL := [(.ref b2), (.ref b5), (.int (p3 &&& (255 : Int32))), (.int (p4 &&& (65535 : Int32))), (.int (p5 &&& (65535 : Int32)))]) (rest := [(.ref b44)]) (lenOf pd_3 rfl) rfl (by show 2 * 0 + _ ≤ _; exact Nat.le_of_eq rfl) (hb hby at_143) (fun _ _ => ⟨rfl, e44, (by decide : 5 + 11 ≤ _), (by decide : 41 + 297 ≤ _)⟩)
    dsimp only [Pt.U, Pt.locs, Pt.cells, Pt.slots] at X54 l54 y54 z54 st54 hQ54
    replace X54 := castX X54 (y54.trans (rfl : _ = 16)) (z54.trans (rfl : _ = 338))
    dsimp only [Pt.U] at hS
    replace hZ : Z.Warmed39 (s.setVm T54.vm).vm := State.Warmed39.trans (t := s) hZ hS.1
    replace hown : (s.setVm T54.vm).vm.findClass "com/example/flomem/flomem/core/FlowKeyIsIpv6PinLaw" = some m.cls := by rw [show (s.setVm T54.vm).vm = T54.vm from rfl, hS.1.alike.findClass]; exact hown
    obtain ⟨b63, k64, rfl, Nq54, K54, hz65, F66, F67⟩ := hQ54
    have N54 : Fr n0 L54 := l54 ▸ Fr.app N42 Nq54
    have n68 : b2 ≠ b63 := Nat.ne_of_lt (Nat.lt_of_lt_of_le c55.lt hz65)
    have n69 : b5 ≠ b63 := Nat.ne_of_lt (Nat.lt_of_lt_of_le c56.lt hz65)
    have c71 := (c48.ext E44)
    have n70 : b9 ≠ b63 := Nat.ne_of_lt (Nat.lt_of_lt_of_le c71.lt hz65)
    have c73 := (c50.ext E44)
    have n72 : b15 ≠ b63 := Nat.ne_of_lt (Nat.lt_of_lt_of_le c73.lt hz65)
    have n74 : b44 ≠ b63 := Nat.ne_of_lt (Nat.lt_of_lt_of_le A44.lt hz65)
    have g75 : n0 ≤ b63 := Nat.le_trans z53 hz65
    have z76 : n0 ≤ T54.heap.size := Nat.le_trans z53 K54.1
    refine gobW (fun _ k => st54.trans k) ?_
    show GoW _ _ _ _ _ _ _ (T54.setTop (mkF m 146 #[.val (.int p0), .val (.int p1), .val (.int p2), .val (.int p3), .val (.int p4), .val (.int p5), .val (.int (0 : Int32)), .val (.ref b2), .val (.ref b5), .val (.ref b9), .val (.ref b15), .val (.ref b2), .val (.ref b5), .val (.int (3 : Int32)), .unset] [(.ref b44)]))
    refine gobW (fun _ k => XS.astore X54.here hx rfl (hb hby at_146) rfl rfl (l' := #[.val (.int p0), .val (.int p1), .val (.int p2), .val (.int p3), .val (.int p4), .val (.int p5), .val (.int (0 : Int32)), .val (.ref b2), .val (.ref b5), .val (.ref b9), .val (.ref b15), .val (.ref b2), .val (.ref b5), .val (.int (3 : Int32)), .val (.ref b44)]) rfl k) ?_
    show GoW _ _ _ _ _ _ _ (T54.setTop (mkF m 148 #[.val (.int p0), .val (.int p1), .val (.int p2), .val (.int p3), .val (.int p4), .val (.int p5), .val (.int (0 : Int32)), .val (.ref b2), .val (.ref b5), .val (.ref b9), .val (.ref b15), .val (.ref b2), .val (.ref b5), .val (.int (3 : Int32)), .val (.ref b44)] []))
    refine gobW (fun _ k => XS.aload X54.here hx rfl (hb hby at_148) rfl rfl k) ?_
    show GoW _ _ _ _ _ _ _ (T54.setTop (mkF m 150 #[.val (.int p0), .val (.int p1), .val (.int p2), .val (.int p3), .val (.int p4), .val (.int p5), .val (.int (0 : Int32)), .val (.ref b2), .val (.ref b5), .val (.ref b9), .val (.ref b15), .val (.ref b2), .val (.ref b5), .val (.int (3 : Int32)), .val (.ref b44)] [(.ref b44)]))
    have c78 := (A44.keep K54)
    obtain ⟨cq77, kq77, q77a, q77b, q77c⟩ := isOf hZ (rfl : T54.heap = _) c78
    obtain ⟨_, _, ⟨T77, L77, k77, n77⟩, -, X77, ⟨Lc77, hQ77, l77, y77, z77⟩, st77⟩ := X54.virtualBack hx (y := (⟨"com/example/flomem/flomem/core/FlowKey", "isIpv6", "()Z"⟩ : MethodName)) (z := (⟨"com/example/flomem/flomem/core/FlowKey", "isIpv6", "()Z"⟩ : MethodName)) hown (mvT hZ (hw _ (List.mem_of_getElem? (i := 39) rfl))) (mvT hZ (hw _ (List.mem_of_getElem? (i := 40) rfl))) (notFace_of_selects (args := #[]) (mvT hZ (hw _ (List.mem_of_getElem? (i := 42) rfl)))) (mvT hZ (hw _ (List.mem_of_getElem? (i := 42) rfl))) (mvT hZ (hw _ (List.mem_of_getElem? (i := 41) rfl))) (by decide) (backOf (W := 0) (rm6_13 l Z a0 hw [] b44 b63 k64 [(.int (nar .byte (p1.toInt8.toInt32))), (.int (nar .byte (((p1.toUInt32 >>> ((16 : Int32) &&& 31).toUInt32).toInt32).toInt8.toInt32))), (.int (0 : Int32)), (.int (nar .byte (((p1.toUInt32 >>> ((8 : Int32) &&& 31).toUInt32).toInt32).toInt8.toInt32))), (.int (nar .byte (p2.toInt8.toInt32))), (.int (nar .byte (((p2.toUInt32 >>> ((16 : Int32) &&& 31).toUInt32).toInt32).toInt8.toInt32))), (.int (0 : Int32)), (.int (nar .byte (((p2.toUInt32 >>> ((8 : Int32) &&& 31).toUInt32).toInt32).toInt8.toInt32))), (.int (nar .byte ((p3 &&& (255 : Int32)).toInt8.toInt32))), (.int (nar .byte ((((p4 &&& (65535 : Int32)).toUInt32 >>> ((8 : Int32) &&& 31).toUInt32).toInt32).toInt8.toInt32))), (.int (nar .byte ((p4 &&& (65535 : Int32)).toInt8.toInt32))), (.int (nar .byte ((((p5 &&& (65535 : Int32)).toUInt32 >>> ((8 : Int32) &&& 31).toUInt32).toInt32).toInt8.toInt32))), (.int (nar .byte ((p5 &&& (65535 : Int32)).toInt8.toInt32)))] T54.heap n0 z76 F67 F66) hZ (hw _ (List.mem_of_getElem? (i := 43) rfl)) (hw _ (List.mem_of_getElem? (i := 3) rfl)) (by decide) (by decide)) q77a q77c (g := (mkF m 150 #[.val (.int p0), .val (.int p1), .val (.int p2), .val (.int p3), .val (.int p4), .val (.int p5), .val (.int (0 : Int32)), .val (.ref b2), .val (.ref b5), .val (.ref b9), .val (.ref b15), .val (.ref b2), .val (.ref b5), .val (.int (3 : Int32)), .val (.ref b44)] [(.ref b44)])) rfl (by rw [hml]; rfl) (Steps.refl _) (argsL := []) (rest := []) (lenOf pd_4 rfl) rfl (by show 2 * 0 + _ ≤ _; exact Nat.le_of_eq rfl) (hb hby at_150) (fun _ _ => ⟨rfl, (rfl : T54.heap = _), (by decide : 16 + 0 ≤ _), (by decide : 338 + 0 ≤ _)⟩)
    dsimp only [Pt.U, Pt.locs, Pt.cells, Pt.slots] at X77 l77 y77 z77 st77 hQ77
    replace X77 := castX X77 (y77.trans (rfl : _ = 16)) (z77.trans (rfl : _ = 338))
    obtain ⟨rfl, Nq77, e77⟩ := hQ77
    have N77 : Fr n0 L77 := l77 ▸ Fr.app N54 Nq77
    refine gobW (fun _ k => st77.trans k) ?_
    show GoW _ _ _ _ _ _ _ (T77.setTop (mkF m 153 #[.val (.int p0), .val (.int p1), .val (.int p2), .val (.int p3), .val (.int p4), .val (.int p5), .val (.int (0 : Int32)), .val (.ref b2), .val (.ref b5), .val (.ref b9), .val (.ref b15), .val (.ref b2), .val (.ref b5), .val (.int (3 : Int32)), .val (.ref b44)] [(.int (0 : Int32))]))
    refine gobW (fun _ k => XS.iload X77.here hx rfl (hb hby at_153) rfl k) ?_
    show GoW _ _ _ _ _ _ _ (T77.setTop (mkF m 155 #[.val (.int p0), .val (.int p1), .val (.int p2), .val (.int p3), .val (.int p4), .val (.int p5), .val (.int (0 : Int32)), .val (.ref b2), .val (.ref b5), .val (.ref b9), .val (.ref b15), .val (.ref b2), .val (.ref b5), .val (.int (3 : Int32)), .val (.ref b44)] [(.int (0 : Int32)), (.int (0 : Int32))]))
    refine gobW (fun _ k => XS.icmpNo X77.here hx rfl (hb hby at_155) rfl (teq (by decide : (0 : Int32) = (0 : Int32))).2 k) ?_
    show GoW _ _ _ _ _ _ _ (T77.setTop (mkF m 158 #[.val (.int p0), .val (.int p1), .val (.int p2), .val (.int p3), .val (.int p4), .val (.int p5), .val (.int (0 : Int32)), .val (.ref b2), .val (.ref b5), .val (.ref b9), .val (.ref b15), .val (.ref b2), .val (.ref b5), .val (.int (3 : Int32)), .val (.ref b44)] []))
    refine gobW (fun _ k => XS.iconst X77.here hx rfl (hb hby at_158) k) ?_
    show GoW _ _ _ _ _ _ _ (T77.setTop (mkF m 159 #[.val (.int p0), .val (.int p1), .val (.int p2), .val (.int p3), .val (.int p4), .val (.int p5), .val (.int (0 : Int32)), .val (.ref b2), .val (.ref b5), .val (.ref b9), .val (.ref b15), .val (.ref b2), .val (.ref b5), .val (.int (3 : Int32)), .val (.ref b44)] [(.int (1 : Int32))]))
    refine gobW (fun _ k => XS.goto X77.here hx rfl (pc0 := 159) (pc' := 163) rfl (hb hby at_159) (by decide) (by decide) k) ?_
    show GoW _ _ _ _ _ _ _ (T77.setTop (mkF m 163 #[.val (.int p0), .val (.int p1), .val (.int p2), .val (.int p3), .val (.int p4), .val (.int p5), .val (.int (0 : Int32)), .val (.ref b2), .val (.ref b5), .val (.ref b9), .val (.ref b15), .val (.ref b2), .val (.ref b5), .val (.int (3 : Int32)), .val (.ref b44)] [(.int (1 : Int32))]))
    refine goZW X77 hx hlk hS (leH e77 (Nat.le_refl T54.heap.size)) (t := .boolean) Bd.returns (by simp) (hb hby at_163) (z' := (1 : Int32)) rfl ?_ (by decide) (by decide)
    show Q0 Z p0 p1 p2 p3 p4 p5 h0 n0 (some (.int (1 : Int32))) T77.heap _
    exact ⟨rfl, N77⟩
  · skip
    refine gobW (fun _ k => XS.ifNo X0.here hx rfl (hb hby at_3) rfl ((if0 _ _).trans (feq hc3_1).1) k) ?_
    show GoW _ _ _ _ _ _ _ (s₁.setTop (mkF m 6 #[.val (.int p0), .val (.int p1), .val (.int p2), .val (.int p3), .val (.int p4), .val (.int p5), .unset, .unset, .unset, .unset, .unset, .unset, .unset, .unset, .unset] []))
    refine gobW (fun _ k => XS.iconst X0.here hx rfl (hb hby at_6) k) ?_
    show GoW _ _ _ _ _ _ _ (s₁.setTop (mkF m 7 #[.val (.int p0), .val (.int p1), .val (.int p2), .val (.int p3), .val (.int p4), .val (.int p5), .unset, .unset, .unset, .unset, .unset, .unset, .unset, .unset, .unset] [(.int (1 : Int32))]))
    refine gobW (fun _ k => XS.goto X0.here hx rfl (pc0 := 7) (pc' := 11) rfl (hb hby at_7) (by decide) (by decide) k) ?_
    show GoW _ _ _ _ _ _ _ (s₁.setTop (mkF m 11 #[.val (.int p0), .val (.int p1), .val (.int p2), .val (.int p3), .val (.int p4), .val (.int p5), .unset, .unset, .unset, .unset, .unset, .unset, .unset, .unset, .unset] [(.int (1 : Int32))]))
    refine gobW (fun _ k => XS.istore X0.here hx rfl (hb hby at_11) rfl (l' := #[.val (.int p0), .val (.int p1), .val (.int p2), .val (.int p3), .val (.int p4), .val (.int p5), .val (.int (1 : Int32)), .unset, .unset, .unset, .unset, .unset, .unset, .unset, .unset]) rfl k) ?_
    show GoW _ _ _ _ _ _ _ (s₁.setTop (mkF m 13 #[.val (.int p0), .val (.int p1), .val (.int p2), .val (.int p3), .val (.int p4), .val (.int p5), .val (.int (1 : Int32)), .unset, .unset, .unset, .unset, .unset, .unset, .unset, .unset] []))
    refine gobW (fun _ k => XS.iconst X0.here hx rfl (hb hby at_13) k) ?_
    show GoW _ _ _ _ _ _ _ (s₁.setTop (mkF m 14 #[.val (.int p0), .val (.int p1), .val (.int p2), .val (.int p3), .val (.int p4), .val (.int p5), .val (.int (1 : Int32)), .unset, .unset, .unset, .unset, .unset, .unset, .unset, .unset] [(.int (4 : Int32))]))
    obtain ⟨T79, h79, k79, X79, e79, E79, A79, st79⟩ := newP X0 hx hZ (hw _ (List.mem_of_getElem? (i := 0) rfl)) e0 (g := (mkF m 14 #[.val (.int p0), .val (.int p1), .val (.int p2), .val (.int p3), .val (.int p4), .val (.int p5), .val (.int (1 : Int32)), .unset, .unset, .unset, .unset, .unset, .unset, .unset, .unset] [(.int (4 : Int32))])) rfl (hb hby at_14) rfl (by decide) (cap := 4) (by decide) (by decide) (by decide) (by decide)
    obtain ⟨b79, g79⟩ : ∃ z, z = h0.size := ⟨_, rfl⟩
    rw [← g79] at A79 st79
    have g80 : n0 ≤ b79 := Nat.le_trans Z0 (Nat.le_of_eq g79.symm)
    have z81 : n0 ≤ h79.size := Nat.le_trans Z0 E79.1
    have V79 : Arv Z h79 b79 k79 .byte (4 : Int32) [(.int (0 : Int32)), (.int (0 : Int32)), (.int (0 : Int32)), (.int (0 : Int32))] (.int (0 : Int32)) := (Arv.new A79 (by decide)).pad (pad_rep [] (.int (0 : Int32)) 4)
    refine gobW st79 ?_
    replace X79 := castX X79 (rfl : _ = 1) (rfl : _ = 4)
    show GoW _ _ _ _ _ _ _ (T79.setTop (mkF m 16 #[.val (.int p0), .val (.int p1), .val (.int p2), .val (.int p3), .val (.int p4), .val (.int p5), .val (.int (1 : Int32)), .unset, .unset, .unset, .unset, .unset, .unset, .unset, .unset] [(.ref b79)]))
    refine gobW (fun _ k => XS.astore X79.here hx rfl (hb hby at_16) rfl rfl (l' := #[.val (.int p0), .val (.int p1), .val (.int p2), .val (.int p3), .val (.int p4), .val (.int p5), .val (.int (1 : Int32)), .val (.ref b79), .unset, .unset, .unset, .unset, .unset, .unset, .unset]) rfl k) ?_
    show GoW _ _ _ _ _ _ _ (T79.setTop (mkF m 18 #[.val (.int p0), .val (.int p1), .val (.int p2), .val (.int p3), .val (.int p4), .val (.int p5), .val (.int (1 : Int32)), .val (.ref b79), .unset, .unset, .unset, .unset, .unset, .unset, .unset] []))
    refine gobW (fun _ k => XS.iconst X79.here hx rfl (hb hby at_18) k) ?_
    show GoW _ _ _ _ _ _ _ (T79.setTop (mkF m 19 #[.val (.int p0), .val (.int p1), .val (.int p2), .val (.int p3), .val (.int p4), .val (.int p5), .val (.int (1 : Int32)), .val (.ref b79), .unset, .unset, .unset, .unset, .unset, .unset, .unset] [(.int (4 : Int32))]))
    obtain ⟨T82, h82, k82, X82, e82, E82, A82, st82⟩ := newP X79 hx hZ (hw _ (List.mem_of_getElem? (i := 0) rfl)) e79 (g := (mkF m 19 #[.val (.int p0), .val (.int p1), .val (.int p2), .val (.int p3), .val (.int p4), .val (.int p5), .val (.int (1 : Int32)), .val (.ref b79), .unset, .unset, .unset, .unset, .unset, .unset, .unset] [(.int (4 : Int32))])) rfl (hb hby at_19) rfl (by decide) (cap := 4) (by decide) (by decide) (by decide) (by decide)
    obtain ⟨b82, g82⟩ : ∃ z, z = h79.size := ⟨_, rfl⟩
    rw [← g82] at A82 st82
    have n83 : b79 ≠ b82 := Nat.ne_of_lt (Nat.lt_of_lt_of_le V79.lt (Nat.le_of_eq g82.symm))
    have g84 : n0 ≤ b82 := Nat.le_trans z81 (Nat.le_of_eq g82.symm)
    have z85 : n0 ≤ h82.size := Nat.le_trans z81 E82.1
    have V82 : Arv Z h82 b82 k82 .byte (4 : Int32) [(.int (0 : Int32)), (.int (0 : Int32)), (.int (0 : Int32)), (.int (0 : Int32))] (.int (0 : Int32)) := (Arv.new A82 (by decide)).pad (pad_rep [] (.int (0 : Int32)) 4)
    refine gobW st82 ?_
    replace X82 := castX X82 (rfl : _ = 2) (rfl : _ = 8)
    show GoW _ _ _ _ _ _ _ (T82.setTop (mkF m 21 #[.val (.int p0), .val (.int p1), .val (.int p2), .val (.int p3), .val (.int p4), .val (.int p5), .val (.int (1 : Int32)), .val (.ref b79), .unset, .unset, .unset, .unset, .unset, .unset, .unset] [(.ref b82)]))
    refine gobW (fun _ k => XS.astore X82.here hx rfl (hb hby at_21) rfl rfl (l' := #[.val (.int p0), .val (.int p1), .val (.int p2), .val (.int p3), .val (.int p4), .val (.int p5), .val (.int (1 : Int32)), .val (.ref b79), .val (.ref b82), .unset, .unset, .unset, .unset, .unset, .unset]) rfl k) ?_
    show GoW _ _ _ _ _ _ _ (T82.setTop (mkF m 23 #[.val (.int p0), .val (.int p1), .val (.int p2), .val (.int p3), .val (.int p4), .val (.int p5), .val (.int (1 : Int32)), .val (.ref b79), .val (.ref b82), .unset, .unset, .unset, .unset, .unset, .unset] []))
    refine gobW (fun _ k => XS.bipush X82.here hx rfl (hb hby at_23) k) ?_
    show GoW _ _ _ _ _ _ _ (T82.setTop (mkF m 25 #[.val (.int p0), .val (.int p1), .val (.int p2), .val (.int p3), .val (.int p4), .val (.int p5), .val (.int (1 : Int32)), .val (.ref b79), .val (.ref b82), .unset, .unset, .unset, .unset, .unset, .unset] [(.int (16 : Int32))]))
    obtain ⟨T86, h86, k86, X86, e86, E86, A86, st86⟩ := newP X82 hx hZ (hw _ (List.mem_of_getElem? (i := 0) rfl)) e82 (g := (mkF m 25 #[.val (.int p0), .val (.int p1), .val (.int p2), .val (.int p3), .val (.int p4), .val (.int p5), .val (.int (1 : Int32)), .val (.ref b79), .val (.ref b82), .unset, .unset, .unset, .unset, .unset, .unset] [(.int (16 : Int32))])) rfl (hb hby at_25) rfl (by decide) (cap := 16) (by decide) (by decide) (by decide) (by decide)
    obtain ⟨b86, g86⟩ : ∃ z, z = h82.size := ⟨_, rfl⟩
    rw [← g86] at A86 st86
    have c87 := (V79.ext E82)
    have n88 : b79 ≠ b86 := Nat.ne_of_lt (Nat.lt_of_lt_of_le c87.lt (Nat.le_of_eq g86.symm))
    have n89 : b82 ≠ b86 := Nat.ne_of_lt (Nat.lt_of_lt_of_le V82.lt (Nat.le_of_eq g86.symm))
    have g90 : n0 ≤ b86 := Nat.le_trans z85 (Nat.le_of_eq g86.symm)
    have z91 : n0 ≤ h86.size := Nat.le_trans z85 E86.1
    have V86 : Arv Z h86 b86 k86 .byte (16 : Int32) [(.int (0 : Int32)), (.int (0 : Int32)), (.int (0 : Int32)), (.int (0 : Int32)), (.int (0 : Int32)), (.int (0 : Int32)), (.int (0 : Int32)), (.int (0 : Int32)), (.int (0 : Int32)), (.int (0 : Int32)), (.int (0 : Int32)), (.int (0 : Int32)), (.int (0 : Int32)), (.int (0 : Int32)), (.int (0 : Int32)), (.int (0 : Int32))] (.int (0 : Int32)) := (Arv.new A86 (by decide)).pad (pad_rep [] (.int (0 : Int32)) 16)
    refine gobW st86 ?_
    replace X86 := castX X86 (rfl : _ = 3) (rfl : _ = 24)
    show GoW _ _ _ _ _ _ _ (T86.setTop (mkF m 27 #[.val (.int p0), .val (.int p1), .val (.int p2), .val (.int p3), .val (.int p4), .val (.int p5), .val (.int (1 : Int32)), .val (.ref b79), .val (.ref b82), .unset, .unset, .unset, .unset, .unset, .unset] [(.ref b86)]))
    refine gobW (fun _ k => XS.astore X86.here hx rfl (hb hby at_27) rfl rfl (l' := #[.val (.int p0), .val (.int p1), .val (.int p2), .val (.int p3), .val (.int p4), .val (.int p5), .val (.int (1 : Int32)), .val (.ref b79), .val (.ref b82), .val (.ref b86), .unset, .unset, .unset, .unset, .unset]) rfl k) ?_
    show GoW _ _ _ _ _ _ _ (T86.setTop (mkF m 29 #[.val (.int p0), .val (.int p1), .val (.int p2), .val (.int p3), .val (.int p4), .val (.int p5), .val (.int (1 : Int32)), .val (.ref b79), .val (.ref b82), .val (.ref b86), .unset, .unset, .unset, .unset, .unset] []))
    refine gobW (fun _ k => XS.bipush X86.here hx rfl (hb hby at_29) k) ?_
    show GoW _ _ _ _ _ _ _ (T86.setTop (mkF m 31 #[.val (.int p0), .val (.int p1), .val (.int p2), .val (.int p3), .val (.int p4), .val (.int p5), .val (.int (1 : Int32)), .val (.ref b79), .val (.ref b82), .val (.ref b86), .unset, .unset, .unset, .unset, .unset] [(.int (16 : Int32))]))
    obtain ⟨T92, h92, k92, X92, e92, E92, A92, st92⟩ := newP X86 hx hZ (hw _ (List.mem_of_getElem? (i := 0) rfl)) e86 (g := (mkF m 31 #[.val (.int p0), .val (.int p1), .val (.int p2), .val (.int p3), .val (.int p4), .val (.int p5), .val (.int (1 : Int32)), .val (.ref b79), .val (.ref b82), .val (.ref b86), .unset, .unset, .unset, .unset, .unset] [(.int (16 : Int32))])) rfl (hb hby at_31) rfl (by decide) (cap := 16) (by decide) (by decide) (by decide) (by decide)
    obtain ⟨b92, g92⟩ : ∃ z, z = h86.size := ⟨_, rfl⟩
    rw [← g92] at A92 st92
    have c93 := (c87.ext E86)
    have n94 : b79 ≠ b92 := Nat.ne_of_lt (Nat.lt_of_lt_of_le c93.lt (Nat.le_of_eq g92.symm))
    have c95 := (V82.ext E86)
    have n96 : b82 ≠ b92 := Nat.ne_of_lt (Nat.lt_of_lt_of_le c95.lt (Nat.le_of_eq g92.symm))
    have n97 : b86 ≠ b92 := Nat.ne_of_lt (Nat.lt_of_lt_of_le V86.lt (Nat.le_of_eq g92.symm))
    have g98 : n0 ≤ b92 := Nat.le_trans z91 (Nat.le_of_eq g92.symm)
    have z99 : n0 ≤ h92.size := Nat.le_trans z91 E92.1
    have V92 : Arv Z h92 b92 k92 .byte (16 : Int32) [(.int (0 : Int32)), (.int (0 : Int32)), (.int (0 : Int32)), (.int (0 : Int32)), (.int (0 : Int32)), (.int (0 : Int32)), (.int (0 : Int32)), (.int (0 : Int32)), (.int (0 : Int32)), (.int (0 : Int32)), (.int (0 : Int32)), (.int (0 : Int32)), (.int (0 : Int32)), (.int (0 : Int32)), (.int (0 : Int32)), (.int (0 : Int32))] (.int (0 : Int32)) := (Arv.new A92 (by decide)).pad (pad_rep [] (.int (0 : Int32)) 16)
    refine gobW st92 ?_
    replace X92 := castX X92 (rfl : _ = 4) (rfl : _ = 40)
    show GoW _ _ _ _ _ _ _ (T92.setTop (mkF m 33 #[.val (.int p0), .val (.int p1), .val (.int p2), .val (.int p3), .val (.int p4), .val (.int p5), .val (.int (1 : Int32)), .val (.ref b79), .val (.ref b82), .val (.ref b86), .unset, .unset, .unset, .unset, .unset] [(.ref b92)]))
    refine gobW (fun _ k => XS.astore X92.here hx rfl (hb hby at_33) rfl rfl (l' := #[.val (.int p0), .val (.int p1), .val (.int p2), .val (.int p3), .val (.int p4), .val (.int p5), .val (.int (1 : Int32)), .val (.ref b79), .val (.ref b82), .val (.ref b86), .val (.ref b92), .unset, .unset, .unset, .unset]) rfl k) ?_
    show GoW _ _ _ _ _ _ _ (T92.setTop (mkF m 35 #[.val (.int p0), .val (.int p1), .val (.int p2), .val (.int p3), .val (.int p4), .val (.int p5), .val (.int (1 : Int32)), .val (.ref b79), .val (.ref b82), .val (.ref b86), .val (.ref b92), .unset, .unset, .unset, .unset] []))
    refine gobW (fun _ k => XS.iload X92.here hx rfl (hb hby at_35) rfl k) ?_
    show GoW _ _ _ _ _ _ _ (T92.setTop (mkF m 37 #[.val (.int p0), .val (.int p1), .val (.int p2), .val (.int p3), .val (.int p4), .val (.int p5), .val (.int (1 : Int32)), .val (.ref b79), .val (.ref b82), .val (.ref b86), .val (.ref b92), .unset, .unset, .unset, .unset] [(.int (1 : Int32))]))
    refine gobW (fun _ k => XS.ifNo X92.here hx rfl (hb hby at_37) rfl ((if0 _ _).trans (feq (by decide : ¬ ((1 : Int32) = (0 : Int32)))).1) k) ?_
    show GoW _ _ _ _ _ _ _ (T92.setTop (mkF m 40 #[.val (.int p0), .val (.int p1), .val (.int p2), .val (.int p3), .val (.int p4), .val (.int p5), .val (.int (1 : Int32)), .val (.ref b79), .val (.ref b82), .val (.ref b86), .val (.ref b92), .unset, .unset, .unset, .unset] []))
    refine gobW (fun _ k => XS.aload X92.here hx rfl (hb hby at_40) rfl rfl k) ?_
    show GoW _ _ _ _ _ _ _ (T92.setTop (mkF m 42 #[.val (.int p0), .val (.int p1), .val (.int p2), .val (.int p3), .val (.int p4), .val (.int p5), .val (.int (1 : Int32)), .val (.ref b79), .val (.ref b82), .val (.ref b86), .val (.ref b92), .unset, .unset, .unset, .unset] [(.ref b86)]))
    refine gobW (fun _ k => XS.goto X92.here hx rfl (pc0 := 42) (pc' := 47) rfl (hb hby at_42) (by decide) (by decide) k) ?_
    show GoW _ _ _ _ _ _ _ (T92.setTop (mkF m 47 #[.val (.int p0), .val (.int p1), .val (.int p2), .val (.int p3), .val (.int p4), .val (.int p5), .val (.int (1 : Int32)), .val (.ref b79), .val (.ref b82), .val (.ref b86), .val (.ref b92), .unset, .unset, .unset, .unset] [(.ref b86)]))
    refine gobW (fun _ k => XS.astore X92.here hx rfl (hb hby at_47) rfl rfl (l' := #[.val (.int p0), .val (.int p1), .val (.int p2), .val (.int p3), .val (.int p4), .val (.int p5), .val (.int (1 : Int32)), .val (.ref b79), .val (.ref b82), .val (.ref b86), .val (.ref b92), .val (.ref b86), .unset, .unset, .unset]) rfl k) ?_
    show GoW _ _ _ _ _ _ _ (T92.setTop (mkF m 49 #[.val (.int p0), .val (.int p1), .val (.int p2), .val (.int p3), .val (.int p4), .val (.int p5), .val (.int (1 : Int32)), .val (.ref b79), .val (.ref b82), .val (.ref b86), .val (.ref b92), .val (.ref b86), .unset, .unset, .unset] []))
    refine gobW (fun _ k => XS.iload X92.here hx rfl (hb hby at_49) rfl k) ?_
    show GoW _ _ _ _ _ _ _ (T92.setTop (mkF m 51 #[.val (.int p0), .val (.int p1), .val (.int p2), .val (.int p3), .val (.int p4), .val (.int p5), .val (.int (1 : Int32)), .val (.ref b79), .val (.ref b82), .val (.ref b86), .val (.ref b92), .val (.ref b86), .unset, .unset, .unset] [(.int (1 : Int32))]))
    refine gobW (fun _ k => XS.ifNo X92.here hx rfl (hb hby at_51) rfl ((if0 _ _).trans (feq (by decide : ¬ ((1 : Int32) = (0 : Int32)))).1) k) ?_
    show GoW _ _ _ _ _ _ _ (T92.setTop (mkF m 54 #[.val (.int p0), .val (.int p1), .val (.int p2), .val (.int p3), .val (.int p4), .val (.int p5), .val (.int (1 : Int32)), .val (.ref b79), .val (.ref b82), .val (.ref b86), .val (.ref b92), .val (.ref b86), .unset, .unset, .unset] []))
    refine gobW (fun _ k => XS.aload X92.here hx rfl (hb hby at_54) rfl rfl k) ?_
    show GoW _ _ _ _ _ _ _ (T92.setTop (mkF m 56 #[.val (.int p0), .val (.int p1), .val (.int p2), .val (.int p3), .val (.int p4), .val (.int p5), .val (.int (1 : Int32)), .val (.ref b79), .val (.ref b82), .val (.ref b86), .val (.ref b92), .val (.ref b86), .unset, .unset, .unset] [(.ref b92)]))
    refine gobW (fun _ k => XS.goto X92.here hx rfl (pc0 := 56) (pc' := 61) rfl (hb hby at_56) (by decide) (by decide) k) ?_
    show GoW _ _ _ _ _ _ _ (T92.setTop (mkF m 61 #[.val (.int p0), .val (.int p1), .val (.int p2), .val (.int p3), .val (.int p4), .val (.int p5), .val (.int (1 : Int32)), .val (.ref b79), .val (.ref b82), .val (.ref b86), .val (.ref b92), .val (.ref b86), .unset, .unset, .unset] [(.ref b92)]))
    refine gobW (fun _ k => XS.astore X92.here hx rfl (hb hby at_61) rfl rfl (l' := #[.val (.int p0), .val (.int p1), .val (.int p2), .val (.int p3), .val (.int p4), .val (.int p5), .val (.int (1 : Int32)), .val (.ref b79), .val (.ref b82), .val (.ref b86), .val (.ref b92), .val (.ref b86), .val (.ref b92), .unset, .unset]) rfl k) ?_
    show GoW _ _ _ _ _ _ _ (T92.setTop (mkF m 63 #[.val (.int p0), .val (.int p1), .val (.int p2), .val (.int p3), .val (.int p4), .val (.int p5), .val (.int (1 : Int32)), .val (.ref b79), .val (.ref b82), .val (.ref b86), .val (.ref b92), .val (.ref b86), .val (.ref b92), .unset, .unset] []))
    refine gobW (fun _ k => XS.aload X92.here hx rfl (hb hby at_63) rfl rfl k) ?_
    show GoW _ _ _ _ _ _ _ (T92.setTop (mkF m 65 #[.val (.int p0), .val (.int p1), .val (.int p2), .val (.int p3), .val (.int p4), .val (.int p5), .val (.int (1 : Int32)), .val (.ref b79), .val (.ref b82), .val (.ref b86), .val (.ref b92), .val (.ref b86), .val (.ref b92), .unset, .unset] [(.ref b86)]))
    have c101 := (V86.ext E92)
    obtain ⟨cl100, Ar100, aq100, S100, N100, H100, G100⟩ := id c101
    refine gobW (X92.arraylength hx (by rw [e92]; exact Ar100.1) (State.isArrayOf_alike hZ.alike Ar100.2.1) (g := (mkF m 65 #[.val (.int p0), .val (.int p1), .val (.int p2), .val (.int p3), .val (.int p4), .val (.int p5), .val (.int (1 : Int32)), .val (.ref b79), .val (.ref b82), .val (.ref b86), .val (.ref b92), .val (.ref b86), .val (.ref b92), .unset, .unset] [(.ref b86)])) rfl rfl (hb hby at_65)) ?_
    rw [len_of S100 N100]
    show GoW _ _ _ _ _ _ _ (T92.setTop (mkF m 66 #[.val (.int p0), .val (.int p1), .val (.int p2), .val (.int p3), .val (.int p4), .val (.int p5), .val (.int (1 : Int32)), .val (.ref b79), .val (.ref b82), .val (.ref b86), .val (.ref b92), .val (.ref b86), .val (.ref b92), .unset, .unset] [(.int (16 : Int32))]))
    refine gobW (fun _ k => XS.iconst X92.here hx rfl (hb hby at_66) k) ?_
    show GoW _ _ _ _ _ _ _ (T92.setTop (mkF m 67 #[.val (.int p0), .val (.int p1), .val (.int p2), .val (.int p3), .val (.int p4), .val (.int p5), .val (.int (1 : Int32)), .val (.ref b79), .val (.ref b82), .val (.ref b86), .val (.ref b92), .val (.ref b86), .val (.ref b92), .unset, .unset] [(.int (1 : Int32)), (.int (16 : Int32))]))
    refine gobW (fun _ k => XS.isub X92.here hx rfl (hb hby at_67) rfl k) ?_
    show GoW _ _ _ _ _ _ _ (T92.setTop (mkF m 68 #[.val (.int p0), .val (.int p1), .val (.int p2), .val (.int p3), .val (.int p4), .val (.int p5), .val (.int (1 : Int32)), .val (.ref b79), .val (.ref b82), .val (.ref b86), .val (.ref b92), .val (.ref b86), .val (.ref b92), .unset, .unset] [(.int (15 : Int32))]))
    refine gobW (fun _ k => XS.istore X92.here hx rfl (hb hby at_68) rfl (l' := #[.val (.int p0), .val (.int p1), .val (.int p2), .val (.int p3), .val (.int p4), .val (.int p5), .val (.int (1 : Int32)), .val (.ref b79), .val (.ref b82), .val (.ref b86), .val (.ref b92), .val (.ref b86), .val (.ref b92), .val (.int (15 : Int32)), .unset]) rfl k) ?_
    show GoW _ _ _ _ _ _ _ (T92.setTop (mkF m 70 #[.val (.int p0), .val (.int p1), .val (.int p2), .val (.int p3), .val (.int p4), .val (.int p5), .val (.int (1 : Int32)), .val (.ref b79), .val (.ref b82), .val (.ref b86), .val (.ref b92), .val (.ref b86), .val (.ref b92), .val (.int (15 : Int32)), .unset] []))
    refine gobW (fun _ k => XS.aload X92.here hx rfl (hb hby at_70) rfl rfl k) ?_
    show GoW _ _ _ _ _ _ _ (T92.setTop (mkF m 72 #[.val (.int p0), .val (.int p1), .val (.int p2), .val (.int p3), .val (.int p4), .val (.int p5), .val (.int (1 : Int32)), .val (.ref b79), .val (.ref b82), .val (.ref b86), .val (.ref b92), .val (.ref b86), .val (.ref b92), .val (.int (15 : Int32)), .unset] [(.ref b86)]))
    refine gobW (fun _ k => XS.iconst X92.here hx rfl (hb hby at_72) k) ?_
    show GoW _ _ _ _ _ _ _ (T92.setTop (mkF m 73 #[.val (.int p0), .val (.int p1), .val (.int p2), .val (.int p3), .val (.int p4), .val (.int p5), .val (.int (1 : Int32)), .val (.ref b79), .val (.ref b82), .val (.ref b86), .val (.ref b92), .val (.ref b86), .val (.ref b92), .val (.int (15 : Int32)), .unset] [(.int (0 : Int32)), (.ref b86)]))
    refine gobW (fun _ k => XS.iloadN X92.here hx rfl (hb hby at_73) rfl k) ?_
    show GoW _ _ _ _ _ _ _ (T92.setTop (mkF m 74 #[.val (.int p0), .val (.int p1), .val (.int p2), .val (.int p3), .val (.int p4), .val (.int p5), .val (.int (1 : Int32)), .val (.ref b79), .val (.ref b82), .val (.ref b86), .val (.ref b92), .val (.ref b86), .val (.ref b92), .val (.int (15 : Int32)), .unset] [(.int p1), (.int (0 : Int32)), (.ref b86)]))
    refine gobW (fun _ k => XS.i2b X92.here hx rfl (hb hby at_74) rfl k) ?_
    show GoW _ _ _ _ _ _ _ (T92.setTop (mkF m 75 #[.val (.int p0), .val (.int p1), .val (.int p2), .val (.int p3), .val (.int p4), .val (.int p5), .val (.int (1 : Int32)), .val (.ref b79), .val (.ref b82), .val (.ref b86), .val (.ref b92), .val (.ref b86), .val (.ref b92), .val (.int (15 : Int32)), .unset] [(.int (p1.toInt8.toInt32)), (.int (0 : Int32)), (.ref b86)]))
    obtain ⟨cl102, Ar102, aq102, S102, N102, H102, G102⟩ := id c101
    have hin102 : ¬ ((0 : Int32) < 0 ∨ cl102.slots.size ≤ ((0 : Int32)).toNatClampNeg) := inb_of S102 ⟨by decide, by decide⟩
    obtain ⟨T103, h103, X103, e103, W103, st103⟩ := stB X92 hx hZ e92 Ar102 (j := (0 : Int32)) hin102 (g := (mkF m 75 #[.val (.int p0), .val (.int p1), .val (.int p2), .val (.int p3), .val (.int p4), .val (.int p5), .val (.int (1 : Int32)), .val (.ref b79), .val (.ref b82), .val (.ref b86), .val (.ref b92), .val (.ref b86), .val (.ref b92), .val (.int (15 : Int32)), .unset] [(.int (p1.toInt8.toInt32)), (.int (0 : Int32)), (.ref b86)])) rfl rfl (hb hby at_75)
    refine gobW st103 ?_
    have z104 : n0 ≤ h103.size := Nat.le_trans z99 (Keep.of_wr W103).1
    have N103 := Fr.snoc X103 N0 g90
    have V103 : Arv Z h103 b86 k86 .byte (16 : Int32) [(.int (nar .byte (p1.toInt8.toInt32))), (.int (0 : Int32)), (.int (0 : Int32)), (.int (0 : Int32)), (.int (0 : Int32)), (.int (0 : Int32)), (.int (0 : Int32)), (.int (0 : Int32)), (.int (0 : Int32)), (.int (0 : Int32)), (.int (0 : Int32)), (.int (0 : Int32)), (.int (0 : Int32)), (.int (0 : Int32)), (.int (0 : Int32)), (.int (0 : Int32))] (.int (0 : Int32)) := Arv.set Ar102 aq102 S102 N102 H102 G102 (fits_nar_byte _) W103 0 rfl (Nat.le_of_ble_eq_true rfl)
    show GoW _ _ _ _ _ _ _ (T103.setTop (mkF m 76 #[.val (.int p0), .val (.int p1), .val (.int p2), .val (.int p3), .val (.int p4), .val (.int p5), .val (.int (1 : Int32)), .val (.ref b79), .val (.ref b82), .val (.ref b86), .val (.ref b92), .val (.ref b86), .val (.ref b92), .val (.int (15 : Int32)), .unset] []))
    refine gobW (fun _ k => XS.aload X103.here hx rfl (hb hby at_76) rfl rfl k) ?_
    show GoW _ _ _ _ _ _ _ (T103.setTop (mkF m 78 #[.val (.int p0), .val (.int p1), .val (.int p2), .val (.int p3), .val (.int p4), .val (.int p5), .val (.int (1 : Int32)), .val (.ref b79), .val (.ref b82), .val (.ref b86), .val (.ref b92), .val (.ref b86), .val (.ref b92), .val (.int (15 : Int32)), .unset] [(.ref b86)]))
    refine gobW (fun _ k => XS.iload X103.here hx rfl (hb hby at_78) rfl k) ?_
    show GoW _ _ _ _ _ _ _ (T103.setTop (mkF m 80 #[.val (.int p0), .val (.int p1), .val (.int p2), .val (.int p3), .val (.int p4), .val (.int p5), .val (.int (1 : Int32)), .val (.ref b79), .val (.ref b82), .val (.ref b86), .val (.ref b92), .val (.ref b86), .val (.ref b92), .val (.int (15 : Int32)), .unset] [(.int (15 : Int32)), (.ref b86)]))
    refine gobW (fun _ k => XS.iloadN X103.here hx rfl (hb hby at_80) rfl k) ?_
    show GoW _ _ _ _ _ _ _ (T103.setTop (mkF m 81 #[.val (.int p0), .val (.int p1), .val (.int p2), .val (.int p3), .val (.int p4), .val (.int p5), .val (.int (1 : Int32)), .val (.ref b79), .val (.ref b82), .val (.ref b86), .val (.ref b92), .val (.ref b86), .val (.ref b92), .val (.int (15 : Int32)), .unset] [(.int p1), (.int (15 : Int32)), (.ref b86)]))
    refine gobW (fun _ k => XS.bipush X103.here hx rfl (hb hby at_81) k) ?_
    show GoW _ _ _ _ _ _ _ (T103.setTop (mkF m 83 #[.val (.int p0), .val (.int p1), .val (.int p2), .val (.int p3), .val (.int p4), .val (.int p5), .val (.int (1 : Int32)), .val (.ref b79), .val (.ref b82), .val (.ref b86), .val (.ref b92), .val (.ref b86), .val (.ref b92), .val (.int (15 : Int32)), .unset] [(.int (8 : Int32)), (.int p1), (.int (15 : Int32)), (.ref b86)]))
    refine gobW (fun _ k => XS.iushr X103.here hx rfl (hb hby at_83) rfl k) ?_
    show GoW _ _ _ _ _ _ _ (T103.setTop (mkF m 84 #[.val (.int p0), .val (.int p1), .val (.int p2), .val (.int p3), .val (.int p4), .val (.int p5), .val (.int (1 : Int32)), .val (.ref b79), .val (.ref b82), .val (.ref b86), .val (.ref b92), .val (.ref b86), .val (.ref b92), .val (.int (15 : Int32)), .unset] [(.int ((p1.toUInt32 >>> ((8 : Int32) &&& 31).toUInt32).toInt32)), (.int (15 : Int32)), (.ref b86)]))
    refine gobW (fun _ k => XS.i2b X103.here hx rfl (hb hby at_84) rfl k) ?_
    show GoW _ _ _ _ _ _ _ (T103.setTop (mkF m 85 #[.val (.int p0), .val (.int p1), .val (.int p2), .val (.int p3), .val (.int p4), .val (.int p5), .val (.int (1 : Int32)), .val (.ref b79), .val (.ref b82), .val (.ref b86), .val (.ref b92), .val (.ref b86), .val (.ref b92), .val (.int (15 : Int32)), .unset] [(.int (((p1.toUInt32 >>> ((8 : Int32) &&& 31).toUInt32).toInt32).toInt8.toInt32)), (.int (15 : Int32)), (.ref b86)]))
    obtain ⟨cl105, Ar105, aq105, S105, N105, H105, G105⟩ := id V103
    have hin105 : ¬ ((15 : Int32) < 0 ∨ cl105.slots.size ≤ ((15 : Int32)).toNatClampNeg) := inb_of S105 ⟨by decide, by decide⟩
    obtain ⟨T106, h106, X106, e106, W106, st106⟩ := stB X103 hx hZ e103 Ar105 (j := (15 : Int32)) hin105 (g := (mkF m 85 #[.val (.int p0), .val (.int p1), .val (.int p2), .val (.int p3), .val (.int p4), .val (.int p5), .val (.int (1 : Int32)), .val (.ref b79), .val (.ref b82), .val (.ref b86), .val (.ref b92), .val (.ref b86), .val (.ref b92), .val (.int (15 : Int32)), .unset] [(.int (((p1.toUInt32 >>> ((8 : Int32) &&& 31).toUInt32).toInt32).toInt8.toInt32)), (.int (15 : Int32)), (.ref b86)])) rfl rfl (hb hby at_85)
    refine gobW st106 ?_
    have z107 : n0 ≤ h106.size := Nat.le_trans z104 (Keep.of_wr W106).1
    have N106 := Fr.snoc X106 N103 g90
    have V106 : Arv Z h106 b86 k86 .byte (16 : Int32) [(.int (nar .byte (p1.toInt8.toInt32))), (.int (0 : Int32)), (.int (0 : Int32)), (.int (0 : Int32)), (.int (0 : Int32)), (.int (0 : Int32)), (.int (0 : Int32)), (.int (0 : Int32)), (.int (0 : Int32)), (.int (0 : Int32)), (.int (0 : Int32)), (.int (0 : Int32)), (.int (0 : Int32)), (.int (0 : Int32)), (.int (0 : Int32)), (.int (nar .byte (((p1.toUInt32 >>> ((8 : Int32) &&& 31).toUInt32).toInt32).toInt8.toInt32)))] (.int (0 : Int32)) := Arv.set Ar105 aq105 S105 N105 H105 G105 (fits_nar_byte _) W106 15 rfl (Nat.le_of_ble_eq_true rfl)
    show GoW _ _ _ _ _ _ _ (T106.setTop (mkF m 86 #[.val (.int p0), .val (.int p1), .val (.int p2), .val (.int p3), .val (.int p4), .val (.int p5), .val (.int (1 : Int32)), .val (.ref b79), .val (.ref b82), .val (.ref b86), .val (.ref b92), .val (.ref b86), .val (.ref b92), .val (.int (15 : Int32)), .unset] []))
    refine gobW (fun _ k => XS.aload X106.here hx rfl (hb hby at_86) rfl rfl k) ?_
    show GoW _ _ _ _ _ _ _ (T106.setTop (mkF m 88 #[.val (.int p0), .val (.int p1), .val (.int p2), .val (.int p3), .val (.int p4), .val (.int p5), .val (.int (1 : Int32)), .val (.ref b79), .val (.ref b82), .val (.ref b86), .val (.ref b92), .val (.ref b86), .val (.ref b92), .val (.int (15 : Int32)), .unset] [(.ref b86)]))
    refine gobW (fun _ k => XS.iconst X106.here hx rfl (hb hby at_88) k) ?_
    show GoW _ _ _ _ _ _ _ (T106.setTop (mkF m 89 #[.val (.int p0), .val (.int p1), .val (.int p2), .val (.int p3), .val (.int p4), .val (.int p5), .val (.int (1 : Int32)), .val (.ref b79), .val (.ref b82), .val (.ref b86), .val (.ref b92), .val (.ref b86), .val (.ref b92), .val (.int (15 : Int32)), .unset] [(.int (1 : Int32)), (.ref b86)]))
    refine gobW (fun _ k => XS.iloadN X106.here hx rfl (hb hby at_89) rfl k) ?_
    show GoW _ _ _ _ _ _ _ (T106.setTop (mkF m 90 #[.val (.int p0), .val (.int p1), .val (.int p2), .val (.int p3), .val (.int p4), .val (.int p5), .val (.int (1 : Int32)), .val (.ref b79), .val (.ref b82), .val (.ref b86), .val (.ref b92), .val (.ref b86), .val (.ref b92), .val (.int (15 : Int32)), .unset] [(.int p1), (.int (1 : Int32)), (.ref b86)]))
    refine gobW (fun _ k => XS.bipush X106.here hx rfl (hb hby at_90) k) ?_
    show GoW _ _ _ _ _ _ _ (T106.setTop (mkF m 92 #[.val (.int p0), .val (.int p1), .val (.int p2), .val (.int p3), .val (.int p4), .val (.int p5), .val (.int (1 : Int32)), .val (.ref b79), .val (.ref b82), .val (.ref b86), .val (.ref b92), .val (.ref b86), .val (.ref b92), .val (.int (15 : Int32)), .unset] [(.int (16 : Int32)), (.int p1), (.int (1 : Int32)), (.ref b86)]))
    refine gobW (fun _ k => XS.iushr X106.here hx rfl (hb hby at_92) rfl k) ?_
    show GoW _ _ _ _ _ _ _ (T106.setTop (mkF m 93 #[.val (.int p0), .val (.int p1), .val (.int p2), .val (.int p3), .val (.int p4), .val (.int p5), .val (.int (1 : Int32)), .val (.ref b79), .val (.ref b82), .val (.ref b86), .val (.ref b92), .val (.ref b86), .val (.ref b92), .val (.int (15 : Int32)), .unset] [(.int ((p1.toUInt32 >>> ((16 : Int32) &&& 31).toUInt32).toInt32)), (.int (1 : Int32)), (.ref b86)]))
    refine gobW (fun _ k => XS.i2b X106.here hx rfl (hb hby at_93) rfl k) ?_
    show GoW _ _ _ _ _ _ _ (T106.setTop (mkF m 94 #[.val (.int p0), .val (.int p1), .val (.int p2), .val (.int p3), .val (.int p4), .val (.int p5), .val (.int (1 : Int32)), .val (.ref b79), .val (.ref b82), .val (.ref b86), .val (.ref b92), .val (.ref b86), .val (.ref b92), .val (.int (15 : Int32)), .unset] [(.int (((p1.toUInt32 >>> ((16 : Int32) &&& 31).toUInt32).toInt32).toInt8.toInt32)), (.int (1 : Int32)), (.ref b86)]))
    obtain ⟨cl108, Ar108, aq108, S108, N108, H108, G108⟩ := id V106
    have hin108 : ¬ ((1 : Int32) < 0 ∨ cl108.slots.size ≤ ((1 : Int32)).toNatClampNeg) := inb_of S108 ⟨by decide, by decide⟩
    obtain ⟨T109, h109, X109, e109, W109, st109⟩ := stB X106 hx hZ e106 Ar108 (j := (1 : Int32)) hin108 (g := (mkF m 94 #[.val (.int p0), .val (.int p1), .val (.int p2), .val (.int p3), .val (.int p4), .val (.int p5), .val (.int (1 : Int32)), .val (.ref b79), .val (.ref b82), .val (.ref b86), .val (.ref b92), .val (.ref b86), .val (.ref b92), .val (.int (15 : Int32)), .unset] [(.int (((p1.toUInt32 >>> ((16 : Int32) &&& 31).toUInt32).toInt32).toInt8.toInt32)), (.int (1 : Int32)), (.ref b86)])) rfl rfl (hb hby at_94)
    refine gobW st109 ?_
    have z110 : n0 ≤ h109.size := Nat.le_trans z107 (Keep.of_wr W109).1
    have N109 := Fr.snoc X109 N106 g90
    have V109 : Arv Z h109 b86 k86 .byte (16 : Int32) [(.int (nar .byte (p1.toInt8.toInt32))), (.int (nar .byte (((p1.toUInt32 >>> ((16 : Int32) &&& 31).toUInt32).toInt32).toInt8.toInt32))), (.int (0 : Int32)), (.int (0 : Int32)), (.int (0 : Int32)), (.int (0 : Int32)), (.int (0 : Int32)), (.int (0 : Int32)), (.int (0 : Int32)), (.int (0 : Int32)), (.int (0 : Int32)), (.int (0 : Int32)), (.int (0 : Int32)), (.int (0 : Int32)), (.int (0 : Int32)), (.int (nar .byte (((p1.toUInt32 >>> ((8 : Int32) &&& 31).toUInt32).toInt32).toInt8.toInt32)))] (.int (0 : Int32)) := Arv.set Ar108 aq108 S108 N108 H108 G108 (fits_nar_byte _) W109 1 rfl (Nat.le_of_ble_eq_true rfl)
    show GoW _ _ _ _ _ _ _ (T109.setTop (mkF m 95 #[.val (.int p0), .val (.int p1), .val (.int p2), .val (.int p3), .val (.int p4), .val (.int p5), .val (.int (1 : Int32)), .val (.ref b79), .val (.ref b82), .val (.ref b86), .val (.ref b92), .val (.ref b86), .val (.ref b92), .val (.int (15 : Int32)), .unset] []))
    refine gobW (fun _ k => XS.aload X109.here hx rfl (hb hby at_95) rfl rfl k) ?_
    show GoW _ _ _ _ _ _ _ (T109.setTop (mkF m 97 #[.val (.int p0), .val (.int p1), .val (.int p2), .val (.int p3), .val (.int p4), .val (.int p5), .val (.int (1 : Int32)), .val (.ref b79), .val (.ref b82), .val (.ref b86), .val (.ref b92), .val (.ref b86), .val (.ref b92), .val (.int (15 : Int32)), .unset] [(.ref b92)]))
    refine gobW (fun _ k => XS.iconst X109.here hx rfl (hb hby at_97) k) ?_
    show GoW _ _ _ _ _ _ _ (T109.setTop (mkF m 98 #[.val (.int p0), .val (.int p1), .val (.int p2), .val (.int p3), .val (.int p4), .val (.int p5), .val (.int (1 : Int32)), .val (.ref b79), .val (.ref b82), .val (.ref b86), .val (.ref b92), .val (.ref b86), .val (.ref b92), .val (.int (15 : Int32)), .unset] [(.int (0 : Int32)), (.ref b92)]))
    refine gobW (fun _ k => XS.iloadN X109.here hx rfl (hb hby at_98) rfl k) ?_
    show GoW _ _ _ _ _ _ _ (T109.setTop (mkF m 99 #[.val (.int p0), .val (.int p1), .val (.int p2), .val (.int p3), .val (.int p4), .val (.int p5), .val (.int (1 : Int32)), .val (.ref b79), .val (.ref b82), .val (.ref b86), .val (.ref b92), .val (.ref b86), .val (.ref b92), .val (.int (15 : Int32)), .unset] [(.int p2), (.int (0 : Int32)), (.ref b92)]))
    refine gobW (fun _ k => XS.i2b X109.here hx rfl (hb hby at_99) rfl k) ?_
    show GoW _ _ _ _ _ _ _ (T109.setTop (mkF m 100 #[.val (.int p0), .val (.int p1), .val (.int p2), .val (.int p3), .val (.int p4), .val (.int p5), .val (.int (1 : Int32)), .val (.ref b79), .val (.ref b82), .val (.ref b86), .val (.ref b92), .val (.ref b86), .val (.ref b92), .val (.int (15 : Int32)), .unset] [(.int (p2.toInt8.toInt32)), (.int (0 : Int32)), (.ref b92)]))
    have c112 := (((V92.other W103 (Ne.symm n97)).other W106 (Ne.symm n97)).other W109 (Ne.symm n97))
    obtain ⟨cl111, Ar111, aq111, S111, N111, H111, G111⟩ := id c112
    have hin111 : ¬ ((0 : Int32) < 0 ∨ cl111.slots.size ≤ ((0 : Int32)).toNatClampNeg) := inb_of S111 ⟨by decide, by decide⟩
    obtain ⟨T113, h113, X113, e113, W113, st113⟩ := stB X109 hx hZ e109 Ar111 (j := (0 : Int32)) hin111 (g := (mkF m 100 #[.val (.int p0), .val (.int p1), .val (.int p2), .val (.int p3), .val (.int p4), .val (.int p5), .val (.int (1 : Int32)), .val (.ref b79), .val (.ref b82), .val (.ref b86), .val (.ref b92), .val (.ref b86), .val (.ref b92), .val (.int (15 : Int32)), .unset] [(.int (p2.toInt8.toInt32)), (.int (0 : Int32)), (.ref b92)])) rfl rfl (hb hby at_100)
    refine gobW st113 ?_
    have z114 : n0 ≤ h113.size := Nat.le_trans z110 (Keep.of_wr W113).1
    have N113 := Fr.snoc X113 N109 g98
    have V113 : Arv Z h113 b92 k92 .byte (16 : Int32) [(.int (nar .byte (p2.toInt8.toInt32))), (.int (0 : Int32)), (.int (0 : Int32)), (.int (0 : Int32)), (.int (0 : Int32)), (.int (0 : Int32)), (.int (0 : Int32)), (.int (0 : Int32)), (.int (0 : Int32)), (.int (0 : Int32)), (.int (0 : Int32)), (.int (0 : Int32)), (.int (0 : Int32)), (.int (0 : Int32)), (.int (0 : Int32)), (.int (0 : Int32))] (.int (0 : Int32)) := Arv.set Ar111 aq111 S111 N111 H111 G111 (fits_nar_byte _) W113 0 rfl (Nat.le_of_ble_eq_true rfl)
    show GoW _ _ _ _ _ _ _ (T113.setTop (mkF m 101 #[.val (.int p0), .val (.int p1), .val (.int p2), .val (.int p3), .val (.int p4), .val (.int p5), .val (.int (1 : Int32)), .val (.ref b79), .val (.ref b82), .val (.ref b86), .val (.ref b92), .val (.ref b86), .val (.ref b92), .val (.int (15 : Int32)), .unset] []))
    refine gobW (fun _ k => XS.aload X113.here hx rfl (hb hby at_101) rfl rfl k) ?_
    show GoW _ _ _ _ _ _ _ (T113.setTop (mkF m 103 #[.val (.int p0), .val (.int p1), .val (.int p2), .val (.int p3), .val (.int p4), .val (.int p5), .val (.int (1 : Int32)), .val (.ref b79), .val (.ref b82), .val (.ref b86), .val (.ref b92), .val (.ref b86), .val (.ref b92), .val (.int (15 : Int32)), .unset] [(.ref b92)]))
    refine gobW (fun _ k => XS.iload X113.here hx rfl (hb hby at_103) rfl k) ?_
    show GoW _ _ _ _ _ _ _ (T113.setTop (mkF m 105 #[.val (.int p0), .val (.int p1), .val (.int p2), .val (.int p3), .val (.int p4), .val (.int p5), .val (.int (1 : Int32)), .val (.ref b79), .val (.ref b82), .val (.ref b86), .val (.ref b92), .val (.ref b86), .val (.ref b92), .val (.int (15 : Int32)), .unset] [(.int (15 : Int32)), (.ref b92)]))
    refine gobW (fun _ k => XS.iloadN X113.here hx rfl (hb hby at_105) rfl k) ?_
    show GoW _ _ _ _ _ _ _ (T113.setTop (mkF m 106 #[.val (.int p0), .val (.int p1), .val (.int p2), .val (.int p3), .val (.int p4), .val (.int p5), .val (.int (1 : Int32)), .val (.ref b79), .val (.ref b82), .val (.ref b86), .val (.ref b92), .val (.ref b86), .val (.ref b92), .val (.int (15 : Int32)), .unset] [(.int p2), (.int (15 : Int32)), (.ref b92)]))
    refine gobW (fun _ k => XS.bipush X113.here hx rfl (hb hby at_106) k) ?_
    show GoW _ _ _ _ _ _ _ (T113.setTop (mkF m 108 #[.val (.int p0), .val (.int p1), .val (.int p2), .val (.int p3), .val (.int p4), .val (.int p5), .val (.int (1 : Int32)), .val (.ref b79), .val (.ref b82), .val (.ref b86), .val (.ref b92), .val (.ref b86), .val (.ref b92), .val (.int (15 : Int32)), .unset] [(.int (8 : Int32)), (.int p2), (.int (15 : Int32)), (.ref b92)]))
    refine gobW (fun _ k => XS.iushr X113.here hx rfl (hb hby at_108) rfl k) ?_
    show GoW _ _ _ _ _ _ _ (T113.setTop (mkF m 109 #[.val (.int p0), .val (.int p1), .val (.int p2), .val (.int p3), .val (.int p4), .val (.int p5), .val (.int (1 : Int32)), .val (.ref b79), .val (.ref b82), .val (.ref b86), .val (.ref b92), .val (.ref b86), .val (.ref b92), .val (.int (15 : Int32)), .unset] [(.int ((p2.toUInt32 >>> ((8 : Int32) &&& 31).toUInt32).toInt32)), (.int (15 : Int32)), (.ref b92)]))
    refine gobW (fun _ k => XS.i2b X113.here hx rfl (hb hby at_109) rfl k) ?_
    show GoW _ _ _ _ _ _ _ (T113.setTop (mkF m 110 #[.val (.int p0), .val (.int p1), .val (.int p2), .val (.int p3), .val (.int p4), .val (.int p5), .val (.int (1 : Int32)), .val (.ref b79), .val (.ref b82), .val (.ref b86), .val (.ref b92), .val (.ref b86), .val (.ref b92), .val (.int (15 : Int32)), .unset] [(.int (((p2.toUInt32 >>> ((8 : Int32) &&& 31).toUInt32).toInt32).toInt8.toInt32)), (.int (15 : Int32)), (.ref b92)]))
    obtain ⟨cl115, Ar115, aq115, S115, N115, H115, G115⟩ := id V113
    have hin115 : ¬ ((15 : Int32) < 0 ∨ cl115.slots.size ≤ ((15 : Int32)).toNatClampNeg) := inb_of S115 ⟨by decide, by decide⟩
    obtain ⟨T116, h116, X116, e116, W116, st116⟩ := stB X113 hx hZ e113 Ar115 (j := (15 : Int32)) hin115 (g := (mkF m 110 #[.val (.int p0), .val (.int p1), .val (.int p2), .val (.int p3), .val (.int p4), .val (.int p5), .val (.int (1 : Int32)), .val (.ref b79), .val (.ref b82), .val (.ref b86), .val (.ref b92), .val (.ref b86), .val (.ref b92), .val (.int (15 : Int32)), .unset] [(.int (((p2.toUInt32 >>> ((8 : Int32) &&& 31).toUInt32).toInt32).toInt8.toInt32)), (.int (15 : Int32)), (.ref b92)])) rfl rfl (hb hby at_110)
    refine gobW st116 ?_
    have z117 : n0 ≤ h116.size := Nat.le_trans z114 (Keep.of_wr W116).1
    have N116 := Fr.snoc X116 N113 g98
    have V116 : Arv Z h116 b92 k92 .byte (16 : Int32) [(.int (nar .byte (p2.toInt8.toInt32))), (.int (0 : Int32)), (.int (0 : Int32)), (.int (0 : Int32)), (.int (0 : Int32)), (.int (0 : Int32)), (.int (0 : Int32)), (.int (0 : Int32)), (.int (0 : Int32)), (.int (0 : Int32)), (.int (0 : Int32)), (.int (0 : Int32)), (.int (0 : Int32)), (.int (0 : Int32)), (.int (0 : Int32)), (.int (nar .byte (((p2.toUInt32 >>> ((8 : Int32) &&& 31).toUInt32).toInt32).toInt8.toInt32)))] (.int (0 : Int32)) := Arv.set Ar115 aq115 S115 N115 H115 G115 (fits_nar_byte _) W116 15 rfl (Nat.le_of_ble_eq_true rfl)
    show GoW _ _ _ _ _ _ _ (T116.setTop (mkF m 111 #[.val (.int p0), .val (.int p1), .val (.int p2), .val (.int p3), .val (.int p4), .val (.int p5), .val (.int (1 : Int32)), .val (.ref b79), .val (.ref b82), .val (.ref b86), .val (.ref b92), .val (.ref b86), .val (.ref b92), .val (.int (15 : Int32)), .unset] []))
    refine gobW (fun _ k => XS.aload X116.here hx rfl (hb hby at_111) rfl rfl k) ?_
    show GoW _ _ _ _ _ _ _ (T116.setTop (mkF m 113 #[.val (.int p0), .val (.int p1), .val (.int p2), .val (.int p3), .val (.int p4), .val (.int p5), .val (.int (1 : Int32)), .val (.ref b79), .val (.ref b82), .val (.ref b86), .val (.ref b92), .val (.ref b86), .val (.ref b92), .val (.int (15 : Int32)), .unset] [(.ref b92)]))
    refine gobW (fun _ k => XS.iconst X116.here hx rfl (hb hby at_113) k) ?_
    show GoW _ _ _ _ _ _ _ (T116.setTop (mkF m 114 #[.val (.int p0), .val (.int p1), .val (.int p2), .val (.int p3), .val (.int p4), .val (.int p5), .val (.int (1 : Int32)), .val (.ref b79), .val (.ref b82), .val (.ref b86), .val (.ref b92), .val (.ref b86), .val (.ref b92), .val (.int (15 : Int32)), .unset] [(.int (1 : Int32)), (.ref b92)]))
    refine gobW (fun _ k => XS.iloadN X116.here hx rfl (hb hby at_114) rfl k) ?_
    show GoW _ _ _ _ _ _ _ (T116.setTop (mkF m 115 #[.val (.int p0), .val (.int p1), .val (.int p2), .val (.int p3), .val (.int p4), .val (.int p5), .val (.int (1 : Int32)), .val (.ref b79), .val (.ref b82), .val (.ref b86), .val (.ref b92), .val (.ref b86), .val (.ref b92), .val (.int (15 : Int32)), .unset] [(.int p2), (.int (1 : Int32)), (.ref b92)]))
    refine gobW (fun _ k => XS.bipush X116.here hx rfl (hb hby at_115) k) ?_
    show GoW _ _ _ _ _ _ _ (T116.setTop (mkF m 117 #[.val (.int p0), .val (.int p1), .val (.int p2), .val (.int p3), .val (.int p4), .val (.int p5), .val (.int (1 : Int32)), .val (.ref b79), .val (.ref b82), .val (.ref b86), .val (.ref b92), .val (.ref b86), .val (.ref b92), .val (.int (15 : Int32)), .unset] [(.int (16 : Int32)), (.int p2), (.int (1 : Int32)), (.ref b92)]))
    refine gobW (fun _ k => XS.iushr X116.here hx rfl (hb hby at_117) rfl k) ?_
    show GoW _ _ _ _ _ _ _ (T116.setTop (mkF m 118 #[.val (.int p0), .val (.int p1), .val (.int p2), .val (.int p3), .val (.int p4), .val (.int p5), .val (.int (1 : Int32)), .val (.ref b79), .val (.ref b82), .val (.ref b86), .val (.ref b92), .val (.ref b86), .val (.ref b92), .val (.int (15 : Int32)), .unset] [(.int ((p2.toUInt32 >>> ((16 : Int32) &&& 31).toUInt32).toInt32)), (.int (1 : Int32)), (.ref b92)]))
    refine gobW (fun _ k => XS.i2b X116.here hx rfl (hb hby at_118) rfl k) ?_
    show GoW _ _ _ _ _ _ _ (T116.setTop (mkF m 119 #[.val (.int p0), .val (.int p1), .val (.int p2), .val (.int p3), .val (.int p4), .val (.int p5), .val (.int (1 : Int32)), .val (.ref b79), .val (.ref b82), .val (.ref b86), .val (.ref b92), .val (.ref b86), .val (.ref b92), .val (.int (15 : Int32)), .unset] [(.int (((p2.toUInt32 >>> ((16 : Int32) &&& 31).toUInt32).toInt32).toInt8.toInt32)), (.int (1 : Int32)), (.ref b92)]))
    obtain ⟨cl118, Ar118, aq118, S118, N118, H118, G118⟩ := id V116
    have hin118 : ¬ ((1 : Int32) < 0 ∨ cl118.slots.size ≤ ((1 : Int32)).toNatClampNeg) := inb_of S118 ⟨by decide, by decide⟩
    obtain ⟨T119, h119, X119, e119, W119, st119⟩ := stB X116 hx hZ e116 Ar118 (j := (1 : Int32)) hin118 (g := (mkF m 119 #[.val (.int p0), .val (.int p1), .val (.int p2), .val (.int p3), .val (.int p4), .val (.int p5), .val (.int (1 : Int32)), .val (.ref b79), .val (.ref b82), .val (.ref b86), .val (.ref b92), .val (.ref b86), .val (.ref b92), .val (.int (15 : Int32)), .unset] [(.int (((p2.toUInt32 >>> ((16 : Int32) &&& 31).toUInt32).toInt32).toInt8.toInt32)), (.int (1 : Int32)), (.ref b92)])) rfl rfl (hb hby at_119)
    refine gobW st119 ?_
    have z120 : n0 ≤ h119.size := Nat.le_trans z117 (Keep.of_wr W119).1
    have N119 := Fr.snoc X119 N116 g98
    have V119 : Arv Z h119 b92 k92 .byte (16 : Int32) [(.int (nar .byte (p2.toInt8.toInt32))), (.int (nar .byte (((p2.toUInt32 >>> ((16 : Int32) &&& 31).toUInt32).toInt32).toInt8.toInt32))), (.int (0 : Int32)), (.int (0 : Int32)), (.int (0 : Int32)), (.int (0 : Int32)), (.int (0 : Int32)), (.int (0 : Int32)), (.int (0 : Int32)), (.int (0 : Int32)), (.int (0 : Int32)), (.int (0 : Int32)), (.int (0 : Int32)), (.int (0 : Int32)), (.int (0 : Int32)), (.int (nar .byte (((p2.toUInt32 >>> ((8 : Int32) &&& 31).toUInt32).toInt32).toInt8.toInt32)))] (.int (0 : Int32)) := Arv.set Ar118 aq118 S118 N118 H118 G118 (fits_nar_byte _) W119 1 rfl (Nat.le_of_ble_eq_true rfl)
    show GoW _ _ _ _ _ _ _ (T119.setTop (mkF m 120 #[.val (.int p0), .val (.int p1), .val (.int p2), .val (.int p3), .val (.int p4), .val (.int p5), .val (.int (1 : Int32)), .val (.ref b79), .val (.ref b82), .val (.ref b86), .val (.ref b92), .val (.ref b86), .val (.ref b92), .val (.int (15 : Int32)), .unset] []))
    obtain ⟨T121, h121, X121, e121, E121, A121, D121, -, st121⟩ := newO X119 hx hZ hown (hw _ (List.mem_of_getElem? (i := 1) rfl)) (hw _ (List.mem_of_getElem? (i := 2) rfl)) (hw _ (List.mem_of_getElem? (i := 3) rfl)) e119 (g := (mkF m 120 #[.val (.int p0), .val (.int p1), .val (.int p2), .val (.int p3), .val (.int p4), .val (.int p5), .val (.int (1 : Int32)), .val (.ref b79), .val (.ref b82), .val (.ref b86), .val (.ref b92), .val (.ref b86), .val (.ref b92), .val (.int (15 : Int32)), .unset] [])) rfl (hb hby at_120) (by decide) (by decide)
    obtain ⟨b121, g121⟩ : ∃ z, z = h119.size := ⟨_, rfl⟩
    rw [← g121] at A121 D121 st121
    have c122 := (((((((c93.ext E92).other W103 n88).other W106 n88).other W109 n88).other W113 n94).other W116 n94).other W119 n94)
    have n123 : b79 ≠ b121 := Nat.ne_of_lt (Nat.lt_of_lt_of_le c122.lt (Nat.le_of_eq g121.symm))
    have c124 := (((((((c95.ext E92).other W103 n89).other W106 n89).other W109 n89).other W113 n96).other W116 n96).other W119 n96)
    have n125 : b82 ≠ b121 := Nat.ne_of_lt (Nat.lt_of_lt_of_le c124.lt (Nat.le_of_eq g121.symm))
    have c126 := (((V109.other W113 n97).other W116 n97).other W119 n97)
    have n127 : b86 ≠ b121 := Nat.ne_of_lt (Nat.lt_of_lt_of_le c126.lt (Nat.le_of_eq g121.symm))
    have n128 : b92 ≠ b121 := Nat.ne_of_lt (Nat.lt_of_lt_of_le V119.lt (Nat.le_of_eq g121.symm))
    have g129 : n0 ≤ b121 := Nat.le_trans z120 (Nat.le_of_eq g121.symm)
    have z130 : n0 ≤ h121.size := Nat.le_trans z120 E121.1
    have F121_encoded : Fld Z h121 b121 "com/example/flomem/flomem/core/FlowKey" "encoded" "[B" .null := D121 (Or.inr (hw _ (List.mem_of_getElem? (i := 38) rfl))) (ty := (.array .byte)) (by decide)
    refine gobW st121 ?_
    replace X121 := castX X121 (rfl : _ = 5) (rfl : _ = 41)
    show GoW _ _ _ _ _ _ _ (T121.setTop (mkF m 123 #[.val (.int p0), .val (.int p1), .val (.int p2), .val (.int p3), .val (.int p4), .val (.int p5), .val (.int (1 : Int32)), .val (.ref b79), .val (.ref b82), .val (.ref b86), .val (.ref b92), .val (.ref b86), .val (.ref b92), .val (.int (15 : Int32)), .unset] [(.ref b121)]))
    refine gobW (fun _ k => XS.dup X121.here hx rfl (hb hby at_123) rfl rfl k) ?_
    show GoW _ _ _ _ _ _ _ (T121.setTop (mkF m 124 #[.val (.int p0), .val (.int p1), .val (.int p2), .val (.int p3), .val (.int p4), .val (.int p5), .val (.int (1 : Int32)), .val (.ref b79), .val (.ref b82), .val (.ref b86), .val (.ref b92), .val (.ref b86), .val (.ref b92), .val (.int (15 : Int32)), .unset] [(.ref b121), (.ref b121)]))
    refine gobW (fun _ k => XS.aload X121.here hx rfl (hb hby at_124) rfl rfl k) ?_
    show GoW _ _ _ _ _ _ _ (T121.setTop (mkF m 126 #[.val (.int p0), .val (.int p1), .val (.int p2), .val (.int p3), .val (.int p4), .val (.int p5), .val (.int (1 : Int32)), .val (.ref b79), .val (.ref b82), .val (.ref b86), .val (.ref b92), .val (.ref b86), .val (.ref b92), .val (.int (15 : Int32)), .unset] [(.ref b86), (.ref b121), (.ref b121)]))
    refine gobW (fun _ k => XS.aload X121.here hx rfl (hb hby at_126) rfl rfl k) ?_
    show GoW _ _ _ _ _ _ _ (T121.setTop (mkF m 128 #[.val (.int p0), .val (.int p1), .val (.int p2), .val (.int p3), .val (.int p4), .val (.int p5), .val (.int (1 : Int32)), .val (.ref b79), .val (.ref b82), .val (.ref b86), .val (.ref b92), .val (.ref b86), .val (.ref b92), .val (.int (15 : Int32)), .unset] [(.ref b92), (.ref b86), (.ref b121), (.ref b121)]))
    refine gobW (fun _ k => XS.iloadN X121.here hx rfl (hb hby at_128) rfl k) ?_
    show GoW _ _ _ _ _ _ _ (T121.setTop (mkF m 129 #[.val (.int p0), .val (.int p1), .val (.int p2), .val (.int p3), .val (.int p4), .val (.int p5), .val (.int (1 : Int32)), .val (.ref b79), .val (.ref b82), .val (.ref b86), .val (.ref b92), .val (.ref b86), .val (.ref b92), .val (.int (15 : Int32)), .unset] [(.int p3), (.ref b92), (.ref b86), (.ref b121), (.ref b121)]))
    refine gobW (fun _ k => XS.sipush X121.here hx rfl (hb hby at_129) k) ?_
    show GoW _ _ _ _ _ _ _ (T121.setTop (mkF m 132 #[.val (.int p0), .val (.int p1), .val (.int p2), .val (.int p3), .val (.int p4), .val (.int p5), .val (.int (1 : Int32)), .val (.ref b79), .val (.ref b82), .val (.ref b86), .val (.ref b92), .val (.ref b86), .val (.ref b92), .val (.int (15 : Int32)), .unset] [(.int (255 : Int32)), (.int p3), (.ref b92), (.ref b86), (.ref b121), (.ref b121)]))
    refine gobW (fun _ k => XS.iand X121.here hx rfl (hb hby at_132) rfl k) ?_
    show GoW _ _ _ _ _ _ _ (T121.setTop (mkF m 133 #[.val (.int p0), .val (.int p1), .val (.int p2), .val (.int p3), .val (.int p4), .val (.int p5), .val (.int (1 : Int32)), .val (.ref b79), .val (.ref b82), .val (.ref b86), .val (.ref b92), .val (.ref b86), .val (.ref b92), .val (.int (15 : Int32)), .unset] [(.int (p3 &&& (255 : Int32))), (.ref b92), (.ref b86), (.ref b121), (.ref b121)]))
    refine gobW (fun _ k => XS.iload X121.here hx rfl (hb hby at_133) rfl k) ?_
    show GoW _ _ _ _ _ _ _ (T121.setTop (mkF m 135 #[.val (.int p0), .val (.int p1), .val (.int p2), .val (.int p3), .val (.int p4), .val (.int p5), .val (.int (1 : Int32)), .val (.ref b79), .val (.ref b82), .val (.ref b86), .val (.ref b92), .val (.ref b86), .val (.ref b92), .val (.int (15 : Int32)), .unset] [(.int p4), (.int (p3 &&& (255 : Int32))), (.ref b92), (.ref b86), (.ref b121), (.ref b121)]))
    refine gobW (X121.ldcInt hx hown (mvT hZ (hw _ (List.mem_of_getElem? (i := 4) rfl))) (g := (mkF m 135 #[.val (.int p0), .val (.int p1), .val (.int p2), .val (.int p3), .val (.int p4), .val (.int p5), .val (.int (1 : Int32)), .val (.ref b79), .val (.ref b82), .val (.ref b86), .val (.ref b92), .val (.ref b86), .val (.ref b92), .val (.int (15 : Int32)), .unset] [(.int p4), (.int (p3 &&& (255 : Int32))), (.ref b92), (.ref b86), (.ref b121), (.ref b121)])) rfl (hb hby at_135)) ?_
    show GoW _ _ _ _ _ _ _ (T121.setTop (mkF m 137 #[.val (.int p0), .val (.int p1), .val (.int p2), .val (.int p3), .val (.int p4), .val (.int p5), .val (.int (1 : Int32)), .val (.ref b79), .val (.ref b82), .val (.ref b86), .val (.ref b92), .val (.ref b86), .val (.ref b92), .val (.int (15 : Int32)), .unset] [(.int (65535 : Int32)), (.int p4), (.int (p3 &&& (255 : Int32))), (.ref b92), (.ref b86), (.ref b121), (.ref b121)]))
    refine gobW (fun _ k => XS.iand X121.here hx rfl (hb hby at_137) rfl k) ?_
    show GoW _ _ _ _ _ _ _ (T121.setTop (mkF m 138 #[.val (.int p0), .val (.int p1), .val (.int p2), .val (.int p3), .val (.int p4), .val (.int p5), .val (.int (1 : Int32)), .val (.ref b79), .val (.ref b82), .val (.ref b86), .val (.ref b92), .val (.ref b86), .val (.ref b92), .val (.int (15 : Int32)), .unset] [(.int (p4 &&& (65535 : Int32))), (.int (p3 &&& (255 : Int32))), (.ref b92), (.ref b86), (.ref b121), (.ref b121)]))
    refine gobW (fun _ k => XS.iload X121.here hx rfl (hb hby at_138) rfl k) ?_
    show GoW _ _ _ _ _ _ _ (T121.setTop (mkF m 140 #[.val (.int p0), .val (.int p1), .val (.int p2), .val (.int p3), .val (.int p4), .val (.int p5), .val (.int (1 : Int32)), .val (.ref b79), .val (.ref b82), .val (.ref b86), .val (.ref b92), .val (.ref b86), .val (.ref b92), .val (.int (15 : Int32)), .unset] [(.int p5), (.int (p4 &&& (65535 : Int32))), (.int (p3 &&& (255 : Int32))), (.ref b92), (.ref b86), (.ref b121), (.ref b121)]))
    refine gobW (X121.ldcInt hx hown (mvT hZ (hw _ (List.mem_of_getElem? (i := 4) rfl))) (g := (mkF m 140 #[.val (.int p0), .val (.int p1), .val (.int p2), .val (.int p3), .val (.int p4), .val (.int p5), .val (.int (1 : Int32)), .val (.ref b79), .val (.ref b82), .val (.ref b86), .val (.ref b92), .val (.ref b86), .val (.ref b92), .val (.int (15 : Int32)), .unset] [(.int p5), (.int (p4 &&& (65535 : Int32))), (.int (p3 &&& (255 : Int32))), (.ref b92), (.ref b86), (.ref b121), (.ref b121)])) rfl (hb hby at_140)) ?_
    show GoW _ _ _ _ _ _ _ (T121.setTop (mkF m 142 #[.val (.int p0), .val (.int p1), .val (.int p2), .val (.int p3), .val (.int p4), .val (.int p5), .val (.int (1 : Int32)), .val (.ref b79), .val (.ref b82), .val (.ref b86), .val (.ref b92), .val (.ref b86), .val (.ref b92), .val (.int (15 : Int32)), .unset] [(.int (65535 : Int32)), (.int p5), (.int (p4 &&& (65535 : Int32))), (.int (p3 &&& (255 : Int32))), (.ref b92), (.ref b86), (.ref b121), (.ref b121)]))
    refine gobW (fun _ k => XS.iand X121.here hx rfl (hb hby at_142) rfl k) ?_
    show GoW _ _ _ _ _ _ _ (T121.setTop (mkF m 143 #[.val (.int p0), .val (.int p1), .val (.int p2), .val (.int p3), .val (.int p4), .val (.int p5), .val (.int (1 : Int32)), .val (.ref b79), .val (.ref b82), .val (.ref b86), .val (.ref b92), .val (.ref b86), .val (.ref b92), .val (.int (15 : Int32)), .unset] [(.int (p5 &&& (65535 : Int32))), (.int (p4 &&& (65535 : Int32))), (.int (p3 &&& (255 : Int32))), (.ref b92), (.ref b86), (.ref b121), (.ref b121)]))
    have c132 := (c126.ext E121)
    have c133 := (V119.ext E121)
    obtain ⟨_, _, ⟨T131, L131, k131, n131⟩, -, X131, hS, -, ⟨Lc131, hQ131, l131, y131, z131⟩, st131⟩ := X121.specialBackS hx (y := (⟨"com/example/flomem/flomem/core/FlowKey", "<init>", "([B[BIII)V"⟩ : MethodName)) rfl hown (mvT hZ (hw _ (List.mem_of_getElem? (i := 5) rfl))) (mvT hZ (hw _ (List.mem_of_getElem? (i := 6) rfl))) (mvT hZ (hw _ (List.mem_of_getElem? (i := 7) rfl))) (by decide) (backOfS (W := 1) (rm1_16 l Z a0 hw [] b121 b86 b92 (p3 &&& (255 : Int32)) (p4 &&& (65535 : Int32)) (p5 &&& (65535 : Int32)) k86 (nar .byte (p1.toInt8.toInt32)) (nar .byte (((p1.toUInt32 >>> ((16 : Int32) &&& 31).toUInt32).toInt32).toInt8.toInt32)) (0 : Int32) (0 : Int32) (0 : Int32) (0 : Int32) (0 : Int32) (0 : Int32) (0 : Int32) (0 : Int32) (0 : Int32) (0 : Int32) (0 : Int32) (0 : Int32) (0 : Int32) (nar .byte (((p1.toUInt32 >>> ((8 : Int32) &&& 31).toUInt32).toInt32).toInt8.toInt32)) k92 (nar .byte (p2.toInt8.toInt32)) (nar .byte (((p2.toUInt32 >>> ((16 : Int32) &&& 31).toUInt32).toInt32).toInt8.toInt32)) (0 : Int32) (0 : Int32) (0 : Int32) (0 : Int32) (0 : Int32) (0 : Int32) (0 : Int32) (0 : Int32) (0 : Int32) (0 : Int32) (0 : Int32) (0 : Int32) (0 : Int32) (nar .byte (((p2.toUInt32 >>> ((8 : Int32) &&& 31).toUInt32).toInt32).toInt8.toInt32)) h121 n0 z130 A121 c132 c133 (la_0_143_134 p3 ) (la_0_143_135 p3 ) (la_0_143_136 p4 ) (la_0_143_137 p4 ) (la_0_143_138 p5 ) (la_0_143_139 p5 ) F121_encoded g129) hZ (hw _ (List.mem_of_getElem? (i := 7) rfl)) (hw _ (List.mem_of_getElem? (i := 3) rfl)) (by decide) (by decide)) (g := (mkF m 143 #[.val (.int p0), .val (.int p1), .val (.int p2), .val (.int p3), .val (.int p4), .val (.int p5), .val (.int (1 : Int32)), .val (.ref b79), .val (.ref b82), .val (.ref b86), .val (.ref b92), .val (.ref b86), .val (.ref b92), .val (.int (15 : Int32)), .unset] [(.int (p5 &&& (65535 : Int32))), (.int (p4 &&& (65535 : Int32))), (.int (p3 &&& (255 : Int32))), (.ref b92), (.ref b86), (.ref b121), (.ref b121)])) rfl (by rw [hml]; rfl) (Steps.refl _) (a := b121) (argsL := [(.ref b86), (.ref b92), (.int (p3 &&& (255 : Int32))), (.int (p4 &&& (65535 : Int32))), (.int (p5 &&& (65535 : Int32)))]) (rest := [(.ref b121)]) (lenOf pd_3 rfl) rfl (by show 2 * 0 + _ ≤ _; exact Nat.le_of_eq rfl) (hb hby at_143) (fun _ _ => ⟨rfl, e121, (by decide : 5 + 11 ≤ _), (by decide : 41 + 321 ≤ _)⟩)
    dsimp only [Pt.U, Pt.locs, Pt.cells, Pt.slots] at X131 l131 y131 z131 st131 hQ131
    replace X131 := castX X131 (y131.trans (rfl : _ = 16)) (z131.trans (rfl : _ = 362))
    dsimp only [Pt.U] at hS
    replace hZ : Z.Warmed39 (s.setVm T131.vm).vm := State.Warmed39.trans (t := s) hZ hS.1
    replace hown : (s.setVm T131.vm).vm.findClass "com/example/flomem/flomem/core/FlowKeyIsIpv6PinLaw" = some m.cls := by rw [show (s.setVm T131.vm).vm = T131.vm from rfl, hS.1.alike.findClass]; exact hown
    obtain ⟨b140, k141, rfl, Nq131, K131, hz142, F143, F144⟩ := hQ131
    have N131 : Fr n0 L131 := l131 ▸ Fr.app N119 Nq131
    have c146 := (c122.ext E121)
    have n145 : b79 ≠ b140 := Nat.ne_of_lt (Nat.lt_of_lt_of_le c146.lt hz142)
    have c148 := (c124.ext E121)
    have n147 : b82 ≠ b140 := Nat.ne_of_lt (Nat.lt_of_lt_of_le c148.lt hz142)
    have n149 : b86 ≠ b140 := Nat.ne_of_lt (Nat.lt_of_lt_of_le c132.lt hz142)
    have n150 : b92 ≠ b140 := Nat.ne_of_lt (Nat.lt_of_lt_of_le c133.lt hz142)
    have n151 : b121 ≠ b140 := Nat.ne_of_lt (Nat.lt_of_lt_of_le A121.lt hz142)
    have g152 : n0 ≤ b140 := Nat.le_trans z130 hz142
    have z153 : n0 ≤ T131.heap.size := Nat.le_trans z130 K131.1
    refine gobW (fun _ k => st131.trans k) ?_
    show GoW _ _ _ _ _ _ _ (T131.setTop (mkF m 146 #[.val (.int p0), .val (.int p1), .val (.int p2), .val (.int p3), .val (.int p4), .val (.int p5), .val (.int (1 : Int32)), .val (.ref b79), .val (.ref b82), .val (.ref b86), .val (.ref b92), .val (.ref b86), .val (.ref b92), .val (.int (15 : Int32)), .unset] [(.ref b121)]))
    refine gobW (fun _ k => XS.astore X131.here hx rfl (hb hby at_146) rfl rfl (l' := #[.val (.int p0), .val (.int p1), .val (.int p2), .val (.int p3), .val (.int p4), .val (.int p5), .val (.int (1 : Int32)), .val (.ref b79), .val (.ref b82), .val (.ref b86), .val (.ref b92), .val (.ref b86), .val (.ref b92), .val (.int (15 : Int32)), .val (.ref b121)]) rfl k) ?_
    show GoW _ _ _ _ _ _ _ (T131.setTop (mkF m 148 #[.val (.int p0), .val (.int p1), .val (.int p2), .val (.int p3), .val (.int p4), .val (.int p5), .val (.int (1 : Int32)), .val (.ref b79), .val (.ref b82), .val (.ref b86), .val (.ref b92), .val (.ref b86), .val (.ref b92), .val (.int (15 : Int32)), .val (.ref b121)] []))
    refine gobW (fun _ k => XS.aload X131.here hx rfl (hb hby at_148) rfl rfl k) ?_
    show GoW _ _ _ _ _ _ _ (T131.setTop (mkF m 150 #[.val (.int p0), .val (.int p1), .val (.int p2), .val (.int p3), .val (.int p4), .val (.int p5), .val (.int (1 : Int32)), .val (.ref b79), .val (.ref b82), .val (.ref b86), .val (.ref b92), .val (.ref b86), .val (.ref b92), .val (.int (15 : Int32)), .val (.ref b121)] [(.ref b121)]))
    have c155 := (A121.keep K131)
    obtain ⟨cq154, kq154, q154a, q154b, q154c⟩ := isOf hZ (rfl : T131.heap = _) c155
    obtain ⟨_, _, ⟨T154, L154, k154, n154⟩, -, X154, ⟨Lc154, hQ154, l154, y154, z154⟩, st154⟩ := X131.virtualBack hx (y := (⟨"com/example/flomem/flomem/core/FlowKey", "isIpv6", "()Z"⟩ : MethodName)) (z := (⟨"com/example/flomem/flomem/core/FlowKey", "isIpv6", "()Z"⟩ : MethodName)) hown (mvT hZ (hw _ (List.mem_of_getElem? (i := 39) rfl))) (mvT hZ (hw _ (List.mem_of_getElem? (i := 40) rfl))) (notFace_of_selects (args := #[]) (mvT hZ (hw _ (List.mem_of_getElem? (i := 42) rfl)))) (mvT hZ (hw _ (List.mem_of_getElem? (i := 42) rfl))) (mvT hZ (hw _ (List.mem_of_getElem? (i := 41) rfl))) (by decide) (backOf (W := 0) (rm6_37 l Z a0 hw [] b121 b140 k141 [(.int (nar .byte (p1.toInt8.toInt32))), (.int (nar .byte (((p1.toUInt32 >>> ((16 : Int32) &&& 31).toUInt32).toInt32).toInt8.toInt32))), (.int (0 : Int32)), (.int (0 : Int32)), (.int (0 : Int32)), (.int (0 : Int32)), (.int (0 : Int32)), (.int (0 : Int32)), (.int (0 : Int32)), (.int (0 : Int32)), (.int (0 : Int32)), (.int (0 : Int32)), (.int (0 : Int32)), (.int (0 : Int32)), (.int (0 : Int32)), (.int (nar .byte (((p1.toUInt32 >>> ((8 : Int32) &&& 31).toUInt32).toInt32).toInt8.toInt32))), (.int (nar .byte (p2.toInt8.toInt32))), (.int (nar .byte (((p2.toUInt32 >>> ((16 : Int32) &&& 31).toUInt32).toInt32).toInt8.toInt32))), (.int (0 : Int32)), (.int (0 : Int32)), (.int (0 : Int32)), (.int (0 : Int32)), (.int (0 : Int32)), (.int (0 : Int32)), (.int (0 : Int32)), (.int (0 : Int32)), (.int (0 : Int32)), (.int (0 : Int32)), (.int (0 : Int32)), (.int (0 : Int32)), (.int (0 : Int32)), (.int (nar .byte (((p2.toUInt32 >>> ((8 : Int32) &&& 31).toUInt32).toInt32).toInt8.toInt32))), (.int (nar .byte ((p3 &&& (255 : Int32)).toInt8.toInt32))), (.int (nar .byte ((((p4 &&& (65535 : Int32)).toUInt32 >>> ((8 : Int32) &&& 31).toUInt32).toInt32).toInt8.toInt32))), (.int (nar .byte ((p4 &&& (65535 : Int32)).toInt8.toInt32))), (.int (nar .byte ((((p5 &&& (65535 : Int32)).toUInt32 >>> ((8 : Int32) &&& 31).toUInt32).toInt32).toInt8.toInt32))), (.int (nar .byte ((p5 &&& (65535 : Int32)).toInt8.toInt32)))] T131.heap n0 z153 F144 F143) hZ (hw _ (List.mem_of_getElem? (i := 43) rfl)) (hw _ (List.mem_of_getElem? (i := 3) rfl)) (by decide) (by decide)) q154a q154c (g := (mkF m 150 #[.val (.int p0), .val (.int p1), .val (.int p2), .val (.int p3), .val (.int p4), .val (.int p5), .val (.int (1 : Int32)), .val (.ref b79), .val (.ref b82), .val (.ref b86), .val (.ref b92), .val (.ref b86), .val (.ref b92), .val (.int (15 : Int32)), .val (.ref b121)] [(.ref b121)])) rfl (by rw [hml]; rfl) (Steps.refl _) (argsL := []) (rest := []) (lenOf pd_4 rfl) rfl (by show 2 * 0 + _ ≤ _; exact Nat.le_of_eq rfl) (hb hby at_150) (fun _ _ => ⟨rfl, (rfl : T131.heap = _), (by decide : 16 + 0 ≤ _), (by decide : 362 + 0 ≤ _)⟩)
    dsimp only [Pt.U, Pt.locs, Pt.cells, Pt.slots] at X154 l154 y154 z154 st154 hQ154
    replace X154 := castX X154 (y154.trans (rfl : _ = 16)) (z154.trans (rfl : _ = 362))
    obtain ⟨rfl, Nq154, e154⟩ := hQ154
    have N154 : Fr n0 L154 := l154 ▸ Fr.app N131 Nq154
    refine gobW (fun _ k => st154.trans k) ?_
    show GoW _ _ _ _ _ _ _ (T154.setTop (mkF m 153 #[.val (.int p0), .val (.int p1), .val (.int p2), .val (.int p3), .val (.int p4), .val (.int p5), .val (.int (1 : Int32)), .val (.ref b79), .val (.ref b82), .val (.ref b86), .val (.ref b92), .val (.ref b86), .val (.ref b92), .val (.int (15 : Int32)), .val (.ref b121)] [(.int (1 : Int32))]))
    refine gobW (fun _ k => XS.iload X154.here hx rfl (hb hby at_153) rfl k) ?_
    show GoW _ _ _ _ _ _ _ (T154.setTop (mkF m 155 #[.val (.int p0), .val (.int p1), .val (.int p2), .val (.int p3), .val (.int p4), .val (.int p5), .val (.int (1 : Int32)), .val (.ref b79), .val (.ref b82), .val (.ref b86), .val (.ref b92), .val (.ref b86), .val (.ref b92), .val (.int (15 : Int32)), .val (.ref b121)] [(.int (1 : Int32)), (.int (1 : Int32))]))
    refine gobW (fun _ k => XS.icmpNo X154.here hx rfl (hb hby at_155) rfl (teq (by decide : (1 : Int32) = (1 : Int32))).2 k) ?_
    show GoW _ _ _ _ _ _ _ (T154.setTop (mkF m 158 #[.val (.int p0), .val (.int p1), .val (.int p2), .val (.int p3), .val (.int p4), .val (.int p5), .val (.int (1 : Int32)), .val (.ref b79), .val (.ref b82), .val (.ref b86), .val (.ref b92), .val (.ref b86), .val (.ref b92), .val (.int (15 : Int32)), .val (.ref b121)] []))
    refine gobW (fun _ k => XS.iconst X154.here hx rfl (hb hby at_158) k) ?_
    show GoW _ _ _ _ _ _ _ (T154.setTop (mkF m 159 #[.val (.int p0), .val (.int p1), .val (.int p2), .val (.int p3), .val (.int p4), .val (.int p5), .val (.int (1 : Int32)), .val (.ref b79), .val (.ref b82), .val (.ref b86), .val (.ref b92), .val (.ref b86), .val (.ref b92), .val (.int (15 : Int32)), .val (.ref b121)] [(.int (1 : Int32))]))
    refine gobW (fun _ k => XS.goto X154.here hx rfl (pc0 := 159) (pc' := 163) rfl (hb hby at_159) (by decide) (by decide) k) ?_
    show GoW _ _ _ _ _ _ _ (T154.setTop (mkF m 163 #[.val (.int p0), .val (.int p1), .val (.int p2), .val (.int p3), .val (.int p4), .val (.int p5), .val (.int (1 : Int32)), .val (.ref b79), .val (.ref b82), .val (.ref b86), .val (.ref b92), .val (.ref b86), .val (.ref b92), .val (.int (15 : Int32)), .val (.ref b121)] [(.int (1 : Int32))]))
    refine goZW X154 hx hlk hS (leH e154 (Nat.le_refl T131.heap.size)) (t := .boolean) Bd.returns (by simp) (hb hby at_163) (z' := (1 : Int32)) rfl ?_ (by decide) (by decide)
    show Q0 Z p0 p1 p2 p3 p4 p5 h0 n0 (some (.int (1 : Int32))) T154.heap _
    exact ⟨rfl, N154⟩
set_option maxRecDepth 65536 in
set_option maxHeartbeats 40000000 in
theorem comes_1 {Post : Tables → Env → Array Value → State → Outcome → State → Prop} (hpost : ∀ tb e args s v u, (limb_1_1.after args s (.returned v) u = true ∧ limb_1_2.after args s (.returned v) u = true ∧ True) → Jvm.D.FramedW s (.returned v) u (Jvm.fieldLocs frame_1_writes args s ++ Jvm.arrayLocs frame_1_arrays args s ++ Jvm.staticLocs frame_1_statics s) 32 5376 → Post tb e args s (.returned v) u) :
    ArmFor flags0 classFile x code maxLocals ret World_1 tables_1 room_1 Calls_1 rest_1 Pre_1 Post := by
  intro l hfl _ _ p e ha hc hk s m args below hf hA hF happ hP
  obtain ⟨hcalls, hrest, hpre⟩ := hP
  obtain ⟨-, -, -, hnamed, -, -, -, hat⟩ := (Spec.applies_iff hf).mp happ
  obtain ⟨hg, hn⟩ := and_e (Cond.before_iff.mp (show (Jvm.Cond.and given_1 narrow_1).before args s = true from hpre))
  obtain ⟨g1, g2⟩ := and_e hg
  obtain ⟨g3, g4⟩ := and_e g2
  obtain ⟨g5, g6⟩ := and_e g4
  obtain ⟨g7, g8⟩ := and_e g6
  obtain ⟨g9, g10⟩ := and_e g8
  obtain ⟨g11, g12⟩ := and_e g10
  obtain ⟨w0, w1, w2, w3, w4, w5, rfl⟩ : ∃ w0 w1 w2 w3 w4 w5 : Value, args = #[w0, w1, w2, w3, w4, w5] := by
    have hs : args.size = 6 := by simpa [Cond.value, given_1] using g1
    obtain ⟨L⟩ := args
    match L, hs with
    | [w0, w1, w2, w3, w4, w5], _ => exact ⟨w0, w1, w2, w3, w4, w5, rfl⟩
  have hw := fun d (hd : d ∈ tables_1) => atoms_spec (ws := Jvm.Cond.code x code maxLocals ret :: tables_1) hat d (List.mem_cons_of_mem _ hd)
  have hfit : Fit s := fun {y c} hc i hi => by
    obtain ⟨ha, rfl⟩ := Array.getElem?_eq_some_iff.mp hc
    have q := List.all_eq_true.mp ((Array.all_eq_true_iff_forall_mem.mp hF) _ (Array.getElem_mem ha)) i (List.mem_range.mpr hi)
    simpa [Array.getElem?_eq_getElem hi] using q
  obtain ⟨i0, ei0⟩ := is_v g3
  obtain rfl : w0 = (.int i0) := Option.some.inj ei0
  obtain ⟨i1, ei1⟩ := is_v g5
  obtain rfl : w1 = (.int i1) := Option.some.inj ei1
  obtain ⟨i2, ei2⟩ := is_v g7
  obtain rfl : w2 = (.int i2) := Option.some.inj ei2
  obtain ⟨i3, ei3⟩ := is_v g9
  obtain rfl : w3 = (.int i3) := Option.some.inj ei3
  obtain ⟨i4, ei4⟩ := is_v g11
  obtain rfl : w4 = (.int i4) := Option.some.inj ei4
  obtain ⟨i5, ei5⟩ := is_v g12
  obtain rfl : w5 = (.int i5) := Option.some.inj ei5
  obtain ⟨n, o, h1, h2, h3, _, L, rfl, ⟨rfl, N⟩, hq⟩ := rm0 l s _ hw tables_1 i0 i1 i2 i3 i4 i5 s.heap s.heap.size (Nat.le_refl _)  p e ha hc hk s m _ below hf ((Spec.applies_iff_loose hf).mp happ).1 ⟨rfl, State.Warmed39.refl s, rfl⟩ trivial
  exact ⟨n, _, h1, h2, h3, hpost _ _ _ _ _ _ ⟨Cond.after_iff.mpr rfl, Cond.after_iff.mpr (eq_i res_at (Term.int_eval (1)) rfl), trivial⟩ ⟨hq.1, hq.2.1, hq.2.2.1, (hq.2.2.2.sift fun y hy => Or.inr (N y hy)).mono (by decide) (by decide)⟩⟩
theorem main_1_1 : Claimed_1_1 := comes_1 fun _ _ _ _ _ _ h hF => ⟨h.1, hF⟩
theorem main_1_2 : Claimed_1_2 := comes_1 fun _ _ _ _ _ _ h hF => ⟨h.2.1, hF⟩
end Jvm.Pilot.@@N@@
namespace Jvm.Pilot.@@N@@
open Jvm Jvm.ClassFile Sem Op Lib Jvm.Free Jvm.Stand Jvm.Pilot.@@N@@.Jvm.D
/-! MADE BY PROGRAM (witnessworld.py) out of the Statement's table words and the real class files: 16 classes; the members and pool entries that the words name. The judged class is class 1, her method 1. -/
namespace start1
open Jvm.ClassFile
def u (s : String) : CpInfo := .utf8 (stringToUtf16 s)
/-- a pool by its gaps: so many unusable entries, then the entry; so many at the end -/
def gap : Nat → List CpInfo → List CpInfo
  | 0, r => r
  | n + 1, r => .unusable :: gap n r
def poolList (es : List (Nat × CpInfo)) (last : Nat) : List CpInfo := es.foldr (fun e r => gap e.1 (e.2 :: r)) (gap last [])
def pool (es : List (Nat × CpInfo)) (last : Nat) : Array CpInfo := ⟨poolList es last⟩
def fileOf (pool : Array CpInfo) (this : Nat) (attrs : Array Attribute := #[]) (ms : Array MethodInfo := #[]) (fl : Nat := 33) (sup : Nat := 0) (ifs : Array Nat := #[]) (fds : Array FieldInfo := #[]) : ClassFile where
  minorVersion := 0
  majorVersion := 65
  constantPool := pool
  accessFlags := fl
  thisClass := this
  superClass := sup
  interfaces := ifs
  fields := fds
  methods := ms
  attributes := attrs
def plain (name : String) (sup : Option ClassId) : Class where
  name := name
  kind := .ordinary
  loader := none
  accessFlags := 33
  super := sup
  interfaces := #[]
  cf := none
  fields := #[]
  methods := #[]
  instanceTypes := #[]
  staticTypes := #[]
  resolved := #[]
  callSites := []
  init := .initialized
  statics := none
  mirror := none

def pool0 : Array CpInfo := pool [(5, u "<init>"), (0, u "()V"), (1, .class_ 10), (1, u "java/lang/Object")] 113

def k0c0 : Code := { maxStack := 0, maxLocals := 1, code := object_method_1_code, exceptionTable := #[], attributes := #[] }
def k0m0 : Method := { name := "<init>", desc := "()V", sig := { parameters := [], returnType := none }, accessFlags := 1, code := some k0c0 }
/-- java/lang/Object -/
def k0 : Class := { plain "java/lang/Object" none with
  accessFlags := 33
  interfaces := #[]
  cf := some (fileOf pool0 8 #[] #[{ accessFlags := 1, nameIndex := 5, descriptorIndex := 6, attributes := #[] }] 33 0 #[] #[])
  fields := #[]
  methods := #[k0m0]
  instanceTypes := #[]
  staticTypes := #[]
  resolved := Array.replicate 124 none
  statics := none }

def pool1 : Array CpInfo := pool [(2, .class_ 4), (1, u "java/lang/Object"), (0, u "<init>"), (0, u "()V"), (0, .class_ 8), (0, u "com/example/flomem/flomem/core/FlowKey"), (0, .integer 65535), (0, .methodref 7 11), (0, .nameAndType 5 12), (0, u "([B[BIII)V"), (0, .methodref 7 14), (0, .nameAndType 15 16), (0, u "isIpv6"), (0, u "()Z"), (0, .class_ 18), (0, u "com/example/flomem/flomem/core/FlowKeyIsIpv6PinLaw"), (2, u "law"), (0, u "(IIIIII)Z")] 5

def k1m0 : Method := { name := "<init>", desc := "()V", sig := { parameters := [], returnType := none }, accessFlags := 1, code := none }
def k1c1 : Code := { maxStack := 8, maxLocals := 15, code := code, exceptionTable := #[], attributes := #[] }
def k1m1 : Method := { name := "law", desc := "(IIIIII)Z", sig := { parameters := [.int, .int, .int, .int, .int, .int], returnType := some .boolean }, accessFlags := 9, code := some k1c1 }
/-- com/example/flomem/flomem/core/FlowKeyIsIpv6PinLaw -/
def k1 : Class := { plain "com/example/flomem/flomem/core/FlowKeyIsIpv6PinLaw" (some 0) with
  accessFlags := 49
  interfaces := #[]
  cf := some (fileOf pool1 17 #[] #[{ accessFlags := 1, nameIndex := 5, descriptorIndex := 6, attributes := #[] }, { accessFlags := 9, nameIndex := 21, descriptorIndex := 22, attributes := #[] }] 49 2 #[] #[])
  fields := #[]
  methods := #[k1m0, k1m1]
  instanceTypes := #[]
  staticTypes := #[]
  resolved := Array.replicate 28 none
  statics := none }

def pool2 : Array CpInfo := pool [(1, .class_ 2), (0, u "java/lang/Comparable"), (0, .class_ 4), (0, u "java/lang/Object")] 7

/-- java/lang/Comparable -/
def k2 : Class := { plain "java/lang/Comparable" (some 0) with
  accessFlags := 1537
  interfaces := #[]
  cf := some (fileOf pool2 1 #[] #[] 1537 3 #[] #[])
  fields := #[]
  methods := #[]
  instanceTypes := #[]
  staticTypes := #[]
  resolved := Array.replicate 12 none
  statics := none }

def pool3 : Array CpInfo := pool [(1, .methodref 2 3), (0, .class_ 4), (0, .nameAndType 5 6), (0, u "java/lang/Object"), (0, u "<init>"), (0, u "()V"), (0, .string 8), (0, u "sourceAddress"), (0, .methodref 10 11), (0, .class_ 12), (0, .nameAndType 13 14), (0, u "java/util/Objects"), (0, u "requireNonNull"), (0, u "(Ljava/lang/Object;Ljava/lang/String;)Ljava/lang/Object;"), (0, .string 16), (0, u "destinationAddress"), (0, .class_ 18), (0, u "com/example/flomem/flomem/core/FlowKey"), (12, .string 32), (0, u "protocol"), (0, .methodref 17 34), (0, .nameAndType 35 36), (0, u "checkRange"), (0, u "(Ljava/lang/String;II)V"), (0, .string 38), (0, u "source port"), (0, .integer 65535), (0, .string 41), (0, u "destination port"), (0, .methodref 43 44), (0, .class_ 45), (0, .nameAndType 46 47), (0, u "java/lang/System"), (0, u "arraycopy"), (0, u "(Ljava/lang/Object;ILjava/lang/Object;II)V"), (0, .methodref 17 49), (0, .nameAndType 50 51), (0, u "putPort"), (0, u "([BII)V"), (0, .fieldref 17 53), (0, .nameAndType 54 55), (0, u "encoded"), (0, u "[B"), (47, .class_ 104), (0, u "java/lang/Comparable"), (0, u "IPV4_LENGTH"), (0, u "I"), (2, u "IPV6_LENGTH"), (1, u "TCP"), (1, u "UDP"), (1, u "IPV4_ADDRESS_LENGTH"), (1, u "IPV6_ADDRESS_LENGTH"), (1, u "TAIL_LENGTH"), (1, u "PROTOCOL_OFFSET"), (1, u "SOURCE_PORT_OFFSET"), (1, u "DESTINATION_PORT_OFFSET"), (1, u "MAX_PROTOCOL"), (1, u "MAX_PORT"), (0, u "([B[BIII)V"), (3, u "isIpv6"), (0, u "()Z")] 30

def k3c0 : Code := { maxStack := 5, maxLocals := 9, code := prog_32_method_1_code, exceptionTable := #[], attributes := #[] }
def k3m0 : Method := { name := "<init>", desc := "([B[BIII)V", sig := { parameters := [(.array .byte), (.array .byte), .int, .int, .int], returnType := none }, accessFlags := 1, code := some k3c0 }
def k3c1 : Code := { maxStack := 2, maxLocals := 1, code := prog_32_method_2_code, exceptionTable := #[], attributes := #[] }
def k3m1 : Method := { name := "isIpv6", desc := "()Z", sig := { parameters := [], returnType := some .boolean }, accessFlags := 1, code := some k3c1 }
def k3c2 : Code := { maxStack := 4, maxLocals := 3, code := prog_32_method_16_code, exceptionTable := #[], attributes := #[] }
def k3m2 : Method := { name := "putPort", desc := "([BII)V", sig := { parameters := [(.array .byte), .int, .int], returnType := none }, accessFlags := 10, code := some k3c2 }
def k3c3 : Code := { maxStack := 5, maxLocals := 3, code := prog_32_method_17_code, exceptionTable := #[], attributes := #[] }
def k3m3 : Method := { name := "checkRange", desc := "(Ljava/lang/String;II)V", sig := { parameters := [(.object "java/lang/String"), .int, .int], returnType := none }, accessFlags := 10, code := some k3c3 }
/-- com/example/flomem/flomem/core/FlowKey -/
def k3 : Class := { plain "com/example/flomem/flomem/core/FlowKey" (some 0) with
  accessFlags := 49
  interfaces := #[2]
  cf := some (fileOf pool3 17 #[] #[{ accessFlags := 1, nameIndex := 5, descriptorIndex := 130, attributes := #[] }, { accessFlags := 1, nameIndex := 134, descriptorIndex := 135, attributes := #[] }, { accessFlags := 10, nameIndex := 50, descriptorIndex := 51, attributes := #[] }, { accessFlags := 10, nameIndex := 35, descriptorIndex := 36, attributes := #[] }] 49 2 #[103] #[{ accessFlags := 25, nameIndex := 105, descriptorIndex := 106, attributes := #[] }, { accessFlags := 25, nameIndex := 109, descriptorIndex := 106, attributes := #[] }, { accessFlags := 25, nameIndex := 111, descriptorIndex := 106, attributes := #[] }, { accessFlags := 25, nameIndex := 113, descriptorIndex := 106, attributes := #[] }, { accessFlags := 26, nameIndex := 115, descriptorIndex := 106, attributes := #[] }, { accessFlags := 26, nameIndex := 117, descriptorIndex := 106, attributes := #[] }, { accessFlags := 26, nameIndex := 119, descriptorIndex := 106, attributes := #[] }, { accessFlags := 26, nameIndex := 121, descriptorIndex := 106, attributes := #[] }, { accessFlags := 26, nameIndex := 123, descriptorIndex := 106, attributes := #[] }, { accessFlags := 26, nameIndex := 125, descriptorIndex := 106, attributes := #[] }, { accessFlags := 26, nameIndex := 127, descriptorIndex := 106, attributes := #[] }, { accessFlags := 26, nameIndex := 129, descriptorIndex := 106, attributes := #[] }, { accessFlags := 18, nameIndex := 54, descriptorIndex := 55, attributes := #[] }])
  fields := #[{ name := "IPV4_LENGTH", type := .int, accessFlags := 25, slot := 0, constantValue := 0 }, { name := "IPV6_LENGTH", type := .int, accessFlags := 25, slot := 1, constantValue := 0 }, { name := "TCP", type := .int, accessFlags := 25, slot := 2, constantValue := 0 }, { name := "UDP", type := .int, accessFlags := 25, slot := 3, constantValue := 0 }, { name := "IPV4_ADDRESS_LENGTH", type := .int, accessFlags := 26, slot := 4, constantValue := 0 }, { name := "IPV6_ADDRESS_LENGTH", type := .int, accessFlags := 26, slot := 5, constantValue := 0 }, { name := "TAIL_LENGTH", type := .int, accessFlags := 26, slot := 6, constantValue := 0 }, { name := "PROTOCOL_OFFSET", type := .int, accessFlags := 26, slot := 7, constantValue := 0 }, { name := "SOURCE_PORT_OFFSET", type := .int, accessFlags := 26, slot := 8, constantValue := 0 }, { name := "DESTINATION_PORT_OFFSET", type := .int, accessFlags := 26, slot := 9, constantValue := 0 }, { name := "MAX_PROTOCOL", type := .int, accessFlags := 26, slot := 10, constantValue := 0 }, { name := "MAX_PORT", type := .int, accessFlags := 26, slot := 11, constantValue := 0 }, { name := "encoded", type := (.array .byte), accessFlags := 18, slot := 0, constantValue := 0 }]
  methods := #[k3m0, k3m1, k3m2, k3m3]
  instanceTypes := #[(.array .byte)]
  staticTypes := #[.int, .int, .int, .int, .int, .int, .int, .int, .int, .int, .int, .int]
  resolved := Array.replicate 166 none
  statics := none }

def pool4 : Array CpInfo := pool [(1, .class_ 2), (0, u "java/io/Serializable"), (0, .class_ 4), (0, u "java/lang/Object")] 2

/-- java/io/Serializable -/
def k4 : Class := { plain "java/io/Serializable" (some 0) with
  accessFlags := 1537
  interfaces := #[]
  cf := some (fileOf pool4 1 #[] #[] 1537 3 #[] #[])
  fields := #[]
  methods := #[]
  instanceTypes := #[]
  staticTypes := #[]
  resolved := Array.replicate 7 none
  statics := none }

def pool5 : Array CpInfo := pool [(2, .class_ 4), (1, u "java/lang/CharSequence"), (42, .class_ 48), (0, u "java/lang/CharSequence$1CodePointIterator"), (10, .class_ 60), (0, u "java/lang/CharSequence$1CharIterator"), (5, .class_ 67), (0, u "java/lang/Object")] 63

/-- java/lang/CharSequence -/
def k5 : Class := { plain "java/lang/CharSequence" (some 0) with
  accessFlags := 1537
  interfaces := #[]
  cf := some (fileOf pool5 2 #[.nestMembers #[47, 59]] #[] 1537 66 #[] #[])
  fields := #[]
  methods := #[]
  instanceTypes := #[]
  staticTypes := #[]
  resolved := Array.replicate 131 none
  statics := none }

def pool6 : Array CpInfo := pool [(1, .class_ 2), (0, u "java/lang/constant/Constable"), (0, .class_ 4), (0, u "java/lang/Object")] 6

/-- java/lang/constant/Constable -/
def k6 : Class := { plain "java/lang/constant/Constable" (some 0) with
  accessFlags := 1537
  interfaces := #[]
  cf := some (fileOf pool6 1 #[] #[] 1537 3 #[] #[])
  fields := #[]
  methods := #[]
  instanceTypes := #[]
  staticTypes := #[]
  resolved := Array.replicate 11 none
  statics := none }

def pool7 : Array CpInfo := pool [(1, .class_ 2), (0, u "java/lang/constant/ConstantDesc"), (0, .class_ 4), (0, u "java/lang/Object")] 32

/-- java/lang/constant/ConstantDesc -/
def k7 : Class := { plain "java/lang/constant/ConstantDesc" (some 0) with
  accessFlags := 1537
  interfaces := #[]
  cf := some (fileOf pool7 1 #[] #[] 1537 3 #[] #[])
  fields := #[]
  methods := #[]
  instanceTypes := #[]
  staticTypes := #[]
  resolved := Array.replicate 37 none
  statics := none }

def pool8 : Array CpInfo := pool [(2, .class_ 4), (1, u "java/lang/Object"), (0, u "<init>"), (0, u "()V"), (3, .class_ 12), (1, u "java/lang/String"), (0, u "value"), (0, u "[B"), (2, u "coder"), (0, u "B"), (2, u "hash"), (0, u "I"), (2, u "hashIsZero"), (0, u "Z"), (13, u "COMPACT_STRINGS"), (534, .class_ 576), (0, u "java/lang/CharSequence"), (22, u "CASE_INSENSITIVE_ORDER"), (0, u "Ljava/util/Comparator;"), (500, u "serialPersistentFields"), (0, u "[Ljava/io/ObjectStreamField;"), (0, .class_ 1104), (0, u "java/lang/String$CaseInsensitiveComparator"), (1, .class_ 1107), (0, u "java/io/Serializable"), (0, .class_ 1109), (0, u "java/lang/Comparable"), (0, .class_ 1111), (0, u "java/lang/constant/Constable"), (0, .class_ 1113), (0, u "java/lang/constant/ConstantDesc"), (2, u "serialVersionUID"), (0, u "J"), (3, u "REPL"), (0, u "C"), (2, u "LATIN1"), (1, u "UTF16")] 323

def k8m0 : Method := { name := "<init>", desc := "()V", sig := { parameters := [], returnType := none }, accessFlags := 1, code := none }
/-- java/lang/String -/
def k8 : Class := { plain "java/lang/String" (some 0) with
  accessFlags := 49
  interfaces := #[4, 2, 5, 6, 7]
  cf := some (fileOf pool8 10 #[.nestMembers #[1103]] #[{ accessFlags := 1, nameIndex := 5, descriptorIndex := 6, attributes := #[] }] 49 2 #[1106, 1108, 575, 1110, 1112] #[{ accessFlags := 18, nameIndex := 13, descriptorIndex := 14, attributes := #[] }, { accessFlags := 18, nameIndex := 17, descriptorIndex := 18, attributes := #[] }, { accessFlags := 2, nameIndex := 21, descriptorIndex := 22, attributes := #[] }, { accessFlags := 2, nameIndex := 25, descriptorIndex := 26, attributes := #[] }, { accessFlags := 26, nameIndex := 1116, descriptorIndex := 1117, attributes := #[] }, { accessFlags := 24, nameIndex := 40, descriptorIndex := 26, attributes := #[] }, { accessFlags := 26, nameIndex := 1101, descriptorIndex := 1102, attributes := #[] }, { accessFlags := 26, nameIndex := 1121, descriptorIndex := 1122, attributes := #[] }, { accessFlags := 25, nameIndex := 599, descriptorIndex := 600, attributes := #[] }, { accessFlags := 24, nameIndex := 1125, descriptorIndex := 18, attributes := #[] }, { accessFlags := 24, nameIndex := 1127, descriptorIndex := 18, attributes := #[] }])
  fields := #[{ name := "value", type := (.array .byte), accessFlags := 18, slot := 0, constantValue := 0 }, { name := "coder", type := .byte, accessFlags := 18, slot := 1, constantValue := 0 }, { name := "hash", type := .int, accessFlags := 2, slot := 2, constantValue := 0 }, { name := "hashIsZero", type := .boolean, accessFlags := 2, slot := 3, constantValue := 0 }, { name := "serialVersionUID", type := .long, accessFlags := 26, slot := 0, constantValue := 0 }, { name := "COMPACT_STRINGS", type := .boolean, accessFlags := 24, slot := 1, constantValue := 0 }, { name := "serialPersistentFields", type := (.array (.object "java/io/ObjectStreamField")), accessFlags := 26, slot := 2, constantValue := 0 }, { name := "REPL", type := .char, accessFlags := 26, slot := 3, constantValue := 0 }, { name := "CASE_INSENSITIVE_ORDER", type := (.object "java/util/Comparator"), accessFlags := 25, slot := 4, constantValue := 0 }, { name := "LATIN1", type := .byte, accessFlags := 24, slot := 5, constantValue := 0 }, { name := "UTF16", type := .byte, accessFlags := 24, slot := 6, constantValue := 0 }]
  methods := #[k8m0]
  instanceTypes := #[(.array .byte), .byte, .int, .boolean]
  staticTypes := #[.long, .boolean, (.array (.object "java/io/ObjectStreamField")), .char, (.object "java/util/Comparator"), .byte, .byte]
  resolved := Array.replicate 1451 none
  statics := none }

def pool9 : Array CpInfo := pool [(2, .class_ 4), (1, u "java/lang/Object"), (0, u "<init>"), (0, u "()V"), (35, .class_ 44), (1, u "java/util/Objects"), (0, u "requireNonNull"), (48, u "(Ljava/lang/Object;Ljava/lang/String;)Ljava/lang/Object;")] 89

def k9m0 : Method := { name := "<init>", desc := "()V", sig := { parameters := [], returnType := none }, accessFlags := 2, code := none }
def k9c1 : Code := { maxStack := 3, maxLocals := 2, code := jdk_31_method_11_code, exceptionTable := #[], attributes := #[] }
def k9m1 : Method := { name := "requireNonNull", desc := "(Ljava/lang/Object;Ljava/lang/String;)Ljava/lang/Object;", sig := { parameters := [(.object "java/lang/Object"), (.object "java/lang/String")], returnType := some (.object "java/lang/Object") }, accessFlags := 9, code := some k9c1 }
/-- java/util/Objects -/
def k9 : Class := { plain "java/util/Objects" (some 0) with
  accessFlags := 49
  interfaces := #[]
  cf := some (fileOf pool9 42 #[] #[{ accessFlags := 2, nameIndex := 5, descriptorIndex := 6, attributes := #[] }, { accessFlags := 9, nameIndex := 45, descriptorIndex := 94, attributes := #[] }] 49 2 #[] #[])
  fields := #[]
  methods := #[k9m0, k9m1]
  instanceTypes := #[]
  staticTypes := #[]
  resolved := Array.replicate 184 none
  statics := none }

def pool10 : Array CpInfo := pool [(2, .class_ 4), (1, u "java/lang/Object"), (0, u "<init>"), (0, u "()V"), (1, .class_ 10), (1, u "java/lang/System"), (0, u "allowSecurityManager"), (0, u "I"), (16, u "cons"), (0, u "Ljava/io/Console;"), (77, .class_ 110), (1, u "java/lang/System$CallersHolder"), (43, u "initialErrStream"), (0, u "Ljava/io/PrintStream;"), (19, u "security"), (0, u "Ljava/lang/SecurityManager;"), (31, .class_ 209), (0, u "java/lang/System$1"), (7, u "props"), (0, u "Ljava/util/Properties;"), (2, u "lineSeparator"), (0, u "Ljava/lang/String;"), (96, .class_ 321), (1, u "java/lang/System$LoggerFinder"), (5, .class_ 328), (0, u "java/lang/System$Logger"), (67, u "err"), (2, u "out"), (91, u "notSupportedJnuEncoding"), (15, u "in"), (17, u "initialIn"), (0, u "Ljava/io/InputStream;"), (35, u "bootLayer"), (0, u "Ljava/lang/ModuleLayer;"), (99, .class_ 664), (0, u "java/lang/System$2"), (9, u "NEVER"), (2, u "MAYBE"), (49, u "arraycopy"), (0, u "(Ljava/lang/Object;ILjava/lang/Object;II)V"), (72, .class_ 802), (0, u "java/lang/System$Logger$Level")] 31

def k10m0 : Method := { name := "<init>", desc := "()V", sig := { parameters := [], returnType := none }, accessFlags := 2, code := none }
def k10m1 : Method := { name := "arraycopy", desc := "(Ljava/lang/Object;ILjava/lang/Object;II)V", sig := { parameters := [(.object "java/lang/Object"), .int, (.object "java/lang/Object"), .int, .int], returnType := none }, accessFlags := 265, code := none }
/-- java/lang/System -/
def k10 : Class := { plain "java/lang/System" (some 0) with
  accessFlags := 49
  interfaces := #[]
  cf := some (fileOf pool10 8 #[.nestMembers #[319, 327, 801, 108, 663, 208]] #[{ accessFlags := 2, nameIndex := 5, descriptorIndex := 6, attributes := #[] }, { accessFlags := 265, nameIndex := 727, descriptorIndex := 728, attributes := #[] }] 49 2 #[] #[{ accessFlags := 25, nameIndex := 507, descriptorIndex := 526, attributes := #[] }, { accessFlags := 25, nameIndex := 399, descriptorIndex := 155, attributes := #[] }, { accessFlags := 25, nameIndex := 396, descriptorIndex := 155, attributes := #[] }, { accessFlags := 10, nameIndex := 525, descriptorIndex := 526, attributes := #[] }, { accessFlags := 26, nameIndex := 674, descriptorIndex := 12, attributes := #[] }, { accessFlags := 26, nameIndex := 677, descriptorIndex := 12, attributes := #[] }, { accessFlags := 10, nameIndex := 11, descriptorIndex := 12, attributes := #[] }, { accessFlags := 74, nameIndex := 175, descriptorIndex := 176, attributes := #[] }, { accessFlags := 10, nameIndex := 491, descriptorIndex := 222, attributes := #[] }, { accessFlags := 74, nameIndex := 29, descriptorIndex := 30, attributes := #[] }, { accessFlags := 74, nameIndex := 154, descriptorIndex := 155, attributes := #[] }, { accessFlags := 10, nameIndex := 217, descriptorIndex := 218, attributes := #[] }, { accessFlags := 10, nameIndex := 221, descriptorIndex := 222, attributes := #[] }, { accessFlags := 8, nameIndex := 562, descriptorIndex := 563, attributes := #[] }])
  fields := #[{ name := "in", type := (.object "java/io/InputStream"), accessFlags := 25, slot := 0, constantValue := 0 }, { name := "out", type := (.object "java/io/PrintStream"), accessFlags := 25, slot := 1, constantValue := 0 }, { name := "err", type := (.object "java/io/PrintStream"), accessFlags := 25, slot := 2, constantValue := 0 }, { name := "initialIn", type := (.object "java/io/InputStream"), accessFlags := 10, slot := 3, constantValue := 0 }, { name := "NEVER", type := .int, accessFlags := 26, slot := 4, constantValue := 0 }, { name := "MAYBE", type := .int, accessFlags := 26, slot := 5, constantValue := 0 }, { name := "allowSecurityManager", type := .int, accessFlags := 10, slot := 6, constantValue := 0 }, { name := "security", type := (.object "java/lang/SecurityManager"), accessFlags := 74, slot := 7, constantValue := 0 }, { name := "notSupportedJnuEncoding", type := (.object "java/lang/String"), accessFlags := 10, slot := 8, constantValue := 0 }, { name := "cons", type := (.object "java/io/Console"), accessFlags := 74, slot := 9, constantValue := 0 }, { name := "initialErrStream", type := (.object "java/io/PrintStream"), accessFlags := 74, slot := 10, constantValue := 0 }, { name := "props", type := (.object "java/util/Properties"), accessFlags := 10, slot := 11, constantValue := 0 }, { name := "lineSeparator", type := (.object "java/lang/String"), accessFlags := 10, slot := 12, constantValue := 0 }, { name := "bootLayer", type := (.object "java/lang/ModuleLayer"), accessFlags := 8, slot := 13, constantValue := 0 }]
  methods := #[k10m0, k10m1]
  instanceTypes := #[]
  staticTypes := #[(.object "java/io/InputStream"), (.object "java/io/PrintStream"), (.object "java/io/PrintStream"), (.object "java/io/InputStream"), .int, .int, .int, (.object "java/lang/SecurityManager"), (.object "java/lang/String"), (.object "java/io/Console"), (.object "java/io/PrintStream"), (.object "java/util/Properties"), (.object "java/lang/String"), (.object "java/lang/ModuleLayer")]
  resolved := Array.replicate 834 none
  statics := none }

def pool11 : Array CpInfo := pool [(1, u "java/lang/Cloneable"), (0, .class_ 1), (0, u "java/lang/Object"), (0, .class_ 3)] 3

/-- java/lang/Cloneable -/
def k11 : Class := { plain "java/lang/Cloneable" (some 0) with
  accessFlags := 1537
  interfaces := #[]
  cf := some (fileOf pool11 2 #[] #[] 1537 4 #[] #[])
  fields := #[]
  methods := #[]
  instanceTypes := #[]
  staticTypes := #[]
  resolved := Array.replicate 8 none
  statics := none }

/-- the primitive byte -/
def k12 : Class := { plain "byte" none with kind := .primitive 'B', accessFlags := 0x411 }
/-- [B -/
def k13 : Class := { plain "[B" (some 0) with kind := .array 12 .byte, interfaces := #[11, 4], accessFlags := 1041 }

/-- the primitive int -/
def k14 : Class := { plain "int" none with kind := .primitive 'I', accessFlags := 0x411 }
/-- [I -/
def k15 : Class := { plain "[I" (some 0) with kind := .array 14 .int, interfaces := #[11, 4], accessFlags := 1041 }

def heap : Heap := #[]
def classes : Array Class := #[k0, k1, k2, k3, k4, k5, k6, k7, k8, k9, k10, k11, k12, k13, k14, k15]
def interned : List (Array UInt16 × Addr) := []
def slotsUsed : Nat := 0
def theMethod : MethodId := ⟨1, 1⟩
def args0 : Array Value := #[.int 5, .int 6, .int 7, .int 8, .int 9, .int 10]
def aboutOver (below : List Frame) : State where
  vm := { classes := classes, interned := interned.toArray }
  heap := heap
  slotsUsed := slotsUsed
  threads := #[{ frames := .invoking theMethod args0 :: below }]
def below0 : List Frame := [.native { method := ⟨0, 0⟩, args := #[] }]
def about1 : State := aboutOver below0
def p0 : Program := .bare "" "" ""
def e0 : Env := launch0.env 0 0 0
theorem w_frames : about1.frames = Frame.invoking theMethod args0 :: below0 := rfl
set_option maxRecDepth 65536 in
theorem w_args : argsFit about1.vm theMethod args0 = true := by decide +kernel
set_option maxRecDepth 65536 in
theorem w_heap : heapFits about1 = true := by decide +kernel
set_option maxRecDepth 65536 in
theorem w_runnable : about1.curStatus? = some .runnable := by decide +kernel
set_option maxRecDepth 65536 in
theorem w_alone : about1.alone = true := by decide +kernel
set_option maxRecDepth 65536 in
theorem w_named : about1.methodNamed? x = some theMethod := by decide +kernel
set_option maxRecDepth 65536 in
theorem w_hears : about1.hears theMethod below0 = true := by decide +kernel
set_option maxRecDepth 65536 in
theorem w_ripe : about1.ripe theMethod args0 below0 = true := by decide +kernel
theorem w_running : about1.status = .running := rfl
set_option maxRecDepth 65536 in
theorem w_room : about1.hasRoom e0.platform room_1 = true :=
  launch0.hasRoom_least _ room_1 (by decide +kernel) (by decide +kernel) (by decide +kernel) (by decide +kernel) (by decide +kernel) (by decide +kernel)
theorem allAtoms_all (ts : List Jvm.Cond) (a : Array Jvm.Value) (st : Jvm.State) : (allAtoms ts).before a st = ts.all (fun c => c.before a st) := by
  induction ts with
  | nil => rfl
  | cons c t ih =>
    show (Jvm.Cond.and c (allAtoms t)).before a st = _
    rw [Jvm.Cond.before_and, ih, List.all_cons]
def words1 : List Jvm.Cond := Jvm.Cond.code x code maxLocals ret :: tables_1
/-- a 'code' word, met by the world's own term for the bytes: nothing is compared byte by byte -/
theorem code_word {y : MethodName} {bytes : ByteArray} {mx : Nat} {rt : Option FieldType} {a : Array Value} {s : State} {m : MethodId} {meth : Method} {c : Code} (h1 : s.methodNamed? y = some m) (h2 : s.vm.method? m = some meth) (h3 : meth.code = some c) (h4 : c.code = bytes)
    (h5 : (c.maxLocals == mx && c.exceptionTable.isEmpty && decide (c.maxStack ≤ mostOperands) && decide (meth.sig.returnType = rt) && !meth.locks && decide (parseMethodDescriptor y.desc = some meth.sig)) = true) : (Jvm.Cond.code y bytes mx rt).before a s = true := by
  simp only [Bool.and_eq_true, beq_iff_eq, Bool.not_eq_true', decide_eq_true_eq] at h5
  obtain ⟨⟨⟨⟨⟨g1, g2⟩, g3⟩, g4⟩, g5⟩, g6⟩ := h5
  simp [Cond.before, Cond.holds, Cond.value, h1, h2, h3, h4, g1, g2, g3, g4, g5, g6]
def isCode : Jvm.Cond → Bool
  | .code _ _ _ _ => true
  | _ => false
theorem all_split {L : List Jvm.Cond} {P : Jvm.Cond → Bool} (h1 : L.all (fun c => isCode c || P c) = true) (h2 : ∀ c ∈ L.filter isCode, P c = true) : L.all P = true := by
  refine List.all_eq_true.mpr fun c hc => ?_
  have h := List.all_eq_true.mp h1 c hc
  rcases Bool.eq_false_or_eq_true (isCode c) with hi | hi
  · exact h2 c (List.mem_filter.mpr ⟨hc, hi⟩)
  · simpa [hi] using h
set_option maxRecDepth 65536 in
theorem w_c0 : (Jvm.Cond.code x code maxLocals ret).before args0 about1 = true := code_word (m := ⟨1, 1⟩) (meth := k1m1) (c := k1c1) (by decide +kernel) rfl rfl rfl (by decide +kernel)
set_option maxRecDepth 65536 in
theorem w_c1 : (Jvm.Cond.code ({ cls := "com/example/flomem/flomem/core/FlowKey", name := "<init>", desc := "([B[BIII)V" } : Jvm.MethodName) prog_32_method_1_code (9 : Nat) (Option.none : Option Jvm.ClassFile.FieldType)).before args0 about1 = true := code_word (m := ⟨3, 0⟩) (meth := k3m0) (c := k3c0) (by decide +kernel) rfl rfl rfl (by decide +kernel)
set_option maxRecDepth 65536 in
theorem w_c2 : (Jvm.Cond.code ({ cls := "java/lang/Object", name := "<init>", desc := "()V" } : Jvm.MethodName) object_method_1_code (1 : Nat) (Option.none : Option Jvm.ClassFile.FieldType)).before args0 about1 = true := code_word (m := ⟨0, 0⟩) (meth := k0m0) (c := k0c0) (by decide +kernel) rfl rfl rfl (by decide +kernel)
set_option maxRecDepth 65536 in
theorem w_c3 : (Jvm.Cond.code ({ cls := "java/util/Objects", name := "requireNonNull", desc := "(Ljava/lang/Object;Ljava/lang/String;)Ljava/lang/Object;" } : Jvm.MethodName) jdk_31_method_11_code (2 : Nat) (Option.some (Jvm.ClassFile.FieldType.object "java/lang/Object"))).before args0 about1 = true := code_word (m := ⟨9, 1⟩) (meth := k9m1) (c := k9c1) (by decide +kernel) rfl rfl rfl (by decide +kernel)
set_option maxRecDepth 65536 in
theorem w_c4 : (Jvm.Cond.code ({ cls := "com/example/flomem/flomem/core/FlowKey", name := "checkRange", desc := "(Ljava/lang/String;II)V" } : Jvm.MethodName) prog_32_method_17_code (3 : Nat) (Option.none : Option Jvm.ClassFile.FieldType)).before args0 about1 = true := code_word (m := ⟨3, 3⟩) (meth := k3m3) (c := k3c3) (by decide +kernel) rfl rfl rfl (by decide +kernel)
set_option maxRecDepth 65536 in
theorem w_c5 : (Jvm.Cond.code ({ cls := "com/example/flomem/flomem/core/FlowKey", name := "putPort", desc := "([BII)V" } : Jvm.MethodName) prog_32_method_16_code (3 : Nat) (Option.none : Option Jvm.ClassFile.FieldType)).before args0 about1 = true := code_word (m := ⟨3, 2⟩) (meth := k3m2) (c := k3c2) (by decide +kernel) rfl rfl rfl (by decide +kernel)
set_option maxRecDepth 65536 in
theorem w_c6 : (Jvm.Cond.code ({ cls := "com/example/flomem/flomem/core/FlowKey", name := "isIpv6", desc := "()Z" } : Jvm.MethodName) prog_32_method_2_code (1 : Nat) (Option.some Jvm.ClassFile.FieldType.boolean)).before args0 about1 = true := code_word (m := ⟨3, 1⟩) (meth := k3m1) (c := k3c1) (by decide +kernel) rfl rfl rfl (by decide +kernel)
def codes1 : List Jvm.Cond := [Jvm.Cond.code x code maxLocals ret, Jvm.Cond.code ({ cls := "com/example/flomem/flomem/core/FlowKey", name := "<init>", desc := "([B[BIII)V" } : Jvm.MethodName) prog_32_method_1_code (9 : Nat) (Option.none : Option Jvm.ClassFile.FieldType), Jvm.Cond.code ({ cls := "java/lang/Object", name := "<init>", desc := "()V" } : Jvm.MethodName) object_method_1_code (1 : Nat) (Option.none : Option Jvm.ClassFile.FieldType), Jvm.Cond.code ({ cls := "java/util/Objects", name := "requireNonNull", desc := "(Ljava/lang/Object;Ljava/lang/String;)Ljava/lang/Object;" } : Jvm.MethodName) jdk_31_method_11_code (2 : Nat) (Option.some (Jvm.ClassFile.FieldType.object "java/lang/Object")), Jvm.Cond.code ({ cls := "com/example/flomem/flomem/core/FlowKey", name := "checkRange", desc := "(Ljava/lang/String;II)V" } : Jvm.MethodName) prog_32_method_17_code (3 : Nat) (Option.none : Option Jvm.ClassFile.FieldType), Jvm.Cond.code ({ cls := "com/example/flomem/flomem/core/FlowKey", name := "putPort", desc := "([BII)V" } : Jvm.MethodName) prog_32_method_16_code (3 : Nat) (Option.none : Option Jvm.ClassFile.FieldType), Jvm.Cond.code ({ cls := "com/example/flomem/flomem/core/FlowKey", name := "isIpv6", desc := "()Z" } : Jvm.MethodName) prog_32_method_2_code (1 : Nat) (Option.some Jvm.ClassFile.FieldType.boolean)]
set_option maxRecDepth 65536 in
theorem codes_eq : words1.filter isCode = codes1 := rfl
theorem w_codes : ∀ c ∈ words1.filter isCode, c.before args0 about1 = true := by
  rw [codes_eq]
  intro c hc
  simp only [codes1, List.mem_cons, List.not_mem_nil, or_false] at hc
  rcases hc with rfl | rfl | rfl | rfl | rfl | rfl | rfl
  · exact w_c0
  · exact w_c1
  · exact w_c2
  · exact w_c3
  · exact w_c4
  · exact w_c5
  · exact w_c6
set_option maxRecDepth 65536 in
theorem w_t1 : (words1.take 24).all (fun c => isCode c || c.before args0 about1) = true := by decide +kernel
set_option maxRecDepth 65536 in
theorem w_t2 : (words1.drop 24).all (fun c => isCode c || c.before args0 about1) = true := by decide +kernel
theorem w_tables : (allAtoms (Jvm.Cond.code x code maxLocals ret :: tables_1)).before args0 about1 = true := by
  rw [allAtoms_all]
  show words1.all (fun c => c.before args0 about1) = true
  refine all_split ?_ w_codes
  rw [← List.take_append_drop 24 words1, List.all_append, w_t1, w_t2]
  rfl
set_option maxRecDepth 65536 in
theorem w_case : (Jvm.Cond.and given_1 narrow_1).before args0 about1 = true := by decide +kernel
theorem w_applies : (headSpec (Jvm.Cond.code x code maxLocals ret :: tables_1) room_1).applies x e0.platform about1 = true :=
  (Spec.applies_iff w_frames).mpr ⟨w_running, w_runnable, w_alone, w_named, w_hears, w_ripe, w_room, w_tables⟩
theorem atStart : AtStart classFile x code maxLocals ret World_1 tables_1 room_1 Calls_1 rest_1 Pre_1 launch0 p0 e0 about1 theMethod args0 below0 :=
  ⟨lists_1, trivial, launch0.admits_env _ _ _, launch0.least_env, fairChoices_fair.cas, fairChoices_fair.clock, w_frames, w_args, w_heap, w_applies, trivial, trivial, w_case⟩
end start1
theorem witness_1 : WitnessClaimed_1 := ⟨start1.p0, start1.e0, start1.about1, start1.theMethod, start1.args0, start1.below0, start1.atStart⟩
end Jvm.Pilot.@@N@@
