import JvmDerived
import JvmDerived.Pilot.@@N@@Statement
import JvmDerived.Pilot.@@N@@Code
set_option linter.unusedVariables false
set_option linter.unusedSimpArgs false
namespace Jvm.Pilot.@@N@@
open Jvm Jvm.ClassFile Sem Op Lib Jvm.Free Jvm.Stand Jvm.LawKit Jvm.RoadKit Bundle Jvm.Pilot.@@N@@.Jvm.D
/-! A walk as one goal: from the state U the run comes to an end that answers Q. -/
section Kit
def Go (p : Program) (e : Env) (below : List Frame) (s : State) (Q : Option Value → Heap → List Loc → Prop) (C N : Nat) (U : State) : Prop :=
  ∃ s₂ o, Steps p.tables e below U s₂ ∧ s₂.status = .running ∧ Ended s₂ below o ∧ ∃ v L, o = .returned v ∧ Q v s₂.heap L ∧ FrameEnd s o s₂ L C N
variable {p : Program} {l : Launch} {e : Env} {R : Room} {s : State} {m : MethodId} {args : Array Value} {below : List Frame} {meth : Method} {c : Code} {T : State} {locs : List Loc} {cells slots : Nat} {Q : Option Value → Heap → List Loc → Prop} {C N : Nat}
theorem gob {U U' : State} (h : ∀ t, Steps p.tables e below U' t → Steps p.tables e below U t) (k : Go p e below s Q C N U') : Go p e below s Q C N U := by
  obtain ⟨s₂, o, h1, r⟩ := k
  exact ⟨s₂, o, h _ h1, r⟩
theorem goZ (X : Stand p l e R s m args below meth c T locs cells slots) (hx : p.tables.exec = Jvm.exec) (hlk : meth.locks = false) {t : FieldType} {pc : Nat} {Ls : Array Slot} {z z' : Int32} {rest : List Value} (hret : meth.sig.returnType = some t) (ht : t = .boolean ∨ t = .byte ∨ t = .char ∨ t = .short) (hd : decode c.code pc = .ok (.ireturn, 1)) (hz : nar t z = z') (hq : Q (some (.int z')) T.heap locs) (hc : cells ≤ C) (hn : slots ≤ N) :
    Go p e below s Q C N (T.setTop (mkF m pc Ls (.int z :: rest))) := by
  subst hz
  obtain ⟨fs, hr, hrun, hended, hW, hsame⟩ := X.leave (v := some (.int (nar t z))) (fun h => by rw [hret] at h; cases h) hlk
  exact ⟨_, _, retN X hx hret ht hd hr, hrun, hended, _, _, rfl, hq, ⟨_, rfl⟩, hW, hsame.mono hc hn⟩
theorem goI (X : Stand p l e R s m args below meth c T locs cells slots) (hx : p.tables.exec = Jvm.exec) (hlk : meth.locks = false) {pc : Nat} {Ls : Array Slot} {z : Int32} {rest : List Value} (hret : meth.sig.returnType = some .int) (hd : decode c.code pc = .ok (.ireturn, 1)) (hq : Q (some (.int z)) T.heap locs) (hc : cells ≤ C) (hn : slots ≤ N) :
    Go p e below s Q C N (T.setTop (mkF m pc Ls (.int z :: rest))) := by
  obtain ⟨fs, hr, hrun, hended, hW, hsame⟩ := X.leave (v := some (.int z)) (fun h => by rw [hret] at h; cases h) hlk
  exact ⟨_, _, retOut X hx hret rfl (Or.inl ⟨rfl, Or.inl rfl, z, rfl⟩) hd hr, hrun, hended, _, _, rfl, hq, ⟨_, rfl⟩, hW, hsame.mono hc hn⟩
theorem goJ (X : Stand p l e R s m args below meth c T locs cells slots) (hx : p.tables.exec = Jvm.exec) (hlk : meth.locks = false) {pc : Nat} {Ls : Array Slot} {z : Int64} {rest : List Value} (hret : meth.sig.returnType = some .long) (hd : decode c.code pc = .ok (.lreturn, 1)) (hq : Q (some (.long z)) T.heap locs) (hc : cells ≤ C) (hn : slots ≤ N) :
    Go p e below s Q C N (T.setTop (mkF m pc Ls (.long z :: rest))) := by
  obtain ⟨fs, hr, hrun, hended, hW, hsame⟩ := X.leave (v := some (.long z)) (fun h => by rw [hret] at h; cases h) hlk
  exact ⟨_, _, retOut X hx hret rfl (Or.inr (Or.inl ⟨rfl, rfl, z, rfl⟩)) hd hr, hrun, hended, _, _, rfl, hq, ⟨_, rfl⟩, hW, hsame.mono hc hn⟩
theorem goD (X : Stand p l e R s m args below meth c T locs cells slots) (hx : p.tables.exec = Jvm.exec) (hlk : meth.locks = false) {pc : Nat} {Ls : Array Slot} {z : UInt64} {rest : List Value} (hret : meth.sig.returnType = some .double) (hd : decode c.code pc = .ok (.dreturn, 1)) (hq : Q (some (.double z)) T.heap locs) (hc : cells ≤ C) (hn : slots ≤ N) :
    Go p e below s Q C N (T.setTop (mkF m pc Ls (.double z :: rest))) := by
  obtain ⟨fs, hr, hrun, hended, hW, hsame⟩ := X.leave (v := some (.double z)) (fun h => by rw [hret] at h; cases h) hlk
  exact ⟨_, _, retOut X hx hret rfl (Or.inr (Or.inr (Or.inl ⟨rfl, rfl, z, rfl⟩))) hd hr, hrun, hended, _, _, rfl, hq, ⟨_, rfl⟩, hW, hsame.mono hc hn⟩
theorem goA (X : Stand p l e R s m args below meth c T locs cells slots) (hx : p.tables.exec = Jvm.exec) (hlk : meth.locks = false) {t : FieldType} {pc : Nat} {Ls : Array Slot} {z : Value} {rest : List Value} (hret : meth.sig.returnType = some t) (ht : t.isReference = true) (hv : z.isRef = true) (hd : decode c.code pc = .ok (.areturn, 1)) (hq : Q (some z) T.heap locs) (hc : cells ≤ C) (hn : slots ≤ N) :
    Go p e below s Q C N (T.setTop (mkF m pc Ls (z :: rest))) := by
  obtain ⟨fs, hr, hrun, hended, hW, hsame⟩ := X.leave (v := some z) (fun h => by rw [hret] at h; cases h) hlk
  have hnw : narrow t z = z := by cases z <;> cases t <;> first | rfl | (simp [Value.isRef] at hv) | (simp [FieldType.isReference] at ht)
  exact ⟨_, _, retOut X hx hret hnw (Or.inr (Or.inr (Or.inr (Or.inr ⟨rfl, ht, hv⟩)))) hd hr, hrun, hended, _, _, rfl, hq, ⟨_, rfl⟩, hW, hsame.mono hc hn⟩
theorem goV (X : Stand p l e R s m args below meth c T locs cells slots) (hx : p.tables.exec = Jvm.exec) (hlk : meth.locks = false) {pc : Nat} {Ls : Array Slot} (hret : meth.sig.returnType = none) (hd : decode c.code pc = .ok (.return_, 1)) (hq : Q none T.heap locs) (hc : cells ≤ C) (hn : slots ≤ N) :
    Go p e below s Q C N (T.setTop (mkF m pc Ls [])) := by
  obtain ⟨fs, hr, hrun, hended, hW, hsame⟩ := X.leave (v := none) (fun _ => rfl) hlk
  exact ⟨_, _, X.returnOut hx hret hd hr, hrun, hended, _, _, rfl, hq, ⟨_, rfl⟩, hW, hsame.mono hc hn⟩
theorem lremM {g : JFrame} {target : State} (X : Stand p l e R s m args below meth c T locs cells slots) (hx : p.tables.exec = Jvm.exec) (hg : g.method = m) {x y : Int64} {rest : List Value} (hd : decode c.code g.pc = .ok (.lrem, 1)) (hs : g.stack = .long y :: .long x :: rest) (hy : y ≠ 0)
    (hr : Steps p.tables e below (T.setTop { g with pc := g.pc + 1, stack := .long (x % y) :: rest }) target) : Steps p.tables e below (T.setTop g) target :=
  XS.lrem X.here hx hg hd hs hy (by rw [lrem_mod x y]; exact hr)
theorem own_lrem (x y : Int64) (d : Int) (hy : y.toInt = d) : (0 ≤ x.toInt → (x % y).toInt = x.toInt % d) ∧ (x.toInt < 0 → (x % y).toInt = -((-x.toInt) % d)) := by rw [Int64.toInt_mod, hy]; exact tr _ _
theorem own_lxor (x y : Int64) (hy : 0 ≤ y.toInt) : ((x ^^^ y).toInt < 0 ↔ x.toInt < 0) := by
  have h1 : (x ^^^ y).toBitVec.msb = (x.toBitVec.msb ^^ y.toBitVec.msb) := by rw [Int64.toBitVec_xor, BitVec.msb_xor]
  have h2 := BitVec.msb_eq_toInt (x := (x ^^^ y).toBitVec)
  have h3 := BitVec.msb_eq_toInt (x := x.toBitVec)
  have h4 := BitVec.msb_eq_toInt (x := y.toBitVec)
  have e1 : (x ^^^ y).toBitVec.toInt = (x ^^^ y).toInt := rfl
  have e2 : x.toBitVec.toInt = x.toInt := rfl
  have e3 : y.toBitVec.toInt = y.toInt := rfl
  rw [e1] at h2
  rw [e2] at h3
  rw [e3] at h4
  have h5 : ¬ y.toInt < 0 := by omega
  rw [h2, h3, h4, decide_eq_false h5, Bool.xor_false] at h1
  simpa using h1
theorem pop2L {g : JFrame} {target : State} (X : Stand p l e R s m args below meth c T locs cells slots) (hx : p.tables.exec = Jvm.exec) (hg : g.method = m) {x : Int64} {rest : List Value} (hd : decode c.code g.pc = .ok (.pop2, 1)) (hs : g.stack = .long x :: rest)
    (hr : Steps p.tables e below (T.setTop { g with pc := g.pc + 1, stack := rest }) target) : Steps p.tables e below (T.setTop g) target := by
  subst hg
  jvm_step X.here [X.here.top, hx, hd, hs, Value.category]
  exact hr
theorem own_staKeep {Z : State} {h h' : Heap} {C n d : String} {v : Value} {ws : List Addr} (F : Sta Z h C n d v) (K : Keep h h' ws) (hn : ∀ x ∈ ws, ∀ cell : Cell, h[x]? = some cell → cell.vm.isStatics = false) : Sta Z h' C n d v := by
  obtain ⟨cf, i, k, f, st, cell, h1, h2, h3, h4, h5, h6, h7⟩ := F
  exact ⟨cf, i, k, f, st, cell, h1, h2, h3, h4, K.2.1 _ _ h5 (fun q => by have q2 := hn _ q _ h5; rw [h6] at q2; cases q2), h6, h7⟩
theorem own_lmulR (x y : Int64) (d : Int) (hy : y.toInt = d) : ((x * y).toInt - x.toInt * d) % 18446744073709551616 = 0 := by rw [← hy]; exact c_lmul x y
theorem own_lmulL (x y : Int64) (d : Int) (hx : x.toInt = d) : ((x * y).toInt - d * y.toInt) % 18446744073709551616 = 0 := by rw [← hx]; exact c_lmul x y
theorem own_imulR (x y : Int32) (d : Int) (hy : y.toInt = d) : ((x * y).toInt - x.toInt * d) % 4294967296 = 0 := by rw [← hy]; exact c_imul x y
theorem own_imulL (x y : Int32) (d : Int) (hx : x.toInt = d) : ((x * y).toInt - d * y.toInt) % 4294967296 = 0 := by rw [← hx]; exact c_imul x y
theorem castX {k' n' : Nat} (X : Stand p l e R s m args below meth c T locs cells slots) (h1 : cells = k') (h2 : slots = n') : Stand p l e R s m args below meth c T locs k' n' := by
  subst h1
  subst h2
  exact X
end Kit

theorem own_nat {j : Int32} {k : Nat} (h : j.toInt = k) : j.toNatClampNeg = k := by
  have q : ¬ j < 0 := by
    rw [Int32.lt_iff_toInt_lt]
    have : (0 : Int32).toInt = 0 := by decide
    omega
  have := nat_of q
  omega
theorem own_idx (j z : Int32) (k : Int) (hz : k ≤ z.toInt) (h1 : 0 ≤ j.toInt) (h2 : j.toInt < k) : ¬ j < 0 ∧ j < z := by
  rw [Int32.lt_iff_toInt_lt, Int32.lt_iff_toInt_lt]
  have : (0 : Int32).toInt = 0 := by decide
  omega
theorem own_at1 (a0 : Int32) (dv : Value) (j : Int32) (k : Int) (hk : k ≤ 1) (h1 : 0 ≤ j.toInt) (h2 : j.toInt < k) :
    ∃ w : Int32, ((j.toInt = 0 ∧ w = a0)) ∧ ([(.int a0)] : List Value).getD j.toNatClampNeg dv = .int w := by
  have h : j.toInt = (0 : Nat) := by omega
  rcases h with h <;> (rw [own_nat h]; refine ⟨_, ?_, rfl⟩; simp [h])
theorem own_at2 (a0 a1 : Int32) (dv : Value) (j : Int32) (k : Int) (hk : k ≤ 2) (h1 : 0 ≤ j.toInt) (h2 : j.toInt < k) :
    ∃ w : Int32, ((j.toInt = 0 ∧ w = a0) ∨ (j.toInt = 1 ∧ w = a1)) ∧ ([(.int a0), (.int a1)] : List Value).getD j.toNatClampNeg dv = .int w := by
  have h : j.toInt = (0 : Nat) ∨ j.toInt = (1 : Nat) := by omega
  rcases h with h | h <;> (rw [own_nat h]; refine ⟨_, ?_, rfl⟩; simp [h])
theorem own_at3 (a0 a1 a2 : Int32) (dv : Value) (j : Int32) (k : Int) (hk : k ≤ 3) (h1 : 0 ≤ j.toInt) (h2 : j.toInt < k) :
    ∃ w : Int32, ((j.toInt = 0 ∧ w = a0) ∨ (j.toInt = 1 ∧ w = a1) ∨ (j.toInt = 2 ∧ w = a2)) ∧ ([(.int a0), (.int a1), (.int a2)] : List Value).getD j.toNatClampNeg dv = .int w := by
  have h : j.toInt = (0 : Nat) ∨ j.toInt = (1 : Nat) ∨ j.toInt = (2 : Nat) := by omega
  rcases h with h | h | h <;> (rw [own_nat h]; refine ⟨_, ?_, rfl⟩; simp [h])
theorem own_at4 (a0 a1 a2 a3 : Int32) (dv : Value) (j : Int32) (k : Int) (hk : k ≤ 4) (h1 : 0 ≤ j.toInt) (h2 : j.toInt < k) :
    ∃ w : Int32, ((j.toInt = 0 ∧ w = a0) ∨ (j.toInt = 1 ∧ w = a1) ∨ (j.toInt = 2 ∧ w = a2) ∨ (j.toInt = 3 ∧ w = a3)) ∧ ([(.int a0), (.int a1), (.int a2), (.int a3)] : List Value).getD j.toNatClampNeg dv = .int w := by
  have h : j.toInt = (0 : Nat) ∨ j.toInt = (1 : Nat) ∨ j.toInt = (2 : Nat) ∨ j.toInt = (3 : Nat) := by omega
  rcases h with h | h | h | h <;> (rw [own_nat h]; refine ⟨_, ?_, rfl⟩; simp [h])
theorem own_at5 (a0 a1 a2 a3 a4 : Int32) (dv : Value) (j : Int32) (k : Int) (hk : k ≤ 5) (h1 : 0 ≤ j.toInt) (h2 : j.toInt < k) :
    ∃ w : Int32, ((j.toInt = 0 ∧ w = a0) ∨ (j.toInt = 1 ∧ w = a1) ∨ (j.toInt = 2 ∧ w = a2) ∨ (j.toInt = 3 ∧ w = a3) ∨ (j.toInt = 4 ∧ w = a4)) ∧ ([(.int a0), (.int a1), (.int a2), (.int a3), (.int a4)] : List Value).getD j.toNatClampNeg dv = .int w := by
  have h : j.toInt = (0 : Nat) ∨ j.toInt = (1 : Nat) ∨ j.toInt = (2 : Nat) ∨ j.toInt = (3 : Nat) ∨ j.toInt = (4 : Nat) := by omega
  rcases h with h | h | h | h | h <;> (rw [own_nat h]; refine ⟨_, ?_, rfl⟩; simp [h])
theorem own_at6 (a0 a1 a2 a3 a4 a5 : Int32) (dv : Value) (j : Int32) (k : Int) (hk : k ≤ 6) (h1 : 0 ≤ j.toInt) (h2 : j.toInt < k) :
    ∃ w : Int32, ((j.toInt = 0 ∧ w = a0) ∨ (j.toInt = 1 ∧ w = a1) ∨ (j.toInt = 2 ∧ w = a2) ∨ (j.toInt = 3 ∧ w = a3) ∨ (j.toInt = 4 ∧ w = a4) ∨ (j.toInt = 5 ∧ w = a5)) ∧ ([(.int a0), (.int a1), (.int a2), (.int a3), (.int a4), (.int a5)] : List Value).getD j.toNatClampNeg dv = .int w := by
  have h : j.toInt = (0 : Nat) ∨ j.toInt = (1 : Nat) ∨ j.toInt = (2 : Nat) ∨ j.toInt = (3 : Nat) ∨ j.toInt = (4 : Nat) ∨ j.toInt = (5 : Nat) := by omega
  rcases h with h | h | h | h | h | h <;> (rw [own_nat h]; refine ⟨_, ?_, rfl⟩; simp [h])
theorem own_at8 (a0 a1 a2 a3 a4 a5 a6 a7 : Int32) (dv : Value) (j : Int32) (k : Int) (hk : k ≤ 8) (h1 : 0 ≤ j.toInt) (h2 : j.toInt < k) :
    ∃ w : Int32, ((j.toInt = 0 ∧ w = a0) ∨ (j.toInt = 1 ∧ w = a1) ∨ (j.toInt = 2 ∧ w = a2) ∨ (j.toInt = 3 ∧ w = a3) ∨ (j.toInt = 4 ∧ w = a4) ∨ (j.toInt = 5 ∧ w = a5) ∨ (j.toInt = 6 ∧ w = a6) ∨ (j.toInt = 7 ∧ w = a7)) ∧ ([(.int a0), (.int a1), (.int a2), (.int a3), (.int a4), (.int a5), (.int a6), (.int a7)] : List Value).getD j.toNatClampNeg dv = .int w := by
  have h : j.toInt = (0 : Nat) ∨ j.toInt = (1 : Nat) ∨ j.toInt = (2 : Nat) ∨ j.toInt = (3 : Nat) ∨ j.toInt = (4 : Nat) ∨ j.toInt = (5 : Nat) ∨ j.toInt = (6 : Nat) ∨ j.toInt = (7 : Nat) := by omega
  rcases h with h | h | h | h | h | h | h | h <;> (rw [own_nat h]; refine ⟨_, ?_, rfl⟩; simp [h])

theorem d2_0 : decode prog_26_method_1_code 0 = .ok (.aload_n 0, 1) := by decide +kernel
theorem d2_1 : decode prog_26_method_1_code 1 = .ok (.invokespecial 1, 3) := by decide +kernel
theorem d2_4 : decode prog_26_method_1_code 4 = .ok (.aload_n 0, 1) := by decide +kernel
theorem d2_5 : decode prog_26_method_1_code 5 = .ok (.iconst 2, 1) := by decide +kernel
theorem d2_6 : decode prog_26_method_1_code 6 = .ok (.newarray .int, 2) := by decide +kernel
theorem d2_8 : decode prog_26_method_1_code 8 = .ok (.putfield 7, 3) := by decide +kernel
theorem d2_11 : decode prog_26_method_1_code 11 = .ok (.aload_n 0, 1) := by decide +kernel
theorem d2_12 : decode prog_26_method_1_code 12 = .ok (.iconst 2, 1) := by decide +kernel
theorem d2_13 : decode prog_26_method_1_code 13 = .ok (.newarray .int, 2) := by decide +kernel
theorem d2_15 : decode prog_26_method_1_code 15 = .ok (.putfield 13, 3) := by decide +kernel
theorem d2_18 : decode prog_26_method_1_code 18 = .ok (.return_, 1) := by decide +kernel
theorem ef_2 (m : MethodId) (x0 : Addr) : entryFrame m #[(.ref x0)] 1 = mkF m 0 #[.val (.ref x0)] [] := by first | (simp [entryFrame, mkF, argsToLocals, Value.category]; done) | rfl
def Q2 (Z : State) (o0 : Addr) (h0 : Heap) (n0 : Nat) (v : Option Value) (h : Heap) (L : List Loc) : Prop := ∃ b2 : Addr, ∃ b12 : Addr, ∃ k2 : ClassId, ∃ k12 : ClassId, v = none ∧ Fr n0 L ∧ Keep h0 h ([o0] : List Addr) ∧ h0.size ≤ b2 ∧ h0.size ≤ b12 ∧ b2 ≠ b12 ∧ Fld Z h o0 "com/example/robust_broker/robustbroker/Postings" "size" "I" (.int (0 : Int32)) ∧ Fld Z h o0 "com/example/robust_broker/robustbroker/Postings" "collectionFrequency" "J" (.long (0 : Int64)) ∧ Arv Z h b2 k2 .int (2 : Int32) [(.int (0 : Int32)), (.int (0 : Int32))] (.int (0 : Int32)) ∧ Fld Z h o0 "com/example/robust_broker/robustbroker/Postings" "documents" "[I" (.ref b2) ∧ Arv Z h b12 k12 .int (2 : Int32) [(.int (0 : Int32)), (.int (0 : Int32))] (.int (0 : Int32)) ∧ Fld Z h o0 "com/example/robust_broker/robustbroker/Postings" "frequencies" "[I" (.ref b12)
set_option maxRecDepth 65536 in
set_option maxHeartbeats 40000000 in
theorem rm2 (l : Launch) (Z : State) (a0 : Array Value) (hw : ∀ d ∈ tables_1, d.before a0 Z = true) (ws : List Jvm.Cond) (o0 : Addr) (h0 : Heap) (n0 : Nat) (Z0 : n0 ≤ h0.size) (F_size : Fld Z h0 o0 "com/example/robust_broker/robustbroker/Postings" "size" "I" (.int (0 : Int32))) (F_collectionFrequency : Fld Z h0 o0 "com/example/robust_broker/robustbroker/Postings" "collectionFrequency" "J" (.long (0 : Int64))) (E_o0 : Exa Z h0 o0 "com/example/robust_broker/robustbroker/Postings") (F_documents_o0 : Fld Z h0 o0 "com/example/robust_broker/robustbroker/Postings" "documents" "[I" .null) (g_o0 : n0 ≤ o0) (F_frequencies_o0 : Fld Z h0 o0 "com/example/robust_broker/robustbroker/Postings" "frequencies" "[I" .null) :
    MetFree l (⟨"com/example/robust_broker/robustbroker/Postings", "<init>", "()V"⟩ : MethodName) (head1 (Jvm.Cond.code (⟨"com/example/robust_broker/robustbroker/Postings", "<init>", "()V"⟩ : MethodName) prog_26_method_1_code 1 none :: ws) ({ frames := 1, cells := 2, slots := 4, locals := 12 } : Room)) (fun a U => a = #[(.ref o0)] ∧ Z.Warmed39 U.vm ∧ U.heap = h0) (fun _ _ _ _ _ => True) (fun _ U o U' => ∃ v L, o = .returned v ∧ Q2 Z o0 h0 n0 v U'.heap L ∧ FrameEnd U o U' L ({ frames := 1, cells := 2, slots := 4, locals := 12 } : Room).cells ({ frames := 1, cells := 2, slots := 4, locals := 12 } : Room).slots) := by
  refine MetFree.of_bodySF (plainFor_of_name (by first | (simp [plainName, overriddenIn]; done) | decide +kernel)) hisR ?_
  intro p e s m args below meth c s₁ Bd hml0 hP hK
  obtain ⟨rfl, hZ, hh⟩ := hP
  have hx := Bd.exec
  have hby := Bd.bytes
  have hml : c.maxLocals = 1 := hml0
  have hown : s.vm.findClass "com/example/robust_broker/robustbroker/Postings" = some m.cls := findClass_of_methodNamed Bd.named
  have hnm := (name_of_methodNamed Bd.named Bd.method).1
  have hlk := BodyLoose.notSynchronized Bd
  have X0 : Stand p l e ({ frames := 1, cells := 2, slots := 4, locals := 12 } : Room) s m #[(.ref o0)] below meth c s₁ [] 0 0 := Stand.of_body Bd
  have e0 : s₁.heap = h0 := by rw [← hh, Bd.state]; rfl
  have N0 := Fr.nil n0
  show Go p e below s (Q2 Z o0 h0 n0) 2 4 (s₁.setTop (entryFrame m #[(.ref o0)] 1))
  rw [ef_2]
  show Go _ _ _ _ _ _ _ (s₁.setTop (mkF m 0 #[.val (.ref o0)] []))
  refine gob (fun _ k => XS.aloadN X0.here hx rfl (hb hby d2_0) rfl rfl k) ?_
  show Go _ _ _ _ _ _ _ (s₁.setTop (mkF m 1 #[.val (.ref o0)] [(.ref o0)]))
  obtain ⟨T1, X1, e1, st1⟩ := initO X0 hx hZ hown (hw _ (List.mem_of_getElem? (i := 14) rfl)) (hw _ (List.mem_of_getElem? (i := 15) rfl)) (hw _ (List.mem_of_getElem? (i := 16) rfl)) e0 (g := (mkF m 1 #[.val (.ref o0)] [(.ref o0)])) rfl (by rw [hml]; rfl) rfl (hb hby d2_1) (by decide) (W := 0) (by show 2 * 0 + _ ≤ _; exact Nat.le_of_eq rfl) (by decide)
  refine gob st1 ?_
  show Go _ _ _ _ _ _ _ (T1.setTop (mkF m 4 #[.val (.ref o0)] []))
  refine gob (fun _ k => XS.aloadN X1.here hx rfl (hb hby d2_4) rfl rfl k) ?_
  show Go _ _ _ _ _ _ _ (T1.setTop (mkF m 5 #[.val (.ref o0)] [(.ref o0)]))
  refine gob (fun _ k => XS.iconst X1.here hx rfl (hb hby d2_5) k) ?_
  show Go _ _ _ _ _ _ _ (T1.setTop (mkF m 6 #[.val (.ref o0)] [(.int (2 : Int32)), (.ref o0)]))
  obtain ⟨T2, h2, k2, X2, e2, E2, A2, st2⟩ := newP X1 hx hZ (hw _ (List.mem_of_getElem? (i := 0) rfl)) e1 (g := (mkF m 6 #[.val (.ref o0)] [(.int (2 : Int32)), (.ref o0)])) rfl (hb hby d2_6) rfl (by decide) (cap := 2) (by decide) (by decide) (by decide) (by decide)
  obtain ⟨b2, g2⟩ : ∃ z, z = h0.size := ⟨_, rfl⟩
  rw [← g2] at A2 st2
  have n3 : o0 ≠ b2 := Nat.ne_of_lt (Nat.lt_of_lt_of_le F_size.lt (Nat.le_of_eq g2.symm))
  have g4 : n0 ≤ b2 := Nat.le_trans Z0 (Nat.le_of_eq g2.symm)
  have sz_b2 : h0.size ≤ b2 := Nat.le_trans (Keep.refl h0 []).1 (Nat.le_of_eq g2.symm)
  have z5 : n0 ≤ h2.size := Nat.le_trans Z0 E2.1
  have K6 : Keep h0 h2 ([o0] : List Addr) := (Keep.refl h0 ([o0] : List Addr)).ext E2
  have V2 : Arv Z h2 b2 k2 .int (2 : Int32) [(.int (0 : Int32)), (.int (0 : Int32))] (.int (0 : Int32)) := (Arv.new A2 (by decide)).pad (pad_rep [] (.int (0 : Int32)) 2)
  refine gob st2 ?_
  replace X2 := castX X2 (rfl : _ = 1) (rfl : _ = 2)
  show Go _ _ _ _ _ _ _ (T2.setTop (mkF m 8 #[.val (.ref o0)] [(.ref b2), (.ref o0)]))
  have c7 := (F_documents_o0.ext E2)
  have c8 := (E_o0.ext E2)
  obtain ⟨T9, h9, X9, e9, W9, st9⟩ := putF X2 hx hZ hown (host := "") (Or.inl (hw _ (List.mem_of_getElem? (i := 17) rfl))) Via.refl e2 c7 c8 (Or.inl (hw _ (List.mem_of_getElem? (i := 18) rfl))) (hw _ (List.mem_of_getElem? (i := 9) rfl)) (ty := (.array .int)) (by decide) rfl rfl (g := (mkF m 8 #[.val (.ref o0)] [(.ref b2), (.ref o0)])) rfl rfl (hb hby d2_8)
  refine gob st9 ?_
  have z10 : n0 ≤ h9.size := Nat.le_trans z5 (Keep.of_wr W9).1
  have N9 := Fr.snoc X9 N0 g_o0
  have K11 : Keep h0 h9 ([o0] : List Addr) := K6.wr W9 (Or.inl (List.mem_of_getElem? (i := 0) rfl))
  have Fw9 := c7.same W9
  show Go _ _ _ _ _ _ _ (T9.setTop (mkF m 11 #[.val (.ref o0)] []))
  refine gob (fun _ k => XS.aloadN X9.here hx rfl (hb hby d2_11) rfl rfl k) ?_
  show Go _ _ _ _ _ _ _ (T9.setTop (mkF m 12 #[.val (.ref o0)] [(.ref o0)]))
  refine gob (fun _ k => XS.iconst X9.here hx rfl (hb hby d2_12) k) ?_
  show Go _ _ _ _ _ _ _ (T9.setTop (mkF m 13 #[.val (.ref o0)] [(.int (2 : Int32)), (.ref o0)]))
  obtain ⟨T12, h12, k12, X12, e12, E12, A12, st12⟩ := newP X9 hx hZ (hw _ (List.mem_of_getElem? (i := 0) rfl)) e9 (g := (mkF m 13 #[.val (.ref o0)] [(.int (2 : Int32)), (.ref o0)])) rfl (hb hby d2_13) rfl (by decide) (cap := 2) (by decide) (by decide) (by decide) (by decide)
  obtain ⟨b12, g12⟩ : ∃ z, z = h9.size := ⟨_, rfl⟩
  rw [← g12] at A12 st12
  have c13 := ((F_size.ext E2).other W9 (Or.inr (slot_ne (Or.inl (hw _ (List.mem_of_getElem? (i := 27) rfl))) (Or.inl (hw _ (List.mem_of_getElem? (i := 18) rfl))) (by decide) (t := .int) (t' := (.array .int)) (by decide) (by decide))))
  have n14 : o0 ≠ b12 := Nat.ne_of_lt (Nat.lt_of_lt_of_le c13.lt (Nat.le_of_eq g12.symm))
  have c15 := (V2.other W9 (Ne.symm n3))
  have n16 : b2 ≠ b12 := Nat.ne_of_lt (Nat.lt_of_lt_of_le c15.lt (Nat.le_of_eq g12.symm))
  have g17 : n0 ≤ b12 := Nat.le_trans z10 (Nat.le_of_eq g12.symm)
  have sz_b12 : h0.size ≤ b12 := Nat.le_trans K11.1 (Nat.le_of_eq g12.symm)
  have z18 : n0 ≤ h12.size := Nat.le_trans z10 E12.1
  have K19 : Keep h0 h12 ([o0] : List Addr) := K11.ext E12
  have V12 : Arv Z h12 b12 k12 .int (2 : Int32) [(.int (0 : Int32)), (.int (0 : Int32))] (.int (0 : Int32)) := (Arv.new A12 (by decide)).pad (pad_rep [] (.int (0 : Int32)) 2)
  refine gob st12 ?_
  replace X12 := castX X12 (rfl : _ = 2) (rfl : _ = 4)
  show Go _ _ _ _ _ _ _ (T12.setTop (mkF m 15 #[.val (.ref o0)] [(.ref b12), (.ref o0)]))
  have c20 := (((F_frequencies_o0.ext E2).other W9 (Or.inr (slot_ne (Or.inl (hw _ (List.mem_of_getElem? (i := 20) rfl))) (Or.inl (hw _ (List.mem_of_getElem? (i := 18) rfl))) (by decide) (t := (.array .int)) (t' := (.array .int)) (by decide) (by decide)))).ext E12)
  have c21 := ((c8.wr W9).ext E12)
  obtain ⟨T22, h22, X22, e22, W22, st22⟩ := putF X12 hx hZ hown (host := "") (Or.inl (hw _ (List.mem_of_getElem? (i := 19) rfl))) Via.refl e12 c20 c21 (Or.inl (hw _ (List.mem_of_getElem? (i := 20) rfl))) (hw _ (List.mem_of_getElem? (i := 9) rfl)) (ty := (.array .int)) (by decide) rfl rfl (g := (mkF m 15 #[.val (.ref o0)] [(.ref b12), (.ref o0)])) rfl rfl (hb hby d2_15)
  refine gob st22 ?_
  have z23 : n0 ≤ h22.size := Nat.le_trans z18 (Keep.of_wr W22).1
  have N22 := Fr.snoc X22 N9 g_o0
  have K24 : Keep h0 h22 ([o0] : List Addr) := K19.wr W22 (Or.inl (List.mem_of_getElem? (i := 0) rfl))
  have Fw22 := c20.same W22
  show Go _ _ _ _ _ _ _ (T22.setTop (mkF m 18 #[.val (.ref o0)] []))
  refine goV X22 hx hlk Bd.returns (hb hby d2_18) ?_ (by decide) (by decide)
  show Q2 Z o0 h0 n0 (none) T22.heap _
  have c25 := ((c13.ext E12).other W22 (Or.inr (slot_ne (Or.inl (hw _ (List.mem_of_getElem? (i := 27) rfl))) (Or.inl (hw _ (List.mem_of_getElem? (i := 20) rfl))) (by decide) (t := .int) (t' := (.array .int)) (by decide) (by decide))))
  have c26 := ((((F_collectionFrequency.ext E2).other W9 (Or.inr (slot_ne (Or.inl (hw _ (List.mem_of_getElem? (i := 34) rfl))) (Or.inl (hw _ (List.mem_of_getElem? (i := 18) rfl))) (by decide) (t := .long) (t' := (.array .int)) (by decide) (by decide)))).ext E12).other W22 (Or.inr (slot_ne (Or.inl (hw _ (List.mem_of_getElem? (i := 34) rfl))) (Or.inl (hw _ (List.mem_of_getElem? (i := 20) rfl))) (by decide) (t := .long) (t' := (.array .int)) (by decide) (by decide))))
  have c27 := ((c15.ext E12).other W22 (Ne.symm n3))
  have c28 := ((Fw9.ext E12).other W22 (Or.inr (slot_ne (Or.inl (hw _ (List.mem_of_getElem? (i := 18) rfl))) (Or.inl (hw _ (List.mem_of_getElem? (i := 20) rfl))) (by decide) (t := (.array .int)) (t' := (.array .int)) (by decide) (by decide))))
  have c29 := (V12.other W22 (Ne.symm n14))
  rw [e22]
  exact ⟨b2, b12, k2, k12, rfl, N22, K24, sz_b2, sz_b12, n16, c25, c26, c27, c28, c29, Fw22⟩
theorem d4_0 : decode prog_26_method_4_code 0 = .ok (.aload_n 0, 1) := by decide +kernel
theorem d4_1 : decode prog_26_method_4_code 1 = .ok (.getfield 16, 3) := by decide +kernel
theorem d4_4 : decode prog_26_method_4_code 4 = .ok (.ireturn, 1) := by decide +kernel
theorem ef_4 (m : MethodId) (x0 : Addr) : entryFrame m #[(.ref x0)] 1 = mkF m 0 #[.val (.ref x0)] [] := by first | (simp [entryFrame, mkF, argsToLocals, Value.category]; done) | rfl
def Q4 (Z : State) (o0 : Addr) (w1 : Int32) (h0 : Heap) (n0 : Nat) (v : Option Value) (h : Heap) (L : List Loc) : Prop := ∃ r : Int32, v = some (.int r) ∧ ((r = w1)) ∧ Fr n0 L ∧ h = h0
set_option maxRecDepth 65536 in
set_option maxHeartbeats 40000000 in
theorem rm4 (l : Launch) (Z : State) (a0 : Array Value) (hw : ∀ d ∈ tables_1, d.before a0 Z = true) (ws : List Jvm.Cond) (o0 : Addr) (w1 : Int32) (h0 : Heap) (n0 : Nat) (Z0 : n0 ≤ h0.size) (F_size_o0 : Fld Z h0 o0 "com/example/robust_broker/robustbroker/Postings" "size" "I" (.int w1)) :
    MetFree l (⟨"com/example/robust_broker/robustbroker/Postings", "size", "()I"⟩ : MethodName) (head1 (Jvm.Cond.code (⟨"com/example/robust_broker/robustbroker/Postings", "size", "()I"⟩ : MethodName) prog_26_method_4_code 1 (some .int) :: ws) ({ frames := 0, cells := 0, slots := 0, locals := 0 } : Room)) (fun a U => a = #[(.ref o0)] ∧ Z.Warmed39 U.vm ∧ U.heap = h0) (fun _ _ _ _ _ => True) (fun _ U o U' => ∃ v L, o = .returned v ∧ Q4 Z o0 w1 h0 n0 v U'.heap L ∧ FrameEnd U o U' L ({ frames := 0, cells := 0, slots := 0, locals := 0 } : Room).cells ({ frames := 0, cells := 0, slots := 0, locals := 0 } : Room).slots) := by
  refine MetFree.of_bodySF (plainFor_of_name (by first | (simp [plainName, overriddenIn]; done) | decide +kernel)) hisR ?_
  intro p e s m args below meth c s₁ Bd hml0 hP hK
  obtain ⟨rfl, hZ, hh⟩ := hP
  have hx := Bd.exec
  have hby := Bd.bytes
  have hml : c.maxLocals = 1 := hml0
  have hown : s.vm.findClass "com/example/robust_broker/robustbroker/Postings" = some m.cls := findClass_of_methodNamed Bd.named
  have hnm := (name_of_methodNamed Bd.named Bd.method).1
  have hlk := BodyLoose.notSynchronized Bd
  have X0 : Stand p l e ({ frames := 0, cells := 0, slots := 0, locals := 0 } : Room) s m #[(.ref o0)] below meth c s₁ [] 0 0 := Stand.of_body Bd
  have e0 : s₁.heap = h0 := by rw [← hh, Bd.state]; rfl
  have N0 := Fr.nil n0
  show Go p e below s (Q4 Z o0 w1 h0 n0) 0 0 (s₁.setTop (entryFrame m #[(.ref o0)] 1))
  rw [ef_4]
  show Go _ _ _ _ _ _ _ (s₁.setTop (mkF m 0 #[.val (.ref o0)] []))
  refine gob (fun _ k => XS.aloadN X0.here hx rfl (hb hby d4_0) rfl rfl k) ?_
  show Go _ _ _ _ _ _ _ (s₁.setTop (mkF m 1 #[.val (.ref o0)] [(.ref o0)]))
  obtain ⟨T2, X2, e2, st2⟩ := getF X0 hx hZ hown (host := "") (Or.inl (hw _ (List.mem_of_getElem? (i := 26) rfl))) Via.refl e0 F_size_o0 (g := (mkF m 1 #[.val (.ref o0)] [(.ref o0)])) rfl rfl (hb hby d4_1)
  refine gob st2 ?_
  show Go _ _ _ _ _ _ _ (T2.setTop (mkF m 4 #[.val (.ref o0)] [(.int w1)]))
  refine goI X2 hx hlk Bd.returns (hb hby d4_4) ?_ (by decide) (by decide)
  show Q4 Z o0 w1 h0 n0 (some (.int w1)) T2.heap _
  exact ⟨w1, rfl, rfl, N0, e2⟩
theorem d5_0 : decode prog_26_method_7_code 0 = .ok (.aload_n 0, 1) := by decide +kernel
theorem d5_1 : decode prog_26_method_7_code 1 = .ok (.getfield 26, 3) := by decide +kernel
theorem d5_4 : decode prog_26_method_7_code 4 = .ok (.lreturn, 1) := by decide +kernel
theorem ef_5 (m : MethodId) (x0 : Addr) : entryFrame m #[(.ref x0)] 1 = mkF m 0 #[.val (.ref x0)] [] := by first | (simp [entryFrame, mkF, argsToLocals, Value.category]; done) | rfl
def Q5 (Z : State) (o0 : Addr) (w1 : Int64) (h0 : Heap) (n0 : Nat) (v : Option Value) (h : Heap) (L : List Loc) : Prop := ∃ r : Int64, v = some (.long r) ∧ ((r = w1)) ∧ Fr n0 L ∧ h = h0
set_option maxRecDepth 65536 in
set_option maxHeartbeats 40000000 in
theorem rm5 (l : Launch) (Z : State) (a0 : Array Value) (hw : ∀ d ∈ tables_1, d.before a0 Z = true) (ws : List Jvm.Cond) (o0 : Addr) (w1 : Int64) (h0 : Heap) (n0 : Nat) (Z0 : n0 ≤ h0.size) (F_collectionFrequency_o0 : Fld Z h0 o0 "com/example/robust_broker/robustbroker/Postings" "collectionFrequency" "J" (.long w1)) :
    MetFree l (⟨"com/example/robust_broker/robustbroker/Postings", "collectionFrequency", "()J"⟩ : MethodName) (head1 (Jvm.Cond.code (⟨"com/example/robust_broker/robustbroker/Postings", "collectionFrequency", "()J"⟩ : MethodName) prog_26_method_7_code 1 (some .long) :: ws) ({ frames := 0, cells := 0, slots := 0, locals := 0 } : Room)) (fun a U => a = #[(.ref o0)] ∧ Z.Warmed39 U.vm ∧ U.heap = h0) (fun _ _ _ _ _ => True) (fun _ U o U' => ∃ v L, o = .returned v ∧ Q5 Z o0 w1 h0 n0 v U'.heap L ∧ FrameEnd U o U' L ({ frames := 0, cells := 0, slots := 0, locals := 0 } : Room).cells ({ frames := 0, cells := 0, slots := 0, locals := 0 } : Room).slots) := by
  refine MetFree.of_bodySF (plainFor_of_name (by first | (simp [plainName, overriddenIn]; done) | decide +kernel)) hisR ?_
  intro p e s m args below meth c s₁ Bd hml0 hP hK
  obtain ⟨rfl, hZ, hh⟩ := hP
  have hx := Bd.exec
  have hby := Bd.bytes
  have hml : c.maxLocals = 1 := hml0
  have hown : s.vm.findClass "com/example/robust_broker/robustbroker/Postings" = some m.cls := findClass_of_methodNamed Bd.named
  have hnm := (name_of_methodNamed Bd.named Bd.method).1
  have hlk := BodyLoose.notSynchronized Bd
  have X0 : Stand p l e ({ frames := 0, cells := 0, slots := 0, locals := 0 } : Room) s m #[(.ref o0)] below meth c s₁ [] 0 0 := Stand.of_body Bd
  have e0 : s₁.heap = h0 := by rw [← hh, Bd.state]; rfl
  have N0 := Fr.nil n0
  show Go p e below s (Q5 Z o0 w1 h0 n0) 0 0 (s₁.setTop (entryFrame m #[(.ref o0)] 1))
  rw [ef_5]
  show Go _ _ _ _ _ _ _ (s₁.setTop (mkF m 0 #[.val (.ref o0)] []))
  refine gob (fun _ k => XS.aloadN X0.here hx rfl (hb hby d5_0) rfl rfl k) ?_
  show Go _ _ _ _ _ _ _ (s₁.setTop (mkF m 1 #[.val (.ref o0)] [(.ref o0)]))
  obtain ⟨T2, X2, e2, st2⟩ := getF X0 hx hZ hown (host := "") (Or.inl (hw _ (List.mem_of_getElem? (i := 33) rfl))) Via.refl e0 F_collectionFrequency_o0 (g := (mkF m 1 #[.val (.ref o0)] [(.ref o0)])) rfl rfl (hb hby d5_1)
  refine gob st2 ?_
  show Go _ _ _ _ _ _ _ (T2.setTop (mkF m 4 #[.val (.ref o0)] [(.long w1)]))
  refine goJ X2 hx hlk Bd.returns (hb hby d5_4) ?_ (by decide) (by decide)
  show Q5 Z o0 w1 h0 n0 (some (.long w1)) T2.heap _
  exact ⟨w1, rfl, rfl, N0, e2⟩
theorem d8_0 : decode jdk_29_method_69_code 0 = .ok (.iload_n 0, 1) := by decide +kernel
theorem d8_1 : decode jdk_29_method_69_code 1 = .ok (.iload_n 1, 1) := by decide +kernel
theorem d8_2 : decode jdk_29_method_69_code 2 = .ok (.if_icmp .gt 7, 3) := by decide +kernel
theorem d8_5 : decode jdk_29_method_69_code 5 = .ok (.iload_n 0, 1) := by decide +kernel
theorem d8_6 : decode jdk_29_method_69_code 6 = .ok (.goto 4, 3) := by decide +kernel
theorem d8_9 : decode jdk_29_method_69_code 9 = .ok (.iload_n 1, 1) := by decide +kernel
theorem d8_10 : decode jdk_29_method_69_code 10 = .ok (.ireturn, 1) := by decide +kernel
theorem ef_min_2_4 (m : MethodId)  : entryFrame m #[(.int (2 : Int32)), (.int (4 : Int32))] 2 = mkF m 0 #[.val (.int (2 : Int32)), .val (.int (4 : Int32))] [] := by first | (simp [entryFrame, mkF, argsToLocals, Value.category]; done) | rfl
def Qmin_2_4 (Z : State)  (h0 : Heap) (n0 : Nat) (v : Option Value) (h : Heap) (L : List Loc) : Prop := v = some (.int (2 : Int32)) ∧ Fr n0 L ∧ h = h0
set_option maxRecDepth 65536 in
set_option maxHeartbeats 40000000 in
theorem rmmin_2_4 (l : Launch) (Z : State) (a0 : Array Value) (hw : ∀ d ∈ tables_1, d.before a0 Z = true) (ws : List Jvm.Cond)  (h0 : Heap) (n0 : Nat) (Z0 : n0 ≤ h0.size) :
    MetFree l (⟨"java/lang/Math", "min", "(II)I"⟩ : MethodName) (head1 (Jvm.Cond.code (⟨"java/lang/Math", "min", "(II)I"⟩ : MethodName) jdk_29_method_69_code 2 (some .int) :: ws) ({ frames := 0, cells := 0, slots := 0, locals := 0 } : Room)) (fun a U => a = #[(.int (2 : Int32)), (.int (4 : Int32))] ∧ Z.Warmed39 U.vm ∧ U.heap = h0) (fun _ _ _ _ _ => True) (fun _ U o U' => ∃ v L, o = .returned v ∧ Qmin_2_4 Z  h0 n0 v U'.heap L ∧ FrameEnd U o U' L ({ frames := 0, cells := 0, slots := 0, locals := 0 } : Room).cells ({ frames := 0, cells := 0, slots := 0, locals := 0 } : Room).slots) := by
  refine MetFree.of_bodySF (Jvm.Free.JP.mathPlain rfl (by decide +kernel)) hisR ?_
  intro p e s m args below meth c s₁ Bd hml0 hP hK
  obtain ⟨rfl, hZ, hh⟩ := hP
  have hx := Bd.exec
  have hby := Bd.bytes
  have hml : c.maxLocals = 2 := hml0
  have hown : s.vm.findClass "java/lang/Math" = some m.cls := findClass_of_methodNamed Bd.named
  have hnm := (name_of_methodNamed Bd.named Bd.method).1
  have hlk := BodyLoose.notSynchronized Bd
  have X0 : Stand p l e ({ frames := 0, cells := 0, slots := 0, locals := 0 } : Room) s m #[(.int (2 : Int32)), (.int (4 : Int32))] below meth c s₁ [] 0 0 := Stand.of_body Bd
  have e0 : s₁.heap = h0 := by rw [← hh, Bd.state]; rfl
  have N0 := Fr.nil n0
  show Go p e below s (Qmin_2_4 Z  h0 n0) 0 0 (s₁.setTop (entryFrame m #[(.int (2 : Int32)), (.int (4 : Int32))] 2))
  rw [ef_min_2_4]
  show Go _ _ _ _ _ _ _ (s₁.setTop (mkF m 0 #[.val (.int (2 : Int32)), .val (.int (4 : Int32))] []))
  refine gob (fun _ k => XS.iloadN X0.here hx rfl (hb hby d8_0) rfl k) ?_
  show Go _ _ _ _ _ _ _ (s₁.setTop (mkF m 1 #[.val (.int (2 : Int32)), .val (.int (4 : Int32))] [(.int (2 : Int32))]))
  refine gob (fun _ k => XS.iloadN X0.here hx rfl (hb hby d8_1) rfl k) ?_
  show Go _ _ _ _ _ _ _ (s₁.setTop (mkF m 2 #[.val (.int (2 : Int32)), .val (.int (4 : Int32))] [(.int (4 : Int32)), (.int (2 : Int32))]))
  refine gob (fun _ k => XS.icmpNo X0.here hx rfl (hb hby d8_2) rfl (flt (by decide : ¬ ((4 : Int32) < (2 : Int32)))).2.2.1 k) ?_
  show Go _ _ _ _ _ _ _ (s₁.setTop (mkF m 5 #[.val (.int (2 : Int32)), .val (.int (4 : Int32))] []))
  refine gob (fun _ k => XS.iloadN X0.here hx rfl (hb hby d8_5) rfl k) ?_
  show Go _ _ _ _ _ _ _ (s₁.setTop (mkF m 6 #[.val (.int (2 : Int32)), .val (.int (4 : Int32))] [(.int (2 : Int32))]))
  refine gob (fun _ k => XS.goto X0.here hx rfl (pc0 := 6) (pc' := 10) rfl (hb hby d8_6) (by decide) (by decide) k) ?_
  show Go _ _ _ _ _ _ _ (s₁.setTop (mkF m 10 #[.val (.int (2 : Int32)), .val (.int (4 : Int32))] [(.int (2 : Int32))]))
  refine goI X0 hx hlk Bd.returns (hb hby d8_10) ?_ (by decide) (by decide)
  show Qmin_2_4 Z  h0 n0 (some (.int (2 : Int32))) s₁.heap _
  exact ⟨rfl, N0, e0⟩
theorem ef_min_4_8 (m : MethodId)  : entryFrame m #[(.int (4 : Int32)), (.int (8 : Int32))] 2 = mkF m 0 #[.val (.int (4 : Int32)), .val (.int (8 : Int32))] [] := by first | (simp [entryFrame, mkF, argsToLocals, Value.category]; done) | rfl
def Qmin_4_8 (Z : State)  (h0 : Heap) (n0 : Nat) (v : Option Value) (h : Heap) (L : List Loc) : Prop := v = some (.int (4 : Int32)) ∧ Fr n0 L ∧ h = h0
set_option maxRecDepth 65536 in
set_option maxHeartbeats 40000000 in
theorem rmmin_4_8 (l : Launch) (Z : State) (a0 : Array Value) (hw : ∀ d ∈ tables_1, d.before a0 Z = true) (ws : List Jvm.Cond)  (h0 : Heap) (n0 : Nat) (Z0 : n0 ≤ h0.size) :
    MetFree l (⟨"java/lang/Math", "min", "(II)I"⟩ : MethodName) (head1 (Jvm.Cond.code (⟨"java/lang/Math", "min", "(II)I"⟩ : MethodName) jdk_29_method_69_code 2 (some .int) :: ws) ({ frames := 0, cells := 0, slots := 0, locals := 0 } : Room)) (fun a U => a = #[(.int (4 : Int32)), (.int (8 : Int32))] ∧ Z.Warmed39 U.vm ∧ U.heap = h0) (fun _ _ _ _ _ => True) (fun _ U o U' => ∃ v L, o = .returned v ∧ Qmin_4_8 Z  h0 n0 v U'.heap L ∧ FrameEnd U o U' L ({ frames := 0, cells := 0, slots := 0, locals := 0 } : Room).cells ({ frames := 0, cells := 0, slots := 0, locals := 0 } : Room).slots) := by
  refine MetFree.of_bodySF (Jvm.Free.JP.mathPlain rfl (by decide +kernel)) hisR ?_
  intro p e s m args below meth c s₁ Bd hml0 hP hK
  obtain ⟨rfl, hZ, hh⟩ := hP
  have hx := Bd.exec
  have hby := Bd.bytes
  have hml : c.maxLocals = 2 := hml0
  have hown : s.vm.findClass "java/lang/Math" = some m.cls := findClass_of_methodNamed Bd.named
  have hnm := (name_of_methodNamed Bd.named Bd.method).1
  have hlk := BodyLoose.notSynchronized Bd
  have X0 : Stand p l e ({ frames := 0, cells := 0, slots := 0, locals := 0 } : Room) s m #[(.int (4 : Int32)), (.int (8 : Int32))] below meth c s₁ [] 0 0 := Stand.of_body Bd
  have e0 : s₁.heap = h0 := by rw [← hh, Bd.state]; rfl
  have N0 := Fr.nil n0
  show Go p e below s (Qmin_4_8 Z  h0 n0) 0 0 (s₁.setTop (entryFrame m #[(.int (4 : Int32)), (.int (8 : Int32))] 2))
  rw [ef_min_4_8]
  show Go _ _ _ _ _ _ _ (s₁.setTop (mkF m 0 #[.val (.int (4 : Int32)), .val (.int (8 : Int32))] []))
  refine gob (fun _ k => XS.iloadN X0.here hx rfl (hb hby d8_0) rfl k) ?_
  show Go _ _ _ _ _ _ _ (s₁.setTop (mkF m 1 #[.val (.int (4 : Int32)), .val (.int (8 : Int32))] [(.int (4 : Int32))]))
  refine gob (fun _ k => XS.iloadN X0.here hx rfl (hb hby d8_1) rfl k) ?_
  show Go _ _ _ _ _ _ _ (s₁.setTop (mkF m 2 #[.val (.int (4 : Int32)), .val (.int (8 : Int32))] [(.int (8 : Int32)), (.int (4 : Int32))]))
  refine gob (fun _ k => XS.icmpNo X0.here hx rfl (hb hby d8_2) rfl (flt (by decide : ¬ ((8 : Int32) < (4 : Int32)))).2.2.1 k) ?_
  show Go _ _ _ _ _ _ _ (s₁.setTop (mkF m 5 #[.val (.int (4 : Int32)), .val (.int (8 : Int32))] []))
  refine gob (fun _ k => XS.iloadN X0.here hx rfl (hb hby d8_5) rfl k) ?_
  show Go _ _ _ _ _ _ _ (s₁.setTop (mkF m 6 #[.val (.int (4 : Int32)), .val (.int (8 : Int32))] [(.int (4 : Int32))]))
  refine gob (fun _ k => XS.goto X0.here hx rfl (pc0 := 6) (pc' := 10) rfl (hb hby d8_6) (by decide) (by decide) k) ?_
  show Go _ _ _ _ _ _ _ (s₁.setTop (mkF m 10 #[.val (.int (4 : Int32)), .val (.int (8 : Int32))] [(.int (4 : Int32))]))
  refine goI X0 hx hlk Bd.returns (hb hby d8_10) ?_ (by decide) (by decide)
  show Qmin_4_8 Z  h0 n0 (some (.int (4 : Int32))) s₁.heap _
  exact ⟨rfl, N0, e0⟩
theorem d7_0 : decode jdk_65_method_123_code 0 = .ok (.iload_n 1, 1) := by decide +kernel
theorem d7_1 : decode jdk_65_method_123_code 1 = .ok (.aload_n 0, 1) := by decide +kernel
theorem d7_2 : decode jdk_65_method_123_code 2 = .ok (.arraylength, 1) := by decide +kernel
theorem d7_3 : decode jdk_65_method_123_code 3 = .ok (.if_icmp .ne 11, 3) := by decide +kernel
theorem d7_6 : decode jdk_65_method_123_code 6 = .ok (.aload_n 0, 1) := by decide +kernel
theorem d7_7 : decode jdk_65_method_123_code 7 = .ok (.invokevirtual 316, 3) := by decide +kernel
theorem d7_10 : decode jdk_65_method_123_code 10 = .ok (.checkcast 317, 3) := by decide +kernel
theorem d7_13 : decode jdk_65_method_123_code 13 = .ok (.areturn, 1) := by decide +kernel
theorem d7_14 : decode jdk_65_method_123_code 14 = .ok (.iload_n 1, 1) := by decide +kernel
theorem d7_15 : decode jdk_65_method_123_code 15 = .ok (.newarray .int, 2) := by decide +kernel
theorem d7_17 : decode jdk_65_method_123_code 17 = .ok (.astore_n 2, 1) := by decide +kernel
theorem d7_18 : decode jdk_65_method_123_code 18 = .ok (.aload_n 0, 1) := by decide +kernel
theorem d7_19 : decode jdk_65_method_123_code 19 = .ok (.iconst 0, 1) := by decide +kernel
theorem d7_20 : decode jdk_65_method_123_code 20 = .ok (.aload_n 2, 1) := by decide +kernel
theorem d7_21 : decode jdk_65_method_123_code 21 = .ok (.iconst 0, 1) := by decide +kernel
theorem d7_22 : decode jdk_65_method_123_code 22 = .ok (.aload_n 0, 1) := by decide +kernel
theorem d7_23 : decode jdk_65_method_123_code 23 = .ok (.arraylength, 1) := by decide +kernel
theorem d7_24 : decode jdk_65_method_123_code 24 = .ok (.iload_n 1, 1) := by decide +kernel
theorem d7_25 : decode jdk_65_method_123_code 25 = .ok (.invokestatic 304, 3) := by decide +kernel
theorem d7_28 : decode jdk_65_method_123_code 28 = .ok (.invokestatic 150, 3) := by decide +kernel
theorem d7_31 : decode jdk_65_method_123_code 31 = .ok (.aload_n 2, 1) := by decide +kernel
theorem d7_32 : decode jdk_65_method_123_code 32 = .ok (.areturn, 1) := by decide +kernel
theorem pd_0 : parseMethodDescriptor "(II)I" = some ⟨[.int, .int], some .int⟩ := by decide +kernel
theorem ef_cp_2_2_4 (m : MethodId) (x0 : Addr) : entryFrame m #[(.ref x0), (.int (4 : Int32))] 3 = mkF m 0 #[.val (.ref x0), .val (.int (4 : Int32)), .unset] [] := by first | (simp [entryFrame, mkF, argsToLocals, Value.category]; done) | rfl
def Qcp_2_2_4 (Z : State) (o0 : Addr) (k_a : ClassId) (y0 : Int32) (y1 : Int32) (h0 : Heap) (n0 : Nat) (v : Option Value) (h : Heap) (L : List Loc) : Prop := ∃ b2 : Addr, ∃ k2 : ClassId, v = some (.ref b2) ∧ Fr n0 L ∧ Keep h0 h ([] : List Addr) ∧ h0.size ≤ b2 ∧ Arv Z h b2 k2 .int (4 : Int32) [(.int y0), (.int y1), (.int (0 : Int32)), (.int (0 : Int32))] (.int (0 : Int32))
set_option maxRecDepth 65536 in
set_option maxHeartbeats 40000000 in
theorem rmcp_2_2_4 (l : Launch) (Z : State) (a0 : Array Value) (hw : ∀ d ∈ tables_1, d.before a0 Z = true) (ws : List Jvm.Cond) (o0 : Addr) (k_a : ClassId) (y0 : Int32) (y1 : Int32) (h0 : Heap) (n0 : Nat) (Z0 : n0 ≤ h0.size) (V_a : Arv Z h0 o0 k_a .int (2 : Int32) [(.int y0), (.int y1)] (.int (0 : Int32))) :
    MetFree l (⟨"java/util/Arrays", "copyOf", "([II)[I"⟩ : MethodName) (head1 (Jvm.Cond.code (⟨"java/util/Arrays", "copyOf", "([II)[I"⟩ : MethodName) jdk_65_method_123_code 3 (some (.array .int)) :: ws) ({ frames := 1, cells := 1, slots := 4, locals := 18 } : Room)) (fun a U => a = #[(.ref o0), (.int (4 : Int32))] ∧ Z.Warmed39 U.vm ∧ U.heap = h0) (fun _ _ _ _ _ => True) (fun _ U o U' => ∃ v L, o = .returned v ∧ Qcp_2_2_4 Z o0 k_a y0 y1 h0 n0 v U'.heap L ∧ FrameEnd U o U' L ({ frames := 1, cells := 1, slots := 4, locals := 18 } : Room).cells ({ frames := 1, cells := 1, slots := 4, locals := 18 } : Room).slots) := by
  refine MetFree.of_bodySF (plainFor_of_name (by first | (simp [plainName, overriddenIn]; done) | decide +kernel)) hisR ?_
  intro p e s m args below meth c s₁ Bd hml0 hP hK
  obtain ⟨rfl, hZ, hh⟩ := hP
  have hx := Bd.exec
  have hby := Bd.bytes
  have hml : c.maxLocals = 3 := hml0
  have hown : s.vm.findClass "java/util/Arrays" = some m.cls := findClass_of_methodNamed Bd.named
  have hnm := (name_of_methodNamed Bd.named Bd.method).1
  have hlk := BodyLoose.notSynchronized Bd
  have X0 : Stand p l e ({ frames := 1, cells := 1, slots := 4, locals := 18 } : Room) s m #[(.ref o0), (.int (4 : Int32))] below meth c s₁ [] 0 0 := Stand.of_body Bd
  have e0 : s₁.heap = h0 := by rw [← hh, Bd.state]; rfl
  have N0 := Fr.nil n0
  show Go p e below s (Qcp_2_2_4 Z o0 k_a y0 y1 h0 n0) 1 4 (s₁.setTop (entryFrame m #[(.ref o0), (.int (4 : Int32))] 3))
  rw [ef_cp_2_2_4]
  show Go _ _ _ _ _ _ _ (s₁.setTop (mkF m 0 #[.val (.ref o0), .val (.int (4 : Int32)), .unset] []))
  refine gob (fun _ k => XS.iloadN X0.here hx rfl (hb hby d7_0) rfl k) ?_
  show Go _ _ _ _ _ _ _ (s₁.setTop (mkF m 1 #[.val (.ref o0), .val (.int (4 : Int32)), .unset] [(.int (4 : Int32))]))
  refine gob (fun _ k => XS.aloadN X0.here hx rfl (hb hby d7_1) rfl rfl k) ?_
  show Go _ _ _ _ _ _ _ (s₁.setTop (mkF m 2 #[.val (.ref o0), .val (.int (4 : Int32)), .unset] [(.ref o0), (.int (4 : Int32))]))
  obtain ⟨cl1, Ar1, aq1, S1, N1, H1, G1⟩ := id V_a
  refine gob (X0.arraylength hx (by rw [e0]; exact Ar1.1) (State.isArrayOf_alike hZ.alike Ar1.2.1) (g := (mkF m 2 #[.val (.ref o0), .val (.int (4 : Int32)), .unset] [(.ref o0), (.int (4 : Int32))])) rfl rfl (hb hby d7_2)) ?_
  rw [len_of S1 N1]
  show Go _ _ _ _ _ _ _ (s₁.setTop (mkF m 3 #[.val (.ref o0), .val (.int (4 : Int32)), .unset] [(.int (2 : Int32)), (.int (4 : Int32))]))
  refine gob (fun _ k => XS.icmpYes X0.here hx rfl (pc0 := 3) (pc' := 14) rfl (hb hby d7_3) rfl (feq (by decide : ¬ ((4 : Int32) = (2 : Int32)))).2 (by decide) (by decide) k) ?_
  show Go _ _ _ _ _ _ _ (s₁.setTop (mkF m 14 #[.val (.ref o0), .val (.int (4 : Int32)), .unset] []))
  refine gob (fun _ k => XS.iloadN X0.here hx rfl (hb hby d7_14) rfl k) ?_
  show Go _ _ _ _ _ _ _ (s₁.setTop (mkF m 15 #[.val (.ref o0), .val (.int (4 : Int32)), .unset] [(.int (4 : Int32))]))
  obtain ⟨T2, h2, k2, X2, e2, E2, A2, st2⟩ := newP X0 hx hZ (hw _ (List.mem_of_getElem? (i := 0) rfl)) e0 (g := (mkF m 15 #[.val (.ref o0), .val (.int (4 : Int32)), .unset] [(.int (4 : Int32))])) rfl (hb hby d7_15) rfl (by decide) (cap := 4) (by decide) (by decide) (by decide) (by decide)
  obtain ⟨b2, g2⟩ : ∃ z, z = h0.size := ⟨_, rfl⟩
  rw [← g2] at A2 st2
  have n3 : o0 ≠ b2 := Nat.ne_of_lt (Nat.lt_of_lt_of_le V_a.lt (Nat.le_of_eq g2.symm))
  have g4 : n0 ≤ b2 := Nat.le_trans Z0 (Nat.le_of_eq g2.symm)
  have sz_b2 : h0.size ≤ b2 := Nat.le_trans (Keep.refl h0 []).1 (Nat.le_of_eq g2.symm)
  have z5 : n0 ≤ h2.size := Nat.le_trans Z0 E2.1
  have K6 : Keep h0 h2 ([] : List Addr) := (Keep.refl h0 ([] : List Addr)).ext E2
  have V2 : Arv Z h2 b2 k2 .int (4 : Int32) [(.int (0 : Int32)), (.int (0 : Int32)), (.int (0 : Int32)), (.int (0 : Int32))] (.int (0 : Int32)) := (Arv.new A2 (by decide)).pad (pad_rep [] (.int (0 : Int32)) 4)
  refine gob st2 ?_
  replace X2 := castX X2 (rfl : _ = 1) (rfl : _ = 4)
  show Go _ _ _ _ _ _ _ (T2.setTop (mkF m 17 #[.val (.ref o0), .val (.int (4 : Int32)), .unset] [(.ref b2)]))
  refine gob (fun _ k => XS.astoreN X2.here hx rfl (hb hby d7_17) rfl rfl (l' := #[.val (.ref o0), .val (.int (4 : Int32)), .val (.ref b2)]) rfl k) ?_
  show Go _ _ _ _ _ _ _ (T2.setTop (mkF m 18 #[.val (.ref o0), .val (.int (4 : Int32)), .val (.ref b2)] []))
  refine gob (fun _ k => XS.aloadN X2.here hx rfl (hb hby d7_18) rfl rfl k) ?_
  show Go _ _ _ _ _ _ _ (T2.setTop (mkF m 19 #[.val (.ref o0), .val (.int (4 : Int32)), .val (.ref b2)] [(.ref o0)]))
  refine gob (fun _ k => XS.iconst X2.here hx rfl (hb hby d7_19) k) ?_
  show Go _ _ _ _ _ _ _ (T2.setTop (mkF m 20 #[.val (.ref o0), .val (.int (4 : Int32)), .val (.ref b2)] [(.int (0 : Int32)), (.ref o0)]))
  refine gob (fun _ k => XS.aloadN X2.here hx rfl (hb hby d7_20) rfl rfl k) ?_
  show Go _ _ _ _ _ _ _ (T2.setTop (mkF m 21 #[.val (.ref o0), .val (.int (4 : Int32)), .val (.ref b2)] [(.ref b2), (.int (0 : Int32)), (.ref o0)]))
  refine gob (fun _ k => XS.iconst X2.here hx rfl (hb hby d7_21) k) ?_
  show Go _ _ _ _ _ _ _ (T2.setTop (mkF m 22 #[.val (.ref o0), .val (.int (4 : Int32)), .val (.ref b2)] [(.int (0 : Int32)), (.ref b2), (.int (0 : Int32)), (.ref o0)]))
  refine gob (fun _ k => XS.aloadN X2.here hx rfl (hb hby d7_22) rfl rfl k) ?_
  show Go _ _ _ _ _ _ _ (T2.setTop (mkF m 23 #[.val (.ref o0), .val (.int (4 : Int32)), .val (.ref b2)] [(.ref o0), (.int (0 : Int32)), (.ref b2), (.int (0 : Int32)), (.ref o0)]))
  have c8 := (V_a.ext E2)
  obtain ⟨cl7, Ar7, aq7, S7, N7, H7, G7⟩ := id c8
  refine gob (X2.arraylength hx (by rw [e2]; exact Ar7.1) (State.isArrayOf_alike hZ.alike Ar7.2.1) (g := (mkF m 23 #[.val (.ref o0), .val (.int (4 : Int32)), .val (.ref b2)] [(.ref o0), (.int (0 : Int32)), (.ref b2), (.int (0 : Int32)), (.ref o0)])) rfl rfl (hb hby d7_23)) ?_
  rw [len_of S7 N7]
  show Go _ _ _ _ _ _ _ (T2.setTop (mkF m 24 #[.val (.ref o0), .val (.int (4 : Int32)), .val (.ref b2)] [(.int (2 : Int32)), (.int (0 : Int32)), (.ref b2), (.int (0 : Int32)), (.ref o0)]))
  refine gob (fun _ k => XS.iloadN X2.here hx rfl (hb hby d7_24) rfl k) ?_
  show Go _ _ _ _ _ _ _ (T2.setTop (mkF m 25 #[.val (.ref o0), .val (.int (4 : Int32)), .val (.ref b2)] [(.int (4 : Int32)), (.int (2 : Int32)), (.int (0 : Int32)), (.ref b2), (.int (0 : Int32)), (.ref o0)]))
  obtain ⟨_, _, ⟨T9, L9, k9, n9⟩, -, X9, ⟨Lc9, hQ9, l9, y9, z9⟩, st9⟩ := Jvm.LawKit.callS X2 hx (y := (⟨"java/lang/Math", "min", "(II)I"⟩ : MethodName)) hown (mvT hZ (hw _ (List.mem_of_getElem? (i := 44) rfl))) (mvT hZ (hw _ (List.mem_of_getElem? (i := 45) rfl))) (mvT hZ (hw _ (List.mem_of_getElem? (i := 46) rfl))) (mvT hZ (hw _ (List.mem_of_getElem? (i := 47) rfl))) (by decide) (backOf (W := 4) (rmmin_2_4 l Z a0 hw []  h2 n0 z5 ) hZ (hw _ (List.mem_of_getElem? (i := 47) rfl)) (hw _ (List.mem_of_getElem? (i := 46) rfl)) (by decide) (by decide)) (g := (mkF m 25 #[.val (.ref o0), .val (.int (4 : Int32)), .val (.ref b2)] [(.int (4 : Int32)), (.int (2 : Int32)), (.int (0 : Int32)), (.ref b2), (.int (0 : Int32)), (.ref o0)])) rfl (by rw [hml]; rfl) (argsL := [(.int (2 : Int32)), (.int (4 : Int32))]) (rest := [(.int (0 : Int32)), (.ref b2), (.int (0 : Int32)), (.ref o0)]) (lenOf pd_0 rfl) rfl (by show 2 * 0 + _ ≤ _; exact Nat.le_of_eq rfl) (hb hby d7_25) (fun _ _ => ⟨rfl, e2, (by decide : 1 + 0 ≤ _), (by decide : 4 + 0 ≤ _)⟩)
  dsimp only [Pt.U, Pt.locs, Pt.cells, Pt.slots] at X9 l9 y9 z9 st9 hQ9
  replace X9 := castX X9 (y9.trans (rfl : _ = 1)) (z9.trans (rfl : _ = 4))
  obtain ⟨rfl, Nq9, e9⟩ := hQ9
  have N9 : Fr n0 L9 := l9 ▸ Fr.app N0 Nq9
  refine gob st9 ?_
  show Go _ _ _ _ _ _ _ (T9.setTop (mkF m 28 #[.val (.ref o0), .val (.int (4 : Int32)), .val (.ref b2)] [(.int (2 : Int32)), (.int (0 : Int32)), (.ref b2), (.int (0 : Int32)), (.ref o0)]))
  obtain ⟨T10, h10, L10, X10, e10, N10, K10, A10, st10⟩ := cpA X9 hx hZ hown (hw _ (List.mem_of_getElem? (i := 48) rfl)) (hw _ (List.mem_of_getElem? (i := 51) rfl)) (hw _ (List.mem_of_getElem? (i := 49) rfl)) (hw _ (List.mem_of_getElem? (i := 50) rfl)) e9 c8 V2 (Or.inl ⟨rfl, rfl⟩) (sp := (0 : Int32)) (dp := (0 : Int32)) (nn := (2 : Int32)) (us := [(.int y0), (.int y1)]) (by decide) (by decide) (by decide) (by decide) (by decide) rfl (by decide) N9 g4 (g := (mkF m 28 #[.val (.ref o0), .val (.int (4 : Int32)), .val (.ref b2)] [(.int (2 : Int32)), (.int (0 : Int32)), (.ref b2), (.int (0 : Int32)), (.ref o0)])) rfl (by rw [hml]; rfl) rfl (hb hby d7_28) (by decide) (W := 0) (by show 2 * 0 + _ ≤ _; exact Nat.le_of_eq rfl) (by decide)
  have z11 : n0 ≤ h10.size := Nat.le_trans z5 K10.1
  have K12 : Keep h0 h10 ([] : List Addr) := K6.trans K10 (allS (Or.inr sz_b2) all0)
  have V10 : Arv Z h10 b2 k2 .int (4 : Int32) [(.int y0), (.int y1), (.int (0 : Int32)), (.int (0 : Int32))] (.int (0 : Int32)) := A10
  refine gob st10 ?_
  show Go _ _ _ _ _ _ _ (T10.setTop (mkF m 31 #[.val (.ref o0), .val (.int (4 : Int32)), .val (.ref b2)] []))
  refine gob (fun _ k => XS.aloadN X10.here hx rfl (hb hby d7_31) rfl rfl k) ?_
  show Go _ _ _ _ _ _ _ (T10.setTop (mkF m 32 #[.val (.ref o0), .val (.int (4 : Int32)), .val (.ref b2)] [(.ref b2)]))
  refine goA X10 hx hlk Bd.returns rfl rfl (hb hby d7_32) ?_ (by decide) (by decide)
  show Qcp_2_2_4 Z o0 k_a y0 y1 h0 n0 (some (.ref b2)) T10.heap _
  rw [e10]
  exact ⟨b2, k2, rfl, N10, K12, sz_b2, V10⟩
theorem ef_cp_4_4_8 (m : MethodId) (x0 : Addr) : entryFrame m #[(.ref x0), (.int (8 : Int32))] 3 = mkF m 0 #[.val (.ref x0), .val (.int (8 : Int32)), .unset] [] := by first | (simp [entryFrame, mkF, argsToLocals, Value.category]; done) | rfl
def Qcp_4_4_8 (Z : State) (o0 : Addr) (k_a : ClassId) (y0 : Int32) (y1 : Int32) (y2 : Int32) (y3 : Int32) (h0 : Heap) (n0 : Nat) (v : Option Value) (h : Heap) (L : List Loc) : Prop := ∃ b2 : Addr, ∃ k2 : ClassId, v = some (.ref b2) ∧ Fr n0 L ∧ Keep h0 h ([] : List Addr) ∧ h0.size ≤ b2 ∧ Arv Z h b2 k2 .int (8 : Int32) [(.int y0), (.int y1), (.int y2), (.int y3), (.int (0 : Int32)), (.int (0 : Int32)), (.int (0 : Int32)), (.int (0 : Int32))] (.int (0 : Int32))
set_option maxRecDepth 65536 in
set_option maxHeartbeats 40000000 in
theorem rmcp_4_4_8 (l : Launch) (Z : State) (a0 : Array Value) (hw : ∀ d ∈ tables_1, d.before a0 Z = true) (ws : List Jvm.Cond) (o0 : Addr) (k_a : ClassId) (y0 : Int32) (y1 : Int32) (y2 : Int32) (y3 : Int32) (h0 : Heap) (n0 : Nat) (Z0 : n0 ≤ h0.size) (V_a : Arv Z h0 o0 k_a .int (4 : Int32) [(.int y0), (.int y1), (.int y2), (.int y3)] (.int (0 : Int32))) :
    MetFree l (⟨"java/util/Arrays", "copyOf", "([II)[I"⟩ : MethodName) (head1 (Jvm.Cond.code (⟨"java/util/Arrays", "copyOf", "([II)[I"⟩ : MethodName) jdk_65_method_123_code 3 (some (.array .int)) :: ws) ({ frames := 1, cells := 1, slots := 8, locals := 18 } : Room)) (fun a U => a = #[(.ref o0), (.int (8 : Int32))] ∧ Z.Warmed39 U.vm ∧ U.heap = h0) (fun _ _ _ _ _ => True) (fun _ U o U' => ∃ v L, o = .returned v ∧ Qcp_4_4_8 Z o0 k_a y0 y1 y2 y3 h0 n0 v U'.heap L ∧ FrameEnd U o U' L ({ frames := 1, cells := 1, slots := 8, locals := 18 } : Room).cells ({ frames := 1, cells := 1, slots := 8, locals := 18 } : Room).slots) := by
  refine MetFree.of_bodySF (plainFor_of_name (by first | (simp [plainName, overriddenIn]; done) | decide +kernel)) hisR ?_
  intro p e s m args below meth c s₁ Bd hml0 hP hK
  obtain ⟨rfl, hZ, hh⟩ := hP
  have hx := Bd.exec
  have hby := Bd.bytes
  have hml : c.maxLocals = 3 := hml0
  have hown : s.vm.findClass "java/util/Arrays" = some m.cls := findClass_of_methodNamed Bd.named
  have hnm := (name_of_methodNamed Bd.named Bd.method).1
  have hlk := BodyLoose.notSynchronized Bd
  have X0 : Stand p l e ({ frames := 1, cells := 1, slots := 8, locals := 18 } : Room) s m #[(.ref o0), (.int (8 : Int32))] below meth c s₁ [] 0 0 := Stand.of_body Bd
  have e0 : s₁.heap = h0 := by rw [← hh, Bd.state]; rfl
  have N0 := Fr.nil n0
  show Go p e below s (Qcp_4_4_8 Z o0 k_a y0 y1 y2 y3 h0 n0) 1 8 (s₁.setTop (entryFrame m #[(.ref o0), (.int (8 : Int32))] 3))
  rw [ef_cp_4_4_8]
  show Go _ _ _ _ _ _ _ (s₁.setTop (mkF m 0 #[.val (.ref o0), .val (.int (8 : Int32)), .unset] []))
  refine gob (fun _ k => XS.iloadN X0.here hx rfl (hb hby d7_0) rfl k) ?_
  show Go _ _ _ _ _ _ _ (s₁.setTop (mkF m 1 #[.val (.ref o0), .val (.int (8 : Int32)), .unset] [(.int (8 : Int32))]))
  refine gob (fun _ k => XS.aloadN X0.here hx rfl (hb hby d7_1) rfl rfl k) ?_
  show Go _ _ _ _ _ _ _ (s₁.setTop (mkF m 2 #[.val (.ref o0), .val (.int (8 : Int32)), .unset] [(.ref o0), (.int (8 : Int32))]))
  obtain ⟨cl1, Ar1, aq1, S1, N1, H1, G1⟩ := id V_a
  refine gob (X0.arraylength hx (by rw [e0]; exact Ar1.1) (State.isArrayOf_alike hZ.alike Ar1.2.1) (g := (mkF m 2 #[.val (.ref o0), .val (.int (8 : Int32)), .unset] [(.ref o0), (.int (8 : Int32))])) rfl rfl (hb hby d7_2)) ?_
  rw [len_of S1 N1]
  show Go _ _ _ _ _ _ _ (s₁.setTop (mkF m 3 #[.val (.ref o0), .val (.int (8 : Int32)), .unset] [(.int (4 : Int32)), (.int (8 : Int32))]))
  refine gob (fun _ k => XS.icmpYes X0.here hx rfl (pc0 := 3) (pc' := 14) rfl (hb hby d7_3) rfl (feq (by decide : ¬ ((8 : Int32) = (4 : Int32)))).2 (by decide) (by decide) k) ?_
  show Go _ _ _ _ _ _ _ (s₁.setTop (mkF m 14 #[.val (.ref o0), .val (.int (8 : Int32)), .unset] []))
  refine gob (fun _ k => XS.iloadN X0.here hx rfl (hb hby d7_14) rfl k) ?_
  show Go _ _ _ _ _ _ _ (s₁.setTop (mkF m 15 #[.val (.ref o0), .val (.int (8 : Int32)), .unset] [(.int (8 : Int32))]))
  obtain ⟨T2, h2, k2, X2, e2, E2, A2, st2⟩ := newP X0 hx hZ (hw _ (List.mem_of_getElem? (i := 0) rfl)) e0 (g := (mkF m 15 #[.val (.ref o0), .val (.int (8 : Int32)), .unset] [(.int (8 : Int32))])) rfl (hb hby d7_15) rfl (by decide) (cap := 8) (by decide) (by decide) (by decide) (by decide)
  obtain ⟨b2, g2⟩ : ∃ z, z = h0.size := ⟨_, rfl⟩
  rw [← g2] at A2 st2
  have n3 : o0 ≠ b2 := Nat.ne_of_lt (Nat.lt_of_lt_of_le V_a.lt (Nat.le_of_eq g2.symm))
  have g4 : n0 ≤ b2 := Nat.le_trans Z0 (Nat.le_of_eq g2.symm)
  have sz_b2 : h0.size ≤ b2 := Nat.le_trans (Keep.refl h0 []).1 (Nat.le_of_eq g2.symm)
  have z5 : n0 ≤ h2.size := Nat.le_trans Z0 E2.1
  have K6 : Keep h0 h2 ([] : List Addr) := (Keep.refl h0 ([] : List Addr)).ext E2
  have V2 : Arv Z h2 b2 k2 .int (8 : Int32) [(.int (0 : Int32)), (.int (0 : Int32)), (.int (0 : Int32)), (.int (0 : Int32)), (.int (0 : Int32)), (.int (0 : Int32)), (.int (0 : Int32)), (.int (0 : Int32))] (.int (0 : Int32)) := (Arv.new A2 (by decide)).pad (pad_rep [] (.int (0 : Int32)) 8)
  refine gob st2 ?_
  replace X2 := castX X2 (rfl : _ = 1) (rfl : _ = 8)
  show Go _ _ _ _ _ _ _ (T2.setTop (mkF m 17 #[.val (.ref o0), .val (.int (8 : Int32)), .unset] [(.ref b2)]))
  refine gob (fun _ k => XS.astoreN X2.here hx rfl (hb hby d7_17) rfl rfl (l' := #[.val (.ref o0), .val (.int (8 : Int32)), .val (.ref b2)]) rfl k) ?_
  show Go _ _ _ _ _ _ _ (T2.setTop (mkF m 18 #[.val (.ref o0), .val (.int (8 : Int32)), .val (.ref b2)] []))
  refine gob (fun _ k => XS.aloadN X2.here hx rfl (hb hby d7_18) rfl rfl k) ?_
  show Go _ _ _ _ _ _ _ (T2.setTop (mkF m 19 #[.val (.ref o0), .val (.int (8 : Int32)), .val (.ref b2)] [(.ref o0)]))
  refine gob (fun _ k => XS.iconst X2.here hx rfl (hb hby d7_19) k) ?_
  show Go _ _ _ _ _ _ _ (T2.setTop (mkF m 20 #[.val (.ref o0), .val (.int (8 : Int32)), .val (.ref b2)] [(.int (0 : Int32)), (.ref o0)]))
  refine gob (fun _ k => XS.aloadN X2.here hx rfl (hb hby d7_20) rfl rfl k) ?_
  show Go _ _ _ _ _ _ _ (T2.setTop (mkF m 21 #[.val (.ref o0), .val (.int (8 : Int32)), .val (.ref b2)] [(.ref b2), (.int (0 : Int32)), (.ref o0)]))
  refine gob (fun _ k => XS.iconst X2.here hx rfl (hb hby d7_21) k) ?_
  show Go _ _ _ _ _ _ _ (T2.setTop (mkF m 22 #[.val (.ref o0), .val (.int (8 : Int32)), .val (.ref b2)] [(.int (0 : Int32)), (.ref b2), (.int (0 : Int32)), (.ref o0)]))
  refine gob (fun _ k => XS.aloadN X2.here hx rfl (hb hby d7_22) rfl rfl k) ?_
  show Go _ _ _ _ _ _ _ (T2.setTop (mkF m 23 #[.val (.ref o0), .val (.int (8 : Int32)), .val (.ref b2)] [(.ref o0), (.int (0 : Int32)), (.ref b2), (.int (0 : Int32)), (.ref o0)]))
  have c8 := (V_a.ext E2)
  obtain ⟨cl7, Ar7, aq7, S7, N7, H7, G7⟩ := id c8
  refine gob (X2.arraylength hx (by rw [e2]; exact Ar7.1) (State.isArrayOf_alike hZ.alike Ar7.2.1) (g := (mkF m 23 #[.val (.ref o0), .val (.int (8 : Int32)), .val (.ref b2)] [(.ref o0), (.int (0 : Int32)), (.ref b2), (.int (0 : Int32)), (.ref o0)])) rfl rfl (hb hby d7_23)) ?_
  rw [len_of S7 N7]
  show Go _ _ _ _ _ _ _ (T2.setTop (mkF m 24 #[.val (.ref o0), .val (.int (8 : Int32)), .val (.ref b2)] [(.int (4 : Int32)), (.int (0 : Int32)), (.ref b2), (.int (0 : Int32)), (.ref o0)]))
  refine gob (fun _ k => XS.iloadN X2.here hx rfl (hb hby d7_24) rfl k) ?_
  show Go _ _ _ _ _ _ _ (T2.setTop (mkF m 25 #[.val (.ref o0), .val (.int (8 : Int32)), .val (.ref b2)] [(.int (8 : Int32)), (.int (4 : Int32)), (.int (0 : Int32)), (.ref b2), (.int (0 : Int32)), (.ref o0)]))
  obtain ⟨_, _, ⟨T9, L9, k9, n9⟩, -, X9, ⟨Lc9, hQ9, l9, y9, z9⟩, st9⟩ := Jvm.LawKit.callS X2 hx (y := (⟨"java/lang/Math", "min", "(II)I"⟩ : MethodName)) hown (mvT hZ (hw _ (List.mem_of_getElem? (i := 44) rfl))) (mvT hZ (hw _ (List.mem_of_getElem? (i := 45) rfl))) (mvT hZ (hw _ (List.mem_of_getElem? (i := 46) rfl))) (mvT hZ (hw _ (List.mem_of_getElem? (i := 47) rfl))) (by decide) (backOf (W := 4) (rmmin_4_8 l Z a0 hw []  h2 n0 z5 ) hZ (hw _ (List.mem_of_getElem? (i := 47) rfl)) (hw _ (List.mem_of_getElem? (i := 46) rfl)) (by decide) (by decide)) (g := (mkF m 25 #[.val (.ref o0), .val (.int (8 : Int32)), .val (.ref b2)] [(.int (8 : Int32)), (.int (4 : Int32)), (.int (0 : Int32)), (.ref b2), (.int (0 : Int32)), (.ref o0)])) rfl (by rw [hml]; rfl) (argsL := [(.int (4 : Int32)), (.int (8 : Int32))]) (rest := [(.int (0 : Int32)), (.ref b2), (.int (0 : Int32)), (.ref o0)]) (lenOf pd_0 rfl) rfl (by show 2 * 0 + _ ≤ _; exact Nat.le_of_eq rfl) (hb hby d7_25) (fun _ _ => ⟨rfl, e2, (by decide : 1 + 0 ≤ _), (by decide : 8 + 0 ≤ _)⟩)
  dsimp only [Pt.U, Pt.locs, Pt.cells, Pt.slots] at X9 l9 y9 z9 st9 hQ9
  replace X9 := castX X9 (y9.trans (rfl : _ = 1)) (z9.trans (rfl : _ = 8))
  obtain ⟨rfl, Nq9, e9⟩ := hQ9
  have N9 : Fr n0 L9 := l9 ▸ Fr.app N0 Nq9
  refine gob st9 ?_
  show Go _ _ _ _ _ _ _ (T9.setTop (mkF m 28 #[.val (.ref o0), .val (.int (8 : Int32)), .val (.ref b2)] [(.int (4 : Int32)), (.int (0 : Int32)), (.ref b2), (.int (0 : Int32)), (.ref o0)]))
  obtain ⟨T10, h10, L10, X10, e10, N10, K10, A10, st10⟩ := cpA X9 hx hZ hown (hw _ (List.mem_of_getElem? (i := 48) rfl)) (hw _ (List.mem_of_getElem? (i := 51) rfl)) (hw _ (List.mem_of_getElem? (i := 49) rfl)) (hw _ (List.mem_of_getElem? (i := 50) rfl)) e9 c8 V2 (Or.inl ⟨rfl, rfl⟩) (sp := (0 : Int32)) (dp := (0 : Int32)) (nn := (4 : Int32)) (us := [(.int y0), (.int y1), (.int y2), (.int y3)]) (by decide) (by decide) (by decide) (by decide) (by decide) rfl (by decide) N9 g4 (g := (mkF m 28 #[.val (.ref o0), .val (.int (8 : Int32)), .val (.ref b2)] [(.int (4 : Int32)), (.int (0 : Int32)), (.ref b2), (.int (0 : Int32)), (.ref o0)])) rfl (by rw [hml]; rfl) rfl (hb hby d7_28) (by decide) (W := 0) (by show 2 * 0 + _ ≤ _; exact Nat.le_of_eq rfl) (by decide)
  have z11 : n0 ≤ h10.size := Nat.le_trans z5 K10.1
  have K12 : Keep h0 h10 ([] : List Addr) := K6.trans K10 (allS (Or.inr sz_b2) all0)
  have V10 : Arv Z h10 b2 k2 .int (8 : Int32) [(.int y0), (.int y1), (.int y2), (.int y3), (.int (0 : Int32)), (.int (0 : Int32)), (.int (0 : Int32)), (.int (0 : Int32))] (.int (0 : Int32)) := A10
  refine gob st10 ?_
  show Go _ _ _ _ _ _ _ (T10.setTop (mkF m 31 #[.val (.ref o0), .val (.int (8 : Int32)), .val (.ref b2)] []))
  refine gob (fun _ k => XS.aloadN X10.here hx rfl (hb hby d7_31) rfl rfl k) ?_
  show Go _ _ _ _ _ _ _ (T10.setTop (mkF m 32 #[.val (.ref o0), .val (.int (8 : Int32)), .val (.ref b2)] [(.ref b2)]))
  refine goA X10 hx hlk Bd.returns rfl rfl (hb hby d7_32) ?_ (by decide) (by decide)
  show Qcp_4_4_8 Z o0 k_a y0 y1 y2 y3 h0 n0 (some (.ref b2)) T10.heap _
  rw [e10]
  exact ⟨b2, k2, rfl, N10, K12, sz_b2, V10⟩
theorem d6_0 : decode prog_26_method_2_code 0 = .ok (.aload_n 0, 1) := by decide +kernel
theorem d6_1 : decode prog_26_method_2_code 1 = .ok (.getfield 16, 3) := by decide +kernel
theorem d6_4 : decode prog_26_method_2_code 4 = .ok (.aload_n 0, 1) := by decide +kernel
theorem d6_5 : decode prog_26_method_2_code 5 = .ok (.getfield 7, 3) := by decide +kernel
theorem d6_8 : decode prog_26_method_2_code 8 = .ok (.arraylength, 1) := by decide +kernel
theorem d6_9 : decode prog_26_method_2_code 9 = .ok (.if_icmp .ne 37, 3) := by decide +kernel
theorem d6_12 : decode prog_26_method_2_code 12 = .ok (.aload_n 0, 1) := by decide +kernel
theorem d6_13 : decode prog_26_method_2_code 13 = .ok (.aload_n 0, 1) := by decide +kernel
theorem d6_14 : decode prog_26_method_2_code 14 = .ok (.getfield 7, 3) := by decide +kernel
theorem d6_17 : decode prog_26_method_2_code 17 = .ok (.aload_n 0, 1) := by decide +kernel
theorem d6_18 : decode prog_26_method_2_code 18 = .ok (.getfield 16, 3) := by decide +kernel
theorem d6_21 : decode prog_26_method_2_code 21 = .ok (.iconst 2, 1) := by decide +kernel
theorem d6_22 : decode prog_26_method_2_code 22 = .ok (.imul, 1) := by decide +kernel
theorem d6_23 : decode prog_26_method_2_code 23 = .ok (.invokestatic 20, 3) := by decide +kernel
theorem d6_26 : decode prog_26_method_2_code 26 = .ok (.putfield 7, 3) := by decide +kernel
theorem d6_29 : decode prog_26_method_2_code 29 = .ok (.aload_n 0, 1) := by decide +kernel
theorem d6_30 : decode prog_26_method_2_code 30 = .ok (.aload_n 0, 1) := by decide +kernel
theorem d6_31 : decode prog_26_method_2_code 31 = .ok (.getfield 13, 3) := by decide +kernel
theorem d6_34 : decode prog_26_method_2_code 34 = .ok (.aload_n 0, 1) := by decide +kernel
theorem d6_35 : decode prog_26_method_2_code 35 = .ok (.getfield 16, 3) := by decide +kernel
theorem d6_38 : decode prog_26_method_2_code 38 = .ok (.iconst 2, 1) := by decide +kernel
theorem d6_39 : decode prog_26_method_2_code 39 = .ok (.imul, 1) := by decide +kernel
theorem d6_40 : decode prog_26_method_2_code 40 = .ok (.invokestatic 20, 3) := by decide +kernel
theorem d6_43 : decode prog_26_method_2_code 43 = .ok (.putfield 13, 3) := by decide +kernel
theorem d6_46 : decode prog_26_method_2_code 46 = .ok (.aload_n 0, 1) := by decide +kernel
theorem d6_47 : decode prog_26_method_2_code 47 = .ok (.getfield 7, 3) := by decide +kernel
theorem d6_50 : decode prog_26_method_2_code 50 = .ok (.aload_n 0, 1) := by decide +kernel
theorem d6_51 : decode prog_26_method_2_code 51 = .ok (.getfield 16, 3) := by decide +kernel
theorem d6_54 : decode prog_26_method_2_code 54 = .ok (.iload_n 1, 1) := by decide +kernel
theorem d6_55 : decode prog_26_method_2_code 55 = .ok (.iastore, 1) := by decide +kernel
theorem d6_56 : decode prog_26_method_2_code 56 = .ok (.aload_n 0, 1) := by decide +kernel
theorem d6_57 : decode prog_26_method_2_code 57 = .ok (.getfield 13, 3) := by decide +kernel
theorem d6_60 : decode prog_26_method_2_code 60 = .ok (.aload_n 0, 1) := by decide +kernel
theorem d6_61 : decode prog_26_method_2_code 61 = .ok (.getfield 16, 3) := by decide +kernel
theorem d6_64 : decode prog_26_method_2_code 64 = .ok (.iload_n 2, 1) := by decide +kernel
theorem d6_65 : decode prog_26_method_2_code 65 = .ok (.iastore, 1) := by decide +kernel
theorem d6_66 : decode prog_26_method_2_code 66 = .ok (.aload_n 0, 1) := by decide +kernel
theorem d6_67 : decode prog_26_method_2_code 67 = .ok (.dup, 1) := by decide +kernel
theorem d6_68 : decode prog_26_method_2_code 68 = .ok (.getfield 16, 3) := by decide +kernel
theorem d6_71 : decode prog_26_method_2_code 71 = .ok (.iconst 1, 1) := by decide +kernel
theorem d6_72 : decode prog_26_method_2_code 72 = .ok (.iadd, 1) := by decide +kernel
theorem d6_73 : decode prog_26_method_2_code 73 = .ok (.putfield 16, 3) := by decide +kernel
theorem d6_76 : decode prog_26_method_2_code 76 = .ok (.aload_n 0, 1) := by decide +kernel
theorem d6_77 : decode prog_26_method_2_code 77 = .ok (.dup, 1) := by decide +kernel
theorem d6_78 : decode prog_26_method_2_code 78 = .ok (.getfield 26, 3) := by decide +kernel
theorem d6_81 : decode prog_26_method_2_code 81 = .ok (.iload_n 2, 1) := by decide +kernel
theorem d6_82 : decode prog_26_method_2_code 82 = .ok (.i2l, 1) := by decide +kernel
theorem d6_83 : decode prog_26_method_2_code 83 = .ok (.ladd, 1) := by decide +kernel
theorem d6_84 : decode prog_26_method_2_code 84 = .ok (.putfield 26, 3) := by decide +kernel
theorem d6_87 : decode prog_26_method_2_code 87 = .ok (.return_, 1) := by decide +kernel
theorem ef_add_2_0 (m : MethodId) (x0 : Addr) (x1 : Int32) (x2 : Int32) : entryFrame m #[(.ref x0), (.int x1), (.int x2)] 3 = mkF m 0 #[.val (.ref x0), .val (.int x1), .val (.int x2)] [] := by first | (simp [entryFrame, mkF, argsToLocals, Value.category]; done) | rfl
def Qadd_2_0 (Z : State) (o0 : Addr) (p1 : Int32) (p2 : Int32) (w_d : Addr) (k_d : ClassId) (w_f : Addr) (k_f : ClassId) (q_c : Int64) (h0 : Heap) (n0 : Nat) (v : Option Value) (h : Heap) (L : List Loc) : Prop := v = none ∧ Fr n0 L ∧ Keep h0 h ([w_d, w_f, o0] : List Addr) ∧ Fld Z h o0 "com/example/robust_broker/robustbroker/Postings" "documents" "[I" (.ref w_d) ∧ Arv Z h w_d k_d .int (2 : Int32) [(.int p1), (.int (0 : Int32))] (.int (0 : Int32)) ∧ Fld Z h o0 "com/example/robust_broker/robustbroker/Postings" "frequencies" "[I" (.ref w_f) ∧ Arv Z h w_f k_f .int (2 : Int32) [(.int p2), (.int (0 : Int32))] (.int (0 : Int32)) ∧ Fld Z h o0 "com/example/robust_broker/robustbroker/Postings" "size" "I" (.int (1 : Int32)) ∧ Fld Z h o0 "com/example/robust_broker/robustbroker/Postings" "collectionFrequency" "J" (.long (q_c + (p2.toInt64)))
set_option maxRecDepth 65536 in
set_option maxHeartbeats 40000000 in
theorem rmadd_2_0 (l : Launch) (Z : State) (a0 : Array Value) (hw : ∀ d ∈ tables_1, d.before a0 Z = true) (ws : List Jvm.Cond) (o0 : Addr) (p1 : Int32) (p2 : Int32) (w_d : Addr) (k_d : ClassId) (w_f : Addr) (k_f : ClassId) (q_c : Int64) (h0 : Heap) (n0 : Nat) (Z0 : n0 ≤ h0.size) (F_documents : Fld Z h0 o0 "com/example/robust_broker/robustbroker/Postings" "documents" "[I" (.ref w_d)) (V_d : Arv Z h0 w_d k_d .int (2 : Int32) [(.int (0 : Int32)), (.int (0 : Int32))] (.int (0 : Int32))) (F_frequencies : Fld Z h0 o0 "com/example/robust_broker/robustbroker/Postings" "frequencies" "[I" (.ref w_f)) (V_f : Arv Z h0 w_f k_f .int (2 : Int32) [(.int (0 : Int32)), (.int (0 : Int32))] (.int (0 : Int32))) (F_size : Fld Z h0 o0 "com/example/robust_broker/robustbroker/Postings" "size" "I" (.int (0 : Int32))) (F_collectionFrequency : Fld Z h0 o0 "com/example/robust_broker/robustbroker/Postings" "collectionFrequency" "J" (.long q_c)) (ne_o0_w_d : o0 ≠ w_d) (ne_o0_w_f : o0 ≠ w_f) (ne_w_d_w_f : w_d ≠ w_f) (g_w_d : n0 ≤ w_d) (g_w_f : n0 ≤ w_f) (E_o0 : Exa Z h0 o0 "com/example/robust_broker/robustbroker/Postings") (g_o0 : n0 ≤ o0) :
    MetFree l (⟨"com/example/robust_broker/robustbroker/Postings", "add", "(II)V"⟩ : MethodName) (head1 (Jvm.Cond.code (⟨"com/example/robust_broker/robustbroker/Postings", "add", "(II)V"⟩ : MethodName) prog_26_method_2_code 3 none :: ws) ({ frames := 0, cells := 0, slots := 0, locals := 0 } : Room)) (fun a U => a = #[(.ref o0), (.int p1), (.int p2)] ∧ Z.Warmed39 U.vm ∧ U.heap = h0) (fun _ _ _ _ _ => True) (fun _ U o U' => ∃ v L, o = .returned v ∧ Qadd_2_0 Z o0 p1 p2 w_d k_d w_f k_f q_c h0 n0 v U'.heap L ∧ FrameEnd U o U' L ({ frames := 0, cells := 0, slots := 0, locals := 0 } : Room).cells ({ frames := 0, cells := 0, slots := 0, locals := 0 } : Room).slots) := by
  refine MetFree.of_bodySF (plainFor_of_name (by first | (simp [plainName, overriddenIn]; done) | decide +kernel)) hisR ?_
  intro p e s m args below meth c s₁ Bd hml0 hP hK
  obtain ⟨rfl, hZ, hh⟩ := hP
  have hx := Bd.exec
  have hby := Bd.bytes
  have hml : c.maxLocals = 3 := hml0
  have hown : s.vm.findClass "com/example/robust_broker/robustbroker/Postings" = some m.cls := findClass_of_methodNamed Bd.named
  have hnm := (name_of_methodNamed Bd.named Bd.method).1
  have hlk := BodyLoose.notSynchronized Bd
  have X0 : Stand p l e ({ frames := 0, cells := 0, slots := 0, locals := 0 } : Room) s m #[(.ref o0), (.int p1), (.int p2)] below meth c s₁ [] 0 0 := Stand.of_body Bd
  have e0 : s₁.heap = h0 := by rw [← hh, Bd.state]; rfl
  have N0 := Fr.nil n0
  show Go p e below s (Qadd_2_0 Z o0 p1 p2 w_d k_d w_f k_f q_c h0 n0) 0 0 (s₁.setTop (entryFrame m #[(.ref o0), (.int p1), (.int p2)] 3))
  rw [ef_add_2_0]
  show Go _ _ _ _ _ _ _ (s₁.setTop (mkF m 0 #[.val (.ref o0), .val (.int p1), .val (.int p2)] []))
  refine gob (fun _ k => XS.aloadN X0.here hx rfl (hb hby d6_0) rfl rfl k) ?_
  show Go _ _ _ _ _ _ _ (s₁.setTop (mkF m 1 #[.val (.ref o0), .val (.int p1), .val (.int p2)] [(.ref o0)]))
  obtain ⟨T1, X1, e1, st1⟩ := getF X0 hx hZ hown (host := "") (Or.inl (hw _ (List.mem_of_getElem? (i := 26) rfl))) Via.refl e0 F_size (g := (mkF m 1 #[.val (.ref o0), .val (.int p1), .val (.int p2)] [(.ref o0)])) rfl rfl (hb hby d6_1)
  refine gob st1 ?_
  show Go _ _ _ _ _ _ _ (T1.setTop (mkF m 4 #[.val (.ref o0), .val (.int p1), .val (.int p2)] [(.int (0 : Int32))]))
  refine gob (fun _ k => XS.aloadN X1.here hx rfl (hb hby d6_4) rfl rfl k) ?_
  show Go _ _ _ _ _ _ _ (T1.setTop (mkF m 5 #[.val (.ref o0), .val (.int p1), .val (.int p2)] [(.ref o0), (.int (0 : Int32))]))
  obtain ⟨T2, X2, e2, st2⟩ := getF X1 hx hZ hown (host := "") (Or.inl (hw _ (List.mem_of_getElem? (i := 17) rfl))) Via.refl e1 F_documents (g := (mkF m 5 #[.val (.ref o0), .val (.int p1), .val (.int p2)] [(.ref o0), (.int (0 : Int32))])) rfl rfl (hb hby d6_5)
  refine gob st2 ?_
  show Go _ _ _ _ _ _ _ (T2.setTop (mkF m 8 #[.val (.ref o0), .val (.int p1), .val (.int p2)] [(.ref w_d), (.int (0 : Int32))]))
  obtain ⟨cl3, Ar3, aq3, S3, N3, H3, G3⟩ := id V_d
  refine gob (X2.arraylength hx (by rw [e2]; exact Ar3.1) (State.isArrayOf_alike hZ.alike Ar3.2.1) (g := (mkF m 8 #[.val (.ref o0), .val (.int p1), .val (.int p2)] [(.ref w_d), (.int (0 : Int32))])) rfl rfl (hb hby d6_8)) ?_
  rw [len_of S3 N3]
  show Go _ _ _ _ _ _ _ (T2.setTop (mkF m 9 #[.val (.ref o0), .val (.int p1), .val (.int p2)] [(.int (2 : Int32)), (.int (0 : Int32))]))
  refine gob (fun _ k => XS.icmpYes X2.here hx rfl (pc0 := 9) (pc' := 46) rfl (hb hby d6_9) rfl (feq (by decide : ¬ ((0 : Int32) = (2 : Int32)))).2 (by decide) (by decide) k) ?_
  show Go _ _ _ _ _ _ _ (T2.setTop (mkF m 46 #[.val (.ref o0), .val (.int p1), .val (.int p2)] []))
  refine gob (fun _ k => XS.aloadN X2.here hx rfl (hb hby d6_46) rfl rfl k) ?_
  show Go _ _ _ _ _ _ _ (T2.setTop (mkF m 47 #[.val (.ref o0), .val (.int p1), .val (.int p2)] [(.ref o0)]))
  obtain ⟨T4, X4, e4, st4⟩ := getF X2 hx hZ hown (host := "") (Or.inl (hw _ (List.mem_of_getElem? (i := 17) rfl))) Via.refl e2 F_documents (g := (mkF m 47 #[.val (.ref o0), .val (.int p1), .val (.int p2)] [(.ref o0)])) rfl rfl (hb hby d6_47)
  refine gob st4 ?_
  show Go _ _ _ _ _ _ _ (T4.setTop (mkF m 50 #[.val (.ref o0), .val (.int p1), .val (.int p2)] [(.ref w_d)]))
  refine gob (fun _ k => XS.aloadN X4.here hx rfl (hb hby d6_50) rfl rfl k) ?_
  show Go _ _ _ _ _ _ _ (T4.setTop (mkF m 51 #[.val (.ref o0), .val (.int p1), .val (.int p2)] [(.ref o0), (.ref w_d)]))
  obtain ⟨T5, X5, e5, st5⟩ := getF X4 hx hZ hown (host := "") (Or.inl (hw _ (List.mem_of_getElem? (i := 26) rfl))) Via.refl e4 F_size (g := (mkF m 51 #[.val (.ref o0), .val (.int p1), .val (.int p2)] [(.ref o0), (.ref w_d)])) rfl rfl (hb hby d6_51)
  refine gob st5 ?_
  show Go _ _ _ _ _ _ _ (T5.setTop (mkF m 54 #[.val (.ref o0), .val (.int p1), .val (.int p2)] [(.int (0 : Int32)), (.ref w_d)]))
  refine gob (fun _ k => XS.iloadN X5.here hx rfl (hb hby d6_54) rfl k) ?_
  show Go _ _ _ _ _ _ _ (T5.setTop (mkF m 55 #[.val (.ref o0), .val (.int p1), .val (.int p2)] [(.int p1), (.int (0 : Int32)), (.ref w_d)]))
  obtain ⟨cl6, Ar6, aq6, S6, N6, H6, G6⟩ := id V_d
  have hin6 : ¬ ((0 : Int32) < 0 ∨ cl6.slots.size ≤ ((0 : Int32)).toNatClampNeg) := inb_of S6 ⟨by decide, by decide⟩
  obtain ⟨T7, h7, X7, e7, W7, st7⟩ := stI X5 hx hZ e5 Ar6 (j := (0 : Int32)) hin6 (g := (mkF m 55 #[.val (.ref o0), .val (.int p1), .val (.int p2)] [(.int p1), (.int (0 : Int32)), (.ref w_d)])) rfl rfl (hb hby d6_55)
  refine gob st7 ?_
  have z8 : n0 ≤ h7.size := Nat.le_trans Z0 (Keep.of_wr W7).1
  have N7 := Fr.snoc X7 N0 g_w_d
  have K9 : Keep h0 h7 ([w_d, w_f, o0] : List Addr) := (Keep.refl h0 ([w_d, w_f, o0] : List Addr)).wr W7 (Or.inl (List.mem_of_getElem? (i := 0) rfl))
  have V7 : Arv Z h7 w_d k_d .int (2 : Int32) [(.int p1), (.int (0 : Int32))] (.int (0 : Int32)) := Arv.set Ar6 aq6 S6 N6 H6 G6 rfl W7 0 rfl (Nat.le_of_ble_eq_true rfl)
  show Go _ _ _ _ _ _ _ (T7.setTop (mkF m 56 #[.val (.ref o0), .val (.int p1), .val (.int p2)] []))
  refine gob (fun _ k => XS.aloadN X7.here hx rfl (hb hby d6_56) rfl rfl k) ?_
  show Go _ _ _ _ _ _ _ (T7.setTop (mkF m 57 #[.val (.ref o0), .val (.int p1), .val (.int p2)] [(.ref o0)]))
  have c10 := (F_frequencies.other W7 (Or.inl ne_o0_w_d))
  obtain ⟨T11, X11, e11, st11⟩ := getF X7 hx hZ hown (host := "") (Or.inl (hw _ (List.mem_of_getElem? (i := 19) rfl))) Via.refl e7 c10 (g := (mkF m 57 #[.val (.ref o0), .val (.int p1), .val (.int p2)] [(.ref o0)])) rfl rfl (hb hby d6_57)
  refine gob st11 ?_
  show Go _ _ _ _ _ _ _ (T11.setTop (mkF m 60 #[.val (.ref o0), .val (.int p1), .val (.int p2)] [(.ref w_f)]))
  refine gob (fun _ k => XS.aloadN X11.here hx rfl (hb hby d6_60) rfl rfl k) ?_
  show Go _ _ _ _ _ _ _ (T11.setTop (mkF m 61 #[.val (.ref o0), .val (.int p1), .val (.int p2)] [(.ref o0), (.ref w_f)]))
  have c12 := (F_size.other W7 (Or.inl ne_o0_w_d))
  obtain ⟨T13, X13, e13, st13⟩ := getF X11 hx hZ hown (host := "") (Or.inl (hw _ (List.mem_of_getElem? (i := 26) rfl))) Via.refl e11 c12 (g := (mkF m 61 #[.val (.ref o0), .val (.int p1), .val (.int p2)] [(.ref o0), (.ref w_f)])) rfl rfl (hb hby d6_61)
  refine gob st13 ?_
  show Go _ _ _ _ _ _ _ (T13.setTop (mkF m 64 #[.val (.ref o0), .val (.int p1), .val (.int p2)] [(.int (0 : Int32)), (.ref w_f)]))
  refine gob (fun _ k => XS.iloadN X13.here hx rfl (hb hby d6_64) rfl k) ?_
  show Go _ _ _ _ _ _ _ (T13.setTop (mkF m 65 #[.val (.ref o0), .val (.int p1), .val (.int p2)] [(.int p2), (.int (0 : Int32)), (.ref w_f)]))
  have c15 := (V_f.other W7 (Ne.symm ne_w_d_w_f))
  obtain ⟨cl14, Ar14, aq14, S14, N14, H14, G14⟩ := id c15
  have hin14 : ¬ ((0 : Int32) < 0 ∨ cl14.slots.size ≤ ((0 : Int32)).toNatClampNeg) := inb_of S14 ⟨by decide, by decide⟩
  obtain ⟨T16, h16, X16, e16, W16, st16⟩ := stI X13 hx hZ e13 Ar14 (j := (0 : Int32)) hin14 (g := (mkF m 65 #[.val (.ref o0), .val (.int p1), .val (.int p2)] [(.int p2), (.int (0 : Int32)), (.ref w_f)])) rfl rfl (hb hby d6_65)
  refine gob st16 ?_
  have z17 : n0 ≤ h16.size := Nat.le_trans z8 (Keep.of_wr W16).1
  have N16 := Fr.snoc X16 N7 g_w_f
  have K18 : Keep h0 h16 ([w_d, w_f, o0] : List Addr) := K9.wr W16 (Or.inl (List.mem_of_getElem? (i := 1) rfl))
  have V16 : Arv Z h16 w_f k_f .int (2 : Int32) [(.int p2), (.int (0 : Int32))] (.int (0 : Int32)) := Arv.set Ar14 aq14 S14 N14 H14 G14 rfl W16 0 rfl (Nat.le_of_ble_eq_true rfl)
  show Go _ _ _ _ _ _ _ (T16.setTop (mkF m 66 #[.val (.ref o0), .val (.int p1), .val (.int p2)] []))
  refine gob (fun _ k => XS.aloadN X16.here hx rfl (hb hby d6_66) rfl rfl k) ?_
  show Go _ _ _ _ _ _ _ (T16.setTop (mkF m 67 #[.val (.ref o0), .val (.int p1), .val (.int p2)] [(.ref o0)]))
  refine gob (fun _ k => XS.dup X16.here hx rfl (hb hby d6_67) rfl rfl k) ?_
  show Go _ _ _ _ _ _ _ (T16.setTop (mkF m 68 #[.val (.ref o0), .val (.int p1), .val (.int p2)] [(.ref o0), (.ref o0)]))
  have c19 := (c12.other W16 (Or.inl ne_o0_w_f))
  obtain ⟨T20, X20, e20, st20⟩ := getF X16 hx hZ hown (host := "") (Or.inl (hw _ (List.mem_of_getElem? (i := 26) rfl))) Via.refl e16 c19 (g := (mkF m 68 #[.val (.ref o0), .val (.int p1), .val (.int p2)] [(.ref o0), (.ref o0)])) rfl rfl (hb hby d6_68)
  refine gob st20 ?_
  show Go _ _ _ _ _ _ _ (T20.setTop (mkF m 71 #[.val (.ref o0), .val (.int p1), .val (.int p2)] [(.int (0 : Int32)), (.ref o0)]))
  refine gob (fun _ k => XS.iconst X20.here hx rfl (hb hby d6_71) k) ?_
  show Go _ _ _ _ _ _ _ (T20.setTop (mkF m 72 #[.val (.ref o0), .val (.int p1), .val (.int p2)] [(.int (1 : Int32)), (.int (0 : Int32)), (.ref o0)]))
  refine gob (fun _ k => XS.iadd X20.here hx rfl (hb hby d6_72) rfl k) ?_
  show Go _ _ _ _ _ _ _ (T20.setTop (mkF m 73 #[.val (.ref o0), .val (.int p1), .val (.int p2)] [(.int (1 : Int32)), (.ref o0)]))
  have c21 := ((E_o0.wr W7).wr W16)
  obtain ⟨T22, h22, X22, e22, W22, st22⟩ := putF X20 hx hZ hown (host := "") (Or.inl (hw _ (List.mem_of_getElem? (i := 26) rfl))) Via.refl e20 c19 c21 (Or.inl (hw _ (List.mem_of_getElem? (i := 27) rfl))) (hw _ (List.mem_of_getElem? (i := 9) rfl)) (ty := .int) (by decide) rfl rfl (g := (mkF m 73 #[.val (.ref o0), .val (.int p1), .val (.int p2)] [(.int (1 : Int32)), (.ref o0)])) rfl rfl (hb hby d6_73)
  refine gob st22 ?_
  have z23 : n0 ≤ h22.size := Nat.le_trans z17 (Keep.of_wr W22).1
  have N22 := Fr.snoc X22 N16 g_o0
  have K24 : Keep h0 h22 ([w_d, w_f, o0] : List Addr) := K18.wr W22 (Or.inl (List.mem_of_getElem? (i := 2) rfl))
  have Fw22 := c19.same W22
  show Go _ _ _ _ _ _ _ (T22.setTop (mkF m 76 #[.val (.ref o0), .val (.int p1), .val (.int p2)] []))
  refine gob (fun _ k => XS.aloadN X22.here hx rfl (hb hby d6_76) rfl rfl k) ?_
  show Go _ _ _ _ _ _ _ (T22.setTop (mkF m 77 #[.val (.ref o0), .val (.int p1), .val (.int p2)] [(.ref o0)]))
  refine gob (fun _ k => XS.dup X22.here hx rfl (hb hby d6_77) rfl rfl k) ?_
  show Go _ _ _ _ _ _ _ (T22.setTop (mkF m 78 #[.val (.ref o0), .val (.int p1), .val (.int p2)] [(.ref o0), (.ref o0)]))
  have c25 := (((F_collectionFrequency.other W7 (Or.inl ne_o0_w_d)).other W16 (Or.inl ne_o0_w_f)).other W22 (Or.inr (slot_ne (Or.inl (hw _ (List.mem_of_getElem? (i := 34) rfl))) (Or.inl (hw _ (List.mem_of_getElem? (i := 27) rfl))) (by decide) (t := .long) (t' := .int) (by decide) (by decide))))
  obtain ⟨T26, X26, e26, st26⟩ := getF X22 hx hZ hown (host := "") (Or.inl (hw _ (List.mem_of_getElem? (i := 33) rfl))) Via.refl e22 c25 (g := (mkF m 78 #[.val (.ref o0), .val (.int p1), .val (.int p2)] [(.ref o0), (.ref o0)])) rfl rfl (hb hby d6_78)
  refine gob st26 ?_
  show Go _ _ _ _ _ _ _ (T26.setTop (mkF m 81 #[.val (.ref o0), .val (.int p1), .val (.int p2)] [(.long q_c), (.ref o0)]))
  refine gob (fun _ k => XS.iloadN X26.here hx rfl (hb hby d6_81) rfl k) ?_
  show Go _ _ _ _ _ _ _ (T26.setTop (mkF m 82 #[.val (.ref o0), .val (.int p1), .val (.int p2)] [(.int p2), (.long q_c), (.ref o0)]))
  refine gob (fun _ k => XS.i2l X26.here hx rfl (hb hby d6_82) rfl k) ?_
  show Go _ _ _ _ _ _ _ (T26.setTop (mkF m 83 #[.val (.ref o0), .val (.int p1), .val (.int p2)] [(.long (p2.toInt64)), (.long q_c), (.ref o0)]))
  refine gob (fun _ k => XS.ladd X26.here hx rfl (hb hby d6_83) rfl k) ?_
  show Go _ _ _ _ _ _ _ (T26.setTop (mkF m 84 #[.val (.ref o0), .val (.int p1), .val (.int p2)] [(.long (q_c + (p2.toInt64))), (.ref o0)]))
  have c27 := (c21.wr W22)
  obtain ⟨T28, h28, X28, e28, W28, st28⟩ := putF X26 hx hZ hown (host := "") (Or.inl (hw _ (List.mem_of_getElem? (i := 33) rfl))) Via.refl e26 c25 c27 (Or.inl (hw _ (List.mem_of_getElem? (i := 34) rfl))) (hw _ (List.mem_of_getElem? (i := 9) rfl)) (ty := .long) (by decide) rfl rfl (g := (mkF m 84 #[.val (.ref o0), .val (.int p1), .val (.int p2)] [(.long (q_c + (p2.toInt64))), (.ref o0)])) rfl rfl (hb hby d6_84)
  refine gob st28 ?_
  have z29 : n0 ≤ h28.size := Nat.le_trans z23 (Keep.of_wr W28).1
  have N28 := Fr.snoc X28 N22 g_o0
  have K30 : Keep h0 h28 ([w_d, w_f, o0] : List Addr) := K24.wr W28 (Or.inl (List.mem_of_getElem? (i := 2) rfl))
  have Fw28 := c25.same W28
  show Go _ _ _ _ _ _ _ (T28.setTop (mkF m 87 #[.val (.ref o0), .val (.int p1), .val (.int p2)] []))
  refine goV X28 hx hlk Bd.returns (hb hby d6_87) ?_ (by decide) (by decide)
  show Qadd_2_0 Z o0 p1 p2 w_d k_d w_f k_f q_c h0 n0 (none) T28.heap _
  have c31 := ((((F_documents.other W7 (Or.inl ne_o0_w_d)).other W16 (Or.inl ne_o0_w_f)).other W22 (Or.inr (slot_ne (Or.inl (hw _ (List.mem_of_getElem? (i := 18) rfl))) (Or.inl (hw _ (List.mem_of_getElem? (i := 27) rfl))) (by decide) (t := (.array .int)) (t' := .int) (by decide) (by decide)))).other W28 (Or.inr (slot_ne (Or.inl (hw _ (List.mem_of_getElem? (i := 18) rfl))) (Or.inl (hw _ (List.mem_of_getElem? (i := 34) rfl))) (by decide) (t := (.array .int)) (t' := .long) (by decide) (by decide))))
  have c32 := (((V7.other W16 ne_w_d_w_f).other W22 (Ne.symm ne_o0_w_d)).other W28 (Ne.symm ne_o0_w_d))
  have c33 := (((c10.other W16 (Or.inl ne_o0_w_f)).other W22 (Or.inr (slot_ne (Or.inl (hw _ (List.mem_of_getElem? (i := 20) rfl))) (Or.inl (hw _ (List.mem_of_getElem? (i := 27) rfl))) (by decide) (t := (.array .int)) (t' := .int) (by decide) (by decide)))).other W28 (Or.inr (slot_ne (Or.inl (hw _ (List.mem_of_getElem? (i := 20) rfl))) (Or.inl (hw _ (List.mem_of_getElem? (i := 34) rfl))) (by decide) (t := (.array .int)) (t' := .long) (by decide) (by decide))))
  have c34 := ((V16.other W22 (Ne.symm ne_o0_w_f)).other W28 (Ne.symm ne_o0_w_f))
  have c35 := (Fw22.other W28 (Or.inr (slot_ne (Or.inl (hw _ (List.mem_of_getElem? (i := 27) rfl))) (Or.inl (hw _ (List.mem_of_getElem? (i := 34) rfl))) (by decide) (t := .int) (t' := .long) (by decide) (by decide))))
  rw [e28]
  exact ⟨rfl, N28, K30, c31, c32, c33, c34, c35, Fw28⟩
theorem ef_add_2_1 (m : MethodId) (x0 : Addr) (x1 : Int32) (x2 : Int32) : entryFrame m #[(.ref x0), (.int x1), (.int x2)] 3 = mkF m 0 #[.val (.ref x0), .val (.int x1), .val (.int x2)] [] := by first | (simp [entryFrame, mkF, argsToLocals, Value.category]; done) | rfl
def Qadd_2_1 (Z : State) (o0 : Addr) (p1 : Int32) (p2 : Int32) (w_d : Addr) (k_d : ClassId) (d0 : Int32) (w_f : Addr) (k_f : ClassId) (f0 : Int32) (q_c : Int64) (h0 : Heap) (n0 : Nat) (v : Option Value) (h : Heap) (L : List Loc) : Prop := v = none ∧ Fr n0 L ∧ Keep h0 h ([w_d, w_f, o0] : List Addr) ∧ Fld Z h o0 "com/example/robust_broker/robustbroker/Postings" "documents" "[I" (.ref w_d) ∧ Arv Z h w_d k_d .int (2 : Int32) [(.int d0), (.int p1)] (.int (0 : Int32)) ∧ Fld Z h o0 "com/example/robust_broker/robustbroker/Postings" "frequencies" "[I" (.ref w_f) ∧ Arv Z h w_f k_f .int (2 : Int32) [(.int f0), (.int p2)] (.int (0 : Int32)) ∧ Fld Z h o0 "com/example/robust_broker/robustbroker/Postings" "size" "I" (.int (2 : Int32)) ∧ Fld Z h o0 "com/example/robust_broker/robustbroker/Postings" "collectionFrequency" "J" (.long (q_c + (p2.toInt64)))
set_option maxRecDepth 65536 in
set_option maxHeartbeats 40000000 in
theorem rmadd_2_1 (l : Launch) (Z : State) (a0 : Array Value) (hw : ∀ d ∈ tables_1, d.before a0 Z = true) (ws : List Jvm.Cond) (o0 : Addr) (p1 : Int32) (p2 : Int32) (w_d : Addr) (k_d : ClassId) (d0 : Int32) (w_f : Addr) (k_f : ClassId) (f0 : Int32) (q_c : Int64) (h0 : Heap) (n0 : Nat) (Z0 : n0 ≤ h0.size) (F_documents : Fld Z h0 o0 "com/example/robust_broker/robustbroker/Postings" "documents" "[I" (.ref w_d)) (V_d : Arv Z h0 w_d k_d .int (2 : Int32) [(.int d0), (.int (0 : Int32))] (.int (0 : Int32))) (F_frequencies : Fld Z h0 o0 "com/example/robust_broker/robustbroker/Postings" "frequencies" "[I" (.ref w_f)) (V_f : Arv Z h0 w_f k_f .int (2 : Int32) [(.int f0), (.int (0 : Int32))] (.int (0 : Int32))) (F_size : Fld Z h0 o0 "com/example/robust_broker/robustbroker/Postings" "size" "I" (.int (1 : Int32))) (F_collectionFrequency : Fld Z h0 o0 "com/example/robust_broker/robustbroker/Postings" "collectionFrequency" "J" (.long q_c)) (ne_o0_w_d : o0 ≠ w_d) (ne_o0_w_f : o0 ≠ w_f) (ne_w_d_w_f : w_d ≠ w_f) (g_w_d : n0 ≤ w_d) (g_w_f : n0 ≤ w_f) (E_o0 : Exa Z h0 o0 "com/example/robust_broker/robustbroker/Postings") (g_o0 : n0 ≤ o0) :
    MetFree l (⟨"com/example/robust_broker/robustbroker/Postings", "add", "(II)V"⟩ : MethodName) (head1 (Jvm.Cond.code (⟨"com/example/robust_broker/robustbroker/Postings", "add", "(II)V"⟩ : MethodName) prog_26_method_2_code 3 none :: ws) ({ frames := 0, cells := 0, slots := 0, locals := 0 } : Room)) (fun a U => a = #[(.ref o0), (.int p1), (.int p2)] ∧ Z.Warmed39 U.vm ∧ U.heap = h0) (fun _ _ _ _ _ => True) (fun _ U o U' => ∃ v L, o = .returned v ∧ Qadd_2_1 Z o0 p1 p2 w_d k_d d0 w_f k_f f0 q_c h0 n0 v U'.heap L ∧ FrameEnd U o U' L ({ frames := 0, cells := 0, slots := 0, locals := 0 } : Room).cells ({ frames := 0, cells := 0, slots := 0, locals := 0 } : Room).slots) := by
  refine MetFree.of_bodySF (plainFor_of_name (by first | (simp [plainName, overriddenIn]; done) | decide +kernel)) hisR ?_
  intro p e s m args below meth c s₁ Bd hml0 hP hK
  obtain ⟨rfl, hZ, hh⟩ := hP
  have hx := Bd.exec
  have hby := Bd.bytes
  have hml : c.maxLocals = 3 := hml0
  have hown : s.vm.findClass "com/example/robust_broker/robustbroker/Postings" = some m.cls := findClass_of_methodNamed Bd.named
  have hnm := (name_of_methodNamed Bd.named Bd.method).1
  have hlk := BodyLoose.notSynchronized Bd
  have X0 : Stand p l e ({ frames := 0, cells := 0, slots := 0, locals := 0 } : Room) s m #[(.ref o0), (.int p1), (.int p2)] below meth c s₁ [] 0 0 := Stand.of_body Bd
  have e0 : s₁.heap = h0 := by rw [← hh, Bd.state]; rfl
  have N0 := Fr.nil n0
  show Go p e below s (Qadd_2_1 Z o0 p1 p2 w_d k_d d0 w_f k_f f0 q_c h0 n0) 0 0 (s₁.setTop (entryFrame m #[(.ref o0), (.int p1), (.int p2)] 3))
  rw [ef_add_2_1]
  show Go _ _ _ _ _ _ _ (s₁.setTop (mkF m 0 #[.val (.ref o0), .val (.int p1), .val (.int p2)] []))
  refine gob (fun _ k => XS.aloadN X0.here hx rfl (hb hby d6_0) rfl rfl k) ?_
  show Go _ _ _ _ _ _ _ (s₁.setTop (mkF m 1 #[.val (.ref o0), .val (.int p1), .val (.int p2)] [(.ref o0)]))
  obtain ⟨T1, X1, e1, st1⟩ := getF X0 hx hZ hown (host := "") (Or.inl (hw _ (List.mem_of_getElem? (i := 26) rfl))) Via.refl e0 F_size (g := (mkF m 1 #[.val (.ref o0), .val (.int p1), .val (.int p2)] [(.ref o0)])) rfl rfl (hb hby d6_1)
  refine gob st1 ?_
  show Go _ _ _ _ _ _ _ (T1.setTop (mkF m 4 #[.val (.ref o0), .val (.int p1), .val (.int p2)] [(.int (1 : Int32))]))
  refine gob (fun _ k => XS.aloadN X1.here hx rfl (hb hby d6_4) rfl rfl k) ?_
  show Go _ _ _ _ _ _ _ (T1.setTop (mkF m 5 #[.val (.ref o0), .val (.int p1), .val (.int p2)] [(.ref o0), (.int (1 : Int32))]))
  obtain ⟨T2, X2, e2, st2⟩ := getF X1 hx hZ hown (host := "") (Or.inl (hw _ (List.mem_of_getElem? (i := 17) rfl))) Via.refl e1 F_documents (g := (mkF m 5 #[.val (.ref o0), .val (.int p1), .val (.int p2)] [(.ref o0), (.int (1 : Int32))])) rfl rfl (hb hby d6_5)
  refine gob st2 ?_
  show Go _ _ _ _ _ _ _ (T2.setTop (mkF m 8 #[.val (.ref o0), .val (.int p1), .val (.int p2)] [(.ref w_d), (.int (1 : Int32))]))
  obtain ⟨cl3, Ar3, aq3, S3, N3, H3, G3⟩ := id V_d
  refine gob (X2.arraylength hx (by rw [e2]; exact Ar3.1) (State.isArrayOf_alike hZ.alike Ar3.2.1) (g := (mkF m 8 #[.val (.ref o0), .val (.int p1), .val (.int p2)] [(.ref w_d), (.int (1 : Int32))])) rfl rfl (hb hby d6_8)) ?_
  rw [len_of S3 N3]
  show Go _ _ _ _ _ _ _ (T2.setTop (mkF m 9 #[.val (.ref o0), .val (.int p1), .val (.int p2)] [(.int (2 : Int32)), (.int (1 : Int32))]))
  refine gob (fun _ k => XS.icmpYes X2.here hx rfl (pc0 := 9) (pc' := 46) rfl (hb hby d6_9) rfl (feq (by decide : ¬ ((1 : Int32) = (2 : Int32)))).2 (by decide) (by decide) k) ?_
  show Go _ _ _ _ _ _ _ (T2.setTop (mkF m 46 #[.val (.ref o0), .val (.int p1), .val (.int p2)] []))
  refine gob (fun _ k => XS.aloadN X2.here hx rfl (hb hby d6_46) rfl rfl k) ?_
  show Go _ _ _ _ _ _ _ (T2.setTop (mkF m 47 #[.val (.ref o0), .val (.int p1), .val (.int p2)] [(.ref o0)]))
  obtain ⟨T4, X4, e4, st4⟩ := getF X2 hx hZ hown (host := "") (Or.inl (hw _ (List.mem_of_getElem? (i := 17) rfl))) Via.refl e2 F_documents (g := (mkF m 47 #[.val (.ref o0), .val (.int p1), .val (.int p2)] [(.ref o0)])) rfl rfl (hb hby d6_47)
  refine gob st4 ?_
  show Go _ _ _ _ _ _ _ (T4.setTop (mkF m 50 #[.val (.ref o0), .val (.int p1), .val (.int p2)] [(.ref w_d)]))
  refine gob (fun _ k => XS.aloadN X4.here hx rfl (hb hby d6_50) rfl rfl k) ?_
  show Go _ _ _ _ _ _ _ (T4.setTop (mkF m 51 #[.val (.ref o0), .val (.int p1), .val (.int p2)] [(.ref o0), (.ref w_d)]))
  obtain ⟨T5, X5, e5, st5⟩ := getF X4 hx hZ hown (host := "") (Or.inl (hw _ (List.mem_of_getElem? (i := 26) rfl))) Via.refl e4 F_size (g := (mkF m 51 #[.val (.ref o0), .val (.int p1), .val (.int p2)] [(.ref o0), (.ref w_d)])) rfl rfl (hb hby d6_51)
  refine gob st5 ?_
  show Go _ _ _ _ _ _ _ (T5.setTop (mkF m 54 #[.val (.ref o0), .val (.int p1), .val (.int p2)] [(.int (1 : Int32)), (.ref w_d)]))
  refine gob (fun _ k => XS.iloadN X5.here hx rfl (hb hby d6_54) rfl k) ?_
  show Go _ _ _ _ _ _ _ (T5.setTop (mkF m 55 #[.val (.ref o0), .val (.int p1), .val (.int p2)] [(.int p1), (.int (1 : Int32)), (.ref w_d)]))
  obtain ⟨cl6, Ar6, aq6, S6, N6, H6, G6⟩ := id V_d
  have hin6 : ¬ ((1 : Int32) < 0 ∨ cl6.slots.size ≤ ((1 : Int32)).toNatClampNeg) := inb_of S6 ⟨by decide, by decide⟩
  obtain ⟨T7, h7, X7, e7, W7, st7⟩ := stI X5 hx hZ e5 Ar6 (j := (1 : Int32)) hin6 (g := (mkF m 55 #[.val (.ref o0), .val (.int p1), .val (.int p2)] [(.int p1), (.int (1 : Int32)), (.ref w_d)])) rfl rfl (hb hby d6_55)
  refine gob st7 ?_
  have z8 : n0 ≤ h7.size := Nat.le_trans Z0 (Keep.of_wr W7).1
  have N7 := Fr.snoc X7 N0 g_w_d
  have K9 : Keep h0 h7 ([w_d, w_f, o0] : List Addr) := (Keep.refl h0 ([w_d, w_f, o0] : List Addr)).wr W7 (Or.inl (List.mem_of_getElem? (i := 0) rfl))
  have V7 : Arv Z h7 w_d k_d .int (2 : Int32) [(.int d0), (.int p1)] (.int (0 : Int32)) := Arv.set Ar6 aq6 S6 N6 H6 G6 rfl W7 1 rfl (Nat.le_of_ble_eq_true rfl)
  show Go _ _ _ _ _ _ _ (T7.setTop (mkF m 56 #[.val (.ref o0), .val (.int p1), .val (.int p2)] []))
  refine gob (fun _ k => XS.aloadN X7.here hx rfl (hb hby d6_56) rfl rfl k) ?_
  show Go _ _ _ _ _ _ _ (T7.setTop (mkF m 57 #[.val (.ref o0), .val (.int p1), .val (.int p2)] [(.ref o0)]))
  have c10 := (F_frequencies.other W7 (Or.inl ne_o0_w_d))
  obtain ⟨T11, X11, e11, st11⟩ := getF X7 hx hZ hown (host := "") (Or.inl (hw _ (List.mem_of_getElem? (i := 19) rfl))) Via.refl e7 c10 (g := (mkF m 57 #[.val (.ref o0), .val (.int p1), .val (.int p2)] [(.ref o0)])) rfl rfl (hb hby d6_57)
  refine gob st11 ?_
  show Go _ _ _ _ _ _ _ (T11.setTop (mkF m 60 #[.val (.ref o0), .val (.int p1), .val (.int p2)] [(.ref w_f)]))
  refine gob (fun _ k => XS.aloadN X11.here hx rfl (hb hby d6_60) rfl rfl k) ?_
  show Go _ _ _ _ _ _ _ (T11.setTop (mkF m 61 #[.val (.ref o0), .val (.int p1), .val (.int p2)] [(.ref o0), (.ref w_f)]))
  have c12 := (F_size.other W7 (Or.inl ne_o0_w_d))
  obtain ⟨T13, X13, e13, st13⟩ := getF X11 hx hZ hown (host := "") (Or.inl (hw _ (List.mem_of_getElem? (i := 26) rfl))) Via.refl e11 c12 (g := (mkF m 61 #[.val (.ref o0), .val (.int p1), .val (.int p2)] [(.ref o0), (.ref w_f)])) rfl rfl (hb hby d6_61)
  refine gob st13 ?_
  show Go _ _ _ _ _ _ _ (T13.setTop (mkF m 64 #[.val (.ref o0), .val (.int p1), .val (.int p2)] [(.int (1 : Int32)), (.ref w_f)]))
  refine gob (fun _ k => XS.iloadN X13.here hx rfl (hb hby d6_64) rfl k) ?_
  show Go _ _ _ _ _ _ _ (T13.setTop (mkF m 65 #[.val (.ref o0), .val (.int p1), .val (.int p2)] [(.int p2), (.int (1 : Int32)), (.ref w_f)]))
  have c15 := (V_f.other W7 (Ne.symm ne_w_d_w_f))
  obtain ⟨cl14, Ar14, aq14, S14, N14, H14, G14⟩ := id c15
  have hin14 : ¬ ((1 : Int32) < 0 ∨ cl14.slots.size ≤ ((1 : Int32)).toNatClampNeg) := inb_of S14 ⟨by decide, by decide⟩
  obtain ⟨T16, h16, X16, e16, W16, st16⟩ := stI X13 hx hZ e13 Ar14 (j := (1 : Int32)) hin14 (g := (mkF m 65 #[.val (.ref o0), .val (.int p1), .val (.int p2)] [(.int p2), (.int (1 : Int32)), (.ref w_f)])) rfl rfl (hb hby d6_65)
  refine gob st16 ?_
  have z17 : n0 ≤ h16.size := Nat.le_trans z8 (Keep.of_wr W16).1
  have N16 := Fr.snoc X16 N7 g_w_f
  have K18 : Keep h0 h16 ([w_d, w_f, o0] : List Addr) := K9.wr W16 (Or.inl (List.mem_of_getElem? (i := 1) rfl))
  have V16 : Arv Z h16 w_f k_f .int (2 : Int32) [(.int f0), (.int p2)] (.int (0 : Int32)) := Arv.set Ar14 aq14 S14 N14 H14 G14 rfl W16 1 rfl (Nat.le_of_ble_eq_true rfl)
  show Go _ _ _ _ _ _ _ (T16.setTop (mkF m 66 #[.val (.ref o0), .val (.int p1), .val (.int p2)] []))
  refine gob (fun _ k => XS.aloadN X16.here hx rfl (hb hby d6_66) rfl rfl k) ?_
  show Go _ _ _ _ _ _ _ (T16.setTop (mkF m 67 #[.val (.ref o0), .val (.int p1), .val (.int p2)] [(.ref o0)]))
  refine gob (fun _ k => XS.dup X16.here hx rfl (hb hby d6_67) rfl rfl k) ?_
  show Go _ _ _ _ _ _ _ (T16.setTop (mkF m 68 #[.val (.ref o0), .val (.int p1), .val (.int p2)] [(.ref o0), (.ref o0)]))
  have c19 := (c12.other W16 (Or.inl ne_o0_w_f))
  obtain ⟨T20, X20, e20, st20⟩ := getF X16 hx hZ hown (host := "") (Or.inl (hw _ (List.mem_of_getElem? (i := 26) rfl))) Via.refl e16 c19 (g := (mkF m 68 #[.val (.ref o0), .val (.int p1), .val (.int p2)] [(.ref o0), (.ref o0)])) rfl rfl (hb hby d6_68)
  refine gob st20 ?_
  show Go _ _ _ _ _ _ _ (T20.setTop (mkF m 71 #[.val (.ref o0), .val (.int p1), .val (.int p2)] [(.int (1 : Int32)), (.ref o0)]))
  refine gob (fun _ k => XS.iconst X20.here hx rfl (hb hby d6_71) k) ?_
  show Go _ _ _ _ _ _ _ (T20.setTop (mkF m 72 #[.val (.ref o0), .val (.int p1), .val (.int p2)] [(.int (1 : Int32)), (.int (1 : Int32)), (.ref o0)]))
  refine gob (fun _ k => XS.iadd X20.here hx rfl (hb hby d6_72) rfl k) ?_
  show Go _ _ _ _ _ _ _ (T20.setTop (mkF m 73 #[.val (.ref o0), .val (.int p1), .val (.int p2)] [(.int (2 : Int32)), (.ref o0)]))
  have c21 := ((E_o0.wr W7).wr W16)
  obtain ⟨T22, h22, X22, e22, W22, st22⟩ := putF X20 hx hZ hown (host := "") (Or.inl (hw _ (List.mem_of_getElem? (i := 26) rfl))) Via.refl e20 c19 c21 (Or.inl (hw _ (List.mem_of_getElem? (i := 27) rfl))) (hw _ (List.mem_of_getElem? (i := 9) rfl)) (ty := .int) (by decide) rfl rfl (g := (mkF m 73 #[.val (.ref o0), .val (.int p1), .val (.int p2)] [(.int (2 : Int32)), (.ref o0)])) rfl rfl (hb hby d6_73)
  refine gob st22 ?_
  have z23 : n0 ≤ h22.size := Nat.le_trans z17 (Keep.of_wr W22).1
  have N22 := Fr.snoc X22 N16 g_o0
  have K24 : Keep h0 h22 ([w_d, w_f, o0] : List Addr) := K18.wr W22 (Or.inl (List.mem_of_getElem? (i := 2) rfl))
  have Fw22 := c19.same W22
  show Go _ _ _ _ _ _ _ (T22.setTop (mkF m 76 #[.val (.ref o0), .val (.int p1), .val (.int p2)] []))
  refine gob (fun _ k => XS.aloadN X22.here hx rfl (hb hby d6_76) rfl rfl k) ?_
  show Go _ _ _ _ _ _ _ (T22.setTop (mkF m 77 #[.val (.ref o0), .val (.int p1), .val (.int p2)] [(.ref o0)]))
  refine gob (fun _ k => XS.dup X22.here hx rfl (hb hby d6_77) rfl rfl k) ?_
  show Go _ _ _ _ _ _ _ (T22.setTop (mkF m 78 #[.val (.ref o0), .val (.int p1), .val (.int p2)] [(.ref o0), (.ref o0)]))
  have c25 := (((F_collectionFrequency.other W7 (Or.inl ne_o0_w_d)).other W16 (Or.inl ne_o0_w_f)).other W22 (Or.inr (slot_ne (Or.inl (hw _ (List.mem_of_getElem? (i := 34) rfl))) (Or.inl (hw _ (List.mem_of_getElem? (i := 27) rfl))) (by decide) (t := .long) (t' := .int) (by decide) (by decide))))
  obtain ⟨T26, X26, e26, st26⟩ := getF X22 hx hZ hown (host := "") (Or.inl (hw _ (List.mem_of_getElem? (i := 33) rfl))) Via.refl e22 c25 (g := (mkF m 78 #[.val (.ref o0), .val (.int p1), .val (.int p2)] [(.ref o0), (.ref o0)])) rfl rfl (hb hby d6_78)
  refine gob st26 ?_
  show Go _ _ _ _ _ _ _ (T26.setTop (mkF m 81 #[.val (.ref o0), .val (.int p1), .val (.int p2)] [(.long q_c), (.ref o0)]))
  refine gob (fun _ k => XS.iloadN X26.here hx rfl (hb hby d6_81) rfl k) ?_
  show Go _ _ _ _ _ _ _ (T26.setTop (mkF m 82 #[.val (.ref o0), .val (.int p1), .val (.int p2)] [(.int p2), (.long q_c), (.ref o0)]))
  refine gob (fun _ k => XS.i2l X26.here hx rfl (hb hby d6_82) rfl k) ?_
  show Go _ _ _ _ _ _ _ (T26.setTop (mkF m 83 #[.val (.ref o0), .val (.int p1), .val (.int p2)] [(.long (p2.toInt64)), (.long q_c), (.ref o0)]))
  refine gob (fun _ k => XS.ladd X26.here hx rfl (hb hby d6_83) rfl k) ?_
  show Go _ _ _ _ _ _ _ (T26.setTop (mkF m 84 #[.val (.ref o0), .val (.int p1), .val (.int p2)] [(.long (q_c + (p2.toInt64))), (.ref o0)]))
  have c27 := (c21.wr W22)
  obtain ⟨T28, h28, X28, e28, W28, st28⟩ := putF X26 hx hZ hown (host := "") (Or.inl (hw _ (List.mem_of_getElem? (i := 33) rfl))) Via.refl e26 c25 c27 (Or.inl (hw _ (List.mem_of_getElem? (i := 34) rfl))) (hw _ (List.mem_of_getElem? (i := 9) rfl)) (ty := .long) (by decide) rfl rfl (g := (mkF m 84 #[.val (.ref o0), .val (.int p1), .val (.int p2)] [(.long (q_c + (p2.toInt64))), (.ref o0)])) rfl rfl (hb hby d6_84)
  refine gob st28 ?_
  have z29 : n0 ≤ h28.size := Nat.le_trans z23 (Keep.of_wr W28).1
  have N28 := Fr.snoc X28 N22 g_o0
  have K30 : Keep h0 h28 ([w_d, w_f, o0] : List Addr) := K24.wr W28 (Or.inl (List.mem_of_getElem? (i := 2) rfl))
  have Fw28 := c25.same W28
  show Go _ _ _ _ _ _ _ (T28.setTop (mkF m 87 #[.val (.ref o0), .val (.int p1), .val (.int p2)] []))
  refine goV X28 hx hlk Bd.returns (hb hby d6_87) ?_ (by decide) (by decide)
  show Qadd_2_1 Z o0 p1 p2 w_d k_d d0 w_f k_f f0 q_c h0 n0 (none) T28.heap _
  have c31 := ((((F_documents.other W7 (Or.inl ne_o0_w_d)).other W16 (Or.inl ne_o0_w_f)).other W22 (Or.inr (slot_ne (Or.inl (hw _ (List.mem_of_getElem? (i := 18) rfl))) (Or.inl (hw _ (List.mem_of_getElem? (i := 27) rfl))) (by decide) (t := (.array .int)) (t' := .int) (by decide) (by decide)))).other W28 (Or.inr (slot_ne (Or.inl (hw _ (List.mem_of_getElem? (i := 18) rfl))) (Or.inl (hw _ (List.mem_of_getElem? (i := 34) rfl))) (by decide) (t := (.array .int)) (t' := .long) (by decide) (by decide))))
  have c32 := (((V7.other W16 ne_w_d_w_f).other W22 (Ne.symm ne_o0_w_d)).other W28 (Ne.symm ne_o0_w_d))
  have c33 := (((c10.other W16 (Or.inl ne_o0_w_f)).other W22 (Or.inr (slot_ne (Or.inl (hw _ (List.mem_of_getElem? (i := 20) rfl))) (Or.inl (hw _ (List.mem_of_getElem? (i := 27) rfl))) (by decide) (t := (.array .int)) (t' := .int) (by decide) (by decide)))).other W28 (Or.inr (slot_ne (Or.inl (hw _ (List.mem_of_getElem? (i := 20) rfl))) (Or.inl (hw _ (List.mem_of_getElem? (i := 34) rfl))) (by decide) (t := (.array .int)) (t' := .long) (by decide) (by decide))))
  have c34 := ((V16.other W22 (Ne.symm ne_o0_w_f)).other W28 (Ne.symm ne_o0_w_f))
  have c35 := (Fw22.other W28 (Or.inr (slot_ne (Or.inl (hw _ (List.mem_of_getElem? (i := 27) rfl))) (Or.inl (hw _ (List.mem_of_getElem? (i := 34) rfl))) (by decide) (t := .int) (t' := .long) (by decide) (by decide))))
  rw [e28]
  exact ⟨rfl, N28, K30, c31, c32, c33, c34, c35, Fw28⟩
theorem pd_1 : parseMethodDescriptor "([II)[I" = some ⟨[(.array .int), .int], some (.array .int)⟩ := by decide +kernel
theorem ef_add_2_2 (m : MethodId) (x0 : Addr) (x1 : Int32) (x2 : Int32) : entryFrame m #[(.ref x0), (.int x1), (.int x2)] 3 = mkF m 0 #[.val (.ref x0), .val (.int x1), .val (.int x2)] [] := by first | (simp [entryFrame, mkF, argsToLocals, Value.category]; done) | rfl
def Qadd_2_2 (Z : State) (o0 : Addr) (p1 : Int32) (p2 : Int32) (w_d : Addr) (k_d : ClassId) (d0 : Int32) (d1 : Int32) (w_f : Addr) (k_f : ClassId) (f0 : Int32) (f1 : Int32) (q_c : Int64) (h0 : Heap) (n0 : Nat) (v : Option Value) (h : Heap) (L : List Loc) : Prop := ∃ b7 : Addr, ∃ b28 : Addr, ∃ k8 : ClassId, ∃ k29 : ClassId, v = none ∧ Fr n0 L ∧ Keep h0 h ([o0] : List Addr) ∧ h0.size ≤ b7 ∧ h0.size ≤ b28 ∧ b7 ≠ b28 ∧ Fld Z h o0 "com/example/robust_broker/robustbroker/Postings" "documents" "[I" (.ref b7) ∧ Fld Z h o0 "com/example/robust_broker/robustbroker/Postings" "frequencies" "[I" (.ref b28) ∧ Fld Z h o0 "com/example/robust_broker/robustbroker/Postings" "size" "I" (.int (3 : Int32)) ∧ Fld Z h o0 "com/example/robust_broker/robustbroker/Postings" "collectionFrequency" "J" (.long (q_c + (p2.toInt64))) ∧ Arv Z h b7 k8 .int (4 : Int32) [(.int d0), (.int d1), (.int p1), (.int (0 : Int32))] (.int (0 : Int32)) ∧ Arv Z h b28 k29 .int (4 : Int32) [(.int f0), (.int f1), (.int p2), (.int (0 : Int32))] (.int (0 : Int32))
set_option maxRecDepth 65536 in
set_option maxHeartbeats 40000000 in
theorem rmadd_2_2 (l : Launch) (Z : State) (a0 : Array Value) (hw : ∀ d ∈ tables_1, d.before a0 Z = true) (ws : List Jvm.Cond) (o0 : Addr) (p1 : Int32) (p2 : Int32) (w_d : Addr) (k_d : ClassId) (d0 : Int32) (d1 : Int32) (w_f : Addr) (k_f : ClassId) (f0 : Int32) (f1 : Int32) (q_c : Int64) (h0 : Heap) (n0 : Nat) (Z0 : n0 ≤ h0.size) (F_documents : Fld Z h0 o0 "com/example/robust_broker/robustbroker/Postings" "documents" "[I" (.ref w_d)) (V_d : Arv Z h0 w_d k_d .int (2 : Int32) [(.int d0), (.int d1)] (.int (0 : Int32))) (F_frequencies : Fld Z h0 o0 "com/example/robust_broker/robustbroker/Postings" "frequencies" "[I" (.ref w_f)) (V_f : Arv Z h0 w_f k_f .int (2 : Int32) [(.int f0), (.int f1)] (.int (0 : Int32))) (F_size : Fld Z h0 o0 "com/example/robust_broker/robustbroker/Postings" "size" "I" (.int (2 : Int32))) (F_collectionFrequency : Fld Z h0 o0 "com/example/robust_broker/robustbroker/Postings" "collectionFrequency" "J" (.long q_c)) (ne_o0_w_d : o0 ≠ w_d) (ne_o0_w_f : o0 ≠ w_f) (ne_w_d_w_f : w_d ≠ w_f) (E_o0 : Exa Z h0 o0 "com/example/robust_broker/robustbroker/Postings") (g_o0 : n0 ≤ o0) :
    MetFree l (⟨"com/example/robust_broker/robustbroker/Postings", "add", "(II)V"⟩ : MethodName) (head1 (Jvm.Cond.code (⟨"com/example/robust_broker/robustbroker/Postings", "add", "(II)V"⟩ : MethodName) prog_26_method_2_code 3 none :: ws) ({ frames := 2, cells := 2, slots := 8, locals := 33 } : Room)) (fun a U => a = #[(.ref o0), (.int p1), (.int p2)] ∧ Z.Warmed39 U.vm ∧ U.heap = h0) (fun _ _ _ _ _ => True) (fun _ U o U' => ∃ v L, o = .returned v ∧ Qadd_2_2 Z o0 p1 p2 w_d k_d d0 d1 w_f k_f f0 f1 q_c h0 n0 v U'.heap L ∧ FrameEnd U o U' L ({ frames := 2, cells := 2, slots := 8, locals := 33 } : Room).cells ({ frames := 2, cells := 2, slots := 8, locals := 33 } : Room).slots) := by
  refine MetFree.of_bodySF (plainFor_of_name (by first | (simp [plainName, overriddenIn]; done) | decide +kernel)) hisR ?_
  intro p e s m args below meth c s₁ Bd hml0 hP hK
  obtain ⟨rfl, hZ, hh⟩ := hP
  have hx := Bd.exec
  have hby := Bd.bytes
  have hml : c.maxLocals = 3 := hml0
  have hown : s.vm.findClass "com/example/robust_broker/robustbroker/Postings" = some m.cls := findClass_of_methodNamed Bd.named
  have hnm := (name_of_methodNamed Bd.named Bd.method).1
  have hlk := BodyLoose.notSynchronized Bd
  have X0 : Stand p l e ({ frames := 2, cells := 2, slots := 8, locals := 33 } : Room) s m #[(.ref o0), (.int p1), (.int p2)] below meth c s₁ [] 0 0 := Stand.of_body Bd
  have e0 : s₁.heap = h0 := by rw [← hh, Bd.state]; rfl
  have N0 := Fr.nil n0
  show Go p e below s (Qadd_2_2 Z o0 p1 p2 w_d k_d d0 d1 w_f k_f f0 f1 q_c h0 n0) 2 8 (s₁.setTop (entryFrame m #[(.ref o0), (.int p1), (.int p2)] 3))
  rw [ef_add_2_2]
  show Go _ _ _ _ _ _ _ (s₁.setTop (mkF m 0 #[.val (.ref o0), .val (.int p1), .val (.int p2)] []))
  refine gob (fun _ k => XS.aloadN X0.here hx rfl (hb hby d6_0) rfl rfl k) ?_
  show Go _ _ _ _ _ _ _ (s₁.setTop (mkF m 1 #[.val (.ref o0), .val (.int p1), .val (.int p2)] [(.ref o0)]))
  obtain ⟨T1, X1, e1, st1⟩ := getF X0 hx hZ hown (host := "") (Or.inl (hw _ (List.mem_of_getElem? (i := 26) rfl))) Via.refl e0 F_size (g := (mkF m 1 #[.val (.ref o0), .val (.int p1), .val (.int p2)] [(.ref o0)])) rfl rfl (hb hby d6_1)
  refine gob st1 ?_
  show Go _ _ _ _ _ _ _ (T1.setTop (mkF m 4 #[.val (.ref o0), .val (.int p1), .val (.int p2)] [(.int (2 : Int32))]))
  refine gob (fun _ k => XS.aloadN X1.here hx rfl (hb hby d6_4) rfl rfl k) ?_
  show Go _ _ _ _ _ _ _ (T1.setTop (mkF m 5 #[.val (.ref o0), .val (.int p1), .val (.int p2)] [(.ref o0), (.int (2 : Int32))]))
  obtain ⟨T2, X2, e2, st2⟩ := getF X1 hx hZ hown (host := "") (Or.inl (hw _ (List.mem_of_getElem? (i := 17) rfl))) Via.refl e1 F_documents (g := (mkF m 5 #[.val (.ref o0), .val (.int p1), .val (.int p2)] [(.ref o0), (.int (2 : Int32))])) rfl rfl (hb hby d6_5)
  refine gob st2 ?_
  show Go _ _ _ _ _ _ _ (T2.setTop (mkF m 8 #[.val (.ref o0), .val (.int p1), .val (.int p2)] [(.ref w_d), (.int (2 : Int32))]))
  obtain ⟨cl3, Ar3, aq3, S3, N3, H3, G3⟩ := id V_d
  refine gob (X2.arraylength hx (by rw [e2]; exact Ar3.1) (State.isArrayOf_alike hZ.alike Ar3.2.1) (g := (mkF m 8 #[.val (.ref o0), .val (.int p1), .val (.int p2)] [(.ref w_d), (.int (2 : Int32))])) rfl rfl (hb hby d6_8)) ?_
  rw [len_of S3 N3]
  show Go _ _ _ _ _ _ _ (T2.setTop (mkF m 9 #[.val (.ref o0), .val (.int p1), .val (.int p2)] [(.int (2 : Int32)), (.int (2 : Int32))]))
  refine gob (fun _ k => XS.icmpNo X2.here hx rfl (hb hby d6_9) rfl (teq (by decide : (2 : Int32) = (2 : Int32))).2 k) ?_
  show Go _ _ _ _ _ _ _ (T2.setTop (mkF m 12 #[.val (.ref o0), .val (.int p1), .val (.int p2)] []))
  refine gob (fun _ k => XS.aloadN X2.here hx rfl (hb hby d6_12) rfl rfl k) ?_
  show Go _ _ _ _ _ _ _ (T2.setTop (mkF m 13 #[.val (.ref o0), .val (.int p1), .val (.int p2)] [(.ref o0)]))
  refine gob (fun _ k => XS.aloadN X2.here hx rfl (hb hby d6_13) rfl rfl k) ?_
  show Go _ _ _ _ _ _ _ (T2.setTop (mkF m 14 #[.val (.ref o0), .val (.int p1), .val (.int p2)] [(.ref o0), (.ref o0)]))
  obtain ⟨T4, X4, e4, st4⟩ := getF X2 hx hZ hown (host := "") (Or.inl (hw _ (List.mem_of_getElem? (i := 17) rfl))) Via.refl e2 F_documents (g := (mkF m 14 #[.val (.ref o0), .val (.int p1), .val (.int p2)] [(.ref o0), (.ref o0)])) rfl rfl (hb hby d6_14)
  refine gob st4 ?_
  show Go _ _ _ _ _ _ _ (T4.setTop (mkF m 17 #[.val (.ref o0), .val (.int p1), .val (.int p2)] [(.ref w_d), (.ref o0)]))
  refine gob (fun _ k => XS.aloadN X4.here hx rfl (hb hby d6_17) rfl rfl k) ?_
  show Go _ _ _ _ _ _ _ (T4.setTop (mkF m 18 #[.val (.ref o0), .val (.int p1), .val (.int p2)] [(.ref o0), (.ref w_d), (.ref o0)]))
  obtain ⟨T5, X5, e5, st5⟩ := getF X4 hx hZ hown (host := "") (Or.inl (hw _ (List.mem_of_getElem? (i := 26) rfl))) Via.refl e4 F_size (g := (mkF m 18 #[.val (.ref o0), .val (.int p1), .val (.int p2)] [(.ref o0), (.ref w_d), (.ref o0)])) rfl rfl (hb hby d6_18)
  refine gob st5 ?_
  show Go _ _ _ _ _ _ _ (T5.setTop (mkF m 21 #[.val (.ref o0), .val (.int p1), .val (.int p2)] [(.int (2 : Int32)), (.ref w_d), (.ref o0)]))
  refine gob (fun _ k => XS.iconst X5.here hx rfl (hb hby d6_21) k) ?_
  show Go _ _ _ _ _ _ _ (T5.setTop (mkF m 22 #[.val (.ref o0), .val (.int p1), .val (.int p2)] [(.int (2 : Int32)), (.int (2 : Int32)), (.ref w_d), (.ref o0)]))
  refine gob (fun _ k => XS.imul X5.here hx rfl (hb hby d6_22) rfl k) ?_
  show Go _ _ _ _ _ _ _ (T5.setTop (mkF m 23 #[.val (.ref o0), .val (.int p1), .val (.int p2)] [(.int (4 : Int32)), (.ref w_d), (.ref o0)]))
  obtain ⟨_, _, ⟨T6, L6, k6, n6⟩, -, X6, ⟨Lc6, hQ6, l6, y6, z6⟩, st6⟩ := Jvm.LawKit.callS X5 hx (y := (⟨"java/util/Arrays", "copyOf", "([II)[I"⟩ : MethodName)) hown (mvT hZ (hw _ (List.mem_of_getElem? (i := 40) rfl))) (mvT hZ (hw _ (List.mem_of_getElem? (i := 41) rfl))) (mvT hZ (hw _ (List.mem_of_getElem? (i := 42) rfl))) (mvT hZ (hw _ (List.mem_of_getElem? (i := 43) rfl))) (by decide) (backOf (W := 1) (rmcp_2_2_4 l Z a0 hw [] w_d k_d d0 d1 h0 n0 Z0 V_d) hZ (hw _ (List.mem_of_getElem? (i := 43) rfl)) (hw _ (List.mem_of_getElem? (i := 42) rfl)) (by decide) (by decide)) (g := (mkF m 23 #[.val (.ref o0), .val (.int p1), .val (.int p2)] [(.int (4 : Int32)), (.ref w_d), (.ref o0)])) rfl (by rw [hml]; rfl) (argsL := [(.ref w_d), (.int (4 : Int32))]) (rest := [(.ref o0)]) (lenOf pd_1 rfl) rfl (by show 2 * 0 + _ ≤ _; exact Nat.le_of_eq rfl) (hb hby d6_23) (fun _ _ => ⟨rfl, e5, (by decide : 0 + 1 ≤ _), (by decide : 0 + 4 ≤ _)⟩)
  dsimp only [Pt.U, Pt.locs, Pt.cells, Pt.slots] at X6 l6 y6 z6 st6 hQ6
  replace X6 := castX X6 (y6.trans (rfl : _ = 1)) (z6.trans (rfl : _ = 4))
  obtain ⟨b7, k8, rfl, Nq6, K6, hz9, F10⟩ := hQ6
  have N6 : Fr n0 L6 := l6 ▸ Fr.app N0 Nq6
  have n11 : o0 ≠ b7 := Nat.ne_of_lt (Nat.lt_of_lt_of_le F_documents.lt hz9)
  have n12 : w_d ≠ b7 := Nat.ne_of_lt (Nat.lt_of_lt_of_le V_d.lt hz9)
  have n13 : w_f ≠ b7 := Nat.ne_of_lt (Nat.lt_of_lt_of_le V_f.lt hz9)
  have g14 : n0 ≤ b7 := Nat.le_trans Z0 hz9
  have sz_b7 : h0.size ≤ b7 := Nat.le_trans (Keep.refl h0 []).1 hz9
  have z15 : n0 ≤ T6.heap.size := Nat.le_trans Z0 K6.1
  have K16 : Keep h0 T6.heap ([o0] : List Addr) := (Keep.refl h0 ([o0] : List Addr)).trans K6 all0
  refine gob st6 ?_
  show Go _ _ _ _ _ _ _ (T6.setTop (mkF m 26 #[.val (.ref o0), .val (.int p1), .val (.int p2)] [(.ref b7), (.ref o0)]))
  have c17 := (F_documents.keep K6 nin0)
  have c18 := (E_o0.keep K6)
  obtain ⟨T19, h19, X19, e19, W19, st19⟩ := putF X6 hx hZ hown (host := "") (Or.inl (hw _ (List.mem_of_getElem? (i := 17) rfl))) Via.refl (rfl : T6.heap = _) c17 c18 (Or.inl (hw _ (List.mem_of_getElem? (i := 18) rfl))) (hw _ (List.mem_of_getElem? (i := 9) rfl)) (ty := (.array .int)) (by decide) rfl rfl (g := (mkF m 26 #[.val (.ref o0), .val (.int p1), .val (.int p2)] [(.ref b7), (.ref o0)])) rfl rfl (hb hby d6_26)
  refine gob st19 ?_
  have z20 : n0 ≤ h19.size := Nat.le_trans z15 (Keep.of_wr W19).1
  have N19 := Fr.snoc X19 N6 g_o0
  have K21 : Keep h0 h19 ([o0] : List Addr) := K16.wr W19 (Or.inl (List.mem_of_getElem? (i := 0) rfl))
  have Fw19 := c17.same W19
  show Go _ _ _ _ _ _ _ (T19.setTop (mkF m 29 #[.val (.ref o0), .val (.int p1), .val (.int p2)] []))
  refine gob (fun _ k => XS.aloadN X19.here hx rfl (hb hby d6_29) rfl rfl k) ?_
  show Go _ _ _ _ _ _ _ (T19.setTop (mkF m 30 #[.val (.ref o0), .val (.int p1), .val (.int p2)] [(.ref o0)]))
  refine gob (fun _ k => XS.aloadN X19.here hx rfl (hb hby d6_30) rfl rfl k) ?_
  show Go _ _ _ _ _ _ _ (T19.setTop (mkF m 31 #[.val (.ref o0), .val (.int p1), .val (.int p2)] [(.ref o0), (.ref o0)]))
  have c22 := ((F_frequencies.keep K6 nin0).other W19 (Or.inr (slot_ne (Or.inl (hw _ (List.mem_of_getElem? (i := 20) rfl))) (Or.inl (hw _ (List.mem_of_getElem? (i := 18) rfl))) (by decide) (t := (.array .int)) (t' := (.array .int)) (by decide) (by decide))))
  obtain ⟨T23, X23, e23, st23⟩ := getF X19 hx hZ hown (host := "") (Or.inl (hw _ (List.mem_of_getElem? (i := 19) rfl))) Via.refl e19 c22 (g := (mkF m 31 #[.val (.ref o0), .val (.int p1), .val (.int p2)] [(.ref o0), (.ref o0)])) rfl rfl (hb hby d6_31)
  refine gob st23 ?_
  show Go _ _ _ _ _ _ _ (T23.setTop (mkF m 34 #[.val (.ref o0), .val (.int p1), .val (.int p2)] [(.ref w_f), (.ref o0)]))
  refine gob (fun _ k => XS.aloadN X23.here hx rfl (hb hby d6_34) rfl rfl k) ?_
  show Go _ _ _ _ _ _ _ (T23.setTop (mkF m 35 #[.val (.ref o0), .val (.int p1), .val (.int p2)] [(.ref o0), (.ref w_f), (.ref o0)]))
  have c24 := ((F_size.keep K6 nin0).other W19 (Or.inr (slot_ne (Or.inl (hw _ (List.mem_of_getElem? (i := 27) rfl))) (Or.inl (hw _ (List.mem_of_getElem? (i := 18) rfl))) (by decide) (t := .int) (t' := (.array .int)) (by decide) (by decide))))
  obtain ⟨T25, X25, e25, st25⟩ := getF X23 hx hZ hown (host := "") (Or.inl (hw _ (List.mem_of_getElem? (i := 26) rfl))) Via.refl e23 c24 (g := (mkF m 35 #[.val (.ref o0), .val (.int p1), .val (.int p2)] [(.ref o0), (.ref w_f), (.ref o0)])) rfl rfl (hb hby d6_35)
  refine gob st25 ?_
  show Go _ _ _ _ _ _ _ (T25.setTop (mkF m 38 #[.val (.ref o0), .val (.int p1), .val (.int p2)] [(.int (2 : Int32)), (.ref w_f), (.ref o0)]))
  refine gob (fun _ k => XS.iconst X25.here hx rfl (hb hby d6_38) k) ?_
  show Go _ _ _ _ _ _ _ (T25.setTop (mkF m 39 #[.val (.ref o0), .val (.int p1), .val (.int p2)] [(.int (2 : Int32)), (.int (2 : Int32)), (.ref w_f), (.ref o0)]))
  refine gob (fun _ k => XS.imul X25.here hx rfl (hb hby d6_39) rfl k) ?_
  show Go _ _ _ _ _ _ _ (T25.setTop (mkF m 40 #[.val (.ref o0), .val (.int p1), .val (.int p2)] [(.int (4 : Int32)), (.ref w_f), (.ref o0)]))
  have c27 := ((V_f.keep K6 nin0).other W19 (Ne.symm ne_o0_w_f))
  obtain ⟨_, _, ⟨T26, L26, k26, n26⟩, -, X26, ⟨Lc26, hQ26, l26, y26, z26⟩, st26⟩ := Jvm.LawKit.callS X25 hx (y := (⟨"java/util/Arrays", "copyOf", "([II)[I"⟩ : MethodName)) hown (mvT hZ (hw _ (List.mem_of_getElem? (i := 40) rfl))) (mvT hZ (hw _ (List.mem_of_getElem? (i := 41) rfl))) (mvT hZ (hw _ (List.mem_of_getElem? (i := 42) rfl))) (mvT hZ (hw _ (List.mem_of_getElem? (i := 43) rfl))) (by decide) (backOf (W := 1) (rmcp_2_2_4 l Z a0 hw [] w_f k_f f0 f1 h19 n0 z20 c27) hZ (hw _ (List.mem_of_getElem? (i := 43) rfl)) (hw _ (List.mem_of_getElem? (i := 42) rfl)) (by decide) (by decide)) (g := (mkF m 40 #[.val (.ref o0), .val (.int p1), .val (.int p2)] [(.int (4 : Int32)), (.ref w_f), (.ref o0)])) rfl (by rw [hml]; rfl) (argsL := [(.ref w_f), (.int (4 : Int32))]) (rest := [(.ref o0)]) (lenOf pd_1 rfl) rfl (by show 2 * 0 + _ ≤ _; exact Nat.le_of_eq rfl) (hb hby d6_40) (fun _ _ => ⟨rfl, e25, (by decide : 1 + 1 ≤ _), (by decide : 4 + 4 ≤ _)⟩)
  dsimp only [Pt.U, Pt.locs, Pt.cells, Pt.slots] at X26 l26 y26 z26 st26 hQ26
  replace X26 := castX X26 (y26.trans (rfl : _ = 2)) (z26.trans (rfl : _ = 8))
  obtain ⟨b28, k29, rfl, Nq26, K26, hz30, F31⟩ := hQ26
  have N26 : Fr n0 L26 := l26 ▸ Fr.app N19 Nq26
  have n32 : o0 ≠ b28 := Nat.ne_of_lt (Nat.lt_of_lt_of_le Fw19.lt hz30)
  have c34 := ((V_d.keep K6 nin0).other W19 (Ne.symm ne_o0_w_d))
  have n33 : w_d ≠ b28 := Nat.ne_of_lt (Nat.lt_of_lt_of_le c34.lt hz30)
  have n35 : w_f ≠ b28 := Nat.ne_of_lt (Nat.lt_of_lt_of_le c27.lt hz30)
  have c37 := (F10.other W19 (Ne.symm n11))
  have n36 : b7 ≠ b28 := Nat.ne_of_lt (Nat.lt_of_lt_of_le c37.lt hz30)
  have g38 : n0 ≤ b28 := Nat.le_trans z20 hz30
  have sz_b28 : h0.size ≤ b28 := Nat.le_trans K21.1 hz30
  have z39 : n0 ≤ T26.heap.size := Nat.le_trans z20 K26.1
  have K40 : Keep h0 T26.heap ([o0] : List Addr) := K21.trans K26 all0
  refine gob st26 ?_
  show Go _ _ _ _ _ _ _ (T26.setTop (mkF m 43 #[.val (.ref o0), .val (.int p1), .val (.int p2)] [(.ref b28), (.ref o0)]))
  have c41 := (c22.keep K26 nin0)
  have c42 := ((c18.wr W19).keep K26)
  obtain ⟨T43, h43, X43, e43, W43, st43⟩ := putF X26 hx hZ hown (host := "") (Or.inl (hw _ (List.mem_of_getElem? (i := 19) rfl))) Via.refl (rfl : T26.heap = _) c41 c42 (Or.inl (hw _ (List.mem_of_getElem? (i := 20) rfl))) (hw _ (List.mem_of_getElem? (i := 9) rfl)) (ty := (.array .int)) (by decide) rfl rfl (g := (mkF m 43 #[.val (.ref o0), .val (.int p1), .val (.int p2)] [(.ref b28), (.ref o0)])) rfl rfl (hb hby d6_43)
  refine gob st43 ?_
  have z44 : n0 ≤ h43.size := Nat.le_trans z39 (Keep.of_wr W43).1
  have N43 := Fr.snoc X43 N26 g_o0
  have K45 : Keep h0 h43 ([o0] : List Addr) := K40.wr W43 (Or.inl (List.mem_of_getElem? (i := 0) rfl))
  have Fw43 := c41.same W43
  show Go _ _ _ _ _ _ _ (T43.setTop (mkF m 46 #[.val (.ref o0), .val (.int p1), .val (.int p2)] []))
  refine gob (fun _ k => XS.aloadN X43.here hx rfl (hb hby d6_46) rfl rfl k) ?_
  show Go _ _ _ _ _ _ _ (T43.setTop (mkF m 47 #[.val (.ref o0), .val (.int p1), .val (.int p2)] [(.ref o0)]))
  have c46 := ((Fw19.keep K26 nin0).other W43 (Or.inr (slot_ne (Or.inl (hw _ (List.mem_of_getElem? (i := 18) rfl))) (Or.inl (hw _ (List.mem_of_getElem? (i := 20) rfl))) (by decide) (t := (.array .int)) (t' := (.array .int)) (by decide) (by decide))))
  obtain ⟨T47, X47, e47, st47⟩ := getF X43 hx hZ hown (host := "") (Or.inl (hw _ (List.mem_of_getElem? (i := 17) rfl))) Via.refl e43 c46 (g := (mkF m 47 #[.val (.ref o0), .val (.int p1), .val (.int p2)] [(.ref o0)])) rfl rfl (hb hby d6_47)
  refine gob st47 ?_
  show Go _ _ _ _ _ _ _ (T47.setTop (mkF m 50 #[.val (.ref o0), .val (.int p1), .val (.int p2)] [(.ref b7)]))
  refine gob (fun _ k => XS.aloadN X47.here hx rfl (hb hby d6_50) rfl rfl k) ?_
  show Go _ _ _ _ _ _ _ (T47.setTop (mkF m 51 #[.val (.ref o0), .val (.int p1), .val (.int p2)] [(.ref o0), (.ref b7)]))
  have c48 := ((c24.keep K26 nin0).other W43 (Or.inr (slot_ne (Or.inl (hw _ (List.mem_of_getElem? (i := 27) rfl))) (Or.inl (hw _ (List.mem_of_getElem? (i := 20) rfl))) (by decide) (t := .int) (t' := (.array .int)) (by decide) (by decide))))
  obtain ⟨T49, X49, e49, st49⟩ := getF X47 hx hZ hown (host := "") (Or.inl (hw _ (List.mem_of_getElem? (i := 26) rfl))) Via.refl e47 c48 (g := (mkF m 51 #[.val (.ref o0), .val (.int p1), .val (.int p2)] [(.ref o0), (.ref b7)])) rfl rfl (hb hby d6_51)
  refine gob st49 ?_
  show Go _ _ _ _ _ _ _ (T49.setTop (mkF m 54 #[.val (.ref o0), .val (.int p1), .val (.int p2)] [(.int (2 : Int32)), (.ref b7)]))
  refine gob (fun _ k => XS.iloadN X49.here hx rfl (hb hby d6_54) rfl k) ?_
  show Go _ _ _ _ _ _ _ (T49.setTop (mkF m 55 #[.val (.ref o0), .val (.int p1), .val (.int p2)] [(.int p1), (.int (2 : Int32)), (.ref b7)]))
  have c51 := ((c37.keep K26 nin0).other W43 (Ne.symm n11))
  obtain ⟨cl50, Ar50, aq50, S50, N50, H50, G50⟩ := id c51
  have hin50 : ¬ ((2 : Int32) < 0 ∨ cl50.slots.size ≤ ((2 : Int32)).toNatClampNeg) := inb_of S50 ⟨by decide, by decide⟩
  obtain ⟨T52, h52, X52, e52, W52, st52⟩ := stI X49 hx hZ e49 Ar50 (j := (2 : Int32)) hin50 (g := (mkF m 55 #[.val (.ref o0), .val (.int p1), .val (.int p2)] [(.int p1), (.int (2 : Int32)), (.ref b7)])) rfl rfl (hb hby d6_55)
  refine gob st52 ?_
  have z53 : n0 ≤ h52.size := Nat.le_trans z44 (Keep.of_wr W52).1
  have N52 := Fr.snoc X52 N43 g14
  have K54 : Keep h0 h52 ([o0] : List Addr) := K45.wr W52 (Or.inr sz_b7)
  have V52 : Arv Z h52 b7 k8 .int (4 : Int32) [(.int d0), (.int d1), (.int p1), (.int (0 : Int32))] (.int (0 : Int32)) := Arv.set Ar50 aq50 S50 N50 H50 G50 rfl W52 2 rfl (Nat.le_of_ble_eq_true rfl)
  show Go _ _ _ _ _ _ _ (T52.setTop (mkF m 56 #[.val (.ref o0), .val (.int p1), .val (.int p2)] []))
  refine gob (fun _ k => XS.aloadN X52.here hx rfl (hb hby d6_56) rfl rfl k) ?_
  show Go _ _ _ _ _ _ _ (T52.setTop (mkF m 57 #[.val (.ref o0), .val (.int p1), .val (.int p2)] [(.ref o0)]))
  have c55 := (Fw43.other W52 (Or.inl n11))
  obtain ⟨T56, X56, e56, st56⟩ := getF X52 hx hZ hown (host := "") (Or.inl (hw _ (List.mem_of_getElem? (i := 19) rfl))) Via.refl e52 c55 (g := (mkF m 57 #[.val (.ref o0), .val (.int p1), .val (.int p2)] [(.ref o0)])) rfl rfl (hb hby d6_57)
  refine gob st56 ?_
  show Go _ _ _ _ _ _ _ (T56.setTop (mkF m 60 #[.val (.ref o0), .val (.int p1), .val (.int p2)] [(.ref b28)]))
  refine gob (fun _ k => XS.aloadN X56.here hx rfl (hb hby d6_60) rfl rfl k) ?_
  show Go _ _ _ _ _ _ _ (T56.setTop (mkF m 61 #[.val (.ref o0), .val (.int p1), .val (.int p2)] [(.ref o0), (.ref b28)]))
  have c57 := (c48.other W52 (Or.inl n11))
  obtain ⟨T58, X58, e58, st58⟩ := getF X56 hx hZ hown (host := "") (Or.inl (hw _ (List.mem_of_getElem? (i := 26) rfl))) Via.refl e56 c57 (g := (mkF m 61 #[.val (.ref o0), .val (.int p1), .val (.int p2)] [(.ref o0), (.ref b28)])) rfl rfl (hb hby d6_61)
  refine gob st58 ?_
  show Go _ _ _ _ _ _ _ (T58.setTop (mkF m 64 #[.val (.ref o0), .val (.int p1), .val (.int p2)] [(.int (2 : Int32)), (.ref b28)]))
  refine gob (fun _ k => XS.iloadN X58.here hx rfl (hb hby d6_64) rfl k) ?_
  show Go _ _ _ _ _ _ _ (T58.setTop (mkF m 65 #[.val (.ref o0), .val (.int p1), .val (.int p2)] [(.int p2), (.int (2 : Int32)), (.ref b28)]))
  have c60 := ((F31.other W43 (Ne.symm n32)).other W52 (Ne.symm n36))
  obtain ⟨cl59, Ar59, aq59, S59, N59, H59, G59⟩ := id c60
  have hin59 : ¬ ((2 : Int32) < 0 ∨ cl59.slots.size ≤ ((2 : Int32)).toNatClampNeg) := inb_of S59 ⟨by decide, by decide⟩
  obtain ⟨T61, h61, X61, e61, W61, st61⟩ := stI X58 hx hZ e58 Ar59 (j := (2 : Int32)) hin59 (g := (mkF m 65 #[.val (.ref o0), .val (.int p1), .val (.int p2)] [(.int p2), (.int (2 : Int32)), (.ref b28)])) rfl rfl (hb hby d6_65)
  refine gob st61 ?_
  have z62 : n0 ≤ h61.size := Nat.le_trans z53 (Keep.of_wr W61).1
  have N61 := Fr.snoc X61 N52 g38
  have K63 : Keep h0 h61 ([o0] : List Addr) := K54.wr W61 (Or.inr sz_b28)
  have V61 : Arv Z h61 b28 k29 .int (4 : Int32) [(.int f0), (.int f1), (.int p2), (.int (0 : Int32))] (.int (0 : Int32)) := Arv.set Ar59 aq59 S59 N59 H59 G59 rfl W61 2 rfl (Nat.le_of_ble_eq_true rfl)
  show Go _ _ _ _ _ _ _ (T61.setTop (mkF m 66 #[.val (.ref o0), .val (.int p1), .val (.int p2)] []))
  refine gob (fun _ k => XS.aloadN X61.here hx rfl (hb hby d6_66) rfl rfl k) ?_
  show Go _ _ _ _ _ _ _ (T61.setTop (mkF m 67 #[.val (.ref o0), .val (.int p1), .val (.int p2)] [(.ref o0)]))
  refine gob (fun _ k => XS.dup X61.here hx rfl (hb hby d6_67) rfl rfl k) ?_
  show Go _ _ _ _ _ _ _ (T61.setTop (mkF m 68 #[.val (.ref o0), .val (.int p1), .val (.int p2)] [(.ref o0), (.ref o0)]))
  have c64 := (c57.other W61 (Or.inl n32))
  obtain ⟨T65, X65, e65, st65⟩ := getF X61 hx hZ hown (host := "") (Or.inl (hw _ (List.mem_of_getElem? (i := 26) rfl))) Via.refl e61 c64 (g := (mkF m 68 #[.val (.ref o0), .val (.int p1), .val (.int p2)] [(.ref o0), (.ref o0)])) rfl rfl (hb hby d6_68)
  refine gob st65 ?_
  show Go _ _ _ _ _ _ _ (T65.setTop (mkF m 71 #[.val (.ref o0), .val (.int p1), .val (.int p2)] [(.int (2 : Int32)), (.ref o0)]))
  refine gob (fun _ k => XS.iconst X65.here hx rfl (hb hby d6_71) k) ?_
  show Go _ _ _ _ _ _ _ (T65.setTop (mkF m 72 #[.val (.ref o0), .val (.int p1), .val (.int p2)] [(.int (1 : Int32)), (.int (2 : Int32)), (.ref o0)]))
  refine gob (fun _ k => XS.iadd X65.here hx rfl (hb hby d6_72) rfl k) ?_
  show Go _ _ _ _ _ _ _ (T65.setTop (mkF m 73 #[.val (.ref o0), .val (.int p1), .val (.int p2)] [(.int (3 : Int32)), (.ref o0)]))
  have c66 := (((c42.wr W43).wr W52).wr W61)
  obtain ⟨T67, h67, X67, e67, W67, st67⟩ := putF X65 hx hZ hown (host := "") (Or.inl (hw _ (List.mem_of_getElem? (i := 26) rfl))) Via.refl e65 c64 c66 (Or.inl (hw _ (List.mem_of_getElem? (i := 27) rfl))) (hw _ (List.mem_of_getElem? (i := 9) rfl)) (ty := .int) (by decide) rfl rfl (g := (mkF m 73 #[.val (.ref o0), .val (.int p1), .val (.int p2)] [(.int (3 : Int32)), (.ref o0)])) rfl rfl (hb hby d6_73)
  refine gob st67 ?_
  have z68 : n0 ≤ h67.size := Nat.le_trans z62 (Keep.of_wr W67).1
  have N67 := Fr.snoc X67 N61 g_o0
  have K69 : Keep h0 h67 ([o0] : List Addr) := K63.wr W67 (Or.inl (List.mem_of_getElem? (i := 0) rfl))
  have Fw67 := c64.same W67
  show Go _ _ _ _ _ _ _ (T67.setTop (mkF m 76 #[.val (.ref o0), .val (.int p1), .val (.int p2)] []))
  refine gob (fun _ k => XS.aloadN X67.here hx rfl (hb hby d6_76) rfl rfl k) ?_
  show Go _ _ _ _ _ _ _ (T67.setTop (mkF m 77 #[.val (.ref o0), .val (.int p1), .val (.int p2)] [(.ref o0)]))
  refine gob (fun _ k => XS.dup X67.here hx rfl (hb hby d6_77) rfl rfl k) ?_
  show Go _ _ _ _ _ _ _ (T67.setTop (mkF m 78 #[.val (.ref o0), .val (.int p1), .val (.int p2)] [(.ref o0), (.ref o0)]))
  have c70 := (((((((F_collectionFrequency.keep K6 nin0).other W19 (Or.inr (slot_ne (Or.inl (hw _ (List.mem_of_getElem? (i := 34) rfl))) (Or.inl (hw _ (List.mem_of_getElem? (i := 18) rfl))) (by decide) (t := .long) (t' := (.array .int)) (by decide) (by decide)))).keep K26 nin0).other W43 (Or.inr (slot_ne (Or.inl (hw _ (List.mem_of_getElem? (i := 34) rfl))) (Or.inl (hw _ (List.mem_of_getElem? (i := 20) rfl))) (by decide) (t := .long) (t' := (.array .int)) (by decide) (by decide)))).other W52 (Or.inl n11)).other W61 (Or.inl n32)).other W67 (Or.inr (slot_ne (Or.inl (hw _ (List.mem_of_getElem? (i := 34) rfl))) (Or.inl (hw _ (List.mem_of_getElem? (i := 27) rfl))) (by decide) (t := .long) (t' := .int) (by decide) (by decide))))
  obtain ⟨T71, X71, e71, st71⟩ := getF X67 hx hZ hown (host := "") (Or.inl (hw _ (List.mem_of_getElem? (i := 33) rfl))) Via.refl e67 c70 (g := (mkF m 78 #[.val (.ref o0), .val (.int p1), .val (.int p2)] [(.ref o0), (.ref o0)])) rfl rfl (hb hby d6_78)
  refine gob st71 ?_
  show Go _ _ _ _ _ _ _ (T71.setTop (mkF m 81 #[.val (.ref o0), .val (.int p1), .val (.int p2)] [(.long q_c), (.ref o0)]))
  refine gob (fun _ k => XS.iloadN X71.here hx rfl (hb hby d6_81) rfl k) ?_
  show Go _ _ _ _ _ _ _ (T71.setTop (mkF m 82 #[.val (.ref o0), .val (.int p1), .val (.int p2)] [(.int p2), (.long q_c), (.ref o0)]))
  refine gob (fun _ k => XS.i2l X71.here hx rfl (hb hby d6_82) rfl k) ?_
  show Go _ _ _ _ _ _ _ (T71.setTop (mkF m 83 #[.val (.ref o0), .val (.int p1), .val (.int p2)] [(.long (p2.toInt64)), (.long q_c), (.ref o0)]))
  refine gob (fun _ k => XS.ladd X71.here hx rfl (hb hby d6_83) rfl k) ?_
  show Go _ _ _ _ _ _ _ (T71.setTop (mkF m 84 #[.val (.ref o0), .val (.int p1), .val (.int p2)] [(.long (q_c + (p2.toInt64))), (.ref o0)]))
  have c72 := (c66.wr W67)
  obtain ⟨T73, h73, X73, e73, W73, st73⟩ := putF X71 hx hZ hown (host := "") (Or.inl (hw _ (List.mem_of_getElem? (i := 33) rfl))) Via.refl e71 c70 c72 (Or.inl (hw _ (List.mem_of_getElem? (i := 34) rfl))) (hw _ (List.mem_of_getElem? (i := 9) rfl)) (ty := .long) (by decide) rfl rfl (g := (mkF m 84 #[.val (.ref o0), .val (.int p1), .val (.int p2)] [(.long (q_c + (p2.toInt64))), (.ref o0)])) rfl rfl (hb hby d6_84)
  refine gob st73 ?_
  have z74 : n0 ≤ h73.size := Nat.le_trans z68 (Keep.of_wr W73).1
  have N73 := Fr.snoc X73 N67 g_o0
  have K75 : Keep h0 h73 ([o0] : List Addr) := K69.wr W73 (Or.inl (List.mem_of_getElem? (i := 0) rfl))
  have Fw73 := c70.same W73
  show Go _ _ _ _ _ _ _ (T73.setTop (mkF m 87 #[.val (.ref o0), .val (.int p1), .val (.int p2)] []))
  refine goV X73 hx hlk Bd.returns (hb hby d6_87) ?_ (by decide) (by decide)
  show Qadd_2_2 Z o0 p1 p2 w_d k_d d0 d1 w_f k_f f0 f1 q_c h0 n0 (none) T73.heap _
  have c76 := ((((c46.other W52 (Or.inl n11)).other W61 (Or.inl n32)).other W67 (Or.inr (slot_ne (Or.inl (hw _ (List.mem_of_getElem? (i := 18) rfl))) (Or.inl (hw _ (List.mem_of_getElem? (i := 27) rfl))) (by decide) (t := (.array .int)) (t' := .int) (by decide) (by decide)))).other W73 (Or.inr (slot_ne (Or.inl (hw _ (List.mem_of_getElem? (i := 18) rfl))) (Or.inl (hw _ (List.mem_of_getElem? (i := 34) rfl))) (by decide) (t := (.array .int)) (t' := .long) (by decide) (by decide))))
  have c77 := (((c55.other W61 (Or.inl n32)).other W67 (Or.inr (slot_ne (Or.inl (hw _ (List.mem_of_getElem? (i := 20) rfl))) (Or.inl (hw _ (List.mem_of_getElem? (i := 27) rfl))) (by decide) (t := (.array .int)) (t' := .int) (by decide) (by decide)))).other W73 (Or.inr (slot_ne (Or.inl (hw _ (List.mem_of_getElem? (i := 20) rfl))) (Or.inl (hw _ (List.mem_of_getElem? (i := 34) rfl))) (by decide) (t := (.array .int)) (t' := .long) (by decide) (by decide))))
  have c78 := (Fw67.other W73 (Or.inr (slot_ne (Or.inl (hw _ (List.mem_of_getElem? (i := 27) rfl))) (Or.inl (hw _ (List.mem_of_getElem? (i := 34) rfl))) (by decide) (t := .int) (t' := .long) (by decide) (by decide))))
  have c79 := (((V52.other W61 n36).other W67 (Ne.symm n11)).other W73 (Ne.symm n11))
  have c80 := ((V61.other W67 (Ne.symm n32)).other W73 (Ne.symm n32))
  rw [e73]
  exact ⟨b7, b28, k8, k29, rfl, N73, K75, sz_b7, sz_b28, n36, c76, c77, c78, Fw73, c79, c80⟩
theorem ef_add_4_3 (m : MethodId) (x0 : Addr) (x1 : Int32) (x2 : Int32) : entryFrame m #[(.ref x0), (.int x1), (.int x2)] 3 = mkF m 0 #[.val (.ref x0), .val (.int x1), .val (.int x2)] [] := by first | (simp [entryFrame, mkF, argsToLocals, Value.category]; done) | rfl
def Qadd_4_3 (Z : State) (o0 : Addr) (p1 : Int32) (p2 : Int32) (w_d : Addr) (k_d : ClassId) (d0 : Int32) (d1 : Int32) (d2 : Int32) (w_f : Addr) (k_f : ClassId) (f0 : Int32) (f1 : Int32) (f2 : Int32) (q_c : Int64) (h0 : Heap) (n0 : Nat) (v : Option Value) (h : Heap) (L : List Loc) : Prop := v = none ∧ Fr n0 L ∧ Keep h0 h ([w_d, w_f, o0] : List Addr) ∧ Fld Z h o0 "com/example/robust_broker/robustbroker/Postings" "documents" "[I" (.ref w_d) ∧ Arv Z h w_d k_d .int (4 : Int32) [(.int d0), (.int d1), (.int d2), (.int p1)] (.int (0 : Int32)) ∧ Fld Z h o0 "com/example/robust_broker/robustbroker/Postings" "frequencies" "[I" (.ref w_f) ∧ Arv Z h w_f k_f .int (4 : Int32) [(.int f0), (.int f1), (.int f2), (.int p2)] (.int (0 : Int32)) ∧ Fld Z h o0 "com/example/robust_broker/robustbroker/Postings" "size" "I" (.int (4 : Int32)) ∧ Fld Z h o0 "com/example/robust_broker/robustbroker/Postings" "collectionFrequency" "J" (.long (q_c + (p2.toInt64)))
set_option maxRecDepth 65536 in
set_option maxHeartbeats 40000000 in
theorem rmadd_4_3 (l : Launch) (Z : State) (a0 : Array Value) (hw : ∀ d ∈ tables_1, d.before a0 Z = true) (ws : List Jvm.Cond) (o0 : Addr) (p1 : Int32) (p2 : Int32) (w_d : Addr) (k_d : ClassId) (d0 : Int32) (d1 : Int32) (d2 : Int32) (w_f : Addr) (k_f : ClassId) (f0 : Int32) (f1 : Int32) (f2 : Int32) (q_c : Int64) (h0 : Heap) (n0 : Nat) (Z0 : n0 ≤ h0.size) (F_documents : Fld Z h0 o0 "com/example/robust_broker/robustbroker/Postings" "documents" "[I" (.ref w_d)) (V_d : Arv Z h0 w_d k_d .int (4 : Int32) [(.int d0), (.int d1), (.int d2), (.int (0 : Int32))] (.int (0 : Int32))) (F_frequencies : Fld Z h0 o0 "com/example/robust_broker/robustbroker/Postings" "frequencies" "[I" (.ref w_f)) (V_f : Arv Z h0 w_f k_f .int (4 : Int32) [(.int f0), (.int f1), (.int f2), (.int (0 : Int32))] (.int (0 : Int32))) (F_size : Fld Z h0 o0 "com/example/robust_broker/robustbroker/Postings" "size" "I" (.int (3 : Int32))) (F_collectionFrequency : Fld Z h0 o0 "com/example/robust_broker/robustbroker/Postings" "collectionFrequency" "J" (.long q_c)) (ne_o0_w_d : o0 ≠ w_d) (ne_o0_w_f : o0 ≠ w_f) (ne_w_d_w_f : w_d ≠ w_f) (g_w_d : n0 ≤ w_d) (g_w_f : n0 ≤ w_f) (E_o0 : Exa Z h0 o0 "com/example/robust_broker/robustbroker/Postings") (g_o0 : n0 ≤ o0) :
    MetFree l (⟨"com/example/robust_broker/robustbroker/Postings", "add", "(II)V"⟩ : MethodName) (head1 (Jvm.Cond.code (⟨"com/example/robust_broker/robustbroker/Postings", "add", "(II)V"⟩ : MethodName) prog_26_method_2_code 3 none :: ws) ({ frames := 0, cells := 0, slots := 0, locals := 0 } : Room)) (fun a U => a = #[(.ref o0), (.int p1), (.int p2)] ∧ Z.Warmed39 U.vm ∧ U.heap = h0) (fun _ _ _ _ _ => True) (fun _ U o U' => ∃ v L, o = .returned v ∧ Qadd_4_3 Z o0 p1 p2 w_d k_d d0 d1 d2 w_f k_f f0 f1 f2 q_c h0 n0 v U'.heap L ∧ FrameEnd U o U' L ({ frames := 0, cells := 0, slots := 0, locals := 0 } : Room).cells ({ frames := 0, cells := 0, slots := 0, locals := 0 } : Room).slots) := by
  refine MetFree.of_bodySF (plainFor_of_name (by first | (simp [plainName, overriddenIn]; done) | decide +kernel)) hisR ?_
  intro p e s m args below meth c s₁ Bd hml0 hP hK
  obtain ⟨rfl, hZ, hh⟩ := hP
  have hx := Bd.exec
  have hby := Bd.bytes
  have hml : c.maxLocals = 3 := hml0
  have hown : s.vm.findClass "com/example/robust_broker/robustbroker/Postings" = some m.cls := findClass_of_methodNamed Bd.named
  have hnm := (name_of_methodNamed Bd.named Bd.method).1
  have hlk := BodyLoose.notSynchronized Bd
  have X0 : Stand p l e ({ frames := 0, cells := 0, slots := 0, locals := 0 } : Room) s m #[(.ref o0), (.int p1), (.int p2)] below meth c s₁ [] 0 0 := Stand.of_body Bd
  have e0 : s₁.heap = h0 := by rw [← hh, Bd.state]; rfl
  have N0 := Fr.nil n0
  show Go p e below s (Qadd_4_3 Z o0 p1 p2 w_d k_d d0 d1 d2 w_f k_f f0 f1 f2 q_c h0 n0) 0 0 (s₁.setTop (entryFrame m #[(.ref o0), (.int p1), (.int p2)] 3))
  rw [ef_add_4_3]
  show Go _ _ _ _ _ _ _ (s₁.setTop (mkF m 0 #[.val (.ref o0), .val (.int p1), .val (.int p2)] []))
  refine gob (fun _ k => XS.aloadN X0.here hx rfl (hb hby d6_0) rfl rfl k) ?_
  show Go _ _ _ _ _ _ _ (s₁.setTop (mkF m 1 #[.val (.ref o0), .val (.int p1), .val (.int p2)] [(.ref o0)]))
  obtain ⟨T1, X1, e1, st1⟩ := getF X0 hx hZ hown (host := "") (Or.inl (hw _ (List.mem_of_getElem? (i := 26) rfl))) Via.refl e0 F_size (g := (mkF m 1 #[.val (.ref o0), .val (.int p1), .val (.int p2)] [(.ref o0)])) rfl rfl (hb hby d6_1)
  refine gob st1 ?_
  show Go _ _ _ _ _ _ _ (T1.setTop (mkF m 4 #[.val (.ref o0), .val (.int p1), .val (.int p2)] [(.int (3 : Int32))]))
  refine gob (fun _ k => XS.aloadN X1.here hx rfl (hb hby d6_4) rfl rfl k) ?_
  show Go _ _ _ _ _ _ _ (T1.setTop (mkF m 5 #[.val (.ref o0), .val (.int p1), .val (.int p2)] [(.ref o0), (.int (3 : Int32))]))
  obtain ⟨T2, X2, e2, st2⟩ := getF X1 hx hZ hown (host := "") (Or.inl (hw _ (List.mem_of_getElem? (i := 17) rfl))) Via.refl e1 F_documents (g := (mkF m 5 #[.val (.ref o0), .val (.int p1), .val (.int p2)] [(.ref o0), (.int (3 : Int32))])) rfl rfl (hb hby d6_5)
  refine gob st2 ?_
  show Go _ _ _ _ _ _ _ (T2.setTop (mkF m 8 #[.val (.ref o0), .val (.int p1), .val (.int p2)] [(.ref w_d), (.int (3 : Int32))]))
  obtain ⟨cl3, Ar3, aq3, S3, N3, H3, G3⟩ := id V_d
  refine gob (X2.arraylength hx (by rw [e2]; exact Ar3.1) (State.isArrayOf_alike hZ.alike Ar3.2.1) (g := (mkF m 8 #[.val (.ref o0), .val (.int p1), .val (.int p2)] [(.ref w_d), (.int (3 : Int32))])) rfl rfl (hb hby d6_8)) ?_
  rw [len_of S3 N3]
  show Go _ _ _ _ _ _ _ (T2.setTop (mkF m 9 #[.val (.ref o0), .val (.int p1), .val (.int p2)] [(.int (4 : Int32)), (.int (3 : Int32))]))
  refine gob (fun _ k => XS.icmpYes X2.here hx rfl (pc0 := 9) (pc' := 46) rfl (hb hby d6_9) rfl (feq (by decide : ¬ ((3 : Int32) = (4 : Int32)))).2 (by decide) (by decide) k) ?_
  show Go _ _ _ _ _ _ _ (T2.setTop (mkF m 46 #[.val (.ref o0), .val (.int p1), .val (.int p2)] []))
  refine gob (fun _ k => XS.aloadN X2.here hx rfl (hb hby d6_46) rfl rfl k) ?_
  show Go _ _ _ _ _ _ _ (T2.setTop (mkF m 47 #[.val (.ref o0), .val (.int p1), .val (.int p2)] [(.ref o0)]))
  obtain ⟨T4, X4, e4, st4⟩ := getF X2 hx hZ hown (host := "") (Or.inl (hw _ (List.mem_of_getElem? (i := 17) rfl))) Via.refl e2 F_documents (g := (mkF m 47 #[.val (.ref o0), .val (.int p1), .val (.int p2)] [(.ref o0)])) rfl rfl (hb hby d6_47)
  refine gob st4 ?_
  show Go _ _ _ _ _ _ _ (T4.setTop (mkF m 50 #[.val (.ref o0), .val (.int p1), .val (.int p2)] [(.ref w_d)]))
  refine gob (fun _ k => XS.aloadN X4.here hx rfl (hb hby d6_50) rfl rfl k) ?_
  show Go _ _ _ _ _ _ _ (T4.setTop (mkF m 51 #[.val (.ref o0), .val (.int p1), .val (.int p2)] [(.ref o0), (.ref w_d)]))
  obtain ⟨T5, X5, e5, st5⟩ := getF X4 hx hZ hown (host := "") (Or.inl (hw _ (List.mem_of_getElem? (i := 26) rfl))) Via.refl e4 F_size (g := (mkF m 51 #[.val (.ref o0), .val (.int p1), .val (.int p2)] [(.ref o0), (.ref w_d)])) rfl rfl (hb hby d6_51)
  refine gob st5 ?_
  show Go _ _ _ _ _ _ _ (T5.setTop (mkF m 54 #[.val (.ref o0), .val (.int p1), .val (.int p2)] [(.int (3 : Int32)), (.ref w_d)]))
  refine gob (fun _ k => XS.iloadN X5.here hx rfl (hb hby d6_54) rfl k) ?_
  show Go _ _ _ _ _ _ _ (T5.setTop (mkF m 55 #[.val (.ref o0), .val (.int p1), .val (.int p2)] [(.int p1), (.int (3 : Int32)), (.ref w_d)]))
  obtain ⟨cl6, Ar6, aq6, S6, N6, H6, G6⟩ := id V_d
  have hin6 : ¬ ((3 : Int32) < 0 ∨ cl6.slots.size ≤ ((3 : Int32)).toNatClampNeg) := inb_of S6 ⟨by decide, by decide⟩
  obtain ⟨T7, h7, X7, e7, W7, st7⟩ := stI X5 hx hZ e5 Ar6 (j := (3 : Int32)) hin6 (g := (mkF m 55 #[.val (.ref o0), .val (.int p1), .val (.int p2)] [(.int p1), (.int (3 : Int32)), (.ref w_d)])) rfl rfl (hb hby d6_55)
  refine gob st7 ?_
  have z8 : n0 ≤ h7.size := Nat.le_trans Z0 (Keep.of_wr W7).1
  have N7 := Fr.snoc X7 N0 g_w_d
  have K9 : Keep h0 h7 ([w_d, w_f, o0] : List Addr) := (Keep.refl h0 ([w_d, w_f, o0] : List Addr)).wr W7 (Or.inl (List.mem_of_getElem? (i := 0) rfl))
  have V7 : Arv Z h7 w_d k_d .int (4 : Int32) [(.int d0), (.int d1), (.int d2), (.int p1)] (.int (0 : Int32)) := Arv.set Ar6 aq6 S6 N6 H6 G6 rfl W7 3 rfl (Nat.le_of_ble_eq_true rfl)
  show Go _ _ _ _ _ _ _ (T7.setTop (mkF m 56 #[.val (.ref o0), .val (.int p1), .val (.int p2)] []))
  refine gob (fun _ k => XS.aloadN X7.here hx rfl (hb hby d6_56) rfl rfl k) ?_
  show Go _ _ _ _ _ _ _ (T7.setTop (mkF m 57 #[.val (.ref o0), .val (.int p1), .val (.int p2)] [(.ref o0)]))
  have c10 := (F_frequencies.other W7 (Or.inl ne_o0_w_d))
  obtain ⟨T11, X11, e11, st11⟩ := getF X7 hx hZ hown (host := "") (Or.inl (hw _ (List.mem_of_getElem? (i := 19) rfl))) Via.refl e7 c10 (g := (mkF m 57 #[.val (.ref o0), .val (.int p1), .val (.int p2)] [(.ref o0)])) rfl rfl (hb hby d6_57)
  refine gob st11 ?_
  show Go _ _ _ _ _ _ _ (T11.setTop (mkF m 60 #[.val (.ref o0), .val (.int p1), .val (.int p2)] [(.ref w_f)]))
  refine gob (fun _ k => XS.aloadN X11.here hx rfl (hb hby d6_60) rfl rfl k) ?_
  show Go _ _ _ _ _ _ _ (T11.setTop (mkF m 61 #[.val (.ref o0), .val (.int p1), .val (.int p2)] [(.ref o0), (.ref w_f)]))
  have c12 := (F_size.other W7 (Or.inl ne_o0_w_d))
  obtain ⟨T13, X13, e13, st13⟩ := getF X11 hx hZ hown (host := "") (Or.inl (hw _ (List.mem_of_getElem? (i := 26) rfl))) Via.refl e11 c12 (g := (mkF m 61 #[.val (.ref o0), .val (.int p1), .val (.int p2)] [(.ref o0), (.ref w_f)])) rfl rfl (hb hby d6_61)
  refine gob st13 ?_
  show Go _ _ _ _ _ _ _ (T13.setTop (mkF m 64 #[.val (.ref o0), .val (.int p1), .val (.int p2)] [(.int (3 : Int32)), (.ref w_f)]))
  refine gob (fun _ k => XS.iloadN X13.here hx rfl (hb hby d6_64) rfl k) ?_
  show Go _ _ _ _ _ _ _ (T13.setTop (mkF m 65 #[.val (.ref o0), .val (.int p1), .val (.int p2)] [(.int p2), (.int (3 : Int32)), (.ref w_f)]))
  have c15 := (V_f.other W7 (Ne.symm ne_w_d_w_f))
  obtain ⟨cl14, Ar14, aq14, S14, N14, H14, G14⟩ := id c15
  have hin14 : ¬ ((3 : Int32) < 0 ∨ cl14.slots.size ≤ ((3 : Int32)).toNatClampNeg) := inb_of S14 ⟨by decide, by decide⟩
  obtain ⟨T16, h16, X16, e16, W16, st16⟩ := stI X13 hx hZ e13 Ar14 (j := (3 : Int32)) hin14 (g := (mkF m 65 #[.val (.ref o0), .val (.int p1), .val (.int p2)] [(.int p2), (.int (3 : Int32)), (.ref w_f)])) rfl rfl (hb hby d6_65)
  refine gob st16 ?_
  have z17 : n0 ≤ h16.size := Nat.le_trans z8 (Keep.of_wr W16).1
  have N16 := Fr.snoc X16 N7 g_w_f
  have K18 : Keep h0 h16 ([w_d, w_f, o0] : List Addr) := K9.wr W16 (Or.inl (List.mem_of_getElem? (i := 1) rfl))
  have V16 : Arv Z h16 w_f k_f .int (4 : Int32) [(.int f0), (.int f1), (.int f2), (.int p2)] (.int (0 : Int32)) := Arv.set Ar14 aq14 S14 N14 H14 G14 rfl W16 3 rfl (Nat.le_of_ble_eq_true rfl)
  show Go _ _ _ _ _ _ _ (T16.setTop (mkF m 66 #[.val (.ref o0), .val (.int p1), .val (.int p2)] []))
  refine gob (fun _ k => XS.aloadN X16.here hx rfl (hb hby d6_66) rfl rfl k) ?_
  show Go _ _ _ _ _ _ _ (T16.setTop (mkF m 67 #[.val (.ref o0), .val (.int p1), .val (.int p2)] [(.ref o0)]))
  refine gob (fun _ k => XS.dup X16.here hx rfl (hb hby d6_67) rfl rfl k) ?_
  show Go _ _ _ _ _ _ _ (T16.setTop (mkF m 68 #[.val (.ref o0), .val (.int p1), .val (.int p2)] [(.ref o0), (.ref o0)]))
  have c19 := (c12.other W16 (Or.inl ne_o0_w_f))
  obtain ⟨T20, X20, e20, st20⟩ := getF X16 hx hZ hown (host := "") (Or.inl (hw _ (List.mem_of_getElem? (i := 26) rfl))) Via.refl e16 c19 (g := (mkF m 68 #[.val (.ref o0), .val (.int p1), .val (.int p2)] [(.ref o0), (.ref o0)])) rfl rfl (hb hby d6_68)
  refine gob st20 ?_
  show Go _ _ _ _ _ _ _ (T20.setTop (mkF m 71 #[.val (.ref o0), .val (.int p1), .val (.int p2)] [(.int (3 : Int32)), (.ref o0)]))
  refine gob (fun _ k => XS.iconst X20.here hx rfl (hb hby d6_71) k) ?_
  show Go _ _ _ _ _ _ _ (T20.setTop (mkF m 72 #[.val (.ref o0), .val (.int p1), .val (.int p2)] [(.int (1 : Int32)), (.int (3 : Int32)), (.ref o0)]))
  refine gob (fun _ k => XS.iadd X20.here hx rfl (hb hby d6_72) rfl k) ?_
  show Go _ _ _ _ _ _ _ (T20.setTop (mkF m 73 #[.val (.ref o0), .val (.int p1), .val (.int p2)] [(.int (4 : Int32)), (.ref o0)]))
  have c21 := ((E_o0.wr W7).wr W16)
  obtain ⟨T22, h22, X22, e22, W22, st22⟩ := putF X20 hx hZ hown (host := "") (Or.inl (hw _ (List.mem_of_getElem? (i := 26) rfl))) Via.refl e20 c19 c21 (Or.inl (hw _ (List.mem_of_getElem? (i := 27) rfl))) (hw _ (List.mem_of_getElem? (i := 9) rfl)) (ty := .int) (by decide) rfl rfl (g := (mkF m 73 #[.val (.ref o0), .val (.int p1), .val (.int p2)] [(.int (4 : Int32)), (.ref o0)])) rfl rfl (hb hby d6_73)
  refine gob st22 ?_
  have z23 : n0 ≤ h22.size := Nat.le_trans z17 (Keep.of_wr W22).1
  have N22 := Fr.snoc X22 N16 g_o0
  have K24 : Keep h0 h22 ([w_d, w_f, o0] : List Addr) := K18.wr W22 (Or.inl (List.mem_of_getElem? (i := 2) rfl))
  have Fw22 := c19.same W22
  show Go _ _ _ _ _ _ _ (T22.setTop (mkF m 76 #[.val (.ref o0), .val (.int p1), .val (.int p2)] []))
  refine gob (fun _ k => XS.aloadN X22.here hx rfl (hb hby d6_76) rfl rfl k) ?_
  show Go _ _ _ _ _ _ _ (T22.setTop (mkF m 77 #[.val (.ref o0), .val (.int p1), .val (.int p2)] [(.ref o0)]))
  refine gob (fun _ k => XS.dup X22.here hx rfl (hb hby d6_77) rfl rfl k) ?_
  show Go _ _ _ _ _ _ _ (T22.setTop (mkF m 78 #[.val (.ref o0), .val (.int p1), .val (.int p2)] [(.ref o0), (.ref o0)]))
  have c25 := (((F_collectionFrequency.other W7 (Or.inl ne_o0_w_d)).other W16 (Or.inl ne_o0_w_f)).other W22 (Or.inr (slot_ne (Or.inl (hw _ (List.mem_of_getElem? (i := 34) rfl))) (Or.inl (hw _ (List.mem_of_getElem? (i := 27) rfl))) (by decide) (t := .long) (t' := .int) (by decide) (by decide))))
  obtain ⟨T26, X26, e26, st26⟩ := getF X22 hx hZ hown (host := "") (Or.inl (hw _ (List.mem_of_getElem? (i := 33) rfl))) Via.refl e22 c25 (g := (mkF m 78 #[.val (.ref o0), .val (.int p1), .val (.int p2)] [(.ref o0), (.ref o0)])) rfl rfl (hb hby d6_78)
  refine gob st26 ?_
  show Go _ _ _ _ _ _ _ (T26.setTop (mkF m 81 #[.val (.ref o0), .val (.int p1), .val (.int p2)] [(.long q_c), (.ref o0)]))
  refine gob (fun _ k => XS.iloadN X26.here hx rfl (hb hby d6_81) rfl k) ?_
  show Go _ _ _ _ _ _ _ (T26.setTop (mkF m 82 #[.val (.ref o0), .val (.int p1), .val (.int p2)] [(.int p2), (.long q_c), (.ref o0)]))
  refine gob (fun _ k => XS.i2l X26.here hx rfl (hb hby d6_82) rfl k) ?_
  show Go _ _ _ _ _ _ _ (T26.setTop (mkF m 83 #[.val (.ref o0), .val (.int p1), .val (.int p2)] [(.long (p2.toInt64)), (.long q_c), (.ref o0)]))
  refine gob (fun _ k => XS.ladd X26.here hx rfl (hb hby d6_83) rfl k) ?_
  show Go _ _ _ _ _ _ _ (T26.setTop (mkF m 84 #[.val (.ref o0), .val (.int p1), .val (.int p2)] [(.long (q_c + (p2.toInt64))), (.ref o0)]))
  have c27 := (c21.wr W22)
  obtain ⟨T28, h28, X28, e28, W28, st28⟩ := putF X26 hx hZ hown (host := "") (Or.inl (hw _ (List.mem_of_getElem? (i := 33) rfl))) Via.refl e26 c25 c27 (Or.inl (hw _ (List.mem_of_getElem? (i := 34) rfl))) (hw _ (List.mem_of_getElem? (i := 9) rfl)) (ty := .long) (by decide) rfl rfl (g := (mkF m 84 #[.val (.ref o0), .val (.int p1), .val (.int p2)] [(.long (q_c + (p2.toInt64))), (.ref o0)])) rfl rfl (hb hby d6_84)
  refine gob st28 ?_
  have z29 : n0 ≤ h28.size := Nat.le_trans z23 (Keep.of_wr W28).1
  have N28 := Fr.snoc X28 N22 g_o0
  have K30 : Keep h0 h28 ([w_d, w_f, o0] : List Addr) := K24.wr W28 (Or.inl (List.mem_of_getElem? (i := 2) rfl))
  have Fw28 := c25.same W28
  show Go _ _ _ _ _ _ _ (T28.setTop (mkF m 87 #[.val (.ref o0), .val (.int p1), .val (.int p2)] []))
  refine goV X28 hx hlk Bd.returns (hb hby d6_87) ?_ (by decide) (by decide)
  show Qadd_4_3 Z o0 p1 p2 w_d k_d d0 d1 d2 w_f k_f f0 f1 f2 q_c h0 n0 (none) T28.heap _
  have c31 := ((((F_documents.other W7 (Or.inl ne_o0_w_d)).other W16 (Or.inl ne_o0_w_f)).other W22 (Or.inr (slot_ne (Or.inl (hw _ (List.mem_of_getElem? (i := 18) rfl))) (Or.inl (hw _ (List.mem_of_getElem? (i := 27) rfl))) (by decide) (t := (.array .int)) (t' := .int) (by decide) (by decide)))).other W28 (Or.inr (slot_ne (Or.inl (hw _ (List.mem_of_getElem? (i := 18) rfl))) (Or.inl (hw _ (List.mem_of_getElem? (i := 34) rfl))) (by decide) (t := (.array .int)) (t' := .long) (by decide) (by decide))))
  have c32 := (((V7.other W16 ne_w_d_w_f).other W22 (Ne.symm ne_o0_w_d)).other W28 (Ne.symm ne_o0_w_d))
  have c33 := (((c10.other W16 (Or.inl ne_o0_w_f)).other W22 (Or.inr (slot_ne (Or.inl (hw _ (List.mem_of_getElem? (i := 20) rfl))) (Or.inl (hw _ (List.mem_of_getElem? (i := 27) rfl))) (by decide) (t := (.array .int)) (t' := .int) (by decide) (by decide)))).other W28 (Or.inr (slot_ne (Or.inl (hw _ (List.mem_of_getElem? (i := 20) rfl))) (Or.inl (hw _ (List.mem_of_getElem? (i := 34) rfl))) (by decide) (t := (.array .int)) (t' := .long) (by decide) (by decide))))
  have c34 := ((V16.other W22 (Ne.symm ne_o0_w_f)).other W28 (Ne.symm ne_o0_w_f))
  have c35 := (Fw22.other W28 (Or.inr (slot_ne (Or.inl (hw _ (List.mem_of_getElem? (i := 27) rfl))) (Or.inl (hw _ (List.mem_of_getElem? (i := 34) rfl))) (by decide) (t := .int) (t' := .long) (by decide) (by decide))))
  rw [e28]
  exact ⟨rfl, N28, K30, c31, c32, c33, c34, c35, Fw28⟩
theorem ef_add_4_4 (m : MethodId) (x0 : Addr) (x1 : Int32) (x2 : Int32) : entryFrame m #[(.ref x0), (.int x1), (.int x2)] 3 = mkF m 0 #[.val (.ref x0), .val (.int x1), .val (.int x2)] [] := by first | (simp [entryFrame, mkF, argsToLocals, Value.category]; done) | rfl
def Qadd_4_4 (Z : State) (o0 : Addr) (p1 : Int32) (p2 : Int32) (w_d : Addr) (k_d : ClassId) (d0 : Int32) (d1 : Int32) (d2 : Int32) (d3 : Int32) (w_f : Addr) (k_f : ClassId) (f0 : Int32) (f1 : Int32) (f2 : Int32) (f3 : Int32) (q_c : Int64) (h0 : Heap) (n0 : Nat) (v : Option Value) (h : Heap) (L : List Loc) : Prop := ∃ b7 : Addr, ∃ b28 : Addr, ∃ k8 : ClassId, ∃ k29 : ClassId, v = none ∧ Fr n0 L ∧ Keep h0 h ([o0] : List Addr) ∧ h0.size ≤ b7 ∧ h0.size ≤ b28 ∧ b7 ≠ b28 ∧ Fld Z h o0 "com/example/robust_broker/robustbroker/Postings" "documents" "[I" (.ref b7) ∧ Fld Z h o0 "com/example/robust_broker/robustbroker/Postings" "frequencies" "[I" (.ref b28) ∧ Fld Z h o0 "com/example/robust_broker/robustbroker/Postings" "size" "I" (.int (5 : Int32)) ∧ Fld Z h o0 "com/example/robust_broker/robustbroker/Postings" "collectionFrequency" "J" (.long (q_c + (p2.toInt64))) ∧ Arv Z h b7 k8 .int (8 : Int32) [(.int d0), (.int d1), (.int d2), (.int d3), (.int p1), (.int (0 : Int32)), (.int (0 : Int32)), (.int (0 : Int32))] (.int (0 : Int32)) ∧ Arv Z h b28 k29 .int (8 : Int32) [(.int f0), (.int f1), (.int f2), (.int f3), (.int p2), (.int (0 : Int32)), (.int (0 : Int32)), (.int (0 : Int32))] (.int (0 : Int32))
set_option maxRecDepth 65536 in
set_option maxHeartbeats 40000000 in
theorem rmadd_4_4 (l : Launch) (Z : State) (a0 : Array Value) (hw : ∀ d ∈ tables_1, d.before a0 Z = true) (ws : List Jvm.Cond) (o0 : Addr) (p1 : Int32) (p2 : Int32) (w_d : Addr) (k_d : ClassId) (d0 : Int32) (d1 : Int32) (d2 : Int32) (d3 : Int32) (w_f : Addr) (k_f : ClassId) (f0 : Int32) (f1 : Int32) (f2 : Int32) (f3 : Int32) (q_c : Int64) (h0 : Heap) (n0 : Nat) (Z0 : n0 ≤ h0.size) (F_documents : Fld Z h0 o0 "com/example/robust_broker/robustbroker/Postings" "documents" "[I" (.ref w_d)) (V_d : Arv Z h0 w_d k_d .int (4 : Int32) [(.int d0), (.int d1), (.int d2), (.int d3)] (.int (0 : Int32))) (F_frequencies : Fld Z h0 o0 "com/example/robust_broker/robustbroker/Postings" "frequencies" "[I" (.ref w_f)) (V_f : Arv Z h0 w_f k_f .int (4 : Int32) [(.int f0), (.int f1), (.int f2), (.int f3)] (.int (0 : Int32))) (F_size : Fld Z h0 o0 "com/example/robust_broker/robustbroker/Postings" "size" "I" (.int (4 : Int32))) (F_collectionFrequency : Fld Z h0 o0 "com/example/robust_broker/robustbroker/Postings" "collectionFrequency" "J" (.long q_c)) (ne_o0_w_d : o0 ≠ w_d) (ne_o0_w_f : o0 ≠ w_f) (ne_w_d_w_f : w_d ≠ w_f) (E_o0 : Exa Z h0 o0 "com/example/robust_broker/robustbroker/Postings") (g_o0 : n0 ≤ o0) :
    MetFree l (⟨"com/example/robust_broker/robustbroker/Postings", "add", "(II)V"⟩ : MethodName) (head1 (Jvm.Cond.code (⟨"com/example/robust_broker/robustbroker/Postings", "add", "(II)V"⟩ : MethodName) prog_26_method_2_code 3 none :: ws) ({ frames := 2, cells := 2, slots := 16, locals := 33 } : Room)) (fun a U => a = #[(.ref o0), (.int p1), (.int p2)] ∧ Z.Warmed39 U.vm ∧ U.heap = h0) (fun _ _ _ _ _ => True) (fun _ U o U' => ∃ v L, o = .returned v ∧ Qadd_4_4 Z o0 p1 p2 w_d k_d d0 d1 d2 d3 w_f k_f f0 f1 f2 f3 q_c h0 n0 v U'.heap L ∧ FrameEnd U o U' L ({ frames := 2, cells := 2, slots := 16, locals := 33 } : Room).cells ({ frames := 2, cells := 2, slots := 16, locals := 33 } : Room).slots) := by
  refine MetFree.of_bodySF (plainFor_of_name (by first | (simp [plainName, overriddenIn]; done) | decide +kernel)) hisR ?_
  intro p e s m args below meth c s₁ Bd hml0 hP hK
  obtain ⟨rfl, hZ, hh⟩ := hP
  have hx := Bd.exec
  have hby := Bd.bytes
  have hml : c.maxLocals = 3 := hml0
  have hown : s.vm.findClass "com/example/robust_broker/robustbroker/Postings" = some m.cls := findClass_of_methodNamed Bd.named
  have hnm := (name_of_methodNamed Bd.named Bd.method).1
  have hlk := BodyLoose.notSynchronized Bd
  have X0 : Stand p l e ({ frames := 2, cells := 2, slots := 16, locals := 33 } : Room) s m #[(.ref o0), (.int p1), (.int p2)] below meth c s₁ [] 0 0 := Stand.of_body Bd
  have e0 : s₁.heap = h0 := by rw [← hh, Bd.state]; rfl
  have N0 := Fr.nil n0
  show Go p e below s (Qadd_4_4 Z o0 p1 p2 w_d k_d d0 d1 d2 d3 w_f k_f f0 f1 f2 f3 q_c h0 n0) 2 16 (s₁.setTop (entryFrame m #[(.ref o0), (.int p1), (.int p2)] 3))
  rw [ef_add_4_4]
  show Go _ _ _ _ _ _ _ (s₁.setTop (mkF m 0 #[.val (.ref o0), .val (.int p1), .val (.int p2)] []))
  refine gob (fun _ k => XS.aloadN X0.here hx rfl (hb hby d6_0) rfl rfl k) ?_
  show Go _ _ _ _ _ _ _ (s₁.setTop (mkF m 1 #[.val (.ref o0), .val (.int p1), .val (.int p2)] [(.ref o0)]))
  obtain ⟨T1, X1, e1, st1⟩ := getF X0 hx hZ hown (host := "") (Or.inl (hw _ (List.mem_of_getElem? (i := 26) rfl))) Via.refl e0 F_size (g := (mkF m 1 #[.val (.ref o0), .val (.int p1), .val (.int p2)] [(.ref o0)])) rfl rfl (hb hby d6_1)
  refine gob st1 ?_
  show Go _ _ _ _ _ _ _ (T1.setTop (mkF m 4 #[.val (.ref o0), .val (.int p1), .val (.int p2)] [(.int (4 : Int32))]))
  refine gob (fun _ k => XS.aloadN X1.here hx rfl (hb hby d6_4) rfl rfl k) ?_
  show Go _ _ _ _ _ _ _ (T1.setTop (mkF m 5 #[.val (.ref o0), .val (.int p1), .val (.int p2)] [(.ref o0), (.int (4 : Int32))]))
  obtain ⟨T2, X2, e2, st2⟩ := getF X1 hx hZ hown (host := "") (Or.inl (hw _ (List.mem_of_getElem? (i := 17) rfl))) Via.refl e1 F_documents (g := (mkF m 5 #[.val (.ref o0), .val (.int p1), .val (.int p2)] [(.ref o0), (.int (4 : Int32))])) rfl rfl (hb hby d6_5)
  refine gob st2 ?_
  show Go _ _ _ _ _ _ _ (T2.setTop (mkF m 8 #[.val (.ref o0), .val (.int p1), .val (.int p2)] [(.ref w_d), (.int (4 : Int32))]))
  obtain ⟨cl3, Ar3, aq3, S3, N3, H3, G3⟩ := id V_d
  refine gob (X2.arraylength hx (by rw [e2]; exact Ar3.1) (State.isArrayOf_alike hZ.alike Ar3.2.1) (g := (mkF m 8 #[.val (.ref o0), .val (.int p1), .val (.int p2)] [(.ref w_d), (.int (4 : Int32))])) rfl rfl (hb hby d6_8)) ?_
  rw [len_of S3 N3]
  show Go _ _ _ _ _ _ _ (T2.setTop (mkF m 9 #[.val (.ref o0), .val (.int p1), .val (.int p2)] [(.int (4 : Int32)), (.int (4 : Int32))]))
  refine gob (fun _ k => XS.icmpNo X2.here hx rfl (hb hby d6_9) rfl (teq (by decide : (4 : Int32) = (4 : Int32))).2 k) ?_
  show Go _ _ _ _ _ _ _ (T2.setTop (mkF m 12 #[.val (.ref o0), .val (.int p1), .val (.int p2)] []))
  refine gob (fun _ k => XS.aloadN X2.here hx rfl (hb hby d6_12) rfl rfl k) ?_
  show Go _ _ _ _ _ _ _ (T2.setTop (mkF m 13 #[.val (.ref o0), .val (.int p1), .val (.int p2)] [(.ref o0)]))
  refine gob (fun _ k => XS.aloadN X2.here hx rfl (hb hby d6_13) rfl rfl k) ?_
  show Go _ _ _ _ _ _ _ (T2.setTop (mkF m 14 #[.val (.ref o0), .val (.int p1), .val (.int p2)] [(.ref o0), (.ref o0)]))
  obtain ⟨T4, X4, e4, st4⟩ := getF X2 hx hZ hown (host := "") (Or.inl (hw _ (List.mem_of_getElem? (i := 17) rfl))) Via.refl e2 F_documents (g := (mkF m 14 #[.val (.ref o0), .val (.int p1), .val (.int p2)] [(.ref o0), (.ref o0)])) rfl rfl (hb hby d6_14)
  refine gob st4 ?_
  show Go _ _ _ _ _ _ _ (T4.setTop (mkF m 17 #[.val (.ref o0), .val (.int p1), .val (.int p2)] [(.ref w_d), (.ref o0)]))
  refine gob (fun _ k => XS.aloadN X4.here hx rfl (hb hby d6_17) rfl rfl k) ?_
  show Go _ _ _ _ _ _ _ (T4.setTop (mkF m 18 #[.val (.ref o0), .val (.int p1), .val (.int p2)] [(.ref o0), (.ref w_d), (.ref o0)]))
  obtain ⟨T5, X5, e5, st5⟩ := getF X4 hx hZ hown (host := "") (Or.inl (hw _ (List.mem_of_getElem? (i := 26) rfl))) Via.refl e4 F_size (g := (mkF m 18 #[.val (.ref o0), .val (.int p1), .val (.int p2)] [(.ref o0), (.ref w_d), (.ref o0)])) rfl rfl (hb hby d6_18)
  refine gob st5 ?_
  show Go _ _ _ _ _ _ _ (T5.setTop (mkF m 21 #[.val (.ref o0), .val (.int p1), .val (.int p2)] [(.int (4 : Int32)), (.ref w_d), (.ref o0)]))
  refine gob (fun _ k => XS.iconst X5.here hx rfl (hb hby d6_21) k) ?_
  show Go _ _ _ _ _ _ _ (T5.setTop (mkF m 22 #[.val (.ref o0), .val (.int p1), .val (.int p2)] [(.int (2 : Int32)), (.int (4 : Int32)), (.ref w_d), (.ref o0)]))
  refine gob (fun _ k => XS.imul X5.here hx rfl (hb hby d6_22) rfl k) ?_
  show Go _ _ _ _ _ _ _ (T5.setTop (mkF m 23 #[.val (.ref o0), .val (.int p1), .val (.int p2)] [(.int (8 : Int32)), (.ref w_d), (.ref o0)]))
  obtain ⟨_, _, ⟨T6, L6, k6, n6⟩, -, X6, ⟨Lc6, hQ6, l6, y6, z6⟩, st6⟩ := Jvm.LawKit.callS X5 hx (y := (⟨"java/util/Arrays", "copyOf", "([II)[I"⟩ : MethodName)) hown (mvT hZ (hw _ (List.mem_of_getElem? (i := 40) rfl))) (mvT hZ (hw _ (List.mem_of_getElem? (i := 41) rfl))) (mvT hZ (hw _ (List.mem_of_getElem? (i := 42) rfl))) (mvT hZ (hw _ (List.mem_of_getElem? (i := 43) rfl))) (by decide) (backOf (W := 1) (rmcp_4_4_8 l Z a0 hw [] w_d k_d d0 d1 d2 d3 h0 n0 Z0 V_d) hZ (hw _ (List.mem_of_getElem? (i := 43) rfl)) (hw _ (List.mem_of_getElem? (i := 42) rfl)) (by decide) (by decide)) (g := (mkF m 23 #[.val (.ref o0), .val (.int p1), .val (.int p2)] [(.int (8 : Int32)), (.ref w_d), (.ref o0)])) rfl (by rw [hml]; rfl) (argsL := [(.ref w_d), (.int (8 : Int32))]) (rest := [(.ref o0)]) (lenOf pd_1 rfl) rfl (by show 2 * 0 + _ ≤ _; exact Nat.le_of_eq rfl) (hb hby d6_23) (fun _ _ => ⟨rfl, e5, (by decide : 0 + 1 ≤ _), (by decide : 0 + 8 ≤ _)⟩)
  dsimp only [Pt.U, Pt.locs, Pt.cells, Pt.slots] at X6 l6 y6 z6 st6 hQ6
  replace X6 := castX X6 (y6.trans (rfl : _ = 1)) (z6.trans (rfl : _ = 8))
  obtain ⟨b7, k8, rfl, Nq6, K6, hz9, F10⟩ := hQ6
  have N6 : Fr n0 L6 := l6 ▸ Fr.app N0 Nq6
  have n11 : o0 ≠ b7 := Nat.ne_of_lt (Nat.lt_of_lt_of_le F_documents.lt hz9)
  have n12 : w_d ≠ b7 := Nat.ne_of_lt (Nat.lt_of_lt_of_le V_d.lt hz9)
  have n13 : w_f ≠ b7 := Nat.ne_of_lt (Nat.lt_of_lt_of_le V_f.lt hz9)
  have g14 : n0 ≤ b7 := Nat.le_trans Z0 hz9
  have sz_b7 : h0.size ≤ b7 := Nat.le_trans (Keep.refl h0 []).1 hz9
  have z15 : n0 ≤ T6.heap.size := Nat.le_trans Z0 K6.1
  have K16 : Keep h0 T6.heap ([o0] : List Addr) := (Keep.refl h0 ([o0] : List Addr)).trans K6 all0
  refine gob st6 ?_
  show Go _ _ _ _ _ _ _ (T6.setTop (mkF m 26 #[.val (.ref o0), .val (.int p1), .val (.int p2)] [(.ref b7), (.ref o0)]))
  have c17 := (F_documents.keep K6 nin0)
  have c18 := (E_o0.keep K6)
  obtain ⟨T19, h19, X19, e19, W19, st19⟩ := putF X6 hx hZ hown (host := "") (Or.inl (hw _ (List.mem_of_getElem? (i := 17) rfl))) Via.refl (rfl : T6.heap = _) c17 c18 (Or.inl (hw _ (List.mem_of_getElem? (i := 18) rfl))) (hw _ (List.mem_of_getElem? (i := 9) rfl)) (ty := (.array .int)) (by decide) rfl rfl (g := (mkF m 26 #[.val (.ref o0), .val (.int p1), .val (.int p2)] [(.ref b7), (.ref o0)])) rfl rfl (hb hby d6_26)
  refine gob st19 ?_
  have z20 : n0 ≤ h19.size := Nat.le_trans z15 (Keep.of_wr W19).1
  have N19 := Fr.snoc X19 N6 g_o0
  have K21 : Keep h0 h19 ([o0] : List Addr) := K16.wr W19 (Or.inl (List.mem_of_getElem? (i := 0) rfl))
  have Fw19 := c17.same W19
  show Go _ _ _ _ _ _ _ (T19.setTop (mkF m 29 #[.val (.ref o0), .val (.int p1), .val (.int p2)] []))
  refine gob (fun _ k => XS.aloadN X19.here hx rfl (hb hby d6_29) rfl rfl k) ?_
  show Go _ _ _ _ _ _ _ (T19.setTop (mkF m 30 #[.val (.ref o0), .val (.int p1), .val (.int p2)] [(.ref o0)]))
  refine gob (fun _ k => XS.aloadN X19.here hx rfl (hb hby d6_30) rfl rfl k) ?_
  show Go _ _ _ _ _ _ _ (T19.setTop (mkF m 31 #[.val (.ref o0), .val (.int p1), .val (.int p2)] [(.ref o0), (.ref o0)]))
  have c22 := ((F_frequencies.keep K6 nin0).other W19 (Or.inr (slot_ne (Or.inl (hw _ (List.mem_of_getElem? (i := 20) rfl))) (Or.inl (hw _ (List.mem_of_getElem? (i := 18) rfl))) (by decide) (t := (.array .int)) (t' := (.array .int)) (by decide) (by decide))))
  obtain ⟨T23, X23, e23, st23⟩ := getF X19 hx hZ hown (host := "") (Or.inl (hw _ (List.mem_of_getElem? (i := 19) rfl))) Via.refl e19 c22 (g := (mkF m 31 #[.val (.ref o0), .val (.int p1), .val (.int p2)] [(.ref o0), (.ref o0)])) rfl rfl (hb hby d6_31)
  refine gob st23 ?_
  show Go _ _ _ _ _ _ _ (T23.setTop (mkF m 34 #[.val (.ref o0), .val (.int p1), .val (.int p2)] [(.ref w_f), (.ref o0)]))
  refine gob (fun _ k => XS.aloadN X23.here hx rfl (hb hby d6_34) rfl rfl k) ?_
  show Go _ _ _ _ _ _ _ (T23.setTop (mkF m 35 #[.val (.ref o0), .val (.int p1), .val (.int p2)] [(.ref o0), (.ref w_f), (.ref o0)]))
  have c24 := ((F_size.keep K6 nin0).other W19 (Or.inr (slot_ne (Or.inl (hw _ (List.mem_of_getElem? (i := 27) rfl))) (Or.inl (hw _ (List.mem_of_getElem? (i := 18) rfl))) (by decide) (t := .int) (t' := (.array .int)) (by decide) (by decide))))
  obtain ⟨T25, X25, e25, st25⟩ := getF X23 hx hZ hown (host := "") (Or.inl (hw _ (List.mem_of_getElem? (i := 26) rfl))) Via.refl e23 c24 (g := (mkF m 35 #[.val (.ref o0), .val (.int p1), .val (.int p2)] [(.ref o0), (.ref w_f), (.ref o0)])) rfl rfl (hb hby d6_35)
  refine gob st25 ?_
  show Go _ _ _ _ _ _ _ (T25.setTop (mkF m 38 #[.val (.ref o0), .val (.int p1), .val (.int p2)] [(.int (4 : Int32)), (.ref w_f), (.ref o0)]))
  refine gob (fun _ k => XS.iconst X25.here hx rfl (hb hby d6_38) k) ?_
  show Go _ _ _ _ _ _ _ (T25.setTop (mkF m 39 #[.val (.ref o0), .val (.int p1), .val (.int p2)] [(.int (2 : Int32)), (.int (4 : Int32)), (.ref w_f), (.ref o0)]))
  refine gob (fun _ k => XS.imul X25.here hx rfl (hb hby d6_39) rfl k) ?_
  show Go _ _ _ _ _ _ _ (T25.setTop (mkF m 40 #[.val (.ref o0), .val (.int p1), .val (.int p2)] [(.int (8 : Int32)), (.ref w_f), (.ref o0)]))
  have c27 := ((V_f.keep K6 nin0).other W19 (Ne.symm ne_o0_w_f))
  obtain ⟨_, _, ⟨T26, L26, k26, n26⟩, -, X26, ⟨Lc26, hQ26, l26, y26, z26⟩, st26⟩ := Jvm.LawKit.callS X25 hx (y := (⟨"java/util/Arrays", "copyOf", "([II)[I"⟩ : MethodName)) hown (mvT hZ (hw _ (List.mem_of_getElem? (i := 40) rfl))) (mvT hZ (hw _ (List.mem_of_getElem? (i := 41) rfl))) (mvT hZ (hw _ (List.mem_of_getElem? (i := 42) rfl))) (mvT hZ (hw _ (List.mem_of_getElem? (i := 43) rfl))) (by decide) (backOf (W := 1) (rmcp_4_4_8 l Z a0 hw [] w_f k_f f0 f1 f2 f3 h19 n0 z20 c27) hZ (hw _ (List.mem_of_getElem? (i := 43) rfl)) (hw _ (List.mem_of_getElem? (i := 42) rfl)) (by decide) (by decide)) (g := (mkF m 40 #[.val (.ref o0), .val (.int p1), .val (.int p2)] [(.int (8 : Int32)), (.ref w_f), (.ref o0)])) rfl (by rw [hml]; rfl) (argsL := [(.ref w_f), (.int (8 : Int32))]) (rest := [(.ref o0)]) (lenOf pd_1 rfl) rfl (by show 2 * 0 + _ ≤ _; exact Nat.le_of_eq rfl) (hb hby d6_40) (fun _ _ => ⟨rfl, e25, (by decide : 1 + 1 ≤ _), (by decide : 8 + 8 ≤ _)⟩)
  dsimp only [Pt.U, Pt.locs, Pt.cells, Pt.slots] at X26 l26 y26 z26 st26 hQ26
  replace X26 := castX X26 (y26.trans (rfl : _ = 2)) (z26.trans (rfl : _ = 16))
  obtain ⟨b28, k29, rfl, Nq26, K26, hz30, F31⟩ := hQ26
  have N26 : Fr n0 L26 := l26 ▸ Fr.app N19 Nq26
  have n32 : o0 ≠ b28 := Nat.ne_of_lt (Nat.lt_of_lt_of_le Fw19.lt hz30)
  have c34 := ((V_d.keep K6 nin0).other W19 (Ne.symm ne_o0_w_d))
  have n33 : w_d ≠ b28 := Nat.ne_of_lt (Nat.lt_of_lt_of_le c34.lt hz30)
  have n35 : w_f ≠ b28 := Nat.ne_of_lt (Nat.lt_of_lt_of_le c27.lt hz30)
  have c37 := (F10.other W19 (Ne.symm n11))
  have n36 : b7 ≠ b28 := Nat.ne_of_lt (Nat.lt_of_lt_of_le c37.lt hz30)
  have g38 : n0 ≤ b28 := Nat.le_trans z20 hz30
  have sz_b28 : h0.size ≤ b28 := Nat.le_trans K21.1 hz30
  have z39 : n0 ≤ T26.heap.size := Nat.le_trans z20 K26.1
  have K40 : Keep h0 T26.heap ([o0] : List Addr) := K21.trans K26 all0
  refine gob st26 ?_
  show Go _ _ _ _ _ _ _ (T26.setTop (mkF m 43 #[.val (.ref o0), .val (.int p1), .val (.int p2)] [(.ref b28), (.ref o0)]))
  have c41 := (c22.keep K26 nin0)
  have c42 := ((c18.wr W19).keep K26)
  obtain ⟨T43, h43, X43, e43, W43, st43⟩ := putF X26 hx hZ hown (host := "") (Or.inl (hw _ (List.mem_of_getElem? (i := 19) rfl))) Via.refl (rfl : T26.heap = _) c41 c42 (Or.inl (hw _ (List.mem_of_getElem? (i := 20) rfl))) (hw _ (List.mem_of_getElem? (i := 9) rfl)) (ty := (.array .int)) (by decide) rfl rfl (g := (mkF m 43 #[.val (.ref o0), .val (.int p1), .val (.int p2)] [(.ref b28), (.ref o0)])) rfl rfl (hb hby d6_43)
  refine gob st43 ?_
  have z44 : n0 ≤ h43.size := Nat.le_trans z39 (Keep.of_wr W43).1
  have N43 := Fr.snoc X43 N26 g_o0
  have K45 : Keep h0 h43 ([o0] : List Addr) := K40.wr W43 (Or.inl (List.mem_of_getElem? (i := 0) rfl))
  have Fw43 := c41.same W43
  show Go _ _ _ _ _ _ _ (T43.setTop (mkF m 46 #[.val (.ref o0), .val (.int p1), .val (.int p2)] []))
  refine gob (fun _ k => XS.aloadN X43.here hx rfl (hb hby d6_46) rfl rfl k) ?_
  show Go _ _ _ _ _ _ _ (T43.setTop (mkF m 47 #[.val (.ref o0), .val (.int p1), .val (.int p2)] [(.ref o0)]))
  have c46 := ((Fw19.keep K26 nin0).other W43 (Or.inr (slot_ne (Or.inl (hw _ (List.mem_of_getElem? (i := 18) rfl))) (Or.inl (hw _ (List.mem_of_getElem? (i := 20) rfl))) (by decide) (t := (.array .int)) (t' := (.array .int)) (by decide) (by decide))))
  obtain ⟨T47, X47, e47, st47⟩ := getF X43 hx hZ hown (host := "") (Or.inl (hw _ (List.mem_of_getElem? (i := 17) rfl))) Via.refl e43 c46 (g := (mkF m 47 #[.val (.ref o0), .val (.int p1), .val (.int p2)] [(.ref o0)])) rfl rfl (hb hby d6_47)
  refine gob st47 ?_
  show Go _ _ _ _ _ _ _ (T47.setTop (mkF m 50 #[.val (.ref o0), .val (.int p1), .val (.int p2)] [(.ref b7)]))
  refine gob (fun _ k => XS.aloadN X47.here hx rfl (hb hby d6_50) rfl rfl k) ?_
  show Go _ _ _ _ _ _ _ (T47.setTop (mkF m 51 #[.val (.ref o0), .val (.int p1), .val (.int p2)] [(.ref o0), (.ref b7)]))
  have c48 := ((c24.keep K26 nin0).other W43 (Or.inr (slot_ne (Or.inl (hw _ (List.mem_of_getElem? (i := 27) rfl))) (Or.inl (hw _ (List.mem_of_getElem? (i := 20) rfl))) (by decide) (t := .int) (t' := (.array .int)) (by decide) (by decide))))
  obtain ⟨T49, X49, e49, st49⟩ := getF X47 hx hZ hown (host := "") (Or.inl (hw _ (List.mem_of_getElem? (i := 26) rfl))) Via.refl e47 c48 (g := (mkF m 51 #[.val (.ref o0), .val (.int p1), .val (.int p2)] [(.ref o0), (.ref b7)])) rfl rfl (hb hby d6_51)
  refine gob st49 ?_
  show Go _ _ _ _ _ _ _ (T49.setTop (mkF m 54 #[.val (.ref o0), .val (.int p1), .val (.int p2)] [(.int (4 : Int32)), (.ref b7)]))
  refine gob (fun _ k => XS.iloadN X49.here hx rfl (hb hby d6_54) rfl k) ?_
  show Go _ _ _ _ _ _ _ (T49.setTop (mkF m 55 #[.val (.ref o0), .val (.int p1), .val (.int p2)] [(.int p1), (.int (4 : Int32)), (.ref b7)]))
  have c51 := ((c37.keep K26 nin0).other W43 (Ne.symm n11))
  obtain ⟨cl50, Ar50, aq50, S50, N50, H50, G50⟩ := id c51
  have hin50 : ¬ ((4 : Int32) < 0 ∨ cl50.slots.size ≤ ((4 : Int32)).toNatClampNeg) := inb_of S50 ⟨by decide, by decide⟩
  obtain ⟨T52, h52, X52, e52, W52, st52⟩ := stI X49 hx hZ e49 Ar50 (j := (4 : Int32)) hin50 (g := (mkF m 55 #[.val (.ref o0), .val (.int p1), .val (.int p2)] [(.int p1), (.int (4 : Int32)), (.ref b7)])) rfl rfl (hb hby d6_55)
  refine gob st52 ?_
  have z53 : n0 ≤ h52.size := Nat.le_trans z44 (Keep.of_wr W52).1
  have N52 := Fr.snoc X52 N43 g14
  have K54 : Keep h0 h52 ([o0] : List Addr) := K45.wr W52 (Or.inr sz_b7)
  have V52 : Arv Z h52 b7 k8 .int (8 : Int32) [(.int d0), (.int d1), (.int d2), (.int d3), (.int p1), (.int (0 : Int32)), (.int (0 : Int32)), (.int (0 : Int32))] (.int (0 : Int32)) := Arv.set Ar50 aq50 S50 N50 H50 G50 rfl W52 4 rfl (Nat.le_of_ble_eq_true rfl)
  show Go _ _ _ _ _ _ _ (T52.setTop (mkF m 56 #[.val (.ref o0), .val (.int p1), .val (.int p2)] []))
  refine gob (fun _ k => XS.aloadN X52.here hx rfl (hb hby d6_56) rfl rfl k) ?_
  show Go _ _ _ _ _ _ _ (T52.setTop (mkF m 57 #[.val (.ref o0), .val (.int p1), .val (.int p2)] [(.ref o0)]))
  have c55 := (Fw43.other W52 (Or.inl n11))
  obtain ⟨T56, X56, e56, st56⟩ := getF X52 hx hZ hown (host := "") (Or.inl (hw _ (List.mem_of_getElem? (i := 19) rfl))) Via.refl e52 c55 (g := (mkF m 57 #[.val (.ref o0), .val (.int p1), .val (.int p2)] [(.ref o0)])) rfl rfl (hb hby d6_57)
  refine gob st56 ?_
  show Go _ _ _ _ _ _ _ (T56.setTop (mkF m 60 #[.val (.ref o0), .val (.int p1), .val (.int p2)] [(.ref b28)]))
  refine gob (fun _ k => XS.aloadN X56.here hx rfl (hb hby d6_60) rfl rfl k) ?_
  show Go _ _ _ _ _ _ _ (T56.setTop (mkF m 61 #[.val (.ref o0), .val (.int p1), .val (.int p2)] [(.ref o0), (.ref b28)]))
  have c57 := (c48.other W52 (Or.inl n11))
  obtain ⟨T58, X58, e58, st58⟩ := getF X56 hx hZ hown (host := "") (Or.inl (hw _ (List.mem_of_getElem? (i := 26) rfl))) Via.refl e56 c57 (g := (mkF m 61 #[.val (.ref o0), .val (.int p1), .val (.int p2)] [(.ref o0), (.ref b28)])) rfl rfl (hb hby d6_61)
  refine gob st58 ?_
  show Go _ _ _ _ _ _ _ (T58.setTop (mkF m 64 #[.val (.ref o0), .val (.int p1), .val (.int p2)] [(.int (4 : Int32)), (.ref b28)]))
  refine gob (fun _ k => XS.iloadN X58.here hx rfl (hb hby d6_64) rfl k) ?_
  show Go _ _ _ _ _ _ _ (T58.setTop (mkF m 65 #[.val (.ref o0), .val (.int p1), .val (.int p2)] [(.int p2), (.int (4 : Int32)), (.ref b28)]))
  have c60 := ((F31.other W43 (Ne.symm n32)).other W52 (Ne.symm n36))
  obtain ⟨cl59, Ar59, aq59, S59, N59, H59, G59⟩ := id c60
  have hin59 : ¬ ((4 : Int32) < 0 ∨ cl59.slots.size ≤ ((4 : Int32)).toNatClampNeg) := inb_of S59 ⟨by decide, by decide⟩
  obtain ⟨T61, h61, X61, e61, W61, st61⟩ := stI X58 hx hZ e58 Ar59 (j := (4 : Int32)) hin59 (g := (mkF m 65 #[.val (.ref o0), .val (.int p1), .val (.int p2)] [(.int p2), (.int (4 : Int32)), (.ref b28)])) rfl rfl (hb hby d6_65)
  refine gob st61 ?_
  have z62 : n0 ≤ h61.size := Nat.le_trans z53 (Keep.of_wr W61).1
  have N61 := Fr.snoc X61 N52 g38
  have K63 : Keep h0 h61 ([o0] : List Addr) := K54.wr W61 (Or.inr sz_b28)
  have V61 : Arv Z h61 b28 k29 .int (8 : Int32) [(.int f0), (.int f1), (.int f2), (.int f3), (.int p2), (.int (0 : Int32)), (.int (0 : Int32)), (.int (0 : Int32))] (.int (0 : Int32)) := Arv.set Ar59 aq59 S59 N59 H59 G59 rfl W61 4 rfl (Nat.le_of_ble_eq_true rfl)
  show Go _ _ _ _ _ _ _ (T61.setTop (mkF m 66 #[.val (.ref o0), .val (.int p1), .val (.int p2)] []))
  refine gob (fun _ k => XS.aloadN X61.here hx rfl (hb hby d6_66) rfl rfl k) ?_
  show Go _ _ _ _ _ _ _ (T61.setTop (mkF m 67 #[.val (.ref o0), .val (.int p1), .val (.int p2)] [(.ref o0)]))
  refine gob (fun _ k => XS.dup X61.here hx rfl (hb hby d6_67) rfl rfl k) ?_
  show Go _ _ _ _ _ _ _ (T61.setTop (mkF m 68 #[.val (.ref o0), .val (.int p1), .val (.int p2)] [(.ref o0), (.ref o0)]))
  have c64 := (c57.other W61 (Or.inl n32))
  obtain ⟨T65, X65, e65, st65⟩ := getF X61 hx hZ hown (host := "") (Or.inl (hw _ (List.mem_of_getElem? (i := 26) rfl))) Via.refl e61 c64 (g := (mkF m 68 #[.val (.ref o0), .val (.int p1), .val (.int p2)] [(.ref o0), (.ref o0)])) rfl rfl (hb hby d6_68)
  refine gob st65 ?_
  show Go _ _ _ _ _ _ _ (T65.setTop (mkF m 71 #[.val (.ref o0), .val (.int p1), .val (.int p2)] [(.int (4 : Int32)), (.ref o0)]))
  refine gob (fun _ k => XS.iconst X65.here hx rfl (hb hby d6_71) k) ?_
  show Go _ _ _ _ _ _ _ (T65.setTop (mkF m 72 #[.val (.ref o0), .val (.int p1), .val (.int p2)] [(.int (1 : Int32)), (.int (4 : Int32)), (.ref o0)]))
  refine gob (fun _ k => XS.iadd X65.here hx rfl (hb hby d6_72) rfl k) ?_
  show Go _ _ _ _ _ _ _ (T65.setTop (mkF m 73 #[.val (.ref o0), .val (.int p1), .val (.int p2)] [(.int (5 : Int32)), (.ref o0)]))
  have c66 := (((c42.wr W43).wr W52).wr W61)
  obtain ⟨T67, h67, X67, e67, W67, st67⟩ := putF X65 hx hZ hown (host := "") (Or.inl (hw _ (List.mem_of_getElem? (i := 26) rfl))) Via.refl e65 c64 c66 (Or.inl (hw _ (List.mem_of_getElem? (i := 27) rfl))) (hw _ (List.mem_of_getElem? (i := 9) rfl)) (ty := .int) (by decide) rfl rfl (g := (mkF m 73 #[.val (.ref o0), .val (.int p1), .val (.int p2)] [(.int (5 : Int32)), (.ref o0)])) rfl rfl (hb hby d6_73)
  refine gob st67 ?_
  have z68 : n0 ≤ h67.size := Nat.le_trans z62 (Keep.of_wr W67).1
  have N67 := Fr.snoc X67 N61 g_o0
  have K69 : Keep h0 h67 ([o0] : List Addr) := K63.wr W67 (Or.inl (List.mem_of_getElem? (i := 0) rfl))
  have Fw67 := c64.same W67
  show Go _ _ _ _ _ _ _ (T67.setTop (mkF m 76 #[.val (.ref o0), .val (.int p1), .val (.int p2)] []))
  refine gob (fun _ k => XS.aloadN X67.here hx rfl (hb hby d6_76) rfl rfl k) ?_
  show Go _ _ _ _ _ _ _ (T67.setTop (mkF m 77 #[.val (.ref o0), .val (.int p1), .val (.int p2)] [(.ref o0)]))
  refine gob (fun _ k => XS.dup X67.here hx rfl (hb hby d6_77) rfl rfl k) ?_
  show Go _ _ _ _ _ _ _ (T67.setTop (mkF m 78 #[.val (.ref o0), .val (.int p1), .val (.int p2)] [(.ref o0), (.ref o0)]))
  have c70 := (((((((F_collectionFrequency.keep K6 nin0).other W19 (Or.inr (slot_ne (Or.inl (hw _ (List.mem_of_getElem? (i := 34) rfl))) (Or.inl (hw _ (List.mem_of_getElem? (i := 18) rfl))) (by decide) (t := .long) (t' := (.array .int)) (by decide) (by decide)))).keep K26 nin0).other W43 (Or.inr (slot_ne (Or.inl (hw _ (List.mem_of_getElem? (i := 34) rfl))) (Or.inl (hw _ (List.mem_of_getElem? (i := 20) rfl))) (by decide) (t := .long) (t' := (.array .int)) (by decide) (by decide)))).other W52 (Or.inl n11)).other W61 (Or.inl n32)).other W67 (Or.inr (slot_ne (Or.inl (hw _ (List.mem_of_getElem? (i := 34) rfl))) (Or.inl (hw _ (List.mem_of_getElem? (i := 27) rfl))) (by decide) (t := .long) (t' := .int) (by decide) (by decide))))
  obtain ⟨T71, X71, e71, st71⟩ := getF X67 hx hZ hown (host := "") (Or.inl (hw _ (List.mem_of_getElem? (i := 33) rfl))) Via.refl e67 c70 (g := (mkF m 78 #[.val (.ref o0), .val (.int p1), .val (.int p2)] [(.ref o0), (.ref o0)])) rfl rfl (hb hby d6_78)
  refine gob st71 ?_
  show Go _ _ _ _ _ _ _ (T71.setTop (mkF m 81 #[.val (.ref o0), .val (.int p1), .val (.int p2)] [(.long q_c), (.ref o0)]))
  refine gob (fun _ k => XS.iloadN X71.here hx rfl (hb hby d6_81) rfl k) ?_
  show Go _ _ _ _ _ _ _ (T71.setTop (mkF m 82 #[.val (.ref o0), .val (.int p1), .val (.int p2)] [(.int p2), (.long q_c), (.ref o0)]))
  refine gob (fun _ k => XS.i2l X71.here hx rfl (hb hby d6_82) rfl k) ?_
  show Go _ _ _ _ _ _ _ (T71.setTop (mkF m 83 #[.val (.ref o0), .val (.int p1), .val (.int p2)] [(.long (p2.toInt64)), (.long q_c), (.ref o0)]))
  refine gob (fun _ k => XS.ladd X71.here hx rfl (hb hby d6_83) rfl k) ?_
  show Go _ _ _ _ _ _ _ (T71.setTop (mkF m 84 #[.val (.ref o0), .val (.int p1), .val (.int p2)] [(.long (q_c + (p2.toInt64))), (.ref o0)]))
  have c72 := (c66.wr W67)
  obtain ⟨T73, h73, X73, e73, W73, st73⟩ := putF X71 hx hZ hown (host := "") (Or.inl (hw _ (List.mem_of_getElem? (i := 33) rfl))) Via.refl e71 c70 c72 (Or.inl (hw _ (List.mem_of_getElem? (i := 34) rfl))) (hw _ (List.mem_of_getElem? (i := 9) rfl)) (ty := .long) (by decide) rfl rfl (g := (mkF m 84 #[.val (.ref o0), .val (.int p1), .val (.int p2)] [(.long (q_c + (p2.toInt64))), (.ref o0)])) rfl rfl (hb hby d6_84)
  refine gob st73 ?_
  have z74 : n0 ≤ h73.size := Nat.le_trans z68 (Keep.of_wr W73).1
  have N73 := Fr.snoc X73 N67 g_o0
  have K75 : Keep h0 h73 ([o0] : List Addr) := K69.wr W73 (Or.inl (List.mem_of_getElem? (i := 0) rfl))
  have Fw73 := c70.same W73
  show Go _ _ _ _ _ _ _ (T73.setTop (mkF m 87 #[.val (.ref o0), .val (.int p1), .val (.int p2)] []))
  refine goV X73 hx hlk Bd.returns (hb hby d6_87) ?_ (by decide) (by decide)
  show Qadd_4_4 Z o0 p1 p2 w_d k_d d0 d1 d2 d3 w_f k_f f0 f1 f2 f3 q_c h0 n0 (none) T73.heap _
  have c76 := ((((c46.other W52 (Or.inl n11)).other W61 (Or.inl n32)).other W67 (Or.inr (slot_ne (Or.inl (hw _ (List.mem_of_getElem? (i := 18) rfl))) (Or.inl (hw _ (List.mem_of_getElem? (i := 27) rfl))) (by decide) (t := (.array .int)) (t' := .int) (by decide) (by decide)))).other W73 (Or.inr (slot_ne (Or.inl (hw _ (List.mem_of_getElem? (i := 18) rfl))) (Or.inl (hw _ (List.mem_of_getElem? (i := 34) rfl))) (by decide) (t := (.array .int)) (t' := .long) (by decide) (by decide))))
  have c77 := (((c55.other W61 (Or.inl n32)).other W67 (Or.inr (slot_ne (Or.inl (hw _ (List.mem_of_getElem? (i := 20) rfl))) (Or.inl (hw _ (List.mem_of_getElem? (i := 27) rfl))) (by decide) (t := (.array .int)) (t' := .int) (by decide) (by decide)))).other W73 (Or.inr (slot_ne (Or.inl (hw _ (List.mem_of_getElem? (i := 20) rfl))) (Or.inl (hw _ (List.mem_of_getElem? (i := 34) rfl))) (by decide) (t := (.array .int)) (t' := .long) (by decide) (by decide))))
  have c78 := (Fw67.other W73 (Or.inr (slot_ne (Or.inl (hw _ (List.mem_of_getElem? (i := 27) rfl))) (Or.inl (hw _ (List.mem_of_getElem? (i := 34) rfl))) (by decide) (t := .int) (t' := .long) (by decide) (by decide))))
  have c79 := (((V52.other W61 n36).other W67 (Ne.symm n11)).other W73 (Ne.symm n11))
  have c80 := ((V61.other W67 (Ne.symm n32)).other W73 (Ne.symm n32))
  rw [e73]
  exact ⟨b7, b28, k8, k29, rfl, N73, K75, sz_b7, sz_b28, n36, c76, c77, c78, Fw73, c79, c80⟩
theorem d9_0 : decode prog_26_method_5_code 0 = .ok (.aload_n 0, 1) := by decide +kernel
theorem d9_1 : decode prog_26_method_5_code 1 = .ok (.getfield 7, 3) := by decide +kernel
theorem d9_4 : decode prog_26_method_5_code 4 = .ok (.iload_n 1, 1) := by decide +kernel
theorem d9_5 : decode prog_26_method_5_code 5 = .ok (.iaload, 1) := by decide +kernel
theorem d9_6 : decode prog_26_method_5_code 6 = .ok (.ireturn, 1) := by decide +kernel
theorem ef_doc_2_1 (m : MethodId) (x0 : Addr) (x1 : Int32) : entryFrame m #[(.ref x0), (.int x1)] 2 = mkF m 0 #[.val (.ref x0), .val (.int x1)] [] := by first | (simp [entryFrame, mkF, argsToLocals, Value.category]; done) | rfl
def Qdoc_2_1 (Z : State) (o0 : Addr) (p1 : Int32) (w_d : Addr) (k_d : ClassId) (d0 : Int32) (h0 : Heap) (n0 : Nat) (v : Option Value) (h : Heap) (L : List Loc) : Prop := ∃ r : Int32, v = some (.int r) ∧ ((p1.toInt = 0 ∧ r = d0)) ∧ Fr n0 L ∧ h = h0
theorem lf_doc_2_1_0 (p1 : Int32) (d0 : Int32) (w3 : Int32) (hj1 : 0 ≤ p1.toInt) (hj2 : p1.toInt < 1) (hw3 : (p1.toInt = 0 ∧ w3 = d0) ∨ (p1.toInt = 1 ∧ w3 = (0 : Int32))) : (p1.toInt = 0 ∧ w3 = d0) := by
  have := rng32 p1
  have := rng32 d0
  have := rng32 w3
  have : (0 : Int32).toInt = 0 := by decide
  try (simp only [Int32.lt_iff_toInt_lt, Int32.le_iff_toInt_le, Int64.lt_iff_toInt_lt, Int64.le_iff_toInt_le, ← Int32.toInt_inj, ← Int64.toInt_inj, ne_eq] at *)
  omega
set_option maxRecDepth 65536 in
set_option maxHeartbeats 40000000 in
theorem rmdoc_2_1 (l : Launch) (Z : State) (a0 : Array Value) (hw : ∀ d ∈ tables_1, d.before a0 Z = true) (ws : List Jvm.Cond) (o0 : Addr) (p1 : Int32) (w_d : Addr) (k_d : ClassId) (d0 : Int32) (h0 : Heap) (n0 : Nat) (Z0 : n0 ≤ h0.size) (F_documents : Fld Z h0 o0 "com/example/robust_broker/robustbroker/Postings" "documents" "[I" (.ref w_d)) (V_d : Arv Z h0 w_d k_d .int (2 : Int32) [(.int d0), (.int (0 : Int32))] (.int (0 : Int32))) (hj1 : 0 ≤ p1.toInt) (hj2 : p1.toInt < 1) :
    MetFree l (⟨"com/example/robust_broker/robustbroker/Postings", "document", "(I)I"⟩ : MethodName) (head1 (Jvm.Cond.code (⟨"com/example/robust_broker/robustbroker/Postings", "document", "(I)I"⟩ : MethodName) prog_26_method_5_code 2 (some .int) :: ws) ({ frames := 0, cells := 0, slots := 0, locals := 0 } : Room)) (fun a U => a = #[(.ref o0), (.int p1)] ∧ Z.Warmed39 U.vm ∧ U.heap = h0) (fun _ _ _ _ _ => True) (fun _ U o U' => ∃ v L, o = .returned v ∧ Qdoc_2_1 Z o0 p1 w_d k_d d0 h0 n0 v U'.heap L ∧ FrameEnd U o U' L ({ frames := 0, cells := 0, slots := 0, locals := 0 } : Room).cells ({ frames := 0, cells := 0, slots := 0, locals := 0 } : Room).slots) := by
  refine MetFree.of_bodySF (plainFor_of_name (by first | (simp [plainName, overriddenIn]; done) | decide +kernel)) hisR ?_
  intro p e s m args below meth c s₁ Bd hml0 hP hK
  obtain ⟨rfl, hZ, hh⟩ := hP
  have hx := Bd.exec
  have hby := Bd.bytes
  have hml : c.maxLocals = 2 := hml0
  have hown : s.vm.findClass "com/example/robust_broker/robustbroker/Postings" = some m.cls := findClass_of_methodNamed Bd.named
  have hnm := (name_of_methodNamed Bd.named Bd.method).1
  have hlk := BodyLoose.notSynchronized Bd
  have X0 : Stand p l e ({ frames := 0, cells := 0, slots := 0, locals := 0 } : Room) s m #[(.ref o0), (.int p1)] below meth c s₁ [] 0 0 := Stand.of_body Bd
  have e0 : s₁.heap = h0 := by rw [← hh, Bd.state]; rfl
  have N0 := Fr.nil n0
  show Go p e below s (Qdoc_2_1 Z o0 p1 w_d k_d d0 h0 n0) 0 0 (s₁.setTop (entryFrame m #[(.ref o0), (.int p1)] 2))
  rw [ef_doc_2_1]
  show Go _ _ _ _ _ _ _ (s₁.setTop (mkF m 0 #[.val (.ref o0), .val (.int p1)] []))
  refine gob (fun _ k => XS.aloadN X0.here hx rfl (hb hby d9_0) rfl rfl k) ?_
  show Go _ _ _ _ _ _ _ (s₁.setTop (mkF m 1 #[.val (.ref o0), .val (.int p1)] [(.ref o0)]))
  obtain ⟨T1, X1, e1, st1⟩ := getF X0 hx hZ hown (host := "") (Or.inl (hw _ (List.mem_of_getElem? (i := 17) rfl))) Via.refl e0 F_documents (g := (mkF m 1 #[.val (.ref o0), .val (.int p1)] [(.ref o0)])) rfl rfl (hb hby d9_1)
  refine gob st1 ?_
  show Go _ _ _ _ _ _ _ (T1.setTop (mkF m 4 #[.val (.ref o0), .val (.int p1)] [(.ref w_d)]))
  refine gob (fun _ k => XS.iloadN X1.here hx rfl (hb hby d9_4) rfl k) ?_
  show Go _ _ _ _ _ _ _ (T1.setTop (mkF m 5 #[.val (.ref o0), .val (.int p1)] [(.int p1), (.ref w_d)]))
  obtain ⟨cl2, Ar2, aq2, S2, N2, H2, G2⟩ := id V_d
  obtain ⟨w3, hw3, hg3⟩ := own_at2 d0 (0 : Int32) (.int (0 : Int32)) p1 1 (by decide) hj1 hj2
  have hin3 : ¬ (p1 < 0 ∨ cl2.slots.size ≤ (p1).toNatClampNeg) := inb_of S2 (own_idx _ _ 1 (by decide) hj1 hj2)
  refine gob (X1.iaload hx (j := p1) (v := (.int w3)) (by rw [e1]; exact Ar2.1) (State.isArrayOf_alike hZ.alike Ar2.2.1) Ar2.2.2 hin3 (Has.at H2 hin3 hg3) (g := (mkF m 5 #[.val (.ref o0), .val (.int p1)] [(.int p1), (.ref w_d)])) rfl rfl (hb hby d9_5)) ?_
  show Go _ _ _ _ _ _ _ (T1.setTop (mkF m 6 #[.val (.ref o0), .val (.int p1)] [(.int w3)]))
  refine goI X1 hx hlk Bd.returns (hb hby d9_6) ?_ (by decide) (by decide)
  show Qdoc_2_1 Z o0 p1 w_d k_d d0 h0 n0 (some (.int w3)) T1.heap _
  exact ⟨w3, rfl, lf_doc_2_1_0 p1 d0 w3 hj1 hj2 hw3, N0, e1⟩
theorem ef_doc_2_2 (m : MethodId) (x0 : Addr) (x1 : Int32) : entryFrame m #[(.ref x0), (.int x1)] 2 = mkF m 0 #[.val (.ref x0), .val (.int x1)] [] := by first | (simp [entryFrame, mkF, argsToLocals, Value.category]; done) | rfl
def Qdoc_2_2 (Z : State) (o0 : Addr) (p1 : Int32) (w_d : Addr) (k_d : ClassId) (d0 : Int32) (d1 : Int32) (h0 : Heap) (n0 : Nat) (v : Option Value) (h : Heap) (L : List Loc) : Prop := ∃ r : Int32, v = some (.int r) ∧ ((p1.toInt = 0 ∧ r = d0) ∨ (p1.toInt = 1 ∧ r = d1)) ∧ Fr n0 L ∧ h = h0
theorem lf_doc_2_2_0 (p1 : Int32) (d0 : Int32) (d1 : Int32) (w3 : Int32) (hj1 : 0 ≤ p1.toInt) (hj2 : p1.toInt < 2) (hw3 : (p1.toInt = 0 ∧ w3 = d0) ∨ (p1.toInt = 1 ∧ w3 = d1)) : (p1.toInt = 0 ∧ w3 = d0) ∨ (p1.toInt = 1 ∧ w3 = d1) := by
  have := rng32 p1
  have := rng32 d0
  have := rng32 d1
  have := rng32 w3
  try (simp only [Int32.lt_iff_toInt_lt, Int32.le_iff_toInt_le, Int64.lt_iff_toInt_lt, Int64.le_iff_toInt_le, ← Int32.toInt_inj, ← Int64.toInt_inj, ne_eq] at *)
  omega
set_option maxRecDepth 65536 in
set_option maxHeartbeats 40000000 in
theorem rmdoc_2_2 (l : Launch) (Z : State) (a0 : Array Value) (hw : ∀ d ∈ tables_1, d.before a0 Z = true) (ws : List Jvm.Cond) (o0 : Addr) (p1 : Int32) (w_d : Addr) (k_d : ClassId) (d0 : Int32) (d1 : Int32) (h0 : Heap) (n0 : Nat) (Z0 : n0 ≤ h0.size) (F_documents : Fld Z h0 o0 "com/example/robust_broker/robustbroker/Postings" "documents" "[I" (.ref w_d)) (V_d : Arv Z h0 w_d k_d .int (2 : Int32) [(.int d0), (.int d1)] (.int (0 : Int32))) (hj1 : 0 ≤ p1.toInt) (hj2 : p1.toInt < 2) :
    MetFree l (⟨"com/example/robust_broker/robustbroker/Postings", "document", "(I)I"⟩ : MethodName) (head1 (Jvm.Cond.code (⟨"com/example/robust_broker/robustbroker/Postings", "document", "(I)I"⟩ : MethodName) prog_26_method_5_code 2 (some .int) :: ws) ({ frames := 0, cells := 0, slots := 0, locals := 0 } : Room)) (fun a U => a = #[(.ref o0), (.int p1)] ∧ Z.Warmed39 U.vm ∧ U.heap = h0) (fun _ _ _ _ _ => True) (fun _ U o U' => ∃ v L, o = .returned v ∧ Qdoc_2_2 Z o0 p1 w_d k_d d0 d1 h0 n0 v U'.heap L ∧ FrameEnd U o U' L ({ frames := 0, cells := 0, slots := 0, locals := 0 } : Room).cells ({ frames := 0, cells := 0, slots := 0, locals := 0 } : Room).slots) := by
  refine MetFree.of_bodySF (plainFor_of_name (by first | (simp [plainName, overriddenIn]; done) | decide +kernel)) hisR ?_
  intro p e s m args below meth c s₁ Bd hml0 hP hK
  obtain ⟨rfl, hZ, hh⟩ := hP
  have hx := Bd.exec
  have hby := Bd.bytes
  have hml : c.maxLocals = 2 := hml0
  have hown : s.vm.findClass "com/example/robust_broker/robustbroker/Postings" = some m.cls := findClass_of_methodNamed Bd.named
  have hnm := (name_of_methodNamed Bd.named Bd.method).1
  have hlk := BodyLoose.notSynchronized Bd
  have X0 : Stand p l e ({ frames := 0, cells := 0, slots := 0, locals := 0 } : Room) s m #[(.ref o0), (.int p1)] below meth c s₁ [] 0 0 := Stand.of_body Bd
  have e0 : s₁.heap = h0 := by rw [← hh, Bd.state]; rfl
  have N0 := Fr.nil n0
  show Go p e below s (Qdoc_2_2 Z o0 p1 w_d k_d d0 d1 h0 n0) 0 0 (s₁.setTop (entryFrame m #[(.ref o0), (.int p1)] 2))
  rw [ef_doc_2_2]
  show Go _ _ _ _ _ _ _ (s₁.setTop (mkF m 0 #[.val (.ref o0), .val (.int p1)] []))
  refine gob (fun _ k => XS.aloadN X0.here hx rfl (hb hby d9_0) rfl rfl k) ?_
  show Go _ _ _ _ _ _ _ (s₁.setTop (mkF m 1 #[.val (.ref o0), .val (.int p1)] [(.ref o0)]))
  obtain ⟨T1, X1, e1, st1⟩ := getF X0 hx hZ hown (host := "") (Or.inl (hw _ (List.mem_of_getElem? (i := 17) rfl))) Via.refl e0 F_documents (g := (mkF m 1 #[.val (.ref o0), .val (.int p1)] [(.ref o0)])) rfl rfl (hb hby d9_1)
  refine gob st1 ?_
  show Go _ _ _ _ _ _ _ (T1.setTop (mkF m 4 #[.val (.ref o0), .val (.int p1)] [(.ref w_d)]))
  refine gob (fun _ k => XS.iloadN X1.here hx rfl (hb hby d9_4) rfl k) ?_
  show Go _ _ _ _ _ _ _ (T1.setTop (mkF m 5 #[.val (.ref o0), .val (.int p1)] [(.int p1), (.ref w_d)]))
  obtain ⟨cl2, Ar2, aq2, S2, N2, H2, G2⟩ := id V_d
  obtain ⟨w3, hw3, hg3⟩ := own_at2 d0 d1 (.int (0 : Int32)) p1 2 (by decide) hj1 hj2
  have hin3 : ¬ (p1 < 0 ∨ cl2.slots.size ≤ (p1).toNatClampNeg) := inb_of S2 (own_idx _ _ 2 (by decide) hj1 hj2)
  refine gob (X1.iaload hx (j := p1) (v := (.int w3)) (by rw [e1]; exact Ar2.1) (State.isArrayOf_alike hZ.alike Ar2.2.1) Ar2.2.2 hin3 (Has.at H2 hin3 hg3) (g := (mkF m 5 #[.val (.ref o0), .val (.int p1)] [(.int p1), (.ref w_d)])) rfl rfl (hb hby d9_5)) ?_
  show Go _ _ _ _ _ _ _ (T1.setTop (mkF m 6 #[.val (.ref o0), .val (.int p1)] [(.int w3)]))
  refine goI X1 hx hlk Bd.returns (hb hby d9_6) ?_ (by decide) (by decide)
  show Qdoc_2_2 Z o0 p1 w_d k_d d0 d1 h0 n0 (some (.int w3)) T1.heap _
  exact ⟨w3, rfl, lf_doc_2_2_0 p1 d0 d1 w3 hj1 hj2 hw3, N0, e1⟩
theorem ef_doc_4_3 (m : MethodId) (x0 : Addr) (x1 : Int32) : entryFrame m #[(.ref x0), (.int x1)] 2 = mkF m 0 #[.val (.ref x0), .val (.int x1)] [] := by first | (simp [entryFrame, mkF, argsToLocals, Value.category]; done) | rfl
def Qdoc_4_3 (Z : State) (o0 : Addr) (p1 : Int32) (w_d : Addr) (k_d : ClassId) (d0 : Int32) (d1 : Int32) (d2 : Int32) (h0 : Heap) (n0 : Nat) (v : Option Value) (h : Heap) (L : List Loc) : Prop := ∃ r : Int32, v = some (.int r) ∧ ((p1.toInt = 0 ∧ r = d0) ∨ (p1.toInt = 1 ∧ r = d1) ∨ (p1.toInt = 2 ∧ r = d2)) ∧ Fr n0 L ∧ h = h0
theorem lf_doc_4_3_0 (p1 : Int32) (d0 : Int32) (d1 : Int32) (d2 : Int32) (w3 : Int32) (hj1 : 0 ≤ p1.toInt) (hj2 : p1.toInt < 3) (hw3 : (p1.toInt = 0 ∧ w3 = d0) ∨ (p1.toInt = 1 ∧ w3 = d1) ∨ (p1.toInt = 2 ∧ w3 = d2) ∨ (p1.toInt = 3 ∧ w3 = (0 : Int32))) : (p1.toInt = 0 ∧ w3 = d0) ∨ (p1.toInt = 1 ∧ w3 = d1) ∨ (p1.toInt = 2 ∧ w3 = d2) := by
  have := rng32 p1
  have := rng32 d0
  have := rng32 d1
  have := rng32 d2
  have := rng32 w3
  have : (0 : Int32).toInt = 0 := by decide
  try (simp only [Int32.lt_iff_toInt_lt, Int32.le_iff_toInt_le, Int64.lt_iff_toInt_lt, Int64.le_iff_toInt_le, ← Int32.toInt_inj, ← Int64.toInt_inj, ne_eq] at *)
  omega
set_option maxRecDepth 65536 in
set_option maxHeartbeats 40000000 in
theorem rmdoc_4_3 (l : Launch) (Z : State) (a0 : Array Value) (hw : ∀ d ∈ tables_1, d.before a0 Z = true) (ws : List Jvm.Cond) (o0 : Addr) (p1 : Int32) (w_d : Addr) (k_d : ClassId) (d0 : Int32) (d1 : Int32) (d2 : Int32) (h0 : Heap) (n0 : Nat) (Z0 : n0 ≤ h0.size) (F_documents : Fld Z h0 o0 "com/example/robust_broker/robustbroker/Postings" "documents" "[I" (.ref w_d)) (V_d : Arv Z h0 w_d k_d .int (4 : Int32) [(.int d0), (.int d1), (.int d2), (.int (0 : Int32))] (.int (0 : Int32))) (hj1 : 0 ≤ p1.toInt) (hj2 : p1.toInt < 3) :
    MetFree l (⟨"com/example/robust_broker/robustbroker/Postings", "document", "(I)I"⟩ : MethodName) (head1 (Jvm.Cond.code (⟨"com/example/robust_broker/robustbroker/Postings", "document", "(I)I"⟩ : MethodName) prog_26_method_5_code 2 (some .int) :: ws) ({ frames := 0, cells := 0, slots := 0, locals := 0 } : Room)) (fun a U => a = #[(.ref o0), (.int p1)] ∧ Z.Warmed39 U.vm ∧ U.heap = h0) (fun _ _ _ _ _ => True) (fun _ U o U' => ∃ v L, o = .returned v ∧ Qdoc_4_3 Z o0 p1 w_d k_d d0 d1 d2 h0 n0 v U'.heap L ∧ FrameEnd U o U' L ({ frames := 0, cells := 0, slots := 0, locals := 0 } : Room).cells ({ frames := 0, cells := 0, slots := 0, locals := 0 } : Room).slots) := by
  refine MetFree.of_bodySF (plainFor_of_name (by first | (simp [plainName, overriddenIn]; done) | decide +kernel)) hisR ?_
  intro p e s m args below meth c s₁ Bd hml0 hP hK
  obtain ⟨rfl, hZ, hh⟩ := hP
  have hx := Bd.exec
  have hby := Bd.bytes
  have hml : c.maxLocals = 2 := hml0
  have hown : s.vm.findClass "com/example/robust_broker/robustbroker/Postings" = some m.cls := findClass_of_methodNamed Bd.named
  have hnm := (name_of_methodNamed Bd.named Bd.method).1
  have hlk := BodyLoose.notSynchronized Bd
  have X0 : Stand p l e ({ frames := 0, cells := 0, slots := 0, locals := 0 } : Room) s m #[(.ref o0), (.int p1)] below meth c s₁ [] 0 0 := Stand.of_body Bd
  have e0 : s₁.heap = h0 := by rw [← hh, Bd.state]; rfl
  have N0 := Fr.nil n0
  show Go p e below s (Qdoc_4_3 Z o0 p1 w_d k_d d0 d1 d2 h0 n0) 0 0 (s₁.setTop (entryFrame m #[(.ref o0), (.int p1)] 2))
  rw [ef_doc_4_3]
  show Go _ _ _ _ _ _ _ (s₁.setTop (mkF m 0 #[.val (.ref o0), .val (.int p1)] []))
  refine gob (fun _ k => XS.aloadN X0.here hx rfl (hb hby d9_0) rfl rfl k) ?_
  show Go _ _ _ _ _ _ _ (s₁.setTop (mkF m 1 #[.val (.ref o0), .val (.int p1)] [(.ref o0)]))
  obtain ⟨T1, X1, e1, st1⟩ := getF X0 hx hZ hown (host := "") (Or.inl (hw _ (List.mem_of_getElem? (i := 17) rfl))) Via.refl e0 F_documents (g := (mkF m 1 #[.val (.ref o0), .val (.int p1)] [(.ref o0)])) rfl rfl (hb hby d9_1)
  refine gob st1 ?_
  show Go _ _ _ _ _ _ _ (T1.setTop (mkF m 4 #[.val (.ref o0), .val (.int p1)] [(.ref w_d)]))
  refine gob (fun _ k => XS.iloadN X1.here hx rfl (hb hby d9_4) rfl k) ?_
  show Go _ _ _ _ _ _ _ (T1.setTop (mkF m 5 #[.val (.ref o0), .val (.int p1)] [(.int p1), (.ref w_d)]))
  obtain ⟨cl2, Ar2, aq2, S2, N2, H2, G2⟩ := id V_d
  obtain ⟨w3, hw3, hg3⟩ := own_at4 d0 d1 d2 (0 : Int32) (.int (0 : Int32)) p1 3 (by decide) hj1 hj2
  have hin3 : ¬ (p1 < 0 ∨ cl2.slots.size ≤ (p1).toNatClampNeg) := inb_of S2 (own_idx _ _ 3 (by decide) hj1 hj2)
  refine gob (X1.iaload hx (j := p1) (v := (.int w3)) (by rw [e1]; exact Ar2.1) (State.isArrayOf_alike hZ.alike Ar2.2.1) Ar2.2.2 hin3 (Has.at H2 hin3 hg3) (g := (mkF m 5 #[.val (.ref o0), .val (.int p1)] [(.int p1), (.ref w_d)])) rfl rfl (hb hby d9_5)) ?_
  show Go _ _ _ _ _ _ _ (T1.setTop (mkF m 6 #[.val (.ref o0), .val (.int p1)] [(.int w3)]))
  refine goI X1 hx hlk Bd.returns (hb hby d9_6) ?_ (by decide) (by decide)
  show Qdoc_4_3 Z o0 p1 w_d k_d d0 d1 d2 h0 n0 (some (.int w3)) T1.heap _
  exact ⟨w3, rfl, lf_doc_4_3_0 p1 d0 d1 d2 w3 hj1 hj2 hw3, N0, e1⟩
theorem ef_doc_4_4 (m : MethodId) (x0 : Addr) (x1 : Int32) : entryFrame m #[(.ref x0), (.int x1)] 2 = mkF m 0 #[.val (.ref x0), .val (.int x1)] [] := by first | (simp [entryFrame, mkF, argsToLocals, Value.category]; done) | rfl
def Qdoc_4_4 (Z : State) (o0 : Addr) (p1 : Int32) (w_d : Addr) (k_d : ClassId) (d0 : Int32) (d1 : Int32) (d2 : Int32) (d3 : Int32) (h0 : Heap) (n0 : Nat) (v : Option Value) (h : Heap) (L : List Loc) : Prop := ∃ r : Int32, v = some (.int r) ∧ ((p1.toInt = 0 ∧ r = d0) ∨ (p1.toInt = 1 ∧ r = d1) ∨ (p1.toInt = 2 ∧ r = d2) ∨ (p1.toInt = 3 ∧ r = d3)) ∧ Fr n0 L ∧ h = h0
theorem lf_doc_4_4_0 (p1 : Int32) (d0 : Int32) (d1 : Int32) (d2 : Int32) (d3 : Int32) (w3 : Int32) (hj1 : 0 ≤ p1.toInt) (hj2 : p1.toInt < 4) (hw3 : (p1.toInt = 0 ∧ w3 = d0) ∨ (p1.toInt = 1 ∧ w3 = d1) ∨ (p1.toInt = 2 ∧ w3 = d2) ∨ (p1.toInt = 3 ∧ w3 = d3)) : (p1.toInt = 0 ∧ w3 = d0) ∨ (p1.toInt = 1 ∧ w3 = d1) ∨ (p1.toInt = 2 ∧ w3 = d2) ∨ (p1.toInt = 3 ∧ w3 = d3) := by
  have := rng32 p1
  have := rng32 d0
  have := rng32 d1
  have := rng32 d2
  have := rng32 d3
  have := rng32 w3
  try (simp only [Int32.lt_iff_toInt_lt, Int32.le_iff_toInt_le, Int64.lt_iff_toInt_lt, Int64.le_iff_toInt_le, ← Int32.toInt_inj, ← Int64.toInt_inj, ne_eq] at *)
  omega
set_option maxRecDepth 65536 in
set_option maxHeartbeats 40000000 in
theorem rmdoc_4_4 (l : Launch) (Z : State) (a0 : Array Value) (hw : ∀ d ∈ tables_1, d.before a0 Z = true) (ws : List Jvm.Cond) (o0 : Addr) (p1 : Int32) (w_d : Addr) (k_d : ClassId) (d0 : Int32) (d1 : Int32) (d2 : Int32) (d3 : Int32) (h0 : Heap) (n0 : Nat) (Z0 : n0 ≤ h0.size) (F_documents : Fld Z h0 o0 "com/example/robust_broker/robustbroker/Postings" "documents" "[I" (.ref w_d)) (V_d : Arv Z h0 w_d k_d .int (4 : Int32) [(.int d0), (.int d1), (.int d2), (.int d3)] (.int (0 : Int32))) (hj1 : 0 ≤ p1.toInt) (hj2 : p1.toInt < 4) :
    MetFree l (⟨"com/example/robust_broker/robustbroker/Postings", "document", "(I)I"⟩ : MethodName) (head1 (Jvm.Cond.code (⟨"com/example/robust_broker/robustbroker/Postings", "document", "(I)I"⟩ : MethodName) prog_26_method_5_code 2 (some .int) :: ws) ({ frames := 0, cells := 0, slots := 0, locals := 0 } : Room)) (fun a U => a = #[(.ref o0), (.int p1)] ∧ Z.Warmed39 U.vm ∧ U.heap = h0) (fun _ _ _ _ _ => True) (fun _ U o U' => ∃ v L, o = .returned v ∧ Qdoc_4_4 Z o0 p1 w_d k_d d0 d1 d2 d3 h0 n0 v U'.heap L ∧ FrameEnd U o U' L ({ frames := 0, cells := 0, slots := 0, locals := 0 } : Room).cells ({ frames := 0, cells := 0, slots := 0, locals := 0 } : Room).slots) := by
  refine MetFree.of_bodySF (plainFor_of_name (by first | (simp [plainName, overriddenIn]; done) | decide +kernel)) hisR ?_
  intro p e s m args below meth c s₁ Bd hml0 hP hK
  obtain ⟨rfl, hZ, hh⟩ := hP
  have hx := Bd.exec
  have hby := Bd.bytes
  have hml : c.maxLocals = 2 := hml0
  have hown : s.vm.findClass "com/example/robust_broker/robustbroker/Postings" = some m.cls := findClass_of_methodNamed Bd.named
  have hnm := (name_of_methodNamed Bd.named Bd.method).1
  have hlk := BodyLoose.notSynchronized Bd
  have X0 : Stand p l e ({ frames := 0, cells := 0, slots := 0, locals := 0 } : Room) s m #[(.ref o0), (.int p1)] below meth c s₁ [] 0 0 := Stand.of_body Bd
  have e0 : s₁.heap = h0 := by rw [← hh, Bd.state]; rfl
  have N0 := Fr.nil n0
  show Go p e below s (Qdoc_4_4 Z o0 p1 w_d k_d d0 d1 d2 d3 h0 n0) 0 0 (s₁.setTop (entryFrame m #[(.ref o0), (.int p1)] 2))
  rw [ef_doc_4_4]
  show Go _ _ _ _ _ _ _ (s₁.setTop (mkF m 0 #[.val (.ref o0), .val (.int p1)] []))
  refine gob (fun _ k => XS.aloadN X0.here hx rfl (hb hby d9_0) rfl rfl k) ?_
  show Go _ _ _ _ _ _ _ (s₁.setTop (mkF m 1 #[.val (.ref o0), .val (.int p1)] [(.ref o0)]))
  obtain ⟨T1, X1, e1, st1⟩ := getF X0 hx hZ hown (host := "") (Or.inl (hw _ (List.mem_of_getElem? (i := 17) rfl))) Via.refl e0 F_documents (g := (mkF m 1 #[.val (.ref o0), .val (.int p1)] [(.ref o0)])) rfl rfl (hb hby d9_1)
  refine gob st1 ?_
  show Go _ _ _ _ _ _ _ (T1.setTop (mkF m 4 #[.val (.ref o0), .val (.int p1)] [(.ref w_d)]))
  refine gob (fun _ k => XS.iloadN X1.here hx rfl (hb hby d9_4) rfl k) ?_
  show Go _ _ _ _ _ _ _ (T1.setTop (mkF m 5 #[.val (.ref o0), .val (.int p1)] [(.int p1), (.ref w_d)]))
  obtain ⟨cl2, Ar2, aq2, S2, N2, H2, G2⟩ := id V_d
  obtain ⟨w3, hw3, hg3⟩ := own_at4 d0 d1 d2 d3 (.int (0 : Int32)) p1 4 (by decide) hj1 hj2
  have hin3 : ¬ (p1 < 0 ∨ cl2.slots.size ≤ (p1).toNatClampNeg) := inb_of S2 (own_idx _ _ 4 (by decide) hj1 hj2)
  refine gob (X1.iaload hx (j := p1) (v := (.int w3)) (by rw [e1]; exact Ar2.1) (State.isArrayOf_alike hZ.alike Ar2.2.1) Ar2.2.2 hin3 (Has.at H2 hin3 hg3) (g := (mkF m 5 #[.val (.ref o0), .val (.int p1)] [(.int p1), (.ref w_d)])) rfl rfl (hb hby d9_5)) ?_
  show Go _ _ _ _ _ _ _ (T1.setTop (mkF m 6 #[.val (.ref o0), .val (.int p1)] [(.int w3)]))
  refine goI X1 hx hlk Bd.returns (hb hby d9_6) ?_ (by decide) (by decide)
  show Qdoc_4_4 Z o0 p1 w_d k_d d0 d1 d2 d3 h0 n0 (some (.int w3)) T1.heap _
  exact ⟨w3, rfl, lf_doc_4_4_0 p1 d0 d1 d2 d3 w3 hj1 hj2 hw3, N0, e1⟩
theorem ef_doc_8_5 (m : MethodId) (x0 : Addr) (x1 : Int32) : entryFrame m #[(.ref x0), (.int x1)] 2 = mkF m 0 #[.val (.ref x0), .val (.int x1)] [] := by first | (simp [entryFrame, mkF, argsToLocals, Value.category]; done) | rfl
def Qdoc_8_5 (Z : State) (o0 : Addr) (p1 : Int32) (w_d : Addr) (k_d : ClassId) (d0 : Int32) (d1 : Int32) (d2 : Int32) (d3 : Int32) (d4 : Int32) (h0 : Heap) (n0 : Nat) (v : Option Value) (h : Heap) (L : List Loc) : Prop := ∃ r : Int32, v = some (.int r) ∧ ((p1.toInt = 0 ∧ r = d0) ∨ (p1.toInt = 1 ∧ r = d1) ∨ (p1.toInt = 2 ∧ r = d2) ∨ (p1.toInt = 3 ∧ r = d3) ∨ (p1.toInt = 4 ∧ r = d4)) ∧ Fr n0 L ∧ h = h0
theorem lf_doc_8_5_0 (p1 : Int32) (d0 : Int32) (d1 : Int32) (d2 : Int32) (d3 : Int32) (d4 : Int32) (w3 : Int32) (hj1 : 0 ≤ p1.toInt) (hj2 : p1.toInt < 5) (hw3 : (p1.toInt = 0 ∧ w3 = d0) ∨ (p1.toInt = 1 ∧ w3 = d1) ∨ (p1.toInt = 2 ∧ w3 = d2) ∨ (p1.toInt = 3 ∧ w3 = d3) ∨ (p1.toInt = 4 ∧ w3 = d4) ∨ (p1.toInt = 5 ∧ w3 = (0 : Int32)) ∨ (p1.toInt = 6 ∧ w3 = (0 : Int32)) ∨ (p1.toInt = 7 ∧ w3 = (0 : Int32))) : (p1.toInt = 0 ∧ w3 = d0) ∨ (p1.toInt = 1 ∧ w3 = d1) ∨ (p1.toInt = 2 ∧ w3 = d2) ∨ (p1.toInt = 3 ∧ w3 = d3) ∨ (p1.toInt = 4 ∧ w3 = d4) := by
  have := rng32 p1
  have := rng32 d0
  have := rng32 d1
  have := rng32 d2
  have := rng32 d3
  have := rng32 d4
  have := rng32 w3
  have : (0 : Int32).toInt = 0 := by decide
  try (simp only [Int32.lt_iff_toInt_lt, Int32.le_iff_toInt_le, Int64.lt_iff_toInt_lt, Int64.le_iff_toInt_le, ← Int32.toInt_inj, ← Int64.toInt_inj, ne_eq] at *)
  omega
set_option maxRecDepth 65536 in
set_option maxHeartbeats 40000000 in
theorem rmdoc_8_5 (l : Launch) (Z : State) (a0 : Array Value) (hw : ∀ d ∈ tables_1, d.before a0 Z = true) (ws : List Jvm.Cond) (o0 : Addr) (p1 : Int32) (w_d : Addr) (k_d : ClassId) (d0 : Int32) (d1 : Int32) (d2 : Int32) (d3 : Int32) (d4 : Int32) (h0 : Heap) (n0 : Nat) (Z0 : n0 ≤ h0.size) (F_documents : Fld Z h0 o0 "com/example/robust_broker/robustbroker/Postings" "documents" "[I" (.ref w_d)) (V_d : Arv Z h0 w_d k_d .int (8 : Int32) [(.int d0), (.int d1), (.int d2), (.int d3), (.int d4), (.int (0 : Int32)), (.int (0 : Int32)), (.int (0 : Int32))] (.int (0 : Int32))) (hj1 : 0 ≤ p1.toInt) (hj2 : p1.toInt < 5) :
    MetFree l (⟨"com/example/robust_broker/robustbroker/Postings", "document", "(I)I"⟩ : MethodName) (head1 (Jvm.Cond.code (⟨"com/example/robust_broker/robustbroker/Postings", "document", "(I)I"⟩ : MethodName) prog_26_method_5_code 2 (some .int) :: ws) ({ frames := 0, cells := 0, slots := 0, locals := 0 } : Room)) (fun a U => a = #[(.ref o0), (.int p1)] ∧ Z.Warmed39 U.vm ∧ U.heap = h0) (fun _ _ _ _ _ => True) (fun _ U o U' => ∃ v L, o = .returned v ∧ Qdoc_8_5 Z o0 p1 w_d k_d d0 d1 d2 d3 d4 h0 n0 v U'.heap L ∧ FrameEnd U o U' L ({ frames := 0, cells := 0, slots := 0, locals := 0 } : Room).cells ({ frames := 0, cells := 0, slots := 0, locals := 0 } : Room).slots) := by
  refine MetFree.of_bodySF (plainFor_of_name (by first | (simp [plainName, overriddenIn]; done) | decide +kernel)) hisR ?_
  intro p e s m args below meth c s₁ Bd hml0 hP hK
  obtain ⟨rfl, hZ, hh⟩ := hP
  have hx := Bd.exec
  have hby := Bd.bytes
  have hml : c.maxLocals = 2 := hml0
  have hown : s.vm.findClass "com/example/robust_broker/robustbroker/Postings" = some m.cls := findClass_of_methodNamed Bd.named
  have hnm := (name_of_methodNamed Bd.named Bd.method).1
  have hlk := BodyLoose.notSynchronized Bd
  have X0 : Stand p l e ({ frames := 0, cells := 0, slots := 0, locals := 0 } : Room) s m #[(.ref o0), (.int p1)] below meth c s₁ [] 0 0 := Stand.of_body Bd
  have e0 : s₁.heap = h0 := by rw [← hh, Bd.state]; rfl
  have N0 := Fr.nil n0
  show Go p e below s (Qdoc_8_5 Z o0 p1 w_d k_d d0 d1 d2 d3 d4 h0 n0) 0 0 (s₁.setTop (entryFrame m #[(.ref o0), (.int p1)] 2))
  rw [ef_doc_8_5]
  show Go _ _ _ _ _ _ _ (s₁.setTop (mkF m 0 #[.val (.ref o0), .val (.int p1)] []))
  refine gob (fun _ k => XS.aloadN X0.here hx rfl (hb hby d9_0) rfl rfl k) ?_
  show Go _ _ _ _ _ _ _ (s₁.setTop (mkF m 1 #[.val (.ref o0), .val (.int p1)] [(.ref o0)]))
  obtain ⟨T1, X1, e1, st1⟩ := getF X0 hx hZ hown (host := "") (Or.inl (hw _ (List.mem_of_getElem? (i := 17) rfl))) Via.refl e0 F_documents (g := (mkF m 1 #[.val (.ref o0), .val (.int p1)] [(.ref o0)])) rfl rfl (hb hby d9_1)
  refine gob st1 ?_
  show Go _ _ _ _ _ _ _ (T1.setTop (mkF m 4 #[.val (.ref o0), .val (.int p1)] [(.ref w_d)]))
  refine gob (fun _ k => XS.iloadN X1.here hx rfl (hb hby d9_4) rfl k) ?_
  show Go _ _ _ _ _ _ _ (T1.setTop (mkF m 5 #[.val (.ref o0), .val (.int p1)] [(.int p1), (.ref w_d)]))
  obtain ⟨cl2, Ar2, aq2, S2, N2, H2, G2⟩ := id V_d
  obtain ⟨w3, hw3, hg3⟩ := own_at8 d0 d1 d2 d3 d4 (0 : Int32) (0 : Int32) (0 : Int32) (.int (0 : Int32)) p1 5 (by decide) hj1 hj2
  have hin3 : ¬ (p1 < 0 ∨ cl2.slots.size ≤ (p1).toNatClampNeg) := inb_of S2 (own_idx _ _ 5 (by decide) hj1 hj2)
  refine gob (X1.iaload hx (j := p1) (v := (.int w3)) (by rw [e1]; exact Ar2.1) (State.isArrayOf_alike hZ.alike Ar2.2.1) Ar2.2.2 hin3 (Has.at H2 hin3 hg3) (g := (mkF m 5 #[.val (.ref o0), .val (.int p1)] [(.int p1), (.ref w_d)])) rfl rfl (hb hby d9_5)) ?_
  show Go _ _ _ _ _ _ _ (T1.setTop (mkF m 6 #[.val (.ref o0), .val (.int p1)] [(.int w3)]))
  refine goI X1 hx hlk Bd.returns (hb hby d9_6) ?_ (by decide) (by decide)
  show Qdoc_8_5 Z o0 p1 w_d k_d d0 d1 d2 d3 d4 h0 n0 (some (.int w3)) T1.heap _
  exact ⟨w3, rfl, lf_doc_8_5_0 p1 d0 d1 d2 d3 d4 w3 hj1 hj2 hw3, N0, e1⟩
theorem d10_0 : decode prog_26_method_6_code 0 = .ok (.aload_n 0, 1) := by decide +kernel
theorem d10_1 : decode prog_26_method_6_code 1 = .ok (.getfield 13, 3) := by decide +kernel
theorem d10_4 : decode prog_26_method_6_code 4 = .ok (.iload_n 1, 1) := by decide +kernel
theorem d10_5 : decode prog_26_method_6_code 5 = .ok (.iaload, 1) := by decide +kernel
theorem d10_6 : decode prog_26_method_6_code 6 = .ok (.ireturn, 1) := by decide +kernel
theorem ef_fre_2_1 (m : MethodId) (x0 : Addr) (x1 : Int32) : entryFrame m #[(.ref x0), (.int x1)] 2 = mkF m 0 #[.val (.ref x0), .val (.int x1)] [] := by first | (simp [entryFrame, mkF, argsToLocals, Value.category]; done) | rfl
def Qfre_2_1 (Z : State) (o0 : Addr) (p1 : Int32) (w_f : Addr) (k_f : ClassId) (f0 : Int32) (h0 : Heap) (n0 : Nat) (v : Option Value) (h : Heap) (L : List Loc) : Prop := ∃ r : Int32, v = some (.int r) ∧ ((p1.toInt = 0 ∧ r = f0)) ∧ Fr n0 L ∧ h = h0
theorem lf_fre_2_1_0 (p1 : Int32) (f0 : Int32) (w3 : Int32) (hj1 : 0 ≤ p1.toInt) (hj2 : p1.toInt < 1) (hw3 : (p1.toInt = 0 ∧ w3 = f0) ∨ (p1.toInt = 1 ∧ w3 = (0 : Int32))) : (p1.toInt = 0 ∧ w3 = f0) := by
  have := rng32 p1
  have := rng32 f0
  have := rng32 w3
  have : (0 : Int32).toInt = 0 := by decide
  try (simp only [Int32.lt_iff_toInt_lt, Int32.le_iff_toInt_le, Int64.lt_iff_toInt_lt, Int64.le_iff_toInt_le, ← Int32.toInt_inj, ← Int64.toInt_inj, ne_eq] at *)
  omega
set_option maxRecDepth 65536 in
set_option maxHeartbeats 40000000 in
theorem rmfre_2_1 (l : Launch) (Z : State) (a0 : Array Value) (hw : ∀ d ∈ tables_1, d.before a0 Z = true) (ws : List Jvm.Cond) (o0 : Addr) (p1 : Int32) (w_f : Addr) (k_f : ClassId) (f0 : Int32) (h0 : Heap) (n0 : Nat) (Z0 : n0 ≤ h0.size) (F_frequencies : Fld Z h0 o0 "com/example/robust_broker/robustbroker/Postings" "frequencies" "[I" (.ref w_f)) (V_f : Arv Z h0 w_f k_f .int (2 : Int32) [(.int f0), (.int (0 : Int32))] (.int (0 : Int32))) (hj1 : 0 ≤ p1.toInt) (hj2 : p1.toInt < 1) :
    MetFree l (⟨"com/example/robust_broker/robustbroker/Postings", "frequency", "(I)I"⟩ : MethodName) (head1 (Jvm.Cond.code (⟨"com/example/robust_broker/robustbroker/Postings", "frequency", "(I)I"⟩ : MethodName) prog_26_method_6_code 2 (some .int) :: ws) ({ frames := 0, cells := 0, slots := 0, locals := 0 } : Room)) (fun a U => a = #[(.ref o0), (.int p1)] ∧ Z.Warmed39 U.vm ∧ U.heap = h0) (fun _ _ _ _ _ => True) (fun _ U o U' => ∃ v L, o = .returned v ∧ Qfre_2_1 Z o0 p1 w_f k_f f0 h0 n0 v U'.heap L ∧ FrameEnd U o U' L ({ frames := 0, cells := 0, slots := 0, locals := 0 } : Room).cells ({ frames := 0, cells := 0, slots := 0, locals := 0 } : Room).slots) := by
  refine MetFree.of_bodySF (plainFor_of_name (by first | (simp [plainName, overriddenIn]; done) | decide +kernel)) hisR ?_
  intro p e s m args below meth c s₁ Bd hml0 hP hK
  obtain ⟨rfl, hZ, hh⟩ := hP
  have hx := Bd.exec
  have hby := Bd.bytes
  have hml : c.maxLocals = 2 := hml0
  have hown : s.vm.findClass "com/example/robust_broker/robustbroker/Postings" = some m.cls := findClass_of_methodNamed Bd.named
  have hnm := (name_of_methodNamed Bd.named Bd.method).1
  have hlk := BodyLoose.notSynchronized Bd
  have X0 : Stand p l e ({ frames := 0, cells := 0, slots := 0, locals := 0 } : Room) s m #[(.ref o0), (.int p1)] below meth c s₁ [] 0 0 := Stand.of_body Bd
  have e0 : s₁.heap = h0 := by rw [← hh, Bd.state]; rfl
  have N0 := Fr.nil n0
  show Go p e below s (Qfre_2_1 Z o0 p1 w_f k_f f0 h0 n0) 0 0 (s₁.setTop (entryFrame m #[(.ref o0), (.int p1)] 2))
  rw [ef_fre_2_1]
  show Go _ _ _ _ _ _ _ (s₁.setTop (mkF m 0 #[.val (.ref o0), .val (.int p1)] []))
  refine gob (fun _ k => XS.aloadN X0.here hx rfl (hb hby d10_0) rfl rfl k) ?_
  show Go _ _ _ _ _ _ _ (s₁.setTop (mkF m 1 #[.val (.ref o0), .val (.int p1)] [(.ref o0)]))
  obtain ⟨T1, X1, e1, st1⟩ := getF X0 hx hZ hown (host := "") (Or.inl (hw _ (List.mem_of_getElem? (i := 19) rfl))) Via.refl e0 F_frequencies (g := (mkF m 1 #[.val (.ref o0), .val (.int p1)] [(.ref o0)])) rfl rfl (hb hby d10_1)
  refine gob st1 ?_
  show Go _ _ _ _ _ _ _ (T1.setTop (mkF m 4 #[.val (.ref o0), .val (.int p1)] [(.ref w_f)]))
  refine gob (fun _ k => XS.iloadN X1.here hx rfl (hb hby d10_4) rfl k) ?_
  show Go _ _ _ _ _ _ _ (T1.setTop (mkF m 5 #[.val (.ref o0), .val (.int p1)] [(.int p1), (.ref w_f)]))
  obtain ⟨cl2, Ar2, aq2, S2, N2, H2, G2⟩ := id V_f
  obtain ⟨w3, hw3, hg3⟩ := own_at2 f0 (0 : Int32) (.int (0 : Int32)) p1 1 (by decide) hj1 hj2
  have hin3 : ¬ (p1 < 0 ∨ cl2.slots.size ≤ (p1).toNatClampNeg) := inb_of S2 (own_idx _ _ 1 (by decide) hj1 hj2)
  refine gob (X1.iaload hx (j := p1) (v := (.int w3)) (by rw [e1]; exact Ar2.1) (State.isArrayOf_alike hZ.alike Ar2.2.1) Ar2.2.2 hin3 (Has.at H2 hin3 hg3) (g := (mkF m 5 #[.val (.ref o0), .val (.int p1)] [(.int p1), (.ref w_f)])) rfl rfl (hb hby d10_5)) ?_
  show Go _ _ _ _ _ _ _ (T1.setTop (mkF m 6 #[.val (.ref o0), .val (.int p1)] [(.int w3)]))
  refine goI X1 hx hlk Bd.returns (hb hby d10_6) ?_ (by decide) (by decide)
  show Qfre_2_1 Z o0 p1 w_f k_f f0 h0 n0 (some (.int w3)) T1.heap _
  exact ⟨w3, rfl, lf_fre_2_1_0 p1 f0 w3 hj1 hj2 hw3, N0, e1⟩
theorem ef_fre_2_2 (m : MethodId) (x0 : Addr) (x1 : Int32) : entryFrame m #[(.ref x0), (.int x1)] 2 = mkF m 0 #[.val (.ref x0), .val (.int x1)] [] := by first | (simp [entryFrame, mkF, argsToLocals, Value.category]; done) | rfl
def Qfre_2_2 (Z : State) (o0 : Addr) (p1 : Int32) (w_f : Addr) (k_f : ClassId) (f0 : Int32) (f1 : Int32) (h0 : Heap) (n0 : Nat) (v : Option Value) (h : Heap) (L : List Loc) : Prop := ∃ r : Int32, v = some (.int r) ∧ ((p1.toInt = 0 ∧ r = f0) ∨ (p1.toInt = 1 ∧ r = f1)) ∧ Fr n0 L ∧ h = h0
theorem lf_fre_2_2_0 (p1 : Int32) (f0 : Int32) (f1 : Int32) (w3 : Int32) (hj1 : 0 ≤ p1.toInt) (hj2 : p1.toInt < 2) (hw3 : (p1.toInt = 0 ∧ w3 = f0) ∨ (p1.toInt = 1 ∧ w3 = f1)) : (p1.toInt = 0 ∧ w3 = f0) ∨ (p1.toInt = 1 ∧ w3 = f1) := by
  have := rng32 p1
  have := rng32 f0
  have := rng32 f1
  have := rng32 w3
  try (simp only [Int32.lt_iff_toInt_lt, Int32.le_iff_toInt_le, Int64.lt_iff_toInt_lt, Int64.le_iff_toInt_le, ← Int32.toInt_inj, ← Int64.toInt_inj, ne_eq] at *)
  omega
set_option maxRecDepth 65536 in
set_option maxHeartbeats 40000000 in
theorem rmfre_2_2 (l : Launch) (Z : State) (a0 : Array Value) (hw : ∀ d ∈ tables_1, d.before a0 Z = true) (ws : List Jvm.Cond) (o0 : Addr) (p1 : Int32) (w_f : Addr) (k_f : ClassId) (f0 : Int32) (f1 : Int32) (h0 : Heap) (n0 : Nat) (Z0 : n0 ≤ h0.size) (F_frequencies : Fld Z h0 o0 "com/example/robust_broker/robustbroker/Postings" "frequencies" "[I" (.ref w_f)) (V_f : Arv Z h0 w_f k_f .int (2 : Int32) [(.int f0), (.int f1)] (.int (0 : Int32))) (hj1 : 0 ≤ p1.toInt) (hj2 : p1.toInt < 2) :
    MetFree l (⟨"com/example/robust_broker/robustbroker/Postings", "frequency", "(I)I"⟩ : MethodName) (head1 (Jvm.Cond.code (⟨"com/example/robust_broker/robustbroker/Postings", "frequency", "(I)I"⟩ : MethodName) prog_26_method_6_code 2 (some .int) :: ws) ({ frames := 0, cells := 0, slots := 0, locals := 0 } : Room)) (fun a U => a = #[(.ref o0), (.int p1)] ∧ Z.Warmed39 U.vm ∧ U.heap = h0) (fun _ _ _ _ _ => True) (fun _ U o U' => ∃ v L, o = .returned v ∧ Qfre_2_2 Z o0 p1 w_f k_f f0 f1 h0 n0 v U'.heap L ∧ FrameEnd U o U' L ({ frames := 0, cells := 0, slots := 0, locals := 0 } : Room).cells ({ frames := 0, cells := 0, slots := 0, locals := 0 } : Room).slots) := by
  refine MetFree.of_bodySF (plainFor_of_name (by first | (simp [plainName, overriddenIn]; done) | decide +kernel)) hisR ?_
  intro p e s m args below meth c s₁ Bd hml0 hP hK
  obtain ⟨rfl, hZ, hh⟩ := hP
  have hx := Bd.exec
  have hby := Bd.bytes
  have hml : c.maxLocals = 2 := hml0
  have hown : s.vm.findClass "com/example/robust_broker/robustbroker/Postings" = some m.cls := findClass_of_methodNamed Bd.named
  have hnm := (name_of_methodNamed Bd.named Bd.method).1
  have hlk := BodyLoose.notSynchronized Bd
  have X0 : Stand p l e ({ frames := 0, cells := 0, slots := 0, locals := 0 } : Room) s m #[(.ref o0), (.int p1)] below meth c s₁ [] 0 0 := Stand.of_body Bd
  have e0 : s₁.heap = h0 := by rw [← hh, Bd.state]; rfl
  have N0 := Fr.nil n0
  show Go p e below s (Qfre_2_2 Z o0 p1 w_f k_f f0 f1 h0 n0) 0 0 (s₁.setTop (entryFrame m #[(.ref o0), (.int p1)] 2))
  rw [ef_fre_2_2]
  show Go _ _ _ _ _ _ _ (s₁.setTop (mkF m 0 #[.val (.ref o0), .val (.int p1)] []))
  refine gob (fun _ k => XS.aloadN X0.here hx rfl (hb hby d10_0) rfl rfl k) ?_
  show Go _ _ _ _ _ _ _ (s₁.setTop (mkF m 1 #[.val (.ref o0), .val (.int p1)] [(.ref o0)]))
  obtain ⟨T1, X1, e1, st1⟩ := getF X0 hx hZ hown (host := "") (Or.inl (hw _ (List.mem_of_getElem? (i := 19) rfl))) Via.refl e0 F_frequencies (g := (mkF m 1 #[.val (.ref o0), .val (.int p1)] [(.ref o0)])) rfl rfl (hb hby d10_1)
  refine gob st1 ?_
  show Go _ _ _ _ _ _ _ (T1.setTop (mkF m 4 #[.val (.ref o0), .val (.int p1)] [(.ref w_f)]))
  refine gob (fun _ k => XS.iloadN X1.here hx rfl (hb hby d10_4) rfl k) ?_
  show Go _ _ _ _ _ _ _ (T1.setTop (mkF m 5 #[.val (.ref o0), .val (.int p1)] [(.int p1), (.ref w_f)]))
  obtain ⟨cl2, Ar2, aq2, S2, N2, H2, G2⟩ := id V_f
  obtain ⟨w3, hw3, hg3⟩ := own_at2 f0 f1 (.int (0 : Int32)) p1 2 (by decide) hj1 hj2
  have hin3 : ¬ (p1 < 0 ∨ cl2.slots.size ≤ (p1).toNatClampNeg) := inb_of S2 (own_idx _ _ 2 (by decide) hj1 hj2)
  refine gob (X1.iaload hx (j := p1) (v := (.int w3)) (by rw [e1]; exact Ar2.1) (State.isArrayOf_alike hZ.alike Ar2.2.1) Ar2.2.2 hin3 (Has.at H2 hin3 hg3) (g := (mkF m 5 #[.val (.ref o0), .val (.int p1)] [(.int p1), (.ref w_f)])) rfl rfl (hb hby d10_5)) ?_
  show Go _ _ _ _ _ _ _ (T1.setTop (mkF m 6 #[.val (.ref o0), .val (.int p1)] [(.int w3)]))
  refine goI X1 hx hlk Bd.returns (hb hby d10_6) ?_ (by decide) (by decide)
  show Qfre_2_2 Z o0 p1 w_f k_f f0 f1 h0 n0 (some (.int w3)) T1.heap _
  exact ⟨w3, rfl, lf_fre_2_2_0 p1 f0 f1 w3 hj1 hj2 hw3, N0, e1⟩
theorem ef_fre_4_3 (m : MethodId) (x0 : Addr) (x1 : Int32) : entryFrame m #[(.ref x0), (.int x1)] 2 = mkF m 0 #[.val (.ref x0), .val (.int x1)] [] := by first | (simp [entryFrame, mkF, argsToLocals, Value.category]; done) | rfl
def Qfre_4_3 (Z : State) (o0 : Addr) (p1 : Int32) (w_f : Addr) (k_f : ClassId) (f0 : Int32) (f1 : Int32) (f2 : Int32) (h0 : Heap) (n0 : Nat) (v : Option Value) (h : Heap) (L : List Loc) : Prop := ∃ r : Int32, v = some (.int r) ∧ ((p1.toInt = 0 ∧ r = f0) ∨ (p1.toInt = 1 ∧ r = f1) ∨ (p1.toInt = 2 ∧ r = f2)) ∧ Fr n0 L ∧ h = h0
theorem lf_fre_4_3_0 (p1 : Int32) (f0 : Int32) (f1 : Int32) (f2 : Int32) (w3 : Int32) (hj1 : 0 ≤ p1.toInt) (hj2 : p1.toInt < 3) (hw3 : (p1.toInt = 0 ∧ w3 = f0) ∨ (p1.toInt = 1 ∧ w3 = f1) ∨ (p1.toInt = 2 ∧ w3 = f2) ∨ (p1.toInt = 3 ∧ w3 = (0 : Int32))) : (p1.toInt = 0 ∧ w3 = f0) ∨ (p1.toInt = 1 ∧ w3 = f1) ∨ (p1.toInt = 2 ∧ w3 = f2) := by
  have := rng32 p1
  have := rng32 f0
  have := rng32 f1
  have := rng32 f2
  have := rng32 w3
  have : (0 : Int32).toInt = 0 := by decide
  try (simp only [Int32.lt_iff_toInt_lt, Int32.le_iff_toInt_le, Int64.lt_iff_toInt_lt, Int64.le_iff_toInt_le, ← Int32.toInt_inj, ← Int64.toInt_inj, ne_eq] at *)
  omega
set_option maxRecDepth 65536 in
set_option maxHeartbeats 40000000 in
theorem rmfre_4_3 (l : Launch) (Z : State) (a0 : Array Value) (hw : ∀ d ∈ tables_1, d.before a0 Z = true) (ws : List Jvm.Cond) (o0 : Addr) (p1 : Int32) (w_f : Addr) (k_f : ClassId) (f0 : Int32) (f1 : Int32) (f2 : Int32) (h0 : Heap) (n0 : Nat) (Z0 : n0 ≤ h0.size) (F_frequencies : Fld Z h0 o0 "com/example/robust_broker/robustbroker/Postings" "frequencies" "[I" (.ref w_f)) (V_f : Arv Z h0 w_f k_f .int (4 : Int32) [(.int f0), (.int f1), (.int f2), (.int (0 : Int32))] (.int (0 : Int32))) (hj1 : 0 ≤ p1.toInt) (hj2 : p1.toInt < 3) :
    MetFree l (⟨"com/example/robust_broker/robustbroker/Postings", "frequency", "(I)I"⟩ : MethodName) (head1 (Jvm.Cond.code (⟨"com/example/robust_broker/robustbroker/Postings", "frequency", "(I)I"⟩ : MethodName) prog_26_method_6_code 2 (some .int) :: ws) ({ frames := 0, cells := 0, slots := 0, locals := 0 } : Room)) (fun a U => a = #[(.ref o0), (.int p1)] ∧ Z.Warmed39 U.vm ∧ U.heap = h0) (fun _ _ _ _ _ => True) (fun _ U o U' => ∃ v L, o = .returned v ∧ Qfre_4_3 Z o0 p1 w_f k_f f0 f1 f2 h0 n0 v U'.heap L ∧ FrameEnd U o U' L ({ frames := 0, cells := 0, slots := 0, locals := 0 } : Room).cells ({ frames := 0, cells := 0, slots := 0, locals := 0 } : Room).slots) := by
  refine MetFree.of_bodySF (plainFor_of_name (by first | (simp [plainName, overriddenIn]; done) | decide +kernel)) hisR ?_
  intro p e s m args below meth c s₁ Bd hml0 hP hK
  obtain ⟨rfl, hZ, hh⟩ := hP
  have hx := Bd.exec
  have hby := Bd.bytes
  have hml : c.maxLocals = 2 := hml0
  have hown : s.vm.findClass "com/example/robust_broker/robustbroker/Postings" = some m.cls := findClass_of_methodNamed Bd.named
  have hnm := (name_of_methodNamed Bd.named Bd.method).1
  have hlk := BodyLoose.notSynchronized Bd
  have X0 : Stand p l e ({ frames := 0, cells := 0, slots := 0, locals := 0 } : Room) s m #[(.ref o0), (.int p1)] below meth c s₁ [] 0 0 := Stand.of_body Bd
  have e0 : s₁.heap = h0 := by rw [← hh, Bd.state]; rfl
  have N0 := Fr.nil n0
  show Go p e below s (Qfre_4_3 Z o0 p1 w_f k_f f0 f1 f2 h0 n0) 0 0 (s₁.setTop (entryFrame m #[(.ref o0), (.int p1)] 2))
  rw [ef_fre_4_3]
  show Go _ _ _ _ _ _ _ (s₁.setTop (mkF m 0 #[.val (.ref o0), .val (.int p1)] []))
  refine gob (fun _ k => XS.aloadN X0.here hx rfl (hb hby d10_0) rfl rfl k) ?_
  show Go _ _ _ _ _ _ _ (s₁.setTop (mkF m 1 #[.val (.ref o0), .val (.int p1)] [(.ref o0)]))
  obtain ⟨T1, X1, e1, st1⟩ := getF X0 hx hZ hown (host := "") (Or.inl (hw _ (List.mem_of_getElem? (i := 19) rfl))) Via.refl e0 F_frequencies (g := (mkF m 1 #[.val (.ref o0), .val (.int p1)] [(.ref o0)])) rfl rfl (hb hby d10_1)
  refine gob st1 ?_
  show Go _ _ _ _ _ _ _ (T1.setTop (mkF m 4 #[.val (.ref o0), .val (.int p1)] [(.ref w_f)]))
  refine gob (fun _ k => XS.iloadN X1.here hx rfl (hb hby d10_4) rfl k) ?_
  show Go _ _ _ _ _ _ _ (T1.setTop (mkF m 5 #[.val (.ref o0), .val (.int p1)] [(.int p1), (.ref w_f)]))
  obtain ⟨cl2, Ar2, aq2, S2, N2, H2, G2⟩ := id V_f
  obtain ⟨w3, hw3, hg3⟩ := own_at4 f0 f1 f2 (0 : Int32) (.int (0 : Int32)) p1 3 (by decide) hj1 hj2
  have hin3 : ¬ (p1 < 0 ∨ cl2.slots.size ≤ (p1).toNatClampNeg) := inb_of S2 (own_idx _ _ 3 (by decide) hj1 hj2)
  refine gob (X1.iaload hx (j := p1) (v := (.int w3)) (by rw [e1]; exact Ar2.1) (State.isArrayOf_alike hZ.alike Ar2.2.1) Ar2.2.2 hin3 (Has.at H2 hin3 hg3) (g := (mkF m 5 #[.val (.ref o0), .val (.int p1)] [(.int p1), (.ref w_f)])) rfl rfl (hb hby d10_5)) ?_
  show Go _ _ _ _ _ _ _ (T1.setTop (mkF m 6 #[.val (.ref o0), .val (.int p1)] [(.int w3)]))
  refine goI X1 hx hlk Bd.returns (hb hby d10_6) ?_ (by decide) (by decide)
  show Qfre_4_3 Z o0 p1 w_f k_f f0 f1 f2 h0 n0 (some (.int w3)) T1.heap _
  exact ⟨w3, rfl, lf_fre_4_3_0 p1 f0 f1 f2 w3 hj1 hj2 hw3, N0, e1⟩
theorem ef_fre_4_4 (m : MethodId) (x0 : Addr) (x1 : Int32) : entryFrame m #[(.ref x0), (.int x1)] 2 = mkF m 0 #[.val (.ref x0), .val (.int x1)] [] := by first | (simp [entryFrame, mkF, argsToLocals, Value.category]; done) | rfl
def Qfre_4_4 (Z : State) (o0 : Addr) (p1 : Int32) (w_f : Addr) (k_f : ClassId) (f0 : Int32) (f1 : Int32) (f2 : Int32) (f3 : Int32) (h0 : Heap) (n0 : Nat) (v : Option Value) (h : Heap) (L : List Loc) : Prop := ∃ r : Int32, v = some (.int r) ∧ ((p1.toInt = 0 ∧ r = f0) ∨ (p1.toInt = 1 ∧ r = f1) ∨ (p1.toInt = 2 ∧ r = f2) ∨ (p1.toInt = 3 ∧ r = f3)) ∧ Fr n0 L ∧ h = h0
theorem lf_fre_4_4_0 (p1 : Int32) (f0 : Int32) (f1 : Int32) (f2 : Int32) (f3 : Int32) (w3 : Int32) (hj1 : 0 ≤ p1.toInt) (hj2 : p1.toInt < 4) (hw3 : (p1.toInt = 0 ∧ w3 = f0) ∨ (p1.toInt = 1 ∧ w3 = f1) ∨ (p1.toInt = 2 ∧ w3 = f2) ∨ (p1.toInt = 3 ∧ w3 = f3)) : (p1.toInt = 0 ∧ w3 = f0) ∨ (p1.toInt = 1 ∧ w3 = f1) ∨ (p1.toInt = 2 ∧ w3 = f2) ∨ (p1.toInt = 3 ∧ w3 = f3) := by
  have := rng32 p1
  have := rng32 f0
  have := rng32 f1
  have := rng32 f2
  have := rng32 f3
  have := rng32 w3
  try (simp only [Int32.lt_iff_toInt_lt, Int32.le_iff_toInt_le, Int64.lt_iff_toInt_lt, Int64.le_iff_toInt_le, ← Int32.toInt_inj, ← Int64.toInt_inj, ne_eq] at *)
  omega
set_option maxRecDepth 65536 in
set_option maxHeartbeats 40000000 in
theorem rmfre_4_4 (l : Launch) (Z : State) (a0 : Array Value) (hw : ∀ d ∈ tables_1, d.before a0 Z = true) (ws : List Jvm.Cond) (o0 : Addr) (p1 : Int32) (w_f : Addr) (k_f : ClassId) (f0 : Int32) (f1 : Int32) (f2 : Int32) (f3 : Int32) (h0 : Heap) (n0 : Nat) (Z0 : n0 ≤ h0.size) (F_frequencies : Fld Z h0 o0 "com/example/robust_broker/robustbroker/Postings" "frequencies" "[I" (.ref w_f)) (V_f : Arv Z h0 w_f k_f .int (4 : Int32) [(.int f0), (.int f1), (.int f2), (.int f3)] (.int (0 : Int32))) (hj1 : 0 ≤ p1.toInt) (hj2 : p1.toInt < 4) :
    MetFree l (⟨"com/example/robust_broker/robustbroker/Postings", "frequency", "(I)I"⟩ : MethodName) (head1 (Jvm.Cond.code (⟨"com/example/robust_broker/robustbroker/Postings", "frequency", "(I)I"⟩ : MethodName) prog_26_method_6_code 2 (some .int) :: ws) ({ frames := 0, cells := 0, slots := 0, locals := 0 } : Room)) (fun a U => a = #[(.ref o0), (.int p1)] ∧ Z.Warmed39 U.vm ∧ U.heap = h0) (fun _ _ _ _ _ => True) (fun _ U o U' => ∃ v L, o = .returned v ∧ Qfre_4_4 Z o0 p1 w_f k_f f0 f1 f2 f3 h0 n0 v U'.heap L ∧ FrameEnd U o U' L ({ frames := 0, cells := 0, slots := 0, locals := 0 } : Room).cells ({ frames := 0, cells := 0, slots := 0, locals := 0 } : Room).slots) := by
  refine MetFree.of_bodySF (plainFor_of_name (by first | (simp [plainName, overriddenIn]; done) | decide +kernel)) hisR ?_
  intro p e s m args below meth c s₁ Bd hml0 hP hK
  obtain ⟨rfl, hZ, hh⟩ := hP
  have hx := Bd.exec
  have hby := Bd.bytes
  have hml : c.maxLocals = 2 := hml0
  have hown : s.vm.findClass "com/example/robust_broker/robustbroker/Postings" = some m.cls := findClass_of_methodNamed Bd.named
  have hnm := (name_of_methodNamed Bd.named Bd.method).1
  have hlk := BodyLoose.notSynchronized Bd
  have X0 : Stand p l e ({ frames := 0, cells := 0, slots := 0, locals := 0 } : Room) s m #[(.ref o0), (.int p1)] below meth c s₁ [] 0 0 := Stand.of_body Bd
  have e0 : s₁.heap = h0 := by rw [← hh, Bd.state]; rfl
  have N0 := Fr.nil n0
  show Go p e below s (Qfre_4_4 Z o0 p1 w_f k_f f0 f1 f2 f3 h0 n0) 0 0 (s₁.setTop (entryFrame m #[(.ref o0), (.int p1)] 2))
  rw [ef_fre_4_4]
  show Go _ _ _ _ _ _ _ (s₁.setTop (mkF m 0 #[.val (.ref o0), .val (.int p1)] []))
  refine gob (fun _ k => XS.aloadN X0.here hx rfl (hb hby d10_0) rfl rfl k) ?_
  show Go _ _ _ _ _ _ _ (s₁.setTop (mkF m 1 #[.val (.ref o0), .val (.int p1)] [(.ref o0)]))
  obtain ⟨T1, X1, e1, st1⟩ := getF X0 hx hZ hown (host := "") (Or.inl (hw _ (List.mem_of_getElem? (i := 19) rfl))) Via.refl e0 F_frequencies (g := (mkF m 1 #[.val (.ref o0), .val (.int p1)] [(.ref o0)])) rfl rfl (hb hby d10_1)
  refine gob st1 ?_
  show Go _ _ _ _ _ _ _ (T1.setTop (mkF m 4 #[.val (.ref o0), .val (.int p1)] [(.ref w_f)]))
  refine gob (fun _ k => XS.iloadN X1.here hx rfl (hb hby d10_4) rfl k) ?_
  show Go _ _ _ _ _ _ _ (T1.setTop (mkF m 5 #[.val (.ref o0), .val (.int p1)] [(.int p1), (.ref w_f)]))
  obtain ⟨cl2, Ar2, aq2, S2, N2, H2, G2⟩ := id V_f
  obtain ⟨w3, hw3, hg3⟩ := own_at4 f0 f1 f2 f3 (.int (0 : Int32)) p1 4 (by decide) hj1 hj2
  have hin3 : ¬ (p1 < 0 ∨ cl2.slots.size ≤ (p1).toNatClampNeg) := inb_of S2 (own_idx _ _ 4 (by decide) hj1 hj2)
  refine gob (X1.iaload hx (j := p1) (v := (.int w3)) (by rw [e1]; exact Ar2.1) (State.isArrayOf_alike hZ.alike Ar2.2.1) Ar2.2.2 hin3 (Has.at H2 hin3 hg3) (g := (mkF m 5 #[.val (.ref o0), .val (.int p1)] [(.int p1), (.ref w_f)])) rfl rfl (hb hby d10_5)) ?_
  show Go _ _ _ _ _ _ _ (T1.setTop (mkF m 6 #[.val (.ref o0), .val (.int p1)] [(.int w3)]))
  refine goI X1 hx hlk Bd.returns (hb hby d10_6) ?_ (by decide) (by decide)
  show Qfre_4_4 Z o0 p1 w_f k_f f0 f1 f2 f3 h0 n0 (some (.int w3)) T1.heap _
  exact ⟨w3, rfl, lf_fre_4_4_0 p1 f0 f1 f2 f3 w3 hj1 hj2 hw3, N0, e1⟩
theorem ef_fre_8_5 (m : MethodId) (x0 : Addr) (x1 : Int32) : entryFrame m #[(.ref x0), (.int x1)] 2 = mkF m 0 #[.val (.ref x0), .val (.int x1)] [] := by first | (simp [entryFrame, mkF, argsToLocals, Value.category]; done) | rfl
def Qfre_8_5 (Z : State) (o0 : Addr) (p1 : Int32) (w_f : Addr) (k_f : ClassId) (f0 : Int32) (f1 : Int32) (f2 : Int32) (f3 : Int32) (f4 : Int32) (h0 : Heap) (n0 : Nat) (v : Option Value) (h : Heap) (L : List Loc) : Prop := ∃ r : Int32, v = some (.int r) ∧ ((p1.toInt = 0 ∧ r = f0) ∨ (p1.toInt = 1 ∧ r = f1) ∨ (p1.toInt = 2 ∧ r = f2) ∨ (p1.toInt = 3 ∧ r = f3) ∨ (p1.toInt = 4 ∧ r = f4)) ∧ Fr n0 L ∧ h = h0
theorem lf_fre_8_5_0 (p1 : Int32) (f0 : Int32) (f1 : Int32) (f2 : Int32) (f3 : Int32) (f4 : Int32) (w3 : Int32) (hj1 : 0 ≤ p1.toInt) (hj2 : p1.toInt < 5) (hw3 : (p1.toInt = 0 ∧ w3 = f0) ∨ (p1.toInt = 1 ∧ w3 = f1) ∨ (p1.toInt = 2 ∧ w3 = f2) ∨ (p1.toInt = 3 ∧ w3 = f3) ∨ (p1.toInt = 4 ∧ w3 = f4) ∨ (p1.toInt = 5 ∧ w3 = (0 : Int32)) ∨ (p1.toInt = 6 ∧ w3 = (0 : Int32)) ∨ (p1.toInt = 7 ∧ w3 = (0 : Int32))) : (p1.toInt = 0 ∧ w3 = f0) ∨ (p1.toInt = 1 ∧ w3 = f1) ∨ (p1.toInt = 2 ∧ w3 = f2) ∨ (p1.toInt = 3 ∧ w3 = f3) ∨ (p1.toInt = 4 ∧ w3 = f4) := by
  have := rng32 p1
  have := rng32 f0
  have := rng32 f1
  have := rng32 f2
  have := rng32 f3
  have := rng32 f4
  have := rng32 w3
  have : (0 : Int32).toInt = 0 := by decide
  try (simp only [Int32.lt_iff_toInt_lt, Int32.le_iff_toInt_le, Int64.lt_iff_toInt_lt, Int64.le_iff_toInt_le, ← Int32.toInt_inj, ← Int64.toInt_inj, ne_eq] at *)
  omega
set_option maxRecDepth 65536 in
set_option maxHeartbeats 40000000 in
theorem rmfre_8_5 (l : Launch) (Z : State) (a0 : Array Value) (hw : ∀ d ∈ tables_1, d.before a0 Z = true) (ws : List Jvm.Cond) (o0 : Addr) (p1 : Int32) (w_f : Addr) (k_f : ClassId) (f0 : Int32) (f1 : Int32) (f2 : Int32) (f3 : Int32) (f4 : Int32) (h0 : Heap) (n0 : Nat) (Z0 : n0 ≤ h0.size) (F_frequencies : Fld Z h0 o0 "com/example/robust_broker/robustbroker/Postings" "frequencies" "[I" (.ref w_f)) (V_f : Arv Z h0 w_f k_f .int (8 : Int32) [(.int f0), (.int f1), (.int f2), (.int f3), (.int f4), (.int (0 : Int32)), (.int (0 : Int32)), (.int (0 : Int32))] (.int (0 : Int32))) (hj1 : 0 ≤ p1.toInt) (hj2 : p1.toInt < 5) :
    MetFree l (⟨"com/example/robust_broker/robustbroker/Postings", "frequency", "(I)I"⟩ : MethodName) (head1 (Jvm.Cond.code (⟨"com/example/robust_broker/robustbroker/Postings", "frequency", "(I)I"⟩ : MethodName) prog_26_method_6_code 2 (some .int) :: ws) ({ frames := 0, cells := 0, slots := 0, locals := 0 } : Room)) (fun a U => a = #[(.ref o0), (.int p1)] ∧ Z.Warmed39 U.vm ∧ U.heap = h0) (fun _ _ _ _ _ => True) (fun _ U o U' => ∃ v L, o = .returned v ∧ Qfre_8_5 Z o0 p1 w_f k_f f0 f1 f2 f3 f4 h0 n0 v U'.heap L ∧ FrameEnd U o U' L ({ frames := 0, cells := 0, slots := 0, locals := 0 } : Room).cells ({ frames := 0, cells := 0, slots := 0, locals := 0 } : Room).slots) := by
  refine MetFree.of_bodySF (plainFor_of_name (by first | (simp [plainName, overriddenIn]; done) | decide +kernel)) hisR ?_
  intro p e s m args below meth c s₁ Bd hml0 hP hK
  obtain ⟨rfl, hZ, hh⟩ := hP
  have hx := Bd.exec
  have hby := Bd.bytes
  have hml : c.maxLocals = 2 := hml0
  have hown : s.vm.findClass "com/example/robust_broker/robustbroker/Postings" = some m.cls := findClass_of_methodNamed Bd.named
  have hnm := (name_of_methodNamed Bd.named Bd.method).1
  have hlk := BodyLoose.notSynchronized Bd
  have X0 : Stand p l e ({ frames := 0, cells := 0, slots := 0, locals := 0 } : Room) s m #[(.ref o0), (.int p1)] below meth c s₁ [] 0 0 := Stand.of_body Bd
  have e0 : s₁.heap = h0 := by rw [← hh, Bd.state]; rfl
  have N0 := Fr.nil n0
  show Go p e below s (Qfre_8_5 Z o0 p1 w_f k_f f0 f1 f2 f3 f4 h0 n0) 0 0 (s₁.setTop (entryFrame m #[(.ref o0), (.int p1)] 2))
  rw [ef_fre_8_5]
  show Go _ _ _ _ _ _ _ (s₁.setTop (mkF m 0 #[.val (.ref o0), .val (.int p1)] []))
  refine gob (fun _ k => XS.aloadN X0.here hx rfl (hb hby d10_0) rfl rfl k) ?_
  show Go _ _ _ _ _ _ _ (s₁.setTop (mkF m 1 #[.val (.ref o0), .val (.int p1)] [(.ref o0)]))
  obtain ⟨T1, X1, e1, st1⟩ := getF X0 hx hZ hown (host := "") (Or.inl (hw _ (List.mem_of_getElem? (i := 19) rfl))) Via.refl e0 F_frequencies (g := (mkF m 1 #[.val (.ref o0), .val (.int p1)] [(.ref o0)])) rfl rfl (hb hby d10_1)
  refine gob st1 ?_
  show Go _ _ _ _ _ _ _ (T1.setTop (mkF m 4 #[.val (.ref o0), .val (.int p1)] [(.ref w_f)]))
  refine gob (fun _ k => XS.iloadN X1.here hx rfl (hb hby d10_4) rfl k) ?_
  show Go _ _ _ _ _ _ _ (T1.setTop (mkF m 5 #[.val (.ref o0), .val (.int p1)] [(.int p1), (.ref w_f)]))
  obtain ⟨cl2, Ar2, aq2, S2, N2, H2, G2⟩ := id V_f
  obtain ⟨w3, hw3, hg3⟩ := own_at8 f0 f1 f2 f3 f4 (0 : Int32) (0 : Int32) (0 : Int32) (.int (0 : Int32)) p1 5 (by decide) hj1 hj2
  have hin3 : ¬ (p1 < 0 ∨ cl2.slots.size ≤ (p1).toNatClampNeg) := inb_of S2 (own_idx _ _ 5 (by decide) hj1 hj2)
  refine gob (X1.iaload hx (j := p1) (v := (.int w3)) (by rw [e1]; exact Ar2.1) (State.isArrayOf_alike hZ.alike Ar2.2.1) Ar2.2.2 hin3 (Has.at H2 hin3 hg3) (g := (mkF m 5 #[.val (.ref o0), .val (.int p1)] [(.int p1), (.ref w_f)])) rfl rfl (hb hby d10_5)) ?_
  show Go _ _ _ _ _ _ _ (T1.setTop (mkF m 6 #[.val (.ref o0), .val (.int p1)] [(.int w3)]))
  refine goI X1 hx hlk Bd.returns (hb hby d10_6) ?_ (by decide) (by decide)
  show Qfre_8_5 Z o0 p1 w_f k_f f0 f1 f2 f3 f4 h0 n0 (some (.int w3)) T1.heap _
  exact ⟨w3, rfl, lf_fre_8_5_0 p1 f0 f1 f2 f3 f4 w3 hj1 hj2 hw3, N0, e1⟩
theorem d1_0 : decode method_2_code 0 = .ok (.iload_n 0, 1) := by decide +kernel
theorem d1_1 : decode method_2_code 1 = .ok (.ldc 7, 2) := by decide +kernel
theorem d1_3 : decode method_2_code 3 = .ok (.iand, 1) := by decide +kernel
theorem d1_4 : decode method_2_code 4 = .ok (.istore_n 1, 1) := by decide +kernel
theorem d1_5 : decode method_2_code 5 = .ok (.iload_n 1, 1) := by decide +kernel
theorem d1_6 : decode method_2_code 6 = .ok (.ifCond .ne 5, 3) := by decide +kernel
theorem d1_9 : decode method_2_code 9 = .ok (.iconst 1, 1) := by decide +kernel
theorem d1_10 : decode method_2_code 10 = .ok (.ireturn, 1) := by decide +kernel
theorem d1_11 : decode method_2_code 11 = .ok (.iload_n 1, 1) := by decide +kernel
theorem d1_12 : decode method_2_code 12 = .ok (.ireturn, 1) := by decide +kernel
theorem ef_1 (m : MethodId) (x0 : Int32) : entryFrame m #[(.int x0)] 2 = mkF m 0 #[.val (.int x0), .unset] [] := by first | (simp [entryFrame, mkF, argsToLocals, Value.category]; done) | rfl
def Q1 (Z : State) (p0 : Int32) (h0 : Heap) (n0 : Nat) (v : Option Value) (h : Heap) (L : List Loc) : Prop := ∃ r : Int32, v = some (.int r) ∧ (True) ∧ Fr n0 L ∧ h = h0
theorem lf_1_0 (p0 : Int32) (x1 : Int32) (hx1 : (p0 &&& (2147483647 : Int32)) = x1) (hc6_2 : x1 = (0 : Int32)) : True := by
  trivial
theorem lf_1_1 (p0 : Int32) (x1 : Int32) (hx1 : (p0 &&& (2147483647 : Int32)) = x1) (hc6_2 : ¬ (x1 = (0 : Int32))) : True := by
  trivial
set_option maxRecDepth 65536 in
set_option maxHeartbeats 40000000 in
theorem rm1 (l : Launch) (Z : State) (a0 : Array Value) (hw : ∀ d ∈ tables_1, d.before a0 Z = true) (ws : List Jvm.Cond) (p0 : Int32) (h0 : Heap) (n0 : Nat) (Z0 : n0 ≤ h0.size) :
    MetFree l (⟨"com/example/robust_broker/robustbroker/PostingsAddPinLaw", "freq", "(I)I"⟩ : MethodName) (head1 (Jvm.Cond.code (⟨"com/example/robust_broker/robustbroker/PostingsAddPinLaw", "freq", "(I)I"⟩ : MethodName) method_2_code 2 (some .int) :: ws) ({ frames := 0, cells := 0, slots := 0, locals := 0 } : Room)) (fun a U => a = #[(.int p0)] ∧ Z.Warmed39 U.vm ∧ U.heap = h0) (fun _ _ _ _ _ => True) (fun _ U o U' => ∃ v L, o = .returned v ∧ Q1 Z p0 h0 n0 v U'.heap L ∧ FrameEnd U o U' L ({ frames := 0, cells := 0, slots := 0, locals := 0 } : Room).cells ({ frames := 0, cells := 0, slots := 0, locals := 0 } : Room).slots) := by
  refine MetFree.of_bodySF (plainFor_of_name (by first | (simp [plainName, overriddenIn]; done) | decide +kernel)) hisR ?_
  intro p e s m args below meth c s₁ Bd hml0 hP hK
  obtain ⟨rfl, hZ, hh⟩ := hP
  have hx := Bd.exec
  have hby := Bd.bytes
  have hml : c.maxLocals = 2 := hml0
  have hown : s.vm.findClass "com/example/robust_broker/robustbroker/PostingsAddPinLaw" = some m.cls := findClass_of_methodNamed Bd.named
  have hnm := (name_of_methodNamed Bd.named Bd.method).1
  have hlk := BodyLoose.notSynchronized Bd
  have X0 : Stand p l e ({ frames := 0, cells := 0, slots := 0, locals := 0 } : Room) s m #[(.int p0)] below meth c s₁ [] 0 0 := Stand.of_body Bd
  have e0 : s₁.heap = h0 := by rw [← hh, Bd.state]; rfl
  have N0 := Fr.nil n0
  show Go p e below s (Q1 Z p0 h0 n0) 0 0 (s₁.setTop (entryFrame m #[(.int p0)] 2))
  rw [ef_1]
  show Go _ _ _ _ _ _ _ (s₁.setTop (mkF m 0 #[.val (.int p0), .unset] []))
  refine gob (fun _ k => XS.iloadN X0.here hx rfl (hb hby d1_0) rfl k) ?_
  show Go _ _ _ _ _ _ _ (s₁.setTop (mkF m 1 #[.val (.int p0), .unset] [(.int p0)]))
  refine gob (X0.ldcInt hx hown (mvT hZ (hw _ (List.mem_of_getElem? (i := 6) rfl))) (g := (mkF m 1 #[.val (.int p0), .unset] [(.int p0)])) rfl (hb hby d1_1)) ?_
  show Go _ _ _ _ _ _ _ (s₁.setTop (mkF m 3 #[.val (.int p0), .unset] [(.int (2147483647 : Int32)), (.int p0)]))
  refine gob (fun _ k => XS.iand X0.here hx rfl (hb hby d1_3) rfl k) ?_
  show Go _ _ _ _ _ _ _ (s₁.setTop (mkF m 4 #[.val (.int p0), .unset] [(.int (p0 &&& (2147483647 : Int32)))]))
  refine gob (fun _ k => XS.istoreN X0.here hx rfl (hb hby d1_4) rfl (l' := #[.val (.int p0), .val (.int (p0 &&& (2147483647 : Int32)))]) rfl k) ?_
  show Go _ _ _ _ _ _ _ (s₁.setTop (mkF m 5 #[.val (.int p0), .val (.int (p0 &&& (2147483647 : Int32)))] []))
  generalize hx1 : (p0 &&& (2147483647 : Int32)) = x1
  show Go _ _ _ _ _ _ _ (s₁.setTop (mkF m 5 #[.val (.int p0), .val (.int x1)] []))
  refine gob (fun _ k => XS.iloadN X0.here hx rfl (hb hby d1_5) rfl k) ?_
  show Go _ _ _ _ _ _ _ (s₁.setTop (mkF m 6 #[.val (.int p0), .val (.int x1)] [(.int x1)]))
  by_cases hc6_2 : x1 = (0 : Int32)
  · skip
    refine gob (fun _ k => XS.ifNo X0.here hx rfl (hb hby d1_6) rfl ((if0 _ _).trans (teq hc6_2).2) k) ?_
    show Go _ _ _ _ _ _ _ (s₁.setTop (mkF m 9 #[.val (.int p0), .val (.int x1)] []))
    refine gob (fun _ k => XS.iconst X0.here hx rfl (hb hby d1_9) k) ?_
    show Go _ _ _ _ _ _ _ (s₁.setTop (mkF m 10 #[.val (.int p0), .val (.int x1)] [(.int (1 : Int32))]))
    refine goI X0 hx hlk Bd.returns (hb hby d1_10) ?_ (by decide) (by decide)
    show Q1 Z p0 h0 n0 (some (.int (1 : Int32))) s₁.heap _
    exact ⟨(1 : Int32), rfl, lf_1_0 p0 x1 hx1 hc6_2, N0, e0⟩
  · skip
    refine gob (fun _ k => XS.ifYes X0.here hx rfl (pc0 := 6) (pc' := 11) rfl (hb hby d1_6) rfl ((if0 _ _).trans (feq hc6_2).2) (by decide) (by decide) k) ?_
    show Go _ _ _ _ _ _ _ (s₁.setTop (mkF m 11 #[.val (.int p0), .val (.int x1)] []))
    refine gob (fun _ k => XS.iloadN X0.here hx rfl (hb hby d1_11) rfl k) ?_
    show Go _ _ _ _ _ _ _ (s₁.setTop (mkF m 12 #[.val (.int p0), .val (.int x1)] [(.int x1)]))
    refine goI X0 hx hlk Bd.returns (hb hby d1_12) ?_ (by decide) (by decide)
    show Q1 Z p0 h0 n0 (some (.int x1)) s₁.heap _
    exact ⟨x1, rfl, lf_1_1 p0 x1 hx1 hc6_2, N0, e0⟩
theorem pd_2 : parseMethodDescriptor "(I)I" = some ⟨[.int], some .int⟩ := by decide +kernel
theorem pd_3 : parseMethodDescriptor "()V" = some ⟨[], none⟩ := by decide +kernel
theorem pd_4 : parseMethodDescriptor "(II)V" = some ⟨[.int, .int], none⟩ := by decide +kernel
theorem pd_5 : parseMethodDescriptor "()I" = some ⟨[], some .int⟩ := by decide +kernel
theorem pd_6 : parseMethodDescriptor "()J" = some ⟨[], some .long⟩ := by decide +kernel
theorem ef_0 (m : MethodId) (x0 : Int32) (x1 : Int32) (x2 : Int32) (x3 : Int32) (x4 : Int32) (x5 : Int64) : entryFrame m #[(.int x0), (.int x1), (.int x2), (.int x3), (.int x4), (.long x5)] maxLocals = mkF m 0 #[.val (.int x0), .val (.int x1), .val (.int x2), .val (.int x3), .val (.int x4), .val (.long x5), .second, .unset, .unset, .unset, .unset, .unset, .unset, .unset] [] := by first | (simp [entryFrame, mkF, argsToLocals, Value.category, maxLocals]; done) | rfl
def Q0 (Z : State) (p0 : Int32) (p1 : Int32) (p2 : Int32) (p3 : Int32) (p4 : Int32) (q5 : Int64) (h0 : Heap) (n0 : Nat) (v : Option Value) (h : Heap) (L : List Loc) : Prop := v = some (.int 1) ∧ Fr n0 L
theorem ld_0_311_215 (p0 : Int32) (n_ : Int32) (r213 : Int32) (hn_ : (((p0.toUInt32 >>> ((28 : Int32) &&& 31).toUInt32).toInt32) % (6 : Int32)) = n_) (hc162_88 : (0 : Int32) < n_) (hc191_105 : (1 : Int32) < n_) (hc220_121 : (2 : Int32) < n_) (hc249_156 : (3 : Int32) < n_) (hc278_172 : (4 : Int32) < n_) (hr213 : (r213 = (5 : Int32))) : r213 = n_ := by
  have := rng32 p0
  have := rng32 n_
  have := rng32 r213
  have : (0 : Int32).toInt = 0 := by decide
  have : (1 : Int32).toInt = 1 := by decide
  have : (2 : Int32).toInt = 2 := by decide
  have : (28 : Int32).toInt = 28 := by decide
  have : (3 : Int32).toInt = 3 := by decide
  have : (4 : Int32).toInt = 4 := by decide
  have : (5 : Int32).toInt = 5 := by decide
  have : (6 : Int32).toInt = 6 := by decide
  have := c_iushr p0 (28 : Int32) 28 (by decide) (by decide)
  have := rng32 ((p0.toUInt32 >>> ((28 : Int32) &&& 31).toUInt32).toInt32)
  have := c_irem ((p0.toUInt32 >>> ((28 : Int32) &&& 31).toUInt32).toInt32) (6 : Int32) (6) (by decide)
  have := rng32 (((p0.toUInt32 >>> ((28 : Int32) &&& 31).toUInt32).toInt32) % (6 : Int32))
  try (simp only [Int32.lt_iff_toInt_lt, Int32.le_iff_toInt_le, Int64.lt_iff_toInt_lt, Int64.le_iff_toInt_le, ← Int32.toInt_inj, ← Int64.toInt_inj, ne_eq] at *)
  omega
theorem ld_0_324_218 (r32 : Int32) (r37 : Int32) (r42 : Int32) (r47 : Int32) (r52 : Int32) (x104 : Int64) (x120 : Int64) (x155 : Int64) (x171 : Int64) (x212 : Int64) (r217 : Int64) (hr32 : True) (hr37 : True) (hr42 : True) (hr47 : True) (hr52 : True) (hx104 : ((0 : Int64) + (r32.toInt64)) = x104) (hx120 : (x104 + (r37.toInt64)) = x120) (hx155 : (x120 + (r42.toInt64)) = x155) (hx171 : (x155 + (r47.toInt64)) = x171) (hx212 : (x171 + (r52.toInt64)) = x212) (hr217 : (r217 = ((((((0 : Int64) + (r32.toInt64)) + (r37.toInt64)) + (r42.toInt64)) + (r47.toInt64)) + (r52.toInt64)))) : r217 = x212 := by
  subst hx104
  subst hx120
  subst hx155
  subst hx171
  subst hx212
  exact hr217
theorem ld_0_331_220 (p0 : Int32) (n_ : Int32) (hn_ : (((p0.toUInt32 >>> ((28 : Int32) &&& 31).toUInt32).toInt32) % (6 : Int32)) = n_) (hc162_88 : (0 : Int32) < n_) (hc191_105 : (1 : Int32) < n_) (hc220_121 : (2 : Int32) < n_) (hc249_156 : (3 : Int32) < n_) (hc278_172 : (4 : Int32) < n_) : ¬ (n_ = (0 : Int32)) := by
  have := rng32 p0
  have := rng32 n_
  have : (0 : Int32).toInt = 0 := by decide
  have : (1 : Int32).toInt = 1 := by decide
  have : (2 : Int32).toInt = 2 := by decide
  have : (28 : Int32).toInt = 28 := by decide
  have : (3 : Int32).toInt = 3 := by decide
  have : (4 : Int32).toInt = 4 := by decide
  have : (6 : Int32).toInt = 6 := by decide
  have := c_iushr p0 (28 : Int32) 28 (by decide) (by decide)
  have := rng32 ((p0.toUInt32 >>> ((28 : Int32) &&& 31).toUInt32).toInt32)
  have := c_irem ((p0.toUInt32 >>> ((28 : Int32) &&& 31).toUInt32).toInt32) (6 : Int32) (6) (by decide)
  have := rng32 (((p0.toUInt32 >>> ((28 : Int32) &&& 31).toUInt32).toInt32) % (6 : Int32))
  try (simp only [Int32.lt_iff_toInt_lt, Int32.le_iff_toInt_le, Int64.lt_iff_toInt_lt, Int64.le_iff_toInt_le, ← Int32.toInt_inj, ← Int64.toInt_inj, ne_eq] at *)
  omega
theorem la_0_342_222 (p0 : Int32) (n_ : Int32) (hn_ : (((p0.toUInt32 >>> ((28 : Int32) &&& 31).toUInt32).toInt32) % (6 : Int32)) = n_) (hc162_88 : (0 : Int32) < n_) (hc191_105 : (1 : Int32) < n_) (hc220_121 : (2 : Int32) < n_) (hc249_156 : (3 : Int32) < n_) (hc278_172 : (4 : Int32) < n_) : n_ ≠ 0 := by
  have := rng32 p0
  have := rng32 n_
  have : (0 : Int32).toInt = 0 := by decide
  have : (1 : Int32).toInt = 1 := by decide
  have : (2 : Int32).toInt = 2 := by decide
  have : (28 : Int32).toInt = 28 := by decide
  have : (3 : Int32).toInt = 3 := by decide
  have : (4 : Int32).toInt = 4 := by decide
  have : (6 : Int32).toInt = 6 := by decide
  have := c_iushr p0 (28 : Int32) 28 (by decide) (by decide)
  have := rng32 ((p0.toUInt32 >>> ((28 : Int32) &&& 31).toUInt32).toInt32)
  have := c_irem ((p0.toUInt32 >>> ((28 : Int32) &&& 31).toUInt32).toInt32) (6 : Int32) (6) (by decide)
  have := rng32 (((p0.toUInt32 >>> ((28 : Int32) &&& 31).toUInt32).toInt32) % (6 : Int32))
  try (simp only [Int32.lt_iff_toInt_lt, Int32.le_iff_toInt_le, Int64.lt_iff_toInt_lt, Int64.le_iff_toInt_le, ← Int32.toInt_inj, ← Int64.toInt_inj, ne_eq] at *)
  omega
theorem la_0_349_224 (p0 : Int32) (p1 : Int32) (n_ : Int32) (k_ : Int32) (hn_ : (((p0.toUInt32 >>> ((28 : Int32) &&& 31).toUInt32).toInt32) % (6 : Int32)) = n_) (hc162_88 : (0 : Int32) < n_) (hc191_105 : (1 : Int32) < n_) (hc220_121 : (2 : Int32) < n_) (hc249_156 : (3 : Int32) < n_) (hc278_172 : (4 : Int32) < n_) (hk_ : (((p1.toUInt32 >>> ((28 : Int32) &&& 31).toUInt32).toInt32) % n_) = k_) : 0 ≤ k_.toInt := by
  have := rng32 p0
  have := rng32 p1
  have := rng32 n_
  have := rng32 k_
  have : (0 : Int32).toInt = 0 := by decide
  have : (1 : Int32).toInt = 1 := by decide
  have : (2 : Int32).toInt = 2 := by decide
  have : (28 : Int32).toInt = 28 := by decide
  have : (3 : Int32).toInt = 3 := by decide
  have : (4 : Int32).toInt = 4 := by decide
  have : (6 : Int32).toInt = 6 := by decide
  have := c_iushr p0 (28 : Int32) 28 (by decide) (by decide)
  have := rng32 ((p0.toUInt32 >>> ((28 : Int32) &&& 31).toUInt32).toInt32)
  have := c_irem ((p0.toUInt32 >>> ((28 : Int32) &&& 31).toUInt32).toInt32) (6 : Int32) (6) (by decide)
  have := rng32 (((p0.toUInt32 >>> ((28 : Int32) &&& 31).toUInt32).toInt32) % (6 : Int32))
  have := c_iushr p1 (28 : Int32) 28 (by decide) (by decide)
  have := rng32 ((p1.toUInt32 >>> ((28 : Int32) &&& 31).toUInt32).toInt32)
  have := c_iremV ((p1.toUInt32 >>> ((28 : Int32) &&& 31).toUInt32).toInt32) n_
  have := rng32 (((p1.toUInt32 >>> ((28 : Int32) &&& 31).toUInt32).toInt32) % n_)
  try (simp only [Int32.lt_iff_toInt_lt, Int32.le_iff_toInt_le, Int64.lt_iff_toInt_lt, Int64.le_iff_toInt_le, ← Int32.toInt_inj, ← Int64.toInt_inj, ne_eq] at *)
  omega
theorem la_0_349_225 (p0 : Int32) (p1 : Int32) (n_ : Int32) (k_ : Int32) (hn_ : (((p0.toUInt32 >>> ((28 : Int32) &&& 31).toUInt32).toInt32) % (6 : Int32)) = n_) (hc162_88 : (0 : Int32) < n_) (hc191_105 : (1 : Int32) < n_) (hc220_121 : (2 : Int32) < n_) (hc249_156 : (3 : Int32) < n_) (hc278_172 : (4 : Int32) < n_) (hk_ : (((p1.toUInt32 >>> ((28 : Int32) &&& 31).toUInt32).toInt32) % n_) = k_) : k_.toInt < 5 := by
  have := rng32 p0
  have := rng32 p1
  have := rng32 n_
  have := rng32 k_
  have : (0 : Int32).toInt = 0 := by decide
  have : (1 : Int32).toInt = 1 := by decide
  have : (2 : Int32).toInt = 2 := by decide
  have : (28 : Int32).toInt = 28 := by decide
  have : (3 : Int32).toInt = 3 := by decide
  have : (4 : Int32).toInt = 4 := by decide
  have : (6 : Int32).toInt = 6 := by decide
  have := c_iushr p0 (28 : Int32) 28 (by decide) (by decide)
  have := rng32 ((p0.toUInt32 >>> ((28 : Int32) &&& 31).toUInt32).toInt32)
  have := c_irem ((p0.toUInt32 >>> ((28 : Int32) &&& 31).toUInt32).toInt32) (6 : Int32) (6) (by decide)
  have := rng32 (((p0.toUInt32 >>> ((28 : Int32) &&& 31).toUInt32).toInt32) % (6 : Int32))
  have := c_iushr p1 (28 : Int32) 28 (by decide) (by decide)
  have := rng32 ((p1.toUInt32 >>> ((28 : Int32) &&& 31).toUInt32).toInt32)
  have := c_iremV ((p1.toUInt32 >>> ((28 : Int32) &&& 31).toUInt32).toInt32) n_
  have := rng32 (((p1.toUInt32 >>> ((28 : Int32) &&& 31).toUInt32).toInt32) % n_)
  try (simp only [Int32.lt_iff_toInt_lt, Int32.le_iff_toInt_le, Int64.lt_iff_toInt_lt, Int64.le_iff_toInt_le, ← Int32.toInt_inj, ← Int64.toInt_inj, ne_eq] at *)
  omega
theorem la_0_356_229 (p0 : Int32) (p1 : Int32) (n_ : Int32) (k_ : Int32) (hn_ : (((p0.toUInt32 >>> ((28 : Int32) &&& 31).toUInt32).toInt32) % (6 : Int32)) = n_) (hc162_88 : (0 : Int32) < n_) (hc191_105 : (1 : Int32) < n_) (hc220_121 : (2 : Int32) < n_) (hc249_156 : (3 : Int32) < n_) (hc278_172 : (4 : Int32) < n_) (hk_ : (((p1.toUInt32 >>> ((28 : Int32) &&& 31).toUInt32).toInt32) % n_) = k_) : 0 ≤ k_.toInt ∧ k_.toInt < 5 := by
  have := rng32 p0
  have := rng32 p1
  have := rng32 n_
  have := rng32 k_
  have : (0 : Int32).toInt = 0 := by decide
  have : (1 : Int32).toInt = 1 := by decide
  have : (2 : Int32).toInt = 2 := by decide
  have : (28 : Int32).toInt = 28 := by decide
  have : (3 : Int32).toInt = 3 := by decide
  have : (4 : Int32).toInt = 4 := by decide
  have : (6 : Int32).toInt = 6 := by decide
  have := c_iushr p0 (28 : Int32) 28 (by decide) (by decide)
  have := rng32 ((p0.toUInt32 >>> ((28 : Int32) &&& 31).toUInt32).toInt32)
  have := c_irem ((p0.toUInt32 >>> ((28 : Int32) &&& 31).toUInt32).toInt32) (6 : Int32) (6) (by decide)
  have := rng32 (((p0.toUInt32 >>> ((28 : Int32) &&& 31).toUInt32).toInt32) % (6 : Int32))
  have := c_iushr p1 (28 : Int32) 28 (by decide) (by decide)
  have := rng32 ((p1.toUInt32 >>> ((28 : Int32) &&& 31).toUInt32).toInt32)
  have := c_iremV ((p1.toUInt32 >>> ((28 : Int32) &&& 31).toUInt32).toInt32) n_
  have := rng32 (((p1.toUInt32 >>> ((28 : Int32) &&& 31).toUInt32).toInt32) % n_)
  try (simp only [Int32.lt_iff_toInt_lt, Int32.le_iff_toInt_le, Int64.lt_iff_toInt_lt, Int64.le_iff_toInt_le, ← Int32.toInt_inj, ← Int64.toInt_inj, ne_eq] at *)
  omega
theorem ld_0_357_230 (x4 : Int32) (x9 : Int32) (x14 : Int32) (x19 : Int32) (x24 : Int32) (k_ : Int32) (r223 : Int32) (w228 : Int32) (hr223 : (k_.toInt = 0 ∧ r223 = x4) ∨ (k_.toInt = 1 ∧ r223 = x9) ∨ (k_.toInt = 2 ∧ r223 = x14) ∨ (k_.toInt = 3 ∧ r223 = x19) ∨ (k_.toInt = 4 ∧ r223 = x24)) (hw228 : (k_.toInt = 0 ∧ w228 = x4) ∨ (k_.toInt = 1 ∧ w228 = x9) ∨ (k_.toInt = 2 ∧ w228 = x14) ∨ (k_.toInt = 3 ∧ w228 = x19) ∨ (k_.toInt = 4 ∧ w228 = x24)) : r223 = w228 := by
  have := rng32 x4
  have := rng32 x9
  have := rng32 x14
  have := rng32 x19
  have := rng32 x24
  have := rng32 k_
  have := rng32 r223
  have := rng32 w228
  try (simp only [Int32.lt_iff_toInt_lt, Int32.le_iff_toInt_le, Int64.lt_iff_toInt_lt, Int64.le_iff_toInt_le, ← Int32.toInt_inj, ← Int64.toInt_inj, ne_eq] at *)
  omega
theorem la_0_364_233 (p0 : Int32) (p1 : Int32) (n_ : Int32) (k_ : Int32) (hn_ : (((p0.toUInt32 >>> ((28 : Int32) &&& 31).toUInt32).toInt32) % (6 : Int32)) = n_) (hc162_88 : (0 : Int32) < n_) (hc191_105 : (1 : Int32) < n_) (hc220_121 : (2 : Int32) < n_) (hc249_156 : (3 : Int32) < n_) (hc278_172 : (4 : Int32) < n_) (hk_ : (((p1.toUInt32 >>> ((28 : Int32) &&& 31).toUInt32).toInt32) % n_) = k_) : 0 ≤ k_.toInt := by
  have := rng32 p0
  have := rng32 p1
  have := rng32 n_
  have := rng32 k_
  have : (0 : Int32).toInt = 0 := by decide
  have : (1 : Int32).toInt = 1 := by decide
  have : (2 : Int32).toInt = 2 := by decide
  have : (28 : Int32).toInt = 28 := by decide
  have : (3 : Int32).toInt = 3 := by decide
  have : (4 : Int32).toInt = 4 := by decide
  have : (6 : Int32).toInt = 6 := by decide
  have := c_iushr p0 (28 : Int32) 28 (by decide) (by decide)
  have := rng32 ((p0.toUInt32 >>> ((28 : Int32) &&& 31).toUInt32).toInt32)
  have := c_irem ((p0.toUInt32 >>> ((28 : Int32) &&& 31).toUInt32).toInt32) (6 : Int32) (6) (by decide)
  have := rng32 (((p0.toUInt32 >>> ((28 : Int32) &&& 31).toUInt32).toInt32) % (6 : Int32))
  have := c_iushr p1 (28 : Int32) 28 (by decide) (by decide)
  have := rng32 ((p1.toUInt32 >>> ((28 : Int32) &&& 31).toUInt32).toInt32)
  have := c_iremV ((p1.toUInt32 >>> ((28 : Int32) &&& 31).toUInt32).toInt32) n_
  have := rng32 (((p1.toUInt32 >>> ((28 : Int32) &&& 31).toUInt32).toInt32) % n_)
  try (simp only [Int32.lt_iff_toInt_lt, Int32.le_iff_toInt_le, Int64.lt_iff_toInt_lt, Int64.le_iff_toInt_le, ← Int32.toInt_inj, ← Int64.toInt_inj, ne_eq] at *)
  omega
theorem la_0_364_234 (p0 : Int32) (p1 : Int32) (n_ : Int32) (k_ : Int32) (hn_ : (((p0.toUInt32 >>> ((28 : Int32) &&& 31).toUInt32).toInt32) % (6 : Int32)) = n_) (hc162_88 : (0 : Int32) < n_) (hc191_105 : (1 : Int32) < n_) (hc220_121 : (2 : Int32) < n_) (hc249_156 : (3 : Int32) < n_) (hc278_172 : (4 : Int32) < n_) (hk_ : (((p1.toUInt32 >>> ((28 : Int32) &&& 31).toUInt32).toInt32) % n_) = k_) : k_.toInt < 5 := by
  have := rng32 p0
  have := rng32 p1
  have := rng32 n_
  have := rng32 k_
  have : (0 : Int32).toInt = 0 := by decide
  have : (1 : Int32).toInt = 1 := by decide
  have : (2 : Int32).toInt = 2 := by decide
  have : (28 : Int32).toInt = 28 := by decide
  have : (3 : Int32).toInt = 3 := by decide
  have : (4 : Int32).toInt = 4 := by decide
  have : (6 : Int32).toInt = 6 := by decide
  have := c_iushr p0 (28 : Int32) 28 (by decide) (by decide)
  have := rng32 ((p0.toUInt32 >>> ((28 : Int32) &&& 31).toUInt32).toInt32)
  have := c_irem ((p0.toUInt32 >>> ((28 : Int32) &&& 31).toUInt32).toInt32) (6 : Int32) (6) (by decide)
  have := rng32 (((p0.toUInt32 >>> ((28 : Int32) &&& 31).toUInt32).toInt32) % (6 : Int32))
  have := c_iushr p1 (28 : Int32) 28 (by decide) (by decide)
  have := rng32 ((p1.toUInt32 >>> ((28 : Int32) &&& 31).toUInt32).toInt32)
  have := c_iremV ((p1.toUInt32 >>> ((28 : Int32) &&& 31).toUInt32).toInt32) n_
  have := rng32 (((p1.toUInt32 >>> ((28 : Int32) &&& 31).toUInt32).toInt32) % n_)
  try (simp only [Int32.lt_iff_toInt_lt, Int32.le_iff_toInt_le, Int64.lt_iff_toInt_lt, Int64.le_iff_toInt_le, ← Int32.toInt_inj, ← Int64.toInt_inj, ne_eq] at *)
  omega
theorem la_0_371_237 (p0 : Int32) (p1 : Int32) (n_ : Int32) (k_ : Int32) (hn_ : (((p0.toUInt32 >>> ((28 : Int32) &&& 31).toUInt32).toInt32) % (6 : Int32)) = n_) (hc162_88 : (0 : Int32) < n_) (hc191_105 : (1 : Int32) < n_) (hc220_121 : (2 : Int32) < n_) (hc249_156 : (3 : Int32) < n_) (hc278_172 : (4 : Int32) < n_) (hk_ : (((p1.toUInt32 >>> ((28 : Int32) &&& 31).toUInt32).toInt32) % n_) = k_) : 0 ≤ k_.toInt ∧ k_.toInt < 5 := by
  have := rng32 p0
  have := rng32 p1
  have := rng32 n_
  have := rng32 k_
  have : (0 : Int32).toInt = 0 := by decide
  have : (1 : Int32).toInt = 1 := by decide
  have : (2 : Int32).toInt = 2 := by decide
  have : (28 : Int32).toInt = 28 := by decide
  have : (3 : Int32).toInt = 3 := by decide
  have : (4 : Int32).toInt = 4 := by decide
  have : (6 : Int32).toInt = 6 := by decide
  have := c_iushr p0 (28 : Int32) 28 (by decide) (by decide)
  have := rng32 ((p0.toUInt32 >>> ((28 : Int32) &&& 31).toUInt32).toInt32)
  have := c_irem ((p0.toUInt32 >>> ((28 : Int32) &&& 31).toUInt32).toInt32) (6 : Int32) (6) (by decide)
  have := rng32 (((p0.toUInt32 >>> ((28 : Int32) &&& 31).toUInt32).toInt32) % (6 : Int32))
  have := c_iushr p1 (28 : Int32) 28 (by decide) (by decide)
  have := rng32 ((p1.toUInt32 >>> ((28 : Int32) &&& 31).toUInt32).toInt32)
  have := c_iremV ((p1.toUInt32 >>> ((28 : Int32) &&& 31).toUInt32).toInt32) n_
  have := rng32 (((p1.toUInt32 >>> ((28 : Int32) &&& 31).toUInt32).toInt32) % n_)
  try (simp only [Int32.lt_iff_toInt_lt, Int32.le_iff_toInt_le, Int64.lt_iff_toInt_lt, Int64.le_iff_toInt_le, ← Int32.toInt_inj, ← Int64.toInt_inj, ne_eq] at *)
  omega
theorem ld_0_372_238 (r32 : Int32) (r37 : Int32) (r42 : Int32) (r47 : Int32) (r52 : Int32) (k_ : Int32) (r232 : Int32) (w236 : Int32) (hr232 : (k_.toInt = 0 ∧ r232 = r32) ∨ (k_.toInt = 1 ∧ r232 = r37) ∨ (k_.toInt = 2 ∧ r232 = r42) ∨ (k_.toInt = 3 ∧ r232 = r47) ∨ (k_.toInt = 4 ∧ r232 = r52)) (hw236 : (k_.toInt = 0 ∧ w236 = r32) ∨ (k_.toInt = 1 ∧ w236 = r37) ∨ (k_.toInt = 2 ∧ w236 = r42) ∨ (k_.toInt = 3 ∧ w236 = r47) ∨ (k_.toInt = 4 ∧ w236 = r52)) : r232 = w236 := by
  have := rng32 r32
  have := rng32 r37
  have := rng32 r42
  have := rng32 r47
  have := rng32 r52
  have := rng32 k_
  have := rng32 r232
  have := rng32 w236
  try (simp only [Int32.lt_iff_toInt_lt, Int32.le_iff_toInt_le, Int64.lt_iff_toInt_lt, Int64.le_iff_toInt_le, ← Int32.toInt_inj, ← Int64.toInt_inj, ne_eq] at *)
  omega
theorem ld_0_311_242 (p0 : Int32) (n_ : Int32) (r240 : Int32) (hn_ : (((p0.toUInt32 >>> ((28 : Int32) &&& 31).toUInt32).toInt32) % (6 : Int32)) = n_) (hc162_88 : (0 : Int32) < n_) (hc191_105 : (1 : Int32) < n_) (hc220_121 : (2 : Int32) < n_) (hc249_156 : (3 : Int32) < n_) (hc278_172 : ¬ ((4 : Int32) < n_)) (hr240 : (r240 = (4 : Int32))) : r240 = n_ := by
  have := rng32 p0
  have := rng32 n_
  have := rng32 r240
  have : (0 : Int32).toInt = 0 := by decide
  have : (1 : Int32).toInt = 1 := by decide
  have : (2 : Int32).toInt = 2 := by decide
  have : (28 : Int32).toInt = 28 := by decide
  have : (3 : Int32).toInt = 3 := by decide
  have : (4 : Int32).toInt = 4 := by decide
  have : (6 : Int32).toInt = 6 := by decide
  have := c_iushr p0 (28 : Int32) 28 (by decide) (by decide)
  have := rng32 ((p0.toUInt32 >>> ((28 : Int32) &&& 31).toUInt32).toInt32)
  have := c_irem ((p0.toUInt32 >>> ((28 : Int32) &&& 31).toUInt32).toInt32) (6 : Int32) (6) (by decide)
  have := rng32 (((p0.toUInt32 >>> ((28 : Int32) &&& 31).toUInt32).toInt32) % (6 : Int32))
  try (simp only [Int32.lt_iff_toInt_lt, Int32.le_iff_toInt_le, Int64.lt_iff_toInt_lt, Int64.le_iff_toInt_le, ← Int32.toInt_inj, ← Int64.toInt_inj, ne_eq] at *)
  omega
theorem ld_0_324_245 (r32 : Int32) (r37 : Int32) (r42 : Int32) (r47 : Int32) (x104 : Int64) (x120 : Int64) (x155 : Int64) (x171 : Int64) (r244 : Int64) (hr32 : True) (hr37 : True) (hr42 : True) (hr47 : True) (hx104 : ((0 : Int64) + (r32.toInt64)) = x104) (hx120 : (x104 + (r37.toInt64)) = x120) (hx155 : (x120 + (r42.toInt64)) = x155) (hx171 : (x155 + (r47.toInt64)) = x171) (hr244 : (r244 = (((((0 : Int64) + (r32.toInt64)) + (r37.toInt64)) + (r42.toInt64)) + (r47.toInt64)))) : r244 = x171 := by
  subst hx104
  subst hx120
  subst hx155
  subst hx171
  exact hr244
theorem ld_0_331_247 (p0 : Int32) (n_ : Int32) (hn_ : (((p0.toUInt32 >>> ((28 : Int32) &&& 31).toUInt32).toInt32) % (6 : Int32)) = n_) (hc162_88 : (0 : Int32) < n_) (hc191_105 : (1 : Int32) < n_) (hc220_121 : (2 : Int32) < n_) (hc249_156 : (3 : Int32) < n_) (hc278_172 : ¬ ((4 : Int32) < n_)) : ¬ (n_ = (0 : Int32)) := by
  have := rng32 p0
  have := rng32 n_
  have : (0 : Int32).toInt = 0 := by decide
  have : (1 : Int32).toInt = 1 := by decide
  have : (2 : Int32).toInt = 2 := by decide
  have : (28 : Int32).toInt = 28 := by decide
  have : (3 : Int32).toInt = 3 := by decide
  have : (4 : Int32).toInt = 4 := by decide
  have : (6 : Int32).toInt = 6 := by decide
  have := c_iushr p0 (28 : Int32) 28 (by decide) (by decide)
  have := rng32 ((p0.toUInt32 >>> ((28 : Int32) &&& 31).toUInt32).toInt32)
  have := c_irem ((p0.toUInt32 >>> ((28 : Int32) &&& 31).toUInt32).toInt32) (6 : Int32) (6) (by decide)
  have := rng32 (((p0.toUInt32 >>> ((28 : Int32) &&& 31).toUInt32).toInt32) % (6 : Int32))
  try (simp only [Int32.lt_iff_toInt_lt, Int32.le_iff_toInt_le, Int64.lt_iff_toInt_lt, Int64.le_iff_toInt_le, ← Int32.toInt_inj, ← Int64.toInt_inj, ne_eq] at *)
  omega
theorem la_0_342_249 (p0 : Int32) (n_ : Int32) (hn_ : (((p0.toUInt32 >>> ((28 : Int32) &&& 31).toUInt32).toInt32) % (6 : Int32)) = n_) (hc162_88 : (0 : Int32) < n_) (hc191_105 : (1 : Int32) < n_) (hc220_121 : (2 : Int32) < n_) (hc249_156 : (3 : Int32) < n_) (hc278_172 : ¬ ((4 : Int32) < n_)) : n_ ≠ 0 := by
  have := rng32 p0
  have := rng32 n_
  have : (0 : Int32).toInt = 0 := by decide
  have : (1 : Int32).toInt = 1 := by decide
  have : (2 : Int32).toInt = 2 := by decide
  have : (28 : Int32).toInt = 28 := by decide
  have : (3 : Int32).toInt = 3 := by decide
  have : (4 : Int32).toInt = 4 := by decide
  have : (6 : Int32).toInt = 6 := by decide
  have := c_iushr p0 (28 : Int32) 28 (by decide) (by decide)
  have := rng32 ((p0.toUInt32 >>> ((28 : Int32) &&& 31).toUInt32).toInt32)
  have := c_irem ((p0.toUInt32 >>> ((28 : Int32) &&& 31).toUInt32).toInt32) (6 : Int32) (6) (by decide)
  have := rng32 (((p0.toUInt32 >>> ((28 : Int32) &&& 31).toUInt32).toInt32) % (6 : Int32))
  try (simp only [Int32.lt_iff_toInt_lt, Int32.le_iff_toInt_le, Int64.lt_iff_toInt_lt, Int64.le_iff_toInt_le, ← Int32.toInt_inj, ← Int64.toInt_inj, ne_eq] at *)
  omega
theorem la_0_349_251 (p0 : Int32) (p1 : Int32) (n_ : Int32) (k_ : Int32) (hn_ : (((p0.toUInt32 >>> ((28 : Int32) &&& 31).toUInt32).toInt32) % (6 : Int32)) = n_) (hc162_88 : (0 : Int32) < n_) (hc191_105 : (1 : Int32) < n_) (hc220_121 : (2 : Int32) < n_) (hc249_156 : (3 : Int32) < n_) (hc278_172 : ¬ ((4 : Int32) < n_)) (hk_ : (((p1.toUInt32 >>> ((28 : Int32) &&& 31).toUInt32).toInt32) % n_) = k_) : 0 ≤ k_.toInt := by
  have := rng32 p0
  have := rng32 p1
  have := rng32 n_
  have := rng32 k_
  have : (0 : Int32).toInt = 0 := by decide
  have : (1 : Int32).toInt = 1 := by decide
  have : (2 : Int32).toInt = 2 := by decide
  have : (28 : Int32).toInt = 28 := by decide
  have : (3 : Int32).toInt = 3 := by decide
  have : (4 : Int32).toInt = 4 := by decide
  have : (6 : Int32).toInt = 6 := by decide
  have := c_iushr p0 (28 : Int32) 28 (by decide) (by decide)
  have := rng32 ((p0.toUInt32 >>> ((28 : Int32) &&& 31).toUInt32).toInt32)
  have := c_irem ((p0.toUInt32 >>> ((28 : Int32) &&& 31).toUInt32).toInt32) (6 : Int32) (6) (by decide)
  have := rng32 (((p0.toUInt32 >>> ((28 : Int32) &&& 31).toUInt32).toInt32) % (6 : Int32))
  have := c_iushr p1 (28 : Int32) 28 (by decide) (by decide)
  have := rng32 ((p1.toUInt32 >>> ((28 : Int32) &&& 31).toUInt32).toInt32)
  have := c_iremV ((p1.toUInt32 >>> ((28 : Int32) &&& 31).toUInt32).toInt32) n_
  have := rng32 (((p1.toUInt32 >>> ((28 : Int32) &&& 31).toUInt32).toInt32) % n_)
  try (simp only [Int32.lt_iff_toInt_lt, Int32.le_iff_toInt_le, Int64.lt_iff_toInt_lt, Int64.le_iff_toInt_le, ← Int32.toInt_inj, ← Int64.toInt_inj, ne_eq] at *)
  omega
theorem la_0_349_252 (p0 : Int32) (p1 : Int32) (n_ : Int32) (k_ : Int32) (hn_ : (((p0.toUInt32 >>> ((28 : Int32) &&& 31).toUInt32).toInt32) % (6 : Int32)) = n_) (hc162_88 : (0 : Int32) < n_) (hc191_105 : (1 : Int32) < n_) (hc220_121 : (2 : Int32) < n_) (hc249_156 : (3 : Int32) < n_) (hc278_172 : ¬ ((4 : Int32) < n_)) (hk_ : (((p1.toUInt32 >>> ((28 : Int32) &&& 31).toUInt32).toInt32) % n_) = k_) : k_.toInt < 4 := by
  have := rng32 p0
  have := rng32 p1
  have := rng32 n_
  have := rng32 k_
  have : (0 : Int32).toInt = 0 := by decide
  have : (1 : Int32).toInt = 1 := by decide
  have : (2 : Int32).toInt = 2 := by decide
  have : (28 : Int32).toInt = 28 := by decide
  have : (3 : Int32).toInt = 3 := by decide
  have : (4 : Int32).toInt = 4 := by decide
  have : (6 : Int32).toInt = 6 := by decide
  have := c_iushr p0 (28 : Int32) 28 (by decide) (by decide)
  have := rng32 ((p0.toUInt32 >>> ((28 : Int32) &&& 31).toUInt32).toInt32)
  have := c_irem ((p0.toUInt32 >>> ((28 : Int32) &&& 31).toUInt32).toInt32) (6 : Int32) (6) (by decide)
  have := rng32 (((p0.toUInt32 >>> ((28 : Int32) &&& 31).toUInt32).toInt32) % (6 : Int32))
  have := c_iushr p1 (28 : Int32) 28 (by decide) (by decide)
  have := rng32 ((p1.toUInt32 >>> ((28 : Int32) &&& 31).toUInt32).toInt32)
  have := c_iremV ((p1.toUInt32 >>> ((28 : Int32) &&& 31).toUInt32).toInt32) n_
  have := rng32 (((p1.toUInt32 >>> ((28 : Int32) &&& 31).toUInt32).toInt32) % n_)
  try (simp only [Int32.lt_iff_toInt_lt, Int32.le_iff_toInt_le, Int64.lt_iff_toInt_lt, Int64.le_iff_toInt_le, ← Int32.toInt_inj, ← Int64.toInt_inj, ne_eq] at *)
  omega
theorem la_0_356_256 (p0 : Int32) (p1 : Int32) (n_ : Int32) (k_ : Int32) (hn_ : (((p0.toUInt32 >>> ((28 : Int32) &&& 31).toUInt32).toInt32) % (6 : Int32)) = n_) (hc162_88 : (0 : Int32) < n_) (hc191_105 : (1 : Int32) < n_) (hc220_121 : (2 : Int32) < n_) (hc249_156 : (3 : Int32) < n_) (hc278_172 : ¬ ((4 : Int32) < n_)) (hk_ : (((p1.toUInt32 >>> ((28 : Int32) &&& 31).toUInt32).toInt32) % n_) = k_) : 0 ≤ k_.toInt ∧ k_.toInt < 5 := by
  have := rng32 p0
  have := rng32 p1
  have := rng32 n_
  have := rng32 k_
  have : (0 : Int32).toInt = 0 := by decide
  have : (1 : Int32).toInt = 1 := by decide
  have : (2 : Int32).toInt = 2 := by decide
  have : (28 : Int32).toInt = 28 := by decide
  have : (3 : Int32).toInt = 3 := by decide
  have : (4 : Int32).toInt = 4 := by decide
  have : (6 : Int32).toInt = 6 := by decide
  have := c_iushr p0 (28 : Int32) 28 (by decide) (by decide)
  have := rng32 ((p0.toUInt32 >>> ((28 : Int32) &&& 31).toUInt32).toInt32)
  have := c_irem ((p0.toUInt32 >>> ((28 : Int32) &&& 31).toUInt32).toInt32) (6 : Int32) (6) (by decide)
  have := rng32 (((p0.toUInt32 >>> ((28 : Int32) &&& 31).toUInt32).toInt32) % (6 : Int32))
  have := c_iushr p1 (28 : Int32) 28 (by decide) (by decide)
  have := rng32 ((p1.toUInt32 >>> ((28 : Int32) &&& 31).toUInt32).toInt32)
  have := c_iremV ((p1.toUInt32 >>> ((28 : Int32) &&& 31).toUInt32).toInt32) n_
  have := rng32 (((p1.toUInt32 >>> ((28 : Int32) &&& 31).toUInt32).toInt32) % n_)
  try (simp only [Int32.lt_iff_toInt_lt, Int32.le_iff_toInt_le, Int64.lt_iff_toInt_lt, Int64.le_iff_toInt_le, ← Int32.toInt_inj, ← Int64.toInt_inj, ne_eq] at *)
  omega
theorem ld_0_357_257 (x4 : Int32) (x9 : Int32) (x14 : Int32) (x19 : Int32) (x24 : Int32) (k_ : Int32) (r250 : Int32) (w255 : Int32) (hr250 : (k_.toInt = 0 ∧ r250 = x4) ∨ (k_.toInt = 1 ∧ r250 = x9) ∨ (k_.toInt = 2 ∧ r250 = x14) ∨ (k_.toInt = 3 ∧ r250 = x19)) (hw255 : (k_.toInt = 0 ∧ w255 = x4) ∨ (k_.toInt = 1 ∧ w255 = x9) ∨ (k_.toInt = 2 ∧ w255 = x14) ∨ (k_.toInt = 3 ∧ w255 = x19) ∨ (k_.toInt = 4 ∧ w255 = x24)) : r250 = w255 := by
  have := rng32 x4
  have := rng32 x9
  have := rng32 x14
  have := rng32 x19
  have := rng32 x24
  have := rng32 k_
  have := rng32 r250
  have := rng32 w255
  try (simp only [Int32.lt_iff_toInt_lt, Int32.le_iff_toInt_le, Int64.lt_iff_toInt_lt, Int64.le_iff_toInt_le, ← Int32.toInt_inj, ← Int64.toInt_inj, ne_eq] at *)
  omega
theorem la_0_364_260 (p0 : Int32) (p1 : Int32) (n_ : Int32) (k_ : Int32) (hn_ : (((p0.toUInt32 >>> ((28 : Int32) &&& 31).toUInt32).toInt32) % (6 : Int32)) = n_) (hc162_88 : (0 : Int32) < n_) (hc191_105 : (1 : Int32) < n_) (hc220_121 : (2 : Int32) < n_) (hc249_156 : (3 : Int32) < n_) (hc278_172 : ¬ ((4 : Int32) < n_)) (hk_ : (((p1.toUInt32 >>> ((28 : Int32) &&& 31).toUInt32).toInt32) % n_) = k_) : 0 ≤ k_.toInt := by
  have := rng32 p0
  have := rng32 p1
  have := rng32 n_
  have := rng32 k_
  have : (0 : Int32).toInt = 0 := by decide
  have : (1 : Int32).toInt = 1 := by decide
  have : (2 : Int32).toInt = 2 := by decide
  have : (28 : Int32).toInt = 28 := by decide
  have : (3 : Int32).toInt = 3 := by decide
  have : (4 : Int32).toInt = 4 := by decide
  have : (6 : Int32).toInt = 6 := by decide
  have := c_iushr p0 (28 : Int32) 28 (by decide) (by decide)
  have := rng32 ((p0.toUInt32 >>> ((28 : Int32) &&& 31).toUInt32).toInt32)
  have := c_irem ((p0.toUInt32 >>> ((28 : Int32) &&& 31).toUInt32).toInt32) (6 : Int32) (6) (by decide)
  have := rng32 (((p0.toUInt32 >>> ((28 : Int32) &&& 31).toUInt32).toInt32) % (6 : Int32))
  have := c_iushr p1 (28 : Int32) 28 (by decide) (by decide)
  have := rng32 ((p1.toUInt32 >>> ((28 : Int32) &&& 31).toUInt32).toInt32)
  have := c_iremV ((p1.toUInt32 >>> ((28 : Int32) &&& 31).toUInt32).toInt32) n_
  have := rng32 (((p1.toUInt32 >>> ((28 : Int32) &&& 31).toUInt32).toInt32) % n_)
  try (simp only [Int32.lt_iff_toInt_lt, Int32.le_iff_toInt_le, Int64.lt_iff_toInt_lt, Int64.le_iff_toInt_le, ← Int32.toInt_inj, ← Int64.toInt_inj, ne_eq] at *)
  omega
theorem la_0_364_261 (p0 : Int32) (p1 : Int32) (n_ : Int32) (k_ : Int32) (hn_ : (((p0.toUInt32 >>> ((28 : Int32) &&& 31).toUInt32).toInt32) % (6 : Int32)) = n_) (hc162_88 : (0 : Int32) < n_) (hc191_105 : (1 : Int32) < n_) (hc220_121 : (2 : Int32) < n_) (hc249_156 : (3 : Int32) < n_) (hc278_172 : ¬ ((4 : Int32) < n_)) (hk_ : (((p1.toUInt32 >>> ((28 : Int32) &&& 31).toUInt32).toInt32) % n_) = k_) : k_.toInt < 4 := by
  have := rng32 p0
  have := rng32 p1
  have := rng32 n_
  have := rng32 k_
  have : (0 : Int32).toInt = 0 := by decide
  have : (1 : Int32).toInt = 1 := by decide
  have : (2 : Int32).toInt = 2 := by decide
  have : (28 : Int32).toInt = 28 := by decide
  have : (3 : Int32).toInt = 3 := by decide
  have : (4 : Int32).toInt = 4 := by decide
  have : (6 : Int32).toInt = 6 := by decide
  have := c_iushr p0 (28 : Int32) 28 (by decide) (by decide)
  have := rng32 ((p0.toUInt32 >>> ((28 : Int32) &&& 31).toUInt32).toInt32)
  have := c_irem ((p0.toUInt32 >>> ((28 : Int32) &&& 31).toUInt32).toInt32) (6 : Int32) (6) (by decide)
  have := rng32 (((p0.toUInt32 >>> ((28 : Int32) &&& 31).toUInt32).toInt32) % (6 : Int32))
  have := c_iushr p1 (28 : Int32) 28 (by decide) (by decide)
  have := rng32 ((p1.toUInt32 >>> ((28 : Int32) &&& 31).toUInt32).toInt32)
  have := c_iremV ((p1.toUInt32 >>> ((28 : Int32) &&& 31).toUInt32).toInt32) n_
  have := rng32 (((p1.toUInt32 >>> ((28 : Int32) &&& 31).toUInt32).toInt32) % n_)
  try (simp only [Int32.lt_iff_toInt_lt, Int32.le_iff_toInt_le, Int64.lt_iff_toInt_lt, Int64.le_iff_toInt_le, ← Int32.toInt_inj, ← Int64.toInt_inj, ne_eq] at *)
  omega
theorem la_0_371_264 (p0 : Int32) (p1 : Int32) (n_ : Int32) (k_ : Int32) (hn_ : (((p0.toUInt32 >>> ((28 : Int32) &&& 31).toUInt32).toInt32) % (6 : Int32)) = n_) (hc162_88 : (0 : Int32) < n_) (hc191_105 : (1 : Int32) < n_) (hc220_121 : (2 : Int32) < n_) (hc249_156 : (3 : Int32) < n_) (hc278_172 : ¬ ((4 : Int32) < n_)) (hk_ : (((p1.toUInt32 >>> ((28 : Int32) &&& 31).toUInt32).toInt32) % n_) = k_) : 0 ≤ k_.toInt ∧ k_.toInt < 5 := by
  have := rng32 p0
  have := rng32 p1
  have := rng32 n_
  have := rng32 k_
  have : (0 : Int32).toInt = 0 := by decide
  have : (1 : Int32).toInt = 1 := by decide
  have : (2 : Int32).toInt = 2 := by decide
  have : (28 : Int32).toInt = 28 := by decide
  have : (3 : Int32).toInt = 3 := by decide
  have : (4 : Int32).toInt = 4 := by decide
  have : (6 : Int32).toInt = 6 := by decide
  have := c_iushr p0 (28 : Int32) 28 (by decide) (by decide)
  have := rng32 ((p0.toUInt32 >>> ((28 : Int32) &&& 31).toUInt32).toInt32)
  have := c_irem ((p0.toUInt32 >>> ((28 : Int32) &&& 31).toUInt32).toInt32) (6 : Int32) (6) (by decide)
  have := rng32 (((p0.toUInt32 >>> ((28 : Int32) &&& 31).toUInt32).toInt32) % (6 : Int32))
  have := c_iushr p1 (28 : Int32) 28 (by decide) (by decide)
  have := rng32 ((p1.toUInt32 >>> ((28 : Int32) &&& 31).toUInt32).toInt32)
  have := c_iremV ((p1.toUInt32 >>> ((28 : Int32) &&& 31).toUInt32).toInt32) n_
  have := rng32 (((p1.toUInt32 >>> ((28 : Int32) &&& 31).toUInt32).toInt32) % n_)
  try (simp only [Int32.lt_iff_toInt_lt, Int32.le_iff_toInt_le, Int64.lt_iff_toInt_lt, Int64.le_iff_toInt_le, ← Int32.toInt_inj, ← Int64.toInt_inj, ne_eq] at *)
  omega
theorem ld_0_372_265 (r32 : Int32) (r37 : Int32) (r42 : Int32) (r47 : Int32) (r52 : Int32) (k_ : Int32) (r259 : Int32) (w263 : Int32) (hr259 : (k_.toInt = 0 ∧ r259 = r32) ∨ (k_.toInt = 1 ∧ r259 = r37) ∨ (k_.toInt = 2 ∧ r259 = r42) ∨ (k_.toInt = 3 ∧ r259 = r47)) (hw263 : (k_.toInt = 0 ∧ w263 = r32) ∨ (k_.toInt = 1 ∧ w263 = r37) ∨ (k_.toInt = 2 ∧ w263 = r42) ∨ (k_.toInt = 3 ∧ w263 = r47) ∨ (k_.toInt = 4 ∧ w263 = r52)) : r259 = w263 := by
  have := rng32 r32
  have := rng32 r37
  have := rng32 r42
  have := rng32 r47
  have := rng32 r52
  have := rng32 k_
  have := rng32 r259
  have := rng32 w263
  try (simp only [Int32.lt_iff_toInt_lt, Int32.le_iff_toInt_le, Int64.lt_iff_toInt_lt, Int64.le_iff_toInt_le, ← Int32.toInt_inj, ← Int64.toInt_inj, ne_eq] at *)
  omega
theorem ld_0_278_267 (p0 : Int32) (n_ : Int32) (hn_ : (((p0.toUInt32 >>> ((28 : Int32) &&& 31).toUInt32).toInt32) % (6 : Int32)) = n_) (hc162_88 : (0 : Int32) < n_) (hc191_105 : (1 : Int32) < n_) (hc220_121 : (2 : Int32) < n_) (hc249_156 : ¬ ((3 : Int32) < n_)) : ¬ ((4 : Int32) < n_) := by
  have := rng32 p0
  have := rng32 n_
  have : (0 : Int32).toInt = 0 := by decide
  have : (1 : Int32).toInt = 1 := by decide
  have : (2 : Int32).toInt = 2 := by decide
  have : (28 : Int32).toInt = 28 := by decide
  have : (3 : Int32).toInt = 3 := by decide
  have : (4 : Int32).toInt = 4 := by decide
  have : (6 : Int32).toInt = 6 := by decide
  have := c_iushr p0 (28 : Int32) 28 (by decide) (by decide)
  have := rng32 ((p0.toUInt32 >>> ((28 : Int32) &&& 31).toUInt32).toInt32)
  have := c_irem ((p0.toUInt32 >>> ((28 : Int32) &&& 31).toUInt32).toInt32) (6 : Int32) (6) (by decide)
  have := rng32 (((p0.toUInt32 >>> ((28 : Int32) &&& 31).toUInt32).toInt32) % (6 : Int32))
  try (simp only [Int32.lt_iff_toInt_lt, Int32.le_iff_toInt_le, Int64.lt_iff_toInt_lt, Int64.le_iff_toInt_le, ← Int32.toInt_inj, ← Int64.toInt_inj, ne_eq] at *)
  omega
theorem ld_0_311_271 (p0 : Int32) (n_ : Int32) (r269 : Int32) (hn_ : (((p0.toUInt32 >>> ((28 : Int32) &&& 31).toUInt32).toInt32) % (6 : Int32)) = n_) (hc162_88 : (0 : Int32) < n_) (hc191_105 : (1 : Int32) < n_) (hc220_121 : (2 : Int32) < n_) (hc249_156 : ¬ ((3 : Int32) < n_)) (hr269 : (r269 = (3 : Int32))) : r269 = n_ := by
  have := rng32 p0
  have := rng32 n_
  have := rng32 r269
  have : (0 : Int32).toInt = 0 := by decide
  have : (1 : Int32).toInt = 1 := by decide
  have : (2 : Int32).toInt = 2 := by decide
  have : (28 : Int32).toInt = 28 := by decide
  have : (3 : Int32).toInt = 3 := by decide
  have : (6 : Int32).toInt = 6 := by decide
  have := c_iushr p0 (28 : Int32) 28 (by decide) (by decide)
  have := rng32 ((p0.toUInt32 >>> ((28 : Int32) &&& 31).toUInt32).toInt32)
  have := c_irem ((p0.toUInt32 >>> ((28 : Int32) &&& 31).toUInt32).toInt32) (6 : Int32) (6) (by decide)
  have := rng32 (((p0.toUInt32 >>> ((28 : Int32) &&& 31).toUInt32).toInt32) % (6 : Int32))
  try (simp only [Int32.lt_iff_toInt_lt, Int32.le_iff_toInt_le, Int64.lt_iff_toInt_lt, Int64.le_iff_toInt_le, ← Int32.toInt_inj, ← Int64.toInt_inj, ne_eq] at *)
  omega
theorem ld_0_324_274 (r32 : Int32) (r37 : Int32) (r42 : Int32) (x104 : Int64) (x120 : Int64) (x155 : Int64) (r273 : Int64) (hr32 : True) (hr37 : True) (hr42 : True) (hx104 : ((0 : Int64) + (r32.toInt64)) = x104) (hx120 : (x104 + (r37.toInt64)) = x120) (hx155 : (x120 + (r42.toInt64)) = x155) (hr273 : (r273 = ((((0 : Int64) + (r32.toInt64)) + (r37.toInt64)) + (r42.toInt64)))) : r273 = x155 := by
  subst hx104
  subst hx120
  subst hx155
  exact hr273
theorem ld_0_331_276 (p0 : Int32) (n_ : Int32) (hn_ : (((p0.toUInt32 >>> ((28 : Int32) &&& 31).toUInt32).toInt32) % (6 : Int32)) = n_) (hc162_88 : (0 : Int32) < n_) (hc191_105 : (1 : Int32) < n_) (hc220_121 : (2 : Int32) < n_) (hc249_156 : ¬ ((3 : Int32) < n_)) : ¬ (n_ = (0 : Int32)) := by
  have := rng32 p0
  have := rng32 n_
  have : (0 : Int32).toInt = 0 := by decide
  have : (1 : Int32).toInt = 1 := by decide
  have : (2 : Int32).toInt = 2 := by decide
  have : (28 : Int32).toInt = 28 := by decide
  have : (3 : Int32).toInt = 3 := by decide
  have : (6 : Int32).toInt = 6 := by decide
  have := c_iushr p0 (28 : Int32) 28 (by decide) (by decide)
  have := rng32 ((p0.toUInt32 >>> ((28 : Int32) &&& 31).toUInt32).toInt32)
  have := c_irem ((p0.toUInt32 >>> ((28 : Int32) &&& 31).toUInt32).toInt32) (6 : Int32) (6) (by decide)
  have := rng32 (((p0.toUInt32 >>> ((28 : Int32) &&& 31).toUInt32).toInt32) % (6 : Int32))
  try (simp only [Int32.lt_iff_toInt_lt, Int32.le_iff_toInt_le, Int64.lt_iff_toInt_lt, Int64.le_iff_toInt_le, ← Int32.toInt_inj, ← Int64.toInt_inj, ne_eq] at *)
  omega
theorem la_0_342_278 (p0 : Int32) (n_ : Int32) (hn_ : (((p0.toUInt32 >>> ((28 : Int32) &&& 31).toUInt32).toInt32) % (6 : Int32)) = n_) (hc162_88 : (0 : Int32) < n_) (hc191_105 : (1 : Int32) < n_) (hc220_121 : (2 : Int32) < n_) (hc249_156 : ¬ ((3 : Int32) < n_)) : n_ ≠ 0 := by
  have := rng32 p0
  have := rng32 n_
  have : (0 : Int32).toInt = 0 := by decide
  have : (1 : Int32).toInt = 1 := by decide
  have : (2 : Int32).toInt = 2 := by decide
  have : (28 : Int32).toInt = 28 := by decide
  have : (3 : Int32).toInt = 3 := by decide
  have : (6 : Int32).toInt = 6 := by decide
  have := c_iushr p0 (28 : Int32) 28 (by decide) (by decide)
  have := rng32 ((p0.toUInt32 >>> ((28 : Int32) &&& 31).toUInt32).toInt32)
  have := c_irem ((p0.toUInt32 >>> ((28 : Int32) &&& 31).toUInt32).toInt32) (6 : Int32) (6) (by decide)
  have := rng32 (((p0.toUInt32 >>> ((28 : Int32) &&& 31).toUInt32).toInt32) % (6 : Int32))
  try (simp only [Int32.lt_iff_toInt_lt, Int32.le_iff_toInt_le, Int64.lt_iff_toInt_lt, Int64.le_iff_toInt_le, ← Int32.toInt_inj, ← Int64.toInt_inj, ne_eq] at *)
  omega
theorem la_0_349_280 (p0 : Int32) (p1 : Int32) (n_ : Int32) (k_ : Int32) (hn_ : (((p0.toUInt32 >>> ((28 : Int32) &&& 31).toUInt32).toInt32) % (6 : Int32)) = n_) (hc162_88 : (0 : Int32) < n_) (hc191_105 : (1 : Int32) < n_) (hc220_121 : (2 : Int32) < n_) (hc249_156 : ¬ ((3 : Int32) < n_)) (hk_ : (((p1.toUInt32 >>> ((28 : Int32) &&& 31).toUInt32).toInt32) % n_) = k_) : 0 ≤ k_.toInt := by
  have := rng32 p0
  have := rng32 p1
  have := rng32 n_
  have := rng32 k_
  have : (0 : Int32).toInt = 0 := by decide
  have : (1 : Int32).toInt = 1 := by decide
  have : (2 : Int32).toInt = 2 := by decide
  have : (28 : Int32).toInt = 28 := by decide
  have : (3 : Int32).toInt = 3 := by decide
  have : (6 : Int32).toInt = 6 := by decide
  have := c_iushr p0 (28 : Int32) 28 (by decide) (by decide)
  have := rng32 ((p0.toUInt32 >>> ((28 : Int32) &&& 31).toUInt32).toInt32)
  have := c_irem ((p0.toUInt32 >>> ((28 : Int32) &&& 31).toUInt32).toInt32) (6 : Int32) (6) (by decide)
  have := rng32 (((p0.toUInt32 >>> ((28 : Int32) &&& 31).toUInt32).toInt32) % (6 : Int32))
  have := c_iushr p1 (28 : Int32) 28 (by decide) (by decide)
  have := rng32 ((p1.toUInt32 >>> ((28 : Int32) &&& 31).toUInt32).toInt32)
  have := c_iremV ((p1.toUInt32 >>> ((28 : Int32) &&& 31).toUInt32).toInt32) n_
  have := rng32 (((p1.toUInt32 >>> ((28 : Int32) &&& 31).toUInt32).toInt32) % n_)
  try (simp only [Int32.lt_iff_toInt_lt, Int32.le_iff_toInt_le, Int64.lt_iff_toInt_lt, Int64.le_iff_toInt_le, ← Int32.toInt_inj, ← Int64.toInt_inj, ne_eq] at *)
  omega
theorem la_0_349_281 (p0 : Int32) (p1 : Int32) (n_ : Int32) (k_ : Int32) (hn_ : (((p0.toUInt32 >>> ((28 : Int32) &&& 31).toUInt32).toInt32) % (6 : Int32)) = n_) (hc162_88 : (0 : Int32) < n_) (hc191_105 : (1 : Int32) < n_) (hc220_121 : (2 : Int32) < n_) (hc249_156 : ¬ ((3 : Int32) < n_)) (hk_ : (((p1.toUInt32 >>> ((28 : Int32) &&& 31).toUInt32).toInt32) % n_) = k_) : k_.toInt < 3 := by
  have := rng32 p0
  have := rng32 p1
  have := rng32 n_
  have := rng32 k_
  have : (0 : Int32).toInt = 0 := by decide
  have : (1 : Int32).toInt = 1 := by decide
  have : (2 : Int32).toInt = 2 := by decide
  have : (28 : Int32).toInt = 28 := by decide
  have : (3 : Int32).toInt = 3 := by decide
  have : (6 : Int32).toInt = 6 := by decide
  have := c_iushr p0 (28 : Int32) 28 (by decide) (by decide)
  have := rng32 ((p0.toUInt32 >>> ((28 : Int32) &&& 31).toUInt32).toInt32)
  have := c_irem ((p0.toUInt32 >>> ((28 : Int32) &&& 31).toUInt32).toInt32) (6 : Int32) (6) (by decide)
  have := rng32 (((p0.toUInt32 >>> ((28 : Int32) &&& 31).toUInt32).toInt32) % (6 : Int32))
  have := c_iushr p1 (28 : Int32) 28 (by decide) (by decide)
  have := rng32 ((p1.toUInt32 >>> ((28 : Int32) &&& 31).toUInt32).toInt32)
  have := c_iremV ((p1.toUInt32 >>> ((28 : Int32) &&& 31).toUInt32).toInt32) n_
  have := rng32 (((p1.toUInt32 >>> ((28 : Int32) &&& 31).toUInt32).toInt32) % n_)
  try (simp only [Int32.lt_iff_toInt_lt, Int32.le_iff_toInt_le, Int64.lt_iff_toInt_lt, Int64.le_iff_toInt_le, ← Int32.toInt_inj, ← Int64.toInt_inj, ne_eq] at *)
  omega
theorem la_0_356_285 (p0 : Int32) (p1 : Int32) (n_ : Int32) (k_ : Int32) (hn_ : (((p0.toUInt32 >>> ((28 : Int32) &&& 31).toUInt32).toInt32) % (6 : Int32)) = n_) (hc162_88 : (0 : Int32) < n_) (hc191_105 : (1 : Int32) < n_) (hc220_121 : (2 : Int32) < n_) (hc249_156 : ¬ ((3 : Int32) < n_)) (hk_ : (((p1.toUInt32 >>> ((28 : Int32) &&& 31).toUInt32).toInt32) % n_) = k_) : 0 ≤ k_.toInt ∧ k_.toInt < 5 := by
  have := rng32 p0
  have := rng32 p1
  have := rng32 n_
  have := rng32 k_
  have : (0 : Int32).toInt = 0 := by decide
  have : (1 : Int32).toInt = 1 := by decide
  have : (2 : Int32).toInt = 2 := by decide
  have : (28 : Int32).toInt = 28 := by decide
  have : (3 : Int32).toInt = 3 := by decide
  have : (6 : Int32).toInt = 6 := by decide
  have := c_iushr p0 (28 : Int32) 28 (by decide) (by decide)
  have := rng32 ((p0.toUInt32 >>> ((28 : Int32) &&& 31).toUInt32).toInt32)
  have := c_irem ((p0.toUInt32 >>> ((28 : Int32) &&& 31).toUInt32).toInt32) (6 : Int32) (6) (by decide)
  have := rng32 (((p0.toUInt32 >>> ((28 : Int32) &&& 31).toUInt32).toInt32) % (6 : Int32))
  have := c_iushr p1 (28 : Int32) 28 (by decide) (by decide)
  have := rng32 ((p1.toUInt32 >>> ((28 : Int32) &&& 31).toUInt32).toInt32)
  have := c_iremV ((p1.toUInt32 >>> ((28 : Int32) &&& 31).toUInt32).toInt32) n_
  have := rng32 (((p1.toUInt32 >>> ((28 : Int32) &&& 31).toUInt32).toInt32) % n_)
  try (simp only [Int32.lt_iff_toInt_lt, Int32.le_iff_toInt_le, Int64.lt_iff_toInt_lt, Int64.le_iff_toInt_le, ← Int32.toInt_inj, ← Int64.toInt_inj, ne_eq] at *)
  omega
theorem ld_0_357_286 (x4 : Int32) (x9 : Int32) (x14 : Int32) (x19 : Int32) (x24 : Int32) (k_ : Int32) (r279 : Int32) (w284 : Int32) (hr279 : (k_.toInt = 0 ∧ r279 = x4) ∨ (k_.toInt = 1 ∧ r279 = x9) ∨ (k_.toInt = 2 ∧ r279 = x14)) (hw284 : (k_.toInt = 0 ∧ w284 = x4) ∨ (k_.toInt = 1 ∧ w284 = x9) ∨ (k_.toInt = 2 ∧ w284 = x14) ∨ (k_.toInt = 3 ∧ w284 = x19) ∨ (k_.toInt = 4 ∧ w284 = x24)) : r279 = w284 := by
  have := rng32 x4
  have := rng32 x9
  have := rng32 x14
  have := rng32 x19
  have := rng32 x24
  have := rng32 k_
  have := rng32 r279
  have := rng32 w284
  try (simp only [Int32.lt_iff_toInt_lt, Int32.le_iff_toInt_le, Int64.lt_iff_toInt_lt, Int64.le_iff_toInt_le, ← Int32.toInt_inj, ← Int64.toInt_inj, ne_eq] at *)
  omega
theorem la_0_364_289 (p0 : Int32) (p1 : Int32) (n_ : Int32) (k_ : Int32) (hn_ : (((p0.toUInt32 >>> ((28 : Int32) &&& 31).toUInt32).toInt32) % (6 : Int32)) = n_) (hc162_88 : (0 : Int32) < n_) (hc191_105 : (1 : Int32) < n_) (hc220_121 : (2 : Int32) < n_) (hc249_156 : ¬ ((3 : Int32) < n_)) (hk_ : (((p1.toUInt32 >>> ((28 : Int32) &&& 31).toUInt32).toInt32) % n_) = k_) : 0 ≤ k_.toInt := by
  have := rng32 p0
  have := rng32 p1
  have := rng32 n_
  have := rng32 k_
  have : (0 : Int32).toInt = 0 := by decide
  have : (1 : Int32).toInt = 1 := by decide
  have : (2 : Int32).toInt = 2 := by decide
  have : (28 : Int32).toInt = 28 := by decide
  have : (3 : Int32).toInt = 3 := by decide
  have : (6 : Int32).toInt = 6 := by decide
  have := c_iushr p0 (28 : Int32) 28 (by decide) (by decide)
  have := rng32 ((p0.toUInt32 >>> ((28 : Int32) &&& 31).toUInt32).toInt32)
  have := c_irem ((p0.toUInt32 >>> ((28 : Int32) &&& 31).toUInt32).toInt32) (6 : Int32) (6) (by decide)
  have := rng32 (((p0.toUInt32 >>> ((28 : Int32) &&& 31).toUInt32).toInt32) % (6 : Int32))
  have := c_iushr p1 (28 : Int32) 28 (by decide) (by decide)
  have := rng32 ((p1.toUInt32 >>> ((28 : Int32) &&& 31).toUInt32).toInt32)
  have := c_iremV ((p1.toUInt32 >>> ((28 : Int32) &&& 31).toUInt32).toInt32) n_
  have := rng32 (((p1.toUInt32 >>> ((28 : Int32) &&& 31).toUInt32).toInt32) % n_)
  try (simp only [Int32.lt_iff_toInt_lt, Int32.le_iff_toInt_le, Int64.lt_iff_toInt_lt, Int64.le_iff_toInt_le, ← Int32.toInt_inj, ← Int64.toInt_inj, ne_eq] at *)
  omega
theorem la_0_364_290 (p0 : Int32) (p1 : Int32) (n_ : Int32) (k_ : Int32) (hn_ : (((p0.toUInt32 >>> ((28 : Int32) &&& 31).toUInt32).toInt32) % (6 : Int32)) = n_) (hc162_88 : (0 : Int32) < n_) (hc191_105 : (1 : Int32) < n_) (hc220_121 : (2 : Int32) < n_) (hc249_156 : ¬ ((3 : Int32) < n_)) (hk_ : (((p1.toUInt32 >>> ((28 : Int32) &&& 31).toUInt32).toInt32) % n_) = k_) : k_.toInt < 3 := by
  have := rng32 p0
  have := rng32 p1
  have := rng32 n_
  have := rng32 k_
  have : (0 : Int32).toInt = 0 := by decide
  have : (1 : Int32).toInt = 1 := by decide
  have : (2 : Int32).toInt = 2 := by decide
  have : (28 : Int32).toInt = 28 := by decide
  have : (3 : Int32).toInt = 3 := by decide
  have : (6 : Int32).toInt = 6 := by decide
  have := c_iushr p0 (28 : Int32) 28 (by decide) (by decide)
  have := rng32 ((p0.toUInt32 >>> ((28 : Int32) &&& 31).toUInt32).toInt32)
  have := c_irem ((p0.toUInt32 >>> ((28 : Int32) &&& 31).toUInt32).toInt32) (6 : Int32) (6) (by decide)
  have := rng32 (((p0.toUInt32 >>> ((28 : Int32) &&& 31).toUInt32).toInt32) % (6 : Int32))
  have := c_iushr p1 (28 : Int32) 28 (by decide) (by decide)
  have := rng32 ((p1.toUInt32 >>> ((28 : Int32) &&& 31).toUInt32).toInt32)
  have := c_iremV ((p1.toUInt32 >>> ((28 : Int32) &&& 31).toUInt32).toInt32) n_
  have := rng32 (((p1.toUInt32 >>> ((28 : Int32) &&& 31).toUInt32).toInt32) % n_)
  try (simp only [Int32.lt_iff_toInt_lt, Int32.le_iff_toInt_le, Int64.lt_iff_toInt_lt, Int64.le_iff_toInt_le, ← Int32.toInt_inj, ← Int64.toInt_inj, ne_eq] at *)
  omega
theorem la_0_371_293 (p0 : Int32) (p1 : Int32) (n_ : Int32) (k_ : Int32) (hn_ : (((p0.toUInt32 >>> ((28 : Int32) &&& 31).toUInt32).toInt32) % (6 : Int32)) = n_) (hc162_88 : (0 : Int32) < n_) (hc191_105 : (1 : Int32) < n_) (hc220_121 : (2 : Int32) < n_) (hc249_156 : ¬ ((3 : Int32) < n_)) (hk_ : (((p1.toUInt32 >>> ((28 : Int32) &&& 31).toUInt32).toInt32) % n_) = k_) : 0 ≤ k_.toInt ∧ k_.toInt < 5 := by
  have := rng32 p0
  have := rng32 p1
  have := rng32 n_
  have := rng32 k_
  have : (0 : Int32).toInt = 0 := by decide
  have : (1 : Int32).toInt = 1 := by decide
  have : (2 : Int32).toInt = 2 := by decide
  have : (28 : Int32).toInt = 28 := by decide
  have : (3 : Int32).toInt = 3 := by decide
  have : (6 : Int32).toInt = 6 := by decide
  have := c_iushr p0 (28 : Int32) 28 (by decide) (by decide)
  have := rng32 ((p0.toUInt32 >>> ((28 : Int32) &&& 31).toUInt32).toInt32)
  have := c_irem ((p0.toUInt32 >>> ((28 : Int32) &&& 31).toUInt32).toInt32) (6 : Int32) (6) (by decide)
  have := rng32 (((p0.toUInt32 >>> ((28 : Int32) &&& 31).toUInt32).toInt32) % (6 : Int32))
  have := c_iushr p1 (28 : Int32) 28 (by decide) (by decide)
  have := rng32 ((p1.toUInt32 >>> ((28 : Int32) &&& 31).toUInt32).toInt32)
  have := c_iremV ((p1.toUInt32 >>> ((28 : Int32) &&& 31).toUInt32).toInt32) n_
  have := rng32 (((p1.toUInt32 >>> ((28 : Int32) &&& 31).toUInt32).toInt32) % n_)
  try (simp only [Int32.lt_iff_toInt_lt, Int32.le_iff_toInt_le, Int64.lt_iff_toInt_lt, Int64.le_iff_toInt_le, ← Int32.toInt_inj, ← Int64.toInt_inj, ne_eq] at *)
  omega
theorem ld_0_372_294 (r32 : Int32) (r37 : Int32) (r42 : Int32) (r47 : Int32) (r52 : Int32) (k_ : Int32) (r288 : Int32) (w292 : Int32) (hr288 : (k_.toInt = 0 ∧ r288 = r32) ∨ (k_.toInt = 1 ∧ r288 = r37) ∨ (k_.toInt = 2 ∧ r288 = r42)) (hw292 : (k_.toInt = 0 ∧ w292 = r32) ∨ (k_.toInt = 1 ∧ w292 = r37) ∨ (k_.toInt = 2 ∧ w292 = r42) ∨ (k_.toInt = 3 ∧ w292 = r47) ∨ (k_.toInt = 4 ∧ w292 = r52)) : r288 = w292 := by
  have := rng32 r32
  have := rng32 r37
  have := rng32 r42
  have := rng32 r47
  have := rng32 r52
  have := rng32 k_
  have := rng32 r288
  have := rng32 w292
  try (simp only [Int32.lt_iff_toInt_lt, Int32.le_iff_toInt_le, Int64.lt_iff_toInt_lt, Int64.le_iff_toInt_le, ← Int32.toInt_inj, ← Int64.toInt_inj, ne_eq] at *)
  omega
theorem ld_0_249_296 (p0 : Int32) (n_ : Int32) (hn_ : (((p0.toUInt32 >>> ((28 : Int32) &&& 31).toUInt32).toInt32) % (6 : Int32)) = n_) (hc162_88 : (0 : Int32) < n_) (hc191_105 : (1 : Int32) < n_) (hc220_121 : ¬ ((2 : Int32) < n_)) : ¬ ((3 : Int32) < n_) := by
  have := rng32 p0
  have := rng32 n_
  have : (0 : Int32).toInt = 0 := by decide
  have : (1 : Int32).toInt = 1 := by decide
  have : (2 : Int32).toInt = 2 := by decide
  have : (28 : Int32).toInt = 28 := by decide
  have : (3 : Int32).toInt = 3 := by decide
  have : (6 : Int32).toInt = 6 := by decide
  have := c_iushr p0 (28 : Int32) 28 (by decide) (by decide)
  have := rng32 ((p0.toUInt32 >>> ((28 : Int32) &&& 31).toUInt32).toInt32)
  have := c_irem ((p0.toUInt32 >>> ((28 : Int32) &&& 31).toUInt32).toInt32) (6 : Int32) (6) (by decide)
  have := rng32 (((p0.toUInt32 >>> ((28 : Int32) &&& 31).toUInt32).toInt32) % (6 : Int32))
  try (simp only [Int32.lt_iff_toInt_lt, Int32.le_iff_toInt_le, Int64.lt_iff_toInt_lt, Int64.le_iff_toInt_le, ← Int32.toInt_inj, ← Int64.toInt_inj, ne_eq] at *)
  omega
theorem ld_0_278_298 (p0 : Int32) (n_ : Int32) (hn_ : (((p0.toUInt32 >>> ((28 : Int32) &&& 31).toUInt32).toInt32) % (6 : Int32)) = n_) (hc162_88 : (0 : Int32) < n_) (hc191_105 : (1 : Int32) < n_) (hc220_121 : ¬ ((2 : Int32) < n_)) : ¬ ((4 : Int32) < n_) := by
  have := rng32 p0
  have := rng32 n_
  have : (0 : Int32).toInt = 0 := by decide
  have : (1 : Int32).toInt = 1 := by decide
  have : (2 : Int32).toInt = 2 := by decide
  have : (28 : Int32).toInt = 28 := by decide
  have : (4 : Int32).toInt = 4 := by decide
  have : (6 : Int32).toInt = 6 := by decide
  have := c_iushr p0 (28 : Int32) 28 (by decide) (by decide)
  have := rng32 ((p0.toUInt32 >>> ((28 : Int32) &&& 31).toUInt32).toInt32)
  have := c_irem ((p0.toUInt32 >>> ((28 : Int32) &&& 31).toUInt32).toInt32) (6 : Int32) (6) (by decide)
  have := rng32 (((p0.toUInt32 >>> ((28 : Int32) &&& 31).toUInt32).toInt32) % (6 : Int32))
  try (simp only [Int32.lt_iff_toInt_lt, Int32.le_iff_toInt_le, Int64.lt_iff_toInt_lt, Int64.le_iff_toInt_le, ← Int32.toInt_inj, ← Int64.toInt_inj, ne_eq] at *)
  omega
theorem ld_0_311_302 (p0 : Int32) (n_ : Int32) (r300 : Int32) (hn_ : (((p0.toUInt32 >>> ((28 : Int32) &&& 31).toUInt32).toInt32) % (6 : Int32)) = n_) (hc162_88 : (0 : Int32) < n_) (hc191_105 : (1 : Int32) < n_) (hc220_121 : ¬ ((2 : Int32) < n_)) (hr300 : (r300 = (2 : Int32))) : r300 = n_ := by
  have := rng32 p0
  have := rng32 n_
  have := rng32 r300
  have : (0 : Int32).toInt = 0 := by decide
  have : (1 : Int32).toInt = 1 := by decide
  have : (2 : Int32).toInt = 2 := by decide
  have : (28 : Int32).toInt = 28 := by decide
  have : (6 : Int32).toInt = 6 := by decide
  have := c_iushr p0 (28 : Int32) 28 (by decide) (by decide)
  have := rng32 ((p0.toUInt32 >>> ((28 : Int32) &&& 31).toUInt32).toInt32)
  have := c_irem ((p0.toUInt32 >>> ((28 : Int32) &&& 31).toUInt32).toInt32) (6 : Int32) (6) (by decide)
  have := rng32 (((p0.toUInt32 >>> ((28 : Int32) &&& 31).toUInt32).toInt32) % (6 : Int32))
  try (simp only [Int32.lt_iff_toInt_lt, Int32.le_iff_toInt_le, Int64.lt_iff_toInt_lt, Int64.le_iff_toInt_le, ← Int32.toInt_inj, ← Int64.toInt_inj, ne_eq] at *)
  omega
theorem ld_0_324_305 (r32 : Int32) (r37 : Int32) (x104 : Int64) (x120 : Int64) (r304 : Int64) (hr32 : True) (hr37 : True) (hx104 : ((0 : Int64) + (r32.toInt64)) = x104) (hx120 : (x104 + (r37.toInt64)) = x120) (hr304 : (r304 = (((0 : Int64) + (r32.toInt64)) + (r37.toInt64)))) : r304 = x120 := by
  subst hx104
  subst hx120
  exact hr304
theorem ld_0_331_307 (p0 : Int32) (n_ : Int32) (hn_ : (((p0.toUInt32 >>> ((28 : Int32) &&& 31).toUInt32).toInt32) % (6 : Int32)) = n_) (hc162_88 : (0 : Int32) < n_) (hc191_105 : (1 : Int32) < n_) (hc220_121 : ¬ ((2 : Int32) < n_)) : ¬ (n_ = (0 : Int32)) := by
  have := rng32 p0
  have := rng32 n_
  have : (0 : Int32).toInt = 0 := by decide
  have : (1 : Int32).toInt = 1 := by decide
  have : (2 : Int32).toInt = 2 := by decide
  have : (28 : Int32).toInt = 28 := by decide
  have : (6 : Int32).toInt = 6 := by decide
  have := c_iushr p0 (28 : Int32) 28 (by decide) (by decide)
  have := rng32 ((p0.toUInt32 >>> ((28 : Int32) &&& 31).toUInt32).toInt32)
  have := c_irem ((p0.toUInt32 >>> ((28 : Int32) &&& 31).toUInt32).toInt32) (6 : Int32) (6) (by decide)
  have := rng32 (((p0.toUInt32 >>> ((28 : Int32) &&& 31).toUInt32).toInt32) % (6 : Int32))
  try (simp only [Int32.lt_iff_toInt_lt, Int32.le_iff_toInt_le, Int64.lt_iff_toInt_lt, Int64.le_iff_toInt_le, ← Int32.toInt_inj, ← Int64.toInt_inj, ne_eq] at *)
  omega
theorem la_0_342_309 (p0 : Int32) (n_ : Int32) (hn_ : (((p0.toUInt32 >>> ((28 : Int32) &&& 31).toUInt32).toInt32) % (6 : Int32)) = n_) (hc162_88 : (0 : Int32) < n_) (hc191_105 : (1 : Int32) < n_) (hc220_121 : ¬ ((2 : Int32) < n_)) : n_ ≠ 0 := by
  have := rng32 p0
  have := rng32 n_
  have : (0 : Int32).toInt = 0 := by decide
  have : (1 : Int32).toInt = 1 := by decide
  have : (2 : Int32).toInt = 2 := by decide
  have : (28 : Int32).toInt = 28 := by decide
  have : (6 : Int32).toInt = 6 := by decide
  have := c_iushr p0 (28 : Int32) 28 (by decide) (by decide)
  have := rng32 ((p0.toUInt32 >>> ((28 : Int32) &&& 31).toUInt32).toInt32)
  have := c_irem ((p0.toUInt32 >>> ((28 : Int32) &&& 31).toUInt32).toInt32) (6 : Int32) (6) (by decide)
  have := rng32 (((p0.toUInt32 >>> ((28 : Int32) &&& 31).toUInt32).toInt32) % (6 : Int32))
  try (simp only [Int32.lt_iff_toInt_lt, Int32.le_iff_toInt_le, Int64.lt_iff_toInt_lt, Int64.le_iff_toInt_le, ← Int32.toInt_inj, ← Int64.toInt_inj, ne_eq] at *)
  omega
theorem la_0_349_311 (p0 : Int32) (p1 : Int32) (n_ : Int32) (k_ : Int32) (hn_ : (((p0.toUInt32 >>> ((28 : Int32) &&& 31).toUInt32).toInt32) % (6 : Int32)) = n_) (hc162_88 : (0 : Int32) < n_) (hc191_105 : (1 : Int32) < n_) (hc220_121 : ¬ ((2 : Int32) < n_)) (hk_ : (((p1.toUInt32 >>> ((28 : Int32) &&& 31).toUInt32).toInt32) % n_) = k_) : 0 ≤ k_.toInt := by
  have := rng32 p0
  have := rng32 p1
  have := rng32 n_
  have := rng32 k_
  have : (0 : Int32).toInt = 0 := by decide
  have : (1 : Int32).toInt = 1 := by decide
  have : (2 : Int32).toInt = 2 := by decide
  have : (28 : Int32).toInt = 28 := by decide
  have : (6 : Int32).toInt = 6 := by decide
  have := c_iushr p0 (28 : Int32) 28 (by decide) (by decide)
  have := rng32 ((p0.toUInt32 >>> ((28 : Int32) &&& 31).toUInt32).toInt32)
  have := c_irem ((p0.toUInt32 >>> ((28 : Int32) &&& 31).toUInt32).toInt32) (6 : Int32) (6) (by decide)
  have := rng32 (((p0.toUInt32 >>> ((28 : Int32) &&& 31).toUInt32).toInt32) % (6 : Int32))
  have := c_iushr p1 (28 : Int32) 28 (by decide) (by decide)
  have := rng32 ((p1.toUInt32 >>> ((28 : Int32) &&& 31).toUInt32).toInt32)
  have := c_iremV ((p1.toUInt32 >>> ((28 : Int32) &&& 31).toUInt32).toInt32) n_
  have := rng32 (((p1.toUInt32 >>> ((28 : Int32) &&& 31).toUInt32).toInt32) % n_)
  try (simp only [Int32.lt_iff_toInt_lt, Int32.le_iff_toInt_le, Int64.lt_iff_toInt_lt, Int64.le_iff_toInt_le, ← Int32.toInt_inj, ← Int64.toInt_inj, ne_eq] at *)
  omega
theorem la_0_349_312 (p0 : Int32) (p1 : Int32) (n_ : Int32) (k_ : Int32) (hn_ : (((p0.toUInt32 >>> ((28 : Int32) &&& 31).toUInt32).toInt32) % (6 : Int32)) = n_) (hc162_88 : (0 : Int32) < n_) (hc191_105 : (1 : Int32) < n_) (hc220_121 : ¬ ((2 : Int32) < n_)) (hk_ : (((p1.toUInt32 >>> ((28 : Int32) &&& 31).toUInt32).toInt32) % n_) = k_) : k_.toInt < 2 := by
  have := rng32 p0
  have := rng32 p1
  have := rng32 n_
  have := rng32 k_
  have : (0 : Int32).toInt = 0 := by decide
  have : (1 : Int32).toInt = 1 := by decide
  have : (2 : Int32).toInt = 2 := by decide
  have : (28 : Int32).toInt = 28 := by decide
  have : (6 : Int32).toInt = 6 := by decide
  have := c_iushr p0 (28 : Int32) 28 (by decide) (by decide)
  have := rng32 ((p0.toUInt32 >>> ((28 : Int32) &&& 31).toUInt32).toInt32)
  have := c_irem ((p0.toUInt32 >>> ((28 : Int32) &&& 31).toUInt32).toInt32) (6 : Int32) (6) (by decide)
  have := rng32 (((p0.toUInt32 >>> ((28 : Int32) &&& 31).toUInt32).toInt32) % (6 : Int32))
  have := c_iushr p1 (28 : Int32) 28 (by decide) (by decide)
  have := rng32 ((p1.toUInt32 >>> ((28 : Int32) &&& 31).toUInt32).toInt32)
  have := c_iremV ((p1.toUInt32 >>> ((28 : Int32) &&& 31).toUInt32).toInt32) n_
  have := rng32 (((p1.toUInt32 >>> ((28 : Int32) &&& 31).toUInt32).toInt32) % n_)
  try (simp only [Int32.lt_iff_toInt_lt, Int32.le_iff_toInt_le, Int64.lt_iff_toInt_lt, Int64.le_iff_toInt_le, ← Int32.toInt_inj, ← Int64.toInt_inj, ne_eq] at *)
  omega
theorem la_0_356_316 (p0 : Int32) (p1 : Int32) (n_ : Int32) (k_ : Int32) (hn_ : (((p0.toUInt32 >>> ((28 : Int32) &&& 31).toUInt32).toInt32) % (6 : Int32)) = n_) (hc162_88 : (0 : Int32) < n_) (hc191_105 : (1 : Int32) < n_) (hc220_121 : ¬ ((2 : Int32) < n_)) (hk_ : (((p1.toUInt32 >>> ((28 : Int32) &&& 31).toUInt32).toInt32) % n_) = k_) : 0 ≤ k_.toInt ∧ k_.toInt < 5 := by
  have := rng32 p0
  have := rng32 p1
  have := rng32 n_
  have := rng32 k_
  have : (0 : Int32).toInt = 0 := by decide
  have : (1 : Int32).toInt = 1 := by decide
  have : (2 : Int32).toInt = 2 := by decide
  have : (28 : Int32).toInt = 28 := by decide
  have : (6 : Int32).toInt = 6 := by decide
  have := c_iushr p0 (28 : Int32) 28 (by decide) (by decide)
  have := rng32 ((p0.toUInt32 >>> ((28 : Int32) &&& 31).toUInt32).toInt32)
  have := c_irem ((p0.toUInt32 >>> ((28 : Int32) &&& 31).toUInt32).toInt32) (6 : Int32) (6) (by decide)
  have := rng32 (((p0.toUInt32 >>> ((28 : Int32) &&& 31).toUInt32).toInt32) % (6 : Int32))
  have := c_iushr p1 (28 : Int32) 28 (by decide) (by decide)
  have := rng32 ((p1.toUInt32 >>> ((28 : Int32) &&& 31).toUInt32).toInt32)
  have := c_iremV ((p1.toUInt32 >>> ((28 : Int32) &&& 31).toUInt32).toInt32) n_
  have := rng32 (((p1.toUInt32 >>> ((28 : Int32) &&& 31).toUInt32).toInt32) % n_)
  try (simp only [Int32.lt_iff_toInt_lt, Int32.le_iff_toInt_le, Int64.lt_iff_toInt_lt, Int64.le_iff_toInt_le, ← Int32.toInt_inj, ← Int64.toInt_inj, ne_eq] at *)
  omega
theorem ld_0_357_317 (x4 : Int32) (x9 : Int32) (x14 : Int32) (x19 : Int32) (x24 : Int32) (k_ : Int32) (r310 : Int32) (w315 : Int32) (hr310 : (k_.toInt = 0 ∧ r310 = x4) ∨ (k_.toInt = 1 ∧ r310 = x9)) (hw315 : (k_.toInt = 0 ∧ w315 = x4) ∨ (k_.toInt = 1 ∧ w315 = x9) ∨ (k_.toInt = 2 ∧ w315 = x14) ∨ (k_.toInt = 3 ∧ w315 = x19) ∨ (k_.toInt = 4 ∧ w315 = x24)) : r310 = w315 := by
  have := rng32 x4
  have := rng32 x9
  have := rng32 x14
  have := rng32 x19
  have := rng32 x24
  have := rng32 k_
  have := rng32 r310
  have := rng32 w315
  try (simp only [Int32.lt_iff_toInt_lt, Int32.le_iff_toInt_le, Int64.lt_iff_toInt_lt, Int64.le_iff_toInt_le, ← Int32.toInt_inj, ← Int64.toInt_inj, ne_eq] at *)
  omega
theorem la_0_364_320 (p0 : Int32) (p1 : Int32) (n_ : Int32) (k_ : Int32) (hn_ : (((p0.toUInt32 >>> ((28 : Int32) &&& 31).toUInt32).toInt32) % (6 : Int32)) = n_) (hc162_88 : (0 : Int32) < n_) (hc191_105 : (1 : Int32) < n_) (hc220_121 : ¬ ((2 : Int32) < n_)) (hk_ : (((p1.toUInt32 >>> ((28 : Int32) &&& 31).toUInt32).toInt32) % n_) = k_) : 0 ≤ k_.toInt := by
  have := rng32 p0
  have := rng32 p1
  have := rng32 n_
  have := rng32 k_
  have : (0 : Int32).toInt = 0 := by decide
  have : (1 : Int32).toInt = 1 := by decide
  have : (2 : Int32).toInt = 2 := by decide
  have : (28 : Int32).toInt = 28 := by decide
  have : (6 : Int32).toInt = 6 := by decide
  have := c_iushr p0 (28 : Int32) 28 (by decide) (by decide)
  have := rng32 ((p0.toUInt32 >>> ((28 : Int32) &&& 31).toUInt32).toInt32)
  have := c_irem ((p0.toUInt32 >>> ((28 : Int32) &&& 31).toUInt32).toInt32) (6 : Int32) (6) (by decide)
  have := rng32 (((p0.toUInt32 >>> ((28 : Int32) &&& 31).toUInt32).toInt32) % (6 : Int32))
  have := c_iushr p1 (28 : Int32) 28 (by decide) (by decide)
  have := rng32 ((p1.toUInt32 >>> ((28 : Int32) &&& 31).toUInt32).toInt32)
  have := c_iremV ((p1.toUInt32 >>> ((28 : Int32) &&& 31).toUInt32).toInt32) n_
  have := rng32 (((p1.toUInt32 >>> ((28 : Int32) &&& 31).toUInt32).toInt32) % n_)
  try (simp only [Int32.lt_iff_toInt_lt, Int32.le_iff_toInt_le, Int64.lt_iff_toInt_lt, Int64.le_iff_toInt_le, ← Int32.toInt_inj, ← Int64.toInt_inj, ne_eq] at *)
  omega
theorem la_0_364_321 (p0 : Int32) (p1 : Int32) (n_ : Int32) (k_ : Int32) (hn_ : (((p0.toUInt32 >>> ((28 : Int32) &&& 31).toUInt32).toInt32) % (6 : Int32)) = n_) (hc162_88 : (0 : Int32) < n_) (hc191_105 : (1 : Int32) < n_) (hc220_121 : ¬ ((2 : Int32) < n_)) (hk_ : (((p1.toUInt32 >>> ((28 : Int32) &&& 31).toUInt32).toInt32) % n_) = k_) : k_.toInt < 2 := by
  have := rng32 p0
  have := rng32 p1
  have := rng32 n_
  have := rng32 k_
  have : (0 : Int32).toInt = 0 := by decide
  have : (1 : Int32).toInt = 1 := by decide
  have : (2 : Int32).toInt = 2 := by decide
  have : (28 : Int32).toInt = 28 := by decide
  have : (6 : Int32).toInt = 6 := by decide
  have := c_iushr p0 (28 : Int32) 28 (by decide) (by decide)
  have := rng32 ((p0.toUInt32 >>> ((28 : Int32) &&& 31).toUInt32).toInt32)
  have := c_irem ((p0.toUInt32 >>> ((28 : Int32) &&& 31).toUInt32).toInt32) (6 : Int32) (6) (by decide)
  have := rng32 (((p0.toUInt32 >>> ((28 : Int32) &&& 31).toUInt32).toInt32) % (6 : Int32))
  have := c_iushr p1 (28 : Int32) 28 (by decide) (by decide)
  have := rng32 ((p1.toUInt32 >>> ((28 : Int32) &&& 31).toUInt32).toInt32)
  have := c_iremV ((p1.toUInt32 >>> ((28 : Int32) &&& 31).toUInt32).toInt32) n_
  have := rng32 (((p1.toUInt32 >>> ((28 : Int32) &&& 31).toUInt32).toInt32) % n_)
  try (simp only [Int32.lt_iff_toInt_lt, Int32.le_iff_toInt_le, Int64.lt_iff_toInt_lt, Int64.le_iff_toInt_le, ← Int32.toInt_inj, ← Int64.toInt_inj, ne_eq] at *)
  omega
theorem la_0_371_324 (p0 : Int32) (p1 : Int32) (n_ : Int32) (k_ : Int32) (hn_ : (((p0.toUInt32 >>> ((28 : Int32) &&& 31).toUInt32).toInt32) % (6 : Int32)) = n_) (hc162_88 : (0 : Int32) < n_) (hc191_105 : (1 : Int32) < n_) (hc220_121 : ¬ ((2 : Int32) < n_)) (hk_ : (((p1.toUInt32 >>> ((28 : Int32) &&& 31).toUInt32).toInt32) % n_) = k_) : 0 ≤ k_.toInt ∧ k_.toInt < 5 := by
  have := rng32 p0
  have := rng32 p1
  have := rng32 n_
  have := rng32 k_
  have : (0 : Int32).toInt = 0 := by decide
  have : (1 : Int32).toInt = 1 := by decide
  have : (2 : Int32).toInt = 2 := by decide
  have : (28 : Int32).toInt = 28 := by decide
  have : (6 : Int32).toInt = 6 := by decide
  have := c_iushr p0 (28 : Int32) 28 (by decide) (by decide)
  have := rng32 ((p0.toUInt32 >>> ((28 : Int32) &&& 31).toUInt32).toInt32)
  have := c_irem ((p0.toUInt32 >>> ((28 : Int32) &&& 31).toUInt32).toInt32) (6 : Int32) (6) (by decide)
  have := rng32 (((p0.toUInt32 >>> ((28 : Int32) &&& 31).toUInt32).toInt32) % (6 : Int32))
  have := c_iushr p1 (28 : Int32) 28 (by decide) (by decide)
  have := rng32 ((p1.toUInt32 >>> ((28 : Int32) &&& 31).toUInt32).toInt32)
  have := c_iremV ((p1.toUInt32 >>> ((28 : Int32) &&& 31).toUInt32).toInt32) n_
  have := rng32 (((p1.toUInt32 >>> ((28 : Int32) &&& 31).toUInt32).toInt32) % n_)
  try (simp only [Int32.lt_iff_toInt_lt, Int32.le_iff_toInt_le, Int64.lt_iff_toInt_lt, Int64.le_iff_toInt_le, ← Int32.toInt_inj, ← Int64.toInt_inj, ne_eq] at *)
  omega
theorem ld_0_372_325 (r32 : Int32) (r37 : Int32) (r42 : Int32) (r47 : Int32) (r52 : Int32) (k_ : Int32) (r319 : Int32) (w323 : Int32) (hr319 : (k_.toInt = 0 ∧ r319 = r32) ∨ (k_.toInt = 1 ∧ r319 = r37)) (hw323 : (k_.toInt = 0 ∧ w323 = r32) ∨ (k_.toInt = 1 ∧ w323 = r37) ∨ (k_.toInt = 2 ∧ w323 = r42) ∨ (k_.toInt = 3 ∧ w323 = r47) ∨ (k_.toInt = 4 ∧ w323 = r52)) : r319 = w323 := by
  have := rng32 r32
  have := rng32 r37
  have := rng32 r42
  have := rng32 r47
  have := rng32 r52
  have := rng32 k_
  have := rng32 r319
  have := rng32 w323
  try (simp only [Int32.lt_iff_toInt_lt, Int32.le_iff_toInt_le, Int64.lt_iff_toInt_lt, Int64.le_iff_toInt_le, ← Int32.toInt_inj, ← Int64.toInt_inj, ne_eq] at *)
  omega
theorem ld_0_220_327 (p0 : Int32) (n_ : Int32) (hn_ : (((p0.toUInt32 >>> ((28 : Int32) &&& 31).toUInt32).toInt32) % (6 : Int32)) = n_) (hc162_88 : (0 : Int32) < n_) (hc191_105 : ¬ ((1 : Int32) < n_)) : ¬ ((2 : Int32) < n_) := by
  have := rng32 p0
  have := rng32 n_
  have : (0 : Int32).toInt = 0 := by decide
  have : (1 : Int32).toInt = 1 := by decide
  have : (2 : Int32).toInt = 2 := by decide
  have : (28 : Int32).toInt = 28 := by decide
  have : (6 : Int32).toInt = 6 := by decide
  have := c_iushr p0 (28 : Int32) 28 (by decide) (by decide)
  have := rng32 ((p0.toUInt32 >>> ((28 : Int32) &&& 31).toUInt32).toInt32)
  have := c_irem ((p0.toUInt32 >>> ((28 : Int32) &&& 31).toUInt32).toInt32) (6 : Int32) (6) (by decide)
  have := rng32 (((p0.toUInt32 >>> ((28 : Int32) &&& 31).toUInt32).toInt32) % (6 : Int32))
  try (simp only [Int32.lt_iff_toInt_lt, Int32.le_iff_toInt_le, Int64.lt_iff_toInt_lt, Int64.le_iff_toInt_le, ← Int32.toInt_inj, ← Int64.toInt_inj, ne_eq] at *)
  omega
theorem ld_0_249_329 (p0 : Int32) (n_ : Int32) (hn_ : (((p0.toUInt32 >>> ((28 : Int32) &&& 31).toUInt32).toInt32) % (6 : Int32)) = n_) (hc162_88 : (0 : Int32) < n_) (hc191_105 : ¬ ((1 : Int32) < n_)) : ¬ ((3 : Int32) < n_) := by
  have := rng32 p0
  have := rng32 n_
  have : (0 : Int32).toInt = 0 := by decide
  have : (1 : Int32).toInt = 1 := by decide
  have : (28 : Int32).toInt = 28 := by decide
  have : (3 : Int32).toInt = 3 := by decide
  have : (6 : Int32).toInt = 6 := by decide
  have := c_iushr p0 (28 : Int32) 28 (by decide) (by decide)
  have := rng32 ((p0.toUInt32 >>> ((28 : Int32) &&& 31).toUInt32).toInt32)
  have := c_irem ((p0.toUInt32 >>> ((28 : Int32) &&& 31).toUInt32).toInt32) (6 : Int32) (6) (by decide)
  have := rng32 (((p0.toUInt32 >>> ((28 : Int32) &&& 31).toUInt32).toInt32) % (6 : Int32))
  try (simp only [Int32.lt_iff_toInt_lt, Int32.le_iff_toInt_le, Int64.lt_iff_toInt_lt, Int64.le_iff_toInt_le, ← Int32.toInt_inj, ← Int64.toInt_inj, ne_eq] at *)
  omega
theorem ld_0_278_331 (p0 : Int32) (n_ : Int32) (hn_ : (((p0.toUInt32 >>> ((28 : Int32) &&& 31).toUInt32).toInt32) % (6 : Int32)) = n_) (hc162_88 : (0 : Int32) < n_) (hc191_105 : ¬ ((1 : Int32) < n_)) : ¬ ((4 : Int32) < n_) := by
  have := rng32 p0
  have := rng32 n_
  have : (0 : Int32).toInt = 0 := by decide
  have : (1 : Int32).toInt = 1 := by decide
  have : (28 : Int32).toInt = 28 := by decide
  have : (4 : Int32).toInt = 4 := by decide
  have : (6 : Int32).toInt = 6 := by decide
  have := c_iushr p0 (28 : Int32) 28 (by decide) (by decide)
  have := rng32 ((p0.toUInt32 >>> ((28 : Int32) &&& 31).toUInt32).toInt32)
  have := c_irem ((p0.toUInt32 >>> ((28 : Int32) &&& 31).toUInt32).toInt32) (6 : Int32) (6) (by decide)
  have := rng32 (((p0.toUInt32 >>> ((28 : Int32) &&& 31).toUInt32).toInt32) % (6 : Int32))
  try (simp only [Int32.lt_iff_toInt_lt, Int32.le_iff_toInt_le, Int64.lt_iff_toInt_lt, Int64.le_iff_toInt_le, ← Int32.toInt_inj, ← Int64.toInt_inj, ne_eq] at *)
  omega
theorem ld_0_311_335 (p0 : Int32) (n_ : Int32) (r333 : Int32) (hn_ : (((p0.toUInt32 >>> ((28 : Int32) &&& 31).toUInt32).toInt32) % (6 : Int32)) = n_) (hc162_88 : (0 : Int32) < n_) (hc191_105 : ¬ ((1 : Int32) < n_)) (hr333 : (r333 = (1 : Int32))) : r333 = n_ := by
  have := rng32 p0
  have := rng32 n_
  have := rng32 r333
  have : (0 : Int32).toInt = 0 := by decide
  have : (1 : Int32).toInt = 1 := by decide
  have : (28 : Int32).toInt = 28 := by decide
  have : (6 : Int32).toInt = 6 := by decide
  have := c_iushr p0 (28 : Int32) 28 (by decide) (by decide)
  have := rng32 ((p0.toUInt32 >>> ((28 : Int32) &&& 31).toUInt32).toInt32)
  have := c_irem ((p0.toUInt32 >>> ((28 : Int32) &&& 31).toUInt32).toInt32) (6 : Int32) (6) (by decide)
  have := rng32 (((p0.toUInt32 >>> ((28 : Int32) &&& 31).toUInt32).toInt32) % (6 : Int32))
  try (simp only [Int32.lt_iff_toInt_lt, Int32.le_iff_toInt_le, Int64.lt_iff_toInt_lt, Int64.le_iff_toInt_le, ← Int32.toInt_inj, ← Int64.toInt_inj, ne_eq] at *)
  omega
theorem ld_0_324_338 (r32 : Int32) (x104 : Int64) (r337 : Int64) (hr32 : True) (hx104 : ((0 : Int64) + (r32.toInt64)) = x104) (hr337 : (r337 = ((0 : Int64) + (r32.toInt64)))) : r337 = x104 := by
  subst hx104
  exact hr337
theorem ld_0_331_340 (p0 : Int32) (n_ : Int32) (hn_ : (((p0.toUInt32 >>> ((28 : Int32) &&& 31).toUInt32).toInt32) % (6 : Int32)) = n_) (hc162_88 : (0 : Int32) < n_) (hc191_105 : ¬ ((1 : Int32) < n_)) : ¬ (n_ = (0 : Int32)) := by
  have := rng32 p0
  have := rng32 n_
  have : (0 : Int32).toInt = 0 := by decide
  have : (1 : Int32).toInt = 1 := by decide
  have : (28 : Int32).toInt = 28 := by decide
  have : (6 : Int32).toInt = 6 := by decide
  have := c_iushr p0 (28 : Int32) 28 (by decide) (by decide)
  have := rng32 ((p0.toUInt32 >>> ((28 : Int32) &&& 31).toUInt32).toInt32)
  have := c_irem ((p0.toUInt32 >>> ((28 : Int32) &&& 31).toUInt32).toInt32) (6 : Int32) (6) (by decide)
  have := rng32 (((p0.toUInt32 >>> ((28 : Int32) &&& 31).toUInt32).toInt32) % (6 : Int32))
  try (simp only [Int32.lt_iff_toInt_lt, Int32.le_iff_toInt_le, Int64.lt_iff_toInt_lt, Int64.le_iff_toInt_le, ← Int32.toInt_inj, ← Int64.toInt_inj, ne_eq] at *)
  omega
theorem la_0_342_342 (p0 : Int32) (n_ : Int32) (hn_ : (((p0.toUInt32 >>> ((28 : Int32) &&& 31).toUInt32).toInt32) % (6 : Int32)) = n_) (hc162_88 : (0 : Int32) < n_) (hc191_105 : ¬ ((1 : Int32) < n_)) : n_ ≠ 0 := by
  have := rng32 p0
  have := rng32 n_
  have : (0 : Int32).toInt = 0 := by decide
  have : (1 : Int32).toInt = 1 := by decide
  have : (28 : Int32).toInt = 28 := by decide
  have : (6 : Int32).toInt = 6 := by decide
  have := c_iushr p0 (28 : Int32) 28 (by decide) (by decide)
  have := rng32 ((p0.toUInt32 >>> ((28 : Int32) &&& 31).toUInt32).toInt32)
  have := c_irem ((p0.toUInt32 >>> ((28 : Int32) &&& 31).toUInt32).toInt32) (6 : Int32) (6) (by decide)
  have := rng32 (((p0.toUInt32 >>> ((28 : Int32) &&& 31).toUInt32).toInt32) % (6 : Int32))
  try (simp only [Int32.lt_iff_toInt_lt, Int32.le_iff_toInt_le, Int64.lt_iff_toInt_lt, Int64.le_iff_toInt_le, ← Int32.toInt_inj, ← Int64.toInt_inj, ne_eq] at *)
  omega
theorem la_0_349_344 (p0 : Int32) (p1 : Int32) (n_ : Int32) (k_ : Int32) (hn_ : (((p0.toUInt32 >>> ((28 : Int32) &&& 31).toUInt32).toInt32) % (6 : Int32)) = n_) (hc162_88 : (0 : Int32) < n_) (hc191_105 : ¬ ((1 : Int32) < n_)) (hk_ : (((p1.toUInt32 >>> ((28 : Int32) &&& 31).toUInt32).toInt32) % n_) = k_) : 0 ≤ k_.toInt := by
  have := rng32 p0
  have := rng32 p1
  have := rng32 n_
  have := rng32 k_
  have : (0 : Int32).toInt = 0 := by decide
  have : (1 : Int32).toInt = 1 := by decide
  have : (28 : Int32).toInt = 28 := by decide
  have : (6 : Int32).toInt = 6 := by decide
  have := c_iushr p0 (28 : Int32) 28 (by decide) (by decide)
  have := rng32 ((p0.toUInt32 >>> ((28 : Int32) &&& 31).toUInt32).toInt32)
  have := c_irem ((p0.toUInt32 >>> ((28 : Int32) &&& 31).toUInt32).toInt32) (6 : Int32) (6) (by decide)
  have := rng32 (((p0.toUInt32 >>> ((28 : Int32) &&& 31).toUInt32).toInt32) % (6 : Int32))
  have := c_iushr p1 (28 : Int32) 28 (by decide) (by decide)
  have := rng32 ((p1.toUInt32 >>> ((28 : Int32) &&& 31).toUInt32).toInt32)
  have := c_iremV ((p1.toUInt32 >>> ((28 : Int32) &&& 31).toUInt32).toInt32) n_
  have := rng32 (((p1.toUInt32 >>> ((28 : Int32) &&& 31).toUInt32).toInt32) % n_)
  try (simp only [Int32.lt_iff_toInt_lt, Int32.le_iff_toInt_le, Int64.lt_iff_toInt_lt, Int64.le_iff_toInt_le, ← Int32.toInt_inj, ← Int64.toInt_inj, ne_eq] at *)
  omega
theorem la_0_349_345 (p0 : Int32) (p1 : Int32) (n_ : Int32) (k_ : Int32) (hn_ : (((p0.toUInt32 >>> ((28 : Int32) &&& 31).toUInt32).toInt32) % (6 : Int32)) = n_) (hc162_88 : (0 : Int32) < n_) (hc191_105 : ¬ ((1 : Int32) < n_)) (hk_ : (((p1.toUInt32 >>> ((28 : Int32) &&& 31).toUInt32).toInt32) % n_) = k_) : k_.toInt < 1 := by
  have := rng32 p0
  have := rng32 p1
  have := rng32 n_
  have := rng32 k_
  have : (0 : Int32).toInt = 0 := by decide
  have : (1 : Int32).toInt = 1 := by decide
  have : (28 : Int32).toInt = 28 := by decide
  have : (6 : Int32).toInt = 6 := by decide
  have := c_iushr p0 (28 : Int32) 28 (by decide) (by decide)
  have := rng32 ((p0.toUInt32 >>> ((28 : Int32) &&& 31).toUInt32).toInt32)
  have := c_irem ((p0.toUInt32 >>> ((28 : Int32) &&& 31).toUInt32).toInt32) (6 : Int32) (6) (by decide)
  have := rng32 (((p0.toUInt32 >>> ((28 : Int32) &&& 31).toUInt32).toInt32) % (6 : Int32))
  have := c_iushr p1 (28 : Int32) 28 (by decide) (by decide)
  have := rng32 ((p1.toUInt32 >>> ((28 : Int32) &&& 31).toUInt32).toInt32)
  have := c_iremV ((p1.toUInt32 >>> ((28 : Int32) &&& 31).toUInt32).toInt32) n_
  have := rng32 (((p1.toUInt32 >>> ((28 : Int32) &&& 31).toUInt32).toInt32) % n_)
  try (simp only [Int32.lt_iff_toInt_lt, Int32.le_iff_toInt_le, Int64.lt_iff_toInt_lt, Int64.le_iff_toInt_le, ← Int32.toInt_inj, ← Int64.toInt_inj, ne_eq] at *)
  omega
theorem la_0_356_349 (p0 : Int32) (p1 : Int32) (n_ : Int32) (k_ : Int32) (hn_ : (((p0.toUInt32 >>> ((28 : Int32) &&& 31).toUInt32).toInt32) % (6 : Int32)) = n_) (hc162_88 : (0 : Int32) < n_) (hc191_105 : ¬ ((1 : Int32) < n_)) (hk_ : (((p1.toUInt32 >>> ((28 : Int32) &&& 31).toUInt32).toInt32) % n_) = k_) : 0 ≤ k_.toInt ∧ k_.toInt < 5 := by
  have := rng32 p0
  have := rng32 p1
  have := rng32 n_
  have := rng32 k_
  have : (0 : Int32).toInt = 0 := by decide
  have : (1 : Int32).toInt = 1 := by decide
  have : (28 : Int32).toInt = 28 := by decide
  have : (6 : Int32).toInt = 6 := by decide
  have := c_iushr p0 (28 : Int32) 28 (by decide) (by decide)
  have := rng32 ((p0.toUInt32 >>> ((28 : Int32) &&& 31).toUInt32).toInt32)
  have := c_irem ((p0.toUInt32 >>> ((28 : Int32) &&& 31).toUInt32).toInt32) (6 : Int32) (6) (by decide)
  have := rng32 (((p0.toUInt32 >>> ((28 : Int32) &&& 31).toUInt32).toInt32) % (6 : Int32))
  have := c_iushr p1 (28 : Int32) 28 (by decide) (by decide)
  have := rng32 ((p1.toUInt32 >>> ((28 : Int32) &&& 31).toUInt32).toInt32)
  have := c_iremV ((p1.toUInt32 >>> ((28 : Int32) &&& 31).toUInt32).toInt32) n_
  have := rng32 (((p1.toUInt32 >>> ((28 : Int32) &&& 31).toUInt32).toInt32) % n_)
  try (simp only [Int32.lt_iff_toInt_lt, Int32.le_iff_toInt_le, Int64.lt_iff_toInt_lt, Int64.le_iff_toInt_le, ← Int32.toInt_inj, ← Int64.toInt_inj, ne_eq] at *)
  omega
theorem ld_0_357_350 (x4 : Int32) (x9 : Int32) (x14 : Int32) (x19 : Int32) (x24 : Int32) (k_ : Int32) (r343 : Int32) (w348 : Int32) (hr343 : (k_.toInt = 0 ∧ r343 = x4)) (hw348 : (k_.toInt = 0 ∧ w348 = x4) ∨ (k_.toInt = 1 ∧ w348 = x9) ∨ (k_.toInt = 2 ∧ w348 = x14) ∨ (k_.toInt = 3 ∧ w348 = x19) ∨ (k_.toInt = 4 ∧ w348 = x24)) : r343 = w348 := by
  have := rng32 x4
  have := rng32 x9
  have := rng32 x14
  have := rng32 x19
  have := rng32 x24
  have := rng32 k_
  have := rng32 r343
  have := rng32 w348
  try (simp only [Int32.lt_iff_toInt_lt, Int32.le_iff_toInt_le, Int64.lt_iff_toInt_lt, Int64.le_iff_toInt_le, ← Int32.toInt_inj, ← Int64.toInt_inj, ne_eq] at *)
  omega
theorem la_0_364_353 (p0 : Int32) (p1 : Int32) (n_ : Int32) (k_ : Int32) (hn_ : (((p0.toUInt32 >>> ((28 : Int32) &&& 31).toUInt32).toInt32) % (6 : Int32)) = n_) (hc162_88 : (0 : Int32) < n_) (hc191_105 : ¬ ((1 : Int32) < n_)) (hk_ : (((p1.toUInt32 >>> ((28 : Int32) &&& 31).toUInt32).toInt32) % n_) = k_) : 0 ≤ k_.toInt := by
  have := rng32 p0
  have := rng32 p1
  have := rng32 n_
  have := rng32 k_
  have : (0 : Int32).toInt = 0 := by decide
  have : (1 : Int32).toInt = 1 := by decide
  have : (28 : Int32).toInt = 28 := by decide
  have : (6 : Int32).toInt = 6 := by decide
  have := c_iushr p0 (28 : Int32) 28 (by decide) (by decide)
  have := rng32 ((p0.toUInt32 >>> ((28 : Int32) &&& 31).toUInt32).toInt32)
  have := c_irem ((p0.toUInt32 >>> ((28 : Int32) &&& 31).toUInt32).toInt32) (6 : Int32) (6) (by decide)
  have := rng32 (((p0.toUInt32 >>> ((28 : Int32) &&& 31).toUInt32).toInt32) % (6 : Int32))
  have := c_iushr p1 (28 : Int32) 28 (by decide) (by decide)
  have := rng32 ((p1.toUInt32 >>> ((28 : Int32) &&& 31).toUInt32).toInt32)
  have := c_iremV ((p1.toUInt32 >>> ((28 : Int32) &&& 31).toUInt32).toInt32) n_
  have := rng32 (((p1.toUInt32 >>> ((28 : Int32) &&& 31).toUInt32).toInt32) % n_)
  try (simp only [Int32.lt_iff_toInt_lt, Int32.le_iff_toInt_le, Int64.lt_iff_toInt_lt, Int64.le_iff_toInt_le, ← Int32.toInt_inj, ← Int64.toInt_inj, ne_eq] at *)
  omega
theorem la_0_364_354 (p0 : Int32) (p1 : Int32) (n_ : Int32) (k_ : Int32) (hn_ : (((p0.toUInt32 >>> ((28 : Int32) &&& 31).toUInt32).toInt32) % (6 : Int32)) = n_) (hc162_88 : (0 : Int32) < n_) (hc191_105 : ¬ ((1 : Int32) < n_)) (hk_ : (((p1.toUInt32 >>> ((28 : Int32) &&& 31).toUInt32).toInt32) % n_) = k_) : k_.toInt < 1 := by
  have := rng32 p0
  have := rng32 p1
  have := rng32 n_
  have := rng32 k_
  have : (0 : Int32).toInt = 0 := by decide
  have : (1 : Int32).toInt = 1 := by decide
  have : (28 : Int32).toInt = 28 := by decide
  have : (6 : Int32).toInt = 6 := by decide
  have := c_iushr p0 (28 : Int32) 28 (by decide) (by decide)
  have := rng32 ((p0.toUInt32 >>> ((28 : Int32) &&& 31).toUInt32).toInt32)
  have := c_irem ((p0.toUInt32 >>> ((28 : Int32) &&& 31).toUInt32).toInt32) (6 : Int32) (6) (by decide)
  have := rng32 (((p0.toUInt32 >>> ((28 : Int32) &&& 31).toUInt32).toInt32) % (6 : Int32))
  have := c_iushr p1 (28 : Int32) 28 (by decide) (by decide)
  have := rng32 ((p1.toUInt32 >>> ((28 : Int32) &&& 31).toUInt32).toInt32)
  have := c_iremV ((p1.toUInt32 >>> ((28 : Int32) &&& 31).toUInt32).toInt32) n_
  have := rng32 (((p1.toUInt32 >>> ((28 : Int32) &&& 31).toUInt32).toInt32) % n_)
  try (simp only [Int32.lt_iff_toInt_lt, Int32.le_iff_toInt_le, Int64.lt_iff_toInt_lt, Int64.le_iff_toInt_le, ← Int32.toInt_inj, ← Int64.toInt_inj, ne_eq] at *)
  omega
theorem la_0_371_357 (p0 : Int32) (p1 : Int32) (n_ : Int32) (k_ : Int32) (hn_ : (((p0.toUInt32 >>> ((28 : Int32) &&& 31).toUInt32).toInt32) % (6 : Int32)) = n_) (hc162_88 : (0 : Int32) < n_) (hc191_105 : ¬ ((1 : Int32) < n_)) (hk_ : (((p1.toUInt32 >>> ((28 : Int32) &&& 31).toUInt32).toInt32) % n_) = k_) : 0 ≤ k_.toInt ∧ k_.toInt < 5 := by
  have := rng32 p0
  have := rng32 p1
  have := rng32 n_
  have := rng32 k_
  have : (0 : Int32).toInt = 0 := by decide
  have : (1 : Int32).toInt = 1 := by decide
  have : (28 : Int32).toInt = 28 := by decide
  have : (6 : Int32).toInt = 6 := by decide
  have := c_iushr p0 (28 : Int32) 28 (by decide) (by decide)
  have := rng32 ((p0.toUInt32 >>> ((28 : Int32) &&& 31).toUInt32).toInt32)
  have := c_irem ((p0.toUInt32 >>> ((28 : Int32) &&& 31).toUInt32).toInt32) (6 : Int32) (6) (by decide)
  have := rng32 (((p0.toUInt32 >>> ((28 : Int32) &&& 31).toUInt32).toInt32) % (6 : Int32))
  have := c_iushr p1 (28 : Int32) 28 (by decide) (by decide)
  have := rng32 ((p1.toUInt32 >>> ((28 : Int32) &&& 31).toUInt32).toInt32)
  have := c_iremV ((p1.toUInt32 >>> ((28 : Int32) &&& 31).toUInt32).toInt32) n_
  have := rng32 (((p1.toUInt32 >>> ((28 : Int32) &&& 31).toUInt32).toInt32) % n_)
  try (simp only [Int32.lt_iff_toInt_lt, Int32.le_iff_toInt_le, Int64.lt_iff_toInt_lt, Int64.le_iff_toInt_le, ← Int32.toInt_inj, ← Int64.toInt_inj, ne_eq] at *)
  omega
theorem ld_0_372_358 (r32 : Int32) (r37 : Int32) (r42 : Int32) (r47 : Int32) (r52 : Int32) (k_ : Int32) (r352 : Int32) (w356 : Int32) (hr352 : (k_.toInt = 0 ∧ r352 = r32)) (hw356 : (k_.toInt = 0 ∧ w356 = r32) ∨ (k_.toInt = 1 ∧ w356 = r37) ∨ (k_.toInt = 2 ∧ w356 = r42) ∨ (k_.toInt = 3 ∧ w356 = r47) ∨ (k_.toInt = 4 ∧ w356 = r52)) : r352 = w356 := by
  have := rng32 r32
  have := rng32 r37
  have := rng32 r42
  have := rng32 r47
  have := rng32 r52
  have := rng32 k_
  have := rng32 r352
  have := rng32 w356
  try (simp only [Int32.lt_iff_toInt_lt, Int32.le_iff_toInt_le, Int64.lt_iff_toInt_lt, Int64.le_iff_toInt_le, ← Int32.toInt_inj, ← Int64.toInt_inj, ne_eq] at *)
  omega
theorem ld_0_191_360 (p0 : Int32) (n_ : Int32) (hn_ : (((p0.toUInt32 >>> ((28 : Int32) &&& 31).toUInt32).toInt32) % (6 : Int32)) = n_) (hc162_88 : ¬ ((0 : Int32) < n_)) : ¬ ((1 : Int32) < n_) := by
  have := rng32 p0
  have := rng32 n_
  have : (0 : Int32).toInt = 0 := by decide
  have : (1 : Int32).toInt = 1 := by decide
  have : (28 : Int32).toInt = 28 := by decide
  have : (6 : Int32).toInt = 6 := by decide
  have := c_iushr p0 (28 : Int32) 28 (by decide) (by decide)
  have := rng32 ((p0.toUInt32 >>> ((28 : Int32) &&& 31).toUInt32).toInt32)
  have := c_irem ((p0.toUInt32 >>> ((28 : Int32) &&& 31).toUInt32).toInt32) (6 : Int32) (6) (by decide)
  have := rng32 (((p0.toUInt32 >>> ((28 : Int32) &&& 31).toUInt32).toInt32) % (6 : Int32))
  try (simp only [Int32.lt_iff_toInt_lt, Int32.le_iff_toInt_le, Int64.lt_iff_toInt_lt, Int64.le_iff_toInt_le, ← Int32.toInt_inj, ← Int64.toInt_inj, ne_eq] at *)
  omega
theorem ld_0_220_362 (p0 : Int32) (n_ : Int32) (hn_ : (((p0.toUInt32 >>> ((28 : Int32) &&& 31).toUInt32).toInt32) % (6 : Int32)) = n_) (hc162_88 : ¬ ((0 : Int32) < n_)) : ¬ ((2 : Int32) < n_) := by
  have := rng32 p0
  have := rng32 n_
  have : (0 : Int32).toInt = 0 := by decide
  have : (2 : Int32).toInt = 2 := by decide
  have : (28 : Int32).toInt = 28 := by decide
  have : (6 : Int32).toInt = 6 := by decide
  have := c_iushr p0 (28 : Int32) 28 (by decide) (by decide)
  have := rng32 ((p0.toUInt32 >>> ((28 : Int32) &&& 31).toUInt32).toInt32)
  have := c_irem ((p0.toUInt32 >>> ((28 : Int32) &&& 31).toUInt32).toInt32) (6 : Int32) (6) (by decide)
  have := rng32 (((p0.toUInt32 >>> ((28 : Int32) &&& 31).toUInt32).toInt32) % (6 : Int32))
  try (simp only [Int32.lt_iff_toInt_lt, Int32.le_iff_toInt_le, Int64.lt_iff_toInt_lt, Int64.le_iff_toInt_le, ← Int32.toInt_inj, ← Int64.toInt_inj, ne_eq] at *)
  omega
theorem ld_0_249_364 (p0 : Int32) (n_ : Int32) (hn_ : (((p0.toUInt32 >>> ((28 : Int32) &&& 31).toUInt32).toInt32) % (6 : Int32)) = n_) (hc162_88 : ¬ ((0 : Int32) < n_)) : ¬ ((3 : Int32) < n_) := by
  have := rng32 p0
  have := rng32 n_
  have : (0 : Int32).toInt = 0 := by decide
  have : (28 : Int32).toInt = 28 := by decide
  have : (3 : Int32).toInt = 3 := by decide
  have : (6 : Int32).toInt = 6 := by decide
  have := c_iushr p0 (28 : Int32) 28 (by decide) (by decide)
  have := rng32 ((p0.toUInt32 >>> ((28 : Int32) &&& 31).toUInt32).toInt32)
  have := c_irem ((p0.toUInt32 >>> ((28 : Int32) &&& 31).toUInt32).toInt32) (6 : Int32) (6) (by decide)
  have := rng32 (((p0.toUInt32 >>> ((28 : Int32) &&& 31).toUInt32).toInt32) % (6 : Int32))
  try (simp only [Int32.lt_iff_toInt_lt, Int32.le_iff_toInt_le, Int64.lt_iff_toInt_lt, Int64.le_iff_toInt_le, ← Int32.toInt_inj, ← Int64.toInt_inj, ne_eq] at *)
  omega
theorem ld_0_278_366 (p0 : Int32) (n_ : Int32) (hn_ : (((p0.toUInt32 >>> ((28 : Int32) &&& 31).toUInt32).toInt32) % (6 : Int32)) = n_) (hc162_88 : ¬ ((0 : Int32) < n_)) : ¬ ((4 : Int32) < n_) := by
  have := rng32 p0
  have := rng32 n_
  have : (0 : Int32).toInt = 0 := by decide
  have : (28 : Int32).toInt = 28 := by decide
  have : (4 : Int32).toInt = 4 := by decide
  have : (6 : Int32).toInt = 6 := by decide
  have := c_iushr p0 (28 : Int32) 28 (by decide) (by decide)
  have := rng32 ((p0.toUInt32 >>> ((28 : Int32) &&& 31).toUInt32).toInt32)
  have := c_irem ((p0.toUInt32 >>> ((28 : Int32) &&& 31).toUInt32).toInt32) (6 : Int32) (6) (by decide)
  have := rng32 (((p0.toUInt32 >>> ((28 : Int32) &&& 31).toUInt32).toInt32) % (6 : Int32))
  try (simp only [Int32.lt_iff_toInt_lt, Int32.le_iff_toInt_le, Int64.lt_iff_toInt_lt, Int64.le_iff_toInt_le, ← Int32.toInt_inj, ← Int64.toInt_inj, ne_eq] at *)
  omega
theorem ld_0_311_370 (p0 : Int32) (n_ : Int32) (r368 : Int32) (hn_ : (((p0.toUInt32 >>> ((28 : Int32) &&& 31).toUInt32).toInt32) % (6 : Int32)) = n_) (hc162_88 : ¬ ((0 : Int32) < n_)) (hr368 : (r368 = (0 : Int32))) : r368 = n_ := by
  have := rng32 p0
  have := rng32 n_
  have := rng32 r368
  have : (0 : Int32).toInt = 0 := by decide
  have : (28 : Int32).toInt = 28 := by decide
  have : (6 : Int32).toInt = 6 := by decide
  have := c_iushr p0 (28 : Int32) 28 (by decide) (by decide)
  have := rng32 ((p0.toUInt32 >>> ((28 : Int32) &&& 31).toUInt32).toInt32)
  have := c_irem ((p0.toUInt32 >>> ((28 : Int32) &&& 31).toUInt32).toInt32) (6 : Int32) (6) (by decide)
  have := rng32 (((p0.toUInt32 >>> ((28 : Int32) &&& 31).toUInt32).toInt32) % (6 : Int32))
  try (simp only [Int32.lt_iff_toInt_lt, Int32.le_iff_toInt_le, Int64.lt_iff_toInt_lt, Int64.le_iff_toInt_le, ← Int32.toInt_inj, ← Int64.toInt_inj, ne_eq] at *)
  omega
theorem ld_0_324_373 (r372 : Int64) (hr372 : (r372 = (0 : Int64))) : r372 = (0 : Int64) := by
  exact hr372
theorem ld_0_331_375 (p0 : Int32) (n_ : Int32) (hn_ : (((p0.toUInt32 >>> ((28 : Int32) &&& 31).toUInt32).toInt32) % (6 : Int32)) = n_) (hc162_88 : ¬ ((0 : Int32) < n_)) : n_ = (0 : Int32) := by
  have := rng32 p0
  have := rng32 n_
  have : (0 : Int32).toInt = 0 := by decide
  have : (28 : Int32).toInt = 28 := by decide
  have : (6 : Int32).toInt = 6 := by decide
  have := c_iushr p0 (28 : Int32) 28 (by decide) (by decide)
  have := rng32 ((p0.toUInt32 >>> ((28 : Int32) &&& 31).toUInt32).toInt32)
  have := c_irem ((p0.toUInt32 >>> ((28 : Int32) &&& 31).toUInt32).toInt32) (6 : Int32) (6) (by decide)
  have := rng32 (((p0.toUInt32 >>> ((28 : Int32) &&& 31).toUInt32).toInt32) % (6 : Int32))
  try (simp only [Int32.lt_iff_toInt_lt, Int32.le_iff_toInt_le, Int64.lt_iff_toInt_lt, Int64.le_iff_toInt_le, ← Int32.toInt_inj, ← Int64.toInt_inj, ne_eq] at *)
  omega
set_option maxRecDepth 65536 in
set_option maxHeartbeats 40000000 in
theorem rm0 (l : Launch) (Z : State) (a0 : Array Value) (hw : ∀ d ∈ tables_1, d.before a0 Z = true) (ws : List Jvm.Cond) (p0 : Int32) (p1 : Int32) (p2 : Int32) (p3 : Int32) (p4 : Int32) (q5 : Int64) (h0 : Heap) (n0 : Nat) (Z0 : n0 ≤ h0.size) :
    MetFree l x (head1 (Jvm.Cond.code x code maxLocals ret :: ws) room_1) (fun a U => a = #[(.int p0), (.int p1), (.int p2), (.int p3), (.int p4), (.long q5)] ∧ Z.Warmed39 U.vm ∧ U.heap = h0) (fun _ _ _ _ _ => True) (fun _ U o U' => ∃ v L, o = .returned v ∧ Q0 Z p0 p1 p2 p3 p4 q5 h0 n0 v U'.heap L ∧ FrameEnd U o U' L 32 192) := by
  refine MetFree.of_bodySF (plainFor_of_name (by first | (simp [plainName, overriddenIn]; done) | decide +kernel)) hisR ?_
  intro p e s m args below meth c s₁ Bd hml0 hP hK
  obtain ⟨rfl, hZ, hh⟩ := hP
  have hx := Bd.exec
  have hby := Bd.bytes
  have hml : c.maxLocals = 14 := hml0
  have hown : s.vm.findClass "com/example/robust_broker/robustbroker/PostingsAddPinLaw" = some m.cls := findClass_of_methodNamed Bd.named
  have hnm := (name_of_methodNamed Bd.named Bd.method).1
  have hlk := BodyLoose.notSynchronized Bd
  have X0 : Stand p l e room_1 s m #[(.int p0), (.int p1), (.int p2), (.int p3), (.int p4), (.long q5)] below meth c s₁ [] 0 0 := Stand.of_body Bd
  have e0 : s₁.heap = h0 := by rw [← hh, Bd.state]; rfl
  have N0 := Fr.nil n0
  show Go p e below s (Q0 Z p0 p1 p2 p3 p4 q5 h0 n0) 32 192 (s₁.setTop (entryFrame m #[(.int p0), (.int p1), (.int p2), (.int p3), (.int p4), (.long q5)] maxLocals))
  rw [ef_0]
  show Go _ _ _ _ _ _ _ (s₁.setTop (mkF m 0 #[.val (.int p0), .val (.int p1), .val (.int p2), .val (.int p3), .val (.int p4), .val (.long q5), .second, .unset, .unset, .unset, .unset, .unset, .unset, .unset] []))
  refine gob (fun _ k => XS.iloadN X0.here hx rfl (hb hby at_0) rfl k) ?_
  show Go _ _ _ _ _ _ _ (s₁.setTop (mkF m 1 #[.val (.int p0), .val (.int p1), .val (.int p2), .val (.int p3), .val (.int p4), .val (.long q5), .second, .unset, .unset, .unset, .unset, .unset, .unset, .unset] [(.int p0)]))
  refine gob (fun _ k => XS.bipush X0.here hx rfl (hb hby at_1) k) ?_
  show Go _ _ _ _ _ _ _ (s₁.setTop (mkF m 3 #[.val (.int p0), .val (.int p1), .val (.int p2), .val (.int p3), .val (.int p4), .val (.long q5), .second, .unset, .unset, .unset, .unset, .unset, .unset, .unset] [(.int (28 : Int32)), (.int p0)]))
  refine gob (fun _ k => XS.iushr X0.here hx rfl (hb hby at_3) rfl k) ?_
  show Go _ _ _ _ _ _ _ (s₁.setTop (mkF m 4 #[.val (.int p0), .val (.int p1), .val (.int p2), .val (.int p3), .val (.int p4), .val (.long q5), .second, .unset, .unset, .unset, .unset, .unset, .unset, .unset] [(.int ((p0.toUInt32 >>> ((28 : Int32) &&& 31).toUInt32).toInt32))]))
  refine gob (fun _ k => XS.bipush X0.here hx rfl (hb hby at_4) k) ?_
  show Go _ _ _ _ _ _ _ (s₁.setTop (mkF m 6 #[.val (.int p0), .val (.int p1), .val (.int p2), .val (.int p3), .val (.int p4), .val (.long q5), .second, .unset, .unset, .unset, .unset, .unset, .unset, .unset] [(.int (6 : Int32)), (.int ((p0.toUInt32 >>> ((28 : Int32) &&& 31).toUInt32).toInt32))]))
  refine gob (fun _ k => iremM X0 hx rfl (hb hby at_6) rfl (by decide) k) ?_
  show Go _ _ _ _ _ _ _ (s₁.setTop (mkF m 7 #[.val (.int p0), .val (.int p1), .val (.int p2), .val (.int p3), .val (.int p4), .val (.long q5), .second, .unset, .unset, .unset, .unset, .unset, .unset, .unset] [(.int (((p0.toUInt32 >>> ((28 : Int32) &&& 31).toUInt32).toInt32) % (6 : Int32)))]))
  refine gob (fun _ k => XS.istore X0.here hx rfl (hb hby at_7) rfl (l' := #[.val (.int p0), .val (.int p1), .val (.int p2), .val (.int p3), .val (.int p4), .val (.long q5), .second, .val (.int (((p0.toUInt32 >>> ((28 : Int32) &&& 31).toUInt32).toInt32) % (6 : Int32))), .unset, .unset, .unset, .unset, .unset, .unset]) rfl k) ?_
  show Go _ _ _ _ _ _ _ (s₁.setTop (mkF m 9 #[.val (.int p0), .val (.int p1), .val (.int p2), .val (.int p3), .val (.int p4), .val (.long q5), .second, .val (.int (((p0.toUInt32 >>> ((28 : Int32) &&& 31).toUInt32).toInt32) % (6 : Int32))), .unset, .unset, .unset, .unset, .unset, .unset] []))
  generalize hn_ : (((p0.toUInt32 >>> ((28 : Int32) &&& 31).toUInt32).toInt32) % (6 : Int32)) = n_
  show Go _ _ _ _ _ _ _ (s₁.setTop (mkF m 9 #[.val (.int p0), .val (.int p1), .val (.int p2), .val (.int p3), .val (.int p4), .val (.long q5), .second, .val (.int n_), .unset, .unset, .unset, .unset, .unset, .unset] []))
  refine gob (fun _ k => XS.iconst X0.here hx rfl (hb hby at_9) k) ?_
  show Go _ _ _ _ _ _ _ (s₁.setTop (mkF m 10 #[.val (.int p0), .val (.int p1), .val (.int p2), .val (.int p3), .val (.int p4), .val (.long q5), .second, .val (.int n_), .unset, .unset, .unset, .unset, .unset, .unset] [(.int (5 : Int32))]))
  obtain ⟨T1, h1, k1, X1, e1, E1, A1, st1⟩ := newP X0 hx hZ (hw _ (List.mem_of_getElem? (i := 0) rfl)) e0 (g := (mkF m 10 #[.val (.int p0), .val (.int p1), .val (.int p2), .val (.int p3), .val (.int p4), .val (.long q5), .second, .val (.int n_), .unset, .unset, .unset, .unset, .unset, .unset] [(.int (5 : Int32))])) rfl (hb hby at_10) rfl (by decide) (cap := 5) (by decide) (by decide) (by decide) (by decide)
  obtain ⟨b1, g1⟩ : ∃ z, z = h0.size := ⟨_, rfl⟩
  rw [← g1] at A1 st1
  have g2 : n0 ≤ b1 := Nat.le_trans Z0 (Nat.le_of_eq g1.symm)
  have z3 : n0 ≤ h1.size := Nat.le_trans Z0 E1.1
  have V1 : Arv Z h1 b1 k1 .int (5 : Int32) [(.int (0 : Int32)), (.int (0 : Int32)), (.int (0 : Int32)), (.int (0 : Int32)), (.int (0 : Int32))] (.int (0 : Int32)) := (Arv.new A1 (by decide)).pad (pad_rep [] (.int (0 : Int32)) 5)
  refine gob st1 ?_
  replace X1 := castX X1 (rfl : _ = 1) (rfl : _ = 5)
  show Go _ _ _ _ _ _ _ (T1.setTop (mkF m 12 #[.val (.int p0), .val (.int p1), .val (.int p2), .val (.int p3), .val (.int p4), .val (.long q5), .second, .val (.int n_), .unset, .unset, .unset, .unset, .unset, .unset] [(.ref b1)]))
  refine gob (fun _ k => XS.astore X1.here hx rfl (hb hby at_12) rfl rfl (l' := #[.val (.int p0), .val (.int p1), .val (.int p2), .val (.int p3), .val (.int p4), .val (.long q5), .second, .val (.int n_), .val (.ref b1), .unset, .unset, .unset, .unset, .unset]) rfl k) ?_
  show Go _ _ _ _ _ _ _ (T1.setTop (mkF m 14 #[.val (.int p0), .val (.int p1), .val (.int p2), .val (.int p3), .val (.int p4), .val (.long q5), .second, .val (.int n_), .val (.ref b1), .unset, .unset, .unset, .unset, .unset] []))
  refine gob (fun _ k => XS.aload X1.here hx rfl (hb hby at_14) rfl rfl k) ?_
  show Go _ _ _ _ _ _ _ (T1.setTop (mkF m 16 #[.val (.int p0), .val (.int p1), .val (.int p2), .val (.int p3), .val (.int p4), .val (.long q5), .second, .val (.int n_), .val (.ref b1), .unset, .unset, .unset, .unset, .unset] [(.ref b1)]))
  refine gob (fun _ k => XS.iconst X1.here hx rfl (hb hby at_16) k) ?_
  show Go _ _ _ _ _ _ _ (T1.setTop (mkF m 17 #[.val (.int p0), .val (.int p1), .val (.int p2), .val (.int p3), .val (.int p4), .val (.long q5), .second, .val (.int n_), .val (.ref b1), .unset, .unset, .unset, .unset, .unset] [(.int (0 : Int32)), (.ref b1)]))
  refine gob (fun _ k => XS.iloadN X1.here hx rfl (hb hby at_17) rfl k) ?_
  show Go _ _ _ _ _ _ _ (T1.setTop (mkF m 18 #[.val (.int p0), .val (.int p1), .val (.int p2), .val (.int p3), .val (.int p4), .val (.long q5), .second, .val (.int n_), .val (.ref b1), .unset, .unset, .unset, .unset, .unset] [(.int p0), (.int (0 : Int32)), (.ref b1)]))
  refine gob (X1.ldcInt hx hown (mvT hZ (hw _ (List.mem_of_getElem? (i := 1) rfl))) (g := (mkF m 18 #[.val (.int p0), .val (.int p1), .val (.int p2), .val (.int p3), .val (.int p4), .val (.long q5), .second, .val (.int n_), .val (.ref b1), .unset, .unset, .unset, .unset, .unset] [(.int p0), (.int (0 : Int32)), (.ref b1)])) rfl (hb hby at_18)) ?_
  show Go _ _ _ _ _ _ _ (T1.setTop (mkF m 20 #[.val (.int p0), .val (.int p1), .val (.int p2), .val (.int p3), .val (.int p4), .val (.long q5), .second, .val (.int n_), .val (.ref b1), .unset, .unset, .unset, .unset, .unset] [(.int (268435455 : Int32)), (.int p0), (.int (0 : Int32)), (.ref b1)]))
  refine gob (fun _ k => XS.iand X1.here hx rfl (hb hby at_20) rfl k) ?_
  show Go _ _ _ _ _ _ _ (T1.setTop (mkF m 21 #[.val (.int p0), .val (.int p1), .val (.int p2), .val (.int p3), .val (.int p4), .val (.long q5), .second, .val (.int n_), .val (.ref b1), .unset, .unset, .unset, .unset, .unset] [(.int (p0 &&& (268435455 : Int32))), (.int (0 : Int32)), (.ref b1)]))
  generalize hx4 : (p0 &&& (268435455 : Int32)) = x4
  show Go _ _ _ _ _ _ _ (T1.setTop (mkF m 21 #[.val (.int p0), .val (.int p1), .val (.int p2), .val (.int p3), .val (.int p4), .val (.long q5), .second, .val (.int n_), .val (.ref b1), .unset, .unset, .unset, .unset, .unset] [(.int x4), (.int (0 : Int32)), (.ref b1)]))
  obtain ⟨cl5, Ar5, aq5, S5, N5, H5, G5⟩ := id V1
  have hin5 : ¬ ((0 : Int32) < 0 ∨ cl5.slots.size ≤ ((0 : Int32)).toNatClampNeg) := inb_of S5 ⟨by decide, by decide⟩
  obtain ⟨T6, h6, X6, e6, W6, st6⟩ := stI X1 hx hZ e1 Ar5 (j := (0 : Int32)) hin5 (g := (mkF m 21 #[.val (.int p0), .val (.int p1), .val (.int p2), .val (.int p3), .val (.int p4), .val (.long q5), .second, .val (.int n_), .val (.ref b1), .unset, .unset, .unset, .unset, .unset] [(.int x4), (.int (0 : Int32)), (.ref b1)])) rfl rfl (hb hby at_21)
  refine gob st6 ?_
  have z7 : n0 ≤ h6.size := Nat.le_trans z3 (Keep.of_wr W6).1
  have N6 := Fr.snoc X6 N0 g2
  have V6 : Arv Z h6 b1 k1 .int (5 : Int32) [(.int x4), (.int (0 : Int32)), (.int (0 : Int32)), (.int (0 : Int32)), (.int (0 : Int32))] (.int (0 : Int32)) := Arv.set Ar5 aq5 S5 N5 H5 G5 rfl W6 0 rfl (Nat.le_of_ble_eq_true rfl)
  show Go _ _ _ _ _ _ _ (T6.setTop (mkF m 22 #[.val (.int p0), .val (.int p1), .val (.int p2), .val (.int p3), .val (.int p4), .val (.long q5), .second, .val (.int n_), .val (.ref b1), .unset, .unset, .unset, .unset, .unset] []))
  refine gob (fun _ k => XS.aload X6.here hx rfl (hb hby at_22) rfl rfl k) ?_
  show Go _ _ _ _ _ _ _ (T6.setTop (mkF m 24 #[.val (.int p0), .val (.int p1), .val (.int p2), .val (.int p3), .val (.int p4), .val (.long q5), .second, .val (.int n_), .val (.ref b1), .unset, .unset, .unset, .unset, .unset] [(.ref b1)]))
  refine gob (fun _ k => XS.iconst X6.here hx rfl (hb hby at_24) k) ?_
  show Go _ _ _ _ _ _ _ (T6.setTop (mkF m 25 #[.val (.int p0), .val (.int p1), .val (.int p2), .val (.int p3), .val (.int p4), .val (.long q5), .second, .val (.int n_), .val (.ref b1), .unset, .unset, .unset, .unset, .unset] [(.int (1 : Int32)), (.ref b1)]))
  refine gob (fun _ k => XS.aload X6.here hx rfl (hb hby at_25) rfl rfl k) ?_
  show Go _ _ _ _ _ _ _ (T6.setTop (mkF m 27 #[.val (.int p0), .val (.int p1), .val (.int p2), .val (.int p3), .val (.int p4), .val (.long q5), .second, .val (.int n_), .val (.ref b1), .unset, .unset, .unset, .unset, .unset] [(.ref b1), (.int (1 : Int32)), (.ref b1)]))
  refine gob (fun _ k => XS.iconst X6.here hx rfl (hb hby at_27) k) ?_
  show Go _ _ _ _ _ _ _ (T6.setTop (mkF m 28 #[.val (.int p0), .val (.int p1), .val (.int p2), .val (.int p3), .val (.int p4), .val (.long q5), .second, .val (.int n_), .val (.ref b1), .unset, .unset, .unset, .unset, .unset] [(.int (0 : Int32)), (.ref b1), (.int (1 : Int32)), (.ref b1)]))
  obtain ⟨cl8, Ar8, aq8, S8, N8, H8, G8⟩ := id V6
  have hin8 : ¬ ((0 : Int32) < 0 ∨ cl8.slots.size ≤ ((0 : Int32)).toNatClampNeg) := inb_of S8 ⟨by decide, by decide⟩
  refine gob (X6.iaload hx (j := (0 : Int32)) (v := (.int x4)) (by rw [e6]; exact Ar8.1) (State.isArrayOf_alike hZ.alike Ar8.2.1) Ar8.2.2 hin8 (Has.at H8 hin8 rfl) (g := (mkF m 28 #[.val (.int p0), .val (.int p1), .val (.int p2), .val (.int p3), .val (.int p4), .val (.long q5), .second, .val (.int n_), .val (.ref b1), .unset, .unset, .unset, .unset, .unset] [(.int (0 : Int32)), (.ref b1), (.int (1 : Int32)), (.ref b1)])) rfl rfl (hb hby at_28)) ?_
  show Go _ _ _ _ _ _ _ (T6.setTop (mkF m 29 #[.val (.int p0), .val (.int p1), .val (.int p2), .val (.int p3), .val (.int p4), .val (.long q5), .second, .val (.int n_), .val (.ref b1), .unset, .unset, .unset, .unset, .unset] [(.int x4), (.int (1 : Int32)), (.ref b1)]))
  refine gob (fun _ k => XS.iconst X6.here hx rfl (hb hby at_29) k) ?_
  show Go _ _ _ _ _ _ _ (T6.setTop (mkF m 30 #[.val (.int p0), .val (.int p1), .val (.int p2), .val (.int p3), .val (.int p4), .val (.long q5), .second, .val (.int n_), .val (.ref b1), .unset, .unset, .unset, .unset, .unset] [(.int (1 : Int32)), (.int x4), (.int (1 : Int32)), (.ref b1)]))
  refine gob (fun _ k => XS.iadd X6.here hx rfl (hb hby at_30) rfl k) ?_
  show Go _ _ _ _ _ _ _ (T6.setTop (mkF m 31 #[.val (.int p0), .val (.int p1), .val (.int p2), .val (.int p3), .val (.int p4), .val (.long q5), .second, .val (.int n_), .val (.ref b1), .unset, .unset, .unset, .unset, .unset] [(.int (x4 + (1 : Int32))), (.int (1 : Int32)), (.ref b1)]))
  refine gob (fun _ k => XS.iloadN X6.here hx rfl (hb hby at_31) rfl k) ?_
  show Go _ _ _ _ _ _ _ (T6.setTop (mkF m 32 #[.val (.int p0), .val (.int p1), .val (.int p2), .val (.int p3), .val (.int p4), .val (.long q5), .second, .val (.int n_), .val (.ref b1), .unset, .unset, .unset, .unset, .unset] [(.int p1), (.int (x4 + (1 : Int32))), (.int (1 : Int32)), (.ref b1)]))
  refine gob (fun _ k => XS.bipush X6.here hx rfl (hb hby at_32) k) ?_
  show Go _ _ _ _ _ _ _ (T6.setTop (mkF m 34 #[.val (.int p0), .val (.int p1), .val (.int p2), .val (.int p3), .val (.int p4), .val (.long q5), .second, .val (.int n_), .val (.ref b1), .unset, .unset, .unset, .unset, .unset] [(.int (127 : Int32)), (.int p1), (.int (x4 + (1 : Int32))), (.int (1 : Int32)), (.ref b1)]))
  refine gob (fun _ k => XS.iand X6.here hx rfl (hb hby at_34) rfl k) ?_
  show Go _ _ _ _ _ _ _ (T6.setTop (mkF m 35 #[.val (.int p0), .val (.int p1), .val (.int p2), .val (.int p3), .val (.int p4), .val (.long q5), .second, .val (.int n_), .val (.ref b1), .unset, .unset, .unset, .unset, .unset] [(.int (p1 &&& (127 : Int32))), (.int (x4 + (1 : Int32))), (.int (1 : Int32)), (.ref b1)]))
  refine gob (fun _ k => XS.iadd X6.here hx rfl (hb hby at_35) rfl k) ?_
  show Go _ _ _ _ _ _ _ (T6.setTop (mkF m 36 #[.val (.int p0), .val (.int p1), .val (.int p2), .val (.int p3), .val (.int p4), .val (.long q5), .second, .val (.int n_), .val (.ref b1), .unset, .unset, .unset, .unset, .unset] [(.int ((x4 + (1 : Int32)) + (p1 &&& (127 : Int32)))), (.int (1 : Int32)), (.ref b1)]))
  generalize hx9 : ((x4 + (1 : Int32)) + (p1 &&& (127 : Int32))) = x9
  show Go _ _ _ _ _ _ _ (T6.setTop (mkF m 36 #[.val (.int p0), .val (.int p1), .val (.int p2), .val (.int p3), .val (.int p4), .val (.long q5), .second, .val (.int n_), .val (.ref b1), .unset, .unset, .unset, .unset, .unset] [(.int x9), (.int (1 : Int32)), (.ref b1)]))
  obtain ⟨cl10, Ar10, aq10, S10, N10, H10, G10⟩ := id V6
  have hin10 : ¬ ((1 : Int32) < 0 ∨ cl10.slots.size ≤ ((1 : Int32)).toNatClampNeg) := inb_of S10 ⟨by decide, by decide⟩
  obtain ⟨T11, h11, X11, e11, W11, st11⟩ := stI X6 hx hZ e6 Ar10 (j := (1 : Int32)) hin10 (g := (mkF m 36 #[.val (.int p0), .val (.int p1), .val (.int p2), .val (.int p3), .val (.int p4), .val (.long q5), .second, .val (.int n_), .val (.ref b1), .unset, .unset, .unset, .unset, .unset] [(.int x9), (.int (1 : Int32)), (.ref b1)])) rfl rfl (hb hby at_36)
  refine gob st11 ?_
  have z12 : n0 ≤ h11.size := Nat.le_trans z7 (Keep.of_wr W11).1
  have N11 := Fr.snoc X11 N6 g2
  have V11 : Arv Z h11 b1 k1 .int (5 : Int32) [(.int x4), (.int x9), (.int (0 : Int32)), (.int (0 : Int32)), (.int (0 : Int32))] (.int (0 : Int32)) := Arv.set Ar10 aq10 S10 N10 H10 G10 rfl W11 1 rfl (Nat.le_of_ble_eq_true rfl)
  show Go _ _ _ _ _ _ _ (T11.setTop (mkF m 37 #[.val (.int p0), .val (.int p1), .val (.int p2), .val (.int p3), .val (.int p4), .val (.long q5), .second, .val (.int n_), .val (.ref b1), .unset, .unset, .unset, .unset, .unset] []))
  refine gob (fun _ k => XS.aload X11.here hx rfl (hb hby at_37) rfl rfl k) ?_
  show Go _ _ _ _ _ _ _ (T11.setTop (mkF m 39 #[.val (.int p0), .val (.int p1), .val (.int p2), .val (.int p3), .val (.int p4), .val (.long q5), .second, .val (.int n_), .val (.ref b1), .unset, .unset, .unset, .unset, .unset] [(.ref b1)]))
  refine gob (fun _ k => XS.iconst X11.here hx rfl (hb hby at_39) k) ?_
  show Go _ _ _ _ _ _ _ (T11.setTop (mkF m 40 #[.val (.int p0), .val (.int p1), .val (.int p2), .val (.int p3), .val (.int p4), .val (.long q5), .second, .val (.int n_), .val (.ref b1), .unset, .unset, .unset, .unset, .unset] [(.int (2 : Int32)), (.ref b1)]))
  refine gob (fun _ k => XS.aload X11.here hx rfl (hb hby at_40) rfl rfl k) ?_
  show Go _ _ _ _ _ _ _ (T11.setTop (mkF m 42 #[.val (.int p0), .val (.int p1), .val (.int p2), .val (.int p3), .val (.int p4), .val (.long q5), .second, .val (.int n_), .val (.ref b1), .unset, .unset, .unset, .unset, .unset] [(.ref b1), (.int (2 : Int32)), (.ref b1)]))
  refine gob (fun _ k => XS.iconst X11.here hx rfl (hb hby at_42) k) ?_
  show Go _ _ _ _ _ _ _ (T11.setTop (mkF m 43 #[.val (.int p0), .val (.int p1), .val (.int p2), .val (.int p3), .val (.int p4), .val (.long q5), .second, .val (.int n_), .val (.ref b1), .unset, .unset, .unset, .unset, .unset] [(.int (1 : Int32)), (.ref b1), (.int (2 : Int32)), (.ref b1)]))
  obtain ⟨cl13, Ar13, aq13, S13, N13, H13, G13⟩ := id V11
  have hin13 : ¬ ((1 : Int32) < 0 ∨ cl13.slots.size ≤ ((1 : Int32)).toNatClampNeg) := inb_of S13 ⟨by decide, by decide⟩
  refine gob (X11.iaload hx (j := (1 : Int32)) (v := (.int x9)) (by rw [e11]; exact Ar13.1) (State.isArrayOf_alike hZ.alike Ar13.2.1) Ar13.2.2 hin13 (Has.at H13 hin13 rfl) (g := (mkF m 43 #[.val (.int p0), .val (.int p1), .val (.int p2), .val (.int p3), .val (.int p4), .val (.long q5), .second, .val (.int n_), .val (.ref b1), .unset, .unset, .unset, .unset, .unset] [(.int (1 : Int32)), (.ref b1), (.int (2 : Int32)), (.ref b1)])) rfl rfl (hb hby at_43)) ?_
  show Go _ _ _ _ _ _ _ (T11.setTop (mkF m 44 #[.val (.int p0), .val (.int p1), .val (.int p2), .val (.int p3), .val (.int p4), .val (.long q5), .second, .val (.int n_), .val (.ref b1), .unset, .unset, .unset, .unset, .unset] [(.int x9), (.int (2 : Int32)), (.ref b1)]))
  refine gob (fun _ k => XS.iconst X11.here hx rfl (hb hby at_44) k) ?_
  show Go _ _ _ _ _ _ _ (T11.setTop (mkF m 45 #[.val (.int p0), .val (.int p1), .val (.int p2), .val (.int p3), .val (.int p4), .val (.long q5), .second, .val (.int n_), .val (.ref b1), .unset, .unset, .unset, .unset, .unset] [(.int (1 : Int32)), (.int x9), (.int (2 : Int32)), (.ref b1)]))
  refine gob (fun _ k => XS.iadd X11.here hx rfl (hb hby at_45) rfl k) ?_
  show Go _ _ _ _ _ _ _ (T11.setTop (mkF m 46 #[.val (.int p0), .val (.int p1), .val (.int p2), .val (.int p3), .val (.int p4), .val (.long q5), .second, .val (.int n_), .val (.ref b1), .unset, .unset, .unset, .unset, .unset] [(.int (x9 + (1 : Int32))), (.int (2 : Int32)), (.ref b1)]))
  refine gob (fun _ k => XS.iloadN X11.here hx rfl (hb hby at_46) rfl k) ?_
  show Go _ _ _ _ _ _ _ (T11.setTop (mkF m 47 #[.val (.int p0), .val (.int p1), .val (.int p2), .val (.int p3), .val (.int p4), .val (.long q5), .second, .val (.int n_), .val (.ref b1), .unset, .unset, .unset, .unset, .unset] [(.int p1), (.int (x9 + (1 : Int32))), (.int (2 : Int32)), (.ref b1)]))
  refine gob (fun _ k => XS.bipush X11.here hx rfl (hb hby at_47) k) ?_
  show Go _ _ _ _ _ _ _ (T11.setTop (mkF m 49 #[.val (.int p0), .val (.int p1), .val (.int p2), .val (.int p3), .val (.int p4), .val (.long q5), .second, .val (.int n_), .val (.ref b1), .unset, .unset, .unset, .unset, .unset] [(.int (7 : Int32)), (.int p1), (.int (x9 + (1 : Int32))), (.int (2 : Int32)), (.ref b1)]))
  refine gob (fun _ k => XS.iushr X11.here hx rfl (hb hby at_49) rfl k) ?_
  show Go _ _ _ _ _ _ _ (T11.setTop (mkF m 50 #[.val (.int p0), .val (.int p1), .val (.int p2), .val (.int p3), .val (.int p4), .val (.long q5), .second, .val (.int n_), .val (.ref b1), .unset, .unset, .unset, .unset, .unset] [(.int ((p1.toUInt32 >>> ((7 : Int32) &&& 31).toUInt32).toInt32)), (.int (x9 + (1 : Int32))), (.int (2 : Int32)), (.ref b1)]))
  refine gob (fun _ k => XS.bipush X11.here hx rfl (hb hby at_50) k) ?_
  show Go _ _ _ _ _ _ _ (T11.setTop (mkF m 52 #[.val (.int p0), .val (.int p1), .val (.int p2), .val (.int p3), .val (.int p4), .val (.long q5), .second, .val (.int n_), .val (.ref b1), .unset, .unset, .unset, .unset, .unset] [(.int (127 : Int32)), (.int ((p1.toUInt32 >>> ((7 : Int32) &&& 31).toUInt32).toInt32)), (.int (x9 + (1 : Int32))), (.int (2 : Int32)), (.ref b1)]))
  refine gob (fun _ k => XS.iand X11.here hx rfl (hb hby at_52) rfl k) ?_
  show Go _ _ _ _ _ _ _ (T11.setTop (mkF m 53 #[.val (.int p0), .val (.int p1), .val (.int p2), .val (.int p3), .val (.int p4), .val (.long q5), .second, .val (.int n_), .val (.ref b1), .unset, .unset, .unset, .unset, .unset] [(.int (((p1.toUInt32 >>> ((7 : Int32) &&& 31).toUInt32).toInt32) &&& (127 : Int32))), (.int (x9 + (1 : Int32))), (.int (2 : Int32)), (.ref b1)]))
  refine gob (fun _ k => XS.iadd X11.here hx rfl (hb hby at_53) rfl k) ?_
  show Go _ _ _ _ _ _ _ (T11.setTop (mkF m 54 #[.val (.int p0), .val (.int p1), .val (.int p2), .val (.int p3), .val (.int p4), .val (.long q5), .second, .val (.int n_), .val (.ref b1), .unset, .unset, .unset, .unset, .unset] [(.int ((x9 + (1 : Int32)) + (((p1.toUInt32 >>> ((7 : Int32) &&& 31).toUInt32).toInt32) &&& (127 : Int32)))), (.int (2 : Int32)), (.ref b1)]))
  generalize hx14 : ((x9 + (1 : Int32)) + (((p1.toUInt32 >>> ((7 : Int32) &&& 31).toUInt32).toInt32) &&& (127 : Int32))) = x14
  show Go _ _ _ _ _ _ _ (T11.setTop (mkF m 54 #[.val (.int p0), .val (.int p1), .val (.int p2), .val (.int p3), .val (.int p4), .val (.long q5), .second, .val (.int n_), .val (.ref b1), .unset, .unset, .unset, .unset, .unset] [(.int x14), (.int (2 : Int32)), (.ref b1)]))
  obtain ⟨cl15, Ar15, aq15, S15, N15, H15, G15⟩ := id V11
  have hin15 : ¬ ((2 : Int32) < 0 ∨ cl15.slots.size ≤ ((2 : Int32)).toNatClampNeg) := inb_of S15 ⟨by decide, by decide⟩
  obtain ⟨T16, h16, X16, e16, W16, st16⟩ := stI X11 hx hZ e11 Ar15 (j := (2 : Int32)) hin15 (g := (mkF m 54 #[.val (.int p0), .val (.int p1), .val (.int p2), .val (.int p3), .val (.int p4), .val (.long q5), .second, .val (.int n_), .val (.ref b1), .unset, .unset, .unset, .unset, .unset] [(.int x14), (.int (2 : Int32)), (.ref b1)])) rfl rfl (hb hby at_54)
  refine gob st16 ?_
  have z17 : n0 ≤ h16.size := Nat.le_trans z12 (Keep.of_wr W16).1
  have N16 := Fr.snoc X16 N11 g2
  have V16 : Arv Z h16 b1 k1 .int (5 : Int32) [(.int x4), (.int x9), (.int x14), (.int (0 : Int32)), (.int (0 : Int32))] (.int (0 : Int32)) := Arv.set Ar15 aq15 S15 N15 H15 G15 rfl W16 2 rfl (Nat.le_of_ble_eq_true rfl)
  show Go _ _ _ _ _ _ _ (T16.setTop (mkF m 55 #[.val (.int p0), .val (.int p1), .val (.int p2), .val (.int p3), .val (.int p4), .val (.long q5), .second, .val (.int n_), .val (.ref b1), .unset, .unset, .unset, .unset, .unset] []))
  refine gob (fun _ k => XS.aload X16.here hx rfl (hb hby at_55) rfl rfl k) ?_
  show Go _ _ _ _ _ _ _ (T16.setTop (mkF m 57 #[.val (.int p0), .val (.int p1), .val (.int p2), .val (.int p3), .val (.int p4), .val (.long q5), .second, .val (.int n_), .val (.ref b1), .unset, .unset, .unset, .unset, .unset] [(.ref b1)]))
  refine gob (fun _ k => XS.iconst X16.here hx rfl (hb hby at_57) k) ?_
  show Go _ _ _ _ _ _ _ (T16.setTop (mkF m 58 #[.val (.int p0), .val (.int p1), .val (.int p2), .val (.int p3), .val (.int p4), .val (.long q5), .second, .val (.int n_), .val (.ref b1), .unset, .unset, .unset, .unset, .unset] [(.int (3 : Int32)), (.ref b1)]))
  refine gob (fun _ k => XS.aload X16.here hx rfl (hb hby at_58) rfl rfl k) ?_
  show Go _ _ _ _ _ _ _ (T16.setTop (mkF m 60 #[.val (.int p0), .val (.int p1), .val (.int p2), .val (.int p3), .val (.int p4), .val (.long q5), .second, .val (.int n_), .val (.ref b1), .unset, .unset, .unset, .unset, .unset] [(.ref b1), (.int (3 : Int32)), (.ref b1)]))
  refine gob (fun _ k => XS.iconst X16.here hx rfl (hb hby at_60) k) ?_
  show Go _ _ _ _ _ _ _ (T16.setTop (mkF m 61 #[.val (.int p0), .val (.int p1), .val (.int p2), .val (.int p3), .val (.int p4), .val (.long q5), .second, .val (.int n_), .val (.ref b1), .unset, .unset, .unset, .unset, .unset] [(.int (2 : Int32)), (.ref b1), (.int (3 : Int32)), (.ref b1)]))
  obtain ⟨cl18, Ar18, aq18, S18, N18, H18, G18⟩ := id V16
  have hin18 : ¬ ((2 : Int32) < 0 ∨ cl18.slots.size ≤ ((2 : Int32)).toNatClampNeg) := inb_of S18 ⟨by decide, by decide⟩
  refine gob (X16.iaload hx (j := (2 : Int32)) (v := (.int x14)) (by rw [e16]; exact Ar18.1) (State.isArrayOf_alike hZ.alike Ar18.2.1) Ar18.2.2 hin18 (Has.at H18 hin18 rfl) (g := (mkF m 61 #[.val (.int p0), .val (.int p1), .val (.int p2), .val (.int p3), .val (.int p4), .val (.long q5), .second, .val (.int n_), .val (.ref b1), .unset, .unset, .unset, .unset, .unset] [(.int (2 : Int32)), (.ref b1), (.int (3 : Int32)), (.ref b1)])) rfl rfl (hb hby at_61)) ?_
  show Go _ _ _ _ _ _ _ (T16.setTop (mkF m 62 #[.val (.int p0), .val (.int p1), .val (.int p2), .val (.int p3), .val (.int p4), .val (.long q5), .second, .val (.int n_), .val (.ref b1), .unset, .unset, .unset, .unset, .unset] [(.int x14), (.int (3 : Int32)), (.ref b1)]))
  refine gob (fun _ k => XS.iconst X16.here hx rfl (hb hby at_62) k) ?_
  show Go _ _ _ _ _ _ _ (T16.setTop (mkF m 63 #[.val (.int p0), .val (.int p1), .val (.int p2), .val (.int p3), .val (.int p4), .val (.long q5), .second, .val (.int n_), .val (.ref b1), .unset, .unset, .unset, .unset, .unset] [(.int (1 : Int32)), (.int x14), (.int (3 : Int32)), (.ref b1)]))
  refine gob (fun _ k => XS.iadd X16.here hx rfl (hb hby at_63) rfl k) ?_
  show Go _ _ _ _ _ _ _ (T16.setTop (mkF m 64 #[.val (.int p0), .val (.int p1), .val (.int p2), .val (.int p3), .val (.int p4), .val (.long q5), .second, .val (.int n_), .val (.ref b1), .unset, .unset, .unset, .unset, .unset] [(.int (x14 + (1 : Int32))), (.int (3 : Int32)), (.ref b1)]))
  refine gob (fun _ k => XS.iloadN X16.here hx rfl (hb hby at_64) rfl k) ?_
  show Go _ _ _ _ _ _ _ (T16.setTop (mkF m 65 #[.val (.int p0), .val (.int p1), .val (.int p2), .val (.int p3), .val (.int p4), .val (.long q5), .second, .val (.int n_), .val (.ref b1), .unset, .unset, .unset, .unset, .unset] [(.int p1), (.int (x14 + (1 : Int32))), (.int (3 : Int32)), (.ref b1)]))
  refine gob (fun _ k => XS.bipush X16.here hx rfl (hb hby at_65) k) ?_
  show Go _ _ _ _ _ _ _ (T16.setTop (mkF m 67 #[.val (.int p0), .val (.int p1), .val (.int p2), .val (.int p3), .val (.int p4), .val (.long q5), .second, .val (.int n_), .val (.ref b1), .unset, .unset, .unset, .unset, .unset] [(.int (14 : Int32)), (.int p1), (.int (x14 + (1 : Int32))), (.int (3 : Int32)), (.ref b1)]))
  refine gob (fun _ k => XS.iushr X16.here hx rfl (hb hby at_67) rfl k) ?_
  show Go _ _ _ _ _ _ _ (T16.setTop (mkF m 68 #[.val (.int p0), .val (.int p1), .val (.int p2), .val (.int p3), .val (.int p4), .val (.long q5), .second, .val (.int n_), .val (.ref b1), .unset, .unset, .unset, .unset, .unset] [(.int ((p1.toUInt32 >>> ((14 : Int32) &&& 31).toUInt32).toInt32)), (.int (x14 + (1 : Int32))), (.int (3 : Int32)), (.ref b1)]))
  refine gob (fun _ k => XS.bipush X16.here hx rfl (hb hby at_68) k) ?_
  show Go _ _ _ _ _ _ _ (T16.setTop (mkF m 70 #[.val (.int p0), .val (.int p1), .val (.int p2), .val (.int p3), .val (.int p4), .val (.long q5), .second, .val (.int n_), .val (.ref b1), .unset, .unset, .unset, .unset, .unset] [(.int (127 : Int32)), (.int ((p1.toUInt32 >>> ((14 : Int32) &&& 31).toUInt32).toInt32)), (.int (x14 + (1 : Int32))), (.int (3 : Int32)), (.ref b1)]))
  refine gob (fun _ k => XS.iand X16.here hx rfl (hb hby at_70) rfl k) ?_
  show Go _ _ _ _ _ _ _ (T16.setTop (mkF m 71 #[.val (.int p0), .val (.int p1), .val (.int p2), .val (.int p3), .val (.int p4), .val (.long q5), .second, .val (.int n_), .val (.ref b1), .unset, .unset, .unset, .unset, .unset] [(.int (((p1.toUInt32 >>> ((14 : Int32) &&& 31).toUInt32).toInt32) &&& (127 : Int32))), (.int (x14 + (1 : Int32))), (.int (3 : Int32)), (.ref b1)]))
  refine gob (fun _ k => XS.iadd X16.here hx rfl (hb hby at_71) rfl k) ?_
  show Go _ _ _ _ _ _ _ (T16.setTop (mkF m 72 #[.val (.int p0), .val (.int p1), .val (.int p2), .val (.int p3), .val (.int p4), .val (.long q5), .second, .val (.int n_), .val (.ref b1), .unset, .unset, .unset, .unset, .unset] [(.int ((x14 + (1 : Int32)) + (((p1.toUInt32 >>> ((14 : Int32) &&& 31).toUInt32).toInt32) &&& (127 : Int32)))), (.int (3 : Int32)), (.ref b1)]))
  generalize hx19 : ((x14 + (1 : Int32)) + (((p1.toUInt32 >>> ((14 : Int32) &&& 31).toUInt32).toInt32) &&& (127 : Int32))) = x19
  show Go _ _ _ _ _ _ _ (T16.setTop (mkF m 72 #[.val (.int p0), .val (.int p1), .val (.int p2), .val (.int p3), .val (.int p4), .val (.long q5), .second, .val (.int n_), .val (.ref b1), .unset, .unset, .unset, .unset, .unset] [(.int x19), (.int (3 : Int32)), (.ref b1)]))
  obtain ⟨cl20, Ar20, aq20, S20, N20, H20, G20⟩ := id V16
  have hin20 : ¬ ((3 : Int32) < 0 ∨ cl20.slots.size ≤ ((3 : Int32)).toNatClampNeg) := inb_of S20 ⟨by decide, by decide⟩
  obtain ⟨T21, h21, X21, e21, W21, st21⟩ := stI X16 hx hZ e16 Ar20 (j := (3 : Int32)) hin20 (g := (mkF m 72 #[.val (.int p0), .val (.int p1), .val (.int p2), .val (.int p3), .val (.int p4), .val (.long q5), .second, .val (.int n_), .val (.ref b1), .unset, .unset, .unset, .unset, .unset] [(.int x19), (.int (3 : Int32)), (.ref b1)])) rfl rfl (hb hby at_72)
  refine gob st21 ?_
  have z22 : n0 ≤ h21.size := Nat.le_trans z17 (Keep.of_wr W21).1
  have N21 := Fr.snoc X21 N16 g2
  have V21 : Arv Z h21 b1 k1 .int (5 : Int32) [(.int x4), (.int x9), (.int x14), (.int x19), (.int (0 : Int32))] (.int (0 : Int32)) := Arv.set Ar20 aq20 S20 N20 H20 G20 rfl W21 3 rfl (Nat.le_of_ble_eq_true rfl)
  show Go _ _ _ _ _ _ _ (T21.setTop (mkF m 73 #[.val (.int p0), .val (.int p1), .val (.int p2), .val (.int p3), .val (.int p4), .val (.long q5), .second, .val (.int n_), .val (.ref b1), .unset, .unset, .unset, .unset, .unset] []))
  refine gob (fun _ k => XS.aload X21.here hx rfl (hb hby at_73) rfl rfl k) ?_
  show Go _ _ _ _ _ _ _ (T21.setTop (mkF m 75 #[.val (.int p0), .val (.int p1), .val (.int p2), .val (.int p3), .val (.int p4), .val (.long q5), .second, .val (.int n_), .val (.ref b1), .unset, .unset, .unset, .unset, .unset] [(.ref b1)]))
  refine gob (fun _ k => XS.iconst X21.here hx rfl (hb hby at_75) k) ?_
  show Go _ _ _ _ _ _ _ (T21.setTop (mkF m 76 #[.val (.int p0), .val (.int p1), .val (.int p2), .val (.int p3), .val (.int p4), .val (.long q5), .second, .val (.int n_), .val (.ref b1), .unset, .unset, .unset, .unset, .unset] [(.int (4 : Int32)), (.ref b1)]))
  refine gob (fun _ k => XS.aload X21.here hx rfl (hb hby at_76) rfl rfl k) ?_
  show Go _ _ _ _ _ _ _ (T21.setTop (mkF m 78 #[.val (.int p0), .val (.int p1), .val (.int p2), .val (.int p3), .val (.int p4), .val (.long q5), .second, .val (.int n_), .val (.ref b1), .unset, .unset, .unset, .unset, .unset] [(.ref b1), (.int (4 : Int32)), (.ref b1)]))
  refine gob (fun _ k => XS.iconst X21.here hx rfl (hb hby at_78) k) ?_
  show Go _ _ _ _ _ _ _ (T21.setTop (mkF m 79 #[.val (.int p0), .val (.int p1), .val (.int p2), .val (.int p3), .val (.int p4), .val (.long q5), .second, .val (.int n_), .val (.ref b1), .unset, .unset, .unset, .unset, .unset] [(.int (3 : Int32)), (.ref b1), (.int (4 : Int32)), (.ref b1)]))
  obtain ⟨cl23, Ar23, aq23, S23, N23, H23, G23⟩ := id V21
  have hin23 : ¬ ((3 : Int32) < 0 ∨ cl23.slots.size ≤ ((3 : Int32)).toNatClampNeg) := inb_of S23 ⟨by decide, by decide⟩
  refine gob (X21.iaload hx (j := (3 : Int32)) (v := (.int x19)) (by rw [e21]; exact Ar23.1) (State.isArrayOf_alike hZ.alike Ar23.2.1) Ar23.2.2 hin23 (Has.at H23 hin23 rfl) (g := (mkF m 79 #[.val (.int p0), .val (.int p1), .val (.int p2), .val (.int p3), .val (.int p4), .val (.long q5), .second, .val (.int n_), .val (.ref b1), .unset, .unset, .unset, .unset, .unset] [(.int (3 : Int32)), (.ref b1), (.int (4 : Int32)), (.ref b1)])) rfl rfl (hb hby at_79)) ?_
  show Go _ _ _ _ _ _ _ (T21.setTop (mkF m 80 #[.val (.int p0), .val (.int p1), .val (.int p2), .val (.int p3), .val (.int p4), .val (.long q5), .second, .val (.int n_), .val (.ref b1), .unset, .unset, .unset, .unset, .unset] [(.int x19), (.int (4 : Int32)), (.ref b1)]))
  refine gob (fun _ k => XS.iconst X21.here hx rfl (hb hby at_80) k) ?_
  show Go _ _ _ _ _ _ _ (T21.setTop (mkF m 81 #[.val (.int p0), .val (.int p1), .val (.int p2), .val (.int p3), .val (.int p4), .val (.long q5), .second, .val (.int n_), .val (.ref b1), .unset, .unset, .unset, .unset, .unset] [(.int (1 : Int32)), (.int x19), (.int (4 : Int32)), (.ref b1)]))
  refine gob (fun _ k => XS.iadd X21.here hx rfl (hb hby at_81) rfl k) ?_
  show Go _ _ _ _ _ _ _ (T21.setTop (mkF m 82 #[.val (.int p0), .val (.int p1), .val (.int p2), .val (.int p3), .val (.int p4), .val (.long q5), .second, .val (.int n_), .val (.ref b1), .unset, .unset, .unset, .unset, .unset] [(.int (x19 + (1 : Int32))), (.int (4 : Int32)), (.ref b1)]))
  refine gob (fun _ k => XS.iloadN X21.here hx rfl (hb hby at_82) rfl k) ?_
  show Go _ _ _ _ _ _ _ (T21.setTop (mkF m 83 #[.val (.int p0), .val (.int p1), .val (.int p2), .val (.int p3), .val (.int p4), .val (.long q5), .second, .val (.int n_), .val (.ref b1), .unset, .unset, .unset, .unset, .unset] [(.int p1), (.int (x19 + (1 : Int32))), (.int (4 : Int32)), (.ref b1)]))
  refine gob (fun _ k => XS.bipush X21.here hx rfl (hb hby at_83) k) ?_
  show Go _ _ _ _ _ _ _ (T21.setTop (mkF m 85 #[.val (.int p0), .val (.int p1), .val (.int p2), .val (.int p3), .val (.int p4), .val (.long q5), .second, .val (.int n_), .val (.ref b1), .unset, .unset, .unset, .unset, .unset] [(.int (21 : Int32)), (.int p1), (.int (x19 + (1 : Int32))), (.int (4 : Int32)), (.ref b1)]))
  refine gob (fun _ k => XS.iushr X21.here hx rfl (hb hby at_85) rfl k) ?_
  show Go _ _ _ _ _ _ _ (T21.setTop (mkF m 86 #[.val (.int p0), .val (.int p1), .val (.int p2), .val (.int p3), .val (.int p4), .val (.long q5), .second, .val (.int n_), .val (.ref b1), .unset, .unset, .unset, .unset, .unset] [(.int ((p1.toUInt32 >>> ((21 : Int32) &&& 31).toUInt32).toInt32)), (.int (x19 + (1 : Int32))), (.int (4 : Int32)), (.ref b1)]))
  refine gob (fun _ k => XS.bipush X21.here hx rfl (hb hby at_86) k) ?_
  show Go _ _ _ _ _ _ _ (T21.setTop (mkF m 88 #[.val (.int p0), .val (.int p1), .val (.int p2), .val (.int p3), .val (.int p4), .val (.long q5), .second, .val (.int n_), .val (.ref b1), .unset, .unset, .unset, .unset, .unset] [(.int (127 : Int32)), (.int ((p1.toUInt32 >>> ((21 : Int32) &&& 31).toUInt32).toInt32)), (.int (x19 + (1 : Int32))), (.int (4 : Int32)), (.ref b1)]))
  refine gob (fun _ k => XS.iand X21.here hx rfl (hb hby at_88) rfl k) ?_
  show Go _ _ _ _ _ _ _ (T21.setTop (mkF m 89 #[.val (.int p0), .val (.int p1), .val (.int p2), .val (.int p3), .val (.int p4), .val (.long q5), .second, .val (.int n_), .val (.ref b1), .unset, .unset, .unset, .unset, .unset] [(.int (((p1.toUInt32 >>> ((21 : Int32) &&& 31).toUInt32).toInt32) &&& (127 : Int32))), (.int (x19 + (1 : Int32))), (.int (4 : Int32)), (.ref b1)]))
  refine gob (fun _ k => XS.iadd X21.here hx rfl (hb hby at_89) rfl k) ?_
  show Go _ _ _ _ _ _ _ (T21.setTop (mkF m 90 #[.val (.int p0), .val (.int p1), .val (.int p2), .val (.int p3), .val (.int p4), .val (.long q5), .second, .val (.int n_), .val (.ref b1), .unset, .unset, .unset, .unset, .unset] [(.int ((x19 + (1 : Int32)) + (((p1.toUInt32 >>> ((21 : Int32) &&& 31).toUInt32).toInt32) &&& (127 : Int32)))), (.int (4 : Int32)), (.ref b1)]))
  generalize hx24 : ((x19 + (1 : Int32)) + (((p1.toUInt32 >>> ((21 : Int32) &&& 31).toUInt32).toInt32) &&& (127 : Int32))) = x24
  show Go _ _ _ _ _ _ _ (T21.setTop (mkF m 90 #[.val (.int p0), .val (.int p1), .val (.int p2), .val (.int p3), .val (.int p4), .val (.long q5), .second, .val (.int n_), .val (.ref b1), .unset, .unset, .unset, .unset, .unset] [(.int x24), (.int (4 : Int32)), (.ref b1)]))
  obtain ⟨cl25, Ar25, aq25, S25, N25, H25, G25⟩ := id V21
  have hin25 : ¬ ((4 : Int32) < 0 ∨ cl25.slots.size ≤ ((4 : Int32)).toNatClampNeg) := inb_of S25 ⟨by decide, by decide⟩
  obtain ⟨T26, h26, X26, e26, W26, st26⟩ := stI X21 hx hZ e21 Ar25 (j := (4 : Int32)) hin25 (g := (mkF m 90 #[.val (.int p0), .val (.int p1), .val (.int p2), .val (.int p3), .val (.int p4), .val (.long q5), .second, .val (.int n_), .val (.ref b1), .unset, .unset, .unset, .unset, .unset] [(.int x24), (.int (4 : Int32)), (.ref b1)])) rfl rfl (hb hby at_90)
  refine gob st26 ?_
  have z27 : n0 ≤ h26.size := Nat.le_trans z22 (Keep.of_wr W26).1
  have N26 := Fr.snoc X26 N21 g2
  have V26 : Arv Z h26 b1 k1 .int (5 : Int32) [(.int x4), (.int x9), (.int x14), (.int x19), (.int x24)] (.int (0 : Int32)) := Arv.set Ar25 aq25 S25 N25 H25 G25 rfl W26 4 rfl (Nat.le_of_ble_eq_true rfl)
  show Go _ _ _ _ _ _ _ (T26.setTop (mkF m 91 #[.val (.int p0), .val (.int p1), .val (.int p2), .val (.int p3), .val (.int p4), .val (.long q5), .second, .val (.int n_), .val (.ref b1), .unset, .unset, .unset, .unset, .unset] []))
  refine gob (fun _ k => XS.iconst X26.here hx rfl (hb hby at_91) k) ?_
  show Go _ _ _ _ _ _ _ (T26.setTop (mkF m 92 #[.val (.int p0), .val (.int p1), .val (.int p2), .val (.int p3), .val (.int p4), .val (.long q5), .second, .val (.int n_), .val (.ref b1), .unset, .unset, .unset, .unset, .unset] [(.int (5 : Int32))]))
  obtain ⟨T28, h28, k28, X28, e28, E28, A28, st28⟩ := newP X26 hx hZ (hw _ (List.mem_of_getElem? (i := 0) rfl)) e26 (g := (mkF m 92 #[.val (.int p0), .val (.int p1), .val (.int p2), .val (.int p3), .val (.int p4), .val (.long q5), .second, .val (.int n_), .val (.ref b1), .unset, .unset, .unset, .unset, .unset] [(.int (5 : Int32))])) rfl (hb hby at_92) rfl (by decide) (cap := 5) (by decide) (by decide) (by decide) (by decide)
  obtain ⟨b28, g28⟩ : ∃ z, z = h26.size := ⟨_, rfl⟩
  rw [← g28] at A28 st28
  have n29 : b1 ≠ b28 := Nat.ne_of_lt (Nat.lt_of_lt_of_le V26.lt (Nat.le_of_eq g28.symm))
  have g30 : n0 ≤ b28 := Nat.le_trans z27 (Nat.le_of_eq g28.symm)
  have z31 : n0 ≤ h28.size := Nat.le_trans z27 E28.1
  have V28 : Arv Z h28 b28 k28 .int (5 : Int32) [(.int (0 : Int32)), (.int (0 : Int32)), (.int (0 : Int32)), (.int (0 : Int32)), (.int (0 : Int32))] (.int (0 : Int32)) := (Arv.new A28 (by decide)).pad (pad_rep [] (.int (0 : Int32)) 5)
  refine gob st28 ?_
  replace X28 := castX X28 (rfl : _ = 2) (rfl : _ = 10)
  show Go _ _ _ _ _ _ _ (T28.setTop (mkF m 94 #[.val (.int p0), .val (.int p1), .val (.int p2), .val (.int p3), .val (.int p4), .val (.long q5), .second, .val (.int n_), .val (.ref b1), .unset, .unset, .unset, .unset, .unset] [(.ref b28)]))
  refine gob (fun _ k => XS.astore X28.here hx rfl (hb hby at_94) rfl rfl (l' := #[.val (.int p0), .val (.int p1), .val (.int p2), .val (.int p3), .val (.int p4), .val (.long q5), .second, .val (.int n_), .val (.ref b1), .val (.ref b28), .unset, .unset, .unset, .unset]) rfl k) ?_
  show Go _ _ _ _ _ _ _ (T28.setTop (mkF m 96 #[.val (.int p0), .val (.int p1), .val (.int p2), .val (.int p3), .val (.int p4), .val (.long q5), .second, .val (.int n_), .val (.ref b1), .val (.ref b28), .unset, .unset, .unset, .unset] []))
  refine gob (fun _ k => XS.aload X28.here hx rfl (hb hby at_96) rfl rfl k) ?_
  show Go _ _ _ _ _ _ _ (T28.setTop (mkF m 98 #[.val (.int p0), .val (.int p1), .val (.int p2), .val (.int p3), .val (.int p4), .val (.long q5), .second, .val (.int n_), .val (.ref b1), .val (.ref b28), .unset, .unset, .unset, .unset] [(.ref b28)]))
  refine gob (fun _ k => XS.iconst X28.here hx rfl (hb hby at_98) k) ?_
  show Go _ _ _ _ _ _ _ (T28.setTop (mkF m 99 #[.val (.int p0), .val (.int p1), .val (.int p2), .val (.int p3), .val (.int p4), .val (.long q5), .second, .val (.int n_), .val (.ref b1), .val (.ref b28), .unset, .unset, .unset, .unset] [(.int (0 : Int32)), (.ref b28)]))
  refine gob (fun _ k => XS.iloadN X28.here hx rfl (hb hby at_99) rfl k) ?_
  show Go _ _ _ _ _ _ _ (T28.setTop (mkF m 100 #[.val (.int p0), .val (.int p1), .val (.int p2), .val (.int p3), .val (.int p4), .val (.long q5), .second, .val (.int n_), .val (.ref b1), .val (.ref b28), .unset, .unset, .unset, .unset] [(.int p2), (.int (0 : Int32)), (.ref b28)]))
  obtain ⟨_, _, ⟨T32, L32, k32, n32⟩, -, X32, ⟨Lc32, hQ32, l32, y32, z32⟩, st32⟩ := Jvm.LawKit.callS X28 hx (y := (⟨"com/example/robust_broker/robustbroker/PostingsAddPinLaw", "freq", "(I)I"⟩ : MethodName)) hown (mvT hZ (hw _ (List.mem_of_getElem? (i := 2) rfl))) (mvT hZ (hw _ (List.mem_of_getElem? (i := 3) rfl))) (mvT hZ (hw _ (List.mem_of_getElem? (i := 4) rfl))) (mvT hZ (hw _ (List.mem_of_getElem? (i := 5) rfl))) (by decide) (backOf (W := 2) (rm1 l Z a0 hw [] p2 h28 n0 z31 ) hZ (hw _ (List.mem_of_getElem? (i := 5) rfl)) (hw _ (List.mem_of_getElem? (i := 4) rfl)) (by decide) (by decide)) (g := (mkF m 100 #[.val (.int p0), .val (.int p1), .val (.int p2), .val (.int p3), .val (.int p4), .val (.long q5), .second, .val (.int n_), .val (.ref b1), .val (.ref b28), .unset, .unset, .unset, .unset] [(.int p2), (.int (0 : Int32)), (.ref b28)])) rfl (by rw [hml]; rfl) (argsL := [(.int p2)]) (rest := [(.int (0 : Int32)), (.ref b28)]) (lenOf pd_2 rfl) rfl (by show 2 * 0 + _ ≤ _; exact Nat.le_of_eq rfl) (hb hby at_100) (fun _ _ => ⟨rfl, e28, (by decide : 2 + 0 ≤ _), (by decide : 10 + 0 ≤ _)⟩)
  dsimp only [Pt.U, Pt.locs, Pt.cells, Pt.slots] at X32 l32 y32 z32 st32 hQ32
  replace X32 := castX X32 (y32.trans (rfl : _ = 2)) (z32.trans (rfl : _ = 10))
  obtain ⟨r32, rfl, hr32, Nq32, e32⟩ := hQ32
  have N32 : Fr n0 L32 := l32 ▸ Fr.app N26 Nq32
  refine gob st32 ?_
  show Go _ _ _ _ _ _ _ (T32.setTop (mkF m 103 #[.val (.int p0), .val (.int p1), .val (.int p2), .val (.int p3), .val (.int p4), .val (.long q5), .second, .val (.int n_), .val (.ref b1), .val (.ref b28), .unset, .unset, .unset, .unset] [(.int r32), (.int (0 : Int32)), (.ref b28)]))
  obtain ⟨cl34, Ar34, aq34, S34, N34, H34, G34⟩ := id V28
  have hin34 : ¬ ((0 : Int32) < 0 ∨ cl34.slots.size ≤ ((0 : Int32)).toNatClampNeg) := inb_of S34 ⟨by decide, by decide⟩
  obtain ⟨T35, h35, X35, e35, W35, st35⟩ := stI X32 hx hZ e32 Ar34 (j := (0 : Int32)) hin34 (g := (mkF m 103 #[.val (.int p0), .val (.int p1), .val (.int p2), .val (.int p3), .val (.int p4), .val (.long q5), .second, .val (.int n_), .val (.ref b1), .val (.ref b28), .unset, .unset, .unset, .unset] [(.int r32), (.int (0 : Int32)), (.ref b28)])) rfl rfl (hb hby at_103)
  refine gob st35 ?_
  have z36 : n0 ≤ h35.size := Nat.le_trans z31 (Keep.of_wr W35).1
  have N35 := Fr.snoc X35 N32 g30
  have V35 : Arv Z h35 b28 k28 .int (5 : Int32) [(.int r32), (.int (0 : Int32)), (.int (0 : Int32)), (.int (0 : Int32)), (.int (0 : Int32))] (.int (0 : Int32)) := Arv.set Ar34 aq34 S34 N34 H34 G34 rfl W35 0 rfl (Nat.le_of_ble_eq_true rfl)
  show Go _ _ _ _ _ _ _ (T35.setTop (mkF m 104 #[.val (.int p0), .val (.int p1), .val (.int p2), .val (.int p3), .val (.int p4), .val (.long q5), .second, .val (.int n_), .val (.ref b1), .val (.ref b28), .unset, .unset, .unset, .unset] []))
  refine gob (fun _ k => XS.aload X35.here hx rfl (hb hby at_104) rfl rfl k) ?_
  show Go _ _ _ _ _ _ _ (T35.setTop (mkF m 106 #[.val (.int p0), .val (.int p1), .val (.int p2), .val (.int p3), .val (.int p4), .val (.long q5), .second, .val (.int n_), .val (.ref b1), .val (.ref b28), .unset, .unset, .unset, .unset] [(.ref b28)]))
  refine gob (fun _ k => XS.iconst X35.here hx rfl (hb hby at_106) k) ?_
  show Go _ _ _ _ _ _ _ (T35.setTop (mkF m 107 #[.val (.int p0), .val (.int p1), .val (.int p2), .val (.int p3), .val (.int p4), .val (.long q5), .second, .val (.int n_), .val (.ref b1), .val (.ref b28), .unset, .unset, .unset, .unset] [(.int (1 : Int32)), (.ref b28)]))
  refine gob (fun _ k => XS.iloadN X35.here hx rfl (hb hby at_107) rfl k) ?_
  show Go _ _ _ _ _ _ _ (T35.setTop (mkF m 108 #[.val (.int p0), .val (.int p1), .val (.int p2), .val (.int p3), .val (.int p4), .val (.long q5), .second, .val (.int n_), .val (.ref b1), .val (.ref b28), .unset, .unset, .unset, .unset] [(.int p3), (.int (1 : Int32)), (.ref b28)]))
  obtain ⟨_, _, ⟨T37, L37, k37, n37⟩, -, X37, ⟨Lc37, hQ37, l37, y37, z37⟩, st37⟩ := Jvm.LawKit.callS X35 hx (y := (⟨"com/example/robust_broker/robustbroker/PostingsAddPinLaw", "freq", "(I)I"⟩ : MethodName)) hown (mvT hZ (hw _ (List.mem_of_getElem? (i := 2) rfl))) (mvT hZ (hw _ (List.mem_of_getElem? (i := 3) rfl))) (mvT hZ (hw _ (List.mem_of_getElem? (i := 4) rfl))) (mvT hZ (hw _ (List.mem_of_getElem? (i := 5) rfl))) (by decide) (backOf (W := 2) (rm1 l Z a0 hw [] p3 h35 n0 z36 ) hZ (hw _ (List.mem_of_getElem? (i := 5) rfl)) (hw _ (List.mem_of_getElem? (i := 4) rfl)) (by decide) (by decide)) (g := (mkF m 108 #[.val (.int p0), .val (.int p1), .val (.int p2), .val (.int p3), .val (.int p4), .val (.long q5), .second, .val (.int n_), .val (.ref b1), .val (.ref b28), .unset, .unset, .unset, .unset] [(.int p3), (.int (1 : Int32)), (.ref b28)])) rfl (by rw [hml]; rfl) (argsL := [(.int p3)]) (rest := [(.int (1 : Int32)), (.ref b28)]) (lenOf pd_2 rfl) rfl (by show 2 * 0 + _ ≤ _; exact Nat.le_of_eq rfl) (hb hby at_108) (fun _ _ => ⟨rfl, e35, (by decide : 2 + 0 ≤ _), (by decide : 10 + 0 ≤ _)⟩)
  dsimp only [Pt.U, Pt.locs, Pt.cells, Pt.slots] at X37 l37 y37 z37 st37 hQ37
  replace X37 := castX X37 (y37.trans (rfl : _ = 2)) (z37.trans (rfl : _ = 10))
  obtain ⟨r37, rfl, hr37, Nq37, e37⟩ := hQ37
  have N37 : Fr n0 L37 := l37 ▸ Fr.app N35 Nq37
  refine gob st37 ?_
  show Go _ _ _ _ _ _ _ (T37.setTop (mkF m 111 #[.val (.int p0), .val (.int p1), .val (.int p2), .val (.int p3), .val (.int p4), .val (.long q5), .second, .val (.int n_), .val (.ref b1), .val (.ref b28), .unset, .unset, .unset, .unset] [(.int r37), (.int (1 : Int32)), (.ref b28)]))
  obtain ⟨cl39, Ar39, aq39, S39, N39, H39, G39⟩ := id V35
  have hin39 : ¬ ((1 : Int32) < 0 ∨ cl39.slots.size ≤ ((1 : Int32)).toNatClampNeg) := inb_of S39 ⟨by decide, by decide⟩
  obtain ⟨T40, h40, X40, e40, W40, st40⟩ := stI X37 hx hZ e37 Ar39 (j := (1 : Int32)) hin39 (g := (mkF m 111 #[.val (.int p0), .val (.int p1), .val (.int p2), .val (.int p3), .val (.int p4), .val (.long q5), .second, .val (.int n_), .val (.ref b1), .val (.ref b28), .unset, .unset, .unset, .unset] [(.int r37), (.int (1 : Int32)), (.ref b28)])) rfl rfl (hb hby at_111)
  refine gob st40 ?_
  have z41 : n0 ≤ h40.size := Nat.le_trans z36 (Keep.of_wr W40).1
  have N40 := Fr.snoc X40 N37 g30
  have V40 : Arv Z h40 b28 k28 .int (5 : Int32) [(.int r32), (.int r37), (.int (0 : Int32)), (.int (0 : Int32)), (.int (0 : Int32))] (.int (0 : Int32)) := Arv.set Ar39 aq39 S39 N39 H39 G39 rfl W40 1 rfl (Nat.le_of_ble_eq_true rfl)
  show Go _ _ _ _ _ _ _ (T40.setTop (mkF m 112 #[.val (.int p0), .val (.int p1), .val (.int p2), .val (.int p3), .val (.int p4), .val (.long q5), .second, .val (.int n_), .val (.ref b1), .val (.ref b28), .unset, .unset, .unset, .unset] []))
  refine gob (fun _ k => XS.aload X40.here hx rfl (hb hby at_112) rfl rfl k) ?_
  show Go _ _ _ _ _ _ _ (T40.setTop (mkF m 114 #[.val (.int p0), .val (.int p1), .val (.int p2), .val (.int p3), .val (.int p4), .val (.long q5), .second, .val (.int n_), .val (.ref b1), .val (.ref b28), .unset, .unset, .unset, .unset] [(.ref b28)]))
  refine gob (fun _ k => XS.iconst X40.here hx rfl (hb hby at_114) k) ?_
  show Go _ _ _ _ _ _ _ (T40.setTop (mkF m 115 #[.val (.int p0), .val (.int p1), .val (.int p2), .val (.int p3), .val (.int p4), .val (.long q5), .second, .val (.int n_), .val (.ref b1), .val (.ref b28), .unset, .unset, .unset, .unset] [(.int (2 : Int32)), (.ref b28)]))
  refine gob (fun _ k => XS.iload X40.here hx rfl (hb hby at_115) rfl k) ?_
  show Go _ _ _ _ _ _ _ (T40.setTop (mkF m 117 #[.val (.int p0), .val (.int p1), .val (.int p2), .val (.int p3), .val (.int p4), .val (.long q5), .second, .val (.int n_), .val (.ref b1), .val (.ref b28), .unset, .unset, .unset, .unset] [(.int p4), (.int (2 : Int32)), (.ref b28)]))
  obtain ⟨_, _, ⟨T42, L42, k42, n42⟩, -, X42, ⟨Lc42, hQ42, l42, y42, z42⟩, st42⟩ := Jvm.LawKit.callS X40 hx (y := (⟨"com/example/robust_broker/robustbroker/PostingsAddPinLaw", "freq", "(I)I"⟩ : MethodName)) hown (mvT hZ (hw _ (List.mem_of_getElem? (i := 2) rfl))) (mvT hZ (hw _ (List.mem_of_getElem? (i := 3) rfl))) (mvT hZ (hw _ (List.mem_of_getElem? (i := 4) rfl))) (mvT hZ (hw _ (List.mem_of_getElem? (i := 5) rfl))) (by decide) (backOf (W := 2) (rm1 l Z a0 hw [] p4 h40 n0 z41 ) hZ (hw _ (List.mem_of_getElem? (i := 5) rfl)) (hw _ (List.mem_of_getElem? (i := 4) rfl)) (by decide) (by decide)) (g := (mkF m 117 #[.val (.int p0), .val (.int p1), .val (.int p2), .val (.int p3), .val (.int p4), .val (.long q5), .second, .val (.int n_), .val (.ref b1), .val (.ref b28), .unset, .unset, .unset, .unset] [(.int p4), (.int (2 : Int32)), (.ref b28)])) rfl (by rw [hml]; rfl) (argsL := [(.int p4)]) (rest := [(.int (2 : Int32)), (.ref b28)]) (lenOf pd_2 rfl) rfl (by show 2 * 0 + _ ≤ _; exact Nat.le_of_eq rfl) (hb hby at_117) (fun _ _ => ⟨rfl, e40, (by decide : 2 + 0 ≤ _), (by decide : 10 + 0 ≤ _)⟩)
  dsimp only [Pt.U, Pt.locs, Pt.cells, Pt.slots] at X42 l42 y42 z42 st42 hQ42
  replace X42 := castX X42 (y42.trans (rfl : _ = 2)) (z42.trans (rfl : _ = 10))
  obtain ⟨r42, rfl, hr42, Nq42, e42⟩ := hQ42
  have N42 : Fr n0 L42 := l42 ▸ Fr.app N40 Nq42
  refine gob st42 ?_
  show Go _ _ _ _ _ _ _ (T42.setTop (mkF m 120 #[.val (.int p0), .val (.int p1), .val (.int p2), .val (.int p3), .val (.int p4), .val (.long q5), .second, .val (.int n_), .val (.ref b1), .val (.ref b28), .unset, .unset, .unset, .unset] [(.int r42), (.int (2 : Int32)), (.ref b28)]))
  obtain ⟨cl44, Ar44, aq44, S44, N44, H44, G44⟩ := id V40
  have hin44 : ¬ ((2 : Int32) < 0 ∨ cl44.slots.size ≤ ((2 : Int32)).toNatClampNeg) := inb_of S44 ⟨by decide, by decide⟩
  obtain ⟨T45, h45, X45, e45, W45, st45⟩ := stI X42 hx hZ e42 Ar44 (j := (2 : Int32)) hin44 (g := (mkF m 120 #[.val (.int p0), .val (.int p1), .val (.int p2), .val (.int p3), .val (.int p4), .val (.long q5), .second, .val (.int n_), .val (.ref b1), .val (.ref b28), .unset, .unset, .unset, .unset] [(.int r42), (.int (2 : Int32)), (.ref b28)])) rfl rfl (hb hby at_120)
  refine gob st45 ?_
  have z46 : n0 ≤ h45.size := Nat.le_trans z41 (Keep.of_wr W45).1
  have N45 := Fr.snoc X45 N42 g30
  have V45 : Arv Z h45 b28 k28 .int (5 : Int32) [(.int r32), (.int r37), (.int r42), (.int (0 : Int32)), (.int (0 : Int32))] (.int (0 : Int32)) := Arv.set Ar44 aq44 S44 N44 H44 G44 rfl W45 2 rfl (Nat.le_of_ble_eq_true rfl)
  show Go _ _ _ _ _ _ _ (T45.setTop (mkF m 121 #[.val (.int p0), .val (.int p1), .val (.int p2), .val (.int p3), .val (.int p4), .val (.long q5), .second, .val (.int n_), .val (.ref b1), .val (.ref b28), .unset, .unset, .unset, .unset] []))
  refine gob (fun _ k => XS.aload X45.here hx rfl (hb hby at_121) rfl rfl k) ?_
  show Go _ _ _ _ _ _ _ (T45.setTop (mkF m 123 #[.val (.int p0), .val (.int p1), .val (.int p2), .val (.int p3), .val (.int p4), .val (.long q5), .second, .val (.int n_), .val (.ref b1), .val (.ref b28), .unset, .unset, .unset, .unset] [(.ref b28)]))
  refine gob (fun _ k => XS.iconst X45.here hx rfl (hb hby at_123) k) ?_
  show Go _ _ _ _ _ _ _ (T45.setTop (mkF m 124 #[.val (.int p0), .val (.int p1), .val (.int p2), .val (.int p3), .val (.int p4), .val (.long q5), .second, .val (.int n_), .val (.ref b1), .val (.ref b28), .unset, .unset, .unset, .unset] [(.int (3 : Int32)), (.ref b28)]))
  refine gob (fun _ k => XS.lload X45.here hx rfl (hb hby at_124) rfl k) ?_
  show Go _ _ _ _ _ _ _ (T45.setTop (mkF m 126 #[.val (.int p0), .val (.int p1), .val (.int p2), .val (.int p3), .val (.int p4), .val (.long q5), .second, .val (.int n_), .val (.ref b1), .val (.ref b28), .unset, .unset, .unset, .unset] [(.long q5), (.int (3 : Int32)), (.ref b28)]))
  refine gob (X45.ldc2Long hx hown (mvT hZ (hw _ (List.mem_of_getElem? (i := 7) rfl))) (g := (mkF m 126 #[.val (.int p0), .val (.int p1), .val (.int p2), .val (.int p3), .val (.int p4), .val (.long q5), .second, .val (.int n_), .val (.ref b1), .val (.ref b28), .unset, .unset, .unset, .unset] [(.long q5), (.int (3 : Int32)), (.ref b28)])) rfl (hb hby at_126)) ?_
  show Go _ _ _ _ _ _ _ (T45.setTop (mkF m 129 #[.val (.int p0), .val (.int p1), .val (.int p2), .val (.int p3), .val (.int p4), .val (.long q5), .second, .val (.int n_), .val (.ref b1), .val (.ref b28), .unset, .unset, .unset, .unset] [(.long (2147483647 : Int64)), (.long q5), (.int (3 : Int32)), (.ref b28)]))
  refine gob (fun _ k => XS.land X45.here hx rfl (hb hby at_129) rfl k) ?_
  show Go _ _ _ _ _ _ _ (T45.setTop (mkF m 130 #[.val (.int p0), .val (.int p1), .val (.int p2), .val (.int p3), .val (.int p4), .val (.long q5), .second, .val (.int n_), .val (.ref b1), .val (.ref b28), .unset, .unset, .unset, .unset] [(.long (q5 &&& (2147483647 : Int64))), (.int (3 : Int32)), (.ref b28)]))
  refine gob (fun _ k => XS.l2i X45.here hx rfl (hb hby at_130) rfl k) ?_
  show Go _ _ _ _ _ _ _ (T45.setTop (mkF m 131 #[.val (.int p0), .val (.int p1), .val (.int p2), .val (.int p3), .val (.int p4), .val (.long q5), .second, .val (.int n_), .val (.ref b1), .val (.ref b28), .unset, .unset, .unset, .unset] [(.int ((q5 &&& (2147483647 : Int64)).toInt32)), (.int (3 : Int32)), (.ref b28)]))
  obtain ⟨_, _, ⟨T47, L47, k47, n47⟩, -, X47, ⟨Lc47, hQ47, l47, y47, z47⟩, st47⟩ := Jvm.LawKit.callS X45 hx (y := (⟨"com/example/robust_broker/robustbroker/PostingsAddPinLaw", "freq", "(I)I"⟩ : MethodName)) hown (mvT hZ (hw _ (List.mem_of_getElem? (i := 2) rfl))) (mvT hZ (hw _ (List.mem_of_getElem? (i := 3) rfl))) (mvT hZ (hw _ (List.mem_of_getElem? (i := 4) rfl))) (mvT hZ (hw _ (List.mem_of_getElem? (i := 5) rfl))) (by decide) (backOf (W := 2) (rm1 l Z a0 hw [] ((q5 &&& (2147483647 : Int64)).toInt32) h45 n0 z46 ) hZ (hw _ (List.mem_of_getElem? (i := 5) rfl)) (hw _ (List.mem_of_getElem? (i := 4) rfl)) (by decide) (by decide)) (g := (mkF m 131 #[.val (.int p0), .val (.int p1), .val (.int p2), .val (.int p3), .val (.int p4), .val (.long q5), .second, .val (.int n_), .val (.ref b1), .val (.ref b28), .unset, .unset, .unset, .unset] [(.int ((q5 &&& (2147483647 : Int64)).toInt32)), (.int (3 : Int32)), (.ref b28)])) rfl (by rw [hml]; rfl) (argsL := [(.int ((q5 &&& (2147483647 : Int64)).toInt32))]) (rest := [(.int (3 : Int32)), (.ref b28)]) (lenOf pd_2 rfl) rfl (by show 2 * 0 + _ ≤ _; exact Nat.le_of_eq rfl) (hb hby at_131) (fun _ _ => ⟨rfl, e45, (by decide : 2 + 0 ≤ _), (by decide : 10 + 0 ≤ _)⟩)
  dsimp only [Pt.U, Pt.locs, Pt.cells, Pt.slots] at X47 l47 y47 z47 st47 hQ47
  replace X47 := castX X47 (y47.trans (rfl : _ = 2)) (z47.trans (rfl : _ = 10))
  obtain ⟨r47, rfl, hr47, Nq47, e47⟩ := hQ47
  have N47 : Fr n0 L47 := l47 ▸ Fr.app N45 Nq47
  refine gob st47 ?_
  show Go _ _ _ _ _ _ _ (T47.setTop (mkF m 134 #[.val (.int p0), .val (.int p1), .val (.int p2), .val (.int p3), .val (.int p4), .val (.long q5), .second, .val (.int n_), .val (.ref b1), .val (.ref b28), .unset, .unset, .unset, .unset] [(.int r47), (.int (3 : Int32)), (.ref b28)]))
  obtain ⟨cl49, Ar49, aq49, S49, N49, H49, G49⟩ := id V45
  have hin49 : ¬ ((3 : Int32) < 0 ∨ cl49.slots.size ≤ ((3 : Int32)).toNatClampNeg) := inb_of S49 ⟨by decide, by decide⟩
  obtain ⟨T50, h50, X50, e50, W50, st50⟩ := stI X47 hx hZ e47 Ar49 (j := (3 : Int32)) hin49 (g := (mkF m 134 #[.val (.int p0), .val (.int p1), .val (.int p2), .val (.int p3), .val (.int p4), .val (.long q5), .second, .val (.int n_), .val (.ref b1), .val (.ref b28), .unset, .unset, .unset, .unset] [(.int r47), (.int (3 : Int32)), (.ref b28)])) rfl rfl (hb hby at_134)
  refine gob st50 ?_
  have z51 : n0 ≤ h50.size := Nat.le_trans z46 (Keep.of_wr W50).1
  have N50 := Fr.snoc X50 N47 g30
  have V50 : Arv Z h50 b28 k28 .int (5 : Int32) [(.int r32), (.int r37), (.int r42), (.int r47), (.int (0 : Int32))] (.int (0 : Int32)) := Arv.set Ar49 aq49 S49 N49 H49 G49 rfl W50 3 rfl (Nat.le_of_ble_eq_true rfl)
  show Go _ _ _ _ _ _ _ (T50.setTop (mkF m 135 #[.val (.int p0), .val (.int p1), .val (.int p2), .val (.int p3), .val (.int p4), .val (.long q5), .second, .val (.int n_), .val (.ref b1), .val (.ref b28), .unset, .unset, .unset, .unset] []))
  refine gob (fun _ k => XS.aload X50.here hx rfl (hb hby at_135) rfl rfl k) ?_
  show Go _ _ _ _ _ _ _ (T50.setTop (mkF m 137 #[.val (.int p0), .val (.int p1), .val (.int p2), .val (.int p3), .val (.int p4), .val (.long q5), .second, .val (.int n_), .val (.ref b1), .val (.ref b28), .unset, .unset, .unset, .unset] [(.ref b28)]))
  refine gob (fun _ k => XS.iconst X50.here hx rfl (hb hby at_137) k) ?_
  show Go _ _ _ _ _ _ _ (T50.setTop (mkF m 138 #[.val (.int p0), .val (.int p1), .val (.int p2), .val (.int p3), .val (.int p4), .val (.long q5), .second, .val (.int n_), .val (.ref b1), .val (.ref b28), .unset, .unset, .unset, .unset] [(.int (4 : Int32)), (.ref b28)]))
  refine gob (fun _ k => XS.lload X50.here hx rfl (hb hby at_138) rfl k) ?_
  show Go _ _ _ _ _ _ _ (T50.setTop (mkF m 140 #[.val (.int p0), .val (.int p1), .val (.int p2), .val (.int p3), .val (.int p4), .val (.long q5), .second, .val (.int n_), .val (.ref b1), .val (.ref b28), .unset, .unset, .unset, .unset] [(.long q5), (.int (4 : Int32)), (.ref b28)]))
  refine gob (fun _ k => XS.bipush X50.here hx rfl (hb hby at_140) k) ?_
  show Go _ _ _ _ _ _ _ (T50.setTop (mkF m 142 #[.val (.int p0), .val (.int p1), .val (.int p2), .val (.int p3), .val (.int p4), .val (.long q5), .second, .val (.int n_), .val (.ref b1), .val (.ref b28), .unset, .unset, .unset, .unset] [(.int (32 : Int32)), (.long q5), (.int (4 : Int32)), (.ref b28)]))
  refine gob (fun _ k => XS.lushr X50.here hx rfl (hb hby at_142) rfl k) ?_
  show Go _ _ _ _ _ _ _ (T50.setTop (mkF m 143 #[.val (.int p0), .val (.int p1), .val (.int p2), .val (.int p3), .val (.int p4), .val (.long q5), .second, .val (.int n_), .val (.ref b1), .val (.ref b28), .unset, .unset, .unset, .unset] [(.long ((q5.toUInt64 >>> ((32 : Int32) &&& 0x3f).toInt64.toUInt64).toInt64)), (.int (4 : Int32)), (.ref b28)]))
  refine gob (fun _ k => XS.l2i X50.here hx rfl (hb hby at_143) rfl k) ?_
  show Go _ _ _ _ _ _ _ (T50.setTop (mkF m 144 #[.val (.int p0), .val (.int p1), .val (.int p2), .val (.int p3), .val (.int p4), .val (.long q5), .second, .val (.int n_), .val (.ref b1), .val (.ref b28), .unset, .unset, .unset, .unset] [(.int (((q5.toUInt64 >>> ((32 : Int32) &&& 0x3f).toInt64.toUInt64).toInt64).toInt32)), (.int (4 : Int32)), (.ref b28)]))
  obtain ⟨_, _, ⟨T52, L52, k52, n52⟩, -, X52, ⟨Lc52, hQ52, l52, y52, z52⟩, st52⟩ := Jvm.LawKit.callS X50 hx (y := (⟨"com/example/robust_broker/robustbroker/PostingsAddPinLaw", "freq", "(I)I"⟩ : MethodName)) hown (mvT hZ (hw _ (List.mem_of_getElem? (i := 2) rfl))) (mvT hZ (hw _ (List.mem_of_getElem? (i := 3) rfl))) (mvT hZ (hw _ (List.mem_of_getElem? (i := 4) rfl))) (mvT hZ (hw _ (List.mem_of_getElem? (i := 5) rfl))) (by decide) (backOf (W := 2) (rm1 l Z a0 hw [] (((q5.toUInt64 >>> ((32 : Int32) &&& 0x3f).toInt64.toUInt64).toInt64).toInt32) h50 n0 z51 ) hZ (hw _ (List.mem_of_getElem? (i := 5) rfl)) (hw _ (List.mem_of_getElem? (i := 4) rfl)) (by decide) (by decide)) (g := (mkF m 144 #[.val (.int p0), .val (.int p1), .val (.int p2), .val (.int p3), .val (.int p4), .val (.long q5), .second, .val (.int n_), .val (.ref b1), .val (.ref b28), .unset, .unset, .unset, .unset] [(.int (((q5.toUInt64 >>> ((32 : Int32) &&& 0x3f).toInt64.toUInt64).toInt64).toInt32)), (.int (4 : Int32)), (.ref b28)])) rfl (by rw [hml]; rfl) (argsL := [(.int (((q5.toUInt64 >>> ((32 : Int32) &&& 0x3f).toInt64.toUInt64).toInt64).toInt32))]) (rest := [(.int (4 : Int32)), (.ref b28)]) (lenOf pd_2 rfl) rfl (by show 2 * 0 + _ ≤ _; exact Nat.le_of_eq rfl) (hb hby at_144) (fun _ _ => ⟨rfl, e50, (by decide : 2 + 0 ≤ _), (by decide : 10 + 0 ≤ _)⟩)
  dsimp only [Pt.U, Pt.locs, Pt.cells, Pt.slots] at X52 l52 y52 z52 st52 hQ52
  replace X52 := castX X52 (y52.trans (rfl : _ = 2)) (z52.trans (rfl : _ = 10))
  obtain ⟨r52, rfl, hr52, Nq52, e52⟩ := hQ52
  have N52 : Fr n0 L52 := l52 ▸ Fr.app N50 Nq52
  refine gob st52 ?_
  show Go _ _ _ _ _ _ _ (T52.setTop (mkF m 147 #[.val (.int p0), .val (.int p1), .val (.int p2), .val (.int p3), .val (.int p4), .val (.long q5), .second, .val (.int n_), .val (.ref b1), .val (.ref b28), .unset, .unset, .unset, .unset] [(.int r52), (.int (4 : Int32)), (.ref b28)]))
  obtain ⟨cl54, Ar54, aq54, S54, N54, H54, G54⟩ := id V50
  have hin54 : ¬ ((4 : Int32) < 0 ∨ cl54.slots.size ≤ ((4 : Int32)).toNatClampNeg) := inb_of S54 ⟨by decide, by decide⟩
  obtain ⟨T55, h55, X55, e55, W55, st55⟩ := stI X52 hx hZ e52 Ar54 (j := (4 : Int32)) hin54 (g := (mkF m 147 #[.val (.int p0), .val (.int p1), .val (.int p2), .val (.int p3), .val (.int p4), .val (.long q5), .second, .val (.int n_), .val (.ref b1), .val (.ref b28), .unset, .unset, .unset, .unset] [(.int r52), (.int (4 : Int32)), (.ref b28)])) rfl rfl (hb hby at_147)
  refine gob st55 ?_
  have z56 : n0 ≤ h55.size := Nat.le_trans z51 (Keep.of_wr W55).1
  have N55 := Fr.snoc X55 N52 g30
  have V55 : Arv Z h55 b28 k28 .int (5 : Int32) [(.int r32), (.int r37), (.int r42), (.int r47), (.int r52)] (.int (0 : Int32)) := Arv.set Ar54 aq54 S54 N54 H54 G54 rfl W55 4 rfl (Nat.le_of_ble_eq_true rfl)
  show Go _ _ _ _ _ _ _ (T55.setTop (mkF m 148 #[.val (.int p0), .val (.int p1), .val (.int p2), .val (.int p3), .val (.int p4), .val (.long q5), .second, .val (.int n_), .val (.ref b1), .val (.ref b28), .unset, .unset, .unset, .unset] []))
  obtain ⟨T57, h57, X57, e57, E57, A57, D57, -, st57⟩ := newO X55 hx hZ hown (hw _ (List.mem_of_getElem? (i := 8) rfl)) (hw _ (List.mem_of_getElem? (i := 9) rfl)) (hw _ (List.mem_of_getElem? (i := 10) rfl)) e55 (g := (mkF m 148 #[.val (.int p0), .val (.int p1), .val (.int p2), .val (.int p3), .val (.int p4), .val (.long q5), .second, .val (.int n_), .val (.ref b1), .val (.ref b28), .unset, .unset, .unset, .unset] [])) rfl (hb hby at_148) (by decide) (by decide)
  obtain ⟨b57, g57⟩ : ∃ z, z = h55.size := ⟨_, rfl⟩
  rw [← g57] at A57 D57 st57
  have c58 := ((((((V26.ext E28).other W35 n29).other W40 n29).other W45 n29).other W50 n29).other W55 n29)
  have n59 : b1 ≠ b57 := Nat.ne_of_lt (Nat.lt_of_lt_of_le c58.lt (Nat.le_of_eq g57.symm))
  have n60 : b28 ≠ b57 := Nat.ne_of_lt (Nat.lt_of_lt_of_le V55.lt (Nat.le_of_eq g57.symm))
  have g61 : n0 ≤ b57 := Nat.le_trans z56 (Nat.le_of_eq g57.symm)
  have z62 : n0 ≤ h57.size := Nat.le_trans z56 E57.1
  have F57_documents : Fld Z h57 b57 "com/example/robust_broker/robustbroker/Postings" "documents" "[I" .null := D57 (Or.inl (hw _ (List.mem_of_getElem? (i := 18) rfl))) (ty := (.array .int)) (by decide)
  have F57_frequencies : Fld Z h57 b57 "com/example/robust_broker/robustbroker/Postings" "frequencies" "[I" .null := D57 (Or.inl (hw _ (List.mem_of_getElem? (i := 20) rfl))) (ty := (.array .int)) (by decide)
  have F57_size : Fld Z h57 b57 "com/example/robust_broker/robustbroker/Postings" "size" "I" (.int (0 : Int32)) := D57 (Or.inl (hw _ (List.mem_of_getElem? (i := 27) rfl))) (ty := .int) (by decide)
  have F57_collectionFrequency : Fld Z h57 b57 "com/example/robust_broker/robustbroker/Postings" "collectionFrequency" "J" (.long (0 : Int64)) := D57 (Or.inl (hw _ (List.mem_of_getElem? (i := 34) rfl))) (ty := .long) (by decide)
  refine gob st57 ?_
  replace X57 := castX X57 (rfl : _ = 3) (rfl : _ = 14)
  show Go _ _ _ _ _ _ _ (T57.setTop (mkF m 151 #[.val (.int p0), .val (.int p1), .val (.int p2), .val (.int p3), .val (.int p4), .val (.long q5), .second, .val (.int n_), .val (.ref b1), .val (.ref b28), .unset, .unset, .unset, .unset] [(.ref b57)]))
  refine gob (fun _ k => XS.dup X57.here hx rfl (hb hby at_151) rfl rfl k) ?_
  show Go _ _ _ _ _ _ _ (T57.setTop (mkF m 152 #[.val (.int p0), .val (.int p1), .val (.int p2), .val (.int p3), .val (.int p4), .val (.long q5), .second, .val (.int n_), .val (.ref b1), .val (.ref b28), .unset, .unset, .unset, .unset] [(.ref b57), (.ref b57)]))
  obtain ⟨_, _, ⟨T63, L63, k63, n63⟩, -, X63, ⟨Lc63, hQ63, l63, y63, z63⟩, st63⟩ := X57.specialBack hx (y := (⟨"com/example/robust_broker/robustbroker/Postings", "<init>", "()V"⟩ : MethodName)) rfl hown (mvT hZ (hw _ (List.mem_of_getElem? (i := 11) rfl))) (mvT hZ (hw _ (List.mem_of_getElem? (i := 12) rfl))) (mvT hZ (hw _ (List.mem_of_getElem? (i := 13) rfl))) (by decide) (backOf (W := 1) (rm2 l Z a0 hw [] b57 h57 n0 z62 F57_size F57_collectionFrequency A57 F57_documents g61 F57_frequencies) hZ (hw _ (List.mem_of_getElem? (i := 13) rfl)) (hw _ (List.mem_of_getElem? (i := 10) rfl)) (by decide) (by decide)) (g := (mkF m 152 #[.val (.int p0), .val (.int p1), .val (.int p2), .val (.int p3), .val (.int p4), .val (.long q5), .second, .val (.int n_), .val (.ref b1), .val (.ref b28), .unset, .unset, .unset, .unset] [(.ref b57), (.ref b57)])) rfl (by rw [hml]; rfl) (Steps.refl _) (a := b57) (argsL := []) (rest := [(.ref b57)]) (lenOf pd_3 rfl) rfl (by show 2 * 0 + _ ≤ _; exact Nat.le_of_eq rfl) (hb hby at_152) (fun _ _ => ⟨rfl, e57, (by decide : 3 + 2 ≤ _), (by decide : 14 + 4 ≤ _)⟩)
  dsimp only [Pt.U, Pt.locs, Pt.cells, Pt.slots] at X63 l63 y63 z63 st63 hQ63
  replace X63 := castX X63 (y63.trans (rfl : _ = 5)) (z63.trans (rfl : _ = 18))
  obtain ⟨b64, b65, k66, k67, rfl, Nq63, K63, hz68, hz69, hn70, F71, F72, F73, F74, F75, F76⟩ := hQ63
  have N63 : Fr n0 L63 := l63 ▸ Fr.app N55 Nq63
  have c78 := (c58.ext E57)
  have n77 : b1 ≠ b64 := Nat.ne_of_lt (Nat.lt_of_lt_of_le c78.lt hz68)
  have c80 := (V55.ext E57)
  have n79 : b28 ≠ b64 := Nat.ne_of_lt (Nat.lt_of_lt_of_le c80.lt hz68)
  have n81 : b57 ≠ b64 := Nat.ne_of_lt (Nat.lt_of_lt_of_le A57.lt hz68)
  have g82 : n0 ≤ b64 := Nat.le_trans z62 hz68
  have n83 : b1 ≠ b65 := Nat.ne_of_lt (Nat.lt_of_lt_of_le c78.lt hz69)
  have n84 : b28 ≠ b65 := Nat.ne_of_lt (Nat.lt_of_lt_of_le c80.lt hz69)
  have n85 : b57 ≠ b65 := Nat.ne_of_lt (Nat.lt_of_lt_of_le A57.lt hz69)
  have g86 : n0 ≤ b65 := Nat.le_trans z62 hz69
  have z87 : n0 ≤ T63.heap.size := Nat.le_trans z62 K63.1
  refine gob (fun _ k => st63.trans k) ?_
  show Go _ _ _ _ _ _ _ (T63.setTop (mkF m 155 #[.val (.int p0), .val (.int p1), .val (.int p2), .val (.int p3), .val (.int p4), .val (.long q5), .second, .val (.int n_), .val (.ref b1), .val (.ref b28), .unset, .unset, .unset, .unset] [(.ref b57)]))
  refine gob (fun _ k => XS.astore X63.here hx rfl (hb hby at_155) rfl rfl (l' := #[.val (.int p0), .val (.int p1), .val (.int p2), .val (.int p3), .val (.int p4), .val (.long q5), .second, .val (.int n_), .val (.ref b1), .val (.ref b28), .val (.ref b57), .unset, .unset, .unset]) rfl k) ?_
  show Go _ _ _ _ _ _ _ (T63.setTop (mkF m 157 #[.val (.int p0), .val (.int p1), .val (.int p2), .val (.int p3), .val (.int p4), .val (.long q5), .second, .val (.int n_), .val (.ref b1), .val (.ref b28), .val (.ref b57), .unset, .unset, .unset] []))
  refine gob (fun _ k => XS.lconst X63.here hx rfl (hb hby at_157) k) ?_
  show Go _ _ _ _ _ _ _ (T63.setTop (mkF m 158 #[.val (.int p0), .val (.int p1), .val (.int p2), .val (.int p3), .val (.int p4), .val (.long q5), .second, .val (.int n_), .val (.ref b1), .val (.ref b28), .val (.ref b57), .unset, .unset, .unset] [(.long (0 : Int64))]))
  refine gob (fun _ k => XS.lstore X63.here hx rfl (hb hby at_158) rfl (l' := #[.val (.int p0), .val (.int p1), .val (.int p2), .val (.int p3), .val (.int p4), .val (.long q5), .second, .val (.int n_), .val (.ref b1), .val (.ref b28), .val (.ref b57), .val (.long (0 : Int64)), .second, .unset]) rfl k) ?_
  show Go _ _ _ _ _ _ _ (T63.setTop (mkF m 160 #[.val (.int p0), .val (.int p1), .val (.int p2), .val (.int p3), .val (.int p4), .val (.long q5), .second, .val (.int n_), .val (.ref b1), .val (.ref b28), .val (.ref b57), .val (.long (0 : Int64)), .second, .unset] []))
  refine gob (fun _ k => XS.iload X63.here hx rfl (hb hby at_160) rfl k) ?_
  show Go _ _ _ _ _ _ _ (T63.setTop (mkF m 162 #[.val (.int p0), .val (.int p1), .val (.int p2), .val (.int p3), .val (.int p4), .val (.long q5), .second, .val (.int n_), .val (.ref b1), .val (.ref b28), .val (.ref b57), .val (.long (0 : Int64)), .second, .unset] [(.int n_)]))
  by_cases hc162_88 : (0 : Int32) < n_
  · skip
    refine gob (fun _ k => XS.ifNo X63.here hx rfl (hb hby at_162) rfl ((if0 _ _).trans (tlt hc162_88).2.2.2) k) ?_
    show Go _ _ _ _ _ _ _ (T63.setTop (mkF m 165 #[.val (.int p0), .val (.int p1), .val (.int p2), .val (.int p3), .val (.int p4), .val (.long q5), .second, .val (.int n_), .val (.ref b1), .val (.ref b28), .val (.ref b57), .val (.long (0 : Int64)), .second, .unset] []))
    refine gob (fun _ k => XS.aload X63.here hx rfl (hb hby at_165) rfl rfl k) ?_
    show Go _ _ _ _ _ _ _ (T63.setTop (mkF m 167 #[.val (.int p0), .val (.int p1), .val (.int p2), .val (.int p3), .val (.int p4), .val (.long q5), .second, .val (.int n_), .val (.ref b1), .val (.ref b28), .val (.ref b57), .val (.long (0 : Int64)), .second, .unset] [(.ref b57)]))
    refine gob (fun _ k => XS.aload X63.here hx rfl (hb hby at_167) rfl rfl k) ?_
    show Go _ _ _ _ _ _ _ (T63.setTop (mkF m 169 #[.val (.int p0), .val (.int p1), .val (.int p2), .val (.int p3), .val (.int p4), .val (.long q5), .second, .val (.int n_), .val (.ref b1), .val (.ref b28), .val (.ref b57), .val (.long (0 : Int64)), .second, .unset] [(.ref b1), (.ref b57)]))
    refine gob (fun _ k => XS.iconst X63.here hx rfl (hb hby at_169) k) ?_
    show Go _ _ _ _ _ _ _ (T63.setTop (mkF m 170 #[.val (.int p0), .val (.int p1), .val (.int p2), .val (.int p3), .val (.int p4), .val (.long q5), .second, .val (.int n_), .val (.ref b1), .val (.ref b28), .val (.ref b57), .val (.long (0 : Int64)), .second, .unset] [(.int (0 : Int32)), (.ref b1), (.ref b57)]))
    have c90 := (c78.keep K63 (ninS n59 nin0))
    obtain ⟨cl89, Ar89, aq89, S89, N89, H89, G89⟩ := id c90
    have hin89 : ¬ ((0 : Int32) < 0 ∨ cl89.slots.size ≤ ((0 : Int32)).toNatClampNeg) := inb_of S89 ⟨by decide, by decide⟩
    refine gob (X63.iaload hx (j := (0 : Int32)) (v := (.int x4)) (by rw [(rfl : T63.heap = _)]; exact Ar89.1) (State.isArrayOf_alike hZ.alike Ar89.2.1) Ar89.2.2 hin89 (Has.at H89 hin89 rfl) (g := (mkF m 170 #[.val (.int p0), .val (.int p1), .val (.int p2), .val (.int p3), .val (.int p4), .val (.long q5), .second, .val (.int n_), .val (.ref b1), .val (.ref b28), .val (.ref b57), .val (.long (0 : Int64)), .second, .unset] [(.int (0 : Int32)), (.ref b1), (.ref b57)])) rfl rfl (hb hby at_170)) ?_
    show Go _ _ _ _ _ _ _ (T63.setTop (mkF m 171 #[.val (.int p0), .val (.int p1), .val (.int p2), .val (.int p3), .val (.int p4), .val (.long q5), .second, .val (.int n_), .val (.ref b1), .val (.ref b28), .val (.ref b57), .val (.long (0 : Int64)), .second, .unset] [(.int x4), (.ref b57)]))
    refine gob (fun _ k => XS.aload X63.here hx rfl (hb hby at_171) rfl rfl k) ?_
    show Go _ _ _ _ _ _ _ (T63.setTop (mkF m 173 #[.val (.int p0), .val (.int p1), .val (.int p2), .val (.int p3), .val (.int p4), .val (.long q5), .second, .val (.int n_), .val (.ref b1), .val (.ref b28), .val (.ref b57), .val (.long (0 : Int64)), .second, .unset] [(.ref b28), (.int x4), (.ref b57)]))
    refine gob (fun _ k => XS.iconst X63.here hx rfl (hb hby at_173) k) ?_
    show Go _ _ _ _ _ _ _ (T63.setTop (mkF m 174 #[.val (.int p0), .val (.int p1), .val (.int p2), .val (.int p3), .val (.int p4), .val (.long q5), .second, .val (.int n_), .val (.ref b1), .val (.ref b28), .val (.ref b57), .val (.long (0 : Int64)), .second, .unset] [(.int (0 : Int32)), (.ref b28), (.int x4), (.ref b57)]))
    have c92 := (c80.keep K63 (ninS n60 nin0))
    obtain ⟨cl91, Ar91, aq91, S91, N91, H91, G91⟩ := id c92
    have hin91 : ¬ ((0 : Int32) < 0 ∨ cl91.slots.size ≤ ((0 : Int32)).toNatClampNeg) := inb_of S91 ⟨by decide, by decide⟩
    refine gob (X63.iaload hx (j := (0 : Int32)) (v := (.int r32)) (by rw [(rfl : T63.heap = _)]; exact Ar91.1) (State.isArrayOf_alike hZ.alike Ar91.2.1) Ar91.2.2 hin91 (Has.at H91 hin91 rfl) (g := (mkF m 174 #[.val (.int p0), .val (.int p1), .val (.int p2), .val (.int p3), .val (.int p4), .val (.long q5), .second, .val (.int n_), .val (.ref b1), .val (.ref b28), .val (.ref b57), .val (.long (0 : Int64)), .second, .unset] [(.int (0 : Int32)), (.ref b28), (.int x4), (.ref b57)])) rfl rfl (hb hby at_174)) ?_
    show Go _ _ _ _ _ _ _ (T63.setTop (mkF m 175 #[.val (.int p0), .val (.int p1), .val (.int p2), .val (.int p3), .val (.int p4), .val (.long q5), .second, .val (.int n_), .val (.ref b1), .val (.ref b28), .val (.ref b57), .val (.long (0 : Int64)), .second, .unset] [(.int r32), (.int x4), (.ref b57)]))
    have c94 := (A57.keep K63)
    obtain ⟨cq93, kq93, q93a, q93b, q93c⟩ := isOf hZ (rfl : T63.heap = _) c94
    obtain ⟨_, _, ⟨T93, L93, k93, n93⟩, -, X93, ⟨Lc93, hQ93, l93, y93, z93⟩, st93⟩ := X63.virtualBack hx (y := (⟨"com/example/robust_broker/robustbroker/Postings", "add", "(II)V"⟩ : MethodName)) (z := (⟨"com/example/robust_broker/robustbroker/Postings", "add", "(II)V"⟩ : MethodName)) hown (mvT hZ (hw _ (List.mem_of_getElem? (i := 35) rfl))) (mvT hZ (hw _ (List.mem_of_getElem? (i := 36) rfl))) (notFace_of_selects (args := #[]) (mvT hZ (hw _ (List.mem_of_getElem? (i := 38) rfl)))) (mvT hZ (hw _ (List.mem_of_getElem? (i := 38) rfl))) (mvT hZ (hw _ (List.mem_of_getElem? (i := 37) rfl))) (by decide) (backOf (W := 0) (rmadd_2_0 l Z a0 hw [] b57 x4 r32 b64 k66 b65 k67 (0 : Int64) T63.heap n0 z87 F74 F73 F76 F75 F71 F72 n81 n85 hn70 g82 g86 c94 g61) hZ (hw _ (List.mem_of_getElem? (i := 39) rfl)) (hw _ (List.mem_of_getElem? (i := 10) rfl)) (by decide) (by decide)) q93a q93c (g := (mkF m 175 #[.val (.int p0), .val (.int p1), .val (.int p2), .val (.int p3), .val (.int p4), .val (.long q5), .second, .val (.int n_), .val (.ref b1), .val (.ref b28), .val (.ref b57), .val (.long (0 : Int64)), .second, .unset] [(.int r32), (.int x4), (.ref b57)])) rfl (by rw [hml]; rfl) (Steps.refl _) (argsL := [(.int x4), (.int r32)]) (rest := []) (lenOf pd_4 rfl) rfl (by show 2 * 0 + _ ≤ _; exact Nat.le_of_eq rfl) (hb hby at_175) (fun _ _ => ⟨rfl, (rfl : T63.heap = _), (by decide : 5 + 0 ≤ _), (by decide : 18 + 0 ≤ _)⟩)
    dsimp only [Pt.U, Pt.locs, Pt.cells, Pt.slots] at X93 l93 y93 z93 st93 hQ93
    replace X93 := castX X93 (y93.trans (rfl : _ = 5)) (z93.trans (rfl : _ = 18))
    obtain ⟨rfl, Nq93, K93, F95, F96, F97, F98, F99, F100⟩ := hQ93
    have N93 : Fr n0 L93 := l93 ▸ Fr.app N63 Nq93
    have z101 : n0 ≤ T93.heap.size := Nat.le_trans z87 K93.1
    refine gob (fun _ k => st93.trans k) ?_
    show Go _ _ _ _ _ _ _ (T93.setTop (mkF m 178 #[.val (.int p0), .val (.int p1), .val (.int p2), .val (.int p3), .val (.int p4), .val (.long q5), .second, .val (.int n_), .val (.ref b1), .val (.ref b28), .val (.ref b57), .val (.long (0 : Int64)), .second, .unset] []))
    refine gob (fun _ k => XS.lload X93.here hx rfl (hb hby at_178) rfl k) ?_
    show Go _ _ _ _ _ _ _ (T93.setTop (mkF m 180 #[.val (.int p0), .val (.int p1), .val (.int p2), .val (.int p3), .val (.int p4), .val (.long q5), .second, .val (.int n_), .val (.ref b1), .val (.ref b28), .val (.ref b57), .val (.long (0 : Int64)), .second, .unset] [(.long (0 : Int64))]))
    refine gob (fun _ k => XS.aload X93.here hx rfl (hb hby at_180) rfl rfl k) ?_
    show Go _ _ _ _ _ _ _ (T93.setTop (mkF m 182 #[.val (.int p0), .val (.int p1), .val (.int p2), .val (.int p3), .val (.int p4), .val (.long q5), .second, .val (.int n_), .val (.ref b1), .val (.ref b28), .val (.ref b57), .val (.long (0 : Int64)), .second, .unset] [(.ref b28), (.long (0 : Int64))]))
    refine gob (fun _ k => XS.iconst X93.here hx rfl (hb hby at_182) k) ?_
    show Go _ _ _ _ _ _ _ (T93.setTop (mkF m 183 #[.val (.int p0), .val (.int p1), .val (.int p2), .val (.int p3), .val (.int p4), .val (.long q5), .second, .val (.int n_), .val (.ref b1), .val (.ref b28), .val (.ref b57), .val (.long (0 : Int64)), .second, .unset] [(.int (0 : Int32)), (.ref b28), (.long (0 : Int64))]))
    have c103 := (c92.keep K93 (ninS n79 (ninS n84 (ninS n60 nin0))))
    obtain ⟨cl102, Ar102, aq102, S102, N102, H102, G102⟩ := id c103
    have hin102 : ¬ ((0 : Int32) < 0 ∨ cl102.slots.size ≤ ((0 : Int32)).toNatClampNeg) := inb_of S102 ⟨by decide, by decide⟩
    refine gob (X93.iaload hx (j := (0 : Int32)) (v := (.int r32)) (by rw [(rfl : T93.heap = _)]; exact Ar102.1) (State.isArrayOf_alike hZ.alike Ar102.2.1) Ar102.2.2 hin102 (Has.at H102 hin102 rfl) (g := (mkF m 183 #[.val (.int p0), .val (.int p1), .val (.int p2), .val (.int p3), .val (.int p4), .val (.long q5), .second, .val (.int n_), .val (.ref b1), .val (.ref b28), .val (.ref b57), .val (.long (0 : Int64)), .second, .unset] [(.int (0 : Int32)), (.ref b28), (.long (0 : Int64))])) rfl rfl (hb hby at_183)) ?_
    show Go _ _ _ _ _ _ _ (T93.setTop (mkF m 184 #[.val (.int p0), .val (.int p1), .val (.int p2), .val (.int p3), .val (.int p4), .val (.long q5), .second, .val (.int n_), .val (.ref b1), .val (.ref b28), .val (.ref b57), .val (.long (0 : Int64)), .second, .unset] [(.int r32), (.long (0 : Int64))]))
    refine gob (fun _ k => XS.i2l X93.here hx rfl (hb hby at_184) rfl k) ?_
    show Go _ _ _ _ _ _ _ (T93.setTop (mkF m 185 #[.val (.int p0), .val (.int p1), .val (.int p2), .val (.int p3), .val (.int p4), .val (.long q5), .second, .val (.int n_), .val (.ref b1), .val (.ref b28), .val (.ref b57), .val (.long (0 : Int64)), .second, .unset] [(.long (r32.toInt64)), (.long (0 : Int64))]))
    refine gob (fun _ k => XS.ladd X93.here hx rfl (hb hby at_185) rfl k) ?_
    show Go _ _ _ _ _ _ _ (T93.setTop (mkF m 186 #[.val (.int p0), .val (.int p1), .val (.int p2), .val (.int p3), .val (.int p4), .val (.long q5), .second, .val (.int n_), .val (.ref b1), .val (.ref b28), .val (.ref b57), .val (.long (0 : Int64)), .second, .unset] [(.long ((0 : Int64) + (r32.toInt64)))]))
    refine gob (fun _ k => XS.lstore X93.here hx rfl (hb hby at_186) rfl (l' := #[.val (.int p0), .val (.int p1), .val (.int p2), .val (.int p3), .val (.int p4), .val (.long q5), .second, .val (.int n_), .val (.ref b1), .val (.ref b28), .val (.ref b57), .val (.long ((0 : Int64) + (r32.toInt64))), .second, .unset]) rfl k) ?_
    show Go _ _ _ _ _ _ _ (T93.setTop (mkF m 188 #[.val (.int p0), .val (.int p1), .val (.int p2), .val (.int p3), .val (.int p4), .val (.long q5), .second, .val (.int n_), .val (.ref b1), .val (.ref b28), .val (.ref b57), .val (.long ((0 : Int64) + (r32.toInt64))), .second, .unset] []))
    generalize hx104 : ((0 : Int64) + (r32.toInt64)) = x104
    show Go _ _ _ _ _ _ _ (T93.setTop (mkF m 188 #[.val (.int p0), .val (.int p1), .val (.int p2), .val (.int p3), .val (.int p4), .val (.long q5), .second, .val (.int n_), .val (.ref b1), .val (.ref b28), .val (.ref b57), .val (.long x104), .second, .unset] []))
    refine gob (fun _ k => XS.iload X93.here hx rfl (hb hby at_188) rfl k) ?_
    show Go _ _ _ _ _ _ _ (T93.setTop (mkF m 190 #[.val (.int p0), .val (.int p1), .val (.int p2), .val (.int p3), .val (.int p4), .val (.long q5), .second, .val (.int n_), .val (.ref b1), .val (.ref b28), .val (.ref b57), .val (.long x104), .second, .unset] [(.int n_)]))
    refine gob (fun _ k => XS.iconst X93.here hx rfl (hb hby at_190) k) ?_
    show Go _ _ _ _ _ _ _ (T93.setTop (mkF m 191 #[.val (.int p0), .val (.int p1), .val (.int p2), .val (.int p3), .val (.int p4), .val (.long q5), .second, .val (.int n_), .val (.ref b1), .val (.ref b28), .val (.ref b57), .val (.long x104), .second, .unset] [(.int (1 : Int32)), (.int n_)]))
    by_cases hc191_105 : (1 : Int32) < n_
    · skip
      refine gob (fun _ k => XS.icmpNo X93.here hx rfl (hb hby at_191) rfl (tlt hc191_105).2.2.2 k) ?_
      show Go _ _ _ _ _ _ _ (T93.setTop (mkF m 194 #[.val (.int p0), .val (.int p1), .val (.int p2), .val (.int p3), .val (.int p4), .val (.long q5), .second, .val (.int n_), .val (.ref b1), .val (.ref b28), .val (.ref b57), .val (.long x104), .second, .unset] []))
      refine gob (fun _ k => XS.aload X93.here hx rfl (hb hby at_194) rfl rfl k) ?_
      show Go _ _ _ _ _ _ _ (T93.setTop (mkF m 196 #[.val (.int p0), .val (.int p1), .val (.int p2), .val (.int p3), .val (.int p4), .val (.long q5), .second, .val (.int n_), .val (.ref b1), .val (.ref b28), .val (.ref b57), .val (.long x104), .second, .unset] [(.ref b57)]))
      refine gob (fun _ k => XS.aload X93.here hx rfl (hb hby at_196) rfl rfl k) ?_
      show Go _ _ _ _ _ _ _ (T93.setTop (mkF m 198 #[.val (.int p0), .val (.int p1), .val (.int p2), .val (.int p3), .val (.int p4), .val (.long q5), .second, .val (.int n_), .val (.ref b1), .val (.ref b28), .val (.ref b57), .val (.long x104), .second, .unset] [(.ref b1), (.ref b57)]))
      refine gob (fun _ k => XS.iconst X93.here hx rfl (hb hby at_198) k) ?_
      show Go _ _ _ _ _ _ _ (T93.setTop (mkF m 199 #[.val (.int p0), .val (.int p1), .val (.int p2), .val (.int p3), .val (.int p4), .val (.long q5), .second, .val (.int n_), .val (.ref b1), .val (.ref b28), .val (.ref b57), .val (.long x104), .second, .unset] [(.int (1 : Int32)), (.ref b1), (.ref b57)]))
      have c107 := (c90.keep K93 (ninS n77 (ninS n83 (ninS n59 nin0))))
      obtain ⟨cl106, Ar106, aq106, S106, N106, H106, G106⟩ := id c107
      have hin106 : ¬ ((1 : Int32) < 0 ∨ cl106.slots.size ≤ ((1 : Int32)).toNatClampNeg) := inb_of S106 ⟨by decide, by decide⟩
      refine gob (X93.iaload hx (j := (1 : Int32)) (v := (.int x9)) (by rw [(rfl : T93.heap = _)]; exact Ar106.1) (State.isArrayOf_alike hZ.alike Ar106.2.1) Ar106.2.2 hin106 (Has.at H106 hin106 rfl) (g := (mkF m 199 #[.val (.int p0), .val (.int p1), .val (.int p2), .val (.int p3), .val (.int p4), .val (.long q5), .second, .val (.int n_), .val (.ref b1), .val (.ref b28), .val (.ref b57), .val (.long x104), .second, .unset] [(.int (1 : Int32)), (.ref b1), (.ref b57)])) rfl rfl (hb hby at_199)) ?_
      show Go _ _ _ _ _ _ _ (T93.setTop (mkF m 200 #[.val (.int p0), .val (.int p1), .val (.int p2), .val (.int p3), .val (.int p4), .val (.long q5), .second, .val (.int n_), .val (.ref b1), .val (.ref b28), .val (.ref b57), .val (.long x104), .second, .unset] [(.int x9), (.ref b57)]))
      refine gob (fun _ k => XS.aload X93.here hx rfl (hb hby at_200) rfl rfl k) ?_
      show Go _ _ _ _ _ _ _ (T93.setTop (mkF m 202 #[.val (.int p0), .val (.int p1), .val (.int p2), .val (.int p3), .val (.int p4), .val (.long q5), .second, .val (.int n_), .val (.ref b1), .val (.ref b28), .val (.ref b57), .val (.long x104), .second, .unset] [(.ref b28), (.int x9), (.ref b57)]))
      refine gob (fun _ k => XS.iconst X93.here hx rfl (hb hby at_202) k) ?_
      show Go _ _ _ _ _ _ _ (T93.setTop (mkF m 203 #[.val (.int p0), .val (.int p1), .val (.int p2), .val (.int p3), .val (.int p4), .val (.long q5), .second, .val (.int n_), .val (.ref b1), .val (.ref b28), .val (.ref b57), .val (.long x104), .second, .unset] [(.int (1 : Int32)), (.ref b28), (.int x9), (.ref b57)]))
      obtain ⟨cl108, Ar108, aq108, S108, N108, H108, G108⟩ := id c103
      have hin108 : ¬ ((1 : Int32) < 0 ∨ cl108.slots.size ≤ ((1 : Int32)).toNatClampNeg) := inb_of S108 ⟨by decide, by decide⟩
      refine gob (X93.iaload hx (j := (1 : Int32)) (v := (.int r37)) (by rw [(rfl : T93.heap = _)]; exact Ar108.1) (State.isArrayOf_alike hZ.alike Ar108.2.1) Ar108.2.2 hin108 (Has.at H108 hin108 rfl) (g := (mkF m 203 #[.val (.int p0), .val (.int p1), .val (.int p2), .val (.int p3), .val (.int p4), .val (.long q5), .second, .val (.int n_), .val (.ref b1), .val (.ref b28), .val (.ref b57), .val (.long x104), .second, .unset] [(.int (1 : Int32)), (.ref b28), (.int x9), (.ref b57)])) rfl rfl (hb hby at_203)) ?_
      show Go _ _ _ _ _ _ _ (T93.setTop (mkF m 204 #[.val (.int p0), .val (.int p1), .val (.int p2), .val (.int p3), .val (.int p4), .val (.long q5), .second, .val (.int n_), .val (.ref b1), .val (.ref b28), .val (.ref b57), .val (.long x104), .second, .unset] [(.int r37), (.int x9), (.ref b57)]))
      have c110 := (c94.keep K93)
      obtain ⟨cq109, kq109, q109a, q109b, q109c⟩ := isOf hZ (rfl : T93.heap = _) c110
      obtain ⟨_, _, ⟨T109, L109, k109, n109⟩, -, X109, ⟨Lc109, hQ109, l109, y109, z109⟩, st109⟩ := X93.virtualBack hx (y := (⟨"com/example/robust_broker/robustbroker/Postings", "add", "(II)V"⟩ : MethodName)) (z := (⟨"com/example/robust_broker/robustbroker/Postings", "add", "(II)V"⟩ : MethodName)) hown (mvT hZ (hw _ (List.mem_of_getElem? (i := 35) rfl))) (mvT hZ (hw _ (List.mem_of_getElem? (i := 36) rfl))) (notFace_of_selects (args := #[]) (mvT hZ (hw _ (List.mem_of_getElem? (i := 38) rfl)))) (mvT hZ (hw _ (List.mem_of_getElem? (i := 38) rfl))) (mvT hZ (hw _ (List.mem_of_getElem? (i := 37) rfl))) (by decide) (backOf (W := 0) (rmadd_2_1 l Z a0 hw [] b57 x9 r37 b64 k66 x4 b65 k67 r32 ((0 : Int64) + (r32.toInt64)) T93.heap n0 z101 F95 F96 F97 F98 F99 F100 n81 n85 hn70 g82 g86 c110 g61) hZ (hw _ (List.mem_of_getElem? (i := 39) rfl)) (hw _ (List.mem_of_getElem? (i := 10) rfl)) (by decide) (by decide)) q109a q109c (g := (mkF m 204 #[.val (.int p0), .val (.int p1), .val (.int p2), .val (.int p3), .val (.int p4), .val (.long q5), .second, .val (.int n_), .val (.ref b1), .val (.ref b28), .val (.ref b57), .val (.long x104), .second, .unset] [(.int r37), (.int x9), (.ref b57)])) rfl (by rw [hml]; rfl) (Steps.refl _) (argsL := [(.int x9), (.int r37)]) (rest := []) (lenOf pd_4 rfl) rfl (by show 2 * 0 + _ ≤ _; exact Nat.le_of_eq rfl) (hb hby at_204) (fun _ _ => ⟨rfl, (rfl : T93.heap = _), (by decide : 5 + 0 ≤ _), (by decide : 18 + 0 ≤ _)⟩)
      dsimp only [Pt.U, Pt.locs, Pt.cells, Pt.slots] at X109 l109 y109 z109 st109 hQ109
      replace X109 := castX X109 (y109.trans (rfl : _ = 5)) (z109.trans (rfl : _ = 18))
      obtain ⟨rfl, Nq109, K109, F111, F112, F113, F114, F115, F116⟩ := hQ109
      have N109 : Fr n0 L109 := l109 ▸ Fr.app N93 Nq109
      have z117 : n0 ≤ T109.heap.size := Nat.le_trans z101 K109.1
      refine gob (fun _ k => st109.trans k) ?_
      show Go _ _ _ _ _ _ _ (T109.setTop (mkF m 207 #[.val (.int p0), .val (.int p1), .val (.int p2), .val (.int p3), .val (.int p4), .val (.long q5), .second, .val (.int n_), .val (.ref b1), .val (.ref b28), .val (.ref b57), .val (.long x104), .second, .unset] []))
      refine gob (fun _ k => XS.lload X109.here hx rfl (hb hby at_207) rfl k) ?_
      show Go _ _ _ _ _ _ _ (T109.setTop (mkF m 209 #[.val (.int p0), .val (.int p1), .val (.int p2), .val (.int p3), .val (.int p4), .val (.long q5), .second, .val (.int n_), .val (.ref b1), .val (.ref b28), .val (.ref b57), .val (.long x104), .second, .unset] [(.long x104)]))
      refine gob (fun _ k => XS.aload X109.here hx rfl (hb hby at_209) rfl rfl k) ?_
      show Go _ _ _ _ _ _ _ (T109.setTop (mkF m 211 #[.val (.int p0), .val (.int p1), .val (.int p2), .val (.int p3), .val (.int p4), .val (.long q5), .second, .val (.int n_), .val (.ref b1), .val (.ref b28), .val (.ref b57), .val (.long x104), .second, .unset] [(.ref b28), (.long x104)]))
      refine gob (fun _ k => XS.iconst X109.here hx rfl (hb hby at_211) k) ?_
      show Go _ _ _ _ _ _ _ (T109.setTop (mkF m 212 #[.val (.int p0), .val (.int p1), .val (.int p2), .val (.int p3), .val (.int p4), .val (.long q5), .second, .val (.int n_), .val (.ref b1), .val (.ref b28), .val (.ref b57), .val (.long x104), .second, .unset] [(.int (1 : Int32)), (.ref b28), (.long x104)]))
      have c119 := (c103.keep K109 (ninS n79 (ninS n84 (ninS n60 nin0))))
      obtain ⟨cl118, Ar118, aq118, S118, N118, H118, G118⟩ := id c119
      have hin118 : ¬ ((1 : Int32) < 0 ∨ cl118.slots.size ≤ ((1 : Int32)).toNatClampNeg) := inb_of S118 ⟨by decide, by decide⟩
      refine gob (X109.iaload hx (j := (1 : Int32)) (v := (.int r37)) (by rw [(rfl : T109.heap = _)]; exact Ar118.1) (State.isArrayOf_alike hZ.alike Ar118.2.1) Ar118.2.2 hin118 (Has.at H118 hin118 rfl) (g := (mkF m 212 #[.val (.int p0), .val (.int p1), .val (.int p2), .val (.int p3), .val (.int p4), .val (.long q5), .second, .val (.int n_), .val (.ref b1), .val (.ref b28), .val (.ref b57), .val (.long x104), .second, .unset] [(.int (1 : Int32)), (.ref b28), (.long x104)])) rfl rfl (hb hby at_212)) ?_
      show Go _ _ _ _ _ _ _ (T109.setTop (mkF m 213 #[.val (.int p0), .val (.int p1), .val (.int p2), .val (.int p3), .val (.int p4), .val (.long q5), .second, .val (.int n_), .val (.ref b1), .val (.ref b28), .val (.ref b57), .val (.long x104), .second, .unset] [(.int r37), (.long x104)]))
      refine gob (fun _ k => XS.i2l X109.here hx rfl (hb hby at_213) rfl k) ?_
      show Go _ _ _ _ _ _ _ (T109.setTop (mkF m 214 #[.val (.int p0), .val (.int p1), .val (.int p2), .val (.int p3), .val (.int p4), .val (.long q5), .second, .val (.int n_), .val (.ref b1), .val (.ref b28), .val (.ref b57), .val (.long x104), .second, .unset] [(.long (r37.toInt64)), (.long x104)]))
      refine gob (fun _ k => XS.ladd X109.here hx rfl (hb hby at_214) rfl k) ?_
      show Go _ _ _ _ _ _ _ (T109.setTop (mkF m 215 #[.val (.int p0), .val (.int p1), .val (.int p2), .val (.int p3), .val (.int p4), .val (.long q5), .second, .val (.int n_), .val (.ref b1), .val (.ref b28), .val (.ref b57), .val (.long x104), .second, .unset] [(.long (x104 + (r37.toInt64)))]))
      refine gob (fun _ k => XS.lstore X109.here hx rfl (hb hby at_215) rfl (l' := #[.val (.int p0), .val (.int p1), .val (.int p2), .val (.int p3), .val (.int p4), .val (.long q5), .second, .val (.int n_), .val (.ref b1), .val (.ref b28), .val (.ref b57), .val (.long (x104 + (r37.toInt64))), .second, .unset]) rfl k) ?_
      show Go _ _ _ _ _ _ _ (T109.setTop (mkF m 217 #[.val (.int p0), .val (.int p1), .val (.int p2), .val (.int p3), .val (.int p4), .val (.long q5), .second, .val (.int n_), .val (.ref b1), .val (.ref b28), .val (.ref b57), .val (.long (x104 + (r37.toInt64))), .second, .unset] []))
      generalize hx120 : (x104 + (r37.toInt64)) = x120
      show Go _ _ _ _ _ _ _ (T109.setTop (mkF m 217 #[.val (.int p0), .val (.int p1), .val (.int p2), .val (.int p3), .val (.int p4), .val (.long q5), .second, .val (.int n_), .val (.ref b1), .val (.ref b28), .val (.ref b57), .val (.long x120), .second, .unset] []))
      refine gob (fun _ k => XS.iload X109.here hx rfl (hb hby at_217) rfl k) ?_
      show Go _ _ _ _ _ _ _ (T109.setTop (mkF m 219 #[.val (.int p0), .val (.int p1), .val (.int p2), .val (.int p3), .val (.int p4), .val (.long q5), .second, .val (.int n_), .val (.ref b1), .val (.ref b28), .val (.ref b57), .val (.long x120), .second, .unset] [(.int n_)]))
      refine gob (fun _ k => XS.iconst X109.here hx rfl (hb hby at_219) k) ?_
      show Go _ _ _ _ _ _ _ (T109.setTop (mkF m 220 #[.val (.int p0), .val (.int p1), .val (.int p2), .val (.int p3), .val (.int p4), .val (.long q5), .second, .val (.int n_), .val (.ref b1), .val (.ref b28), .val (.ref b57), .val (.long x120), .second, .unset] [(.int (2 : Int32)), (.int n_)]))
      by_cases hc220_121 : (2 : Int32) < n_
      · skip
        refine gob (fun _ k => XS.icmpNo X109.here hx rfl (hb hby at_220) rfl (tlt hc220_121).2.2.2 k) ?_
        show Go _ _ _ _ _ _ _ (T109.setTop (mkF m 223 #[.val (.int p0), .val (.int p1), .val (.int p2), .val (.int p3), .val (.int p4), .val (.long q5), .second, .val (.int n_), .val (.ref b1), .val (.ref b28), .val (.ref b57), .val (.long x120), .second, .unset] []))
        refine gob (fun _ k => XS.aload X109.here hx rfl (hb hby at_223) rfl rfl k) ?_
        show Go _ _ _ _ _ _ _ (T109.setTop (mkF m 225 #[.val (.int p0), .val (.int p1), .val (.int p2), .val (.int p3), .val (.int p4), .val (.long q5), .second, .val (.int n_), .val (.ref b1), .val (.ref b28), .val (.ref b57), .val (.long x120), .second, .unset] [(.ref b57)]))
        refine gob (fun _ k => XS.aload X109.here hx rfl (hb hby at_225) rfl rfl k) ?_
        show Go _ _ _ _ _ _ _ (T109.setTop (mkF m 227 #[.val (.int p0), .val (.int p1), .val (.int p2), .val (.int p3), .val (.int p4), .val (.long q5), .second, .val (.int n_), .val (.ref b1), .val (.ref b28), .val (.ref b57), .val (.long x120), .second, .unset] [(.ref b1), (.ref b57)]))
        refine gob (fun _ k => XS.iconst X109.here hx rfl (hb hby at_227) k) ?_
        show Go _ _ _ _ _ _ _ (T109.setTop (mkF m 228 #[.val (.int p0), .val (.int p1), .val (.int p2), .val (.int p3), .val (.int p4), .val (.long q5), .second, .val (.int n_), .val (.ref b1), .val (.ref b28), .val (.ref b57), .val (.long x120), .second, .unset] [(.int (2 : Int32)), (.ref b1), (.ref b57)]))
        have c123 := (c107.keep K109 (ninS n77 (ninS n83 (ninS n59 nin0))))
        obtain ⟨cl122, Ar122, aq122, S122, N122, H122, G122⟩ := id c123
        have hin122 : ¬ ((2 : Int32) < 0 ∨ cl122.slots.size ≤ ((2 : Int32)).toNatClampNeg) := inb_of S122 ⟨by decide, by decide⟩
        refine gob (X109.iaload hx (j := (2 : Int32)) (v := (.int x14)) (by rw [(rfl : T109.heap = _)]; exact Ar122.1) (State.isArrayOf_alike hZ.alike Ar122.2.1) Ar122.2.2 hin122 (Has.at H122 hin122 rfl) (g := (mkF m 228 #[.val (.int p0), .val (.int p1), .val (.int p2), .val (.int p3), .val (.int p4), .val (.long q5), .second, .val (.int n_), .val (.ref b1), .val (.ref b28), .val (.ref b57), .val (.long x120), .second, .unset] [(.int (2 : Int32)), (.ref b1), (.ref b57)])) rfl rfl (hb hby at_228)) ?_
        show Go _ _ _ _ _ _ _ (T109.setTop (mkF m 229 #[.val (.int p0), .val (.int p1), .val (.int p2), .val (.int p3), .val (.int p4), .val (.long q5), .second, .val (.int n_), .val (.ref b1), .val (.ref b28), .val (.ref b57), .val (.long x120), .second, .unset] [(.int x14), (.ref b57)]))
        refine gob (fun _ k => XS.aload X109.here hx rfl (hb hby at_229) rfl rfl k) ?_
        show Go _ _ _ _ _ _ _ (T109.setTop (mkF m 231 #[.val (.int p0), .val (.int p1), .val (.int p2), .val (.int p3), .val (.int p4), .val (.long q5), .second, .val (.int n_), .val (.ref b1), .val (.ref b28), .val (.ref b57), .val (.long x120), .second, .unset] [(.ref b28), (.int x14), (.ref b57)]))
        refine gob (fun _ k => XS.iconst X109.here hx rfl (hb hby at_231) k) ?_
        show Go _ _ _ _ _ _ _ (T109.setTop (mkF m 232 #[.val (.int p0), .val (.int p1), .val (.int p2), .val (.int p3), .val (.int p4), .val (.long q5), .second, .val (.int n_), .val (.ref b1), .val (.ref b28), .val (.ref b57), .val (.long x120), .second, .unset] [(.int (2 : Int32)), (.ref b28), (.int x14), (.ref b57)]))
        obtain ⟨cl124, Ar124, aq124, S124, N124, H124, G124⟩ := id c119
        have hin124 : ¬ ((2 : Int32) < 0 ∨ cl124.slots.size ≤ ((2 : Int32)).toNatClampNeg) := inb_of S124 ⟨by decide, by decide⟩
        refine gob (X109.iaload hx (j := (2 : Int32)) (v := (.int r42)) (by rw [(rfl : T109.heap = _)]; exact Ar124.1) (State.isArrayOf_alike hZ.alike Ar124.2.1) Ar124.2.2 hin124 (Has.at H124 hin124 rfl) (g := (mkF m 232 #[.val (.int p0), .val (.int p1), .val (.int p2), .val (.int p3), .val (.int p4), .val (.long q5), .second, .val (.int n_), .val (.ref b1), .val (.ref b28), .val (.ref b57), .val (.long x120), .second, .unset] [(.int (2 : Int32)), (.ref b28), (.int x14), (.ref b57)])) rfl rfl (hb hby at_232)) ?_
        show Go _ _ _ _ _ _ _ (T109.setTop (mkF m 233 #[.val (.int p0), .val (.int p1), .val (.int p2), .val (.int p3), .val (.int p4), .val (.long q5), .second, .val (.int n_), .val (.ref b1), .val (.ref b28), .val (.ref b57), .val (.long x120), .second, .unset] [(.int r42), (.int x14), (.ref b57)]))
        have c126 := (c110.keep K109)
        obtain ⟨cq125, kq125, q125a, q125b, q125c⟩ := isOf hZ (rfl : T109.heap = _) c126
        obtain ⟨_, _, ⟨T125, L125, k125, n125⟩, -, X125, ⟨Lc125, hQ125, l125, y125, z125⟩, st125⟩ := X109.virtualBack hx (y := (⟨"com/example/robust_broker/robustbroker/Postings", "add", "(II)V"⟩ : MethodName)) (z := (⟨"com/example/robust_broker/robustbroker/Postings", "add", "(II)V"⟩ : MethodName)) hown (mvT hZ (hw _ (List.mem_of_getElem? (i := 35) rfl))) (mvT hZ (hw _ (List.mem_of_getElem? (i := 36) rfl))) (notFace_of_selects (args := #[]) (mvT hZ (hw _ (List.mem_of_getElem? (i := 38) rfl)))) (mvT hZ (hw _ (List.mem_of_getElem? (i := 38) rfl))) (mvT hZ (hw _ (List.mem_of_getElem? (i := 37) rfl))) (by decide) (backOf (W := 0) (rmadd_2_2 l Z a0 hw [] b57 x14 r42 b64 k66 x4 x9 b65 k67 r32 r37 (((0 : Int64) + (r32.toInt64)) + (r37.toInt64)) T109.heap n0 z117 F111 F112 F113 F114 F115 F116 n81 n85 hn70 c126 g61) hZ (hw _ (List.mem_of_getElem? (i := 39) rfl)) (hw _ (List.mem_of_getElem? (i := 10) rfl)) (by decide) (by decide)) q125a q125c (g := (mkF m 233 #[.val (.int p0), .val (.int p1), .val (.int p2), .val (.int p3), .val (.int p4), .val (.long q5), .second, .val (.int n_), .val (.ref b1), .val (.ref b28), .val (.ref b57), .val (.long x120), .second, .unset] [(.int r42), (.int x14), (.ref b57)])) rfl (by rw [hml]; rfl) (Steps.refl _) (argsL := [(.int x14), (.int r42)]) (rest := []) (lenOf pd_4 rfl) rfl (by show 2 * 0 + _ ≤ _; exact Nat.le_of_eq rfl) (hb hby at_233) (fun _ _ => ⟨rfl, (rfl : T109.heap = _), (by decide : 5 + 2 ≤ _), (by decide : 18 + 8 ≤ _)⟩)
        dsimp only [Pt.U, Pt.locs, Pt.cells, Pt.slots] at X125 l125 y125 z125 st125 hQ125
        replace X125 := castX X125 (y125.trans (rfl : _ = 7)) (z125.trans (rfl : _ = 26))
        obtain ⟨b127, b128, k129, k130, rfl, Nq125, K125, hz131, hz132, hn133, F134, F135, F136, F137, F138, F139⟩ := hQ125
        have N125 : Fr n0 L125 := l125 ▸ Fr.app N109 Nq125
        have n140 : b1 ≠ b127 := Nat.ne_of_lt (Nat.lt_of_lt_of_le c123.lt hz131)
        have n141 : b28 ≠ b127 := Nat.ne_of_lt (Nat.lt_of_lt_of_le c119.lt hz131)
        have n142 : b57 ≠ b127 := Nat.ne_of_lt (Nat.lt_of_lt_of_le c126.lt hz131)
        have n143 : b64 ≠ b127 := Nat.ne_of_lt (Nat.lt_of_lt_of_le F112.lt hz131)
        have n144 : b65 ≠ b127 := Nat.ne_of_lt (Nat.lt_of_lt_of_le F114.lt hz131)
        have g145 : n0 ≤ b127 := Nat.le_trans z117 hz131
        have n146 : b1 ≠ b128 := Nat.ne_of_lt (Nat.lt_of_lt_of_le c123.lt hz132)
        have n147 : b28 ≠ b128 := Nat.ne_of_lt (Nat.lt_of_lt_of_le c119.lt hz132)
        have n148 : b57 ≠ b128 := Nat.ne_of_lt (Nat.lt_of_lt_of_le c126.lt hz132)
        have n149 : b64 ≠ b128 := Nat.ne_of_lt (Nat.lt_of_lt_of_le F112.lt hz132)
        have n150 : b65 ≠ b128 := Nat.ne_of_lt (Nat.lt_of_lt_of_le F114.lt hz132)
        have g151 : n0 ≤ b128 := Nat.le_trans z117 hz132
        have z152 : n0 ≤ T125.heap.size := Nat.le_trans z117 K125.1
        refine gob (fun _ k => st125.trans k) ?_
        show Go _ _ _ _ _ _ _ (T125.setTop (mkF m 236 #[.val (.int p0), .val (.int p1), .val (.int p2), .val (.int p3), .val (.int p4), .val (.long q5), .second, .val (.int n_), .val (.ref b1), .val (.ref b28), .val (.ref b57), .val (.long x120), .second, .unset] []))
        refine gob (fun _ k => XS.lload X125.here hx rfl (hb hby at_236) rfl k) ?_
        show Go _ _ _ _ _ _ _ (T125.setTop (mkF m 238 #[.val (.int p0), .val (.int p1), .val (.int p2), .val (.int p3), .val (.int p4), .val (.long q5), .second, .val (.int n_), .val (.ref b1), .val (.ref b28), .val (.ref b57), .val (.long x120), .second, .unset] [(.long x120)]))
        refine gob (fun _ k => XS.aload X125.here hx rfl (hb hby at_238) rfl rfl k) ?_
        show Go _ _ _ _ _ _ _ (T125.setTop (mkF m 240 #[.val (.int p0), .val (.int p1), .val (.int p2), .val (.int p3), .val (.int p4), .val (.long q5), .second, .val (.int n_), .val (.ref b1), .val (.ref b28), .val (.ref b57), .val (.long x120), .second, .unset] [(.ref b28), (.long x120)]))
        refine gob (fun _ k => XS.iconst X125.here hx rfl (hb hby at_240) k) ?_
        show Go _ _ _ _ _ _ _ (T125.setTop (mkF m 241 #[.val (.int p0), .val (.int p1), .val (.int p2), .val (.int p3), .val (.int p4), .val (.long q5), .second, .val (.int n_), .val (.ref b1), .val (.ref b28), .val (.ref b57), .val (.long x120), .second, .unset] [(.int (2 : Int32)), (.ref b28), (.long x120)]))
        have c154 := (c119.keep K125 (ninS n60 nin0))
        obtain ⟨cl153, Ar153, aq153, S153, N153, H153, G153⟩ := id c154
        have hin153 : ¬ ((2 : Int32) < 0 ∨ cl153.slots.size ≤ ((2 : Int32)).toNatClampNeg) := inb_of S153 ⟨by decide, by decide⟩
        refine gob (X125.iaload hx (j := (2 : Int32)) (v := (.int r42)) (by rw [(rfl : T125.heap = _)]; exact Ar153.1) (State.isArrayOf_alike hZ.alike Ar153.2.1) Ar153.2.2 hin153 (Has.at H153 hin153 rfl) (g := (mkF m 241 #[.val (.int p0), .val (.int p1), .val (.int p2), .val (.int p3), .val (.int p4), .val (.long q5), .second, .val (.int n_), .val (.ref b1), .val (.ref b28), .val (.ref b57), .val (.long x120), .second, .unset] [(.int (2 : Int32)), (.ref b28), (.long x120)])) rfl rfl (hb hby at_241)) ?_
        show Go _ _ _ _ _ _ _ (T125.setTop (mkF m 242 #[.val (.int p0), .val (.int p1), .val (.int p2), .val (.int p3), .val (.int p4), .val (.long q5), .second, .val (.int n_), .val (.ref b1), .val (.ref b28), .val (.ref b57), .val (.long x120), .second, .unset] [(.int r42), (.long x120)]))
        refine gob (fun _ k => XS.i2l X125.here hx rfl (hb hby at_242) rfl k) ?_
        show Go _ _ _ _ _ _ _ (T125.setTop (mkF m 243 #[.val (.int p0), .val (.int p1), .val (.int p2), .val (.int p3), .val (.int p4), .val (.long q5), .second, .val (.int n_), .val (.ref b1), .val (.ref b28), .val (.ref b57), .val (.long x120), .second, .unset] [(.long (r42.toInt64)), (.long x120)]))
        refine gob (fun _ k => XS.ladd X125.here hx rfl (hb hby at_243) rfl k) ?_
        show Go _ _ _ _ _ _ _ (T125.setTop (mkF m 244 #[.val (.int p0), .val (.int p1), .val (.int p2), .val (.int p3), .val (.int p4), .val (.long q5), .second, .val (.int n_), .val (.ref b1), .val (.ref b28), .val (.ref b57), .val (.long x120), .second, .unset] [(.long (x120 + (r42.toInt64)))]))
        refine gob (fun _ k => XS.lstore X125.here hx rfl (hb hby at_244) rfl (l' := #[.val (.int p0), .val (.int p1), .val (.int p2), .val (.int p3), .val (.int p4), .val (.long q5), .second, .val (.int n_), .val (.ref b1), .val (.ref b28), .val (.ref b57), .val (.long (x120 + (r42.toInt64))), .second, .unset]) rfl k) ?_
        show Go _ _ _ _ _ _ _ (T125.setTop (mkF m 246 #[.val (.int p0), .val (.int p1), .val (.int p2), .val (.int p3), .val (.int p4), .val (.long q5), .second, .val (.int n_), .val (.ref b1), .val (.ref b28), .val (.ref b57), .val (.long (x120 + (r42.toInt64))), .second, .unset] []))
        generalize hx155 : (x120 + (r42.toInt64)) = x155
        show Go _ _ _ _ _ _ _ (T125.setTop (mkF m 246 #[.val (.int p0), .val (.int p1), .val (.int p2), .val (.int p3), .val (.int p4), .val (.long q5), .second, .val (.int n_), .val (.ref b1), .val (.ref b28), .val (.ref b57), .val (.long x155), .second, .unset] []))
        refine gob (fun _ k => XS.iload X125.here hx rfl (hb hby at_246) rfl k) ?_
        show Go _ _ _ _ _ _ _ (T125.setTop (mkF m 248 #[.val (.int p0), .val (.int p1), .val (.int p2), .val (.int p3), .val (.int p4), .val (.long q5), .second, .val (.int n_), .val (.ref b1), .val (.ref b28), .val (.ref b57), .val (.long x155), .second, .unset] [(.int n_)]))
        refine gob (fun _ k => XS.iconst X125.here hx rfl (hb hby at_248) k) ?_
        show Go _ _ _ _ _ _ _ (T125.setTop (mkF m 249 #[.val (.int p0), .val (.int p1), .val (.int p2), .val (.int p3), .val (.int p4), .val (.long q5), .second, .val (.int n_), .val (.ref b1), .val (.ref b28), .val (.ref b57), .val (.long x155), .second, .unset] [(.int (3 : Int32)), (.int n_)]))
        by_cases hc249_156 : (3 : Int32) < n_
        · skip
          refine gob (fun _ k => XS.icmpNo X125.here hx rfl (hb hby at_249) rfl (tlt hc249_156).2.2.2 k) ?_
          show Go _ _ _ _ _ _ _ (T125.setTop (mkF m 252 #[.val (.int p0), .val (.int p1), .val (.int p2), .val (.int p3), .val (.int p4), .val (.long q5), .second, .val (.int n_), .val (.ref b1), .val (.ref b28), .val (.ref b57), .val (.long x155), .second, .unset] []))
          refine gob (fun _ k => XS.aload X125.here hx rfl (hb hby at_252) rfl rfl k) ?_
          show Go _ _ _ _ _ _ _ (T125.setTop (mkF m 254 #[.val (.int p0), .val (.int p1), .val (.int p2), .val (.int p3), .val (.int p4), .val (.long q5), .second, .val (.int n_), .val (.ref b1), .val (.ref b28), .val (.ref b57), .val (.long x155), .second, .unset] [(.ref b57)]))
          refine gob (fun _ k => XS.aload X125.here hx rfl (hb hby at_254) rfl rfl k) ?_
          show Go _ _ _ _ _ _ _ (T125.setTop (mkF m 256 #[.val (.int p0), .val (.int p1), .val (.int p2), .val (.int p3), .val (.int p4), .val (.long q5), .second, .val (.int n_), .val (.ref b1), .val (.ref b28), .val (.ref b57), .val (.long x155), .second, .unset] [(.ref b1), (.ref b57)]))
          refine gob (fun _ k => XS.iconst X125.here hx rfl (hb hby at_256) k) ?_
          show Go _ _ _ _ _ _ _ (T125.setTop (mkF m 257 #[.val (.int p0), .val (.int p1), .val (.int p2), .val (.int p3), .val (.int p4), .val (.long q5), .second, .val (.int n_), .val (.ref b1), .val (.ref b28), .val (.ref b57), .val (.long x155), .second, .unset] [(.int (3 : Int32)), (.ref b1), (.ref b57)]))
          have c158 := (c123.keep K125 (ninS n59 nin0))
          obtain ⟨cl157, Ar157, aq157, S157, N157, H157, G157⟩ := id c158
          have hin157 : ¬ ((3 : Int32) < 0 ∨ cl157.slots.size ≤ ((3 : Int32)).toNatClampNeg) := inb_of S157 ⟨by decide, by decide⟩
          refine gob (X125.iaload hx (j := (3 : Int32)) (v := (.int x19)) (by rw [(rfl : T125.heap = _)]; exact Ar157.1) (State.isArrayOf_alike hZ.alike Ar157.2.1) Ar157.2.2 hin157 (Has.at H157 hin157 rfl) (g := (mkF m 257 #[.val (.int p0), .val (.int p1), .val (.int p2), .val (.int p3), .val (.int p4), .val (.long q5), .second, .val (.int n_), .val (.ref b1), .val (.ref b28), .val (.ref b57), .val (.long x155), .second, .unset] [(.int (3 : Int32)), (.ref b1), (.ref b57)])) rfl rfl (hb hby at_257)) ?_
          show Go _ _ _ _ _ _ _ (T125.setTop (mkF m 258 #[.val (.int p0), .val (.int p1), .val (.int p2), .val (.int p3), .val (.int p4), .val (.long q5), .second, .val (.int n_), .val (.ref b1), .val (.ref b28), .val (.ref b57), .val (.long x155), .second, .unset] [(.int x19), (.ref b57)]))
          refine gob (fun _ k => XS.aload X125.here hx rfl (hb hby at_258) rfl rfl k) ?_
          show Go _ _ _ _ _ _ _ (T125.setTop (mkF m 260 #[.val (.int p0), .val (.int p1), .val (.int p2), .val (.int p3), .val (.int p4), .val (.long q5), .second, .val (.int n_), .val (.ref b1), .val (.ref b28), .val (.ref b57), .val (.long x155), .second, .unset] [(.ref b28), (.int x19), (.ref b57)]))
          refine gob (fun _ k => XS.iconst X125.here hx rfl (hb hby at_260) k) ?_
          show Go _ _ _ _ _ _ _ (T125.setTop (mkF m 261 #[.val (.int p0), .val (.int p1), .val (.int p2), .val (.int p3), .val (.int p4), .val (.long q5), .second, .val (.int n_), .val (.ref b1), .val (.ref b28), .val (.ref b57), .val (.long x155), .second, .unset] [(.int (3 : Int32)), (.ref b28), (.int x19), (.ref b57)]))
          obtain ⟨cl159, Ar159, aq159, S159, N159, H159, G159⟩ := id c154
          have hin159 : ¬ ((3 : Int32) < 0 ∨ cl159.slots.size ≤ ((3 : Int32)).toNatClampNeg) := inb_of S159 ⟨by decide, by decide⟩
          refine gob (X125.iaload hx (j := (3 : Int32)) (v := (.int r47)) (by rw [(rfl : T125.heap = _)]; exact Ar159.1) (State.isArrayOf_alike hZ.alike Ar159.2.1) Ar159.2.2 hin159 (Has.at H159 hin159 rfl) (g := (mkF m 261 #[.val (.int p0), .val (.int p1), .val (.int p2), .val (.int p3), .val (.int p4), .val (.long q5), .second, .val (.int n_), .val (.ref b1), .val (.ref b28), .val (.ref b57), .val (.long x155), .second, .unset] [(.int (3 : Int32)), (.ref b28), (.int x19), (.ref b57)])) rfl rfl (hb hby at_261)) ?_
          show Go _ _ _ _ _ _ _ (T125.setTop (mkF m 262 #[.val (.int p0), .val (.int p1), .val (.int p2), .val (.int p3), .val (.int p4), .val (.long q5), .second, .val (.int n_), .val (.ref b1), .val (.ref b28), .val (.ref b57), .val (.long x155), .second, .unset] [(.int r47), (.int x19), (.ref b57)]))
          have c161 := (c126.keep K125)
          obtain ⟨cq160, kq160, q160a, q160b, q160c⟩ := isOf hZ (rfl : T125.heap = _) c161
          obtain ⟨_, _, ⟨T160, L160, k160, n160⟩, -, X160, ⟨Lc160, hQ160, l160, y160, z160⟩, st160⟩ := X125.virtualBack hx (y := (⟨"com/example/robust_broker/robustbroker/Postings", "add", "(II)V"⟩ : MethodName)) (z := (⟨"com/example/robust_broker/robustbroker/Postings", "add", "(II)V"⟩ : MethodName)) hown (mvT hZ (hw _ (List.mem_of_getElem? (i := 35) rfl))) (mvT hZ (hw _ (List.mem_of_getElem? (i := 36) rfl))) (notFace_of_selects (args := #[]) (mvT hZ (hw _ (List.mem_of_getElem? (i := 38) rfl)))) (mvT hZ (hw _ (List.mem_of_getElem? (i := 38) rfl))) (mvT hZ (hw _ (List.mem_of_getElem? (i := 37) rfl))) (by decide) (backOf (W := 0) (rmadd_4_3 l Z a0 hw [] b57 x19 r47 b127 k129 x4 x9 x14 b128 k130 r32 r37 r42 ((((0 : Int64) + (r32.toInt64)) + (r37.toInt64)) + (r42.toInt64)) T125.heap n0 z152 F134 F138 F135 F139 F136 F137 n142 n148 hn133 g145 g151 c161 g61) hZ (hw _ (List.mem_of_getElem? (i := 39) rfl)) (hw _ (List.mem_of_getElem? (i := 10) rfl)) (by decide) (by decide)) q160a q160c (g := (mkF m 262 #[.val (.int p0), .val (.int p1), .val (.int p2), .val (.int p3), .val (.int p4), .val (.long q5), .second, .val (.int n_), .val (.ref b1), .val (.ref b28), .val (.ref b57), .val (.long x155), .second, .unset] [(.int r47), (.int x19), (.ref b57)])) rfl (by rw [hml]; rfl) (Steps.refl _) (argsL := [(.int x19), (.int r47)]) (rest := []) (lenOf pd_4 rfl) rfl (by show 2 * 0 + _ ≤ _; exact Nat.le_of_eq rfl) (hb hby at_262) (fun _ _ => ⟨rfl, (rfl : T125.heap = _), (by decide : 7 + 0 ≤ _), (by decide : 26 + 0 ≤ _)⟩)
          dsimp only [Pt.U, Pt.locs, Pt.cells, Pt.slots] at X160 l160 y160 z160 st160 hQ160
          replace X160 := castX X160 (y160.trans (rfl : _ = 7)) (z160.trans (rfl : _ = 26))
          obtain ⟨rfl, Nq160, K160, F162, F163, F164, F165, F166, F167⟩ := hQ160
          have N160 : Fr n0 L160 := l160 ▸ Fr.app N125 Nq160
          have z168 : n0 ≤ T160.heap.size := Nat.le_trans z152 K160.1
          refine gob (fun _ k => st160.trans k) ?_
          show Go _ _ _ _ _ _ _ (T160.setTop (mkF m 265 #[.val (.int p0), .val (.int p1), .val (.int p2), .val (.int p3), .val (.int p4), .val (.long q5), .second, .val (.int n_), .val (.ref b1), .val (.ref b28), .val (.ref b57), .val (.long x155), .second, .unset] []))
          refine gob (fun _ k => XS.lload X160.here hx rfl (hb hby at_265) rfl k) ?_
          show Go _ _ _ _ _ _ _ (T160.setTop (mkF m 267 #[.val (.int p0), .val (.int p1), .val (.int p2), .val (.int p3), .val (.int p4), .val (.long q5), .second, .val (.int n_), .val (.ref b1), .val (.ref b28), .val (.ref b57), .val (.long x155), .second, .unset] [(.long x155)]))
          refine gob (fun _ k => XS.aload X160.here hx rfl (hb hby at_267) rfl rfl k) ?_
          show Go _ _ _ _ _ _ _ (T160.setTop (mkF m 269 #[.val (.int p0), .val (.int p1), .val (.int p2), .val (.int p3), .val (.int p4), .val (.long q5), .second, .val (.int n_), .val (.ref b1), .val (.ref b28), .val (.ref b57), .val (.long x155), .second, .unset] [(.ref b28), (.long x155)]))
          refine gob (fun _ k => XS.iconst X160.here hx rfl (hb hby at_269) k) ?_
          show Go _ _ _ _ _ _ _ (T160.setTop (mkF m 270 #[.val (.int p0), .val (.int p1), .val (.int p2), .val (.int p3), .val (.int p4), .val (.long q5), .second, .val (.int n_), .val (.ref b1), .val (.ref b28), .val (.ref b57), .val (.long x155), .second, .unset] [(.int (3 : Int32)), (.ref b28), (.long x155)]))
          have c170 := (c154.keep K160 (ninS n141 (ninS n147 (ninS n60 nin0))))
          obtain ⟨cl169, Ar169, aq169, S169, N169, H169, G169⟩ := id c170
          have hin169 : ¬ ((3 : Int32) < 0 ∨ cl169.slots.size ≤ ((3 : Int32)).toNatClampNeg) := inb_of S169 ⟨by decide, by decide⟩
          refine gob (X160.iaload hx (j := (3 : Int32)) (v := (.int r47)) (by rw [(rfl : T160.heap = _)]; exact Ar169.1) (State.isArrayOf_alike hZ.alike Ar169.2.1) Ar169.2.2 hin169 (Has.at H169 hin169 rfl) (g := (mkF m 270 #[.val (.int p0), .val (.int p1), .val (.int p2), .val (.int p3), .val (.int p4), .val (.long q5), .second, .val (.int n_), .val (.ref b1), .val (.ref b28), .val (.ref b57), .val (.long x155), .second, .unset] [(.int (3 : Int32)), (.ref b28), (.long x155)])) rfl rfl (hb hby at_270)) ?_
          show Go _ _ _ _ _ _ _ (T160.setTop (mkF m 271 #[.val (.int p0), .val (.int p1), .val (.int p2), .val (.int p3), .val (.int p4), .val (.long q5), .second, .val (.int n_), .val (.ref b1), .val (.ref b28), .val (.ref b57), .val (.long x155), .second, .unset] [(.int r47), (.long x155)]))
          refine gob (fun _ k => XS.i2l X160.here hx rfl (hb hby at_271) rfl k) ?_
          show Go _ _ _ _ _ _ _ (T160.setTop (mkF m 272 #[.val (.int p0), .val (.int p1), .val (.int p2), .val (.int p3), .val (.int p4), .val (.long q5), .second, .val (.int n_), .val (.ref b1), .val (.ref b28), .val (.ref b57), .val (.long x155), .second, .unset] [(.long (r47.toInt64)), (.long x155)]))
          refine gob (fun _ k => XS.ladd X160.here hx rfl (hb hby at_272) rfl k) ?_
          show Go _ _ _ _ _ _ _ (T160.setTop (mkF m 273 #[.val (.int p0), .val (.int p1), .val (.int p2), .val (.int p3), .val (.int p4), .val (.long q5), .second, .val (.int n_), .val (.ref b1), .val (.ref b28), .val (.ref b57), .val (.long x155), .second, .unset] [(.long (x155 + (r47.toInt64)))]))
          refine gob (fun _ k => XS.lstore X160.here hx rfl (hb hby at_273) rfl (l' := #[.val (.int p0), .val (.int p1), .val (.int p2), .val (.int p3), .val (.int p4), .val (.long q5), .second, .val (.int n_), .val (.ref b1), .val (.ref b28), .val (.ref b57), .val (.long (x155 + (r47.toInt64))), .second, .unset]) rfl k) ?_
          show Go _ _ _ _ _ _ _ (T160.setTop (mkF m 275 #[.val (.int p0), .val (.int p1), .val (.int p2), .val (.int p3), .val (.int p4), .val (.long q5), .second, .val (.int n_), .val (.ref b1), .val (.ref b28), .val (.ref b57), .val (.long (x155 + (r47.toInt64))), .second, .unset] []))
          generalize hx171 : (x155 + (r47.toInt64)) = x171
          show Go _ _ _ _ _ _ _ (T160.setTop (mkF m 275 #[.val (.int p0), .val (.int p1), .val (.int p2), .val (.int p3), .val (.int p4), .val (.long q5), .second, .val (.int n_), .val (.ref b1), .val (.ref b28), .val (.ref b57), .val (.long x171), .second, .unset] []))
          refine gob (fun _ k => XS.iload X160.here hx rfl (hb hby at_275) rfl k) ?_
          show Go _ _ _ _ _ _ _ (T160.setTop (mkF m 277 #[.val (.int p0), .val (.int p1), .val (.int p2), .val (.int p3), .val (.int p4), .val (.long q5), .second, .val (.int n_), .val (.ref b1), .val (.ref b28), .val (.ref b57), .val (.long x171), .second, .unset] [(.int n_)]))
          refine gob (fun _ k => XS.iconst X160.here hx rfl (hb hby at_277) k) ?_
          show Go _ _ _ _ _ _ _ (T160.setTop (mkF m 278 #[.val (.int p0), .val (.int p1), .val (.int p2), .val (.int p3), .val (.int p4), .val (.long q5), .second, .val (.int n_), .val (.ref b1), .val (.ref b28), .val (.ref b57), .val (.long x171), .second, .unset] [(.int (4 : Int32)), (.int n_)]))
          by_cases hc278_172 : (4 : Int32) < n_
          · skip
            refine gob (fun _ k => XS.icmpNo X160.here hx rfl (hb hby at_278) rfl (tlt hc278_172).2.2.2 k) ?_
            show Go _ _ _ _ _ _ _ (T160.setTop (mkF m 281 #[.val (.int p0), .val (.int p1), .val (.int p2), .val (.int p3), .val (.int p4), .val (.long q5), .second, .val (.int n_), .val (.ref b1), .val (.ref b28), .val (.ref b57), .val (.long x171), .second, .unset] []))
            refine gob (fun _ k => XS.aload X160.here hx rfl (hb hby at_281) rfl rfl k) ?_
            show Go _ _ _ _ _ _ _ (T160.setTop (mkF m 283 #[.val (.int p0), .val (.int p1), .val (.int p2), .val (.int p3), .val (.int p4), .val (.long q5), .second, .val (.int n_), .val (.ref b1), .val (.ref b28), .val (.ref b57), .val (.long x171), .second, .unset] [(.ref b57)]))
            refine gob (fun _ k => XS.aload X160.here hx rfl (hb hby at_283) rfl rfl k) ?_
            show Go _ _ _ _ _ _ _ (T160.setTop (mkF m 285 #[.val (.int p0), .val (.int p1), .val (.int p2), .val (.int p3), .val (.int p4), .val (.long q5), .second, .val (.int n_), .val (.ref b1), .val (.ref b28), .val (.ref b57), .val (.long x171), .second, .unset] [(.ref b1), (.ref b57)]))
            refine gob (fun _ k => XS.iconst X160.here hx rfl (hb hby at_285) k) ?_
            show Go _ _ _ _ _ _ _ (T160.setTop (mkF m 286 #[.val (.int p0), .val (.int p1), .val (.int p2), .val (.int p3), .val (.int p4), .val (.long q5), .second, .val (.int n_), .val (.ref b1), .val (.ref b28), .val (.ref b57), .val (.long x171), .second, .unset] [(.int (4 : Int32)), (.ref b1), (.ref b57)]))
            have c174 := (c158.keep K160 (ninS n140 (ninS n146 (ninS n59 nin0))))
            obtain ⟨cl173, Ar173, aq173, S173, N173, H173, G173⟩ := id c174
            have hin173 : ¬ ((4 : Int32) < 0 ∨ cl173.slots.size ≤ ((4 : Int32)).toNatClampNeg) := inb_of S173 ⟨by decide, by decide⟩
            refine gob (X160.iaload hx (j := (4 : Int32)) (v := (.int x24)) (by rw [(rfl : T160.heap = _)]; exact Ar173.1) (State.isArrayOf_alike hZ.alike Ar173.2.1) Ar173.2.2 hin173 (Has.at H173 hin173 rfl) (g := (mkF m 286 #[.val (.int p0), .val (.int p1), .val (.int p2), .val (.int p3), .val (.int p4), .val (.long q5), .second, .val (.int n_), .val (.ref b1), .val (.ref b28), .val (.ref b57), .val (.long x171), .second, .unset] [(.int (4 : Int32)), (.ref b1), (.ref b57)])) rfl rfl (hb hby at_286)) ?_
            show Go _ _ _ _ _ _ _ (T160.setTop (mkF m 287 #[.val (.int p0), .val (.int p1), .val (.int p2), .val (.int p3), .val (.int p4), .val (.long q5), .second, .val (.int n_), .val (.ref b1), .val (.ref b28), .val (.ref b57), .val (.long x171), .second, .unset] [(.int x24), (.ref b57)]))
            refine gob (fun _ k => XS.aload X160.here hx rfl (hb hby at_287) rfl rfl k) ?_
            show Go _ _ _ _ _ _ _ (T160.setTop (mkF m 289 #[.val (.int p0), .val (.int p1), .val (.int p2), .val (.int p3), .val (.int p4), .val (.long q5), .second, .val (.int n_), .val (.ref b1), .val (.ref b28), .val (.ref b57), .val (.long x171), .second, .unset] [(.ref b28), (.int x24), (.ref b57)]))
            refine gob (fun _ k => XS.iconst X160.here hx rfl (hb hby at_289) k) ?_
            show Go _ _ _ _ _ _ _ (T160.setTop (mkF m 290 #[.val (.int p0), .val (.int p1), .val (.int p2), .val (.int p3), .val (.int p4), .val (.long q5), .second, .val (.int n_), .val (.ref b1), .val (.ref b28), .val (.ref b57), .val (.long x171), .second, .unset] [(.int (4 : Int32)), (.ref b28), (.int x24), (.ref b57)]))
            obtain ⟨cl175, Ar175, aq175, S175, N175, H175, G175⟩ := id c170
            have hin175 : ¬ ((4 : Int32) < 0 ∨ cl175.slots.size ≤ ((4 : Int32)).toNatClampNeg) := inb_of S175 ⟨by decide, by decide⟩
            refine gob (X160.iaload hx (j := (4 : Int32)) (v := (.int r52)) (by rw [(rfl : T160.heap = _)]; exact Ar175.1) (State.isArrayOf_alike hZ.alike Ar175.2.1) Ar175.2.2 hin175 (Has.at H175 hin175 rfl) (g := (mkF m 290 #[.val (.int p0), .val (.int p1), .val (.int p2), .val (.int p3), .val (.int p4), .val (.long q5), .second, .val (.int n_), .val (.ref b1), .val (.ref b28), .val (.ref b57), .val (.long x171), .second, .unset] [(.int (4 : Int32)), (.ref b28), (.int x24), (.ref b57)])) rfl rfl (hb hby at_290)) ?_
            show Go _ _ _ _ _ _ _ (T160.setTop (mkF m 291 #[.val (.int p0), .val (.int p1), .val (.int p2), .val (.int p3), .val (.int p4), .val (.long q5), .second, .val (.int n_), .val (.ref b1), .val (.ref b28), .val (.ref b57), .val (.long x171), .second, .unset] [(.int r52), (.int x24), (.ref b57)]))
            have c177 := (c161.keep K160)
            obtain ⟨cq176, kq176, q176a, q176b, q176c⟩ := isOf hZ (rfl : T160.heap = _) c177
            obtain ⟨_, _, ⟨T176, L176, k176, n176⟩, -, X176, ⟨Lc176, hQ176, l176, y176, z176⟩, st176⟩ := X160.virtualBack hx (y := (⟨"com/example/robust_broker/robustbroker/Postings", "add", "(II)V"⟩ : MethodName)) (z := (⟨"com/example/robust_broker/robustbroker/Postings", "add", "(II)V"⟩ : MethodName)) hown (mvT hZ (hw _ (List.mem_of_getElem? (i := 35) rfl))) (mvT hZ (hw _ (List.mem_of_getElem? (i := 36) rfl))) (notFace_of_selects (args := #[]) (mvT hZ (hw _ (List.mem_of_getElem? (i := 38) rfl)))) (mvT hZ (hw _ (List.mem_of_getElem? (i := 38) rfl))) (mvT hZ (hw _ (List.mem_of_getElem? (i := 37) rfl))) (by decide) (backOf (W := 0) (rmadd_4_4 l Z a0 hw [] b57 x24 r52 b127 k129 x4 x9 x14 x19 b128 k130 r32 r37 r42 r47 (((((0 : Int64) + (r32.toInt64)) + (r37.toInt64)) + (r42.toInt64)) + (r47.toInt64)) T160.heap n0 z168 F162 F163 F164 F165 F166 F167 n142 n148 hn133 c177 g61) hZ (hw _ (List.mem_of_getElem? (i := 39) rfl)) (hw _ (List.mem_of_getElem? (i := 10) rfl)) (by decide) (by decide)) q176a q176c (g := (mkF m 291 #[.val (.int p0), .val (.int p1), .val (.int p2), .val (.int p3), .val (.int p4), .val (.long q5), .second, .val (.int n_), .val (.ref b1), .val (.ref b28), .val (.ref b57), .val (.long x171), .second, .unset] [(.int r52), (.int x24), (.ref b57)])) rfl (by rw [hml]; rfl) (Steps.refl _) (argsL := [(.int x24), (.int r52)]) (rest := []) (lenOf pd_4 rfl) rfl (by show 2 * 0 + _ ≤ _; exact Nat.le_of_eq rfl) (hb hby at_291) (fun _ _ => ⟨rfl, (rfl : T160.heap = _), (by decide : 7 + 2 ≤ _), (by decide : 26 + 16 ≤ _)⟩)
            dsimp only [Pt.U, Pt.locs, Pt.cells, Pt.slots] at X176 l176 y176 z176 st176 hQ176
            replace X176 := castX X176 (y176.trans (rfl : _ = 9)) (z176.trans (rfl : _ = 42))
            obtain ⟨b178, b179, k180, k181, rfl, Nq176, K176, hz182, hz183, hn184, F185, F186, F187, F188, F189, F190⟩ := hQ176
            have N176 : Fr n0 L176 := l176 ▸ Fr.app N160 Nq176
            have n191 : b1 ≠ b178 := Nat.ne_of_lt (Nat.lt_of_lt_of_le c174.lt hz182)
            have n192 : b28 ≠ b178 := Nat.ne_of_lt (Nat.lt_of_lt_of_le c170.lt hz182)
            have n193 : b57 ≠ b178 := Nat.ne_of_lt (Nat.lt_of_lt_of_le c177.lt hz182)
            have c195 := ((F112.keep K125 (ninS (Ne.symm n81) nin0)).keep K160 (ninS n143 (ninS n149 (ninS (Ne.symm n81) nin0))))
            have n194 : b64 ≠ b178 := Nat.ne_of_lt (Nat.lt_of_lt_of_le c195.lt hz182)
            have c197 := ((F114.keep K125 (ninS (Ne.symm n85) nin0)).keep K160 (ninS n144 (ninS n150 (ninS (Ne.symm n85) nin0))))
            have n196 : b65 ≠ b178 := Nat.ne_of_lt (Nat.lt_of_lt_of_le c197.lt hz182)
            have n198 : b127 ≠ b178 := Nat.ne_of_lt (Nat.lt_of_lt_of_le F163.lt hz182)
            have n199 : b128 ≠ b178 := Nat.ne_of_lt (Nat.lt_of_lt_of_le F165.lt hz182)
            have g200 : n0 ≤ b178 := Nat.le_trans z168 hz182
            have n201 : b1 ≠ b179 := Nat.ne_of_lt (Nat.lt_of_lt_of_le c174.lt hz183)
            have n202 : b28 ≠ b179 := Nat.ne_of_lt (Nat.lt_of_lt_of_le c170.lt hz183)
            have n203 : b57 ≠ b179 := Nat.ne_of_lt (Nat.lt_of_lt_of_le c177.lt hz183)
            have n204 : b64 ≠ b179 := Nat.ne_of_lt (Nat.lt_of_lt_of_le c195.lt hz183)
            have n205 : b65 ≠ b179 := Nat.ne_of_lt (Nat.lt_of_lt_of_le c197.lt hz183)
            have n206 : b127 ≠ b179 := Nat.ne_of_lt (Nat.lt_of_lt_of_le F163.lt hz183)
            have n207 : b128 ≠ b179 := Nat.ne_of_lt (Nat.lt_of_lt_of_le F165.lt hz183)
            have g208 : n0 ≤ b179 := Nat.le_trans z168 hz183
            have z209 : n0 ≤ T176.heap.size := Nat.le_trans z168 K176.1
            refine gob (fun _ k => st176.trans k) ?_
            show Go _ _ _ _ _ _ _ (T176.setTop (mkF m 294 #[.val (.int p0), .val (.int p1), .val (.int p2), .val (.int p3), .val (.int p4), .val (.long q5), .second, .val (.int n_), .val (.ref b1), .val (.ref b28), .val (.ref b57), .val (.long x171), .second, .unset] []))
            refine gob (fun _ k => XS.lload X176.here hx rfl (hb hby at_294) rfl k) ?_
            show Go _ _ _ _ _ _ _ (T176.setTop (mkF m 296 #[.val (.int p0), .val (.int p1), .val (.int p2), .val (.int p3), .val (.int p4), .val (.long q5), .second, .val (.int n_), .val (.ref b1), .val (.ref b28), .val (.ref b57), .val (.long x171), .second, .unset] [(.long x171)]))
            refine gob (fun _ k => XS.aload X176.here hx rfl (hb hby at_296) rfl rfl k) ?_
            show Go _ _ _ _ _ _ _ (T176.setTop (mkF m 298 #[.val (.int p0), .val (.int p1), .val (.int p2), .val (.int p3), .val (.int p4), .val (.long q5), .second, .val (.int n_), .val (.ref b1), .val (.ref b28), .val (.ref b57), .val (.long x171), .second, .unset] [(.ref b28), (.long x171)]))
            refine gob (fun _ k => XS.iconst X176.here hx rfl (hb hby at_298) k) ?_
            show Go _ _ _ _ _ _ _ (T176.setTop (mkF m 299 #[.val (.int p0), .val (.int p1), .val (.int p2), .val (.int p3), .val (.int p4), .val (.long q5), .second, .val (.int n_), .val (.ref b1), .val (.ref b28), .val (.ref b57), .val (.long x171), .second, .unset] [(.int (4 : Int32)), (.ref b28), (.long x171)]))
            have c211 := (c170.keep K176 (ninS n60 nin0))
            obtain ⟨cl210, Ar210, aq210, S210, N210, H210, G210⟩ := id c211
            have hin210 : ¬ ((4 : Int32) < 0 ∨ cl210.slots.size ≤ ((4 : Int32)).toNatClampNeg) := inb_of S210 ⟨by decide, by decide⟩
            refine gob (X176.iaload hx (j := (4 : Int32)) (v := (.int r52)) (by rw [(rfl : T176.heap = _)]; exact Ar210.1) (State.isArrayOf_alike hZ.alike Ar210.2.1) Ar210.2.2 hin210 (Has.at H210 hin210 rfl) (g := (mkF m 299 #[.val (.int p0), .val (.int p1), .val (.int p2), .val (.int p3), .val (.int p4), .val (.long q5), .second, .val (.int n_), .val (.ref b1), .val (.ref b28), .val (.ref b57), .val (.long x171), .second, .unset] [(.int (4 : Int32)), (.ref b28), (.long x171)])) rfl rfl (hb hby at_299)) ?_
            show Go _ _ _ _ _ _ _ (T176.setTop (mkF m 300 #[.val (.int p0), .val (.int p1), .val (.int p2), .val (.int p3), .val (.int p4), .val (.long q5), .second, .val (.int n_), .val (.ref b1), .val (.ref b28), .val (.ref b57), .val (.long x171), .second, .unset] [(.int r52), (.long x171)]))
            refine gob (fun _ k => XS.i2l X176.here hx rfl (hb hby at_300) rfl k) ?_
            show Go _ _ _ _ _ _ _ (T176.setTop (mkF m 301 #[.val (.int p0), .val (.int p1), .val (.int p2), .val (.int p3), .val (.int p4), .val (.long q5), .second, .val (.int n_), .val (.ref b1), .val (.ref b28), .val (.ref b57), .val (.long x171), .second, .unset] [(.long (r52.toInt64)), (.long x171)]))
            refine gob (fun _ k => XS.ladd X176.here hx rfl (hb hby at_301) rfl k) ?_
            show Go _ _ _ _ _ _ _ (T176.setTop (mkF m 302 #[.val (.int p0), .val (.int p1), .val (.int p2), .val (.int p3), .val (.int p4), .val (.long q5), .second, .val (.int n_), .val (.ref b1), .val (.ref b28), .val (.ref b57), .val (.long x171), .second, .unset] [(.long (x171 + (r52.toInt64)))]))
            refine gob (fun _ k => XS.lstore X176.here hx rfl (hb hby at_302) rfl (l' := #[.val (.int p0), .val (.int p1), .val (.int p2), .val (.int p3), .val (.int p4), .val (.long q5), .second, .val (.int n_), .val (.ref b1), .val (.ref b28), .val (.ref b57), .val (.long (x171 + (r52.toInt64))), .second, .unset]) rfl k) ?_
            show Go _ _ _ _ _ _ _ (T176.setTop (mkF m 304 #[.val (.int p0), .val (.int p1), .val (.int p2), .val (.int p3), .val (.int p4), .val (.long q5), .second, .val (.int n_), .val (.ref b1), .val (.ref b28), .val (.ref b57), .val (.long (x171 + (r52.toInt64))), .second, .unset] []))
            generalize hx212 : (x171 + (r52.toInt64)) = x212
            show Go _ _ _ _ _ _ _ (T176.setTop (mkF m 304 #[.val (.int p0), .val (.int p1), .val (.int p2), .val (.int p3), .val (.int p4), .val (.long q5), .second, .val (.int n_), .val (.ref b1), .val (.ref b28), .val (.ref b57), .val (.long x212), .second, .unset] []))
            refine gob (fun _ k => XS.aload X176.here hx rfl (hb hby at_304) rfl rfl k) ?_
            show Go _ _ _ _ _ _ _ (T176.setTop (mkF m 306 #[.val (.int p0), .val (.int p1), .val (.int p2), .val (.int p3), .val (.int p4), .val (.long q5), .second, .val (.int n_), .val (.ref b1), .val (.ref b28), .val (.ref b57), .val (.long x212), .second, .unset] [(.ref b57)]))
            have c214 := (c177.keep K176)
            obtain ⟨cq213, kq213, q213a, q213b, q213c⟩ := isOf hZ (rfl : T176.heap = _) c214
            obtain ⟨_, _, ⟨T213, L213, k213, n213⟩, -, X213, ⟨Lc213, hQ213, l213, y213, z213⟩, st213⟩ := X176.virtualBack hx (y := (⟨"com/example/robust_broker/robustbroker/Postings", "size", "()I"⟩ : MethodName)) (z := (⟨"com/example/robust_broker/robustbroker/Postings", "size", "()I"⟩ : MethodName)) hown (mvT hZ (hw _ (List.mem_of_getElem? (i := 21) rfl))) (mvT hZ (hw _ (List.mem_of_getElem? (i := 22) rfl))) (notFace_of_selects (args := #[]) (mvT hZ (hw _ (List.mem_of_getElem? (i := 24) rfl)))) (mvT hZ (hw _ (List.mem_of_getElem? (i := 24) rfl))) (mvT hZ (hw _ (List.mem_of_getElem? (i := 23) rfl))) (by decide) (backOf (W := 0) (rm4 l Z a0 hw [] b57 (5 : Int32) T176.heap n0 z209 F187) hZ (hw _ (List.mem_of_getElem? (i := 25) rfl)) (hw _ (List.mem_of_getElem? (i := 10) rfl)) (by decide) (by decide)) q213a q213c (g := (mkF m 306 #[.val (.int p0), .val (.int p1), .val (.int p2), .val (.int p3), .val (.int p4), .val (.long q5), .second, .val (.int n_), .val (.ref b1), .val (.ref b28), .val (.ref b57), .val (.long x212), .second, .unset] [(.ref b57)])) rfl (by rw [hml]; rfl) (Steps.refl _) (argsL := []) (rest := []) (lenOf pd_5 rfl) rfl (by show 2 * 0 + _ ≤ _; exact Nat.le_of_eq rfl) (hb hby at_306) (fun _ _ => ⟨rfl, (rfl : T176.heap = _), (by decide : 9 + 0 ≤ _), (by decide : 42 + 0 ≤ _)⟩)
            dsimp only [Pt.U, Pt.locs, Pt.cells, Pt.slots] at X213 l213 y213 z213 st213 hQ213
            replace X213 := castX X213 (y213.trans (rfl : _ = 9)) (z213.trans (rfl : _ = 42))
            obtain ⟨r213, rfl, hr213, Nq213, e213⟩ := hQ213
            have N213 : Fr n0 L213 := l213 ▸ Fr.app N176 Nq213
            refine gob (fun _ k => st213.trans k) ?_
            show Go _ _ _ _ _ _ _ (T213.setTop (mkF m 309 #[.val (.int p0), .val (.int p1), .val (.int p2), .val (.int p3), .val (.int p4), .val (.long q5), .second, .val (.int n_), .val (.ref b1), .val (.ref b28), .val (.ref b57), .val (.long x212), .second, .unset] [(.int r213)]))
            refine gob (fun _ k => XS.iload X213.here hx rfl (hb hby at_309) rfl k) ?_
            show Go _ _ _ _ _ _ _ (T213.setTop (mkF m 311 #[.val (.int p0), .val (.int p1), .val (.int p2), .val (.int p3), .val (.int p4), .val (.long q5), .second, .val (.int n_), .val (.ref b1), .val (.ref b28), .val (.ref b57), .val (.long x212), .second, .unset] [(.int n_), (.int r213)]))
            have hd216 : r213 = n_ := ld_0_311_215 p0 n_ r213 hn_ hc162_88 hc191_105 hc220_121 hc249_156 hc278_172 hr213
            refine gob (fun _ k => XS.icmpYes X213.here hx rfl (pc0 := 311) (pc' := 316) rfl (hb hby at_311) rfl (teq hd216).1 (by decide) (by decide) k) ?_
            show Go _ _ _ _ _ _ _ (T213.setTop (mkF m 316 #[.val (.int p0), .val (.int p1), .val (.int p2), .val (.int p3), .val (.int p4), .val (.long q5), .second, .val (.int n_), .val (.ref b1), .val (.ref b28), .val (.ref b57), .val (.long x212), .second, .unset] []))
            refine gob (fun _ k => XS.aload X213.here hx rfl (hb hby at_316) rfl rfl k) ?_
            show Go _ _ _ _ _ _ _ (T213.setTop (mkF m 318 #[.val (.int p0), .val (.int p1), .val (.int p2), .val (.int p3), .val (.int p4), .val (.long q5), .second, .val (.int n_), .val (.ref b1), .val (.ref b28), .val (.ref b57), .val (.long x212), .second, .unset] [(.ref b57)]))
            obtain ⟨cq217, kq217, q217a, q217b, q217c⟩ := isOf hZ e213 c214
            obtain ⟨_, _, ⟨T217, L217, k217, n217⟩, -, X217, ⟨Lc217, hQ217, l217, y217, z217⟩, st217⟩ := X213.virtualBack hx (y := (⟨"com/example/robust_broker/robustbroker/Postings", "collectionFrequency", "()J"⟩ : MethodName)) (z := (⟨"com/example/robust_broker/robustbroker/Postings", "collectionFrequency", "()J"⟩ : MethodName)) hown (mvT hZ (hw _ (List.mem_of_getElem? (i := 28) rfl))) (mvT hZ (hw _ (List.mem_of_getElem? (i := 29) rfl))) (notFace_of_selects (args := #[]) (mvT hZ (hw _ (List.mem_of_getElem? (i := 31) rfl)))) (mvT hZ (hw _ (List.mem_of_getElem? (i := 31) rfl))) (mvT hZ (hw _ (List.mem_of_getElem? (i := 30) rfl))) (by decide) (backOf (W := 0) (rm5 l Z a0 hw [] b57 ((((((0 : Int64) + (r32.toInt64)) + (r37.toInt64)) + (r42.toInt64)) + (r47.toInt64)) + (r52.toInt64)) T176.heap n0 z209 F188) hZ (hw _ (List.mem_of_getElem? (i := 32) rfl)) (hw _ (List.mem_of_getElem? (i := 10) rfl)) (by decide) (by decide)) q217a q217c (g := (mkF m 318 #[.val (.int p0), .val (.int p1), .val (.int p2), .val (.int p3), .val (.int p4), .val (.long q5), .second, .val (.int n_), .val (.ref b1), .val (.ref b28), .val (.ref b57), .val (.long x212), .second, .unset] [(.ref b57)])) rfl (by rw [hml]; rfl) (Steps.refl _) (argsL := []) (rest := []) (lenOf pd_6 rfl) rfl (by show 2 * 0 + _ ≤ _; exact Nat.le_of_eq rfl) (hb hby at_318) (fun _ _ => ⟨rfl, e213, (by decide : 9 + 0 ≤ _), (by decide : 42 + 0 ≤ _)⟩)
            dsimp only [Pt.U, Pt.locs, Pt.cells, Pt.slots] at X217 l217 y217 z217 st217 hQ217
            replace X217 := castX X217 (y217.trans (rfl : _ = 9)) (z217.trans (rfl : _ = 42))
            obtain ⟨r217, rfl, hr217, Nq217, e217⟩ := hQ217
            have N217 : Fr n0 L217 := l217 ▸ Fr.app N213 Nq217
            refine gob (fun _ k => st217.trans k) ?_
            show Go _ _ _ _ _ _ _ (T217.setTop (mkF m 321 #[.val (.int p0), .val (.int p1), .val (.int p2), .val (.int p3), .val (.int p4), .val (.long q5), .second, .val (.int n_), .val (.ref b1), .val (.ref b28), .val (.ref b57), .val (.long x212), .second, .unset] [(.long r217)]))
            refine gob (fun _ k => XS.lload X217.here hx rfl (hb hby at_321) rfl k) ?_
            show Go _ _ _ _ _ _ _ (T217.setTop (mkF m 323 #[.val (.int p0), .val (.int p1), .val (.int p2), .val (.int p3), .val (.int p4), .val (.long q5), .second, .val (.int n_), .val (.ref b1), .val (.ref b28), .val (.ref b57), .val (.long x212), .second, .unset] [(.long x212), (.long r217)]))
            refine gob (fun _ k => XS.lcmp X217.here hx rfl (hb hby at_323) rfl k) ?_
            show Go _ _ _ _ _ _ _ (T217.setTop (mkF m 324 #[.val (.int p0), .val (.int p1), .val (.int p2), .val (.int p3), .val (.int p4), .val (.long q5), .second, .val (.int n_), .val (.ref b1), .val (.ref b28), .val (.ref b57), .val (.long x212), .second, .unset] [(.int (lcmpW r217 x212))]))
            have hd219 : r217 = x212 := ld_0_324_218 r32 r37 r42 r47 r52 x104 x120 x155 x171 x212 r217 hr32 hr37 hr42 hr47 hr52 hx104 hx120 hx155 hx171 hx212 hr217
            refine gob (fun _ k => XS.ifYes X217.here hx rfl (pc0 := 324) (pc' := 329) rfl (hb hby at_324) rfl ((if0 _ _).trans (teq ((lw_eq _ _).mpr hd219)).1) (by decide) (by decide) k) ?_
            show Go _ _ _ _ _ _ _ (T217.setTop (mkF m 329 #[.val (.int p0), .val (.int p1), .val (.int p2), .val (.int p3), .val (.int p4), .val (.long q5), .second, .val (.int n_), .val (.ref b1), .val (.ref b28), .val (.ref b57), .val (.long x212), .second, .unset] []))
            refine gob (fun _ k => XS.iload X217.here hx rfl (hb hby at_329) rfl k) ?_
            show Go _ _ _ _ _ _ _ (T217.setTop (mkF m 331 #[.val (.int p0), .val (.int p1), .val (.int p2), .val (.int p3), .val (.int p4), .val (.long q5), .second, .val (.int n_), .val (.ref b1), .val (.ref b28), .val (.ref b57), .val (.long x212), .second, .unset] [(.int n_)]))
            have hd221 : ¬ (n_ = (0 : Int32)) := ld_0_331_220 p0 n_ hn_ hc162_88 hc191_105 hc220_121 hc249_156 hc278_172
            refine gob (fun _ k => XS.ifYes X217.here hx rfl (pc0 := 331) (pc' := 336) rfl (hb hby at_331) rfl ((if0 _ _).trans (feq hd221).2) (by decide) (by decide) k) ?_
            show Go _ _ _ _ _ _ _ (T217.setTop (mkF m 336 #[.val (.int p0), .val (.int p1), .val (.int p2), .val (.int p3), .val (.int p4), .val (.long q5), .second, .val (.int n_), .val (.ref b1), .val (.ref b28), .val (.ref b57), .val (.long x212), .second, .unset] []))
            refine gob (fun _ k => XS.iloadN X217.here hx rfl (hb hby at_336) rfl k) ?_
            show Go _ _ _ _ _ _ _ (T217.setTop (mkF m 337 #[.val (.int p0), .val (.int p1), .val (.int p2), .val (.int p3), .val (.int p4), .val (.long q5), .second, .val (.int n_), .val (.ref b1), .val (.ref b28), .val (.ref b57), .val (.long x212), .second, .unset] [(.int p1)]))
            refine gob (fun _ k => XS.bipush X217.here hx rfl (hb hby at_337) k) ?_
            show Go _ _ _ _ _ _ _ (T217.setTop (mkF m 339 #[.val (.int p0), .val (.int p1), .val (.int p2), .val (.int p3), .val (.int p4), .val (.long q5), .second, .val (.int n_), .val (.ref b1), .val (.ref b28), .val (.ref b57), .val (.long x212), .second, .unset] [(.int (28 : Int32)), (.int p1)]))
            refine gob (fun _ k => XS.iushr X217.here hx rfl (hb hby at_339) rfl k) ?_
            show Go _ _ _ _ _ _ _ (T217.setTop (mkF m 340 #[.val (.int p0), .val (.int p1), .val (.int p2), .val (.int p3), .val (.int p4), .val (.long q5), .second, .val (.int n_), .val (.ref b1), .val (.ref b28), .val (.ref b57), .val (.long x212), .second, .unset] [(.int ((p1.toUInt32 >>> ((28 : Int32) &&& 31).toUInt32).toInt32))]))
            refine gob (fun _ k => XS.iload X217.here hx rfl (hb hby at_340) rfl k) ?_
            show Go _ _ _ _ _ _ _ (T217.setTop (mkF m 342 #[.val (.int p0), .val (.int p1), .val (.int p2), .val (.int p3), .val (.int p4), .val (.long q5), .second, .val (.int n_), .val (.ref b1), .val (.ref b28), .val (.ref b57), .val (.long x212), .second, .unset] [(.int n_), (.int ((p1.toUInt32 >>> ((28 : Int32) &&& 31).toUInt32).toInt32))]))
            refine gob (fun _ k => iremM X217 hx rfl (hb hby at_342) rfl (la_0_342_222 p0 n_ hn_ hc162_88 hc191_105 hc220_121 hc249_156 hc278_172) k) ?_
            show Go _ _ _ _ _ _ _ (T217.setTop (mkF m 343 #[.val (.int p0), .val (.int p1), .val (.int p2), .val (.int p3), .val (.int p4), .val (.long q5), .second, .val (.int n_), .val (.ref b1), .val (.ref b28), .val (.ref b57), .val (.long x212), .second, .unset] [(.int (((p1.toUInt32 >>> ((28 : Int32) &&& 31).toUInt32).toInt32) % n_))]))
            refine gob (fun _ k => XS.istore X217.here hx rfl (hb hby at_343) rfl (l' := #[.val (.int p0), .val (.int p1), .val (.int p2), .val (.int p3), .val (.int p4), .val (.long q5), .second, .val (.int n_), .val (.ref b1), .val (.ref b28), .val (.ref b57), .val (.long x212), .second, .val (.int (((p1.toUInt32 >>> ((28 : Int32) &&& 31).toUInt32).toInt32) % n_))]) rfl k) ?_
            show Go _ _ _ _ _ _ _ (T217.setTop (mkF m 345 #[.val (.int p0), .val (.int p1), .val (.int p2), .val (.int p3), .val (.int p4), .val (.long q5), .second, .val (.int n_), .val (.ref b1), .val (.ref b28), .val (.ref b57), .val (.long x212), .second, .val (.int (((p1.toUInt32 >>> ((28 : Int32) &&& 31).toUInt32).toInt32) % n_))] []))
            generalize hk_ : (((p1.toUInt32 >>> ((28 : Int32) &&& 31).toUInt32).toInt32) % n_) = k_
            show Go _ _ _ _ _ _ _ (T217.setTop (mkF m 345 #[.val (.int p0), .val (.int p1), .val (.int p2), .val (.int p3), .val (.int p4), .val (.long q5), .second, .val (.int n_), .val (.ref b1), .val (.ref b28), .val (.ref b57), .val (.long x212), .second, .val (.int k_)] []))
            refine gob (fun _ k => XS.aload X217.here hx rfl (hb hby at_345) rfl rfl k) ?_
            show Go _ _ _ _ _ _ _ (T217.setTop (mkF m 347 #[.val (.int p0), .val (.int p1), .val (.int p2), .val (.int p3), .val (.int p4), .val (.long q5), .second, .val (.int n_), .val (.ref b1), .val (.ref b28), .val (.ref b57), .val (.long x212), .second, .val (.int k_)] [(.ref b57)]))
            refine gob (fun _ k => XS.iload X217.here hx rfl (hb hby at_347) rfl k) ?_
            show Go _ _ _ _ _ _ _ (T217.setTop (mkF m 349 #[.val (.int p0), .val (.int p1), .val (.int p2), .val (.int p3), .val (.int p4), .val (.long q5), .second, .val (.int n_), .val (.ref b1), .val (.ref b28), .val (.ref b57), .val (.long x212), .second, .val (.int k_)] [(.int k_), (.ref b57)]))
            obtain ⟨cq223, kq223, q223a, q223b, q223c⟩ := isOf hZ e217 c214
            obtain ⟨_, _, ⟨T223, L223, k223, n223⟩, -, X223, ⟨Lc223, hQ223, l223, y223, z223⟩, st223⟩ := X217.virtualBack hx (y := (⟨"com/example/robust_broker/robustbroker/Postings", "document", "(I)I"⟩ : MethodName)) (z := (⟨"com/example/robust_broker/robustbroker/Postings", "document", "(I)I"⟩ : MethodName)) hown (mvT hZ (hw _ (List.mem_of_getElem? (i := 52) rfl))) (mvT hZ (hw _ (List.mem_of_getElem? (i := 53) rfl))) (notFace_of_selects (args := #[]) (mvT hZ (hw _ (List.mem_of_getElem? (i := 55) rfl)))) (mvT hZ (hw _ (List.mem_of_getElem? (i := 55) rfl))) (mvT hZ (hw _ (List.mem_of_getElem? (i := 54) rfl))) (by decide) (backOf (W := 0) (rmdoc_8_5 l Z a0 hw [] b57 k_ b178 k180 x4 x9 x14 x19 x24 T176.heap n0 z209 F185 F189 (la_0_349_224 p0 p1 n_ k_ hn_ hc162_88 hc191_105 hc220_121 hc249_156 hc278_172 hk_) (la_0_349_225 p0 p1 n_ k_ hn_ hc162_88 hc191_105 hc220_121 hc249_156 hc278_172 hk_)) hZ (hw _ (List.mem_of_getElem? (i := 56) rfl)) (hw _ (List.mem_of_getElem? (i := 10) rfl)) (by decide) (by decide)) q223a q223c (g := (mkF m 349 #[.val (.int p0), .val (.int p1), .val (.int p2), .val (.int p3), .val (.int p4), .val (.long q5), .second, .val (.int n_), .val (.ref b1), .val (.ref b28), .val (.ref b57), .val (.long x212), .second, .val (.int k_)] [(.int k_), (.ref b57)])) rfl (by rw [hml]; rfl) (Steps.refl _) (argsL := [(.int k_)]) (rest := []) (lenOf pd_2 rfl) rfl (by show 2 * 0 + _ ≤ _; exact Nat.le_of_eq rfl) (hb hby at_349) (fun _ _ => ⟨rfl, e217, (by decide : 9 + 0 ≤ _), (by decide : 42 + 0 ≤ _)⟩)
            dsimp only [Pt.U, Pt.locs, Pt.cells, Pt.slots] at X223 l223 y223 z223 st223 hQ223
            replace X223 := castX X223 (y223.trans (rfl : _ = 9)) (z223.trans (rfl : _ = 42))
            obtain ⟨r223, rfl, hr223, Nq223, e223⟩ := hQ223
            have N223 : Fr n0 L223 := l223 ▸ Fr.app N217 Nq223
            refine gob (fun _ k => st223.trans k) ?_
            show Go _ _ _ _ _ _ _ (T223.setTop (mkF m 352 #[.val (.int p0), .val (.int p1), .val (.int p2), .val (.int p3), .val (.int p4), .val (.long q5), .second, .val (.int n_), .val (.ref b1), .val (.ref b28), .val (.ref b57), .val (.long x212), .second, .val (.int k_)] [(.int r223)]))
            refine gob (fun _ k => XS.aload X223.here hx rfl (hb hby at_352) rfl rfl k) ?_
            show Go _ _ _ _ _ _ _ (T223.setTop (mkF m 354 #[.val (.int p0), .val (.int p1), .val (.int p2), .val (.int p3), .val (.int p4), .val (.long q5), .second, .val (.int n_), .val (.ref b1), .val (.ref b28), .val (.ref b57), .val (.long x212), .second, .val (.int k_)] [(.ref b1), (.int r223)]))
            refine gob (fun _ k => XS.iload X223.here hx rfl (hb hby at_354) rfl k) ?_
            show Go _ _ _ _ _ _ _ (T223.setTop (mkF m 356 #[.val (.int p0), .val (.int p1), .val (.int p2), .val (.int p3), .val (.int p4), .val (.long q5), .second, .val (.int n_), .val (.ref b1), .val (.ref b28), .val (.ref b57), .val (.long x212), .second, .val (.int k_)] [(.int k_), (.ref b1), (.int r223)]))
            have c227 := (c174.keep K176 (ninS n59 nin0))
            obtain ⟨cl226, Ar226, aq226, S226, N226, H226, G226⟩ := id c227
            have hj228 : 0 ≤ k_.toInt ∧ k_.toInt < 5 := (la_0_356_229 p0 p1 n_ k_ hn_ hc162_88 hc191_105 hc220_121 hc249_156 hc278_172 hk_)
            obtain ⟨w228, hw228, hg228⟩ := own_at5 x4 x9 x14 x19 x24 (.int (0 : Int32)) k_ 5 (by decide) hj228.1 hj228.2
            have hin228 : ¬ (k_ < 0 ∨ cl226.slots.size ≤ (k_).toNatClampNeg) := inb_of S226 (own_idx _ _ 5 (by decide) hj228.1 hj228.2)
            refine gob (X223.iaload hx (j := k_) (v := (.int w228)) (by rw [e223]; exact Ar226.1) (State.isArrayOf_alike hZ.alike Ar226.2.1) Ar226.2.2 hin228 (Has.at H226 hin228 hg228) (g := (mkF m 356 #[.val (.int p0), .val (.int p1), .val (.int p2), .val (.int p3), .val (.int p4), .val (.long q5), .second, .val (.int n_), .val (.ref b1), .val (.ref b28), .val (.ref b57), .val (.long x212), .second, .val (.int k_)] [(.int k_), (.ref b1), (.int r223)])) rfl rfl (hb hby at_356)) ?_
            show Go _ _ _ _ _ _ _ (T223.setTop (mkF m 357 #[.val (.int p0), .val (.int p1), .val (.int p2), .val (.int p3), .val (.int p4), .val (.long q5), .second, .val (.int n_), .val (.ref b1), .val (.ref b28), .val (.ref b57), .val (.long x212), .second, .val (.int k_)] [(.int w228), (.int r223)]))
            have hd231 : r223 = w228 := ld_0_357_230 x4 x9 x14 x19 x24 k_ r223 w228 hr223 hw228
            refine gob (fun _ k => XS.icmpNo X223.here hx rfl (hb hby at_357) rfl (teq hd231).2 k) ?_
            show Go _ _ _ _ _ _ _ (T223.setTop (mkF m 360 #[.val (.int p0), .val (.int p1), .val (.int p2), .val (.int p3), .val (.int p4), .val (.long q5), .second, .val (.int n_), .val (.ref b1), .val (.ref b28), .val (.ref b57), .val (.long x212), .second, .val (.int k_)] []))
            refine gob (fun _ k => XS.aload X223.here hx rfl (hb hby at_360) rfl rfl k) ?_
            show Go _ _ _ _ _ _ _ (T223.setTop (mkF m 362 #[.val (.int p0), .val (.int p1), .val (.int p2), .val (.int p3), .val (.int p4), .val (.long q5), .second, .val (.int n_), .val (.ref b1), .val (.ref b28), .val (.ref b57), .val (.long x212), .second, .val (.int k_)] [(.ref b57)]))
            refine gob (fun _ k => XS.iload X223.here hx rfl (hb hby at_362) rfl k) ?_
            show Go _ _ _ _ _ _ _ (T223.setTop (mkF m 364 #[.val (.int p0), .val (.int p1), .val (.int p2), .val (.int p3), .val (.int p4), .val (.long q5), .second, .val (.int n_), .val (.ref b1), .val (.ref b28), .val (.ref b57), .val (.long x212), .second, .val (.int k_)] [(.int k_), (.ref b57)]))
            obtain ⟨cq232, kq232, q232a, q232b, q232c⟩ := isOf hZ e223 c214
            obtain ⟨_, _, ⟨T232, L232, k232, n232⟩, -, X232, ⟨Lc232, hQ232, l232, y232, z232⟩, st232⟩ := X223.virtualBack hx (y := (⟨"com/example/robust_broker/robustbroker/Postings", "frequency", "(I)I"⟩ : MethodName)) (z := (⟨"com/example/robust_broker/robustbroker/Postings", "frequency", "(I)I"⟩ : MethodName)) hown (mvT hZ (hw _ (List.mem_of_getElem? (i := 57) rfl))) (mvT hZ (hw _ (List.mem_of_getElem? (i := 58) rfl))) (notFace_of_selects (args := #[]) (mvT hZ (hw _ (List.mem_of_getElem? (i := 60) rfl)))) (mvT hZ (hw _ (List.mem_of_getElem? (i := 60) rfl))) (mvT hZ (hw _ (List.mem_of_getElem? (i := 59) rfl))) (by decide) (backOf (W := 0) (rmfre_8_5 l Z a0 hw [] b57 k_ b179 k181 r32 r37 r42 r47 r52 T176.heap n0 z209 F186 F190 (la_0_364_233 p0 p1 n_ k_ hn_ hc162_88 hc191_105 hc220_121 hc249_156 hc278_172 hk_) (la_0_364_234 p0 p1 n_ k_ hn_ hc162_88 hc191_105 hc220_121 hc249_156 hc278_172 hk_)) hZ (hw _ (List.mem_of_getElem? (i := 61) rfl)) (hw _ (List.mem_of_getElem? (i := 10) rfl)) (by decide) (by decide)) q232a q232c (g := (mkF m 364 #[.val (.int p0), .val (.int p1), .val (.int p2), .val (.int p3), .val (.int p4), .val (.long q5), .second, .val (.int n_), .val (.ref b1), .val (.ref b28), .val (.ref b57), .val (.long x212), .second, .val (.int k_)] [(.int k_), (.ref b57)])) rfl (by rw [hml]; rfl) (Steps.refl _) (argsL := [(.int k_)]) (rest := []) (lenOf pd_2 rfl) rfl (by show 2 * 0 + _ ≤ _; exact Nat.le_of_eq rfl) (hb hby at_364) (fun _ _ => ⟨rfl, e223, (by decide : 9 + 0 ≤ _), (by decide : 42 + 0 ≤ _)⟩)
            dsimp only [Pt.U, Pt.locs, Pt.cells, Pt.slots] at X232 l232 y232 z232 st232 hQ232
            replace X232 := castX X232 (y232.trans (rfl : _ = 9)) (z232.trans (rfl : _ = 42))
            obtain ⟨r232, rfl, hr232, Nq232, e232⟩ := hQ232
            have N232 : Fr n0 L232 := l232 ▸ Fr.app N223 Nq232
            refine gob (fun _ k => st232.trans k) ?_
            show Go _ _ _ _ _ _ _ (T232.setTop (mkF m 367 #[.val (.int p0), .val (.int p1), .val (.int p2), .val (.int p3), .val (.int p4), .val (.long q5), .second, .val (.int n_), .val (.ref b1), .val (.ref b28), .val (.ref b57), .val (.long x212), .second, .val (.int k_)] [(.int r232)]))
            refine gob (fun _ k => XS.aload X232.here hx rfl (hb hby at_367) rfl rfl k) ?_
            show Go _ _ _ _ _ _ _ (T232.setTop (mkF m 369 #[.val (.int p0), .val (.int p1), .val (.int p2), .val (.int p3), .val (.int p4), .val (.long q5), .second, .val (.int n_), .val (.ref b1), .val (.ref b28), .val (.ref b57), .val (.long x212), .second, .val (.int k_)] [(.ref b28), (.int r232)]))
            refine gob (fun _ k => XS.iload X232.here hx rfl (hb hby at_369) rfl k) ?_
            show Go _ _ _ _ _ _ _ (T232.setTop (mkF m 371 #[.val (.int p0), .val (.int p1), .val (.int p2), .val (.int p3), .val (.int p4), .val (.long q5), .second, .val (.int n_), .val (.ref b1), .val (.ref b28), .val (.ref b57), .val (.long x212), .second, .val (.int k_)] [(.int k_), (.ref b28), (.int r232)]))
            obtain ⟨cl235, Ar235, aq235, S235, N235, H235, G235⟩ := id c211
            have hj236 : 0 ≤ k_.toInt ∧ k_.toInt < 5 := (la_0_371_237 p0 p1 n_ k_ hn_ hc162_88 hc191_105 hc220_121 hc249_156 hc278_172 hk_)
            obtain ⟨w236, hw236, hg236⟩ := own_at5 r32 r37 r42 r47 r52 (.int (0 : Int32)) k_ 5 (by decide) hj236.1 hj236.2
            have hin236 : ¬ (k_ < 0 ∨ cl235.slots.size ≤ (k_).toNatClampNeg) := inb_of S235 (own_idx _ _ 5 (by decide) hj236.1 hj236.2)
            refine gob (X232.iaload hx (j := k_) (v := (.int w236)) (by rw [e232]; exact Ar235.1) (State.isArrayOf_alike hZ.alike Ar235.2.1) Ar235.2.2 hin236 (Has.at H235 hin236 hg236) (g := (mkF m 371 #[.val (.int p0), .val (.int p1), .val (.int p2), .val (.int p3), .val (.int p4), .val (.long q5), .second, .val (.int n_), .val (.ref b1), .val (.ref b28), .val (.ref b57), .val (.long x212), .second, .val (.int k_)] [(.int k_), (.ref b28), (.int r232)])) rfl rfl (hb hby at_371)) ?_
            show Go _ _ _ _ _ _ _ (T232.setTop (mkF m 372 #[.val (.int p0), .val (.int p1), .val (.int p2), .val (.int p3), .val (.int p4), .val (.long q5), .second, .val (.int n_), .val (.ref b1), .val (.ref b28), .val (.ref b57), .val (.long x212), .second, .val (.int k_)] [(.int w236), (.int r232)]))
            have hd239 : r232 = w236 := ld_0_372_238 r32 r37 r42 r47 r52 k_ r232 w236 hr232 hw236
            refine gob (fun _ k => XS.icmpNo X232.here hx rfl (hb hby at_372) rfl (teq hd239).2 k) ?_
            show Go _ _ _ _ _ _ _ (T232.setTop (mkF m 375 #[.val (.int p0), .val (.int p1), .val (.int p2), .val (.int p3), .val (.int p4), .val (.long q5), .second, .val (.int n_), .val (.ref b1), .val (.ref b28), .val (.ref b57), .val (.long x212), .second, .val (.int k_)] []))
            refine gob (fun _ k => XS.iconst X232.here hx rfl (hb hby at_375) k) ?_
            show Go _ _ _ _ _ _ _ (T232.setTop (mkF m 376 #[.val (.int p0), .val (.int p1), .val (.int p2), .val (.int p3), .val (.int p4), .val (.long q5), .second, .val (.int n_), .val (.ref b1), .val (.ref b28), .val (.ref b57), .val (.long x212), .second, .val (.int k_)] [(.int (1 : Int32))]))
            refine gob (fun _ k => XS.goto X232.here hx rfl (pc0 := 376) (pc' := 380) rfl (hb hby at_376) (by decide) (by decide) k) ?_
            show Go _ _ _ _ _ _ _ (T232.setTop (mkF m 380 #[.val (.int p0), .val (.int p1), .val (.int p2), .val (.int p3), .val (.int p4), .val (.long q5), .second, .val (.int n_), .val (.ref b1), .val (.ref b28), .val (.ref b57), .val (.long x212), .second, .val (.int k_)] [(.int (1 : Int32))]))
            refine goZ X232 hx hlk (t := .boolean) Bd.returns (by simp) (hb hby at_380) (z' := (1 : Int32)) rfl ?_ (by decide) (by decide)
            show Q0 Z p0 p1 p2 p3 p4 q5 h0 n0 (some (.int (1 : Int32))) T232.heap _
            exact ⟨rfl, N232⟩
          · skip
            refine gob (fun _ k => XS.icmpYes X160.here hx rfl (pc0 := 278) (pc' := 304) rfl (hb hby at_278) rfl (flt hc278_172).2.2.2 (by decide) (by decide) k) ?_
            show Go _ _ _ _ _ _ _ (T160.setTop (mkF m 304 #[.val (.int p0), .val (.int p1), .val (.int p2), .val (.int p3), .val (.int p4), .val (.long q5), .second, .val (.int n_), .val (.ref b1), .val (.ref b28), .val (.ref b57), .val (.long x171), .second, .unset] []))
            refine gob (fun _ k => XS.aload X160.here hx rfl (hb hby at_304) rfl rfl k) ?_
            show Go _ _ _ _ _ _ _ (T160.setTop (mkF m 306 #[.val (.int p0), .val (.int p1), .val (.int p2), .val (.int p3), .val (.int p4), .val (.long q5), .second, .val (.int n_), .val (.ref b1), .val (.ref b28), .val (.ref b57), .val (.long x171), .second, .unset] [(.ref b57)]))
            have c241 := (c161.keep K160)
            obtain ⟨cq240, kq240, q240a, q240b, q240c⟩ := isOf hZ (rfl : T160.heap = _) c241
            obtain ⟨_, _, ⟨T240, L240, k240, n240⟩, -, X240, ⟨Lc240, hQ240, l240, y240, z240⟩, st240⟩ := X160.virtualBack hx (y := (⟨"com/example/robust_broker/robustbroker/Postings", "size", "()I"⟩ : MethodName)) (z := (⟨"com/example/robust_broker/robustbroker/Postings", "size", "()I"⟩ : MethodName)) hown (mvT hZ (hw _ (List.mem_of_getElem? (i := 21) rfl))) (mvT hZ (hw _ (List.mem_of_getElem? (i := 22) rfl))) (notFace_of_selects (args := #[]) (mvT hZ (hw _ (List.mem_of_getElem? (i := 24) rfl)))) (mvT hZ (hw _ (List.mem_of_getElem? (i := 24) rfl))) (mvT hZ (hw _ (List.mem_of_getElem? (i := 23) rfl))) (by decide) (backOf (W := 0) (rm4 l Z a0 hw [] b57 (4 : Int32) T160.heap n0 z168 F166) hZ (hw _ (List.mem_of_getElem? (i := 25) rfl)) (hw _ (List.mem_of_getElem? (i := 10) rfl)) (by decide) (by decide)) q240a q240c (g := (mkF m 306 #[.val (.int p0), .val (.int p1), .val (.int p2), .val (.int p3), .val (.int p4), .val (.long q5), .second, .val (.int n_), .val (.ref b1), .val (.ref b28), .val (.ref b57), .val (.long x171), .second, .unset] [(.ref b57)])) rfl (by rw [hml]; rfl) (Steps.refl _) (argsL := []) (rest := []) (lenOf pd_5 rfl) rfl (by show 2 * 0 + _ ≤ _; exact Nat.le_of_eq rfl) (hb hby at_306) (fun _ _ => ⟨rfl, (rfl : T160.heap = _), (by decide : 7 + 0 ≤ _), (by decide : 26 + 0 ≤ _)⟩)
            dsimp only [Pt.U, Pt.locs, Pt.cells, Pt.slots] at X240 l240 y240 z240 st240 hQ240
            replace X240 := castX X240 (y240.trans (rfl : _ = 7)) (z240.trans (rfl : _ = 26))
            obtain ⟨r240, rfl, hr240, Nq240, e240⟩ := hQ240
            have N240 : Fr n0 L240 := l240 ▸ Fr.app N160 Nq240
            refine gob (fun _ k => st240.trans k) ?_
            show Go _ _ _ _ _ _ _ (T240.setTop (mkF m 309 #[.val (.int p0), .val (.int p1), .val (.int p2), .val (.int p3), .val (.int p4), .val (.long q5), .second, .val (.int n_), .val (.ref b1), .val (.ref b28), .val (.ref b57), .val (.long x171), .second, .unset] [(.int r240)]))
            refine gob (fun _ k => XS.iload X240.here hx rfl (hb hby at_309) rfl k) ?_
            show Go _ _ _ _ _ _ _ (T240.setTop (mkF m 311 #[.val (.int p0), .val (.int p1), .val (.int p2), .val (.int p3), .val (.int p4), .val (.long q5), .second, .val (.int n_), .val (.ref b1), .val (.ref b28), .val (.ref b57), .val (.long x171), .second, .unset] [(.int n_), (.int r240)]))
            have hd243 : r240 = n_ := ld_0_311_242 p0 n_ r240 hn_ hc162_88 hc191_105 hc220_121 hc249_156 hc278_172 hr240
            refine gob (fun _ k => XS.icmpYes X240.here hx rfl (pc0 := 311) (pc' := 316) rfl (hb hby at_311) rfl (teq hd243).1 (by decide) (by decide) k) ?_
            show Go _ _ _ _ _ _ _ (T240.setTop (mkF m 316 #[.val (.int p0), .val (.int p1), .val (.int p2), .val (.int p3), .val (.int p4), .val (.long q5), .second, .val (.int n_), .val (.ref b1), .val (.ref b28), .val (.ref b57), .val (.long x171), .second, .unset] []))
            refine gob (fun _ k => XS.aload X240.here hx rfl (hb hby at_316) rfl rfl k) ?_
            show Go _ _ _ _ _ _ _ (T240.setTop (mkF m 318 #[.val (.int p0), .val (.int p1), .val (.int p2), .val (.int p3), .val (.int p4), .val (.long q5), .second, .val (.int n_), .val (.ref b1), .val (.ref b28), .val (.ref b57), .val (.long x171), .second, .unset] [(.ref b57)]))
            obtain ⟨cq244, kq244, q244a, q244b, q244c⟩ := isOf hZ e240 c241
            obtain ⟨_, _, ⟨T244, L244, k244, n244⟩, -, X244, ⟨Lc244, hQ244, l244, y244, z244⟩, st244⟩ := X240.virtualBack hx (y := (⟨"com/example/robust_broker/robustbroker/Postings", "collectionFrequency", "()J"⟩ : MethodName)) (z := (⟨"com/example/robust_broker/robustbroker/Postings", "collectionFrequency", "()J"⟩ : MethodName)) hown (mvT hZ (hw _ (List.mem_of_getElem? (i := 28) rfl))) (mvT hZ (hw _ (List.mem_of_getElem? (i := 29) rfl))) (notFace_of_selects (args := #[]) (mvT hZ (hw _ (List.mem_of_getElem? (i := 31) rfl)))) (mvT hZ (hw _ (List.mem_of_getElem? (i := 31) rfl))) (mvT hZ (hw _ (List.mem_of_getElem? (i := 30) rfl))) (by decide) (backOf (W := 0) (rm5 l Z a0 hw [] b57 (((((0 : Int64) + (r32.toInt64)) + (r37.toInt64)) + (r42.toInt64)) + (r47.toInt64)) T160.heap n0 z168 F167) hZ (hw _ (List.mem_of_getElem? (i := 32) rfl)) (hw _ (List.mem_of_getElem? (i := 10) rfl)) (by decide) (by decide)) q244a q244c (g := (mkF m 318 #[.val (.int p0), .val (.int p1), .val (.int p2), .val (.int p3), .val (.int p4), .val (.long q5), .second, .val (.int n_), .val (.ref b1), .val (.ref b28), .val (.ref b57), .val (.long x171), .second, .unset] [(.ref b57)])) rfl (by rw [hml]; rfl) (Steps.refl _) (argsL := []) (rest := []) (lenOf pd_6 rfl) rfl (by show 2 * 0 + _ ≤ _; exact Nat.le_of_eq rfl) (hb hby at_318) (fun _ _ => ⟨rfl, e240, (by decide : 7 + 0 ≤ _), (by decide : 26 + 0 ≤ _)⟩)
            dsimp only [Pt.U, Pt.locs, Pt.cells, Pt.slots] at X244 l244 y244 z244 st244 hQ244
            replace X244 := castX X244 (y244.trans (rfl : _ = 7)) (z244.trans (rfl : _ = 26))
            obtain ⟨r244, rfl, hr244, Nq244, e244⟩ := hQ244
            have N244 : Fr n0 L244 := l244 ▸ Fr.app N240 Nq244
            refine gob (fun _ k => st244.trans k) ?_
            show Go _ _ _ _ _ _ _ (T244.setTop (mkF m 321 #[.val (.int p0), .val (.int p1), .val (.int p2), .val (.int p3), .val (.int p4), .val (.long q5), .second, .val (.int n_), .val (.ref b1), .val (.ref b28), .val (.ref b57), .val (.long x171), .second, .unset] [(.long r244)]))
            refine gob (fun _ k => XS.lload X244.here hx rfl (hb hby at_321) rfl k) ?_
            show Go _ _ _ _ _ _ _ (T244.setTop (mkF m 323 #[.val (.int p0), .val (.int p1), .val (.int p2), .val (.int p3), .val (.int p4), .val (.long q5), .second, .val (.int n_), .val (.ref b1), .val (.ref b28), .val (.ref b57), .val (.long x171), .second, .unset] [(.long x171), (.long r244)]))
            refine gob (fun _ k => XS.lcmp X244.here hx rfl (hb hby at_323) rfl k) ?_
            show Go _ _ _ _ _ _ _ (T244.setTop (mkF m 324 #[.val (.int p0), .val (.int p1), .val (.int p2), .val (.int p3), .val (.int p4), .val (.long q5), .second, .val (.int n_), .val (.ref b1), .val (.ref b28), .val (.ref b57), .val (.long x171), .second, .unset] [(.int (lcmpW r244 x171))]))
            have hd246 : r244 = x171 := ld_0_324_245 r32 r37 r42 r47 x104 x120 x155 x171 r244 hr32 hr37 hr42 hr47 hx104 hx120 hx155 hx171 hr244
            refine gob (fun _ k => XS.ifYes X244.here hx rfl (pc0 := 324) (pc' := 329) rfl (hb hby at_324) rfl ((if0 _ _).trans (teq ((lw_eq _ _).mpr hd246)).1) (by decide) (by decide) k) ?_
            show Go _ _ _ _ _ _ _ (T244.setTop (mkF m 329 #[.val (.int p0), .val (.int p1), .val (.int p2), .val (.int p3), .val (.int p4), .val (.long q5), .second, .val (.int n_), .val (.ref b1), .val (.ref b28), .val (.ref b57), .val (.long x171), .second, .unset] []))
            refine gob (fun _ k => XS.iload X244.here hx rfl (hb hby at_329) rfl k) ?_
            show Go _ _ _ _ _ _ _ (T244.setTop (mkF m 331 #[.val (.int p0), .val (.int p1), .val (.int p2), .val (.int p3), .val (.int p4), .val (.long q5), .second, .val (.int n_), .val (.ref b1), .val (.ref b28), .val (.ref b57), .val (.long x171), .second, .unset] [(.int n_)]))
            have hd248 : ¬ (n_ = (0 : Int32)) := ld_0_331_247 p0 n_ hn_ hc162_88 hc191_105 hc220_121 hc249_156 hc278_172
            refine gob (fun _ k => XS.ifYes X244.here hx rfl (pc0 := 331) (pc' := 336) rfl (hb hby at_331) rfl ((if0 _ _).trans (feq hd248).2) (by decide) (by decide) k) ?_
            show Go _ _ _ _ _ _ _ (T244.setTop (mkF m 336 #[.val (.int p0), .val (.int p1), .val (.int p2), .val (.int p3), .val (.int p4), .val (.long q5), .second, .val (.int n_), .val (.ref b1), .val (.ref b28), .val (.ref b57), .val (.long x171), .second, .unset] []))
            refine gob (fun _ k => XS.iloadN X244.here hx rfl (hb hby at_336) rfl k) ?_
            show Go _ _ _ _ _ _ _ (T244.setTop (mkF m 337 #[.val (.int p0), .val (.int p1), .val (.int p2), .val (.int p3), .val (.int p4), .val (.long q5), .second, .val (.int n_), .val (.ref b1), .val (.ref b28), .val (.ref b57), .val (.long x171), .second, .unset] [(.int p1)]))
            refine gob (fun _ k => XS.bipush X244.here hx rfl (hb hby at_337) k) ?_
            show Go _ _ _ _ _ _ _ (T244.setTop (mkF m 339 #[.val (.int p0), .val (.int p1), .val (.int p2), .val (.int p3), .val (.int p4), .val (.long q5), .second, .val (.int n_), .val (.ref b1), .val (.ref b28), .val (.ref b57), .val (.long x171), .second, .unset] [(.int (28 : Int32)), (.int p1)]))
            refine gob (fun _ k => XS.iushr X244.here hx rfl (hb hby at_339) rfl k) ?_
            show Go _ _ _ _ _ _ _ (T244.setTop (mkF m 340 #[.val (.int p0), .val (.int p1), .val (.int p2), .val (.int p3), .val (.int p4), .val (.long q5), .second, .val (.int n_), .val (.ref b1), .val (.ref b28), .val (.ref b57), .val (.long x171), .second, .unset] [(.int ((p1.toUInt32 >>> ((28 : Int32) &&& 31).toUInt32).toInt32))]))
            refine gob (fun _ k => XS.iload X244.here hx rfl (hb hby at_340) rfl k) ?_
            show Go _ _ _ _ _ _ _ (T244.setTop (mkF m 342 #[.val (.int p0), .val (.int p1), .val (.int p2), .val (.int p3), .val (.int p4), .val (.long q5), .second, .val (.int n_), .val (.ref b1), .val (.ref b28), .val (.ref b57), .val (.long x171), .second, .unset] [(.int n_), (.int ((p1.toUInt32 >>> ((28 : Int32) &&& 31).toUInt32).toInt32))]))
            refine gob (fun _ k => iremM X244 hx rfl (hb hby at_342) rfl (la_0_342_249 p0 n_ hn_ hc162_88 hc191_105 hc220_121 hc249_156 hc278_172) k) ?_
            show Go _ _ _ _ _ _ _ (T244.setTop (mkF m 343 #[.val (.int p0), .val (.int p1), .val (.int p2), .val (.int p3), .val (.int p4), .val (.long q5), .second, .val (.int n_), .val (.ref b1), .val (.ref b28), .val (.ref b57), .val (.long x171), .second, .unset] [(.int (((p1.toUInt32 >>> ((28 : Int32) &&& 31).toUInt32).toInt32) % n_))]))
            refine gob (fun _ k => XS.istore X244.here hx rfl (hb hby at_343) rfl (l' := #[.val (.int p0), .val (.int p1), .val (.int p2), .val (.int p3), .val (.int p4), .val (.long q5), .second, .val (.int n_), .val (.ref b1), .val (.ref b28), .val (.ref b57), .val (.long x171), .second, .val (.int (((p1.toUInt32 >>> ((28 : Int32) &&& 31).toUInt32).toInt32) % n_))]) rfl k) ?_
            show Go _ _ _ _ _ _ _ (T244.setTop (mkF m 345 #[.val (.int p0), .val (.int p1), .val (.int p2), .val (.int p3), .val (.int p4), .val (.long q5), .second, .val (.int n_), .val (.ref b1), .val (.ref b28), .val (.ref b57), .val (.long x171), .second, .val (.int (((p1.toUInt32 >>> ((28 : Int32) &&& 31).toUInt32).toInt32) % n_))] []))
            generalize hk_ : (((p1.toUInt32 >>> ((28 : Int32) &&& 31).toUInt32).toInt32) % n_) = k_
            show Go _ _ _ _ _ _ _ (T244.setTop (mkF m 345 #[.val (.int p0), .val (.int p1), .val (.int p2), .val (.int p3), .val (.int p4), .val (.long q5), .second, .val (.int n_), .val (.ref b1), .val (.ref b28), .val (.ref b57), .val (.long x171), .second, .val (.int k_)] []))
            refine gob (fun _ k => XS.aload X244.here hx rfl (hb hby at_345) rfl rfl k) ?_
            show Go _ _ _ _ _ _ _ (T244.setTop (mkF m 347 #[.val (.int p0), .val (.int p1), .val (.int p2), .val (.int p3), .val (.int p4), .val (.long q5), .second, .val (.int n_), .val (.ref b1), .val (.ref b28), .val (.ref b57), .val (.long x171), .second, .val (.int k_)] [(.ref b57)]))
            refine gob (fun _ k => XS.iload X244.here hx rfl (hb hby at_347) rfl k) ?_
            show Go _ _ _ _ _ _ _ (T244.setTop (mkF m 349 #[.val (.int p0), .val (.int p1), .val (.int p2), .val (.int p3), .val (.int p4), .val (.long q5), .second, .val (.int n_), .val (.ref b1), .val (.ref b28), .val (.ref b57), .val (.long x171), .second, .val (.int k_)] [(.int k_), (.ref b57)]))
            obtain ⟨cq250, kq250, q250a, q250b, q250c⟩ := isOf hZ e244 c241
            obtain ⟨_, _, ⟨T250, L250, k250, n250⟩, -, X250, ⟨Lc250, hQ250, l250, y250, z250⟩, st250⟩ := X244.virtualBack hx (y := (⟨"com/example/robust_broker/robustbroker/Postings", "document", "(I)I"⟩ : MethodName)) (z := (⟨"com/example/robust_broker/robustbroker/Postings", "document", "(I)I"⟩ : MethodName)) hown (mvT hZ (hw _ (List.mem_of_getElem? (i := 52) rfl))) (mvT hZ (hw _ (List.mem_of_getElem? (i := 53) rfl))) (notFace_of_selects (args := #[]) (mvT hZ (hw _ (List.mem_of_getElem? (i := 55) rfl)))) (mvT hZ (hw _ (List.mem_of_getElem? (i := 55) rfl))) (mvT hZ (hw _ (List.mem_of_getElem? (i := 54) rfl))) (by decide) (backOf (W := 0) (rmdoc_4_4 l Z a0 hw [] b57 k_ b127 k129 x4 x9 x14 x19 T160.heap n0 z168 F162 F163 (la_0_349_251 p0 p1 n_ k_ hn_ hc162_88 hc191_105 hc220_121 hc249_156 hc278_172 hk_) (la_0_349_252 p0 p1 n_ k_ hn_ hc162_88 hc191_105 hc220_121 hc249_156 hc278_172 hk_)) hZ (hw _ (List.mem_of_getElem? (i := 56) rfl)) (hw _ (List.mem_of_getElem? (i := 10) rfl)) (by decide) (by decide)) q250a q250c (g := (mkF m 349 #[.val (.int p0), .val (.int p1), .val (.int p2), .val (.int p3), .val (.int p4), .val (.long q5), .second, .val (.int n_), .val (.ref b1), .val (.ref b28), .val (.ref b57), .val (.long x171), .second, .val (.int k_)] [(.int k_), (.ref b57)])) rfl (by rw [hml]; rfl) (Steps.refl _) (argsL := [(.int k_)]) (rest := []) (lenOf pd_2 rfl) rfl (by show 2 * 0 + _ ≤ _; exact Nat.le_of_eq rfl) (hb hby at_349) (fun _ _ => ⟨rfl, e244, (by decide : 7 + 0 ≤ _), (by decide : 26 + 0 ≤ _)⟩)
            dsimp only [Pt.U, Pt.locs, Pt.cells, Pt.slots] at X250 l250 y250 z250 st250 hQ250
            replace X250 := castX X250 (y250.trans (rfl : _ = 7)) (z250.trans (rfl : _ = 26))
            obtain ⟨r250, rfl, hr250, Nq250, e250⟩ := hQ250
            have N250 : Fr n0 L250 := l250 ▸ Fr.app N244 Nq250
            refine gob (fun _ k => st250.trans k) ?_
            show Go _ _ _ _ _ _ _ (T250.setTop (mkF m 352 #[.val (.int p0), .val (.int p1), .val (.int p2), .val (.int p3), .val (.int p4), .val (.long q5), .second, .val (.int n_), .val (.ref b1), .val (.ref b28), .val (.ref b57), .val (.long x171), .second, .val (.int k_)] [(.int r250)]))
            refine gob (fun _ k => XS.aload X250.here hx rfl (hb hby at_352) rfl rfl k) ?_
            show Go _ _ _ _ _ _ _ (T250.setTop (mkF m 354 #[.val (.int p0), .val (.int p1), .val (.int p2), .val (.int p3), .val (.int p4), .val (.long q5), .second, .val (.int n_), .val (.ref b1), .val (.ref b28), .val (.ref b57), .val (.long x171), .second, .val (.int k_)] [(.ref b1), (.int r250)]))
            refine gob (fun _ k => XS.iload X250.here hx rfl (hb hby at_354) rfl k) ?_
            show Go _ _ _ _ _ _ _ (T250.setTop (mkF m 356 #[.val (.int p0), .val (.int p1), .val (.int p2), .val (.int p3), .val (.int p4), .val (.long q5), .second, .val (.int n_), .val (.ref b1), .val (.ref b28), .val (.ref b57), .val (.long x171), .second, .val (.int k_)] [(.int k_), (.ref b1), (.int r250)]))
            have c254 := (c158.keep K160 (ninS n140 (ninS n146 (ninS n59 nin0))))
            obtain ⟨cl253, Ar253, aq253, S253, N253, H253, G253⟩ := id c254
            have hj255 : 0 ≤ k_.toInt ∧ k_.toInt < 5 := (la_0_356_256 p0 p1 n_ k_ hn_ hc162_88 hc191_105 hc220_121 hc249_156 hc278_172 hk_)
            obtain ⟨w255, hw255, hg255⟩ := own_at5 x4 x9 x14 x19 x24 (.int (0 : Int32)) k_ 5 (by decide) hj255.1 hj255.2
            have hin255 : ¬ (k_ < 0 ∨ cl253.slots.size ≤ (k_).toNatClampNeg) := inb_of S253 (own_idx _ _ 5 (by decide) hj255.1 hj255.2)
            refine gob (X250.iaload hx (j := k_) (v := (.int w255)) (by rw [e250]; exact Ar253.1) (State.isArrayOf_alike hZ.alike Ar253.2.1) Ar253.2.2 hin255 (Has.at H253 hin255 hg255) (g := (mkF m 356 #[.val (.int p0), .val (.int p1), .val (.int p2), .val (.int p3), .val (.int p4), .val (.long q5), .second, .val (.int n_), .val (.ref b1), .val (.ref b28), .val (.ref b57), .val (.long x171), .second, .val (.int k_)] [(.int k_), (.ref b1), (.int r250)])) rfl rfl (hb hby at_356)) ?_
            show Go _ _ _ _ _ _ _ (T250.setTop (mkF m 357 #[.val (.int p0), .val (.int p1), .val (.int p2), .val (.int p3), .val (.int p4), .val (.long q5), .second, .val (.int n_), .val (.ref b1), .val (.ref b28), .val (.ref b57), .val (.long x171), .second, .val (.int k_)] [(.int w255), (.int r250)]))
            have hd258 : r250 = w255 := ld_0_357_257 x4 x9 x14 x19 x24 k_ r250 w255 hr250 hw255
            refine gob (fun _ k => XS.icmpNo X250.here hx rfl (hb hby at_357) rfl (teq hd258).2 k) ?_
            show Go _ _ _ _ _ _ _ (T250.setTop (mkF m 360 #[.val (.int p0), .val (.int p1), .val (.int p2), .val (.int p3), .val (.int p4), .val (.long q5), .second, .val (.int n_), .val (.ref b1), .val (.ref b28), .val (.ref b57), .val (.long x171), .second, .val (.int k_)] []))
            refine gob (fun _ k => XS.aload X250.here hx rfl (hb hby at_360) rfl rfl k) ?_
            show Go _ _ _ _ _ _ _ (T250.setTop (mkF m 362 #[.val (.int p0), .val (.int p1), .val (.int p2), .val (.int p3), .val (.int p4), .val (.long q5), .second, .val (.int n_), .val (.ref b1), .val (.ref b28), .val (.ref b57), .val (.long x171), .second, .val (.int k_)] [(.ref b57)]))
            refine gob (fun _ k => XS.iload X250.here hx rfl (hb hby at_362) rfl k) ?_
            show Go _ _ _ _ _ _ _ (T250.setTop (mkF m 364 #[.val (.int p0), .val (.int p1), .val (.int p2), .val (.int p3), .val (.int p4), .val (.long q5), .second, .val (.int n_), .val (.ref b1), .val (.ref b28), .val (.ref b57), .val (.long x171), .second, .val (.int k_)] [(.int k_), (.ref b57)]))
            obtain ⟨cq259, kq259, q259a, q259b, q259c⟩ := isOf hZ e250 c241
            obtain ⟨_, _, ⟨T259, L259, k259, n259⟩, -, X259, ⟨Lc259, hQ259, l259, y259, z259⟩, st259⟩ := X250.virtualBack hx (y := (⟨"com/example/robust_broker/robustbroker/Postings", "frequency", "(I)I"⟩ : MethodName)) (z := (⟨"com/example/robust_broker/robustbroker/Postings", "frequency", "(I)I"⟩ : MethodName)) hown (mvT hZ (hw _ (List.mem_of_getElem? (i := 57) rfl))) (mvT hZ (hw _ (List.mem_of_getElem? (i := 58) rfl))) (notFace_of_selects (args := #[]) (mvT hZ (hw _ (List.mem_of_getElem? (i := 60) rfl)))) (mvT hZ (hw _ (List.mem_of_getElem? (i := 60) rfl))) (mvT hZ (hw _ (List.mem_of_getElem? (i := 59) rfl))) (by decide) (backOf (W := 0) (rmfre_4_4 l Z a0 hw [] b57 k_ b128 k130 r32 r37 r42 r47 T160.heap n0 z168 F164 F165 (la_0_364_260 p0 p1 n_ k_ hn_ hc162_88 hc191_105 hc220_121 hc249_156 hc278_172 hk_) (la_0_364_261 p0 p1 n_ k_ hn_ hc162_88 hc191_105 hc220_121 hc249_156 hc278_172 hk_)) hZ (hw _ (List.mem_of_getElem? (i := 61) rfl)) (hw _ (List.mem_of_getElem? (i := 10) rfl)) (by decide) (by decide)) q259a q259c (g := (mkF m 364 #[.val (.int p0), .val (.int p1), .val (.int p2), .val (.int p3), .val (.int p4), .val (.long q5), .second, .val (.int n_), .val (.ref b1), .val (.ref b28), .val (.ref b57), .val (.long x171), .second, .val (.int k_)] [(.int k_), (.ref b57)])) rfl (by rw [hml]; rfl) (Steps.refl _) (argsL := [(.int k_)]) (rest := []) (lenOf pd_2 rfl) rfl (by show 2 * 0 + _ ≤ _; exact Nat.le_of_eq rfl) (hb hby at_364) (fun _ _ => ⟨rfl, e250, (by decide : 7 + 0 ≤ _), (by decide : 26 + 0 ≤ _)⟩)
            dsimp only [Pt.U, Pt.locs, Pt.cells, Pt.slots] at X259 l259 y259 z259 st259 hQ259
            replace X259 := castX X259 (y259.trans (rfl : _ = 7)) (z259.trans (rfl : _ = 26))
            obtain ⟨r259, rfl, hr259, Nq259, e259⟩ := hQ259
            have N259 : Fr n0 L259 := l259 ▸ Fr.app N250 Nq259
            refine gob (fun _ k => st259.trans k) ?_
            show Go _ _ _ _ _ _ _ (T259.setTop (mkF m 367 #[.val (.int p0), .val (.int p1), .val (.int p2), .val (.int p3), .val (.int p4), .val (.long q5), .second, .val (.int n_), .val (.ref b1), .val (.ref b28), .val (.ref b57), .val (.long x171), .second, .val (.int k_)] [(.int r259)]))
            refine gob (fun _ k => XS.aload X259.here hx rfl (hb hby at_367) rfl rfl k) ?_
            show Go _ _ _ _ _ _ _ (T259.setTop (mkF m 369 #[.val (.int p0), .val (.int p1), .val (.int p2), .val (.int p3), .val (.int p4), .val (.long q5), .second, .val (.int n_), .val (.ref b1), .val (.ref b28), .val (.ref b57), .val (.long x171), .second, .val (.int k_)] [(.ref b28), (.int r259)]))
            refine gob (fun _ k => XS.iload X259.here hx rfl (hb hby at_369) rfl k) ?_
            show Go _ _ _ _ _ _ _ (T259.setTop (mkF m 371 #[.val (.int p0), .val (.int p1), .val (.int p2), .val (.int p3), .val (.int p4), .val (.long q5), .second, .val (.int n_), .val (.ref b1), .val (.ref b28), .val (.ref b57), .val (.long x171), .second, .val (.int k_)] [(.int k_), (.ref b28), (.int r259)]))
            obtain ⟨cl262, Ar262, aq262, S262, N262, H262, G262⟩ := id c170
            have hj263 : 0 ≤ k_.toInt ∧ k_.toInt < 5 := (la_0_371_264 p0 p1 n_ k_ hn_ hc162_88 hc191_105 hc220_121 hc249_156 hc278_172 hk_)
            obtain ⟨w263, hw263, hg263⟩ := own_at5 r32 r37 r42 r47 r52 (.int (0 : Int32)) k_ 5 (by decide) hj263.1 hj263.2
            have hin263 : ¬ (k_ < 0 ∨ cl262.slots.size ≤ (k_).toNatClampNeg) := inb_of S262 (own_idx _ _ 5 (by decide) hj263.1 hj263.2)
            refine gob (X259.iaload hx (j := k_) (v := (.int w263)) (by rw [e259]; exact Ar262.1) (State.isArrayOf_alike hZ.alike Ar262.2.1) Ar262.2.2 hin263 (Has.at H262 hin263 hg263) (g := (mkF m 371 #[.val (.int p0), .val (.int p1), .val (.int p2), .val (.int p3), .val (.int p4), .val (.long q5), .second, .val (.int n_), .val (.ref b1), .val (.ref b28), .val (.ref b57), .val (.long x171), .second, .val (.int k_)] [(.int k_), (.ref b28), (.int r259)])) rfl rfl (hb hby at_371)) ?_
            show Go _ _ _ _ _ _ _ (T259.setTop (mkF m 372 #[.val (.int p0), .val (.int p1), .val (.int p2), .val (.int p3), .val (.int p4), .val (.long q5), .second, .val (.int n_), .val (.ref b1), .val (.ref b28), .val (.ref b57), .val (.long x171), .second, .val (.int k_)] [(.int w263), (.int r259)]))
            have hd266 : r259 = w263 := ld_0_372_265 r32 r37 r42 r47 r52 k_ r259 w263 hr259 hw263
            refine gob (fun _ k => XS.icmpNo X259.here hx rfl (hb hby at_372) rfl (teq hd266).2 k) ?_
            show Go _ _ _ _ _ _ _ (T259.setTop (mkF m 375 #[.val (.int p0), .val (.int p1), .val (.int p2), .val (.int p3), .val (.int p4), .val (.long q5), .second, .val (.int n_), .val (.ref b1), .val (.ref b28), .val (.ref b57), .val (.long x171), .second, .val (.int k_)] []))
            refine gob (fun _ k => XS.iconst X259.here hx rfl (hb hby at_375) k) ?_
            show Go _ _ _ _ _ _ _ (T259.setTop (mkF m 376 #[.val (.int p0), .val (.int p1), .val (.int p2), .val (.int p3), .val (.int p4), .val (.long q5), .second, .val (.int n_), .val (.ref b1), .val (.ref b28), .val (.ref b57), .val (.long x171), .second, .val (.int k_)] [(.int (1 : Int32))]))
            refine gob (fun _ k => XS.goto X259.here hx rfl (pc0 := 376) (pc' := 380) rfl (hb hby at_376) (by decide) (by decide) k) ?_
            show Go _ _ _ _ _ _ _ (T259.setTop (mkF m 380 #[.val (.int p0), .val (.int p1), .val (.int p2), .val (.int p3), .val (.int p4), .val (.long q5), .second, .val (.int n_), .val (.ref b1), .val (.ref b28), .val (.ref b57), .val (.long x171), .second, .val (.int k_)] [(.int (1 : Int32))]))
            refine goZ X259 hx hlk (t := .boolean) Bd.returns (by simp) (hb hby at_380) (z' := (1 : Int32)) rfl ?_ (by decide) (by decide)
            show Q0 Z p0 p1 p2 p3 p4 q5 h0 n0 (some (.int (1 : Int32))) T259.heap _
            exact ⟨rfl, N259⟩
        · skip
          refine gob (fun _ k => XS.icmpYes X125.here hx rfl (pc0 := 249) (pc' := 275) rfl (hb hby at_249) rfl (flt hc249_156).2.2.2 (by decide) (by decide) k) ?_
          show Go _ _ _ _ _ _ _ (T125.setTop (mkF m 275 #[.val (.int p0), .val (.int p1), .val (.int p2), .val (.int p3), .val (.int p4), .val (.long q5), .second, .val (.int n_), .val (.ref b1), .val (.ref b28), .val (.ref b57), .val (.long x155), .second, .unset] []))
          refine gob (fun _ k => XS.iload X125.here hx rfl (hb hby at_275) rfl k) ?_
          show Go _ _ _ _ _ _ _ (T125.setTop (mkF m 277 #[.val (.int p0), .val (.int p1), .val (.int p2), .val (.int p3), .val (.int p4), .val (.long q5), .second, .val (.int n_), .val (.ref b1), .val (.ref b28), .val (.ref b57), .val (.long x155), .second, .unset] [(.int n_)]))
          refine gob (fun _ k => XS.iconst X125.here hx rfl (hb hby at_277) k) ?_
          show Go _ _ _ _ _ _ _ (T125.setTop (mkF m 278 #[.val (.int p0), .val (.int p1), .val (.int p2), .val (.int p3), .val (.int p4), .val (.long q5), .second, .val (.int n_), .val (.ref b1), .val (.ref b28), .val (.ref b57), .val (.long x155), .second, .unset] [(.int (4 : Int32)), (.int n_)]))
          have hd268 : ¬ ((4 : Int32) < n_) := ld_0_278_267 p0 n_ hn_ hc162_88 hc191_105 hc220_121 hc249_156
          refine gob (fun _ k => XS.icmpYes X125.here hx rfl (pc0 := 278) (pc' := 304) rfl (hb hby at_278) rfl (flt hd268).2.2.2 (by decide) (by decide) k) ?_
          show Go _ _ _ _ _ _ _ (T125.setTop (mkF m 304 #[.val (.int p0), .val (.int p1), .val (.int p2), .val (.int p3), .val (.int p4), .val (.long q5), .second, .val (.int n_), .val (.ref b1), .val (.ref b28), .val (.ref b57), .val (.long x155), .second, .unset] []))
          refine gob (fun _ k => XS.aload X125.here hx rfl (hb hby at_304) rfl rfl k) ?_
          show Go _ _ _ _ _ _ _ (T125.setTop (mkF m 306 #[.val (.int p0), .val (.int p1), .val (.int p2), .val (.int p3), .val (.int p4), .val (.long q5), .second, .val (.int n_), .val (.ref b1), .val (.ref b28), .val (.ref b57), .val (.long x155), .second, .unset] [(.ref b57)]))
          have c270 := (c126.keep K125)
          obtain ⟨cq269, kq269, q269a, q269b, q269c⟩ := isOf hZ (rfl : T125.heap = _) c270
          obtain ⟨_, _, ⟨T269, L269, k269, n269⟩, -, X269, ⟨Lc269, hQ269, l269, y269, z269⟩, st269⟩ := X125.virtualBack hx (y := (⟨"com/example/robust_broker/robustbroker/Postings", "size", "()I"⟩ : MethodName)) (z := (⟨"com/example/robust_broker/robustbroker/Postings", "size", "()I"⟩ : MethodName)) hown (mvT hZ (hw _ (List.mem_of_getElem? (i := 21) rfl))) (mvT hZ (hw _ (List.mem_of_getElem? (i := 22) rfl))) (notFace_of_selects (args := #[]) (mvT hZ (hw _ (List.mem_of_getElem? (i := 24) rfl)))) (mvT hZ (hw _ (List.mem_of_getElem? (i := 24) rfl))) (mvT hZ (hw _ (List.mem_of_getElem? (i := 23) rfl))) (by decide) (backOf (W := 0) (rm4 l Z a0 hw [] b57 (3 : Int32) T125.heap n0 z152 F136) hZ (hw _ (List.mem_of_getElem? (i := 25) rfl)) (hw _ (List.mem_of_getElem? (i := 10) rfl)) (by decide) (by decide)) q269a q269c (g := (mkF m 306 #[.val (.int p0), .val (.int p1), .val (.int p2), .val (.int p3), .val (.int p4), .val (.long q5), .second, .val (.int n_), .val (.ref b1), .val (.ref b28), .val (.ref b57), .val (.long x155), .second, .unset] [(.ref b57)])) rfl (by rw [hml]; rfl) (Steps.refl _) (argsL := []) (rest := []) (lenOf pd_5 rfl) rfl (by show 2 * 0 + _ ≤ _; exact Nat.le_of_eq rfl) (hb hby at_306) (fun _ _ => ⟨rfl, (rfl : T125.heap = _), (by decide : 7 + 0 ≤ _), (by decide : 26 + 0 ≤ _)⟩)
          dsimp only [Pt.U, Pt.locs, Pt.cells, Pt.slots] at X269 l269 y269 z269 st269 hQ269
          replace X269 := castX X269 (y269.trans (rfl : _ = 7)) (z269.trans (rfl : _ = 26))
          obtain ⟨r269, rfl, hr269, Nq269, e269⟩ := hQ269
          have N269 : Fr n0 L269 := l269 ▸ Fr.app N125 Nq269
          refine gob (fun _ k => st269.trans k) ?_
          show Go _ _ _ _ _ _ _ (T269.setTop (mkF m 309 #[.val (.int p0), .val (.int p1), .val (.int p2), .val (.int p3), .val (.int p4), .val (.long q5), .second, .val (.int n_), .val (.ref b1), .val (.ref b28), .val (.ref b57), .val (.long x155), .second, .unset] [(.int r269)]))
          refine gob (fun _ k => XS.iload X269.here hx rfl (hb hby at_309) rfl k) ?_
          show Go _ _ _ _ _ _ _ (T269.setTop (mkF m 311 #[.val (.int p0), .val (.int p1), .val (.int p2), .val (.int p3), .val (.int p4), .val (.long q5), .second, .val (.int n_), .val (.ref b1), .val (.ref b28), .val (.ref b57), .val (.long x155), .second, .unset] [(.int n_), (.int r269)]))
          have hd272 : r269 = n_ := ld_0_311_271 p0 n_ r269 hn_ hc162_88 hc191_105 hc220_121 hc249_156 hr269
          refine gob (fun _ k => XS.icmpYes X269.here hx rfl (pc0 := 311) (pc' := 316) rfl (hb hby at_311) rfl (teq hd272).1 (by decide) (by decide) k) ?_
          show Go _ _ _ _ _ _ _ (T269.setTop (mkF m 316 #[.val (.int p0), .val (.int p1), .val (.int p2), .val (.int p3), .val (.int p4), .val (.long q5), .second, .val (.int n_), .val (.ref b1), .val (.ref b28), .val (.ref b57), .val (.long x155), .second, .unset] []))
          refine gob (fun _ k => XS.aload X269.here hx rfl (hb hby at_316) rfl rfl k) ?_
          show Go _ _ _ _ _ _ _ (T269.setTop (mkF m 318 #[.val (.int p0), .val (.int p1), .val (.int p2), .val (.int p3), .val (.int p4), .val (.long q5), .second, .val (.int n_), .val (.ref b1), .val (.ref b28), .val (.ref b57), .val (.long x155), .second, .unset] [(.ref b57)]))
          obtain ⟨cq273, kq273, q273a, q273b, q273c⟩ := isOf hZ e269 c270
          obtain ⟨_, _, ⟨T273, L273, k273, n273⟩, -, X273, ⟨Lc273, hQ273, l273, y273, z273⟩, st273⟩ := X269.virtualBack hx (y := (⟨"com/example/robust_broker/robustbroker/Postings", "collectionFrequency", "()J"⟩ : MethodName)) (z := (⟨"com/example/robust_broker/robustbroker/Postings", "collectionFrequency", "()J"⟩ : MethodName)) hown (mvT hZ (hw _ (List.mem_of_getElem? (i := 28) rfl))) (mvT hZ (hw _ (List.mem_of_getElem? (i := 29) rfl))) (notFace_of_selects (args := #[]) (mvT hZ (hw _ (List.mem_of_getElem? (i := 31) rfl)))) (mvT hZ (hw _ (List.mem_of_getElem? (i := 31) rfl))) (mvT hZ (hw _ (List.mem_of_getElem? (i := 30) rfl))) (by decide) (backOf (W := 0) (rm5 l Z a0 hw [] b57 ((((0 : Int64) + (r32.toInt64)) + (r37.toInt64)) + (r42.toInt64)) T125.heap n0 z152 F137) hZ (hw _ (List.mem_of_getElem? (i := 32) rfl)) (hw _ (List.mem_of_getElem? (i := 10) rfl)) (by decide) (by decide)) q273a q273c (g := (mkF m 318 #[.val (.int p0), .val (.int p1), .val (.int p2), .val (.int p3), .val (.int p4), .val (.long q5), .second, .val (.int n_), .val (.ref b1), .val (.ref b28), .val (.ref b57), .val (.long x155), .second, .unset] [(.ref b57)])) rfl (by rw [hml]; rfl) (Steps.refl _) (argsL := []) (rest := []) (lenOf pd_6 rfl) rfl (by show 2 * 0 + _ ≤ _; exact Nat.le_of_eq rfl) (hb hby at_318) (fun _ _ => ⟨rfl, e269, (by decide : 7 + 0 ≤ _), (by decide : 26 + 0 ≤ _)⟩)
          dsimp only [Pt.U, Pt.locs, Pt.cells, Pt.slots] at X273 l273 y273 z273 st273 hQ273
          replace X273 := castX X273 (y273.trans (rfl : _ = 7)) (z273.trans (rfl : _ = 26))
          obtain ⟨r273, rfl, hr273, Nq273, e273⟩ := hQ273
          have N273 : Fr n0 L273 := l273 ▸ Fr.app N269 Nq273
          refine gob (fun _ k => st273.trans k) ?_
          show Go _ _ _ _ _ _ _ (T273.setTop (mkF m 321 #[.val (.int p0), .val (.int p1), .val (.int p2), .val (.int p3), .val (.int p4), .val (.long q5), .second, .val (.int n_), .val (.ref b1), .val (.ref b28), .val (.ref b57), .val (.long x155), .second, .unset] [(.long r273)]))
          refine gob (fun _ k => XS.lload X273.here hx rfl (hb hby at_321) rfl k) ?_
          show Go _ _ _ _ _ _ _ (T273.setTop (mkF m 323 #[.val (.int p0), .val (.int p1), .val (.int p2), .val (.int p3), .val (.int p4), .val (.long q5), .second, .val (.int n_), .val (.ref b1), .val (.ref b28), .val (.ref b57), .val (.long x155), .second, .unset] [(.long x155), (.long r273)]))
          refine gob (fun _ k => XS.lcmp X273.here hx rfl (hb hby at_323) rfl k) ?_
          show Go _ _ _ _ _ _ _ (T273.setTop (mkF m 324 #[.val (.int p0), .val (.int p1), .val (.int p2), .val (.int p3), .val (.int p4), .val (.long q5), .second, .val (.int n_), .val (.ref b1), .val (.ref b28), .val (.ref b57), .val (.long x155), .second, .unset] [(.int (lcmpW r273 x155))]))
          have hd275 : r273 = x155 := ld_0_324_274 r32 r37 r42 x104 x120 x155 r273 hr32 hr37 hr42 hx104 hx120 hx155 hr273
          refine gob (fun _ k => XS.ifYes X273.here hx rfl (pc0 := 324) (pc' := 329) rfl (hb hby at_324) rfl ((if0 _ _).trans (teq ((lw_eq _ _).mpr hd275)).1) (by decide) (by decide) k) ?_
          show Go _ _ _ _ _ _ _ (T273.setTop (mkF m 329 #[.val (.int p0), .val (.int p1), .val (.int p2), .val (.int p3), .val (.int p4), .val (.long q5), .second, .val (.int n_), .val (.ref b1), .val (.ref b28), .val (.ref b57), .val (.long x155), .second, .unset] []))
          refine gob (fun _ k => XS.iload X273.here hx rfl (hb hby at_329) rfl k) ?_
          show Go _ _ _ _ _ _ _ (T273.setTop (mkF m 331 #[.val (.int p0), .val (.int p1), .val (.int p2), .val (.int p3), .val (.int p4), .val (.long q5), .second, .val (.int n_), .val (.ref b1), .val (.ref b28), .val (.ref b57), .val (.long x155), .second, .unset] [(.int n_)]))
          have hd277 : ¬ (n_ = (0 : Int32)) := ld_0_331_276 p0 n_ hn_ hc162_88 hc191_105 hc220_121 hc249_156
          refine gob (fun _ k => XS.ifYes X273.here hx rfl (pc0 := 331) (pc' := 336) rfl (hb hby at_331) rfl ((if0 _ _).trans (feq hd277).2) (by decide) (by decide) k) ?_
          show Go _ _ _ _ _ _ _ (T273.setTop (mkF m 336 #[.val (.int p0), .val (.int p1), .val (.int p2), .val (.int p3), .val (.int p4), .val (.long q5), .second, .val (.int n_), .val (.ref b1), .val (.ref b28), .val (.ref b57), .val (.long x155), .second, .unset] []))
          refine gob (fun _ k => XS.iloadN X273.here hx rfl (hb hby at_336) rfl k) ?_
          show Go _ _ _ _ _ _ _ (T273.setTop (mkF m 337 #[.val (.int p0), .val (.int p1), .val (.int p2), .val (.int p3), .val (.int p4), .val (.long q5), .second, .val (.int n_), .val (.ref b1), .val (.ref b28), .val (.ref b57), .val (.long x155), .second, .unset] [(.int p1)]))
          refine gob (fun _ k => XS.bipush X273.here hx rfl (hb hby at_337) k) ?_
          show Go _ _ _ _ _ _ _ (T273.setTop (mkF m 339 #[.val (.int p0), .val (.int p1), .val (.int p2), .val (.int p3), .val (.int p4), .val (.long q5), .second, .val (.int n_), .val (.ref b1), .val (.ref b28), .val (.ref b57), .val (.long x155), .second, .unset] [(.int (28 : Int32)), (.int p1)]))
          refine gob (fun _ k => XS.iushr X273.here hx rfl (hb hby at_339) rfl k) ?_
          show Go _ _ _ _ _ _ _ (T273.setTop (mkF m 340 #[.val (.int p0), .val (.int p1), .val (.int p2), .val (.int p3), .val (.int p4), .val (.long q5), .second, .val (.int n_), .val (.ref b1), .val (.ref b28), .val (.ref b57), .val (.long x155), .second, .unset] [(.int ((p1.toUInt32 >>> ((28 : Int32) &&& 31).toUInt32).toInt32))]))
          refine gob (fun _ k => XS.iload X273.here hx rfl (hb hby at_340) rfl k) ?_
          show Go _ _ _ _ _ _ _ (T273.setTop (mkF m 342 #[.val (.int p0), .val (.int p1), .val (.int p2), .val (.int p3), .val (.int p4), .val (.long q5), .second, .val (.int n_), .val (.ref b1), .val (.ref b28), .val (.ref b57), .val (.long x155), .second, .unset] [(.int n_), (.int ((p1.toUInt32 >>> ((28 : Int32) &&& 31).toUInt32).toInt32))]))
          refine gob (fun _ k => iremM X273 hx rfl (hb hby at_342) rfl (la_0_342_278 p0 n_ hn_ hc162_88 hc191_105 hc220_121 hc249_156) k) ?_
          show Go _ _ _ _ _ _ _ (T273.setTop (mkF m 343 #[.val (.int p0), .val (.int p1), .val (.int p2), .val (.int p3), .val (.int p4), .val (.long q5), .second, .val (.int n_), .val (.ref b1), .val (.ref b28), .val (.ref b57), .val (.long x155), .second, .unset] [(.int (((p1.toUInt32 >>> ((28 : Int32) &&& 31).toUInt32).toInt32) % n_))]))
          refine gob (fun _ k => XS.istore X273.here hx rfl (hb hby at_343) rfl (l' := #[.val (.int p0), .val (.int p1), .val (.int p2), .val (.int p3), .val (.int p4), .val (.long q5), .second, .val (.int n_), .val (.ref b1), .val (.ref b28), .val (.ref b57), .val (.long x155), .second, .val (.int (((p1.toUInt32 >>> ((28 : Int32) &&& 31).toUInt32).toInt32) % n_))]) rfl k) ?_
          show Go _ _ _ _ _ _ _ (T273.setTop (mkF m 345 #[.val (.int p0), .val (.int p1), .val (.int p2), .val (.int p3), .val (.int p4), .val (.long q5), .second, .val (.int n_), .val (.ref b1), .val (.ref b28), .val (.ref b57), .val (.long x155), .second, .val (.int (((p1.toUInt32 >>> ((28 : Int32) &&& 31).toUInt32).toInt32) % n_))] []))
          generalize hk_ : (((p1.toUInt32 >>> ((28 : Int32) &&& 31).toUInt32).toInt32) % n_) = k_
          show Go _ _ _ _ _ _ _ (T273.setTop (mkF m 345 #[.val (.int p0), .val (.int p1), .val (.int p2), .val (.int p3), .val (.int p4), .val (.long q5), .second, .val (.int n_), .val (.ref b1), .val (.ref b28), .val (.ref b57), .val (.long x155), .second, .val (.int k_)] []))
          refine gob (fun _ k => XS.aload X273.here hx rfl (hb hby at_345) rfl rfl k) ?_
          show Go _ _ _ _ _ _ _ (T273.setTop (mkF m 347 #[.val (.int p0), .val (.int p1), .val (.int p2), .val (.int p3), .val (.int p4), .val (.long q5), .second, .val (.int n_), .val (.ref b1), .val (.ref b28), .val (.ref b57), .val (.long x155), .second, .val (.int k_)] [(.ref b57)]))
          refine gob (fun _ k => XS.iload X273.here hx rfl (hb hby at_347) rfl k) ?_
          show Go _ _ _ _ _ _ _ (T273.setTop (mkF m 349 #[.val (.int p0), .val (.int p1), .val (.int p2), .val (.int p3), .val (.int p4), .val (.long q5), .second, .val (.int n_), .val (.ref b1), .val (.ref b28), .val (.ref b57), .val (.long x155), .second, .val (.int k_)] [(.int k_), (.ref b57)]))
          obtain ⟨cq279, kq279, q279a, q279b, q279c⟩ := isOf hZ e273 c270
          obtain ⟨_, _, ⟨T279, L279, k279, n279⟩, -, X279, ⟨Lc279, hQ279, l279, y279, z279⟩, st279⟩ := X273.virtualBack hx (y := (⟨"com/example/robust_broker/robustbroker/Postings", "document", "(I)I"⟩ : MethodName)) (z := (⟨"com/example/robust_broker/robustbroker/Postings", "document", "(I)I"⟩ : MethodName)) hown (mvT hZ (hw _ (List.mem_of_getElem? (i := 52) rfl))) (mvT hZ (hw _ (List.mem_of_getElem? (i := 53) rfl))) (notFace_of_selects (args := #[]) (mvT hZ (hw _ (List.mem_of_getElem? (i := 55) rfl)))) (mvT hZ (hw _ (List.mem_of_getElem? (i := 55) rfl))) (mvT hZ (hw _ (List.mem_of_getElem? (i := 54) rfl))) (by decide) (backOf (W := 0) (rmdoc_4_3 l Z a0 hw [] b57 k_ b127 k129 x4 x9 x14 T125.heap n0 z152 F134 F138 (la_0_349_280 p0 p1 n_ k_ hn_ hc162_88 hc191_105 hc220_121 hc249_156 hk_) (la_0_349_281 p0 p1 n_ k_ hn_ hc162_88 hc191_105 hc220_121 hc249_156 hk_)) hZ (hw _ (List.mem_of_getElem? (i := 56) rfl)) (hw _ (List.mem_of_getElem? (i := 10) rfl)) (by decide) (by decide)) q279a q279c (g := (mkF m 349 #[.val (.int p0), .val (.int p1), .val (.int p2), .val (.int p3), .val (.int p4), .val (.long q5), .second, .val (.int n_), .val (.ref b1), .val (.ref b28), .val (.ref b57), .val (.long x155), .second, .val (.int k_)] [(.int k_), (.ref b57)])) rfl (by rw [hml]; rfl) (Steps.refl _) (argsL := [(.int k_)]) (rest := []) (lenOf pd_2 rfl) rfl (by show 2 * 0 + _ ≤ _; exact Nat.le_of_eq rfl) (hb hby at_349) (fun _ _ => ⟨rfl, e273, (by decide : 7 + 0 ≤ _), (by decide : 26 + 0 ≤ _)⟩)
          dsimp only [Pt.U, Pt.locs, Pt.cells, Pt.slots] at X279 l279 y279 z279 st279 hQ279
          replace X279 := castX X279 (y279.trans (rfl : _ = 7)) (z279.trans (rfl : _ = 26))
          obtain ⟨r279, rfl, hr279, Nq279, e279⟩ := hQ279
          have N279 : Fr n0 L279 := l279 ▸ Fr.app N273 Nq279
          refine gob (fun _ k => st279.trans k) ?_
          show Go _ _ _ _ _ _ _ (T279.setTop (mkF m 352 #[.val (.int p0), .val (.int p1), .val (.int p2), .val (.int p3), .val (.int p4), .val (.long q5), .second, .val (.int n_), .val (.ref b1), .val (.ref b28), .val (.ref b57), .val (.long x155), .second, .val (.int k_)] [(.int r279)]))
          refine gob (fun _ k => XS.aload X279.here hx rfl (hb hby at_352) rfl rfl k) ?_
          show Go _ _ _ _ _ _ _ (T279.setTop (mkF m 354 #[.val (.int p0), .val (.int p1), .val (.int p2), .val (.int p3), .val (.int p4), .val (.long q5), .second, .val (.int n_), .val (.ref b1), .val (.ref b28), .val (.ref b57), .val (.long x155), .second, .val (.int k_)] [(.ref b1), (.int r279)]))
          refine gob (fun _ k => XS.iload X279.here hx rfl (hb hby at_354) rfl k) ?_
          show Go _ _ _ _ _ _ _ (T279.setTop (mkF m 356 #[.val (.int p0), .val (.int p1), .val (.int p2), .val (.int p3), .val (.int p4), .val (.long q5), .second, .val (.int n_), .val (.ref b1), .val (.ref b28), .val (.ref b57), .val (.long x155), .second, .val (.int k_)] [(.int k_), (.ref b1), (.int r279)]))
          have c283 := (c123.keep K125 (ninS n59 nin0))
          obtain ⟨cl282, Ar282, aq282, S282, N282, H282, G282⟩ := id c283
          have hj284 : 0 ≤ k_.toInt ∧ k_.toInt < 5 := (la_0_356_285 p0 p1 n_ k_ hn_ hc162_88 hc191_105 hc220_121 hc249_156 hk_)
          obtain ⟨w284, hw284, hg284⟩ := own_at5 x4 x9 x14 x19 x24 (.int (0 : Int32)) k_ 5 (by decide) hj284.1 hj284.2
          have hin284 : ¬ (k_ < 0 ∨ cl282.slots.size ≤ (k_).toNatClampNeg) := inb_of S282 (own_idx _ _ 5 (by decide) hj284.1 hj284.2)
          refine gob (X279.iaload hx (j := k_) (v := (.int w284)) (by rw [e279]; exact Ar282.1) (State.isArrayOf_alike hZ.alike Ar282.2.1) Ar282.2.2 hin284 (Has.at H282 hin284 hg284) (g := (mkF m 356 #[.val (.int p0), .val (.int p1), .val (.int p2), .val (.int p3), .val (.int p4), .val (.long q5), .second, .val (.int n_), .val (.ref b1), .val (.ref b28), .val (.ref b57), .val (.long x155), .second, .val (.int k_)] [(.int k_), (.ref b1), (.int r279)])) rfl rfl (hb hby at_356)) ?_
          show Go _ _ _ _ _ _ _ (T279.setTop (mkF m 357 #[.val (.int p0), .val (.int p1), .val (.int p2), .val (.int p3), .val (.int p4), .val (.long q5), .second, .val (.int n_), .val (.ref b1), .val (.ref b28), .val (.ref b57), .val (.long x155), .second, .val (.int k_)] [(.int w284), (.int r279)]))
          have hd287 : r279 = w284 := ld_0_357_286 x4 x9 x14 x19 x24 k_ r279 w284 hr279 hw284
          refine gob (fun _ k => XS.icmpNo X279.here hx rfl (hb hby at_357) rfl (teq hd287).2 k) ?_
          show Go _ _ _ _ _ _ _ (T279.setTop (mkF m 360 #[.val (.int p0), .val (.int p1), .val (.int p2), .val (.int p3), .val (.int p4), .val (.long q5), .second, .val (.int n_), .val (.ref b1), .val (.ref b28), .val (.ref b57), .val (.long x155), .second, .val (.int k_)] []))
          refine gob (fun _ k => XS.aload X279.here hx rfl (hb hby at_360) rfl rfl k) ?_
          show Go _ _ _ _ _ _ _ (T279.setTop (mkF m 362 #[.val (.int p0), .val (.int p1), .val (.int p2), .val (.int p3), .val (.int p4), .val (.long q5), .second, .val (.int n_), .val (.ref b1), .val (.ref b28), .val (.ref b57), .val (.long x155), .second, .val (.int k_)] [(.ref b57)]))
          refine gob (fun _ k => XS.iload X279.here hx rfl (hb hby at_362) rfl k) ?_
          show Go _ _ _ _ _ _ _ (T279.setTop (mkF m 364 #[.val (.int p0), .val (.int p1), .val (.int p2), .val (.int p3), .val (.int p4), .val (.long q5), .second, .val (.int n_), .val (.ref b1), .val (.ref b28), .val (.ref b57), .val (.long x155), .second, .val (.int k_)] [(.int k_), (.ref b57)]))
          obtain ⟨cq288, kq288, q288a, q288b, q288c⟩ := isOf hZ e279 c270
          obtain ⟨_, _, ⟨T288, L288, k288, n288⟩, -, X288, ⟨Lc288, hQ288, l288, y288, z288⟩, st288⟩ := X279.virtualBack hx (y := (⟨"com/example/robust_broker/robustbroker/Postings", "frequency", "(I)I"⟩ : MethodName)) (z := (⟨"com/example/robust_broker/robustbroker/Postings", "frequency", "(I)I"⟩ : MethodName)) hown (mvT hZ (hw _ (List.mem_of_getElem? (i := 57) rfl))) (mvT hZ (hw _ (List.mem_of_getElem? (i := 58) rfl))) (notFace_of_selects (args := #[]) (mvT hZ (hw _ (List.mem_of_getElem? (i := 60) rfl)))) (mvT hZ (hw _ (List.mem_of_getElem? (i := 60) rfl))) (mvT hZ (hw _ (List.mem_of_getElem? (i := 59) rfl))) (by decide) (backOf (W := 0) (rmfre_4_3 l Z a0 hw [] b57 k_ b128 k130 r32 r37 r42 T125.heap n0 z152 F135 F139 (la_0_364_289 p0 p1 n_ k_ hn_ hc162_88 hc191_105 hc220_121 hc249_156 hk_) (la_0_364_290 p0 p1 n_ k_ hn_ hc162_88 hc191_105 hc220_121 hc249_156 hk_)) hZ (hw _ (List.mem_of_getElem? (i := 61) rfl)) (hw _ (List.mem_of_getElem? (i := 10) rfl)) (by decide) (by decide)) q288a q288c (g := (mkF m 364 #[.val (.int p0), .val (.int p1), .val (.int p2), .val (.int p3), .val (.int p4), .val (.long q5), .second, .val (.int n_), .val (.ref b1), .val (.ref b28), .val (.ref b57), .val (.long x155), .second, .val (.int k_)] [(.int k_), (.ref b57)])) rfl (by rw [hml]; rfl) (Steps.refl _) (argsL := [(.int k_)]) (rest := []) (lenOf pd_2 rfl) rfl (by show 2 * 0 + _ ≤ _; exact Nat.le_of_eq rfl) (hb hby at_364) (fun _ _ => ⟨rfl, e279, (by decide : 7 + 0 ≤ _), (by decide : 26 + 0 ≤ _)⟩)
          dsimp only [Pt.U, Pt.locs, Pt.cells, Pt.slots] at X288 l288 y288 z288 st288 hQ288
          replace X288 := castX X288 (y288.trans (rfl : _ = 7)) (z288.trans (rfl : _ = 26))
          obtain ⟨r288, rfl, hr288, Nq288, e288⟩ := hQ288
          have N288 : Fr n0 L288 := l288 ▸ Fr.app N279 Nq288
          refine gob (fun _ k => st288.trans k) ?_
          show Go _ _ _ _ _ _ _ (T288.setTop (mkF m 367 #[.val (.int p0), .val (.int p1), .val (.int p2), .val (.int p3), .val (.int p4), .val (.long q5), .second, .val (.int n_), .val (.ref b1), .val (.ref b28), .val (.ref b57), .val (.long x155), .second, .val (.int k_)] [(.int r288)]))
          refine gob (fun _ k => XS.aload X288.here hx rfl (hb hby at_367) rfl rfl k) ?_
          show Go _ _ _ _ _ _ _ (T288.setTop (mkF m 369 #[.val (.int p0), .val (.int p1), .val (.int p2), .val (.int p3), .val (.int p4), .val (.long q5), .second, .val (.int n_), .val (.ref b1), .val (.ref b28), .val (.ref b57), .val (.long x155), .second, .val (.int k_)] [(.ref b28), (.int r288)]))
          refine gob (fun _ k => XS.iload X288.here hx rfl (hb hby at_369) rfl k) ?_
          show Go _ _ _ _ _ _ _ (T288.setTop (mkF m 371 #[.val (.int p0), .val (.int p1), .val (.int p2), .val (.int p3), .val (.int p4), .val (.long q5), .second, .val (.int n_), .val (.ref b1), .val (.ref b28), .val (.ref b57), .val (.long x155), .second, .val (.int k_)] [(.int k_), (.ref b28), (.int r288)]))
          obtain ⟨cl291, Ar291, aq291, S291, N291, H291, G291⟩ := id c154
          have hj292 : 0 ≤ k_.toInt ∧ k_.toInt < 5 := (la_0_371_293 p0 p1 n_ k_ hn_ hc162_88 hc191_105 hc220_121 hc249_156 hk_)
          obtain ⟨w292, hw292, hg292⟩ := own_at5 r32 r37 r42 r47 r52 (.int (0 : Int32)) k_ 5 (by decide) hj292.1 hj292.2
          have hin292 : ¬ (k_ < 0 ∨ cl291.slots.size ≤ (k_).toNatClampNeg) := inb_of S291 (own_idx _ _ 5 (by decide) hj292.1 hj292.2)
          refine gob (X288.iaload hx (j := k_) (v := (.int w292)) (by rw [e288]; exact Ar291.1) (State.isArrayOf_alike hZ.alike Ar291.2.1) Ar291.2.2 hin292 (Has.at H291 hin292 hg292) (g := (mkF m 371 #[.val (.int p0), .val (.int p1), .val (.int p2), .val (.int p3), .val (.int p4), .val (.long q5), .second, .val (.int n_), .val (.ref b1), .val (.ref b28), .val (.ref b57), .val (.long x155), .second, .val (.int k_)] [(.int k_), (.ref b28), (.int r288)])) rfl rfl (hb hby at_371)) ?_
          show Go _ _ _ _ _ _ _ (T288.setTop (mkF m 372 #[.val (.int p0), .val (.int p1), .val (.int p2), .val (.int p3), .val (.int p4), .val (.long q5), .second, .val (.int n_), .val (.ref b1), .val (.ref b28), .val (.ref b57), .val (.long x155), .second, .val (.int k_)] [(.int w292), (.int r288)]))
          have hd295 : r288 = w292 := ld_0_372_294 r32 r37 r42 r47 r52 k_ r288 w292 hr288 hw292
          refine gob (fun _ k => XS.icmpNo X288.here hx rfl (hb hby at_372) rfl (teq hd295).2 k) ?_
          show Go _ _ _ _ _ _ _ (T288.setTop (mkF m 375 #[.val (.int p0), .val (.int p1), .val (.int p2), .val (.int p3), .val (.int p4), .val (.long q5), .second, .val (.int n_), .val (.ref b1), .val (.ref b28), .val (.ref b57), .val (.long x155), .second, .val (.int k_)] []))
          refine gob (fun _ k => XS.iconst X288.here hx rfl (hb hby at_375) k) ?_
          show Go _ _ _ _ _ _ _ (T288.setTop (mkF m 376 #[.val (.int p0), .val (.int p1), .val (.int p2), .val (.int p3), .val (.int p4), .val (.long q5), .second, .val (.int n_), .val (.ref b1), .val (.ref b28), .val (.ref b57), .val (.long x155), .second, .val (.int k_)] [(.int (1 : Int32))]))
          refine gob (fun _ k => XS.goto X288.here hx rfl (pc0 := 376) (pc' := 380) rfl (hb hby at_376) (by decide) (by decide) k) ?_
          show Go _ _ _ _ _ _ _ (T288.setTop (mkF m 380 #[.val (.int p0), .val (.int p1), .val (.int p2), .val (.int p3), .val (.int p4), .val (.long q5), .second, .val (.int n_), .val (.ref b1), .val (.ref b28), .val (.ref b57), .val (.long x155), .second, .val (.int k_)] [(.int (1 : Int32))]))
          refine goZ X288 hx hlk (t := .boolean) Bd.returns (by simp) (hb hby at_380) (z' := (1 : Int32)) rfl ?_ (by decide) (by decide)
          show Q0 Z p0 p1 p2 p3 p4 q5 h0 n0 (some (.int (1 : Int32))) T288.heap _
          exact ⟨rfl, N288⟩
      · skip
        refine gob (fun _ k => XS.icmpYes X109.here hx rfl (pc0 := 220) (pc' := 246) rfl (hb hby at_220) rfl (flt hc220_121).2.2.2 (by decide) (by decide) k) ?_
        show Go _ _ _ _ _ _ _ (T109.setTop (mkF m 246 #[.val (.int p0), .val (.int p1), .val (.int p2), .val (.int p3), .val (.int p4), .val (.long q5), .second, .val (.int n_), .val (.ref b1), .val (.ref b28), .val (.ref b57), .val (.long x120), .second, .unset] []))
        refine gob (fun _ k => XS.iload X109.here hx rfl (hb hby at_246) rfl k) ?_
        show Go _ _ _ _ _ _ _ (T109.setTop (mkF m 248 #[.val (.int p0), .val (.int p1), .val (.int p2), .val (.int p3), .val (.int p4), .val (.long q5), .second, .val (.int n_), .val (.ref b1), .val (.ref b28), .val (.ref b57), .val (.long x120), .second, .unset] [(.int n_)]))
        refine gob (fun _ k => XS.iconst X109.here hx rfl (hb hby at_248) k) ?_
        show Go _ _ _ _ _ _ _ (T109.setTop (mkF m 249 #[.val (.int p0), .val (.int p1), .val (.int p2), .val (.int p3), .val (.int p4), .val (.long q5), .second, .val (.int n_), .val (.ref b1), .val (.ref b28), .val (.ref b57), .val (.long x120), .second, .unset] [(.int (3 : Int32)), (.int n_)]))
        have hd297 : ¬ ((3 : Int32) < n_) := ld_0_249_296 p0 n_ hn_ hc162_88 hc191_105 hc220_121
        refine gob (fun _ k => XS.icmpYes X109.here hx rfl (pc0 := 249) (pc' := 275) rfl (hb hby at_249) rfl (flt hd297).2.2.2 (by decide) (by decide) k) ?_
        show Go _ _ _ _ _ _ _ (T109.setTop (mkF m 275 #[.val (.int p0), .val (.int p1), .val (.int p2), .val (.int p3), .val (.int p4), .val (.long q5), .second, .val (.int n_), .val (.ref b1), .val (.ref b28), .val (.ref b57), .val (.long x120), .second, .unset] []))
        refine gob (fun _ k => XS.iload X109.here hx rfl (hb hby at_275) rfl k) ?_
        show Go _ _ _ _ _ _ _ (T109.setTop (mkF m 277 #[.val (.int p0), .val (.int p1), .val (.int p2), .val (.int p3), .val (.int p4), .val (.long q5), .second, .val (.int n_), .val (.ref b1), .val (.ref b28), .val (.ref b57), .val (.long x120), .second, .unset] [(.int n_)]))
        refine gob (fun _ k => XS.iconst X109.here hx rfl (hb hby at_277) k) ?_
        show Go _ _ _ _ _ _ _ (T109.setTop (mkF m 278 #[.val (.int p0), .val (.int p1), .val (.int p2), .val (.int p3), .val (.int p4), .val (.long q5), .second, .val (.int n_), .val (.ref b1), .val (.ref b28), .val (.ref b57), .val (.long x120), .second, .unset] [(.int (4 : Int32)), (.int n_)]))
        have hd299 : ¬ ((4 : Int32) < n_) := ld_0_278_298 p0 n_ hn_ hc162_88 hc191_105 hc220_121
        refine gob (fun _ k => XS.icmpYes X109.here hx rfl (pc0 := 278) (pc' := 304) rfl (hb hby at_278) rfl (flt hd299).2.2.2 (by decide) (by decide) k) ?_
        show Go _ _ _ _ _ _ _ (T109.setTop (mkF m 304 #[.val (.int p0), .val (.int p1), .val (.int p2), .val (.int p3), .val (.int p4), .val (.long q5), .second, .val (.int n_), .val (.ref b1), .val (.ref b28), .val (.ref b57), .val (.long x120), .second, .unset] []))
        refine gob (fun _ k => XS.aload X109.here hx rfl (hb hby at_304) rfl rfl k) ?_
        show Go _ _ _ _ _ _ _ (T109.setTop (mkF m 306 #[.val (.int p0), .val (.int p1), .val (.int p2), .val (.int p3), .val (.int p4), .val (.long q5), .second, .val (.int n_), .val (.ref b1), .val (.ref b28), .val (.ref b57), .val (.long x120), .second, .unset] [(.ref b57)]))
        have c301 := (c110.keep K109)
        obtain ⟨cq300, kq300, q300a, q300b, q300c⟩ := isOf hZ (rfl : T109.heap = _) c301
        obtain ⟨_, _, ⟨T300, L300, k300, n300⟩, -, X300, ⟨Lc300, hQ300, l300, y300, z300⟩, st300⟩ := X109.virtualBack hx (y := (⟨"com/example/robust_broker/robustbroker/Postings", "size", "()I"⟩ : MethodName)) (z := (⟨"com/example/robust_broker/robustbroker/Postings", "size", "()I"⟩ : MethodName)) hown (mvT hZ (hw _ (List.mem_of_getElem? (i := 21) rfl))) (mvT hZ (hw _ (List.mem_of_getElem? (i := 22) rfl))) (notFace_of_selects (args := #[]) (mvT hZ (hw _ (List.mem_of_getElem? (i := 24) rfl)))) (mvT hZ (hw _ (List.mem_of_getElem? (i := 24) rfl))) (mvT hZ (hw _ (List.mem_of_getElem? (i := 23) rfl))) (by decide) (backOf (W := 0) (rm4 l Z a0 hw [] b57 (2 : Int32) T109.heap n0 z117 F115) hZ (hw _ (List.mem_of_getElem? (i := 25) rfl)) (hw _ (List.mem_of_getElem? (i := 10) rfl)) (by decide) (by decide)) q300a q300c (g := (mkF m 306 #[.val (.int p0), .val (.int p1), .val (.int p2), .val (.int p3), .val (.int p4), .val (.long q5), .second, .val (.int n_), .val (.ref b1), .val (.ref b28), .val (.ref b57), .val (.long x120), .second, .unset] [(.ref b57)])) rfl (by rw [hml]; rfl) (Steps.refl _) (argsL := []) (rest := []) (lenOf pd_5 rfl) rfl (by show 2 * 0 + _ ≤ _; exact Nat.le_of_eq rfl) (hb hby at_306) (fun _ _ => ⟨rfl, (rfl : T109.heap = _), (by decide : 5 + 0 ≤ _), (by decide : 18 + 0 ≤ _)⟩)
        dsimp only [Pt.U, Pt.locs, Pt.cells, Pt.slots] at X300 l300 y300 z300 st300 hQ300
        replace X300 := castX X300 (y300.trans (rfl : _ = 5)) (z300.trans (rfl : _ = 18))
        obtain ⟨r300, rfl, hr300, Nq300, e300⟩ := hQ300
        have N300 : Fr n0 L300 := l300 ▸ Fr.app N109 Nq300
        refine gob (fun _ k => st300.trans k) ?_
        show Go _ _ _ _ _ _ _ (T300.setTop (mkF m 309 #[.val (.int p0), .val (.int p1), .val (.int p2), .val (.int p3), .val (.int p4), .val (.long q5), .second, .val (.int n_), .val (.ref b1), .val (.ref b28), .val (.ref b57), .val (.long x120), .second, .unset] [(.int r300)]))
        refine gob (fun _ k => XS.iload X300.here hx rfl (hb hby at_309) rfl k) ?_
        show Go _ _ _ _ _ _ _ (T300.setTop (mkF m 311 #[.val (.int p0), .val (.int p1), .val (.int p2), .val (.int p3), .val (.int p4), .val (.long q5), .second, .val (.int n_), .val (.ref b1), .val (.ref b28), .val (.ref b57), .val (.long x120), .second, .unset] [(.int n_), (.int r300)]))
        have hd303 : r300 = n_ := ld_0_311_302 p0 n_ r300 hn_ hc162_88 hc191_105 hc220_121 hr300
        refine gob (fun _ k => XS.icmpYes X300.here hx rfl (pc0 := 311) (pc' := 316) rfl (hb hby at_311) rfl (teq hd303).1 (by decide) (by decide) k) ?_
        show Go _ _ _ _ _ _ _ (T300.setTop (mkF m 316 #[.val (.int p0), .val (.int p1), .val (.int p2), .val (.int p3), .val (.int p4), .val (.long q5), .second, .val (.int n_), .val (.ref b1), .val (.ref b28), .val (.ref b57), .val (.long x120), .second, .unset] []))
        refine gob (fun _ k => XS.aload X300.here hx rfl (hb hby at_316) rfl rfl k) ?_
        show Go _ _ _ _ _ _ _ (T300.setTop (mkF m 318 #[.val (.int p0), .val (.int p1), .val (.int p2), .val (.int p3), .val (.int p4), .val (.long q5), .second, .val (.int n_), .val (.ref b1), .val (.ref b28), .val (.ref b57), .val (.long x120), .second, .unset] [(.ref b57)]))
        obtain ⟨cq304, kq304, q304a, q304b, q304c⟩ := isOf hZ e300 c301
        obtain ⟨_, _, ⟨T304, L304, k304, n304⟩, -, X304, ⟨Lc304, hQ304, l304, y304, z304⟩, st304⟩ := X300.virtualBack hx (y := (⟨"com/example/robust_broker/robustbroker/Postings", "collectionFrequency", "()J"⟩ : MethodName)) (z := (⟨"com/example/robust_broker/robustbroker/Postings", "collectionFrequency", "()J"⟩ : MethodName)) hown (mvT hZ (hw _ (List.mem_of_getElem? (i := 28) rfl))) (mvT hZ (hw _ (List.mem_of_getElem? (i := 29) rfl))) (notFace_of_selects (args := #[]) (mvT hZ (hw _ (List.mem_of_getElem? (i := 31) rfl)))) (mvT hZ (hw _ (List.mem_of_getElem? (i := 31) rfl))) (mvT hZ (hw _ (List.mem_of_getElem? (i := 30) rfl))) (by decide) (backOf (W := 0) (rm5 l Z a0 hw [] b57 (((0 : Int64) + (r32.toInt64)) + (r37.toInt64)) T109.heap n0 z117 F116) hZ (hw _ (List.mem_of_getElem? (i := 32) rfl)) (hw _ (List.mem_of_getElem? (i := 10) rfl)) (by decide) (by decide)) q304a q304c (g := (mkF m 318 #[.val (.int p0), .val (.int p1), .val (.int p2), .val (.int p3), .val (.int p4), .val (.long q5), .second, .val (.int n_), .val (.ref b1), .val (.ref b28), .val (.ref b57), .val (.long x120), .second, .unset] [(.ref b57)])) rfl (by rw [hml]; rfl) (Steps.refl _) (argsL := []) (rest := []) (lenOf pd_6 rfl) rfl (by show 2 * 0 + _ ≤ _; exact Nat.le_of_eq rfl) (hb hby at_318) (fun _ _ => ⟨rfl, e300, (by decide : 5 + 0 ≤ _), (by decide : 18 + 0 ≤ _)⟩)
        dsimp only [Pt.U, Pt.locs, Pt.cells, Pt.slots] at X304 l304 y304 z304 st304 hQ304
        replace X304 := castX X304 (y304.trans (rfl : _ = 5)) (z304.trans (rfl : _ = 18))
        obtain ⟨r304, rfl, hr304, Nq304, e304⟩ := hQ304
        have N304 : Fr n0 L304 := l304 ▸ Fr.app N300 Nq304
        refine gob (fun _ k => st304.trans k) ?_
        show Go _ _ _ _ _ _ _ (T304.setTop (mkF m 321 #[.val (.int p0), .val (.int p1), .val (.int p2), .val (.int p3), .val (.int p4), .val (.long q5), .second, .val (.int n_), .val (.ref b1), .val (.ref b28), .val (.ref b57), .val (.long x120), .second, .unset] [(.long r304)]))
        refine gob (fun _ k => XS.lload X304.here hx rfl (hb hby at_321) rfl k) ?_
        show Go _ _ _ _ _ _ _ (T304.setTop (mkF m 323 #[.val (.int p0), .val (.int p1), .val (.int p2), .val (.int p3), .val (.int p4), .val (.long q5), .second, .val (.int n_), .val (.ref b1), .val (.ref b28), .val (.ref b57), .val (.long x120), .second, .unset] [(.long x120), (.long r304)]))
        refine gob (fun _ k => XS.lcmp X304.here hx rfl (hb hby at_323) rfl k) ?_
        show Go _ _ _ _ _ _ _ (T304.setTop (mkF m 324 #[.val (.int p0), .val (.int p1), .val (.int p2), .val (.int p3), .val (.int p4), .val (.long q5), .second, .val (.int n_), .val (.ref b1), .val (.ref b28), .val (.ref b57), .val (.long x120), .second, .unset] [(.int (lcmpW r304 x120))]))
        have hd306 : r304 = x120 := ld_0_324_305 r32 r37 x104 x120 r304 hr32 hr37 hx104 hx120 hr304
        refine gob (fun _ k => XS.ifYes X304.here hx rfl (pc0 := 324) (pc' := 329) rfl (hb hby at_324) rfl ((if0 _ _).trans (teq ((lw_eq _ _).mpr hd306)).1) (by decide) (by decide) k) ?_
        show Go _ _ _ _ _ _ _ (T304.setTop (mkF m 329 #[.val (.int p0), .val (.int p1), .val (.int p2), .val (.int p3), .val (.int p4), .val (.long q5), .second, .val (.int n_), .val (.ref b1), .val (.ref b28), .val (.ref b57), .val (.long x120), .second, .unset] []))
        refine gob (fun _ k => XS.iload X304.here hx rfl (hb hby at_329) rfl k) ?_
        show Go _ _ _ _ _ _ _ (T304.setTop (mkF m 331 #[.val (.int p0), .val (.int p1), .val (.int p2), .val (.int p3), .val (.int p4), .val (.long q5), .second, .val (.int n_), .val (.ref b1), .val (.ref b28), .val (.ref b57), .val (.long x120), .second, .unset] [(.int n_)]))
        have hd308 : ¬ (n_ = (0 : Int32)) := ld_0_331_307 p0 n_ hn_ hc162_88 hc191_105 hc220_121
        refine gob (fun _ k => XS.ifYes X304.here hx rfl (pc0 := 331) (pc' := 336) rfl (hb hby at_331) rfl ((if0 _ _).trans (feq hd308).2) (by decide) (by decide) k) ?_
        show Go _ _ _ _ _ _ _ (T304.setTop (mkF m 336 #[.val (.int p0), .val (.int p1), .val (.int p2), .val (.int p3), .val (.int p4), .val (.long q5), .second, .val (.int n_), .val (.ref b1), .val (.ref b28), .val (.ref b57), .val (.long x120), .second, .unset] []))
        refine gob (fun _ k => XS.iloadN X304.here hx rfl (hb hby at_336) rfl k) ?_
        show Go _ _ _ _ _ _ _ (T304.setTop (mkF m 337 #[.val (.int p0), .val (.int p1), .val (.int p2), .val (.int p3), .val (.int p4), .val (.long q5), .second, .val (.int n_), .val (.ref b1), .val (.ref b28), .val (.ref b57), .val (.long x120), .second, .unset] [(.int p1)]))
        refine gob (fun _ k => XS.bipush X304.here hx rfl (hb hby at_337) k) ?_
        show Go _ _ _ _ _ _ _ (T304.setTop (mkF m 339 #[.val (.int p0), .val (.int p1), .val (.int p2), .val (.int p3), .val (.int p4), .val (.long q5), .second, .val (.int n_), .val (.ref b1), .val (.ref b28), .val (.ref b57), .val (.long x120), .second, .unset] [(.int (28 : Int32)), (.int p1)]))
        refine gob (fun _ k => XS.iushr X304.here hx rfl (hb hby at_339) rfl k) ?_
        show Go _ _ _ _ _ _ _ (T304.setTop (mkF m 340 #[.val (.int p0), .val (.int p1), .val (.int p2), .val (.int p3), .val (.int p4), .val (.long q5), .second, .val (.int n_), .val (.ref b1), .val (.ref b28), .val (.ref b57), .val (.long x120), .second, .unset] [(.int ((p1.toUInt32 >>> ((28 : Int32) &&& 31).toUInt32).toInt32))]))
        refine gob (fun _ k => XS.iload X304.here hx rfl (hb hby at_340) rfl k) ?_
        show Go _ _ _ _ _ _ _ (T304.setTop (mkF m 342 #[.val (.int p0), .val (.int p1), .val (.int p2), .val (.int p3), .val (.int p4), .val (.long q5), .second, .val (.int n_), .val (.ref b1), .val (.ref b28), .val (.ref b57), .val (.long x120), .second, .unset] [(.int n_), (.int ((p1.toUInt32 >>> ((28 : Int32) &&& 31).toUInt32).toInt32))]))
        refine gob (fun _ k => iremM X304 hx rfl (hb hby at_342) rfl (la_0_342_309 p0 n_ hn_ hc162_88 hc191_105 hc220_121) k) ?_
        show Go _ _ _ _ _ _ _ (T304.setTop (mkF m 343 #[.val (.int p0), .val (.int p1), .val (.int p2), .val (.int p3), .val (.int p4), .val (.long q5), .second, .val (.int n_), .val (.ref b1), .val (.ref b28), .val (.ref b57), .val (.long x120), .second, .unset] [(.int (((p1.toUInt32 >>> ((28 : Int32) &&& 31).toUInt32).toInt32) % n_))]))
        refine gob (fun _ k => XS.istore X304.here hx rfl (hb hby at_343) rfl (l' := #[.val (.int p0), .val (.int p1), .val (.int p2), .val (.int p3), .val (.int p4), .val (.long q5), .second, .val (.int n_), .val (.ref b1), .val (.ref b28), .val (.ref b57), .val (.long x120), .second, .val (.int (((p1.toUInt32 >>> ((28 : Int32) &&& 31).toUInt32).toInt32) % n_))]) rfl k) ?_
        show Go _ _ _ _ _ _ _ (T304.setTop (mkF m 345 #[.val (.int p0), .val (.int p1), .val (.int p2), .val (.int p3), .val (.int p4), .val (.long q5), .second, .val (.int n_), .val (.ref b1), .val (.ref b28), .val (.ref b57), .val (.long x120), .second, .val (.int (((p1.toUInt32 >>> ((28 : Int32) &&& 31).toUInt32).toInt32) % n_))] []))
        generalize hk_ : (((p1.toUInt32 >>> ((28 : Int32) &&& 31).toUInt32).toInt32) % n_) = k_
        show Go _ _ _ _ _ _ _ (T304.setTop (mkF m 345 #[.val (.int p0), .val (.int p1), .val (.int p2), .val (.int p3), .val (.int p4), .val (.long q5), .second, .val (.int n_), .val (.ref b1), .val (.ref b28), .val (.ref b57), .val (.long x120), .second, .val (.int k_)] []))
        refine gob (fun _ k => XS.aload X304.here hx rfl (hb hby at_345) rfl rfl k) ?_
        show Go _ _ _ _ _ _ _ (T304.setTop (mkF m 347 #[.val (.int p0), .val (.int p1), .val (.int p2), .val (.int p3), .val (.int p4), .val (.long q5), .second, .val (.int n_), .val (.ref b1), .val (.ref b28), .val (.ref b57), .val (.long x120), .second, .val (.int k_)] [(.ref b57)]))
        refine gob (fun _ k => XS.iload X304.here hx rfl (hb hby at_347) rfl k) ?_
        show Go _ _ _ _ _ _ _ (T304.setTop (mkF m 349 #[.val (.int p0), .val (.int p1), .val (.int p2), .val (.int p3), .val (.int p4), .val (.long q5), .second, .val (.int n_), .val (.ref b1), .val (.ref b28), .val (.ref b57), .val (.long x120), .second, .val (.int k_)] [(.int k_), (.ref b57)]))
        obtain ⟨cq310, kq310, q310a, q310b, q310c⟩ := isOf hZ e304 c301
        obtain ⟨_, _, ⟨T310, L310, k310, n310⟩, -, X310, ⟨Lc310, hQ310, l310, y310, z310⟩, st310⟩ := X304.virtualBack hx (y := (⟨"com/example/robust_broker/robustbroker/Postings", "document", "(I)I"⟩ : MethodName)) (z := (⟨"com/example/robust_broker/robustbroker/Postings", "document", "(I)I"⟩ : MethodName)) hown (mvT hZ (hw _ (List.mem_of_getElem? (i := 52) rfl))) (mvT hZ (hw _ (List.mem_of_getElem? (i := 53) rfl))) (notFace_of_selects (args := #[]) (mvT hZ (hw _ (List.mem_of_getElem? (i := 55) rfl)))) (mvT hZ (hw _ (List.mem_of_getElem? (i := 55) rfl))) (mvT hZ (hw _ (List.mem_of_getElem? (i := 54) rfl))) (by decide) (backOf (W := 0) (rmdoc_2_2 l Z a0 hw [] b57 k_ b64 k66 x4 x9 T109.heap n0 z117 F111 F112 (la_0_349_311 p0 p1 n_ k_ hn_ hc162_88 hc191_105 hc220_121 hk_) (la_0_349_312 p0 p1 n_ k_ hn_ hc162_88 hc191_105 hc220_121 hk_)) hZ (hw _ (List.mem_of_getElem? (i := 56) rfl)) (hw _ (List.mem_of_getElem? (i := 10) rfl)) (by decide) (by decide)) q310a q310c (g := (mkF m 349 #[.val (.int p0), .val (.int p1), .val (.int p2), .val (.int p3), .val (.int p4), .val (.long q5), .second, .val (.int n_), .val (.ref b1), .val (.ref b28), .val (.ref b57), .val (.long x120), .second, .val (.int k_)] [(.int k_), (.ref b57)])) rfl (by rw [hml]; rfl) (Steps.refl _) (argsL := [(.int k_)]) (rest := []) (lenOf pd_2 rfl) rfl (by show 2 * 0 + _ ≤ _; exact Nat.le_of_eq rfl) (hb hby at_349) (fun _ _ => ⟨rfl, e304, (by decide : 5 + 0 ≤ _), (by decide : 18 + 0 ≤ _)⟩)
        dsimp only [Pt.U, Pt.locs, Pt.cells, Pt.slots] at X310 l310 y310 z310 st310 hQ310
        replace X310 := castX X310 (y310.trans (rfl : _ = 5)) (z310.trans (rfl : _ = 18))
        obtain ⟨r310, rfl, hr310, Nq310, e310⟩ := hQ310
        have N310 : Fr n0 L310 := l310 ▸ Fr.app N304 Nq310
        refine gob (fun _ k => st310.trans k) ?_
        show Go _ _ _ _ _ _ _ (T310.setTop (mkF m 352 #[.val (.int p0), .val (.int p1), .val (.int p2), .val (.int p3), .val (.int p4), .val (.long q5), .second, .val (.int n_), .val (.ref b1), .val (.ref b28), .val (.ref b57), .val (.long x120), .second, .val (.int k_)] [(.int r310)]))
        refine gob (fun _ k => XS.aload X310.here hx rfl (hb hby at_352) rfl rfl k) ?_
        show Go _ _ _ _ _ _ _ (T310.setTop (mkF m 354 #[.val (.int p0), .val (.int p1), .val (.int p2), .val (.int p3), .val (.int p4), .val (.long q5), .second, .val (.int n_), .val (.ref b1), .val (.ref b28), .val (.ref b57), .val (.long x120), .second, .val (.int k_)] [(.ref b1), (.int r310)]))
        refine gob (fun _ k => XS.iload X310.here hx rfl (hb hby at_354) rfl k) ?_
        show Go _ _ _ _ _ _ _ (T310.setTop (mkF m 356 #[.val (.int p0), .val (.int p1), .val (.int p2), .val (.int p3), .val (.int p4), .val (.long q5), .second, .val (.int n_), .val (.ref b1), .val (.ref b28), .val (.ref b57), .val (.long x120), .second, .val (.int k_)] [(.int k_), (.ref b1), (.int r310)]))
        have c314 := (c107.keep K109 (ninS n77 (ninS n83 (ninS n59 nin0))))
        obtain ⟨cl313, Ar313, aq313, S313, N313, H313, G313⟩ := id c314
        have hj315 : 0 ≤ k_.toInt ∧ k_.toInt < 5 := (la_0_356_316 p0 p1 n_ k_ hn_ hc162_88 hc191_105 hc220_121 hk_)
        obtain ⟨w315, hw315, hg315⟩ := own_at5 x4 x9 x14 x19 x24 (.int (0 : Int32)) k_ 5 (by decide) hj315.1 hj315.2
        have hin315 : ¬ (k_ < 0 ∨ cl313.slots.size ≤ (k_).toNatClampNeg) := inb_of S313 (own_idx _ _ 5 (by decide) hj315.1 hj315.2)
        refine gob (X310.iaload hx (j := k_) (v := (.int w315)) (by rw [e310]; exact Ar313.1) (State.isArrayOf_alike hZ.alike Ar313.2.1) Ar313.2.2 hin315 (Has.at H313 hin315 hg315) (g := (mkF m 356 #[.val (.int p0), .val (.int p1), .val (.int p2), .val (.int p3), .val (.int p4), .val (.long q5), .second, .val (.int n_), .val (.ref b1), .val (.ref b28), .val (.ref b57), .val (.long x120), .second, .val (.int k_)] [(.int k_), (.ref b1), (.int r310)])) rfl rfl (hb hby at_356)) ?_
        show Go _ _ _ _ _ _ _ (T310.setTop (mkF m 357 #[.val (.int p0), .val (.int p1), .val (.int p2), .val (.int p3), .val (.int p4), .val (.long q5), .second, .val (.int n_), .val (.ref b1), .val (.ref b28), .val (.ref b57), .val (.long x120), .second, .val (.int k_)] [(.int w315), (.int r310)]))
        have hd318 : r310 = w315 := ld_0_357_317 x4 x9 x14 x19 x24 k_ r310 w315 hr310 hw315
        refine gob (fun _ k => XS.icmpNo X310.here hx rfl (hb hby at_357) rfl (teq hd318).2 k) ?_
        show Go _ _ _ _ _ _ _ (T310.setTop (mkF m 360 #[.val (.int p0), .val (.int p1), .val (.int p2), .val (.int p3), .val (.int p4), .val (.long q5), .second, .val (.int n_), .val (.ref b1), .val (.ref b28), .val (.ref b57), .val (.long x120), .second, .val (.int k_)] []))
        refine gob (fun _ k => XS.aload X310.here hx rfl (hb hby at_360) rfl rfl k) ?_
        show Go _ _ _ _ _ _ _ (T310.setTop (mkF m 362 #[.val (.int p0), .val (.int p1), .val (.int p2), .val (.int p3), .val (.int p4), .val (.long q5), .second, .val (.int n_), .val (.ref b1), .val (.ref b28), .val (.ref b57), .val (.long x120), .second, .val (.int k_)] [(.ref b57)]))
        refine gob (fun _ k => XS.iload X310.here hx rfl (hb hby at_362) rfl k) ?_
        show Go _ _ _ _ _ _ _ (T310.setTop (mkF m 364 #[.val (.int p0), .val (.int p1), .val (.int p2), .val (.int p3), .val (.int p4), .val (.long q5), .second, .val (.int n_), .val (.ref b1), .val (.ref b28), .val (.ref b57), .val (.long x120), .second, .val (.int k_)] [(.int k_), (.ref b57)]))
        obtain ⟨cq319, kq319, q319a, q319b, q319c⟩ := isOf hZ e310 c301
        obtain ⟨_, _, ⟨T319, L319, k319, n319⟩, -, X319, ⟨Lc319, hQ319, l319, y319, z319⟩, st319⟩ := X310.virtualBack hx (y := (⟨"com/example/robust_broker/robustbroker/Postings", "frequency", "(I)I"⟩ : MethodName)) (z := (⟨"com/example/robust_broker/robustbroker/Postings", "frequency", "(I)I"⟩ : MethodName)) hown (mvT hZ (hw _ (List.mem_of_getElem? (i := 57) rfl))) (mvT hZ (hw _ (List.mem_of_getElem? (i := 58) rfl))) (notFace_of_selects (args := #[]) (mvT hZ (hw _ (List.mem_of_getElem? (i := 60) rfl)))) (mvT hZ (hw _ (List.mem_of_getElem? (i := 60) rfl))) (mvT hZ (hw _ (List.mem_of_getElem? (i := 59) rfl))) (by decide) (backOf (W := 0) (rmfre_2_2 l Z a0 hw [] b57 k_ b65 k67 r32 r37 T109.heap n0 z117 F113 F114 (la_0_364_320 p0 p1 n_ k_ hn_ hc162_88 hc191_105 hc220_121 hk_) (la_0_364_321 p0 p1 n_ k_ hn_ hc162_88 hc191_105 hc220_121 hk_)) hZ (hw _ (List.mem_of_getElem? (i := 61) rfl)) (hw _ (List.mem_of_getElem? (i := 10) rfl)) (by decide) (by decide)) q319a q319c (g := (mkF m 364 #[.val (.int p0), .val (.int p1), .val (.int p2), .val (.int p3), .val (.int p4), .val (.long q5), .second, .val (.int n_), .val (.ref b1), .val (.ref b28), .val (.ref b57), .val (.long x120), .second, .val (.int k_)] [(.int k_), (.ref b57)])) rfl (by rw [hml]; rfl) (Steps.refl _) (argsL := [(.int k_)]) (rest := []) (lenOf pd_2 rfl) rfl (by show 2 * 0 + _ ≤ _; exact Nat.le_of_eq rfl) (hb hby at_364) (fun _ _ => ⟨rfl, e310, (by decide : 5 + 0 ≤ _), (by decide : 18 + 0 ≤ _)⟩)
        dsimp only [Pt.U, Pt.locs, Pt.cells, Pt.slots] at X319 l319 y319 z319 st319 hQ319
        replace X319 := castX X319 (y319.trans (rfl : _ = 5)) (z319.trans (rfl : _ = 18))
        obtain ⟨r319, rfl, hr319, Nq319, e319⟩ := hQ319
        have N319 : Fr n0 L319 := l319 ▸ Fr.app N310 Nq319
        refine gob (fun _ k => st319.trans k) ?_
        show Go _ _ _ _ _ _ _ (T319.setTop (mkF m 367 #[.val (.int p0), .val (.int p1), .val (.int p2), .val (.int p3), .val (.int p4), .val (.long q5), .second, .val (.int n_), .val (.ref b1), .val (.ref b28), .val (.ref b57), .val (.long x120), .second, .val (.int k_)] [(.int r319)]))
        refine gob (fun _ k => XS.aload X319.here hx rfl (hb hby at_367) rfl rfl k) ?_
        show Go _ _ _ _ _ _ _ (T319.setTop (mkF m 369 #[.val (.int p0), .val (.int p1), .val (.int p2), .val (.int p3), .val (.int p4), .val (.long q5), .second, .val (.int n_), .val (.ref b1), .val (.ref b28), .val (.ref b57), .val (.long x120), .second, .val (.int k_)] [(.ref b28), (.int r319)]))
        refine gob (fun _ k => XS.iload X319.here hx rfl (hb hby at_369) rfl k) ?_
        show Go _ _ _ _ _ _ _ (T319.setTop (mkF m 371 #[.val (.int p0), .val (.int p1), .val (.int p2), .val (.int p3), .val (.int p4), .val (.long q5), .second, .val (.int n_), .val (.ref b1), .val (.ref b28), .val (.ref b57), .val (.long x120), .second, .val (.int k_)] [(.int k_), (.ref b28), (.int r319)]))
        obtain ⟨cl322, Ar322, aq322, S322, N322, H322, G322⟩ := id c119
        have hj323 : 0 ≤ k_.toInt ∧ k_.toInt < 5 := (la_0_371_324 p0 p1 n_ k_ hn_ hc162_88 hc191_105 hc220_121 hk_)
        obtain ⟨w323, hw323, hg323⟩ := own_at5 r32 r37 r42 r47 r52 (.int (0 : Int32)) k_ 5 (by decide) hj323.1 hj323.2
        have hin323 : ¬ (k_ < 0 ∨ cl322.slots.size ≤ (k_).toNatClampNeg) := inb_of S322 (own_idx _ _ 5 (by decide) hj323.1 hj323.2)
        refine gob (X319.iaload hx (j := k_) (v := (.int w323)) (by rw [e319]; exact Ar322.1) (State.isArrayOf_alike hZ.alike Ar322.2.1) Ar322.2.2 hin323 (Has.at H322 hin323 hg323) (g := (mkF m 371 #[.val (.int p0), .val (.int p1), .val (.int p2), .val (.int p3), .val (.int p4), .val (.long q5), .second, .val (.int n_), .val (.ref b1), .val (.ref b28), .val (.ref b57), .val (.long x120), .second, .val (.int k_)] [(.int k_), (.ref b28), (.int r319)])) rfl rfl (hb hby at_371)) ?_
        show Go _ _ _ _ _ _ _ (T319.setTop (mkF m 372 #[.val (.int p0), .val (.int p1), .val (.int p2), .val (.int p3), .val (.int p4), .val (.long q5), .second, .val (.int n_), .val (.ref b1), .val (.ref b28), .val (.ref b57), .val (.long x120), .second, .val (.int k_)] [(.int w323), (.int r319)]))
        have hd326 : r319 = w323 := ld_0_372_325 r32 r37 r42 r47 r52 k_ r319 w323 hr319 hw323
        refine gob (fun _ k => XS.icmpNo X319.here hx rfl (hb hby at_372) rfl (teq hd326).2 k) ?_
        show Go _ _ _ _ _ _ _ (T319.setTop (mkF m 375 #[.val (.int p0), .val (.int p1), .val (.int p2), .val (.int p3), .val (.int p4), .val (.long q5), .second, .val (.int n_), .val (.ref b1), .val (.ref b28), .val (.ref b57), .val (.long x120), .second, .val (.int k_)] []))
        refine gob (fun _ k => XS.iconst X319.here hx rfl (hb hby at_375) k) ?_
        show Go _ _ _ _ _ _ _ (T319.setTop (mkF m 376 #[.val (.int p0), .val (.int p1), .val (.int p2), .val (.int p3), .val (.int p4), .val (.long q5), .second, .val (.int n_), .val (.ref b1), .val (.ref b28), .val (.ref b57), .val (.long x120), .second, .val (.int k_)] [(.int (1 : Int32))]))
        refine gob (fun _ k => XS.goto X319.here hx rfl (pc0 := 376) (pc' := 380) rfl (hb hby at_376) (by decide) (by decide) k) ?_
        show Go _ _ _ _ _ _ _ (T319.setTop (mkF m 380 #[.val (.int p0), .val (.int p1), .val (.int p2), .val (.int p3), .val (.int p4), .val (.long q5), .second, .val (.int n_), .val (.ref b1), .val (.ref b28), .val (.ref b57), .val (.long x120), .second, .val (.int k_)] [(.int (1 : Int32))]))
        refine goZ X319 hx hlk (t := .boolean) Bd.returns (by simp) (hb hby at_380) (z' := (1 : Int32)) rfl ?_ (by decide) (by decide)
        show Q0 Z p0 p1 p2 p3 p4 q5 h0 n0 (some (.int (1 : Int32))) T319.heap _
        exact ⟨rfl, N319⟩
    · skip
      refine gob (fun _ k => XS.icmpYes X93.here hx rfl (pc0 := 191) (pc' := 217) rfl (hb hby at_191) rfl (flt hc191_105).2.2.2 (by decide) (by decide) k) ?_
      show Go _ _ _ _ _ _ _ (T93.setTop (mkF m 217 #[.val (.int p0), .val (.int p1), .val (.int p2), .val (.int p3), .val (.int p4), .val (.long q5), .second, .val (.int n_), .val (.ref b1), .val (.ref b28), .val (.ref b57), .val (.long x104), .second, .unset] []))
      refine gob (fun _ k => XS.iload X93.here hx rfl (hb hby at_217) rfl k) ?_
      show Go _ _ _ _ _ _ _ (T93.setTop (mkF m 219 #[.val (.int p0), .val (.int p1), .val (.int p2), .val (.int p3), .val (.int p4), .val (.long q5), .second, .val (.int n_), .val (.ref b1), .val (.ref b28), .val (.ref b57), .val (.long x104), .second, .unset] [(.int n_)]))
      refine gob (fun _ k => XS.iconst X93.here hx rfl (hb hby at_219) k) ?_
      show Go _ _ _ _ _ _ _ (T93.setTop (mkF m 220 #[.val (.int p0), .val (.int p1), .val (.int p2), .val (.int p3), .val (.int p4), .val (.long q5), .second, .val (.int n_), .val (.ref b1), .val (.ref b28), .val (.ref b57), .val (.long x104), .second, .unset] [(.int (2 : Int32)), (.int n_)]))
      have hd328 : ¬ ((2 : Int32) < n_) := ld_0_220_327 p0 n_ hn_ hc162_88 hc191_105
      refine gob (fun _ k => XS.icmpYes X93.here hx rfl (pc0 := 220) (pc' := 246) rfl (hb hby at_220) rfl (flt hd328).2.2.2 (by decide) (by decide) k) ?_
      show Go _ _ _ _ _ _ _ (T93.setTop (mkF m 246 #[.val (.int p0), .val (.int p1), .val (.int p2), .val (.int p3), .val (.int p4), .val (.long q5), .second, .val (.int n_), .val (.ref b1), .val (.ref b28), .val (.ref b57), .val (.long x104), .second, .unset] []))
      refine gob (fun _ k => XS.iload X93.here hx rfl (hb hby at_246) rfl k) ?_
      show Go _ _ _ _ _ _ _ (T93.setTop (mkF m 248 #[.val (.int p0), .val (.int p1), .val (.int p2), .val (.int p3), .val (.int p4), .val (.long q5), .second, .val (.int n_), .val (.ref b1), .val (.ref b28), .val (.ref b57), .val (.long x104), .second, .unset] [(.int n_)]))
      refine gob (fun _ k => XS.iconst X93.here hx rfl (hb hby at_248) k) ?_
      show Go _ _ _ _ _ _ _ (T93.setTop (mkF m 249 #[.val (.int p0), .val (.int p1), .val (.int p2), .val (.int p3), .val (.int p4), .val (.long q5), .second, .val (.int n_), .val (.ref b1), .val (.ref b28), .val (.ref b57), .val (.long x104), .second, .unset] [(.int (3 : Int32)), (.int n_)]))
      have hd330 : ¬ ((3 : Int32) < n_) := ld_0_249_329 p0 n_ hn_ hc162_88 hc191_105
      refine gob (fun _ k => XS.icmpYes X93.here hx rfl (pc0 := 249) (pc' := 275) rfl (hb hby at_249) rfl (flt hd330).2.2.2 (by decide) (by decide) k) ?_
      show Go _ _ _ _ _ _ _ (T93.setTop (mkF m 275 #[.val (.int p0), .val (.int p1), .val (.int p2), .val (.int p3), .val (.int p4), .val (.long q5), .second, .val (.int n_), .val (.ref b1), .val (.ref b28), .val (.ref b57), .val (.long x104), .second, .unset] []))
      refine gob (fun _ k => XS.iload X93.here hx rfl (hb hby at_275) rfl k) ?_
      show Go _ _ _ _ _ _ _ (T93.setTop (mkF m 277 #[.val (.int p0), .val (.int p1), .val (.int p2), .val (.int p3), .val (.int p4), .val (.long q5), .second, .val (.int n_), .val (.ref b1), .val (.ref b28), .val (.ref b57), .val (.long x104), .second, .unset] [(.int n_)]))
      refine gob (fun _ k => XS.iconst X93.here hx rfl (hb hby at_277) k) ?_
      show Go _ _ _ _ _ _ _ (T93.setTop (mkF m 278 #[.val (.int p0), .val (.int p1), .val (.int p2), .val (.int p3), .val (.int p4), .val (.long q5), .second, .val (.int n_), .val (.ref b1), .val (.ref b28), .val (.ref b57), .val (.long x104), .second, .unset] [(.int (4 : Int32)), (.int n_)]))
      have hd332 : ¬ ((4 : Int32) < n_) := ld_0_278_331 p0 n_ hn_ hc162_88 hc191_105
      refine gob (fun _ k => XS.icmpYes X93.here hx rfl (pc0 := 278) (pc' := 304) rfl (hb hby at_278) rfl (flt hd332).2.2.2 (by decide) (by decide) k) ?_
      show Go _ _ _ _ _ _ _ (T93.setTop (mkF m 304 #[.val (.int p0), .val (.int p1), .val (.int p2), .val (.int p3), .val (.int p4), .val (.long q5), .second, .val (.int n_), .val (.ref b1), .val (.ref b28), .val (.ref b57), .val (.long x104), .second, .unset] []))
      refine gob (fun _ k => XS.aload X93.here hx rfl (hb hby at_304) rfl rfl k) ?_
      show Go _ _ _ _ _ _ _ (T93.setTop (mkF m 306 #[.val (.int p0), .val (.int p1), .val (.int p2), .val (.int p3), .val (.int p4), .val (.long q5), .second, .val (.int n_), .val (.ref b1), .val (.ref b28), .val (.ref b57), .val (.long x104), .second, .unset] [(.ref b57)]))
      have c334 := (c94.keep K93)
      obtain ⟨cq333, kq333, q333a, q333b, q333c⟩ := isOf hZ (rfl : T93.heap = _) c334
      obtain ⟨_, _, ⟨T333, L333, k333, n333⟩, -, X333, ⟨Lc333, hQ333, l333, y333, z333⟩, st333⟩ := X93.virtualBack hx (y := (⟨"com/example/robust_broker/robustbroker/Postings", "size", "()I"⟩ : MethodName)) (z := (⟨"com/example/robust_broker/robustbroker/Postings", "size", "()I"⟩ : MethodName)) hown (mvT hZ (hw _ (List.mem_of_getElem? (i := 21) rfl))) (mvT hZ (hw _ (List.mem_of_getElem? (i := 22) rfl))) (notFace_of_selects (args := #[]) (mvT hZ (hw _ (List.mem_of_getElem? (i := 24) rfl)))) (mvT hZ (hw _ (List.mem_of_getElem? (i := 24) rfl))) (mvT hZ (hw _ (List.mem_of_getElem? (i := 23) rfl))) (by decide) (backOf (W := 0) (rm4 l Z a0 hw [] b57 (1 : Int32) T93.heap n0 z101 F99) hZ (hw _ (List.mem_of_getElem? (i := 25) rfl)) (hw _ (List.mem_of_getElem? (i := 10) rfl)) (by decide) (by decide)) q333a q333c (g := (mkF m 306 #[.val (.int p0), .val (.int p1), .val (.int p2), .val (.int p3), .val (.int p4), .val (.long q5), .second, .val (.int n_), .val (.ref b1), .val (.ref b28), .val (.ref b57), .val (.long x104), .second, .unset] [(.ref b57)])) rfl (by rw [hml]; rfl) (Steps.refl _) (argsL := []) (rest := []) (lenOf pd_5 rfl) rfl (by show 2 * 0 + _ ≤ _; exact Nat.le_of_eq rfl) (hb hby at_306) (fun _ _ => ⟨rfl, (rfl : T93.heap = _), (by decide : 5 + 0 ≤ _), (by decide : 18 + 0 ≤ _)⟩)
      dsimp only [Pt.U, Pt.locs, Pt.cells, Pt.slots] at X333 l333 y333 z333 st333 hQ333
      replace X333 := castX X333 (y333.trans (rfl : _ = 5)) (z333.trans (rfl : _ = 18))
      obtain ⟨r333, rfl, hr333, Nq333, e333⟩ := hQ333
      have N333 : Fr n0 L333 := l333 ▸ Fr.app N93 Nq333
      refine gob (fun _ k => st333.trans k) ?_
      show Go _ _ _ _ _ _ _ (T333.setTop (mkF m 309 #[.val (.int p0), .val (.int p1), .val (.int p2), .val (.int p3), .val (.int p4), .val (.long q5), .second, .val (.int n_), .val (.ref b1), .val (.ref b28), .val (.ref b57), .val (.long x104), .second, .unset] [(.int r333)]))
      refine gob (fun _ k => XS.iload X333.here hx rfl (hb hby at_309) rfl k) ?_
      show Go _ _ _ _ _ _ _ (T333.setTop (mkF m 311 #[.val (.int p0), .val (.int p1), .val (.int p2), .val (.int p3), .val (.int p4), .val (.long q5), .second, .val (.int n_), .val (.ref b1), .val (.ref b28), .val (.ref b57), .val (.long x104), .second, .unset] [(.int n_), (.int r333)]))
      have hd336 : r333 = n_ := ld_0_311_335 p0 n_ r333 hn_ hc162_88 hc191_105 hr333
      refine gob (fun _ k => XS.icmpYes X333.here hx rfl (pc0 := 311) (pc' := 316) rfl (hb hby at_311) rfl (teq hd336).1 (by decide) (by decide) k) ?_
      show Go _ _ _ _ _ _ _ (T333.setTop (mkF m 316 #[.val (.int p0), .val (.int p1), .val (.int p2), .val (.int p3), .val (.int p4), .val (.long q5), .second, .val (.int n_), .val (.ref b1), .val (.ref b28), .val (.ref b57), .val (.long x104), .second, .unset] []))
      refine gob (fun _ k => XS.aload X333.here hx rfl (hb hby at_316) rfl rfl k) ?_
      show Go _ _ _ _ _ _ _ (T333.setTop (mkF m 318 #[.val (.int p0), .val (.int p1), .val (.int p2), .val (.int p3), .val (.int p4), .val (.long q5), .second, .val (.int n_), .val (.ref b1), .val (.ref b28), .val (.ref b57), .val (.long x104), .second, .unset] [(.ref b57)]))
      obtain ⟨cq337, kq337, q337a, q337b, q337c⟩ := isOf hZ e333 c334
      obtain ⟨_, _, ⟨T337, L337, k337, n337⟩, -, X337, ⟨Lc337, hQ337, l337, y337, z337⟩, st337⟩ := X333.virtualBack hx (y := (⟨"com/example/robust_broker/robustbroker/Postings", "collectionFrequency", "()J"⟩ : MethodName)) (z := (⟨"com/example/robust_broker/robustbroker/Postings", "collectionFrequency", "()J"⟩ : MethodName)) hown (mvT hZ (hw _ (List.mem_of_getElem? (i := 28) rfl))) (mvT hZ (hw _ (List.mem_of_getElem? (i := 29) rfl))) (notFace_of_selects (args := #[]) (mvT hZ (hw _ (List.mem_of_getElem? (i := 31) rfl)))) (mvT hZ (hw _ (List.mem_of_getElem? (i := 31) rfl))) (mvT hZ (hw _ (List.mem_of_getElem? (i := 30) rfl))) (by decide) (backOf (W := 0) (rm5 l Z a0 hw [] b57 ((0 : Int64) + (r32.toInt64)) T93.heap n0 z101 F100) hZ (hw _ (List.mem_of_getElem? (i := 32) rfl)) (hw _ (List.mem_of_getElem? (i := 10) rfl)) (by decide) (by decide)) q337a q337c (g := (mkF m 318 #[.val (.int p0), .val (.int p1), .val (.int p2), .val (.int p3), .val (.int p4), .val (.long q5), .second, .val (.int n_), .val (.ref b1), .val (.ref b28), .val (.ref b57), .val (.long x104), .second, .unset] [(.ref b57)])) rfl (by rw [hml]; rfl) (Steps.refl _) (argsL := []) (rest := []) (lenOf pd_6 rfl) rfl (by show 2 * 0 + _ ≤ _; exact Nat.le_of_eq rfl) (hb hby at_318) (fun _ _ => ⟨rfl, e333, (by decide : 5 + 0 ≤ _), (by decide : 18 + 0 ≤ _)⟩)
      dsimp only [Pt.U, Pt.locs, Pt.cells, Pt.slots] at X337 l337 y337 z337 st337 hQ337
      replace X337 := castX X337 (y337.trans (rfl : _ = 5)) (z337.trans (rfl : _ = 18))
      obtain ⟨r337, rfl, hr337, Nq337, e337⟩ := hQ337
      have N337 : Fr n0 L337 := l337 ▸ Fr.app N333 Nq337
      refine gob (fun _ k => st337.trans k) ?_
      show Go _ _ _ _ _ _ _ (T337.setTop (mkF m 321 #[.val (.int p0), .val (.int p1), .val (.int p2), .val (.int p3), .val (.int p4), .val (.long q5), .second, .val (.int n_), .val (.ref b1), .val (.ref b28), .val (.ref b57), .val (.long x104), .second, .unset] [(.long r337)]))
      refine gob (fun _ k => XS.lload X337.here hx rfl (hb hby at_321) rfl k) ?_
      show Go _ _ _ _ _ _ _ (T337.setTop (mkF m 323 #[.val (.int p0), .val (.int p1), .val (.int p2), .val (.int p3), .val (.int p4), .val (.long q5), .second, .val (.int n_), .val (.ref b1), .val (.ref b28), .val (.ref b57), .val (.long x104), .second, .unset] [(.long x104), (.long r337)]))
      refine gob (fun _ k => XS.lcmp X337.here hx rfl (hb hby at_323) rfl k) ?_
      show Go _ _ _ _ _ _ _ (T337.setTop (mkF m 324 #[.val (.int p0), .val (.int p1), .val (.int p2), .val (.int p3), .val (.int p4), .val (.long q5), .second, .val (.int n_), .val (.ref b1), .val (.ref b28), .val (.ref b57), .val (.long x104), .second, .unset] [(.int (lcmpW r337 x104))]))
      have hd339 : r337 = x104 := ld_0_324_338 r32 x104 r337 hr32 hx104 hr337
      refine gob (fun _ k => XS.ifYes X337.here hx rfl (pc0 := 324) (pc' := 329) rfl (hb hby at_324) rfl ((if0 _ _).trans (teq ((lw_eq _ _).mpr hd339)).1) (by decide) (by decide) k) ?_
      show Go _ _ _ _ _ _ _ (T337.setTop (mkF m 329 #[.val (.int p0), .val (.int p1), .val (.int p2), .val (.int p3), .val (.int p4), .val (.long q5), .second, .val (.int n_), .val (.ref b1), .val (.ref b28), .val (.ref b57), .val (.long x104), .second, .unset] []))
      refine gob (fun _ k => XS.iload X337.here hx rfl (hb hby at_329) rfl k) ?_
      show Go _ _ _ _ _ _ _ (T337.setTop (mkF m 331 #[.val (.int p0), .val (.int p1), .val (.int p2), .val (.int p3), .val (.int p4), .val (.long q5), .second, .val (.int n_), .val (.ref b1), .val (.ref b28), .val (.ref b57), .val (.long x104), .second, .unset] [(.int n_)]))
      have hd341 : ¬ (n_ = (0 : Int32)) := ld_0_331_340 p0 n_ hn_ hc162_88 hc191_105
      refine gob (fun _ k => XS.ifYes X337.here hx rfl (pc0 := 331) (pc' := 336) rfl (hb hby at_331) rfl ((if0 _ _).trans (feq hd341).2) (by decide) (by decide) k) ?_
      show Go _ _ _ _ _ _ _ (T337.setTop (mkF m 336 #[.val (.int p0), .val (.int p1), .val (.int p2), .val (.int p3), .val (.int p4), .val (.long q5), .second, .val (.int n_), .val (.ref b1), .val (.ref b28), .val (.ref b57), .val (.long x104), .second, .unset] []))
      refine gob (fun _ k => XS.iloadN X337.here hx rfl (hb hby at_336) rfl k) ?_
      show Go _ _ _ _ _ _ _ (T337.setTop (mkF m 337 #[.val (.int p0), .val (.int p1), .val (.int p2), .val (.int p3), .val (.int p4), .val (.long q5), .second, .val (.int n_), .val (.ref b1), .val (.ref b28), .val (.ref b57), .val (.long x104), .second, .unset] [(.int p1)]))
      refine gob (fun _ k => XS.bipush X337.here hx rfl (hb hby at_337) k) ?_
      show Go _ _ _ _ _ _ _ (T337.setTop (mkF m 339 #[.val (.int p0), .val (.int p1), .val (.int p2), .val (.int p3), .val (.int p4), .val (.long q5), .second, .val (.int n_), .val (.ref b1), .val (.ref b28), .val (.ref b57), .val (.long x104), .second, .unset] [(.int (28 : Int32)), (.int p1)]))
      refine gob (fun _ k => XS.iushr X337.here hx rfl (hb hby at_339) rfl k) ?_
      show Go _ _ _ _ _ _ _ (T337.setTop (mkF m 340 #[.val (.int p0), .val (.int p1), .val (.int p2), .val (.int p3), .val (.int p4), .val (.long q5), .second, .val (.int n_), .val (.ref b1), .val (.ref b28), .val (.ref b57), .val (.long x104), .second, .unset] [(.int ((p1.toUInt32 >>> ((28 : Int32) &&& 31).toUInt32).toInt32))]))
      refine gob (fun _ k => XS.iload X337.here hx rfl (hb hby at_340) rfl k) ?_
      show Go _ _ _ _ _ _ _ (T337.setTop (mkF m 342 #[.val (.int p0), .val (.int p1), .val (.int p2), .val (.int p3), .val (.int p4), .val (.long q5), .second, .val (.int n_), .val (.ref b1), .val (.ref b28), .val (.ref b57), .val (.long x104), .second, .unset] [(.int n_), (.int ((p1.toUInt32 >>> ((28 : Int32) &&& 31).toUInt32).toInt32))]))
      refine gob (fun _ k => iremM X337 hx rfl (hb hby at_342) rfl (la_0_342_342 p0 n_ hn_ hc162_88 hc191_105) k) ?_
      show Go _ _ _ _ _ _ _ (T337.setTop (mkF m 343 #[.val (.int p0), .val (.int p1), .val (.int p2), .val (.int p3), .val (.int p4), .val (.long q5), .second, .val (.int n_), .val (.ref b1), .val (.ref b28), .val (.ref b57), .val (.long x104), .second, .unset] [(.int (((p1.toUInt32 >>> ((28 : Int32) &&& 31).toUInt32).toInt32) % n_))]))
      refine gob (fun _ k => XS.istore X337.here hx rfl (hb hby at_343) rfl (l' := #[.val (.int p0), .val (.int p1), .val (.int p2), .val (.int p3), .val (.int p4), .val (.long q5), .second, .val (.int n_), .val (.ref b1), .val (.ref b28), .val (.ref b57), .val (.long x104), .second, .val (.int (((p1.toUInt32 >>> ((28 : Int32) &&& 31).toUInt32).toInt32) % n_))]) rfl k) ?_
      show Go _ _ _ _ _ _ _ (T337.setTop (mkF m 345 #[.val (.int p0), .val (.int p1), .val (.int p2), .val (.int p3), .val (.int p4), .val (.long q5), .second, .val (.int n_), .val (.ref b1), .val (.ref b28), .val (.ref b57), .val (.long x104), .second, .val (.int (((p1.toUInt32 >>> ((28 : Int32) &&& 31).toUInt32).toInt32) % n_))] []))
      generalize hk_ : (((p1.toUInt32 >>> ((28 : Int32) &&& 31).toUInt32).toInt32) % n_) = k_
      show Go _ _ _ _ _ _ _ (T337.setTop (mkF m 345 #[.val (.int p0), .val (.int p1), .val (.int p2), .val (.int p3), .val (.int p4), .val (.long q5), .second, .val (.int n_), .val (.ref b1), .val (.ref b28), .val (.ref b57), .val (.long x104), .second, .val (.int k_)] []))
      refine gob (fun _ k => XS.aload X337.here hx rfl (hb hby at_345) rfl rfl k) ?_
      show Go _ _ _ _ _ _ _ (T337.setTop (mkF m 347 #[.val (.int p0), .val (.int p1), .val (.int p2), .val (.int p3), .val (.int p4), .val (.long q5), .second, .val (.int n_), .val (.ref b1), .val (.ref b28), .val (.ref b57), .val (.long x104), .second, .val (.int k_)] [(.ref b57)]))
      refine gob (fun _ k => XS.iload X337.here hx rfl (hb hby at_347) rfl k) ?_
      show Go _ _ _ _ _ _ _ (T337.setTop (mkF m 349 #[.val (.int p0), .val (.int p1), .val (.int p2), .val (.int p3), .val (.int p4), .val (.long q5), .second, .val (.int n_), .val (.ref b1), .val (.ref b28), .val (.ref b57), .val (.long x104), .second, .val (.int k_)] [(.int k_), (.ref b57)]))
      obtain ⟨cq343, kq343, q343a, q343b, q343c⟩ := isOf hZ e337 c334
      obtain ⟨_, _, ⟨T343, L343, k343, n343⟩, -, X343, ⟨Lc343, hQ343, l343, y343, z343⟩, st343⟩ := X337.virtualBack hx (y := (⟨"com/example/robust_broker/robustbroker/Postings", "document", "(I)I"⟩ : MethodName)) (z := (⟨"com/example/robust_broker/robustbroker/Postings", "document", "(I)I"⟩ : MethodName)) hown (mvT hZ (hw _ (List.mem_of_getElem? (i := 52) rfl))) (mvT hZ (hw _ (List.mem_of_getElem? (i := 53) rfl))) (notFace_of_selects (args := #[]) (mvT hZ (hw _ (List.mem_of_getElem? (i := 55) rfl)))) (mvT hZ (hw _ (List.mem_of_getElem? (i := 55) rfl))) (mvT hZ (hw _ (List.mem_of_getElem? (i := 54) rfl))) (by decide) (backOf (W := 0) (rmdoc_2_1 l Z a0 hw [] b57 k_ b64 k66 x4 T93.heap n0 z101 F95 F96 (la_0_349_344 p0 p1 n_ k_ hn_ hc162_88 hc191_105 hk_) (la_0_349_345 p0 p1 n_ k_ hn_ hc162_88 hc191_105 hk_)) hZ (hw _ (List.mem_of_getElem? (i := 56) rfl)) (hw _ (List.mem_of_getElem? (i := 10) rfl)) (by decide) (by decide)) q343a q343c (g := (mkF m 349 #[.val (.int p0), .val (.int p1), .val (.int p2), .val (.int p3), .val (.int p4), .val (.long q5), .second, .val (.int n_), .val (.ref b1), .val (.ref b28), .val (.ref b57), .val (.long x104), .second, .val (.int k_)] [(.int k_), (.ref b57)])) rfl (by rw [hml]; rfl) (Steps.refl _) (argsL := [(.int k_)]) (rest := []) (lenOf pd_2 rfl) rfl (by show 2 * 0 + _ ≤ _; exact Nat.le_of_eq rfl) (hb hby at_349) (fun _ _ => ⟨rfl, e337, (by decide : 5 + 0 ≤ _), (by decide : 18 + 0 ≤ _)⟩)
      dsimp only [Pt.U, Pt.locs, Pt.cells, Pt.slots] at X343 l343 y343 z343 st343 hQ343
      replace X343 := castX X343 (y343.trans (rfl : _ = 5)) (z343.trans (rfl : _ = 18))
      obtain ⟨r343, rfl, hr343, Nq343, e343⟩ := hQ343
      have N343 : Fr n0 L343 := l343 ▸ Fr.app N337 Nq343
      refine gob (fun _ k => st343.trans k) ?_
      show Go _ _ _ _ _ _ _ (T343.setTop (mkF m 352 #[.val (.int p0), .val (.int p1), .val (.int p2), .val (.int p3), .val (.int p4), .val (.long q5), .second, .val (.int n_), .val (.ref b1), .val (.ref b28), .val (.ref b57), .val (.long x104), .second, .val (.int k_)] [(.int r343)]))
      refine gob (fun _ k => XS.aload X343.here hx rfl (hb hby at_352) rfl rfl k) ?_
      show Go _ _ _ _ _ _ _ (T343.setTop (mkF m 354 #[.val (.int p0), .val (.int p1), .val (.int p2), .val (.int p3), .val (.int p4), .val (.long q5), .second, .val (.int n_), .val (.ref b1), .val (.ref b28), .val (.ref b57), .val (.long x104), .second, .val (.int k_)] [(.ref b1), (.int r343)]))
      refine gob (fun _ k => XS.iload X343.here hx rfl (hb hby at_354) rfl k) ?_
      show Go _ _ _ _ _ _ _ (T343.setTop (mkF m 356 #[.val (.int p0), .val (.int p1), .val (.int p2), .val (.int p3), .val (.int p4), .val (.long q5), .second, .val (.int n_), .val (.ref b1), .val (.ref b28), .val (.ref b57), .val (.long x104), .second, .val (.int k_)] [(.int k_), (.ref b1), (.int r343)]))
      have c347 := (c90.keep K93 (ninS n77 (ninS n83 (ninS n59 nin0))))
      obtain ⟨cl346, Ar346, aq346, S346, N346, H346, G346⟩ := id c347
      have hj348 : 0 ≤ k_.toInt ∧ k_.toInt < 5 := (la_0_356_349 p0 p1 n_ k_ hn_ hc162_88 hc191_105 hk_)
      obtain ⟨w348, hw348, hg348⟩ := own_at5 x4 x9 x14 x19 x24 (.int (0 : Int32)) k_ 5 (by decide) hj348.1 hj348.2
      have hin348 : ¬ (k_ < 0 ∨ cl346.slots.size ≤ (k_).toNatClampNeg) := inb_of S346 (own_idx _ _ 5 (by decide) hj348.1 hj348.2)
      refine gob (X343.iaload hx (j := k_) (v := (.int w348)) (by rw [e343]; exact Ar346.1) (State.isArrayOf_alike hZ.alike Ar346.2.1) Ar346.2.2 hin348 (Has.at H346 hin348 hg348) (g := (mkF m 356 #[.val (.int p0), .val (.int p1), .val (.int p2), .val (.int p3), .val (.int p4), .val (.long q5), .second, .val (.int n_), .val (.ref b1), .val (.ref b28), .val (.ref b57), .val (.long x104), .second, .val (.int k_)] [(.int k_), (.ref b1), (.int r343)])) rfl rfl (hb hby at_356)) ?_
      show Go _ _ _ _ _ _ _ (T343.setTop (mkF m 357 #[.val (.int p0), .val (.int p1), .val (.int p2), .val (.int p3), .val (.int p4), .val (.long q5), .second, .val (.int n_), .val (.ref b1), .val (.ref b28), .val (.ref b57), .val (.long x104), .second, .val (.int k_)] [(.int w348), (.int r343)]))
      have hd351 : r343 = w348 := ld_0_357_350 x4 x9 x14 x19 x24 k_ r343 w348 hr343 hw348
      refine gob (fun _ k => XS.icmpNo X343.here hx rfl (hb hby at_357) rfl (teq hd351).2 k) ?_
      show Go _ _ _ _ _ _ _ (T343.setTop (mkF m 360 #[.val (.int p0), .val (.int p1), .val (.int p2), .val (.int p3), .val (.int p4), .val (.long q5), .second, .val (.int n_), .val (.ref b1), .val (.ref b28), .val (.ref b57), .val (.long x104), .second, .val (.int k_)] []))
      refine gob (fun _ k => XS.aload X343.here hx rfl (hb hby at_360) rfl rfl k) ?_
      show Go _ _ _ _ _ _ _ (T343.setTop (mkF m 362 #[.val (.int p0), .val (.int p1), .val (.int p2), .val (.int p3), .val (.int p4), .val (.long q5), .second, .val (.int n_), .val (.ref b1), .val (.ref b28), .val (.ref b57), .val (.long x104), .second, .val (.int k_)] [(.ref b57)]))
      refine gob (fun _ k => XS.iload X343.here hx rfl (hb hby at_362) rfl k) ?_
      show Go _ _ _ _ _ _ _ (T343.setTop (mkF m 364 #[.val (.int p0), .val (.int p1), .val (.int p2), .val (.int p3), .val (.int p4), .val (.long q5), .second, .val (.int n_), .val (.ref b1), .val (.ref b28), .val (.ref b57), .val (.long x104), .second, .val (.int k_)] [(.int k_), (.ref b57)]))
      obtain ⟨cq352, kq352, q352a, q352b, q352c⟩ := isOf hZ e343 c334
      obtain ⟨_, _, ⟨T352, L352, k352, n352⟩, -, X352, ⟨Lc352, hQ352, l352, y352, z352⟩, st352⟩ := X343.virtualBack hx (y := (⟨"com/example/robust_broker/robustbroker/Postings", "frequency", "(I)I"⟩ : MethodName)) (z := (⟨"com/example/robust_broker/robustbroker/Postings", "frequency", "(I)I"⟩ : MethodName)) hown (mvT hZ (hw _ (List.mem_of_getElem? (i := 57) rfl))) (mvT hZ (hw _ (List.mem_of_getElem? (i := 58) rfl))) (notFace_of_selects (args := #[]) (mvT hZ (hw _ (List.mem_of_getElem? (i := 60) rfl)))) (mvT hZ (hw _ (List.mem_of_getElem? (i := 60) rfl))) (mvT hZ (hw _ (List.mem_of_getElem? (i := 59) rfl))) (by decide) (backOf (W := 0) (rmfre_2_1 l Z a0 hw [] b57 k_ b65 k67 r32 T93.heap n0 z101 F97 F98 (la_0_364_353 p0 p1 n_ k_ hn_ hc162_88 hc191_105 hk_) (la_0_364_354 p0 p1 n_ k_ hn_ hc162_88 hc191_105 hk_)) hZ (hw _ (List.mem_of_getElem? (i := 61) rfl)) (hw _ (List.mem_of_getElem? (i := 10) rfl)) (by decide) (by decide)) q352a q352c (g := (mkF m 364 #[.val (.int p0), .val (.int p1), .val (.int p2), .val (.int p3), .val (.int p4), .val (.long q5), .second, .val (.int n_), .val (.ref b1), .val (.ref b28), .val (.ref b57), .val (.long x104), .second, .val (.int k_)] [(.int k_), (.ref b57)])) rfl (by rw [hml]; rfl) (Steps.refl _) (argsL := [(.int k_)]) (rest := []) (lenOf pd_2 rfl) rfl (by show 2 * 0 + _ ≤ _; exact Nat.le_of_eq rfl) (hb hby at_364) (fun _ _ => ⟨rfl, e343, (by decide : 5 + 0 ≤ _), (by decide : 18 + 0 ≤ _)⟩)
      dsimp only [Pt.U, Pt.locs, Pt.cells, Pt.slots] at X352 l352 y352 z352 st352 hQ352
      replace X352 := castX X352 (y352.trans (rfl : _ = 5)) (z352.trans (rfl : _ = 18))
      obtain ⟨r352, rfl, hr352, Nq352, e352⟩ := hQ352
      have N352 : Fr n0 L352 := l352 ▸ Fr.app N343 Nq352
      refine gob (fun _ k => st352.trans k) ?_
      show Go _ _ _ _ _ _ _ (T352.setTop (mkF m 367 #[.val (.int p0), .val (.int p1), .val (.int p2), .val (.int p3), .val (.int p4), .val (.long q5), .second, .val (.int n_), .val (.ref b1), .val (.ref b28), .val (.ref b57), .val (.long x104), .second, .val (.int k_)] [(.int r352)]))
      refine gob (fun _ k => XS.aload X352.here hx rfl (hb hby at_367) rfl rfl k) ?_
      show Go _ _ _ _ _ _ _ (T352.setTop (mkF m 369 #[.val (.int p0), .val (.int p1), .val (.int p2), .val (.int p3), .val (.int p4), .val (.long q5), .second, .val (.int n_), .val (.ref b1), .val (.ref b28), .val (.ref b57), .val (.long x104), .second, .val (.int k_)] [(.ref b28), (.int r352)]))
      refine gob (fun _ k => XS.iload X352.here hx rfl (hb hby at_369) rfl k) ?_
      show Go _ _ _ _ _ _ _ (T352.setTop (mkF m 371 #[.val (.int p0), .val (.int p1), .val (.int p2), .val (.int p3), .val (.int p4), .val (.long q5), .second, .val (.int n_), .val (.ref b1), .val (.ref b28), .val (.ref b57), .val (.long x104), .second, .val (.int k_)] [(.int k_), (.ref b28), (.int r352)]))
      obtain ⟨cl355, Ar355, aq355, S355, N355, H355, G355⟩ := id c103
      have hj356 : 0 ≤ k_.toInt ∧ k_.toInt < 5 := (la_0_371_357 p0 p1 n_ k_ hn_ hc162_88 hc191_105 hk_)
      obtain ⟨w356, hw356, hg356⟩ := own_at5 r32 r37 r42 r47 r52 (.int (0 : Int32)) k_ 5 (by decide) hj356.1 hj356.2
      have hin356 : ¬ (k_ < 0 ∨ cl355.slots.size ≤ (k_).toNatClampNeg) := inb_of S355 (own_idx _ _ 5 (by decide) hj356.1 hj356.2)
      refine gob (X352.iaload hx (j := k_) (v := (.int w356)) (by rw [e352]; exact Ar355.1) (State.isArrayOf_alike hZ.alike Ar355.2.1) Ar355.2.2 hin356 (Has.at H355 hin356 hg356) (g := (mkF m 371 #[.val (.int p0), .val (.int p1), .val (.int p2), .val (.int p3), .val (.int p4), .val (.long q5), .second, .val (.int n_), .val (.ref b1), .val (.ref b28), .val (.ref b57), .val (.long x104), .second, .val (.int k_)] [(.int k_), (.ref b28), (.int r352)])) rfl rfl (hb hby at_371)) ?_
      show Go _ _ _ _ _ _ _ (T352.setTop (mkF m 372 #[.val (.int p0), .val (.int p1), .val (.int p2), .val (.int p3), .val (.int p4), .val (.long q5), .second, .val (.int n_), .val (.ref b1), .val (.ref b28), .val (.ref b57), .val (.long x104), .second, .val (.int k_)] [(.int w356), (.int r352)]))
      have hd359 : r352 = w356 := ld_0_372_358 r32 r37 r42 r47 r52 k_ r352 w356 hr352 hw356
      refine gob (fun _ k => XS.icmpNo X352.here hx rfl (hb hby at_372) rfl (teq hd359).2 k) ?_
      show Go _ _ _ _ _ _ _ (T352.setTop (mkF m 375 #[.val (.int p0), .val (.int p1), .val (.int p2), .val (.int p3), .val (.int p4), .val (.long q5), .second, .val (.int n_), .val (.ref b1), .val (.ref b28), .val (.ref b57), .val (.long x104), .second, .val (.int k_)] []))
      refine gob (fun _ k => XS.iconst X352.here hx rfl (hb hby at_375) k) ?_
      show Go _ _ _ _ _ _ _ (T352.setTop (mkF m 376 #[.val (.int p0), .val (.int p1), .val (.int p2), .val (.int p3), .val (.int p4), .val (.long q5), .second, .val (.int n_), .val (.ref b1), .val (.ref b28), .val (.ref b57), .val (.long x104), .second, .val (.int k_)] [(.int (1 : Int32))]))
      refine gob (fun _ k => XS.goto X352.here hx rfl (pc0 := 376) (pc' := 380) rfl (hb hby at_376) (by decide) (by decide) k) ?_
      show Go _ _ _ _ _ _ _ (T352.setTop (mkF m 380 #[.val (.int p0), .val (.int p1), .val (.int p2), .val (.int p3), .val (.int p4), .val (.long q5), .second, .val (.int n_), .val (.ref b1), .val (.ref b28), .val (.ref b57), .val (.long x104), .second, .val (.int k_)] [(.int (1 : Int32))]))
      refine goZ X352 hx hlk (t := .boolean) Bd.returns (by simp) (hb hby at_380) (z' := (1 : Int32)) rfl ?_ (by decide) (by decide)
      show Q0 Z p0 p1 p2 p3 p4 q5 h0 n0 (some (.int (1 : Int32))) T352.heap _
      exact ⟨rfl, N352⟩
  · skip
    refine gob (fun _ k => XS.ifYes X63.here hx rfl (pc0 := 162) (pc' := 188) rfl (hb hby at_162) rfl ((if0 _ _).trans (flt hc162_88).2.2.2) (by decide) (by decide) k) ?_
    show Go _ _ _ _ _ _ _ (T63.setTop (mkF m 188 #[.val (.int p0), .val (.int p1), .val (.int p2), .val (.int p3), .val (.int p4), .val (.long q5), .second, .val (.int n_), .val (.ref b1), .val (.ref b28), .val (.ref b57), .val (.long (0 : Int64)), .second, .unset] []))
    refine gob (fun _ k => XS.iload X63.here hx rfl (hb hby at_188) rfl k) ?_
    show Go _ _ _ _ _ _ _ (T63.setTop (mkF m 190 #[.val (.int p0), .val (.int p1), .val (.int p2), .val (.int p3), .val (.int p4), .val (.long q5), .second, .val (.int n_), .val (.ref b1), .val (.ref b28), .val (.ref b57), .val (.long (0 : Int64)), .second, .unset] [(.int n_)]))
    refine gob (fun _ k => XS.iconst X63.here hx rfl (hb hby at_190) k) ?_
    show Go _ _ _ _ _ _ _ (T63.setTop (mkF m 191 #[.val (.int p0), .val (.int p1), .val (.int p2), .val (.int p3), .val (.int p4), .val (.long q5), .second, .val (.int n_), .val (.ref b1), .val (.ref b28), .val (.ref b57), .val (.long (0 : Int64)), .second, .unset] [(.int (1 : Int32)), (.int n_)]))
    have hd361 : ¬ ((1 : Int32) < n_) := ld_0_191_360 p0 n_ hn_ hc162_88
    refine gob (fun _ k => XS.icmpYes X63.here hx rfl (pc0 := 191) (pc' := 217) rfl (hb hby at_191) rfl (flt hd361).2.2.2 (by decide) (by decide) k) ?_
    show Go _ _ _ _ _ _ _ (T63.setTop (mkF m 217 #[.val (.int p0), .val (.int p1), .val (.int p2), .val (.int p3), .val (.int p4), .val (.long q5), .second, .val (.int n_), .val (.ref b1), .val (.ref b28), .val (.ref b57), .val (.long (0 : Int64)), .second, .unset] []))
    refine gob (fun _ k => XS.iload X63.here hx rfl (hb hby at_217) rfl k) ?_
    show Go _ _ _ _ _ _ _ (T63.setTop (mkF m 219 #[.val (.int p0), .val (.int p1), .val (.int p2), .val (.int p3), .val (.int p4), .val (.long q5), .second, .val (.int n_), .val (.ref b1), .val (.ref b28), .val (.ref b57), .val (.long (0 : Int64)), .second, .unset] [(.int n_)]))
    refine gob (fun _ k => XS.iconst X63.here hx rfl (hb hby at_219) k) ?_
    show Go _ _ _ _ _ _ _ (T63.setTop (mkF m 220 #[.val (.int p0), .val (.int p1), .val (.int p2), .val (.int p3), .val (.int p4), .val (.long q5), .second, .val (.int n_), .val (.ref b1), .val (.ref b28), .val (.ref b57), .val (.long (0 : Int64)), .second, .unset] [(.int (2 : Int32)), (.int n_)]))
    have hd363 : ¬ ((2 : Int32) < n_) := ld_0_220_362 p0 n_ hn_ hc162_88
    refine gob (fun _ k => XS.icmpYes X63.here hx rfl (pc0 := 220) (pc' := 246) rfl (hb hby at_220) rfl (flt hd363).2.2.2 (by decide) (by decide) k) ?_
    show Go _ _ _ _ _ _ _ (T63.setTop (mkF m 246 #[.val (.int p0), .val (.int p1), .val (.int p2), .val (.int p3), .val (.int p4), .val (.long q5), .second, .val (.int n_), .val (.ref b1), .val (.ref b28), .val (.ref b57), .val (.long (0 : Int64)), .second, .unset] []))
    refine gob (fun _ k => XS.iload X63.here hx rfl (hb hby at_246) rfl k) ?_
    show Go _ _ _ _ _ _ _ (T63.setTop (mkF m 248 #[.val (.int p0), .val (.int p1), .val (.int p2), .val (.int p3), .val (.int p4), .val (.long q5), .second, .val (.int n_), .val (.ref b1), .val (.ref b28), .val (.ref b57), .val (.long (0 : Int64)), .second, .unset] [(.int n_)]))
    refine gob (fun _ k => XS.iconst X63.here hx rfl (hb hby at_248) k) ?_
    show Go _ _ _ _ _ _ _ (T63.setTop (mkF m 249 #[.val (.int p0), .val (.int p1), .val (.int p2), .val (.int p3), .val (.int p4), .val (.long q5), .second, .val (.int n_), .val (.ref b1), .val (.ref b28), .val (.ref b57), .val (.long (0 : Int64)), .second, .unset] [(.int (3 : Int32)), (.int n_)]))
    have hd365 : ¬ ((3 : Int32) < n_) := ld_0_249_364 p0 n_ hn_ hc162_88
    refine gob (fun _ k => XS.icmpYes X63.here hx rfl (pc0 := 249) (pc' := 275) rfl (hb hby at_249) rfl (flt hd365).2.2.2 (by decide) (by decide) k) ?_
    show Go _ _ _ _ _ _ _ (T63.setTop (mkF m 275 #[.val (.int p0), .val (.int p1), .val (.int p2), .val (.int p3), .val (.int p4), .val (.long q5), .second, .val (.int n_), .val (.ref b1), .val (.ref b28), .val (.ref b57), .val (.long (0 : Int64)), .second, .unset] []))
    refine gob (fun _ k => XS.iload X63.here hx rfl (hb hby at_275) rfl k) ?_
    show Go _ _ _ _ _ _ _ (T63.setTop (mkF m 277 #[.val (.int p0), .val (.int p1), .val (.int p2), .val (.int p3), .val (.int p4), .val (.long q5), .second, .val (.int n_), .val (.ref b1), .val (.ref b28), .val (.ref b57), .val (.long (0 : Int64)), .second, .unset] [(.int n_)]))
    refine gob (fun _ k => XS.iconst X63.here hx rfl (hb hby at_277) k) ?_
    show Go _ _ _ _ _ _ _ (T63.setTop (mkF m 278 #[.val (.int p0), .val (.int p1), .val (.int p2), .val (.int p3), .val (.int p4), .val (.long q5), .second, .val (.int n_), .val (.ref b1), .val (.ref b28), .val (.ref b57), .val (.long (0 : Int64)), .second, .unset] [(.int (4 : Int32)), (.int n_)]))
    have hd367 : ¬ ((4 : Int32) < n_) := ld_0_278_366 p0 n_ hn_ hc162_88
    refine gob (fun _ k => XS.icmpYes X63.here hx rfl (pc0 := 278) (pc' := 304) rfl (hb hby at_278) rfl (flt hd367).2.2.2 (by decide) (by decide) k) ?_
    show Go _ _ _ _ _ _ _ (T63.setTop (mkF m 304 #[.val (.int p0), .val (.int p1), .val (.int p2), .val (.int p3), .val (.int p4), .val (.long q5), .second, .val (.int n_), .val (.ref b1), .val (.ref b28), .val (.ref b57), .val (.long (0 : Int64)), .second, .unset] []))
    refine gob (fun _ k => XS.aload X63.here hx rfl (hb hby at_304) rfl rfl k) ?_
    show Go _ _ _ _ _ _ _ (T63.setTop (mkF m 306 #[.val (.int p0), .val (.int p1), .val (.int p2), .val (.int p3), .val (.int p4), .val (.long q5), .second, .val (.int n_), .val (.ref b1), .val (.ref b28), .val (.ref b57), .val (.long (0 : Int64)), .second, .unset] [(.ref b57)]))
    have c369 := (A57.keep K63)
    obtain ⟨cq368, kq368, q368a, q368b, q368c⟩ := isOf hZ (rfl : T63.heap = _) c369
    obtain ⟨_, _, ⟨T368, L368, k368, n368⟩, -, X368, ⟨Lc368, hQ368, l368, y368, z368⟩, st368⟩ := X63.virtualBack hx (y := (⟨"com/example/robust_broker/robustbroker/Postings", "size", "()I"⟩ : MethodName)) (z := (⟨"com/example/robust_broker/robustbroker/Postings", "size", "()I"⟩ : MethodName)) hown (mvT hZ (hw _ (List.mem_of_getElem? (i := 21) rfl))) (mvT hZ (hw _ (List.mem_of_getElem? (i := 22) rfl))) (notFace_of_selects (args := #[]) (mvT hZ (hw _ (List.mem_of_getElem? (i := 24) rfl)))) (mvT hZ (hw _ (List.mem_of_getElem? (i := 24) rfl))) (mvT hZ (hw _ (List.mem_of_getElem? (i := 23) rfl))) (by decide) (backOf (W := 0) (rm4 l Z a0 hw [] b57 (0 : Int32) T63.heap n0 z87 F71) hZ (hw _ (List.mem_of_getElem? (i := 25) rfl)) (hw _ (List.mem_of_getElem? (i := 10) rfl)) (by decide) (by decide)) q368a q368c (g := (mkF m 306 #[.val (.int p0), .val (.int p1), .val (.int p2), .val (.int p3), .val (.int p4), .val (.long q5), .second, .val (.int n_), .val (.ref b1), .val (.ref b28), .val (.ref b57), .val (.long (0 : Int64)), .second, .unset] [(.ref b57)])) rfl (by rw [hml]; rfl) (Steps.refl _) (argsL := []) (rest := []) (lenOf pd_5 rfl) rfl (by show 2 * 0 + _ ≤ _; exact Nat.le_of_eq rfl) (hb hby at_306) (fun _ _ => ⟨rfl, (rfl : T63.heap = _), (by decide : 5 + 0 ≤ _), (by decide : 18 + 0 ≤ _)⟩)
    dsimp only [Pt.U, Pt.locs, Pt.cells, Pt.slots] at X368 l368 y368 z368 st368 hQ368
    replace X368 := castX X368 (y368.trans (rfl : _ = 5)) (z368.trans (rfl : _ = 18))
    obtain ⟨r368, rfl, hr368, Nq368, e368⟩ := hQ368
    have N368 : Fr n0 L368 := l368 ▸ Fr.app N63 Nq368
    refine gob (fun _ k => st368.trans k) ?_
    show Go _ _ _ _ _ _ _ (T368.setTop (mkF m 309 #[.val (.int p0), .val (.int p1), .val (.int p2), .val (.int p3), .val (.int p4), .val (.long q5), .second, .val (.int n_), .val (.ref b1), .val (.ref b28), .val (.ref b57), .val (.long (0 : Int64)), .second, .unset] [(.int r368)]))
    refine gob (fun _ k => XS.iload X368.here hx rfl (hb hby at_309) rfl k) ?_
    show Go _ _ _ _ _ _ _ (T368.setTop (mkF m 311 #[.val (.int p0), .val (.int p1), .val (.int p2), .val (.int p3), .val (.int p4), .val (.long q5), .second, .val (.int n_), .val (.ref b1), .val (.ref b28), .val (.ref b57), .val (.long (0 : Int64)), .second, .unset] [(.int n_), (.int r368)]))
    have hd371 : r368 = n_ := ld_0_311_370 p0 n_ r368 hn_ hc162_88 hr368
    refine gob (fun _ k => XS.icmpYes X368.here hx rfl (pc0 := 311) (pc' := 316) rfl (hb hby at_311) rfl (teq hd371).1 (by decide) (by decide) k) ?_
    show Go _ _ _ _ _ _ _ (T368.setTop (mkF m 316 #[.val (.int p0), .val (.int p1), .val (.int p2), .val (.int p3), .val (.int p4), .val (.long q5), .second, .val (.int n_), .val (.ref b1), .val (.ref b28), .val (.ref b57), .val (.long (0 : Int64)), .second, .unset] []))
    refine gob (fun _ k => XS.aload X368.here hx rfl (hb hby at_316) rfl rfl k) ?_
    show Go _ _ _ _ _ _ _ (T368.setTop (mkF m 318 #[.val (.int p0), .val (.int p1), .val (.int p2), .val (.int p3), .val (.int p4), .val (.long q5), .second, .val (.int n_), .val (.ref b1), .val (.ref b28), .val (.ref b57), .val (.long (0 : Int64)), .second, .unset] [(.ref b57)]))
    obtain ⟨cq372, kq372, q372a, q372b, q372c⟩ := isOf hZ e368 c369
    obtain ⟨_, _, ⟨T372, L372, k372, n372⟩, -, X372, ⟨Lc372, hQ372, l372, y372, z372⟩, st372⟩ := X368.virtualBack hx (y := (⟨"com/example/robust_broker/robustbroker/Postings", "collectionFrequency", "()J"⟩ : MethodName)) (z := (⟨"com/example/robust_broker/robustbroker/Postings", "collectionFrequency", "()J"⟩ : MethodName)) hown (mvT hZ (hw _ (List.mem_of_getElem? (i := 28) rfl))) (mvT hZ (hw _ (List.mem_of_getElem? (i := 29) rfl))) (notFace_of_selects (args := #[]) (mvT hZ (hw _ (List.mem_of_getElem? (i := 31) rfl)))) (mvT hZ (hw _ (List.mem_of_getElem? (i := 31) rfl))) (mvT hZ (hw _ (List.mem_of_getElem? (i := 30) rfl))) (by decide) (backOf (W := 0) (rm5 l Z a0 hw [] b57 (0 : Int64) T63.heap n0 z87 F72) hZ (hw _ (List.mem_of_getElem? (i := 32) rfl)) (hw _ (List.mem_of_getElem? (i := 10) rfl)) (by decide) (by decide)) q372a q372c (g := (mkF m 318 #[.val (.int p0), .val (.int p1), .val (.int p2), .val (.int p3), .val (.int p4), .val (.long q5), .second, .val (.int n_), .val (.ref b1), .val (.ref b28), .val (.ref b57), .val (.long (0 : Int64)), .second, .unset] [(.ref b57)])) rfl (by rw [hml]; rfl) (Steps.refl _) (argsL := []) (rest := []) (lenOf pd_6 rfl) rfl (by show 2 * 0 + _ ≤ _; exact Nat.le_of_eq rfl) (hb hby at_318) (fun _ _ => ⟨rfl, e368, (by decide : 5 + 0 ≤ _), (by decide : 18 + 0 ≤ _)⟩)
    dsimp only [Pt.U, Pt.locs, Pt.cells, Pt.slots] at X372 l372 y372 z372 st372 hQ372
    replace X372 := castX X372 (y372.trans (rfl : _ = 5)) (z372.trans (rfl : _ = 18))
    obtain ⟨r372, rfl, hr372, Nq372, e372⟩ := hQ372
    have N372 : Fr n0 L372 := l372 ▸ Fr.app N368 Nq372
    refine gob (fun _ k => st372.trans k) ?_
    show Go _ _ _ _ _ _ _ (T372.setTop (mkF m 321 #[.val (.int p0), .val (.int p1), .val (.int p2), .val (.int p3), .val (.int p4), .val (.long q5), .second, .val (.int n_), .val (.ref b1), .val (.ref b28), .val (.ref b57), .val (.long (0 : Int64)), .second, .unset] [(.long r372)]))
    refine gob (fun _ k => XS.lload X372.here hx rfl (hb hby at_321) rfl k) ?_
    show Go _ _ _ _ _ _ _ (T372.setTop (mkF m 323 #[.val (.int p0), .val (.int p1), .val (.int p2), .val (.int p3), .val (.int p4), .val (.long q5), .second, .val (.int n_), .val (.ref b1), .val (.ref b28), .val (.ref b57), .val (.long (0 : Int64)), .second, .unset] [(.long (0 : Int64)), (.long r372)]))
    refine gob (fun _ k => XS.lcmp X372.here hx rfl (hb hby at_323) rfl k) ?_
    show Go _ _ _ _ _ _ _ (T372.setTop (mkF m 324 #[.val (.int p0), .val (.int p1), .val (.int p2), .val (.int p3), .val (.int p4), .val (.long q5), .second, .val (.int n_), .val (.ref b1), .val (.ref b28), .val (.ref b57), .val (.long (0 : Int64)), .second, .unset] [(.int (lcmpW r372 (0 : Int64)))]))
    have hd374 : r372 = (0 : Int64) := ld_0_324_373 r372 hr372
    refine gob (fun _ k => XS.ifYes X372.here hx rfl (pc0 := 324) (pc' := 329) rfl (hb hby at_324) rfl ((if0 _ _).trans (teq ((lw_eq _ _).mpr hd374)).1) (by decide) (by decide) k) ?_
    show Go _ _ _ _ _ _ _ (T372.setTop (mkF m 329 #[.val (.int p0), .val (.int p1), .val (.int p2), .val (.int p3), .val (.int p4), .val (.long q5), .second, .val (.int n_), .val (.ref b1), .val (.ref b28), .val (.ref b57), .val (.long (0 : Int64)), .second, .unset] []))
    refine gob (fun _ k => XS.iload X372.here hx rfl (hb hby at_329) rfl k) ?_
    show Go _ _ _ _ _ _ _ (T372.setTop (mkF m 331 #[.val (.int p0), .val (.int p1), .val (.int p2), .val (.int p3), .val (.int p4), .val (.long q5), .second, .val (.int n_), .val (.ref b1), .val (.ref b28), .val (.ref b57), .val (.long (0 : Int64)), .second, .unset] [(.int n_)]))
    have hd376 : n_ = (0 : Int32) := ld_0_331_375 p0 n_ hn_ hc162_88
    refine gob (fun _ k => XS.ifNo X372.here hx rfl (hb hby at_331) rfl ((if0 _ _).trans (teq hd376).2) k) ?_
    show Go _ _ _ _ _ _ _ (T372.setTop (mkF m 334 #[.val (.int p0), .val (.int p1), .val (.int p2), .val (.int p3), .val (.int p4), .val (.long q5), .second, .val (.int n_), .val (.ref b1), .val (.ref b28), .val (.ref b57), .val (.long (0 : Int64)), .second, .unset] []))
    refine gob (fun _ k => XS.iconst X372.here hx rfl (hb hby at_334) k) ?_
    show Go _ _ _ _ _ _ _ (T372.setTop (mkF m 335 #[.val (.int p0), .val (.int p1), .val (.int p2), .val (.int p3), .val (.int p4), .val (.long q5), .second, .val (.int n_), .val (.ref b1), .val (.ref b28), .val (.ref b57), .val (.long (0 : Int64)), .second, .unset] [(.int (1 : Int32))]))
    refine goZ X372 hx hlk (t := .boolean) Bd.returns (by simp) (hb hby at_335) (z' := (1 : Int32)) rfl ?_ (by decide) (by decide)
    show Q0 Z p0 p1 p2 p3 p4 q5 h0 n0 (some (.int (1 : Int32))) T372.heap _
    exact ⟨rfl, N372⟩
set_option maxRecDepth 65536 in
set_option maxHeartbeats 40000000 in
theorem comes_1 {Post : Tables → Env → Array Value → State → Outcome → State → Prop} (hpost : ∀ tb e args s v u, (limb_1_1.after args s (.returned v) u = true ∧ limb_1_2.after args s (.returned v) u = true ∧ True) → FrameEnd s (.returned v) u (Jvm.fieldLocs frame_1_writes args s ++ Jvm.arrayLocs frame_1_arrays args s ++ Jvm.staticLocs frame_1_statics s) 32 192 → Post tb e args s (.returned v) u) :
    ArmFor flags0 classFile x code maxLocals ret World_1 tables_1 room_1 Calls_1 rest_1 Pre_1 Post := by
  intro l hfl _ _ p e ha hc hk s m args below hf hA hF happ hP
  obtain ⟨hcalls, hrest, hpre⟩ := hP
  obtain ⟨-, -, -, hnamed, -, -, -, hat⟩ := (Spec.applies_iff hf).mp happ
  obtain ⟨hg, hn⟩ := and_e (Cond.before_iff.mp (show (Jvm.Cond.and given_1 narrow_1).before args s = true from hpre))
  obtain ⟨g1, g2⟩ := and_e hg
  obtain ⟨g3, g4⟩ := and_e g2
  obtain ⟨g5, g6⟩ := and_e g4
  obtain ⟨g7, g8⟩ := and_e g6
  obtain ⟨g9, g10⟩ := and_e g8
  obtain ⟨g11, g12⟩ := and_e g10
  obtain ⟨w0, w1, w2, w3, w4, w5, rfl⟩ : ∃ w0 w1 w2 w3 w4 w5 : Value, args = #[w0, w1, w2, w3, w4, w5] := by
    have hs : args.size = 6 := by simpa [Cond.value, given_1] using g1
    obtain ⟨L⟩ := args
    match L, hs with
    | [w0, w1, w2, w3, w4, w5], _ => exact ⟨w0, w1, w2, w3, w4, w5, rfl⟩
  have hw := fun d (hd : d ∈ tables_1) => atoms_spec (ws := Jvm.Cond.code x code maxLocals ret :: tables_1) hat d (List.mem_cons_of_mem _ hd)
  have hfit : Fit s := fun {y c} hc i hi => by
    obtain ⟨ha, rfl⟩ := Array.getElem?_eq_some_iff.mp hc
    have q := List.all_eq_true.mp ((Array.all_eq_true_iff_forall_mem.mp hF) _ (Array.getElem_mem ha)) i (List.mem_range.mpr hi)
    simpa [Array.getElem?_eq_getElem hi] using q
  obtain ⟨i0, ei0⟩ := is_v g3
  obtain rfl : w0 = (.int i0) := Option.some.inj ei0
  obtain ⟨i1, ei1⟩ := is_v g5
  obtain rfl : w1 = (.int i1) := Option.some.inj ei1
  obtain ⟨i2, ei2⟩ := is_v g7
  obtain rfl : w2 = (.int i2) := Option.some.inj ei2
  obtain ⟨i3, ei3⟩ := is_v g9
  obtain rfl : w3 = (.int i3) := Option.some.inj ei3
  obtain ⟨i4, ei4⟩ := is_v g11
  obtain rfl : w4 = (.int i4) := Option.some.inj ei4
  obtain ⟨i5, ei5⟩ := isL_v g12
  obtain rfl : w5 = (.long i5) := Option.some.inj ei5
  obtain ⟨n, o, h1, h2, h3, _, L, rfl, ⟨rfl, N⟩, hq⟩ := rm0 l s _ hw tables_1 i0 i1 i2 i3 i4 i5 s.heap s.heap.size (Nat.le_refl _)  p e ha hc hk s m _ below hf ((Spec.applies_iff_loose hf).mp happ).1 ⟨rfl, State.Warmed39.refl s, rfl⟩ trivial
  exact ⟨n, _, h1, h2, h3, hpost _ _ _ _ _ _ ⟨Cond.after_iff.mpr rfl, Cond.after_iff.mpr (eq_i res_at (Term.int_eval (1)) rfl), trivial⟩ ⟨hq.1, hq.2.1, (hq.2.2.sift fun y hy => Or.inr (N y hy)).mono (by decide) (by decide)⟩⟩
theorem main_1_1 : Claimed_1_1 := comes_1 fun _ _ _ _ _ _ h hF => ⟨h.1, hF⟩
theorem main_1_2 : Claimed_1_2 := comes_1 fun _ _ _ _ _ _ h hF => ⟨h.2.1, hF⟩
end Jvm.Pilot.@@N@@
namespace Jvm.Pilot.@@N@@
open Jvm Jvm.ClassFile Sem Op Lib Jvm.Free Jvm.Stand Jvm.Pilot.@@N@@.Jvm.D
/-! MADE BY PROGRAM (witnessworld.py) out of the Statement's table words and the real class files: 12 classes; the members and pool entries that the words name. The judged class is class 1, her method 2. -/
namespace start1
open Jvm.ClassFile
def u (s : String) : CpInfo := .utf8 (stringToUtf16 s)
/-- a pool by its gaps: so many unusable entries, then the entry; so many at the end -/
def gap : Nat → List CpInfo → List CpInfo
  | 0, r => r
  | n + 1, r => .unusable :: gap n r
def poolList (es : List (Nat × CpInfo)) (last : Nat) : List CpInfo := es.foldr (fun e r => gap e.1 (e.2 :: r)) (gap last [])
def pool (es : List (Nat × CpInfo)) (last : Nat) : Array CpInfo := ⟨poolList es last⟩
def fileOf (pool : Array CpInfo) (this : Nat) (attrs : Array Attribute := #[]) (ms : Array MethodInfo := #[]) (fl : Nat := 33) (sup : Nat := 0) (ifs : Array Nat := #[]) (fds : Array FieldInfo := #[]) : ClassFile where
  minorVersion := 0
  majorVersion := 65
  constantPool := pool
  accessFlags := fl
  thisClass := this
  superClass := sup
  interfaces := ifs
  fields := fds
  methods := ms
  attributes := attrs
def plain (name : String) (sup : Option ClassId) : Class where
  name := name
  kind := .ordinary
  loader := none
  accessFlags := 33
  super := sup
  interfaces := #[]
  cf := none
  fields := #[]
  methods := #[]
  instanceTypes := #[]
  staticTypes := #[]
  resolved := #[]
  callSites := []
  init := .initialized
  statics := none
  mirror := none

def pool0 : Array CpInfo := pool [(5, u "<init>"), (0, u "()V"), (1, .class_ 10), (1, u "java/lang/Object")] 113

def k0c0 : Code := { maxStack := 0, maxLocals := 1, code := object_method_1_code, exceptionTable := #[], attributes := #[] }
def k0m0 : Method := { name := "<init>", desc := "()V", sig := { parameters := [], returnType := none }, accessFlags := 1, code := some k0c0 }
/-- java/lang/Object -/
def k0 : Class := { plain "java/lang/Object" none with
  accessFlags := 33
  interfaces := #[]
  cf := some (fileOf pool0 8 #[] #[{ accessFlags := 1, nameIndex := 5, descriptorIndex := 6, attributes := #[] }] 33 0 #[] #[])
  fields := #[]
  methods := #[k0m0]
  instanceTypes := #[]
  staticTypes := #[]
  resolved := Array.replicate 124 none
  statics := none }

def pool1 : Array CpInfo := pool [(2, .class_ 4), (0, .nameAndType 5 6), (0, u "java/lang/Object"), (0, u "<init>"), (0, u "()V"), (0, .integer 2147483647), (0, .integer 268435455), (0, .methodref 10 11), (0, .class_ 12), (0, .nameAndType 13 14), (0, u "com/example/robust_broker/robustbroker/PostingsAddPinLaw"), (0, u "freq"), (0, u "(I)I"), (0, .long 2147483647), (1, .class_ 18), (0, u "com/example/robust_broker/robustbroker/Postings"), (0, .methodref 17 3), (0, .methodref 17 21), (0, .nameAndType 22 23), (0, u "add"), (0, u "(II)V"), (0, .methodref 17 25), (0, .nameAndType 26 27), (0, u "size"), (0, u "()I"), (0, .methodref 17 29), (0, .nameAndType 30 31), (0, u "collectionFrequency"), (0, u "()J"), (0, .methodref 17 33), (0, .nameAndType 34 14), (0, u "document"), (0, .methodref 17 36), (0, .nameAndType 37 14), (0, u "frequency"), (3, u "law"), (0, u "(IIIIIJ)Z")] 4

def k1m0 : Method := { name := "<init>", desc := "()V", sig := { parameters := [], returnType := none }, accessFlags := 1, code := none }
def k1c1 : Code := { maxStack := 2, maxLocals := 2, code := method_2_code, exceptionTable := #[], attributes := #[] }
def k1m1 : Method := { name := "freq", desc := "(I)I", sig := { parameters := [.int], returnType := some .int }, accessFlags := 10, code := some k1c1 }
def k1c2 : Code := { maxStack := 6, maxLocals := 14, code := code, exceptionTable := #[], attributes := #[] }
def k1m2 : Method := { name := "law", desc := "(IIIIIJ)Z", sig := { parameters := [.int, .int, .int, .int, .int, .long], returnType := some .boolean }, accessFlags := 9, code := some k1c2 }
/-- com/example/robust_broker/robustbroker/PostingsAddPinLaw -/
def k1 : Class := { plain "com/example/robust_broker/robustbroker/PostingsAddPinLaw" (some 0) with
  accessFlags := 49
  interfaces := #[]
  cf := some (fileOf pool1 10 #[] #[{ accessFlags := 1, nameIndex := 5, descriptorIndex := 6, attributes := #[] }, { accessFlags := 10, nameIndex := 13, descriptorIndex := 14, attributes := #[] }, { accessFlags := 9, nameIndex := 41, descriptorIndex := 42, attributes := #[] }] 49 2 #[] #[])
  fields := #[]
  methods := #[k1m0, k1m1, k1m2]
  instanceTypes := #[]
  staticTypes := #[]
  resolved := Array.replicate 47 none
  statics := none }

def pool2 : Array CpInfo := pool [(1, .methodref 2 3), (0, .class_ 4), (0, .nameAndType 5 6), (0, u "java/lang/Object"), (0, u "<init>"), (0, u "()V"), (0, .fieldref 8 9), (0, .class_ 10), (0, .nameAndType 11 12), (0, u "com/example/robust_broker/robustbroker/Postings"), (0, u "documents"), (0, u "[I"), (0, .fieldref 8 14), (0, .nameAndType 15 12), (0, u "frequencies"), (0, .fieldref 8 17), (0, .nameAndType 18 19), (0, u "size"), (0, u "I"), (0, .methodref 21 22), (0, .class_ 23), (0, .nameAndType 24 25), (0, u "java/util/Arrays"), (0, u "copyOf"), (0, u "([II)[I"), (0, .fieldref 8 27), (0, .nameAndType 28 29), (0, u "collectionFrequency"), (0, u "J"), (2, u "add"), (0, u "(II)V"), (2, u "()I"), (0, u "document"), (0, u "(I)I"), (0, u "frequency"), (0, u "()J")] 2

def k2c0 : Code := { maxStack := 2, maxLocals := 1, code := prog_26_method_1_code, exceptionTable := #[], attributes := #[] }
def k2m0 : Method := { name := "<init>", desc := "()V", sig := { parameters := [], returnType := none }, accessFlags := 0, code := some k2c0 }
def k2c1 : Code := { maxStack := 5, maxLocals := 3, code := prog_26_method_2_code, exceptionTable := #[], attributes := #[] }
def k2m1 : Method := { name := "add", desc := "(II)V", sig := { parameters := [.int, .int], returnType := none }, accessFlags := 0, code := some k2c1 }
def k2c2 : Code := { maxStack := 1, maxLocals := 1, code := prog_26_method_4_code, exceptionTable := #[], attributes := #[] }
def k2m2 : Method := { name := "size", desc := "()I", sig := { parameters := [], returnType := some .int }, accessFlags := 1, code := some k2c2 }
def k2c3 : Code := { maxStack := 2, maxLocals := 2, code := prog_26_method_5_code, exceptionTable := #[], attributes := #[] }
def k2m3 : Method := { name := "document", desc := "(I)I", sig := { parameters := [.int], returnType := some .int }, accessFlags := 1, code := some k2c3 }
def k2c4 : Code := { maxStack := 2, maxLocals := 2, code := prog_26_method_6_code, exceptionTable := #[], attributes := #[] }
def k2m4 : Method := { name := "frequency", desc := "(I)I", sig := { parameters := [.int], returnType := some .int }, accessFlags := 1, code := some k2c4 }
def k2c5 : Code := { maxStack := 2, maxLocals := 1, code := prog_26_method_7_code, exceptionTable := #[], attributes := #[] }
def k2m5 : Method := { name := "collectionFrequency", desc := "()J", sig := { parameters := [], returnType := some .long }, accessFlags := 1, code := some k2c5 }
/-- com/example/robust_broker/robustbroker/Postings -/
def k2 : Class := { plain "com/example/robust_broker/robustbroker/Postings" (some 0) with
  accessFlags := 33
  interfaces := #[]
  cf := some (fileOf pool2 8 #[] #[{ accessFlags := 0, nameIndex := 5, descriptorIndex := 6, attributes := #[] }, { accessFlags := 0, nameIndex := 32, descriptorIndex := 33, attributes := #[] }, { accessFlags := 1, nameIndex := 18, descriptorIndex := 36, attributes := #[] }, { accessFlags := 1, nameIndex := 37, descriptorIndex := 38, attributes := #[] }, { accessFlags := 1, nameIndex := 39, descriptorIndex := 38, attributes := #[] }, { accessFlags := 1, nameIndex := 28, descriptorIndex := 40, attributes := #[] }] 33 2 #[] #[{ accessFlags := 2, nameIndex := 11, descriptorIndex := 12, attributes := #[] }, { accessFlags := 2, nameIndex := 15, descriptorIndex := 12, attributes := #[] }, { accessFlags := 2, nameIndex := 18, descriptorIndex := 19, attributes := #[] }, { accessFlags := 2, nameIndex := 28, descriptorIndex := 29, attributes := #[] }])
  fields := #[{ name := "documents", type := (.array .int), accessFlags := 2, slot := 0, constantValue := 0 }, { name := "frequencies", type := (.array .int), accessFlags := 2, slot := 1, constantValue := 0 }, { name := "size", type := .int, accessFlags := 2, slot := 2, constantValue := 0 }, { name := "collectionFrequency", type := .long, accessFlags := 2, slot := 3, constantValue := 0 }]
  methods := #[k2m0, k2m1, k2m2, k2m3, k2m4, k2m5]
  instanceTypes := #[(.array .int), (.array .int), .int, .long]
  staticTypes := #[]
  resolved := Array.replicate 43 none
  statics := none }

def pool3 : Array CpInfo := pool [(2, .class_ 4), (1, u "java/lang/Object"), (0, u "<init>"), (0, u "()V"), (7, .class_ 16), (1, u "java/util/Arrays"), (57, .class_ 76), (1, u "java/util/Arrays$NaturalOrder"), (36, .class_ 115), (1, u "java/util/Arrays$LegacyMergeSort"), (1, u "Z"), (32, .methodref 151 152), (0, .class_ 153), (0, .nameAndType 154 155), (0, u "java/lang/System"), (0, u "arraycopy"), (0, u "(Ljava/lang/Object;ILjava/lang/Object;II)V"), (146, u "copyOf"), (1, .methodref 305 306), (0, .class_ 307), (0, .nameAndType 308 309), (0, u "java/lang/Math"), (0, u "min"), (0, u "(II)I"), (65, .class_ 376), (0, u "java/util/Arrays$ArrayList"), (68, u "$assertionsDisabled"), (269, u "MIN_ARRAY_SORT_GRAN"), (0, u "I"), (2, u "INSERTIONSORT_THRESHOLD"), (151, u "([II)[I"), (103, .class_ 976), (0, u "java/util/Arrays$ArrayItr")] 52

def k3m0 : Method := { name := "<init>", desc := "()V", sig := { parameters := [], returnType := none }, accessFlags := 2, code := none }
def k3c1 : Code := { maxStack := 6, maxLocals := 3, code := jdk_65_method_123_code, exceptionTable := #[], attributes := #[] }
def k3m1 : Method := { name := "copyOf", desc := "([II)[I", sig := { parameters := [(.array .int), .int], returnType := some (.array .int) }, accessFlags := 9, code := some k3c1 }
/-- java/util/Arrays -/
def k3 : Class := { plain "java/util/Arrays" (some 0) with
  accessFlags := 49
  interfaces := #[]
  cf := some (fileOf pool3 14 #[.nestMembers #[975, 375, 113, 74]] #[{ accessFlags := 2, nameIndex := 5, descriptorIndex := 6, attributes := #[] }, { accessFlags := 9, nameIndex := 302, descriptorIndex := 871, attributes := #[] }] 49 2 #[] #[{ accessFlags := 26, nameIndex := 715, descriptorIndex := 716, attributes := #[] }, { accessFlags := 26, nameIndex := 719, descriptorIndex := 716, attributes := #[] }, { accessFlags := 4120, nameIndex := 445, descriptorIndex := 117, attributes := #[] }])
  fields := #[{ name := "MIN_ARRAY_SORT_GRAN", type := .int, accessFlags := 26, slot := 0, constantValue := 0 }, { name := "INSERTIONSORT_THRESHOLD", type := .int, accessFlags := 26, slot := 1, constantValue := 0 }, { name := "$assertionsDisabled", type := .boolean, accessFlags := 4120, slot := 2, constantValue := 0 }]
  methods := #[k3m0, k3m1]
  instanceTypes := #[]
  staticTypes := #[.int, .int, .boolean]
  resolved := Array.replicate 1029 none
  statics := none }

def pool4 : Array CpInfo := pool [(1, .class_ 2), (0, u "java/lang/Math"), (1, .class_ 6), (1, u "java/lang/Object"), (0, u "<init>"), (0, u "()V"), (89, .class_ 100), (1, u "java/lang/Math$RandomNumberGeneratorHolder"), (71, u "negativeZeroFloatBits"), (0, u "J"), (2, u "negativeZeroDoubleBits"), (24, u "min"), (43, u "$assertionsDisabled"), (0, u "Z"), (88, u "(II)I"), (2, u "twoToTheDoubleScaleDown"), (0, u "D"), (4, u "twoToTheDoubleScaleUp"), (9, u "E"), (3, u "PI"), (2, u "TAU"), (2, u "DEGREES_TO_RADIANS"), (0, u "RADIANS_TO_DEGREES")] 94

def k4m0 : Method := { name := "<init>", desc := "()V", sig := { parameters := [], returnType := none }, accessFlags := 2, code := none }
def k4c1 : Code := { maxStack := 2, maxLocals := 2, code := jdk_29_method_69_code, exceptionTable := #[], attributes := #[] }
def k4m1 : Method := { name := "min", desc := "(II)I", sig := { parameters := [.int, .int], returnType := some .int }, accessFlags := 9, code := some k4c1 }
/-- java/lang/Math -/
def k4 : Class := { plain "java/lang/Math" (some 0) with
  accessFlags := 49
  interfaces := #[]
  cf := some (fileOf pool4 1 #[.nestMembers #[98]] #[{ accessFlags := 2, nameIndex := 7, descriptorIndex := 8, attributes := #[] }, { accessFlags := 9, nameIndex := 201, descriptorIndex := 335, attributes := #[] }] 49 4 #[] #[{ accessFlags := 25, nameIndex := 354, descriptorIndex := 339, attributes := #[] }, { accessFlags := 25, nameIndex := 358, descriptorIndex := 339, attributes := #[] }, { accessFlags := 25, nameIndex := 361, descriptorIndex := 339, attributes := #[] }, { accessFlags := 26, nameIndex := 364, descriptorIndex := 339, attributes := #[] }, { accessFlags := 26, nameIndex := 365, descriptorIndex := 339, attributes := #[] }, { accessFlags := 26, nameIndex := 172, descriptorIndex := 173, attributes := #[] }, { accessFlags := 26, nameIndex := 176, descriptorIndex := 173, attributes := #[] }, { accessFlags := 8, nameIndex := 344, descriptorIndex := 339, attributes := #[] }, { accessFlags := 8, nameIndex := 338, descriptorIndex := 339, attributes := #[] }, { accessFlags := 4120, nameIndex := 245, descriptorIndex := 246, attributes := #[] }])
  fields := #[{ name := "E", type := .double, accessFlags := 25, slot := 0, constantValue := 0 }, { name := "PI", type := .double, accessFlags := 25, slot := 1, constantValue := 0 }, { name := "TAU", type := .double, accessFlags := 25, slot := 2, constantValue := 0 }, { name := "DEGREES_TO_RADIANS", type := .double, accessFlags := 26, slot := 3, constantValue := 0 }, { name := "RADIANS_TO_DEGREES", type := .double, accessFlags := 26, slot := 4, constantValue := 0 }, { name := "negativeZeroFloatBits", type := .long, accessFlags := 26, slot := 5, constantValue := 0 }, { name := "negativeZeroDoubleBits", type := .long, accessFlags := 26, slot := 6, constantValue := 0 }, { name := "twoToTheDoubleScaleUp", type := .double, accessFlags := 8, slot := 7, constantValue := 0 }, { name := "twoToTheDoubleScaleDown", type := .double, accessFlags := 8, slot := 8, constantValue := 0 }, { name := "$assertionsDisabled", type := .boolean, accessFlags := 4120, slot := 9, constantValue := 0 }]
  methods := #[k4m0, k4m1]
  instanceTypes := #[]
  staticTypes := #[.double, .double, .double, .double, .double, .long, .long, .double, .double, .boolean]
  resolved := Array.replicate 460 none
  statics := none }

def pool5 : Array CpInfo := pool [(2, .class_ 4), (1, u "java/lang/Object"), (0, u "<init>"), (0, u "()V"), (1, .class_ 10), (1, u "java/lang/System"), (0, u "allowSecurityManager"), (0, u "I"), (16, u "cons"), (0, u "Ljava/io/Console;"), (77, .class_ 110), (1, u "java/lang/System$CallersHolder"), (43, u "initialErrStream"), (0, u "Ljava/io/PrintStream;"), (19, u "security"), (0, u "Ljava/lang/SecurityManager;"), (31, .class_ 209), (0, u "java/lang/System$1"), (7, u "props"), (0, u "Ljava/util/Properties;"), (2, u "lineSeparator"), (0, u "Ljava/lang/String;"), (96, .class_ 321), (1, u "java/lang/System$LoggerFinder"), (5, .class_ 328), (0, u "java/lang/System$Logger"), (67, u "err"), (2, u "out"), (91, u "notSupportedJnuEncoding"), (15, u "in"), (17, u "initialIn"), (0, u "Ljava/io/InputStream;"), (35, u "bootLayer"), (0, u "Ljava/lang/ModuleLayer;"), (99, .class_ 664), (0, u "java/lang/System$2"), (9, u "NEVER"), (2, u "MAYBE"), (49, u "arraycopy"), (0, u "(Ljava/lang/Object;ILjava/lang/Object;II)V"), (72, .class_ 802), (0, u "java/lang/System$Logger$Level")] 31

def k5m0 : Method := { name := "<init>", desc := "()V", sig := { parameters := [], returnType := none }, accessFlags := 2, code := none }
def k5m1 : Method := { name := "arraycopy", desc := "(Ljava/lang/Object;ILjava/lang/Object;II)V", sig := { parameters := [(.object "java/lang/Object"), .int, (.object "java/lang/Object"), .int, .int], returnType := none }, accessFlags := 265, code := none }
/-- java/lang/System -/
def k5 : Class := { plain "java/lang/System" (some 0) with
  accessFlags := 49
  interfaces := #[]
  cf := some (fileOf pool5 8 #[.nestMembers #[319, 327, 801, 108, 663, 208]] #[{ accessFlags := 2, nameIndex := 5, descriptorIndex := 6, attributes := #[] }, { accessFlags := 265, nameIndex := 727, descriptorIndex := 728, attributes := #[] }] 49 2 #[] #[{ accessFlags := 25, nameIndex := 507, descriptorIndex := 526, attributes := #[] }, { accessFlags := 25, nameIndex := 399, descriptorIndex := 155, attributes := #[] }, { accessFlags := 25, nameIndex := 396, descriptorIndex := 155, attributes := #[] }, { accessFlags := 10, nameIndex := 525, descriptorIndex := 526, attributes := #[] }, { accessFlags := 26, nameIndex := 674, descriptorIndex := 12, attributes := #[] }, { accessFlags := 26, nameIndex := 677, descriptorIndex := 12, attributes := #[] }, { accessFlags := 10, nameIndex := 11, descriptorIndex := 12, attributes := #[] }, { accessFlags := 74, nameIndex := 175, descriptorIndex := 176, attributes := #[] }, { accessFlags := 10, nameIndex := 491, descriptorIndex := 222, attributes := #[] }, { accessFlags := 74, nameIndex := 29, descriptorIndex := 30, attributes := #[] }, { accessFlags := 74, nameIndex := 154, descriptorIndex := 155, attributes := #[] }, { accessFlags := 10, nameIndex := 217, descriptorIndex := 218, attributes := #[] }, { accessFlags := 10, nameIndex := 221, descriptorIndex := 222, attributes := #[] }, { accessFlags := 8, nameIndex := 562, descriptorIndex := 563, attributes := #[] }])
  fields := #[{ name := "in", type := (.object "java/io/InputStream"), accessFlags := 25, slot := 0, constantValue := 0 }, { name := "out", type := (.object "java/io/PrintStream"), accessFlags := 25, slot := 1, constantValue := 0 }, { name := "err", type := (.object "java/io/PrintStream"), accessFlags := 25, slot := 2, constantValue := 0 }, { name := "initialIn", type := (.object "java/io/InputStream"), accessFlags := 10, slot := 3, constantValue := 0 }, { name := "NEVER", type := .int, accessFlags := 26, slot := 4, constantValue := 0 }, { name := "MAYBE", type := .int, accessFlags := 26, slot := 5, constantValue := 0 }, { name := "allowSecurityManager", type := .int, accessFlags := 10, slot := 6, constantValue := 0 }, { name := "security", type := (.object "java/lang/SecurityManager"), accessFlags := 74, slot := 7, constantValue := 0 }, { name := "notSupportedJnuEncoding", type := (.object "java/lang/String"), accessFlags := 10, slot := 8, constantValue := 0 }, { name := "cons", type := (.object "java/io/Console"), accessFlags := 74, slot := 9, constantValue := 0 }, { name := "initialErrStream", type := (.object "java/io/PrintStream"), accessFlags := 74, slot := 10, constantValue := 0 }, { name := "props", type := (.object "java/util/Properties"), accessFlags := 10, slot := 11, constantValue := 0 }, { name := "lineSeparator", type := (.object "java/lang/String"), accessFlags := 10, slot := 12, constantValue := 0 }, { name := "bootLayer", type := (.object "java/lang/ModuleLayer"), accessFlags := 8, slot := 13, constantValue := 0 }]
  methods := #[k5m0, k5m1]
  instanceTypes := #[]
  staticTypes := #[(.object "java/io/InputStream"), (.object "java/io/PrintStream"), (.object "java/io/PrintStream"), (.object "java/io/InputStream"), .int, .int, .int, (.object "java/lang/SecurityManager"), (.object "java/lang/String"), (.object "java/io/Console"), (.object "java/io/PrintStream"), (.object "java/util/Properties"), (.object "java/lang/String"), (.object "java/lang/ModuleLayer")]
  resolved := Array.replicate 834 none
  statics := none }

def pool6 : Array CpInfo := pool [(1, u "java/lang/Cloneable"), (0, .class_ 1), (0, u "java/lang/Object"), (0, .class_ 3)] 3

/-- java/lang/Cloneable -/
def k6 : Class := { plain "java/lang/Cloneable" (some 0) with
  accessFlags := 1537
  interfaces := #[]
  cf := some (fileOf pool6 2 #[] #[] 1537 4 #[] #[])
  fields := #[]
  methods := #[]
  instanceTypes := #[]
  staticTypes := #[]
  resolved := Array.replicate 8 none
  statics := none }

def pool7 : Array CpInfo := pool [(1, u "java/io/Serializable"), (0, .class_ 1), (0, u "java/lang/Object"), (0, .class_ 3)] 3

/-- java/io/Serializable -/
def k7 : Class := { plain "java/io/Serializable" (some 0) with
  accessFlags := 1537
  interfaces := #[]
  cf := some (fileOf pool7 2 #[] #[] 1537 4 #[] #[])
  fields := #[]
  methods := #[]
  instanceTypes := #[]
  staticTypes := #[]
  resolved := Array.replicate 8 none
  statics := none }

/-- the primitive byte -/
def k8 : Class := { plain "byte" none with kind := .primitive 'B', accessFlags := 0x411 }
/-- [B -/
def k9 : Class := { plain "[B" (some 0) with kind := .array 8 .byte, interfaces := #[6, 7], accessFlags := 1041 }

/-- the primitive int -/
def k10 : Class := { plain "int" none with kind := .primitive 'I', accessFlags := 0x411 }
/-- [I -/
def k11 : Class := { plain "[I" (some 0) with kind := .array 10 .int, interfaces := #[6, 7], accessFlags := 1041 }

def heap : Heap := #[]
def classes : Array Class := #[k0, k1, k2, k3, k4, k5, k6, k7, k8, k9, k10, k11]
def interned : List (Array UInt16 × Addr) := []
def slotsUsed : Nat := 0
def theMethod : MethodId := ⟨1, 2⟩
def args0 : Array Value := #[.int 5, .int 9, .int 3, .int 3, .int 3, .long 7]
def aboutOver (below : List Frame) : State where
  vm := { classes := classes, interned := interned.toArray }
  heap := heap
  slotsUsed := slotsUsed
  threads := #[{ frames := .invoking theMethod args0 :: below }]
def below0 : List Frame := [.native { method := ⟨0, 0⟩, args := #[] }]
def about1 : State := aboutOver below0
def p0 : Program := .bare "" "" ""
def e0 : Env := launch0.env 0 0 0
theorem w_frames : about1.frames = Frame.invoking theMethod args0 :: below0 := rfl
set_option maxRecDepth 65536 in
theorem w_args : argsFit about1.vm theMethod args0 = true := by decide +kernel
set_option maxRecDepth 65536 in
theorem w_heap : heapFits about1 = true := by decide +kernel
set_option maxRecDepth 65536 in
theorem w_runnable : about1.curStatus? = some .runnable := by decide +kernel
set_option maxRecDepth 65536 in
theorem w_alone : about1.alone = true := by decide +kernel
set_option maxRecDepth 65536 in
theorem w_named : about1.methodNamed? x = some theMethod := by decide +kernel
set_option maxRecDepth 65536 in
theorem w_hears : about1.hears theMethod below0 = true := by decide +kernel
set_option maxRecDepth 65536 in
theorem w_ripe : about1.ripe theMethod args0 below0 = true := by decide +kernel
theorem w_running : about1.status = .running := rfl
set_option maxRecDepth 65536 in
theorem w_room : about1.hasRoom e0.platform room_1 = true :=
  launch0.hasRoom_least _ room_1 (by decide +kernel) (by decide +kernel) (by decide +kernel) (by decide +kernel) (by decide +kernel) (by decide +kernel)
theorem allAtoms_all (ts : List Jvm.Cond) (a : Array Jvm.Value) (st : Jvm.State) : (allAtoms ts).before a st = ts.all (fun c => c.before a st) := by
  induction ts with
  | nil => rfl
  | cons c t ih =>
    show (Jvm.Cond.and c (allAtoms t)).before a st = _
    rw [Jvm.Cond.before_and, ih, List.all_cons]
def words1 : List Jvm.Cond := Jvm.Cond.code x code maxLocals ret :: tables_1
/-- a 'code' word, met by the world's own term for the bytes: nothing is compared byte by byte -/
theorem code_word {y : MethodName} {bytes : ByteArray} {mx : Nat} {rt : Option FieldType} {a : Array Value} {s : State} {m : MethodId} {meth : Method} {c : Code} (h1 : s.methodNamed? y = some m) (h2 : s.vm.method? m = some meth) (h3 : meth.code = some c) (h4 : c.code = bytes)
    (h5 : (c.maxLocals == mx && c.exceptionTable.isEmpty && decide (c.maxStack ≤ mostOperands) && decide (meth.sig.returnType = rt) && !meth.locks && decide (parseMethodDescriptor y.desc = some meth.sig)) = true) : (Jvm.Cond.code y bytes mx rt).before a s = true := by
  simp only [Bool.and_eq_true, beq_iff_eq, Bool.not_eq_true', decide_eq_true_eq] at h5
  obtain ⟨⟨⟨⟨⟨g1, g2⟩, g3⟩, g4⟩, g5⟩, g6⟩ := h5
  simp [Cond.before, Cond.holds, Cond.value, h1, h2, h3, h4, g1, g2, g3, g4, g5, g6]
def isCode : Jvm.Cond → Bool
  | .code _ _ _ _ => true
  | _ => false
theorem all_split {L : List Jvm.Cond} {P : Jvm.Cond → Bool} (h1 : L.all (fun c => isCode c || P c) = true) (h2 : ∀ c ∈ L.filter isCode, P c = true) : L.all P = true := by
  refine List.all_eq_true.mpr fun c hc => ?_
  have h := List.all_eq_true.mp h1 c hc
  rcases Bool.eq_false_or_eq_true (isCode c) with hi | hi
  · exact h2 c (List.mem_filter.mpr ⟨hc, hi⟩)
  · simpa [hi] using h
set_option maxRecDepth 65536 in
theorem w_c0 : (Jvm.Cond.code x code maxLocals ret).before args0 about1 = true := code_word (m := ⟨1, 2⟩) (meth := k1m2) (c := k1c2) (by decide +kernel) rfl rfl rfl (by decide +kernel)
set_option maxRecDepth 65536 in
theorem w_c1 : (Jvm.Cond.code ({ cls := "com/example/robust_broker/robustbroker/PostingsAddPinLaw", name := "freq", desc := "(I)I" } : Jvm.MethodName) method_2_code (2 : Nat) (Option.some Jvm.ClassFile.FieldType.int)).before args0 about1 = true := code_word (m := ⟨1, 1⟩) (meth := k1m1) (c := k1c1) (by decide +kernel) rfl rfl rfl (by decide +kernel)
set_option maxRecDepth 65536 in
theorem w_c2 : (Jvm.Cond.code ({ cls := "com/example/robust_broker/robustbroker/Postings", name := "<init>", desc := "()V" } : Jvm.MethodName) prog_26_method_1_code (1 : Nat) (Option.none : Option Jvm.ClassFile.FieldType)).before args0 about1 = true := code_word (m := ⟨2, 0⟩) (meth := k2m0) (c := k2c0) (by decide +kernel) rfl rfl rfl (by decide +kernel)
set_option maxRecDepth 65536 in
theorem w_c3 : (Jvm.Cond.code ({ cls := "java/lang/Object", name := "<init>", desc := "()V" } : Jvm.MethodName) object_method_1_code (1 : Nat) (Option.none : Option Jvm.ClassFile.FieldType)).before args0 about1 = true := code_word (m := ⟨0, 0⟩) (meth := k0m0) (c := k0c0) (by decide +kernel) rfl rfl rfl (by decide +kernel)
set_option maxRecDepth 65536 in
theorem w_c4 : (Jvm.Cond.code ({ cls := "com/example/robust_broker/robustbroker/Postings", name := "size", desc := "()I" } : Jvm.MethodName) prog_26_method_4_code (1 : Nat) (Option.some Jvm.ClassFile.FieldType.int)).before args0 about1 = true := code_word (m := ⟨2, 2⟩) (meth := k2m2) (c := k2c2) (by decide +kernel) rfl rfl rfl (by decide +kernel)
set_option maxRecDepth 65536 in
theorem w_c5 : (Jvm.Cond.code ({ cls := "com/example/robust_broker/robustbroker/Postings", name := "collectionFrequency", desc := "()J" } : Jvm.MethodName) prog_26_method_7_code (1 : Nat) (Option.some Jvm.ClassFile.FieldType.long)).before args0 about1 = true := code_word (m := ⟨2, 5⟩) (meth := k2m5) (c := k2c5) (by decide +kernel) rfl rfl rfl (by decide +kernel)
set_option maxRecDepth 65536 in
theorem w_c6 : (Jvm.Cond.code ({ cls := "com/example/robust_broker/robustbroker/Postings", name := "add", desc := "(II)V" } : Jvm.MethodName) prog_26_method_2_code (3 : Nat) (Option.none : Option Jvm.ClassFile.FieldType)).before args0 about1 = true := code_word (m := ⟨2, 1⟩) (meth := k2m1) (c := k2c1) (by decide +kernel) rfl rfl rfl (by decide +kernel)
set_option maxRecDepth 65536 in
theorem w_c7 : (Jvm.Cond.code ({ cls := "java/util/Arrays", name := "copyOf", desc := "([II)[I" } : Jvm.MethodName) jdk_65_method_123_code (3 : Nat) (Option.some (Jvm.ClassFile.FieldType.array Jvm.ClassFile.FieldType.int))).before args0 about1 = true := code_word (m := ⟨3, 1⟩) (meth := k3m1) (c := k3c1) (by decide +kernel) rfl rfl rfl (by decide +kernel)
set_option maxRecDepth 65536 in
theorem w_c8 : (Jvm.Cond.code ({ cls := "java/lang/Math", name := "min", desc := "(II)I" } : Jvm.MethodName) jdk_29_method_69_code (2 : Nat) (Option.some Jvm.ClassFile.FieldType.int)).before args0 about1 = true := code_word (m := ⟨4, 1⟩) (meth := k4m1) (c := k4c1) (by decide +kernel) rfl rfl rfl (by decide +kernel)
set_option maxRecDepth 65536 in
theorem w_c9 : (Jvm.Cond.code ({ cls := "com/example/robust_broker/robustbroker/Postings", name := "document", desc := "(I)I" } : Jvm.MethodName) prog_26_method_5_code (2 : Nat) (Option.some Jvm.ClassFile.FieldType.int)).before args0 about1 = true := code_word (m := ⟨2, 3⟩) (meth := k2m3) (c := k2c3) (by decide +kernel) rfl rfl rfl (by decide +kernel)
set_option maxRecDepth 65536 in
theorem w_c10 : (Jvm.Cond.code ({ cls := "com/example/robust_broker/robustbroker/Postings", name := "frequency", desc := "(I)I" } : Jvm.MethodName) prog_26_method_6_code (2 : Nat) (Option.some Jvm.ClassFile.FieldType.int)).before args0 about1 = true := code_word (m := ⟨2, 4⟩) (meth := k2m4) (c := k2c4) (by decide +kernel) rfl rfl rfl (by decide +kernel)
def codes1 : List Jvm.Cond := [Jvm.Cond.code x code maxLocals ret, Jvm.Cond.code ({ cls := "com/example/robust_broker/robustbroker/PostingsAddPinLaw", name := "freq", desc := "(I)I" } : Jvm.MethodName) method_2_code (2 : Nat) (Option.some Jvm.ClassFile.FieldType.int), Jvm.Cond.code ({ cls := "com/example/robust_broker/robustbroker/Postings", name := "<init>", desc := "()V" } : Jvm.MethodName) prog_26_method_1_code (1 : Nat) (Option.none : Option Jvm.ClassFile.FieldType), Jvm.Cond.code ({ cls := "java/lang/Object", name := "<init>", desc := "()V" } : Jvm.MethodName) object_method_1_code (1 : Nat) (Option.none : Option Jvm.ClassFile.FieldType), Jvm.Cond.code ({ cls := "com/example/robust_broker/robustbroker/Postings", name := "size", desc := "()I" } : Jvm.MethodName) prog_26_method_4_code (1 : Nat) (Option.some Jvm.ClassFile.FieldType.int), Jvm.Cond.code ({ cls := "com/example/robust_broker/robustbroker/Postings", name := "collectionFrequency", desc := "()J" } : Jvm.MethodName) prog_26_method_7_code (1 : Nat) (Option.some Jvm.ClassFile.FieldType.long), Jvm.Cond.code ({ cls := "com/example/robust_broker/robustbroker/Postings", name := "add", desc := "(II)V" } : Jvm.MethodName) prog_26_method_2_code (3 : Nat) (Option.none : Option Jvm.ClassFile.FieldType), Jvm.Cond.code ({ cls := "java/util/Arrays", name := "copyOf", desc := "([II)[I" } : Jvm.MethodName) jdk_65_method_123_code (3 : Nat) (Option.some (Jvm.ClassFile.FieldType.array Jvm.ClassFile.FieldType.int)), Jvm.Cond.code ({ cls := "java/lang/Math", name := "min", desc := "(II)I" } : Jvm.MethodName) jdk_29_method_69_code (2 : Nat) (Option.some Jvm.ClassFile.FieldType.int), Jvm.Cond.code ({ cls := "com/example/robust_broker/robustbroker/Postings", name := "document", desc := "(I)I" } : Jvm.MethodName) prog_26_method_5_code (2 : Nat) (Option.some Jvm.ClassFile.FieldType.int), Jvm.Cond.code ({ cls := "com/example/robust_broker/robustbroker/Postings", name := "frequency", desc := "(I)I" } : Jvm.MethodName) prog_26_method_6_code (2 : Nat) (Option.some Jvm.ClassFile.FieldType.int)]
set_option maxRecDepth 65536 in
theorem codes_eq : words1.filter isCode = codes1 := rfl
theorem w_codes : ∀ c ∈ words1.filter isCode, c.before args0 about1 = true := by
  rw [codes_eq]
  intro c hc
  simp only [codes1, List.mem_cons, List.not_mem_nil, or_false] at hc
  rcases hc with rfl | rfl | rfl | rfl | rfl | rfl | rfl | rfl | rfl | rfl | rfl
  · exact w_c0
  · exact w_c1
  · exact w_c2
  · exact w_c3
  · exact w_c4
  · exact w_c5
  · exact w_c6
  · exact w_c7
  · exact w_c8
  · exact w_c9
  · exact w_c10
set_option maxRecDepth 65536 in
theorem w_t1 : (words1.take 24).all (fun c => isCode c || c.before args0 about1) = true := by decide +kernel
set_option maxRecDepth 65536 in
theorem w_t2 : ((words1.drop 24).take 24).all (fun c => isCode c || c.before args0 about1) = true := by decide +kernel
set_option maxRecDepth 65536 in
theorem w_t3 : ((words1.drop 24).drop 24).all (fun c => isCode c || c.before args0 about1) = true := by decide +kernel
theorem w_tables : (allAtoms (Jvm.Cond.code x code maxLocals ret :: tables_1)).before args0 about1 = true := by
  rw [allAtoms_all]
  show words1.all (fun c => c.before args0 about1) = true
  refine all_split ?_ w_codes
  rw [← List.take_append_drop 24 words1, List.all_append, w_t1, ← List.take_append_drop 24 (words1.drop 24), List.all_append, w_t2, w_t3]
  rfl
set_option maxRecDepth 65536 in
theorem w_case : (Jvm.Cond.and given_1 narrow_1).before args0 about1 = true := by decide +kernel
theorem w_applies : (headSpec (Jvm.Cond.code x code maxLocals ret :: tables_1) room_1).applies x e0.platform about1 = true :=
  (Spec.applies_iff w_frames).mpr ⟨w_running, w_runnable, w_alone, w_named, w_hears, w_ripe, w_room, w_tables⟩
theorem atStart : AtStart classFile x code maxLocals ret World_1 tables_1 room_1 Calls_1 rest_1 Pre_1 launch0 p0 e0 about1 theMethod args0 below0 :=
  ⟨lists_1, trivial, launch0.admits_env _ _ _, launch0.least_env, fairChoices_fair.cas, fairChoices_fair.clock, w_frames, w_args, w_heap, w_applies, trivial, trivial, w_case⟩
end start1
theorem witness_1 : WitnessClaimed_1 := ⟨start1.p0, start1.e0, start1.about1, start1.theMethod, start1.args0, start1.below0, start1.atStart⟩
end Jvm.Pilot.@@N@@
